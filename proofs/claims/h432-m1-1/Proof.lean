import JvmDerived
import JvmDerived.Pilot.@@N@@Statement
import JvmDerived.Pilot.@@N@@Code
set_option linter.unusedVariables false
set_option linter.unusedSimpArgs false
namespace Jvm.RoadKit
open Sem ClassFile Op Lib Jvm.Stand Jvm.Free Jvm.LawKit
section New
variable {p : Program} {l : Launch} {e : Env} {R : Room} {s : State} {m : MethodId} {args : Array Value} {below : List Frame} {meth : Method} {c : Code} {T : State} {locs : List Loc} {cells slots : Nat}
theorem retI (X : Stand p l e R s m args below meth c T locs cells slots) (hx : p.tables.exec = Jvm.exec) {pc : Nat} {Ls : Array Slot} {z : Int32} {rest : List Value} (hret : meth.sig.returnType = some .int) (hd : decode c.code pc = .ok (.ireturn, 1)) {fs : List Frame}
    (hl : ∀ (f : JFrame) (acts : List Action), f.method = m → f.locked = none → f.entered = [] → (doReturn e (T.setTop f) acts (some (.int z))).1 = T.setFrames fs) : Steps p.tables e below (T.setTop (mkF m pc Ls (.int z :: rest))) (T.setFrames fs) :=
  retOut X hx hret rfl (Or.inl ⟨rfl, Or.inl rfl, _, rfl⟩) hd hl
end New
end Jvm.RoadKit
namespace Jvm.Pilot.@@N@@
open Jvm Jvm.ClassFile Sem Op Lib Jvm.Free Jvm.Stand Jvm.LawKit Jvm.RoadKit Bundle Jvm.Pilot.@@N@@.Jvm.D
theorem own_nsroot {Z : State} {b0 : Array Value} {O K : String} {k : Nat} (w : (Jvm.Cond.noSuperclass O).before b0 Z = true) (wi : (Jvm.Cond.instantiable K k).before b0 Z = true) (hne : O ≠ K) : NS Z O K := by
  obtain ⟨c, kc, c1, c2, c3, -⟩ := Cond.noSuperclass_spec w
  obtain ⟨t, kt, t1, -⟩ := Cond.instantiable_spec wi
  exact ⟨c, t, c1, t1, fun fuel => by cases fuel <;> simp [Vm.isSubclassAux, ids_ne c1 t1 hne, c2, c3]⟩
theorem own_nsno {Z : State} {b0 : Array Value} {C S K : String} {k : Nat} (w : (Jvm.Cond.superclass C S).before b0 Z = true) (wi : (Jvm.Cond.instantiable K k).before b0 Z = true) (nn : NS Z C K) (hne : C ≠ K) : ∃ c t, Z.vm.findClass C = some c ∧ Z.vm.findClass K = some t ∧ Z.vm.assignable c t = false := by
  obtain ⟨c, t, c1, t1, far⟩ := nn
  obtain ⟨_, kc, _, -, k2, -, -, k5, -, -⟩ := Cond.superclass_spec c1 w
  obtain ⟨t', kt, t1', t2, t3, t4, -⟩ := Cond.instantiable_spec wi
  obtain rfl : t = t' := Option.some.inj (t1.symm.trans t1')
  have t5 : kt.isInterface = false := (Bool.or_eq_false_iff.mp t4).1
  refine ⟨c, t, c1, t1, ?_⟩
  show Z.vm.assignableAux (255 + 1) c t = false
  simp [Vm.assignableAux, ids_ne c1 t1 hne, k2, t2, k5, t3, t5, Vm.isSubclass, far]
theorem own_mvM {Z s : State} {b0 args : Array Value} {own host : String} {index : Nat} {y : MethodName} (hZ : Z.Warmed39 s.vm) (w : (Jvm.Cond.methodLinkNest own index y host).before b0 Z = true) : (Jvm.Cond.methodLinkNest own index y host).before args s = true := (Cond.methodLinkNest_wide hZ w :)
def w1_r1 (p0 : Int32) : Int32 := (if (255 : Int32) < p0 then (0 : Int32) else (1 : Int32))
def w7_r1 (x0 : Int32) (x1 : Int32) (y0 : Int32) (y1 : Int32) : Int32 := (if x0 = y0 then (if x1 = y1 then (1 : Int32) else (0 : Int32)) else (0 : Int32))
def w0_m1 (p5 : Int32) : Int32 := (if (p5 &&& (1 : Int32)) = (0 : Int32) then (0 : Int32) else (1 : Int32))
def w0_m2 (p5 : Int32) : Int32 := (if (p5 &&& (2 : Int32)) = (0 : Int32) then (0 : Int32) else (1 : Int32))
def w0_m3 (p0 : Int32) (p2 : Int32) (p5 : Int32) : Int32 := (if (w0_m1 p5) = (0 : Int32) then p2 else p0)
def w0_m4 (p1 : Int32) (p3 : Int32) (p5 : Int32) : Int32 := (if (w0_m2 p5) = (0 : Int32) then p3 else p1)
def w0_5 (p4 : Int32) : Int32 := ((p4 &&& (255 : Int32)).toUInt32.toUInt16.toUInt32.toInt32)
def w0_6 (p4 : Int32) : Int32 := ((((p4.toUInt32 >>> ((8 : Int32) &&& 31).toUInt32).toInt32) &&& (255 : Int32)).toUInt32.toUInt16.toUInt32.toInt32)
def w0_m7 (p0 : Int32) (p1 : Int32) (p2 : Int32) (p3 : Int32) (p5 : Int32) : Int32 := (if p0 = (w0_m3 p0 p2 p5) then (if p1 = (w0_m4 p1 p3 p5) then (1 : Int32) else (0 : Int32)) else (0 : Int32))
def w0_8 (p0 : Int32) (p1 : Int32) (p2 : Int32) (p3 : Int32) (p5 : Int32) : Int32 := (w7_r1 p0 p1 (w0_m3 p0 p2 p5) (w0_m4 p1 p3 p5))
def w0_9 (p0 : Int32) (p1 : Int32) (p2 : Int32) (p3 : Int32) (p5 : Int32) : Int32 := (w7_r1 (w0_m3 p0 p2 p5) (w0_m4 p1 p3 p5) p0 p1)
def w0_r10 (p0 : Int32) (p1 : Int32) (p2 : Int32) (p3 : Int32) (p5 : Int32) : Int32 := (if (w0_8 p0 p1 p2 p3 p5) = (w0_m7 p0 p1 p2 p3 p5) then (if (w0_9 p0 p1 p2 p3 p5) = (w0_m7 p0 p1 p2 p3 p5) then (if (w7_r1 p0 p1 p0 p1) = (0 : Int32) then (0 : Int32) else (1 : Int32)) else (0 : Int32)) else (0 : Int32))
theorem own_enc (p0 : Int32) (hp : ¬ (255 : Int32) < p0) : ¬ (w1_r1 p0) = (0 : Int32) := by
  unfold w1_r1
  rw [if_neg hp]
  decide
theorem own_ch (x : Int32) : ¬ (255 : Int32) < ((x &&& (255 : Int32)).toUInt32.toUInt16.toUInt32.toInt32) := by
  rw [i2c_mask]
  have h := c_mask x 255 8 (by decide) (by decide)
  have l : (255 : Int32).toInt = 255 := rfl
  rw [Int32.lt_iff_toInt_lt, l]
  omega
theorem own_ch1 (p4 : Int32) : ¬ (255 : Int32) < (w0_5 p4) := own_ch _
theorem own_ch2 (p4 : Int32) : ¬ (255 : Int32) < (w0_6 p4) := own_ch _
theorem plain_law (p0 p1 p2 p3 p4 p5 : Int32) : w0_r10 p0 p1 p2 p3 p5 = 1 := by
  have a8 : w0_8 p0 p1 p2 p3 p5 = w0_m7 p0 p1 p2 p3 p5 := rfl
  have a9 : w0_9 p0 p1 p2 p3 p5 = w0_m7 p0 p1 p2 p3 p5 := by
    unfold w0_9 w0_m7 w7_r1
    by_cases h : p0 = w0_m3 p0 p2 p5
    · rw [if_pos h, if_pos h.symm]
      by_cases g : p1 = w0_m4 p1 p3 p5
      · rw [if_pos g, if_pos g.symm]
      · rw [if_neg g, if_neg (fun e => g e.symm)]
    · rw [if_neg h, if_neg (fun e => h e.symm)]
  have s : w7_r1 p0 p1 p0 p1 = 1 := by unfold w7_r1; rw [if_pos rfl, if_pos rfl]
  unfold w0_r10
  rw [if_pos a8, if_pos a9, s]
  decide

theorem d1_0 : decode jdk_43_method_3_code 0 = .ok (.iload_n 0, 1) := by decide +kernel
theorem d1_1 : decode jdk_43_method_3_code 1 = .ok (.sipush 255, 3) := by decide +kernel
theorem d1_4 : decode jdk_43_method_3_code 4 = .ok (.if_icmp .gt 7, 3) := by decide +kernel
theorem d1_7 : decode jdk_43_method_3_code 7 = .ok (.iconst 1, 1) := by decide +kernel
theorem d1_8 : decode jdk_43_method_3_code 8 = .ok (.goto 4, 3) := by decide +kernel
theorem d1_11 : decode jdk_43_method_3_code 11 = .ok (.iconst 0, 1) := by decide +kernel
theorem d1_12 : decode jdk_43_method_3_code 12 = .ok (.ireturn, 1) := by decide +kernel
theorem pn1 : plainName "java/lang/StringLatin1" = true := by first | (simp [plainName, overriddenIn]; done) | decide +kernel
theorem ef1 (m : MethodId) (p0 : Int32) : entryFrame m #[(.int p0)] 1 = mkF m 0 #[.val (.int p0)] [] := by first | (simp [entryFrame, mkF, argsToLocals, Value.category]; done) | rfl
def Q1 (Z : State) (p0 : Int32) (h0 : Heap) (n0 : Nat) (v : Option Value) (h : Heap) (L : List Loc) : Prop := v = some (.int (w1_r1 p0)) ∧ Fr n0 L ∧ h = h0
set_option maxRecDepth 65536 in
set_option maxHeartbeats 40000000 in
theorem rm1 (l : Launch) (Z : State) (a0 : Array Value) (hw : ∀ d ∈ tables_1, d.before a0 Z = true) (ws : List Jvm.Cond) (p0 : Int32) (h0 : Heap) (n0 : Nat) (Z0 : n0 ≤ h0.size) :
    MetFree l (⟨"java/lang/StringLatin1", "canEncode", "(C)Z"⟩ : MethodName) (head1 (Jvm.Cond.code (⟨"java/lang/StringLatin1", "canEncode", "(C)Z"⟩ : MethodName) jdk_43_method_3_code 1 (some .boolean) :: ws) ({ frames := 0, cells := 0, slots := 0, locals := 0 } : Room)) (fun a U => a = #[(.int p0)] ∧ Z.Warmed39 U.vm ∧ U.heap = h0) (fun _ _ _ _ _ => True) (fun _ U o U' => ∃ v L, o = .returned v ∧ Q1 Z p0 h0 n0 v U'.heap L ∧ FrameEnd U o U' L ({ frames := 0, cells := 0, slots := 0, locals := 0 } : Room).cells ({ frames := 0, cells := 0, slots := 0, locals := 0 } : Room).slots) := by
  refine MetFree.of_bodySF (plainFor_of_name pn1) hisR ?_
  intro p e s m args below meth c s₁ Bd hml0 hP hK
  obtain ⟨rfl, hZ, hh⟩ := hP
  have hlk : meth.locks = false := BodyLoose.notSynchronized Bd
  have hx := Bd.exec
  have hby := Bd.bytes
  have hml : c.maxLocals = 1 := hml0
  have hown : s.vm.findClass "java/lang/StringLatin1" = some m.cls := findClass_of_methodNamed Bd.named
  have hnm := (name_of_methodNamed Bd.named Bd.method).1
  have X0 : Stand p l e ({ frames := 0, cells := 0, slots := 0, locals := 0 } : Room) s m #[(.int p0)] below meth c s₁ [] 0 0 := Stand.of_body Bd
  have e0 : s₁.heap = h0 := by rw [← hh, Bd.state]; rfl
  have N0 := Fr.nil n0
  obtain ⟨S0, hS0⟩ : ∃ S0, S0 = s₁.setTop (entryFrame m #[(.int p0)] 1) := ⟨_, rfl⟩
  have pre0 : ∀ t, Steps p.tables e below (s₁.setTop (mkF m 0 #[.val (.int p0)] [])) t → Steps p.tables e below S0 t := fun t k => by rw [hS0]; exact castTop (ef1 m p0) k
  have K1 : ∀ t, Steps p.tables e below (s₁.setTop (mkF m 4 #[.val (.int p0)] [(.int (255 : Int32)), (.int p0)])) t → Steps p.tables e below S0 t := fun t k => pre0 t (by
    refine XS.iloadN X0.here hx rfl (hb hby d1_0) rfl ?_
    show Steps p.tables e below (s₁.setTop (mkF m 1 #[.val (.int p0)] [(.int p0)])) _
    refine XS.sipush X0.here hx rfl (hb hby d1_1) ?_
    show Steps p.tables e below (s₁.setTop (mkF m 4 #[.val (.int p0)] [(.int (255 : Int32)), (.int p0)])) _
    exact k)
  by_cases hc4_0 : (255 : Int32) < p0
  · -- yes
    have K2 : ∀ t, Steps p.tables e below (s₁.setTop (mkF m 12 #[.val (.int p0)] [(.int (0 : Int32))])) t → Steps p.tables e below S0 t := fun t k => K1 t (by
      refine XS.icmpYes X0.here hx rfl (pc0 := 4) (pc' := 11) rfl (hb hby d1_4) rfl (XT.ii_gt_t hc4_0) (by decide) (by decide) ?_
      show Steps p.tables e below (s₁.setTop (mkF m 11 #[.val (.int p0)] [])) _
      refine XS.iconst X0.here hx rfl (hb hby d1_11) ?_
      show Steps p.tables e below (s₁.setTop (mkF m 12 #[.val (.int p0)] [(.int (0 : Int32))])) _
      exact k)
    obtain ⟨fs, hr, hrun, hended, hW, hsame⟩ := X0.leave (v := some (.int (0 : Int32))) (fun h => by rw [Bd.returns] at h; cases h) hlk
    refine ⟨_, _, ?_, hrun, hended, _, _, rfl, ?_, ⟨_, rfl⟩, hW, hsame.mono (by decide) (by decide)⟩
    · rw [← hS0]; exact K2 _ (retN X0 hx (t := .boolean) Bd.returns (by simp) (hb hby d1_12) hr)
    · show Q1 Z p0 h0 n0 _ s₁.heap _
      rw [e0]
      have qr : (0 : Int32) = (w1_r1 p0) := by unfold w1_r1; rw [if_pos hc4_0]
      exact ⟨congrArg (fun z => some (Value.int z)) qr, N0, rfl⟩
  · -- no
    have K3 : ∀ t, Steps p.tables e below (s₁.setTop (mkF m 12 #[.val (.int p0)] [(.int (1 : Int32))])) t → Steps p.tables e below S0 t := fun t k => K1 t (by
      refine XS.icmpNo X0.here hx rfl (hb hby d1_4) rfl (XT.ii_gt_f hc4_0) ?_
      show Steps p.tables e below (s₁.setTop (mkF m 7 #[.val (.int p0)] [])) _
      refine XS.iconst X0.here hx rfl (hb hby d1_7) ?_
      show Steps p.tables e below (s₁.setTop (mkF m 8 #[.val (.int p0)] [(.int (1 : Int32))])) _
      refine XS.goto X0.here hx rfl (pc0 := 8) (pc' := 12) rfl (hb hby d1_8) (by decide) (by decide) ?_
      show Steps p.tables e below (s₁.setTop (mkF m 12 #[.val (.int p0)] [(.int (1 : Int32))])) _
      exact k)
    obtain ⟨fs, hr, hrun, hended, hW, hsame⟩ := X0.leave (v := some (.int (1 : Int32))) (fun h => by rw [Bd.returns] at h; cases h) hlk
    refine ⟨_, _, ?_, hrun, hended, _, _, rfl, ?_, ⟨_, rfl⟩, hW, hsame.mono (by decide) (by decide)⟩
    · rw [← hS0]; exact K3 _ (retN X0 hx (t := .boolean) Bd.returns (by simp) (hb hby d1_12) hr)
    · show Q1 Z p0 h0 n0 _ s₁.heap _
      rw [e0]
      have qr : (1 : Int32) = (w1_r1 p0) := by unfold w1_r1; rw [if_neg hc4_0]
      exact ⟨congrArg (fun z => some (Value.int z)) qr, N0, rfl⟩
theorem d2_0 : decode jdk_43_method_46_code 0 = .ok (.iconst 1, 1) := by decide +kernel
theorem d2_1 : decode jdk_43_method_46_code 1 = .ok (.newarray .byte, 2) := by decide +kernel
theorem d2_3 : decode jdk_43_method_46_code 3 = .ok (.dup, 1) := by decide +kernel
theorem d2_4 : decode jdk_43_method_46_code 4 = .ok (.iconst 0, 1) := by decide +kernel
theorem d2_5 : decode jdk_43_method_46_code 5 = .ok (.iload_n 0, 1) := by decide +kernel
theorem d2_6 : decode jdk_43_method_46_code 6 = .ok (.i2b, 1) := by decide +kernel
theorem d2_7 : decode jdk_43_method_46_code 7 = .ok (.bastore, 1) := by decide +kernel
theorem d2_8 : decode jdk_43_method_46_code 8 = .ok (.areturn, 1) := by decide +kernel
theorem pn2 : plainName "java/lang/StringLatin1" = true := by first | (simp [plainName, overriddenIn]; done) | decide +kernel
theorem ef2 (m : MethodId) (p0 : Int32) : entryFrame m #[(.int p0)] 1 = mkF m 0 #[.val (.int p0)] [] := by first | (simp [entryFrame, mkF, argsToLocals, Value.category]; done) | rfl
def Q2 (Z : State) (p0 : Int32) (h0 : Heap) (n0 : Nat) (v : Option Value) (h : Heap) (L : List Loc) : Prop := ∃ (b2 : Addr) (k2 : ClassId), v = some (.ref b2) ∧ Fr n0 L ∧ Keep h0 h [] ∧ h0.size ≤ b2 ∧ Arv Z h b2 k2 .byte (1 : Int32) [(.int (nar .byte (p0.toInt8.toInt32)))] (.int (0 : Int32))
set_option maxRecDepth 65536 in
set_option maxHeartbeats 40000000 in
theorem rm2 (l : Launch) (Z : State) (a0 : Array Value) (hw : ∀ d ∈ tables_1, d.before a0 Z = true) (ws : List Jvm.Cond) (p0 : Int32) (h0 : Heap) (n0 : Nat) (Z0 : n0 ≤ h0.size) :
    MetFree l (⟨"java/lang/StringLatin1", "toBytes", "(C)[B"⟩ : MethodName) (head1 (Jvm.Cond.code (⟨"java/lang/StringLatin1", "toBytes", "(C)[B"⟩ : MethodName) jdk_43_method_46_code 1 (some (.array .byte)) :: ws) ({ frames := 0, cells := 1, slots := 1, locals := 0 } : Room)) (fun a U => a = #[(.int p0)] ∧ Z.Warmed39 U.vm ∧ U.heap = h0) (fun _ _ _ _ _ => True) (fun _ U o U' => ∃ v L, o = .returned v ∧ Q2 Z p0 h0 n0 v U'.heap L ∧ FrameEnd U o U' L ({ frames := 0, cells := 1, slots := 1, locals := 0 } : Room).cells ({ frames := 0, cells := 1, slots := 1, locals := 0 } : Room).slots) := by
  refine MetFree.of_bodySF (plainFor_of_name pn2) hisR ?_
  intro p e s m args below meth c s₁ Bd hml0 hP hK
  obtain ⟨rfl, hZ, hh⟩ := hP
  have hlk : meth.locks = false := BodyLoose.notSynchronized Bd
  have hx := Bd.exec
  have hby := Bd.bytes
  have hml : c.maxLocals = 1 := hml0
  have hown : s.vm.findClass "java/lang/StringLatin1" = some m.cls := findClass_of_methodNamed Bd.named
  have hnm := (name_of_methodNamed Bd.named Bd.method).1
  have X0 : Stand p l e ({ frames := 0, cells := 1, slots := 1, locals := 0 } : Room) s m #[(.int p0)] below meth c s₁ [] 0 0 := Stand.of_body Bd
  have e0 : s₁.heap = h0 := by rw [← hh, Bd.state]; rfl
  have N0 := Fr.nil n0
  obtain ⟨S0, hS0⟩ : ∃ S0, S0 = s₁.setTop (entryFrame m #[(.int p0)] 1) := ⟨_, rfl⟩
  have pre0 : ∀ t, Steps p.tables e below (s₁.setTop (mkF m 0 #[.val (.int p0)] [])) t → Steps p.tables e below S0 t := fun t k => by rw [hS0]; exact castTop (ef2 m p0) k
  have K1 : ∀ t, Steps p.tables e below (s₁.setTop (mkF m 1 #[.val (.int p0)] [(.int (1 : Int32))])) t → Steps p.tables e below S0 t := fun t k => pre0 t (by
    refine XS.iconst X0.here hx rfl (hb hby d2_0) ?_
    show Steps p.tables e below (s₁.setTop (mkF m 1 #[.val (.int p0)] [(.int (1 : Int32))])) _
    exact k)
  obtain ⟨T2, h2, k2, X2, e2, E2, A2, st2⟩ := newP X0 hx hZ (hw _ (List.mem_of_getElem? (i := 14) rfl)) e0 (g := (mkF m 1 #[.val (.int p0)] [(.int (1 : Int32))])) rfl (hb hby d2_1) rfl (by decide) (cap := 1) (by decide) (by decide) (by decide) (by decide)
  obtain ⟨b2, g2⟩ : ∃ z, z = h0.size := ⟨_, rfl⟩
  rw [← g2] at A2 st2
  have g_b2 : n0 ≤ b2 := Nat.le_trans Z0 (Nat.le_of_eq g2.symm)
  have Zs2 : n0 ≤ h2.size := Nat.le_trans Z0 E2.1
  have sz_b2 : h0.size ≤ b2 := Nat.le_trans (Keep.refl h0 []).1 (Nat.le_of_eq g2.symm)
  have Kc2 : Keep h0 h2 [] := (Keep.refl h0 []).ext E2
  have V_b2 : Arv Z h2 b2 k2 .byte (1 : Int32) [(.int (0 : Int32))] (.int (0 : Int32)) := (Arv.new A2 (by decide)).pad (pad_rep [] (.int (0 : Int32)) 1)
  have K2 : ∀ t, Steps p.tables e below (T2.setTop (mkF m 3 #[.val (.int p0)] [(.ref b2)])) t → Steps p.tables e below S0 t := fun t k => K1 t (st2 t k)
  have K3 : ∀ t, Steps p.tables e below (T2.setTop (mkF m 7 #[.val (.int p0)] [(.int (p0.toInt8.toInt32)), (.int (0 : Int32)), (.ref b2), (.ref b2)])) t → Steps p.tables e below S0 t := fun t k => K2 t (by
    refine XS.dup X2.here hx rfl (hb hby d2_3) rfl rfl ?_
    show Steps p.tables e below (T2.setTop (mkF m 4 #[.val (.int p0)] [(.ref b2), (.ref b2)])) _
    refine XS.iconst X2.here hx rfl (hb hby d2_4) ?_
    show Steps p.tables e below (T2.setTop (mkF m 5 #[.val (.int p0)] [(.int (0 : Int32)), (.ref b2), (.ref b2)])) _
    refine XS.iloadN X2.here hx rfl (hb hby d2_5) rfl ?_
    show Steps p.tables e below (T2.setTop (mkF m 6 #[.val (.int p0)] [(.int p0), (.int (0 : Int32)), (.ref b2), (.ref b2)])) _
    refine XS.i2b X2.here hx rfl (hb hby d2_6) rfl ?_
    show Steps p.tables e below (T2.setTop (mkF m 7 #[.val (.int p0)] [(.int (p0.toInt8.toInt32)), (.int (0 : Int32)), (.ref b2), (.ref b2)])) _
    exact k)
  have K_4 : ∀ t, Steps p.tables e below (T2.setTop (mkF m 7 #[.val (.int p0)] [(.int (p0.toInt8.toInt32)), (.int (0 : Int32)), (.ref b2), (.ref b2)])) t → Steps p.tables e below S0 t := K3
  obtain ⟨cl5, Ar5, qa5, sa5, na5, ha5, ga5⟩ := id V_b2
  have hin5 : ¬ ((0 : Int32) < 0 ∨ cl5.slots.size ≤ ((0 : Int32)).toNatClampNeg) := inb_of sa5 ⟨by decide, by decide⟩
  obtain ⟨T5, h5, X5, e5, W5, st5⟩ := stB X2 hx hZ e2 Ar5 (j := (0 : Int32)) hin5 (g := (mkF m 7 #[.val (.int p0)] [(.int (p0.toInt8.toInt32)), (.int (0 : Int32)), (.ref b2), (.ref b2)])) rfl rfl (hb hby d2_7)
  have V_b2__5 : Arv Z h5 b2 k2 .byte (1 : Int32) [(.int (nar .byte (p0.toInt8.toInt32)))] (.int (0 : Int32)) := Arv.set Ar5 qa5 sa5 na5 ha5 ga5 (fits_nar_byte _) W5 0 rfl (Nat.le_of_ble_eq_true rfl)
  have N5 := Fr.snoc X5 N0 g_b2
  have Zs5 : n0 ≤ h5.size := Nat.le_trans Zs2 (Nat.le_of_eq W5.size.symm)
  have Kc5 : Keep h0 h5 [] := Kc2.wr W5 (Or.inr sz_b2)
  have K5 : ∀ t, Steps p.tables e below (T5.setTop (mkF m 8 #[.val (.int p0)] [(.ref b2)])) t → Steps p.tables e below S0 t := fun t k => K_4 t (st5 t k)
  obtain ⟨fs, hr, hrun, hended, hW, hsame⟩ := X5.leave (v := some (.ref b2)) (fun h => by rw [Bd.returns] at h; cases h) hlk
  refine ⟨_, _, ?_, hrun, hended, _, _, rfl, ?_, ⟨_, rfl⟩, hW, hsame.mono (by decide) (by decide)⟩
  · rw [← hS0]; exact K5 _ (retOut X5 hx Bd.returns rfl (Or.inr (Or.inr (Or.inr (Or.inr ⟨rfl, rfl, rfl⟩)))) (hb hby d2_8) hr)
  · show Q2 Z p0 h0 n0 _ T5.heap _
    rw [e5]
    exact ⟨b2, k2, rfl, N5, Kc5, sz_b2, V_b2__5⟩
theorem d3_0 : decode jdk_42_method_151_code 0 = .ok (.aload_n 0, 1) := by decide +kernel
theorem d3_1 : decode jdk_42_method_151_code 1 = .ok (.invokespecial 1, 3) := by decide +kernel
theorem d3_4 : decode jdk_42_method_151_code 4 = .ok (.aload_n 0, 1) := by decide +kernel
theorem d3_5 : decode jdk_42_method_151_code 5 = .ok (.aload_n 1, 1) := by decide +kernel
theorem d3_6 : decode jdk_42_method_151_code 6 = .ok (.putfield 9, 3) := by decide +kernel
theorem d3_9 : decode jdk_42_method_151_code 9 = .ok (.aload_n 0, 1) := by decide +kernel
theorem d3_10 : decode jdk_42_method_151_code 10 = .ok (.iload_n 2, 1) := by decide +kernel
theorem d3_11 : decode jdk_42_method_151_code 11 = .ok (.putfield 15, 3) := by decide +kernel
theorem d3_14 : decode jdk_42_method_151_code 14 = .ok (.return_, 1) := by decide +kernel
theorem pn3 : plainName "java/lang/String" = true := by first | (simp [plainName, overriddenIn]; done) | decide +kernel
theorem ef3 (m : MethodId) (o0 : Addr) (o1 : Addr) (p2 : Int32) : entryFrame m #[(.ref o0), (.ref o1), (.int p2)] 3 = mkF m 0 #[.val (.ref o0), .val (.ref o1), .val (.int p2)] [] := by first | (simp [entryFrame, mkF, argsToLocals, Value.category]; done) | rfl
def Q3 (Z : State) (o0 : Addr) (o1 : Addr) (p2 : Int32) (h0 : Heap) (n0 : Nat) (v : Option Value) (h : Heap) (L : List Loc) : Prop := v = none ∧ Fr n0 L ∧ Keep h0 h [o0] ∧ Exa Z h o0 "java/lang/String" ∧ Fld Z h o0 "java/lang/String" "value" "[B" (.ref o1) ∧ Fld Z h o0 "java/lang/String" "coder" "B" (.int (nar .byte p2))
set_option maxRecDepth 65536 in
set_option maxHeartbeats 40000000 in
theorem rm3 (l : Launch) (Z : State) (a0 : Array Value) (hw : ∀ d ∈ tables_1, d.before a0 Z = true) (ws : List Jvm.Cond) (o0 : Addr) (o1 : Addr) (p2 : Int32) (h0 : Heap) (n0 : Nat) (Z0 : n0 ≤ h0.size) (E_o0 : Exa Z h0 o0 "java/lang/String") (F_o0_value : Fld Z h0 o0 "java/lang/String" "value" "[B" .null) (F_o0_coder : Fld Z h0 o0 "java/lang/String" "coder" "B" (.int (0 : Int32))) (g_o0 : n0 ≤ o0) :
    MetFree l (⟨"java/lang/String", "<init>", "([BB)V"⟩ : MethodName) (head1 (Jvm.Cond.code (⟨"java/lang/String", "<init>", "([BB)V"⟩ : MethodName) jdk_42_method_151_code 3 none :: ws) ({ frames := 1, cells := 0, slots := 0, locals := 12 } : Room)) (fun a U => a = #[(.ref o0), (.ref o1), (.int p2)] ∧ Z.Warmed39 U.vm ∧ U.heap = h0) (fun _ _ _ _ _ => True) (fun _ U o U' => ∃ v L, o = .returned v ∧ Q3 Z o0 o1 p2 h0 n0 v U'.heap L ∧ FrameEnd U o U' L ({ frames := 1, cells := 0, slots := 0, locals := 12 } : Room).cells ({ frames := 1, cells := 0, slots := 0, locals := 12 } : Room).slots) := by
  refine MetFree.of_bodySF (plainFor_of_name pn3) hisR ?_
  intro p e s m args below meth c s₁ Bd hml0 hP hK
  obtain ⟨rfl, hZ, hh⟩ := hP
  have hlk : meth.locks = false := BodyLoose.notSynchronized Bd
  have hx := Bd.exec
  have hby := Bd.bytes
  have hml : c.maxLocals = 3 := hml0
  have hown : s.vm.findClass "java/lang/String" = some m.cls := findClass_of_methodNamed Bd.named
  have hnm := (name_of_methodNamed Bd.named Bd.method).1
  have X0 : Stand p l e ({ frames := 1, cells := 0, slots := 0, locals := 12 } : Room) s m #[(.ref o0), (.ref o1), (.int p2)] below meth c s₁ [] 0 0 := Stand.of_body Bd
  have e0 : s₁.heap = h0 := by rw [← hh, Bd.state]; rfl
  have N0 := Fr.nil n0
  obtain ⟨S0, hS0⟩ : ∃ S0, S0 = s₁.setTop (entryFrame m #[(.ref o0), (.ref o1), (.int p2)] 3) := ⟨_, rfl⟩
  have pre0 : ∀ t, Steps p.tables e below (s₁.setTop (mkF m 0 #[.val (.ref o0), .val (.ref o1), .val (.int p2)] [])) t → Steps p.tables e below S0 t := fun t k => by rw [hS0]; exact castTop (ef3 m o0 o1 p2) k
  have K1 : ∀ t, Steps p.tables e below (s₁.setTop (mkF m 1 #[.val (.ref o0), .val (.ref o1), .val (.int p2)] [(.ref o0)])) t → Steps p.tables e below S0 t := fun t k => pre0 t (by
    refine XS.aloadN X0.here hx rfl (hb hby d3_0) rfl rfl ?_
    show Steps p.tables e below (s₁.setTop (mkF m 1 #[.val (.ref o0), .val (.ref o1), .val (.int p2)] [(.ref o0)])) _
    exact k)
  have K_2 : ∀ t, Steps p.tables e below (s₁.setTop (mkF m 1 #[.val (.ref o0), .val (.ref o1), .val (.int p2)] [(.ref o0)])) t → Steps p.tables e below S0 t := K1
  obtain ⟨T3, X3, e3, st3⟩ := initO X0 hx hZ hown (hw _ (List.mem_of_getElem? (i := 19) rfl)) (hw _ (List.mem_of_getElem? (i := 20) rfl)) (hw _ (List.mem_of_getElem? (i := 21) rfl)) e0 (g := (mkF m 1 #[.val (.ref o0), .val (.ref o1), .val (.int p2)] [(.ref o0)])) rfl (by rw [hml]; rfl) rfl (hb hby d3_1) (by decide) (W := 0) (by show 2 * 0 + _ ≤ _; exact Nat.le_of_eq rfl) (by decide)
  have K3 : ∀ t, Steps p.tables e below (T3.setTop (mkF m 4 #[.val (.ref o0), .val (.ref o1), .val (.int p2)] [])) t → Steps p.tables e below S0 t := fun t k => K_2 t (st3 t k)
  have K4 : ∀ t, Steps p.tables e below (T3.setTop (mkF m 6 #[.val (.ref o0), .val (.ref o1), .val (.int p2)] [(.ref o1), (.ref o0)])) t → Steps p.tables e below S0 t := fun t k => K3 t (by
    refine XS.aloadN X3.here hx rfl (hb hby d3_4) rfl rfl ?_
    show Steps p.tables e below (T3.setTop (mkF m 5 #[.val (.ref o0), .val (.ref o1), .val (.int p2)] [(.ref o0)])) _
    refine XS.aloadN X3.here hx rfl (hb hby d3_5) rfl rfl ?_
    show Steps p.tables e below (T3.setTop (mkF m 6 #[.val (.ref o0), .val (.ref o1), .val (.int p2)] [(.ref o1), (.ref o0)])) _
    exact k)
  obtain ⟨T5, h5, X5, e5, W5, st5⟩ := putF X3 hx hZ hown (host := "") (Or.inl (hw _ (List.mem_of_getElem? (i := 22) rfl))) Via.refl e3 F_o0_value E_o0 (Or.inr ⟨(hw _ (List.mem_of_getElem? (i := 23) rfl)), rfl, hnm⟩) (hw _ (List.mem_of_getElem? (i := 10) rfl)) (ty := (.array .byte)) (by decide) rfl rfl (g := (mkF m 6 #[.val (.ref o0), .val (.ref o1), .val (.int p2)] [(.ref o1), (.ref o0)])) rfl rfl (hb hby d3_6)
  have F_o0_value__5 := F_o0_value.same W5
  have E_o0__5 := E_o0.wr W5
  have F_o0_coder__5 := F_o0_coder.other W5 (Or.inr (slot_ne (Or.inr (hw _ (List.mem_of_getElem? (i := 25) rfl))) (Or.inr (hw _ (List.mem_of_getElem? (i := 23) rfl))) (by decide) (t := .byte) (t' := (.array .byte)) (by decide) (by decide)))
  have N5 := Fr.snoc X5 N0 g_o0
  have Zs5 : n0 ≤ h5.size := Nat.le_trans Z0 (Nat.le_of_eq W5.size.symm)
  have Kc5 : Keep h0 h5 [o0] := (Keep.refl h0 [o0]).wr W5 (Or.inl (List.mem_of_getElem? (i := 0) rfl))
  have K5 : ∀ t, Steps p.tables e below (T5.setTop (mkF m 9 #[.val (.ref o0), .val (.ref o1), .val (.int p2)] [])) t → Steps p.tables e below S0 t := fun t k => K4 t (st5 t k)
  have K6 : ∀ t, Steps p.tables e below (T5.setTop (mkF m 11 #[.val (.ref o0), .val (.ref o1), .val (.int p2)] [(.int p2), (.ref o0)])) t → Steps p.tables e below S0 t := fun t k => K5 t (by
    refine XS.aloadN X5.here hx rfl (hb hby d3_9) rfl rfl ?_
    show Steps p.tables e below (T5.setTop (mkF m 10 #[.val (.ref o0), .val (.ref o1), .val (.int p2)] [(.ref o0)])) _
    refine XS.iloadN X5.here hx rfl (hb hby d3_10) rfl ?_
    show Steps p.tables e below (T5.setTop (mkF m 11 #[.val (.ref o0), .val (.ref o1), .val (.int p2)] [(.int p2), (.ref o0)])) _
    exact k)
  obtain ⟨T7, h7, X7, e7, W7, st7⟩ := putFN X5 hx hZ hown (hw _ (List.mem_of_getElem? (i := 24) rfl)) Via.refl e5 F_o0_coder__5 E_o0__5 (Or.inr ⟨(hw _ (List.mem_of_getElem? (i := 25) rfl)), rfl, hnm⟩) (hw _ (List.mem_of_getElem? (i := 10) rfl)) (ty := .byte) (v' := (.int (nar .byte p2))) (by decide) rfl (fits_nar_byte p2) (g := (mkF m 11 #[.val (.ref o0), .val (.ref o1), .val (.int p2)] [(.int p2), (.ref o0)])) rfl rfl (hb hby d3_11)
  have F_o0_coder__7 := F_o0_coder__5.same W7
  have E_o0__7 := E_o0__5.wr W7
  have F_o0_value__7 := F_o0_value__5.other W7 (Or.inr (slot_ne (Or.inr (hw _ (List.mem_of_getElem? (i := 23) rfl))) (Or.inr (hw _ (List.mem_of_getElem? (i := 25) rfl))) (by decide) (t := (.array .byte)) (t' := .byte) (by decide) (by decide)))
  have N7 := Fr.snoc X7 N5 g_o0
  have Zs7 : n0 ≤ h7.size := Nat.le_trans Zs5 (Nat.le_of_eq W7.size.symm)
  have Kc7 : Keep h0 h7 [o0] := Kc5.wr W7 (Or.inl (List.mem_of_getElem? (i := 0) rfl))
  have K7 : ∀ t, Steps p.tables e below (T7.setTop (mkF m 14 #[.val (.ref o0), .val (.ref o1), .val (.int p2)] [])) t → Steps p.tables e below S0 t := fun t k => K6 t (st7 t k)
  obtain ⟨fs, hr, hrun, hended, hW, hsame⟩ := X7.leave (v := none) (fun _ => rfl) hlk
  refine ⟨_, _, ?_, hrun, hended, _, _, rfl, ?_, ⟨_, rfl⟩, hW, hsame.mono (by decide) (by decide)⟩
  · rw [← hS0]; exact K7 _ (X7.returnOut hx Bd.returns (hb hby d3_14) hr)
  · show Q3 Z o0 o1 p2 h0 n0 _ T7.heap _
    rw [e7]
    exact ⟨rfl, N7, Kc7, E_o0__7, F_o0_value__7, F_o0_coder__7⟩
theorem d4_0 : decode jdk_42_method_139_code 0 = .ok (.getstatic 38, 3) := by decide +kernel
theorem d4_3 : decode jdk_42_method_139_code 3 = .ok (.ifCond .eq 23, 3) := by decide +kernel
theorem d4_6 : decode jdk_42_method_139_code 6 = .ok (.iload_n 0, 1) := by decide +kernel
theorem d4_7 : decode jdk_42_method_139_code 7 = .ok (.invokestatic 1015, 3) := by decide +kernel
theorem d4_10 : decode jdk_42_method_139_code 10 = .ok (.ifCond .eq 16, 3) := by decide +kernel
theorem d4_13 : decode jdk_42_method_139_code 13 = .ok (.new 10, 3) := by decide +kernel
theorem d4_16 : decode jdk_42_method_139_code 16 = .ok (.dup, 1) := by decide +kernel
theorem d4_17 : decode jdk_42_method_139_code 17 = .ok (.iload_n 0, 1) := by decide +kernel
theorem d4_18 : decode jdk_42_method_139_code 18 = .ok (.invokestatic 1018, 3) := by decide +kernel
theorem d4_21 : decode jdk_42_method_139_code 21 = .ok (.iconst 0, 1) := by decide +kernel
theorem d4_22 : decode jdk_42_method_139_code 22 = .ok (.invokespecial 209, 3) := by decide +kernel
theorem d4_25 : decode jdk_42_method_139_code 25 = .ok (.areturn, 1) := by decide +kernel
theorem pn4 : plainName "java/lang/String" = true := by first | (simp [plainName, overriddenIn]; done) | decide +kernel
theorem pd4_0 : parseMethodDescriptor "(C)Z" = some ⟨[.char], some .boolean⟩ := by decide +kernel
theorem pd4_1 : parseMethodDescriptor "(C)[B" = some ⟨[.char], some (.array .byte)⟩ := by decide +kernel
theorem pd4_2 : parseMethodDescriptor "([BB)V" = some ⟨[(.array .byte), .byte], none⟩ := by decide +kernel
theorem ef4 (m : MethodId) (p0 : Int32) : entryFrame m #[(.int p0)] 1 = mkF m 0 #[.val (.int p0)] [] := by first | (simp [entryFrame, mkF, argsToLocals, Value.category]; done) | rfl
def Q4 (Z : State) (p0 : Int32) (zc : Int32) (h0 : Heap) (n0 : Nat) (v : Option Value) (h : Heap) (L : List Loc) : Prop := ∃ (b8 : Addr) (b11_2 : Addr) (kn11_0 : ClassId), v = some (.ref b8) ∧ Fr n0 L ∧ Keep h0 h [] ∧ h0.size ≤ b8 ∧ h0.size ≤ b11_2 ∧ b8 ≠ b11_2 ∧ Exa Z h b8 "java/lang/String" ∧ Fld Z h b8 "java/lang/String" "value" "[B" (.ref b11_2) ∧ Fld Z h b8 "java/lang/String" "coder" "B" (.int (nar .byte (0 : Int32))) ∧ Arv Z h b11_2 kn11_0 .byte (1 : Int32) [(.int (nar .byte (p0.toInt8.toInt32)))] (.int (0 : Int32))
set_option maxRecDepth 65536 in
set_option maxHeartbeats 40000000 in
theorem rm4 (l : Launch) (Z : State) (a0 : Array Value) (hw : ∀ d ∈ tables_1, d.before a0 Z = true) (ws : List Jvm.Cond) (p0 : Int32) (zc : Int32) (h0 : Heap) (n0 : Nat) (Z0 : n0 ≤ h0.size) (S_String_COMPACT_STRINGS : Sta Z h0 "java/lang/String" "COMPACT_STRINGS" "Z" (.int zc)) (hz : ¬ zc = (0 : Int32)) (hp : ¬ (255 : Int32) < p0) :
    MetFree l (⟨"java/lang/String", "valueOf", "(C)Ljava/lang/String;"⟩ : MethodName) (head1 (Jvm.Cond.code (⟨"java/lang/String", "valueOf", "(C)Ljava/lang/String;"⟩ : MethodName) jdk_42_method_139_code 1 (some (.object "java/lang/String")) :: ws) ({ frames := 2, cells := 2, slots := 5, locals := 27 } : Room)) (fun a U => a = #[(.int p0)] ∧ Z.Warmed39 U.vm ∧ U.heap = h0) (fun _ _ _ _ _ => True) (fun _ U o U' => ∃ v L, o = .returned v ∧ Q4 Z p0 zc h0 n0 v U'.heap L ∧ FrameEnd U o U' L ({ frames := 2, cells := 2, slots := 5, locals := 27 } : Room).cells ({ frames := 2, cells := 2, slots := 5, locals := 27 } : Room).slots) := by
  refine MetFree.of_bodySF (plainFor_of_name pn4) hisR ?_
  intro p e s m args below meth c s₁ Bd hml0 hP hK
  obtain ⟨rfl, hZ, hh⟩ := hP
  have hlk : meth.locks = false := BodyLoose.notSynchronized Bd
  have hx := Bd.exec
  have hby := Bd.bytes
  have hml : c.maxLocals = 1 := hml0
  have hown : s.vm.findClass "java/lang/String" = some m.cls := findClass_of_methodNamed Bd.named
  have hnm := (name_of_methodNamed Bd.named Bd.method).1
  have X0 : Stand p l e ({ frames := 2, cells := 2, slots := 5, locals := 27 } : Room) s m #[(.int p0)] below meth c s₁ [] 0 0 := Stand.of_body Bd
  have e0 : s₁.heap = h0 := by rw [← hh, Bd.state]; rfl
  have N0 := Fr.nil n0
  obtain ⟨S0, hS0⟩ : ∃ S0, S0 = s₁.setTop (entryFrame m #[(.int p0)] 1) := ⟨_, rfl⟩
  have pre0 : ∀ t, Steps p.tables e below (s₁.setTop (mkF m 0 #[.val (.int p0)] [])) t → Steps p.tables e below S0 t := fun t k => by rw [hS0]; exact castTop (ef4 m p0) k
  obtain ⟨T1, X1, e1, st1⟩ := getS2 X0 hx hZ hown (host := "") (Or.inl (hw _ (List.mem_of_getElem? (i := 4) rfl))) Via.refl e0 S_String_COMPACT_STRINGS (g := (mkF m 0 #[.val (.int p0)] [])) rfl (hb hby d4_0)
  have K1 : ∀ t, Steps p.tables e below (T1.setTop (mkF m 3 #[.val (.int p0)] [(.int zc)])) t → Steps p.tables e below S0 t := fun t k => pre0 t (st1 t k)
  have hf2 : ¬ (zc = (0 : Int32)) := hz
  have K3 : ∀ t, Steps p.tables e below (T1.setTop (mkF m 7 #[.val (.int p0)] [(.int p0)])) t → Steps p.tables e below S0 t := fun t k => K1 t (by
    refine XS.ifNo X1.here hx rfl (hb hby d4_3) rfl (XT.i0_eq_f hf2) ?_
    show Steps p.tables e below (T1.setTop (mkF m 6 #[.val (.int p0)] [])) _
    refine XS.iloadN X1.here hx rfl (hb hby d4_6) rfl ?_
    show Steps p.tables e below (T1.setTop (mkF m 7 #[.val (.int p0)] [(.int p0)])) _
    exact k)
  have K_4 : ∀ t, Steps p.tables e below (T1.setTop (mkF m 7 #[.val (.int p0)] [(.int p0)])) t → Steps p.tables e below S0 t := K3
  obtain ⟨_, _, ⟨T5, L5, k5, n5⟩, -, X5, ⟨Lc5, hQ5, l5, y5, z5⟩, st5⟩ := Jvm.LawKit.callS X1 hx (y := (⟨"java/lang/StringLatin1", "canEncode", "(C)Z"⟩ : MethodName)) hown (mvT hZ (hw _ (List.mem_of_getElem? (i := 5) rfl))) (mvT hZ (hw _ (List.mem_of_getElem? (i := 6) rfl))) (mvT hZ (hw _ (List.mem_of_getElem? (i := 7) rfl))) (mvT hZ (hw _ (List.mem_of_getElem? (i := 8) rfl))) (by decide) (backOf (W := 0) (rm1 l Z a0 hw [] p0 h0 n0 Z0 ) hZ (hw _ (List.mem_of_getElem? (i := 8) rfl)) (hw _ (List.mem_of_getElem? (i := 7) rfl)) (by decide) (by decide)) (g := (mkF m 7 #[.val (.int p0)] [(.int p0)])) rfl (by rw [hml]; rfl) (argsL := [(.int p0)]) (rest := []) (lenOf pd4_0 rfl) rfl (by show 2 * 0 + _ ≤ _; exact Nat.le_of_eq rfl) (hb hby d4_7) (fun _ _ => ⟨rfl, e1, (by decide : 0 + 0 ≤ 2), (by decide : 0 + 0 ≤ 5)⟩)
  dsimp only [Pt.U, Pt.locs, Pt.cells, Pt.slots] at X5 l5 y5 z5 st5 hQ5
  subst l5 y5 z5
  obtain ⟨rfl, N5q, e5⟩ := hQ5
  have N5 := Fr.app N0 N5q
  have K5 : ∀ t, Steps p.tables e below (T5.setTop (mkF m 10 #[.val (.int p0)] [(.int (w1_r1 p0))])) t → Steps p.tables e below S0 t := fun t k => K_4 t (st5 t k)
  have hf6 : ¬ ((w1_r1 p0) = (0 : Int32)) := (own_enc p0 hp)
  have K7 : ∀ t, Steps p.tables e below (T5.setTop (mkF m 13 #[.val (.int p0)] [])) t → Steps p.tables e below S0 t := fun t k => K5 t (by
    refine XS.ifNo X5.here hx rfl (hb hby d4_10) rfl (XT.i0_eq_f hf6) ?_
    show Steps p.tables e below (T5.setTop (mkF m 13 #[.val (.int p0)] [])) _
    exact k)
  obtain ⟨T8, h8, X8, e8, E8, A8, D8, -, st8⟩ := newO X5 hx hZ hown (hw _ (List.mem_of_getElem? (i := 9) rfl)) (hw _ (List.mem_of_getElem? (i := 10) rfl)) (hw _ (List.mem_of_getElem? (i := 2) rfl)) e5 (g := (mkF m 13 #[.val (.int p0)] [])) rfl (hb hby d4_13) (by decide) (by decide)
  obtain ⟨b8, g8⟩ : ∃ z, z = h0.size := ⟨_, rfl⟩
  rw [← g8] at A8 D8 st8
  have S_String_COMPACT_STRINGS__8 := S_String_COMPACT_STRINGS.ext E8
  have g_b8 : n0 ≤ b8 := Nat.le_trans Z0 (Nat.le_of_eq g8.symm)
  have Zs8 : n0 ≤ h8.size := Nat.le_trans Z0 E8.1
  have sz_b8 : h0.size ≤ b8 := Nat.le_trans (Keep.refl h0 []).1 (Nat.le_of_eq g8.symm)
  have Kc8 : Keep h0 h8 [] := (Keep.refl h0 []).ext E8
  have F_b8_value : Fld Z h8 b8 "java/lang/String" "value" "[B" .null := D8 (Or.inr (hw _ (List.mem_of_getElem? (i := 23) rfl))) (ty := (.array .byte)) (by decide)
  have F_b8_coder : Fld Z h8 b8 "java/lang/String" "coder" "B" (.int (0 : Int32)) := D8 (Or.inr (hw _ (List.mem_of_getElem? (i := 25) rfl))) (ty := .byte) (by decide)
  have K8 : ∀ t, Steps p.tables e below (T8.setTop (mkF m 16 #[.val (.int p0)] [(.ref b8)])) t → Steps p.tables e below S0 t := fun t k => K7 t (st8 t k)
  have K9 : ∀ t, Steps p.tables e below (T8.setTop (mkF m 18 #[.val (.int p0)] [(.int p0), (.ref b8), (.ref b8)])) t → Steps p.tables e below S0 t := fun t k => K8 t (by
    refine XS.dup X8.here hx rfl (hb hby d4_16) rfl rfl ?_
    show Steps p.tables e below (T8.setTop (mkF m 17 #[.val (.int p0)] [(.ref b8), (.ref b8)])) _
    refine XS.iloadN X8.here hx rfl (hb hby d4_17) rfl ?_
    show Steps p.tables e below (T8.setTop (mkF m 18 #[.val (.int p0)] [(.int p0), (.ref b8), (.ref b8)])) _
    exact k)
  have K_10 : ∀ t, Steps p.tables e below (T8.setTop (mkF m 18 #[.val (.int p0)] [(.int p0), (.ref b8), (.ref b8)])) t → Steps p.tables e below S0 t := K9
  obtain ⟨_, _, ⟨T11, L11, k11, n11⟩, -, X11, ⟨Lc11, hQ11, l11, y11, z11⟩, st11⟩ := Jvm.LawKit.callS X8 hx (y := (⟨"java/lang/StringLatin1", "toBytes", "(C)[B"⟩ : MethodName)) hown (mvT hZ (hw _ (List.mem_of_getElem? (i := 11) rfl))) (mvT hZ (hw _ (List.mem_of_getElem? (i := 12) rfl))) (mvT hZ (hw _ (List.mem_of_getElem? (i := 7) rfl))) (mvT hZ (hw _ (List.mem_of_getElem? (i := 13) rfl))) (by decide) (backOf (W := 2) (rm2 l Z a0 hw [] p0 h8 n0 Zs8 ) hZ (hw _ (List.mem_of_getElem? (i := 13) rfl)) (hw _ (List.mem_of_getElem? (i := 7) rfl)) (by decide) (by decide)) (g := (mkF m 18 #[.val (.int p0)] [(.int p0), (.ref b8), (.ref b8)])) rfl (by rw [hml]; rfl) (argsL := [(.int p0)]) (rest := [(.ref b8), (.ref b8)]) (lenOf pd4_1 rfl) rfl (by show 2 * 0 + _ ≤ _; exact Nat.le_of_eq rfl) (hb hby d4_18) (fun _ _ => ⟨rfl, e8, (by decide : 1 + 1 ≤ 2), (by decide : 4 + 1 ≤ 5)⟩)
  dsimp only [Pt.U, Pt.locs, Pt.cells, Pt.slots] at X11 l11 y11 z11 st11 hQ11
  subst l11 y11 z11
  obtain ⟨b11_2, kn11_0, rfl, N11q, Kp11, lb_b11_2, Fn11_0⟩ := hQ11
  have N11 := Fr.app N5 N11q
  have g_b11_2 : n0 ≤ b11_2 := Nat.le_trans Zs8 lb_b11_2
  have ne_b8_b11_2 : b8 ≠ b11_2 := Nat.ne_of_lt (Nat.lt_of_lt_of_le A8.lt lb_b11_2)
  have sz_b11_2 : h0.size ≤ b11_2 := Nat.le_trans Kc8.1 lb_b11_2
  have A8__11 := A8.keep Kp11
  have F_b8_value__11 := F_b8_value.keep Kp11 nin0
  have F_b8_coder__11 := F_b8_coder.keep Kp11 nin0
  have Zs11 : n0 ≤ T11.heap.size := Nat.le_trans Zs8 Kp11.1
  have Kc11 : Keep h0 T11.heap [] := Kc8.trans Kp11 all0
  have K11 : ∀ t, Steps p.tables e below (T11.setTop (mkF m 21 #[.val (.int p0)] [(.ref b11_2), (.ref b8), (.ref b8)])) t → Steps p.tables e below S0 t := fun t k => K_10 t (st11 t k)
  have K12 : ∀ t, Steps p.tables e below (T11.setTop (mkF m 22 #[.val (.int p0)] [(.int (0 : Int32)), (.ref b11_2), (.ref b8), (.ref b8)])) t → Steps p.tables e below S0 t := fun t k => K11 t (by
    refine XS.iconst X11.here hx rfl (hb hby d4_21) ?_
    show Steps p.tables e below (T11.setTop (mkF m 22 #[.val (.int p0)] [(.int (0 : Int32)), (.ref b11_2), (.ref b8), (.ref b8)])) _
    exact k)
  have K_13 : ∀ t, Steps p.tables e below (T11.setTop (mkF m 22 #[.val (.int p0)] [(.int (0 : Int32)), (.ref b11_2), (.ref b8), (.ref b8)])) t → Steps p.tables e below S0 t := K12
  obtain ⟨_, _, ⟨T14, L14, k14, n14⟩, -, X14, ⟨Lc14, hQ14, l14, y14, z14⟩, st14⟩ := X11.specialBack hx (y := (⟨"java/lang/String", "<init>", "([BB)V"⟩ : MethodName)) rfl hown (mvT hZ (hw _ (List.mem_of_getElem? (i := 15) rfl))) (mvT hZ (hw _ (List.mem_of_getElem? (i := 16) rfl))) (mvT hZ (hw _ (List.mem_of_getElem? (i := 18) rfl))) (by decide) (backOf (W := 1) (rm3 l Z a0 hw [] b8 b11_2 (0 : Int32) T11.heap n0 Zs11 A8__11 F_b8_value__11 F_b8_coder__11 g_b8) hZ (hw _ (List.mem_of_getElem? (i := 18) rfl)) (hw _ (List.mem_of_getElem? (i := 2) rfl)) (by decide) (by decide)) (g := (mkF m 22 #[.val (.int p0)] [(.int (0 : Int32)), (.ref b11_2), (.ref b8), (.ref b8)])) rfl (by rw [hml]; rfl) (Steps.refl _) (a := b8) (argsL := [(.ref b11_2), (.int (0 : Int32))]) (rest := [(.ref b8)]) (lenOf pd4_2 rfl) rfl (by show 2 * 0 + _ ≤ _; exact Nat.le_of_eq rfl) (hb hby d4_22) (fun _ _ => ⟨rfl, rfl, (by decide : 2 + 0 ≤ 2), (by decide : 5 + 0 ≤ 5)⟩)
  dsimp only [Pt.U, Pt.locs, Pt.cells, Pt.slots] at X14 l14 y14 z14 st14 hQ14
  subst l14 y14 z14
  obtain ⟨rfl, N14q, Kp14, Fn14_0, Fn14_1, Fn14_2⟩ := hQ14
  have N14 := Fr.app N11 N14q
  have Fn11_0__14 := Fn11_0.keep Kp14 (ninS (Ne.symm ne_b8_b11_2) nin0)
  have Zs14 : n0 ≤ T14.heap.size := Nat.le_trans Zs11 Kp14.1
  have Kc14 : Keep h0 T14.heap [] := Kc11.trans Kp14 (allS (P := fun x => x ∈ [] ∨ h0.size ≤ x) (Or.inr sz_b8) all0)
  have K14 : ∀ t, Steps p.tables e below (T14.setTop (mkF m 25 #[.val (.int p0)] [(.ref b8)])) t → Steps p.tables e below S0 t := fun t k => K_13 t (st14.trans k)
  obtain ⟨fs, hr, hrun, hended, hW, hsame⟩ := X14.leave (v := some (.ref b8)) (fun h => by rw [Bd.returns] at h; cases h) hlk
  refine ⟨_, _, ?_, hrun, hended, _, _, rfl, ?_, ⟨_, rfl⟩, hW, hsame.mono (by decide) (by decide)⟩
  · rw [← hS0]; exact K14 _ (retOut X14 hx Bd.returns rfl (Or.inr (Or.inr (Or.inr (Or.inr ⟨rfl, rfl, rfl⟩)))) (hb hby d4_25) hr)
  · show Q4 Z p0 zc h0 n0 _ T14.heap _
    exact ⟨b8, b11_2, kn11_0, rfl, N14, Kc14, sz_b8, sz_b11_2, ne_b8_b11_2, Fn14_0, Fn14_1, Fn14_2, Fn11_0__14⟩
theorem d5_0 : decode prog_93_method_1_code 0 = .ok (.aload_n 0, 1) := by decide +kernel
theorem d5_1 : decode prog_93_method_1_code 1 = .ok (.invokespecial 1, 3) := by decide +kernel
theorem d5_4 : decode prog_93_method_1_code 4 = .ok (.return_, 1) := by decide +kernel
theorem pn5 : plainName "com/example/elidora/elidora/Value" = true := by first | (simp [plainName, overriddenIn]; done) | decide +kernel
theorem ef5 (m : MethodId) (o0 : Addr) : entryFrame m #[(.ref o0)] 1 = mkF m 0 #[.val (.ref o0)] [] := by first | (simp [entryFrame, mkF, argsToLocals, Value.category]; done) | rfl
def Q5 (Z : State) (o0 : Addr) (h0 : Heap) (n0 : Nat) (v : Option Value) (h : Heap) (L : List Loc) : Prop := v = none ∧ Fr n0 L ∧ h = h0
set_option maxRecDepth 65536 in
set_option maxHeartbeats 40000000 in
theorem rm5 (l : Launch) (Z : State) (a0 : Array Value) (hw : ∀ d ∈ tables_1, d.before a0 Z = true) (ws : List Jvm.Cond) (o0 : Addr) (h0 : Heap) (n0 : Nat) (Z0 : n0 ≤ h0.size) :
    MetFree l (⟨"com/example/elidora/elidora/Value", "<init>", "()V"⟩ : MethodName) (head1 (Jvm.Cond.code (⟨"com/example/elidora/elidora/Value", "<init>", "()V"⟩ : MethodName) prog_93_method_1_code 1 none :: ws) ({ frames := 1, cells := 0, slots := 0, locals := 12 } : Room)) (fun a U => a = #[(.ref o0)] ∧ Z.Warmed39 U.vm ∧ U.heap = h0) (fun _ _ _ _ _ => True) (fun _ U o U' => ∃ v L, o = .returned v ∧ Q5 Z o0 h0 n0 v U'.heap L ∧ FrameEnd U o U' L ({ frames := 1, cells := 0, slots := 0, locals := 12 } : Room).cells ({ frames := 1, cells := 0, slots := 0, locals := 12 } : Room).slots) := by
  refine MetFree.of_bodySF (plainFor_of_name pn5) hisR ?_
  intro p e s m args below meth c s₁ Bd hml0 hP hK
  obtain ⟨rfl, hZ, hh⟩ := hP
  have hlk : meth.locks = false := BodyLoose.notSynchronized Bd
  have hx := Bd.exec
  have hby := Bd.bytes
  have hml : c.maxLocals = 1 := hml0
  have hown : s.vm.findClass "com/example/elidora/elidora/Value" = some m.cls := findClass_of_methodNamed Bd.named
  have hnm := (name_of_methodNamed Bd.named Bd.method).1
  have X0 : Stand p l e ({ frames := 1, cells := 0, slots := 0, locals := 12 } : Room) s m #[(.ref o0)] below meth c s₁ [] 0 0 := Stand.of_body Bd
  have e0 : s₁.heap = h0 := by rw [← hh, Bd.state]; rfl
  have N0 := Fr.nil n0
  obtain ⟨S0, hS0⟩ : ∃ S0, S0 = s₁.setTop (entryFrame m #[(.ref o0)] 1) := ⟨_, rfl⟩
  have pre0 : ∀ t, Steps p.tables e below (s₁.setTop (mkF m 0 #[.val (.ref o0)] [])) t → Steps p.tables e below S0 t := fun t k => by rw [hS0]; exact castTop (ef5 m o0) k
  have K1 : ∀ t, Steps p.tables e below (s₁.setTop (mkF m 1 #[.val (.ref o0)] [(.ref o0)])) t → Steps p.tables e below S0 t := fun t k => pre0 t (by
    refine XS.aloadN X0.here hx rfl (hb hby d5_0) rfl rfl ?_
    show Steps p.tables e below (s₁.setTop (mkF m 1 #[.val (.ref o0)] [(.ref o0)])) _
    exact k)
  have K_2 : ∀ t, Steps p.tables e below (s₁.setTop (mkF m 1 #[.val (.ref o0)] [(.ref o0)])) t → Steps p.tables e below S0 t := K1
  obtain ⟨T3, X3, e3, st3⟩ := initO X0 hx hZ hown (hw _ (List.mem_of_getElem? (i := 37) rfl)) (hw _ (List.mem_of_getElem? (i := 20) rfl)) (hw _ (List.mem_of_getElem? (i := 21) rfl)) e0 (g := (mkF m 1 #[.val (.ref o0)] [(.ref o0)])) rfl (by rw [hml]; rfl) rfl (hb hby d5_1) (by decide) (W := 0) (by show 2 * 0 + _ ≤ _; exact Nat.le_of_eq rfl) (by decide)
  have K3 : ∀ t, Steps p.tables e below (T3.setTop (mkF m 4 #[.val (.ref o0)] [])) t → Steps p.tables e below S0 t := fun t k => K_2 t (st3 t k)
  obtain ⟨fs, hr, hrun, hended, hW, hsame⟩ := X3.leave (v := none) (fun _ => rfl) hlk
  refine ⟨_, _, ?_, hrun, hended, _, _, rfl, ?_, ⟨_, rfl⟩, hW, hsame.mono (by decide) (by decide)⟩
  · rw [← hS0]; exact K3 _ (X3.returnOut hx Bd.returns (hb hby d5_4) hr)
  · show Q5 Z o0 h0 n0 _ T3.heap _
    rw [e3]
    exact ⟨rfl, N0, rfl⟩
theorem d6_0 : decode prog_94_method_1_code 0 = .ok (.aload_n 0, 1) := by decide +kernel
theorem d6_1 : decode prog_94_method_1_code 1 = .ok (.invokespecial 3, 3) := by decide +kernel
theorem d6_4 : decode prog_94_method_1_code 4 = .ok (.aload_n 0, 1) := by decide +kernel
theorem d6_5 : decode prog_94_method_1_code 5 = .ok (.aload_n 1, 1) := by decide +kernel
theorem d6_6 : decode prog_94_method_1_code 6 = .ok (.putfield 7, 3) := by decide +kernel
theorem d6_9 : decode prog_94_method_1_code 9 = .ok (.aload_n 0, 1) := by decide +kernel
theorem d6_10 : decode prog_94_method_1_code 10 = .ok (.iload_n 2, 1) := by decide +kernel
theorem d6_11 : decode prog_94_method_1_code 11 = .ok (.putfield 13, 3) := by decide +kernel
theorem d6_14 : decode prog_94_method_1_code 14 = .ok (.aload_n 0, 1) := by decide +kernel
theorem d6_15 : decode prog_94_method_1_code 15 = .ok (.iload_n 3, 1) := by decide +kernel
theorem d6_16 : decode prog_94_method_1_code 16 = .ok (.putfield 17, 3) := by decide +kernel
theorem d6_19 : decode prog_94_method_1_code 19 = .ok (.return_, 1) := by decide +kernel
theorem pn6 : plainName "com/example/elidora/elidora/Value$Element" = true := by first | (simp [plainName, overriddenIn]; done) | decide +kernel
theorem pd6_0 : parseMethodDescriptor "()V" = some ⟨[], none⟩ := by decide +kernel
theorem ef6 (m : MethodId) (o0 : Addr) (o1 : Addr) (p2 : Int32) (p3 : Int32) : entryFrame m #[(.ref o0), (.ref o1), (.int p2), (.int p3)] 4 = mkF m 0 #[.val (.ref o0), .val (.ref o1), .val (.int p2), .val (.int p3)] [] := by first | (simp [entryFrame, mkF, argsToLocals, Value.category]; done) | rfl
def Q6 (Z : State) (o0 : Addr) (o1 : Addr) (p2 : Int32) (p3 : Int32) (h0 : Heap) (n0 : Nat) (v : Option Value) (h : Heap) (L : List Loc) : Prop := v = none ∧ Fr n0 L ∧ Keep h0 h [o0] ∧ Exa Z h o0 "com/example/elidora/elidora/Value$Element" ∧ Fld Z h o0 "com/example/elidora/elidora/Value$Element" "name" "Ljava/lang/String;" (.ref o1) ∧ Fld Z h o0 "com/example/elidora/elidora/Value$Element" "set" "I" (.int p2) ∧ Fld Z h o0 "com/example/elidora/elidora/Value$Element" "ordinal" "I" (.int p3)
set_option maxRecDepth 65536 in
set_option maxHeartbeats 40000000 in
theorem rm6 (l : Launch) (Z : State) (a0 : Array Value) (hw : ∀ d ∈ tables_1, d.before a0 Z = true) (ws : List Jvm.Cond) (o0 : Addr) (o1 : Addr) (p2 : Int32) (p3 : Int32) (h0 : Heap) (n0 : Nat) (Z0 : n0 ≤ h0.size) (E_o0 : Exa Z h0 o0 "com/example/elidora/elidora/Value$Element") (F_o0_name : Fld Z h0 o0 "com/example/elidora/elidora/Value$Element" "name" "Ljava/lang/String;" .null) (F_o0_set : Fld Z h0 o0 "com/example/elidora/elidora/Value$Element" "set" "I" (.int (0 : Int32))) (F_o0_ordinal : Fld Z h0 o0 "com/example/elidora/elidora/Value$Element" "ordinal" "I" (.int (0 : Int32))) (g_o0 : n0 ≤ o0) :
    MetFree l (⟨"com/example/elidora/elidora/Value$Element", "<init>", "(Ljava/lang/String;II)V"⟩ : MethodName) (head1 (Jvm.Cond.code (⟨"com/example/elidora/elidora/Value$Element", "<init>", "(Ljava/lang/String;II)V"⟩ : MethodName) prog_94_method_1_code 4 none :: ws) ({ frames := 2, cells := 0, slots := 0, locals := 24 } : Room)) (fun a U => a = #[(.ref o0), (.ref o1), (.int p2), (.int p3)] ∧ Z.Warmed39 U.vm ∧ U.heap = h0) (fun _ _ _ _ _ => True) (fun _ U o U' => ∃ v L, o = .returned v ∧ Q6 Z o0 o1 p2 p3 h0 n0 v U'.heap L ∧ FrameEnd U o U' L ({ frames := 2, cells := 0, slots := 0, locals := 24 } : Room).cells ({ frames := 2, cells := 0, slots := 0, locals := 24 } : Room).slots) := by
  refine MetFree.of_bodySF (plainFor_of_name pn6) hisR ?_
  intro p e s m args below meth c s₁ Bd hml0 hP hK
  obtain ⟨rfl, hZ, hh⟩ := hP
  have hlk : meth.locks = false := BodyLoose.notSynchronized Bd
  have hx := Bd.exec
  have hby := Bd.bytes
  have hml : c.maxLocals = 4 := hml0
  have hown : s.vm.findClass "com/example/elidora/elidora/Value$Element" = some m.cls := findClass_of_methodNamed Bd.named
  have hnm := (name_of_methodNamed Bd.named Bd.method).1
  have X0 : Stand p l e ({ frames := 2, cells := 0, slots := 0, locals := 24 } : Room) s m #[(.ref o0), (.ref o1), (.int p2), (.int p3)] below meth c s₁ [] 0 0 := Stand.of_body Bd
  have e0 : s₁.heap = h0 := by rw [← hh, Bd.state]; rfl
  have N0 := Fr.nil n0
  obtain ⟨S0, hS0⟩ : ∃ S0, S0 = s₁.setTop (entryFrame m #[(.ref o0), (.ref o1), (.int p2), (.int p3)] 4) := ⟨_, rfl⟩
  have pre0 : ∀ t, Steps p.tables e below (s₁.setTop (mkF m 0 #[.val (.ref o0), .val (.ref o1), .val (.int p2), .val (.int p3)] [])) t → Steps p.tables e below S0 t := fun t k => by rw [hS0]; exact castTop (ef6 m o0 o1 p2 p3) k
  have K1 : ∀ t, Steps p.tables e below (s₁.setTop (mkF m 1 #[.val (.ref o0), .val (.ref o1), .val (.int p2), .val (.int p3)] [(.ref o0)])) t → Steps p.tables e below S0 t := fun t k => pre0 t (by
    refine XS.aloadN X0.here hx rfl (hb hby d6_0) rfl rfl ?_
    show Steps p.tables e below (s₁.setTop (mkF m 1 #[.val (.ref o0), .val (.ref o1), .val (.int p2), .val (.int p3)] [(.ref o0)])) _
    exact k)
  have K_2 : ∀ t, Steps p.tables e below (s₁.setTop (mkF m 1 #[.val (.ref o0), .val (.ref o1), .val (.int p2), .val (.int p3)] [(.ref o0)])) t → Steps p.tables e below S0 t := K1
  obtain ⟨_, _, ⟨T3, L3, k3, n3⟩, -, X3, ⟨Lc3, hQ3, l3, y3, z3⟩, st3⟩ := X0.specialBackNest hx (y := (⟨"com/example/elidora/elidora/Value", "<init>", "()V"⟩ : MethodName)) rfl hown (own_mvM hZ (hw _ (List.mem_of_getElem? (i := 32) rfl))) (mvT hZ (hw _ (List.mem_of_getElem? (i := 33) rfl))) (mvT hZ (hw _ (List.mem_of_getElem? (i := 36) rfl))) (by decide) (backOf (W := 0) (rm5 l Z a0 hw [] o0 h0 n0 Z0 ) hZ (hw _ (List.mem_of_getElem? (i := 36) rfl)) (hw _ (List.mem_of_getElem? (i := 35) rfl)) (by decide) (by decide)) (g := (mkF m 1 #[.val (.ref o0), .val (.ref o1), .val (.int p2), .val (.int p3)] [(.ref o0)])) rfl (by rw [hml]; rfl) (Steps.refl _) (a := o0) (argsL := []) (rest := []) (lenOf pd6_0 rfl) rfl (by show 2 * 0 + _ ≤ _; exact Nat.le_of_eq rfl) (hb hby d6_1) (fun _ _ => ⟨rfl, e0, (by decide : 0 + 0 ≤ 0), (by decide : 0 + 0 ≤ 0)⟩)
  dsimp only [Pt.U, Pt.locs, Pt.cells, Pt.slots] at X3 l3 y3 z3 st3 hQ3
  subst l3 y3 z3
  obtain ⟨rfl, N3q, e3⟩ := hQ3
  have N3 := Fr.app N0 N3q
  have K3 : ∀ t, Steps p.tables e below (T3.setTop (mkF m 4 #[.val (.ref o0), .val (.ref o1), .val (.int p2), .val (.int p3)] [])) t → Steps p.tables e below S0 t := fun t k => K_2 t (st3.trans k)
  have K4 : ∀ t, Steps p.tables e below (T3.setTop (mkF m 6 #[.val (.ref o0), .val (.ref o1), .val (.int p2), .val (.int p3)] [(.ref o1), (.ref o0)])) t → Steps p.tables e below S0 t := fun t k => K3 t (by
    refine XS.aloadN X3.here hx rfl (hb hby d6_4) rfl rfl ?_
    show Steps p.tables e below (T3.setTop (mkF m 5 #[.val (.ref o0), .val (.ref o1), .val (.int p2), .val (.int p3)] [(.ref o0)])) _
    refine XS.aloadN X3.here hx rfl (hb hby d6_5) rfl rfl ?_
    show Steps p.tables e below (T3.setTop (mkF m 6 #[.val (.ref o0), .val (.ref o1), .val (.int p2), .val (.int p3)] [(.ref o1), (.ref o0)])) _
    exact k)
  obtain ⟨T5, h5, X5, e5, W5, st5⟩ := putF X3 hx hZ hown (host := "") (Or.inl (hw _ (List.mem_of_getElem? (i := 38) rfl))) Via.refl e3 F_o0_name E_o0 (Or.inr ⟨(hw _ (List.mem_of_getElem? (i := 39) rfl)), rfl, hnm⟩) (hw _ (List.mem_of_getElem? (i := 27) rfl)) (ty := (.object "java/lang/String")) (by decide) rfl rfl (g := (mkF m 6 #[.val (.ref o0), .val (.ref o1), .val (.int p2), .val (.int p3)] [(.ref o1), (.ref o0)])) rfl rfl (hb hby d6_6)
  have F_o0_name__5 := F_o0_name.same W5
  have E_o0__5 := E_o0.wr W5
  have F_o0_set__5 := F_o0_set.other W5 (Or.inr (slot_ne (Or.inr (hw _ (List.mem_of_getElem? (i := 41) rfl))) (Or.inr (hw _ (List.mem_of_getElem? (i := 39) rfl))) (by decide) (t := .int) (t' := (.object "java/lang/String")) (by decide) (by decide)))
  have F_o0_ordinal__5 := F_o0_ordinal.other W5 (Or.inr (slot_ne (Or.inr (hw _ (List.mem_of_getElem? (i := 43) rfl))) (Or.inr (hw _ (List.mem_of_getElem? (i := 39) rfl))) (by decide) (t := .int) (t' := (.object "java/lang/String")) (by decide) (by decide)))
  have N5 := Fr.snoc X5 N3 g_o0
  have Zs5 : n0 ≤ h5.size := Nat.le_trans Z0 (Nat.le_of_eq W5.size.symm)
  have Kc5 : Keep h0 h5 [o0] := (Keep.refl h0 [o0]).wr W5 (Or.inl (List.mem_of_getElem? (i := 0) rfl))
  have K5 : ∀ t, Steps p.tables e below (T5.setTop (mkF m 9 #[.val (.ref o0), .val (.ref o1), .val (.int p2), .val (.int p3)] [])) t → Steps p.tables e below S0 t := fun t k => K4 t (st5 t k)
  have K6 : ∀ t, Steps p.tables e below (T5.setTop (mkF m 11 #[.val (.ref o0), .val (.ref o1), .val (.int p2), .val (.int p3)] [(.int p2), (.ref o0)])) t → Steps p.tables e below S0 t := fun t k => K5 t (by
    refine XS.aloadN X5.here hx rfl (hb hby d6_9) rfl rfl ?_
    show Steps p.tables e below (T5.setTop (mkF m 10 #[.val (.ref o0), .val (.ref o1), .val (.int p2), .val (.int p3)] [(.ref o0)])) _
    refine XS.iloadN X5.here hx rfl (hb hby d6_10) rfl ?_
    show Steps p.tables e below (T5.setTop (mkF m 11 #[.val (.ref o0), .val (.ref o1), .val (.int p2), .val (.int p3)] [(.int p2), (.ref o0)])) _
    exact k)
  obtain ⟨T7, h7, X7, e7, W7, st7⟩ := putF X5 hx hZ hown (host := "") (Or.inl (hw _ (List.mem_of_getElem? (i := 40) rfl))) Via.refl e5 F_o0_set__5 E_o0__5 (Or.inr ⟨(hw _ (List.mem_of_getElem? (i := 41) rfl)), rfl, hnm⟩) (hw _ (List.mem_of_getElem? (i := 27) rfl)) (ty := .int) (by decide) rfl rfl (g := (mkF m 11 #[.val (.ref o0), .val (.ref o1), .val (.int p2), .val (.int p3)] [(.int p2), (.ref o0)])) rfl rfl (hb hby d6_11)
  have F_o0_set__7 := F_o0_set__5.same W7
  have E_o0__7 := E_o0__5.wr W7
  have F_o0_name__7 := F_o0_name__5.other W7 (Or.inr (slot_ne (Or.inr (hw _ (List.mem_of_getElem? (i := 39) rfl))) (Or.inr (hw _ (List.mem_of_getElem? (i := 41) rfl))) (by decide) (t := (.object "java/lang/String")) (t' := .int) (by decide) (by decide)))
  have F_o0_ordinal__7 := F_o0_ordinal__5.other W7 (Or.inr (slot_ne (Or.inr (hw _ (List.mem_of_getElem? (i := 43) rfl))) (Or.inr (hw _ (List.mem_of_getElem? (i := 41) rfl))) (by decide) (t := .int) (t' := .int) (by decide) (by decide)))
  have N7 := Fr.snoc X7 N5 g_o0
  have Zs7 : n0 ≤ h7.size := Nat.le_trans Zs5 (Nat.le_of_eq W7.size.symm)
  have Kc7 : Keep h0 h7 [o0] := Kc5.wr W7 (Or.inl (List.mem_of_getElem? (i := 0) rfl))
  have K7 : ∀ t, Steps p.tables e below (T7.setTop (mkF m 14 #[.val (.ref o0), .val (.ref o1), .val (.int p2), .val (.int p3)] [])) t → Steps p.tables e below S0 t := fun t k => K6 t (st7 t k)
  have K8 : ∀ t, Steps p.tables e below (T7.setTop (mkF m 16 #[.val (.ref o0), .val (.ref o1), .val (.int p2), .val (.int p3)] [(.int p3), (.ref o0)])) t → Steps p.tables e below S0 t := fun t k => K7 t (by
    refine XS.aloadN X7.here hx rfl (hb hby d6_14) rfl rfl ?_
    show Steps p.tables e below (T7.setTop (mkF m 15 #[.val (.ref o0), .val (.ref o1), .val (.int p2), .val (.int p3)] [(.ref o0)])) _
    refine XS.iloadN X7.here hx rfl (hb hby d6_15) rfl ?_
    show Steps p.tables e below (T7.setTop (mkF m 16 #[.val (.ref o0), .val (.ref o1), .val (.int p2), .val (.int p3)] [(.int p3), (.ref o0)])) _
    exact k)
  obtain ⟨T9, h9, X9, e9, W9, st9⟩ := putF X7 hx hZ hown (host := "") (Or.inl (hw _ (List.mem_of_getElem? (i := 42) rfl))) Via.refl e7 F_o0_ordinal__7 E_o0__7 (Or.inr ⟨(hw _ (List.mem_of_getElem? (i := 43) rfl)), rfl, hnm⟩) (hw _ (List.mem_of_getElem? (i := 27) rfl)) (ty := .int) (by decide) rfl rfl (g := (mkF m 16 #[.val (.ref o0), .val (.ref o1), .val (.int p2), .val (.int p3)] [(.int p3), (.ref o0)])) rfl rfl (hb hby d6_16)
  have F_o0_ordinal__9 := F_o0_ordinal__7.same W9
  have E_o0__9 := E_o0__7.wr W9
  have F_o0_name__9 := F_o0_name__7.other W9 (Or.inr (slot_ne (Or.inr (hw _ (List.mem_of_getElem? (i := 39) rfl))) (Or.inr (hw _ (List.mem_of_getElem? (i := 43) rfl))) (by decide) (t := (.object "java/lang/String")) (t' := .int) (by decide) (by decide)))
  have F_o0_set__9 := F_o0_set__7.other W9 (Or.inr (slot_ne (Or.inr (hw _ (List.mem_of_getElem? (i := 41) rfl))) (Or.inr (hw _ (List.mem_of_getElem? (i := 43) rfl))) (by decide) (t := .int) (t' := .int) (by decide) (by decide)))
  have N9 := Fr.snoc X9 N7 g_o0
  have Zs9 : n0 ≤ h9.size := Nat.le_trans Zs7 (Nat.le_of_eq W9.size.symm)
  have Kc9 : Keep h0 h9 [o0] := Kc7.wr W9 (Or.inl (List.mem_of_getElem? (i := 0) rfl))
  have K9 : ∀ t, Steps p.tables e below (T9.setTop (mkF m 19 #[.val (.ref o0), .val (.ref o1), .val (.int p2), .val (.int p3)] [])) t → Steps p.tables e below S0 t := fun t k => K8 t (st9 t k)
  obtain ⟨fs, hr, hrun, hended, hW, hsame⟩ := X9.leave (v := none) (fun _ => rfl) hlk
  refine ⟨_, _, ?_, hrun, hended, _, _, rfl, ?_, ⟨_, rfl⟩, hW, hsame.mono (by decide) (by decide)⟩
  · rw [← hS0]; exact K9 _ (X9.returnOut hx Bd.returns (hb hby d6_19) hr)
  · show Q6 Z o0 o1 p2 p3 h0 n0 _ T9.heap _
    rw [e9]
    exact ⟨rfl, N9, Kc9, E_o0__9, F_o0_name__9, F_o0_set__9, F_o0_ordinal__9⟩
theorem d7_0 : decode prog_94_method_6_code 0 = .ok (.aload_n 1, 1) := by decide +kernel
theorem d7_1 : decode prog_94_method_6_code 1 = .ok (.instanceof 8, 3) := by decide +kernel
theorem d7_4 : decode prog_94_method_6_code 4 = .ok (.ifCond .eq 34, 3) := by decide +kernel
theorem d7_7 : decode prog_94_method_6_code 7 = .ok (.aload_n 1, 1) := by decide +kernel
theorem d7_8 : decode prog_94_method_6_code 8 = .ok (.checkcast 8, 3) := by decide +kernel
theorem d7_11 : decode prog_94_method_6_code 11 = .ok (.astore_n 2, 1) := by decide +kernel
theorem d7_12 : decode prog_94_method_6_code 12 = .ok (.aload_n 0, 1) := by decide +kernel
theorem d7_13 : decode prog_94_method_6_code 13 = .ok (.getfield 13, 3) := by decide +kernel
theorem d7_16 : decode prog_94_method_6_code 16 = .ok (.aload_n 2, 1) := by decide +kernel
theorem d7_17 : decode prog_94_method_6_code 17 = .ok (.getfield 13, 3) := by decide +kernel
theorem d7_20 : decode prog_94_method_6_code 20 = .ok (.if_icmp .ne 18, 3) := by decide +kernel
theorem d7_23 : decode prog_94_method_6_code 23 = .ok (.aload_n 0, 1) := by decide +kernel
theorem d7_24 : decode prog_94_method_6_code 24 = .ok (.getfield 17, 3) := by decide +kernel
theorem d7_27 : decode prog_94_method_6_code 27 = .ok (.aload_n 2, 1) := by decide +kernel
theorem d7_28 : decode prog_94_method_6_code 28 = .ok (.getfield 17, 3) := by decide +kernel
theorem d7_31 : decode prog_94_method_6_code 31 = .ok (.if_icmp .ne 7, 3) := by decide +kernel
theorem d7_34 : decode prog_94_method_6_code 34 = .ok (.iconst 1, 1) := by decide +kernel
theorem d7_35 : decode prog_94_method_6_code 35 = .ok (.goto 4, 3) := by decide +kernel
theorem d7_38 : decode prog_94_method_6_code 38 = .ok (.iconst 0, 1) := by decide +kernel
theorem d7_39 : decode prog_94_method_6_code 39 = .ok (.ireturn, 1) := by decide +kernel
theorem pn7 : plainName "com/example/elidora/elidora/Value$Element" = true := by first | (simp [plainName, overriddenIn]; done) | decide +kernel
theorem ef7 (m : MethodId) (o0 : Addr) (o1 : Addr) : entryFrame m #[(.ref o0), (.ref o1)] 3 = mkF m 0 #[.val (.ref o0), .val (.ref o1), .unset] [] := by first | (simp [entryFrame, mkF, argsToLocals, Value.category]; done) | rfl
def Q7 (Z : State) (o0 : Addr) (o1 : Addr) (x0 : Int32) (x1 : Int32) (y0 : Int32) (y1 : Int32) (h0 : Heap) (n0 : Nat) (v : Option Value) (h : Heap) (L : List Loc) : Prop := v = some (.int (w7_r1 x0 x1 y0 y1)) ∧ Fr n0 L ∧ h = h0
set_option maxRecDepth 65536 in
set_option maxHeartbeats 40000000 in
theorem rm7 (l : Launch) (Z : State) (a0 : Array Value) (hw : ∀ d ∈ tables_1, d.before a0 Z = true) (ws : List Jvm.Cond) (o0 : Addr) (o1 : Addr) (x0 : Int32) (x1 : Int32) (y0 : Int32) (y1 : Int32) (h0 : Heap) (n0 : Nat) (Z0 : n0 ≤ h0.size) (E_o1 : Exa Z h0 o1 "com/example/elidora/elidora/Value$Element") (F_o0_set : Fld Z h0 o0 "com/example/elidora/elidora/Value$Element" "set" "I" (.int x0)) (F_o0_ordinal : Fld Z h0 o0 "com/example/elidora/elidora/Value$Element" "ordinal" "I" (.int x1)) (F_o1_set : Fld Z h0 o1 "com/example/elidora/elidora/Value$Element" "set" "I" (.int y0)) (F_o1_ordinal : Fld Z h0 o1 "com/example/elidora/elidora/Value$Element" "ordinal" "I" (.int y1)) :
    MetFree l (⟨"com/example/elidora/elidora/Value$Element", "equals", "(Ljava/lang/Object;)Z"⟩ : MethodName) (head1 (Jvm.Cond.code (⟨"com/example/elidora/elidora/Value$Element", "equals", "(Ljava/lang/Object;)Z"⟩ : MethodName) prog_94_method_6_code 3 (some .boolean) :: ws) ({ frames := 0, cells := 0, slots := 0, locals := 0 } : Room)) (fun a U => a = #[(.ref o0), (.ref o1)] ∧ Z.Warmed39 U.vm ∧ U.heap = h0) (fun _ _ _ _ _ => True) (fun _ U o U' => ∃ v L, o = .returned v ∧ Q7 Z o0 o1 x0 x1 y0 y1 h0 n0 v U'.heap L ∧ FrameEnd U o U' L ({ frames := 0, cells := 0, slots := 0, locals := 0 } : Room).cells ({ frames := 0, cells := 0, slots := 0, locals := 0 } : Room).slots) := by
  refine MetFree.of_bodySF (plainFor_of_name pn7) hisR ?_
  intro p e s m args below meth c s₁ Bd hml0 hP hK
  obtain ⟨rfl, hZ, hh⟩ := hP
  have hlk : meth.locks = false := BodyLoose.notSynchronized Bd
  have hx := Bd.exec
  have hby := Bd.bytes
  have hml : c.maxLocals = 3 := hml0
  have hown : s.vm.findClass "com/example/elidora/elidora/Value$Element" = some m.cls := findClass_of_methodNamed Bd.named
  have hnm := (name_of_methodNamed Bd.named Bd.method).1
  have X0 : Stand p l e ({ frames := 0, cells := 0, slots := 0, locals := 0 } : Room) s m #[(.ref o0), (.ref o1)] below meth c s₁ [] 0 0 := Stand.of_body Bd
  have e0 : s₁.heap = h0 := by rw [← hh, Bd.state]; rfl
  have N0 := Fr.nil n0
  obtain ⟨S0, hS0⟩ : ∃ S0, S0 = s₁.setTop (entryFrame m #[(.ref o0), (.ref o1)] 3) := ⟨_, rfl⟩
  have pre0 : ∀ t, Steps p.tables e below (s₁.setTop (mkF m 0 #[.val (.ref o0), .val (.ref o1), .unset] [])) t → Steps p.tables e below S0 t := fun t k => by rw [hS0]; exact castTop (ef7 m o0 o1) k
  have K1 : ∀ t, Steps p.tables e below (s₁.setTop (mkF m 1 #[.val (.ref o0), .val (.ref o1), .unset] [(.ref o1)])) t → Steps p.tables e below S0 t := fun t k => pre0 t (by
    refine XS.aloadN X0.here hx rfl (hb hby d7_0) rfl rfl ?_
    show Steps p.tables e below (s₁.setTop (mkF m 1 #[.val (.ref o0), .val (.ref o1), .unset] [(.ref o1)])) _
    exact k)
  obtain ⟨T2, X2, e2, st2⟩ := instY X0 hx hZ hown (hw _ (List.mem_of_getElem? (i := 49) rfl)) e0 (Ins.self E_o1) (g := (mkF m 1 #[.val (.ref o0), .val (.ref o1), .unset] [(.ref o1)])) rfl rfl (hb hby d7_1)
  have K2 : ∀ t, Steps p.tables e below (T2.setTop (mkF m 4 #[.val (.ref o0), .val (.ref o1), .unset] [(.int (1 : Int32))])) t → Steps p.tables e below S0 t := fun t k => K1 t (st2 t k)
  have K3 : ∀ t, Steps p.tables e below (T2.setTop (mkF m 8 #[.val (.ref o0), .val (.ref o1), .unset] [(.ref o1)])) t → Steps p.tables e below S0 t := fun t k => K2 t (by
    refine XS.ifNo X2.here hx rfl (hb hby d7_4) rfl (XT.i0_eq_f (by decide)) ?_
    show Steps p.tables e below (T2.setTop (mkF m 7 #[.val (.ref o0), .val (.ref o1), .unset] [])) _
    refine XS.aloadN X2.here hx rfl (hb hby d7_7) rfl rfl ?_
    show Steps p.tables e below (T2.setTop (mkF m 8 #[.val (.ref o0), .val (.ref o1), .unset] [(.ref o1)])) _
    exact k)
  obtain ⟨T4, X4, e4, st4⟩ := castY X2 hx hZ hown (hw _ (List.mem_of_getElem? (i := 49) rfl)) e2 (Ins.self E_o1) (g := (mkF m 8 #[.val (.ref o0), .val (.ref o1), .unset] [(.ref o1)])) rfl rfl (hb hby d7_8)
  have K4 : ∀ t, Steps p.tables e below (T4.setTop (mkF m 11 #[.val (.ref o0), .val (.ref o1), .unset] [(.ref o1)])) t → Steps p.tables e below S0 t := fun t k => K3 t (st4 t k)
  have K5 : ∀ t, Steps p.tables e below (T4.setTop (mkF m 13 #[.val (.ref o0), .val (.ref o1), .val (.ref o1)] [(.ref o0)])) t → Steps p.tables e below S0 t := fun t k => K4 t (by
    refine XS.astoreN X4.here hx rfl (hb hby d7_11) rfl rfl (l' := #[.val (.ref o0), .val (.ref o1), .val (.ref o1)]) rfl ?_
    show Steps p.tables e below (T4.setTop (mkF m 12 #[.val (.ref o0), .val (.ref o1), .val (.ref o1)] [])) _
    refine XS.aloadN X4.here hx rfl (hb hby d7_12) rfl rfl ?_
    show Steps p.tables e below (T4.setTop (mkF m 13 #[.val (.ref o0), .val (.ref o1), .val (.ref o1)] [(.ref o0)])) _
    exact k)
  obtain ⟨T6, X6, e6, st6⟩ := getF X4 hx hZ hown (host := "") (Or.inl (hw _ (List.mem_of_getElem? (i := 40) rfl))) Via.refl e4 F_o0_set (g := (mkF m 13 #[.val (.ref o0), .val (.ref o1), .val (.ref o1)] [(.ref o0)])) rfl rfl (hb hby d7_13)
  have K6 : ∀ t, Steps p.tables e below (T6.setTop (mkF m 16 #[.val (.ref o0), .val (.ref o1), .val (.ref o1)] [(.int x0)])) t → Steps p.tables e below S0 t := fun t k => K5 t (st6 t k)
  have K7 : ∀ t, Steps p.tables e below (T6.setTop (mkF m 17 #[.val (.ref o0), .val (.ref o1), .val (.ref o1)] [(.ref o1), (.int x0)])) t → Steps p.tables e below S0 t := fun t k => K6 t (by
    refine XS.aloadN X6.here hx rfl (hb hby d7_16) rfl rfl ?_
    show Steps p.tables e below (T6.setTop (mkF m 17 #[.val (.ref o0), .val (.ref o1), .val (.ref o1)] [(.ref o1), (.int x0)])) _
    exact k)
  obtain ⟨T8, X8, e8, st8⟩ := getF X6 hx hZ hown (host := "") (Or.inl (hw _ (List.mem_of_getElem? (i := 40) rfl))) Via.refl e6 F_o1_set (g := (mkF m 17 #[.val (.ref o0), .val (.ref o1), .val (.ref o1)] [(.ref o1), (.int x0)])) rfl rfl (hb hby d7_17)
  have K8 : ∀ t, Steps p.tables e below (T8.setTop (mkF m 20 #[.val (.ref o0), .val (.ref o1), .val (.ref o1)] [(.int y0), (.int x0)])) t → Steps p.tables e below S0 t := fun t k => K7 t (st8 t k)
  by_cases hc20_0 : x0 = y0
  · -- yes
    have K9 : ∀ t, Steps p.tables e below (T8.setTop (mkF m 24 #[.val (.ref o0), .val (.ref o1), .val (.ref o1)] [(.ref o0)])) t → Steps p.tables e below S0 t := fun t k => K8 t (by
      refine XS.icmpNo X8.here hx rfl (hb hby d7_20) rfl (XT.ii_ne_f hc20_0) ?_
      show Steps p.tables e below (T8.setTop (mkF m 23 #[.val (.ref o0), .val (.ref o1), .val (.ref o1)] [])) _
      refine XS.aloadN X8.here hx rfl (hb hby d7_23) rfl rfl ?_
      show Steps p.tables e below (T8.setTop (mkF m 24 #[.val (.ref o0), .val (.ref o1), .val (.ref o1)] [(.ref o0)])) _
      exact k)
    obtain ⟨T10, X10, e10, st10⟩ := getF X8 hx hZ hown (host := "") (Or.inl (hw _ (List.mem_of_getElem? (i := 42) rfl))) Via.refl e8 F_o0_ordinal (g := (mkF m 24 #[.val (.ref o0), .val (.ref o1), .val (.ref o1)] [(.ref o0)])) rfl rfl (hb hby d7_24)
    have K10 : ∀ t, Steps p.tables e below (T10.setTop (mkF m 27 #[.val (.ref o0), .val (.ref o1), .val (.ref o1)] [(.int x1)])) t → Steps p.tables e below S0 t := fun t k => K9 t (st10 t k)
    have K11 : ∀ t, Steps p.tables e below (T10.setTop (mkF m 28 #[.val (.ref o0), .val (.ref o1), .val (.ref o1)] [(.ref o1), (.int x1)])) t → Steps p.tables e below S0 t := fun t k => K10 t (by
      refine XS.aloadN X10.here hx rfl (hb hby d7_27) rfl rfl ?_
      show Steps p.tables e below (T10.setTop (mkF m 28 #[.val (.ref o0), .val (.ref o1), .val (.ref o1)] [(.ref o1), (.int x1)])) _
      exact k)
    obtain ⟨T12, X12, e12, st12⟩ := getF X10 hx hZ hown (host := "") (Or.inl (hw _ (List.mem_of_getElem? (i := 42) rfl))) Via.refl e10 F_o1_ordinal (g := (mkF m 28 #[.val (.ref o0), .val (.ref o1), .val (.ref o1)] [(.ref o1), (.int x1)])) rfl rfl (hb hby d7_28)
    have K12 : ∀ t, Steps p.tables e below (T12.setTop (mkF m 31 #[.val (.ref o0), .val (.ref o1), .val (.ref o1)] [(.int y1), (.int x1)])) t → Steps p.tables e below S0 t := fun t k => K11 t (st12 t k)
    by_cases hc31_1 : x1 = y1
    · -- yes
      have K13 : ∀ t, Steps p.tables e below (T12.setTop (mkF m 39 #[.val (.ref o0), .val (.ref o1), .val (.ref o1)] [(.int (1 : Int32))])) t → Steps p.tables e below S0 t := fun t k => K12 t (by
        refine XS.icmpNo X12.here hx rfl (hb hby d7_31) rfl (XT.ii_ne_f hc31_1) ?_
        show Steps p.tables e below (T12.setTop (mkF m 34 #[.val (.ref o0), .val (.ref o1), .val (.ref o1)] [])) _
        refine XS.iconst X12.here hx rfl (hb hby d7_34) ?_
        show Steps p.tables e below (T12.setTop (mkF m 35 #[.val (.ref o0), .val (.ref o1), .val (.ref o1)] [(.int (1 : Int32))])) _
        refine XS.goto X12.here hx rfl (pc0 := 35) (pc' := 39) rfl (hb hby d7_35) (by decide) (by decide) ?_
        show Steps p.tables e below (T12.setTop (mkF m 39 #[.val (.ref o0), .val (.ref o1), .val (.ref o1)] [(.int (1 : Int32))])) _
        exact k)
      obtain ⟨fs, hr, hrun, hended, hW, hsame⟩ := X12.leave (v := some (.int (1 : Int32))) (fun h => by rw [Bd.returns] at h; cases h) hlk
      refine ⟨_, _, ?_, hrun, hended, _, _, rfl, ?_, ⟨_, rfl⟩, hW, hsame.mono (by decide) (by decide)⟩
      · rw [← hS0]; exact K13 _ (retN X12 hx (t := .boolean) Bd.returns (by simp) (hb hby d7_39) hr)
      · show Q7 Z o0 o1 x0 x1 y0 y1 h0 n0 _ T12.heap _
        rw [e12]
        have qr : (1 : Int32) = (w7_r1 x0 x1 y0 y1) := by unfold w7_r1; rw [if_pos hc20_0, if_pos hc31_1]
        exact ⟨congrArg (fun z => some (Value.int z)) qr, N0, rfl⟩
    · -- no
      have K14 : ∀ t, Steps p.tables e below (T12.setTop (mkF m 39 #[.val (.ref o0), .val (.ref o1), .val (.ref o1)] [(.int (0 : Int32))])) t → Steps p.tables e below S0 t := fun t k => K12 t (by
        refine XS.icmpYes X12.here hx rfl (pc0 := 31) (pc' := 38) rfl (hb hby d7_31) rfl (XT.ii_ne_t hc31_1) (by decide) (by decide) ?_
        show Steps p.tables e below (T12.setTop (mkF m 38 #[.val (.ref o0), .val (.ref o1), .val (.ref o1)] [])) _
        refine XS.iconst X12.here hx rfl (hb hby d7_38) ?_
        show Steps p.tables e below (T12.setTop (mkF m 39 #[.val (.ref o0), .val (.ref o1), .val (.ref o1)] [(.int (0 : Int32))])) _
        exact k)
      obtain ⟨fs, hr, hrun, hended, hW, hsame⟩ := X12.leave (v := some (.int (0 : Int32))) (fun h => by rw [Bd.returns] at h; cases h) hlk
      refine ⟨_, _, ?_, hrun, hended, _, _, rfl, ?_, ⟨_, rfl⟩, hW, hsame.mono (by decide) (by decide)⟩
      · rw [← hS0]; exact K14 _ (retN X12 hx (t := .boolean) Bd.returns (by simp) (hb hby d7_39) hr)
      · show Q7 Z o0 o1 x0 x1 y0 y1 h0 n0 _ T12.heap _
        rw [e12]
        have qr : (0 : Int32) = (w7_r1 x0 x1 y0 y1) := by unfold w7_r1; rw [if_pos hc20_0, if_neg hc31_1]
        exact ⟨congrArg (fun z => some (Value.int z)) qr, N0, rfl⟩
  · -- no
    have K15 : ∀ t, Steps p.tables e below (T8.setTop (mkF m 39 #[.val (.ref o0), .val (.ref o1), .val (.ref o1)] [(.int (0 : Int32))])) t → Steps p.tables e below S0 t := fun t k => K8 t (by
      refine XS.icmpYes X8.here hx rfl (pc0 := 20) (pc' := 38) rfl (hb hby d7_20) rfl (XT.ii_ne_t hc20_0) (by decide) (by decide) ?_
      show Steps p.tables e below (T8.setTop (mkF m 38 #[.val (.ref o0), .val (.ref o1), .val (.ref o1)] [])) _
      refine XS.iconst X8.here hx rfl (hb hby d7_38) ?_
      show Steps p.tables e below (T8.setTop (mkF m 39 #[.val (.ref o0), .val (.ref o1), .val (.ref o1)] [(.int (0 : Int32))])) _
      exact k)
    obtain ⟨fs, hr, hrun, hended, hW, hsame⟩ := X8.leave (v := some (.int (0 : Int32))) (fun h => by rw [Bd.returns] at h; cases h) hlk
    refine ⟨_, _, ?_, hrun, hended, _, _, rfl, ?_, ⟨_, rfl⟩, hW, hsame.mono (by decide) (by decide)⟩
    · rw [← hS0]; exact K15 _ (retN X8 hx (t := .boolean) Bd.returns (by simp) (hb hby d7_39) hr)
    · show Q7 Z o0 o1 x0 x1 y0 y1 h0 n0 _ T8.heap _
      rw [e8]
      have qr : (0 : Int32) = (w7_r1 x0 x1 y0 y1) := by unfold w7_r1; rw [if_neg hc20_0]
      exact ⟨congrArg (fun z => some (Value.int z)) qr, N0, rfl⟩
theorem d8_0 : decode prog_94_method_6_code 0 = .ok (.aload_n 1, 1) := by decide +kernel
theorem d8_1 : decode prog_94_method_6_code 1 = .ok (.instanceof 8, 3) := by decide +kernel
theorem d8_4 : decode prog_94_method_6_code 4 = .ok (.ifCond .eq 34, 3) := by decide +kernel
theorem d8_38 : decode prog_94_method_6_code 38 = .ok (.iconst 0, 1) := by decide +kernel
theorem d8_39 : decode prog_94_method_6_code 39 = .ok (.ireturn, 1) := by decide +kernel
theorem pn8 : plainName "com/example/elidora/elidora/Value$Element" = true := by first | (simp [plainName, overriddenIn]; done) | decide +kernel
theorem ef8 (m : MethodId) (o0 : Addr) : entryFrame m #[(.ref o0), .null] 3 = mkF m 0 #[.val (.ref o0), .val .null, .unset] [] := by first | (simp [entryFrame, mkF, argsToLocals, Value.category]; done) | rfl
def Q8 (Z : State) (o0 : Addr) (h0 : Heap) (n0 : Nat) (v : Option Value) (h : Heap) (L : List Loc) : Prop := v = some (.int (0 : Int32)) ∧ Fr n0 L ∧ h = h0
set_option maxRecDepth 65536 in
set_option maxHeartbeats 40000000 in
theorem rm8 (l : Launch) (Z : State) (a0 : Array Value) (hw : ∀ d ∈ tables_1, d.before a0 Z = true) (ws : List Jvm.Cond) (o0 : Addr) (h0 : Heap) (n0 : Nat) (Z0 : n0 ≤ h0.size) :
    MetFree l (⟨"com/example/elidora/elidora/Value$Element", "equals", "(Ljava/lang/Object;)Z"⟩ : MethodName) (head1 (Jvm.Cond.code (⟨"com/example/elidora/elidora/Value$Element", "equals", "(Ljava/lang/Object;)Z"⟩ : MethodName) prog_94_method_6_code 3 (some .boolean) :: ws) ({ frames := 0, cells := 0, slots := 0, locals := 0 } : Room)) (fun a U => a = #[(.ref o0), .null] ∧ Z.Warmed39 U.vm ∧ U.heap = h0) (fun _ _ _ _ _ => True) (fun _ U o U' => ∃ v L, o = .returned v ∧ Q8 Z o0 h0 n0 v U'.heap L ∧ FrameEnd U o U' L ({ frames := 0, cells := 0, slots := 0, locals := 0 } : Room).cells ({ frames := 0, cells := 0, slots := 0, locals := 0 } : Room).slots) := by
  refine MetFree.of_bodySF (plainFor_of_name pn8) hisR ?_
  intro p e s m args below meth c s₁ Bd hml0 hP hK
  obtain ⟨rfl, hZ, hh⟩ := hP
  have hlk : meth.locks = false := BodyLoose.notSynchronized Bd
  have hx := Bd.exec
  have hby := Bd.bytes
  have hml : c.maxLocals = 3 := hml0
  have hown : s.vm.findClass "com/example/elidora/elidora/Value$Element" = some m.cls := findClass_of_methodNamed Bd.named
  have hnm := (name_of_methodNamed Bd.named Bd.method).1
  have X0 : Stand p l e ({ frames := 0, cells := 0, slots := 0, locals := 0 } : Room) s m #[(.ref o0), .null] below meth c s₁ [] 0 0 := Stand.of_body Bd
  have e0 : s₁.heap = h0 := by rw [← hh, Bd.state]; rfl
  have N0 := Fr.nil n0
  obtain ⟨S0, hS0⟩ : ∃ S0, S0 = s₁.setTop (entryFrame m #[(.ref o0), .null] 3) := ⟨_, rfl⟩
  have pre0 : ∀ t, Steps p.tables e below (s₁.setTop (mkF m 0 #[.val (.ref o0), .val .null, .unset] [])) t → Steps p.tables e below S0 t := fun t k => by rw [hS0]; exact castTop (ef8 m o0) k
  have K1 : ∀ t, Steps p.tables e below (s₁.setTop (mkF m 1 #[.val (.ref o0), .val .null, .unset] [.null])) t → Steps p.tables e below S0 t := fun t k => pre0 t (by
    refine XS.aloadN X0.here hx rfl (hb hby d8_0) rfl rfl ?_
    show Steps p.tables e below (s₁.setTop (mkF m 1 #[.val (.ref o0), .val .null, .unset] [.null])) _
    exact k)
  have K2 : ∀ t, Steps p.tables e below (s₁.setTop (mkF m 4 #[.val (.ref o0), .val .null, .unset] [(.int (0 : Int32))])) t → Steps p.tables e below S0 t := fun t k => K1 t (by
    refine X0.instanceofNull hx (g := (mkF m 1 #[.val (.ref o0), .val .null, .unset] [.null])) rfl rfl (hb hby d8_1) _ ?_
    show Steps p.tables e below (s₁.setTop (mkF m 4 #[.val (.ref o0), .val .null, .unset] [(.int (0 : Int32))])) _
    exact k)
  have K3 : ∀ t, Steps p.tables e below (s₁.setTop (mkF m 39 #[.val (.ref o0), .val .null, .unset] [(.int (0 : Int32))])) t → Steps p.tables e below S0 t := fun t k => K2 t (by
    refine XS.ifYes X0.here hx rfl (pc0 := 4) (pc' := 38) rfl (hb hby d8_4) rfl (XT.i0_eq_t (by decide)) (by decide) (by decide) ?_
    show Steps p.tables e below (s₁.setTop (mkF m 38 #[.val (.ref o0), .val .null, .unset] [])) _
    refine XS.iconst X0.here hx rfl (hb hby d8_38) ?_
    show Steps p.tables e below (s₁.setTop (mkF m 39 #[.val (.ref o0), .val .null, .unset] [(.int (0 : Int32))])) _
    exact k)
  obtain ⟨fs, hr, hrun, hended, hW, hsame⟩ := X0.leave (v := some (.int (0 : Int32))) (fun h => by rw [Bd.returns] at h; cases h) hlk
  refine ⟨_, _, ?_, hrun, hended, _, _, rfl, ?_, ⟨_, rfl⟩, hW, hsame.mono (by decide) (by decide)⟩
  · rw [← hS0]; exact K3 _ (retN X0 hx (t := .boolean) Bd.returns (by simp) (hb hby d8_39) hr)
  · show Q8 Z o0 h0 n0 _ s₁.heap _
    rw [e0]
    exact ⟨rfl, N0, rfl⟩
theorem d9_0 : decode prog_94_method_6_code 0 = .ok (.aload_n 1, 1) := by decide +kernel
theorem d9_1 : decode prog_94_method_6_code 1 = .ok (.instanceof 8, 3) := by decide +kernel
theorem d9_4 : decode prog_94_method_6_code 4 = .ok (.ifCond .eq 34, 3) := by decide +kernel
theorem d9_38 : decode prog_94_method_6_code 38 = .ok (.iconst 0, 1) := by decide +kernel
theorem d9_39 : decode prog_94_method_6_code 39 = .ok (.ireturn, 1) := by decide +kernel
theorem pn9 : plainName "com/example/elidora/elidora/Value$Element" = true := by first | (simp [plainName, overriddenIn]; done) | decide +kernel
theorem ef9 (m : MethodId) (o0 : Addr) (o1 : Addr) : entryFrame m #[(.ref o0), (.ref o1)] 3 = mkF m 0 #[.val (.ref o0), .val (.ref o1), .unset] [] := by first | (simp [entryFrame, mkF, argsToLocals, Value.category]; done) | rfl
def Q9 (Z : State) (o0 : Addr) (o1 : Addr) (h0 : Heap) (n0 : Nat) (v : Option Value) (h : Heap) (L : List Loc) : Prop := v = some (.int (0 : Int32)) ∧ Fr n0 L ∧ h = h0
set_option maxRecDepth 65536 in
set_option maxHeartbeats 40000000 in
theorem rm9 (l : Launch) (Z : State) (a0 : Array Value) (hw : ∀ d ∈ tables_1, d.before a0 Z = true) (ws : List Jvm.Cond) (o0 : Addr) (o1 : Addr) (h0 : Heap) (n0 : Nat) (Z0 : n0 ≤ h0.size) (E_o1 : Exa Z h0 o1 "java/lang/String") :
    MetFree l (⟨"com/example/elidora/elidora/Value$Element", "equals", "(Ljava/lang/Object;)Z"⟩ : MethodName) (head1 (Jvm.Cond.code (⟨"com/example/elidora/elidora/Value$Element", "equals", "(Ljava/lang/Object;)Z"⟩ : MethodName) prog_94_method_6_code 3 (some .boolean) :: ws) ({ frames := 0, cells := 0, slots := 0, locals := 0 } : Room)) (fun a U => a = #[(.ref o0), (.ref o1)] ∧ Z.Warmed39 U.vm ∧ U.heap = h0) (fun _ _ _ _ _ => True) (fun _ U o U' => ∃ v L, o = .returned v ∧ Q9 Z o0 o1 h0 n0 v U'.heap L ∧ FrameEnd U o U' L ({ frames := 0, cells := 0, slots := 0, locals := 0 } : Room).cells ({ frames := 0, cells := 0, slots := 0, locals := 0 } : Room).slots) := by
  refine MetFree.of_bodySF (plainFor_of_name pn9) hisR ?_
  intro p e s m args below meth c s₁ Bd hml0 hP hK
  obtain ⟨rfl, hZ, hh⟩ := hP
  have hlk : meth.locks = false := BodyLoose.notSynchronized Bd
  have hx := Bd.exec
  have hby := Bd.bytes
  have hml : c.maxLocals = 3 := hml0
  have hown : s.vm.findClass "com/example/elidora/elidora/Value$Element" = some m.cls := findClass_of_methodNamed Bd.named
  have hnm := (name_of_methodNamed Bd.named Bd.method).1
  have X0 : Stand p l e ({ frames := 0, cells := 0, slots := 0, locals := 0 } : Room) s m #[(.ref o0), (.ref o1)] below meth c s₁ [] 0 0 := Stand.of_body Bd
  have e0 : s₁.heap = h0 := by rw [← hh, Bd.state]; rfl
  have N0 := Fr.nil n0
  obtain ⟨S0, hS0⟩ : ∃ S0, S0 = s₁.setTop (entryFrame m #[(.ref o0), (.ref o1)] 3) := ⟨_, rfl⟩
  have pre0 : ∀ t, Steps p.tables e below (s₁.setTop (mkF m 0 #[.val (.ref o0), .val (.ref o1), .unset] [])) t → Steps p.tables e below S0 t := fun t k => by rw [hS0]; exact castTop (ef9 m o0 o1) k
  have K1 : ∀ t, Steps p.tables e below (s₁.setTop (mkF m 1 #[.val (.ref o0), .val (.ref o1), .unset] [(.ref o1)])) t → Steps p.tables e below S0 t := fun t k => pre0 t (by
    refine XS.aloadN X0.here hx rfl (hb hby d9_0) rfl rfl ?_
    show Steps p.tables e below (s₁.setTop (mkF m 1 #[.val (.ref o0), .val (.ref o1), .unset] [(.ref o1)])) _
    exact k)
  obtain ⟨T2, X2, e2, st2⟩ := instNo X0 hx hZ hown (hw _ (List.mem_of_getElem? (i := 49) rfl)) e0 E_o1 (own_nsno (hw _ (List.mem_of_getElem? (i := 51) rfl)) (hw _ (List.mem_of_getElem? (i := 27) rfl)) (NS.step (hw _ (List.mem_of_getElem? (i := 51) rfl)) (own_nsroot (hw _ (List.mem_of_getElem? (i := 52) rfl)) (hw _ (List.mem_of_getElem? (i := 27) rfl)) (by decide)) (by decide)) (by decide)) (g := (mkF m 1 #[.val (.ref o0), .val (.ref o1), .unset] [(.ref o1)])) rfl rfl (hb hby d9_1)
  have K2 : ∀ t, Steps p.tables e below (T2.setTop (mkF m 4 #[.val (.ref o0), .val (.ref o1), .unset] [(.int (0 : Int32))])) t → Steps p.tables e below S0 t := fun t k => K1 t (st2 t k)
  have K3 : ∀ t, Steps p.tables e below (T2.setTop (mkF m 39 #[.val (.ref o0), .val (.ref o1), .unset] [(.int (0 : Int32))])) t → Steps p.tables e below S0 t := fun t k => K2 t (by
    refine XS.ifYes X2.here hx rfl (pc0 := 4) (pc' := 38) rfl (hb hby d9_4) rfl (XT.i0_eq_t (by decide)) (by decide) (by decide) ?_
    show Steps p.tables e below (T2.setTop (mkF m 38 #[.val (.ref o0), .val (.ref o1), .unset] [])) _
    refine XS.iconst X2.here hx rfl (hb hby d9_38) ?_
    show Steps p.tables e below (T2.setTop (mkF m 39 #[.val (.ref o0), .val (.ref o1), .unset] [(.int (0 : Int32))])) _
    exact k)
  obtain ⟨fs, hr, hrun, hended, hW, hsame⟩ := X2.leave (v := some (.int (0 : Int32))) (fun h => by rw [Bd.returns] at h; cases h) hlk
  refine ⟨_, _, ?_, hrun, hended, _, _, rfl, ?_, ⟨_, rfl⟩, hW, hsame.mono (by decide) (by decide)⟩
  · rw [← hS0]; exact K3 _ (retN X2 hx (t := .boolean) Bd.returns (by simp) (hb hby d9_39) hr)
  · show Q9 Z o0 o1 h0 n0 _ T2.heap _
    rw [e2]
    exact ⟨rfl, N0, rfl⟩
theorem pn0 : plainName "com/example/elidora/elidora/ElementEqualsPinLaw" = true := by first | (simp [plainName, overriddenIn]; done) | decide +kernel
theorem pd0_0 : parseMethodDescriptor "(C)Ljava/lang/String;" = some ⟨[.char], some (.object "java/lang/String")⟩ := by decide +kernel
theorem pd0_1 : parseMethodDescriptor "(Ljava/lang/String;II)V" = some ⟨[(.object "java/lang/String"), .int, .int], none⟩ := by decide +kernel
theorem pd0_2 : parseMethodDescriptor "(Ljava/lang/Object;)Z" = some ⟨[(.object "java/lang/Object")], some .boolean⟩ := by decide +kernel
theorem ef0 (m : MethodId) (p0 : Int32) (p1 : Int32) (p2 : Int32) (p3 : Int32) (p4 : Int32) (p5 : Int32) : entryFrame m #[(.int p0), (.int p1), (.int p2), (.int p3), (.int p4), (.int p5)] maxLocals = mkF m 0 #[.val (.int p0), .val (.int p1), .val (.int p2), .val (.int p3), .val (.int p4), .val (.int p5), .unset, .unset, .unset, .unset, .unset, .unset, .unset, .unset, .unset, .unset, .unset, .unset, .unset] [] := by first | (simp [entryFrame, mkF, argsToLocals, Value.category, maxLocals]; done) | rfl
def Q0 (Z : State) (p0 : Int32) (p1 : Int32) (p2 : Int32) (p3 : Int32) (p4 : Int32) (p5 : Int32) (zc : Int32) (h0 : Heap) (n0 : Nat) (v : Option Value) (h : Heap) (L : List Loc) : Prop := v = some (.int (w0_r10 p0 p1 p2 p3 p5)) ∧ Fr n0 L
set_option maxRecDepth 65536 in
set_option maxHeartbeats 40000000 in
theorem rm0 (l : Launch) (Z : State) (a0 : Array Value) (hw : ∀ d ∈ tables_1, d.before a0 Z = true) (ws : List Jvm.Cond) (p0 : Int32) (p1 : Int32) (p2 : Int32) (p3 : Int32) (p4 : Int32) (p5 : Int32) (zc : Int32) (h0 : Heap) (n0 : Nat) (Z0 : n0 ≤ h0.size) (S_String_COMPACT_STRINGS : Sta Z Z.heap "java/lang/String" "COMPACT_STRINGS" "Z" (.int zc)) (hz : ¬ zc = (0 : Int32)) (OL0 : Old Z n0 h0) :
    MetFree l x (head1 (Jvm.Cond.code x code maxLocals ret :: ws) room_1) (fun a U => a = #[(.int p0), (.int p1), (.int p2), (.int p3), (.int p4), (.int p5)] ∧ Z.Warmed39 U.vm ∧ U.heap = h0) (fun _ _ _ _ _ => True) (fun _ U o U' => ∃ v L, o = .returned v ∧ Q0 Z p0 p1 p2 p3 p4 p5 zc h0 n0 v U'.heap L ∧ FrameEnd U o U' L 6 16) := by
  refine MetFree.of_bodySF (plainFor_of_name pn0) hisR ?_
  intro p e s m args below meth c s₁ Bd hml0 hP hK
  obtain ⟨rfl, hZ, hh⟩ := hP
  have hlk : meth.locks = false := BodyLoose.notSynchronized Bd
  have hx := Bd.exec
  have hby := Bd.bytes
  have hml : c.maxLocals = 19 := hml0
  have hown : s.vm.findClass "com/example/elidora/elidora/ElementEqualsPinLaw" = some m.cls := findClass_of_methodNamed Bd.named
  have hnm := (name_of_methodNamed Bd.named Bd.method).1
  have X0 : Stand p l e room_1 s m #[(.int p0), (.int p1), (.int p2), (.int p3), (.int p4), (.int p5)] below meth c s₁ [] 0 0 := Stand.of_body Bd
  have e0 : s₁.heap = h0 := by rw [← hh, Bd.state]; rfl
  have N0 := Fr.nil n0
  obtain ⟨S0, hS0⟩ : ∃ S0, S0 = s₁.setTop (entryFrame m #[(.int p0), (.int p1), (.int p2), (.int p3), (.int p4), (.int p5)] maxLocals) := ⟨_, rfl⟩
  have pre0 : ∀ t, Steps p.tables e below (s₁.setTop (mkF m 0 #[.val (.int p0), .val (.int p1), .val (.int p2), .val (.int p3), .val (.int p4), .val (.int p5), .unset, .unset, .unset, .unset, .unset, .unset, .unset, .unset, .unset, .unset, .unset, .unset, .unset] [])) t → Steps p.tables e below S0 t := fun t k => by rw [hS0]; exact castTop (ef0 m p0 p1 p2 p3 p4 p5) k
  have S_String_COMPACT_STRINGS__0 := S_String_COMPACT_STRINGS.ext OL0.2
  have K1 : ∀ t, Steps p.tables e below (s₁.setTop (mkF m 4 #[.val (.int p0), .val (.int p1), .val (.int p2), .val (.int p3), .val (.int p4), .val (.int p5), .unset, .unset, .unset, .unset, .unset, .unset, .unset, .unset, .unset, .unset, .unset, .unset, .unset] [(.int (p5 &&& (1 : Int32)))])) t → Steps p.tables e below S0 t := fun t k => pre0 t (by
    refine XS.iload X0.here hx rfl (hb hby at_0) rfl ?_
    show Steps p.tables e below (s₁.setTop (mkF m 2 #[.val (.int p0), .val (.int p1), .val (.int p2), .val (.int p3), .val (.int p4), .val (.int p5), .unset, .unset, .unset, .unset, .unset, .unset, .unset, .unset, .unset, .unset, .unset, .unset, .unset] [(.int p5)])) _
    refine XS.iconst X0.here hx rfl (hb hby at_2) ?_
    show Steps p.tables e below (s₁.setTop (mkF m 3 #[.val (.int p0), .val (.int p1), .val (.int p2), .val (.int p3), .val (.int p4), .val (.int p5), .unset, .unset, .unset, .unset, .unset, .unset, .unset, .unset, .unset, .unset, .unset, .unset, .unset] [(.int (1 : Int32)), (.int p5)])) _
    refine XS.iand X0.here hx rfl (hb hby at_3) rfl ?_
    show Steps p.tables e below (s₁.setTop (mkF m 4 #[.val (.int p0), .val (.int p1), .val (.int p2), .val (.int p3), .val (.int p4), .val (.int p5), .unset, .unset, .unset, .unset, .unset, .unset, .unset, .unset, .unset, .unset, .unset, .unset, .unset] [(.int (p5 &&& (1 : Int32)))])) _
    exact k)
  obtain ⟨T2, lo2, X2, N2, e2, K2⟩ : ∃ (T' : State) (locs' : List Loc), Stand p l e room_1 s m #[(.int p0), (.int p1), (.int p2), (.int p3), (.int p4), (.int p5)] below meth c T' locs' 0 0 ∧ Fr n0 locs' ∧ T'.heap = h0 ∧ ∀ t, Steps p.tables e below (T'.setTop (mkF m 12 #[.val (.int p0), .val (.int p1), .val (.int p2), .val (.int p3), .val (.int p4), .val (.int p5), .unset, .unset, .unset, .unset, .unset, .unset, .unset, .unset, .unset, .unset, .unset, .unset, .unset] [(.int (w0_m1 p5))])) t → Steps p.tables e below S0 t := by
    by_cases hc4_0 : (p5 &&& (1 : Int32)) = (0 : Int32)
    · -- yes
      have K3 : ∀ t, Steps p.tables e below (s₁.setTop (mkF m 12 #[.val (.int p0), .val (.int p1), .val (.int p2), .val (.int p3), .val (.int p4), .val (.int p5), .unset, .unset, .unset, .unset, .unset, .unset, .unset, .unset, .unset, .unset, .unset, .unset, .unset] [(.int (0 : Int32))])) t → Steps p.tables e below S0 t := fun t k => K1 t (by
        refine XS.ifYes X0.here hx rfl (pc0 := 4) (pc' := 11) rfl (hb hby at_4) rfl (XT.i0_eq_t hc4_0) (by decide) (by decide) ?_
        show Steps p.tables e below (s₁.setTop (mkF m 11 #[.val (.int p0), .val (.int p1), .val (.int p2), .val (.int p3), .val (.int p4), .val (.int p5), .unset, .unset, .unset, .unset, .unset, .unset, .unset, .unset, .unset, .unset, .unset, .unset, .unset] [])) _
        refine XS.iconst X0.here hx rfl (hb hby at_11) ?_
        show Steps p.tables e below (s₁.setTop (mkF m 12 #[.val (.int p0), .val (.int p1), .val (.int p2), .val (.int p3), .val (.int p4), .val (.int p5), .unset, .unset, .unset, .unset, .unset, .unset, .unset, .unset, .unset, .unset, .unset, .unset, .unset] [(.int (0 : Int32))])) _
        exact k)
      have q4 : (w0_m1 p5) = (0 : Int32) := by unfold w0_m1; rw [if_pos hc4_0]
      exact ⟨s₁, _, X0, N0, e0, fun t k => K3 t (by rw [q4] at k; exact k)⟩
    · -- no
      have K5 : ∀ t, Steps p.tables e below (s₁.setTop (mkF m 12 #[.val (.int p0), .val (.int p1), .val (.int p2), .val (.int p3), .val (.int p4), .val (.int p5), .unset, .unset, .unset, .unset, .unset, .unset, .unset, .unset, .unset, .unset, .unset, .unset, .unset] [(.int (1 : Int32))])) t → Steps p.tables e below S0 t := fun t k => K1 t (by
        refine XS.ifNo X0.here hx rfl (hb hby at_4) rfl (XT.i0_eq_f hc4_0) ?_
        show Steps p.tables e below (s₁.setTop (mkF m 7 #[.val (.int p0), .val (.int p1), .val (.int p2), .val (.int p3), .val (.int p4), .val (.int p5), .unset, .unset, .unset, .unset, .unset, .unset, .unset, .unset, .unset, .unset, .unset, .unset, .unset] [])) _
        refine XS.iconst X0.here hx rfl (hb hby at_7) ?_
        show Steps p.tables e below (s₁.setTop (mkF m 8 #[.val (.int p0), .val (.int p1), .val (.int p2), .val (.int p3), .val (.int p4), .val (.int p5), .unset, .unset, .unset, .unset, .unset, .unset, .unset, .unset, .unset, .unset, .unset, .unset, .unset] [(.int (1 : Int32))])) _
        refine XS.goto X0.here hx rfl (pc0 := 8) (pc' := 12) rfl (hb hby at_8) (by decide) (by decide) ?_
        show Steps p.tables e below (s₁.setTop (mkF m 12 #[.val (.int p0), .val (.int p1), .val (.int p2), .val (.int p3), .val (.int p4), .val (.int p5), .unset, .unset, .unset, .unset, .unset, .unset, .unset, .unset, .unset, .unset, .unset, .unset, .unset] [(.int (1 : Int32))])) _
        exact k)
      have q6 : (w0_m1 p5) = (1 : Int32) := by unfold w0_m1; rw [if_neg hc4_0]
      exact ⟨s₁, _, X0, N0, e0, fun t k => K5 t (by rw [q6] at k; exact k)⟩
  have K7 : ∀ t, Steps p.tables e below (T2.setTop (mkF m 18 #[.val (.int p0), .val (.int p1), .val (.int p2), .val (.int p3), .val (.int p4), .val (.int p5), .val (.int (w0_m1 p5)), .unset, .unset, .unset, .unset, .unset, .unset, .unset, .unset, .unset, .unset, .unset, .unset] [(.int (p5 &&& (2 : Int32)))])) t → Steps p.tables e below S0 t := fun t k => K2 t (by
    refine XS.istore X2.here hx rfl (hb hby at_12) rfl (l' := #[.val (.int p0), .val (.int p1), .val (.int p2), .val (.int p3), .val (.int p4), .val (.int p5), .val (.int (w0_m1 p5)), .unset, .unset, .unset, .unset, .unset, .unset, .unset, .unset, .unset, .unset, .unset, .unset]) rfl ?_
    show Steps p.tables e below (T2.setTop (mkF m 14 #[.val (.int p0), .val (.int p1), .val (.int p2), .val (.int p3), .val (.int p4), .val (.int p5), .val (.int (w0_m1 p5)), .unset, .unset, .unset, .unset, .unset, .unset, .unset, .unset, .unset, .unset, .unset, .unset] [])) _
    refine XS.iload X2.here hx rfl (hb hby at_14) rfl ?_
    show Steps p.tables e below (T2.setTop (mkF m 16 #[.val (.int p0), .val (.int p1), .val (.int p2), .val (.int p3), .val (.int p4), .val (.int p5), .val (.int (w0_m1 p5)), .unset, .unset, .unset, .unset, .unset, .unset, .unset, .unset, .unset, .unset, .unset, .unset] [(.int p5)])) _
    refine XS.iconst X2.here hx rfl (hb hby at_16) ?_
    show Steps p.tables e below (T2.setTop (mkF m 17 #[.val (.int p0), .val (.int p1), .val (.int p2), .val (.int p3), .val (.int p4), .val (.int p5), .val (.int (w0_m1 p5)), .unset, .unset, .unset, .unset, .unset, .unset, .unset, .unset, .unset, .unset, .unset, .unset] [(.int (2 : Int32)), (.int p5)])) _
    refine XS.iand X2.here hx rfl (hb hby at_17) rfl ?_
    show Steps p.tables e below (T2.setTop (mkF m 18 #[.val (.int p0), .val (.int p1), .val (.int p2), .val (.int p3), .val (.int p4), .val (.int p5), .val (.int (w0_m1 p5)), .unset, .unset, .unset, .unset, .unset, .unset, .unset, .unset, .unset, .unset, .unset, .unset] [(.int (p5 &&& (2 : Int32)))])) _
    exact k)
  obtain ⟨T8, lo8, X8, N8, e8, K8⟩ : ∃ (T' : State) (locs' : List Loc), Stand p l e room_1 s m #[(.int p0), (.int p1), (.int p2), (.int p3), (.int p4), (.int p5)] below meth c T' locs' 0 0 ∧ Fr n0 locs' ∧ T'.heap = h0 ∧ ∀ t, Steps p.tables e below (T'.setTop (mkF m 26 #[.val (.int p0), .val (.int p1), .val (.int p2), .val (.int p3), .val (.int p4), .val (.int p5), .val (.int (w0_m1 p5)), .unset, .unset, .unset, .unset, .unset, .unset, .unset, .unset, .unset, .unset, .unset, .unset] [(.int (w0_m2 p5))])) t → Steps p.tables e below S0 t := by
    by_cases hc18_0 : (p5 &&& (2 : Int32)) = (0 : Int32)
    · -- yes
      have K9 : ∀ t, Steps p.tables e below (T2.setTop (mkF m 26 #[.val (.int p0), .val (.int p1), .val (.int p2), .val (.int p3), .val (.int p4), .val (.int p5), .val (.int (w0_m1 p5)), .unset, .unset, .unset, .unset, .unset, .unset, .unset, .unset, .unset, .unset, .unset, .unset] [(.int (0 : Int32))])) t → Steps p.tables e below S0 t := fun t k => K7 t (by
        refine XS.ifYes X2.here hx rfl (pc0 := 18) (pc' := 25) rfl (hb hby at_18) rfl (XT.i0_eq_t hc18_0) (by decide) (by decide) ?_
        show Steps p.tables e below (T2.setTop (mkF m 25 #[.val (.int p0), .val (.int p1), .val (.int p2), .val (.int p3), .val (.int p4), .val (.int p5), .val (.int (w0_m1 p5)), .unset, .unset, .unset, .unset, .unset, .unset, .unset, .unset, .unset, .unset, .unset, .unset] [])) _
        refine XS.iconst X2.here hx rfl (hb hby at_25) ?_
        show Steps p.tables e below (T2.setTop (mkF m 26 #[.val (.int p0), .val (.int p1), .val (.int p2), .val (.int p3), .val (.int p4), .val (.int p5), .val (.int (w0_m1 p5)), .unset, .unset, .unset, .unset, .unset, .unset, .unset, .unset, .unset, .unset, .unset, .unset] [(.int (0 : Int32))])) _
        exact k)
      have q10 : (w0_m2 p5) = (0 : Int32) := by unfold w0_m2; rw [if_pos hc18_0]
      exact ⟨T2, _, X2, N2, e2, fun t k => K9 t (by rw [q10] at k; exact k)⟩
    · -- no
      have K11 : ∀ t, Steps p.tables e below (T2.setTop (mkF m 26 #[.val (.int p0), .val (.int p1), .val (.int p2), .val (.int p3), .val (.int p4), .val (.int p5), .val (.int (w0_m1 p5)), .unset, .unset, .unset, .unset, .unset, .unset, .unset, .unset, .unset, .unset, .unset, .unset] [(.int (1 : Int32))])) t → Steps p.tables e below S0 t := fun t k => K7 t (by
        refine XS.ifNo X2.here hx rfl (hb hby at_18) rfl (XT.i0_eq_f hc18_0) ?_
        show Steps p.tables e below (T2.setTop (mkF m 21 #[.val (.int p0), .val (.int p1), .val (.int p2), .val (.int p3), .val (.int p4), .val (.int p5), .val (.int (w0_m1 p5)), .unset, .unset, .unset, .unset, .unset, .unset, .unset, .unset, .unset, .unset, .unset, .unset] [])) _
        refine XS.iconst X2.here hx rfl (hb hby at_21) ?_
        show Steps p.tables e below (T2.setTop (mkF m 22 #[.val (.int p0), .val (.int p1), .val (.int p2), .val (.int p3), .val (.int p4), .val (.int p5), .val (.int (w0_m1 p5)), .unset, .unset, .unset, .unset, .unset, .unset, .unset, .unset, .unset, .unset, .unset, .unset] [(.int (1 : Int32))])) _
        refine XS.goto X2.here hx rfl (pc0 := 22) (pc' := 26) rfl (hb hby at_22) (by decide) (by decide) ?_
        show Steps p.tables e below (T2.setTop (mkF m 26 #[.val (.int p0), .val (.int p1), .val (.int p2), .val (.int p3), .val (.int p4), .val (.int p5), .val (.int (w0_m1 p5)), .unset, .unset, .unset, .unset, .unset, .unset, .unset, .unset, .unset, .unset, .unset, .unset] [(.int (1 : Int32))])) _
        exact k)
      have q12 : (w0_m2 p5) = (1 : Int32) := by unfold w0_m2; rw [if_neg hc18_0]
      exact ⟨T2, _, X2, N2, e2, fun t k => K11 t (by rw [q12] at k; exact k)⟩
  have K13 : ∀ t, Steps p.tables e below (T8.setTop (mkF m 30 #[.val (.int p0), .val (.int p1), .val (.int p2), .val (.int p3), .val (.int p4), .val (.int p5), .val (.int (w0_m1 p5)), .val (.int (w0_m2 p5)), .unset, .unset, .unset, .unset, .unset, .unset, .unset, .unset, .unset, .unset, .unset] [(.int (w0_m1 p5))])) t → Steps p.tables e below S0 t := fun t k => K8 t (by
    refine XS.istore X8.here hx rfl (hb hby at_26) rfl (l' := #[.val (.int p0), .val (.int p1), .val (.int p2), .val (.int p3), .val (.int p4), .val (.int p5), .val (.int (w0_m1 p5)), .val (.int (w0_m2 p5)), .unset, .unset, .unset, .unset, .unset, .unset, .unset, .unset, .unset, .unset, .unset]) rfl ?_
    show Steps p.tables e below (T8.setTop (mkF m 28 #[.val (.int p0), .val (.int p1), .val (.int p2), .val (.int p3), .val (.int p4), .val (.int p5), .val (.int (w0_m1 p5)), .val (.int (w0_m2 p5)), .unset, .unset, .unset, .unset, .unset, .unset, .unset, .unset, .unset, .unset, .unset] [])) _
    refine XS.iload X8.here hx rfl (hb hby at_28) rfl ?_
    show Steps p.tables e below (T8.setTop (mkF m 30 #[.val (.int p0), .val (.int p1), .val (.int p2), .val (.int p3), .val (.int p4), .val (.int p5), .val (.int (w0_m1 p5)), .val (.int (w0_m2 p5)), .unset, .unset, .unset, .unset, .unset, .unset, .unset, .unset, .unset, .unset, .unset] [(.int (w0_m1 p5))])) _
    exact k)
  obtain ⟨T14, lo14, X14, N14, e14, K14⟩ : ∃ (T' : State) (locs' : List Loc), Stand p l e room_1 s m #[(.int p0), (.int p1), (.int p2), (.int p3), (.int p4), (.int p5)] below meth c T' locs' 0 0 ∧ Fr n0 locs' ∧ T'.heap = h0 ∧ ∀ t, Steps p.tables e below (T'.setTop (mkF m 38 #[.val (.int p0), .val (.int p1), .val (.int p2), .val (.int p3), .val (.int p4), .val (.int p5), .val (.int (w0_m1 p5)), .val (.int (w0_m2 p5)), .unset, .unset, .unset, .unset, .unset, .unset, .unset, .unset, .unset, .unset, .unset] [(.int (w0_m3 p0 p2 p5))])) t → Steps p.tables e below S0 t := by
    by_cases hc30_0 : (w0_m1 p5) = (0 : Int32)
    · -- yes
      have K15 : ∀ t, Steps p.tables e below (T8.setTop (mkF m 38 #[.val (.int p0), .val (.int p1), .val (.int p2), .val (.int p3), .val (.int p4), .val (.int p5), .val (.int (w0_m1 p5)), .val (.int (w0_m2 p5)), .unset, .unset, .unset, .unset, .unset, .unset, .unset, .unset, .unset, .unset, .unset] [(.int p2)])) t → Steps p.tables e below S0 t := fun t k => K13 t (by
        refine XS.ifYes X8.here hx rfl (pc0 := 30) (pc' := 37) rfl (hb hby at_30) rfl (XT.i0_eq_t hc30_0) (by decide) (by decide) ?_
        show Steps p.tables e below (T8.setTop (mkF m 37 #[.val (.int p0), .val (.int p1), .val (.int p2), .val (.int p3), .val (.int p4), .val (.int p5), .val (.int (w0_m1 p5)), .val (.int (w0_m2 p5)), .unset, .unset, .unset, .unset, .unset, .unset, .unset, .unset, .unset, .unset, .unset] [])) _
        refine XS.iloadN X8.here hx rfl (hb hby at_37) rfl ?_
        show Steps p.tables e below (T8.setTop (mkF m 38 #[.val (.int p0), .val (.int p1), .val (.int p2), .val (.int p3), .val (.int p4), .val (.int p5), .val (.int (w0_m1 p5)), .val (.int (w0_m2 p5)), .unset, .unset, .unset, .unset, .unset, .unset, .unset, .unset, .unset, .unset, .unset] [(.int p2)])) _
        exact k)
      have q16 : (w0_m3 p0 p2 p5) = p2 := by unfold w0_m3; rw [if_pos hc30_0]
      exact ⟨T8, _, X8, N8, e8, fun t k => K15 t (by rw [q16] at k; exact k)⟩
    · -- no
      have K17 : ∀ t, Steps p.tables e below (T8.setTop (mkF m 38 #[.val (.int p0), .val (.int p1), .val (.int p2), .val (.int p3), .val (.int p4), .val (.int p5), .val (.int (w0_m1 p5)), .val (.int (w0_m2 p5)), .unset, .unset, .unset, .unset, .unset, .unset, .unset, .unset, .unset, .unset, .unset] [(.int p0)])) t → Steps p.tables e below S0 t := fun t k => K13 t (by
        refine XS.ifNo X8.here hx rfl (hb hby at_30) rfl (XT.i0_eq_f hc30_0) ?_
        show Steps p.tables e below (T8.setTop (mkF m 33 #[.val (.int p0), .val (.int p1), .val (.int p2), .val (.int p3), .val (.int p4), .val (.int p5), .val (.int (w0_m1 p5)), .val (.int (w0_m2 p5)), .unset, .unset, .unset, .unset, .unset, .unset, .unset, .unset, .unset, .unset, .unset] [])) _
        refine XS.iloadN X8.here hx rfl (hb hby at_33) rfl ?_
        show Steps p.tables e below (T8.setTop (mkF m 34 #[.val (.int p0), .val (.int p1), .val (.int p2), .val (.int p3), .val (.int p4), .val (.int p5), .val (.int (w0_m1 p5)), .val (.int (w0_m2 p5)), .unset, .unset, .unset, .unset, .unset, .unset, .unset, .unset, .unset, .unset, .unset] [(.int p0)])) _
        refine XS.goto X8.here hx rfl (pc0 := 34) (pc' := 38) rfl (hb hby at_34) (by decide) (by decide) ?_
        show Steps p.tables e below (T8.setTop (mkF m 38 #[.val (.int p0), .val (.int p1), .val (.int p2), .val (.int p3), .val (.int p4), .val (.int p5), .val (.int (w0_m1 p5)), .val (.int (w0_m2 p5)), .unset, .unset, .unset, .unset, .unset, .unset, .unset, .unset, .unset, .unset, .unset] [(.int p0)])) _
        exact k)
      have q18 : (w0_m3 p0 p2 p5) = p0 := by unfold w0_m3; rw [if_neg hc30_0]
      exact ⟨T8, _, X8, N8, e8, fun t k => K17 t (by rw [q18] at k; exact k)⟩
  have K19 : ∀ t, Steps p.tables e below (T14.setTop (mkF m 42 #[.val (.int p0), .val (.int p1), .val (.int p2), .val (.int p3), .val (.int p4), .val (.int p5), .val (.int (w0_m1 p5)), .val (.int (w0_m2 p5)), .val (.int (w0_m3 p0 p2 p5)), .unset, .unset, .unset, .unset, .unset, .unset, .unset, .unset, .unset, .unset] [(.int (w0_m2 p5))])) t → Steps p.tables e below S0 t := fun t k => K14 t (by
    refine XS.istore X14.here hx rfl (hb hby at_38) rfl (l' := #[.val (.int p0), .val (.int p1), .val (.int p2), .val (.int p3), .val (.int p4), .val (.int p5), .val (.int (w0_m1 p5)), .val (.int (w0_m2 p5)), .val (.int (w0_m3 p0 p2 p5)), .unset, .unset, .unset, .unset, .unset, .unset, .unset, .unset, .unset, .unset]) rfl ?_
    show Steps p.tables e below (T14.setTop (mkF m 40 #[.val (.int p0), .val (.int p1), .val (.int p2), .val (.int p3), .val (.int p4), .val (.int p5), .val (.int (w0_m1 p5)), .val (.int (w0_m2 p5)), .val (.int (w0_m3 p0 p2 p5)), .unset, .unset, .unset, .unset, .unset, .unset, .unset, .unset, .unset, .unset] [])) _
    refine XS.iload X14.here hx rfl (hb hby at_40) rfl ?_
    show Steps p.tables e below (T14.setTop (mkF m 42 #[.val (.int p0), .val (.int p1), .val (.int p2), .val (.int p3), .val (.int p4), .val (.int p5), .val (.int (w0_m1 p5)), .val (.int (w0_m2 p5)), .val (.int (w0_m3 p0 p2 p5)), .unset, .unset, .unset, .unset, .unset, .unset, .unset, .unset, .unset, .unset] [(.int (w0_m2 p5))])) _
    exact k)
  obtain ⟨T20, lo20, X20, N20, e20, K20⟩ : ∃ (T' : State) (locs' : List Loc), Stand p l e room_1 s m #[(.int p0), (.int p1), (.int p2), (.int p3), (.int p4), (.int p5)] below meth c T' locs' 0 0 ∧ Fr n0 locs' ∧ T'.heap = h0 ∧ ∀ t, Steps p.tables e below (T'.setTop (mkF m 50 #[.val (.int p0), .val (.int p1), .val (.int p2), .val (.int p3), .val (.int p4), .val (.int p5), .val (.int (w0_m1 p5)), .val (.int (w0_m2 p5)), .val (.int (w0_m3 p0 p2 p5)), .unset, .unset, .unset, .unset, .unset, .unset, .unset, .unset, .unset, .unset] [(.int (w0_m4 p1 p3 p5))])) t → Steps p.tables e below S0 t := by
    by_cases hc42_0 : (w0_m2 p5) = (0 : Int32)
    · -- yes
      have K21 : ∀ t, Steps p.tables e below (T14.setTop (mkF m 50 #[.val (.int p0), .val (.int p1), .val (.int p2), .val (.int p3), .val (.int p4), .val (.int p5), .val (.int (w0_m1 p5)), .val (.int (w0_m2 p5)), .val (.int (w0_m3 p0 p2 p5)), .unset, .unset, .unset, .unset, .unset, .unset, .unset, .unset, .unset, .unset] [(.int p3)])) t → Steps p.tables e below S0 t := fun t k => K19 t (by
        refine XS.ifYes X14.here hx rfl (pc0 := 42) (pc' := 49) rfl (hb hby at_42) rfl (XT.i0_eq_t hc42_0) (by decide) (by decide) ?_
        show Steps p.tables e below (T14.setTop (mkF m 49 #[.val (.int p0), .val (.int p1), .val (.int p2), .val (.int p3), .val (.int p4), .val (.int p5), .val (.int (w0_m1 p5)), .val (.int (w0_m2 p5)), .val (.int (w0_m3 p0 p2 p5)), .unset, .unset, .unset, .unset, .unset, .unset, .unset, .unset, .unset, .unset] [])) _
        refine XS.iloadN X14.here hx rfl (hb hby at_49) rfl ?_
        show Steps p.tables e below (T14.setTop (mkF m 50 #[.val (.int p0), .val (.int p1), .val (.int p2), .val (.int p3), .val (.int p4), .val (.int p5), .val (.int (w0_m1 p5)), .val (.int (w0_m2 p5)), .val (.int (w0_m3 p0 p2 p5)), .unset, .unset, .unset, .unset, .unset, .unset, .unset, .unset, .unset, .unset] [(.int p3)])) _
        exact k)
      have q22 : (w0_m4 p1 p3 p5) = p3 := by unfold w0_m4; rw [if_pos hc42_0]
      exact ⟨T14, _, X14, N14, e14, fun t k => K21 t (by rw [q22] at k; exact k)⟩
    · -- no
      have K23 : ∀ t, Steps p.tables e below (T14.setTop (mkF m 50 #[.val (.int p0), .val (.int p1), .val (.int p2), .val (.int p3), .val (.int p4), .val (.int p5), .val (.int (w0_m1 p5)), .val (.int (w0_m2 p5)), .val (.int (w0_m3 p0 p2 p5)), .unset, .unset, .unset, .unset, .unset, .unset, .unset, .unset, .unset, .unset] [(.int p1)])) t → Steps p.tables e below S0 t := fun t k => K19 t (by
        refine XS.ifNo X14.here hx rfl (hb hby at_42) rfl (XT.i0_eq_f hc42_0) ?_
        show Steps p.tables e below (T14.setTop (mkF m 45 #[.val (.int p0), .val (.int p1), .val (.int p2), .val (.int p3), .val (.int p4), .val (.int p5), .val (.int (w0_m1 p5)), .val (.int (w0_m2 p5)), .val (.int (w0_m3 p0 p2 p5)), .unset, .unset, .unset, .unset, .unset, .unset, .unset, .unset, .unset, .unset] [])) _
        refine XS.iloadN X14.here hx rfl (hb hby at_45) rfl ?_
        show Steps p.tables e below (T14.setTop (mkF m 46 #[.val (.int p0), .val (.int p1), .val (.int p2), .val (.int p3), .val (.int p4), .val (.int p5), .val (.int (w0_m1 p5)), .val (.int (w0_m2 p5)), .val (.int (w0_m3 p0 p2 p5)), .unset, .unset, .unset, .unset, .unset, .unset, .unset, .unset, .unset, .unset] [(.int p1)])) _
        refine XS.goto X14.here hx rfl (pc0 := 46) (pc' := 50) rfl (hb hby at_46) (by decide) (by decide) ?_
        show Steps p.tables e below (T14.setTop (mkF m 50 #[.val (.int p0), .val (.int p1), .val (.int p2), .val (.int p3), .val (.int p4), .val (.int p5), .val (.int (w0_m1 p5)), .val (.int (w0_m2 p5)), .val (.int (w0_m3 p0 p2 p5)), .unset, .unset, .unset, .unset, .unset, .unset, .unset, .unset, .unset, .unset] [(.int p1)])) _
        exact k)
      have q24 : (w0_m4 p1 p3 p5) = p1 := by unfold w0_m4; rw [if_neg hc42_0]
      exact ⟨T14, _, X14, N14, e14, fun t k => K23 t (by rw [q24] at k; exact k)⟩
  have K25 : ∀ t, Steps p.tables e below (T20.setTop (mkF m 75 #[.val (.int p0), .val (.int p1), .val (.int p2), .val (.int p3), .val (.int p4), .val (.int p5), .val (.int (w0_m1 p5)), .val (.int (w0_m2 p5)), .val (.int (w0_m3 p0 p2 p5)), .val (.int (w0_m4 p1 p3 p5)), .val (.int (w0_5 p4)), .val (.int (w0_6 p4)), .unset, .unset, .unset, .unset, .unset, .unset, .unset] [(.int (w0_5 p4))])) t → Steps p.tables e below S0 t := fun t k => K20 t (by
    refine XS.istore X20.here hx rfl (hb hby at_50) rfl (l' := #[.val (.int p0), .val (.int p1), .val (.int p2), .val (.int p3), .val (.int p4), .val (.int p5), .val (.int (w0_m1 p5)), .val (.int (w0_m2 p5)), .val (.int (w0_m3 p0 p2 p5)), .val (.int (w0_m4 p1 p3 p5)), .unset, .unset, .unset, .unset, .unset, .unset, .unset, .unset, .unset]) rfl ?_
    show Steps p.tables e below (T20.setTop (mkF m 52 #[.val (.int p0), .val (.int p1), .val (.int p2), .val (.int p3), .val (.int p4), .val (.int p5), .val (.int (w0_m1 p5)), .val (.int (w0_m2 p5)), .val (.int (w0_m3 p0 p2 p5)), .val (.int (w0_m4 p1 p3 p5)), .unset, .unset, .unset, .unset, .unset, .unset, .unset, .unset, .unset] [])) _
    refine XS.iload X20.here hx rfl (hb hby at_52) rfl ?_
    show Steps p.tables e below (T20.setTop (mkF m 54 #[.val (.int p0), .val (.int p1), .val (.int p2), .val (.int p3), .val (.int p4), .val (.int p5), .val (.int (w0_m1 p5)), .val (.int (w0_m2 p5)), .val (.int (w0_m3 p0 p2 p5)), .val (.int (w0_m4 p1 p3 p5)), .unset, .unset, .unset, .unset, .unset, .unset, .unset, .unset, .unset] [(.int p4)])) _
    refine XS.sipush X20.here hx rfl (hb hby at_54) ?_
    show Steps p.tables e below (T20.setTop (mkF m 57 #[.val (.int p0), .val (.int p1), .val (.int p2), .val (.int p3), .val (.int p4), .val (.int p5), .val (.int (w0_m1 p5)), .val (.int (w0_m2 p5)), .val (.int (w0_m3 p0 p2 p5)), .val (.int (w0_m4 p1 p3 p5)), .unset, .unset, .unset, .unset, .unset, .unset, .unset, .unset, .unset] [(.int (255 : Int32)), (.int p4)])) _
    refine XS.iand X20.here hx rfl (hb hby at_57) rfl ?_
    show Steps p.tables e below (T20.setTop (mkF m 58 #[.val (.int p0), .val (.int p1), .val (.int p2), .val (.int p3), .val (.int p4), .val (.int p5), .val (.int (w0_m1 p5)), .val (.int (w0_m2 p5)), .val (.int (w0_m3 p0 p2 p5)), .val (.int (w0_m4 p1 p3 p5)), .unset, .unset, .unset, .unset, .unset, .unset, .unset, .unset, .unset] [(.int (p4 &&& (255 : Int32)))])) _
    refine XS.i2c X20.here hx rfl (hb hby at_58) rfl ?_
    show Steps p.tables e below (T20.setTop (mkF m 59 #[.val (.int p0), .val (.int p1), .val (.int p2), .val (.int p3), .val (.int p4), .val (.int p5), .val (.int (w0_m1 p5)), .val (.int (w0_m2 p5)), .val (.int (w0_m3 p0 p2 p5)), .val (.int (w0_m4 p1 p3 p5)), .unset, .unset, .unset, .unset, .unset, .unset, .unset, .unset, .unset] [(.int ((p4 &&& (255 : Int32)).toUInt32.toUInt16.toUInt32.toInt32))])) _
    refine XS.istore X20.here hx rfl (hb hby at_59) rfl (l' := #[.val (.int p0), .val (.int p1), .val (.int p2), .val (.int p3), .val (.int p4), .val (.int p5), .val (.int (w0_m1 p5)), .val (.int (w0_m2 p5)), .val (.int (w0_m3 p0 p2 p5)), .val (.int (w0_m4 p1 p3 p5)), .val (.int (w0_5 p4)), .unset, .unset, .unset, .unset, .unset, .unset, .unset, .unset]) rfl ?_
    show Steps p.tables e below (T20.setTop (mkF m 61 #[.val (.int p0), .val (.int p1), .val (.int p2), .val (.int p3), .val (.int p4), .val (.int p5), .val (.int (w0_m1 p5)), .val (.int (w0_m2 p5)), .val (.int (w0_m3 p0 p2 p5)), .val (.int (w0_m4 p1 p3 p5)), .val (.int (w0_5 p4)), .unset, .unset, .unset, .unset, .unset, .unset, .unset, .unset] [])) _
    refine XS.iload X20.here hx rfl (hb hby at_61) rfl ?_
    show Steps p.tables e below (T20.setTop (mkF m 63 #[.val (.int p0), .val (.int p1), .val (.int p2), .val (.int p3), .val (.int p4), .val (.int p5), .val (.int (w0_m1 p5)), .val (.int (w0_m2 p5)), .val (.int (w0_m3 p0 p2 p5)), .val (.int (w0_m4 p1 p3 p5)), .val (.int (w0_5 p4)), .unset, .unset, .unset, .unset, .unset, .unset, .unset, .unset] [(.int p4)])) _
    refine XS.bipush X20.here hx rfl (hb hby at_63) ?_
    show Steps p.tables e below (T20.setTop (mkF m 65 #[.val (.int p0), .val (.int p1), .val (.int p2), .val (.int p3), .val (.int p4), .val (.int p5), .val (.int (w0_m1 p5)), .val (.int (w0_m2 p5)), .val (.int (w0_m3 p0 p2 p5)), .val (.int (w0_m4 p1 p3 p5)), .val (.int (w0_5 p4)), .unset, .unset, .unset, .unset, .unset, .unset, .unset, .unset] [(.int (8 : Int32)), (.int p4)])) _
    refine XS.iushr X20.here hx rfl (hb hby at_65) rfl ?_
    show Steps p.tables e below (T20.setTop (mkF m 66 #[.val (.int p0), .val (.int p1), .val (.int p2), .val (.int p3), .val (.int p4), .val (.int p5), .val (.int (w0_m1 p5)), .val (.int (w0_m2 p5)), .val (.int (w0_m3 p0 p2 p5)), .val (.int (w0_m4 p1 p3 p5)), .val (.int (w0_5 p4)), .unset, .unset, .unset, .unset, .unset, .unset, .unset, .unset] [(.int ((p4.toUInt32 >>> ((8 : Int32) &&& 31).toUInt32).toInt32))])) _
    refine XS.sipush X20.here hx rfl (hb hby at_66) ?_
    show Steps p.tables e below (T20.setTop (mkF m 69 #[.val (.int p0), .val (.int p1), .val (.int p2), .val (.int p3), .val (.int p4), .val (.int p5), .val (.int (w0_m1 p5)), .val (.int (w0_m2 p5)), .val (.int (w0_m3 p0 p2 p5)), .val (.int (w0_m4 p1 p3 p5)), .val (.int (w0_5 p4)), .unset, .unset, .unset, .unset, .unset, .unset, .unset, .unset] [(.int (255 : Int32)), (.int ((p4.toUInt32 >>> ((8 : Int32) &&& 31).toUInt32).toInt32))])) _
    refine XS.iand X20.here hx rfl (hb hby at_69) rfl ?_
    show Steps p.tables e below (T20.setTop (mkF m 70 #[.val (.int p0), .val (.int p1), .val (.int p2), .val (.int p3), .val (.int p4), .val (.int p5), .val (.int (w0_m1 p5)), .val (.int (w0_m2 p5)), .val (.int (w0_m3 p0 p2 p5)), .val (.int (w0_m4 p1 p3 p5)), .val (.int (w0_5 p4)), .unset, .unset, .unset, .unset, .unset, .unset, .unset, .unset] [(.int (((p4.toUInt32 >>> ((8 : Int32) &&& 31).toUInt32).toInt32) &&& (255 : Int32)))])) _
    refine XS.i2c X20.here hx rfl (hb hby at_70) rfl ?_
    show Steps p.tables e below (T20.setTop (mkF m 71 #[.val (.int p0), .val (.int p1), .val (.int p2), .val (.int p3), .val (.int p4), .val (.int p5), .val (.int (w0_m1 p5)), .val (.int (w0_m2 p5)), .val (.int (w0_m3 p0 p2 p5)), .val (.int (w0_m4 p1 p3 p5)), .val (.int (w0_5 p4)), .unset, .unset, .unset, .unset, .unset, .unset, .unset, .unset] [(.int ((((p4.toUInt32 >>> ((8 : Int32) &&& 31).toUInt32).toInt32) &&& (255 : Int32)).toUInt32.toUInt16.toUInt32.toInt32))])) _
    refine XS.istore X20.here hx rfl (hb hby at_71) rfl (l' := #[.val (.int p0), .val (.int p1), .val (.int p2), .val (.int p3), .val (.int p4), .val (.int p5), .val (.int (w0_m1 p5)), .val (.int (w0_m2 p5)), .val (.int (w0_m3 p0 p2 p5)), .val (.int (w0_m4 p1 p3 p5)), .val (.int (w0_5 p4)), .val (.int (w0_6 p4)), .unset, .unset, .unset, .unset, .unset, .unset, .unset]) rfl ?_
    show Steps p.tables e below (T20.setTop (mkF m 73 #[.val (.int p0), .val (.int p1), .val (.int p2), .val (.int p3), .val (.int p4), .val (.int p5), .val (.int (w0_m1 p5)), .val (.int (w0_m2 p5)), .val (.int (w0_m3 p0 p2 p5)), .val (.int (w0_m4 p1 p3 p5)), .val (.int (w0_5 p4)), .val (.int (w0_6 p4)), .unset, .unset, .unset, .unset, .unset, .unset, .unset] [])) _
    refine XS.iload X20.here hx rfl (hb hby at_73) rfl ?_
    show Steps p.tables e below (T20.setTop (mkF m 75 #[.val (.int p0), .val (.int p1), .val (.int p2), .val (.int p3), .val (.int p4), .val (.int p5), .val (.int (w0_m1 p5)), .val (.int (w0_m2 p5)), .val (.int (w0_m3 p0 p2 p5)), .val (.int (w0_m4 p1 p3 p5)), .val (.int (w0_5 p4)), .val (.int (w0_6 p4)), .unset, .unset, .unset, .unset, .unset, .unset, .unset] [(.int (w0_5 p4))])) _
    exact k)
  have K_26 : ∀ t, Steps p.tables e below (T20.setTop (mkF m 75 #[.val (.int p0), .val (.int p1), .val (.int p2), .val (.int p3), .val (.int p4), .val (.int p5), .val (.int (w0_m1 p5)), .val (.int (w0_m2 p5)), .val (.int (w0_m3 p0 p2 p5)), .val (.int (w0_m4 p1 p3 p5)), .val (.int (w0_5 p4)), .val (.int (w0_6 p4)), .unset, .unset, .unset, .unset, .unset, .unset, .unset] [(.int (w0_5 p4))])) t → Steps p.tables e below S0 t := K25
  obtain ⟨_, _, ⟨T27, L27, k27, n27⟩, -, X27, ⟨Lc27, hQ27, l27, y27, z27⟩, st27⟩ := Jvm.LawKit.callS X20 hx (y := (⟨"java/lang/String", "valueOf", "(C)Ljava/lang/String;"⟩ : MethodName)) hown (mvT hZ (hw _ (List.mem_of_getElem? (i := 0) rfl))) (mvT hZ (hw _ (List.mem_of_getElem? (i := 1) rfl))) (mvT hZ (hw _ (List.mem_of_getElem? (i := 2) rfl))) (mvT hZ (hw _ (List.mem_of_getElem? (i := 3) rfl))) (by decide) (backOf (W := 0) (rm4 l Z a0 hw [] (w0_5 p4) zc h0 n0 Z0 S_String_COMPACT_STRINGS__0 hz (own_ch1 p4)) hZ (hw _ (List.mem_of_getElem? (i := 3) rfl)) (hw _ (List.mem_of_getElem? (i := 2) rfl)) (by decide) (by decide)) (g := (mkF m 75 #[.val (.int p0), .val (.int p1), .val (.int p2), .val (.int p3), .val (.int p4), .val (.int p5), .val (.int (w0_m1 p5)), .val (.int (w0_m2 p5)), .val (.int (w0_m3 p0 p2 p5)), .val (.int (w0_m4 p1 p3 p5)), .val (.int (w0_5 p4)), .val (.int (w0_6 p4)), .unset, .unset, .unset, .unset, .unset, .unset, .unset] [(.int (w0_5 p4))])) rfl (by rw [hml]; rfl) (argsL := [(.int (w0_5 p4))]) (rest := []) (lenOf pd0_0 rfl) rfl (by show 2 * 0 + _ ≤ _; exact Nat.le_of_eq rfl) (hb hby at_75) (fun _ _ => ⟨rfl, e20, (by decide : 0 + 2 ≤ 24), (by decide : 0 + 5 ≤ 128)⟩)
  dsimp only [Pt.U, Pt.locs, Pt.cells, Pt.slots] at X27 l27 y27 z27 st27 hQ27
  subst l27 y27 z27
  obtain ⟨b27_8, b27_11_2, kn27_0, rfl, N27q, Kp27, lb_b27_8, lb_b27_11_2, ne_b27_8_b27_11_2, Fn27_0, Fn27_1, Fn27_2, Fn27_3⟩ := hQ27
  have N27 := Fr.app N20 N27q
  have g_b27_8 : n0 ≤ b27_8 := Nat.le_trans Z0 lb_b27_8
  have g_b27_11_2 : n0 ≤ b27_11_2 := Nat.le_trans Z0 lb_b27_11_2
  have OL27 := OL0.keep Kp27 all0
  have S_String_COMPACT_STRINGS__27 := S_String_COMPACT_STRINGS.ext OL27.2
  have Zs27 : n0 ≤ T27.heap.size := Nat.le_trans Z0 Kp27.1
  have K27 : ∀ t, Steps p.tables e below (T27.setTop (mkF m 78 #[.val (.int p0), .val (.int p1), .val (.int p2), .val (.int p3), .val (.int p4), .val (.int p5), .val (.int (w0_m1 p5)), .val (.int (w0_m2 p5)), .val (.int (w0_m3 p0 p2 p5)), .val (.int (w0_m4 p1 p3 p5)), .val (.int (w0_5 p4)), .val (.int (w0_6 p4)), .unset, .unset, .unset, .unset, .unset, .unset, .unset] [(.ref b27_8)])) t → Steps p.tables e below S0 t := fun t k => K_26 t (st27 t k)
  have K28 : ∀ t, Steps p.tables e below (T27.setTop (mkF m 82 #[.val (.int p0), .val (.int p1), .val (.int p2), .val (.int p3), .val (.int p4), .val (.int p5), .val (.int (w0_m1 p5)), .val (.int (w0_m2 p5)), .val (.int (w0_m3 p0 p2 p5)), .val (.int (w0_m4 p1 p3 p5)), .val (.int (w0_5 p4)), .val (.int (w0_6 p4)), .val (.ref b27_8), .unset, .unset, .unset, .unset, .unset, .unset] [(.int (w0_6 p4))])) t → Steps p.tables e below S0 t := fun t k => K27 t (by
    refine XS.astore X27.here hx rfl (hb hby at_78) rfl rfl (l' := #[.val (.int p0), .val (.int p1), .val (.int p2), .val (.int p3), .val (.int p4), .val (.int p5), .val (.int (w0_m1 p5)), .val (.int (w0_m2 p5)), .val (.int (w0_m3 p0 p2 p5)), .val (.int (w0_m4 p1 p3 p5)), .val (.int (w0_5 p4)), .val (.int (w0_6 p4)), .val (.ref b27_8), .unset, .unset, .unset, .unset, .unset, .unset]) rfl ?_
    show Steps p.tables e below (T27.setTop (mkF m 80 #[.val (.int p0), .val (.int p1), .val (.int p2), .val (.int p3), .val (.int p4), .val (.int p5), .val (.int (w0_m1 p5)), .val (.int (w0_m2 p5)), .val (.int (w0_m3 p0 p2 p5)), .val (.int (w0_m4 p1 p3 p5)), .val (.int (w0_5 p4)), .val (.int (w0_6 p4)), .val (.ref b27_8), .unset, .unset, .unset, .unset, .unset, .unset] [])) _
    refine XS.iload X27.here hx rfl (hb hby at_80) rfl ?_
    show Steps p.tables e below (T27.setTop (mkF m 82 #[.val (.int p0), .val (.int p1), .val (.int p2), .val (.int p3), .val (.int p4), .val (.int p5), .val (.int (w0_m1 p5)), .val (.int (w0_m2 p5)), .val (.int (w0_m3 p0 p2 p5)), .val (.int (w0_m4 p1 p3 p5)), .val (.int (w0_5 p4)), .val (.int (w0_6 p4)), .val (.ref b27_8), .unset, .unset, .unset, .unset, .unset, .unset] [(.int (w0_6 p4))])) _
    exact k)
  have K_29 : ∀ t, Steps p.tables e below (T27.setTop (mkF m 82 #[.val (.int p0), .val (.int p1), .val (.int p2), .val (.int p3), .val (.int p4), .val (.int p5), .val (.int (w0_m1 p5)), .val (.int (w0_m2 p5)), .val (.int (w0_m3 p0 p2 p5)), .val (.int (w0_m4 p1 p3 p5)), .val (.int (w0_5 p4)), .val (.int (w0_6 p4)), .val (.ref b27_8), .unset, .unset, .unset, .unset, .unset, .unset] [(.int (w0_6 p4))])) t → Steps p.tables e below S0 t := K28
  obtain ⟨_, _, ⟨T30, L30, k30, n30⟩, -, X30, ⟨Lc30, hQ30, l30, y30, z30⟩, st30⟩ := Jvm.LawKit.callS X27 hx (y := (⟨"java/lang/String", "valueOf", "(C)Ljava/lang/String;"⟩ : MethodName)) hown (mvT hZ (hw _ (List.mem_of_getElem? (i := 0) rfl))) (mvT hZ (hw _ (List.mem_of_getElem? (i := 1) rfl))) (mvT hZ (hw _ (List.mem_of_getElem? (i := 2) rfl))) (mvT hZ (hw _ (List.mem_of_getElem? (i := 3) rfl))) (by decide) (backOf (W := 0) (rm4 l Z a0 hw [] (w0_6 p4) zc T27.heap n0 Zs27 S_String_COMPACT_STRINGS__27 hz (own_ch2 p4)) hZ (hw _ (List.mem_of_getElem? (i := 3) rfl)) (hw _ (List.mem_of_getElem? (i := 2) rfl)) (by decide) (by decide)) (g := (mkF m 82 #[.val (.int p0), .val (.int p1), .val (.int p2), .val (.int p3), .val (.int p4), .val (.int p5), .val (.int (w0_m1 p5)), .val (.int (w0_m2 p5)), .val (.int (w0_m3 p0 p2 p5)), .val (.int (w0_m4 p1 p3 p5)), .val (.int (w0_5 p4)), .val (.int (w0_6 p4)), .val (.ref b27_8), .unset, .unset, .unset, .unset, .unset, .unset] [(.int (w0_6 p4))])) rfl (by rw [hml]; rfl) (argsL := [(.int (w0_6 p4))]) (rest := []) (lenOf pd0_0 rfl) rfl (by show 2 * 0 + _ ≤ _; exact Nat.le_of_eq rfl) (hb hby at_82) (fun _ _ => ⟨rfl, rfl, (by decide : 2 + 2 ≤ 24), (by decide : 5 + 5 ≤ 128)⟩)
  dsimp only [Pt.U, Pt.locs, Pt.cells, Pt.slots] at X30 l30 y30 z30 st30 hQ30
  subst l30 y30 z30
  obtain ⟨b30_8, b30_11_2, kn30_0, rfl, N30q, Kp30, lb_b30_8, lb_b30_11_2, ne_b30_8_b30_11_2, Fn30_0, Fn30_1, Fn30_2, Fn30_3⟩ := hQ30
  have N30 := Fr.app N27 N30q
  have g_b30_8 : n0 ≤ b30_8 := Nat.le_trans Zs27 lb_b30_8
  have ne_b27_8_b30_8 : b27_8 ≠ b30_8 := Nat.ne_of_lt (Nat.lt_of_lt_of_le Fn27_0.lt lb_b30_8)
  have ne_b27_11_2_b30_8 : b27_11_2 ≠ b30_8 := Nat.ne_of_lt (Nat.lt_of_lt_of_le Fn27_3.lt lb_b30_8)
  have g_b30_11_2 : n0 ≤ b30_11_2 := Nat.le_trans Zs27 lb_b30_11_2
  have ne_b27_8_b30_11_2 : b27_8 ≠ b30_11_2 := Nat.ne_of_lt (Nat.lt_of_lt_of_le Fn27_0.lt lb_b30_11_2)
  have ne_b27_11_2_b30_11_2 : b27_11_2 ≠ b30_11_2 := Nat.ne_of_lt (Nat.lt_of_lt_of_le Fn27_3.lt lb_b30_11_2)
  have OL30 := OL27.keep Kp30 all0
  have S_String_COMPACT_STRINGS__30 := S_String_COMPACT_STRINGS.ext OL30.2
  have Fn27_0__30 := Fn27_0.keep Kp30
  have Fn27_1__30 := Fn27_1.keep Kp30 nin0
  have Fn27_2__30 := Fn27_2.keep Kp30 nin0
  have Fn27_3__30 := Fn27_3.keep Kp30 nin0
  have Zs30 : n0 ≤ T30.heap.size := Nat.le_trans Zs27 Kp30.1
  have K30 : ∀ t, Steps p.tables e below (T30.setTop (mkF m 85 #[.val (.int p0), .val (.int p1), .val (.int p2), .val (.int p3), .val (.int p4), .val (.int p5), .val (.int (w0_m1 p5)), .val (.int (w0_m2 p5)), .val (.int (w0_m3 p0 p2 p5)), .val (.int (w0_m4 p1 p3 p5)), .val (.int (w0_5 p4)), .val (.int (w0_6 p4)), .val (.ref b27_8), .unset, .unset, .unset, .unset, .unset, .unset] [(.ref b30_8)])) t → Steps p.tables e below S0 t := fun t k => K_29 t (st30 t k)
  have K31 : ∀ t, Steps p.tables e below (T30.setTop (mkF m 87 #[.val (.int p0), .val (.int p1), .val (.int p2), .val (.int p3), .val (.int p4), .val (.int p5), .val (.int (w0_m1 p5)), .val (.int (w0_m2 p5)), .val (.int (w0_m3 p0 p2 p5)), .val (.int (w0_m4 p1 p3 p5)), .val (.int (w0_5 p4)), .val (.int (w0_6 p4)), .val (.ref b27_8), .val (.ref b30_8), .unset, .unset, .unset, .unset, .unset] [])) t → Steps p.tables e below S0 t := fun t k => K30 t (by
    refine XS.astore X30.here hx rfl (hb hby at_85) rfl rfl (l' := #[.val (.int p0), .val (.int p1), .val (.int p2), .val (.int p3), .val (.int p4), .val (.int p5), .val (.int (w0_m1 p5)), .val (.int (w0_m2 p5)), .val (.int (w0_m3 p0 p2 p5)), .val (.int (w0_m4 p1 p3 p5)), .val (.int (w0_5 p4)), .val (.int (w0_6 p4)), .val (.ref b27_8), .val (.ref b30_8), .unset, .unset, .unset, .unset, .unset]) rfl ?_
    show Steps p.tables e below (T30.setTop (mkF m 87 #[.val (.int p0), .val (.int p1), .val (.int p2), .val (.int p3), .val (.int p4), .val (.int p5), .val (.int (w0_m1 p5)), .val (.int (w0_m2 p5)), .val (.int (w0_m3 p0 p2 p5)), .val (.int (w0_m4 p1 p3 p5)), .val (.int (w0_5 p4)), .val (.int (w0_6 p4)), .val (.ref b27_8), .val (.ref b30_8), .unset, .unset, .unset, .unset, .unset] [])) _
    exact k)
  obtain ⟨T32, h32, X32, e32, E32, A32, D32, -, st32⟩ := newO X30 hx hZ hown (hw _ (List.mem_of_getElem? (i := 26) rfl)) (hw _ (List.mem_of_getElem? (i := 27) rfl)) (hw _ (List.mem_of_getElem? (i := 28) rfl)) rfl (g := (mkF m 87 #[.val (.int p0), .val (.int p1), .val (.int p2), .val (.int p3), .val (.int p4), .val (.int p5), .val (.int (w0_m1 p5)), .val (.int (w0_m2 p5)), .val (.int (w0_m3 p0 p2 p5)), .val (.int (w0_m4 p1 p3 p5)), .val (.int (w0_5 p4)), .val (.int (w0_6 p4)), .val (.ref b27_8), .val (.ref b30_8), .unset, .unset, .unset, .unset, .unset] [])) rfl (hb hby at_87) (by decide) (by decide)
  obtain ⟨b32, g32⟩ : ∃ z, z = T30.heap.size := ⟨_, rfl⟩
  rw [← g32] at A32 D32 st32
  have ne_b27_8_b32 : b27_8 ≠ b32 := Nat.ne_of_lt (Nat.lt_of_lt_of_le Fn27_0__30.lt (Nat.le_of_eq g32.symm))
  have ne_b27_11_2_b32 : b27_11_2 ≠ b32 := Nat.ne_of_lt (Nat.lt_of_lt_of_le Fn27_3__30.lt (Nat.le_of_eq g32.symm))
  have ne_b30_8_b32 : b30_8 ≠ b32 := Nat.ne_of_lt (Nat.lt_of_lt_of_le Fn30_0.lt (Nat.le_of_eq g32.symm))
  have ne_b30_11_2_b32 : b30_11_2 ≠ b32 := Nat.ne_of_lt (Nat.lt_of_lt_of_le Fn30_3.lt (Nat.le_of_eq g32.symm))
  have OL32 := OL30.ext E32
  have S_String_COMPACT_STRINGS__32 := S_String_COMPACT_STRINGS.ext OL32.2
  have Fn27_0__32 := Fn27_0__30.ext E32
  have Fn27_1__32 := Fn27_1__30.ext E32
  have Fn27_2__32 := Fn27_2__30.ext E32
  have Fn27_3__32 := Fn27_3__30.ext E32
  have Fn30_0__32 := Fn30_0.ext E32
  have Fn30_1__32 := Fn30_1.ext E32
  have Fn30_2__32 := Fn30_2.ext E32
  have Fn30_3__32 := Fn30_3.ext E32
  have g_b32 : n0 ≤ b32 := Nat.le_trans Zs30 (Nat.le_of_eq g32.symm)
  have Zs32 : n0 ≤ h32.size := Nat.le_trans Zs30 E32.1
  have F_b32_name : Fld Z h32 b32 "com/example/elidora/elidora/Value$Element" "name" "Ljava/lang/String;" .null := D32 (Or.inr (hw _ (List.mem_of_getElem? (i := 39) rfl))) (ty := (.object "java/lang/String")) (by decide)
  have F_b32_set : Fld Z h32 b32 "com/example/elidora/elidora/Value$Element" "set" "I" (.int (0 : Int32)) := D32 (Or.inr (hw _ (List.mem_of_getElem? (i := 41) rfl))) (ty := .int) (by decide)
  have F_b32_ordinal : Fld Z h32 b32 "com/example/elidora/elidora/Value$Element" "ordinal" "I" (.int (0 : Int32)) := D32 (Or.inr (hw _ (List.mem_of_getElem? (i := 43) rfl))) (ty := .int) (by decide)
  have K32 : ∀ t, Steps p.tables e below (T32.setTop (mkF m 90 #[.val (.int p0), .val (.int p1), .val (.int p2), .val (.int p3), .val (.int p4), .val (.int p5), .val (.int (w0_m1 p5)), .val (.int (w0_m2 p5)), .val (.int (w0_m3 p0 p2 p5)), .val (.int (w0_m4 p1 p3 p5)), .val (.int (w0_5 p4)), .val (.int (w0_6 p4)), .val (.ref b27_8), .val (.ref b30_8), .unset, .unset, .unset, .unset, .unset] [(.ref b32)])) t → Steps p.tables e below S0 t := fun t k => K31 t (st32 t k)
  have K33 : ∀ t, Steps p.tables e below (T32.setTop (mkF m 95 #[.val (.int p0), .val (.int p1), .val (.int p2), .val (.int p3), .val (.int p4), .val (.int p5), .val (.int (w0_m1 p5)), .val (.int (w0_m2 p5)), .val (.int (w0_m3 p0 p2 p5)), .val (.int (w0_m4 p1 p3 p5)), .val (.int (w0_5 p4)), .val (.int (w0_6 p4)), .val (.ref b27_8), .val (.ref b30_8), .unset, .unset, .unset, .unset, .unset] [(.int p1), (.int p0), (.ref b27_8), (.ref b32), (.ref b32)])) t → Steps p.tables e below S0 t := fun t k => K32 t (by
    refine XS.dup X32.here hx rfl (hb hby at_90) rfl rfl ?_
    show Steps p.tables e below (T32.setTop (mkF m 91 #[.val (.int p0), .val (.int p1), .val (.int p2), .val (.int p3), .val (.int p4), .val (.int p5), .val (.int (w0_m1 p5)), .val (.int (w0_m2 p5)), .val (.int (w0_m3 p0 p2 p5)), .val (.int (w0_m4 p1 p3 p5)), .val (.int (w0_5 p4)), .val (.int (w0_6 p4)), .val (.ref b27_8), .val (.ref b30_8), .unset, .unset, .unset, .unset, .unset] [(.ref b32), (.ref b32)])) _
    refine XS.aload X32.here hx rfl (hb hby at_91) rfl rfl ?_
    show Steps p.tables e below (T32.setTop (mkF m 93 #[.val (.int p0), .val (.int p1), .val (.int p2), .val (.int p3), .val (.int p4), .val (.int p5), .val (.int (w0_m1 p5)), .val (.int (w0_m2 p5)), .val (.int (w0_m3 p0 p2 p5)), .val (.int (w0_m4 p1 p3 p5)), .val (.int (w0_5 p4)), .val (.int (w0_6 p4)), .val (.ref b27_8), .val (.ref b30_8), .unset, .unset, .unset, .unset, .unset] [(.ref b27_8), (.ref b32), (.ref b32)])) _
    refine XS.iloadN X32.here hx rfl (hb hby at_93) rfl ?_
    show Steps p.tables e below (T32.setTop (mkF m 94 #[.val (.int p0), .val (.int p1), .val (.int p2), .val (.int p3), .val (.int p4), .val (.int p5), .val (.int (w0_m1 p5)), .val (.int (w0_m2 p5)), .val (.int (w0_m3 p0 p2 p5)), .val (.int (w0_m4 p1 p3 p5)), .val (.int (w0_5 p4)), .val (.int (w0_6 p4)), .val (.ref b27_8), .val (.ref b30_8), .unset, .unset, .unset, .unset, .unset] [(.int p0), (.ref b27_8), (.ref b32), (.ref b32)])) _
    refine XS.iloadN X32.here hx rfl (hb hby at_94) rfl ?_
    show Steps p.tables e below (T32.setTop (mkF m 95 #[.val (.int p0), .val (.int p1), .val (.int p2), .val (.int p3), .val (.int p4), .val (.int p5), .val (.int (w0_m1 p5)), .val (.int (w0_m2 p5)), .val (.int (w0_m3 p0 p2 p5)), .val (.int (w0_m4 p1 p3 p5)), .val (.int (w0_5 p4)), .val (.int (w0_6 p4)), .val (.ref b27_8), .val (.ref b30_8), .unset, .unset, .unset, .unset, .unset] [(.int p1), (.int p0), (.ref b27_8), (.ref b32), (.ref b32)])) _
    exact k)
  have K_34 : ∀ t, Steps p.tables e below (T32.setTop (mkF m 95 #[.val (.int p0), .val (.int p1), .val (.int p2), .val (.int p3), .val (.int p4), .val (.int p5), .val (.int (w0_m1 p5)), .val (.int (w0_m2 p5)), .val (.int (w0_m3 p0 p2 p5)), .val (.int (w0_m4 p1 p3 p5)), .val (.int (w0_5 p4)), .val (.int (w0_6 p4)), .val (.ref b27_8), .val (.ref b30_8), .unset, .unset, .unset, .unset, .unset] [(.int p1), (.int p0), (.ref b27_8), (.ref b32), (.ref b32)])) t → Steps p.tables e below S0 t := K33
  obtain ⟨_, _, ⟨T35, L35, k35, n35⟩, -, X35, ⟨Lc35, hQ35, l35, y35, z35⟩, st35⟩ := X32.specialBack hx (y := (⟨"com/example/elidora/elidora/Value$Element", "<init>", "(Ljava/lang/String;II)V"⟩ : MethodName)) rfl hown (mvT hZ (hw _ (List.mem_of_getElem? (i := 29) rfl))) (mvT hZ (hw _ (List.mem_of_getElem? (i := 30) rfl))) (mvT hZ (hw _ (List.mem_of_getElem? (i := 31) rfl))) (by decide) (backOf (W := 1) (rm6 l Z a0 hw [] b32 b27_8 p0 p1 h32 n0 Zs32 A32 F_b32_name F_b32_set F_b32_ordinal g_b32) hZ (hw _ (List.mem_of_getElem? (i := 31) rfl)) (hw _ (List.mem_of_getElem? (i := 28) rfl)) (by decide) (by decide)) (g := (mkF m 95 #[.val (.int p0), .val (.int p1), .val (.int p2), .val (.int p3), .val (.int p4), .val (.int p5), .val (.int (w0_m1 p5)), .val (.int (w0_m2 p5)), .val (.int (w0_m3 p0 p2 p5)), .val (.int (w0_m4 p1 p3 p5)), .val (.int (w0_5 p4)), .val (.int (w0_6 p4)), .val (.ref b27_8), .val (.ref b30_8), .unset, .unset, .unset, .unset, .unset] [(.int p1), (.int p0), (.ref b27_8), (.ref b32), (.ref b32)])) rfl (by rw [hml]; rfl) (Steps.refl _) (a := b32) (argsL := [(.ref b27_8), (.int p0), (.int p1)]) (rest := [(.ref b32)]) (lenOf pd0_1 rfl) rfl (by show 2 * 0 + _ ≤ _; exact Nat.le_of_eq rfl) (hb hby at_95) (fun _ _ => ⟨rfl, e32, (by decide : 5 + 0 ≤ 24), (by decide : 13 + 0 ≤ 128)⟩)
  dsimp only [Pt.U, Pt.locs, Pt.cells, Pt.slots] at X35 l35 y35 z35 st35 hQ35
  subst l35 y35 z35
  obtain ⟨rfl, N35q, Kp35, Fn35_0, Fn35_1, Fn35_2, Fn35_3⟩ := hQ35
  have N35 := Fr.app N30 N35q
  have OL35 := OL32.keep Kp35 (allS (P := fun x => n0 ≤ x) g_b32 all0)
  have S_String_COMPACT_STRINGS__35 := S_String_COMPACT_STRINGS.ext OL35.2
  have Fn27_0__35 := Fn27_0__32.keep Kp35
  have Fn27_1__35 := Fn27_1__32.keep Kp35 (ninS ne_b27_8_b32 nin0)
  have Fn27_2__35 := Fn27_2__32.keep Kp35 (ninS ne_b27_8_b32 nin0)
  have Fn27_3__35 := Fn27_3__32.keep Kp35 (ninS ne_b27_11_2_b32 nin0)
  have Fn30_0__35 := Fn30_0__32.keep Kp35
  have Fn30_1__35 := Fn30_1__32.keep Kp35 (ninS ne_b30_8_b32 nin0)
  have Fn30_2__35 := Fn30_2__32.keep Kp35 (ninS ne_b30_8_b32 nin0)
  have Fn30_3__35 := Fn30_3__32.keep Kp35 (ninS ne_b30_11_2_b32 nin0)
  have Zs35 : n0 ≤ T35.heap.size := Nat.le_trans Zs32 Kp35.1
  have K35 : ∀ t, Steps p.tables e below (T35.setTop (mkF m 98 #[.val (.int p0), .val (.int p1), .val (.int p2), .val (.int p3), .val (.int p4), .val (.int p5), .val (.int (w0_m1 p5)), .val (.int (w0_m2 p5)), .val (.int (w0_m3 p0 p2 p5)), .val (.int (w0_m4 p1 p3 p5)), .val (.int (w0_5 p4)), .val (.int (w0_6 p4)), .val (.ref b27_8), .val (.ref b30_8), .unset, .unset, .unset, .unset, .unset] [(.ref b32)])) t → Steps p.tables e below S0 t := fun t k => K_34 t (st35.trans k)
  have K36 : ∀ t, Steps p.tables e below (T35.setTop (mkF m 100 #[.val (.int p0), .val (.int p1), .val (.int p2), .val (.int p3), .val (.int p4), .val (.int p5), .val (.int (w0_m1 p5)), .val (.int (w0_m2 p5)), .val (.int (w0_m3 p0 p2 p5)), .val (.int (w0_m4 p1 p3 p5)), .val (.int (w0_5 p4)), .val (.int (w0_6 p4)), .val (.ref b27_8), .val (.ref b30_8), .val (.ref b32), .unset, .unset, .unset, .unset] [])) t → Steps p.tables e below S0 t := fun t k => K35 t (by
    refine XS.astore X35.here hx rfl (hb hby at_98) rfl rfl (l' := #[.val (.int p0), .val (.int p1), .val (.int p2), .val (.int p3), .val (.int p4), .val (.int p5), .val (.int (w0_m1 p5)), .val (.int (w0_m2 p5)), .val (.int (w0_m3 p0 p2 p5)), .val (.int (w0_m4 p1 p3 p5)), .val (.int (w0_5 p4)), .val (.int (w0_6 p4)), .val (.ref b27_8), .val (.ref b30_8), .val (.ref b32), .unset, .unset, .unset, .unset]) rfl ?_
    show Steps p.tables e below (T35.setTop (mkF m 100 #[.val (.int p0), .val (.int p1), .val (.int p2), .val (.int p3), .val (.int p4), .val (.int p5), .val (.int (w0_m1 p5)), .val (.int (w0_m2 p5)), .val (.int (w0_m3 p0 p2 p5)), .val (.int (w0_m4 p1 p3 p5)), .val (.int (w0_5 p4)), .val (.int (w0_6 p4)), .val (.ref b27_8), .val (.ref b30_8), .val (.ref b32), .unset, .unset, .unset, .unset] [])) _
    exact k)
  obtain ⟨T37, h37, X37, e37, E37, A37, D37, -, st37⟩ := newO X35 hx hZ hown (hw _ (List.mem_of_getElem? (i := 26) rfl)) (hw _ (List.mem_of_getElem? (i := 27) rfl)) (hw _ (List.mem_of_getElem? (i := 28) rfl)) rfl (g := (mkF m 100 #[.val (.int p0), .val (.int p1), .val (.int p2), .val (.int p3), .val (.int p4), .val (.int p5), .val (.int (w0_m1 p5)), .val (.int (w0_m2 p5)), .val (.int (w0_m3 p0 p2 p5)), .val (.int (w0_m4 p1 p3 p5)), .val (.int (w0_5 p4)), .val (.int (w0_6 p4)), .val (.ref b27_8), .val (.ref b30_8), .val (.ref b32), .unset, .unset, .unset, .unset] [])) rfl (hb hby at_100) (by decide) (by decide)
  obtain ⟨b37, g37⟩ : ∃ z, z = T35.heap.size := ⟨_, rfl⟩
  rw [← g37] at A37 D37 st37
  have ne_b27_8_b37 : b27_8 ≠ b37 := Nat.ne_of_lt (Nat.lt_of_lt_of_le Fn27_0__35.lt (Nat.le_of_eq g37.symm))
  have ne_b27_11_2_b37 : b27_11_2 ≠ b37 := Nat.ne_of_lt (Nat.lt_of_lt_of_le Fn27_3__35.lt (Nat.le_of_eq g37.symm))
  have ne_b30_8_b37 : b30_8 ≠ b37 := Nat.ne_of_lt (Nat.lt_of_lt_of_le Fn30_0__35.lt (Nat.le_of_eq g37.symm))
  have ne_b30_11_2_b37 : b30_11_2 ≠ b37 := Nat.ne_of_lt (Nat.lt_of_lt_of_le Fn30_3__35.lt (Nat.le_of_eq g37.symm))
  have ne_b32_b37 : b32 ≠ b37 := Nat.ne_of_lt (Nat.lt_of_lt_of_le Fn35_0.lt (Nat.le_of_eq g37.symm))
  have OL37 := OL35.ext E37
  have S_String_COMPACT_STRINGS__37 := S_String_COMPACT_STRINGS.ext OL37.2
  have Fn27_0__37 := Fn27_0__35.ext E37
  have Fn27_1__37 := Fn27_1__35.ext E37
  have Fn27_2__37 := Fn27_2__35.ext E37
  have Fn27_3__37 := Fn27_3__35.ext E37
  have Fn30_0__37 := Fn30_0__35.ext E37
  have Fn30_1__37 := Fn30_1__35.ext E37
  have Fn30_2__37 := Fn30_2__35.ext E37
  have Fn30_3__37 := Fn30_3__35.ext E37
  have Fn35_0__37 := Fn35_0.ext E37
  have Fn35_1__37 := Fn35_1.ext E37
  have Fn35_2__37 := Fn35_2.ext E37
  have Fn35_3__37 := Fn35_3.ext E37
  have g_b37 : n0 ≤ b37 := Nat.le_trans Zs35 (Nat.le_of_eq g37.symm)
  have Zs37 : n0 ≤ h37.size := Nat.le_trans Zs35 E37.1
  have F_b37_name : Fld Z h37 b37 "com/example/elidora/elidora/Value$Element" "name" "Ljava/lang/String;" .null := D37 (Or.inr (hw _ (List.mem_of_getElem? (i := 39) rfl))) (ty := (.object "java/lang/String")) (by decide)
  have F_b37_set : Fld Z h37 b37 "com/example/elidora/elidora/Value$Element" "set" "I" (.int (0 : Int32)) := D37 (Or.inr (hw _ (List.mem_of_getElem? (i := 41) rfl))) (ty := .int) (by decide)
  have F_b37_ordinal : Fld Z h37 b37 "com/example/elidora/elidora/Value$Element" "ordinal" "I" (.int (0 : Int32)) := D37 (Or.inr (hw _ (List.mem_of_getElem? (i := 43) rfl))) (ty := .int) (by decide)
  have K37 : ∀ t, Steps p.tables e below (T37.setTop (mkF m 103 #[.val (.int p0), .val (.int p1), .val (.int p2), .val (.int p3), .val (.int p4), .val (.int p5), .val (.int (w0_m1 p5)), .val (.int (w0_m2 p5)), .val (.int (w0_m3 p0 p2 p5)), .val (.int (w0_m4 p1 p3 p5)), .val (.int (w0_5 p4)), .val (.int (w0_6 p4)), .val (.ref b27_8), .val (.ref b30_8), .val (.ref b32), .unset, .unset, .unset, .unset] [(.ref b37)])) t → Steps p.tables e below S0 t := fun t k => K36 t (st37 t k)
  have K38 : ∀ t, Steps p.tables e below (T37.setTop (mkF m 110 #[.val (.int p0), .val (.int p1), .val (.int p2), .val (.int p3), .val (.int p4), .val (.int p5), .val (.int (w0_m1 p5)), .val (.int (w0_m2 p5)), .val (.int (w0_m3 p0 p2 p5)), .val (.int (w0_m4 p1 p3 p5)), .val (.int (w0_5 p4)), .val (.int (w0_6 p4)), .val (.ref b27_8), .val (.ref b30_8), .val (.ref b32), .unset, .unset, .unset, .unset] [(.int (w0_m4 p1 p3 p5)), (.int (w0_m3 p0 p2 p5)), (.ref b30_8), (.ref b37), (.ref b37)])) t → Steps p.tables e below S0 t := fun t k => K37 t (by
    refine XS.dup X37.here hx rfl (hb hby at_103) rfl rfl ?_
    show Steps p.tables e below (T37.setTop (mkF m 104 #[.val (.int p0), .val (.int p1), .val (.int p2), .val (.int p3), .val (.int p4), .val (.int p5), .val (.int (w0_m1 p5)), .val (.int (w0_m2 p5)), .val (.int (w0_m3 p0 p2 p5)), .val (.int (w0_m4 p1 p3 p5)), .val (.int (w0_5 p4)), .val (.int (w0_6 p4)), .val (.ref b27_8), .val (.ref b30_8), .val (.ref b32), .unset, .unset, .unset, .unset] [(.ref b37), (.ref b37)])) _
    refine XS.aload X37.here hx rfl (hb hby at_104) rfl rfl ?_
    show Steps p.tables e below (T37.setTop (mkF m 106 #[.val (.int p0), .val (.int p1), .val (.int p2), .val (.int p3), .val (.int p4), .val (.int p5), .val (.int (w0_m1 p5)), .val (.int (w0_m2 p5)), .val (.int (w0_m3 p0 p2 p5)), .val (.int (w0_m4 p1 p3 p5)), .val (.int (w0_5 p4)), .val (.int (w0_6 p4)), .val (.ref b27_8), .val (.ref b30_8), .val (.ref b32), .unset, .unset, .unset, .unset] [(.ref b30_8), (.ref b37), (.ref b37)])) _
    refine XS.iload X37.here hx rfl (hb hby at_106) rfl ?_
    show Steps p.tables e below (T37.setTop (mkF m 108 #[.val (.int p0), .val (.int p1), .val (.int p2), .val (.int p3), .val (.int p4), .val (.int p5), .val (.int (w0_m1 p5)), .val (.int (w0_m2 p5)), .val (.int (w0_m3 p0 p2 p5)), .val (.int (w0_m4 p1 p3 p5)), .val (.int (w0_5 p4)), .val (.int (w0_6 p4)), .val (.ref b27_8), .val (.ref b30_8), .val (.ref b32), .unset, .unset, .unset, .unset] [(.int (w0_m3 p0 p2 p5)), (.ref b30_8), (.ref b37), (.ref b37)])) _
    refine XS.iload X37.here hx rfl (hb hby at_108) rfl ?_
    show Steps p.tables e below (T37.setTop (mkF m 110 #[.val (.int p0), .val (.int p1), .val (.int p2), .val (.int p3), .val (.int p4), .val (.int p5), .val (.int (w0_m1 p5)), .val (.int (w0_m2 p5)), .val (.int (w0_m3 p0 p2 p5)), .val (.int (w0_m4 p1 p3 p5)), .val (.int (w0_5 p4)), .val (.int (w0_6 p4)), .val (.ref b27_8), .val (.ref b30_8), .val (.ref b32), .unset, .unset, .unset, .unset] [(.int (w0_m4 p1 p3 p5)), (.int (w0_m3 p0 p2 p5)), (.ref b30_8), (.ref b37), (.ref b37)])) _
    exact k)
  have K_39 : ∀ t, Steps p.tables e below (T37.setTop (mkF m 110 #[.val (.int p0), .val (.int p1), .val (.int p2), .val (.int p3), .val (.int p4), .val (.int p5), .val (.int (w0_m1 p5)), .val (.int (w0_m2 p5)), .val (.int (w0_m3 p0 p2 p5)), .val (.int (w0_m4 p1 p3 p5)), .val (.int (w0_5 p4)), .val (.int (w0_6 p4)), .val (.ref b27_8), .val (.ref b30_8), .val (.ref b32), .unset, .unset, .unset, .unset] [(.int (w0_m4 p1 p3 p5)), (.int (w0_m3 p0 p2 p5)), (.ref b30_8), (.ref b37), (.ref b37)])) t → Steps p.tables e below S0 t := K38
  obtain ⟨_, _, ⟨T40, L40, k40, n40⟩, -, X40, ⟨Lc40, hQ40, l40, y40, z40⟩, st40⟩ := X37.specialBack hx (y := (⟨"com/example/elidora/elidora/Value$Element", "<init>", "(Ljava/lang/String;II)V"⟩ : MethodName)) rfl hown (mvT hZ (hw _ (List.mem_of_getElem? (i := 29) rfl))) (mvT hZ (hw _ (List.mem_of_getElem? (i := 30) rfl))) (mvT hZ (hw _ (List.mem_of_getElem? (i := 31) rfl))) (by decide) (backOf (W := 1) (rm6 l Z a0 hw [] b37 b30_8 (w0_m3 p0 p2 p5) (w0_m4 p1 p3 p5) h37 n0 Zs37 A37 F_b37_name F_b37_set F_b37_ordinal g_b37) hZ (hw _ (List.mem_of_getElem? (i := 31) rfl)) (hw _ (List.mem_of_getElem? (i := 28) rfl)) (by decide) (by decide)) (g := (mkF m 110 #[.val (.int p0), .val (.int p1), .val (.int p2), .val (.int p3), .val (.int p4), .val (.int p5), .val (.int (w0_m1 p5)), .val (.int (w0_m2 p5)), .val (.int (w0_m3 p0 p2 p5)), .val (.int (w0_m4 p1 p3 p5)), .val (.int (w0_5 p4)), .val (.int (w0_6 p4)), .val (.ref b27_8), .val (.ref b30_8), .val (.ref b32), .unset, .unset, .unset, .unset] [(.int (w0_m4 p1 p3 p5)), (.int (w0_m3 p0 p2 p5)), (.ref b30_8), (.ref b37), (.ref b37)])) rfl (by rw [hml]; rfl) (Steps.refl _) (a := b37) (argsL := [(.ref b30_8), (.int (w0_m3 p0 p2 p5)), (.int (w0_m4 p1 p3 p5))]) (rest := [(.ref b37)]) (lenOf pd0_1 rfl) rfl (by show 2 * 0 + _ ≤ _; exact Nat.le_of_eq rfl) (hb hby at_110) (fun _ _ => ⟨rfl, e37, (by decide : 6 + 0 ≤ 24), (by decide : 16 + 0 ≤ 128)⟩)
  dsimp only [Pt.U, Pt.locs, Pt.cells, Pt.slots] at X40 l40 y40 z40 st40 hQ40
  subst l40 y40 z40
  obtain ⟨rfl, N40q, Kp40, Fn40_0, Fn40_1, Fn40_2, Fn40_3⟩ := hQ40
  have N40 := Fr.app N35 N40q
  have OL40 := OL37.keep Kp40 (allS (P := fun x => n0 ≤ x) g_b37 all0)
  have S_String_COMPACT_STRINGS__40 := S_String_COMPACT_STRINGS.ext OL40.2
  have Fn27_0__40 := Fn27_0__37.keep Kp40
  have Fn27_1__40 := Fn27_1__37.keep Kp40 (ninS ne_b27_8_b37 nin0)
  have Fn27_2__40 := Fn27_2__37.keep Kp40 (ninS ne_b27_8_b37 nin0)
  have Fn27_3__40 := Fn27_3__37.keep Kp40 (ninS ne_b27_11_2_b37 nin0)
  have Fn30_0__40 := Fn30_0__37.keep Kp40
  have Fn30_1__40 := Fn30_1__37.keep Kp40 (ninS ne_b30_8_b37 nin0)
  have Fn30_2__40 := Fn30_2__37.keep Kp40 (ninS ne_b30_8_b37 nin0)
  have Fn30_3__40 := Fn30_3__37.keep Kp40 (ninS ne_b30_11_2_b37 nin0)
  have Fn35_0__40 := Fn35_0__37.keep Kp40
  have Fn35_1__40 := Fn35_1__37.keep Kp40 (ninS ne_b32_b37 nin0)
  have Fn35_2__40 := Fn35_2__37.keep Kp40 (ninS ne_b32_b37 nin0)
  have Fn35_3__40 := Fn35_3__37.keep Kp40 (ninS ne_b32_b37 nin0)
  have Zs40 : n0 ≤ T40.heap.size := Nat.le_trans Zs37 Kp40.1
  have K40 : ∀ t, Steps p.tables e below (T40.setTop (mkF m 113 #[.val (.int p0), .val (.int p1), .val (.int p2), .val (.int p3), .val (.int p4), .val (.int p5), .val (.int (w0_m1 p5)), .val (.int (w0_m2 p5)), .val (.int (w0_m3 p0 p2 p5)), .val (.int (w0_m4 p1 p3 p5)), .val (.int (w0_5 p4)), .val (.int (w0_6 p4)), .val (.ref b27_8), .val (.ref b30_8), .val (.ref b32), .unset, .unset, .unset, .unset] [(.ref b37)])) t → Steps p.tables e below S0 t := fun t k => K_39 t (st40.trans k)
  have K41 : ∀ t, Steps p.tables e below (T40.setTop (mkF m 118 #[.val (.int p0), .val (.int p1), .val (.int p2), .val (.int p3), .val (.int p4), .val (.int p5), .val (.int (w0_m1 p5)), .val (.int (w0_m2 p5)), .val (.int (w0_m3 p0 p2 p5)), .val (.int (w0_m4 p1 p3 p5)), .val (.int (w0_5 p4)), .val (.int (w0_6 p4)), .val (.ref b27_8), .val (.ref b30_8), .val (.ref b32), .val (.ref b37), .unset, .unset, .unset] [(.int (w0_m3 p0 p2 p5)), (.int p0)])) t → Steps p.tables e below S0 t := fun t k => K40 t (by
    refine XS.astore X40.here hx rfl (hb hby at_113) rfl rfl (l' := #[.val (.int p0), .val (.int p1), .val (.int p2), .val (.int p3), .val (.int p4), .val (.int p5), .val (.int (w0_m1 p5)), .val (.int (w0_m2 p5)), .val (.int (w0_m3 p0 p2 p5)), .val (.int (w0_m4 p1 p3 p5)), .val (.int (w0_5 p4)), .val (.int (w0_6 p4)), .val (.ref b27_8), .val (.ref b30_8), .val (.ref b32), .val (.ref b37), .unset, .unset, .unset]) rfl ?_
    show Steps p.tables e below (T40.setTop (mkF m 115 #[.val (.int p0), .val (.int p1), .val (.int p2), .val (.int p3), .val (.int p4), .val (.int p5), .val (.int (w0_m1 p5)), .val (.int (w0_m2 p5)), .val (.int (w0_m3 p0 p2 p5)), .val (.int (w0_m4 p1 p3 p5)), .val (.int (w0_5 p4)), .val (.int (w0_6 p4)), .val (.ref b27_8), .val (.ref b30_8), .val (.ref b32), .val (.ref b37), .unset, .unset, .unset] [])) _
    refine XS.iloadN X40.here hx rfl (hb hby at_115) rfl ?_
    show Steps p.tables e below (T40.setTop (mkF m 116 #[.val (.int p0), .val (.int p1), .val (.int p2), .val (.int p3), .val (.int p4), .val (.int p5), .val (.int (w0_m1 p5)), .val (.int (w0_m2 p5)), .val (.int (w0_m3 p0 p2 p5)), .val (.int (w0_m4 p1 p3 p5)), .val (.int (w0_5 p4)), .val (.int (w0_6 p4)), .val (.ref b27_8), .val (.ref b30_8), .val (.ref b32), .val (.ref b37), .unset, .unset, .unset] [(.int p0)])) _
    refine XS.iload X40.here hx rfl (hb hby at_116) rfl ?_
    show Steps p.tables e below (T40.setTop (mkF m 118 #[.val (.int p0), .val (.int p1), .val (.int p2), .val (.int p3), .val (.int p4), .val (.int p5), .val (.int (w0_m1 p5)), .val (.int (w0_m2 p5)), .val (.int (w0_m3 p0 p2 p5)), .val (.int (w0_m4 p1 p3 p5)), .val (.int (w0_5 p4)), .val (.int (w0_6 p4)), .val (.ref b27_8), .val (.ref b30_8), .val (.ref b32), .val (.ref b37), .unset, .unset, .unset] [(.int (w0_m3 p0 p2 p5)), (.int p0)])) _
    exact k)
  obtain ⟨T42, lo42, X42, N42, e42, K42⟩ : ∃ (T' : State) (locs' : List Loc), Stand p l e room_1 s m #[(.int p0), (.int p1), (.int p2), (.int p3), (.int p4), (.int p5)] below meth c T' locs' 6 16 ∧ Fr n0 locs' ∧ T'.heap = T40.heap ∧ ∀ t, Steps p.tables e below (T'.setTop (mkF m 132 #[.val (.int p0), .val (.int p1), .val (.int p2), .val (.int p3), .val (.int p4), .val (.int p5), .val (.int (w0_m1 p5)), .val (.int (w0_m2 p5)), .val (.int (w0_m3 p0 p2 p5)), .val (.int (w0_m4 p1 p3 p5)), .val (.int (w0_5 p4)), .val (.int (w0_6 p4)), .val (.ref b27_8), .val (.ref b30_8), .val (.ref b32), .val (.ref b37), .unset, .unset, .unset] [(.int (w0_m7 p0 p1 p2 p3 p5))])) t → Steps p.tables e below S0 t := by
    by_cases hc118_0 : p0 = (w0_m3 p0 p2 p5)
    · -- yes
      have K43 : ∀ t, Steps p.tables e below (T40.setTop (mkF m 124 #[.val (.int p0), .val (.int p1), .val (.int p2), .val (.int p3), .val (.int p4), .val (.int p5), .val (.int (w0_m1 p5)), .val (.int (w0_m2 p5)), .val (.int (w0_m3 p0 p2 p5)), .val (.int (w0_m4 p1 p3 p5)), .val (.int (w0_5 p4)), .val (.int (w0_6 p4)), .val (.ref b27_8), .val (.ref b30_8), .val (.ref b32), .val (.ref b37), .unset, .unset, .unset] [(.int (w0_m4 p1 p3 p5)), (.int p1)])) t → Steps p.tables e below S0 t := fun t k => K41 t (by
        refine XS.icmpNo X40.here hx rfl (hb hby at_118) rfl (XT.ii_ne_f hc118_0) ?_
        show Steps p.tables e below (T40.setTop (mkF m 121 #[.val (.int p0), .val (.int p1), .val (.int p2), .val (.int p3), .val (.int p4), .val (.int p5), .val (.int (w0_m1 p5)), .val (.int (w0_m2 p5)), .val (.int (w0_m3 p0 p2 p5)), .val (.int (w0_m4 p1 p3 p5)), .val (.int (w0_5 p4)), .val (.int (w0_6 p4)), .val (.ref b27_8), .val (.ref b30_8), .val (.ref b32), .val (.ref b37), .unset, .unset, .unset] [])) _
        refine XS.iloadN X40.here hx rfl (hb hby at_121) rfl ?_
        show Steps p.tables e below (T40.setTop (mkF m 122 #[.val (.int p0), .val (.int p1), .val (.int p2), .val (.int p3), .val (.int p4), .val (.int p5), .val (.int (w0_m1 p5)), .val (.int (w0_m2 p5)), .val (.int (w0_m3 p0 p2 p5)), .val (.int (w0_m4 p1 p3 p5)), .val (.int (w0_5 p4)), .val (.int (w0_6 p4)), .val (.ref b27_8), .val (.ref b30_8), .val (.ref b32), .val (.ref b37), .unset, .unset, .unset] [(.int p1)])) _
        refine XS.iload X40.here hx rfl (hb hby at_122) rfl ?_
        show Steps p.tables e below (T40.setTop (mkF m 124 #[.val (.int p0), .val (.int p1), .val (.int p2), .val (.int p3), .val (.int p4), .val (.int p5), .val (.int (w0_m1 p5)), .val (.int (w0_m2 p5)), .val (.int (w0_m3 p0 p2 p5)), .val (.int (w0_m4 p1 p3 p5)), .val (.int (w0_5 p4)), .val (.int (w0_6 p4)), .val (.ref b27_8), .val (.ref b30_8), .val (.ref b32), .val (.ref b37), .unset, .unset, .unset] [(.int (w0_m4 p1 p3 p5)), (.int p1)])) _
        exact k)
      by_cases hc124_1 : p1 = (w0_m4 p1 p3 p5)
      · -- yes
        have K44 : ∀ t, Steps p.tables e below (T40.setTop (mkF m 132 #[.val (.int p0), .val (.int p1), .val (.int p2), .val (.int p3), .val (.int p4), .val (.int p5), .val (.int (w0_m1 p5)), .val (.int (w0_m2 p5)), .val (.int (w0_m3 p0 p2 p5)), .val (.int (w0_m4 p1 p3 p5)), .val (.int (w0_5 p4)), .val (.int (w0_6 p4)), .val (.ref b27_8), .val (.ref b30_8), .val (.ref b32), .val (.ref b37), .unset, .unset, .unset] [(.int (1 : Int32))])) t → Steps p.tables e below S0 t := fun t k => K43 t (by
          refine XS.icmpNo X40.here hx rfl (hb hby at_124) rfl (XT.ii_ne_f hc124_1) ?_
          show Steps p.tables e below (T40.setTop (mkF m 127 #[.val (.int p0), .val (.int p1), .val (.int p2), .val (.int p3), .val (.int p4), .val (.int p5), .val (.int (w0_m1 p5)), .val (.int (w0_m2 p5)), .val (.int (w0_m3 p0 p2 p5)), .val (.int (w0_m4 p1 p3 p5)), .val (.int (w0_5 p4)), .val (.int (w0_6 p4)), .val (.ref b27_8), .val (.ref b30_8), .val (.ref b32), .val (.ref b37), .unset, .unset, .unset] [])) _
          refine XS.iconst X40.here hx rfl (hb hby at_127) ?_
          show Steps p.tables e below (T40.setTop (mkF m 128 #[.val (.int p0), .val (.int p1), .val (.int p2), .val (.int p3), .val (.int p4), .val (.int p5), .val (.int (w0_m1 p5)), .val (.int (w0_m2 p5)), .val (.int (w0_m3 p0 p2 p5)), .val (.int (w0_m4 p1 p3 p5)), .val (.int (w0_5 p4)), .val (.int (w0_6 p4)), .val (.ref b27_8), .val (.ref b30_8), .val (.ref b32), .val (.ref b37), .unset, .unset, .unset] [(.int (1 : Int32))])) _
          refine XS.goto X40.here hx rfl (pc0 := 128) (pc' := 132) rfl (hb hby at_128) (by decide) (by decide) ?_
          show Steps p.tables e below (T40.setTop (mkF m 132 #[.val (.int p0), .val (.int p1), .val (.int p2), .val (.int p3), .val (.int p4), .val (.int p5), .val (.int (w0_m1 p5)), .val (.int (w0_m2 p5)), .val (.int (w0_m3 p0 p2 p5)), .val (.int (w0_m4 p1 p3 p5)), .val (.int (w0_5 p4)), .val (.int (w0_6 p4)), .val (.ref b27_8), .val (.ref b30_8), .val (.ref b32), .val (.ref b37), .unset, .unset, .unset] [(.int (1 : Int32))])) _
          exact k)
        have q45 : (w0_m7 p0 p1 p2 p3 p5) = (1 : Int32) := by unfold w0_m7; rw [if_pos hc118_0, if_pos hc124_1]
        exact ⟨T40, _, X40, N40, rfl, fun t k => K44 t (by rw [q45] at k; exact k)⟩
      · -- no
        have K46 : ∀ t, Steps p.tables e below (T40.setTop (mkF m 132 #[.val (.int p0), .val (.int p1), .val (.int p2), .val (.int p3), .val (.int p4), .val (.int p5), .val (.int (w0_m1 p5)), .val (.int (w0_m2 p5)), .val (.int (w0_m3 p0 p2 p5)), .val (.int (w0_m4 p1 p3 p5)), .val (.int (w0_5 p4)), .val (.int (w0_6 p4)), .val (.ref b27_8), .val (.ref b30_8), .val (.ref b32), .val (.ref b37), .unset, .unset, .unset] [(.int (0 : Int32))])) t → Steps p.tables e below S0 t := fun t k => K43 t (by
          refine XS.icmpYes X40.here hx rfl (pc0 := 124) (pc' := 131) rfl (hb hby at_124) rfl (XT.ii_ne_t hc124_1) (by decide) (by decide) ?_
          show Steps p.tables e below (T40.setTop (mkF m 131 #[.val (.int p0), .val (.int p1), .val (.int p2), .val (.int p3), .val (.int p4), .val (.int p5), .val (.int (w0_m1 p5)), .val (.int (w0_m2 p5)), .val (.int (w0_m3 p0 p2 p5)), .val (.int (w0_m4 p1 p3 p5)), .val (.int (w0_5 p4)), .val (.int (w0_6 p4)), .val (.ref b27_8), .val (.ref b30_8), .val (.ref b32), .val (.ref b37), .unset, .unset, .unset] [])) _
          refine XS.iconst X40.here hx rfl (hb hby at_131) ?_
          show Steps p.tables e below (T40.setTop (mkF m 132 #[.val (.int p0), .val (.int p1), .val (.int p2), .val (.int p3), .val (.int p4), .val (.int p5), .val (.int (w0_m1 p5)), .val (.int (w0_m2 p5)), .val (.int (w0_m3 p0 p2 p5)), .val (.int (w0_m4 p1 p3 p5)), .val (.int (w0_5 p4)), .val (.int (w0_6 p4)), .val (.ref b27_8), .val (.ref b30_8), .val (.ref b32), .val (.ref b37), .unset, .unset, .unset] [(.int (0 : Int32))])) _
          exact k)
        have q47 : (w0_m7 p0 p1 p2 p3 p5) = (0 : Int32) := by unfold w0_m7; rw [if_pos hc118_0, if_neg hc124_1]
        exact ⟨T40, _, X40, N40, rfl, fun t k => K46 t (by rw [q47] at k; exact k)⟩
    · -- no
      have K48 : ∀ t, Steps p.tables e below (T40.setTop (mkF m 132 #[.val (.int p0), .val (.int p1), .val (.int p2), .val (.int p3), .val (.int p4), .val (.int p5), .val (.int (w0_m1 p5)), .val (.int (w0_m2 p5)), .val (.int (w0_m3 p0 p2 p5)), .val (.int (w0_m4 p1 p3 p5)), .val (.int (w0_5 p4)), .val (.int (w0_6 p4)), .val (.ref b27_8), .val (.ref b30_8), .val (.ref b32), .val (.ref b37), .unset, .unset, .unset] [(.int (0 : Int32))])) t → Steps p.tables e below S0 t := fun t k => K41 t (by
        refine XS.icmpYes X40.here hx rfl (pc0 := 118) (pc' := 131) rfl (hb hby at_118) rfl (XT.ii_ne_t hc118_0) (by decide) (by decide) ?_
        show Steps p.tables e below (T40.setTop (mkF m 131 #[.val (.int p0), .val (.int p1), .val (.int p2), .val (.int p3), .val (.int p4), .val (.int p5), .val (.int (w0_m1 p5)), .val (.int (w0_m2 p5)), .val (.int (w0_m3 p0 p2 p5)), .val (.int (w0_m4 p1 p3 p5)), .val (.int (w0_5 p4)), .val (.int (w0_6 p4)), .val (.ref b27_8), .val (.ref b30_8), .val (.ref b32), .val (.ref b37), .unset, .unset, .unset] [])) _
        refine XS.iconst X40.here hx rfl (hb hby at_131) ?_
        show Steps p.tables e below (T40.setTop (mkF m 132 #[.val (.int p0), .val (.int p1), .val (.int p2), .val (.int p3), .val (.int p4), .val (.int p5), .val (.int (w0_m1 p5)), .val (.int (w0_m2 p5)), .val (.int (w0_m3 p0 p2 p5)), .val (.int (w0_m4 p1 p3 p5)), .val (.int (w0_5 p4)), .val (.int (w0_6 p4)), .val (.ref b27_8), .val (.ref b30_8), .val (.ref b32), .val (.ref b37), .unset, .unset, .unset] [(.int (0 : Int32))])) _
        exact k)
      have q49 : (w0_m7 p0 p1 p2 p3 p5) = (0 : Int32) := by unfold w0_m7; rw [if_neg hc118_0]
      exact ⟨T40, _, X40, N40, rfl, fun t k => K48 t (by rw [q49] at k; exact k)⟩
  have K50 : ∀ t, Steps p.tables e below (T42.setTop (mkF m 145 #[.val (.int p0), .val (.int p1), .val (.int p2), .val (.int p3), .val (.int p4), .val (.int p5), .val (.int (w0_m1 p5)), .val (.int (w0_m2 p5)), .val (.int (w0_m3 p0 p2 p5)), .val (.int (w0_m4 p1 p3 p5)), .val (.int (w0_5 p4)), .val (.int (w0_6 p4)), .val (.ref b27_8), .val (.ref b30_8), .val (.ref b32), .val (.ref b37), .val (.int (w0_m7 p0 p1 p2 p3 p5)), .val .null, .val (.ref b27_8)] [(.ref b37), (.ref b32)])) t → Steps p.tables e below S0 t := fun t k => K42 t (by
    refine XS.istore X42.here hx rfl (hb hby at_132) rfl (l' := #[.val (.int p0), .val (.int p1), .val (.int p2), .val (.int p3), .val (.int p4), .val (.int p5), .val (.int (w0_m1 p5)), .val (.int (w0_m2 p5)), .val (.int (w0_m3 p0 p2 p5)), .val (.int (w0_m4 p1 p3 p5)), .val (.int (w0_5 p4)), .val (.int (w0_6 p4)), .val (.ref b27_8), .val (.ref b30_8), .val (.ref b32), .val (.ref b37), .val (.int (w0_m7 p0 p1 p2 p3 p5)), .unset, .unset]) rfl ?_
    show Steps p.tables e below (T42.setTop (mkF m 134 #[.val (.int p0), .val (.int p1), .val (.int p2), .val (.int p3), .val (.int p4), .val (.int p5), .val (.int (w0_m1 p5)), .val (.int (w0_m2 p5)), .val (.int (w0_m3 p0 p2 p5)), .val (.int (w0_m4 p1 p3 p5)), .val (.int (w0_5 p4)), .val (.int (w0_6 p4)), .val (.ref b27_8), .val (.ref b30_8), .val (.ref b32), .val (.ref b37), .val (.int (w0_m7 p0 p1 p2 p3 p5)), .unset, .unset] [])) _
    refine XS.aconstNull X42.here hx rfl (hb hby at_134) ?_
    show Steps p.tables e below (T42.setTop (mkF m 135 #[.val (.int p0), .val (.int p1), .val (.int p2), .val (.int p3), .val (.int p4), .val (.int p5), .val (.int (w0_m1 p5)), .val (.int (w0_m2 p5)), .val (.int (w0_m3 p0 p2 p5)), .val (.int (w0_m4 p1 p3 p5)), .val (.int (w0_5 p4)), .val (.int (w0_6 p4)), .val (.ref b27_8), .val (.ref b30_8), .val (.ref b32), .val (.ref b37), .val (.int (w0_m7 p0 p1 p2 p3 p5)), .unset, .unset] [.null])) _
    refine XS.astore X42.here hx rfl (hb hby at_135) rfl rfl (l' := #[.val (.int p0), .val (.int p1), .val (.int p2), .val (.int p3), .val (.int p4), .val (.int p5), .val (.int (w0_m1 p5)), .val (.int (w0_m2 p5)), .val (.int (w0_m3 p0 p2 p5)), .val (.int (w0_m4 p1 p3 p5)), .val (.int (w0_5 p4)), .val (.int (w0_6 p4)), .val (.ref b27_8), .val (.ref b30_8), .val (.ref b32), .val (.ref b37), .val (.int (w0_m7 p0 p1 p2 p3 p5)), .val .null, .unset]) rfl ?_
    show Steps p.tables e below (T42.setTop (mkF m 137 #[.val (.int p0), .val (.int p1), .val (.int p2), .val (.int p3), .val (.int p4), .val (.int p5), .val (.int (w0_m1 p5)), .val (.int (w0_m2 p5)), .val (.int (w0_m3 p0 p2 p5)), .val (.int (w0_m4 p1 p3 p5)), .val (.int (w0_5 p4)), .val (.int (w0_6 p4)), .val (.ref b27_8), .val (.ref b30_8), .val (.ref b32), .val (.ref b37), .val (.int (w0_m7 p0 p1 p2 p3 p5)), .val .null, .unset] [])) _
    refine XS.aload X42.here hx rfl (hb hby at_137) rfl rfl ?_
    show Steps p.tables e below (T42.setTop (mkF m 139 #[.val (.int p0), .val (.int p1), .val (.int p2), .val (.int p3), .val (.int p4), .val (.int p5), .val (.int (w0_m1 p5)), .val (.int (w0_m2 p5)), .val (.int (w0_m3 p0 p2 p5)), .val (.int (w0_m4 p1 p3 p5)), .val (.int (w0_5 p4)), .val (.int (w0_6 p4)), .val (.ref b27_8), .val (.ref b30_8), .val (.ref b32), .val (.ref b37), .val (.int (w0_m7 p0 p1 p2 p3 p5)), .val .null, .unset] [(.ref b27_8)])) _
    refine XS.astore X42.here hx rfl (hb hby at_139) rfl rfl (l' := #[.val (.int p0), .val (.int p1), .val (.int p2), .val (.int p3), .val (.int p4), .val (.int p5), .val (.int (w0_m1 p5)), .val (.int (w0_m2 p5)), .val (.int (w0_m3 p0 p2 p5)), .val (.int (w0_m4 p1 p3 p5)), .val (.int (w0_5 p4)), .val (.int (w0_6 p4)), .val (.ref b27_8), .val (.ref b30_8), .val (.ref b32), .val (.ref b37), .val (.int (w0_m7 p0 p1 p2 p3 p5)), .val .null, .val (.ref b27_8)]) rfl ?_
    show Steps p.tables e below (T42.setTop (mkF m 141 #[.val (.int p0), .val (.int p1), .val (.int p2), .val (.int p3), .val (.int p4), .val (.int p5), .val (.int (w0_m1 p5)), .val (.int (w0_m2 p5)), .val (.int (w0_m3 p0 p2 p5)), .val (.int (w0_m4 p1 p3 p5)), .val (.int (w0_5 p4)), .val (.int (w0_6 p4)), .val (.ref b27_8), .val (.ref b30_8), .val (.ref b32), .val (.ref b37), .val (.int (w0_m7 p0 p1 p2 p3 p5)), .val .null, .val (.ref b27_8)] [])) _
    refine XS.aload X42.here hx rfl (hb hby at_141) rfl rfl ?_
    show Steps p.tables e below (T42.setTop (mkF m 143 #[.val (.int p0), .val (.int p1), .val (.int p2), .val (.int p3), .val (.int p4), .val (.int p5), .val (.int (w0_m1 p5)), .val (.int (w0_m2 p5)), .val (.int (w0_m3 p0 p2 p5)), .val (.int (w0_m4 p1 p3 p5)), .val (.int (w0_5 p4)), .val (.int (w0_6 p4)), .val (.ref b27_8), .val (.ref b30_8), .val (.ref b32), .val (.ref b37), .val (.int (w0_m7 p0 p1 p2 p3 p5)), .val .null, .val (.ref b27_8)] [(.ref b32)])) _
    refine XS.aload X42.here hx rfl (hb hby at_143) rfl rfl ?_
    show Steps p.tables e below (T42.setTop (mkF m 145 #[.val (.int p0), .val (.int p1), .val (.int p2), .val (.int p3), .val (.int p4), .val (.int p5), .val (.int (w0_m1 p5)), .val (.int (w0_m2 p5)), .val (.int (w0_m3 p0 p2 p5)), .val (.int (w0_m4 p1 p3 p5)), .val (.int (w0_5 p4)), .val (.int (w0_6 p4)), .val (.ref b27_8), .val (.ref b30_8), .val (.ref b32), .val (.ref b37), .val (.int (w0_m7 p0 p1 p2 p3 p5)), .val .null, .val (.ref b27_8)] [(.ref b37), (.ref b32)])) _
    exact k)
  have K_51 : ∀ t, Steps p.tables e below (T42.setTop (mkF m 145 #[.val (.int p0), .val (.int p1), .val (.int p2), .val (.int p3), .val (.int p4), .val (.int p5), .val (.int (w0_m1 p5)), .val (.int (w0_m2 p5)), .val (.int (w0_m3 p0 p2 p5)), .val (.int (w0_m4 p1 p3 p5)), .val (.int (w0_5 p4)), .val (.int (w0_6 p4)), .val (.ref b27_8), .val (.ref b30_8), .val (.ref b32), .val (.ref b37), .val (.int (w0_m7 p0 p1 p2 p3 p5)), .val .null, .val (.ref b27_8)] [(.ref b37), (.ref b32)])) t → Steps p.tables e below S0 t := K50
  obtain ⟨cq52, kq52, q52a, q52b, q52c⟩ := isOf hZ e42 Fn35_0__40
  obtain ⟨_, _, ⟨T52, L52, k52, n52⟩, -, X52, ⟨Lc52, hQ52, l52, y52, z52⟩, st52⟩ := X42.virtualBack hx (y := (⟨"com/example/elidora/elidora/Value$Element", "equals", "(Ljava/lang/Object;)Z"⟩ : MethodName)) (z := (⟨"com/example/elidora/elidora/Value$Element", "equals", "(Ljava/lang/Object;)Z"⟩ : MethodName)) hown (mvT hZ (hw _ (List.mem_of_getElem? (i := 44) rfl))) (mvT hZ (hw _ (List.mem_of_getElem? (i := 45) rfl))) (notFace_of_selects (args := #[]) (mvT hZ (hw _ (List.mem_of_getElem? (i := 47) rfl)))) (mvT hZ (hw _ (List.mem_of_getElem? (i := 47) rfl))) (mvT hZ (hw _ (List.mem_of_getElem? (i := 46) rfl))) (by decide) (backOf (W := 0) (rm7 l Z a0 hw [] b32 b37 p0 p1 (w0_m3 p0 p2 p5) (w0_m4 p1 p3 p5) T40.heap n0 Zs40 Fn40_0 Fn35_2__40 Fn35_3__40 Fn40_2 Fn40_3) hZ (hw _ (List.mem_of_getElem? (i := 48) rfl)) (hw _ (List.mem_of_getElem? (i := 28) rfl)) (by decide) (by decide)) q52a q52c (g := (mkF m 145 #[.val (.int p0), .val (.int p1), .val (.int p2), .val (.int p3), .val (.int p4), .val (.int p5), .val (.int (w0_m1 p5)), .val (.int (w0_m2 p5)), .val (.int (w0_m3 p0 p2 p5)), .val (.int (w0_m4 p1 p3 p5)), .val (.int (w0_5 p4)), .val (.int (w0_6 p4)), .val (.ref b27_8), .val (.ref b30_8), .val (.ref b32), .val (.ref b37), .val (.int (w0_m7 p0 p1 p2 p3 p5)), .val .null, .val (.ref b27_8)] [(.ref b37), (.ref b32)])) rfl (by rw [hml]; rfl) (Steps.refl _) (argsL := [(.ref b37)]) (rest := []) (lenOf pd0_2 rfl) rfl (by show 2 * 0 + _ ≤ _; exact Nat.le_of_eq rfl) (hb hby at_145) (fun _ _ => ⟨rfl, e42, (by decide : 6 + 0 ≤ 24), (by decide : 16 + 0 ≤ 128)⟩)
  dsimp only [Pt.U, Pt.locs, Pt.cells, Pt.slots] at X52 l52 y52 z52 st52 hQ52
  subst l52 y52 z52
  obtain ⟨rfl, N52q, e52⟩ := hQ52
  have N52 := Fr.app N42 N52q
  have K52 : ∀ t, Steps p.tables e below (T52.setTop (mkF m 148 #[.val (.int p0), .val (.int p1), .val (.int p2), .val (.int p3), .val (.int p4), .val (.int p5), .val (.int (w0_m1 p5)), .val (.int (w0_m2 p5)), .val (.int (w0_m3 p0 p2 p5)), .val (.int (w0_m4 p1 p3 p5)), .val (.int (w0_5 p4)), .val (.int (w0_6 p4)), .val (.ref b27_8), .val (.ref b30_8), .val (.ref b32), .val (.ref b37), .val (.int (w0_m7 p0 p1 p2 p3 p5)), .val .null, .val (.ref b27_8)] [(.int (w0_8 p0 p1 p2 p3 p5))])) t → Steps p.tables e below S0 t := fun t k => K_51 t (st52.trans k)
  have K53 : ∀ t, Steps p.tables e below (T52.setTop (mkF m 150 #[.val (.int p0), .val (.int p1), .val (.int p2), .val (.int p3), .val (.int p4), .val (.int p5), .val (.int (w0_m1 p5)), .val (.int (w0_m2 p5)), .val (.int (w0_m3 p0 p2 p5)), .val (.int (w0_m4 p1 p3 p5)), .val (.int (w0_5 p4)), .val (.int (w0_6 p4)), .val (.ref b27_8), .val (.ref b30_8), .val (.ref b32), .val (.ref b37), .val (.int (w0_m7 p0 p1 p2 p3 p5)), .val .null, .val (.ref b27_8)] [(.int (w0_m7 p0 p1 p2 p3 p5)), (.int (w0_8 p0 p1 p2 p3 p5))])) t → Steps p.tables e below S0 t := fun t k => K52 t (by
    refine XS.iload X52.here hx rfl (hb hby at_148) rfl ?_
    show Steps p.tables e below (T52.setTop (mkF m 150 #[.val (.int p0), .val (.int p1), .val (.int p2), .val (.int p3), .val (.int p4), .val (.int p5), .val (.int (w0_m1 p5)), .val (.int (w0_m2 p5)), .val (.int (w0_m3 p0 p2 p5)), .val (.int (w0_m4 p1 p3 p5)), .val (.int (w0_5 p4)), .val (.int (w0_6 p4)), .val (.ref b27_8), .val (.ref b30_8), .val (.ref b32), .val (.ref b37), .val (.int (w0_m7 p0 p1 p2 p3 p5)), .val .null, .val (.ref b27_8)] [(.int (w0_m7 p0 p1 p2 p3 p5)), (.int (w0_8 p0 p1 p2 p3 p5))])) _
    exact k)
  by_cases hc150_0 : (w0_8 p0 p1 p2 p3 p5) = (w0_m7 p0 p1 p2 p3 p5)
  · -- yes
    have K54 : ∀ t, Steps p.tables e below (T52.setTop (mkF m 157 #[.val (.int p0), .val (.int p1), .val (.int p2), .val (.int p3), .val (.int p4), .val (.int p5), .val (.int (w0_m1 p5)), .val (.int (w0_m2 p5)), .val (.int (w0_m3 p0 p2 p5)), .val (.int (w0_m4 p1 p3 p5)), .val (.int (w0_5 p4)), .val (.int (w0_6 p4)), .val (.ref b27_8), .val (.ref b30_8), .val (.ref b32), .val (.ref b37), .val (.int (w0_m7 p0 p1 p2 p3 p5)), .val .null, .val (.ref b27_8)] [(.ref b32), (.ref b37)])) t → Steps p.tables e below S0 t := fun t k => K53 t (by
      refine XS.icmpNo X52.here hx rfl (hb hby at_150) rfl (XT.ii_ne_f hc150_0) ?_
      show Steps p.tables e below (T52.setTop (mkF m 153 #[.val (.int p0), .val (.int p1), .val (.int p2), .val (.int p3), .val (.int p4), .val (.int p5), .val (.int (w0_m1 p5)), .val (.int (w0_m2 p5)), .val (.int (w0_m3 p0 p2 p5)), .val (.int (w0_m4 p1 p3 p5)), .val (.int (w0_5 p4)), .val (.int (w0_6 p4)), .val (.ref b27_8), .val (.ref b30_8), .val (.ref b32), .val (.ref b37), .val (.int (w0_m7 p0 p1 p2 p3 p5)), .val .null, .val (.ref b27_8)] [])) _
      refine XS.aload X52.here hx rfl (hb hby at_153) rfl rfl ?_
      show Steps p.tables e below (T52.setTop (mkF m 155 #[.val (.int p0), .val (.int p1), .val (.int p2), .val (.int p3), .val (.int p4), .val (.int p5), .val (.int (w0_m1 p5)), .val (.int (w0_m2 p5)), .val (.int (w0_m3 p0 p2 p5)), .val (.int (w0_m4 p1 p3 p5)), .val (.int (w0_5 p4)), .val (.int (w0_6 p4)), .val (.ref b27_8), .val (.ref b30_8), .val (.ref b32), .val (.ref b37), .val (.int (w0_m7 p0 p1 p2 p3 p5)), .val .null, .val (.ref b27_8)] [(.ref b37)])) _
      refine XS.aload X52.here hx rfl (hb hby at_155) rfl rfl ?_
      show Steps p.tables e below (T52.setTop (mkF m 157 #[.val (.int p0), .val (.int p1), .val (.int p2), .val (.int p3), .val (.int p4), .val (.int p5), .val (.int (w0_m1 p5)), .val (.int (w0_m2 p5)), .val (.int (w0_m3 p0 p2 p5)), .val (.int (w0_m4 p1 p3 p5)), .val (.int (w0_5 p4)), .val (.int (w0_6 p4)), .val (.ref b27_8), .val (.ref b30_8), .val (.ref b32), .val (.ref b37), .val (.int (w0_m7 p0 p1 p2 p3 p5)), .val .null, .val (.ref b27_8)] [(.ref b32), (.ref b37)])) _
      exact k)
    have K_55 : ∀ t, Steps p.tables e below (T52.setTop (mkF m 157 #[.val (.int p0), .val (.int p1), .val (.int p2), .val (.int p3), .val (.int p4), .val (.int p5), .val (.int (w0_m1 p5)), .val (.int (w0_m2 p5)), .val (.int (w0_m3 p0 p2 p5)), .val (.int (w0_m4 p1 p3 p5)), .val (.int (w0_5 p4)), .val (.int (w0_6 p4)), .val (.ref b27_8), .val (.ref b30_8), .val (.ref b32), .val (.ref b37), .val (.int (w0_m7 p0 p1 p2 p3 p5)), .val .null, .val (.ref b27_8)] [(.ref b32), (.ref b37)])) t → Steps p.tables e below S0 t := K54
    obtain ⟨cq56, kq56, q56a, q56b, q56c⟩ := isOf hZ e52 Fn40_0
    obtain ⟨_, _, ⟨T56, L56, k56, n56⟩, -, X56, ⟨Lc56, hQ56, l56, y56, z56⟩, st56⟩ := X52.virtualBack hx (y := (⟨"com/example/elidora/elidora/Value$Element", "equals", "(Ljava/lang/Object;)Z"⟩ : MethodName)) (z := (⟨"com/example/elidora/elidora/Value$Element", "equals", "(Ljava/lang/Object;)Z"⟩ : MethodName)) hown (mvT hZ (hw _ (List.mem_of_getElem? (i := 44) rfl))) (mvT hZ (hw _ (List.mem_of_getElem? (i := 45) rfl))) (notFace_of_selects (args := #[]) (mvT hZ (hw _ (List.mem_of_getElem? (i := 47) rfl)))) (mvT hZ (hw _ (List.mem_of_getElem? (i := 47) rfl))) (mvT hZ (hw _ (List.mem_of_getElem? (i := 46) rfl))) (by decide) (backOf (W := 0) (rm7 l Z a0 hw [] b37 b32 (w0_m3 p0 p2 p5) (w0_m4 p1 p3 p5) p0 p1 T40.heap n0 Zs40 Fn35_0__40 Fn40_2 Fn40_3 Fn35_2__40 Fn35_3__40) hZ (hw _ (List.mem_of_getElem? (i := 48) rfl)) (hw _ (List.mem_of_getElem? (i := 28) rfl)) (by decide) (by decide)) q56a q56c (g := (mkF m 157 #[.val (.int p0), .val (.int p1), .val (.int p2), .val (.int p3), .val (.int p4), .val (.int p5), .val (.int (w0_m1 p5)), .val (.int (w0_m2 p5)), .val (.int (w0_m3 p0 p2 p5)), .val (.int (w0_m4 p1 p3 p5)), .val (.int (w0_5 p4)), .val (.int (w0_6 p4)), .val (.ref b27_8), .val (.ref b30_8), .val (.ref b32), .val (.ref b37), .val (.int (w0_m7 p0 p1 p2 p3 p5)), .val .null, .val (.ref b27_8)] [(.ref b32), (.ref b37)])) rfl (by rw [hml]; rfl) (Steps.refl _) (argsL := [(.ref b32)]) (rest := []) (lenOf pd0_2 rfl) rfl (by show 2 * 0 + _ ≤ _; exact Nat.le_of_eq rfl) (hb hby at_157) (fun _ _ => ⟨rfl, e52, (by decide : 6 + 0 ≤ 24), (by decide : 16 + 0 ≤ 128)⟩)
    dsimp only [Pt.U, Pt.locs, Pt.cells, Pt.slots] at X56 l56 y56 z56 st56 hQ56
    subst l56 y56 z56
    obtain ⟨rfl, N56q, e56⟩ := hQ56
    have N56 := Fr.app N52 N56q
    have K56 : ∀ t, Steps p.tables e below (T56.setTop (mkF m 160 #[.val (.int p0), .val (.int p1), .val (.int p2), .val (.int p3), .val (.int p4), .val (.int p5), .val (.int (w0_m1 p5)), .val (.int (w0_m2 p5)), .val (.int (w0_m3 p0 p2 p5)), .val (.int (w0_m4 p1 p3 p5)), .val (.int (w0_5 p4)), .val (.int (w0_6 p4)), .val (.ref b27_8), .val (.ref b30_8), .val (.ref b32), .val (.ref b37), .val (.int (w0_m7 p0 p1 p2 p3 p5)), .val .null, .val (.ref b27_8)] [(.int (w0_9 p0 p1 p2 p3 p5))])) t → Steps p.tables e below S0 t := fun t k => K_55 t (st56.trans k)
    have K57 : ∀ t, Steps p.tables e below (T56.setTop (mkF m 162 #[.val (.int p0), .val (.int p1), .val (.int p2), .val (.int p3), .val (.int p4), .val (.int p5), .val (.int (w0_m1 p5)), .val (.int (w0_m2 p5)), .val (.int (w0_m3 p0 p2 p5)), .val (.int (w0_m4 p1 p3 p5)), .val (.int (w0_5 p4)), .val (.int (w0_6 p4)), .val (.ref b27_8), .val (.ref b30_8), .val (.ref b32), .val (.ref b37), .val (.int (w0_m7 p0 p1 p2 p3 p5)), .val .null, .val (.ref b27_8)] [(.int (w0_m7 p0 p1 p2 p3 p5)), (.int (w0_9 p0 p1 p2 p3 p5))])) t → Steps p.tables e below S0 t := fun t k => K56 t (by
      refine XS.iload X56.here hx rfl (hb hby at_160) rfl ?_
      show Steps p.tables e below (T56.setTop (mkF m 162 #[.val (.int p0), .val (.int p1), .val (.int p2), .val (.int p3), .val (.int p4), .val (.int p5), .val (.int (w0_m1 p5)), .val (.int (w0_m2 p5)), .val (.int (w0_m3 p0 p2 p5)), .val (.int (w0_m4 p1 p3 p5)), .val (.int (w0_5 p4)), .val (.int (w0_6 p4)), .val (.ref b27_8), .val (.ref b30_8), .val (.ref b32), .val (.ref b37), .val (.int (w0_m7 p0 p1 p2 p3 p5)), .val .null, .val (.ref b27_8)] [(.int (w0_m7 p0 p1 p2 p3 p5)), (.int (w0_9 p0 p1 p2 p3 p5))])) _
      exact k)
    by_cases hc162_1 : (w0_9 p0 p1 p2 p3 p5) = (w0_m7 p0 p1 p2 p3 p5)
    · -- yes
      have K58 : ∀ t, Steps p.tables e below (T56.setTop (mkF m 169 #[.val (.int p0), .val (.int p1), .val (.int p2), .val (.int p3), .val (.int p4), .val (.int p5), .val (.int (w0_m1 p5)), .val (.int (w0_m2 p5)), .val (.int (w0_m3 p0 p2 p5)), .val (.int (w0_m4 p1 p3 p5)), .val (.int (w0_5 p4)), .val (.int (w0_6 p4)), .val (.ref b27_8), .val (.ref b30_8), .val (.ref b32), .val (.ref b37), .val (.int (w0_m7 p0 p1 p2 p3 p5)), .val .null, .val (.ref b27_8)] [(.ref b32), (.ref b32)])) t → Steps p.tables e below S0 t := fun t k => K57 t (by
        refine XS.icmpNo X56.here hx rfl (hb hby at_162) rfl (XT.ii_ne_f hc162_1) ?_
        show Steps p.tables e below (T56.setTop (mkF m 165 #[.val (.int p0), .val (.int p1), .val (.int p2), .val (.int p3), .val (.int p4), .val (.int p5), .val (.int (w0_m1 p5)), .val (.int (w0_m2 p5)), .val (.int (w0_m3 p0 p2 p5)), .val (.int (w0_m4 p1 p3 p5)), .val (.int (w0_5 p4)), .val (.int (w0_6 p4)), .val (.ref b27_8), .val (.ref b30_8), .val (.ref b32), .val (.ref b37), .val (.int (w0_m7 p0 p1 p2 p3 p5)), .val .null, .val (.ref b27_8)] [])) _
        refine XS.aload X56.here hx rfl (hb hby at_165) rfl rfl ?_
        show Steps p.tables e below (T56.setTop (mkF m 167 #[.val (.int p0), .val (.int p1), .val (.int p2), .val (.int p3), .val (.int p4), .val (.int p5), .val (.int (w0_m1 p5)), .val (.int (w0_m2 p5)), .val (.int (w0_m3 p0 p2 p5)), .val (.int (w0_m4 p1 p3 p5)), .val (.int (w0_5 p4)), .val (.int (w0_6 p4)), .val (.ref b27_8), .val (.ref b30_8), .val (.ref b32), .val (.ref b37), .val (.int (w0_m7 p0 p1 p2 p3 p5)), .val .null, .val (.ref b27_8)] [(.ref b32)])) _
        refine XS.aload X56.here hx rfl (hb hby at_167) rfl rfl ?_
        show Steps p.tables e below (T56.setTop (mkF m 169 #[.val (.int p0), .val (.int p1), .val (.int p2), .val (.int p3), .val (.int p4), .val (.int p5), .val (.int (w0_m1 p5)), .val (.int (w0_m2 p5)), .val (.int (w0_m3 p0 p2 p5)), .val (.int (w0_m4 p1 p3 p5)), .val (.int (w0_5 p4)), .val (.int (w0_6 p4)), .val (.ref b27_8), .val (.ref b30_8), .val (.ref b32), .val (.ref b37), .val (.int (w0_m7 p0 p1 p2 p3 p5)), .val .null, .val (.ref b27_8)] [(.ref b32), (.ref b32)])) _
        exact k)
      have K_59 : ∀ t, Steps p.tables e below (T56.setTop (mkF m 169 #[.val (.int p0), .val (.int p1), .val (.int p2), .val (.int p3), .val (.int p4), .val (.int p5), .val (.int (w0_m1 p5)), .val (.int (w0_m2 p5)), .val (.int (w0_m3 p0 p2 p5)), .val (.int (w0_m4 p1 p3 p5)), .val (.int (w0_5 p4)), .val (.int (w0_6 p4)), .val (.ref b27_8), .val (.ref b30_8), .val (.ref b32), .val (.ref b37), .val (.int (w0_m7 p0 p1 p2 p3 p5)), .val .null, .val (.ref b27_8)] [(.ref b32), (.ref b32)])) t → Steps p.tables e below S0 t := K58
      obtain ⟨cq60, kq60, q60a, q60b, q60c⟩ := isOf hZ e56 Fn35_0__40
      obtain ⟨_, _, ⟨T60, L60, k60, n60⟩, -, X60, ⟨Lc60, hQ60, l60, y60, z60⟩, st60⟩ := X56.virtualBack hx (y := (⟨"com/example/elidora/elidora/Value$Element", "equals", "(Ljava/lang/Object;)Z"⟩ : MethodName)) (z := (⟨"com/example/elidora/elidora/Value$Element", "equals", "(Ljava/lang/Object;)Z"⟩ : MethodName)) hown (mvT hZ (hw _ (List.mem_of_getElem? (i := 44) rfl))) (mvT hZ (hw _ (List.mem_of_getElem? (i := 45) rfl))) (notFace_of_selects (args := #[]) (mvT hZ (hw _ (List.mem_of_getElem? (i := 47) rfl)))) (mvT hZ (hw _ (List.mem_of_getElem? (i := 47) rfl))) (mvT hZ (hw _ (List.mem_of_getElem? (i := 46) rfl))) (by decide) (backOf (W := 0) (rm7 l Z a0 hw [] b32 b32 p0 p1 p0 p1 T40.heap n0 Zs40 Fn35_0__40 Fn35_2__40 Fn35_3__40 Fn35_2__40 Fn35_3__40) hZ (hw _ (List.mem_of_getElem? (i := 48) rfl)) (hw _ (List.mem_of_getElem? (i := 28) rfl)) (by decide) (by decide)) q60a q60c (g := (mkF m 169 #[.val (.int p0), .val (.int p1), .val (.int p2), .val (.int p3), .val (.int p4), .val (.int p5), .val (.int (w0_m1 p5)), .val (.int (w0_m2 p5)), .val (.int (w0_m3 p0 p2 p5)), .val (.int (w0_m4 p1 p3 p5)), .val (.int (w0_5 p4)), .val (.int (w0_6 p4)), .val (.ref b27_8), .val (.ref b30_8), .val (.ref b32), .val (.ref b37), .val (.int (w0_m7 p0 p1 p2 p3 p5)), .val .null, .val (.ref b27_8)] [(.ref b32), (.ref b32)])) rfl (by rw [hml]; rfl) (Steps.refl _) (argsL := [(.ref b32)]) (rest := []) (lenOf pd0_2 rfl) rfl (by show 2 * 0 + _ ≤ _; exact Nat.le_of_eq rfl) (hb hby at_169) (fun _ _ => ⟨rfl, e56, (by decide : 6 + 0 ≤ 24), (by decide : 16 + 0 ≤ 128)⟩)
      dsimp only [Pt.U, Pt.locs, Pt.cells, Pt.slots] at X60 l60 y60 z60 st60 hQ60
      subst l60 y60 z60
      obtain ⟨rfl, N60q, e60⟩ := hQ60
      have N60 := Fr.app N56 N60q
      have K60 : ∀ t, Steps p.tables e below (T60.setTop (mkF m 172 #[.val (.int p0), .val (.int p1), .val (.int p2), .val (.int p3), .val (.int p4), .val (.int p5), .val (.int (w0_m1 p5)), .val (.int (w0_m2 p5)), .val (.int (w0_m3 p0 p2 p5)), .val (.int (w0_m4 p1 p3 p5)), .val (.int (w0_5 p4)), .val (.int (w0_6 p4)), .val (.ref b27_8), .val (.ref b30_8), .val (.ref b32), .val (.ref b37), .val (.int (w0_m7 p0 p1 p2 p3 p5)), .val .null, .val (.ref b27_8)] [(.int (w7_r1 p0 p1 p0 p1))])) t → Steps p.tables e below S0 t := fun t k => K_59 t (st60.trans k)
      by_cases hc172_2 : (w7_r1 p0 p1 p0 p1) = (0 : Int32)
      · -- yes
        have K61 : ∀ t, Steps p.tables e below (T60.setTop (mkF m 200 #[.val (.int p0), .val (.int p1), .val (.int p2), .val (.int p3), .val (.int p4), .val (.int p5), .val (.int (w0_m1 p5)), .val (.int (w0_m2 p5)), .val (.int (w0_m3 p0 p2 p5)), .val (.int (w0_m4 p1 p3 p5)), .val (.int (w0_5 p4)), .val (.int (w0_6 p4)), .val (.ref b27_8), .val (.ref b30_8), .val (.ref b32), .val (.ref b37), .val (.int (w0_m7 p0 p1 p2 p3 p5)), .val .null, .val (.ref b27_8)] [(.int (0 : Int32))])) t → Steps p.tables e below S0 t := fun t k => K60 t (by
          refine XS.ifYes X60.here hx rfl (pc0 := 172) (pc' := 199) rfl (hb hby at_172) rfl (XT.i0_eq_t hc172_2) (by decide) (by decide) ?_
          show Steps p.tables e below (T60.setTop (mkF m 199 #[.val (.int p0), .val (.int p1), .val (.int p2), .val (.int p3), .val (.int p4), .val (.int p5), .val (.int (w0_m1 p5)), .val (.int (w0_m2 p5)), .val (.int (w0_m3 p0 p2 p5)), .val (.int (w0_m4 p1 p3 p5)), .val (.int (w0_5 p4)), .val (.int (w0_6 p4)), .val (.ref b27_8), .val (.ref b30_8), .val (.ref b32), .val (.ref b37), .val (.int (w0_m7 p0 p1 p2 p3 p5)), .val .null, .val (.ref b27_8)] [])) _
          refine XS.iconst X60.here hx rfl (hb hby at_199) ?_
          show Steps p.tables e below (T60.setTop (mkF m 200 #[.val (.int p0), .val (.int p1), .val (.int p2), .val (.int p3), .val (.int p4), .val (.int p5), .val (.int (w0_m1 p5)), .val (.int (w0_m2 p5)), .val (.int (w0_m3 p0 p2 p5)), .val (.int (w0_m4 p1 p3 p5)), .val (.int (w0_5 p4)), .val (.int (w0_6 p4)), .val (.ref b27_8), .val (.ref b30_8), .val (.ref b32), .val (.ref b37), .val (.int (w0_m7 p0 p1 p2 p3 p5)), .val .null, .val (.ref b27_8)] [(.int (0 : Int32))])) _
          exact k)
        obtain ⟨fs, hr, hrun, hended, hW, hsame⟩ := X60.leave (v := some (.int (0 : Int32))) (fun h => by rw [Bd.returns] at h; cases h) hlk
        refine ⟨_, _, ?_, hrun, hended, _, _, rfl, ?_, ⟨_, rfl⟩, hW, hsame.mono (by decide) (by decide)⟩
        · rw [← hS0]; exact K61 _ (retN X60 hx (t := .boolean) Bd.returns (by simp) (hb hby at_200) hr)
        · show Q0 Z p0 p1 p2 p3 p4 p5 zc h0 n0 _ T60.heap _
          rw [e60]
          have qr : (0 : Int32) = (w0_r10 p0 p1 p2 p3 p5) := by unfold w0_r10; rw [if_pos hc150_0, if_pos hc162_1, if_pos hc172_2]
          exact ⟨congrArg (fun z => some (Value.int z)) qr, N60⟩
      · -- no
        have K62 : ∀ t, Steps p.tables e below (T60.setTop (mkF m 179 #[.val (.int p0), .val (.int p1), .val (.int p2), .val (.int p3), .val (.int p4), .val (.int p5), .val (.int (w0_m1 p5)), .val (.int (w0_m2 p5)), .val (.int (w0_m3 p0 p2 p5)), .val (.int (w0_m4 p1 p3 p5)), .val (.int (w0_5 p4)), .val (.int (w0_6 p4)), .val (.ref b27_8), .val (.ref b30_8), .val (.ref b32), .val (.ref b37), .val (.int (w0_m7 p0 p1 p2 p3 p5)), .val .null, .val (.ref b27_8)] [.null, (.ref b32)])) t → Steps p.tables e below S0 t := fun t k => K60 t (by
          refine XS.ifNo X60.here hx rfl (hb hby at_172) rfl (XT.i0_eq_f hc172_2) ?_
          show Steps p.tables e below (T60.setTop (mkF m 175 #[.val (.int p0), .val (.int p1), .val (.int p2), .val (.int p3), .val (.int p4), .val (.int p5), .val (.int (w0_m1 p5)), .val (.int (w0_m2 p5)), .val (.int (w0_m3 p0 p2 p5)), .val (.int (w0_m4 p1 p3 p5)), .val (.int (w0_5 p4)), .val (.int (w0_6 p4)), .val (.ref b27_8), .val (.ref b30_8), .val (.ref b32), .val (.ref b37), .val (.int (w0_m7 p0 p1 p2 p3 p5)), .val .null, .val (.ref b27_8)] [])) _
          refine XS.aload X60.here hx rfl (hb hby at_175) rfl rfl ?_
          show Steps p.tables e below (T60.setTop (mkF m 177 #[.val (.int p0), .val (.int p1), .val (.int p2), .val (.int p3), .val (.int p4), .val (.int p5), .val (.int (w0_m1 p5)), .val (.int (w0_m2 p5)), .val (.int (w0_m3 p0 p2 p5)), .val (.int (w0_m4 p1 p3 p5)), .val (.int (w0_5 p4)), .val (.int (w0_6 p4)), .val (.ref b27_8), .val (.ref b30_8), .val (.ref b32), .val (.ref b37), .val (.int (w0_m7 p0 p1 p2 p3 p5)), .val .null, .val (.ref b27_8)] [(.ref b32)])) _
          refine XS.aload X60.here hx rfl (hb hby at_177) rfl rfl ?_
          show Steps p.tables e below (T60.setTop (mkF m 179 #[.val (.int p0), .val (.int p1), .val (.int p2), .val (.int p3), .val (.int p4), .val (.int p5), .val (.int (w0_m1 p5)), .val (.int (w0_m2 p5)), .val (.int (w0_m3 p0 p2 p5)), .val (.int (w0_m4 p1 p3 p5)), .val (.int (w0_5 p4)), .val (.int (w0_6 p4)), .val (.ref b27_8), .val (.ref b30_8), .val (.ref b32), .val (.ref b37), .val (.int (w0_m7 p0 p1 p2 p3 p5)), .val .null, .val (.ref b27_8)] [.null, (.ref b32)])) _
          exact k)
        have K_63 : ∀ t, Steps p.tables e below (T60.setTop (mkF m 179 #[.val (.int p0), .val (.int p1), .val (.int p2), .val (.int p3), .val (.int p4), .val (.int p5), .val (.int (w0_m1 p5)), .val (.int (w0_m2 p5)), .val (.int (w0_m3 p0 p2 p5)), .val (.int (w0_m4 p1 p3 p5)), .val (.int (w0_5 p4)), .val (.int (w0_6 p4)), .val (.ref b27_8), .val (.ref b30_8), .val (.ref b32), .val (.ref b37), .val (.int (w0_m7 p0 p1 p2 p3 p5)), .val .null, .val (.ref b27_8)] [.null, (.ref b32)])) t → Steps p.tables e below S0 t := K62
        obtain ⟨cq64, kq64, q64a, q64b, q64c⟩ := isOf hZ e60 Fn35_0__40
        obtain ⟨_, _, ⟨T64, L64, k64, n64⟩, -, X64, ⟨Lc64, hQ64, l64, y64, z64⟩, st64⟩ := X60.virtualBack hx (y := (⟨"com/example/elidora/elidora/Value$Element", "equals", "(Ljava/lang/Object;)Z"⟩ : MethodName)) (z := (⟨"com/example/elidora/elidora/Value$Element", "equals", "(Ljava/lang/Object;)Z"⟩ : MethodName)) hown (mvT hZ (hw _ (List.mem_of_getElem? (i := 44) rfl))) (mvT hZ (hw _ (List.mem_of_getElem? (i := 45) rfl))) (notFace_of_selects (args := #[]) (mvT hZ (hw _ (List.mem_of_getElem? (i := 47) rfl)))) (mvT hZ (hw _ (List.mem_of_getElem? (i := 47) rfl))) (mvT hZ (hw _ (List.mem_of_getElem? (i := 46) rfl))) (by decide) (backOf (W := 0) (rm8 l Z a0 hw [] b32 T40.heap n0 Zs40 ) hZ (hw _ (List.mem_of_getElem? (i := 48) rfl)) (hw _ (List.mem_of_getElem? (i := 28) rfl)) (by decide) (by decide)) q64a q64c (g := (mkF m 179 #[.val (.int p0), .val (.int p1), .val (.int p2), .val (.int p3), .val (.int p4), .val (.int p5), .val (.int (w0_m1 p5)), .val (.int (w0_m2 p5)), .val (.int (w0_m3 p0 p2 p5)), .val (.int (w0_m4 p1 p3 p5)), .val (.int (w0_5 p4)), .val (.int (w0_6 p4)), .val (.ref b27_8), .val (.ref b30_8), .val (.ref b32), .val (.ref b37), .val (.int (w0_m7 p0 p1 p2 p3 p5)), .val .null, .val (.ref b27_8)] [.null, (.ref b32)])) rfl (by rw [hml]; rfl) (Steps.refl _) (argsL := [.null]) (rest := []) (lenOf pd0_2 rfl) rfl (by show 2 * 0 + _ ≤ _; exact Nat.le_of_eq rfl) (hb hby at_179) (fun _ _ => ⟨rfl, e60, (by decide : 6 + 0 ≤ 24), (by decide : 16 + 0 ≤ 128)⟩)
        dsimp only [Pt.U, Pt.locs, Pt.cells, Pt.slots] at X64 l64 y64 z64 st64 hQ64
        subst l64 y64 z64
        obtain ⟨rfl, N64q, e64⟩ := hQ64
        have N64 := Fr.app N60 N64q
        have K64 : ∀ t, Steps p.tables e below (T64.setTop (mkF m 182 #[.val (.int p0), .val (.int p1), .val (.int p2), .val (.int p3), .val (.int p4), .val (.int p5), .val (.int (w0_m1 p5)), .val (.int (w0_m2 p5)), .val (.int (w0_m3 p0 p2 p5)), .val (.int (w0_m4 p1 p3 p5)), .val (.int (w0_5 p4)), .val (.int (w0_6 p4)), .val (.ref b27_8), .val (.ref b30_8), .val (.ref b32), .val (.ref b37), .val (.int (w0_m7 p0 p1 p2 p3 p5)), .val .null, .val (.ref b27_8)] [(.int (0 : Int32))])) t → Steps p.tables e below S0 t := fun t k => K_63 t (st64.trans k)
        have K65 : ∀ t, Steps p.tables e below (T64.setTop (mkF m 189 #[.val (.int p0), .val (.int p1), .val (.int p2), .val (.int p3), .val (.int p4), .val (.int p5), .val (.int (w0_m1 p5)), .val (.int (w0_m2 p5)), .val (.int (w0_m3 p0 p2 p5)), .val (.int (w0_m4 p1 p3 p5)), .val (.int (w0_5 p4)), .val (.int (w0_6 p4)), .val (.ref b27_8), .val (.ref b30_8), .val (.ref b32), .val (.ref b37), .val (.int (w0_m7 p0 p1 p2 p3 p5)), .val .null, .val (.ref b27_8)] [(.ref b27_8), (.ref b32)])) t → Steps p.tables e below S0 t := fun t k => K64 t (by
          refine XS.ifNo X64.here hx rfl (hb hby at_182) rfl (XT.i0_ne_f (by decide)) ?_
          show Steps p.tables e below (T64.setTop (mkF m 185 #[.val (.int p0), .val (.int p1), .val (.int p2), .val (.int p3), .val (.int p4), .val (.int p5), .val (.int (w0_m1 p5)), .val (.int (w0_m2 p5)), .val (.int (w0_m3 p0 p2 p5)), .val (.int (w0_m4 p1 p3 p5)), .val (.int (w0_5 p4)), .val (.int (w0_6 p4)), .val (.ref b27_8), .val (.ref b30_8), .val (.ref b32), .val (.ref b37), .val (.int (w0_m7 p0 p1 p2 p3 p5)), .val .null, .val (.ref b27_8)] [])) _
          refine XS.aload X64.here hx rfl (hb hby at_185) rfl rfl ?_
          show Steps p.tables e below (T64.setTop (mkF m 187 #[.val (.int p0), .val (.int p1), .val (.int p2), .val (.int p3), .val (.int p4), .val (.int p5), .val (.int (w0_m1 p5)), .val (.int (w0_m2 p5)), .val (.int (w0_m3 p0 p2 p5)), .val (.int (w0_m4 p1 p3 p5)), .val (.int (w0_5 p4)), .val (.int (w0_6 p4)), .val (.ref b27_8), .val (.ref b30_8), .val (.ref b32), .val (.ref b37), .val (.int (w0_m7 p0 p1 p2 p3 p5)), .val .null, .val (.ref b27_8)] [(.ref b32)])) _
          refine XS.aload X64.here hx rfl (hb hby at_187) rfl rfl ?_
          show Steps p.tables e below (T64.setTop (mkF m 189 #[.val (.int p0), .val (.int p1), .val (.int p2), .val (.int p3), .val (.int p4), .val (.int p5), .val (.int (w0_m1 p5)), .val (.int (w0_m2 p5)), .val (.int (w0_m3 p0 p2 p5)), .val (.int (w0_m4 p1 p3 p5)), .val (.int (w0_5 p4)), .val (.int (w0_6 p4)), .val (.ref b27_8), .val (.ref b30_8), .val (.ref b32), .val (.ref b37), .val (.int (w0_m7 p0 p1 p2 p3 p5)), .val .null, .val (.ref b27_8)] [(.ref b27_8), (.ref b32)])) _
          exact k)
        have K_66 : ∀ t, Steps p.tables e below (T64.setTop (mkF m 189 #[.val (.int p0), .val (.int p1), .val (.int p2), .val (.int p3), .val (.int p4), .val (.int p5), .val (.int (w0_m1 p5)), .val (.int (w0_m2 p5)), .val (.int (w0_m3 p0 p2 p5)), .val (.int (w0_m4 p1 p3 p5)), .val (.int (w0_5 p4)), .val (.int (w0_6 p4)), .val (.ref b27_8), .val (.ref b30_8), .val (.ref b32), .val (.ref b37), .val (.int (w0_m7 p0 p1 p2 p3 p5)), .val .null, .val (.ref b27_8)] [(.ref b27_8), (.ref b32)])) t → Steps p.tables e below S0 t := K65
        obtain ⟨cq67, kq67, q67a, q67b, q67c⟩ := isOf hZ e64 Fn35_0__40
        obtain ⟨_, _, ⟨T67, L67, k67, n67⟩, -, X67, ⟨Lc67, hQ67, l67, y67, z67⟩, st67⟩ := X64.virtualBack hx (y := (⟨"com/example/elidora/elidora/Value$Element", "equals", "(Ljava/lang/Object;)Z"⟩ : MethodName)) (z := (⟨"com/example/elidora/elidora/Value$Element", "equals", "(Ljava/lang/Object;)Z"⟩ : MethodName)) hown (mvT hZ (hw _ (List.mem_of_getElem? (i := 44) rfl))) (mvT hZ (hw _ (List.mem_of_getElem? (i := 45) rfl))) (notFace_of_selects (args := #[]) (mvT hZ (hw _ (List.mem_of_getElem? (i := 47) rfl)))) (mvT hZ (hw _ (List.mem_of_getElem? (i := 47) rfl))) (mvT hZ (hw _ (List.mem_of_getElem? (i := 46) rfl))) (by decide) (backOf (W := 0) (rm9 l Z a0 hw [] b32 b27_8 T40.heap n0 Zs40 Fn27_0__40) hZ (hw _ (List.mem_of_getElem? (i := 48) rfl)) (hw _ (List.mem_of_getElem? (i := 28) rfl)) (by decide) (by decide)) q67a q67c (g := (mkF m 189 #[.val (.int p0), .val (.int p1), .val (.int p2), .val (.int p3), .val (.int p4), .val (.int p5), .val (.int (w0_m1 p5)), .val (.int (w0_m2 p5)), .val (.int (w0_m3 p0 p2 p5)), .val (.int (w0_m4 p1 p3 p5)), .val (.int (w0_5 p4)), .val (.int (w0_6 p4)), .val (.ref b27_8), .val (.ref b30_8), .val (.ref b32), .val (.ref b37), .val (.int (w0_m7 p0 p1 p2 p3 p5)), .val .null, .val (.ref b27_8)] [(.ref b27_8), (.ref b32)])) rfl (by rw [hml]; rfl) (Steps.refl _) (argsL := [(.ref b27_8)]) (rest := []) (lenOf pd0_2 rfl) rfl (by show 2 * 0 + _ ≤ _; exact Nat.le_of_eq rfl) (hb hby at_189) (fun _ _ => ⟨rfl, e64, (by decide : 6 + 0 ≤ 24), (by decide : 16 + 0 ≤ 128)⟩)
        dsimp only [Pt.U, Pt.locs, Pt.cells, Pt.slots] at X67 l67 y67 z67 st67 hQ67
        subst l67 y67 z67
        obtain ⟨rfl, N67q, e67⟩ := hQ67
        have N67 := Fr.app N64 N67q
        have K67 : ∀ t, Steps p.tables e below (T67.setTop (mkF m 192 #[.val (.int p0), .val (.int p1), .val (.int p2), .val (.int p3), .val (.int p4), .val (.int p5), .val (.int (w0_m1 p5)), .val (.int (w0_m2 p5)), .val (.int (w0_m3 p0 p2 p5)), .val (.int (w0_m4 p1 p3 p5)), .val (.int (w0_5 p4)), .val (.int (w0_6 p4)), .val (.ref b27_8), .val (.ref b30_8), .val (.ref b32), .val (.ref b37), .val (.int (w0_m7 p0 p1 p2 p3 p5)), .val .null, .val (.ref b27_8)] [(.int (0 : Int32))])) t → Steps p.tables e below S0 t := fun t k => K_66 t (st67.trans k)
        have K68 : ∀ t, Steps p.tables e below (T67.setTop (mkF m 200 #[.val (.int p0), .val (.int p1), .val (.int p2), .val (.int p3), .val (.int p4), .val (.int p5), .val (.int (w0_m1 p5)), .val (.int (w0_m2 p5)), .val (.int (w0_m3 p0 p2 p5)), .val (.int (w0_m4 p1 p3 p5)), .val (.int (w0_5 p4)), .val (.int (w0_6 p4)), .val (.ref b27_8), .val (.ref b30_8), .val (.ref b32), .val (.ref b37), .val (.int (w0_m7 p0 p1 p2 p3 p5)), .val .null, .val (.ref b27_8)] [(.int (1 : Int32))])) t → Steps p.tables e below S0 t := fun t k => K67 t (by
          refine XS.ifNo X67.here hx rfl (hb hby at_192) rfl (XT.i0_ne_f (by decide)) ?_
          show Steps p.tables e below (T67.setTop (mkF m 195 #[.val (.int p0), .val (.int p1), .val (.int p2), .val (.int p3), .val (.int p4), .val (.int p5), .val (.int (w0_m1 p5)), .val (.int (w0_m2 p5)), .val (.int (w0_m3 p0 p2 p5)), .val (.int (w0_m4 p1 p3 p5)), .val (.int (w0_5 p4)), .val (.int (w0_6 p4)), .val (.ref b27_8), .val (.ref b30_8), .val (.ref b32), .val (.ref b37), .val (.int (w0_m7 p0 p1 p2 p3 p5)), .val .null, .val (.ref b27_8)] [])) _
          refine XS.iconst X67.here hx rfl (hb hby at_195) ?_
          show Steps p.tables e below (T67.setTop (mkF m 196 #[.val (.int p0), .val (.int p1), .val (.int p2), .val (.int p3), .val (.int p4), .val (.int p5), .val (.int (w0_m1 p5)), .val (.int (w0_m2 p5)), .val (.int (w0_m3 p0 p2 p5)), .val (.int (w0_m4 p1 p3 p5)), .val (.int (w0_5 p4)), .val (.int (w0_6 p4)), .val (.ref b27_8), .val (.ref b30_8), .val (.ref b32), .val (.ref b37), .val (.int (w0_m7 p0 p1 p2 p3 p5)), .val .null, .val (.ref b27_8)] [(.int (1 : Int32))])) _
          refine XS.goto X67.here hx rfl (pc0 := 196) (pc' := 200) rfl (hb hby at_196) (by decide) (by decide) ?_
          show Steps p.tables e below (T67.setTop (mkF m 200 #[.val (.int p0), .val (.int p1), .val (.int p2), .val (.int p3), .val (.int p4), .val (.int p5), .val (.int (w0_m1 p5)), .val (.int (w0_m2 p5)), .val (.int (w0_m3 p0 p2 p5)), .val (.int (w0_m4 p1 p3 p5)), .val (.int (w0_5 p4)), .val (.int (w0_6 p4)), .val (.ref b27_8), .val (.ref b30_8), .val (.ref b32), .val (.ref b37), .val (.int (w0_m7 p0 p1 p2 p3 p5)), .val .null, .val (.ref b27_8)] [(.int (1 : Int32))])) _
          exact k)
        obtain ⟨fs, hr, hrun, hended, hW, hsame⟩ := X67.leave (v := some (.int (1 : Int32))) (fun h => by rw [Bd.returns] at h; cases h) hlk
        refine ⟨_, _, ?_, hrun, hended, _, _, rfl, ?_, ⟨_, rfl⟩, hW, hsame.mono (by decide) (by decide)⟩
        · rw [← hS0]; exact K68 _ (retN X67 hx (t := .boolean) Bd.returns (by simp) (hb hby at_200) hr)
        · show Q0 Z p0 p1 p2 p3 p4 p5 zc h0 n0 _ T67.heap _
          rw [e67]
          have qr : (1 : Int32) = (w0_r10 p0 p1 p2 p3 p5) := by unfold w0_r10; rw [if_pos hc150_0, if_pos hc162_1, if_neg hc172_2]
          exact ⟨congrArg (fun z => some (Value.int z)) qr, N67⟩
    · -- no
      have K69 : ∀ t, Steps p.tables e below (T56.setTop (mkF m 200 #[.val (.int p0), .val (.int p1), .val (.int p2), .val (.int p3), .val (.int p4), .val (.int p5), .val (.int (w0_m1 p5)), .val (.int (w0_m2 p5)), .val (.int (w0_m3 p0 p2 p5)), .val (.int (w0_m4 p1 p3 p5)), .val (.int (w0_5 p4)), .val (.int (w0_6 p4)), .val (.ref b27_8), .val (.ref b30_8), .val (.ref b32), .val (.ref b37), .val (.int (w0_m7 p0 p1 p2 p3 p5)), .val .null, .val (.ref b27_8)] [(.int (0 : Int32))])) t → Steps p.tables e below S0 t := fun t k => K57 t (by
        refine XS.icmpYes X56.here hx rfl (pc0 := 162) (pc' := 199) rfl (hb hby at_162) rfl (XT.ii_ne_t hc162_1) (by decide) (by decide) ?_
        show Steps p.tables e below (T56.setTop (mkF m 199 #[.val (.int p0), .val (.int p1), .val (.int p2), .val (.int p3), .val (.int p4), .val (.int p5), .val (.int (w0_m1 p5)), .val (.int (w0_m2 p5)), .val (.int (w0_m3 p0 p2 p5)), .val (.int (w0_m4 p1 p3 p5)), .val (.int (w0_5 p4)), .val (.int (w0_6 p4)), .val (.ref b27_8), .val (.ref b30_8), .val (.ref b32), .val (.ref b37), .val (.int (w0_m7 p0 p1 p2 p3 p5)), .val .null, .val (.ref b27_8)] [])) _
        refine XS.iconst X56.here hx rfl (hb hby at_199) ?_
        show Steps p.tables e below (T56.setTop (mkF m 200 #[.val (.int p0), .val (.int p1), .val (.int p2), .val (.int p3), .val (.int p4), .val (.int p5), .val (.int (w0_m1 p5)), .val (.int (w0_m2 p5)), .val (.int (w0_m3 p0 p2 p5)), .val (.int (w0_m4 p1 p3 p5)), .val (.int (w0_5 p4)), .val (.int (w0_6 p4)), .val (.ref b27_8), .val (.ref b30_8), .val (.ref b32), .val (.ref b37), .val (.int (w0_m7 p0 p1 p2 p3 p5)), .val .null, .val (.ref b27_8)] [(.int (0 : Int32))])) _
        exact k)
      obtain ⟨fs, hr, hrun, hended, hW, hsame⟩ := X56.leave (v := some (.int (0 : Int32))) (fun h => by rw [Bd.returns] at h; cases h) hlk
      refine ⟨_, _, ?_, hrun, hended, _, _, rfl, ?_, ⟨_, rfl⟩, hW, hsame.mono (by decide) (by decide)⟩
      · rw [← hS0]; exact K69 _ (retN X56 hx (t := .boolean) Bd.returns (by simp) (hb hby at_200) hr)
      · show Q0 Z p0 p1 p2 p3 p4 p5 zc h0 n0 _ T56.heap _
        rw [e56]
        have qr : (0 : Int32) = (w0_r10 p0 p1 p2 p3 p5) := by unfold w0_r10; rw [if_pos hc150_0, if_neg hc162_1]
        exact ⟨congrArg (fun z => some (Value.int z)) qr, N56⟩
  · -- no
    have K70 : ∀ t, Steps p.tables e below (T52.setTop (mkF m 200 #[.val (.int p0), .val (.int p1), .val (.int p2), .val (.int p3), .val (.int p4), .val (.int p5), .val (.int (w0_m1 p5)), .val (.int (w0_m2 p5)), .val (.int (w0_m3 p0 p2 p5)), .val (.int (w0_m4 p1 p3 p5)), .val (.int (w0_5 p4)), .val (.int (w0_6 p4)), .val (.ref b27_8), .val (.ref b30_8), .val (.ref b32), .val (.ref b37), .val (.int (w0_m7 p0 p1 p2 p3 p5)), .val .null, .val (.ref b27_8)] [(.int (0 : Int32))])) t → Steps p.tables e below S0 t := fun t k => K53 t (by
      refine XS.icmpYes X52.here hx rfl (pc0 := 150) (pc' := 199) rfl (hb hby at_150) rfl (XT.ii_ne_t hc150_0) (by decide) (by decide) ?_
      show Steps p.tables e below (T52.setTop (mkF m 199 #[.val (.int p0), .val (.int p1), .val (.int p2), .val (.int p3), .val (.int p4), .val (.int p5), .val (.int (w0_m1 p5)), .val (.int (w0_m2 p5)), .val (.int (w0_m3 p0 p2 p5)), .val (.int (w0_m4 p1 p3 p5)), .val (.int (w0_5 p4)), .val (.int (w0_6 p4)), .val (.ref b27_8), .val (.ref b30_8), .val (.ref b32), .val (.ref b37), .val (.int (w0_m7 p0 p1 p2 p3 p5)), .val .null, .val (.ref b27_8)] [])) _
      refine XS.iconst X52.here hx rfl (hb hby at_199) ?_
      show Steps p.tables e below (T52.setTop (mkF m 200 #[.val (.int p0), .val (.int p1), .val (.int p2), .val (.int p3), .val (.int p4), .val (.int p5), .val (.int (w0_m1 p5)), .val (.int (w0_m2 p5)), .val (.int (w0_m3 p0 p2 p5)), .val (.int (w0_m4 p1 p3 p5)), .val (.int (w0_5 p4)), .val (.int (w0_6 p4)), .val (.ref b27_8), .val (.ref b30_8), .val (.ref b32), .val (.ref b37), .val (.int (w0_m7 p0 p1 p2 p3 p5)), .val .null, .val (.ref b27_8)] [(.int (0 : Int32))])) _
      exact k)
    obtain ⟨fs, hr, hrun, hended, hW, hsame⟩ := X52.leave (v := some (.int (0 : Int32))) (fun h => by rw [Bd.returns] at h; cases h) hlk
    refine ⟨_, _, ?_, hrun, hended, _, _, rfl, ?_, ⟨_, rfl⟩, hW, hsame.mono (by decide) (by decide)⟩
    · rw [← hS0]; exact K70 _ (retN X52 hx (t := .boolean) Bd.returns (by simp) (hb hby at_200) hr)
    · show Q0 Z p0 p1 p2 p3 p4 p5 zc h0 n0 _ T52.heap _
      rw [e52]
      have qr : (0 : Int32) = (w0_r10 p0 p1 p2 p3 p5) := by unfold w0_r10; rw [if_neg hc150_0]
      exact ⟨congrArg (fun z => some (Value.int z)) qr, N52⟩
set_option maxRecDepth 65536 in
set_option maxHeartbeats 40000000 in
theorem comes_1 {Post : Tables → Env → Array Value → State → Outcome → State → Prop} (hpost : ∀ tb e args s v u, (limb_1_1.after args s (.returned v) u = true ∧ limb_1_2.after args s (.returned v) u = true ∧ True) → FrameEnd s (.returned v) u (Jvm.fieldLocs frame_1_writes args s ++ Jvm.arrayLocs frame_1_arrays args s ++ Jvm.staticLocs frame_1_statics s) 24 128 → Post tb e args s (.returned v) u) :
    ArmFor flags0 classFile x code maxLocals ret World_1 tables_1 room_1 Calls_1 rest_1 Pre_1 Post := by
  intro l hfl _ _ p e ha hc hk s m args below hf hA hF happ hP
  obtain ⟨hcalls, hrest, hpre⟩ := hP
  obtain ⟨-, -, -, hnamed, -, -, -, hat⟩ := (Spec.applies_iff hf).mp happ
  obtain ⟨hg, hn⟩ := and_e (Cond.before_iff.mp (show (Jvm.Cond.and given_1 narrow_1).before args s = true from hpre))
  obtain ⟨hcount, hv0⟩ := and_e hg
  obtain ⟨hi0, hv1⟩ := and_e hv0
  obtain ⟨hi1, hv2⟩ := and_e hv1
  obtain ⟨hi2, hv3⟩ := and_e hv2
  obtain ⟨hi3, hv4⟩ := and_e hv3
  obtain ⟨hi4, hv5⟩ := and_e hv4
  have hi5 := hv5
  obtain ⟨w0, w1, w2, w3, w4, w5, rfl⟩ : ∃ w0 w1 w2 w3 w4 w5 : Value, args = #[w0, w1, w2, w3, w4, w5] := by
    have hs : args.size = 6 := by simpa [Cond.value, given_1] using hcount
    obtain ⟨L⟩ := args
    match L, hs with
    | [w0, w1, w2, w3, w4, w5], _ => exact ⟨w0, w1, w2, w3, w4, w5, rfl⟩
  have hw := fun d (hd : d ∈ tables_1) => atoms_spec (ws := Jvm.Cond.code x code maxLocals ret :: tables_1) hat d (List.mem_cons_of_mem _ hd)
  have hfit : Fit s := fun {y c} hc i hi => by
    obtain ⟨ha, rfl⟩ := Array.getElem?_eq_some_iff.mp hc
    have q := List.all_eq_true.mp ((Array.all_eq_true_iff_forall_mem.mp hF) _ (Array.getElem_mem ha)) i (List.mem_range.mpr hi)
    simpa [Array.getElem?_eq_getElem hi] using q
  obtain ⟨i0, ei0⟩ := is_v hi0
  obtain rfl : w0 = (.int i0) := Option.some.inj ei0
  obtain ⟨i1, ei1⟩ := is_v hi1
  obtain rfl : w1 = (.int i1) := Option.some.inj ei1
  obtain ⟨i2, ei2⟩ := is_v hi2
  obtain rfl : w2 = (.int i2) := Option.some.inj ei2
  obtain ⟨i3, ei3⟩ := is_v hi3
  obtain rfl : w3 = (.int i3) := Option.some.inj ei3
  obtain ⟨i4, ei4⟩ := is_v hi4
  obtain rfl : w4 = (.int i4) := Option.some.inj ei4
  obtain ⟨i5, ei5⟩ := is_v hi5
  obtain rfl : w5 = (.int i5) := Option.some.inj ei5
  obtain ⟨hsets, hown0⟩ := atoms_of _ (rest_1_c_eq ▸ (show rest_1_c.before _ s = true from hrest))
  obtain ⟨zc, evc⟩ := is_v (Cond.before_iff.mp (hsets _ (List.mem_of_getElem? (i := 1) rfl)))
  have Sc := Sta.start evc (Or.inl (hsets _ (List.mem_of_getElem? (i := 0) rfl)))
  have hzc : ¬ zc = (0 : Int32) := gotF (Cond.eq_ints evc (Term.int_eval 0)) (not_v (Cond.before_iff.mp (hsets _ (List.mem_of_getElem? (i := 2) rfl))))
  obtain ⟨n, o, h1, h2, h3, _, L, rfl, ⟨rfl, N⟩, hq⟩ := rm0 l s _ hw tables_1 i0 i1 i2 i3 i4 i5 zc s.heap s.heap.size (Nat.le_refl _) Sc hzc (Old.start s) p e ha hc hk s m _ below hf ((Spec.applies_iff_loose hf).mp happ).1 ⟨rfl, State.Warmed39.refl s, rfl⟩ trivial
  refine ⟨n, _, h1, h2, h3, hpost _ _ _ _ _ _ ⟨Cond.after_iff.mpr rfl, Cond.after_iff.mpr (eq_i res_at (Term.int_eval (1)) (congrArg Value.int (plain_law i0 i1 i2 i3 i4 i5))), trivial⟩ ⟨hq.1, hq.2.1, (hq.2.2.sift fun y hy => Or.inr (N y hy)).mono (by decide) (by decide)⟩⟩
theorem main_1_1 : Claimed_1_1 := comes_1 fun _ _ _ _ _ _ h hF => ⟨h.1, hF⟩
theorem main_1_2 : Claimed_1_2 := comes_1 fun _ _ _ _ _ _ h hF => ⟨h.2.1, hF⟩
end Jvm.Pilot.@@N@@
namespace Jvm.Pilot.@@N@@
open Jvm Jvm.ClassFile Sem Op Lib Jvm.Free Jvm.Stand Jvm.Pilot.@@N@@.Jvm.D
/-! MADE BY PROGRAM (witnessworld.py) out of the Statement's table words and the real class files: 18 classes; the members and pool entries that the words name. The judged class is class 1, her method 1. -/
namespace start1
open Jvm.ClassFile
def u (s : String) : CpInfo := .utf8 (stringToUtf16 s)
/-- a pool by its gaps: so many unusable entries, then the entry; so many at the end -/
def gap : Nat → List CpInfo → List CpInfo
  | 0, r => r
  | n + 1, r => .unusable :: gap n r
def poolList (es : List (Nat × CpInfo)) (last : Nat) : List CpInfo := es.foldr (fun e r => gap e.1 (e.2 :: r)) (gap last [])
def pool (es : List (Nat × CpInfo)) (last : Nat) : Array CpInfo := ⟨poolList es last⟩
def fileOf (pool : Array CpInfo) (this : Nat) (attrs : Array Attribute := #[]) (ms : Array MethodInfo := #[]) (fl : Nat := 33) (sup : Nat := 0) (ifs : Array Nat := #[]) (fds : Array FieldInfo := #[]) : ClassFile where
  minorVersion := 0
  majorVersion := 65
  constantPool := pool
  accessFlags := fl
  thisClass := this
  superClass := sup
  interfaces := ifs
  fields := fds
  methods := ms
  attributes := attrs
def plain (name : String) (sup : Option ClassId) : Class where
  name := name
  kind := .ordinary
  loader := none
  accessFlags := 33
  super := sup
  interfaces := #[]
  cf := none
  fields := #[]
  methods := #[]
  instanceTypes := #[]
  staticTypes := #[]
  resolved := #[]
  callSites := []
  init := .initialized
  statics := none
  mirror := none

def pool0 : Array CpInfo := pool [(5, u "<init>"), (0, u "()V"), (1, .class_ 10), (1, u "java/lang/Object")] 113

def k0c0 : Code := { maxStack := 0, maxLocals := 1, code := object_method_1_code, exceptionTable := #[], attributes := #[] }
def k0m0 : Method := { name := "<init>", desc := "()V", sig := { parameters := [], returnType := none }, accessFlags := 1, code := some k0c0 }
/-- java/lang/Object -/
def k0 : Class := { plain "java/lang/Object" none with
  accessFlags := 33
  interfaces := #[]
  cf := some (fileOf pool0 8 #[] #[{ accessFlags := 1, nameIndex := 5, descriptorIndex := 6, attributes := #[] }] 33 0 #[] #[])
  fields := #[]
  methods := #[k0m0]
  instanceTypes := #[]
  staticTypes := #[]
  resolved := Array.replicate 124 none
  statics := none }

def pool1 : Array CpInfo := pool [(2, .class_ 4), (1, u "java/lang/Object"), (0, u "<init>"), (0, u "()V"), (0, .methodref 8 9), (0, .class_ 10), (0, .nameAndType 11 12), (0, u "java/lang/String"), (0, u "valueOf"), (0, u "(C)Ljava/lang/String;"), (0, .class_ 14), (0, u "com/example/elidora/elidora/Value$Element"), (0, .methodref 13 16), (0, .nameAndType 5 17), (0, u "(Ljava/lang/String;II)V"), (0, .methodref 13 19), (0, .nameAndType 20 21), (0, u "equals"), (0, u "(Ljava/lang/Object;)Z"), (0, .class_ 23), (0, u "com/example/elidora/elidora/ElementEqualsPinLaw"), (2, u "law"), (0, u "(IIIIII)Z")] 7

def k1m0 : Method := { name := "<init>", desc := "()V", sig := { parameters := [], returnType := none }, accessFlags := 2, code := none }
def k1c1 : Code := { maxStack := 5, maxLocals := 19, code := code, exceptionTable := #[], attributes := #[] }
def k1m1 : Method := { name := "law", desc := "(IIIIII)Z", sig := { parameters := [.int, .int, .int, .int, .int, .int], returnType := some .boolean }, accessFlags := 9, code := some k1c1 }
/-- com/example/elidora/elidora/ElementEqualsPinLaw -/
def k1 : Class := { plain "com/example/elidora/elidora/ElementEqualsPinLaw" (some 0) with
  accessFlags := 49
  interfaces := #[]
  cf := some (fileOf pool1 22 #[] #[{ accessFlags := 2, nameIndex := 5, descriptorIndex := 6, attributes := #[] }, { accessFlags := 9, nameIndex := 26, descriptorIndex := 27, attributes := #[] }] 49 2 #[] #[])
  fields := #[]
  methods := #[k1m0, k1m1]
  instanceTypes := #[]
  staticTypes := #[]
  resolved := Array.replicate 35 none
  statics := none }

def pool2 : Array CpInfo := pool [(1, .class_ 2), (0, u "java/io/Serializable"), (0, .class_ 4), (0, u "java/lang/Object")] 2

/-- java/io/Serializable -/
def k2 : Class := { plain "java/io/Serializable" (some 0) with
  accessFlags := 1537
  interfaces := #[]
  cf := some (fileOf pool2 1 #[] #[] 1537 3 #[] #[])
  fields := #[]
  methods := #[]
  instanceTypes := #[]
  staticTypes := #[]
  resolved := Array.replicate 7 none
  statics := none }

def pool3 : Array CpInfo := pool [(1, .class_ 2), (0, u "java/lang/Comparable"), (0, .class_ 4), (0, u "java/lang/Object")] 7

/-- java/lang/Comparable -/
def k3 : Class := { plain "java/lang/Comparable" (some 0) with
  accessFlags := 1537
  interfaces := #[]
  cf := some (fileOf pool3 1 #[] #[] 1537 3 #[] #[])
  fields := #[]
  methods := #[]
  instanceTypes := #[]
  staticTypes := #[]
  resolved := Array.replicate 12 none
  statics := none }

def pool4 : Array CpInfo := pool [(2, .class_ 4), (1, u "java/lang/CharSequence"), (42, .class_ 48), (0, u "java/lang/CharSequence$1CodePointIterator"), (10, .class_ 60), (0, u "java/lang/CharSequence$1CharIterator"), (5, .class_ 67), (0, u "java/lang/Object")] 63

/-- java/lang/CharSequence -/
def k4 : Class := { plain "java/lang/CharSequence" (some 0) with
  accessFlags := 1537
  interfaces := #[]
  cf := some (fileOf pool4 2 #[.nestMembers #[47, 59]] #[] 1537 66 #[] #[])
  fields := #[]
  methods := #[]
  instanceTypes := #[]
  staticTypes := #[]
  resolved := Array.replicate 131 none
  statics := none }

def pool5 : Array CpInfo := pool [(1, .class_ 2), (0, u "java/lang/constant/Constable"), (0, .class_ 4), (0, u "java/lang/Object")] 6

/-- java/lang/constant/Constable -/
def k5 : Class := { plain "java/lang/constant/Constable" (some 0) with
  accessFlags := 1537
  interfaces := #[]
  cf := some (fileOf pool5 1 #[] #[] 1537 3 #[] #[])
  fields := #[]
  methods := #[]
  instanceTypes := #[]
  staticTypes := #[]
  resolved := Array.replicate 11 none
  statics := none }

def pool6 : Array CpInfo := pool [(1, .class_ 2), (0, u "java/lang/constant/ConstantDesc"), (0, .class_ 4), (0, u "java/lang/Object")] 32

/-- java/lang/constant/ConstantDesc -/
def k6 : Class := { plain "java/lang/constant/ConstantDesc" (some 0) with
  accessFlags := 1537
  interfaces := #[]
  cf := some (fileOf pool6 1 #[] #[] 1537 3 #[] #[])
  fields := #[]
  methods := #[]
  instanceTypes := #[]
  staticTypes := #[]
  resolved := Array.replicate 37 none
  statics := none }

def pool7 : Array CpInfo := pool [(1, .methodref 2 3), (0, .class_ 4), (0, .nameAndType 5 6), (0, u "java/lang/Object"), (0, u "<init>"), (0, u "()V"), (2, .fieldref 10 11), (0, .class_ 12), (0, .nameAndType 13 14), (0, u "java/lang/String"), (0, u "value"), (0, u "[B"), (0, .fieldref 10 16), (0, .nameAndType 17 18), (0, u "coder"), (0, u "B"), (2, u "hash"), (0, u "I"), (2, u "hashIsZero"), (0, u "Z"), (11, .fieldref 10 39), (0, .nameAndType 40 26), (0, u "COMPACT_STRINGS"), (12, u "toBytes"), (53, .class_ 109), (1, u "java/lang/StringLatin1"), (99, .methodref 10 210), (0, .nameAndType 5 211), (0, u "([BB)V"), (157, u "(C)Z"), (205, .class_ 576), (0, u "java/lang/CharSequence"), (22, u "CASE_INSENSITIVE_ORDER"), (0, u "Ljava/util/Comparator;"), (181, u "valueOf"), (0, u "(C)Ljava/lang/String;"), (231, .methodref 107 1016), (0, .nameAndType 1017 369), (0, u "canEncode"), (0, .methodref 107 1019), (0, .nameAndType 53 1020), (0, u "(C)[B"), (80, u "serialPersistentFields"), (0, u "[Ljava/io/ObjectStreamField;"), (0, .class_ 1104), (0, u "java/lang/String$CaseInsensitiveComparator"), (1, .class_ 1107), (0, u "java/io/Serializable"), (0, .class_ 1109), (0, u "java/lang/Comparable"), (0, .class_ 1111), (0, u "java/lang/constant/Constable"), (0, .class_ 1113), (0, u "java/lang/constant/ConstantDesc"), (2, u "serialVersionUID"), (0, u "J"), (3, u "REPL"), (0, u "C"), (2, u "LATIN1"), (1, u "UTF16")] 323

def k7m0 : Method := { name := "<init>", desc := "()V", sig := { parameters := [], returnType := none }, accessFlags := 1, code := none }
def k7c1 : Code := { maxStack := 4, maxLocals := 1, code := jdk_42_method_139_code, exceptionTable := #[], attributes := #[] }
def k7m1 : Method := { name := "valueOf", desc := "(C)Ljava/lang/String;", sig := { parameters := [.char], returnType := some (.object "java/lang/String") }, accessFlags := 9, code := some k7c1 }
def k7c2 : Code := { maxStack := 2, maxLocals := 3, code := jdk_42_method_151_code, exceptionTable := #[], attributes := #[] }
def k7m2 : Method := { name := "<init>", desc := "([BB)V", sig := { parameters := [(.array .byte), .byte], returnType := none }, accessFlags := 0, code := some k7c2 }
/-- java/lang/String -/
def k7 : Class := { plain "java/lang/String" (some 0) with
  accessFlags := 49
  interfaces := #[2, 3, 4, 5, 6]
  cf := some (fileOf pool7 10 #[.nestMembers #[1103]] #[{ accessFlags := 1, nameIndex := 5, descriptorIndex := 6, attributes := #[] }, { accessFlags := 9, nameIndex := 782, descriptorIndex := 783, attributes := #[] }, { accessFlags := 0, nameIndex := 5, descriptorIndex := 211, attributes := #[] }] 49 2 #[1106, 1108, 575, 1110, 1112] #[{ accessFlags := 18, nameIndex := 13, descriptorIndex := 14, attributes := #[] }, { accessFlags := 18, nameIndex := 17, descriptorIndex := 18, attributes := #[] }, { accessFlags := 2, nameIndex := 21, descriptorIndex := 22, attributes := #[] }, { accessFlags := 2, nameIndex := 25, descriptorIndex := 26, attributes := #[] }, { accessFlags := 26, nameIndex := 1116, descriptorIndex := 1117, attributes := #[] }, { accessFlags := 24, nameIndex := 40, descriptorIndex := 26, attributes := #[] }, { accessFlags := 26, nameIndex := 1101, descriptorIndex := 1102, attributes := #[] }, { accessFlags := 26, nameIndex := 1121, descriptorIndex := 1122, attributes := #[] }, { accessFlags := 25, nameIndex := 599, descriptorIndex := 600, attributes := #[] }, { accessFlags := 24, nameIndex := 1125, descriptorIndex := 18, attributes := #[] }, { accessFlags := 24, nameIndex := 1127, descriptorIndex := 18, attributes := #[] }])
  fields := #[{ name := "value", type := (.array .byte), accessFlags := 18, slot := 0, constantValue := 0 }, { name := "coder", type := .byte, accessFlags := 18, slot := 1, constantValue := 0 }, { name := "hash", type := .int, accessFlags := 2, slot := 2, constantValue := 0 }, { name := "hashIsZero", type := .boolean, accessFlags := 2, slot := 3, constantValue := 0 }, { name := "serialVersionUID", type := .long, accessFlags := 26, slot := 0, constantValue := 0 }, { name := "COMPACT_STRINGS", type := .boolean, accessFlags := 24, slot := 1, constantValue := 0 }, { name := "serialPersistentFields", type := (.array (.object "java/io/ObjectStreamField")), accessFlags := 26, slot := 2, constantValue := 0 }, { name := "REPL", type := .char, accessFlags := 26, slot := 3, constantValue := 0 }, { name := "CASE_INSENSITIVE_ORDER", type := (.object "java/util/Comparator"), accessFlags := 25, slot := 4, constantValue := 0 }, { name := "LATIN1", type := .byte, accessFlags := 24, slot := 5, constantValue := 0 }, { name := "UTF16", type := .byte, accessFlags := 24, slot := 6, constantValue := 0 }]
  methods := #[k7m0, k7m1, k7m2]
  instanceTypes := #[(.array .byte), .byte, .int, .boolean]
  staticTypes := #[.long, .boolean, (.array (.object "java/io/ObjectStreamField")), .char, (.object "java/util/Comparator"), .byte, .byte]
  resolved := Array.replicate 1451 none
  statics := some 0 }

def pool8 : Array CpInfo := pool [(4, .class_ 6), (1, u "java/lang/Object"), (0, u "<init>"), (0, u "()V"), (5, .class_ 16), (1, u "java/lang/StringLatin1"), (73, u "canEncode"), (14, u "(C)Z"), (15, u "$assertionsDisabled"), (0, u "Z"), (98, .class_ 223), (1, u "java/lang/StringLatin1$LinesSpliterator"), (156, u "toBytes"), (1, u "(C)[B"), (7, .class_ 391), (0, u "java/lang/StringLatin1$CharsSpliterator")] 3

def k8m0 : Method := { name := "<init>", desc := "()V", sig := { parameters := [], returnType := none }, accessFlags := 0, code := none }
def k8c1 : Code := { maxStack := 2, maxLocals := 1, code := jdk_43_method_3_code, exceptionTable := #[], attributes := #[] }
def k8m1 : Method := { name := "canEncode", desc := "(C)Z", sig := { parameters := [.char], returnType := some .boolean }, accessFlags := 9, code := some k8c1 }
def k8c2 : Code := { maxStack := 4, maxLocals := 1, code := jdk_43_method_46_code, exceptionTable := #[], attributes := #[] }
def k8m2 : Method := { name := "toBytes", desc := "(C)[B", sig := { parameters := [.char], returnType := some (.array .byte) }, accessFlags := 9, code := some k8c2 }
/-- java/lang/StringLatin1 -/
def k8 : Class := { plain "java/lang/StringLatin1" (some 0) with
  accessFlags := 48
  interfaces := #[]
  cf := some (fileOf pool8 14 #[.nestMembers #[390, 221]] #[{ accessFlags := 0, nameIndex := 7, descriptorIndex := 8, attributes := #[] }, { accessFlags := 9, nameIndex := 90, descriptorIndex := 105, attributes := #[] }, { accessFlags := 9, nameIndex := 380, descriptorIndex := 382, attributes := #[] }] 48 4 #[] #[{ accessFlags := 4120, nameIndex := 121, descriptorIndex := 122, attributes := #[] }])
  fields := #[{ name := "$assertionsDisabled", type := .boolean, accessFlags := 4120, slot := 0, constantValue := 0 }]
  methods := #[k8m0, k8m1, k8m2]
  instanceTypes := #[]
  staticTypes := #[.boolean]
  resolved := Array.replicate 395 none
  statics := none }

def pool9 : Array CpInfo := pool [(1, .methodref 2 3), (0, .class_ 4), (0, .nameAndType 5 6), (0, u "java/lang/Object"), (0, u "<init>"), (0, u "()V"), (1, .class_ 10), (1, u "com/example/elidora/elidora/Value"), (51, .class_ 63), (0, u "java/lang/Comparable"), (0, u "INTEGER"), (0, u "I"), (2, u "ELEMENT"), (1, u "PAIR"), (1, u "SET"), (1, u "EXCERPT"), (13, .class_ 89), (0, u "com/example/elidora/elidora/Value$FiniteSet"), (0, .class_ 91), (0, u "com/example/elidora/elidora/Value$FiniteSet$Elements"), (0, .class_ 93), (0, u "com/example/elidora/elidora/Value$FiniteSet$PairTest"), (0, .class_ 95), (0, u "com/example/elidora/elidora/Value$Pair"), (0, .class_ 97), (0, u "com/example/elidora/elidora/Value$Element"), (0, .class_ 99), (0, u "com/example/elidora/elidora/Value$Int")] 7

def k9c0 : Code := { maxStack := 1, maxLocals := 1, code := prog_93_method_1_code, exceptionTable := #[], attributes := #[] }
def k9m0 : Method := { name := "<init>", desc := "()V", sig := { parameters := [], returnType := none }, accessFlags := 2, code := some k9c0 }
/-- com/example/elidora/elidora/Value -/
def k9 : Class := { plain "com/example/elidora/elidora/Value" (some 0) with
  accessFlags := 1057
  interfaces := #[3]
  cf := some (fileOf pool9 8 #[.nestMembers #[88, 90, 92, 94, 96, 98]] #[{ accessFlags := 2, nameIndex := 5, descriptorIndex := 6, attributes := #[] }] 1057 2 #[62] #[{ accessFlags := 26, nameIndex := 64, descriptorIndex := 65, attributes := #[] }, { accessFlags := 26, nameIndex := 68, descriptorIndex := 65, attributes := #[] }, { accessFlags := 26, nameIndex := 70, descriptorIndex := 65, attributes := #[] }, { accessFlags := 26, nameIndex := 72, descriptorIndex := 65, attributes := #[] }, { accessFlags := 26, nameIndex := 74, descriptorIndex := 65, attributes := #[] }])
  fields := #[{ name := "INTEGER", type := .int, accessFlags := 26, slot := 0, constantValue := 0 }, { name := "ELEMENT", type := .int, accessFlags := 26, slot := 1, constantValue := 0 }, { name := "PAIR", type := .int, accessFlags := 26, slot := 2, constantValue := 0 }, { name := "SET", type := .int, accessFlags := 26, slot := 3, constantValue := 0 }, { name := "EXCERPT", type := .int, accessFlags := 26, slot := 4, constantValue := 0 }]
  methods := #[k9m0]
  instanceTypes := #[]
  staticTypes := #[.int, .int, .int, .int, .int]
  resolved := Array.replicate 107 none
  statics := none }

def pool10 : Array CpInfo := pool [(1, .class_ 2), (0, u "com/example/elidora/elidora/Value"), (0, .methodref 1 4), (0, .nameAndType 5 6), (0, u "<init>"), (0, u "()V"), (0, .fieldref 8 9), (0, .class_ 10), (0, .nameAndType 11 12), (0, u "com/example/elidora/elidora/Value$Element"), (0, u "name"), (0, u "Ljava/lang/String;"), (0, .fieldref 8 14), (0, .nameAndType 15 16), (0, u "set"), (0, u "I"), (0, .fieldref 8 18), (0, .nameAndType 19 16), (0, u "ordinal"), (17, u "FALSE"), (2, u "(Ljava/lang/String;II)V"), (2, u "Lcom/example/elidora/elidora/Value$Element;"), (1, u "TRUE"), (12, u "equals"), (0, u "(Ljava/lang/Object;)Z")] 9

def k10c0 : Code := { maxStack := 2, maxLocals := 4, code := prog_94_method_1_code, exceptionTable := #[], attributes := #[] }
def k10m0 : Method := { name := "<init>", desc := "(Ljava/lang/String;II)V", sig := { parameters := [(.object "java/lang/String"), .int, .int], returnType := none }, accessFlags := 1, code := some k10c0 }
def k10c1 : Code := { maxStack := 2, maxLocals := 3, code := prog_94_method_6_code, exceptionTable := #[], attributes := #[] }
def k10m1 : Method := { name := "equals", desc := "(Ljava/lang/Object;)Z", sig := { parameters := [(.object "java/lang/Object")], returnType := some .boolean }, accessFlags := 1, code := some k10c1 }
/-- com/example/elidora/elidora/Value$Element -/
def k10 : Class := { plain "com/example/elidora/elidora/Value$Element" (some 9) with
  accessFlags := 49
  interfaces := #[]
  cf := some (fileOf pool10 8 #[.nestHost 1] #[{ accessFlags := 1, nameIndex := 5, descriptorIndex := 40, attributes := #[] }, { accessFlags := 1, nameIndex := 58, descriptorIndex := 59, attributes := #[] }] 49 1 #[] #[{ accessFlags := 25, nameIndex := 37, descriptorIndex := 43, attributes := #[] }, { accessFlags := 25, nameIndex := 45, descriptorIndex := 43, attributes := #[] }, { accessFlags := 18, nameIndex := 11, descriptorIndex := 12, attributes := #[] }, { accessFlags := 18, nameIndex := 15, descriptorIndex := 16, attributes := #[] }, { accessFlags := 18, nameIndex := 19, descriptorIndex := 16, attributes := #[] }])
  fields := #[{ name := "FALSE", type := (.object "com/example/elidora/elidora/Value$Element"), accessFlags := 25, slot := 0, constantValue := 0 }, { name := "TRUE", type := (.object "com/example/elidora/elidora/Value$Element"), accessFlags := 25, slot := 1, constantValue := 0 }, { name := "name", type := (.object "java/lang/String"), accessFlags := 18, slot := 0, constantValue := 0 }, { name := "set", type := .int, accessFlags := 18, slot := 1, constantValue := 0 }, { name := "ordinal", type := .int, accessFlags := 18, slot := 2, constantValue := 0 }]
  methods := #[k10m0, k10m1]
  instanceTypes := #[(.object "java/lang/String"), .int, .int]
  staticTypes := #[(.object "com/example/elidora/elidora/Value$Element"), (.object "com/example/elidora/elidora/Value$Element")]
  resolved := Array.replicate 69 none
  statics := none }

def pool11 : Array CpInfo := pool [(2, .class_ 4), (1, u "java/lang/Object"), (0, u "<init>"), (0, u "()V"), (17, .class_ 26), (1, u "jdk/internal/util/Preconditions"), (28, .class_ 56), (0, u "jdk/internal/util/Preconditions$4"), (57, .class_ 115), (0, u "jdk/internal/util/Preconditions$1"), (7, u "SIOOBE_FORMATTER"), (0, u "Ljava/util/function/BiFunction;"), (0, .class_ 126), (0, u "jdk/internal/util/Preconditions$2"), (3, u "AIOOBE_FORMATTER"), (0, .class_ 132), (0, u "jdk/internal/util/Preconditions$3"), (3, u "IOOBE_FORMATTER")] 57

def k11m0 : Method := { name := "<init>", desc := "()V", sig := { parameters := [], returnType := none }, accessFlags := 1, code := none }
/-- jdk/internal/util/Preconditions -/
def k11 : Class := { plain "jdk/internal/util/Preconditions" (some 0) with
  accessFlags := 33
  interfaces := #[]
  cf := some (fileOf pool11 24 #[.nestMembers #[55, 131, 125, 114]] #[{ accessFlags := 1, nameIndex := 5, descriptorIndex := 6, attributes := #[] }] 33 2 #[] #[{ accessFlags := 25, nameIndex := 123, descriptorIndex := 124, attributes := #[] }, { accessFlags := 25, nameIndex := 130, descriptorIndex := 124, attributes := #[] }, { accessFlags := 25, nameIndex := 136, descriptorIndex := 124, attributes := #[] }])
  fields := #[{ name := "SIOOBE_FORMATTER", type := (.object "java/util/function/BiFunction"), accessFlags := 25, slot := 0, constantValue := 0 }, { name := "AIOOBE_FORMATTER", type := (.object "java/util/function/BiFunction"), accessFlags := 25, slot := 1, constantValue := 0 }, { name := "IOOBE_FORMATTER", type := (.object "java/util/function/BiFunction"), accessFlags := 25, slot := 2, constantValue := 0 }]
  methods := #[k11m0]
  instanceTypes := #[]
  staticTypes := #[(.object "java/util/function/BiFunction"), (.object "java/util/function/BiFunction"), (.object "java/util/function/BiFunction")]
  resolved := Array.replicate 194 none
  statics := some 1 }

def pool12 : Array CpInfo := pool [(9, u "<init>"), (6, .class_ 18), (1, u "java/lang/Object"), (0, u "()V"), (1, .class_ 23), (1, u "jdk/internal/util/ArraysSupport"), (0, u "LOG2_ARRAY_LONG_INDEX_SCALE"), (0, u "I"), (2, u "U"), (0, u "Ljdk/internal/misc/Unsafe;"), (8, u "BIG_ENDIAN"), (0, u "Z"), (8, u "LOG2_BYTE_BIT_SIZE"), (4, u "LOG2_ARRAY_INT_INDEX_SCALE"), (54, u "JLA"), (0, u "Ljdk/internal/access/JavaLangAccess;"), (11, u "LOG2_ARRAY_BOOLEAN_INDEX_SCALE"), (9, u "LOG2_ARRAY_BYTE_INDEX_SCALE"), (5, u "LOG2_ARRAY_CHAR_INDEX_SCALE"), (5, u "LOG2_ARRAY_SHORT_INDEX_SCALE"), (18, u "LOG2_ARRAY_FLOAT_INDEX_SCALE"), (24, u "LOG2_ARRAY_DOUBLE_INDEX_SCALE"), (89, u "T_BOOLEAN"), (2, u "T_CHAR"), (1, u "T_FLOAT"), (1, u "T_DOUBLE"), (1, u "T_BYTE"), (1, u "T_SHORT"), (1, u "T_INT"), (1, u "T_LONG"), (1, u "SOFT_MAX_ARRAY_LENGTH")] 83

def k12m0 : Method := { name := "<init>", desc := "()V", sig := { parameters := [], returnType := none }, accessFlags := 2, code := none }
/-- jdk/internal/util/ArraysSupport -/
def k12 : Class := { plain "jdk/internal/util/ArraysSupport" (some 0) with
  accessFlags := 33
  interfaces := #[]
  cf := some (fileOf pool12 21 #[] #[{ accessFlags := 2, nameIndex := 9, descriptorIndex := 19, attributes := #[] }] 33 16 #[] #[{ accessFlags := 24, nameIndex := 28, descriptorIndex := 29, attributes := #[] }, { accessFlags := 26, nameIndex := 38, descriptorIndex := 39, attributes := #[] }, { accessFlags := 25, nameIndex := 121, descriptorIndex := 25, attributes := #[] }, { accessFlags := 25, nameIndex := 131, descriptorIndex := 25, attributes := #[] }, { accessFlags := 25, nameIndex := 137, descriptorIndex := 25, attributes := #[] }, { accessFlags := 25, nameIndex := 143, descriptorIndex := 25, attributes := #[] }, { accessFlags := 25, nameIndex := 53, descriptorIndex := 25, attributes := #[] }, { accessFlags := 25, nameIndex := 24, descriptorIndex := 25, attributes := #[] }, { accessFlags := 25, nameIndex := 162, descriptorIndex := 25, attributes := #[] }, { accessFlags := 25, nameIndex := 187, descriptorIndex := 25, attributes := #[] }, { accessFlags := 26, nameIndex := 48, descriptorIndex := 25, attributes := #[] }, { accessFlags := 25, nameIndex := 277, descriptorIndex := 25, attributes := #[] }, { accessFlags := 25, nameIndex := 280, descriptorIndex := 25, attributes := #[] }, { accessFlags := 25, nameIndex := 282, descriptorIndex := 25, attributes := #[] }, { accessFlags := 25, nameIndex := 284, descriptorIndex := 25, attributes := #[] }, { accessFlags := 25, nameIndex := 286, descriptorIndex := 25, attributes := #[] }, { accessFlags := 25, nameIndex := 288, descriptorIndex := 25, attributes := #[] }, { accessFlags := 25, nameIndex := 290, descriptorIndex := 25, attributes := #[] }, { accessFlags := 25, nameIndex := 292, descriptorIndex := 25, attributes := #[] }, { accessFlags := 26, nameIndex := 108, descriptorIndex := 109, attributes := #[] }, { accessFlags := 25, nameIndex := 294, descriptorIndex := 25, attributes := #[] }])
  fields := #[{ name := "U", type := (.object "jdk/internal/misc/Unsafe"), accessFlags := 24, slot := 0, constantValue := 0 }, { name := "BIG_ENDIAN", type := .boolean, accessFlags := 26, slot := 1, constantValue := 0 }, { name := "LOG2_ARRAY_BOOLEAN_INDEX_SCALE", type := .int, accessFlags := 25, slot := 2, constantValue := 0 }, { name := "LOG2_ARRAY_BYTE_INDEX_SCALE", type := .int, accessFlags := 25, slot := 3, constantValue := 0 }, { name := "LOG2_ARRAY_CHAR_INDEX_SCALE", type := .int, accessFlags := 25, slot := 4, constantValue := 0 }, { name := "LOG2_ARRAY_SHORT_INDEX_SCALE", type := .int, accessFlags := 25, slot := 5, constantValue := 0 }, { name := "LOG2_ARRAY_INT_INDEX_SCALE", type := .int, accessFlags := 25, slot := 6, constantValue := 0 }, { name := "LOG2_ARRAY_LONG_INDEX_SCALE", type := .int, accessFlags := 25, slot := 7, constantValue := 0 }, { name := "LOG2_ARRAY_FLOAT_INDEX_SCALE", type := .int, accessFlags := 25, slot := 8, constantValue := 0 }, { name := "LOG2_ARRAY_DOUBLE_INDEX_SCALE", type := .int, accessFlags := 25, slot := 9, constantValue := 0 }, { name := "LOG2_BYTE_BIT_SIZE", type := .int, accessFlags := 26, slot := 10, constantValue := 0 }, { name := "T_BOOLEAN", type := .int, accessFlags := 25, slot := 11, constantValue := 0 }, { name := "T_CHAR", type := .int, accessFlags := 25, slot := 12, constantValue := 0 }, { name := "T_FLOAT", type := .int, accessFlags := 25, slot := 13, constantValue := 0 }, { name := "T_DOUBLE", type := .int, accessFlags := 25, slot := 14, constantValue := 0 }, { name := "T_BYTE", type := .int, accessFlags := 25, slot := 15, constantValue := 0 }, { name := "T_SHORT", type := .int, accessFlags := 25, slot := 16, constantValue := 0 }, { name := "T_INT", type := .int, accessFlags := 25, slot := 17, constantValue := 0 }, { name := "T_LONG", type := .int, accessFlags := 25, slot := 18, constantValue := 0 }, { name := "JLA", type := (.object "jdk/internal/access/JavaLangAccess"), accessFlags := 26, slot := 19, constantValue := 0 }, { name := "SOFT_MAX_ARRAY_LENGTH", type := .int, accessFlags := 25, slot := 20, constantValue := 0 }]
  methods := #[k12m0]
  instanceTypes := #[]
  staticTypes := #[(.object "jdk/internal/misc/Unsafe"), .boolean, .int, .int, .int, .int, .int, .int, .int, .int, .int, .int, .int, .int, .int, .int, .int, .int, .int, (.object "jdk/internal/access/JavaLangAccess"), .int]
  resolved := Array.replicate 378 none
  statics := none }

def pool13 : Array CpInfo := pool [(1, u "java/lang/Cloneable"), (0, .class_ 1), (0, u "java/lang/Object"), (0, .class_ 3)] 3

/-- java/lang/Cloneable -/
def k13 : Class := { plain "java/lang/Cloneable" (some 0) with
  accessFlags := 1537
  interfaces := #[]
  cf := some (fileOf pool13 2 #[] #[] 1537 4 #[] #[])
  fields := #[]
  methods := #[]
  instanceTypes := #[]
  staticTypes := #[]
  resolved := Array.replicate 8 none
  statics := none }

/-- the primitive byte -/
def k14 : Class := { plain "byte" none with kind := .primitive 'B', accessFlags := 0x411 }
/-- [B -/
def k15 : Class := { plain "[B" (some 0) with kind := .array 14 .byte, interfaces := #[13, 2], accessFlags := 1041 }

/-- the primitive int -/
def k16 : Class := { plain "int" none with kind := .primitive 'I', accessFlags := 0x411 }
/-- [I -/
def k17 : Class := { plain "[I" (some 0) with kind := .array 16 .int, interfaces := #[13, 2], accessFlags := 1041 }

def heap : Heap := #[{ cls := 7, slots := #[.long 0, .int 1, .null, .int 0, .null, .int 0, .int 0], vm := .statics 7 },
  { cls := 11, slots := #[.null, .null, .null], vm := .statics 11 }]
def classes : Array Class := #[k0, k1, k2, k3, k4, k5, k6, k7, k8, k9, k10, k11, k12, k13, k14, k15, k16, k17]
def interned : List (Array UInt16 × Addr) := []
def slotsUsed : Nat := 10
def theMethod : MethodId := ⟨1, 1⟩
def args0 : Array Value := #[.int 5, .int 5, .int 5, .int 5, .int 5, .int 5]
def aboutOver (below : List Frame) : State where
  vm := { classes := classes, interned := interned.toArray }
  heap := heap
  slotsUsed := slotsUsed
  threads := #[{ frames := .invoking theMethod args0 :: below }]
def below0 : List Frame := [.native { method := ⟨0, 0⟩, args := #[] }]
def about1 : State := aboutOver below0
def p0 : Program := .bare "" "" ""
def e0 : Env := launch0.env 0 0 0
theorem w_frames : about1.frames = Frame.invoking theMethod args0 :: below0 := rfl
set_option maxRecDepth 65536 in
theorem w_args : argsFit about1.vm theMethod args0 = true := by decide +kernel
set_option maxRecDepth 65536 in
theorem w_heap : heapFits about1 = true := by decide +kernel
set_option maxRecDepth 65536 in
theorem w_runnable : about1.curStatus? = some .runnable := by decide +kernel
set_option maxRecDepth 65536 in
theorem w_alone : about1.alone = true := by decide +kernel
set_option maxRecDepth 65536 in
theorem w_named : about1.methodNamed? x = some theMethod := by decide +kernel
set_option maxRecDepth 65536 in
theorem w_hears : about1.hears theMethod below0 = true := by decide +kernel
set_option maxRecDepth 65536 in
theorem w_ripe : about1.ripe theMethod args0 below0 = true := by decide +kernel
theorem w_running : about1.status = .running := rfl
set_option maxRecDepth 65536 in
theorem w_room : about1.hasRoom e0.platform room_1 = true :=
  launch0.hasRoom_least _ room_1 (by decide +kernel) (by decide +kernel) (by decide +kernel) (by decide +kernel) (by decide +kernel) (by decide +kernel)
theorem allAtoms_all (ts : List Jvm.Cond) (a : Array Jvm.Value) (st : Jvm.State) : (allAtoms ts).before a st = ts.all (fun c => c.before a st) := by
  induction ts with
  | nil => rfl
  | cons c t ih =>
    show (Jvm.Cond.and c (allAtoms t)).before a st = _
    rw [Jvm.Cond.before_and, ih, List.all_cons]
def words1 : List Jvm.Cond := Jvm.Cond.code x code maxLocals ret :: tables_1
/-- a 'code' word, met by the world's own term for the bytes: nothing is compared byte by byte -/
theorem code_word {y : MethodName} {bytes : ByteArray} {mx : Nat} {rt : Option FieldType} {a : Array Value} {s : State} {m : MethodId} {meth : Method} {c : Code} (h1 : s.methodNamed? y = some m) (h2 : s.vm.method? m = some meth) (h3 : meth.code = some c) (h4 : c.code = bytes)
    (h5 : (c.maxLocals == mx && c.exceptionTable.isEmpty && decide (c.maxStack ≤ mostOperands) && decide (meth.sig.returnType = rt) && !meth.locks && decide (parseMethodDescriptor y.desc = some meth.sig)) = true) : (Jvm.Cond.code y bytes mx rt).before a s = true := by
  simp only [Bool.and_eq_true, beq_iff_eq, Bool.not_eq_true', decide_eq_true_eq] at h5
  obtain ⟨⟨⟨⟨⟨g1, g2⟩, g3⟩, g4⟩, g5⟩, g6⟩ := h5
  simp [Cond.before, Cond.holds, Cond.value, h1, h2, h3, h4, g1, g2, g3, g4, g5, g6]
def isCode : Jvm.Cond → Bool
  | .code _ _ _ _ => true
  | _ => false
theorem all_split {L : List Jvm.Cond} {P : Jvm.Cond → Bool} (h1 : L.all (fun c => isCode c || P c) = true) (h2 : ∀ c ∈ L.filter isCode, P c = true) : L.all P = true := by
  refine List.all_eq_true.mpr fun c hc => ?_
  have h := List.all_eq_true.mp h1 c hc
  rcases Bool.eq_false_or_eq_true (isCode c) with hi | hi
  · exact h2 c (List.mem_filter.mpr ⟨hc, hi⟩)
  · simpa [hi] using h
set_option maxRecDepth 65536 in
theorem w_c0 : (Jvm.Cond.code x code maxLocals ret).before args0 about1 = true := code_word (m := ⟨1, 1⟩) (meth := k1m1) (c := k1c1) (by decide +kernel) rfl rfl rfl (by decide +kernel)
set_option maxRecDepth 65536 in
theorem w_c1 : (Jvm.Cond.code ({ cls := "java/lang/String", name := "valueOf", desc := "(C)Ljava/lang/String;" } : Jvm.MethodName) jdk_42_method_139_code (1 : Nat) (Option.some (Jvm.ClassFile.FieldType.object "java/lang/String"))).before args0 about1 = true := code_word (m := ⟨7, 1⟩) (meth := k7m1) (c := k7c1) (by decide +kernel) rfl rfl rfl (by decide +kernel)
set_option maxRecDepth 65536 in
theorem w_c2 : (Jvm.Cond.code ({ cls := "java/lang/StringLatin1", name := "canEncode", desc := "(C)Z" } : Jvm.MethodName) jdk_43_method_3_code (1 : Nat) (Option.some Jvm.ClassFile.FieldType.boolean)).before args0 about1 = true := code_word (m := ⟨8, 1⟩) (meth := k8m1) (c := k8c1) (by decide +kernel) rfl rfl rfl (by decide +kernel)
set_option maxRecDepth 65536 in
theorem w_c3 : (Jvm.Cond.code ({ cls := "java/lang/StringLatin1", name := "toBytes", desc := "(C)[B" } : Jvm.MethodName) jdk_43_method_46_code (1 : Nat) (Option.some (Jvm.ClassFile.FieldType.array Jvm.ClassFile.FieldType.byte))).before args0 about1 = true := code_word (m := ⟨8, 2⟩) (meth := k8m2) (c := k8c2) (by decide +kernel) rfl rfl rfl (by decide +kernel)
set_option maxRecDepth 65536 in
theorem w_c4 : (Jvm.Cond.code ({ cls := "java/lang/String", name := "<init>", desc := "([BB)V" } : Jvm.MethodName) jdk_42_method_151_code (3 : Nat) (Option.none : Option Jvm.ClassFile.FieldType)).before args0 about1 = true := code_word (m := ⟨7, 2⟩) (meth := k7m2) (c := k7c2) (by decide +kernel) rfl rfl rfl (by decide +kernel)
set_option maxRecDepth 65536 in
theorem w_c5 : (Jvm.Cond.code ({ cls := "java/lang/Object", name := "<init>", desc := "()V" } : Jvm.MethodName) object_method_1_code (1 : Nat) (Option.none : Option Jvm.ClassFile.FieldType)).before args0 about1 = true := code_word (m := ⟨0, 0⟩) (meth := k0m0) (c := k0c0) (by decide +kernel) rfl rfl rfl (by decide +kernel)
set_option maxRecDepth 65536 in
theorem w_c6 : (Jvm.Cond.code ({ cls := "com/example/elidora/elidora/Value$Element", name := "<init>", desc := "(Ljava/lang/String;II)V" } : Jvm.MethodName) prog_94_method_1_code (4 : Nat) (Option.none : Option Jvm.ClassFile.FieldType)).before args0 about1 = true := code_word (m := ⟨10, 0⟩) (meth := k10m0) (c := k10c0) (by decide +kernel) rfl rfl rfl (by decide +kernel)
set_option maxRecDepth 65536 in
theorem w_c7 : (Jvm.Cond.code ({ cls := "com/example/elidora/elidora/Value", name := "<init>", desc := "()V" } : Jvm.MethodName) prog_93_method_1_code (1 : Nat) (Option.none : Option Jvm.ClassFile.FieldType)).before args0 about1 = true := code_word (m := ⟨9, 0⟩) (meth := k9m0) (c := k9c0) (by decide +kernel) rfl rfl rfl (by decide +kernel)
set_option maxRecDepth 65536 in
theorem w_c8 : (Jvm.Cond.code ({ cls := "com/example/elidora/elidora/Value$Element", name := "equals", desc := "(Ljava/lang/Object;)Z" } : Jvm.MethodName) prog_94_method_6_code (3 : Nat) (Option.some Jvm.ClassFile.FieldType.boolean)).before args0 about1 = true := code_word (m := ⟨10, 1⟩) (meth := k10m1) (c := k10c1) (by decide +kernel) rfl rfl rfl (by decide +kernel)
def codes1 : List Jvm.Cond := [Jvm.Cond.code x code maxLocals ret, Jvm.Cond.code ({ cls := "java/lang/String", name := "valueOf", desc := "(C)Ljava/lang/String;" } : Jvm.MethodName) jdk_42_method_139_code (1 : Nat) (Option.some (Jvm.ClassFile.FieldType.object "java/lang/String")), Jvm.Cond.code ({ cls := "java/lang/StringLatin1", name := "canEncode", desc := "(C)Z" } : Jvm.MethodName) jdk_43_method_3_code (1 : Nat) (Option.some Jvm.ClassFile.FieldType.boolean), Jvm.Cond.code ({ cls := "java/lang/StringLatin1", name := "toBytes", desc := "(C)[B" } : Jvm.MethodName) jdk_43_method_46_code (1 : Nat) (Option.some (Jvm.ClassFile.FieldType.array Jvm.ClassFile.FieldType.byte)), Jvm.Cond.code ({ cls := "java/lang/String", name := "<init>", desc := "([BB)V" } : Jvm.MethodName) jdk_42_method_151_code (3 : Nat) (Option.none : Option Jvm.ClassFile.FieldType), Jvm.Cond.code ({ cls := "java/lang/Object", name := "<init>", desc := "()V" } : Jvm.MethodName) object_method_1_code (1 : Nat) (Option.none : Option Jvm.ClassFile.FieldType), Jvm.Cond.code ({ cls := "com/example/elidora/elidora/Value$Element", name := "<init>", desc := "(Ljava/lang/String;II)V" } : Jvm.MethodName) prog_94_method_1_code (4 : Nat) (Option.none : Option Jvm.ClassFile.FieldType), Jvm.Cond.code ({ cls := "com/example/elidora/elidora/Value", name := "<init>", desc := "()V" } : Jvm.MethodName) prog_93_method_1_code (1 : Nat) (Option.none : Option Jvm.ClassFile.FieldType), Jvm.Cond.code ({ cls := "com/example/elidora/elidora/Value$Element", name := "equals", desc := "(Ljava/lang/Object;)Z" } : Jvm.MethodName) prog_94_method_6_code (3 : Nat) (Option.some Jvm.ClassFile.FieldType.boolean)]
set_option maxRecDepth 65536 in
theorem codes_eq : words1.filter isCode = codes1 := rfl
theorem w_codes : ∀ c ∈ words1.filter isCode, c.before args0 about1 = true := by
  rw [codes_eq]
  intro c hc
  simp only [codes1, List.mem_cons, List.not_mem_nil, or_false] at hc
  rcases hc with rfl | rfl | rfl | rfl | rfl | rfl | rfl | rfl | rfl
  · exact w_c0
  · exact w_c1
  · exact w_c2
  · exact w_c3
  · exact w_c4
  · exact w_c5
  · exact w_c6
  · exact w_c7
  · exact w_c8
set_option maxRecDepth 65536 in
theorem w_t1 : (words1.take 24).all (fun c => isCode c || c.before args0 about1) = true := by decide +kernel
set_option maxRecDepth 65536 in
theorem w_t2 : ((words1.drop 24).take 24).all (fun c => isCode c || c.before args0 about1) = true := by decide +kernel
set_option maxRecDepth 65536 in
theorem w_t3 : ((words1.drop 24).drop 24).all (fun c => isCode c || c.before args0 about1) = true := by decide +kernel
theorem w_tables : (allAtoms (Jvm.Cond.code x code maxLocals ret :: tables_1)).before args0 about1 = true := by
  rw [allAtoms_all]
  show words1.all (fun c => c.before args0 about1) = true
  refine all_split ?_ w_codes
  rw [← List.take_append_drop 24 words1, List.all_append, w_t1, ← List.take_append_drop 24 (words1.drop 24), List.all_append, w_t2, w_t3]
  rfl
set_option maxRecDepth 65536 in
theorem w_rest : rest_1_c.before args0 about1 = true := by decide +kernel
set_option maxRecDepth 65536 in
theorem w_case : (Jvm.Cond.and given_1 narrow_1).before args0 about1 = true := by decide +kernel
theorem w_applies : (headSpec (Jvm.Cond.code x code maxLocals ret :: tables_1) room_1).applies x e0.platform about1 = true :=
  (Spec.applies_iff w_frames).mpr ⟨w_running, w_runnable, w_alone, w_named, w_hears, w_ripe, w_room, w_tables⟩
theorem atStart : AtStart classFile x code maxLocals ret World_1 tables_1 room_1 Calls_1 rest_1 Pre_1 launch0 p0 e0 about1 theMethod args0 below0 :=
  ⟨lists_1, trivial, launch0.admits_env _ _ _, launch0.least_env, fairChoices_fair.cas, fairChoices_fair.clock, w_frames, w_args, w_heap, w_applies, trivial, w_rest, w_case⟩
end start1
theorem witness_1 : WitnessClaimed_1 := ⟨start1.p0, start1.e0, start1.about1, start1.theMethod, start1.args0, start1.below0, start1.atStart⟩
end Jvm.Pilot.@@N@@
