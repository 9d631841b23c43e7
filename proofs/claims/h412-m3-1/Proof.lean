import JvmDerived
import JvmDerived.Pilot.@@N@@Statement
import JvmDerived.Pilot.@@N@@Code
set_option linter.unusedVariables false
set_option linter.unusedSimpArgs false
namespace Jvm.RoadKit
open Sem ClassFile Op Lib Jvm.Stand Jvm.Free Jvm.LawKit
section New
variable {p : Program} {l : Launch} {e : Env} {R : Room} {s : State} {m : MethodId} {args : Array Value} {below : List Frame} {meth : Method} {c : Code} {T : State} {locs : List Loc} {cells slots : Nat}
theorem retI (X : Stand p l e R s m args below meth c T locs cells slots) (hx : p.tables.exec = Jvm.exec) {pc : Nat} {Ls : Array Slot} {z : Int32} {rest : List Value} (hret : meth.sig.returnType = some .int) (hd : decode c.code pc = .ok (.ireturn, 1)) {fs : List Frame}
    (hl : ∀ (f : JFrame) (acts : List Action), f.method = m → f.locked = none → f.entered = [] → (doReturn e (T.setTop f) acts (some (.int z))).1 = T.setFrames fs) : Steps p.tables e below (T.setTop (mkF m pc Ls (.int z :: rest))) (T.setFrames fs) :=
  retOut X hx hret rfl (Or.inl ⟨rfl, Or.inl rfl, _, rfl⟩) hd hl
end New
end Jvm.RoadKit
namespace Jvm.Pilot.@@N@@
open Jvm Jvm.ClassFile Sem Op Lib Jvm.Free Jvm.Stand Jvm.LawKit Jvm.RoadKit Bundle Jvm.Pilot.@@N@@.Jvm.D
def w1_r1 (p0 : Int32) : Int32 := (if p0 < (0 : Int32) then (0 : Int32) else (if (65535 : Int32) < p0 then (0 : Int32) else (1 : Int32)))
def w2_1 (p0 : Int32) : Int32 := ((p0.toUInt32 >>> ((16 : Int32) &&& 31).toUInt32).toInt32)
def w2_r2 (p0 : Int32) : Int32 := (if (w2_1 p0) = (0 : Int32) then (1 : Int32) else (0 : Int32))
def w0_m1 (p0 : Int32) : Int32 := (if (w1_r1 p0) = (w2_r2 p0) then (1 : Int32) else (0 : Int32))
def w0_2 (p1 : Int32) : Int32 := ((65534 : Int32) + (p1 &&& (3 : Int32)))
def w0_m3 (p1 : Int32) : Int32 := (if (65535 : Int32) < (w0_2 p1) then (0 : Int32) else (1 : Int32))
def w0_m4 (p1 : Int32) : Int32 := (if (w1_r1 (w0_2 p1)) = (w0_m3 p1) then (1 : Int32) else (0 : Int32))
def w0_5 (p1 : Int32) : Int32 := (((p1 >>> ((2 : Int32) &&& 31)) &&& (3 : Int32)) - (2 : Int32))
def w0_m6 (p1 : Int32) : Int32 := (if (w0_5 p1) < (0 : Int32) then (0 : Int32) else (1 : Int32))
def w0_m7 (p1 : Int32) : Int32 := (if (w1_r1 (w0_5 p1)) = (w0_m6 p1) then (1 : Int32) else (0 : Int32))
def w0_m8  : Int32 := (if (w1_r1 (0 : Int32)) = (0 : Int32) then (0 : Int32) else (if (w1_r1 (65535 : Int32)) = (0 : Int32) then (0 : Int32) else (if (w1_r1 (-1 : Int32)) = (0 : Int32) then (if (w1_r1 (65536 : Int32)) = (0 : Int32) then (1 : Int32) else (0 : Int32)) else (0 : Int32))))
def w0_r9 (p0 : Int32) (p1 : Int32) : Int32 := (if (w0_m1 p0) = (0 : Int32) then (0 : Int32) else (if (w0_m4 p1) = (0 : Int32) then (0 : Int32) else (if (w0_m7 p1) = (0 : Int32) then (0 : Int32) else (if w0_m8 = (0 : Int32) then (0 : Int32) else (1 : Int32)))))
theorem own_whole (x : Int32) : w1_r1 x = w2_r2 x := by
  unfold w1_r1 w2_r2 w2_1
  have l0 : (0 : Int32).toInt = 0 := rfl
  have l1 : (65535 : Int32).toInt = 65535 := rfl
  have h := c_iushr x 16 16 (by decide) (by decide)
  have r := rng32 x
  repeat' split
  all_goals first | rfl | (exfalso; simp only [← Int32.toInt_inj, Int32.lt_iff_toInt_lt, l0, l1] at *; omega)
theorem own_high (p1 : Int32) : w1_r1 (w0_2 p1) = w0_m3 p1 := by
  have l0 : (0 : Int32).toInt = 0 := rfl
  have l1 : (65534 : Int32).toInt = 65534 := rfl
  have h1 : (w0_2 p1).toInt = 65534 + p1.toInt % 4 := by
    unfold w0_2
    have h := c_mask p1 3 2 (by decide) (by decide)
    have a := c_iadd 65534 (p1 &&& 3)
    have r := rng32 (65534 + (p1 &&& 3))
    omega
  have n : ¬ (w0_2 p1) < 0 := by rw [Int32.lt_iff_toInt_lt, l0]; omega
  unfold w1_r1 w0_m3
  rw [if_neg n]
theorem own_low (p1 : Int32) : w1_r1 (w0_5 p1) = w0_m6 p1 := by
  have l1 : (65535 : Int32).toInt = 65535 := rfl
  have l2 : (2 : Int32).toInt = 2 := rfl
  have n : ¬ (65535 : Int32) < (w0_5 p1) := by
    rw [Int32.lt_iff_toInt_lt, l1]
    unfold w0_5
    have h := c_mask (p1 >>> ((2 : Int32) &&& 31)) 3 2 (by decide) (by decide)
    have a := c_isub ((p1 >>> ((2 : Int32) &&& 31)) &&& 3) 2
    have r := rng32 (((p1 >>> ((2 : Int32) &&& 31)) &&& 3) - 2)
    omega
  unfold w1_r1 w0_m6
  rw [if_neg n]
theorem plain_law (p0 p1 : Int32) : w0_r9 p0 p1 = 1 := by
  have m1 : w0_m1 p0 = 1 := by unfold w0_m1; exact if_pos (own_whole p0)
  have m4 : w0_m4 p1 = 1 := by unfold w0_m4; exact if_pos (own_high p1)
  have m7 : w0_m7 p1 = 1 := by unfold w0_m7; exact if_pos (own_low p1)
  have m8 : w0_m8 = 1 := by decide
  unfold w0_r9
  rw [m1, m4, m7, m8]
  decide

theorem d1_0 : decode prog_51_method_14_code 0 = .ok (.iload_n 0, 1) := by decide +kernel
theorem d1_1 : decode prog_51_method_14_code 1 = .ok (.ifCond .lt 13, 3) := by decide +kernel
theorem d1_4 : decode prog_51_method_14_code 4 = .ok (.iload_n 0, 1) := by decide +kernel
theorem d1_5 : decode prog_51_method_14_code 5 = .ok (.ldc 145, 2) := by decide +kernel
theorem d1_7 : decode prog_51_method_14_code 7 = .ok (.if_icmp .gt 7, 3) := by decide +kernel
theorem d1_10 : decode prog_51_method_14_code 10 = .ok (.iconst 1, 1) := by decide +kernel
theorem d1_11 : decode prog_51_method_14_code 11 = .ok (.goto 4, 3) := by decide +kernel
theorem d1_14 : decode prog_51_method_14_code 14 = .ok (.iconst 0, 1) := by decide +kernel
theorem d1_15 : decode prog_51_method_14_code 15 = .ok (.ireturn, 1) := by decide +kernel
theorem pn1 : plainName "com/example/rota/rota/workflow/ServiceConfig" = true := by first | (simp [plainName, overriddenIn]; done) | decide +kernel
theorem ef1 (m : MethodId) (p0 : Int32) : entryFrame m #[(.int p0)] 1 = mkF m 0 #[.val (.int p0)] [] := by first | (simp [entryFrame, mkF, argsToLocals, Value.category]; done) | rfl
def Q1 (Z : State) (p0 : Int32) (h0 : Heap) (n0 : Nat) (v : Option Value) (h : Heap) (L : List Loc) : Prop := v = some (.int (w1_r1 p0)) ∧ Fr n0 L ∧ h = h0
set_option maxRecDepth 65536 in
set_option maxHeartbeats 40000000 in
theorem rm1 (l : Launch) (Z : State) (a0 : Array Value) (hw : ∀ d ∈ tables_1, d.before a0 Z = true) (ws : List Jvm.Cond) (p0 : Int32) (h0 : Heap) (n0 : Nat) (Z0 : n0 ≤ h0.size) :
    MetFree l (⟨"com/example/rota/rota/workflow/ServiceConfig", "isPort", "(I)Z"⟩ : MethodName) (head1 (Jvm.Cond.code (⟨"com/example/rota/rota/workflow/ServiceConfig", "isPort", "(I)Z"⟩ : MethodName) prog_51_method_14_code 1 (some .boolean) :: ws) ({ frames := 0, cells := 0, slots := 0, locals := 0 } : Room)) (fun a U => a = #[(.int p0)] ∧ Z.Warmed39 U.vm ∧ U.heap = h0) (fun _ _ _ _ _ => True) (fun _ U o U' => ∃ v L, o = .returned v ∧ Q1 Z p0 h0 n0 v U'.heap L ∧ FrameEnd U o U' L ({ frames := 0, cells := 0, slots := 0, locals := 0 } : Room).cells ({ frames := 0, cells := 0, slots := 0, locals := 0 } : Room).slots) := by
  refine MetFree.of_bodySF (plainFor_of_name pn1) hisR ?_
  intro p e s m args below meth c s₁ Bd hml0 hP hK
  obtain ⟨rfl, hZ, hh⟩ := hP
  have hx := Bd.exec
  have hby := Bd.bytes
  have hml : c.maxLocals = 1 := hml0
  have hown : s.vm.findClass "com/example/rota/rota/workflow/ServiceConfig" = some m.cls := findClass_of_methodNamed Bd.named
  have hnm := (name_of_methodNamed Bd.named Bd.method).1
  have X0 : Stand p l e ({ frames := 0, cells := 0, slots := 0, locals := 0 } : Room) s m #[(.int p0)] below meth c s₁ [] 0 0 := Stand.of_body Bd
  have e0 : s₁.heap = h0 := by rw [← hh, Bd.state]; rfl
  have N0 := Fr.nil n0
  obtain ⟨S0, hS0⟩ : ∃ S0, S0 = s₁.setTop (entryFrame m #[(.int p0)] 1) := ⟨_, rfl⟩
  have pre0 : ∀ t, Steps p.tables e below (s₁.setTop (mkF m 0 #[.val (.int p0)] [])) t → Steps p.tables e below S0 t := fun t k => by rw [hS0]; exact castTop (ef1 m p0) k
  have K1 : ∀ t, Steps p.tables e below (s₁.setTop (mkF m 1 #[.val (.int p0)] [(.int p0)])) t → Steps p.tables e below S0 t := fun t k => pre0 t (by
    refine XS.iloadN X0.here hx rfl (hb hby d1_0) rfl ?_
    show Steps p.tables e below (s₁.setTop (mkF m 1 #[.val (.int p0)] [(.int p0)])) _
    exact k)
  by_cases hc1_0 : p0 < (0 : Int32)
  · -- yes
    have K2 : ∀ t, Steps p.tables e below (s₁.setTop (mkF m 15 #[.val (.int p0)] [(.int (0 : Int32))])) t → Steps p.tables e below S0 t := fun t k => K1 t (by
      refine XS.ifYes X0.here hx rfl (pc0 := 1) (pc' := 14) rfl (hb hby d1_1) rfl (XT.i0_lt_t hc1_0) (by decide) (by decide) ?_
      show Steps p.tables e below (s₁.setTop (mkF m 14 #[.val (.int p0)] [])) _
      refine XS.iconst X0.here hx rfl (hb hby d1_14) ?_
      show Steps p.tables e below (s₁.setTop (mkF m 15 #[.val (.int p0)] [(.int (0 : Int32))])) _
      exact k)
    obtain ⟨fs, hr, hrun, hended, hW, hsame⟩ := X0.leave (v := some (.int (0 : Int32))) (fun h => by rw [Bd.returns] at h; cases h)
    refine ⟨_, _, ?_, hrun, hended, _, _, rfl, ?_, ⟨_, rfl⟩, hW, hsame.mono (by decide) (by decide)⟩
    · rw [← hS0]; exact K2 _ (retN X0 hx (t := .boolean) Bd.returns (by simp) (hb hby d1_15) hr)
    · show Q1 Z p0 h0 n0 _ s₁.heap _
      rw [e0]
      have qr : (0 : Int32) = (w1_r1 p0) := by unfold w1_r1; rw [if_pos hc1_0]
      exact ⟨congrArg (fun z => some (Value.int z)) qr, N0, rfl⟩
  · -- no
    have K3 : ∀ t, Steps p.tables e below (s₁.setTop (mkF m 7 #[.val (.int p0)] [(.int (65535 : Int32)), (.int p0)])) t → Steps p.tables e below S0 t := fun t k => K1 t (by
      refine XS.ifNo X0.here hx rfl (hb hby d1_1) rfl (XT.i0_lt_f hc1_0) ?_
      show Steps p.tables e below (s₁.setTop (mkF m 4 #[.val (.int p0)] [])) _
      refine XS.iloadN X0.here hx rfl (hb hby d1_4) rfl ?_
      show Steps p.tables e below (s₁.setTop (mkF m 5 #[.val (.int p0)] [(.int p0)])) _
      refine X0.ldcInt hx hown (mvT hZ (hw _ (List.mem_of_getElem? (i := 4) rfl))) (g := (mkF m 5 #[.val (.int p0)] [(.int p0)])) rfl (hb hby d1_5) _ ?_
      show Steps p.tables e below (s₁.setTop (mkF m 7 #[.val (.int p0)] [(.int (65535 : Int32)), (.int p0)])) _
      exact k)
    by_cases hc7_1 : (65535 : Int32) < p0
    · -- yes
      have K4 : ∀ t, Steps p.tables e below (s₁.setTop (mkF m 15 #[.val (.int p0)] [(.int (0 : Int32))])) t → Steps p.tables e below S0 t := fun t k => K3 t (by
        refine XS.icmpYes X0.here hx rfl (pc0 := 7) (pc' := 14) rfl (hb hby d1_7) rfl (XT.ii_gt_t hc7_1) (by decide) (by decide) ?_
        show Steps p.tables e below (s₁.setTop (mkF m 14 #[.val (.int p0)] [])) _
        refine XS.iconst X0.here hx rfl (hb hby d1_14) ?_
        show Steps p.tables e below (s₁.setTop (mkF m 15 #[.val (.int p0)] [(.int (0 : Int32))])) _
        exact k)
      obtain ⟨fs, hr, hrun, hended, hW, hsame⟩ := X0.leave (v := some (.int (0 : Int32))) (fun h => by rw [Bd.returns] at h; cases h)
      refine ⟨_, _, ?_, hrun, hended, _, _, rfl, ?_, ⟨_, rfl⟩, hW, hsame.mono (by decide) (by decide)⟩
      · rw [← hS0]; exact K4 _ (retN X0 hx (t := .boolean) Bd.returns (by simp) (hb hby d1_15) hr)
      · show Q1 Z p0 h0 n0 _ s₁.heap _
        rw [e0]
        have qr : (0 : Int32) = (w1_r1 p0) := by unfold w1_r1; rw [if_neg hc1_0, if_pos hc7_1]
        exact ⟨congrArg (fun z => some (Value.int z)) qr, N0, rfl⟩
    · -- no
      have K5 : ∀ t, Steps p.tables e below (s₁.setTop (mkF m 15 #[.val (.int p0)] [(.int (1 : Int32))])) t → Steps p.tables e below S0 t := fun t k => K3 t (by
        refine XS.icmpNo X0.here hx rfl (hb hby d1_7) rfl (XT.ii_gt_f hc7_1) ?_
        show Steps p.tables e below (s₁.setTop (mkF m 10 #[.val (.int p0)] [])) _
        refine XS.iconst X0.here hx rfl (hb hby d1_10) ?_
        show Steps p.tables e below (s₁.setTop (mkF m 11 #[.val (.int p0)] [(.int (1 : Int32))])) _
        refine XS.goto X0.here hx rfl (pc0 := 11) (pc' := 15) rfl (hb hby d1_11) (by decide) (by decide) ?_
        show Steps p.tables e below (s₁.setTop (mkF m 15 #[.val (.int p0)] [(.int (1 : Int32))])) _
        exact k)
      obtain ⟨fs, hr, hrun, hended, hW, hsame⟩ := X0.leave (v := some (.int (1 : Int32))) (fun h => by rw [Bd.returns] at h; cases h)
      refine ⟨_, _, ?_, hrun, hended, _, _, rfl, ?_, ⟨_, rfl⟩, hW, hsame.mono (by decide) (by decide)⟩
      · rw [← hS0]; exact K5 _ (retN X0 hx (t := .boolean) Bd.returns (by simp) (hb hby d1_15) hr)
      · show Q1 Z p0 h0 n0 _ s₁.heap _
        rw [e0]
        have qr : (1 : Int32) = (w1_r1 p0) := by unfold w1_r1; rw [if_neg hc1_0, if_neg hc7_1]
        exact ⟨congrArg (fun z => some (Value.int z)) qr, N0, rfl⟩
theorem d2_0 : decode method_2_code 0 = .ok (.iload_n 0, 1) := by decide +kernel
theorem d2_1 : decode method_2_code 1 = .ok (.bipush 16, 2) := by decide +kernel
theorem d2_3 : decode method_2_code 3 = .ok (.iushr, 1) := by decide +kernel
theorem d2_4 : decode method_2_code 4 = .ok (.ifCond .ne 7, 3) := by decide +kernel
theorem d2_7 : decode method_2_code 7 = .ok (.iconst 1, 1) := by decide +kernel
theorem d2_8 : decode method_2_code 8 = .ok (.goto 4, 3) := by decide +kernel
theorem d2_11 : decode method_2_code 11 = .ok (.iconst 0, 1) := by decide +kernel
theorem d2_12 : decode method_2_code 12 = .ok (.ireturn, 1) := by decide +kernel
theorem pn2 : plainName "com/example/rota/rota/workflow/ServiceConfigIsPortPinLaw" = true := by first | (simp [plainName, overriddenIn]; done) | decide +kernel
theorem ef2 (m : MethodId) (p0 : Int32) : entryFrame m #[(.int p0)] 1 = mkF m 0 #[.val (.int p0)] [] := by first | (simp [entryFrame, mkF, argsToLocals, Value.category]; done) | rfl
def Q2 (Z : State) (p0 : Int32) (h0 : Heap) (n0 : Nat) (v : Option Value) (h : Heap) (L : List Loc) : Prop := v = some (.int (w2_r2 p0)) ∧ Fr n0 L ∧ h = h0
set_option maxRecDepth 65536 in
set_option maxHeartbeats 40000000 in
theorem rm2 (l : Launch) (Z : State) (a0 : Array Value) (hw : ∀ d ∈ tables_1, d.before a0 Z = true) (ws : List Jvm.Cond) (p0 : Int32) (h0 : Heap) (n0 : Nat) (Z0 : n0 ≤ h0.size) :
    MetFree l (⟨"com/example/rota/rota/workflow/ServiceConfigIsPortPinLaw", "fitsSixteenBits", "(I)Z"⟩ : MethodName) (head1 (Jvm.Cond.code (⟨"com/example/rota/rota/workflow/ServiceConfigIsPortPinLaw", "fitsSixteenBits", "(I)Z"⟩ : MethodName) method_2_code 1 (some .boolean) :: ws) ({ frames := 0, cells := 0, slots := 0, locals := 0 } : Room)) (fun a U => a = #[(.int p0)] ∧ Z.Warmed39 U.vm ∧ U.heap = h0) (fun _ _ _ _ _ => True) (fun _ U o U' => ∃ v L, o = .returned v ∧ Q2 Z p0 h0 n0 v U'.heap L ∧ FrameEnd U o U' L ({ frames := 0, cells := 0, slots := 0, locals := 0 } : Room).cells ({ frames := 0, cells := 0, slots := 0, locals := 0 } : Room).slots) := by
  refine MetFree.of_bodySF (plainFor_of_name pn2) hisR ?_
  intro p e s m args below meth c s₁ Bd hml0 hP hK
  obtain ⟨rfl, hZ, hh⟩ := hP
  have hx := Bd.exec
  have hby := Bd.bytes
  have hml : c.maxLocals = 1 := hml0
  have hown : s.vm.findClass "com/example/rota/rota/workflow/ServiceConfigIsPortPinLaw" = some m.cls := findClass_of_methodNamed Bd.named
  have hnm := (name_of_methodNamed Bd.named Bd.method).1
  have X0 : Stand p l e ({ frames := 0, cells := 0, slots := 0, locals := 0 } : Room) s m #[(.int p0)] below meth c s₁ [] 0 0 := Stand.of_body Bd
  have e0 : s₁.heap = h0 := by rw [← hh, Bd.state]; rfl
  have N0 := Fr.nil n0
  obtain ⟨S0, hS0⟩ : ∃ S0, S0 = s₁.setTop (entryFrame m #[(.int p0)] 1) := ⟨_, rfl⟩
  have pre0 : ∀ t, Steps p.tables e below (s₁.setTop (mkF m 0 #[.val (.int p0)] [])) t → Steps p.tables e below S0 t := fun t k => by rw [hS0]; exact castTop (ef2 m p0) k
  have K1 : ∀ t, Steps p.tables e below (s₁.setTop (mkF m 4 #[.val (.int p0)] [(.int ((p0.toUInt32 >>> ((16 : Int32) &&& 31).toUInt32).toInt32))])) t → Steps p.tables e below S0 t := fun t k => pre0 t (by
    refine XS.iloadN X0.here hx rfl (hb hby d2_0) rfl ?_
    show Steps p.tables e below (s₁.setTop (mkF m 1 #[.val (.int p0)] [(.int p0)])) _
    refine XS.bipush X0.here hx rfl (hb hby d2_1) ?_
    show Steps p.tables e below (s₁.setTop (mkF m 3 #[.val (.int p0)] [(.int (16 : Int32)), (.int p0)])) _
    refine XS.iushr X0.here hx rfl (hb hby d2_3) rfl ?_
    show Steps p.tables e below (s₁.setTop (mkF m 4 #[.val (.int p0)] [(.int ((p0.toUInt32 >>> ((16 : Int32) &&& 31).toUInt32).toInt32))])) _
    exact k)
  by_cases hc4_0 : (w2_1 p0) = (0 : Int32)
  · -- yes
    have K2 : ∀ t, Steps p.tables e below (s₁.setTop (mkF m 12 #[.val (.int p0)] [(.int (1 : Int32))])) t → Steps p.tables e below S0 t := fun t k => K1 t (by
      refine XS.ifNo X0.here hx rfl (hb hby d2_4) rfl (XT.i0_ne_f hc4_0) ?_
      show Steps p.tables e below (s₁.setTop (mkF m 7 #[.val (.int p0)] [])) _
      refine XS.iconst X0.here hx rfl (hb hby d2_7) ?_
      show Steps p.tables e below (s₁.setTop (mkF m 8 #[.val (.int p0)] [(.int (1 : Int32))])) _
      refine XS.goto X0.here hx rfl (pc0 := 8) (pc' := 12) rfl (hb hby d2_8) (by decide) (by decide) ?_
      show Steps p.tables e below (s₁.setTop (mkF m 12 #[.val (.int p0)] [(.int (1 : Int32))])) _
      exact k)
    obtain ⟨fs, hr, hrun, hended, hW, hsame⟩ := X0.leave (v := some (.int (1 : Int32))) (fun h => by rw [Bd.returns] at h; cases h)
    refine ⟨_, _, ?_, hrun, hended, _, _, rfl, ?_, ⟨_, rfl⟩, hW, hsame.mono (by decide) (by decide)⟩
    · rw [← hS0]; exact K2 _ (retN X0 hx (t := .boolean) Bd.returns (by simp) (hb hby d2_12) hr)
    · show Q2 Z p0 h0 n0 _ s₁.heap _
      rw [e0]
      have qr : (1 : Int32) = (w2_r2 p0) := by unfold w2_r2; rw [if_pos hc4_0]
      exact ⟨congrArg (fun z => some (Value.int z)) qr, N0, rfl⟩
  · -- no
    have K3 : ∀ t, Steps p.tables e below (s₁.setTop (mkF m 12 #[.val (.int p0)] [(.int (0 : Int32))])) t → Steps p.tables e below S0 t := fun t k => K1 t (by
      refine XS.ifYes X0.here hx rfl (pc0 := 4) (pc' := 11) rfl (hb hby d2_4) rfl (XT.i0_ne_t hc4_0) (by decide) (by decide) ?_
      show Steps p.tables e below (s₁.setTop (mkF m 11 #[.val (.int p0)] [])) _
      refine XS.iconst X0.here hx rfl (hb hby d2_11) ?_
      show Steps p.tables e below (s₁.setTop (mkF m 12 #[.val (.int p0)] [(.int (0 : Int32))])) _
      exact k)
    obtain ⟨fs, hr, hrun, hended, hW, hsame⟩ := X0.leave (v := some (.int (0 : Int32))) (fun h => by rw [Bd.returns] at h; cases h)
    refine ⟨_, _, ?_, hrun, hended, _, _, rfl, ?_, ⟨_, rfl⟩, hW, hsame.mono (by decide) (by decide)⟩
    · rw [← hS0]; exact K3 _ (retN X0 hx (t := .boolean) Bd.returns (by simp) (hb hby d2_12) hr)
    · show Q2 Z p0 h0 n0 _ s₁.heap _
      rw [e0]
      have qr : (0 : Int32) = (w2_r2 p0) := by unfold w2_r2; rw [if_neg hc4_0]
      exact ⟨congrArg (fun z => some (Value.int z)) qr, N0, rfl⟩
theorem pn0 : plainName "com/example/rota/rota/workflow/ServiceConfigIsPortPinLaw" = true := by first | (simp [plainName, overriddenIn]; done) | decide +kernel
theorem pd0_0 : parseMethodDescriptor "(I)Z" = some ⟨[.int], some .boolean⟩ := by decide +kernel
theorem ef0 (m : MethodId) (p0 : Int32) (p1 : Int32) : entryFrame m #[(.int p0), (.int p1)] maxLocals = mkF m 0 #[.val (.int p0), .val (.int p1), .unset, .unset, .unset, .unset, .unset, .unset] [] := by first | (simp [entryFrame, mkF, argsToLocals, Value.category, maxLocals]; done) | rfl
def Q0 (Z : State) (p0 : Int32) (p1 : Int32) (h0 : Heap) (n0 : Nat) (v : Option Value) (h : Heap) (L : List Loc) : Prop := v = some (.int (w0_r9 p0 p1)) ∧ Fr n0 L
set_option maxRecDepth 65536 in
set_option maxHeartbeats 40000000 in
theorem rm0 (l : Launch) (Z : State) (a0 : Array Value) (hw : ∀ d ∈ tables_1, d.before a0 Z = true) (ws : List Jvm.Cond) (p0 : Int32) (p1 : Int32) (h0 : Heap) (n0 : Nat) (Z0 : n0 ≤ h0.size) :
    MetFree l x (head1 (Jvm.Cond.code x code maxLocals ret :: ws) room_1) (fun a U => a = #[(.int p0), (.int p1)] ∧ Z.Warmed39 U.vm ∧ U.heap = h0) (fun _ _ _ _ _ => True) (fun _ U o U' => ∃ v L, o = .returned v ∧ Q0 Z p0 p1 h0 n0 v U'.heap L ∧ FrameEnd U o U' L 0 0) := by
  refine MetFree.of_bodySF (plainFor_of_name pn0) hisR ?_
  intro p e s m args below meth c s₁ Bd hml0 hP hK
  obtain ⟨rfl, hZ, hh⟩ := hP
  have hx := Bd.exec
  have hby := Bd.bytes
  have hml : c.maxLocals = 8 := hml0
  have hown : s.vm.findClass "com/example/rota/rota/workflow/ServiceConfigIsPortPinLaw" = some m.cls := findClass_of_methodNamed Bd.named
  have hnm := (name_of_methodNamed Bd.named Bd.method).1
  have X0 : Stand p l e room_1 s m #[(.int p0), (.int p1)] below meth c s₁ [] 0 0 := Stand.of_body Bd
  have e0 : s₁.heap = h0 := by rw [← hh, Bd.state]; rfl
  have N0 := Fr.nil n0
  obtain ⟨S0, hS0⟩ : ∃ S0, S0 = s₁.setTop (entryFrame m #[(.int p0), (.int p1)] maxLocals) := ⟨_, rfl⟩
  have pre0 : ∀ t, Steps p.tables e below (s₁.setTop (mkF m 0 #[.val (.int p0), .val (.int p1), .unset, .unset, .unset, .unset, .unset, .unset] [])) t → Steps p.tables e below S0 t := fun t k => by rw [hS0]; exact castTop (ef0 m p0 p1) k
  have K1 : ∀ t, Steps p.tables e below (s₁.setTop (mkF m 1 #[.val (.int p0), .val (.int p1), .unset, .unset, .unset, .unset, .unset, .unset] [(.int p0)])) t → Steps p.tables e below S0 t := fun t k => pre0 t (by
    refine XS.iloadN X0.here hx rfl (hb hby at_0) rfl ?_
    show Steps p.tables e below (s₁.setTop (mkF m 1 #[.val (.int p0), .val (.int p1), .unset, .unset, .unset, .unset, .unset, .unset] [(.int p0)])) _
    exact k)
  have K_2 : ∀ t, Steps p.tables e below (s₁.setTop (mkF m 1 #[.val (.int p0), .val (.int p1), .unset, .unset, .unset, .unset, .unset, .unset] [(.int p0)])) t → Steps p.tables e below S0 t := K1
  obtain ⟨_, _, ⟨T3, L3, k3, n3⟩, -, X3, ⟨Lc3, hQ3, l3, y3, z3⟩, st3⟩ := Jvm.LawKit.callS X0 hx (y := (⟨"com/example/rota/rota/workflow/ServiceConfig", "isPort", "(I)Z"⟩ : MethodName)) hown (mvT hZ (hw _ (List.mem_of_getElem? (i := 0) rfl))) (mvT hZ (hw _ (List.mem_of_getElem? (i := 1) rfl))) (mvT hZ (hw _ (List.mem_of_getElem? (i := 2) rfl))) (mvT hZ (hw _ (List.mem_of_getElem? (i := 3) rfl))) (by decide) (backOf (W := 0) (rm1 l Z a0 hw [] p0 h0 n0 Z0 ) hZ (hw _ (List.mem_of_getElem? (i := 3) rfl)) (hw _ (List.mem_of_getElem? (i := 2) rfl)) (by decide) (by decide)) (g := (mkF m 1 #[.val (.int p0), .val (.int p1), .unset, .unset, .unset, .unset, .unset, .unset] [(.int p0)])) rfl (by rw [hml]; rfl) (argsL := [(.int p0)]) (rest := []) (lenOf pd0_0 rfl) rfl (by show 2 * 0 + _ ≤ _; exact Nat.le_of_eq rfl) (hb hby at_1) (fun _ _ => ⟨rfl, e0, (by decide : 0 + 0 ≤ 0), (by decide : 0 + 0 ≤ 0)⟩)
  dsimp only [Pt.U, Pt.locs, Pt.cells, Pt.slots] at X3 l3 y3 z3 st3 hQ3
  subst l3 y3 z3
  obtain ⟨rfl, N3q, e3⟩ := hQ3
  have N3 := Fr.app N0 N3q
  have K3 : ∀ t, Steps p.tables e below (T3.setTop (mkF m 4 #[.val (.int p0), .val (.int p1), .unset, .unset, .unset, .unset, .unset, .unset] [(.int (w1_r1 p0))])) t → Steps p.tables e below S0 t := fun t k => K_2 t (st3 t k)
  have K4 : ∀ t, Steps p.tables e below (T3.setTop (mkF m 5 #[.val (.int p0), .val (.int p1), .unset, .unset, .unset, .unset, .unset, .unset] [(.int p0), (.int (w1_r1 p0))])) t → Steps p.tables e below S0 t := fun t k => K3 t (by
    refine XS.iloadN X3.here hx rfl (hb hby at_4) rfl ?_
    show Steps p.tables e below (T3.setTop (mkF m 5 #[.val (.int p0), .val (.int p1), .unset, .unset, .unset, .unset, .unset, .unset] [(.int p0), (.int (w1_r1 p0))])) _
    exact k)
  have K_5 : ∀ t, Steps p.tables e below (T3.setTop (mkF m 5 #[.val (.int p0), .val (.int p1), .unset, .unset, .unset, .unset, .unset, .unset] [(.int p0), (.int (w1_r1 p0))])) t → Steps p.tables e below S0 t := K4
  obtain ⟨_, _, ⟨T6, L6, k6, n6⟩, -, X6, ⟨Lc6, hQ6, l6, y6, z6⟩, st6⟩ := Jvm.LawKit.callS X3 hx (y := (⟨"com/example/rota/rota/workflow/ServiceConfigIsPortPinLaw", "fitsSixteenBits", "(I)Z"⟩ : MethodName)) hown (mvT hZ (hw _ (List.mem_of_getElem? (i := 5) rfl))) (mvT hZ (hw _ (List.mem_of_getElem? (i := 6) rfl))) (mvT hZ (hw _ (List.mem_of_getElem? (i := 7) rfl))) (mvT hZ (hw _ (List.mem_of_getElem? (i := 8) rfl))) (by decide) (backOf (W := 1) (rm2 l Z a0 hw [] p0 h0 n0 Z0 ) hZ (hw _ (List.mem_of_getElem? (i := 8) rfl)) (hw _ (List.mem_of_getElem? (i := 7) rfl)) (by decide) (by decide)) (g := (mkF m 5 #[.val (.int p0), .val (.int p1), .unset, .unset, .unset, .unset, .unset, .unset] [(.int p0), (.int (w1_r1 p0))])) rfl (by rw [hml]; rfl) (argsL := [(.int p0)]) (rest := [(.int (w1_r1 p0))]) (lenOf pd0_0 rfl) rfl (by show 2 * 0 + _ ≤ _; exact Nat.le_of_eq rfl) (hb hby at_5) (fun _ _ => ⟨rfl, e3, (by decide : 0 + 0 ≤ 0), (by decide : 0 + 0 ≤ 0)⟩)
  dsimp only [Pt.U, Pt.locs, Pt.cells, Pt.slots] at X6 l6 y6 z6 st6 hQ6
  subst l6 y6 z6
  obtain ⟨rfl, N6q, e6⟩ := hQ6
  have N6 := Fr.app N3 N6q
  have K6 : ∀ t, Steps p.tables e below (T6.setTop (mkF m 8 #[.val (.int p0), .val (.int p1), .unset, .unset, .unset, .unset, .unset, .unset] [(.int (w2_r2 p0)), (.int (w1_r1 p0))])) t → Steps p.tables e below S0 t := fun t k => K_5 t (st6 t k)
  obtain ⟨T7, lo7, X7, N7, e7, K7⟩ : ∃ (T' : State) (locs' : List Loc), Stand p l e room_1 s m #[(.int p0), (.int p1)] below meth c T' locs' 0 0 ∧ Fr n0 locs' ∧ T'.heap = h0 ∧ ∀ t, Steps p.tables e below (T'.setTop (mkF m 16 #[.val (.int p0), .val (.int p1), .unset, .unset, .unset, .unset, .unset, .unset] [(.int (w0_m1 p0))])) t → Steps p.tables e below S0 t := by
    by_cases hc8_0 : (w1_r1 p0) = (w2_r2 p0)
    · -- yes
      have K8 : ∀ t, Steps p.tables e below (T6.setTop (mkF m 16 #[.val (.int p0), .val (.int p1), .unset, .unset, .unset, .unset, .unset, .unset] [(.int (1 : Int32))])) t → Steps p.tables e below S0 t := fun t k => K6 t (by
        refine XS.icmpNo X6.here hx rfl (hb hby at_8) rfl (XT.ii_ne_f hc8_0) ?_
        show Steps p.tables e below (T6.setTop (mkF m 11 #[.val (.int p0), .val (.int p1), .unset, .unset, .unset, .unset, .unset, .unset] [])) _
        refine XS.iconst X6.here hx rfl (hb hby at_11) ?_
        show Steps p.tables e below (T6.setTop (mkF m 12 #[.val (.int p0), .val (.int p1), .unset, .unset, .unset, .unset, .unset, .unset] [(.int (1 : Int32))])) _
        refine XS.goto X6.here hx rfl (pc0 := 12) (pc' := 16) rfl (hb hby at_12) (by decide) (by decide) ?_
        show Steps p.tables e below (T6.setTop (mkF m 16 #[.val (.int p0), .val (.int p1), .unset, .unset, .unset, .unset, .unset, .unset] [(.int (1 : Int32))])) _
        exact k)
      have q9 : (w0_m1 p0) = (1 : Int32) := by unfold w0_m1; rw [if_pos hc8_0]
      exact ⟨T6, _, X6, N6, e6, fun t k => K8 t (by rw [q9] at k; exact k)⟩
    · -- no
      have K10 : ∀ t, Steps p.tables e below (T6.setTop (mkF m 16 #[.val (.int p0), .val (.int p1), .unset, .unset, .unset, .unset, .unset, .unset] [(.int (0 : Int32))])) t → Steps p.tables e below S0 t := fun t k => K6 t (by
        refine XS.icmpYes X6.here hx rfl (pc0 := 8) (pc' := 15) rfl (hb hby at_8) rfl (XT.ii_ne_t hc8_0) (by decide) (by decide) ?_
        show Steps p.tables e below (T6.setTop (mkF m 15 #[.val (.int p0), .val (.int p1), .unset, .unset, .unset, .unset, .unset, .unset] [])) _
        refine XS.iconst X6.here hx rfl (hb hby at_15) ?_
        show Steps p.tables e below (T6.setTop (mkF m 16 #[.val (.int p0), .val (.int p1), .unset, .unset, .unset, .unset, .unset, .unset] [(.int (0 : Int32))])) _
        exact k)
      have q11 : (w0_m1 p0) = (0 : Int32) := by unfold w0_m1; rw [if_neg hc8_0]
      exact ⟨T6, _, X6, N6, e6, fun t k => K10 t (by rw [q11] at k; exact k)⟩
  have K12 : ∀ t, Steps p.tables e below (T7.setTop (mkF m 25 #[.val (.int p0), .val (.int p1), .val (.int (w0_m1 p0)), .val (.int (w0_2 p1)), .unset, .unset, .unset, .unset] [(.int (w0_2 p1))])) t → Steps p.tables e below S0 t := fun t k => K7 t (by
    refine XS.istoreN X7.here hx rfl (hb hby at_16) rfl (l' := #[.val (.int p0), .val (.int p1), .val (.int (w0_m1 p0)), .unset, .unset, .unset, .unset, .unset]) rfl ?_
    show Steps p.tables e below (T7.setTop (mkF m 17 #[.val (.int p0), .val (.int p1), .val (.int (w0_m1 p0)), .unset, .unset, .unset, .unset, .unset] [])) _
    refine X7.ldcInt hx hown (mvT hZ (hw _ (List.mem_of_getElem? (i := 9) rfl))) (g := (mkF m 17 #[.val (.int p0), .val (.int p1), .val (.int (w0_m1 p0)), .unset, .unset, .unset, .unset, .unset] [])) rfl (hb hby at_17) _ ?_
    show Steps p.tables e below (T7.setTop (mkF m 19 #[.val (.int p0), .val (.int p1), .val (.int (w0_m1 p0)), .unset, .unset, .unset, .unset, .unset] [(.int (65534 : Int32))])) _
    refine XS.iloadN X7.here hx rfl (hb hby at_19) rfl ?_
    show Steps p.tables e below (T7.setTop (mkF m 20 #[.val (.int p0), .val (.int p1), .val (.int (w0_m1 p0)), .unset, .unset, .unset, .unset, .unset] [(.int p1), (.int (65534 : Int32))])) _
    refine XS.iconst X7.here hx rfl (hb hby at_20) ?_
    show Steps p.tables e below (T7.setTop (mkF m 21 #[.val (.int p0), .val (.int p1), .val (.int (w0_m1 p0)), .unset, .unset, .unset, .unset, .unset] [(.int (3 : Int32)), (.int p1), (.int (65534 : Int32))])) _
    refine XS.iand X7.here hx rfl (hb hby at_21) rfl ?_
    show Steps p.tables e below (T7.setTop (mkF m 22 #[.val (.int p0), .val (.int p1), .val (.int (w0_m1 p0)), .unset, .unset, .unset, .unset, .unset] [(.int (p1 &&& (3 : Int32))), (.int (65534 : Int32))])) _
    refine XS.iadd X7.here hx rfl (hb hby at_22) rfl ?_
    show Steps p.tables e below (T7.setTop (mkF m 23 #[.val (.int p0), .val (.int p1), .val (.int (w0_m1 p0)), .unset, .unset, .unset, .unset, .unset] [(.int ((65534 : Int32) + (p1 &&& (3 : Int32))))])) _
    refine XS.istoreN X7.here hx rfl (hb hby at_23) rfl (l' := #[.val (.int p0), .val (.int p1), .val (.int (w0_m1 p0)), .val (.int (w0_2 p1)), .unset, .unset, .unset, .unset]) rfl ?_
    show Steps p.tables e below (T7.setTop (mkF m 24 #[.val (.int p0), .val (.int p1), .val (.int (w0_m1 p0)), .val (.int (w0_2 p1)), .unset, .unset, .unset, .unset] [])) _
    refine XS.iloadN X7.here hx rfl (hb hby at_24) rfl ?_
    show Steps p.tables e below (T7.setTop (mkF m 25 #[.val (.int p0), .val (.int p1), .val (.int (w0_m1 p0)), .val (.int (w0_2 p1)), .unset, .unset, .unset, .unset] [(.int (w0_2 p1))])) _
    exact k)
  have K_13 : ∀ t, Steps p.tables e below (T7.setTop (mkF m 25 #[.val (.int p0), .val (.int p1), .val (.int (w0_m1 p0)), .val (.int (w0_2 p1)), .unset, .unset, .unset, .unset] [(.int (w0_2 p1))])) t → Steps p.tables e below S0 t := K12
  obtain ⟨_, _, ⟨T14, L14, k14, n14⟩, -, X14, ⟨Lc14, hQ14, l14, y14, z14⟩, st14⟩ := Jvm.LawKit.callS X7 hx (y := (⟨"com/example/rota/rota/workflow/ServiceConfig", "isPort", "(I)Z"⟩ : MethodName)) hown (mvT hZ (hw _ (List.mem_of_getElem? (i := 0) rfl))) (mvT hZ (hw _ (List.mem_of_getElem? (i := 1) rfl))) (mvT hZ (hw _ (List.mem_of_getElem? (i := 2) rfl))) (mvT hZ (hw _ (List.mem_of_getElem? (i := 3) rfl))) (by decide) (backOf (W := 0) (rm1 l Z a0 hw [] (w0_2 p1) h0 n0 Z0 ) hZ (hw _ (List.mem_of_getElem? (i := 3) rfl)) (hw _ (List.mem_of_getElem? (i := 2) rfl)) (by decide) (by decide)) (g := (mkF m 25 #[.val (.int p0), .val (.int p1), .val (.int (w0_m1 p0)), .val (.int (w0_2 p1)), .unset, .unset, .unset, .unset] [(.int (w0_2 p1))])) rfl (by rw [hml]; rfl) (argsL := [(.int (w0_2 p1))]) (rest := []) (lenOf pd0_0 rfl) rfl (by show 2 * 0 + _ ≤ _; exact Nat.le_of_eq rfl) (hb hby at_25) (fun _ _ => ⟨rfl, e7, (by decide : 0 + 0 ≤ 0), (by decide : 0 + 0 ≤ 0)⟩)
  dsimp only [Pt.U, Pt.locs, Pt.cells, Pt.slots] at X14 l14 y14 z14 st14 hQ14
  subst l14 y14 z14
  obtain ⟨rfl, N14q, e14⟩ := hQ14
  have N14 := Fr.app N7 N14q
  have K14 : ∀ t, Steps p.tables e below (T14.setTop (mkF m 28 #[.val (.int p0), .val (.int p1), .val (.int (w0_m1 p0)), .val (.int (w0_2 p1)), .unset, .unset, .unset, .unset] [(.int (w1_r1 (w0_2 p1)))])) t → Steps p.tables e below S0 t := fun t k => K_13 t (st14 t k)
  have K15 : ∀ t, Steps p.tables e below (T14.setTop (mkF m 31 #[.val (.int p0), .val (.int p1), .val (.int (w0_m1 p0)), .val (.int (w0_2 p1)), .unset, .unset, .unset, .unset] [(.int (65535 : Int32)), (.int (w0_2 p1)), (.int (w1_r1 (w0_2 p1)))])) t → Steps p.tables e below S0 t := fun t k => K14 t (by
    refine XS.iloadN X14.here hx rfl (hb hby at_28) rfl ?_
    show Steps p.tables e below (T14.setTop (mkF m 29 #[.val (.int p0), .val (.int p1), .val (.int (w0_m1 p0)), .val (.int (w0_2 p1)), .unset, .unset, .unset, .unset] [(.int (w0_2 p1)), (.int (w1_r1 (w0_2 p1)))])) _
    refine X14.ldcInt hx hown (mvT hZ (hw _ (List.mem_of_getElem? (i := 10) rfl))) (g := (mkF m 29 #[.val (.int p0), .val (.int p1), .val (.int (w0_m1 p0)), .val (.int (w0_2 p1)), .unset, .unset, .unset, .unset] [(.int (w0_2 p1)), (.int (w1_r1 (w0_2 p1)))])) rfl (hb hby at_29) _ ?_
    show Steps p.tables e below (T14.setTop (mkF m 31 #[.val (.int p0), .val (.int p1), .val (.int (w0_m1 p0)), .val (.int (w0_2 p1)), .unset, .unset, .unset, .unset] [(.int (65535 : Int32)), (.int (w0_2 p1)), (.int (w1_r1 (w0_2 p1)))])) _
    exact k)
  obtain ⟨T16, lo16, X16, N16, e16, K16⟩ : ∃ (T' : State) (locs' : List Loc), Stand p l e room_1 s m #[(.int p0), (.int p1)] below meth c T' locs' 0 0 ∧ Fr n0 locs' ∧ T'.heap = h0 ∧ ∀ t, Steps p.tables e below (T'.setTop (mkF m 39 #[.val (.int p0), .val (.int p1), .val (.int (w0_m1 p0)), .val (.int (w0_2 p1)), .unset, .unset, .unset, .unset] [(.int (w0_m3 p1)), (.int (w1_r1 (w0_2 p1)))])) t → Steps p.tables e below S0 t := by
    by_cases hc31_0 : (65535 : Int32) < (w0_2 p1)
    · -- yes
      have K17 : ∀ t, Steps p.tables e below (T14.setTop (mkF m 39 #[.val (.int p0), .val (.int p1), .val (.int (w0_m1 p0)), .val (.int (w0_2 p1)), .unset, .unset, .unset, .unset] [(.int (0 : Int32)), (.int (w1_r1 (w0_2 p1)))])) t → Steps p.tables e below S0 t := fun t k => K15 t (by
        refine XS.icmpYes X14.here hx rfl (pc0 := 31) (pc' := 38) rfl (hb hby at_31) rfl (XT.ii_gt_t hc31_0) (by decide) (by decide) ?_
        show Steps p.tables e below (T14.setTop (mkF m 38 #[.val (.int p0), .val (.int p1), .val (.int (w0_m1 p0)), .val (.int (w0_2 p1)), .unset, .unset, .unset, .unset] [(.int (w1_r1 (w0_2 p1)))])) _
        refine XS.iconst X14.here hx rfl (hb hby at_38) ?_
        show Steps p.tables e below (T14.setTop (mkF m 39 #[.val (.int p0), .val (.int p1), .val (.int (w0_m1 p0)), .val (.int (w0_2 p1)), .unset, .unset, .unset, .unset] [(.int (0 : Int32)), (.int (w1_r1 (w0_2 p1)))])) _
        exact k)
      have q18 : (w0_m3 p1) = (0 : Int32) := by unfold w0_m3; rw [if_pos hc31_0]
      exact ⟨T14, _, X14, N14, e14, fun t k => K17 t (by rw [q18] at k; exact k)⟩
    · -- no
      have K19 : ∀ t, Steps p.tables e below (T14.setTop (mkF m 39 #[.val (.int p0), .val (.int p1), .val (.int (w0_m1 p0)), .val (.int (w0_2 p1)), .unset, .unset, .unset, .unset] [(.int (1 : Int32)), (.int (w1_r1 (w0_2 p1)))])) t → Steps p.tables e below S0 t := fun t k => K15 t (by
        refine XS.icmpNo X14.here hx rfl (hb hby at_31) rfl (XT.ii_gt_f hc31_0) ?_
        show Steps p.tables e below (T14.setTop (mkF m 34 #[.val (.int p0), .val (.int p1), .val (.int (w0_m1 p0)), .val (.int (w0_2 p1)), .unset, .unset, .unset, .unset] [(.int (w1_r1 (w0_2 p1)))])) _
        refine XS.iconst X14.here hx rfl (hb hby at_34) ?_
        show Steps p.tables e below (T14.setTop (mkF m 35 #[.val (.int p0), .val (.int p1), .val (.int (w0_m1 p0)), .val (.int (w0_2 p1)), .unset, .unset, .unset, .unset] [(.int (1 : Int32)), (.int (w1_r1 (w0_2 p1)))])) _
        refine XS.goto X14.here hx rfl (pc0 := 35) (pc' := 39) rfl (hb hby at_35) (by decide) (by decide) ?_
        show Steps p.tables e below (T14.setTop (mkF m 39 #[.val (.int p0), .val (.int p1), .val (.int (w0_m1 p0)), .val (.int (w0_2 p1)), .unset, .unset, .unset, .unset] [(.int (1 : Int32)), (.int (w1_r1 (w0_2 p1)))])) _
        exact k)
      have q20 : (w0_m3 p1) = (1 : Int32) := by unfold w0_m3; rw [if_neg hc31_0]
      exact ⟨T14, _, X14, N14, e14, fun t k => K19 t (by rw [q20] at k; exact k)⟩
  obtain ⟨T21, lo21, X21, N21, e21, K21⟩ : ∃ (T' : State) (locs' : List Loc), Stand p l e room_1 s m #[(.int p0), (.int p1)] below meth c T' locs' 0 0 ∧ Fr n0 locs' ∧ T'.heap = h0 ∧ ∀ t, Steps p.tables e below (T'.setTop (mkF m 47 #[.val (.int p0), .val (.int p1), .val (.int (w0_m1 p0)), .val (.int (w0_2 p1)), .unset, .unset, .unset, .unset] [(.int (w0_m4 p1))])) t → Steps p.tables e below S0 t := by
    by_cases hc39_0 : (w1_r1 (w0_2 p1)) = (w0_m3 p1)
    · -- yes
      have K22 : ∀ t, Steps p.tables e below (T16.setTop (mkF m 47 #[.val (.int p0), .val (.int p1), .val (.int (w0_m1 p0)), .val (.int (w0_2 p1)), .unset, .unset, .unset, .unset] [(.int (1 : Int32))])) t → Steps p.tables e below S0 t := fun t k => K16 t (by
        refine XS.icmpNo X16.here hx rfl (hb hby at_39) rfl (XT.ii_ne_f hc39_0) ?_
        show Steps p.tables e below (T16.setTop (mkF m 42 #[.val (.int p0), .val (.int p1), .val (.int (w0_m1 p0)), .val (.int (w0_2 p1)), .unset, .unset, .unset, .unset] [])) _
        refine XS.iconst X16.here hx rfl (hb hby at_42) ?_
        show Steps p.tables e below (T16.setTop (mkF m 43 #[.val (.int p0), .val (.int p1), .val (.int (w0_m1 p0)), .val (.int (w0_2 p1)), .unset, .unset, .unset, .unset] [(.int (1 : Int32))])) _
        refine XS.goto X16.here hx rfl (pc0 := 43) (pc' := 47) rfl (hb hby at_43) (by decide) (by decide) ?_
        show Steps p.tables e below (T16.setTop (mkF m 47 #[.val (.int p0), .val (.int p1), .val (.int (w0_m1 p0)), .val (.int (w0_2 p1)), .unset, .unset, .unset, .unset] [(.int (1 : Int32))])) _
        exact k)
      have q23 : (w0_m4 p1) = (1 : Int32) := by unfold w0_m4; rw [if_pos hc39_0]
      exact ⟨T16, _, X16, N16, e16, fun t k => K22 t (by rw [q23] at k; exact k)⟩
    · -- no
      have K24 : ∀ t, Steps p.tables e below (T16.setTop (mkF m 47 #[.val (.int p0), .val (.int p1), .val (.int (w0_m1 p0)), .val (.int (w0_2 p1)), .unset, .unset, .unset, .unset] [(.int (0 : Int32))])) t → Steps p.tables e below S0 t := fun t k => K16 t (by
        refine XS.icmpYes X16.here hx rfl (pc0 := 39) (pc' := 46) rfl (hb hby at_39) rfl (XT.ii_ne_t hc39_0) (by decide) (by decide) ?_
        show Steps p.tables e below (T16.setTop (mkF m 46 #[.val (.int p0), .val (.int p1), .val (.int (w0_m1 p0)), .val (.int (w0_2 p1)), .unset, .unset, .unset, .unset] [])) _
        refine XS.iconst X16.here hx rfl (hb hby at_46) ?_
        show Steps p.tables e below (T16.setTop (mkF m 47 #[.val (.int p0), .val (.int p1), .val (.int (w0_m1 p0)), .val (.int (w0_2 p1)), .unset, .unset, .unset, .unset] [(.int (0 : Int32))])) _
        exact k)
      have q25 : (w0_m4 p1) = (0 : Int32) := by unfold w0_m4; rw [if_neg hc39_0]
      exact ⟨T16, _, X16, N16, e16, fun t k => K24 t (by rw [q25] at k; exact k)⟩
  have K26 : ∀ t, Steps p.tables e below (T21.setTop (mkF m 60 #[.val (.int p0), .val (.int p1), .val (.int (w0_m1 p0)), .val (.int (w0_2 p1)), .val (.int (w0_m4 p1)), .val (.int (w0_5 p1)), .unset, .unset] [(.int (w0_5 p1))])) t → Steps p.tables e below S0 t := fun t k => K21 t (by
    refine XS.istore X21.here hx rfl (hb hby at_47) rfl (l' := #[.val (.int p0), .val (.int p1), .val (.int (w0_m1 p0)), .val (.int (w0_2 p1)), .val (.int (w0_m4 p1)), .unset, .unset, .unset]) rfl ?_
    show Steps p.tables e below (T21.setTop (mkF m 49 #[.val (.int p0), .val (.int p1), .val (.int (w0_m1 p0)), .val (.int (w0_2 p1)), .val (.int (w0_m4 p1)), .unset, .unset, .unset] [])) _
    refine XS.iloadN X21.here hx rfl (hb hby at_49) rfl ?_
    show Steps p.tables e below (T21.setTop (mkF m 50 #[.val (.int p0), .val (.int p1), .val (.int (w0_m1 p0)), .val (.int (w0_2 p1)), .val (.int (w0_m4 p1)), .unset, .unset, .unset] [(.int p1)])) _
    refine XS.iconst X21.here hx rfl (hb hby at_50) ?_
    show Steps p.tables e below (T21.setTop (mkF m 51 #[.val (.int p0), .val (.int p1), .val (.int (w0_m1 p0)), .val (.int (w0_2 p1)), .val (.int (w0_m4 p1)), .unset, .unset, .unset] [(.int (2 : Int32)), (.int p1)])) _
    refine XS.ishr X21.here hx rfl (hb hby at_51) rfl ?_
    show Steps p.tables e below (T21.setTop (mkF m 52 #[.val (.int p0), .val (.int p1), .val (.int (w0_m1 p0)), .val (.int (w0_2 p1)), .val (.int (w0_m4 p1)), .unset, .unset, .unset] [(.int (p1 >>> ((2 : Int32) &&& 31)))])) _
    refine XS.iconst X21.here hx rfl (hb hby at_52) ?_
    show Steps p.tables e below (T21.setTop (mkF m 53 #[.val (.int p0), .val (.int p1), .val (.int (w0_m1 p0)), .val (.int (w0_2 p1)), .val (.int (w0_m4 p1)), .unset, .unset, .unset] [(.int (3 : Int32)), (.int (p1 >>> ((2 : Int32) &&& 31)))])) _
    refine XS.iand X21.here hx rfl (hb hby at_53) rfl ?_
    show Steps p.tables e below (T21.setTop (mkF m 54 #[.val (.int p0), .val (.int p1), .val (.int (w0_m1 p0)), .val (.int (w0_2 p1)), .val (.int (w0_m4 p1)), .unset, .unset, .unset] [(.int ((p1 >>> ((2 : Int32) &&& 31)) &&& (3 : Int32)))])) _
    refine XS.iconst X21.here hx rfl (hb hby at_54) ?_
    show Steps p.tables e below (T21.setTop (mkF m 55 #[.val (.int p0), .val (.int p1), .val (.int (w0_m1 p0)), .val (.int (w0_2 p1)), .val (.int (w0_m4 p1)), .unset, .unset, .unset] [(.int (2 : Int32)), (.int ((p1 >>> ((2 : Int32) &&& 31)) &&& (3 : Int32)))])) _
    refine XS.isub X21.here hx rfl (hb hby at_55) rfl ?_
    show Steps p.tables e below (T21.setTop (mkF m 56 #[.val (.int p0), .val (.int p1), .val (.int (w0_m1 p0)), .val (.int (w0_2 p1)), .val (.int (w0_m4 p1)), .unset, .unset, .unset] [(.int (((p1 >>> ((2 : Int32) &&& 31)) &&& (3 : Int32)) - (2 : Int32)))])) _
    refine XS.istore X21.here hx rfl (hb hby at_56) rfl (l' := #[.val (.int p0), .val (.int p1), .val (.int (w0_m1 p0)), .val (.int (w0_2 p1)), .val (.int (w0_m4 p1)), .val (.int (w0_5 p1)), .unset, .unset]) rfl ?_
    show Steps p.tables e below (T21.setTop (mkF m 58 #[.val (.int p0), .val (.int p1), .val (.int (w0_m1 p0)), .val (.int (w0_2 p1)), .val (.int (w0_m4 p1)), .val (.int (w0_5 p1)), .unset, .unset] [])) _
    refine XS.iload X21.here hx rfl (hb hby at_58) rfl ?_
    show Steps p.tables e below (T21.setTop (mkF m 60 #[.val (.int p0), .val (.int p1), .val (.int (w0_m1 p0)), .val (.int (w0_2 p1)), .val (.int (w0_m4 p1)), .val (.int (w0_5 p1)), .unset, .unset] [(.int (w0_5 p1))])) _
    exact k)
  have K_27 : ∀ t, Steps p.tables e below (T21.setTop (mkF m 60 #[.val (.int p0), .val (.int p1), .val (.int (w0_m1 p0)), .val (.int (w0_2 p1)), .val (.int (w0_m4 p1)), .val (.int (w0_5 p1)), .unset, .unset] [(.int (w0_5 p1))])) t → Steps p.tables e below S0 t := K26
  obtain ⟨_, _, ⟨T28, L28, k28, n28⟩, -, X28, ⟨Lc28, hQ28, l28, y28, z28⟩, st28⟩ := Jvm.LawKit.callS X21 hx (y := (⟨"com/example/rota/rota/workflow/ServiceConfig", "isPort", "(I)Z"⟩ : MethodName)) hown (mvT hZ (hw _ (List.mem_of_getElem? (i := 0) rfl))) (mvT hZ (hw _ (List.mem_of_getElem? (i := 1) rfl))) (mvT hZ (hw _ (List.mem_of_getElem? (i := 2) rfl))) (mvT hZ (hw _ (List.mem_of_getElem? (i := 3) rfl))) (by decide) (backOf (W := 0) (rm1 l Z a0 hw [] (w0_5 p1) h0 n0 Z0 ) hZ (hw _ (List.mem_of_getElem? (i := 3) rfl)) (hw _ (List.mem_of_getElem? (i := 2) rfl)) (by decide) (by decide)) (g := (mkF m 60 #[.val (.int p0), .val (.int p1), .val (.int (w0_m1 p0)), .val (.int (w0_2 p1)), .val (.int (w0_m4 p1)), .val (.int (w0_5 p1)), .unset, .unset] [(.int (w0_5 p1))])) rfl (by rw [hml]; rfl) (argsL := [(.int (w0_5 p1))]) (rest := []) (lenOf pd0_0 rfl) rfl (by show 2 * 0 + _ ≤ _; exact Nat.le_of_eq rfl) (hb hby at_60) (fun _ _ => ⟨rfl, e21, (by decide : 0 + 0 ≤ 0), (by decide : 0 + 0 ≤ 0)⟩)
  dsimp only [Pt.U, Pt.locs, Pt.cells, Pt.slots] at X28 l28 y28 z28 st28 hQ28
  subst l28 y28 z28
  obtain ⟨rfl, N28q, e28⟩ := hQ28
  have N28 := Fr.app N21 N28q
  have K28 : ∀ t, Steps p.tables e below (T28.setTop (mkF m 63 #[.val (.int p0), .val (.int p1), .val (.int (w0_m1 p0)), .val (.int (w0_2 p1)), .val (.int (w0_m4 p1)), .val (.int (w0_5 p1)), .unset, .unset] [(.int (w1_r1 (w0_5 p1)))])) t → Steps p.tables e below S0 t := fun t k => K_27 t (st28 t k)
  have K29 : ∀ t, Steps p.tables e below (T28.setTop (mkF m 65 #[.val (.int p0), .val (.int p1), .val (.int (w0_m1 p0)), .val (.int (w0_2 p1)), .val (.int (w0_m4 p1)), .val (.int (w0_5 p1)), .unset, .unset] [(.int (w0_5 p1)), (.int (w1_r1 (w0_5 p1)))])) t → Steps p.tables e below S0 t := fun t k => K28 t (by
    refine XS.iload X28.here hx rfl (hb hby at_63) rfl ?_
    show Steps p.tables e below (T28.setTop (mkF m 65 #[.val (.int p0), .val (.int p1), .val (.int (w0_m1 p0)), .val (.int (w0_2 p1)), .val (.int (w0_m4 p1)), .val (.int (w0_5 p1)), .unset, .unset] [(.int (w0_5 p1)), (.int (w1_r1 (w0_5 p1)))])) _
    exact k)
  obtain ⟨T30, lo30, X30, N30, e30, K30⟩ : ∃ (T' : State) (locs' : List Loc), Stand p l e room_1 s m #[(.int p0), (.int p1)] below meth c T' locs' 0 0 ∧ Fr n0 locs' ∧ T'.heap = h0 ∧ ∀ t, Steps p.tables e below (T'.setTop (mkF m 73 #[.val (.int p0), .val (.int p1), .val (.int (w0_m1 p0)), .val (.int (w0_2 p1)), .val (.int (w0_m4 p1)), .val (.int (w0_5 p1)), .unset, .unset] [(.int (w0_m6 p1)), (.int (w1_r1 (w0_5 p1)))])) t → Steps p.tables e below S0 t := by
    by_cases hc65_0 : (w0_5 p1) < (0 : Int32)
    · -- yes
      have K31 : ∀ t, Steps p.tables e below (T28.setTop (mkF m 73 #[.val (.int p0), .val (.int p1), .val (.int (w0_m1 p0)), .val (.int (w0_2 p1)), .val (.int (w0_m4 p1)), .val (.int (w0_5 p1)), .unset, .unset] [(.int (0 : Int32)), (.int (w1_r1 (w0_5 p1)))])) t → Steps p.tables e below S0 t := fun t k => K29 t (by
        refine XS.ifYes X28.here hx rfl (pc0 := 65) (pc' := 72) rfl (hb hby at_65) rfl (XT.i0_lt_t hc65_0) (by decide) (by decide) ?_
        show Steps p.tables e below (T28.setTop (mkF m 72 #[.val (.int p0), .val (.int p1), .val (.int (w0_m1 p0)), .val (.int (w0_2 p1)), .val (.int (w0_m4 p1)), .val (.int (w0_5 p1)), .unset, .unset] [(.int (w1_r1 (w0_5 p1)))])) _
        refine XS.iconst X28.here hx rfl (hb hby at_72) ?_
        show Steps p.tables e below (T28.setTop (mkF m 73 #[.val (.int p0), .val (.int p1), .val (.int (w0_m1 p0)), .val (.int (w0_2 p1)), .val (.int (w0_m4 p1)), .val (.int (w0_5 p1)), .unset, .unset] [(.int (0 : Int32)), (.int (w1_r1 (w0_5 p1)))])) _
        exact k)
      have q32 : (w0_m6 p1) = (0 : Int32) := by unfold w0_m6; rw [if_pos hc65_0]
      exact ⟨T28, _, X28, N28, e28, fun t k => K31 t (by rw [q32] at k; exact k)⟩
    · -- no
      have K33 : ∀ t, Steps p.tables e below (T28.setTop (mkF m 73 #[.val (.int p0), .val (.int p1), .val (.int (w0_m1 p0)), .val (.int (w0_2 p1)), .val (.int (w0_m4 p1)), .val (.int (w0_5 p1)), .unset, .unset] [(.int (1 : Int32)), (.int (w1_r1 (w0_5 p1)))])) t → Steps p.tables e below S0 t := fun t k => K29 t (by
        refine XS.ifNo X28.here hx rfl (hb hby at_65) rfl (XT.i0_lt_f hc65_0) ?_
        show Steps p.tables e below (T28.setTop (mkF m 68 #[.val (.int p0), .val (.int p1), .val (.int (w0_m1 p0)), .val (.int (w0_2 p1)), .val (.int (w0_m4 p1)), .val (.int (w0_5 p1)), .unset, .unset] [(.int (w1_r1 (w0_5 p1)))])) _
        refine XS.iconst X28.here hx rfl (hb hby at_68) ?_
        show Steps p.tables e below (T28.setTop (mkF m 69 #[.val (.int p0), .val (.int p1), .val (.int (w0_m1 p0)), .val (.int (w0_2 p1)), .val (.int (w0_m4 p1)), .val (.int (w0_5 p1)), .unset, .unset] [(.int (1 : Int32)), (.int (w1_r1 (w0_5 p1)))])) _
        refine XS.goto X28.here hx rfl (pc0 := 69) (pc' := 73) rfl (hb hby at_69) (by decide) (by decide) ?_
        show Steps p.tables e below (T28.setTop (mkF m 73 #[.val (.int p0), .val (.int p1), .val (.int (w0_m1 p0)), .val (.int (w0_2 p1)), .val (.int (w0_m4 p1)), .val (.int (w0_5 p1)), .unset, .unset] [(.int (1 : Int32)), (.int (w1_r1 (w0_5 p1)))])) _
        exact k)
      have q34 : (w0_m6 p1) = (1 : Int32) := by unfold w0_m6; rw [if_neg hc65_0]
      exact ⟨T28, _, X28, N28, e28, fun t k => K33 t (by rw [q34] at k; exact k)⟩
  obtain ⟨T35, lo35, X35, N35, e35, K35⟩ : ∃ (T' : State) (locs' : List Loc), Stand p l e room_1 s m #[(.int p0), (.int p1)] below meth c T' locs' 0 0 ∧ Fr n0 locs' ∧ T'.heap = h0 ∧ ∀ t, Steps p.tables e below (T'.setTop (mkF m 81 #[.val (.int p0), .val (.int p1), .val (.int (w0_m1 p0)), .val (.int (w0_2 p1)), .val (.int (w0_m4 p1)), .val (.int (w0_5 p1)), .unset, .unset] [(.int (w0_m7 p1))])) t → Steps p.tables e below S0 t := by
    by_cases hc73_0 : (w1_r1 (w0_5 p1)) = (w0_m6 p1)
    · -- yes
      have K36 : ∀ t, Steps p.tables e below (T30.setTop (mkF m 81 #[.val (.int p0), .val (.int p1), .val (.int (w0_m1 p0)), .val (.int (w0_2 p1)), .val (.int (w0_m4 p1)), .val (.int (w0_5 p1)), .unset, .unset] [(.int (1 : Int32))])) t → Steps p.tables e below S0 t := fun t k => K30 t (by
        refine XS.icmpNo X30.here hx rfl (hb hby at_73) rfl (XT.ii_ne_f hc73_0) ?_
        show Steps p.tables e below (T30.setTop (mkF m 76 #[.val (.int p0), .val (.int p1), .val (.int (w0_m1 p0)), .val (.int (w0_2 p1)), .val (.int (w0_m4 p1)), .val (.int (w0_5 p1)), .unset, .unset] [])) _
        refine XS.iconst X30.here hx rfl (hb hby at_76) ?_
        show Steps p.tables e below (T30.setTop (mkF m 77 #[.val (.int p0), .val (.int p1), .val (.int (w0_m1 p0)), .val (.int (w0_2 p1)), .val (.int (w0_m4 p1)), .val (.int (w0_5 p1)), .unset, .unset] [(.int (1 : Int32))])) _
        refine XS.goto X30.here hx rfl (pc0 := 77) (pc' := 81) rfl (hb hby at_77) (by decide) (by decide) ?_
        show Steps p.tables e below (T30.setTop (mkF m 81 #[.val (.int p0), .val (.int p1), .val (.int (w0_m1 p0)), .val (.int (w0_2 p1)), .val (.int (w0_m4 p1)), .val (.int (w0_5 p1)), .unset, .unset] [(.int (1 : Int32))])) _
        exact k)
      have q37 : (w0_m7 p1) = (1 : Int32) := by unfold w0_m7; rw [if_pos hc73_0]
      exact ⟨T30, _, X30, N30, e30, fun t k => K36 t (by rw [q37] at k; exact k)⟩
    · -- no
      have K38 : ∀ t, Steps p.tables e below (T30.setTop (mkF m 81 #[.val (.int p0), .val (.int p1), .val (.int (w0_m1 p0)), .val (.int (w0_2 p1)), .val (.int (w0_m4 p1)), .val (.int (w0_5 p1)), .unset, .unset] [(.int (0 : Int32))])) t → Steps p.tables e below S0 t := fun t k => K30 t (by
        refine XS.icmpYes X30.here hx rfl (pc0 := 73) (pc' := 80) rfl (hb hby at_73) rfl (XT.ii_ne_t hc73_0) (by decide) (by decide) ?_
        show Steps p.tables e below (T30.setTop (mkF m 80 #[.val (.int p0), .val (.int p1), .val (.int (w0_m1 p0)), .val (.int (w0_2 p1)), .val (.int (w0_m4 p1)), .val (.int (w0_5 p1)), .unset, .unset] [])) _
        refine XS.iconst X30.here hx rfl (hb hby at_80) ?_
        show Steps p.tables e below (T30.setTop (mkF m 81 #[.val (.int p0), .val (.int p1), .val (.int (w0_m1 p0)), .val (.int (w0_2 p1)), .val (.int (w0_m4 p1)), .val (.int (w0_5 p1)), .unset, .unset] [(.int (0 : Int32))])) _
        exact k)
      have q39 : (w0_m7 p1) = (0 : Int32) := by unfold w0_m7; rw [if_neg hc73_0]
      exact ⟨T30, _, X30, N30, e30, fun t k => K38 t (by rw [q39] at k; exact k)⟩
  have K40 : ∀ t, Steps p.tables e below (T35.setTop (mkF m 84 #[.val (.int p0), .val (.int p1), .val (.int (w0_m1 p0)), .val (.int (w0_2 p1)), .val (.int (w0_m4 p1)), .val (.int (w0_5 p1)), .val (.int (w0_m7 p1)), .unset] [(.int (0 : Int32))])) t → Steps p.tables e below S0 t := fun t k => K35 t (by
    refine XS.istore X35.here hx rfl (hb hby at_81) rfl (l' := #[.val (.int p0), .val (.int p1), .val (.int (w0_m1 p0)), .val (.int (w0_2 p1)), .val (.int (w0_m4 p1)), .val (.int (w0_5 p1)), .val (.int (w0_m7 p1)), .unset]) rfl ?_
    show Steps p.tables e below (T35.setTop (mkF m 83 #[.val (.int p0), .val (.int p1), .val (.int (w0_m1 p0)), .val (.int (w0_2 p1)), .val (.int (w0_m4 p1)), .val (.int (w0_5 p1)), .val (.int (w0_m7 p1)), .unset] [])) _
    refine XS.iconst X35.here hx rfl (hb hby at_83) ?_
    show Steps p.tables e below (T35.setTop (mkF m 84 #[.val (.int p0), .val (.int p1), .val (.int (w0_m1 p0)), .val (.int (w0_2 p1)), .val (.int (w0_m4 p1)), .val (.int (w0_5 p1)), .val (.int (w0_m7 p1)), .unset] [(.int (0 : Int32))])) _
    exact k)
  have K_41 : ∀ t, Steps p.tables e below (T35.setTop (mkF m 84 #[.val (.int p0), .val (.int p1), .val (.int (w0_m1 p0)), .val (.int (w0_2 p1)), .val (.int (w0_m4 p1)), .val (.int (w0_5 p1)), .val (.int (w0_m7 p1)), .unset] [(.int (0 : Int32))])) t → Steps p.tables e below S0 t := K40
  obtain ⟨_, _, ⟨T42, L42, k42, n42⟩, -, X42, ⟨Lc42, hQ42, l42, y42, z42⟩, st42⟩ := Jvm.LawKit.callS X35 hx (y := (⟨"com/example/rota/rota/workflow/ServiceConfig", "isPort", "(I)Z"⟩ : MethodName)) hown (mvT hZ (hw _ (List.mem_of_getElem? (i := 0) rfl))) (mvT hZ (hw _ (List.mem_of_getElem? (i := 1) rfl))) (mvT hZ (hw _ (List.mem_of_getElem? (i := 2) rfl))) (mvT hZ (hw _ (List.mem_of_getElem? (i := 3) rfl))) (by decide) (backOf (W := 0) (rm1 l Z a0 hw [] (0 : Int32) h0 n0 Z0 ) hZ (hw _ (List.mem_of_getElem? (i := 3) rfl)) (hw _ (List.mem_of_getElem? (i := 2) rfl)) (by decide) (by decide)) (g := (mkF m 84 #[.val (.int p0), .val (.int p1), .val (.int (w0_m1 p0)), .val (.int (w0_2 p1)), .val (.int (w0_m4 p1)), .val (.int (w0_5 p1)), .val (.int (w0_m7 p1)), .unset] [(.int (0 : Int32))])) rfl (by rw [hml]; rfl) (argsL := [(.int (0 : Int32))]) (rest := []) (lenOf pd0_0 rfl) rfl (by show 2 * 0 + _ ≤ _; exact Nat.le_of_eq rfl) (hb hby at_84) (fun _ _ => ⟨rfl, e35, (by decide : 0 + 0 ≤ 0), (by decide : 0 + 0 ≤ 0)⟩)
  dsimp only [Pt.U, Pt.locs, Pt.cells, Pt.slots] at X42 l42 y42 z42 st42 hQ42
  subst l42 y42 z42
  obtain ⟨rfl, N42q, e42⟩ := hQ42
  have N42 := Fr.app N35 N42q
  have K42 : ∀ t, Steps p.tables e below (T42.setTop (mkF m 87 #[.val (.int p0), .val (.int p1), .val (.int (w0_m1 p0)), .val (.int (w0_2 p1)), .val (.int (w0_m4 p1)), .val (.int (w0_5 p1)), .val (.int (w0_m7 p1)), .unset] [(.int (w1_r1 (0 : Int32)))])) t → Steps p.tables e below S0 t := fun t k => K_41 t (st42 t k)
  obtain ⟨T43, lo43, X43, N43, e43, K43⟩ : ∃ (T' : State) (locs' : List Loc), Stand p l e room_1 s m #[(.int p0), (.int p1)] below meth c T' locs' 0 0 ∧ Fr n0 locs' ∧ T'.heap = h0 ∧ ∀ t, Steps p.tables e below (T'.setTop (mkF m 118 #[.val (.int p0), .val (.int p1), .val (.int (w0_m1 p0)), .val (.int (w0_2 p1)), .val (.int (w0_m4 p1)), .val (.int (w0_5 p1)), .val (.int (w0_m7 p1)), .unset] [(.int w0_m8)])) t → Steps p.tables e below S0 t := by
    by_cases hc87_0 : (w1_r1 (0 : Int32)) = (0 : Int32)
    · -- yes
      have K44 : ∀ t, Steps p.tables e below (T42.setTop (mkF m 118 #[.val (.int p0), .val (.int p1), .val (.int (w0_m1 p0)), .val (.int (w0_2 p1)), .val (.int (w0_m4 p1)), .val (.int (w0_5 p1)), .val (.int (w0_m7 p1)), .unset] [(.int (0 : Int32))])) t → Steps p.tables e below S0 t := fun t k => K42 t (by
        refine XS.ifYes X42.here hx rfl (pc0 := 87) (pc' := 117) rfl (hb hby at_87) rfl (XT.i0_eq_t hc87_0) (by decide) (by decide) ?_
        show Steps p.tables e below (T42.setTop (mkF m 117 #[.val (.int p0), .val (.int p1), .val (.int (w0_m1 p0)), .val (.int (w0_2 p1)), .val (.int (w0_m4 p1)), .val (.int (w0_5 p1)), .val (.int (w0_m7 p1)), .unset] [])) _
        refine XS.iconst X42.here hx rfl (hb hby at_117) ?_
        show Steps p.tables e below (T42.setTop (mkF m 118 #[.val (.int p0), .val (.int p1), .val (.int (w0_m1 p0)), .val (.int (w0_2 p1)), .val (.int (w0_m4 p1)), .val (.int (w0_5 p1)), .val (.int (w0_m7 p1)), .unset] [(.int (0 : Int32))])) _
        exact k)
      have q45 : w0_m8 = (0 : Int32) := by unfold w0_m8; rw [if_pos hc87_0]
      exact ⟨T42, _, X42, N42, e42, fun t k => K44 t (by rw [q45] at k; exact k)⟩
    · -- no
      have K46 : ∀ t, Steps p.tables e below (T42.setTop (mkF m 92 #[.val (.int p0), .val (.int p1), .val (.int (w0_m1 p0)), .val (.int (w0_2 p1)), .val (.int (w0_m4 p1)), .val (.int (w0_5 p1)), .val (.int (w0_m7 p1)), .unset] [(.int (65535 : Int32))])) t → Steps p.tables e below S0 t := fun t k => K42 t (by
        refine XS.ifNo X42.here hx rfl (hb hby at_87) rfl (XT.i0_eq_f hc87_0) ?_
        show Steps p.tables e below (T42.setTop (mkF m 90 #[.val (.int p0), .val (.int p1), .val (.int (w0_m1 p0)), .val (.int (w0_2 p1)), .val (.int (w0_m4 p1)), .val (.int (w0_5 p1)), .val (.int (w0_m7 p1)), .unset] [])) _
        refine X42.ldcInt hx hown (mvT hZ (hw _ (List.mem_of_getElem? (i := 10) rfl))) (g := (mkF m 90 #[.val (.int p0), .val (.int p1), .val (.int (w0_m1 p0)), .val (.int (w0_2 p1)), .val (.int (w0_m4 p1)), .val (.int (w0_5 p1)), .val (.int (w0_m7 p1)), .unset] [])) rfl (hb hby at_90) _ ?_
        show Steps p.tables e below (T42.setTop (mkF m 92 #[.val (.int p0), .val (.int p1), .val (.int (w0_m1 p0)), .val (.int (w0_2 p1)), .val (.int (w0_m4 p1)), .val (.int (w0_5 p1)), .val (.int (w0_m7 p1)), .unset] [(.int (65535 : Int32))])) _
        exact k)
      have K_47 : ∀ t, Steps p.tables e below (T42.setTop (mkF m 92 #[.val (.int p0), .val (.int p1), .val (.int (w0_m1 p0)), .val (.int (w0_2 p1)), .val (.int (w0_m4 p1)), .val (.int (w0_5 p1)), .val (.int (w0_m7 p1)), .unset] [(.int (65535 : Int32))])) t → Steps p.tables e below S0 t := K46
      obtain ⟨_, _, ⟨T48, L48, k48, n48⟩, -, X48, ⟨Lc48, hQ48, l48, y48, z48⟩, st48⟩ := Jvm.LawKit.callS X42 hx (y := (⟨"com/example/rota/rota/workflow/ServiceConfig", "isPort", "(I)Z"⟩ : MethodName)) hown (mvT hZ (hw _ (List.mem_of_getElem? (i := 0) rfl))) (mvT hZ (hw _ (List.mem_of_getElem? (i := 1) rfl))) (mvT hZ (hw _ (List.mem_of_getElem? (i := 2) rfl))) (mvT hZ (hw _ (List.mem_of_getElem? (i := 3) rfl))) (by decide) (backOf (W := 0) (rm1 l Z a0 hw [] (65535 : Int32) h0 n0 Z0 ) hZ (hw _ (List.mem_of_getElem? (i := 3) rfl)) (hw _ (List.mem_of_getElem? (i := 2) rfl)) (by decide) (by decide)) (g := (mkF m 92 #[.val (.int p0), .val (.int p1), .val (.int (w0_m1 p0)), .val (.int (w0_2 p1)), .val (.int (w0_m4 p1)), .val (.int (w0_5 p1)), .val (.int (w0_m7 p1)), .unset] [(.int (65535 : Int32))])) rfl (by rw [hml]; rfl) (argsL := [(.int (65535 : Int32))]) (rest := []) (lenOf pd0_0 rfl) rfl (by show 2 * 0 + _ ≤ _; exact Nat.le_of_eq rfl) (hb hby at_92) (fun _ _ => ⟨rfl, e42, (by decide : 0 + 0 ≤ 0), (by decide : 0 + 0 ≤ 0)⟩)
      dsimp only [Pt.U, Pt.locs, Pt.cells, Pt.slots] at X48 l48 y48 z48 st48 hQ48
      subst l48 y48 z48
      obtain ⟨rfl, N48q, e48⟩ := hQ48
      have N48 := Fr.app N42 N48q
      have K48 : ∀ t, Steps p.tables e below (T48.setTop (mkF m 95 #[.val (.int p0), .val (.int p1), .val (.int (w0_m1 p0)), .val (.int (w0_2 p1)), .val (.int (w0_m4 p1)), .val (.int (w0_5 p1)), .val (.int (w0_m7 p1)), .unset] [(.int (w1_r1 (65535 : Int32)))])) t → Steps p.tables e below S0 t := fun t k => K_47 t (st48 t k)
      by_cases hc95_1 : (w1_r1 (65535 : Int32)) = (0 : Int32)
      · -- yes
        have K49 : ∀ t, Steps p.tables e below (T48.setTop (mkF m 118 #[.val (.int p0), .val (.int p1), .val (.int (w0_m1 p0)), .val (.int (w0_2 p1)), .val (.int (w0_m4 p1)), .val (.int (w0_5 p1)), .val (.int (w0_m7 p1)), .unset] [(.int (0 : Int32))])) t → Steps p.tables e below S0 t := fun t k => K48 t (by
          refine XS.ifYes X48.here hx rfl (pc0 := 95) (pc' := 117) rfl (hb hby at_95) rfl (XT.i0_eq_t hc95_1) (by decide) (by decide) ?_
          show Steps p.tables e below (T48.setTop (mkF m 117 #[.val (.int p0), .val (.int p1), .val (.int (w0_m1 p0)), .val (.int (w0_2 p1)), .val (.int (w0_m4 p1)), .val (.int (w0_5 p1)), .val (.int (w0_m7 p1)), .unset] [])) _
          refine XS.iconst X48.here hx rfl (hb hby at_117) ?_
          show Steps p.tables e below (T48.setTop (mkF m 118 #[.val (.int p0), .val (.int p1), .val (.int (w0_m1 p0)), .val (.int (w0_2 p1)), .val (.int (w0_m4 p1)), .val (.int (w0_5 p1)), .val (.int (w0_m7 p1)), .unset] [(.int (0 : Int32))])) _
          exact k)
        have q50 : w0_m8 = (0 : Int32) := by unfold w0_m8; rw [if_neg hc87_0, if_pos hc95_1]
        exact ⟨T48, _, X48, N48, e48, fun t k => K49 t (by rw [q50] at k; exact k)⟩
      · -- no
        have K51 : ∀ t, Steps p.tables e below (T48.setTop (mkF m 99 #[.val (.int p0), .val (.int p1), .val (.int (w0_m1 p0)), .val (.int (w0_2 p1)), .val (.int (w0_m4 p1)), .val (.int (w0_5 p1)), .val (.int (w0_m7 p1)), .unset] [(.int (-1 : Int32))])) t → Steps p.tables e below S0 t := fun t k => K48 t (by
          refine XS.ifNo X48.here hx rfl (hb hby at_95) rfl (XT.i0_eq_f hc95_1) ?_
          show Steps p.tables e below (T48.setTop (mkF m 98 #[.val (.int p0), .val (.int p1), .val (.int (w0_m1 p0)), .val (.int (w0_2 p1)), .val (.int (w0_m4 p1)), .val (.int (w0_5 p1)), .val (.int (w0_m7 p1)), .unset] [])) _
          refine XS.iconst X48.here hx rfl (hb hby at_98) ?_
          show Steps p.tables e below (T48.setTop (mkF m 99 #[.val (.int p0), .val (.int p1), .val (.int (w0_m1 p0)), .val (.int (w0_2 p1)), .val (.int (w0_m4 p1)), .val (.int (w0_5 p1)), .val (.int (w0_m7 p1)), .unset] [(.int (-1 : Int32))])) _
          exact k)
        have K_52 : ∀ t, Steps p.tables e below (T48.setTop (mkF m 99 #[.val (.int p0), .val (.int p1), .val (.int (w0_m1 p0)), .val (.int (w0_2 p1)), .val (.int (w0_m4 p1)), .val (.int (w0_5 p1)), .val (.int (w0_m7 p1)), .unset] [(.int (-1 : Int32))])) t → Steps p.tables e below S0 t := K51
        obtain ⟨_, _, ⟨T53, L53, k53, n53⟩, -, X53, ⟨Lc53, hQ53, l53, y53, z53⟩, st53⟩ := Jvm.LawKit.callS X48 hx (y := (⟨"com/example/rota/rota/workflow/ServiceConfig", "isPort", "(I)Z"⟩ : MethodName)) hown (mvT hZ (hw _ (List.mem_of_getElem? (i := 0) rfl))) (mvT hZ (hw _ (List.mem_of_getElem? (i := 1) rfl))) (mvT hZ (hw _ (List.mem_of_getElem? (i := 2) rfl))) (mvT hZ (hw _ (List.mem_of_getElem? (i := 3) rfl))) (by decide) (backOf (W := 0) (rm1 l Z a0 hw [] (-1 : Int32) h0 n0 Z0 ) hZ (hw _ (List.mem_of_getElem? (i := 3) rfl)) (hw _ (List.mem_of_getElem? (i := 2) rfl)) (by decide) (by decide)) (g := (mkF m 99 #[.val (.int p0), .val (.int p1), .val (.int (w0_m1 p0)), .val (.int (w0_2 p1)), .val (.int (w0_m4 p1)), .val (.int (w0_5 p1)), .val (.int (w0_m7 p1)), .unset] [(.int (-1 : Int32))])) rfl (by rw [hml]; rfl) (argsL := [(.int (-1 : Int32))]) (rest := []) (lenOf pd0_0 rfl) rfl (by show 2 * 0 + _ ≤ _; exact Nat.le_of_eq rfl) (hb hby at_99) (fun _ _ => ⟨rfl, e48, (by decide : 0 + 0 ≤ 0), (by decide : 0 + 0 ≤ 0)⟩)
        dsimp only [Pt.U, Pt.locs, Pt.cells, Pt.slots] at X53 l53 y53 z53 st53 hQ53
        subst l53 y53 z53
        obtain ⟨rfl, N53q, e53⟩ := hQ53
        have N53 := Fr.app N48 N53q
        have K53 : ∀ t, Steps p.tables e below (T53.setTop (mkF m 102 #[.val (.int p0), .val (.int p1), .val (.int (w0_m1 p0)), .val (.int (w0_2 p1)), .val (.int (w0_m4 p1)), .val (.int (w0_5 p1)), .val (.int (w0_m7 p1)), .unset] [(.int (w1_r1 (-1 : Int32)))])) t → Steps p.tables e below S0 t := fun t k => K_52 t (st53 t k)
        by_cases hc102_2 : (w1_r1 (-1 : Int32)) = (0 : Int32)
        · -- yes
          have K54 : ∀ t, Steps p.tables e below (T53.setTop (mkF m 107 #[.val (.int p0), .val (.int p1), .val (.int (w0_m1 p0)), .val (.int (w0_2 p1)), .val (.int (w0_m4 p1)), .val (.int (w0_5 p1)), .val (.int (w0_m7 p1)), .unset] [(.int (65536 : Int32))])) t → Steps p.tables e below S0 t := fun t k => K53 t (by
            refine XS.ifNo X53.here hx rfl (hb hby at_102) rfl (XT.i0_ne_f hc102_2) ?_
            show Steps p.tables e below (T53.setTop (mkF m 105 #[.val (.int p0), .val (.int p1), .val (.int (w0_m1 p0)), .val (.int (w0_2 p1)), .val (.int (w0_m4 p1)), .val (.int (w0_5 p1)), .val (.int (w0_m7 p1)), .unset] [])) _
            refine X53.ldcInt hx hown (mvT hZ (hw _ (List.mem_of_getElem? (i := 11) rfl))) (g := (mkF m 105 #[.val (.int p0), .val (.int p1), .val (.int (w0_m1 p0)), .val (.int (w0_2 p1)), .val (.int (w0_m4 p1)), .val (.int (w0_5 p1)), .val (.int (w0_m7 p1)), .unset] [])) rfl (hb hby at_105) _ ?_
            show Steps p.tables e below (T53.setTop (mkF m 107 #[.val (.int p0), .val (.int p1), .val (.int (w0_m1 p0)), .val (.int (w0_2 p1)), .val (.int (w0_m4 p1)), .val (.int (w0_5 p1)), .val (.int (w0_m7 p1)), .unset] [(.int (65536 : Int32))])) _
            exact k)
          have K_55 : ∀ t, Steps p.tables e below (T53.setTop (mkF m 107 #[.val (.int p0), .val (.int p1), .val (.int (w0_m1 p0)), .val (.int (w0_2 p1)), .val (.int (w0_m4 p1)), .val (.int (w0_5 p1)), .val (.int (w0_m7 p1)), .unset] [(.int (65536 : Int32))])) t → Steps p.tables e below S0 t := K54
          obtain ⟨_, _, ⟨T56, L56, k56, n56⟩, -, X56, ⟨Lc56, hQ56, l56, y56, z56⟩, st56⟩ := Jvm.LawKit.callS X53 hx (y := (⟨"com/example/rota/rota/workflow/ServiceConfig", "isPort", "(I)Z"⟩ : MethodName)) hown (mvT hZ (hw _ (List.mem_of_getElem? (i := 0) rfl))) (mvT hZ (hw _ (List.mem_of_getElem? (i := 1) rfl))) (mvT hZ (hw _ (List.mem_of_getElem? (i := 2) rfl))) (mvT hZ (hw _ (List.mem_of_getElem? (i := 3) rfl))) (by decide) (backOf (W := 0) (rm1 l Z a0 hw [] (65536 : Int32) h0 n0 Z0 ) hZ (hw _ (List.mem_of_getElem? (i := 3) rfl)) (hw _ (List.mem_of_getElem? (i := 2) rfl)) (by decide) (by decide)) (g := (mkF m 107 #[.val (.int p0), .val (.int p1), .val (.int (w0_m1 p0)), .val (.int (w0_2 p1)), .val (.int (w0_m4 p1)), .val (.int (w0_5 p1)), .val (.int (w0_m7 p1)), .unset] [(.int (65536 : Int32))])) rfl (by rw [hml]; rfl) (argsL := [(.int (65536 : Int32))]) (rest := []) (lenOf pd0_0 rfl) rfl (by show 2 * 0 + _ ≤ _; exact Nat.le_of_eq rfl) (hb hby at_107) (fun _ _ => ⟨rfl, e53, (by decide : 0 + 0 ≤ 0), (by decide : 0 + 0 ≤ 0)⟩)
          dsimp only [Pt.U, Pt.locs, Pt.cells, Pt.slots] at X56 l56 y56 z56 st56 hQ56
          subst l56 y56 z56
          obtain ⟨rfl, N56q, e56⟩ := hQ56
          have N56 := Fr.app N53 N56q
          have K56 : ∀ t, Steps p.tables e below (T56.setTop (mkF m 110 #[.val (.int p0), .val (.int p1), .val (.int (w0_m1 p0)), .val (.int (w0_2 p1)), .val (.int (w0_m4 p1)), .val (.int (w0_5 p1)), .val (.int (w0_m7 p1)), .unset] [(.int (w1_r1 (65536 : Int32)))])) t → Steps p.tables e below S0 t := fun t k => K_55 t (st56 t k)
          by_cases hc110_3 : (w1_r1 (65536 : Int32)) = (0 : Int32)
          · -- yes
            have K57 : ∀ t, Steps p.tables e below (T56.setTop (mkF m 118 #[.val (.int p0), .val (.int p1), .val (.int (w0_m1 p0)), .val (.int (w0_2 p1)), .val (.int (w0_m4 p1)), .val (.int (w0_5 p1)), .val (.int (w0_m7 p1)), .unset] [(.int (1 : Int32))])) t → Steps p.tables e below S0 t := fun t k => K56 t (by
              refine XS.ifNo X56.here hx rfl (hb hby at_110) rfl (XT.i0_ne_f hc110_3) ?_
              show Steps p.tables e below (T56.setTop (mkF m 113 #[.val (.int p0), .val (.int p1), .val (.int (w0_m1 p0)), .val (.int (w0_2 p1)), .val (.int (w0_m4 p1)), .val (.int (w0_5 p1)), .val (.int (w0_m7 p1)), .unset] [])) _
              refine XS.iconst X56.here hx rfl (hb hby at_113) ?_
              show Steps p.tables e below (T56.setTop (mkF m 114 #[.val (.int p0), .val (.int p1), .val (.int (w0_m1 p0)), .val (.int (w0_2 p1)), .val (.int (w0_m4 p1)), .val (.int (w0_5 p1)), .val (.int (w0_m7 p1)), .unset] [(.int (1 : Int32))])) _
              refine XS.goto X56.here hx rfl (pc0 := 114) (pc' := 118) rfl (hb hby at_114) (by decide) (by decide) ?_
              show Steps p.tables e below (T56.setTop (mkF m 118 #[.val (.int p0), .val (.int p1), .val (.int (w0_m1 p0)), .val (.int (w0_2 p1)), .val (.int (w0_m4 p1)), .val (.int (w0_5 p1)), .val (.int (w0_m7 p1)), .unset] [(.int (1 : Int32))])) _
              exact k)
            have q58 : w0_m8 = (1 : Int32) := by unfold w0_m8; rw [if_neg hc87_0, if_neg hc95_1, if_pos hc102_2, if_pos hc110_3]
            exact ⟨T56, _, X56, N56, e56, fun t k => K57 t (by rw [q58] at k; exact k)⟩
          · -- no
            have K59 : ∀ t, Steps p.tables e below (T56.setTop (mkF m 118 #[.val (.int p0), .val (.int p1), .val (.int (w0_m1 p0)), .val (.int (w0_2 p1)), .val (.int (w0_m4 p1)), .val (.int (w0_5 p1)), .val (.int (w0_m7 p1)), .unset] [(.int (0 : Int32))])) t → Steps p.tables e below S0 t := fun t k => K56 t (by
              refine XS.ifYes X56.here hx rfl (pc0 := 110) (pc' := 117) rfl (hb hby at_110) rfl (XT.i0_ne_t hc110_3) (by decide) (by decide) ?_
              show Steps p.tables e below (T56.setTop (mkF m 117 #[.val (.int p0), .val (.int p1), .val (.int (w0_m1 p0)), .val (.int (w0_2 p1)), .val (.int (w0_m4 p1)), .val (.int (w0_5 p1)), .val (.int (w0_m7 p1)), .unset] [])) _
              refine XS.iconst X56.here hx rfl (hb hby at_117) ?_
              show Steps p.tables e below (T56.setTop (mkF m 118 #[.val (.int p0), .val (.int p1), .val (.int (w0_m1 p0)), .val (.int (w0_2 p1)), .val (.int (w0_m4 p1)), .val (.int (w0_5 p1)), .val (.int (w0_m7 p1)), .unset] [(.int (0 : Int32))])) _
              exact k)
            have q60 : w0_m8 = (0 : Int32) := by unfold w0_m8; rw [if_neg hc87_0, if_neg hc95_1, if_pos hc102_2, if_neg hc110_3]
            exact ⟨T56, _, X56, N56, e56, fun t k => K59 t (by rw [q60] at k; exact k)⟩
        · -- no
          have K61 : ∀ t, Steps p.tables e below (T53.setTop (mkF m 118 #[.val (.int p0), .val (.int p1), .val (.int (w0_m1 p0)), .val (.int (w0_2 p1)), .val (.int (w0_m4 p1)), .val (.int (w0_5 p1)), .val (.int (w0_m7 p1)), .unset] [(.int (0 : Int32))])) t → Steps p.tables e below S0 t := fun t k => K53 t (by
            refine XS.ifYes X53.here hx rfl (pc0 := 102) (pc' := 117) rfl (hb hby at_102) rfl (XT.i0_ne_t hc102_2) (by decide) (by decide) ?_
            show Steps p.tables e below (T53.setTop (mkF m 117 #[.val (.int p0), .val (.int p1), .val (.int (w0_m1 p0)), .val (.int (w0_2 p1)), .val (.int (w0_m4 p1)), .val (.int (w0_5 p1)), .val (.int (w0_m7 p1)), .unset] [])) _
            refine XS.iconst X53.here hx rfl (hb hby at_117) ?_
            show Steps p.tables e below (T53.setTop (mkF m 118 #[.val (.int p0), .val (.int p1), .val (.int (w0_m1 p0)), .val (.int (w0_2 p1)), .val (.int (w0_m4 p1)), .val (.int (w0_5 p1)), .val (.int (w0_m7 p1)), .unset] [(.int (0 : Int32))])) _
            exact k)
          have q62 : w0_m8 = (0 : Int32) := by unfold w0_m8; rw [if_neg hc87_0, if_neg hc95_1, if_neg hc102_2]
          exact ⟨T53, _, X53, N53, e53, fun t k => K61 t (by rw [q62] at k; exact k)⟩
  have K63 : ∀ t, Steps p.tables e below (T43.setTop (mkF m 121 #[.val (.int p0), .val (.int p1), .val (.int (w0_m1 p0)), .val (.int (w0_2 p1)), .val (.int (w0_m4 p1)), .val (.int (w0_5 p1)), .val (.int (w0_m7 p1)), .val (.int w0_m8)] [(.int (w0_m1 p0))])) t → Steps p.tables e below S0 t := fun t k => K43 t (by
    refine XS.istore X43.here hx rfl (hb hby at_118) rfl (l' := #[.val (.int p0), .val (.int p1), .val (.int (w0_m1 p0)), .val (.int (w0_2 p1)), .val (.int (w0_m4 p1)), .val (.int (w0_5 p1)), .val (.int (w0_m7 p1)), .val (.int w0_m8)]) rfl ?_
    show Steps p.tables e below (T43.setTop (mkF m 120 #[.val (.int p0), .val (.int p1), .val (.int (w0_m1 p0)), .val (.int (w0_2 p1)), .val (.int (w0_m4 p1)), .val (.int (w0_5 p1)), .val (.int (w0_m7 p1)), .val (.int w0_m8)] [])) _
    refine XS.iloadN X43.here hx rfl (hb hby at_120) rfl ?_
    show Steps p.tables e below (T43.setTop (mkF m 121 #[.val (.int p0), .val (.int p1), .val (.int (w0_m1 p0)), .val (.int (w0_2 p1)), .val (.int (w0_m4 p1)), .val (.int (w0_5 p1)), .val (.int (w0_m7 p1)), .val (.int w0_m8)] [(.int (w0_m1 p0))])) _
    exact k)
  by_cases hc121_0 : (w0_m1 p0) = (0 : Int32)
  · -- yes
    have K64 : ∀ t, Steps p.tables e below (T43.setTop (mkF m 144 #[.val (.int p0), .val (.int p1), .val (.int (w0_m1 p0)), .val (.int (w0_2 p1)), .val (.int (w0_m4 p1)), .val (.int (w0_5 p1)), .val (.int (w0_m7 p1)), .val (.int w0_m8)] [(.int (0 : Int32))])) t → Steps p.tables e below S0 t := fun t k => K63 t (by
      refine XS.ifYes X43.here hx rfl (pc0 := 121) (pc' := 143) rfl (hb hby at_121) rfl (XT.i0_eq_t hc121_0) (by decide) (by decide) ?_
      show Steps p.tables e below (T43.setTop (mkF m 143 #[.val (.int p0), .val (.int p1), .val (.int (w0_m1 p0)), .val (.int (w0_2 p1)), .val (.int (w0_m4 p1)), .val (.int (w0_5 p1)), .val (.int (w0_m7 p1)), .val (.int w0_m8)] [])) _
      refine XS.iconst X43.here hx rfl (hb hby at_143) ?_
      show Steps p.tables e below (T43.setTop (mkF m 144 #[.val (.int p0), .val (.int p1), .val (.int (w0_m1 p0)), .val (.int (w0_2 p1)), .val (.int (w0_m4 p1)), .val (.int (w0_5 p1)), .val (.int (w0_m7 p1)), .val (.int w0_m8)] [(.int (0 : Int32))])) _
      exact k)
    obtain ⟨fs, hr, hrun, hended, hW, hsame⟩ := X43.leave (v := some (.int (0 : Int32))) (fun h => by rw [Bd.returns] at h; cases h)
    refine ⟨_, _, ?_, hrun, hended, _, _, rfl, ?_, ⟨_, rfl⟩, hW, hsame.mono (by decide) (by decide)⟩
    · rw [← hS0]; exact K64 _ (retN X43 hx (t := .boolean) Bd.returns (by simp) (hb hby at_144) hr)
    · show Q0 Z p0 p1 h0 n0 _ T43.heap _
      rw [e43]
      have qr : (0 : Int32) = (w0_r9 p0 p1) := by unfold w0_r9; rw [if_pos hc121_0]
      exact ⟨congrArg (fun z => some (Value.int z)) qr, N43⟩
  · -- no
    have K65 : ∀ t, Steps p.tables e below (T43.setTop (mkF m 126 #[.val (.int p0), .val (.int p1), .val (.int (w0_m1 p0)), .val (.int (w0_2 p1)), .val (.int (w0_m4 p1)), .val (.int (w0_5 p1)), .val (.int (w0_m7 p1)), .val (.int w0_m8)] [(.int (w0_m4 p1))])) t → Steps p.tables e below S0 t := fun t k => K63 t (by
      refine XS.ifNo X43.here hx rfl (hb hby at_121) rfl (XT.i0_eq_f hc121_0) ?_
      show Steps p.tables e below (T43.setTop (mkF m 124 #[.val (.int p0), .val (.int p1), .val (.int (w0_m1 p0)), .val (.int (w0_2 p1)), .val (.int (w0_m4 p1)), .val (.int (w0_5 p1)), .val (.int (w0_m7 p1)), .val (.int w0_m8)] [])) _
      refine XS.iload X43.here hx rfl (hb hby at_124) rfl ?_
      show Steps p.tables e below (T43.setTop (mkF m 126 #[.val (.int p0), .val (.int p1), .val (.int (w0_m1 p0)), .val (.int (w0_2 p1)), .val (.int (w0_m4 p1)), .val (.int (w0_5 p1)), .val (.int (w0_m7 p1)), .val (.int w0_m8)] [(.int (w0_m4 p1))])) _
      exact k)
    by_cases hc126_1 : (w0_m4 p1) = (0 : Int32)
    · -- yes
      have K66 : ∀ t, Steps p.tables e below (T43.setTop (mkF m 144 #[.val (.int p0), .val (.int p1), .val (.int (w0_m1 p0)), .val (.int (w0_2 p1)), .val (.int (w0_m4 p1)), .val (.int (w0_5 p1)), .val (.int (w0_m7 p1)), .val (.int w0_m8)] [(.int (0 : Int32))])) t → Steps p.tables e below S0 t := fun t k => K65 t (by
        refine XS.ifYes X43.here hx rfl (pc0 := 126) (pc' := 143) rfl (hb hby at_126) rfl (XT.i0_eq_t hc126_1) (by decide) (by decide) ?_
        show Steps p.tables e below (T43.setTop (mkF m 143 #[.val (.int p0), .val (.int p1), .val (.int (w0_m1 p0)), .val (.int (w0_2 p1)), .val (.int (w0_m4 p1)), .val (.int (w0_5 p1)), .val (.int (w0_m7 p1)), .val (.int w0_m8)] [])) _
        refine XS.iconst X43.here hx rfl (hb hby at_143) ?_
        show Steps p.tables e below (T43.setTop (mkF m 144 #[.val (.int p0), .val (.int p1), .val (.int (w0_m1 p0)), .val (.int (w0_2 p1)), .val (.int (w0_m4 p1)), .val (.int (w0_5 p1)), .val (.int (w0_m7 p1)), .val (.int w0_m8)] [(.int (0 : Int32))])) _
        exact k)
      obtain ⟨fs, hr, hrun, hended, hW, hsame⟩ := X43.leave (v := some (.int (0 : Int32))) (fun h => by rw [Bd.returns] at h; cases h)
      refine ⟨_, _, ?_, hrun, hended, _, _, rfl, ?_, ⟨_, rfl⟩, hW, hsame.mono (by decide) (by decide)⟩
      · rw [← hS0]; exact K66 _ (retN X43 hx (t := .boolean) Bd.returns (by simp) (hb hby at_144) hr)
      · show Q0 Z p0 p1 h0 n0 _ T43.heap _
        rw [e43]
        have qr : (0 : Int32) = (w0_r9 p0 p1) := by unfold w0_r9; rw [if_neg hc121_0, if_pos hc126_1]
        exact ⟨congrArg (fun z => some (Value.int z)) qr, N43⟩
    · -- no
      have K67 : ∀ t, Steps p.tables e below (T43.setTop (mkF m 131 #[.val (.int p0), .val (.int p1), .val (.int (w0_m1 p0)), .val (.int (w0_2 p1)), .val (.int (w0_m4 p1)), .val (.int (w0_5 p1)), .val (.int (w0_m7 p1)), .val (.int w0_m8)] [(.int (w0_m7 p1))])) t → Steps p.tables e below S0 t := fun t k => K65 t (by
        refine XS.ifNo X43.here hx rfl (hb hby at_126) rfl (XT.i0_eq_f hc126_1) ?_
        show Steps p.tables e below (T43.setTop (mkF m 129 #[.val (.int p0), .val (.int p1), .val (.int (w0_m1 p0)), .val (.int (w0_2 p1)), .val (.int (w0_m4 p1)), .val (.int (w0_5 p1)), .val (.int (w0_m7 p1)), .val (.int w0_m8)] [])) _
        refine XS.iload X43.here hx rfl (hb hby at_129) rfl ?_
        show Steps p.tables e below (T43.setTop (mkF m 131 #[.val (.int p0), .val (.int p1), .val (.int (w0_m1 p0)), .val (.int (w0_2 p1)), .val (.int (w0_m4 p1)), .val (.int (w0_5 p1)), .val (.int (w0_m7 p1)), .val (.int w0_m8)] [(.int (w0_m7 p1))])) _
        exact k)
      by_cases hc131_2 : (w0_m7 p1) = (0 : Int32)
      · -- yes
        have K68 : ∀ t, Steps p.tables e below (T43.setTop (mkF m 144 #[.val (.int p0), .val (.int p1), .val (.int (w0_m1 p0)), .val (.int (w0_2 p1)), .val (.int (w0_m4 p1)), .val (.int (w0_5 p1)), .val (.int (w0_m7 p1)), .val (.int w0_m8)] [(.int (0 : Int32))])) t → Steps p.tables e below S0 t := fun t k => K67 t (by
          refine XS.ifYes X43.here hx rfl (pc0 := 131) (pc' := 143) rfl (hb hby at_131) rfl (XT.i0_eq_t hc131_2) (by decide) (by decide) ?_
          show Steps p.tables e below (T43.setTop (mkF m 143 #[.val (.int p0), .val (.int p1), .val (.int (w0_m1 p0)), .val (.int (w0_2 p1)), .val (.int (w0_m4 p1)), .val (.int (w0_5 p1)), .val (.int (w0_m7 p1)), .val (.int w0_m8)] [])) _
          refine XS.iconst X43.here hx rfl (hb hby at_143) ?_
          show Steps p.tables e below (T43.setTop (mkF m 144 #[.val (.int p0), .val (.int p1), .val (.int (w0_m1 p0)), .val (.int (w0_2 p1)), .val (.int (w0_m4 p1)), .val (.int (w0_5 p1)), .val (.int (w0_m7 p1)), .val (.int w0_m8)] [(.int (0 : Int32))])) _
          exact k)
        obtain ⟨fs, hr, hrun, hended, hW, hsame⟩ := X43.leave (v := some (.int (0 : Int32))) (fun h => by rw [Bd.returns] at h; cases h)
        refine ⟨_, _, ?_, hrun, hended, _, _, rfl, ?_, ⟨_, rfl⟩, hW, hsame.mono (by decide) (by decide)⟩
        · rw [← hS0]; exact K68 _ (retN X43 hx (t := .boolean) Bd.returns (by simp) (hb hby at_144) hr)
        · show Q0 Z p0 p1 h0 n0 _ T43.heap _
          rw [e43]
          have qr : (0 : Int32) = (w0_r9 p0 p1) := by unfold w0_r9; rw [if_neg hc121_0, if_neg hc126_1, if_pos hc131_2]
          exact ⟨congrArg (fun z => some (Value.int z)) qr, N43⟩
      · -- no
        have K69 : ∀ t, Steps p.tables e below (T43.setTop (mkF m 136 #[.val (.int p0), .val (.int p1), .val (.int (w0_m1 p0)), .val (.int (w0_2 p1)), .val (.int (w0_m4 p1)), .val (.int (w0_5 p1)), .val (.int (w0_m7 p1)), .val (.int w0_m8)] [(.int w0_m8)])) t → Steps p.tables e below S0 t := fun t k => K67 t (by
          refine XS.ifNo X43.here hx rfl (hb hby at_131) rfl (XT.i0_eq_f hc131_2) ?_
          show Steps p.tables e below (T43.setTop (mkF m 134 #[.val (.int p0), .val (.int p1), .val (.int (w0_m1 p0)), .val (.int (w0_2 p1)), .val (.int (w0_m4 p1)), .val (.int (w0_5 p1)), .val (.int (w0_m7 p1)), .val (.int w0_m8)] [])) _
          refine XS.iload X43.here hx rfl (hb hby at_134) rfl ?_
          show Steps p.tables e below (T43.setTop (mkF m 136 #[.val (.int p0), .val (.int p1), .val (.int (w0_m1 p0)), .val (.int (w0_2 p1)), .val (.int (w0_m4 p1)), .val (.int (w0_5 p1)), .val (.int (w0_m7 p1)), .val (.int w0_m8)] [(.int w0_m8)])) _
          exact k)
        by_cases hc136_3 : w0_m8 = (0 : Int32)
        · -- yes
          have K70 : ∀ t, Steps p.tables e below (T43.setTop (mkF m 144 #[.val (.int p0), .val (.int p1), .val (.int (w0_m1 p0)), .val (.int (w0_2 p1)), .val (.int (w0_m4 p1)), .val (.int (w0_5 p1)), .val (.int (w0_m7 p1)), .val (.int w0_m8)] [(.int (0 : Int32))])) t → Steps p.tables e below S0 t := fun t k => K69 t (by
            refine XS.ifYes X43.here hx rfl (pc0 := 136) (pc' := 143) rfl (hb hby at_136) rfl (XT.i0_eq_t hc136_3) (by decide) (by decide) ?_
            show Steps p.tables e below (T43.setTop (mkF m 143 #[.val (.int p0), .val (.int p1), .val (.int (w0_m1 p0)), .val (.int (w0_2 p1)), .val (.int (w0_m4 p1)), .val (.int (w0_5 p1)), .val (.int (w0_m7 p1)), .val (.int w0_m8)] [])) _
            refine XS.iconst X43.here hx rfl (hb hby at_143) ?_
            show Steps p.tables e below (T43.setTop (mkF m 144 #[.val (.int p0), .val (.int p1), .val (.int (w0_m1 p0)), .val (.int (w0_2 p1)), .val (.int (w0_m4 p1)), .val (.int (w0_5 p1)), .val (.int (w0_m7 p1)), .val (.int w0_m8)] [(.int (0 : Int32))])) _
            exact k)
          obtain ⟨fs, hr, hrun, hended, hW, hsame⟩ := X43.leave (v := some (.int (0 : Int32))) (fun h => by rw [Bd.returns] at h; cases h)
          refine ⟨_, _, ?_, hrun, hended, _, _, rfl, ?_, ⟨_, rfl⟩, hW, hsame.mono (by decide) (by decide)⟩
          · rw [← hS0]; exact K70 _ (retN X43 hx (t := .boolean) Bd.returns (by simp) (hb hby at_144) hr)
          · show Q0 Z p0 p1 h0 n0 _ T43.heap _
            rw [e43]
            have qr : (0 : Int32) = (w0_r9 p0 p1) := by unfold w0_r9; rw [if_neg hc121_0, if_neg hc126_1, if_neg hc131_2, if_pos hc136_3]
            exact ⟨congrArg (fun z => some (Value.int z)) qr, N43⟩
        · -- no
          have K71 : ∀ t, Steps p.tables e below (T43.setTop (mkF m 144 #[.val (.int p0), .val (.int p1), .val (.int (w0_m1 p0)), .val (.int (w0_2 p1)), .val (.int (w0_m4 p1)), .val (.int (w0_5 p1)), .val (.int (w0_m7 p1)), .val (.int w0_m8)] [(.int (1 : Int32))])) t → Steps p.tables e below S0 t := fun t k => K69 t (by
            refine XS.ifNo X43.here hx rfl (hb hby at_136) rfl (XT.i0_eq_f hc136_3) ?_
            show Steps p.tables e below (T43.setTop (mkF m 139 #[.val (.int p0), .val (.int p1), .val (.int (w0_m1 p0)), .val (.int (w0_2 p1)), .val (.int (w0_m4 p1)), .val (.int (w0_5 p1)), .val (.int (w0_m7 p1)), .val (.int w0_m8)] [])) _
            refine XS.iconst X43.here hx rfl (hb hby at_139) ?_
            show Steps p.tables e below (T43.setTop (mkF m 140 #[.val (.int p0), .val (.int p1), .val (.int (w0_m1 p0)), .val (.int (w0_2 p1)), .val (.int (w0_m4 p1)), .val (.int (w0_5 p1)), .val (.int (w0_m7 p1)), .val (.int w0_m8)] [(.int (1 : Int32))])) _
            refine XS.goto X43.here hx rfl (pc0 := 140) (pc' := 144) rfl (hb hby at_140) (by decide) (by decide) ?_
            show Steps p.tables e below (T43.setTop (mkF m 144 #[.val (.int p0), .val (.int p1), .val (.int (w0_m1 p0)), .val (.int (w0_2 p1)), .val (.int (w0_m4 p1)), .val (.int (w0_5 p1)), .val (.int (w0_m7 p1)), .val (.int w0_m8)] [(.int (1 : Int32))])) _
            exact k)
          obtain ⟨fs, hr, hrun, hended, hW, hsame⟩ := X43.leave (v := some (.int (1 : Int32))) (fun h => by rw [Bd.returns] at h; cases h)
          refine ⟨_, _, ?_, hrun, hended, _, _, rfl, ?_, ⟨_, rfl⟩, hW, hsame.mono (by decide) (by decide)⟩
          · rw [← hS0]; exact K71 _ (retN X43 hx (t := .boolean) Bd.returns (by simp) (hb hby at_144) hr)
          · show Q0 Z p0 p1 h0 n0 _ T43.heap _
            rw [e43]
            have qr : (1 : Int32) = (w0_r9 p0 p1) := by unfold w0_r9; rw [if_neg hc121_0, if_neg hc126_1, if_neg hc131_2, if_neg hc136_3]
            exact ⟨congrArg (fun z => some (Value.int z)) qr, N43⟩
set_option maxRecDepth 65536 in
set_option maxHeartbeats 40000000 in
theorem comes_1 {Post : Tables → Env → Array Value → State → Outcome → State → Prop} (hpost : ∀ tb e args s v u, (limb_1_1.after args s (.returned v) u = true ∧ limb_1_2.after args s (.returned v) u = true ∧ True) → FrameEnd s (.returned v) u (Jvm.fieldLocs frame_1_writes args s ++ Jvm.arrayLocs frame_1_arrays args s ++ Jvm.staticLocs frame_1_statics s) 0 0 → Post tb e args s (.returned v) u) :
    ArmFor flags0 classFile x code maxLocals ret World_1 tables_1 room_1 Calls_1 rest_1 Pre_1 Post := by
  intro l hfl _ _ p e ha hc hk s m args below hf hA hF happ hP
  obtain ⟨hcalls, hrest, hpre⟩ := hP
  obtain ⟨-, -, -, hnamed, -, -, -, hat⟩ := (Spec.applies_iff hf).mp happ
  obtain ⟨hg, hn⟩ := and_e (Cond.before_iff.mp (show (Jvm.Cond.and given_1 narrow_1).before args s = true from hpre))
  obtain ⟨hcount, hv0⟩ := and_e hg
  obtain ⟨hi0, hv1⟩ := and_e hv0
  have hi1 := hv1
  obtain ⟨w0, w1, rfl⟩ : ∃ w0 w1 : Value, args = #[w0, w1] := by
    have hs : args.size = 2 := by simpa [Cond.value, given_1] using hcount
    obtain ⟨L⟩ := args
    match L, hs with
    | [w0, w1], _ => exact ⟨w0, w1, rfl⟩
  have hw := fun d (hd : d ∈ tables_1) => atoms_spec (ws := Jvm.Cond.code x code maxLocals ret :: tables_1) hat d (List.mem_cons_of_mem _ hd)
  have hfit : Fit s := fun {y c} hc i hi => by
    obtain ⟨ha, rfl⟩ := Array.getElem?_eq_some_iff.mp hc
    have q := List.all_eq_true.mp ((Array.all_eq_true_iff_forall_mem.mp hF) _ (Array.getElem_mem ha)) i (List.mem_range.mpr hi)
    simpa [Array.getElem?_eq_getElem hi] using q
  obtain ⟨i0, ei0⟩ := is_v hi0
  obtain rfl : w0 = (.int i0) := Option.some.inj ei0
  obtain ⟨i1, ei1⟩ := is_v hi1
  obtain rfl : w1 = (.int i1) := Option.some.inj ei1
  obtain ⟨n, o, h1, h2, h3, _, L, rfl, ⟨rfl, N⟩, hq⟩ := rm0 l s _ hw tables_1 i0 i1  s.heap s.heap.size (Nat.le_refl _)  p e ha hc hk s m _ below hf ((Spec.applies_iff_loose hf).mp happ).1 ⟨rfl, State.Warmed39.refl s, rfl⟩ trivial
  refine ⟨n, _, h1, h2, h3, hpost _ _ _ _ _ _ ⟨Cond.after_iff.mpr rfl, Cond.after_iff.mpr (eq_i res_at (Term.int_eval (1)) (congrArg Value.int (plain_law i0 i1))), trivial⟩ ⟨hq.1, hq.2.1, (hq.2.2.sift fun y hy => Or.inr (N y hy)).mono (by decide) (by decide)⟩⟩
theorem main_1_1 : Claimed_1_1 := comes_1 fun _ _ _ _ _ _ h hF => ⟨h.1, hF⟩
theorem main_1_2 : Claimed_1_2 := comes_1 fun _ _ _ _ _ _ h hF => ⟨h.2.1, hF⟩
end Jvm.Pilot.@@N@@
namespace Jvm.Pilot.@@N@@
open Jvm Jvm.ClassFile Sem Op Lib Jvm.Free Jvm.Stand Jvm.Pilot.@@N@@.Jvm.D
/-! MADE BY PROGRAM (witnessworld.py) out of the Statement's table words and the real class files: 9 classes; the members and pool entries that the words name. The judged class is class 1, her method 2. -/
namespace start1
open Jvm.ClassFile
def u (s : String) : CpInfo := .utf8 (stringToUtf16 s)
/-- a pool by its gaps: so many unusable entries, then the entry; so many at the end -/
def gap : Nat → List CpInfo → List CpInfo
  | 0, r => r
  | n + 1, r => .unusable :: gap n r
def poolList (es : List (Nat × CpInfo)) (last : Nat) : List CpInfo := es.foldr (fun e r => gap e.1 (e.2 :: r)) (gap last [])
def pool (es : List (Nat × CpInfo)) (last : Nat) : Array CpInfo := ⟨poolList es last⟩
def fileOf (pool : Array CpInfo) (this : Nat) (attrs : Array Attribute := #[]) (ms : Array MethodInfo := #[]) (fl : Nat := 33) (sup : Nat := 0) (ifs : Array Nat := #[]) (fds : Array FieldInfo := #[]) : ClassFile where
  minorVersion := 0
  majorVersion := 65
  constantPool := pool
  accessFlags := fl
  thisClass := this
  superClass := sup
  interfaces := ifs
  fields := fds
  methods := ms
  attributes := attrs
def plain (name : String) (sup : Option ClassId) : Class where
  name := name
  kind := .ordinary
  loader := none
  accessFlags := 33
  super := sup
  interfaces := #[]
  cf := none
  fields := #[]
  methods := #[]
  instanceTypes := #[]
  staticTypes := #[]
  resolved := #[]
  callSites := []
  init := .initialized
  statics := none
  mirror := none

def pool0 : Array CpInfo := pool [(5, u "<init>"), (0, u "()V"), (1, .class_ 10), (1, u "java/lang/Object")] 113

def k0m0 : Method := { name := "<init>", desc := "()V", sig := { parameters := [], returnType := none }, accessFlags := 1, code := none }
/-- java/lang/Object -/
def k0 : Class := { plain "java/lang/Object" none with
  accessFlags := 33
  interfaces := #[]
  cf := some (fileOf pool0 8 #[] #[{ accessFlags := 1, nameIndex := 5, descriptorIndex := 6, attributes := #[] }] 33 0 #[] #[])
  fields := #[]
  methods := #[k0m0]
  instanceTypes := #[]
  staticTypes := #[]
  resolved := Array.replicate 124 none
  statics := none }

def pool1 : Array CpInfo := pool [(2, .class_ 4), (1, u "java/lang/Object"), (0, u "<init>"), (0, u "()V"), (0, .methodref 8 9), (0, .class_ 10), (0, .nameAndType 11 12), (0, u "com/example/rota/rota/workflow/ServiceConfig"), (0, u "isPort"), (0, u "(I)Z"), (0, .methodref 14 15), (0, .class_ 16), (0, .nameAndType 17 12), (0, u "com/example/rota/rota/workflow/ServiceConfigIsPortPinLaw"), (0, u "fitsSixteenBits"), (0, .integer 65534), (0, .integer 65535), (0, .integer 65536), (3, u "law"), (0, u "(II)Z")] 2

def k1m0 : Method := { name := "<init>", desc := "()V", sig := { parameters := [], returnType := none }, accessFlags := 2, code := none }
def k1c1 : Code := { maxStack := 2, maxLocals := 1, code := method_2_code, exceptionTable := #[], attributes := #[] }
def k1m1 : Method := { name := "fitsSixteenBits", desc := "(I)Z", sig := { parameters := [.int], returnType := some .boolean }, accessFlags := 10, code := some k1c1 }
def k1c2 : Code := { maxStack := 3, maxLocals := 8, code := code, exceptionTable := #[], attributes := #[] }
def k1m2 : Method := { name := "law", desc := "(II)Z", sig := { parameters := [.int, .int], returnType := some .boolean }, accessFlags := 9, code := some k1c2 }
/-- com/example/rota/rota/workflow/ServiceConfigIsPortPinLaw -/
def k1 : Class := { plain "com/example/rota/rota/workflow/ServiceConfigIsPortPinLaw" (some 0) with
  accessFlags := 49
  interfaces := #[]
  cf := some (fileOf pool1 14 #[] #[{ accessFlags := 2, nameIndex := 5, descriptorIndex := 6, attributes := #[] }, { accessFlags := 10, nameIndex := 17, descriptorIndex := 12, attributes := #[] }, { accessFlags := 9, nameIndex := 24, descriptorIndex := 25, attributes := #[] }] 49 2 #[] #[])
  fields := #[]
  methods := #[k1m0, k1m1, k1m2]
  instanceTypes := #[]
  staticTypes := #[]
  resolved := Array.replicate 28 none
  statics := none }

def pool2 : Array CpInfo := pool [(2, .class_ 4), (1, u "java/lang/Object"), (3, .class_ 10), (1, u "com/example/rota/rota/workflow/ServiceConfig"), (0, u "tracker"), (0, u "Lcom/example/rota/rota/workflow/TrackerSettings;"), (2, u "pollingInterval"), (0, u "Ljava/time/Duration;"), (2, u "workspaceRoot"), (0, u "Ljava/nio/file/Path;"), (2, u "hooks"), (0, u "Lcom/example/rota/rota/workflow/HookSettings;"), (2, u "maxConcurrentAgents"), (0, u "I"), (2, u "maxConcurrentAgentsByState"), (0, u "Ljava/util/Map;"), (2, u "maxConcurrentStarts"), (2, u "maxTurns"), (2, u "maxRetryBackoff"), (2, u "codex"), (0, u "Lcom/example/rota/rota/workflow/CodexSettings;"), (2, u "serverPort"), (0, u "Ljava/util/OptionalInt;"), (95, .integer 65535), (43, u "VARIABLE"), (0, u "Ljava/util/regex/Pattern;"), (37, u "DEFAULT_ACTIVE_STATES"), (0, u "Ljava/util/List;"), (8, u "DEFAULT_TERMINAL_STATES"), (240, u "DEFAULT_TURN_SANDBOX_POLICY"), (24, u "isPort"), (0, u "(I)Z"), (69, u "DEFAULT_POLLING_INTERVAL_MS"), (2, u "DEFAULT_WORKSPACE_DIRECTORY"), (0, u "Ljava/lang/String;"), (0, u "DEFAULT_HOOK_TIMEOUT_MS"), (0, u "DEFAULT_MAX_CONCURRENT_AGENTS"), (1, u "DEFAULT_MAX_CONCURRENT_STARTS"), (1, u "DEFAULT_MAX_TURNS"), (1, u "DEFAULT_MAX_RETRY_BACKOFF_MS"), (0, u "DEFAULT_CODEX_COMMAND"), (0, u "DEFAULT_APPROVAL_POLICY"), (0, u "DEFAULT_THREAD_SANDBOX"), (1, u "DEFAULT_READ_TIMEOUT_MS"), (1, u "DEFAULT_TURN_TIMEOUT_MS"), (0, u "DEFAULT_STALL_TIMEOUT_MS"), (0, u "REPLACEMENT_CHARACTER"), (0, u "C"), (0, u "DELETE"), (1, u "KEY_PADDING"), (0, u "MAX_PORT")] 85

def k2c0 : Code := { maxStack := 2, maxLocals := 1, code := prog_51_method_14_code, exceptionTable := #[], attributes := #[] }
def k2m0 : Method := { name := "isPort", desc := "(I)Z", sig := { parameters := [.int], returnType := some .boolean }, accessFlags := 9, code := some k2c0 }
/-- com/example/rota/rota/workflow/ServiceConfig -/
def k2 : Class := { plain "com/example/rota/rota/workflow/ServiceConfig" (some 0) with
  accessFlags := 49
  interfaces := #[]
  cf := some (fileOf pool2 8 #[] #[{ accessFlags := 9, nameIndex := 504, descriptorIndex := 505, attributes := #[] }] 49 2 #[] #[{ accessFlags := 26, nameIndex := 228, descriptorIndex := 229, attributes := #[] }, { accessFlags := 26, nameIndex := 238, descriptorIndex := 229, attributes := #[] }, { accessFlags := 26, nameIndex := 575, descriptorIndex := 28, attributes := #[] }, { accessFlags := 26, nameIndex := 578, descriptorIndex := 579, attributes := #[] }, { accessFlags := 26, nameIndex := 580, descriptorIndex := 28, attributes := #[] }, { accessFlags := 26, nameIndex := 581, descriptorIndex := 28, attributes := #[] }, { accessFlags := 26, nameIndex := 583, descriptorIndex := 28, attributes := #[] }, { accessFlags := 26, nameIndex := 585, descriptorIndex := 28, attributes := #[] }, { accessFlags := 26, nameIndex := 587, descriptorIndex := 28, attributes := #[] }, { accessFlags := 26, nameIndex := 588, descriptorIndex := 579, attributes := #[] }, { accessFlags := 26, nameIndex := 589, descriptorIndex := 579, attributes := #[] }, { accessFlags := 26, nameIndex := 590, descriptorIndex := 579, attributes := #[] }, { accessFlags := 26, nameIndex := 479, descriptorIndex := 32, attributes := #[] }, { accessFlags := 26, nameIndex := 592, descriptorIndex := 28, attributes := #[] }, { accessFlags := 26, nameIndex := 594, descriptorIndex := 28, attributes := #[] }, { accessFlags := 26, nameIndex := 595, descriptorIndex := 28, attributes := #[] }, { accessFlags := 26, nameIndex := 189, descriptorIndex := 190, attributes := #[] }, { accessFlags := 26, nameIndex := 596, descriptorIndex := 597, attributes := #[] }, { accessFlags := 26, nameIndex := 598, descriptorIndex := 597, attributes := #[] }, { accessFlags := 26, nameIndex := 600, descriptorIndex := 579, attributes := #[] }, { accessFlags := 26, nameIndex := 601, descriptorIndex := 28, attributes := #[] }, { accessFlags := 18, nameIndex := 11, descriptorIndex := 12, attributes := #[] }, { accessFlags := 18, nameIndex := 15, descriptorIndex := 16, attributes := #[] }, { accessFlags := 18, nameIndex := 19, descriptorIndex := 20, attributes := #[] }, { accessFlags := 18, nameIndex := 23, descriptorIndex := 24, attributes := #[] }, { accessFlags := 18, nameIndex := 27, descriptorIndex := 28, attributes := #[] }, { accessFlags := 18, nameIndex := 31, descriptorIndex := 32, attributes := #[] }, { accessFlags := 18, nameIndex := 35, descriptorIndex := 28, attributes := #[] }, { accessFlags := 18, nameIndex := 38, descriptorIndex := 28, attributes := #[] }, { accessFlags := 18, nameIndex := 41, descriptorIndex := 16, attributes := #[] }, { accessFlags := 18, nameIndex := 44, descriptorIndex := 45, attributes := #[] }, { accessFlags := 18, nameIndex := 48, descriptorIndex := 49, attributes := #[] }])
  fields := #[{ name := "DEFAULT_ACTIVE_STATES", type := (.object "java/util/List"), accessFlags := 26, slot := 0, constantValue := 0 }, { name := "DEFAULT_TERMINAL_STATES", type := (.object "java/util/List"), accessFlags := 26, slot := 1, constantValue := 0 }, { name := "DEFAULT_POLLING_INTERVAL_MS", type := .int, accessFlags := 26, slot := 2, constantValue := 0 }, { name := "DEFAULT_WORKSPACE_DIRECTORY", type := (.object "java/lang/String"), accessFlags := 26, slot := 3, constantValue := 0 }, { name := "DEFAULT_HOOK_TIMEOUT_MS", type := .int, accessFlags := 26, slot := 4, constantValue := 0 }, { name := "DEFAULT_MAX_CONCURRENT_AGENTS", type := .int, accessFlags := 26, slot := 5, constantValue := 0 }, { name := "DEFAULT_MAX_CONCURRENT_STARTS", type := .int, accessFlags := 26, slot := 6, constantValue := 0 }, { name := "DEFAULT_MAX_TURNS", type := .int, accessFlags := 26, slot := 7, constantValue := 0 }, { name := "DEFAULT_MAX_RETRY_BACKOFF_MS", type := .int, accessFlags := 26, slot := 8, constantValue := 0 }, { name := "DEFAULT_CODEX_COMMAND", type := (.object "java/lang/String"), accessFlags := 26, slot := 9, constantValue := 0 }, { name := "DEFAULT_APPROVAL_POLICY", type := (.object "java/lang/String"), accessFlags := 26, slot := 10, constantValue := 0 }, { name := "DEFAULT_THREAD_SANDBOX", type := (.object "java/lang/String"), accessFlags := 26, slot := 11, constantValue := 0 }, { name := "DEFAULT_TURN_SANDBOX_POLICY", type := (.object "java/util/Map"), accessFlags := 26, slot := 12, constantValue := 0 }, { name := "DEFAULT_READ_TIMEOUT_MS", type := .int, accessFlags := 26, slot := 13, constantValue := 0 }, { name := "DEFAULT_TURN_TIMEOUT_MS", type := .int, accessFlags := 26, slot := 14, constantValue := 0 }, { name := "DEFAULT_STALL_TIMEOUT_MS", type := .int, accessFlags := 26, slot := 15, constantValue := 0 }, { name := "VARIABLE", type := (.object "java/util/regex/Pattern"), accessFlags := 26, slot := 16, constantValue := 0 }, { name := "REPLACEMENT_CHARACTER", type := .char, accessFlags := 26, slot := 17, constantValue := 0 }, { name := "DELETE", type := .char, accessFlags := 26, slot := 18, constantValue := 0 }, { name := "KEY_PADDING", type := (.object "java/lang/String"), accessFlags := 26, slot := 19, constantValue := 0 }, { name := "MAX_PORT", type := .int, accessFlags := 26, slot := 20, constantValue := 0 }, { name := "tracker", type := (.object "com/example/rota/rota/workflow/TrackerSettings"), accessFlags := 18, slot := 0, constantValue := 0 }, { name := "pollingInterval", type := (.object "java/time/Duration"), accessFlags := 18, slot := 1, constantValue := 0 }, { name := "workspaceRoot", type := (.object "java/nio/file/Path"), accessFlags := 18, slot := 2, constantValue := 0 }, { name := "hooks", type := (.object "com/example/rota/rota/workflow/HookSettings"), accessFlags := 18, slot := 3, constantValue := 0 }, { name := "maxConcurrentAgents", type := .int, accessFlags := 18, slot := 4, constantValue := 0 }, { name := "maxConcurrentAgentsByState", type := (.object "java/util/Map"), accessFlags := 18, slot := 5, constantValue := 0 }, { name := "maxConcurrentStarts", type := .int, accessFlags := 18, slot := 6, constantValue := 0 }, { name := "maxTurns", type := .int, accessFlags := 18, slot := 7, constantValue := 0 }, { name := "maxRetryBackoff", type := (.object "java/time/Duration"), accessFlags := 18, slot := 8, constantValue := 0 }, { name := "codex", type := (.object "com/example/rota/rota/workflow/CodexSettings"), accessFlags := 18, slot := 9, constantValue := 0 }, { name := "serverPort", type := (.object "java/util/OptionalInt"), accessFlags := 18, slot := 10, constantValue := 0 }]
  methods := #[k2m0]
  instanceTypes := #[(.object "com/example/rota/rota/workflow/TrackerSettings"), (.object "java/time/Duration"), (.object "java/nio/file/Path"), (.object "com/example/rota/rota/workflow/HookSettings"), .int, (.object "java/util/Map"), .int, .int, (.object "java/time/Duration"), (.object "com/example/rota/rota/workflow/CodexSettings"), (.object "java/util/OptionalInt")]
  staticTypes := #[(.object "java/util/List"), (.object "java/util/List"), .int, (.object "java/lang/String"), .int, .int, .int, .int, .int, (.object "java/lang/String"), (.object "java/lang/String"), (.object "java/lang/String"), (.object "java/util/Map"), .int, .int, .int, (.object "java/util/regex/Pattern"), .char, .char, (.object "java/lang/String"), .int]
  resolved := Array.replicate 687 none
  statics := none }

def pool3 : Array CpInfo := pool [(1, u "java/lang/Cloneable"), (0, .class_ 1), (0, u "java/lang/Object"), (0, .class_ 3)] 3

/-- java/lang/Cloneable -/
def k3 : Class := { plain "java/lang/Cloneable" (some 0) with
  accessFlags := 1537
  interfaces := #[]
  cf := some (fileOf pool3 2 #[] #[] 1537 4 #[] #[])
  fields := #[]
  methods := #[]
  instanceTypes := #[]
  staticTypes := #[]
  resolved := Array.replicate 8 none
  statics := none }

def pool4 : Array CpInfo := pool [(1, u "java/io/Serializable"), (0, .class_ 1), (0, u "java/lang/Object"), (0, .class_ 3)] 3

/-- java/io/Serializable -/
def k4 : Class := { plain "java/io/Serializable" (some 0) with
  accessFlags := 1537
  interfaces := #[]
  cf := some (fileOf pool4 2 #[] #[] 1537 4 #[] #[])
  fields := #[]
  methods := #[]
  instanceTypes := #[]
  staticTypes := #[]
  resolved := Array.replicate 8 none
  statics := none }

/-- the primitive byte -/
def k5 : Class := { plain "byte" none with kind := .primitive 'B', accessFlags := 0x411 }
/-- [B -/
def k6 : Class := { plain "[B" (some 0) with kind := .array 5 .byte, interfaces := #[3, 4], accessFlags := 1041 }

/-- the primitive int -/
def k7 : Class := { plain "int" none with kind := .primitive 'I', accessFlags := 0x411 }
/-- [I -/
def k8 : Class := { plain "[I" (some 0) with kind := .array 7 .int, interfaces := #[3, 4], accessFlags := 1041 }

def heap : Heap := #[]
def classes : Array Class := #[k0, k1, k2, k3, k4, k5, k6, k7, k8]
def interned : List (Array UInt16 × Addr) := []
def slotsUsed : Nat := 0
def theMethod : MethodId := ⟨1, 2⟩
def args0 : Array Value := #[.int 5, .int 3]
def aboutOver (below : List Frame) : State where
  vm := { classes := classes, interned := interned.toArray }
  heap := heap
  slotsUsed := slotsUsed
  threads := #[{ frames := .invoking theMethod args0 :: below }]
def below0 : List Frame := [.native { method := ⟨0, 0⟩, args := #[] }]
def about1 : State := aboutOver below0
def p0 : Program := .bare "" "" ""
def e0 : Env := launch0.env 0 0 0
theorem w_frames : about1.frames = Frame.invoking theMethod args0 :: below0 := rfl
set_option maxRecDepth 65536 in
theorem w_args : argsFit about1.vm theMethod args0 = true := by decide +kernel
set_option maxRecDepth 65536 in
theorem w_heap : heapFits about1 = true := by decide +kernel
set_option maxRecDepth 65536 in
theorem w_runnable : about1.curStatus? = some .runnable := by decide +kernel
set_option maxRecDepth 65536 in
theorem w_alone : about1.alone = true := by decide +kernel
set_option maxRecDepth 65536 in
theorem w_named : about1.methodNamed? x = some theMethod := by decide +kernel
set_option maxRecDepth 65536 in
theorem w_hears : about1.hears theMethod below0 = true := by decide +kernel
set_option maxRecDepth 65536 in
theorem w_ripe : about1.ripe theMethod args0 below0 = true := by decide +kernel
theorem w_running : about1.status = .running := rfl
set_option maxRecDepth 65536 in
theorem w_room : about1.hasRoom e0.platform room_1 = true :=
  launch0.hasRoom_least _ room_1 (by decide +kernel) (by decide +kernel) (by decide +kernel) (by decide +kernel) (by decide +kernel) (by decide +kernel)
theorem allAtoms_all (ts : List Jvm.Cond) (a : Array Jvm.Value) (st : Jvm.State) : (allAtoms ts).before a st = ts.all (fun c => c.before a st) := by
  induction ts with
  | nil => rfl
  | cons c t ih =>
    show (Jvm.Cond.and c (allAtoms t)).before a st = _
    rw [Jvm.Cond.before_and, ih, List.all_cons]
def words1 : List Jvm.Cond := Jvm.Cond.code x code maxLocals ret :: tables_1
/-- a 'code' word, met by the world's own term for the bytes: nothing is compared byte by byte -/
theorem code_word {y : MethodName} {bytes : ByteArray} {mx : Nat} {rt : Option FieldType} {a : Array Value} {s : State} {m : MethodId} {meth : Method} {c : Code} (h1 : s.methodNamed? y = some m) (h2 : s.vm.method? m = some meth) (h3 : meth.code = some c) (h4 : c.code = bytes)
    (h5 : (c.maxLocals == mx && c.exceptionTable.isEmpty && decide (c.maxStack ≤ mostOperands) && decide (meth.sig.returnType = rt) && !meth.locks && decide (parseMethodDescriptor y.desc = some meth.sig)) = true) : (Jvm.Cond.code y bytes mx rt).before a s = true := by
  simp only [Bool.and_eq_true, beq_iff_eq, Bool.not_eq_true', decide_eq_true_eq] at h5
  obtain ⟨⟨⟨⟨⟨g1, g2⟩, g3⟩, g4⟩, g5⟩, g6⟩ := h5
  simp [Cond.before, Cond.holds, Cond.value, h1, h2, h3, h4, g1, g2, g3, g4, g5, g6]
def isCode : Jvm.Cond → Bool
  | .code _ _ _ _ => true
  | _ => false
theorem all_split {L : List Jvm.Cond} {P : Jvm.Cond → Bool} (h1 : L.all (fun c => isCode c || P c) = true) (h2 : ∀ c ∈ L.filter isCode, P c = true) : L.all P = true := by
  refine List.all_eq_true.mpr fun c hc => ?_
  have h := List.all_eq_true.mp h1 c hc
  rcases Bool.eq_false_or_eq_true (isCode c) with hi | hi
  · exact h2 c (List.mem_filter.mpr ⟨hc, hi⟩)
  · simpa [hi] using h
set_option maxRecDepth 65536 in
theorem w_c0 : (Jvm.Cond.code x code maxLocals ret).before args0 about1 = true := code_word (m := ⟨1, 2⟩) (meth := k1m2) (c := k1c2) (by decide +kernel) rfl rfl rfl (by decide +kernel)
set_option maxRecDepth 65536 in
theorem w_c1 : (Jvm.Cond.code ({ cls := "com/example/rota/rota/workflow/ServiceConfig", name := "isPort", desc := "(I)Z" } : Jvm.MethodName) prog_51_method_14_code (1 : Nat) (Option.some Jvm.ClassFile.FieldType.boolean)).before args0 about1 = true := code_word (m := ⟨2, 0⟩) (meth := k2m0) (c := k2c0) (by decide +kernel) rfl rfl rfl (by decide +kernel)
set_option maxRecDepth 65536 in
theorem w_c2 : (Jvm.Cond.code ({ cls := "com/example/rota/rota/workflow/ServiceConfigIsPortPinLaw", name := "fitsSixteenBits", desc := "(I)Z" } : Jvm.MethodName) method_2_code (1 : Nat) (Option.some Jvm.ClassFile.FieldType.boolean)).before args0 about1 = true := code_word (m := ⟨1, 1⟩) (meth := k1m1) (c := k1c1) (by decide +kernel) rfl rfl rfl (by decide +kernel)
def codes1 : List Jvm.Cond := [Jvm.Cond.code x code maxLocals ret, Jvm.Cond.code ({ cls := "com/example/rota/rota/workflow/ServiceConfig", name := "isPort", desc := "(I)Z" } : Jvm.MethodName) prog_51_method_14_code (1 : Nat) (Option.some Jvm.ClassFile.FieldType.boolean), Jvm.Cond.code ({ cls := "com/example/rota/rota/workflow/ServiceConfigIsPortPinLaw", name := "fitsSixteenBits", desc := "(I)Z" } : Jvm.MethodName) method_2_code (1 : Nat) (Option.some Jvm.ClassFile.FieldType.boolean)]
set_option maxRecDepth 65536 in
theorem codes_eq : words1.filter isCode = codes1 := rfl
theorem w_codes : ∀ c ∈ words1.filter isCode, c.before args0 about1 = true := by
  rw [codes_eq]
  intro c hc
  simp only [codes1, List.mem_cons, List.not_mem_nil, or_false] at hc
  rcases hc with rfl | rfl | rfl
  · exact w_c0
  · exact w_c1
  · exact w_c2
set_option maxRecDepth 65536 in
theorem w_t1 : words1.all (fun c => isCode c || c.before args0 about1) = true := by decide +kernel
theorem w_tables : (allAtoms (Jvm.Cond.code x code maxLocals ret :: tables_1)).before args0 about1 = true := by
  rw [allAtoms_all]
  show words1.all (fun c => c.before args0 about1) = true
  refine all_split ?_ w_codes
  rw [w_t1]
set_option maxRecDepth 65536 in
theorem w_case : (Jvm.Cond.and given_1 narrow_1).before args0 about1 = true := by decide +kernel
theorem w_applies : (headSpec (Jvm.Cond.code x code maxLocals ret :: tables_1) room_1).applies x e0.platform about1 = true :=
  (Spec.applies_iff w_frames).mpr ⟨w_running, w_runnable, w_alone, w_named, w_hears, w_ripe, w_room, w_tables⟩
theorem atStart : AtStart classFile x code maxLocals ret World_1 tables_1 room_1 Calls_1 rest_1 Pre_1 launch0 p0 e0 about1 theMethod args0 below0 :=
  ⟨lists_1, trivial, launch0.admits_env _ _ _, launch0.least_env, fairChoices_fair.cas, fairChoices_fair.clock, w_frames, w_args, w_heap, w_applies, trivial, trivial, w_case⟩
end start1
theorem witness_1 : WitnessClaimed_1 := ⟨start1.p0, start1.e0, start1.about1, start1.theMethod, start1.args0, start1.below0, start1.atStart⟩
end Jvm.Pilot.@@N@@
