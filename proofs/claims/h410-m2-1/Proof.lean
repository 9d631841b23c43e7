import JvmDerived
import JvmDerived.Pilot.@@N@@Statement
import JvmDerived.Pilot.@@N@@Code
set_option linter.unusedVariables false
set_option linter.unusedSimpArgs false
namespace Jvm.RoadKit
open Sem ClassFile Op Lib Jvm.Stand Jvm.Free Jvm.LawKit
section New
variable {p : Program} {l : Launch} {e : Env} {R : Room} {s : State} {m : MethodId} {args : Array Value} {below : List Frame} {meth : Method} {c : Code} {T : State} {locs : List Loc} {cells slots : Nat}
theorem retI (X : Stand p l e R s m args below meth c T locs cells slots) (hx : p.tables.exec = Jvm.exec) {pc : Nat} {Ls : Array Slot} {z : Int32} {rest : List Value} (hret : meth.sig.returnType = some .int) (hd : decode c.code pc = .ok (.ireturn, 1)) {fs : List Frame}
    (hl : ∀ (f : JFrame) (acts : List Action), f.method = m → f.locked = none → f.entered = [] → (doReturn e (T.setTop f) acts (some (.int z))).1 = T.setFrames fs) : Steps p.tables e below (T.setTop (mkF m pc Ls (.int z :: rest))) (T.setFrames fs) :=
  retOut X hx hret rfl (Or.inl ⟨rfl, Or.inl rfl, _, rfl⟩) hd hl
end New
end Jvm.RoadKit
namespace Jvm.Pilot.@@N@@
open Jvm Jvm.ClassFile Sem Op Lib Jvm.Free Jvm.Stand Jvm.LawKit Jvm.RoadKit Bundle Jvm.Pilot.@@N@@.Jvm.D
def own_get (vs : List Int32) (j : Int32) : Int32 := vs.getD j.toNatClampNeg 0
theorem own_getD (vs : List Int32) (j : Int32) : (vs.map Value.int).getD j.toNatClampNeg (.int 0) = .int (own_get vs j) := by
  unfold own_get
  simp only [List.getD_eq_getElem?_getD, List.getElem?_map]
  cases vs[j.toNatClampNeg]? <;> rfl
def w1_r1 (p0 : Int32) : Int32 := (if p0 = (32 : Int32) then (1 : Int32) else (if p0 = (9 : Int32) then (1 : Int32) else (0 : Int32)))
def w2_r1 (p0 : Int32) : Int32 := (if p0 = (32 : Int32) then (1 : Int32) else (if p0 = (9 : Int32) then (1 : Int32) else (0 : Int32)))
def w0_1 (p1 : Int32) : Int32 := (own_get [(9 : Int32), (32 : Int32), (8 : Int32), (10 : Int32), (31 : Int32), (33 : Int32), (65545 : Int32), (-2147483616 : Int32)] (p1 &&& (7 : Int32)))
def w0_m2 (p1 : Int32) : Int32 := (if (w1_r1 (w0_1 p1)) = (w2_r1 (w0_1 p1)) then (1 : Int32) else (0 : Int32))
def w0_m3 (p0 : Int32) : Int32 := (if (w1_r1 p0) = (w2_r1 p0) then (1 : Int32) else (0 : Int32))
def w0_r4 (p0 : Int32) (p1 : Int32) : Int32 := (if (w0_m2 p1) = (0 : Int32) then (0 : Int32) else (if (w0_m3 p0) = (0 : Int32) then (0 : Int32) else (1 : Int32)))
theorem own_in (p1 : Int32) : ¬ (p1 &&& (7 : Int32)) < 0 ∧ (p1 &&& (7 : Int32)) < (8 : Int32) := by
  have h := c_mask p1 7 3 (by decide) (by decide)
  have l0 : (0 : Int32).toInt = 0 := rfl
  have l8 : (8 : Int32).toInt = 8 := rfl
  rw [Int32.lt_iff_toInt_lt, Int32.lt_iff_toInt_lt, l0, l8]
  omega
theorem own_12 (x : Int32) : w1_r1 x = w2_r1 x := by
  unfold w1_r1 w2_r1
  rfl
theorem plain_law (p0 p1 : Int32) : w0_r4 p0 p1 = 1 := by
  have m2 : w0_m2 p1 = 1 := by unfold w0_m2; exact if_pos (own_12 _)
  have m3 : w0_m3 p0 = 1 := by unfold w0_m3; exact if_pos (own_12 _)
  unfold w0_r4
  rw [m2, m3]
  decide

theorem d1_0 : decode prog_45_method_12_code 0 = .ok (.iload_n 0, 1) := by decide +kernel
theorem d1_1 : decode prog_45_method_12_code 1 = .ok (.bipush 32, 2) := by decide +kernel
theorem d1_3 : decode prog_45_method_12_code 3 = .ok (.if_icmp .eq 9, 3) := by decide +kernel
theorem d1_6 : decode prog_45_method_12_code 6 = .ok (.iload_n 0, 1) := by decide +kernel
theorem d1_7 : decode prog_45_method_12_code 7 = .ok (.bipush 9, 2) := by decide +kernel
theorem d1_9 : decode prog_45_method_12_code 9 = .ok (.if_icmp .ne 7, 3) := by decide +kernel
theorem d1_12 : decode prog_45_method_12_code 12 = .ok (.iconst 1, 1) := by decide +kernel
theorem d1_13 : decode prog_45_method_12_code 13 = .ok (.goto 4, 3) := by decide +kernel
theorem d1_16 : decode prog_45_method_12_code 16 = .ok (.iconst 0, 1) := by decide +kernel
theorem d1_17 : decode prog_45_method_12_code 17 = .ok (.ireturn, 1) := by decide +kernel
theorem pn1 : plainName "biaxial/Statement" = true := by first | (simp [plainName, overriddenIn]; done) | decide +kernel
theorem ef1 (m : MethodId) (p0 : Int32) : entryFrame m #[(.int p0)] 1 = mkF m 0 #[.val (.int p0)] [] := by first | (simp [entryFrame, mkF, argsToLocals, Value.category]; done) | rfl
def Q1 (Z : State) (p0 : Int32) (h0 : Heap) (n0 : Nat) (v : Option Value) (h : Heap) (L : List Loc) : Prop := v = some (.int (w1_r1 p0)) ∧ Fr n0 L ∧ h = h0
set_option maxRecDepth 65536 in
set_option maxHeartbeats 40000000 in
theorem rm1 (l : Launch) (Z : State) (a0 : Array Value) (hw : ∀ d ∈ tables_1, d.before a0 Z = true) (ws : List Jvm.Cond) (p0 : Int32) (h0 : Heap) (n0 : Nat) (Z0 : n0 ≤ h0.size) :
    MetFree l (⟨"biaxial/Statement", "isBlank", "(I)Z"⟩ : MethodName) (head1 (Jvm.Cond.code (⟨"biaxial/Statement", "isBlank", "(I)Z"⟩ : MethodName) prog_45_method_12_code 1 (some .boolean) :: ws) ({ frames := 0, cells := 0, slots := 0, locals := 0 } : Room)) (fun a U => a = #[(.int p0)] ∧ Z.Warmed39 U.vm ∧ U.heap = h0) (fun _ _ _ _ _ => True) (fun _ U o U' => ∃ v L, o = .returned v ∧ Q1 Z p0 h0 n0 v U'.heap L ∧ FrameEnd U o U' L ({ frames := 0, cells := 0, slots := 0, locals := 0 } : Room).cells ({ frames := 0, cells := 0, slots := 0, locals := 0 } : Room).slots) := by
  refine MetFree.of_bodySF (plainFor_of_name pn1) hisR ?_
  intro p e s m args below meth c s₁ Bd hml0 hP hK
  obtain ⟨rfl, hZ, hh⟩ := hP
  have hx := Bd.exec
  have hby := Bd.bytes
  have hml : c.maxLocals = 1 := hml0
  have hown : s.vm.findClass "biaxial/Statement" = some m.cls := findClass_of_methodNamed Bd.named
  have hnm := (name_of_methodNamed Bd.named Bd.method).1
  have X0 : Stand p l e ({ frames := 0, cells := 0, slots := 0, locals := 0 } : Room) s m #[(.int p0)] below meth c s₁ [] 0 0 := Stand.of_body Bd
  have e0 : s₁.heap = h0 := by rw [← hh, Bd.state]; rfl
  have N0 := Fr.nil n0
  obtain ⟨S0, hS0⟩ : ∃ S0, S0 = s₁.setTop (entryFrame m #[(.int p0)] 1) := ⟨_, rfl⟩
  have pre0 : ∀ t, Steps p.tables e below (s₁.setTop (mkF m 0 #[.val (.int p0)] [])) t → Steps p.tables e below S0 t := fun t k => by rw [hS0]; exact castTop (ef1 m p0) k
  have K1 : ∀ t, Steps p.tables e below (s₁.setTop (mkF m 3 #[.val (.int p0)] [(.int (32 : Int32)), (.int p0)])) t → Steps p.tables e below S0 t := fun t k => pre0 t (by
    refine XS.iloadN X0.here hx rfl (hb hby d1_0) rfl ?_
    show Steps p.tables e below (s₁.setTop (mkF m 1 #[.val (.int p0)] [(.int p0)])) _
    refine XS.bipush X0.here hx rfl (hb hby d1_1) ?_
    show Steps p.tables e below (s₁.setTop (mkF m 3 #[.val (.int p0)] [(.int (32 : Int32)), (.int p0)])) _
    exact k)
  by_cases hc3_0 : p0 = (32 : Int32)
  · -- yes
    have K2 : ∀ t, Steps p.tables e below (s₁.setTop (mkF m 17 #[.val (.int p0)] [(.int (1 : Int32))])) t → Steps p.tables e below S0 t := fun t k => K1 t (by
      refine XS.icmpYes X0.here hx rfl (pc0 := 3) (pc' := 12) rfl (hb hby d1_3) rfl (XT.ii_eq_t hc3_0) (by decide) (by decide) ?_
      show Steps p.tables e below (s₁.setTop (mkF m 12 #[.val (.int p0)] [])) _
      refine XS.iconst X0.here hx rfl (hb hby d1_12) ?_
      show Steps p.tables e below (s₁.setTop (mkF m 13 #[.val (.int p0)] [(.int (1 : Int32))])) _
      refine XS.goto X0.here hx rfl (pc0 := 13) (pc' := 17) rfl (hb hby d1_13) (by decide) (by decide) ?_
      show Steps p.tables e below (s₁.setTop (mkF m 17 #[.val (.int p0)] [(.int (1 : Int32))])) _
      exact k)
    obtain ⟨fs, hr, hrun, hended, hW, hsame⟩ := X0.leave (v := some (.int (1 : Int32))) (fun h => by rw [Bd.returns] at h; cases h)
    refine ⟨_, _, ?_, hrun, hended, _, _, rfl, ?_, ⟨_, rfl⟩, hW, hsame.mono (by decide) (by decide)⟩
    · rw [← hS0]; exact K2 _ (retN X0 hx (t := .boolean) Bd.returns (by simp) (hb hby d1_17) hr)
    · show Q1 Z p0 h0 n0 _ s₁.heap _
      rw [e0]
      have qr : (1 : Int32) = (w1_r1 p0) := by unfold w1_r1; rw [if_pos hc3_0]
      exact ⟨congrArg (fun z => some (Value.int z)) qr, N0, rfl⟩
  · -- no
    have K3 : ∀ t, Steps p.tables e below (s₁.setTop (mkF m 9 #[.val (.int p0)] [(.int (9 : Int32)), (.int p0)])) t → Steps p.tables e below S0 t := fun t k => K1 t (by
      refine XS.icmpNo X0.here hx rfl (hb hby d1_3) rfl (XT.ii_eq_f hc3_0) ?_
      show Steps p.tables e below (s₁.setTop (mkF m 6 #[.val (.int p0)] [])) _
      refine XS.iloadN X0.here hx rfl (hb hby d1_6) rfl ?_
      show Steps p.tables e below (s₁.setTop (mkF m 7 #[.val (.int p0)] [(.int p0)])) _
      refine XS.bipush X0.here hx rfl (hb hby d1_7) ?_
      show Steps p.tables e below (s₁.setTop (mkF m 9 #[.val (.int p0)] [(.int (9 : Int32)), (.int p0)])) _
      exact k)
    by_cases hc9_1 : p0 = (9 : Int32)
    · -- yes
      have K4 : ∀ t, Steps p.tables e below (s₁.setTop (mkF m 17 #[.val (.int p0)] [(.int (1 : Int32))])) t → Steps p.tables e below S0 t := fun t k => K3 t (by
        refine XS.icmpNo X0.here hx rfl (hb hby d1_9) rfl (XT.ii_ne_f hc9_1) ?_
        show Steps p.tables e below (s₁.setTop (mkF m 12 #[.val (.int p0)] [])) _
        refine XS.iconst X0.here hx rfl (hb hby d1_12) ?_
        show Steps p.tables e below (s₁.setTop (mkF m 13 #[.val (.int p0)] [(.int (1 : Int32))])) _
        refine XS.goto X0.here hx rfl (pc0 := 13) (pc' := 17) rfl (hb hby d1_13) (by decide) (by decide) ?_
        show Steps p.tables e below (s₁.setTop (mkF m 17 #[.val (.int p0)] [(.int (1 : Int32))])) _
        exact k)
      obtain ⟨fs, hr, hrun, hended, hW, hsame⟩ := X0.leave (v := some (.int (1 : Int32))) (fun h => by rw [Bd.returns] at h; cases h)
      refine ⟨_, _, ?_, hrun, hended, _, _, rfl, ?_, ⟨_, rfl⟩, hW, hsame.mono (by decide) (by decide)⟩
      · rw [← hS0]; exact K4 _ (retN X0 hx (t := .boolean) Bd.returns (by simp) (hb hby d1_17) hr)
      · show Q1 Z p0 h0 n0 _ s₁.heap _
        rw [e0]
        have qr : (1 : Int32) = (w1_r1 p0) := by unfold w1_r1; rw [if_neg hc3_0, if_pos hc9_1]
        exact ⟨congrArg (fun z => some (Value.int z)) qr, N0, rfl⟩
    · -- no
      have K5 : ∀ t, Steps p.tables e below (s₁.setTop (mkF m 17 #[.val (.int p0)] [(.int (0 : Int32))])) t → Steps p.tables e below S0 t := fun t k => K3 t (by
        refine XS.icmpYes X0.here hx rfl (pc0 := 9) (pc' := 16) rfl (hb hby d1_9) rfl (XT.ii_ne_t hc9_1) (by decide) (by decide) ?_
        show Steps p.tables e below (s₁.setTop (mkF m 16 #[.val (.int p0)] [])) _
        refine XS.iconst X0.here hx rfl (hb hby d1_16) ?_
        show Steps p.tables e below (s₁.setTop (mkF m 17 #[.val (.int p0)] [(.int (0 : Int32))])) _
        exact k)
      obtain ⟨fs, hr, hrun, hended, hW, hsame⟩ := X0.leave (v := some (.int (0 : Int32))) (fun h => by rw [Bd.returns] at h; cases h)
      refine ⟨_, _, ?_, hrun, hended, _, _, rfl, ?_, ⟨_, rfl⟩, hW, hsame.mono (by decide) (by decide)⟩
      · rw [← hS0]; exact K5 _ (retN X0 hx (t := .boolean) Bd.returns (by simp) (hb hby d1_17) hr)
      · show Q1 Z p0 h0 n0 _ s₁.heap _
        rw [e0]
        have qr : (0 : Int32) = (w1_r1 p0) := by unfold w1_r1; rw [if_neg hc3_0, if_neg hc9_1]
        exact ⟨congrArg (fun z => some (Value.int z)) qr, N0, rfl⟩
theorem d2_0 : decode method_2_code 0 = .ok (.iload_n 0, 1) := by decide +kernel
theorem d2_1 : decode method_2_code 1 = .ok (.bipush 32, 2) := by decide +kernel
theorem d2_3 : decode method_2_code 3 = .ok (.if_icmp .ne 5, 3) := by decide +kernel
theorem d2_6 : decode method_2_code 6 = .ok (.iconst 1, 1) := by decide +kernel
theorem d2_7 : decode method_2_code 7 = .ok (.ireturn, 1) := by decide +kernel
theorem d2_8 : decode method_2_code 8 = .ok (.iload_n 0, 1) := by decide +kernel
theorem d2_9 : decode method_2_code 9 = .ok (.bipush 9, 2) := by decide +kernel
theorem d2_11 : decode method_2_code 11 = .ok (.if_icmp .ne 5, 3) := by decide +kernel
theorem d2_14 : decode method_2_code 14 = .ok (.iconst 1, 1) := by decide +kernel
theorem d2_15 : decode method_2_code 15 = .ok (.ireturn, 1) := by decide +kernel
theorem d2_16 : decode method_2_code 16 = .ok (.iconst 0, 1) := by decide +kernel
theorem d2_17 : decode method_2_code 17 = .ok (.ireturn, 1) := by decide +kernel
theorem pn2 : plainName "biaxial/StatementIsBlankPinLaw" = true := by first | (simp [plainName, overriddenIn]; done) | decide +kernel
theorem ef2 (m : MethodId) (p0 : Int32) : entryFrame m #[(.int p0)] 1 = mkF m 0 #[.val (.int p0)] [] := by first | (simp [entryFrame, mkF, argsToLocals, Value.category]; done) | rfl
def Q2 (Z : State) (p0 : Int32) (h0 : Heap) (n0 : Nat) (v : Option Value) (h : Heap) (L : List Loc) : Prop := v = some (.int (w2_r1 p0)) ∧ Fr n0 L ∧ h = h0
set_option maxRecDepth 65536 in
set_option maxHeartbeats 40000000 in
theorem rm2 (l : Launch) (Z : State) (a0 : Array Value) (hw : ∀ d ∈ tables_1, d.before a0 Z = true) (ws : List Jvm.Cond) (p0 : Int32) (h0 : Heap) (n0 : Nat) (Z0 : n0 ≤ h0.size) :
    MetFree l (⟨"biaxial/StatementIsBlankPinLaw", "expected", "(I)Z"⟩ : MethodName) (head1 (Jvm.Cond.code (⟨"biaxial/StatementIsBlankPinLaw", "expected", "(I)Z"⟩ : MethodName) method_2_code 1 (some .boolean) :: ws) ({ frames := 0, cells := 0, slots := 0, locals := 0 } : Room)) (fun a U => a = #[(.int p0)] ∧ Z.Warmed39 U.vm ∧ U.heap = h0) (fun _ _ _ _ _ => True) (fun _ U o U' => ∃ v L, o = .returned v ∧ Q2 Z p0 h0 n0 v U'.heap L ∧ FrameEnd U o U' L ({ frames := 0, cells := 0, slots := 0, locals := 0 } : Room).cells ({ frames := 0, cells := 0, slots := 0, locals := 0 } : Room).slots) := by
  refine MetFree.of_bodySF (plainFor_of_name pn2) hisR ?_
  intro p e s m args below meth c s₁ Bd hml0 hP hK
  obtain ⟨rfl, hZ, hh⟩ := hP
  have hx := Bd.exec
  have hby := Bd.bytes
  have hml : c.maxLocals = 1 := hml0
  have hown : s.vm.findClass "biaxial/StatementIsBlankPinLaw" = some m.cls := findClass_of_methodNamed Bd.named
  have hnm := (name_of_methodNamed Bd.named Bd.method).1
  have X0 : Stand p l e ({ frames := 0, cells := 0, slots := 0, locals := 0 } : Room) s m #[(.int p0)] below meth c s₁ [] 0 0 := Stand.of_body Bd
  have e0 : s₁.heap = h0 := by rw [← hh, Bd.state]; rfl
  have N0 := Fr.nil n0
  obtain ⟨S0, hS0⟩ : ∃ S0, S0 = s₁.setTop (entryFrame m #[(.int p0)] 1) := ⟨_, rfl⟩
  have pre0 : ∀ t, Steps p.tables e below (s₁.setTop (mkF m 0 #[.val (.int p0)] [])) t → Steps p.tables e below S0 t := fun t k => by rw [hS0]; exact castTop (ef2 m p0) k
  have K1 : ∀ t, Steps p.tables e below (s₁.setTop (mkF m 3 #[.val (.int p0)] [(.int (32 : Int32)), (.int p0)])) t → Steps p.tables e below S0 t := fun t k => pre0 t (by
    refine XS.iloadN X0.here hx rfl (hb hby d2_0) rfl ?_
    show Steps p.tables e below (s₁.setTop (mkF m 1 #[.val (.int p0)] [(.int p0)])) _
    refine XS.bipush X0.here hx rfl (hb hby d2_1) ?_
    show Steps p.tables e below (s₁.setTop (mkF m 3 #[.val (.int p0)] [(.int (32 : Int32)), (.int p0)])) _
    exact k)
  by_cases hc3_0 : p0 = (32 : Int32)
  · -- yes
    have K2 : ∀ t, Steps p.tables e below (s₁.setTop (mkF m 7 #[.val (.int p0)] [(.int (1 : Int32))])) t → Steps p.tables e below S0 t := fun t k => K1 t (by
      refine XS.icmpNo X0.here hx rfl (hb hby d2_3) rfl (XT.ii_ne_f hc3_0) ?_
      show Steps p.tables e below (s₁.setTop (mkF m 6 #[.val (.int p0)] [])) _
      refine XS.iconst X0.here hx rfl (hb hby d2_6) ?_
      show Steps p.tables e below (s₁.setTop (mkF m 7 #[.val (.int p0)] [(.int (1 : Int32))])) _
      exact k)
    obtain ⟨fs, hr, hrun, hended, hW, hsame⟩ := X0.leave (v := some (.int (1 : Int32))) (fun h => by rw [Bd.returns] at h; cases h)
    refine ⟨_, _, ?_, hrun, hended, _, _, rfl, ?_, ⟨_, rfl⟩, hW, hsame.mono (by decide) (by decide)⟩
    · rw [← hS0]; exact K2 _ (retN X0 hx (t := .boolean) Bd.returns (by simp) (hb hby d2_7) hr)
    · show Q2 Z p0 h0 n0 _ s₁.heap _
      rw [e0]
      have qr : (1 : Int32) = (w2_r1 p0) := by unfold w2_r1; rw [if_pos hc3_0]
      exact ⟨congrArg (fun z => some (Value.int z)) qr, N0, rfl⟩
  · -- no
    have K3 : ∀ t, Steps p.tables e below (s₁.setTop (mkF m 11 #[.val (.int p0)] [(.int (9 : Int32)), (.int p0)])) t → Steps p.tables e below S0 t := fun t k => K1 t (by
      refine XS.icmpYes X0.here hx rfl (pc0 := 3) (pc' := 8) rfl (hb hby d2_3) rfl (XT.ii_ne_t hc3_0) (by decide) (by decide) ?_
      show Steps p.tables e below (s₁.setTop (mkF m 8 #[.val (.int p0)] [])) _
      refine XS.iloadN X0.here hx rfl (hb hby d2_8) rfl ?_
      show Steps p.tables e below (s₁.setTop (mkF m 9 #[.val (.int p0)] [(.int p0)])) _
      refine XS.bipush X0.here hx rfl (hb hby d2_9) ?_
      show Steps p.tables e below (s₁.setTop (mkF m 11 #[.val (.int p0)] [(.int (9 : Int32)), (.int p0)])) _
      exact k)
    by_cases hc11_1 : p0 = (9 : Int32)
    · -- yes
      have K4 : ∀ t, Steps p.tables e below (s₁.setTop (mkF m 15 #[.val (.int p0)] [(.int (1 : Int32))])) t → Steps p.tables e below S0 t := fun t k => K3 t (by
        refine XS.icmpNo X0.here hx rfl (hb hby d2_11) rfl (XT.ii_ne_f hc11_1) ?_
        show Steps p.tables e below (s₁.setTop (mkF m 14 #[.val (.int p0)] [])) _
        refine XS.iconst X0.here hx rfl (hb hby d2_14) ?_
        show Steps p.tables e below (s₁.setTop (mkF m 15 #[.val (.int p0)] [(.int (1 : Int32))])) _
        exact k)
      obtain ⟨fs, hr, hrun, hended, hW, hsame⟩ := X0.leave (v := some (.int (1 : Int32))) (fun h => by rw [Bd.returns] at h; cases h)
      refine ⟨_, _, ?_, hrun, hended, _, _, rfl, ?_, ⟨_, rfl⟩, hW, hsame.mono (by decide) (by decide)⟩
      · rw [← hS0]; exact K4 _ (retN X0 hx (t := .boolean) Bd.returns (by simp) (hb hby d2_15) hr)
      · show Q2 Z p0 h0 n0 _ s₁.heap _
        rw [e0]
        have qr : (1 : Int32) = (w2_r1 p0) := by unfold w2_r1; rw [if_neg hc3_0, if_pos hc11_1]
        exact ⟨congrArg (fun z => some (Value.int z)) qr, N0, rfl⟩
    · -- no
      have K5 : ∀ t, Steps p.tables e below (s₁.setTop (mkF m 17 #[.val (.int p0)] [(.int (0 : Int32))])) t → Steps p.tables e below S0 t := fun t k => K3 t (by
        refine XS.icmpYes X0.here hx rfl (pc0 := 11) (pc' := 16) rfl (hb hby d2_11) rfl (XT.ii_ne_t hc11_1) (by decide) (by decide) ?_
        show Steps p.tables e below (s₁.setTop (mkF m 16 #[.val (.int p0)] [])) _
        refine XS.iconst X0.here hx rfl (hb hby d2_16) ?_
        show Steps p.tables e below (s₁.setTop (mkF m 17 #[.val (.int p0)] [(.int (0 : Int32))])) _
        exact k)
      obtain ⟨fs, hr, hrun, hended, hW, hsame⟩ := X0.leave (v := some (.int (0 : Int32))) (fun h => by rw [Bd.returns] at h; cases h)
      refine ⟨_, _, ?_, hrun, hended, _, _, rfl, ?_, ⟨_, rfl⟩, hW, hsame.mono (by decide) (by decide)⟩
      · rw [← hS0]; exact K5 _ (retN X0 hx (t := .boolean) Bd.returns (by simp) (hb hby d2_17) hr)
      · show Q2 Z p0 h0 n0 _ s₁.heap _
        rw [e0]
        have qr : (0 : Int32) = (w2_r1 p0) := by unfold w2_r1; rw [if_neg hc3_0, if_neg hc11_1]
        exact ⟨congrArg (fun z => some (Value.int z)) qr, N0, rfl⟩
theorem pn0 : plainName "biaxial/StatementIsBlankPinLaw" = true := by first | (simp [plainName, overriddenIn]; done) | decide +kernel
theorem pd0_0 : parseMethodDescriptor "(I)Z" = some ⟨[.int], some .boolean⟩ := by decide +kernel
theorem ef0 (m : MethodId) (p0 : Int32) (p1 : Int32) : entryFrame m #[(.int p0), (.int p1)] maxLocals = mkF m 0 #[.val (.int p0), .val (.int p1), .unset, .unset, .unset, .unset] [] := by first | (simp [entryFrame, mkF, argsToLocals, Value.category, maxLocals]; done) | rfl
def Q0 (Z : State) (p0 : Int32) (p1 : Int32) (h0 : Heap) (n0 : Nat) (v : Option Value) (h : Heap) (L : List Loc) : Prop := v = some (.int (w0_r4 p0 p1)) ∧ Fr n0 L
set_option maxRecDepth 65536 in
set_option maxHeartbeats 40000000 in
theorem rm0 (l : Launch) (Z : State) (a0 : Array Value) (hw : ∀ d ∈ tables_1, d.before a0 Z = true) (ws : List Jvm.Cond) (p0 : Int32) (p1 : Int32) (h0 : Heap) (n0 : Nat) (Z0 : n0 ≤ h0.size) :
    MetFree l x (head1 (Jvm.Cond.code x code maxLocals ret :: ws) room_1) (fun a U => a = #[(.int p0), (.int p1)] ∧ Z.Warmed39 U.vm ∧ U.heap = h0) (fun _ _ _ _ _ => True) (fun _ U o U' => ∃ v L, o = .returned v ∧ Q0 Z p0 p1 h0 n0 v U'.heap L ∧ FrameEnd U o U' L 1 8) := by
  refine MetFree.of_bodySF (plainFor_of_name pn0) hisR ?_
  intro p e s m args below meth c s₁ Bd hml0 hP hK
  obtain ⟨rfl, hZ, hh⟩ := hP
  have hx := Bd.exec
  have hby := Bd.bytes
  have hml : c.maxLocals = 6 := hml0
  have hown : s.vm.findClass "biaxial/StatementIsBlankPinLaw" = some m.cls := findClass_of_methodNamed Bd.named
  have hnm := (name_of_methodNamed Bd.named Bd.method).1
  have X0 : Stand p l e room_1 s m #[(.int p0), (.int p1)] below meth c s₁ [] 0 0 := Stand.of_body Bd
  have e0 : s₁.heap = h0 := by rw [← hh, Bd.state]; rfl
  have N0 := Fr.nil n0
  obtain ⟨S0, hS0⟩ : ∃ S0, S0 = s₁.setTop (entryFrame m #[(.int p0), (.int p1)] maxLocals) := ⟨_, rfl⟩
  have pre0 : ∀ t, Steps p.tables e below (s₁.setTop (mkF m 0 #[.val (.int p0), .val (.int p1), .unset, .unset, .unset, .unset] [])) t → Steps p.tables e below S0 t := fun t k => by rw [hS0]; exact castTop (ef0 m p0 p1) k
  have K1 : ∀ t, Steps p.tables e below (s₁.setTop (mkF m 2 #[.val (.int p0), .val (.int p1), .unset, .unset, .unset, .unset] [(.int (8 : Int32))])) t → Steps p.tables e below S0 t := fun t k => pre0 t (by
    refine XS.bipush X0.here hx rfl (hb hby at_0) ?_
    show Steps p.tables e below (s₁.setTop (mkF m 2 #[.val (.int p0), .val (.int p1), .unset, .unset, .unset, .unset] [(.int (8 : Int32))])) _
    exact k)
  obtain ⟨T2, h2, k2, X2, e2, E2, A2, st2⟩ := newP X0 hx hZ (hw _ (List.mem_of_getElem? (i := 0) rfl)) e0 (g := (mkF m 2 #[.val (.int p0), .val (.int p1), .unset, .unset, .unset, .unset] [(.int (8 : Int32))])) rfl (hb hby at_2) rfl (by decide) (cap := 8) (by decide) (by decide) (by decide) (by decide)
  obtain ⟨b2, g2⟩ : ∃ z, z = h0.size := ⟨_, rfl⟩
  rw [← g2] at A2 st2
  have g_b2 : n0 ≤ b2 := Nat.le_trans Z0 (Nat.le_of_eq g2.symm)
  have Zs2 : n0 ≤ h2.size := Nat.le_trans Z0 E2.1
  have V_b2 : Arv Z h2 b2 k2 .int (8 : Int32) [(.int (0 : Int32)), (.int (0 : Int32)), (.int (0 : Int32)), (.int (0 : Int32)), (.int (0 : Int32)), (.int (0 : Int32)), (.int (0 : Int32)), (.int (0 : Int32))] (.int (0 : Int32)) := (Arv.new A2 (by decide)).pad (pad_rep [] (.int (0 : Int32)) 8)
  have K2 : ∀ t, Steps p.tables e below (T2.setTop (mkF m 4 #[.val (.int p0), .val (.int p1), .unset, .unset, .unset, .unset] [(.ref b2)])) t → Steps p.tables e below S0 t := fun t k => K1 t (st2 t k)
  have K3 : ∀ t, Steps p.tables e below (T2.setTop (mkF m 8 #[.val (.int p0), .val (.int p1), .unset, .unset, .unset, .unset] [(.int (9 : Int32)), (.int (0 : Int32)), (.ref b2), (.ref b2)])) t → Steps p.tables e below S0 t := fun t k => K2 t (by
    refine XS.dup X2.here hx rfl (hb hby at_4) rfl rfl ?_
    show Steps p.tables e below (T2.setTop (mkF m 5 #[.val (.int p0), .val (.int p1), .unset, .unset, .unset, .unset] [(.ref b2), (.ref b2)])) _
    refine XS.iconst X2.here hx rfl (hb hby at_5) ?_
    show Steps p.tables e below (T2.setTop (mkF m 6 #[.val (.int p0), .val (.int p1), .unset, .unset, .unset, .unset] [(.int (0 : Int32)), (.ref b2), (.ref b2)])) _
    refine XS.bipush X2.here hx rfl (hb hby at_6) ?_
    show Steps p.tables e below (T2.setTop (mkF m 8 #[.val (.int p0), .val (.int p1), .unset, .unset, .unset, .unset] [(.int (9 : Int32)), (.int (0 : Int32)), (.ref b2), (.ref b2)])) _
    exact k)
  have K_4 : ∀ t, Steps p.tables e below (T2.setTop (mkF m 8 #[.val (.int p0), .val (.int p1), .unset, .unset, .unset, .unset] [(.int (9 : Int32)), (.int (0 : Int32)), (.ref b2), (.ref b2)])) t → Steps p.tables e below S0 t := K3
  obtain ⟨cl5, Ar5, qa5, sa5, na5, ha5, ga5⟩ := id V_b2
  have hin5 : ¬ ((0 : Int32) < 0 ∨ cl5.slots.size ≤ ((0 : Int32)).toNatClampNeg) := inb_of sa5 ⟨by decide, by decide⟩
  obtain ⟨T5, h5, X5, e5, W5, st5⟩ := stI X2 hx hZ e2 Ar5 (j := (0 : Int32)) hin5 (g := (mkF m 8 #[.val (.int p0), .val (.int p1), .unset, .unset, .unset, .unset] [(.int (9 : Int32)), (.int (0 : Int32)), (.ref b2), (.ref b2)])) rfl rfl (hb hby at_8)
  have V_b2__5 : Arv Z h5 b2 k2 .int (8 : Int32) [(.int (9 : Int32)), (.int (0 : Int32)), (.int (0 : Int32)), (.int (0 : Int32)), (.int (0 : Int32)), (.int (0 : Int32)), (.int (0 : Int32)), (.int (0 : Int32))] (.int (0 : Int32)) := Arv.set Ar5 qa5 sa5 na5 ha5 ga5 rfl W5 0 rfl (Nat.le_of_ble_eq_true rfl)
  have N5 := Fr.snoc X5 N0 g_b2
  have Zs5 : n0 ≤ h5.size := Nat.le_trans Zs2 (Nat.le_of_eq W5.size.symm)
  have K5 : ∀ t, Steps p.tables e below (T5.setTop (mkF m 9 #[.val (.int p0), .val (.int p1), .unset, .unset, .unset, .unset] [(.ref b2)])) t → Steps p.tables e below S0 t := fun t k => K_4 t (st5 t k)
  have K6 : ∀ t, Steps p.tables e below (T5.setTop (mkF m 13 #[.val (.int p0), .val (.int p1), .unset, .unset, .unset, .unset] [(.int (32 : Int32)), (.int (1 : Int32)), (.ref b2), (.ref b2)])) t → Steps p.tables e below S0 t := fun t k => K5 t (by
    refine XS.dup X5.here hx rfl (hb hby at_9) rfl rfl ?_
    show Steps p.tables e below (T5.setTop (mkF m 10 #[.val (.int p0), .val (.int p1), .unset, .unset, .unset, .unset] [(.ref b2), (.ref b2)])) _
    refine XS.iconst X5.here hx rfl (hb hby at_10) ?_
    show Steps p.tables e below (T5.setTop (mkF m 11 #[.val (.int p0), .val (.int p1), .unset, .unset, .unset, .unset] [(.int (1 : Int32)), (.ref b2), (.ref b2)])) _
    refine XS.bipush X5.here hx rfl (hb hby at_11) ?_
    show Steps p.tables e below (T5.setTop (mkF m 13 #[.val (.int p0), .val (.int p1), .unset, .unset, .unset, .unset] [(.int (32 : Int32)), (.int (1 : Int32)), (.ref b2), (.ref b2)])) _
    exact k)
  have K_7 : ∀ t, Steps p.tables e below (T5.setTop (mkF m 13 #[.val (.int p0), .val (.int p1), .unset, .unset, .unset, .unset] [(.int (32 : Int32)), (.int (1 : Int32)), (.ref b2), (.ref b2)])) t → Steps p.tables e below S0 t := K6
  obtain ⟨cl8, Ar8, qa8, sa8, na8, ha8, ga8⟩ := id V_b2__5
  have hin8 : ¬ ((1 : Int32) < 0 ∨ cl8.slots.size ≤ ((1 : Int32)).toNatClampNeg) := inb_of sa8 ⟨by decide, by decide⟩
  obtain ⟨T8, h8, X8, e8, W8, st8⟩ := stI X5 hx hZ e5 Ar8 (j := (1 : Int32)) hin8 (g := (mkF m 13 #[.val (.int p0), .val (.int p1), .unset, .unset, .unset, .unset] [(.int (32 : Int32)), (.int (1 : Int32)), (.ref b2), (.ref b2)])) rfl rfl (hb hby at_13)
  have V_b2__8 : Arv Z h8 b2 k2 .int (8 : Int32) [(.int (9 : Int32)), (.int (32 : Int32)), (.int (0 : Int32)), (.int (0 : Int32)), (.int (0 : Int32)), (.int (0 : Int32)), (.int (0 : Int32)), (.int (0 : Int32))] (.int (0 : Int32)) := Arv.set Ar8 qa8 sa8 na8 ha8 ga8 rfl W8 1 rfl (Nat.le_of_ble_eq_true rfl)
  have N8 := Fr.snoc X8 N5 g_b2
  have Zs8 : n0 ≤ h8.size := Nat.le_trans Zs5 (Nat.le_of_eq W8.size.symm)
  have K8 : ∀ t, Steps p.tables e below (T8.setTop (mkF m 14 #[.val (.int p0), .val (.int p1), .unset, .unset, .unset, .unset] [(.ref b2)])) t → Steps p.tables e below S0 t := fun t k => K_7 t (st8 t k)
  have K9 : ∀ t, Steps p.tables e below (T8.setTop (mkF m 18 #[.val (.int p0), .val (.int p1), .unset, .unset, .unset, .unset] [(.int (8 : Int32)), (.int (2 : Int32)), (.ref b2), (.ref b2)])) t → Steps p.tables e below S0 t := fun t k => K8 t (by
    refine XS.dup X8.here hx rfl (hb hby at_14) rfl rfl ?_
    show Steps p.tables e below (T8.setTop (mkF m 15 #[.val (.int p0), .val (.int p1), .unset, .unset, .unset, .unset] [(.ref b2), (.ref b2)])) _
    refine XS.iconst X8.here hx rfl (hb hby at_15) ?_
    show Steps p.tables e below (T8.setTop (mkF m 16 #[.val (.int p0), .val (.int p1), .unset, .unset, .unset, .unset] [(.int (2 : Int32)), (.ref b2), (.ref b2)])) _
    refine XS.bipush X8.here hx rfl (hb hby at_16) ?_
    show Steps p.tables e below (T8.setTop (mkF m 18 #[.val (.int p0), .val (.int p1), .unset, .unset, .unset, .unset] [(.int (8 : Int32)), (.int (2 : Int32)), (.ref b2), (.ref b2)])) _
    exact k)
  have K_10 : ∀ t, Steps p.tables e below (T8.setTop (mkF m 18 #[.val (.int p0), .val (.int p1), .unset, .unset, .unset, .unset] [(.int (8 : Int32)), (.int (2 : Int32)), (.ref b2), (.ref b2)])) t → Steps p.tables e below S0 t := K9
  obtain ⟨cl11, Ar11, qa11, sa11, na11, ha11, ga11⟩ := id V_b2__8
  have hin11 : ¬ ((2 : Int32) < 0 ∨ cl11.slots.size ≤ ((2 : Int32)).toNatClampNeg) := inb_of sa11 ⟨by decide, by decide⟩
  obtain ⟨T11, h11, X11, e11, W11, st11⟩ := stI X8 hx hZ e8 Ar11 (j := (2 : Int32)) hin11 (g := (mkF m 18 #[.val (.int p0), .val (.int p1), .unset, .unset, .unset, .unset] [(.int (8 : Int32)), (.int (2 : Int32)), (.ref b2), (.ref b2)])) rfl rfl (hb hby at_18)
  have V_b2__11 : Arv Z h11 b2 k2 .int (8 : Int32) [(.int (9 : Int32)), (.int (32 : Int32)), (.int (8 : Int32)), (.int (0 : Int32)), (.int (0 : Int32)), (.int (0 : Int32)), (.int (0 : Int32)), (.int (0 : Int32))] (.int (0 : Int32)) := Arv.set Ar11 qa11 sa11 na11 ha11 ga11 rfl W11 2 rfl (Nat.le_of_ble_eq_true rfl)
  have N11 := Fr.snoc X11 N8 g_b2
  have Zs11 : n0 ≤ h11.size := Nat.le_trans Zs8 (Nat.le_of_eq W11.size.symm)
  have K11 : ∀ t, Steps p.tables e below (T11.setTop (mkF m 19 #[.val (.int p0), .val (.int p1), .unset, .unset, .unset, .unset] [(.ref b2)])) t → Steps p.tables e below S0 t := fun t k => K_10 t (st11 t k)
  have K12 : ∀ t, Steps p.tables e below (T11.setTop (mkF m 23 #[.val (.int p0), .val (.int p1), .unset, .unset, .unset, .unset] [(.int (10 : Int32)), (.int (3 : Int32)), (.ref b2), (.ref b2)])) t → Steps p.tables e below S0 t := fun t k => K11 t (by
    refine XS.dup X11.here hx rfl (hb hby at_19) rfl rfl ?_
    show Steps p.tables e below (T11.setTop (mkF m 20 #[.val (.int p0), .val (.int p1), .unset, .unset, .unset, .unset] [(.ref b2), (.ref b2)])) _
    refine XS.iconst X11.here hx rfl (hb hby at_20) ?_
    show Steps p.tables e below (T11.setTop (mkF m 21 #[.val (.int p0), .val (.int p1), .unset, .unset, .unset, .unset] [(.int (3 : Int32)), (.ref b2), (.ref b2)])) _
    refine XS.bipush X11.here hx rfl (hb hby at_21) ?_
    show Steps p.tables e below (T11.setTop (mkF m 23 #[.val (.int p0), .val (.int p1), .unset, .unset, .unset, .unset] [(.int (10 : Int32)), (.int (3 : Int32)), (.ref b2), (.ref b2)])) _
    exact k)
  have K_13 : ∀ t, Steps p.tables e below (T11.setTop (mkF m 23 #[.val (.int p0), .val (.int p1), .unset, .unset, .unset, .unset] [(.int (10 : Int32)), (.int (3 : Int32)), (.ref b2), (.ref b2)])) t → Steps p.tables e below S0 t := K12
  obtain ⟨cl14, Ar14, qa14, sa14, na14, ha14, ga14⟩ := id V_b2__11
  have hin14 : ¬ ((3 : Int32) < 0 ∨ cl14.slots.size ≤ ((3 : Int32)).toNatClampNeg) := inb_of sa14 ⟨by decide, by decide⟩
  obtain ⟨T14, h14, X14, e14, W14, st14⟩ := stI X11 hx hZ e11 Ar14 (j := (3 : Int32)) hin14 (g := (mkF m 23 #[.val (.int p0), .val (.int p1), .unset, .unset, .unset, .unset] [(.int (10 : Int32)), (.int (3 : Int32)), (.ref b2), (.ref b2)])) rfl rfl (hb hby at_23)
  have V_b2__14 : Arv Z h14 b2 k2 .int (8 : Int32) [(.int (9 : Int32)), (.int (32 : Int32)), (.int (8 : Int32)), (.int (10 : Int32)), (.int (0 : Int32)), (.int (0 : Int32)), (.int (0 : Int32)), (.int (0 : Int32))] (.int (0 : Int32)) := Arv.set Ar14 qa14 sa14 na14 ha14 ga14 rfl W14 3 rfl (Nat.le_of_ble_eq_true rfl)
  have N14 := Fr.snoc X14 N11 g_b2
  have Zs14 : n0 ≤ h14.size := Nat.le_trans Zs11 (Nat.le_of_eq W14.size.symm)
  have K14 : ∀ t, Steps p.tables e below (T14.setTop (mkF m 24 #[.val (.int p0), .val (.int p1), .unset, .unset, .unset, .unset] [(.ref b2)])) t → Steps p.tables e below S0 t := fun t k => K_13 t (st14 t k)
  have K15 : ∀ t, Steps p.tables e below (T14.setTop (mkF m 28 #[.val (.int p0), .val (.int p1), .unset, .unset, .unset, .unset] [(.int (31 : Int32)), (.int (4 : Int32)), (.ref b2), (.ref b2)])) t → Steps p.tables e below S0 t := fun t k => K14 t (by
    refine XS.dup X14.here hx rfl (hb hby at_24) rfl rfl ?_
    show Steps p.tables e below (T14.setTop (mkF m 25 #[.val (.int p0), .val (.int p1), .unset, .unset, .unset, .unset] [(.ref b2), (.ref b2)])) _
    refine XS.iconst X14.here hx rfl (hb hby at_25) ?_
    show Steps p.tables e below (T14.setTop (mkF m 26 #[.val (.int p0), .val (.int p1), .unset, .unset, .unset, .unset] [(.int (4 : Int32)), (.ref b2), (.ref b2)])) _
    refine XS.bipush X14.here hx rfl (hb hby at_26) ?_
    show Steps p.tables e below (T14.setTop (mkF m 28 #[.val (.int p0), .val (.int p1), .unset, .unset, .unset, .unset] [(.int (31 : Int32)), (.int (4 : Int32)), (.ref b2), (.ref b2)])) _
    exact k)
  have K_16 : ∀ t, Steps p.tables e below (T14.setTop (mkF m 28 #[.val (.int p0), .val (.int p1), .unset, .unset, .unset, .unset] [(.int (31 : Int32)), (.int (4 : Int32)), (.ref b2), (.ref b2)])) t → Steps p.tables e below S0 t := K15
  obtain ⟨cl17, Ar17, qa17, sa17, na17, ha17, ga17⟩ := id V_b2__14
  have hin17 : ¬ ((4 : Int32) < 0 ∨ cl17.slots.size ≤ ((4 : Int32)).toNatClampNeg) := inb_of sa17 ⟨by decide, by decide⟩
  obtain ⟨T17, h17, X17, e17, W17, st17⟩ := stI X14 hx hZ e14 Ar17 (j := (4 : Int32)) hin17 (g := (mkF m 28 #[.val (.int p0), .val (.int p1), .unset, .unset, .unset, .unset] [(.int (31 : Int32)), (.int (4 : Int32)), (.ref b2), (.ref b2)])) rfl rfl (hb hby at_28)
  have V_b2__17 : Arv Z h17 b2 k2 .int (8 : Int32) [(.int (9 : Int32)), (.int (32 : Int32)), (.int (8 : Int32)), (.int (10 : Int32)), (.int (31 : Int32)), (.int (0 : Int32)), (.int (0 : Int32)), (.int (0 : Int32))] (.int (0 : Int32)) := Arv.set Ar17 qa17 sa17 na17 ha17 ga17 rfl W17 4 rfl (Nat.le_of_ble_eq_true rfl)
  have N17 := Fr.snoc X17 N14 g_b2
  have Zs17 : n0 ≤ h17.size := Nat.le_trans Zs14 (Nat.le_of_eq W17.size.symm)
  have K17 : ∀ t, Steps p.tables e below (T17.setTop (mkF m 29 #[.val (.int p0), .val (.int p1), .unset, .unset, .unset, .unset] [(.ref b2)])) t → Steps p.tables e below S0 t := fun t k => K_16 t (st17 t k)
  have K18 : ∀ t, Steps p.tables e below (T17.setTop (mkF m 33 #[.val (.int p0), .val (.int p1), .unset, .unset, .unset, .unset] [(.int (33 : Int32)), (.int (5 : Int32)), (.ref b2), (.ref b2)])) t → Steps p.tables e below S0 t := fun t k => K17 t (by
    refine XS.dup X17.here hx rfl (hb hby at_29) rfl rfl ?_
    show Steps p.tables e below (T17.setTop (mkF m 30 #[.val (.int p0), .val (.int p1), .unset, .unset, .unset, .unset] [(.ref b2), (.ref b2)])) _
    refine XS.iconst X17.here hx rfl (hb hby at_30) ?_
    show Steps p.tables e below (T17.setTop (mkF m 31 #[.val (.int p0), .val (.int p1), .unset, .unset, .unset, .unset] [(.int (5 : Int32)), (.ref b2), (.ref b2)])) _
    refine XS.bipush X17.here hx rfl (hb hby at_31) ?_
    show Steps p.tables e below (T17.setTop (mkF m 33 #[.val (.int p0), .val (.int p1), .unset, .unset, .unset, .unset] [(.int (33 : Int32)), (.int (5 : Int32)), (.ref b2), (.ref b2)])) _
    exact k)
  have K_19 : ∀ t, Steps p.tables e below (T17.setTop (mkF m 33 #[.val (.int p0), .val (.int p1), .unset, .unset, .unset, .unset] [(.int (33 : Int32)), (.int (5 : Int32)), (.ref b2), (.ref b2)])) t → Steps p.tables e below S0 t := K18
  obtain ⟨cl20, Ar20, qa20, sa20, na20, ha20, ga20⟩ := id V_b2__17
  have hin20 : ¬ ((5 : Int32) < 0 ∨ cl20.slots.size ≤ ((5 : Int32)).toNatClampNeg) := inb_of sa20 ⟨by decide, by decide⟩
  obtain ⟨T20, h20, X20, e20, W20, st20⟩ := stI X17 hx hZ e17 Ar20 (j := (5 : Int32)) hin20 (g := (mkF m 33 #[.val (.int p0), .val (.int p1), .unset, .unset, .unset, .unset] [(.int (33 : Int32)), (.int (5 : Int32)), (.ref b2), (.ref b2)])) rfl rfl (hb hby at_33)
  have V_b2__20 : Arv Z h20 b2 k2 .int (8 : Int32) [(.int (9 : Int32)), (.int (32 : Int32)), (.int (8 : Int32)), (.int (10 : Int32)), (.int (31 : Int32)), (.int (33 : Int32)), (.int (0 : Int32)), (.int (0 : Int32))] (.int (0 : Int32)) := Arv.set Ar20 qa20 sa20 na20 ha20 ga20 rfl W20 5 rfl (Nat.le_of_ble_eq_true rfl)
  have N20 := Fr.snoc X20 N17 g_b2
  have Zs20 : n0 ≤ h20.size := Nat.le_trans Zs17 (Nat.le_of_eq W20.size.symm)
  have K20 : ∀ t, Steps p.tables e below (T20.setTop (mkF m 34 #[.val (.int p0), .val (.int p1), .unset, .unset, .unset, .unset] [(.ref b2)])) t → Steps p.tables e below S0 t := fun t k => K_19 t (st20 t k)
  have K21 : ∀ t, Steps p.tables e below (T20.setTop (mkF m 39 #[.val (.int p0), .val (.int p1), .unset, .unset, .unset, .unset] [(.int (65545 : Int32)), (.int (6 : Int32)), (.ref b2), (.ref b2)])) t → Steps p.tables e below S0 t := fun t k => K20 t (by
    refine XS.dup X20.here hx rfl (hb hby at_34) rfl rfl ?_
    show Steps p.tables e below (T20.setTop (mkF m 35 #[.val (.int p0), .val (.int p1), .unset, .unset, .unset, .unset] [(.ref b2), (.ref b2)])) _
    refine XS.bipush X20.here hx rfl (hb hby at_35) ?_
    show Steps p.tables e below (T20.setTop (mkF m 37 #[.val (.int p0), .val (.int p1), .unset, .unset, .unset, .unset] [(.int (6 : Int32)), (.ref b2), (.ref b2)])) _
    refine X20.ldcInt hx hown (mvT hZ (hw _ (List.mem_of_getElem? (i := 1) rfl))) (g := (mkF m 37 #[.val (.int p0), .val (.int p1), .unset, .unset, .unset, .unset] [(.int (6 : Int32)), (.ref b2), (.ref b2)])) rfl (hb hby at_37) _ ?_
    show Steps p.tables e below (T20.setTop (mkF m 39 #[.val (.int p0), .val (.int p1), .unset, .unset, .unset, .unset] [(.int (65545 : Int32)), (.int (6 : Int32)), (.ref b2), (.ref b2)])) _
    exact k)
  have K_22 : ∀ t, Steps p.tables e below (T20.setTop (mkF m 39 #[.val (.int p0), .val (.int p1), .unset, .unset, .unset, .unset] [(.int (65545 : Int32)), (.int (6 : Int32)), (.ref b2), (.ref b2)])) t → Steps p.tables e below S0 t := K21
  obtain ⟨cl23, Ar23, qa23, sa23, na23, ha23, ga23⟩ := id V_b2__20
  have hin23 : ¬ ((6 : Int32) < 0 ∨ cl23.slots.size ≤ ((6 : Int32)).toNatClampNeg) := inb_of sa23 ⟨by decide, by decide⟩
  obtain ⟨T23, h23, X23, e23, W23, st23⟩ := stI X20 hx hZ e20 Ar23 (j := (6 : Int32)) hin23 (g := (mkF m 39 #[.val (.int p0), .val (.int p1), .unset, .unset, .unset, .unset] [(.int (65545 : Int32)), (.int (6 : Int32)), (.ref b2), (.ref b2)])) rfl rfl (hb hby at_39)
  have V_b2__23 : Arv Z h23 b2 k2 .int (8 : Int32) [(.int (9 : Int32)), (.int (32 : Int32)), (.int (8 : Int32)), (.int (10 : Int32)), (.int (31 : Int32)), (.int (33 : Int32)), (.int (65545 : Int32)), (.int (0 : Int32))] (.int (0 : Int32)) := Arv.set Ar23 qa23 sa23 na23 ha23 ga23 rfl W23 6 rfl (Nat.le_of_ble_eq_true rfl)
  have N23 := Fr.snoc X23 N20 g_b2
  have Zs23 : n0 ≤ h23.size := Nat.le_trans Zs20 (Nat.le_of_eq W23.size.symm)
  have K23 : ∀ t, Steps p.tables e below (T23.setTop (mkF m 40 #[.val (.int p0), .val (.int p1), .unset, .unset, .unset, .unset] [(.ref b2)])) t → Steps p.tables e below S0 t := fun t k => K_22 t (st23 t k)
  have K24 : ∀ t, Steps p.tables e below (T23.setTop (mkF m 45 #[.val (.int p0), .val (.int p1), .unset, .unset, .unset, .unset] [(.int (-2147483616 : Int32)), (.int (7 : Int32)), (.ref b2), (.ref b2)])) t → Steps p.tables e below S0 t := fun t k => K23 t (by
    refine XS.dup X23.here hx rfl (hb hby at_40) rfl rfl ?_
    show Steps p.tables e below (T23.setTop (mkF m 41 #[.val (.int p0), .val (.int p1), .unset, .unset, .unset, .unset] [(.ref b2), (.ref b2)])) _
    refine XS.bipush X23.here hx rfl (hb hby at_41) ?_
    show Steps p.tables e below (T23.setTop (mkF m 43 #[.val (.int p0), .val (.int p1), .unset, .unset, .unset, .unset] [(.int (7 : Int32)), (.ref b2), (.ref b2)])) _
    refine X23.ldcInt hx hown (mvT hZ (hw _ (List.mem_of_getElem? (i := 2) rfl))) (g := (mkF m 43 #[.val (.int p0), .val (.int p1), .unset, .unset, .unset, .unset] [(.int (7 : Int32)), (.ref b2), (.ref b2)])) rfl (hb hby at_43) _ ?_
    show Steps p.tables e below (T23.setTop (mkF m 45 #[.val (.int p0), .val (.int p1), .unset, .unset, .unset, .unset] [(.int (-2147483616 : Int32)), (.int (7 : Int32)), (.ref b2), (.ref b2)])) _
    exact k)
  have K_25 : ∀ t, Steps p.tables e below (T23.setTop (mkF m 45 #[.val (.int p0), .val (.int p1), .unset, .unset, .unset, .unset] [(.int (-2147483616 : Int32)), (.int (7 : Int32)), (.ref b2), (.ref b2)])) t → Steps p.tables e below S0 t := K24
  obtain ⟨cl26, Ar26, qa26, sa26, na26, ha26, ga26⟩ := id V_b2__23
  have hin26 : ¬ ((7 : Int32) < 0 ∨ cl26.slots.size ≤ ((7 : Int32)).toNatClampNeg) := inb_of sa26 ⟨by decide, by decide⟩
  obtain ⟨T26, h26, X26, e26, W26, st26⟩ := stI X23 hx hZ e23 Ar26 (j := (7 : Int32)) hin26 (g := (mkF m 45 #[.val (.int p0), .val (.int p1), .unset, .unset, .unset, .unset] [(.int (-2147483616 : Int32)), (.int (7 : Int32)), (.ref b2), (.ref b2)])) rfl rfl (hb hby at_45)
  have V_b2__26 : Arv Z h26 b2 k2 .int (8 : Int32) [(.int (9 : Int32)), (.int (32 : Int32)), (.int (8 : Int32)), (.int (10 : Int32)), (.int (31 : Int32)), (.int (33 : Int32)), (.int (65545 : Int32)), (.int (-2147483616 : Int32))] (.int (0 : Int32)) := Arv.set Ar26 qa26 sa26 na26 ha26 ga26 rfl W26 7 rfl (Nat.le_of_ble_eq_true rfl)
  have N26 := Fr.snoc X26 N23 g_b2
  have Zs26 : n0 ≤ h26.size := Nat.le_trans Zs23 (Nat.le_of_eq W26.size.symm)
  have K26 : ∀ t, Steps p.tables e below (T26.setTop (mkF m 46 #[.val (.int p0), .val (.int p1), .unset, .unset, .unset, .unset] [(.ref b2)])) t → Steps p.tables e below S0 t := fun t k => K_25 t (st26 t k)
  have K27 : ∀ t, Steps p.tables e below (T26.setTop (mkF m 52 #[.val (.int p0), .val (.int p1), .val (.ref b2), .unset, .unset, .unset] [(.int (p1 &&& (7 : Int32))), (.ref b2)])) t → Steps p.tables e below S0 t := fun t k => K26 t (by
    refine XS.astoreN X26.here hx rfl (hb hby at_46) rfl rfl (l' := #[.val (.int p0), .val (.int p1), .val (.ref b2), .unset, .unset, .unset]) rfl ?_
    show Steps p.tables e below (T26.setTop (mkF m 47 #[.val (.int p0), .val (.int p1), .val (.ref b2), .unset, .unset, .unset] [])) _
    refine XS.aloadN X26.here hx rfl (hb hby at_47) rfl rfl ?_
    show Steps p.tables e below (T26.setTop (mkF m 48 #[.val (.int p0), .val (.int p1), .val (.ref b2), .unset, .unset, .unset] [(.ref b2)])) _
    refine XS.iloadN X26.here hx rfl (hb hby at_48) rfl ?_
    show Steps p.tables e below (T26.setTop (mkF m 49 #[.val (.int p0), .val (.int p1), .val (.ref b2), .unset, .unset, .unset] [(.int p1), (.ref b2)])) _
    refine XS.bipush X26.here hx rfl (hb hby at_49) ?_
    show Steps p.tables e below (T26.setTop (mkF m 51 #[.val (.int p0), .val (.int p1), .val (.ref b2), .unset, .unset, .unset] [(.int (7 : Int32)), (.int p1), (.ref b2)])) _
    refine XS.iand X26.here hx rfl (hb hby at_51) rfl ?_
    show Steps p.tables e below (T26.setTop (mkF m 52 #[.val (.int p0), .val (.int p1), .val (.ref b2), .unset, .unset, .unset] [(.int (p1 &&& (7 : Int32))), (.ref b2)])) _
    exact k)
  have K_28 : ∀ t, Steps p.tables e below (T26.setTop (mkF m 52 #[.val (.int p0), .val (.int p1), .val (.ref b2), .unset, .unset, .unset] [(.int (p1 &&& (7 : Int32))), (.ref b2)])) t → Steps p.tables e below S0 t := K27
  obtain ⟨cl29, Ar29, qa29, sa29, na29, ha29, ga29⟩ := id V_b2__26
  have hin29 : ¬ ((p1 &&& (7 : Int32)) < 0 ∨ cl29.slots.size ≤ ((p1 &&& (7 : Int32))).toNatClampNeg) := inb_of sa29 (own_in p1)
  have hat29 : cl29.slots[((p1 &&& (7 : Int32))).toNatClampNeg]? = some (.int (own_get [(9 : Int32), (32 : Int32), (8 : Int32), (10 : Int32), (31 : Int32), (33 : Int32), (65545 : Int32), (-2147483616 : Int32)] (p1 &&& (7 : Int32)))) := Has.at ha29 hin29 (own_getD [(9 : Int32), (32 : Int32), (8 : Int32), (10 : Int32), (31 : Int32), (33 : Int32), (65545 : Int32), (-2147483616 : Int32)] (p1 &&& (7 : Int32)))
  have K29 : ∀ t, Steps p.tables e below (T26.setTop (mkF m 53 #[.val (.int p0), .val (.int p1), .val (.ref b2), .unset, .unset, .unset] [(.int (own_get [(9 : Int32), (32 : Int32), (8 : Int32), (10 : Int32), (31 : Int32), (33 : Int32), (65545 : Int32), (-2147483616 : Int32)] (p1 &&& (7 : Int32))))])) t → Steps p.tables e below S0 t := fun t k => K_28 t (X26.iaload hx (j := (p1 &&& (7 : Int32))) (v := (.int (own_get [(9 : Int32), (32 : Int32), (8 : Int32), (10 : Int32), (31 : Int32), (33 : Int32), (65545 : Int32), (-2147483616 : Int32)] (p1 &&& (7 : Int32))))) (by rw [e26]; exact Ar29.1) (State.isArrayOf_alike hZ.alike Ar29.2.1) Ar29.2.2 hin29 hat29 (g := (mkF m 52 #[.val (.int p0), .val (.int p1), .val (.ref b2), .unset, .unset, .unset] [(.int (p1 &&& (7 : Int32))), (.ref b2)])) rfl rfl (hb hby at_52) _ k)
  have K30 : ∀ t, Steps p.tables e below (T26.setTop (mkF m 55 #[.val (.int p0), .val (.int p1), .val (.ref b2), .val (.int (w0_1 p1)), .unset, .unset] [(.int (w0_1 p1))])) t → Steps p.tables e below S0 t := fun t k => K29 t (by
    refine XS.istoreN X26.here hx rfl (hb hby at_53) rfl (l' := #[.val (.int p0), .val (.int p1), .val (.ref b2), .val (.int (w0_1 p1)), .unset, .unset]) rfl ?_
    show Steps p.tables e below (T26.setTop (mkF m 54 #[.val (.int p0), .val (.int p1), .val (.ref b2), .val (.int (w0_1 p1)), .unset, .unset] [])) _
    refine XS.iloadN X26.here hx rfl (hb hby at_54) rfl ?_
    show Steps p.tables e below (T26.setTop (mkF m 55 #[.val (.int p0), .val (.int p1), .val (.ref b2), .val (.int (w0_1 p1)), .unset, .unset] [(.int (w0_1 p1))])) _
    exact k)
  have K_31 : ∀ t, Steps p.tables e below (T26.setTop (mkF m 55 #[.val (.int p0), .val (.int p1), .val (.ref b2), .val (.int (w0_1 p1)), .unset, .unset] [(.int (w0_1 p1))])) t → Steps p.tables e below S0 t := K30
  obtain ⟨_, _, ⟨T32, L32, k32, n32⟩, -, X32, ⟨Lc32, hQ32, l32, y32, z32⟩, st32⟩ := Jvm.LawKit.callS X26 hx (y := (⟨"biaxial/Statement", "isBlank", "(I)Z"⟩ : MethodName)) hown (mvT hZ (hw _ (List.mem_of_getElem? (i := 3) rfl))) (mvT hZ (hw _ (List.mem_of_getElem? (i := 4) rfl))) (mvT hZ (hw _ (List.mem_of_getElem? (i := 5) rfl))) (mvT hZ (hw _ (List.mem_of_getElem? (i := 6) rfl))) (by decide) (backOf (W := 0) (rm1 l Z a0 hw [] (w0_1 p1) h26 n0 Zs26 ) hZ (hw _ (List.mem_of_getElem? (i := 6) rfl)) (hw _ (List.mem_of_getElem? (i := 5) rfl)) (by decide) (by decide)) (g := (mkF m 55 #[.val (.int p0), .val (.int p1), .val (.ref b2), .val (.int (w0_1 p1)), .unset, .unset] [(.int (w0_1 p1))])) rfl (by rw [hml]; rfl) (argsL := [(.int (w0_1 p1))]) (rest := []) (lenOf pd0_0 rfl) rfl (by show 2 * 0 + _ ≤ _; exact Nat.le_of_eq rfl) (hb hby at_55) (fun _ _ => ⟨rfl, e26, (by decide : 1 + 0 ≤ 16), (by decide : 8 + 0 ≤ 128)⟩)
  dsimp only [Pt.U, Pt.locs, Pt.cells, Pt.slots] at X32 l32 y32 z32 st32 hQ32
  subst l32 y32 z32
  obtain ⟨rfl, N32q, e32⟩ := hQ32
  have N32 := Fr.app N26 N32q
  have K32 : ∀ t, Steps p.tables e below (T32.setTop (mkF m 58 #[.val (.int p0), .val (.int p1), .val (.ref b2), .val (.int (w0_1 p1)), .unset, .unset] [(.int (w1_r1 (w0_1 p1)))])) t → Steps p.tables e below S0 t := fun t k => K_31 t (st32 t k)
  have K33 : ∀ t, Steps p.tables e below (T32.setTop (mkF m 59 #[.val (.int p0), .val (.int p1), .val (.ref b2), .val (.int (w0_1 p1)), .unset, .unset] [(.int (w0_1 p1)), (.int (w1_r1 (w0_1 p1)))])) t → Steps p.tables e below S0 t := fun t k => K32 t (by
    refine XS.iloadN X32.here hx rfl (hb hby at_58) rfl ?_
    show Steps p.tables e below (T32.setTop (mkF m 59 #[.val (.int p0), .val (.int p1), .val (.ref b2), .val (.int (w0_1 p1)), .unset, .unset] [(.int (w0_1 p1)), (.int (w1_r1 (w0_1 p1)))])) _
    exact k)
  have K_34 : ∀ t, Steps p.tables e below (T32.setTop (mkF m 59 #[.val (.int p0), .val (.int p1), .val (.ref b2), .val (.int (w0_1 p1)), .unset, .unset] [(.int (w0_1 p1)), (.int (w1_r1 (w0_1 p1)))])) t → Steps p.tables e below S0 t := K33
  obtain ⟨_, _, ⟨T35, L35, k35, n35⟩, -, X35, ⟨Lc35, hQ35, l35, y35, z35⟩, st35⟩ := Jvm.LawKit.callS X32 hx (y := (⟨"biaxial/StatementIsBlankPinLaw", "expected", "(I)Z"⟩ : MethodName)) hown (mvT hZ (hw _ (List.mem_of_getElem? (i := 7) rfl))) (mvT hZ (hw _ (List.mem_of_getElem? (i := 8) rfl))) (mvT hZ (hw _ (List.mem_of_getElem? (i := 9) rfl))) (mvT hZ (hw _ (List.mem_of_getElem? (i := 10) rfl))) (by decide) (backOf (W := 1) (rm2 l Z a0 hw [] (w0_1 p1) h26 n0 Zs26 ) hZ (hw _ (List.mem_of_getElem? (i := 10) rfl)) (hw _ (List.mem_of_getElem? (i := 9) rfl)) (by decide) (by decide)) (g := (mkF m 59 #[.val (.int p0), .val (.int p1), .val (.ref b2), .val (.int (w0_1 p1)), .unset, .unset] [(.int (w0_1 p1)), (.int (w1_r1 (w0_1 p1)))])) rfl (by rw [hml]; rfl) (argsL := [(.int (w0_1 p1))]) (rest := [(.int (w1_r1 (w0_1 p1)))]) (lenOf pd0_0 rfl) rfl (by show 2 * 0 + _ ≤ _; exact Nat.le_of_eq rfl) (hb hby at_59) (fun _ _ => ⟨rfl, e32, (by decide : 1 + 0 ≤ 16), (by decide : 8 + 0 ≤ 128)⟩)
  dsimp only [Pt.U, Pt.locs, Pt.cells, Pt.slots] at X35 l35 y35 z35 st35 hQ35
  subst l35 y35 z35
  obtain ⟨rfl, N35q, e35⟩ := hQ35
  have N35 := Fr.app N32 N35q
  have K35 : ∀ t, Steps p.tables e below (T35.setTop (mkF m 62 #[.val (.int p0), .val (.int p1), .val (.ref b2), .val (.int (w0_1 p1)), .unset, .unset] [(.int (w2_r1 (w0_1 p1))), (.int (w1_r1 (w0_1 p1)))])) t → Steps p.tables e below S0 t := fun t k => K_34 t (st35 t k)
  obtain ⟨T36, lo36, X36, N36, e36, K36⟩ : ∃ (T' : State) (locs' : List Loc), Stand p l e room_1 s m #[(.int p0), (.int p1)] below meth c T' locs' 1 8 ∧ Fr n0 locs' ∧ T'.heap = h26 ∧ ∀ t, Steps p.tables e below (T'.setTop (mkF m 70 #[.val (.int p0), .val (.int p1), .val (.ref b2), .val (.int (w0_1 p1)), .unset, .unset] [(.int (w0_m2 p1))])) t → Steps p.tables e below S0 t := by
    by_cases hc62_0 : (w1_r1 (w0_1 p1)) = (w2_r1 (w0_1 p1))
    · -- yes
      have K37 : ∀ t, Steps p.tables e below (T35.setTop (mkF m 70 #[.val (.int p0), .val (.int p1), .val (.ref b2), .val (.int (w0_1 p1)), .unset, .unset] [(.int (1 : Int32))])) t → Steps p.tables e below S0 t := fun t k => K35 t (by
        refine XS.icmpNo X35.here hx rfl (hb hby at_62) rfl (XT.ii_ne_f hc62_0) ?_
        show Steps p.tables e below (T35.setTop (mkF m 65 #[.val (.int p0), .val (.int p1), .val (.ref b2), .val (.int (w0_1 p1)), .unset, .unset] [])) _
        refine XS.iconst X35.here hx rfl (hb hby at_65) ?_
        show Steps p.tables e below (T35.setTop (mkF m 66 #[.val (.int p0), .val (.int p1), .val (.ref b2), .val (.int (w0_1 p1)), .unset, .unset] [(.int (1 : Int32))])) _
        refine XS.goto X35.here hx rfl (pc0 := 66) (pc' := 70) rfl (hb hby at_66) (by decide) (by decide) ?_
        show Steps p.tables e below (T35.setTop (mkF m 70 #[.val (.int p0), .val (.int p1), .val (.ref b2), .val (.int (w0_1 p1)), .unset, .unset] [(.int (1 : Int32))])) _
        exact k)
      have q38 : (w0_m2 p1) = (1 : Int32) := by unfold w0_m2; rw [if_pos hc62_0]
      exact ⟨T35, _, X35, N35, e35, fun t k => K37 t (by rw [q38] at k; exact k)⟩
    · -- no
      have K39 : ∀ t, Steps p.tables e below (T35.setTop (mkF m 70 #[.val (.int p0), .val (.int p1), .val (.ref b2), .val (.int (w0_1 p1)), .unset, .unset] [(.int (0 : Int32))])) t → Steps p.tables e below S0 t := fun t k => K35 t (by
        refine XS.icmpYes X35.here hx rfl (pc0 := 62) (pc' := 69) rfl (hb hby at_62) rfl (XT.ii_ne_t hc62_0) (by decide) (by decide) ?_
        show Steps p.tables e below (T35.setTop (mkF m 69 #[.val (.int p0), .val (.int p1), .val (.ref b2), .val (.int (w0_1 p1)), .unset, .unset] [])) _
        refine XS.iconst X35.here hx rfl (hb hby at_69) ?_
        show Steps p.tables e below (T35.setTop (mkF m 70 #[.val (.int p0), .val (.int p1), .val (.ref b2), .val (.int (w0_1 p1)), .unset, .unset] [(.int (0 : Int32))])) _
        exact k)
      have q40 : (w0_m2 p1) = (0 : Int32) := by unfold w0_m2; rw [if_neg hc62_0]
      exact ⟨T35, _, X35, N35, e35, fun t k => K39 t (by rw [q40] at k; exact k)⟩
  have K41 : ∀ t, Steps p.tables e below (T36.setTop (mkF m 73 #[.val (.int p0), .val (.int p1), .val (.ref b2), .val (.int (w0_1 p1)), .val (.int (w0_m2 p1)), .unset] [(.int p0)])) t → Steps p.tables e below S0 t := fun t k => K36 t (by
    refine XS.istore X36.here hx rfl (hb hby at_70) rfl (l' := #[.val (.int p0), .val (.int p1), .val (.ref b2), .val (.int (w0_1 p1)), .val (.int (w0_m2 p1)), .unset]) rfl ?_
    show Steps p.tables e below (T36.setTop (mkF m 72 #[.val (.int p0), .val (.int p1), .val (.ref b2), .val (.int (w0_1 p1)), .val (.int (w0_m2 p1)), .unset] [])) _
    refine XS.iloadN X36.here hx rfl (hb hby at_72) rfl ?_
    show Steps p.tables e below (T36.setTop (mkF m 73 #[.val (.int p0), .val (.int p1), .val (.ref b2), .val (.int (w0_1 p1)), .val (.int (w0_m2 p1)), .unset] [(.int p0)])) _
    exact k)
  have K_42 : ∀ t, Steps p.tables e below (T36.setTop (mkF m 73 #[.val (.int p0), .val (.int p1), .val (.ref b2), .val (.int (w0_1 p1)), .val (.int (w0_m2 p1)), .unset] [(.int p0)])) t → Steps p.tables e below S0 t := K41
  obtain ⟨_, _, ⟨T43, L43, k43, n43⟩, -, X43, ⟨Lc43, hQ43, l43, y43, z43⟩, st43⟩ := Jvm.LawKit.callS X36 hx (y := (⟨"biaxial/Statement", "isBlank", "(I)Z"⟩ : MethodName)) hown (mvT hZ (hw _ (List.mem_of_getElem? (i := 3) rfl))) (mvT hZ (hw _ (List.mem_of_getElem? (i := 4) rfl))) (mvT hZ (hw _ (List.mem_of_getElem? (i := 5) rfl))) (mvT hZ (hw _ (List.mem_of_getElem? (i := 6) rfl))) (by decide) (backOf (W := 0) (rm1 l Z a0 hw [] p0 h26 n0 Zs26 ) hZ (hw _ (List.mem_of_getElem? (i := 6) rfl)) (hw _ (List.mem_of_getElem? (i := 5) rfl)) (by decide) (by decide)) (g := (mkF m 73 #[.val (.int p0), .val (.int p1), .val (.ref b2), .val (.int (w0_1 p1)), .val (.int (w0_m2 p1)), .unset] [(.int p0)])) rfl (by rw [hml]; rfl) (argsL := [(.int p0)]) (rest := []) (lenOf pd0_0 rfl) rfl (by show 2 * 0 + _ ≤ _; exact Nat.le_of_eq rfl) (hb hby at_73) (fun _ _ => ⟨rfl, e36, (by decide : 1 + 0 ≤ 16), (by decide : 8 + 0 ≤ 128)⟩)
  dsimp only [Pt.U, Pt.locs, Pt.cells, Pt.slots] at X43 l43 y43 z43 st43 hQ43
  subst l43 y43 z43
  obtain ⟨rfl, N43q, e43⟩ := hQ43
  have N43 := Fr.app N36 N43q
  have K43 : ∀ t, Steps p.tables e below (T43.setTop (mkF m 76 #[.val (.int p0), .val (.int p1), .val (.ref b2), .val (.int (w0_1 p1)), .val (.int (w0_m2 p1)), .unset] [(.int (w1_r1 p0))])) t → Steps p.tables e below S0 t := fun t k => K_42 t (st43 t k)
  have K44 : ∀ t, Steps p.tables e below (T43.setTop (mkF m 77 #[.val (.int p0), .val (.int p1), .val (.ref b2), .val (.int (w0_1 p1)), .val (.int (w0_m2 p1)), .unset] [(.int p0), (.int (w1_r1 p0))])) t → Steps p.tables e below S0 t := fun t k => K43 t (by
    refine XS.iloadN X43.here hx rfl (hb hby at_76) rfl ?_
    show Steps p.tables e below (T43.setTop (mkF m 77 #[.val (.int p0), .val (.int p1), .val (.ref b2), .val (.int (w0_1 p1)), .val (.int (w0_m2 p1)), .unset] [(.int p0), (.int (w1_r1 p0))])) _
    exact k)
  have K_45 : ∀ t, Steps p.tables e below (T43.setTop (mkF m 77 #[.val (.int p0), .val (.int p1), .val (.ref b2), .val (.int (w0_1 p1)), .val (.int (w0_m2 p1)), .unset] [(.int p0), (.int (w1_r1 p0))])) t → Steps p.tables e below S0 t := K44
  obtain ⟨_, _, ⟨T46, L46, k46, n46⟩, -, X46, ⟨Lc46, hQ46, l46, y46, z46⟩, st46⟩ := Jvm.LawKit.callS X43 hx (y := (⟨"biaxial/StatementIsBlankPinLaw", "expected", "(I)Z"⟩ : MethodName)) hown (mvT hZ (hw _ (List.mem_of_getElem? (i := 7) rfl))) (mvT hZ (hw _ (List.mem_of_getElem? (i := 8) rfl))) (mvT hZ (hw _ (List.mem_of_getElem? (i := 9) rfl))) (mvT hZ (hw _ (List.mem_of_getElem? (i := 10) rfl))) (by decide) (backOf (W := 1) (rm2 l Z a0 hw [] p0 h26 n0 Zs26 ) hZ (hw _ (List.mem_of_getElem? (i := 10) rfl)) (hw _ (List.mem_of_getElem? (i := 9) rfl)) (by decide) (by decide)) (g := (mkF m 77 #[.val (.int p0), .val (.int p1), .val (.ref b2), .val (.int (w0_1 p1)), .val (.int (w0_m2 p1)), .unset] [(.int p0), (.int (w1_r1 p0))])) rfl (by rw [hml]; rfl) (argsL := [(.int p0)]) (rest := [(.int (w1_r1 p0))]) (lenOf pd0_0 rfl) rfl (by show 2 * 0 + _ ≤ _; exact Nat.le_of_eq rfl) (hb hby at_77) (fun _ _ => ⟨rfl, e43, (by decide : 1 + 0 ≤ 16), (by decide : 8 + 0 ≤ 128)⟩)
  dsimp only [Pt.U, Pt.locs, Pt.cells, Pt.slots] at X46 l46 y46 z46 st46 hQ46
  subst l46 y46 z46
  obtain ⟨rfl, N46q, e46⟩ := hQ46
  have N46 := Fr.app N43 N46q
  have K46 : ∀ t, Steps p.tables e below (T46.setTop (mkF m 80 #[.val (.int p0), .val (.int p1), .val (.ref b2), .val (.int (w0_1 p1)), .val (.int (w0_m2 p1)), .unset] [(.int (w2_r1 p0)), (.int (w1_r1 p0))])) t → Steps p.tables e below S0 t := fun t k => K_45 t (st46 t k)
  obtain ⟨T47, lo47, X47, N47, e47, K47⟩ : ∃ (T' : State) (locs' : List Loc), Stand p l e room_1 s m #[(.int p0), (.int p1)] below meth c T' locs' 1 8 ∧ Fr n0 locs' ∧ T'.heap = h26 ∧ ∀ t, Steps p.tables e below (T'.setTop (mkF m 88 #[.val (.int p0), .val (.int p1), .val (.ref b2), .val (.int (w0_1 p1)), .val (.int (w0_m2 p1)), .unset] [(.int (w0_m3 p0))])) t → Steps p.tables e below S0 t := by
    by_cases hc80_0 : (w1_r1 p0) = (w2_r1 p0)
    · -- yes
      have K48 : ∀ t, Steps p.tables e below (T46.setTop (mkF m 88 #[.val (.int p0), .val (.int p1), .val (.ref b2), .val (.int (w0_1 p1)), .val (.int (w0_m2 p1)), .unset] [(.int (1 : Int32))])) t → Steps p.tables e below S0 t := fun t k => K46 t (by
        refine XS.icmpNo X46.here hx rfl (hb hby at_80) rfl (XT.ii_ne_f hc80_0) ?_
        show Steps p.tables e below (T46.setTop (mkF m 83 #[.val (.int p0), .val (.int p1), .val (.ref b2), .val (.int (w0_1 p1)), .val (.int (w0_m2 p1)), .unset] [])) _
        refine XS.iconst X46.here hx rfl (hb hby at_83) ?_
        show Steps p.tables e below (T46.setTop (mkF m 84 #[.val (.int p0), .val (.int p1), .val (.ref b2), .val (.int (w0_1 p1)), .val (.int (w0_m2 p1)), .unset] [(.int (1 : Int32))])) _
        refine XS.goto X46.here hx rfl (pc0 := 84) (pc' := 88) rfl (hb hby at_84) (by decide) (by decide) ?_
        show Steps p.tables e below (T46.setTop (mkF m 88 #[.val (.int p0), .val (.int p1), .val (.ref b2), .val (.int (w0_1 p1)), .val (.int (w0_m2 p1)), .unset] [(.int (1 : Int32))])) _
        exact k)
      have q49 : (w0_m3 p0) = (1 : Int32) := by unfold w0_m3; rw [if_pos hc80_0]
      exact ⟨T46, _, X46, N46, e46, fun t k => K48 t (by rw [q49] at k; exact k)⟩
    · -- no
      have K50 : ∀ t, Steps p.tables e below (T46.setTop (mkF m 88 #[.val (.int p0), .val (.int p1), .val (.ref b2), .val (.int (w0_1 p1)), .val (.int (w0_m2 p1)), .unset] [(.int (0 : Int32))])) t → Steps p.tables e below S0 t := fun t k => K46 t (by
        refine XS.icmpYes X46.here hx rfl (pc0 := 80) (pc' := 87) rfl (hb hby at_80) rfl (XT.ii_ne_t hc80_0) (by decide) (by decide) ?_
        show Steps p.tables e below (T46.setTop (mkF m 87 #[.val (.int p0), .val (.int p1), .val (.ref b2), .val (.int (w0_1 p1)), .val (.int (w0_m2 p1)), .unset] [])) _
        refine XS.iconst X46.here hx rfl (hb hby at_87) ?_
        show Steps p.tables e below (T46.setTop (mkF m 88 #[.val (.int p0), .val (.int p1), .val (.ref b2), .val (.int (w0_1 p1)), .val (.int (w0_m2 p1)), .unset] [(.int (0 : Int32))])) _
        exact k)
      have q51 : (w0_m3 p0) = (0 : Int32) := by unfold w0_m3; rw [if_neg hc80_0]
      exact ⟨T46, _, X46, N46, e46, fun t k => K50 t (by rw [q51] at k; exact k)⟩
  have K52 : ∀ t, Steps p.tables e below (T47.setTop (mkF m 92 #[.val (.int p0), .val (.int p1), .val (.ref b2), .val (.int (w0_1 p1)), .val (.int (w0_m2 p1)), .val (.int (w0_m3 p0))] [(.int (w0_m2 p1))])) t → Steps p.tables e below S0 t := fun t k => K47 t (by
    refine XS.istore X47.here hx rfl (hb hby at_88) rfl (l' := #[.val (.int p0), .val (.int p1), .val (.ref b2), .val (.int (w0_1 p1)), .val (.int (w0_m2 p1)), .val (.int (w0_m3 p0))]) rfl ?_
    show Steps p.tables e below (T47.setTop (mkF m 90 #[.val (.int p0), .val (.int p1), .val (.ref b2), .val (.int (w0_1 p1)), .val (.int (w0_m2 p1)), .val (.int (w0_m3 p0))] [])) _
    refine XS.iload X47.here hx rfl (hb hby at_90) rfl ?_
    show Steps p.tables e below (T47.setTop (mkF m 92 #[.val (.int p0), .val (.int p1), .val (.ref b2), .val (.int (w0_1 p1)), .val (.int (w0_m2 p1)), .val (.int (w0_m3 p0))] [(.int (w0_m2 p1))])) _
    exact k)
  by_cases hc92_0 : (w0_m2 p1) = (0 : Int32)
  · -- yes
    have K53 : ∀ t, Steps p.tables e below (T47.setTop (mkF m 105 #[.val (.int p0), .val (.int p1), .val (.ref b2), .val (.int (w0_1 p1)), .val (.int (w0_m2 p1)), .val (.int (w0_m3 p0))] [(.int (0 : Int32))])) t → Steps p.tables e below S0 t := fun t k => K52 t (by
      refine XS.ifYes X47.here hx rfl (pc0 := 92) (pc' := 104) rfl (hb hby at_92) rfl (XT.i0_eq_t hc92_0) (by decide) (by decide) ?_
      show Steps p.tables e below (T47.setTop (mkF m 104 #[.val (.int p0), .val (.int p1), .val (.ref b2), .val (.int (w0_1 p1)), .val (.int (w0_m2 p1)), .val (.int (w0_m3 p0))] [])) _
      refine XS.iconst X47.here hx rfl (hb hby at_104) ?_
      show Steps p.tables e below (T47.setTop (mkF m 105 #[.val (.int p0), .val (.int p1), .val (.ref b2), .val (.int (w0_1 p1)), .val (.int (w0_m2 p1)), .val (.int (w0_m3 p0))] [(.int (0 : Int32))])) _
      exact k)
    obtain ⟨fs, hr, hrun, hended, hW, hsame⟩ := X47.leave (v := some (.int (0 : Int32))) (fun h => by rw [Bd.returns] at h; cases h)
    refine ⟨_, _, ?_, hrun, hended, _, _, rfl, ?_, ⟨_, rfl⟩, hW, hsame.mono (by decide) (by decide)⟩
    · rw [← hS0]; exact K53 _ (retN X47 hx (t := .boolean) Bd.returns (by simp) (hb hby at_105) hr)
    · show Q0 Z p0 p1 h0 n0 _ T47.heap _
      rw [e47]
      have qr : (0 : Int32) = (w0_r4 p0 p1) := by unfold w0_r4; rw [if_pos hc92_0]
      exact ⟨congrArg (fun z => some (Value.int z)) qr, N47⟩
  · -- no
    have K54 : ∀ t, Steps p.tables e below (T47.setTop (mkF m 97 #[.val (.int p0), .val (.int p1), .val (.ref b2), .val (.int (w0_1 p1)), .val (.int (w0_m2 p1)), .val (.int (w0_m3 p0))] [(.int (w0_m3 p0))])) t → Steps p.tables e below S0 t := fun t k => K52 t (by
      refine XS.ifNo X47.here hx rfl (hb hby at_92) rfl (XT.i0_eq_f hc92_0) ?_
      show Steps p.tables e below (T47.setTop (mkF m 95 #[.val (.int p0), .val (.int p1), .val (.ref b2), .val (.int (w0_1 p1)), .val (.int (w0_m2 p1)), .val (.int (w0_m3 p0))] [])) _
      refine XS.iload X47.here hx rfl (hb hby at_95) rfl ?_
      show Steps p.tables e below (T47.setTop (mkF m 97 #[.val (.int p0), .val (.int p1), .val (.ref b2), .val (.int (w0_1 p1)), .val (.int (w0_m2 p1)), .val (.int (w0_m3 p0))] [(.int (w0_m3 p0))])) _
      exact k)
    by_cases hc97_1 : (w0_m3 p0) = (0 : Int32)
    · -- yes
      have K55 : ∀ t, Steps p.tables e below (T47.setTop (mkF m 105 #[.val (.int p0), .val (.int p1), .val (.ref b2), .val (.int (w0_1 p1)), .val (.int (w0_m2 p1)), .val (.int (w0_m3 p0))] [(.int (0 : Int32))])) t → Steps p.tables e below S0 t := fun t k => K54 t (by
        refine XS.ifYes X47.here hx rfl (pc0 := 97) (pc' := 104) rfl (hb hby at_97) rfl (XT.i0_eq_t hc97_1) (by decide) (by decide) ?_
        show Steps p.tables e below (T47.setTop (mkF m 104 #[.val (.int p0), .val (.int p1), .val (.ref b2), .val (.int (w0_1 p1)), .val (.int (w0_m2 p1)), .val (.int (w0_m3 p0))] [])) _
        refine XS.iconst X47.here hx rfl (hb hby at_104) ?_
        show Steps p.tables e below (T47.setTop (mkF m 105 #[.val (.int p0), .val (.int p1), .val (.ref b2), .val (.int (w0_1 p1)), .val (.int (w0_m2 p1)), .val (.int (w0_m3 p0))] [(.int (0 : Int32))])) _
        exact k)
      obtain ⟨fs, hr, hrun, hended, hW, hsame⟩ := X47.leave (v := some (.int (0 : Int32))) (fun h => by rw [Bd.returns] at h; cases h)
      refine ⟨_, _, ?_, hrun, hended, _, _, rfl, ?_, ⟨_, rfl⟩, hW, hsame.mono (by decide) (by decide)⟩
      · rw [← hS0]; exact K55 _ (retN X47 hx (t := .boolean) Bd.returns (by simp) (hb hby at_105) hr)
      · show Q0 Z p0 p1 h0 n0 _ T47.heap _
        rw [e47]
        have qr : (0 : Int32) = (w0_r4 p0 p1) := by unfold w0_r4; rw [if_neg hc92_0, if_pos hc97_1]
        exact ⟨congrArg (fun z => some (Value.int z)) qr, N47⟩
    · -- no
      have K56 : ∀ t, Steps p.tables e below (T47.setTop (mkF m 105 #[.val (.int p0), .val (.int p1), .val (.ref b2), .val (.int (w0_1 p1)), .val (.int (w0_m2 p1)), .val (.int (w0_m3 p0))] [(.int (1 : Int32))])) t → Steps p.tables e below S0 t := fun t k => K54 t (by
        refine XS.ifNo X47.here hx rfl (hb hby at_97) rfl (XT.i0_eq_f hc97_1) ?_
        show Steps p.tables e below (T47.setTop (mkF m 100 #[.val (.int p0), .val (.int p1), .val (.ref b2), .val (.int (w0_1 p1)), .val (.int (w0_m2 p1)), .val (.int (w0_m3 p0))] [])) _
        refine XS.iconst X47.here hx rfl (hb hby at_100) ?_
        show Steps p.tables e below (T47.setTop (mkF m 101 #[.val (.int p0), .val (.int p1), .val (.ref b2), .val (.int (w0_1 p1)), .val (.int (w0_m2 p1)), .val (.int (w0_m3 p0))] [(.int (1 : Int32))])) _
        refine XS.goto X47.here hx rfl (pc0 := 101) (pc' := 105) rfl (hb hby at_101) (by decide) (by decide) ?_
        show Steps p.tables e below (T47.setTop (mkF m 105 #[.val (.int p0), .val (.int p1), .val (.ref b2), .val (.int (w0_1 p1)), .val (.int (w0_m2 p1)), .val (.int (w0_m3 p0))] [(.int (1 : Int32))])) _
        exact k)
      obtain ⟨fs, hr, hrun, hended, hW, hsame⟩ := X47.leave (v := some (.int (1 : Int32))) (fun h => by rw [Bd.returns] at h; cases h)
      refine ⟨_, _, ?_, hrun, hended, _, _, rfl, ?_, ⟨_, rfl⟩, hW, hsame.mono (by decide) (by decide)⟩
      · rw [← hS0]; exact K56 _ (retN X47 hx (t := .boolean) Bd.returns (by simp) (hb hby at_105) hr)
      · show Q0 Z p0 p1 h0 n0 _ T47.heap _
        rw [e47]
        have qr : (1 : Int32) = (w0_r4 p0 p1) := by unfold w0_r4; rw [if_neg hc92_0, if_neg hc97_1]
        exact ⟨congrArg (fun z => some (Value.int z)) qr, N47⟩
set_option maxRecDepth 65536 in
set_option maxHeartbeats 40000000 in
theorem comes_1 {Post : Tables → Env → Array Value → State → Outcome → State → Prop} (hpost : ∀ tb e args s v u, (limb_1_1.after args s (.returned v) u = true ∧ limb_1_2.after args s (.returned v) u = true ∧ True) → FrameEnd s (.returned v) u (Jvm.fieldLocs frame_1_writes args s ++ Jvm.arrayLocs frame_1_arrays args s ++ Jvm.staticLocs frame_1_statics s) 16 128 → Post tb e args s (.returned v) u) :
    ArmFor flags0 classFile x code maxLocals ret World_1 tables_1 room_1 Calls_1 rest_1 Pre_1 Post := by
  intro l hfl _ _ p e ha hc hk s m args below hf hA hF happ hP
  obtain ⟨hcalls, hrest, hpre⟩ := hP
  obtain ⟨-, -, -, hnamed, -, -, -, hat⟩ := (Spec.applies_iff hf).mp happ
  obtain ⟨hg, hn⟩ := and_e (Cond.before_iff.mp (show (Jvm.Cond.and given_1 narrow_1).before args s = true from hpre))
  obtain ⟨hcount, hv0⟩ := and_e hg
  obtain ⟨hi0, hv1⟩ := and_e hv0
  have hi1 := hv1
  obtain ⟨w0, w1, rfl⟩ : ∃ w0 w1 : Value, args = #[w0, w1] := by
    have hs : args.size = 2 := by simpa [Cond.value, given_1] using hcount
    obtain ⟨L⟩ := args
    match L, hs with
    | [w0, w1], _ => exact ⟨w0, w1, rfl⟩
  have hw := fun d (hd : d ∈ tables_1) => atoms_spec (ws := Jvm.Cond.code x code maxLocals ret :: tables_1) hat d (List.mem_cons_of_mem _ hd)
  have hfit : Fit s := fun {y c} hc i hi => by
    obtain ⟨ha, rfl⟩ := Array.getElem?_eq_some_iff.mp hc
    have q := List.all_eq_true.mp ((Array.all_eq_true_iff_forall_mem.mp hF) _ (Array.getElem_mem ha)) i (List.mem_range.mpr hi)
    simpa [Array.getElem?_eq_getElem hi] using q
  obtain ⟨i0, ei0⟩ := is_v hi0
  obtain rfl : w0 = (.int i0) := Option.some.inj ei0
  obtain ⟨i1, ei1⟩ := is_v hi1
  obtain rfl : w1 = (.int i1) := Option.some.inj ei1
  obtain ⟨n, o, h1, h2, h3, _, L, rfl, ⟨rfl, N⟩, hq⟩ := rm0 l s _ hw tables_1 i0 i1  s.heap s.heap.size (Nat.le_refl _)  p e ha hc hk s m _ below hf ((Spec.applies_iff_loose hf).mp happ).1 ⟨rfl, State.Warmed39.refl s, rfl⟩ trivial
  refine ⟨n, _, h1, h2, h3, hpost _ _ _ _ _ _ ⟨Cond.after_iff.mpr rfl, Cond.after_iff.mpr (eq_i res_at (Term.int_eval (1)) (congrArg Value.int (plain_law i0 i1))), trivial⟩ ⟨hq.1, hq.2.1, (hq.2.2.sift fun y hy => Or.inr (N y hy)).mono (by decide) (by decide)⟩⟩
theorem main_1_1 : Claimed_1_1 := comes_1 fun _ _ _ _ _ _ h hF => ⟨h.1, hF⟩
theorem main_1_2 : Claimed_1_2 := comes_1 fun _ _ _ _ _ _ h hF => ⟨h.2.1, hF⟩
end Jvm.Pilot.@@N@@
namespace Jvm.Pilot.@@N@@
open Jvm Jvm.ClassFile Sem Op Lib Jvm.Free Jvm.Stand Jvm.Pilot.@@N@@.Jvm.D
/-! MADE BY PROGRAM (witnessworld.py) out of the Statement's table words and the real class files: 10 classes; the members and pool entries that the words name. The judged class is class 1, her method 2. -/
namespace start1
open Jvm.ClassFile
def u (s : String) : CpInfo := .utf8 (stringToUtf16 s)
/-- a pool by its gaps: so many unusable entries, then the entry; so many at the end -/
def gap : Nat → List CpInfo → List CpInfo
  | 0, r => r
  | n + 1, r => .unusable :: gap n r
def poolList (es : List (Nat × CpInfo)) (last : Nat) : List CpInfo := es.foldr (fun e r => gap e.1 (e.2 :: r)) (gap last [])
def pool (es : List (Nat × CpInfo)) (last : Nat) : Array CpInfo := ⟨poolList es last⟩
def fileOf (pool : Array CpInfo) (this : Nat) (attrs : Array Attribute := #[]) (ms : Array MethodInfo := #[]) (fl : Nat := 33) (sup : Nat := 0) (ifs : Array Nat := #[]) (fds : Array FieldInfo := #[]) : ClassFile where
  minorVersion := 0
  majorVersion := 65
  constantPool := pool
  accessFlags := fl
  thisClass := this
  superClass := sup
  interfaces := ifs
  fields := fds
  methods := ms
  attributes := attrs
def plain (name : String) (sup : Option ClassId) : Class where
  name := name
  kind := .ordinary
  loader := none
  accessFlags := 33
  super := sup
  interfaces := #[]
  cf := none
  fields := #[]
  methods := #[]
  instanceTypes := #[]
  staticTypes := #[]
  resolved := #[]
  callSites := []
  init := .initialized
  statics := none
  mirror := none

def pool0 : Array CpInfo := pool [(5, u "<init>"), (0, u "()V"), (1, .class_ 10), (1, u "java/lang/Object")] 113

def k0m0 : Method := { name := "<init>", desc := "()V", sig := { parameters := [], returnType := none }, accessFlags := 1, code := none }
/-- java/lang/Object -/
def k0 : Class := { plain "java/lang/Object" none with
  accessFlags := 33
  interfaces := #[]
  cf := some (fileOf pool0 8 #[] #[{ accessFlags := 1, nameIndex := 5, descriptorIndex := 6, attributes := #[] }] 33 0 #[] #[])
  fields := #[]
  methods := #[k0m0]
  instanceTypes := #[]
  staticTypes := #[]
  resolved := Array.replicate 124 none
  statics := none }

def pool1 : Array CpInfo := pool [(2, .class_ 4), (1, u "java/lang/Object"), (0, u "<init>"), (0, u "()V"), (0, .integer 65545), (0, .integer 2147483680), (0, .methodref 10 11), (0, .class_ 12), (0, .nameAndType 13 14), (0, u "biaxial/Statement"), (0, u "isBlank"), (0, u "(I)Z"), (0, .methodref 16 17), (0, .class_ 18), (0, .nameAndType 19 14), (0, u "biaxial/StatementIsBlankPinLaw"), (0, u "expected"), (3, u "law"), (0, u "(II)Z")] 4

def k1m0 : Method := { name := "<init>", desc := "()V", sig := { parameters := [], returnType := none }, accessFlags := 2, code := none }
def k1c1 : Code := { maxStack := 2, maxLocals := 1, code := method_2_code, exceptionTable := #[], attributes := #[] }
def k1m1 : Method := { name := "expected", desc := "(I)Z", sig := { parameters := [.int], returnType := some .boolean }, accessFlags := 10, code := some k1c1 }
def k1c2 : Code := { maxStack := 4, maxLocals := 6, code := code, exceptionTable := #[], attributes := #[] }
def k1m2 : Method := { name := "law", desc := "(II)Z", sig := { parameters := [.int, .int], returnType := some .boolean }, accessFlags := 9, code := some k1c2 }
/-- biaxial/StatementIsBlankPinLaw -/
def k1 : Class := { plain "biaxial/StatementIsBlankPinLaw" (some 0) with
  accessFlags := 49
  interfaces := #[]
  cf := some (fileOf pool1 16 #[] #[{ accessFlags := 2, nameIndex := 5, descriptorIndex := 6, attributes := #[] }, { accessFlags := 10, nameIndex := 19, descriptorIndex := 14, attributes := #[] }, { accessFlags := 9, nameIndex := 23, descriptorIndex := 24, attributes := #[] }] 49 2 #[] #[])
  fields := #[]
  methods := #[k1m0, k1m1, k1m2]
  instanceTypes := #[]
  staticTypes := #[]
  resolved := Array.replicate 29 none
  statics := none }

def pool2 : Array CpInfo := pool [(2, .class_ 4), (1, u "java/lang/Object"), (0, u "<init>"), (0, u "()V"), (0, .class_ 8), (0, u "java/lang/Record")] 13

def k2m0 : Method := { name := "<init>", desc := "()V", sig := { parameters := [], returnType := none }, accessFlags := 4, code := none }
/-- java/lang/Record -/
def k2 : Class := { plain "java/lang/Record" (some 0) with
  accessFlags := 1057
  interfaces := #[]
  cf := some (fileOf pool2 7 #[] #[{ accessFlags := 4, nameIndex := 5, descriptorIndex := 6, attributes := #[] }] 1057 2 #[] #[])
  fields := #[]
  methods := #[k2m0]
  instanceTypes := #[]
  staticTypes := #[]
  resolved := Array.replicate 22 none
  statics := none }

def pool3 : Array CpInfo := pool [(2, .class_ 4), (1, u "java/lang/Record"), (3, .class_ 10), (1, u "biaxial/Statement"), (0, u "keyword"), (0, u "Lbiaxial/Statement$Keyword;"), (2, u "values"), (0, u "Ljava/util/List;"), (21, .class_ 40), (1, u "biaxial/Statement$Keyword"), (33, u "isBlank"), (0, u "(I)Z"), (12, .class_ 89), (0, u "biaxial/Statement$Kind"), (27, .class_ 118), (0, u "biaxial/Statement$Field"), (150, .class_ 270), (0, u "biaxial/Statement$Names")] 56

def k3c0 : Code := { maxStack := 2, maxLocals := 1, code := prog_45_method_12_code, exceptionTable := #[], attributes := #[] }
def k3m0 : Method := { name := "isBlank", desc := "(I)Z", sig := { parameters := [.int], returnType := some .boolean }, accessFlags := 8, code := some k3c0 }
/-- biaxial/Statement -/
def k3 : Class := { plain "biaxial/Statement" (some 2) with
  accessFlags := 48
  interfaces := #[]
  cf := some (fileOf pool3 8 #[.nestMembers #[38, 88, 117, 269]] #[{ accessFlags := 8, nameIndex := 74, descriptorIndex := 75, attributes := #[] }] 48 2 #[] #[{ accessFlags := 18, nameIndex := 11, descriptorIndex := 12, attributes := #[] }, { accessFlags := 18, nameIndex := 15, descriptorIndex := 16, attributes := #[] }])
  fields := #[{ name := "keyword", type := (.object "biaxial/Statement$Keyword"), accessFlags := 18, slot := 0, constantValue := 0 }, { name := "values", type := (.object "java/util/List"), accessFlags := 18, slot := 1, constantValue := 0 }]
  methods := #[k3m0]
  instanceTypes := #[(.object "biaxial/Statement$Keyword"), (.object "java/util/List")]
  staticTypes := #[]
  resolved := Array.replicate 327 none
  statics := none }

def pool4 : Array CpInfo := pool [(1, u "java/lang/Cloneable"), (0, .class_ 1), (0, u "java/lang/Object"), (0, .class_ 3)] 3

/-- java/lang/Cloneable -/
def k4 : Class := { plain "java/lang/Cloneable" (some 0) with
  accessFlags := 1537
  interfaces := #[]
  cf := some (fileOf pool4 2 #[] #[] 1537 4 #[] #[])
  fields := #[]
  methods := #[]
  instanceTypes := #[]
  staticTypes := #[]
  resolved := Array.replicate 8 none
  statics := none }

def pool5 : Array CpInfo := pool [(1, u "java/io/Serializable"), (0, .class_ 1), (0, u "java/lang/Object"), (0, .class_ 3)] 3

/-- java/io/Serializable -/
def k5 : Class := { plain "java/io/Serializable" (some 0) with
  accessFlags := 1537
  interfaces := #[]
  cf := some (fileOf pool5 2 #[] #[] 1537 4 #[] #[])
  fields := #[]
  methods := #[]
  instanceTypes := #[]
  staticTypes := #[]
  resolved := Array.replicate 8 none
  statics := none }

/-- the primitive byte -/
def k6 : Class := { plain "byte" none with kind := .primitive 'B', accessFlags := 0x411 }
/-- [B -/
def k7 : Class := { plain "[B" (some 0) with kind := .array 6 .byte, interfaces := #[4, 5], accessFlags := 1041 }

/-- the primitive int -/
def k8 : Class := { plain "int" none with kind := .primitive 'I', accessFlags := 0x411 }
/-- [I -/
def k9 : Class := { plain "[I" (some 0) with kind := .array 8 .int, interfaces := #[4, 5], accessFlags := 1041 }

def heap : Heap := #[]
def classes : Array Class := #[k0, k1, k2, k3, k4, k5, k6, k7, k8, k9]
def interned : List (Array UInt16 × Addr) := []
def slotsUsed : Nat := 0
def theMethod : MethodId := ⟨1, 2⟩
def args0 : Array Value := #[.int 5, .int 3]
def aboutOver (below : List Frame) : State where
  vm := { classes := classes, interned := interned.toArray }
  heap := heap
  slotsUsed := slotsUsed
  threads := #[{ frames := .invoking theMethod args0 :: below }]
def below0 : List Frame := [.native { method := ⟨0, 0⟩, args := #[] }]
def about1 : State := aboutOver below0
def p0 : Program := .bare "" "" ""
def e0 : Env := launch0.env 0 0 0
theorem w_frames : about1.frames = Frame.invoking theMethod args0 :: below0 := rfl
set_option maxRecDepth 65536 in
theorem w_args : argsFit about1.vm theMethod args0 = true := by decide +kernel
set_option maxRecDepth 65536 in
theorem w_heap : heapFits about1 = true := by decide +kernel
set_option maxRecDepth 65536 in
theorem w_runnable : about1.curStatus? = some .runnable := by decide +kernel
set_option maxRecDepth 65536 in
theorem w_alone : about1.alone = true := by decide +kernel
set_option maxRecDepth 65536 in
theorem w_named : about1.methodNamed? x = some theMethod := by decide +kernel
set_option maxRecDepth 65536 in
theorem w_hears : about1.hears theMethod below0 = true := by decide +kernel
set_option maxRecDepth 65536 in
theorem w_ripe : about1.ripe theMethod args0 below0 = true := by decide +kernel
theorem w_running : about1.status = .running := rfl
set_option maxRecDepth 65536 in
theorem w_room : about1.hasRoom e0.platform room_1 = true :=
  launch0.hasRoom_least _ room_1 (by decide +kernel) (by decide +kernel) (by decide +kernel) (by decide +kernel) (by decide +kernel) (by decide +kernel)
theorem allAtoms_all (ts : List Jvm.Cond) (a : Array Jvm.Value) (st : Jvm.State) : (allAtoms ts).before a st = ts.all (fun c => c.before a st) := by
  induction ts with
  | nil => rfl
  | cons c t ih =>
    show (Jvm.Cond.and c (allAtoms t)).before a st = _
    rw [Jvm.Cond.before_and, ih, List.all_cons]
def words1 : List Jvm.Cond := Jvm.Cond.code x code maxLocals ret :: tables_1
/-- a 'code' word, met by the world's own term for the bytes: nothing is compared byte by byte -/
theorem code_word {y : MethodName} {bytes : ByteArray} {mx : Nat} {rt : Option FieldType} {a : Array Value} {s : State} {m : MethodId} {meth : Method} {c : Code} (h1 : s.methodNamed? y = some m) (h2 : s.vm.method? m = some meth) (h3 : meth.code = some c) (h4 : c.code = bytes)
    (h5 : (c.maxLocals == mx && c.exceptionTable.isEmpty && decide (c.maxStack ≤ mostOperands) && decide (meth.sig.returnType = rt) && !meth.locks && decide (parseMethodDescriptor y.desc = some meth.sig)) = true) : (Jvm.Cond.code y bytes mx rt).before a s = true := by
  simp only [Bool.and_eq_true, beq_iff_eq, Bool.not_eq_true', decide_eq_true_eq] at h5
  obtain ⟨⟨⟨⟨⟨g1, g2⟩, g3⟩, g4⟩, g5⟩, g6⟩ := h5
  simp [Cond.before, Cond.holds, Cond.value, h1, h2, h3, h4, g1, g2, g3, g4, g5, g6]
def isCode : Jvm.Cond → Bool
  | .code _ _ _ _ => true
  | _ => false
theorem all_split {L : List Jvm.Cond} {P : Jvm.Cond → Bool} (h1 : L.all (fun c => isCode c || P c) = true) (h2 : ∀ c ∈ L.filter isCode, P c = true) : L.all P = true := by
  refine List.all_eq_true.mpr fun c hc => ?_
  have h := List.all_eq_true.mp h1 c hc
  rcases Bool.eq_false_or_eq_true (isCode c) with hi | hi
  · exact h2 c (List.mem_filter.mpr ⟨hc, hi⟩)
  · simpa [hi] using h
set_option maxRecDepth 65536 in
theorem w_c0 : (Jvm.Cond.code x code maxLocals ret).before args0 about1 = true := code_word (m := ⟨1, 2⟩) (meth := k1m2) (c := k1c2) (by decide +kernel) rfl rfl rfl (by decide +kernel)
set_option maxRecDepth 65536 in
theorem w_c1 : (Jvm.Cond.code ({ cls := "biaxial/Statement", name := "isBlank", desc := "(I)Z" } : Jvm.MethodName) prog_45_method_12_code (1 : Nat) (Option.some Jvm.ClassFile.FieldType.boolean)).before args0 about1 = true := code_word (m := ⟨3, 0⟩) (meth := k3m0) (c := k3c0) (by decide +kernel) rfl rfl rfl (by decide +kernel)
set_option maxRecDepth 65536 in
theorem w_c2 : (Jvm.Cond.code ({ cls := "biaxial/StatementIsBlankPinLaw", name := "expected", desc := "(I)Z" } : Jvm.MethodName) method_2_code (1 : Nat) (Option.some Jvm.ClassFile.FieldType.boolean)).before args0 about1 = true := code_word (m := ⟨1, 1⟩) (meth := k1m1) (c := k1c1) (by decide +kernel) rfl rfl rfl (by decide +kernel)
def codes1 : List Jvm.Cond := [Jvm.Cond.code x code maxLocals ret, Jvm.Cond.code ({ cls := "biaxial/Statement", name := "isBlank", desc := "(I)Z" } : Jvm.MethodName) prog_45_method_12_code (1 : Nat) (Option.some Jvm.ClassFile.FieldType.boolean), Jvm.Cond.code ({ cls := "biaxial/StatementIsBlankPinLaw", name := "expected", desc := "(I)Z" } : Jvm.MethodName) method_2_code (1 : Nat) (Option.some Jvm.ClassFile.FieldType.boolean)]
set_option maxRecDepth 65536 in
theorem codes_eq : words1.filter isCode = codes1 := rfl
theorem w_codes : ∀ c ∈ words1.filter isCode, c.before args0 about1 = true := by
  rw [codes_eq]
  intro c hc
  simp only [codes1, List.mem_cons, List.not_mem_nil, or_false] at hc
  rcases hc with rfl | rfl | rfl
  · exact w_c0
  · exact w_c1
  · exact w_c2
set_option maxRecDepth 65536 in
theorem w_t1 : words1.all (fun c => isCode c || c.before args0 about1) = true := by decide +kernel
theorem w_tables : (allAtoms (Jvm.Cond.code x code maxLocals ret :: tables_1)).before args0 about1 = true := by
  rw [allAtoms_all]
  show words1.all (fun c => c.before args0 about1) = true
  refine all_split ?_ w_codes
  rw [w_t1]
set_option maxRecDepth 65536 in
theorem w_case : (Jvm.Cond.and given_1 narrow_1).before args0 about1 = true := by decide +kernel
theorem w_applies : (headSpec (Jvm.Cond.code x code maxLocals ret :: tables_1) room_1).applies x e0.platform about1 = true :=
  (Spec.applies_iff w_frames).mpr ⟨w_running, w_runnable, w_alone, w_named, w_hears, w_ripe, w_room, w_tables⟩
theorem atStart : AtStart classFile x code maxLocals ret World_1 tables_1 room_1 Calls_1 rest_1 Pre_1 launch0 p0 e0 about1 theMethod args0 below0 :=
  ⟨lists_1, trivial, launch0.admits_env _ _ _, launch0.least_env, fairChoices_fair.cas, fairChoices_fair.clock, w_frames, w_args, w_heap, w_applies, trivial, trivial, w_case⟩
end start1
theorem witness_1 : WitnessClaimed_1 := ⟨start1.p0, start1.e0, start1.about1, start1.theMethod, start1.args0, start1.below0, start1.atStart⟩
end Jvm.Pilot.@@N@@
