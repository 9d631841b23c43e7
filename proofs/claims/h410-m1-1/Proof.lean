import JvmDerived
import JvmDerived.Pilot.@@N@@Statement
import JvmDerived.Pilot.@@N@@Code
set_option linter.unusedVariables false
set_option linter.unusedSimpArgs false
namespace Jvm.RoadKit
open Sem ClassFile Op Lib Jvm.Stand Jvm.Free Jvm.LawKit
section New
variable {p : Program} {l : Launch} {e : Env} {R : Room} {s : State} {m : MethodId} {args : Array Value} {below : List Frame} {meth : Method} {c : Code} {T : State} {locs : List Loc} {cells slots : Nat}
theorem retI (X : Stand p l e R s m args below meth c T locs cells slots) (hx : p.tables.exec = Jvm.exec) {pc : Nat} {Ls : Array Slot} {z : Int32} {rest : List Value} (hret : meth.sig.returnType = some .int) (hd : decode c.code pc = .ok (.ireturn, 1)) {fs : List Frame}
    (hl : ∀ (f : JFrame) (acts : List Action), f.method = m → f.locked = none → f.entered = [] → (doReturn e (T.setTop f) acts (some (.int z))).1 = T.setFrames fs) : Steps p.tables e below (T.setTop (mkF m pc Ls (.int z :: rest))) (T.setFrames fs) :=
  retOut X hx hret rfl (Or.inl ⟨rfl, Or.inl rfl, _, rfl⟩) hd hl
end New
end Jvm.RoadKit
namespace Jvm.Pilot.@@N@@
open Jvm Jvm.ClassFile Sem Op Lib Jvm.Free Jvm.Stand Jvm.LawKit Jvm.RoadKit Bundle Jvm.Pilot.@@N@@.Jvm.D
def w1_r1 (p0 : Int32) : Int32 := (if p0 = (8203 : Int32) then (1 : Int32) else (if p0 < (8288 : Int32) then (if p0 = (65279 : Int32) then (1 : Int32) else (0 : Int32)) else (if (8292 : Int32) < p0 then (if p0 = (65279 : Int32) then (1 : Int32) else (0 : Int32)) else (1 : Int32))))
def w2_r1 (p0 : Int32) : Int32 := (if p0 = (8203 : Int32) then (1 : Int32) else (if p0 = (8288 : Int32) then (1 : Int32) else (if p0 = (8289 : Int32) then (1 : Int32) else (if p0 = (8290 : Int32) then (1 : Int32) else (if p0 = (8291 : Int32) then (1 : Int32) else (if p0 = (8292 : Int32) then (1 : Int32) else (if p0 = (65279 : Int32) then (1 : Int32) else (0 : Int32))))))))
def w0_1 (p1 : Int32) : Int32 := (((p1.toUInt32 >>> ((1 : Int32) &&& 31).toUInt32).toInt32) &&& (3 : Int32))
def w0_m2 (p1 : Int32) : Int32 := (if (w0_1 p1) = (0 : Int32) then (8203 : Int32) else (if (w0_1 p1) = (1 : Int32) then (8288 : Int32) else (if (w0_1 p1) = (2 : Int32) then (8292 : Int32) else (65279 : Int32))))
def w0_3 (p0 : Int32) (p1 : Int32) : Int32 := (((w0_m2 p1) + ((p0 &&& (7 : Int32)) - (3 : Int32))) &&& (65535 : Int32))
def w0_m4 (p0 : Int32) (p1 : Int32) : Int32 := (if (p1 &&& (1 : Int32)) = (0 : Int32) then (p0 &&& (65535 : Int32)) else (w0_3 p0 p1))
def w0_5 (p0 : Int32) (p1 : Int32) : Int32 := ((w0_m4 p0 p1).toUInt32.toUInt16.toUInt32.toInt32)
def w0_r6 (p0 : Int32) (p1 : Int32) : Int32 := (if (w1_r1 (w0_5 p0 p1)) = (w2_r1 (w0_m4 p0 p1)) then (1 : Int32) else (0 : Int32))
theorem own_i2c (x : Int32) (h0 : 0 ≤ x.toInt) (h1 : x.toInt < 65536) : x.toUInt32.toUInt16.toUInt32.toInt32 = x := by
  have h := c_i2c x
  apply Int32.toInt_inj.mp
  omega
theorem own_12 (x : Int32) : w1_r1 x = w2_r1 x := by
  unfold w1_r1 w2_r1
  have l1 : (8203 : Int32).toInt = 8203 := rfl
  have l2 : (8288 : Int32).toInt = 8288 := rfl
  have l3 : (8289 : Int32).toInt = 8289 := rfl
  have l4 : (8290 : Int32).toInt = 8290 := rfl
  have l5 : (8291 : Int32).toInt = 8291 := rfl
  have l6 : (8292 : Int32).toInt = 8292 := rfl
  have l7 : (65279 : Int32).toInt = 65279 := rfl
  repeat' split
  all_goals first | rfl | (exfalso; simp only [← Int32.toInt_inj, Int32.lt_iff_toInt_lt, l1, l2, l3, l4, l5, l6, l7] at *; omega)
theorem own_rng (p0 p1 : Int32) : 0 ≤ (w0_m4 p0 p1).toInt ∧ (w0_m4 p0 p1).toInt < 65536 := by
  unfold w0_m4
  split
  · have h := c_mask p0 65535 16 (by decide) (by decide)
    omega
  · unfold w0_3
    have h := c_mask ((w0_m2 p1) + ((p0 &&& (7 : Int32)) - (3 : Int32))) 65535 16 (by decide) (by decide)
    omega
theorem plain_law (p0 p1 : Int32) : w0_r6 p0 p1 = 1 := by
  unfold w0_r6 w0_5
  rw [own_i2c _ (own_rng p0 p1).1 (own_rng p0 p1).2, own_12, if_pos rfl]

theorem d1_0 : decode prog_19_method_16_code 0 = .ok (.iload_n 0, 1) := by decide +kernel
theorem d1_1 : decode prog_19_method_16_code 1 = .ok (.sipush 8203, 3) := by decide +kernel
theorem d1_4 : decode prog_19_method_16_code 4 = .ok (.if_icmp .eq 23, 3) := by decide +kernel
theorem d1_7 : decode prog_19_method_16_code 7 = .ok (.iload_n 0, 1) := by decide +kernel
theorem d1_8 : decode prog_19_method_16_code 8 = .ok (.sipush 8288, 3) := by decide +kernel
theorem d1_11 : decode prog_19_method_16_code 11 = .ok (.if_icmp .lt 10, 3) := by decide +kernel
theorem d1_14 : decode prog_19_method_16_code 14 = .ok (.iload_n 0, 1) := by decide +kernel
theorem d1_15 : decode prog_19_method_16_code 15 = .ok (.sipush 8292, 3) := by decide +kernel
theorem d1_18 : decode prog_19_method_16_code 18 = .ok (.if_icmp .le 9, 3) := by decide +kernel
theorem d1_21 : decode prog_19_method_16_code 21 = .ok (.iload_n 0, 1) := by decide +kernel
theorem d1_22 : decode prog_19_method_16_code 22 = .ok (.ldc 34, 2) := by decide +kernel
theorem d1_24 : decode prog_19_method_16_code 24 = .ok (.if_icmp .ne 7, 3) := by decide +kernel
theorem d1_27 : decode prog_19_method_16_code 27 = .ok (.iconst 1, 1) := by decide +kernel
theorem d1_28 : decode prog_19_method_16_code 28 = .ok (.goto 4, 3) := by decide +kernel
theorem d1_31 : decode prog_19_method_16_code 31 = .ok (.iconst 0, 1) := by decide +kernel
theorem d1_32 : decode prog_19_method_16_code 32 = .ok (.ireturn, 1) := by decide +kernel
theorem pn1 : plainName "biaxial/Lines" = true := by first | (simp [plainName, overriddenIn]; done) | decide +kernel
theorem ef1 (m : MethodId) (p0 : Int32) : entryFrame m #[(.int p0)] 1 = mkF m 0 #[.val (.int p0)] [] := by first | (simp [entryFrame, mkF, argsToLocals, Value.category]; done) | rfl
def Q1 (Z : State) (p0 : Int32) (h0 : Heap) (n0 : Nat) (v : Option Value) (h : Heap) (L : List Loc) : Prop := v = some (.int (w1_r1 p0)) ∧ Fr n0 L ∧ h = h0
set_option maxRecDepth 65536 in
set_option maxHeartbeats 40000000 in
theorem rm1 (l : Launch) (Z : State) (a0 : Array Value) (hw : ∀ d ∈ tables_1, d.before a0 Z = true) (ws : List Jvm.Cond) (p0 : Int32) (h0 : Heap) (n0 : Nat) (Z0 : n0 ≤ h0.size) :
    MetFree l (⟨"biaxial/Lines", "isZeroWidth", "(C)Z"⟩ : MethodName) (head1 (Jvm.Cond.code (⟨"biaxial/Lines", "isZeroWidth", "(C)Z"⟩ : MethodName) prog_19_method_16_code 1 (some .boolean) :: ws) ({ frames := 0, cells := 0, slots := 0, locals := 0 } : Room)) (fun a U => a = #[(.int p0)] ∧ Z.Warmed39 U.vm ∧ U.heap = h0) (fun _ _ _ _ _ => True) (fun _ U o U' => ∃ v L, o = .returned v ∧ Q1 Z p0 h0 n0 v U'.heap L ∧ FrameEnd U o U' L ({ frames := 0, cells := 0, slots := 0, locals := 0 } : Room).cells ({ frames := 0, cells := 0, slots := 0, locals := 0 } : Room).slots) := by
  refine MetFree.of_bodySF (plainFor_of_name pn1) hisR ?_
  intro p e s m args below meth c s₁ Bd hml0 hP hK
  obtain ⟨rfl, hZ, hh⟩ := hP
  have hx := Bd.exec
  have hby := Bd.bytes
  have hml : c.maxLocals = 1 := hml0
  have hown : s.vm.findClass "biaxial/Lines" = some m.cls := findClass_of_methodNamed Bd.named
  have hnm := (name_of_methodNamed Bd.named Bd.method).1
  have X0 : Stand p l e ({ frames := 0, cells := 0, slots := 0, locals := 0 } : Room) s m #[(.int p0)] below meth c s₁ [] 0 0 := Stand.of_body Bd
  have e0 : s₁.heap = h0 := by rw [← hh, Bd.state]; rfl
  have N0 := Fr.nil n0
  obtain ⟨S0, hS0⟩ : ∃ S0, S0 = s₁.setTop (entryFrame m #[(.int p0)] 1) := ⟨_, rfl⟩
  have pre0 : ∀ t, Steps p.tables e below (s₁.setTop (mkF m 0 #[.val (.int p0)] [])) t → Steps p.tables e below S0 t := fun t k => by rw [hS0]; exact castTop (ef1 m p0) k
  have K1 : ∀ t, Steps p.tables e below (s₁.setTop (mkF m 4 #[.val (.int p0)] [(.int (8203 : Int32)), (.int p0)])) t → Steps p.tables e below S0 t := fun t k => pre0 t (by
    refine XS.iloadN X0.here hx rfl (hb hby d1_0) rfl ?_
    show Steps p.tables e below (s₁.setTop (mkF m 1 #[.val (.int p0)] [(.int p0)])) _
    refine XS.sipush X0.here hx rfl (hb hby d1_1) ?_
    show Steps p.tables e below (s₁.setTop (mkF m 4 #[.val (.int p0)] [(.int (8203 : Int32)), (.int p0)])) _
    exact k)
  by_cases hc4_0 : p0 = (8203 : Int32)
  · -- yes
    have K2 : ∀ t, Steps p.tables e below (s₁.setTop (mkF m 32 #[.val (.int p0)] [(.int (1 : Int32))])) t → Steps p.tables e below S0 t := fun t k => K1 t (by
      refine XS.icmpYes X0.here hx rfl (pc0 := 4) (pc' := 27) rfl (hb hby d1_4) rfl (XT.ii_eq_t hc4_0) (by decide) (by decide) ?_
      show Steps p.tables e below (s₁.setTop (mkF m 27 #[.val (.int p0)] [])) _
      refine XS.iconst X0.here hx rfl (hb hby d1_27) ?_
      show Steps p.tables e below (s₁.setTop (mkF m 28 #[.val (.int p0)] [(.int (1 : Int32))])) _
      refine XS.goto X0.here hx rfl (pc0 := 28) (pc' := 32) rfl (hb hby d1_28) (by decide) (by decide) ?_
      show Steps p.tables e below (s₁.setTop (mkF m 32 #[.val (.int p0)] [(.int (1 : Int32))])) _
      exact k)
    obtain ⟨fs, hr, hrun, hended, hW, hsame⟩ := X0.leave (v := some (.int (1 : Int32))) (fun h => by rw [Bd.returns] at h; cases h)
    refine ⟨_, _, ?_, hrun, hended, _, _, rfl, ?_, ⟨_, rfl⟩, hW, hsame.mono (by decide) (by decide)⟩
    · rw [← hS0]; exact K2 _ (retN X0 hx (t := .boolean) Bd.returns (by simp) (hb hby d1_32) hr)
    · show Q1 Z p0 h0 n0 _ s₁.heap _
      rw [e0]
      have qr : (1 : Int32) = (w1_r1 p0) := by unfold w1_r1; rw [if_pos hc4_0]
      exact ⟨congrArg (fun z => some (Value.int z)) qr, N0, rfl⟩
  · -- no
    have K3 : ∀ t, Steps p.tables e below (s₁.setTop (mkF m 11 #[.val (.int p0)] [(.int (8288 : Int32)), (.int p0)])) t → Steps p.tables e below S0 t := fun t k => K1 t (by
      refine XS.icmpNo X0.here hx rfl (hb hby d1_4) rfl (XT.ii_eq_f hc4_0) ?_
      show Steps p.tables e below (s₁.setTop (mkF m 7 #[.val (.int p0)] [])) _
      refine XS.iloadN X0.here hx rfl (hb hby d1_7) rfl ?_
      show Steps p.tables e below (s₁.setTop (mkF m 8 #[.val (.int p0)] [(.int p0)])) _
      refine XS.sipush X0.here hx rfl (hb hby d1_8) ?_
      show Steps p.tables e below (s₁.setTop (mkF m 11 #[.val (.int p0)] [(.int (8288 : Int32)), (.int p0)])) _
      exact k)
    by_cases hc11_1 : p0 < (8288 : Int32)
    · -- yes
      have K4 : ∀ t, Steps p.tables e below (s₁.setTop (mkF m 24 #[.val (.int p0)] [(.int (65279 : Int32)), (.int p0)])) t → Steps p.tables e below S0 t := fun t k => K3 t (by
        refine XS.icmpYes X0.here hx rfl (pc0 := 11) (pc' := 21) rfl (hb hby d1_11) rfl (XT.ii_lt_t hc11_1) (by decide) (by decide) ?_
        show Steps p.tables e below (s₁.setTop (mkF m 21 #[.val (.int p0)] [])) _
        refine XS.iloadN X0.here hx rfl (hb hby d1_21) rfl ?_
        show Steps p.tables e below (s₁.setTop (mkF m 22 #[.val (.int p0)] [(.int p0)])) _
        refine X0.ldcInt hx hown (mvT hZ (hw _ (List.mem_of_getElem? (i := 5) rfl))) (g := (mkF m 22 #[.val (.int p0)] [(.int p0)])) rfl (hb hby d1_22) _ ?_
        show Steps p.tables e below (s₁.setTop (mkF m 24 #[.val (.int p0)] [(.int (65279 : Int32)), (.int p0)])) _
        exact k)
      by_cases hc24_2 : p0 = (65279 : Int32)
      · -- yes
        have K5 : ∀ t, Steps p.tables e below (s₁.setTop (mkF m 32 #[.val (.int p0)] [(.int (1 : Int32))])) t → Steps p.tables e below S0 t := fun t k => K4 t (by
          refine XS.icmpNo X0.here hx rfl (hb hby d1_24) rfl (XT.ii_ne_f hc24_2) ?_
          show Steps p.tables e below (s₁.setTop (mkF m 27 #[.val (.int p0)] [])) _
          refine XS.iconst X0.here hx rfl (hb hby d1_27) ?_
          show Steps p.tables e below (s₁.setTop (mkF m 28 #[.val (.int p0)] [(.int (1 : Int32))])) _
          refine XS.goto X0.here hx rfl (pc0 := 28) (pc' := 32) rfl (hb hby d1_28) (by decide) (by decide) ?_
          show Steps p.tables e below (s₁.setTop (mkF m 32 #[.val (.int p0)] [(.int (1 : Int32))])) _
          exact k)
        obtain ⟨fs, hr, hrun, hended, hW, hsame⟩ := X0.leave (v := some (.int (1 : Int32))) (fun h => by rw [Bd.returns] at h; cases h)
        refine ⟨_, _, ?_, hrun, hended, _, _, rfl, ?_, ⟨_, rfl⟩, hW, hsame.mono (by decide) (by decide)⟩
        · rw [← hS0]; exact K5 _ (retN X0 hx (t := .boolean) Bd.returns (by simp) (hb hby d1_32) hr)
        · show Q1 Z p0 h0 n0 _ s₁.heap _
          rw [e0]
          have qr : (1 : Int32) = (w1_r1 p0) := by unfold w1_r1; rw [if_neg hc4_0, if_pos hc11_1, if_pos hc24_2]
          exact ⟨congrArg (fun z => some (Value.int z)) qr, N0, rfl⟩
      · -- no
        have K6 : ∀ t, Steps p.tables e below (s₁.setTop (mkF m 32 #[.val (.int p0)] [(.int (0 : Int32))])) t → Steps p.tables e below S0 t := fun t k => K4 t (by
          refine XS.icmpYes X0.here hx rfl (pc0 := 24) (pc' := 31) rfl (hb hby d1_24) rfl (XT.ii_ne_t hc24_2) (by decide) (by decide) ?_
          show Steps p.tables e below (s₁.setTop (mkF m 31 #[.val (.int p0)] [])) _
          refine XS.iconst X0.here hx rfl (hb hby d1_31) ?_
          show Steps p.tables e below (s₁.setTop (mkF m 32 #[.val (.int p0)] [(.int (0 : Int32))])) _
          exact k)
        obtain ⟨fs, hr, hrun, hended, hW, hsame⟩ := X0.leave (v := some (.int (0 : Int32))) (fun h => by rw [Bd.returns] at h; cases h)
        refine ⟨_, _, ?_, hrun, hended, _, _, rfl, ?_, ⟨_, rfl⟩, hW, hsame.mono (by decide) (by decide)⟩
        · rw [← hS0]; exact K6 _ (retN X0 hx (t := .boolean) Bd.returns (by simp) (hb hby d1_32) hr)
        · show Q1 Z p0 h0 n0 _ s₁.heap _
          rw [e0]
          have qr : (0 : Int32) = (w1_r1 p0) := by unfold w1_r1; rw [if_neg hc4_0, if_pos hc11_1, if_neg hc24_2]
          exact ⟨congrArg (fun z => some (Value.int z)) qr, N0, rfl⟩
    · -- no
      have K7 : ∀ t, Steps p.tables e below (s₁.setTop (mkF m 18 #[.val (.int p0)] [(.int (8292 : Int32)), (.int p0)])) t → Steps p.tables e below S0 t := fun t k => K3 t (by
        refine XS.icmpNo X0.here hx rfl (hb hby d1_11) rfl (XT.ii_lt_f hc11_1) ?_
        show Steps p.tables e below (s₁.setTop (mkF m 14 #[.val (.int p0)] [])) _
        refine XS.iloadN X0.here hx rfl (hb hby d1_14) rfl ?_
        show Steps p.tables e below (s₁.setTop (mkF m 15 #[.val (.int p0)] [(.int p0)])) _
        refine XS.sipush X0.here hx rfl (hb hby d1_15) ?_
        show Steps p.tables e below (s₁.setTop (mkF m 18 #[.val (.int p0)] [(.int (8292 : Int32)), (.int p0)])) _
        exact k)
      by_cases hc18_2 : (8292 : Int32) < p0
      · -- yes
        have K8 : ∀ t, Steps p.tables e below (s₁.setTop (mkF m 24 #[.val (.int p0)] [(.int (65279 : Int32)), (.int p0)])) t → Steps p.tables e below S0 t := fun t k => K7 t (by
          refine XS.icmpNo X0.here hx rfl (hb hby d1_18) rfl (XT.ii_le_f hc18_2) ?_
          show Steps p.tables e below (s₁.setTop (mkF m 21 #[.val (.int p0)] [])) _
          refine XS.iloadN X0.here hx rfl (hb hby d1_21) rfl ?_
          show Steps p.tables e below (s₁.setTop (mkF m 22 #[.val (.int p0)] [(.int p0)])) _
          refine X0.ldcInt hx hown (mvT hZ (hw _ (List.mem_of_getElem? (i := 5) rfl))) (g := (mkF m 22 #[.val (.int p0)] [(.int p0)])) rfl (hb hby d1_22) _ ?_
          show Steps p.tables e below (s₁.setTop (mkF m 24 #[.val (.int p0)] [(.int (65279 : Int32)), (.int p0)])) _
          exact k)
        by_cases hc24_3 : p0 = (65279 : Int32)
        · -- yes
          have K9 : ∀ t, Steps p.tables e below (s₁.setTop (mkF m 32 #[.val (.int p0)] [(.int (1 : Int32))])) t → Steps p.tables e below S0 t := fun t k => K8 t (by
            refine XS.icmpNo X0.here hx rfl (hb hby d1_24) rfl (XT.ii_ne_f hc24_3) ?_
            show Steps p.tables e below (s₁.setTop (mkF m 27 #[.val (.int p0)] [])) _
            refine XS.iconst X0.here hx rfl (hb hby d1_27) ?_
            show Steps p.tables e below (s₁.setTop (mkF m 28 #[.val (.int p0)] [(.int (1 : Int32))])) _
            refine XS.goto X0.here hx rfl (pc0 := 28) (pc' := 32) rfl (hb hby d1_28) (by decide) (by decide) ?_
            show Steps p.tables e below (s₁.setTop (mkF m 32 #[.val (.int p0)] [(.int (1 : Int32))])) _
            exact k)
          obtain ⟨fs, hr, hrun, hended, hW, hsame⟩ := X0.leave (v := some (.int (1 : Int32))) (fun h => by rw [Bd.returns] at h; cases h)
          refine ⟨_, _, ?_, hrun, hended, _, _, rfl, ?_, ⟨_, rfl⟩, hW, hsame.mono (by decide) (by decide)⟩
          · rw [← hS0]; exact K9 _ (retN X0 hx (t := .boolean) Bd.returns (by simp) (hb hby d1_32) hr)
          · show Q1 Z p0 h0 n0 _ s₁.heap _
            rw [e0]
            have qr : (1 : Int32) = (w1_r1 p0) := by unfold w1_r1; rw [if_neg hc4_0, if_neg hc11_1, if_pos hc18_2, if_pos hc24_3]
            exact ⟨congrArg (fun z => some (Value.int z)) qr, N0, rfl⟩
        · -- no
          have K10 : ∀ t, Steps p.tables e below (s₁.setTop (mkF m 32 #[.val (.int p0)] [(.int (0 : Int32))])) t → Steps p.tables e below S0 t := fun t k => K8 t (by
            refine XS.icmpYes X0.here hx rfl (pc0 := 24) (pc' := 31) rfl (hb hby d1_24) rfl (XT.ii_ne_t hc24_3) (by decide) (by decide) ?_
            show Steps p.tables e below (s₁.setTop (mkF m 31 #[.val (.int p0)] [])) _
            refine XS.iconst X0.here hx rfl (hb hby d1_31) ?_
            show Steps p.tables e below (s₁.setTop (mkF m 32 #[.val (.int p0)] [(.int (0 : Int32))])) _
            exact k)
          obtain ⟨fs, hr, hrun, hended, hW, hsame⟩ := X0.leave (v := some (.int (0 : Int32))) (fun h => by rw [Bd.returns] at h; cases h)
          refine ⟨_, _, ?_, hrun, hended, _, _, rfl, ?_, ⟨_, rfl⟩, hW, hsame.mono (by decide) (by decide)⟩
          · rw [← hS0]; exact K10 _ (retN X0 hx (t := .boolean) Bd.returns (by simp) (hb hby d1_32) hr)
          · show Q1 Z p0 h0 n0 _ s₁.heap _
            rw [e0]
            have qr : (0 : Int32) = (w1_r1 p0) := by unfold w1_r1; rw [if_neg hc4_0, if_neg hc11_1, if_pos hc18_2, if_neg hc24_3]
            exact ⟨congrArg (fun z => some (Value.int z)) qr, N0, rfl⟩
      · -- no
        have K11 : ∀ t, Steps p.tables e below (s₁.setTop (mkF m 32 #[.val (.int p0)] [(.int (1 : Int32))])) t → Steps p.tables e below S0 t := fun t k => K7 t (by
          refine XS.icmpYes X0.here hx rfl (pc0 := 18) (pc' := 27) rfl (hb hby d1_18) rfl (XT.ii_le_t hc18_2) (by decide) (by decide) ?_
          show Steps p.tables e below (s₁.setTop (mkF m 27 #[.val (.int p0)] [])) _
          refine XS.iconst X0.here hx rfl (hb hby d1_27) ?_
          show Steps p.tables e below (s₁.setTop (mkF m 28 #[.val (.int p0)] [(.int (1 : Int32))])) _
          refine XS.goto X0.here hx rfl (pc0 := 28) (pc' := 32) rfl (hb hby d1_28) (by decide) (by decide) ?_
          show Steps p.tables e below (s₁.setTop (mkF m 32 #[.val (.int p0)] [(.int (1 : Int32))])) _
          exact k)
        obtain ⟨fs, hr, hrun, hended, hW, hsame⟩ := X0.leave (v := some (.int (1 : Int32))) (fun h => by rw [Bd.returns] at h; cases h)
        refine ⟨_, _, ?_, hrun, hended, _, _, rfl, ?_, ⟨_, rfl⟩, hW, hsame.mono (by decide) (by decide)⟩
        · rw [← hS0]; exact K11 _ (retN X0 hx (t := .boolean) Bd.returns (by simp) (hb hby d1_32) hr)
        · show Q1 Z p0 h0 n0 _ s₁.heap _
          rw [e0]
          have qr : (1 : Int32) = (w1_r1 p0) := by unfold w1_r1; rw [if_neg hc4_0, if_neg hc11_1, if_neg hc18_2]
          exact ⟨congrArg (fun z => some (Value.int z)) qr, N0, rfl⟩
theorem d2_0 : decode method_2_code 0 = .ok (.iload_n 0, 1) := by decide +kernel
theorem d2_1 : decode method_2_code 1 = .ok (.sipush 8203, 3) := by decide +kernel
theorem d2_4 : decode method_2_code 4 = .ok (.if_icmp .eq 44, 3) := by decide +kernel
theorem d2_7 : decode method_2_code 7 = .ok (.iload_n 0, 1) := by decide +kernel
theorem d2_8 : decode method_2_code 8 = .ok (.sipush 8288, 3) := by decide +kernel
theorem d2_11 : decode method_2_code 11 = .ok (.if_icmp .eq 37, 3) := by decide +kernel
theorem d2_14 : decode method_2_code 14 = .ok (.iload_n 0, 1) := by decide +kernel
theorem d2_15 : decode method_2_code 15 = .ok (.sipush 8289, 3) := by decide +kernel
theorem d2_18 : decode method_2_code 18 = .ok (.if_icmp .eq 30, 3) := by decide +kernel
theorem d2_21 : decode method_2_code 21 = .ok (.iload_n 0, 1) := by decide +kernel
theorem d2_22 : decode method_2_code 22 = .ok (.sipush 8290, 3) := by decide +kernel
theorem d2_25 : decode method_2_code 25 = .ok (.if_icmp .eq 23, 3) := by decide +kernel
theorem d2_28 : decode method_2_code 28 = .ok (.iload_n 0, 1) := by decide +kernel
theorem d2_29 : decode method_2_code 29 = .ok (.sipush 8291, 3) := by decide +kernel
theorem d2_32 : decode method_2_code 32 = .ok (.if_icmp .eq 16, 3) := by decide +kernel
theorem d2_35 : decode method_2_code 35 = .ok (.iload_n 0, 1) := by decide +kernel
theorem d2_36 : decode method_2_code 36 = .ok (.sipush 8292, 3) := by decide +kernel
theorem d2_39 : decode method_2_code 39 = .ok (.if_icmp .eq 9, 3) := by decide +kernel
theorem d2_42 : decode method_2_code 42 = .ok (.iload_n 0, 1) := by decide +kernel
theorem d2_43 : decode method_2_code 43 = .ok (.ldc 7, 2) := by decide +kernel
theorem d2_45 : decode method_2_code 45 = .ok (.if_icmp .ne 7, 3) := by decide +kernel
theorem d2_48 : decode method_2_code 48 = .ok (.iconst 1, 1) := by decide +kernel
theorem d2_49 : decode method_2_code 49 = .ok (.goto 4, 3) := by decide +kernel
theorem d2_52 : decode method_2_code 52 = .ok (.iconst 0, 1) := by decide +kernel
theorem d2_53 : decode method_2_code 53 = .ok (.ireturn, 1) := by decide +kernel
theorem pn2 : plainName "biaxial/LinesIsZeroWidthPinLaw" = true := by first | (simp [plainName, overriddenIn]; done) | decide +kernel
theorem ef2 (m : MethodId) (p0 : Int32) : entryFrame m #[(.int p0)] 1 = mkF m 0 #[.val (.int p0)] [] := by first | (simp [entryFrame, mkF, argsToLocals, Value.category]; done) | rfl
def Q2 (Z : State) (p0 : Int32) (h0 : Heap) (n0 : Nat) (v : Option Value) (h : Heap) (L : List Loc) : Prop := v = some (.int (w2_r1 p0)) ∧ Fr n0 L ∧ h = h0
set_option maxRecDepth 65536 in
set_option maxHeartbeats 40000000 in
theorem rm2 (l : Launch) (Z : State) (a0 : Array Value) (hw : ∀ d ∈ tables_1, d.before a0 Z = true) (ws : List Jvm.Cond) (p0 : Int32) (h0 : Heap) (n0 : Nat) (Z0 : n0 ≤ h0.size) :
    MetFree l (⟨"biaxial/LinesIsZeroWidthPinLaw", "listed", "(I)Z"⟩ : MethodName) (head1 (Jvm.Cond.code (⟨"biaxial/LinesIsZeroWidthPinLaw", "listed", "(I)Z"⟩ : MethodName) method_2_code 1 (some .boolean) :: ws) ({ frames := 0, cells := 0, slots := 0, locals := 0 } : Room)) (fun a U => a = #[(.int p0)] ∧ Z.Warmed39 U.vm ∧ U.heap = h0) (fun _ _ _ _ _ => True) (fun _ U o U' => ∃ v L, o = .returned v ∧ Q2 Z p0 h0 n0 v U'.heap L ∧ FrameEnd U o U' L ({ frames := 0, cells := 0, slots := 0, locals := 0 } : Room).cells ({ frames := 0, cells := 0, slots := 0, locals := 0 } : Room).slots) := by
  refine MetFree.of_bodySF (plainFor_of_name pn2) hisR ?_
  intro p e s m args below meth c s₁ Bd hml0 hP hK
  obtain ⟨rfl, hZ, hh⟩ := hP
  have hx := Bd.exec
  have hby := Bd.bytes
  have hml : c.maxLocals = 1 := hml0
  have hown : s.vm.findClass "biaxial/LinesIsZeroWidthPinLaw" = some m.cls := findClass_of_methodNamed Bd.named
  have hnm := (name_of_methodNamed Bd.named Bd.method).1
  have X0 : Stand p l e ({ frames := 0, cells := 0, slots := 0, locals := 0 } : Room) s m #[(.int p0)] below meth c s₁ [] 0 0 := Stand.of_body Bd
  have e0 : s₁.heap = h0 := by rw [← hh, Bd.state]; rfl
  have N0 := Fr.nil n0
  obtain ⟨S0, hS0⟩ : ∃ S0, S0 = s₁.setTop (entryFrame m #[(.int p0)] 1) := ⟨_, rfl⟩
  have pre0 : ∀ t, Steps p.tables e below (s₁.setTop (mkF m 0 #[.val (.int p0)] [])) t → Steps p.tables e below S0 t := fun t k => by rw [hS0]; exact castTop (ef2 m p0) k
  have K1 : ∀ t, Steps p.tables e below (s₁.setTop (mkF m 4 #[.val (.int p0)] [(.int (8203 : Int32)), (.int p0)])) t → Steps p.tables e below S0 t := fun t k => pre0 t (by
    refine XS.iloadN X0.here hx rfl (hb hby d2_0) rfl ?_
    show Steps p.tables e below (s₁.setTop (mkF m 1 #[.val (.int p0)] [(.int p0)])) _
    refine XS.sipush X0.here hx rfl (hb hby d2_1) ?_
    show Steps p.tables e below (s₁.setTop (mkF m 4 #[.val (.int p0)] [(.int (8203 : Int32)), (.int p0)])) _
    exact k)
  by_cases hc4_0 : p0 = (8203 : Int32)
  · -- yes
    have K2 : ∀ t, Steps p.tables e below (s₁.setTop (mkF m 53 #[.val (.int p0)] [(.int (1 : Int32))])) t → Steps p.tables e below S0 t := fun t k => K1 t (by
      refine XS.icmpYes X0.here hx rfl (pc0 := 4) (pc' := 48) rfl (hb hby d2_4) rfl (XT.ii_eq_t hc4_0) (by decide) (by decide) ?_
      show Steps p.tables e below (s₁.setTop (mkF m 48 #[.val (.int p0)] [])) _
      refine XS.iconst X0.here hx rfl (hb hby d2_48) ?_
      show Steps p.tables e below (s₁.setTop (mkF m 49 #[.val (.int p0)] [(.int (1 : Int32))])) _
      refine XS.goto X0.here hx rfl (pc0 := 49) (pc' := 53) rfl (hb hby d2_49) (by decide) (by decide) ?_
      show Steps p.tables e below (s₁.setTop (mkF m 53 #[.val (.int p0)] [(.int (1 : Int32))])) _
      exact k)
    obtain ⟨fs, hr, hrun, hended, hW, hsame⟩ := X0.leave (v := some (.int (1 : Int32))) (fun h => by rw [Bd.returns] at h; cases h)
    refine ⟨_, _, ?_, hrun, hended, _, _, rfl, ?_, ⟨_, rfl⟩, hW, hsame.mono (by decide) (by decide)⟩
    · rw [← hS0]; exact K2 _ (retN X0 hx (t := .boolean) Bd.returns (by simp) (hb hby d2_53) hr)
    · show Q2 Z p0 h0 n0 _ s₁.heap _
      rw [e0]
      have qr : (1 : Int32) = (w2_r1 p0) := by unfold w2_r1; rw [if_pos hc4_0]
      exact ⟨congrArg (fun z => some (Value.int z)) qr, N0, rfl⟩
  · -- no
    have K3 : ∀ t, Steps p.tables e below (s₁.setTop (mkF m 11 #[.val (.int p0)] [(.int (8288 : Int32)), (.int p0)])) t → Steps p.tables e below S0 t := fun t k => K1 t (by
      refine XS.icmpNo X0.here hx rfl (hb hby d2_4) rfl (XT.ii_eq_f hc4_0) ?_
      show Steps p.tables e below (s₁.setTop (mkF m 7 #[.val (.int p0)] [])) _
      refine XS.iloadN X0.here hx rfl (hb hby d2_7) rfl ?_
      show Steps p.tables e below (s₁.setTop (mkF m 8 #[.val (.int p0)] [(.int p0)])) _
      refine XS.sipush X0.here hx rfl (hb hby d2_8) ?_
      show Steps p.tables e below (s₁.setTop (mkF m 11 #[.val (.int p0)] [(.int (8288 : Int32)), (.int p0)])) _
      exact k)
    by_cases hc11_1 : p0 = (8288 : Int32)
    · -- yes
      have K4 : ∀ t, Steps p.tables e below (s₁.setTop (mkF m 53 #[.val (.int p0)] [(.int (1 : Int32))])) t → Steps p.tables e below S0 t := fun t k => K3 t (by
        refine XS.icmpYes X0.here hx rfl (pc0 := 11) (pc' := 48) rfl (hb hby d2_11) rfl (XT.ii_eq_t hc11_1) (by decide) (by decide) ?_
        show Steps p.tables e below (s₁.setTop (mkF m 48 #[.val (.int p0)] [])) _
        refine XS.iconst X0.here hx rfl (hb hby d2_48) ?_
        show Steps p.tables e below (s₁.setTop (mkF m 49 #[.val (.int p0)] [(.int (1 : Int32))])) _
        refine XS.goto X0.here hx rfl (pc0 := 49) (pc' := 53) rfl (hb hby d2_49) (by decide) (by decide) ?_
        show Steps p.tables e below (s₁.setTop (mkF m 53 #[.val (.int p0)] [(.int (1 : Int32))])) _
        exact k)
      obtain ⟨fs, hr, hrun, hended, hW, hsame⟩ := X0.leave (v := some (.int (1 : Int32))) (fun h => by rw [Bd.returns] at h; cases h)
      refine ⟨_, _, ?_, hrun, hended, _, _, rfl, ?_, ⟨_, rfl⟩, hW, hsame.mono (by decide) (by decide)⟩
      · rw [← hS0]; exact K4 _ (retN X0 hx (t := .boolean) Bd.returns (by simp) (hb hby d2_53) hr)
      · show Q2 Z p0 h0 n0 _ s₁.heap _
        rw [e0]
        have qr : (1 : Int32) = (w2_r1 p0) := by unfold w2_r1; rw [if_neg hc4_0, if_pos hc11_1]
        exact ⟨congrArg (fun z => some (Value.int z)) qr, N0, rfl⟩
    · -- no
      have K5 : ∀ t, Steps p.tables e below (s₁.setTop (mkF m 18 #[.val (.int p0)] [(.int (8289 : Int32)), (.int p0)])) t → Steps p.tables e below S0 t := fun t k => K3 t (by
        refine XS.icmpNo X0.here hx rfl (hb hby d2_11) rfl (XT.ii_eq_f hc11_1) ?_
        show Steps p.tables e below (s₁.setTop (mkF m 14 #[.val (.int p0)] [])) _
        refine XS.iloadN X0.here hx rfl (hb hby d2_14) rfl ?_
        show Steps p.tables e below (s₁.setTop (mkF m 15 #[.val (.int p0)] [(.int p0)])) _
        refine XS.sipush X0.here hx rfl (hb hby d2_15) ?_
        show Steps p.tables e below (s₁.setTop (mkF m 18 #[.val (.int p0)] [(.int (8289 : Int32)), (.int p0)])) _
        exact k)
      by_cases hc18_2 : p0 = (8289 : Int32)
      · -- yes
        have K6 : ∀ t, Steps p.tables e below (s₁.setTop (mkF m 53 #[.val (.int p0)] [(.int (1 : Int32))])) t → Steps p.tables e below S0 t := fun t k => K5 t (by
          refine XS.icmpYes X0.here hx rfl (pc0 := 18) (pc' := 48) rfl (hb hby d2_18) rfl (XT.ii_eq_t hc18_2) (by decide) (by decide) ?_
          show Steps p.tables e below (s₁.setTop (mkF m 48 #[.val (.int p0)] [])) _
          refine XS.iconst X0.here hx rfl (hb hby d2_48) ?_
          show Steps p.tables e below (s₁.setTop (mkF m 49 #[.val (.int p0)] [(.int (1 : Int32))])) _
          refine XS.goto X0.here hx rfl (pc0 := 49) (pc' := 53) rfl (hb hby d2_49) (by decide) (by decide) ?_
          show Steps p.tables e below (s₁.setTop (mkF m 53 #[.val (.int p0)] [(.int (1 : Int32))])) _
          exact k)
        obtain ⟨fs, hr, hrun, hended, hW, hsame⟩ := X0.leave (v := some (.int (1 : Int32))) (fun h => by rw [Bd.returns] at h; cases h)
        refine ⟨_, _, ?_, hrun, hended, _, _, rfl, ?_, ⟨_, rfl⟩, hW, hsame.mono (by decide) (by decide)⟩
        · rw [← hS0]; exact K6 _ (retN X0 hx (t := .boolean) Bd.returns (by simp) (hb hby d2_53) hr)
        · show Q2 Z p0 h0 n0 _ s₁.heap _
          rw [e0]
          have qr : (1 : Int32) = (w2_r1 p0) := by unfold w2_r1; rw [if_neg hc4_0, if_neg hc11_1, if_pos hc18_2]
          exact ⟨congrArg (fun z => some (Value.int z)) qr, N0, rfl⟩
      · -- no
        have K7 : ∀ t, Steps p.tables e below (s₁.setTop (mkF m 25 #[.val (.int p0)] [(.int (8290 : Int32)), (.int p0)])) t → Steps p.tables e below S0 t := fun t k => K5 t (by
          refine XS.icmpNo X0.here hx rfl (hb hby d2_18) rfl (XT.ii_eq_f hc18_2) ?_
          show Steps p.tables e below (s₁.setTop (mkF m 21 #[.val (.int p0)] [])) _
          refine XS.iloadN X0.here hx rfl (hb hby d2_21) rfl ?_
          show Steps p.tables e below (s₁.setTop (mkF m 22 #[.val (.int p0)] [(.int p0)])) _
          refine XS.sipush X0.here hx rfl (hb hby d2_22) ?_
          show Steps p.tables e below (s₁.setTop (mkF m 25 #[.val (.int p0)] [(.int (8290 : Int32)), (.int p0)])) _
          exact k)
        by_cases hc25_3 : p0 = (8290 : Int32)
        · -- yes
          have K8 : ∀ t, Steps p.tables e below (s₁.setTop (mkF m 53 #[.val (.int p0)] [(.int (1 : Int32))])) t → Steps p.tables e below S0 t := fun t k => K7 t (by
            refine XS.icmpYes X0.here hx rfl (pc0 := 25) (pc' := 48) rfl (hb hby d2_25) rfl (XT.ii_eq_t hc25_3) (by decide) (by decide) ?_
            show Steps p.tables e below (s₁.setTop (mkF m 48 #[.val (.int p0)] [])) _
            refine XS.iconst X0.here hx rfl (hb hby d2_48) ?_
            show Steps p.tables e below (s₁.setTop (mkF m 49 #[.val (.int p0)] [(.int (1 : Int32))])) _
            refine XS.goto X0.here hx rfl (pc0 := 49) (pc' := 53) rfl (hb hby d2_49) (by decide) (by decide) ?_
            show Steps p.tables e below (s₁.setTop (mkF m 53 #[.val (.int p0)] [(.int (1 : Int32))])) _
            exact k)
          obtain ⟨fs, hr, hrun, hended, hW, hsame⟩ := X0.leave (v := some (.int (1 : Int32))) (fun h => by rw [Bd.returns] at h; cases h)
          refine ⟨_, _, ?_, hrun, hended, _, _, rfl, ?_, ⟨_, rfl⟩, hW, hsame.mono (by decide) (by decide)⟩
          · rw [← hS0]; exact K8 _ (retN X0 hx (t := .boolean) Bd.returns (by simp) (hb hby d2_53) hr)
          · show Q2 Z p0 h0 n0 _ s₁.heap _
            rw [e0]
            have qr : (1 : Int32) = (w2_r1 p0) := by unfold w2_r1; rw [if_neg hc4_0, if_neg hc11_1, if_neg hc18_2, if_pos hc25_3]
            exact ⟨congrArg (fun z => some (Value.int z)) qr, N0, rfl⟩
        · -- no
          have K9 : ∀ t, Steps p.tables e below (s₁.setTop (mkF m 32 #[.val (.int p0)] [(.int (8291 : Int32)), (.int p0)])) t → Steps p.tables e below S0 t := fun t k => K7 t (by
            refine XS.icmpNo X0.here hx rfl (hb hby d2_25) rfl (XT.ii_eq_f hc25_3) ?_
            show Steps p.tables e below (s₁.setTop (mkF m 28 #[.val (.int p0)] [])) _
            refine XS.iloadN X0.here hx rfl (hb hby d2_28) rfl ?_
            show Steps p.tables e below (s₁.setTop (mkF m 29 #[.val (.int p0)] [(.int p0)])) _
            refine XS.sipush X0.here hx rfl (hb hby d2_29) ?_
            show Steps p.tables e below (s₁.setTop (mkF m 32 #[.val (.int p0)] [(.int (8291 : Int32)), (.int p0)])) _
            exact k)
          by_cases hc32_4 : p0 = (8291 : Int32)
          · -- yes
            have K10 : ∀ t, Steps p.tables e below (s₁.setTop (mkF m 53 #[.val (.int p0)] [(.int (1 : Int32))])) t → Steps p.tables e below S0 t := fun t k => K9 t (by
              refine XS.icmpYes X0.here hx rfl (pc0 := 32) (pc' := 48) rfl (hb hby d2_32) rfl (XT.ii_eq_t hc32_4) (by decide) (by decide) ?_
              show Steps p.tables e below (s₁.setTop (mkF m 48 #[.val (.int p0)] [])) _
              refine XS.iconst X0.here hx rfl (hb hby d2_48) ?_
              show Steps p.tables e below (s₁.setTop (mkF m 49 #[.val (.int p0)] [(.int (1 : Int32))])) _
              refine XS.goto X0.here hx rfl (pc0 := 49) (pc' := 53) rfl (hb hby d2_49) (by decide) (by decide) ?_
              show Steps p.tables e below (s₁.setTop (mkF m 53 #[.val (.int p0)] [(.int (1 : Int32))])) _
              exact k)
            obtain ⟨fs, hr, hrun, hended, hW, hsame⟩ := X0.leave (v := some (.int (1 : Int32))) (fun h => by rw [Bd.returns] at h; cases h)
            refine ⟨_, _, ?_, hrun, hended, _, _, rfl, ?_, ⟨_, rfl⟩, hW, hsame.mono (by decide) (by decide)⟩
            · rw [← hS0]; exact K10 _ (retN X0 hx (t := .boolean) Bd.returns (by simp) (hb hby d2_53) hr)
            · show Q2 Z p0 h0 n0 _ s₁.heap _
              rw [e0]
              have qr : (1 : Int32) = (w2_r1 p0) := by unfold w2_r1; rw [if_neg hc4_0, if_neg hc11_1, if_neg hc18_2, if_neg hc25_3, if_pos hc32_4]
              exact ⟨congrArg (fun z => some (Value.int z)) qr, N0, rfl⟩
          · -- no
            have K11 : ∀ t, Steps p.tables e below (s₁.setTop (mkF m 39 #[.val (.int p0)] [(.int (8292 : Int32)), (.int p0)])) t → Steps p.tables e below S0 t := fun t k => K9 t (by
              refine XS.icmpNo X0.here hx rfl (hb hby d2_32) rfl (XT.ii_eq_f hc32_4) ?_
              show Steps p.tables e below (s₁.setTop (mkF m 35 #[.val (.int p0)] [])) _
              refine XS.iloadN X0.here hx rfl (hb hby d2_35) rfl ?_
              show Steps p.tables e below (s₁.setTop (mkF m 36 #[.val (.int p0)] [(.int p0)])) _
              refine XS.sipush X0.here hx rfl (hb hby d2_36) ?_
              show Steps p.tables e below (s₁.setTop (mkF m 39 #[.val (.int p0)] [(.int (8292 : Int32)), (.int p0)])) _
              exact k)
            by_cases hc39_5 : p0 = (8292 : Int32)
            · -- yes
              have K12 : ∀ t, Steps p.tables e below (s₁.setTop (mkF m 53 #[.val (.int p0)] [(.int (1 : Int32))])) t → Steps p.tables e below S0 t := fun t k => K11 t (by
                refine XS.icmpYes X0.here hx rfl (pc0 := 39) (pc' := 48) rfl (hb hby d2_39) rfl (XT.ii_eq_t hc39_5) (by decide) (by decide) ?_
                show Steps p.tables e below (s₁.setTop (mkF m 48 #[.val (.int p0)] [])) _
                refine XS.iconst X0.here hx rfl (hb hby d2_48) ?_
                show Steps p.tables e below (s₁.setTop (mkF m 49 #[.val (.int p0)] [(.int (1 : Int32))])) _
                refine XS.goto X0.here hx rfl (pc0 := 49) (pc' := 53) rfl (hb hby d2_49) (by decide) (by decide) ?_
                show Steps p.tables e below (s₁.setTop (mkF m 53 #[.val (.int p0)] [(.int (1 : Int32))])) _
                exact k)
              obtain ⟨fs, hr, hrun, hended, hW, hsame⟩ := X0.leave (v := some (.int (1 : Int32))) (fun h => by rw [Bd.returns] at h; cases h)
              refine ⟨_, _, ?_, hrun, hended, _, _, rfl, ?_, ⟨_, rfl⟩, hW, hsame.mono (by decide) (by decide)⟩
              · rw [← hS0]; exact K12 _ (retN X0 hx (t := .boolean) Bd.returns (by simp) (hb hby d2_53) hr)
              · show Q2 Z p0 h0 n0 _ s₁.heap _
                rw [e0]
                have qr : (1 : Int32) = (w2_r1 p0) := by unfold w2_r1; rw [if_neg hc4_0, if_neg hc11_1, if_neg hc18_2, if_neg hc25_3, if_neg hc32_4, if_pos hc39_5]
                exact ⟨congrArg (fun z => some (Value.int z)) qr, N0, rfl⟩
            · -- no
              have K13 : ∀ t, Steps p.tables e below (s₁.setTop (mkF m 45 #[.val (.int p0)] [(.int (65279 : Int32)), (.int p0)])) t → Steps p.tables e below S0 t := fun t k => K11 t (by
                refine XS.icmpNo X0.here hx rfl (hb hby d2_39) rfl (XT.ii_eq_f hc39_5) ?_
                show Steps p.tables e below (s₁.setTop (mkF m 42 #[.val (.int p0)] [])) _
                refine XS.iloadN X0.here hx rfl (hb hby d2_42) rfl ?_
                show Steps p.tables e below (s₁.setTop (mkF m 43 #[.val (.int p0)] [(.int p0)])) _
                refine X0.ldcInt hx hown (mvT hZ (hw _ (List.mem_of_getElem? (i := 10) rfl))) (g := (mkF m 43 #[.val (.int p0)] [(.int p0)])) rfl (hb hby d2_43) _ ?_
                show Steps p.tables e below (s₁.setTop (mkF m 45 #[.val (.int p0)] [(.int (65279 : Int32)), (.int p0)])) _
                exact k)
              by_cases hc45_6 : p0 = (65279 : Int32)
              · -- yes
                have K14 : ∀ t, Steps p.tables e below (s₁.setTop (mkF m 53 #[.val (.int p0)] [(.int (1 : Int32))])) t → Steps p.tables e below S0 t := fun t k => K13 t (by
                  refine XS.icmpNo X0.here hx rfl (hb hby d2_45) rfl (XT.ii_ne_f hc45_6) ?_
                  show Steps p.tables e below (s₁.setTop (mkF m 48 #[.val (.int p0)] [])) _
                  refine XS.iconst X0.here hx rfl (hb hby d2_48) ?_
                  show Steps p.tables e below (s₁.setTop (mkF m 49 #[.val (.int p0)] [(.int (1 : Int32))])) _
                  refine XS.goto X0.here hx rfl (pc0 := 49) (pc' := 53) rfl (hb hby d2_49) (by decide) (by decide) ?_
                  show Steps p.tables e below (s₁.setTop (mkF m 53 #[.val (.int p0)] [(.int (1 : Int32))])) _
                  exact k)
                obtain ⟨fs, hr, hrun, hended, hW, hsame⟩ := X0.leave (v := some (.int (1 : Int32))) (fun h => by rw [Bd.returns] at h; cases h)
                refine ⟨_, _, ?_, hrun, hended, _, _, rfl, ?_, ⟨_, rfl⟩, hW, hsame.mono (by decide) (by decide)⟩
                · rw [← hS0]; exact K14 _ (retN X0 hx (t := .boolean) Bd.returns (by simp) (hb hby d2_53) hr)
                · show Q2 Z p0 h0 n0 _ s₁.heap _
                  rw [e0]
                  have qr : (1 : Int32) = (w2_r1 p0) := by unfold w2_r1; rw [if_neg hc4_0, if_neg hc11_1, if_neg hc18_2, if_neg hc25_3, if_neg hc32_4, if_neg hc39_5, if_pos hc45_6]
                  exact ⟨congrArg (fun z => some (Value.int z)) qr, N0, rfl⟩
              · -- no
                have K15 : ∀ t, Steps p.tables e below (s₁.setTop (mkF m 53 #[.val (.int p0)] [(.int (0 : Int32))])) t → Steps p.tables e below S0 t := fun t k => K13 t (by
                  refine XS.icmpYes X0.here hx rfl (pc0 := 45) (pc' := 52) rfl (hb hby d2_45) rfl (XT.ii_ne_t hc45_6) (by decide) (by decide) ?_
                  show Steps p.tables e below (s₁.setTop (mkF m 52 #[.val (.int p0)] [])) _
                  refine XS.iconst X0.here hx rfl (hb hby d2_52) ?_
                  show Steps p.tables e below (s₁.setTop (mkF m 53 #[.val (.int p0)] [(.int (0 : Int32))])) _
                  exact k)
                obtain ⟨fs, hr, hrun, hended, hW, hsame⟩ := X0.leave (v := some (.int (0 : Int32))) (fun h => by rw [Bd.returns] at h; cases h)
                refine ⟨_, _, ?_, hrun, hended, _, _, rfl, ?_, ⟨_, rfl⟩, hW, hsame.mono (by decide) (by decide)⟩
                · rw [← hS0]; exact K15 _ (retN X0 hx (t := .boolean) Bd.returns (by simp) (hb hby d2_53) hr)
                · show Q2 Z p0 h0 n0 _ s₁.heap _
                  rw [e0]
                  have qr : (0 : Int32) = (w2_r1 p0) := by unfold w2_r1; rw [if_neg hc4_0, if_neg hc11_1, if_neg hc18_2, if_neg hc25_3, if_neg hc32_4, if_neg hc39_5, if_neg hc45_6]
                  exact ⟨congrArg (fun z => some (Value.int z)) qr, N0, rfl⟩
theorem pn0 : plainName "biaxial/LinesIsZeroWidthPinLaw" = true := by first | (simp [plainName, overriddenIn]; done) | decide +kernel
theorem pd0_0 : parseMethodDescriptor "(C)Z" = some ⟨[.char], some .boolean⟩ := by decide +kernel
theorem pd0_1 : parseMethodDescriptor "(I)Z" = some ⟨[.int], some .boolean⟩ := by decide +kernel
theorem ef0 (m : MethodId) (p0 : Int32) (p1 : Int32) : entryFrame m #[(.int p0), (.int p1)] maxLocals = mkF m 0 #[.val (.int p0), .val (.int p1), .unset, .unset, .unset] [] := by first | (simp [entryFrame, mkF, argsToLocals, Value.category, maxLocals]; done) | rfl
def Q0 (Z : State) (p0 : Int32) (p1 : Int32) (h0 : Heap) (n0 : Nat) (v : Option Value) (h : Heap) (L : List Loc) : Prop := v = some (.int (w0_r6 p0 p1)) ∧ Fr n0 L
set_option maxRecDepth 65536 in
set_option maxHeartbeats 40000000 in
theorem rm0 (l : Launch) (Z : State) (a0 : Array Value) (hw : ∀ d ∈ tables_1, d.before a0 Z = true) (ws : List Jvm.Cond) (p0 : Int32) (p1 : Int32) (h0 : Heap) (n0 : Nat) (Z0 : n0 ≤ h0.size) :
    MetFree l x (head1 (Jvm.Cond.code x code maxLocals ret :: ws) room_1) (fun a U => a = #[(.int p0), (.int p1)] ∧ Z.Warmed39 U.vm ∧ U.heap = h0) (fun _ _ _ _ _ => True) (fun _ U o U' => ∃ v L, o = .returned v ∧ Q0 Z p0 p1 h0 n0 v U'.heap L ∧ FrameEnd U o U' L 0 0) := by
  refine MetFree.of_bodySF (plainFor_of_name pn0) hisR ?_
  intro p e s m args below meth c s₁ Bd hml0 hP hK
  obtain ⟨rfl, hZ, hh⟩ := hP
  have hx := Bd.exec
  have hby := Bd.bytes
  have hml : c.maxLocals = 5 := hml0
  have hown : s.vm.findClass "biaxial/LinesIsZeroWidthPinLaw" = some m.cls := findClass_of_methodNamed Bd.named
  have hnm := (name_of_methodNamed Bd.named Bd.method).1
  have X0 : Stand p l e room_1 s m #[(.int p0), (.int p1)] below meth c s₁ [] 0 0 := Stand.of_body Bd
  have e0 : s₁.heap = h0 := by rw [← hh, Bd.state]; rfl
  have N0 := Fr.nil n0
  obtain ⟨S0, hS0⟩ : ∃ S0, S0 = s₁.setTop (entryFrame m #[(.int p0), (.int p1)] maxLocals) := ⟨_, rfl⟩
  have pre0 : ∀ t, Steps p.tables e below (s₁.setTop (mkF m 0 #[.val (.int p0), .val (.int p1), .unset, .unset, .unset] [])) t → Steps p.tables e below S0 t := fun t k => by rw [hS0]; exact castTop (ef0 m p0 p1) k
  have K1 : ∀ t, Steps p.tables e below (s₁.setTop (mkF m 3 #[.val (.int p0), .val (.int p1), .unset, .unset, .unset] [(.int (p1 &&& (1 : Int32)))])) t → Steps p.tables e below S0 t := fun t k => pre0 t (by
    refine XS.iloadN X0.here hx rfl (hb hby at_0) rfl ?_
    show Steps p.tables e below (s₁.setTop (mkF m 1 #[.val (.int p0), .val (.int p1), .unset, .unset, .unset] [(.int p1)])) _
    refine XS.iconst X0.here hx rfl (hb hby at_1) ?_
    show Steps p.tables e below (s₁.setTop (mkF m 2 #[.val (.int p0), .val (.int p1), .unset, .unset, .unset] [(.int (1 : Int32)), (.int p1)])) _
    refine XS.iand X0.here hx rfl (hb hby at_2) rfl ?_
    show Steps p.tables e below (s₁.setTop (mkF m 3 #[.val (.int p0), .val (.int p1), .unset, .unset, .unset] [(.int (p1 &&& (1 : Int32)))])) _
    exact k)
  obtain ⟨T2, lo2, s2_l3, s2_l4, X2, N2, e2, o_s2_l3, o_s2_l4, K2⟩ : ∃ (T' : State) (locs' : List Loc) (s2_l3 : Slot) (s2_l4 : Slot), Stand p l e room_1 s m #[(.int p0), (.int p1)] below meth c T' locs' 0 0 ∧ Fr n0 locs' ∧ T'.heap = h0 ∧ One s2_l3 ∧ One s2_l4 ∧ ∀ t, Steps p.tables e below (T'.setTop (mkF m 75 #[.val (.int p0), .val (.int p1), .val (.int (w0_m4 p0 p1)), s2_l3, s2_l4] [])) t → Steps p.tables e below S0 t := by
    by_cases hc3_0 : (p1 &&& (1 : Int32)) = (0 : Int32)
    · -- yes
      have K3 : ∀ t, Steps p.tables e below (s₁.setTop (mkF m 75 #[.val (.int p0), .val (.int p1), .val (.int (p0 &&& (65535 : Int32))), .unset, .unset] [])) t → Steps p.tables e below S0 t := fun t k => K1 t (by
        refine XS.ifNo X0.here hx rfl (hb hby at_3) rfl (XT.i0_ne_f hc3_0) ?_
        show Steps p.tables e below (s₁.setTop (mkF m 6 #[.val (.int p0), .val (.int p1), .unset, .unset, .unset] [])) _
        refine XS.iloadN X0.here hx rfl (hb hby at_6) rfl ?_
        show Steps p.tables e below (s₁.setTop (mkF m 7 #[.val (.int p0), .val (.int p1), .unset, .unset, .unset] [(.int p0)])) _
        refine X0.ldcInt hx hown (mvT hZ (hw _ (List.mem_of_getElem? (i := 0) rfl))) (g := (mkF m 7 #[.val (.int p0), .val (.int p1), .unset, .unset, .unset] [(.int p0)])) rfl (hb hby at_7) _ ?_
        show Steps p.tables e below (s₁.setTop (mkF m 9 #[.val (.int p0), .val (.int p1), .unset, .unset, .unset] [(.int (65535 : Int32)), (.int p0)])) _
        refine XS.iand X0.here hx rfl (hb hby at_9) rfl ?_
        show Steps p.tables e below (s₁.setTop (mkF m 10 #[.val (.int p0), .val (.int p1), .unset, .unset, .unset] [(.int (p0 &&& (65535 : Int32)))])) _
        refine XS.istoreN X0.here hx rfl (hb hby at_10) rfl (l' := #[.val (.int p0), .val (.int p1), .val (.int (p0 &&& (65535 : Int32))), .unset, .unset]) rfl ?_
        show Steps p.tables e below (s₁.setTop (mkF m 11 #[.val (.int p0), .val (.int p1), .val (.int (p0 &&& (65535 : Int32))), .unset, .unset] [])) _
        refine XS.goto X0.here hx rfl (pc0 := 11) (pc' := 75) rfl (hb hby at_11) (by decide) (by decide) ?_
        show Steps p.tables e below (s₁.setTop (mkF m 75 #[.val (.int p0), .val (.int p1), .val (.int (p0 &&& (65535 : Int32))), .unset, .unset] [])) _
        exact k)
      have q4 : (w0_m4 p0 p1) = (p0 &&& (65535 : Int32)) := by unfold w0_m4; rw [if_pos hc3_0]
      exact ⟨s₁, _, .unset, .unset, X0, N0, e0, One.u, One.u, fun t k => K3 t (by rw [q4] at k; exact k)⟩
    · -- no
      have K5 : ∀ t, Steps p.tables e below (s₁.setTop (mkF m 21 #[.val (.int p0), .val (.int p1), .unset, .val (.int (w0_1 p1)), .unset] [(.int (w0_1 p1))])) t → Steps p.tables e below S0 t := fun t k => K1 t (by
        refine XS.ifYes X0.here hx rfl (pc0 := 3) (pc' := 14) rfl (hb hby at_3) rfl (XT.i0_ne_t hc3_0) (by decide) (by decide) ?_
        show Steps p.tables e below (s₁.setTop (mkF m 14 #[.val (.int p0), .val (.int p1), .unset, .unset, .unset] [])) _
        refine XS.iloadN X0.here hx rfl (hb hby at_14) rfl ?_
        show Steps p.tables e below (s₁.setTop (mkF m 15 #[.val (.int p0), .val (.int p1), .unset, .unset, .unset] [(.int p1)])) _
        refine XS.iconst X0.here hx rfl (hb hby at_15) ?_
        show Steps p.tables e below (s₁.setTop (mkF m 16 #[.val (.int p0), .val (.int p1), .unset, .unset, .unset] [(.int (1 : Int32)), (.int p1)])) _
        refine XS.iushr X0.here hx rfl (hb hby at_16) rfl ?_
        show Steps p.tables e below (s₁.setTop (mkF m 17 #[.val (.int p0), .val (.int p1), .unset, .unset, .unset] [(.int ((p1.toUInt32 >>> ((1 : Int32) &&& 31).toUInt32).toInt32))])) _
        refine XS.iconst X0.here hx rfl (hb hby at_17) ?_
        show Steps p.tables e below (s₁.setTop (mkF m 18 #[.val (.int p0), .val (.int p1), .unset, .unset, .unset] [(.int (3 : Int32)), (.int ((p1.toUInt32 >>> ((1 : Int32) &&& 31).toUInt32).toInt32))])) _
        refine XS.iand X0.here hx rfl (hb hby at_18) rfl ?_
        show Steps p.tables e below (s₁.setTop (mkF m 19 #[.val (.int p0), .val (.int p1), .unset, .unset, .unset] [(.int (((p1.toUInt32 >>> ((1 : Int32) &&& 31).toUInt32).toInt32) &&& (3 : Int32)))])) _
        refine XS.istoreN X0.here hx rfl (hb hby at_19) rfl (l' := #[.val (.int p0), .val (.int p1), .unset, .val (.int (w0_1 p1)), .unset]) rfl ?_
        show Steps p.tables e below (s₁.setTop (mkF m 20 #[.val (.int p0), .val (.int p1), .unset, .val (.int (w0_1 p1)), .unset] [])) _
        refine XS.iloadN X0.here hx rfl (hb hby at_20) rfl ?_
        show Steps p.tables e below (s₁.setTop (mkF m 21 #[.val (.int p0), .val (.int p1), .unset, .val (.int (w0_1 p1)), .unset] [(.int (w0_1 p1))])) _
        exact k)
      obtain ⟨T6, lo6, X6, N6, e6, K6⟩ : ∃ (T' : State) (locs' : List Loc), Stand p l e room_1 s m #[(.int p0), (.int p1)] below meth c T' locs' 0 0 ∧ Fr n0 locs' ∧ T'.heap = h0 ∧ ∀ t, Steps p.tables e below (T'.setTop (mkF m 62 #[.val (.int p0), .val (.int p1), .unset, .val (.int (w0_1 p1)), .val (.int (w0_m2 p1))] [])) t → Steps p.tables e below S0 t := by
        by_cases hc21_1 : (w0_1 p1) = (0 : Int32)
        · -- yes
          have K7 : ∀ t, Steps p.tables e below (s₁.setTop (mkF m 62 #[.val (.int p0), .val (.int p1), .unset, .val (.int (w0_1 p1)), .val (.int (8203 : Int32))] [])) t → Steps p.tables e below S0 t := fun t k => K5 t (by
            refine XS.ifNo X0.here hx rfl (hb hby at_21) rfl (XT.i0_ne_f hc21_1) ?_
            show Steps p.tables e below (s₁.setTop (mkF m 24 #[.val (.int p0), .val (.int p1), .unset, .val (.int (w0_1 p1)), .unset] [])) _
            refine XS.sipush X0.here hx rfl (hb hby at_24) ?_
            show Steps p.tables e below (s₁.setTop (mkF m 27 #[.val (.int p0), .val (.int p1), .unset, .val (.int (w0_1 p1)), .unset] [(.int (8203 : Int32))])) _
            refine XS.istore X0.here hx rfl (hb hby at_27) rfl (l' := #[.val (.int p0), .val (.int p1), .unset, .val (.int (w0_1 p1)), .val (.int (8203 : Int32))]) rfl ?_
            show Steps p.tables e below (s₁.setTop (mkF m 29 #[.val (.int p0), .val (.int p1), .unset, .val (.int (w0_1 p1)), .val (.int (8203 : Int32))] [])) _
            refine XS.goto X0.here hx rfl (pc0 := 29) (pc' := 62) rfl (hb hby at_29) (by decide) (by decide) ?_
            show Steps p.tables e below (s₁.setTop (mkF m 62 #[.val (.int p0), .val (.int p1), .unset, .val (.int (w0_1 p1)), .val (.int (8203 : Int32))] [])) _
            exact k)
          have q8 : (w0_m2 p1) = (8203 : Int32) := by unfold w0_m2; rw [if_pos hc21_1]
          exact ⟨s₁, _, X0, N0, e0, fun t k => K7 t (by rw [q8] at k; exact k)⟩
        · -- no
          have K9 : ∀ t, Steps p.tables e below (s₁.setTop (mkF m 34 #[.val (.int p0), .val (.int p1), .unset, .val (.int (w0_1 p1)), .unset] [(.int (1 : Int32)), (.int (w0_1 p1))])) t → Steps p.tables e below S0 t := fun t k => K5 t (by
            refine XS.ifYes X0.here hx rfl (pc0 := 21) (pc' := 32) rfl (hb hby at_21) rfl (XT.i0_ne_t hc21_1) (by decide) (by decide) ?_
            show Steps p.tables e below (s₁.setTop (mkF m 32 #[.val (.int p0), .val (.int p1), .unset, .val (.int (w0_1 p1)), .unset] [])) _
            refine XS.iloadN X0.here hx rfl (hb hby at_32) rfl ?_
            show Steps p.tables e below (s₁.setTop (mkF m 33 #[.val (.int p0), .val (.int p1), .unset, .val (.int (w0_1 p1)), .unset] [(.int (w0_1 p1))])) _
            refine XS.iconst X0.here hx rfl (hb hby at_33) ?_
            show Steps p.tables e below (s₁.setTop (mkF m 34 #[.val (.int p0), .val (.int p1), .unset, .val (.int (w0_1 p1)), .unset] [(.int (1 : Int32)), (.int (w0_1 p1))])) _
            exact k)
          by_cases hc34_2 : (w0_1 p1) = (1 : Int32)
          · -- yes
            have K10 : ∀ t, Steps p.tables e below (s₁.setTop (mkF m 62 #[.val (.int p0), .val (.int p1), .unset, .val (.int (w0_1 p1)), .val (.int (8288 : Int32))] [])) t → Steps p.tables e below S0 t := fun t k => K9 t (by
              refine XS.icmpNo X0.here hx rfl (hb hby at_34) rfl (XT.ii_ne_f hc34_2) ?_
              show Steps p.tables e below (s₁.setTop (mkF m 37 #[.val (.int p0), .val (.int p1), .unset, .val (.int (w0_1 p1)), .unset] [])) _
              refine XS.sipush X0.here hx rfl (hb hby at_37) ?_
              show Steps p.tables e below (s₁.setTop (mkF m 40 #[.val (.int p0), .val (.int p1), .unset, .val (.int (w0_1 p1)), .unset] [(.int (8288 : Int32))])) _
              refine XS.istore X0.here hx rfl (hb hby at_40) rfl (l' := #[.val (.int p0), .val (.int p1), .unset, .val (.int (w0_1 p1)), .val (.int (8288 : Int32))]) rfl ?_
              show Steps p.tables e below (s₁.setTop (mkF m 42 #[.val (.int p0), .val (.int p1), .unset, .val (.int (w0_1 p1)), .val (.int (8288 : Int32))] [])) _
              refine XS.goto X0.here hx rfl (pc0 := 42) (pc' := 62) rfl (hb hby at_42) (by decide) (by decide) ?_
              show Steps p.tables e below (s₁.setTop (mkF m 62 #[.val (.int p0), .val (.int p1), .unset, .val (.int (w0_1 p1)), .val (.int (8288 : Int32))] [])) _
              exact k)
            have q11 : (w0_m2 p1) = (8288 : Int32) := by unfold w0_m2; rw [if_neg hc21_1, if_pos hc34_2]
            exact ⟨s₁, _, X0, N0, e0, fun t k => K10 t (by rw [q11] at k; exact k)⟩
          · -- no
            have K12 : ∀ t, Steps p.tables e below (s₁.setTop (mkF m 47 #[.val (.int p0), .val (.int p1), .unset, .val (.int (w0_1 p1)), .unset] [(.int (2 : Int32)), (.int (w0_1 p1))])) t → Steps p.tables e below S0 t := fun t k => K9 t (by
              refine XS.icmpYes X0.here hx rfl (pc0 := 34) (pc' := 45) rfl (hb hby at_34) rfl (XT.ii_ne_t hc34_2) (by decide) (by decide) ?_
              show Steps p.tables e below (s₁.setTop (mkF m 45 #[.val (.int p0), .val (.int p1), .unset, .val (.int (w0_1 p1)), .unset] [])) _
              refine XS.iloadN X0.here hx rfl (hb hby at_45) rfl ?_
              show Steps p.tables e below (s₁.setTop (mkF m 46 #[.val (.int p0), .val (.int p1), .unset, .val (.int (w0_1 p1)), .unset] [(.int (w0_1 p1))])) _
              refine XS.iconst X0.here hx rfl (hb hby at_46) ?_
              show Steps p.tables e below (s₁.setTop (mkF m 47 #[.val (.int p0), .val (.int p1), .unset, .val (.int (w0_1 p1)), .unset] [(.int (2 : Int32)), (.int (w0_1 p1))])) _
              exact k)
            by_cases hc47_3 : (w0_1 p1) = (2 : Int32)
            · -- yes
              have K13 : ∀ t, Steps p.tables e below (s₁.setTop (mkF m 62 #[.val (.int p0), .val (.int p1), .unset, .val (.int (w0_1 p1)), .val (.int (8292 : Int32))] [])) t → Steps p.tables e below S0 t := fun t k => K12 t (by
                refine XS.icmpNo X0.here hx rfl (hb hby at_47) rfl (XT.ii_ne_f hc47_3) ?_
                show Steps p.tables e below (s₁.setTop (mkF m 50 #[.val (.int p0), .val (.int p1), .unset, .val (.int (w0_1 p1)), .unset] [])) _
                refine XS.sipush X0.here hx rfl (hb hby at_50) ?_
                show Steps p.tables e below (s₁.setTop (mkF m 53 #[.val (.int p0), .val (.int p1), .unset, .val (.int (w0_1 p1)), .unset] [(.int (8292 : Int32))])) _
                refine XS.istore X0.here hx rfl (hb hby at_53) rfl (l' := #[.val (.int p0), .val (.int p1), .unset, .val (.int (w0_1 p1)), .val (.int (8292 : Int32))]) rfl ?_
                show Steps p.tables e below (s₁.setTop (mkF m 55 #[.val (.int p0), .val (.int p1), .unset, .val (.int (w0_1 p1)), .val (.int (8292 : Int32))] [])) _
                refine XS.goto X0.here hx rfl (pc0 := 55) (pc' := 62) rfl (hb hby at_55) (by decide) (by decide) ?_
                show Steps p.tables e below (s₁.setTop (mkF m 62 #[.val (.int p0), .val (.int p1), .unset, .val (.int (w0_1 p1)), .val (.int (8292 : Int32))] [])) _
                exact k)
              have q14 : (w0_m2 p1) = (8292 : Int32) := by unfold w0_m2; rw [if_neg hc21_1, if_neg hc34_2, if_pos hc47_3]
              exact ⟨s₁, _, X0, N0, e0, fun t k => K13 t (by rw [q14] at k; exact k)⟩
            · -- no
              have K15 : ∀ t, Steps p.tables e below (s₁.setTop (mkF m 62 #[.val (.int p0), .val (.int p1), .unset, .val (.int (w0_1 p1)), .val (.int (65279 : Int32))] [])) t → Steps p.tables e below S0 t := fun t k => K12 t (by
                refine XS.icmpYes X0.here hx rfl (pc0 := 47) (pc' := 58) rfl (hb hby at_47) rfl (XT.ii_ne_t hc47_3) (by decide) (by decide) ?_
                show Steps p.tables e below (s₁.setTop (mkF m 58 #[.val (.int p0), .val (.int p1), .unset, .val (.int (w0_1 p1)), .unset] [])) _
                refine X0.ldcInt hx hown (mvT hZ (hw _ (List.mem_of_getElem? (i := 10) rfl))) (g := (mkF m 58 #[.val (.int p0), .val (.int p1), .unset, .val (.int (w0_1 p1)), .unset] [])) rfl (hb hby at_58) _ ?_
                show Steps p.tables e below (s₁.setTop (mkF m 60 #[.val (.int p0), .val (.int p1), .unset, .val (.int (w0_1 p1)), .unset] [(.int (65279 : Int32))])) _
                refine XS.istore X0.here hx rfl (hb hby at_60) rfl (l' := #[.val (.int p0), .val (.int p1), .unset, .val (.int (w0_1 p1)), .val (.int (65279 : Int32))]) rfl ?_
                show Steps p.tables e below (s₁.setTop (mkF m 62 #[.val (.int p0), .val (.int p1), .unset, .val (.int (w0_1 p1)), .val (.int (65279 : Int32))] [])) _
                exact k)
              have q16 : (w0_m2 p1) = (65279 : Int32) := by unfold w0_m2; rw [if_neg hc21_1, if_neg hc34_2, if_neg hc47_3]
              exact ⟨s₁, _, X0, N0, e0, fun t k => K15 t (by rw [q16] at k; exact k)⟩
      have K17 : ∀ t, Steps p.tables e below (T6.setTop (mkF m 75 #[.val (.int p0), .val (.int p1), .val (.int (w0_3 p0 p1)), .val (.int (w0_1 p1)), .val (.int (w0_m2 p1))] [])) t → Steps p.tables e below S0 t := fun t k => K6 t (by
        refine XS.iload X6.here hx rfl (hb hby at_62) rfl ?_
        show Steps p.tables e below (T6.setTop (mkF m 64 #[.val (.int p0), .val (.int p1), .unset, .val (.int (w0_1 p1)), .val (.int (w0_m2 p1))] [(.int (w0_m2 p1))])) _
        refine XS.iloadN X6.here hx rfl (hb hby at_64) rfl ?_
        show Steps p.tables e below (T6.setTop (mkF m 65 #[.val (.int p0), .val (.int p1), .unset, .val (.int (w0_1 p1)), .val (.int (w0_m2 p1))] [(.int p0), (.int (w0_m2 p1))])) _
        refine XS.bipush X6.here hx rfl (hb hby at_65) ?_
        show Steps p.tables e below (T6.setTop (mkF m 67 #[.val (.int p0), .val (.int p1), .unset, .val (.int (w0_1 p1)), .val (.int (w0_m2 p1))] [(.int (7 : Int32)), (.int p0), (.int (w0_m2 p1))])) _
        refine XS.iand X6.here hx rfl (hb hby at_67) rfl ?_
        show Steps p.tables e below (T6.setTop (mkF m 68 #[.val (.int p0), .val (.int p1), .unset, .val (.int (w0_1 p1)), .val (.int (w0_m2 p1))] [(.int (p0 &&& (7 : Int32))), (.int (w0_m2 p1))])) _
        refine XS.iconst X6.here hx rfl (hb hby at_68) ?_
        show Steps p.tables e below (T6.setTop (mkF m 69 #[.val (.int p0), .val (.int p1), .unset, .val (.int (w0_1 p1)), .val (.int (w0_m2 p1))] [(.int (3 : Int32)), (.int (p0 &&& (7 : Int32))), (.int (w0_m2 p1))])) _
        refine XS.isub X6.here hx rfl (hb hby at_69) rfl ?_
        show Steps p.tables e below (T6.setTop (mkF m 70 #[.val (.int p0), .val (.int p1), .unset, .val (.int (w0_1 p1)), .val (.int (w0_m2 p1))] [(.int ((p0 &&& (7 : Int32)) - (3 : Int32))), (.int (w0_m2 p1))])) _
        refine XS.iadd X6.here hx rfl (hb hby at_70) rfl ?_
        show Steps p.tables e below (T6.setTop (mkF m 71 #[.val (.int p0), .val (.int p1), .unset, .val (.int (w0_1 p1)), .val (.int (w0_m2 p1))] [(.int ((w0_m2 p1) + ((p0 &&& (7 : Int32)) - (3 : Int32))))])) _
        refine X6.ldcInt hx hown (mvT hZ (hw _ (List.mem_of_getElem? (i := 0) rfl))) (g := (mkF m 71 #[.val (.int p0), .val (.int p1), .unset, .val (.int (w0_1 p1)), .val (.int (w0_m2 p1))] [(.int ((w0_m2 p1) + ((p0 &&& (7 : Int32)) - (3 : Int32))))])) rfl (hb hby at_71) _ ?_
        show Steps p.tables e below (T6.setTop (mkF m 73 #[.val (.int p0), .val (.int p1), .unset, .val (.int (w0_1 p1)), .val (.int (w0_m2 p1))] [(.int (65535 : Int32)), (.int ((w0_m2 p1) + ((p0 &&& (7 : Int32)) - (3 : Int32))))])) _
        refine XS.iand X6.here hx rfl (hb hby at_73) rfl ?_
        show Steps p.tables e below (T6.setTop (mkF m 74 #[.val (.int p0), .val (.int p1), .unset, .val (.int (w0_1 p1)), .val (.int (w0_m2 p1))] [(.int (((w0_m2 p1) + ((p0 &&& (7 : Int32)) - (3 : Int32))) &&& (65535 : Int32)))])) _
        refine XS.istoreN X6.here hx rfl (hb hby at_74) rfl (l' := #[.val (.int p0), .val (.int p1), .val (.int (w0_3 p0 p1)), .val (.int (w0_1 p1)), .val (.int (w0_m2 p1))]) rfl ?_
        show Steps p.tables e below (T6.setTop (mkF m 75 #[.val (.int p0), .val (.int p1), .val (.int (w0_3 p0 p1)), .val (.int (w0_1 p1)), .val (.int (w0_m2 p1))] [])) _
        exact k)
      have q18 : (w0_m4 p0 p1) = (w0_3 p0 p1) := by unfold w0_m4; rw [if_neg hc3_0]
      exact ⟨T6, _, .val (.int (w0_1 p1)), .val (.int (w0_m2 p1)), X6, N6, e6, One.val rfl, One.val rfl, fun t k => K17 t (by rw [q18] at k; exact k)⟩
  have K19 : ∀ t, Steps p.tables e below (T2.setTop (mkF m 79 #[.val (.int p0), .val (.int p1), .val (.int (w0_m4 p0 p1)), .val (.int (w0_5 p0 p1)), s2_l4] [(.int (w0_5 p0 p1))])) t → Steps p.tables e below S0 t := fun t k => K2 t (by
    refine XS.iloadN X2.here hx rfl (hb hby at_75) rfl ?_
    show Steps p.tables e below (T2.setTop (mkF m 76 #[.val (.int p0), .val (.int p1), .val (.int (w0_m4 p0 p1)), s2_l3, s2_l4] [(.int (w0_m4 p0 p1))])) _
    refine XS.i2c X2.here hx rfl (hb hby at_76) rfl ?_
    show Steps p.tables e below (T2.setTop (mkF m 77 #[.val (.int p0), .val (.int p1), .val (.int (w0_m4 p0 p1)), s2_l3, s2_l4] [(.int ((w0_m4 p0 p1).toUInt32.toUInt16.toUInt32.toInt32))])) _
    refine XS.istoreNS X2.here hx rfl (hb hby at_77) rfl rfl o_s2_l3 ?_
    show Steps p.tables e below (T2.setTop (mkF m 78 #[.val (.int p0), .val (.int p1), .val (.int (w0_m4 p0 p1)), .val (.int (w0_5 p0 p1)), s2_l4] [])) _
    refine XS.iloadN X2.here hx rfl (hb hby at_78) rfl ?_
    show Steps p.tables e below (T2.setTop (mkF m 79 #[.val (.int p0), .val (.int p1), .val (.int (w0_m4 p0 p1)), .val (.int (w0_5 p0 p1)), s2_l4] [(.int (w0_5 p0 p1))])) _
    exact k)
  have K_20 : ∀ t, Steps p.tables e below (T2.setTop (mkF m 79 #[.val (.int p0), .val (.int p1), .val (.int (w0_m4 p0 p1)), .val (.int (w0_5 p0 p1)), s2_l4] [(.int (w0_5 p0 p1))])) t → Steps p.tables e below S0 t := K19
  obtain ⟨_, _, ⟨T21, L21, k21, n21⟩, -, X21, ⟨Lc21, hQ21, l21, y21, z21⟩, st21⟩ := Jvm.LawKit.callS X2 hx (y := (⟨"biaxial/Lines", "isZeroWidth", "(C)Z"⟩ : MethodName)) hown (mvT hZ (hw _ (List.mem_of_getElem? (i := 1) rfl))) (mvT hZ (hw _ (List.mem_of_getElem? (i := 2) rfl))) (mvT hZ (hw _ (List.mem_of_getElem? (i := 3) rfl))) (mvT hZ (hw _ (List.mem_of_getElem? (i := 4) rfl))) (by decide) (backOf (W := 0) (rm1 l Z a0 hw [] (w0_5 p0 p1) h0 n0 Z0 ) hZ (hw _ (List.mem_of_getElem? (i := 4) rfl)) (hw _ (List.mem_of_getElem? (i := 3) rfl)) (by decide) (by decide)) (g := (mkF m 79 #[.val (.int p0), .val (.int p1), .val (.int (w0_m4 p0 p1)), .val (.int (w0_5 p0 p1)), s2_l4] [(.int (w0_5 p0 p1))])) rfl (by rw [hml]; rfl) (argsL := [(.int (w0_5 p0 p1))]) (rest := []) (lenOf pd0_0 rfl) rfl (by show 2 * 0 + _ ≤ _; exact Nat.le_of_eq rfl) (hb hby at_79) (fun _ _ => ⟨rfl, e2, (by decide : 0 + 0 ≤ 0), (by decide : 0 + 0 ≤ 0)⟩)
  dsimp only [Pt.U, Pt.locs, Pt.cells, Pt.slots] at X21 l21 y21 z21 st21 hQ21
  subst l21 y21 z21
  obtain ⟨rfl, N21q, e21⟩ := hQ21
  have N21 := Fr.app N2 N21q
  have K21 : ∀ t, Steps p.tables e below (T21.setTop (mkF m 82 #[.val (.int p0), .val (.int p1), .val (.int (w0_m4 p0 p1)), .val (.int (w0_5 p0 p1)), s2_l4] [(.int (w1_r1 (w0_5 p0 p1)))])) t → Steps p.tables e below S0 t := fun t k => K_20 t (st21 t k)
  have K22 : ∀ t, Steps p.tables e below (T21.setTop (mkF m 83 #[.val (.int p0), .val (.int p1), .val (.int (w0_m4 p0 p1)), .val (.int (w0_5 p0 p1)), s2_l4] [(.int (w0_m4 p0 p1)), (.int (w1_r1 (w0_5 p0 p1)))])) t → Steps p.tables e below S0 t := fun t k => K21 t (by
    refine XS.iloadN X21.here hx rfl (hb hby at_82) rfl ?_
    show Steps p.tables e below (T21.setTop (mkF m 83 #[.val (.int p0), .val (.int p1), .val (.int (w0_m4 p0 p1)), .val (.int (w0_5 p0 p1)), s2_l4] [(.int (w0_m4 p0 p1)), (.int (w1_r1 (w0_5 p0 p1)))])) _
    exact k)
  have K_23 : ∀ t, Steps p.tables e below (T21.setTop (mkF m 83 #[.val (.int p0), .val (.int p1), .val (.int (w0_m4 p0 p1)), .val (.int (w0_5 p0 p1)), s2_l4] [(.int (w0_m4 p0 p1)), (.int (w1_r1 (w0_5 p0 p1)))])) t → Steps p.tables e below S0 t := K22
  obtain ⟨_, _, ⟨T24, L24, k24, n24⟩, -, X24, ⟨Lc24, hQ24, l24, y24, z24⟩, st24⟩ := Jvm.LawKit.callS X21 hx (y := (⟨"biaxial/LinesIsZeroWidthPinLaw", "listed", "(I)Z"⟩ : MethodName)) hown (mvT hZ (hw _ (List.mem_of_getElem? (i := 6) rfl))) (mvT hZ (hw _ (List.mem_of_getElem? (i := 7) rfl))) (mvT hZ (hw _ (List.mem_of_getElem? (i := 8) rfl))) (mvT hZ (hw _ (List.mem_of_getElem? (i := 9) rfl))) (by decide) (backOf (W := 1) (rm2 l Z a0 hw [] (w0_m4 p0 p1) h0 n0 Z0 ) hZ (hw _ (List.mem_of_getElem? (i := 9) rfl)) (hw _ (List.mem_of_getElem? (i := 8) rfl)) (by decide) (by decide)) (g := (mkF m 83 #[.val (.int p0), .val (.int p1), .val (.int (w0_m4 p0 p1)), .val (.int (w0_5 p0 p1)), s2_l4] [(.int (w0_m4 p0 p1)), (.int (w1_r1 (w0_5 p0 p1)))])) rfl (by rw [hml]; rfl) (argsL := [(.int (w0_m4 p0 p1))]) (rest := [(.int (w1_r1 (w0_5 p0 p1)))]) (lenOf pd0_1 rfl) rfl (by show 2 * 0 + _ ≤ _; exact Nat.le_of_eq rfl) (hb hby at_83) (fun _ _ => ⟨rfl, e21, (by decide : 0 + 0 ≤ 0), (by decide : 0 + 0 ≤ 0)⟩)
  dsimp only [Pt.U, Pt.locs, Pt.cells, Pt.slots] at X24 l24 y24 z24 st24 hQ24
  subst l24 y24 z24
  obtain ⟨rfl, N24q, e24⟩ := hQ24
  have N24 := Fr.app N21 N24q
  have K24 : ∀ t, Steps p.tables e below (T24.setTop (mkF m 86 #[.val (.int p0), .val (.int p1), .val (.int (w0_m4 p0 p1)), .val (.int (w0_5 p0 p1)), s2_l4] [(.int (w2_r1 (w0_m4 p0 p1))), (.int (w1_r1 (w0_5 p0 p1)))])) t → Steps p.tables e below S0 t := fun t k => K_23 t (st24 t k)
  by_cases hc86_0 : (w1_r1 (w0_5 p0 p1)) = (w2_r1 (w0_m4 p0 p1))
  · -- yes
    have K25 : ∀ t, Steps p.tables e below (T24.setTop (mkF m 94 #[.val (.int p0), .val (.int p1), .val (.int (w0_m4 p0 p1)), .val (.int (w0_5 p0 p1)), s2_l4] [(.int (1 : Int32))])) t → Steps p.tables e below S0 t := fun t k => K24 t (by
      refine XS.icmpNo X24.here hx rfl (hb hby at_86) rfl (XT.ii_ne_f hc86_0) ?_
      show Steps p.tables e below (T24.setTop (mkF m 89 #[.val (.int p0), .val (.int p1), .val (.int (w0_m4 p0 p1)), .val (.int (w0_5 p0 p1)), s2_l4] [])) _
      refine XS.iconst X24.here hx rfl (hb hby at_89) ?_
      show Steps p.tables e below (T24.setTop (mkF m 90 #[.val (.int p0), .val (.int p1), .val (.int (w0_m4 p0 p1)), .val (.int (w0_5 p0 p1)), s2_l4] [(.int (1 : Int32))])) _
      refine XS.goto X24.here hx rfl (pc0 := 90) (pc' := 94) rfl (hb hby at_90) (by decide) (by decide) ?_
      show Steps p.tables e below (T24.setTop (mkF m 94 #[.val (.int p0), .val (.int p1), .val (.int (w0_m4 p0 p1)), .val (.int (w0_5 p0 p1)), s2_l4] [(.int (1 : Int32))])) _
      exact k)
    obtain ⟨fs, hr, hrun, hended, hW, hsame⟩ := X24.leave (v := some (.int (1 : Int32))) (fun h => by rw [Bd.returns] at h; cases h)
    refine ⟨_, _, ?_, hrun, hended, _, _, rfl, ?_, ⟨_, rfl⟩, hW, hsame.mono (by decide) (by decide)⟩
    · rw [← hS0]; exact K25 _ (retN X24 hx (t := .boolean) Bd.returns (by simp) (hb hby at_94) hr)
    · show Q0 Z p0 p1 h0 n0 _ T24.heap _
      rw [e24]
      have qr : (1 : Int32) = (w0_r6 p0 p1) := by unfold w0_r6; rw [if_pos hc86_0]
      exact ⟨congrArg (fun z => some (Value.int z)) qr, N24⟩
  · -- no
    have K26 : ∀ t, Steps p.tables e below (T24.setTop (mkF m 94 #[.val (.int p0), .val (.int p1), .val (.int (w0_m4 p0 p1)), .val (.int (w0_5 p0 p1)), s2_l4] [(.int (0 : Int32))])) t → Steps p.tables e below S0 t := fun t k => K24 t (by
      refine XS.icmpYes X24.here hx rfl (pc0 := 86) (pc' := 93) rfl (hb hby at_86) rfl (XT.ii_ne_t hc86_0) (by decide) (by decide) ?_
      show Steps p.tables e below (T24.setTop (mkF m 93 #[.val (.int p0), .val (.int p1), .val (.int (w0_m4 p0 p1)), .val (.int (w0_5 p0 p1)), s2_l4] [])) _
      refine XS.iconst X24.here hx rfl (hb hby at_93) ?_
      show Steps p.tables e below (T24.setTop (mkF m 94 #[.val (.int p0), .val (.int p1), .val (.int (w0_m4 p0 p1)), .val (.int (w0_5 p0 p1)), s2_l4] [(.int (0 : Int32))])) _
      exact k)
    obtain ⟨fs, hr, hrun, hended, hW, hsame⟩ := X24.leave (v := some (.int (0 : Int32))) (fun h => by rw [Bd.returns] at h; cases h)
    refine ⟨_, _, ?_, hrun, hended, _, _, rfl, ?_, ⟨_, rfl⟩, hW, hsame.mono (by decide) (by decide)⟩
    · rw [← hS0]; exact K26 _ (retN X24 hx (t := .boolean) Bd.returns (by simp) (hb hby at_94) hr)
    · show Q0 Z p0 p1 h0 n0 _ T24.heap _
      rw [e24]
      have qr : (0 : Int32) = (w0_r6 p0 p1) := by unfold w0_r6; rw [if_neg hc86_0]
      exact ⟨congrArg (fun z => some (Value.int z)) qr, N24⟩
set_option maxRecDepth 65536 in
set_option maxHeartbeats 40000000 in
theorem comes_1 {Post : Tables → Env → Array Value → State → Outcome → State → Prop} (hpost : ∀ tb e args s v u, (limb_1_1.after args s (.returned v) u = true ∧ limb_1_2.after args s (.returned v) u = true ∧ True) → FrameEnd s (.returned v) u (Jvm.fieldLocs frame_1_writes args s ++ Jvm.arrayLocs frame_1_arrays args s ++ Jvm.staticLocs frame_1_statics s) 0 0 → Post tb e args s (.returned v) u) :
    ArmFor flags0 classFile x code maxLocals ret World_1 tables_1 room_1 Calls_1 rest_1 Pre_1 Post := by
  intro l hfl _ _ p e ha hc hk s m args below hf hA hF happ hP
  obtain ⟨hcalls, hrest, hpre⟩ := hP
  obtain ⟨-, -, -, hnamed, -, -, -, hat⟩ := (Spec.applies_iff hf).mp happ
  obtain ⟨hg, hn⟩ := and_e (Cond.before_iff.mp (show (Jvm.Cond.and given_1 narrow_1).before args s = true from hpre))
  obtain ⟨hcount, hv0⟩ := and_e hg
  obtain ⟨hi0, hv1⟩ := and_e hv0
  have hi1 := hv1
  obtain ⟨w0, w1, rfl⟩ : ∃ w0 w1 : Value, args = #[w0, w1] := by
    have hs : args.size = 2 := by simpa [Cond.value, given_1] using hcount
    obtain ⟨L⟩ := args
    match L, hs with
    | [w0, w1], _ => exact ⟨w0, w1, rfl⟩
  have hw := fun d (hd : d ∈ tables_1) => atoms_spec (ws := Jvm.Cond.code x code maxLocals ret :: tables_1) hat d (List.mem_cons_of_mem _ hd)
  have hfit : Fit s := fun {y c} hc i hi => by
    obtain ⟨ha, rfl⟩ := Array.getElem?_eq_some_iff.mp hc
    have q := List.all_eq_true.mp ((Array.all_eq_true_iff_forall_mem.mp hF) _ (Array.getElem_mem ha)) i (List.mem_range.mpr hi)
    simpa [Array.getElem?_eq_getElem hi] using q
  obtain ⟨i0, ei0⟩ := is_v hi0
  obtain rfl : w0 = (.int i0) := Option.some.inj ei0
  obtain ⟨i1, ei1⟩ := is_v hi1
  obtain rfl : w1 = (.int i1) := Option.some.inj ei1
  obtain ⟨n, o, h1, h2, h3, _, L, rfl, ⟨rfl, N⟩, hq⟩ := rm0 l s _ hw tables_1 i0 i1  s.heap s.heap.size (Nat.le_refl _)  p e ha hc hk s m _ below hf ((Spec.applies_iff_loose hf).mp happ).1 ⟨rfl, State.Warmed39.refl s, rfl⟩ trivial
  refine ⟨n, _, h1, h2, h3, hpost _ _ _ _ _ _ ⟨Cond.after_iff.mpr rfl, Cond.after_iff.mpr (eq_i res_at (Term.int_eval (1)) (congrArg Value.int (plain_law i0 i1))), trivial⟩ ⟨hq.1, hq.2.1, (hq.2.2.sift fun y hy => Or.inr (N y hy)).mono (by decide) (by decide)⟩⟩
theorem main_1_1 : Claimed_1_1 := comes_1 fun _ _ _ _ _ _ h hF => ⟨h.1, hF⟩
theorem main_1_2 : Claimed_1_2 := comes_1 fun _ _ _ _ _ _ h hF => ⟨h.2.1, hF⟩
end Jvm.Pilot.@@N@@
namespace Jvm.Pilot.@@N@@
open Jvm Jvm.ClassFile Sem Op Lib Jvm.Free Jvm.Stand Jvm.Pilot.@@N@@.Jvm.D
/-! MADE BY PROGRAM (witnessworld.py) out of the Statement's table words and the real class files: 9 classes; the members and pool entries that the words name. The judged class is class 1, her method 2. -/
namespace start1
open Jvm.ClassFile
def u (s : String) : CpInfo := .utf8 (stringToUtf16 s)
/-- a pool by its gaps: so many unusable entries, then the entry; so many at the end -/
def gap : Nat → List CpInfo → List CpInfo
  | 0, r => r
  | n + 1, r => .unusable :: gap n r
def poolList (es : List (Nat × CpInfo)) (last : Nat) : List CpInfo := es.foldr (fun e r => gap e.1 (e.2 :: r)) (gap last [])
def pool (es : List (Nat × CpInfo)) (last : Nat) : Array CpInfo := ⟨poolList es last⟩
def fileOf (pool : Array CpInfo) (this : Nat) (attrs : Array Attribute := #[]) (ms : Array MethodInfo := #[]) (fl : Nat := 33) (sup : Nat := 0) (ifs : Array Nat := #[]) (fds : Array FieldInfo := #[]) : ClassFile where
  minorVersion := 0
  majorVersion := 65
  constantPool := pool
  accessFlags := fl
  thisClass := this
  superClass := sup
  interfaces := ifs
  fields := fds
  methods := ms
  attributes := attrs
def plain (name : String) (sup : Option ClassId) : Class where
  name := name
  kind := .ordinary
  loader := none
  accessFlags := 33
  super := sup
  interfaces := #[]
  cf := none
  fields := #[]
  methods := #[]
  instanceTypes := #[]
  staticTypes := #[]
  resolved := #[]
  callSites := []
  init := .initialized
  statics := none
  mirror := none

def pool0 : Array CpInfo := pool [(5, u "<init>"), (0, u "()V"), (1, .class_ 10), (1, u "java/lang/Object")] 113

def k0m0 : Method := { name := "<init>", desc := "()V", sig := { parameters := [], returnType := none }, accessFlags := 1, code := none }
/-- java/lang/Object -/
def k0 : Class := { plain "java/lang/Object" none with
  accessFlags := 33
  interfaces := #[]
  cf := some (fileOf pool0 8 #[] #[{ accessFlags := 1, nameIndex := 5, descriptorIndex := 6, attributes := #[] }] 33 0 #[] #[])
  fields := #[]
  methods := #[k0m0]
  instanceTypes := #[]
  staticTypes := #[]
  resolved := Array.replicate 124 none
  statics := none }

def pool1 : Array CpInfo := pool [(2, .class_ 4), (1, u "java/lang/Object"), (0, u "<init>"), (0, u "()V"), (0, .integer 65279), (0, .integer 65535), (0, .methodref 10 11), (0, .class_ 12), (0, .nameAndType 13 14), (0, u "biaxial/Lines"), (0, u "isZeroWidth"), (0, u "(C)Z"), (0, .methodref 16 17), (0, .class_ 18), (0, .nameAndType 19 20), (0, u "biaxial/LinesIsZeroWidthPinLaw"), (0, u "listed"), (0, u "(I)Z"), (3, u "law"), (0, u "(II)Z")] 2

def k1m0 : Method := { name := "<init>", desc := "()V", sig := { parameters := [], returnType := none }, accessFlags := 1, code := none }
def k1c1 : Code := { maxStack := 2, maxLocals := 1, code := method_2_code, exceptionTable := #[], attributes := #[] }
def k1m1 : Method := { name := "listed", desc := "(I)Z", sig := { parameters := [.int], returnType := some .boolean }, accessFlags := 10, code := some k1c1 }
def k1c2 : Code := { maxStack := 3, maxLocals := 5, code := code, exceptionTable := #[], attributes := #[] }
def k1m2 : Method := { name := "law", desc := "(II)Z", sig := { parameters := [.int, .int], returnType := some .boolean }, accessFlags := 9, code := some k1c2 }
/-- biaxial/LinesIsZeroWidthPinLaw -/
def k1 : Class := { plain "biaxial/LinesIsZeroWidthPinLaw" (some 0) with
  accessFlags := 49
  interfaces := #[]
  cf := some (fileOf pool1 16 #[] #[{ accessFlags := 1, nameIndex := 5, descriptorIndex := 6, attributes := #[] }, { accessFlags := 10, nameIndex := 19, descriptorIndex := 20, attributes := #[] }, { accessFlags := 9, nameIndex := 24, descriptorIndex := 25, attributes := #[] }] 49 2 #[] #[])
  fields := #[]
  methods := #[k1m0, k1m1, k1m2]
  instanceTypes := #[]
  staticTypes := #[]
  resolved := Array.replicate 28 none
  statics := none }

def pool2 : Array CpInfo := pool [(2, .class_ 4), (1, u "java/lang/Object"), (5, .class_ 12), (1, u "biaxial/Lines"), (0, u "lineEnd"), (0, u "Ljava/lang/String;"), (2, u "text"), (2, u "unreadable"), (2, u "source"), (10, .integer 65279), (2, u "byteOrderMark"), (0, u "Z"), (2, u "next"), (0, u "I"), (6, u "number"), (6, u "start"), (16, .class_ 75), (1, u "biaxial/Lines$Reading"), (46, u "(C)Z"), (32, u "isZeroWidth"), (2, u "TAB"), (0, u "C"), (2, u "LINE_FEED"), (1, u "CARRIAGE_RETURN"), (1, u "DELETE"), (1, u "LINE_SEPARATOR"), (1, u "PARAGRAPH_SEPARATOR"), (1, u "BYTE_ORDER_MARK"), (0, u "FIRST_EMBEDDING"), (1, u "LAST_EMBEDDING"), (1, u "FIRST_ISOLATE"), (1, u "LAST_ISOLATE"), (1, u "ZERO_WIDTH_SPACE"), (1, u "WORD_JOINER"), (1, u "INVISIBLE_PLUS")] 45

def k2c0 : Code := { maxStack := 2, maxLocals := 1, code := prog_19_method_16_code, exceptionTable := #[], attributes := #[] }
def k2m0 : Method := { name := "isZeroWidth", desc := "(C)Z", sig := { parameters := [.char], returnType := some .boolean }, accessFlags := 8, code := some k2c0 }
/-- biaxial/Lines -/
def k2 : Class := { plain "biaxial/Lines" (some 0) with
  accessFlags := 48
  interfaces := #[]
  cf := some (fileOf pool2 10 #[.nestMembers #[73]] #[{ accessFlags := 8, nameIndex := 155, descriptorIndex := 122, attributes := #[] }] 48 2 #[] #[{ accessFlags := 26, nameIndex := 158, descriptorIndex := 159, attributes := #[] }, { accessFlags := 26, nameIndex := 162, descriptorIndex := 159, attributes := #[] }, { accessFlags := 26, nameIndex := 164, descriptorIndex := 159, attributes := #[] }, { accessFlags := 26, nameIndex := 166, descriptorIndex := 159, attributes := #[] }, { accessFlags := 26, nameIndex := 168, descriptorIndex := 159, attributes := #[] }, { accessFlags := 26, nameIndex := 170, descriptorIndex := 159, attributes := #[] }, { accessFlags := 24, nameIndex := 172, descriptorIndex := 159, attributes := #[] }, { accessFlags := 26, nameIndex := 173, descriptorIndex := 159, attributes := #[] }, { accessFlags := 26, nameIndex := 175, descriptorIndex := 159, attributes := #[] }, { accessFlags := 26, nameIndex := 177, descriptorIndex := 159, attributes := #[] }, { accessFlags := 26, nameIndex := 179, descriptorIndex := 159, attributes := #[] }, { accessFlags := 26, nameIndex := 181, descriptorIndex := 159, attributes := #[] }, { accessFlags := 26, nameIndex := 183, descriptorIndex := 159, attributes := #[] }, { accessFlags := 26, nameIndex := 185, descriptorIndex := 159, attributes := #[] }, { accessFlags := 18, nameIndex := 17, descriptorIndex := 14, attributes := #[] }, { accessFlags := 18, nameIndex := 20, descriptorIndex := 14, attributes := #[] }, { accessFlags := 18, nameIndex := 23, descriptorIndex := 14, attributes := #[] }, { accessFlags := 2, nameIndex := 41, descriptorIndex := 42, attributes := #[] }, { accessFlags := 2, nameIndex := 56, descriptorIndex := 42, attributes := #[] }, { accessFlags := 2, nameIndex := 49, descriptorIndex := 42, attributes := #[] }, { accessFlags := 2, nameIndex := 13, descriptorIndex := 14, attributes := #[] }, { accessFlags := 18, nameIndex := 37, descriptorIndex := 38, attributes := #[] }])
  fields := #[{ name := "TAB", type := .char, accessFlags := 26, slot := 0, constantValue := 0 }, { name := "LINE_FEED", type := .char, accessFlags := 26, slot := 1, constantValue := 0 }, { name := "CARRIAGE_RETURN", type := .char, accessFlags := 26, slot := 2, constantValue := 0 }, { name := "DELETE", type := .char, accessFlags := 26, slot := 3, constantValue := 0 }, { name := "LINE_SEPARATOR", type := .char, accessFlags := 26, slot := 4, constantValue := 0 }, { name := "PARAGRAPH_SEPARATOR", type := .char, accessFlags := 26, slot := 5, constantValue := 0 }, { name := "BYTE_ORDER_MARK", type := .char, accessFlags := 24, slot := 6, constantValue := 0 }, { name := "FIRST_EMBEDDING", type := .char, accessFlags := 26, slot := 7, constantValue := 0 }, { name := "LAST_EMBEDDING", type := .char, accessFlags := 26, slot := 8, constantValue := 0 }, { name := "FIRST_ISOLATE", type := .char, accessFlags := 26, slot := 9, constantValue := 0 }, { name := "LAST_ISOLATE", type := .char, accessFlags := 26, slot := 10, constantValue := 0 }, { name := "ZERO_WIDTH_SPACE", type := .char, accessFlags := 26, slot := 11, constantValue := 0 }, { name := "WORD_JOINER", type := .char, accessFlags := 26, slot := 12, constantValue := 0 }, { name := "INVISIBLE_PLUS", type := .char, accessFlags := 26, slot := 13, constantValue := 0 }, { name := "text", type := (.object "java/lang/String"), accessFlags := 18, slot := 0, constantValue := 0 }, { name := "unreadable", type := (.object "java/lang/String"), accessFlags := 18, slot := 1, constantValue := 0 }, { name := "source", type := (.object "java/lang/String"), accessFlags := 18, slot := 2, constantValue := 0 }, { name := "next", type := .int, accessFlags := 2, slot := 3, constantValue := 0 }, { name := "start", type := .int, accessFlags := 2, slot := 4, constantValue := 0 }, { name := "number", type := .int, accessFlags := 2, slot := 5, constantValue := 0 }, { name := "lineEnd", type := (.object "java/lang/String"), accessFlags := 2, slot := 6, constantValue := 0 }, { name := "byteOrderMark", type := .boolean, accessFlags := 18, slot := 7, constantValue := 0 }]
  methods := #[k2m0]
  instanceTypes := #[(.object "java/lang/String"), (.object "java/lang/String"), (.object "java/lang/String"), .int, .int, .int, (.object "java/lang/String"), .boolean]
  staticTypes := #[.char, .char, .char, .char, .char, .char, .char, .char, .char, .char, .char, .char, .char, .char]
  resolved := Array.replicate 231 none
  statics := none }

def pool3 : Array CpInfo := pool [(1, u "java/lang/Cloneable"), (0, .class_ 1), (0, u "java/lang/Object"), (0, .class_ 3)] 3

/-- java/lang/Cloneable -/
def k3 : Class := { plain "java/lang/Cloneable" (some 0) with
  accessFlags := 1537
  interfaces := #[]
  cf := some (fileOf pool3 2 #[] #[] 1537 4 #[] #[])
  fields := #[]
  methods := #[]
  instanceTypes := #[]
  staticTypes := #[]
  resolved := Array.replicate 8 none
  statics := none }

def pool4 : Array CpInfo := pool [(1, u "java/io/Serializable"), (0, .class_ 1), (0, u "java/lang/Object"), (0, .class_ 3)] 3

/-- java/io/Serializable -/
def k4 : Class := { plain "java/io/Serializable" (some 0) with
  accessFlags := 1537
  interfaces := #[]
  cf := some (fileOf pool4 2 #[] #[] 1537 4 #[] #[])
  fields := #[]
  methods := #[]
  instanceTypes := #[]
  staticTypes := #[]
  resolved := Array.replicate 8 none
  statics := none }

/-- the primitive byte -/
def k5 : Class := { plain "byte" none with kind := .primitive 'B', accessFlags := 0x411 }
/-- [B -/
def k6 : Class := { plain "[B" (some 0) with kind := .array 5 .byte, interfaces := #[3, 4], accessFlags := 1041 }

/-- the primitive int -/
def k7 : Class := { plain "int" none with kind := .primitive 'I', accessFlags := 0x411 }
/-- [I -/
def k8 : Class := { plain "[I" (some 0) with kind := .array 7 .int, interfaces := #[3, 4], accessFlags := 1041 }

def heap : Heap := #[]
def classes : Array Class := #[k0, k1, k2, k3, k4, k5, k6, k7, k8]
def interned : List (Array UInt16 × Addr) := []
def slotsUsed : Nat := 0
def theMethod : MethodId := ⟨1, 2⟩
def args0 : Array Value := #[.int 5, .int 3]
def aboutOver (below : List Frame) : State where
  vm := { classes := classes, interned := interned.toArray }
  heap := heap
  slotsUsed := slotsUsed
  threads := #[{ frames := .invoking theMethod args0 :: below }]
def below0 : List Frame := [.native { method := ⟨0, 0⟩, args := #[] }]
def about1 : State := aboutOver below0
def p0 : Program := .bare "" "" ""
def e0 : Env := launch0.env 0 0 0
theorem w_frames : about1.frames = Frame.invoking theMethod args0 :: below0 := rfl
set_option maxRecDepth 65536 in
theorem w_args : argsFit about1.vm theMethod args0 = true := by decide +kernel
set_option maxRecDepth 65536 in
theorem w_heap : heapFits about1 = true := by decide +kernel
set_option maxRecDepth 65536 in
theorem w_runnable : about1.curStatus? = some .runnable := by decide +kernel
set_option maxRecDepth 65536 in
theorem w_alone : about1.alone = true := by decide +kernel
set_option maxRecDepth 65536 in
theorem w_named : about1.methodNamed? x = some theMethod := by decide +kernel
set_option maxRecDepth 65536 in
theorem w_hears : about1.hears theMethod below0 = true := by decide +kernel
set_option maxRecDepth 65536 in
theorem w_ripe : about1.ripe theMethod args0 below0 = true := by decide +kernel
theorem w_running : about1.status = .running := rfl
set_option maxRecDepth 65536 in
theorem w_room : about1.hasRoom e0.platform room_1 = true :=
  launch0.hasRoom_least _ room_1 (by decide +kernel) (by decide +kernel) (by decide +kernel) (by decide +kernel) (by decide +kernel) (by decide +kernel)
theorem allAtoms_all (ts : List Jvm.Cond) (a : Array Jvm.Value) (st : Jvm.State) : (allAtoms ts).before a st = ts.all (fun c => c.before a st) := by
  induction ts with
  | nil => rfl
  | cons c t ih =>
    show (Jvm.Cond.and c (allAtoms t)).before a st = _
    rw [Jvm.Cond.before_and, ih, List.all_cons]
def words1 : List Jvm.Cond := Jvm.Cond.code x code maxLocals ret :: tables_1
/-- a 'code' word, met by the world's own term for the bytes: nothing is compared byte by byte -/
theorem code_word {y : MethodName} {bytes : ByteArray} {mx : Nat} {rt : Option FieldType} {a : Array Value} {s : State} {m : MethodId} {meth : Method} {c : Code} (h1 : s.methodNamed? y = some m) (h2 : s.vm.method? m = some meth) (h3 : meth.code = some c) (h4 : c.code = bytes)
    (h5 : (c.maxLocals == mx && c.exceptionTable.isEmpty && decide (c.maxStack ≤ mostOperands) && decide (meth.sig.returnType = rt) && !meth.locks && decide (parseMethodDescriptor y.desc = some meth.sig)) = true) : (Jvm.Cond.code y bytes mx rt).before a s = true := by
  simp only [Bool.and_eq_true, beq_iff_eq, Bool.not_eq_true', decide_eq_true_eq] at h5
  obtain ⟨⟨⟨⟨⟨g1, g2⟩, g3⟩, g4⟩, g5⟩, g6⟩ := h5
  simp [Cond.before, Cond.holds, Cond.value, h1, h2, h3, h4, g1, g2, g3, g4, g5, g6]
def isCode : Jvm.Cond → Bool
  | .code _ _ _ _ => true
  | _ => false
theorem all_split {L : List Jvm.Cond} {P : Jvm.Cond → Bool} (h1 : L.all (fun c => isCode c || P c) = true) (h2 : ∀ c ∈ L.filter isCode, P c = true) : L.all P = true := by
  refine List.all_eq_true.mpr fun c hc => ?_
  have h := List.all_eq_true.mp h1 c hc
  rcases Bool.eq_false_or_eq_true (isCode c) with hi | hi
  · exact h2 c (List.mem_filter.mpr ⟨hc, hi⟩)
  · simpa [hi] using h
set_option maxRecDepth 65536 in
theorem w_c0 : (Jvm.Cond.code x code maxLocals ret).before args0 about1 = true := code_word (m := ⟨1, 2⟩) (meth := k1m2) (c := k1c2) (by decide +kernel) rfl rfl rfl (by decide +kernel)
set_option maxRecDepth 65536 in
theorem w_c1 : (Jvm.Cond.code ({ cls := "biaxial/Lines", name := "isZeroWidth", desc := "(C)Z" } : Jvm.MethodName) prog_19_method_16_code (1 : Nat) (Option.some Jvm.ClassFile.FieldType.boolean)).before args0 about1 = true := code_word (m := ⟨2, 0⟩) (meth := k2m0) (c := k2c0) (by decide +kernel) rfl rfl rfl (by decide +kernel)
set_option maxRecDepth 65536 in
theorem w_c2 : (Jvm.Cond.code ({ cls := "biaxial/LinesIsZeroWidthPinLaw", name := "listed", desc := "(I)Z" } : Jvm.MethodName) method_2_code (1 : Nat) (Option.some Jvm.ClassFile.FieldType.boolean)).before args0 about1 = true := code_word (m := ⟨1, 1⟩) (meth := k1m1) (c := k1c1) (by decide +kernel) rfl rfl rfl (by decide +kernel)
def codes1 : List Jvm.Cond := [Jvm.Cond.code x code maxLocals ret, Jvm.Cond.code ({ cls := "biaxial/Lines", name := "isZeroWidth", desc := "(C)Z" } : Jvm.MethodName) prog_19_method_16_code (1 : Nat) (Option.some Jvm.ClassFile.FieldType.boolean), Jvm.Cond.code ({ cls := "biaxial/LinesIsZeroWidthPinLaw", name := "listed", desc := "(I)Z" } : Jvm.MethodName) method_2_code (1 : Nat) (Option.some Jvm.ClassFile.FieldType.boolean)]
set_option maxRecDepth 65536 in
theorem codes_eq : words1.filter isCode = codes1 := rfl
theorem w_codes : ∀ c ∈ words1.filter isCode, c.before args0 about1 = true := by
  rw [codes_eq]
  intro c hc
  simp only [codes1, List.mem_cons, List.not_mem_nil, or_false] at hc
  rcases hc with rfl | rfl | rfl
  · exact w_c0
  · exact w_c1
  · exact w_c2
set_option maxRecDepth 65536 in
theorem w_t1 : words1.all (fun c => isCode c || c.before args0 about1) = true := by decide +kernel
theorem w_tables : (allAtoms (Jvm.Cond.code x code maxLocals ret :: tables_1)).before args0 about1 = true := by
  rw [allAtoms_all]
  show words1.all (fun c => c.before args0 about1) = true
  refine all_split ?_ w_codes
  rw [w_t1]
set_option maxRecDepth 65536 in
theorem w_case : (Jvm.Cond.and given_1 narrow_1).before args0 about1 = true := by decide +kernel
theorem w_applies : (headSpec (Jvm.Cond.code x code maxLocals ret :: tables_1) room_1).applies x e0.platform about1 = true :=
  (Spec.applies_iff w_frames).mpr ⟨w_running, w_runnable, w_alone, w_named, w_hears, w_ripe, w_room, w_tables⟩
theorem atStart : AtStart classFile x code maxLocals ret World_1 tables_1 room_1 Calls_1 rest_1 Pre_1 launch0 p0 e0 about1 theMethod args0 below0 :=
  ⟨lists_1, trivial, launch0.admits_env _ _ _, launch0.least_env, fairChoices_fair.cas, fairChoices_fair.clock, w_frames, w_args, w_heap, w_applies, trivial, trivial, w_case⟩
end start1
theorem witness_1 : WitnessClaimed_1 := ⟨start1.p0, start1.e0, start1.about1, start1.theMethod, start1.args0, start1.below0, start1.atStart⟩
end Jvm.Pilot.@@N@@
