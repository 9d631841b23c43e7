import JvmDerived
import JvmDerived.Pilot.@@N@@Statement
import JvmDerived.Pilot.@@N@@Code
set_option linter.unusedVariables false
set_option linter.unusedSimpArgs false
namespace Jvm.RoadKit
open Sem ClassFile Op Lib Jvm.Stand Jvm.Free Jvm.LawKit
section New
variable {p : Program} {l : Launch} {e : Env} {R : Room} {s : State} {m : MethodId} {args : Array Value} {below : List Frame} {meth : Method} {c : Code} {T : State} {locs : List Loc} {cells slots : Nat}
theorem retI (X : Stand p l e R s m args below meth c T locs cells slots) (hx : p.tables.exec = Jvm.exec) {pc : Nat} {Ls : Array Slot} {z : Int32} {rest : List Value} (hret : meth.sig.returnType = some .int) (hd : decode c.code pc = .ok (.ireturn, 1)) {fs : List Frame}
    (hl : ∀ (f : JFrame) (acts : List Action), f.method = m → f.locked = none → f.entered = [] → (doReturn e (T.setTop f) acts (some (.int z))).1 = T.setFrames fs) : Steps p.tables e below (T.setTop (mkF m pc Ls (.int z :: rest))) (T.setFrames fs) :=
  retOut X hx hret rfl (Or.inl ⟨rfl, Or.inl rfl, _, rfl⟩) hd hl
end New
end Jvm.RoadKit
namespace Jvm.Pilot.@@N@@
open Jvm Jvm.ClassFile Sem Op Lib Jvm.Free Jvm.Stand Jvm.LawKit Jvm.RoadKit Bundle Jvm.Pilot.@@N@@.Jvm.D
def w1_r1 (zm : Int32) : Int32 := (if (0 : Int32) < zm then (1 : Int32) else (0 : Int32))
def w0_1 (p0 : Int32) : Int32 := ((p0 &&& (2147483647 : Int32)) % (3 : Int32))
def w0_m2 (p0 : Int32) : Int32 := (if (w0_1 p0) = (2 : Int32) then (1 : Int32) else (0 : Int32))
def w0_r3 (p0 : Int32) : Int32 := (if (w0_1 p0) = (0 : Int32) then (if (w1_r1 (0 : Int32)) = (w0_m2 p0) then (if (w1_r1 (0 : Int32)) = (0 : Int32) then (1 : Int32) else (0 : Int32)) else (0 : Int32)) else (if (w0_1 p0) = (1 : Int32) then (if (w1_r1 (0 : Int32)) = (w0_m2 p0) then (if (w1_r1 (0 : Int32)) = (0 : Int32) then (1 : Int32) else (0 : Int32)) else (0 : Int32)) else (if (w1_r1 (2 : Int32)) = (w0_m2 p0) then (1 : Int32) else (0 : Int32))))
theorem own_fldeq {args : Array Value} {s : State} {t : Term} {C n d : String} {x : Addr} {k : Int32} (ht : t.eval args s none [] s = some (.ref x)) (h : (Jvm.Cond.eq (Term.field t C n d) (Term.int k)).value args s none s [] = some true) : s.fieldOf? x C n d = some (.int k) :=
  (fld_at ht).symm.trans (eqv_i (Term.int_eval _) h)
theorem own_len (p0 : Int32) : w0_1 p0 = 0 ∨ w0_1 p0 = 1 ∨ w0_1 p0 = 2 := by
  have l0 : (0 : Int32).toInt = 0 := rfl
  have l1 : (1 : Int32).toInt = 1 := rfl
  have l2 : (2 : Int32).toInt = 2 := rfl
  have h := c_mask p0 2147483647 31 (by decide) (by decide)
  have g := (c_irem (p0 &&& 2147483647) 3 3 rfl).1 (by omega)
  simp only [← Int32.toInt_inj, l0, l1, l2]
  unfold w0_1
  omega
theorem plain_law (p0 : Int32) : w0_r3 p0 = 1 := by
  unfold w0_r3 w0_m2
  rcases own_len p0 with h | h | h <;> (rw [h]; decide)

theorem d1_0 : decode prog_21_method_6_code 0 = .ok (.aload_n 0, 1) := by decide +kernel
theorem d1_1 : decode prog_21_method_6_code 1 = .ok (.getfield 40, 3) := by decide +kernel
theorem d1_4 : decode prog_21_method_6_code 4 = .ok (.ifCond .le 7, 3) := by decide +kernel
theorem d1_7 : decode prog_21_method_6_code 7 = .ok (.iconst 1, 1) := by decide +kernel
theorem d1_8 : decode prog_21_method_6_code 8 = .ok (.goto 4, 3) := by decide +kernel
theorem d1_11 : decode prog_21_method_6_code 11 = .ok (.iconst 0, 1) := by decide +kernel
theorem d1_12 : decode prog_21_method_6_code 12 = .ok (.ireturn, 1) := by decide +kernel
theorem pn1 : plainName "com/example/nearmark/nearmark/binpacking/OnlineAlgorithm" = true := by first | (simp [plainName, overriddenIn]; done) | decide +kernel
theorem ef1 (m : MethodId) (o0 : Addr) : entryFrame m #[(.ref o0)] 1 = mkF m 0 #[.val (.ref o0)] [] := by first | (simp [entryFrame, mkF, argsToLocals, Value.category]; done) | rfl
def Q1 (Z : State) (o0 : Addr) (zm : Int32) (h0 : Heap) (n0 : Nat) (v : Option Value) (h : Heap) (L : List Loc) : Prop := v = some (.int (w1_r1 zm)) ∧ Fr n0 L ∧ h = h0
set_option maxRecDepth 65536 in
set_option maxHeartbeats 40000000 in
theorem rm1 (l : Launch) (Z : State) (a0 : Array Value) (hw : ∀ d ∈ tables_1, d.before a0 Z = true) (ws : List Jvm.Cond) (o0 : Addr) (zm : Int32) (h0 : Heap) (n0 : Nat) (Z0 : n0 ≤ h0.size) (F_o0_minClasses : Fld Z h0 o0 "com/example/nearmark/nearmark/binpacking/OnlineAlgorithm" "minClasses" "I" (.int zm)) :
    MetFree l (⟨"com/example/nearmark/nearmark/binpacking/OnlineAlgorithm", "takesClasses", "()Z"⟩ : MethodName) (head1 (Jvm.Cond.code (⟨"com/example/nearmark/nearmark/binpacking/OnlineAlgorithm", "takesClasses", "()Z"⟩ : MethodName) prog_21_method_6_code 1 (some .boolean) :: ws) ({ frames := 0, cells := 0, slots := 0, locals := 0 } : Room)) (fun a U => a = #[(.ref o0)] ∧ Z.Warmed39 U.vm ∧ U.heap = h0) (fun _ _ _ _ _ => True) (fun _ U o U' => ∃ v L, o = .returned v ∧ Q1 Z o0 zm h0 n0 v U'.heap L ∧ FrameEnd U o U' L ({ frames := 0, cells := 0, slots := 0, locals := 0 } : Room).cells ({ frames := 0, cells := 0, slots := 0, locals := 0 } : Room).slots) := by
  refine MetFree.of_bodySF (plainFor_of_name pn1) hisR ?_
  intro p e s m args below meth c s₁ Bd hml0 hP hK
  obtain ⟨rfl, hZ, hh⟩ := hP
  have hx := Bd.exec
  have hby := Bd.bytes
  have hml : c.maxLocals = 1 := hml0
  have hown : s.vm.findClass "com/example/nearmark/nearmark/binpacking/OnlineAlgorithm" = some m.cls := findClass_of_methodNamed Bd.named
  have hnm := (name_of_methodNamed Bd.named Bd.method).1
  have X0 : Stand p l e ({ frames := 0, cells := 0, slots := 0, locals := 0 } : Room) s m #[(.ref o0)] below meth c s₁ [] 0 0 := Stand.of_body Bd
  have e0 : s₁.heap = h0 := by rw [← hh, Bd.state]; rfl
  have N0 := Fr.nil n0
  obtain ⟨S0, hS0⟩ : ∃ S0, S0 = s₁.setTop (entryFrame m #[(.ref o0)] 1) := ⟨_, rfl⟩
  have pre0 : ∀ t, Steps p.tables e below (s₁.setTop (mkF m 0 #[.val (.ref o0)] [])) t → Steps p.tables e below S0 t := fun t k => by rw [hS0]; exact castTop (ef1 m o0) k
  have K1 : ∀ t, Steps p.tables e below (s₁.setTop (mkF m 1 #[.val (.ref o0)] [(.ref o0)])) t → Steps p.tables e below S0 t := fun t k => pre0 t (by
    refine XS.aloadN X0.here hx rfl (hb hby d1_0) rfl rfl ?_
    show Steps p.tables e below (s₁.setTop (mkF m 1 #[.val (.ref o0)] [(.ref o0)])) _
    exact k)
  obtain ⟨T2, X2, e2, st2⟩ := getF X0 hx hZ hown (host := "") (Or.inl (hw _ (List.mem_of_getElem? (i := 9) rfl))) Via.refl e0 F_o0_minClasses (g := (mkF m 1 #[.val (.ref o0)] [(.ref o0)])) rfl rfl (hb hby d1_1)
  have K2 : ∀ t, Steps p.tables e below (T2.setTop (mkF m 4 #[.val (.ref o0)] [(.int zm)])) t → Steps p.tables e below S0 t := fun t k => K1 t (st2 t k)
  by_cases hc4_0 : (0 : Int32) < zm
  · -- yes
    have K3 : ∀ t, Steps p.tables e below (T2.setTop (mkF m 12 #[.val (.ref o0)] [(.int (1 : Int32))])) t → Steps p.tables e below S0 t := fun t k => K2 t (by
      refine XS.ifNo X2.here hx rfl (hb hby d1_4) rfl (XT.i0_le_f hc4_0) ?_
      show Steps p.tables e below (T2.setTop (mkF m 7 #[.val (.ref o0)] [])) _
      refine XS.iconst X2.here hx rfl (hb hby d1_7) ?_
      show Steps p.tables e below (T2.setTop (mkF m 8 #[.val (.ref o0)] [(.int (1 : Int32))])) _
      refine XS.goto X2.here hx rfl (pc0 := 8) (pc' := 12) rfl (hb hby d1_8) (by decide) (by decide) ?_
      show Steps p.tables e below (T2.setTop (mkF m 12 #[.val (.ref o0)] [(.int (1 : Int32))])) _
      exact k)
    obtain ⟨fs, hr, hrun, hended, hW, hsame⟩ := X2.leave (v := some (.int (1 : Int32))) (fun h => by rw [Bd.returns] at h; cases h)
    refine ⟨_, _, ?_, hrun, hended, _, _, rfl, ?_, ⟨_, rfl⟩, hW, hsame.mono (by decide) (by decide)⟩
    · rw [← hS0]; exact K3 _ (retN X2 hx (t := .boolean) Bd.returns (by simp) (hb hby d1_12) hr)
    · show Q1 Z o0 zm h0 n0 _ T2.heap _
      rw [e2]
      have qr : (1 : Int32) = (w1_r1 zm) := by unfold w1_r1; rw [if_pos hc4_0]
      exact ⟨congrArg (fun z => some (Value.int z)) qr, N0, rfl⟩
  · -- no
    have K4 : ∀ t, Steps p.tables e below (T2.setTop (mkF m 12 #[.val (.ref o0)] [(.int (0 : Int32))])) t → Steps p.tables e below S0 t := fun t k => K2 t (by
      refine XS.ifYes X2.here hx rfl (pc0 := 4) (pc' := 11) rfl (hb hby d1_4) rfl (XT.i0_le_t hc4_0) (by decide) (by decide) ?_
      show Steps p.tables e below (T2.setTop (mkF m 11 #[.val (.ref o0)] [])) _
      refine XS.iconst X2.here hx rfl (hb hby d1_11) ?_
      show Steps p.tables e below (T2.setTop (mkF m 12 #[.val (.ref o0)] [(.int (0 : Int32))])) _
      exact k)
    obtain ⟨fs, hr, hrun, hended, hW, hsame⟩ := X2.leave (v := some (.int (0 : Int32))) (fun h => by rw [Bd.returns] at h; cases h)
    refine ⟨_, _, ?_, hrun, hended, _, _, rfl, ?_, ⟨_, rfl⟩, hW, hsame.mono (by decide) (by decide)⟩
    · rw [← hS0]; exact K4 _ (retN X2 hx (t := .boolean) Bd.returns (by simp) (hb hby d1_12) hr)
    · show Q1 Z o0 zm h0 n0 _ T2.heap _
      rw [e2]
      have qr : (0 : Int32) = (w1_r1 zm) := by unfold w1_r1; rw [if_neg hc4_0]
      exact ⟨congrArg (fun z => some (Value.int z)) qr, N0, rfl⟩
theorem d2_0 : decode prog_21_method_7_code 0 = .ok (.aload_n 0, 1) := by decide +kernel
theorem d2_1 : decode prog_21_method_7_code 1 = .ok (.getfield 40, 3) := by decide +kernel
theorem d2_4 : decode prog_21_method_7_code 4 = .ok (.ireturn, 1) := by decide +kernel
theorem pn2 : plainName "com/example/nearmark/nearmark/binpacking/OnlineAlgorithm" = true := by first | (simp [plainName, overriddenIn]; done) | decide +kernel
theorem ef2 (m : MethodId) (o0 : Addr) : entryFrame m #[(.ref o0)] 1 = mkF m 0 #[.val (.ref o0)] [] := by first | (simp [entryFrame, mkF, argsToLocals, Value.category]; done) | rfl
def Q2 (Z : State) (o0 : Addr) (zm : Int32) (h0 : Heap) (n0 : Nat) (v : Option Value) (h : Heap) (L : List Loc) : Prop := v = some (.int zm) ∧ Fr n0 L ∧ h = h0
set_option maxRecDepth 65536 in
set_option maxHeartbeats 40000000 in
theorem rm2 (l : Launch) (Z : State) (a0 : Array Value) (hw : ∀ d ∈ tables_1, d.before a0 Z = true) (ws : List Jvm.Cond) (o0 : Addr) (zm : Int32) (h0 : Heap) (n0 : Nat) (Z0 : n0 ≤ h0.size) (F_o0_minClasses : Fld Z h0 o0 "com/example/nearmark/nearmark/binpacking/OnlineAlgorithm" "minClasses" "I" (.int zm)) :
    MetFree l (⟨"com/example/nearmark/nearmark/binpacking/OnlineAlgorithm", "minClasses", "()I"⟩ : MethodName) (head1 (Jvm.Cond.code (⟨"com/example/nearmark/nearmark/binpacking/OnlineAlgorithm", "minClasses", "()I"⟩ : MethodName) prog_21_method_7_code 1 (some .int) :: ws) ({ frames := 0, cells := 0, slots := 0, locals := 0 } : Room)) (fun a U => a = #[(.ref o0)] ∧ Z.Warmed39 U.vm ∧ U.heap = h0) (fun _ _ _ _ _ => True) (fun _ U o U' => ∃ v L, o = .returned v ∧ Q2 Z o0 zm h0 n0 v U'.heap L ∧ FrameEnd U o U' L ({ frames := 0, cells := 0, slots := 0, locals := 0 } : Room).cells ({ frames := 0, cells := 0, slots := 0, locals := 0 } : Room).slots) := by
  refine MetFree.of_bodySF (plainFor_of_name pn2) hisR ?_
  intro p e s m args below meth c s₁ Bd hml0 hP hK
  obtain ⟨rfl, hZ, hh⟩ := hP
  have hx := Bd.exec
  have hby := Bd.bytes
  have hml : c.maxLocals = 1 := hml0
  have hown : s.vm.findClass "com/example/nearmark/nearmark/binpacking/OnlineAlgorithm" = some m.cls := findClass_of_methodNamed Bd.named
  have hnm := (name_of_methodNamed Bd.named Bd.method).1
  have X0 : Stand p l e ({ frames := 0, cells := 0, slots := 0, locals := 0 } : Room) s m #[(.ref o0)] below meth c s₁ [] 0 0 := Stand.of_body Bd
  have e0 : s₁.heap = h0 := by rw [← hh, Bd.state]; rfl
  have N0 := Fr.nil n0
  obtain ⟨S0, hS0⟩ : ∃ S0, S0 = s₁.setTop (entryFrame m #[(.ref o0)] 1) := ⟨_, rfl⟩
  have pre0 : ∀ t, Steps p.tables e below (s₁.setTop (mkF m 0 #[.val (.ref o0)] [])) t → Steps p.tables e below S0 t := fun t k => by rw [hS0]; exact castTop (ef2 m o0) k
  have K1 : ∀ t, Steps p.tables e below (s₁.setTop (mkF m 1 #[.val (.ref o0)] [(.ref o0)])) t → Steps p.tables e below S0 t := fun t k => pre0 t (by
    refine XS.aloadN X0.here hx rfl (hb hby d2_0) rfl rfl ?_
    show Steps p.tables e below (s₁.setTop (mkF m 1 #[.val (.ref o0)] [(.ref o0)])) _
    exact k)
  obtain ⟨T2, X2, e2, st2⟩ := getF X0 hx hZ hown (host := "") (Or.inl (hw _ (List.mem_of_getElem? (i := 9) rfl))) Via.refl e0 F_o0_minClasses (g := (mkF m 1 #[.val (.ref o0)] [(.ref o0)])) rfl rfl (hb hby d2_1)
  have K2 : ∀ t, Steps p.tables e below (T2.setTop (mkF m 4 #[.val (.ref o0)] [(.int zm)])) t → Steps p.tables e below S0 t := fun t k => K1 t (st2 t k)
  obtain ⟨fs, hr, hrun, hended, hW, hsame⟩ := X2.leave (v := some (.int zm)) (fun h => by rw [Bd.returns] at h; cases h)
  refine ⟨_, _, ?_, hrun, hended, _, _, rfl, ?_, ⟨_, rfl⟩, hW, hsame.mono (by decide) (by decide)⟩
  · rw [← hS0]; exact K2 _ (retI X2 hx Bd.returns (hb hby d2_4) hr)
  · show Q2 Z o0 zm h0 n0 _ T2.heap _
    rw [e2]
    exact ⟨rfl, N0, rfl⟩
theorem pn0 : plainName "com/example/nearmark/nearmark/binpacking/OnlineAlgorithmTakesClassesPinLaw" = true := by first | (simp [plainName, overriddenIn]; done) | decide +kernel
theorem pd0_0 : parseMethodDescriptor "()Z" = some ⟨[], some .boolean⟩ := by decide +kernel
theorem pd0_1 : parseMethodDescriptor "()I" = some ⟨[], some .int⟩ := by decide +kernel
theorem ef0 (m : MethodId) (p0 : Int32) : entryFrame m #[(.int p0)] maxLocals = mkF m 0 #[.val (.int p0), .unset, .unset, .unset, .unset] [] := by first | (simp [entryFrame, mkF, argsToLocals, Value.category, maxLocals]; done) | rfl
def Q0 (Z : State) (p0 : Int32) (ob1 : Addr) (ob2 : Addr) (ob3 : Addr) (h0 : Heap) (n0 : Nat) (v : Option Value) (h : Heap) (L : List Loc) : Prop := v = some (.int (w0_r3 p0)) ∧ Fr n0 L
set_option maxRecDepth 65536 in
set_option maxHeartbeats 40000000 in
theorem rm0 (l : Launch) (Z : State) (a0 : Array Value) (hw : ∀ d ∈ tables_1, d.before a0 Z = true) (ws : List Jvm.Cond) (p0 : Int32) (ob1 : Addr) (ob2 : Addr) (ob3 : Addr) (h0 : Heap) (n0 : Nat) (Z0 : n0 ≤ h0.size) (S_OnlineAlgorithm_NEXT_FIT : Sta Z h0 "com/example/nearmark/nearmark/binpacking/OnlineAlgorithm" "NEXT_FIT" "Lcom/example/nearmark/nearmark/binpacking/OnlineAlgorithm;" (.ref ob1)) (E_ob1 : Exa Z h0 ob1 "com/example/nearmark/nearmark/binpacking/OnlineAlgorithm") (F_ob1_minClasses : Fld Z h0 ob1 "com/example/nearmark/nearmark/binpacking/OnlineAlgorithm" "minClasses" "I" (.int (0 : Int32))) (S_OnlineAlgorithm_HARMONIC : Sta Z h0 "com/example/nearmark/nearmark/binpacking/OnlineAlgorithm" "HARMONIC" "Lcom/example/nearmark/nearmark/binpacking/OnlineAlgorithm;" (.ref ob2)) (E_ob2 : Exa Z h0 ob2 "com/example/nearmark/nearmark/binpacking/OnlineAlgorithm") (F_ob2_minClasses : Fld Z h0 ob2 "com/example/nearmark/nearmark/binpacking/OnlineAlgorithm" "minClasses" "I" (.int (2 : Int32))) (S_OnlineAlgorithm_FIRST_FIT : Sta Z h0 "com/example/nearmark/nearmark/binpacking/OnlineAlgorithm" "FIRST_FIT" "Lcom/example/nearmark/nearmark/binpacking/OnlineAlgorithm;" (.ref ob3)) (E_ob3 : Exa Z h0 ob3 "com/example/nearmark/nearmark/binpacking/OnlineAlgorithm") (F_ob3_minClasses : Fld Z h0 ob3 "com/example/nearmark/nearmark/binpacking/OnlineAlgorithm" "minClasses" "I" (.int (0 : Int32))) :
    MetFree l x (head1 (Jvm.Cond.code x code maxLocals ret :: ws) room_1) (fun a U => a = #[(.int p0)] ∧ Z.Warmed39 U.vm ∧ U.heap = h0) (fun _ _ _ _ _ => True) (fun _ U o U' => ∃ v L, o = .returned v ∧ Q0 Z p0 ob1 ob2 ob3 h0 n0 v U'.heap L ∧ FrameEnd U o U' L 0 0) := by
  refine MetFree.of_bodySF (plainFor_of_name pn0) hisR ?_
  intro p e s m args below meth c s₁ Bd hml0 hP hK
  obtain ⟨rfl, hZ, hh⟩ := hP
  have hx := Bd.exec
  have hby := Bd.bytes
  have hml : c.maxLocals = 5 := hml0
  have hown : s.vm.findClass "com/example/nearmark/nearmark/binpacking/OnlineAlgorithmTakesClassesPinLaw" = some m.cls := findClass_of_methodNamed Bd.named
  have hnm := (name_of_methodNamed Bd.named Bd.method).1
  have X0 : Stand p l e room_1 s m #[(.int p0)] below meth c s₁ [] 0 0 := Stand.of_body Bd
  have e0 : s₁.heap = h0 := by rw [← hh, Bd.state]; rfl
  have N0 := Fr.nil n0
  obtain ⟨S0, hS0⟩ : ∃ S0, S0 = s₁.setTop (entryFrame m #[(.int p0)] maxLocals) := ⟨_, rfl⟩
  have pre0 : ∀ t, Steps p.tables e below (s₁.setTop (mkF m 0 #[.val (.int p0), .unset, .unset, .unset, .unset] [])) t → Steps p.tables e below S0 t := fun t k => by rw [hS0]; exact castTop (ef0 m p0) k
  have K1 : ∀ t, Steps p.tables e below (s₁.setTop (mkF m 8 #[.val (.int p0), .val (.int (w0_1 p0)), .unset, .unset, .unset] [(.int (w0_1 p0))])) t → Steps p.tables e below S0 t := fun t k => pre0 t (by
    refine XS.iloadN X0.here hx rfl (hb hby at_0) rfl ?_
    show Steps p.tables e below (s₁.setTop (mkF m 1 #[.val (.int p0), .unset, .unset, .unset, .unset] [(.int p0)])) _
    refine X0.ldcInt hx hown (mvT hZ (hw _ (List.mem_of_getElem? (i := 0) rfl))) (g := (mkF m 1 #[.val (.int p0), .unset, .unset, .unset, .unset] [(.int p0)])) rfl (hb hby at_1) _ ?_
    show Steps p.tables e below (s₁.setTop (mkF m 3 #[.val (.int p0), .unset, .unset, .unset, .unset] [(.int (2147483647 : Int32)), (.int p0)])) _
    refine XS.iand X0.here hx rfl (hb hby at_3) rfl ?_
    show Steps p.tables e below (s₁.setTop (mkF m 4 #[.val (.int p0), .unset, .unset, .unset, .unset] [(.int (p0 &&& (2147483647 : Int32)))])) _
    refine XS.iconst X0.here hx rfl (hb hby at_4) ?_
    show Steps p.tables e below (s₁.setTop (mkF m 5 #[.val (.int p0), .unset, .unset, .unset, .unset] [(.int (3 : Int32)), (.int (p0 &&& (2147483647 : Int32)))])) _
    refine iremM X0 hx rfl (hb hby at_5) rfl (by decide) ?_
    show Steps p.tables e below (s₁.setTop (mkF m 6 #[.val (.int p0), .unset, .unset, .unset, .unset] [(.int ((p0 &&& (2147483647 : Int32)) % (3 : Int32)))])) _
    refine XS.istoreN X0.here hx rfl (hb hby at_6) rfl (l' := #[.val (.int p0), .val (.int (w0_1 p0)), .unset, .unset, .unset]) rfl ?_
    show Steps p.tables e below (s₁.setTop (mkF m 7 #[.val (.int p0), .val (.int (w0_1 p0)), .unset, .unset, .unset] [])) _
    refine XS.iloadN X0.here hx rfl (hb hby at_7) rfl ?_
    show Steps p.tables e below (s₁.setTop (mkF m 8 #[.val (.int p0), .val (.int (w0_1 p0)), .unset, .unset, .unset] [(.int (w0_1 p0))])) _
    exact k)
  by_cases hc8_0 : (w0_1 p0) = (0 : Int32)
  · -- yes
    have K2 : ∀ t, Steps p.tables e below (s₁.setTop (mkF m 11 #[.val (.int p0), .val (.int (w0_1 p0)), .unset, .unset, .unset] [])) t → Steps p.tables e below S0 t := fun t k => K1 t (by
      refine XS.ifNo X0.here hx rfl (hb hby at_8) rfl (XT.i0_ne_f hc8_0) ?_
      show Steps p.tables e below (s₁.setTop (mkF m 11 #[.val (.int p0), .val (.int (w0_1 p0)), .unset, .unset, .unset] [])) _
      exact k)
    obtain ⟨T3, X3, e3, st3⟩ := getS2 X0 hx hZ hown (host := "") (Or.inl (hw _ (List.mem_of_getElem? (i := 1) rfl))) Via.refl e0 S_OnlineAlgorithm_NEXT_FIT (g := (mkF m 11 #[.val (.int p0), .val (.int (w0_1 p0)), .unset, .unset, .unset] [])) rfl (hb hby at_11)
    have K3 : ∀ t, Steps p.tables e below (T3.setTop (mkF m 14 #[.val (.int p0), .val (.int (w0_1 p0)), .unset, .unset, .unset] [(.ref ob1)])) t → Steps p.tables e below S0 t := fun t k => K2 t (st3 t k)
    have K4 : ∀ t, Steps p.tables e below (T3.setTop (mkF m 36 #[.val (.int p0), .val (.int (w0_1 p0)), .val (.ref ob1), .unset, .unset] [(.int (2 : Int32)), (.int (w0_1 p0))])) t → Steps p.tables e below S0 t := fun t k => K3 t (by
      refine XS.astoreN X3.here hx rfl (hb hby at_14) rfl rfl (l' := #[.val (.int p0), .val (.int (w0_1 p0)), .val (.ref ob1), .unset, .unset]) rfl ?_
      show Steps p.tables e below (T3.setTop (mkF m 15 #[.val (.int p0), .val (.int (w0_1 p0)), .val (.ref ob1), .unset, .unset] [])) _
      refine XS.goto X3.here hx rfl (pc0 := 15) (pc' := 34) rfl (hb hby at_15) (by decide) (by decide) ?_
      show Steps p.tables e below (T3.setTop (mkF m 34 #[.val (.int p0), .val (.int (w0_1 p0)), .val (.ref ob1), .unset, .unset] [])) _
      refine XS.iloadN X3.here hx rfl (hb hby at_34) rfl ?_
      show Steps p.tables e below (T3.setTop (mkF m 35 #[.val (.int p0), .val (.int (w0_1 p0)), .val (.ref ob1), .unset, .unset] [(.int (w0_1 p0))])) _
      refine XS.iconst X3.here hx rfl (hb hby at_35) ?_
      show Steps p.tables e below (T3.setTop (mkF m 36 #[.val (.int p0), .val (.int (w0_1 p0)), .val (.ref ob1), .unset, .unset] [(.int (2 : Int32)), (.int (w0_1 p0))])) _
      exact k)
    obtain ⟨T5, lo5, X5, N5, e5, K5⟩ : ∃ (T' : State) (locs' : List Loc), Stand p l e room_1 s m #[(.int p0)] below meth c T' locs' 0 0 ∧ Fr n0 locs' ∧ T'.heap = h0 ∧ ∀ t, Steps p.tables e below (T'.setTop (mkF m 44 #[.val (.int p0), .val (.int (w0_1 p0)), .val (.ref ob1), .unset, .unset] [(.int (w0_m2 p0))])) t → Steps p.tables e below S0 t := by
      by_cases hc36_1 : (w0_1 p0) = (2 : Int32)
      · -- yes
        have K6 : ∀ t, Steps p.tables e below (T3.setTop (mkF m 44 #[.val (.int p0), .val (.int (w0_1 p0)), .val (.ref ob1), .unset, .unset] [(.int (1 : Int32))])) t → Steps p.tables e below S0 t := fun t k => K4 t (by
          refine XS.icmpNo X3.here hx rfl (hb hby at_36) rfl (XT.ii_ne_f hc36_1) ?_
          show Steps p.tables e below (T3.setTop (mkF m 39 #[.val (.int p0), .val (.int (w0_1 p0)), .val (.ref ob1), .unset, .unset] [])) _
          refine XS.iconst X3.here hx rfl (hb hby at_39) ?_
          show Steps p.tables e below (T3.setTop (mkF m 40 #[.val (.int p0), .val (.int (w0_1 p0)), .val (.ref ob1), .unset, .unset] [(.int (1 : Int32))])) _
          refine XS.goto X3.here hx rfl (pc0 := 40) (pc' := 44) rfl (hb hby at_40) (by decide) (by decide) ?_
          show Steps p.tables e below (T3.setTop (mkF m 44 #[.val (.int p0), .val (.int (w0_1 p0)), .val (.ref ob1), .unset, .unset] [(.int (1 : Int32))])) _
          exact k)
        have q7 : (w0_m2 p0) = (1 : Int32) := by unfold w0_m2; rw [if_pos hc36_1]
        exact ⟨T3, _, X3, N0, e3, fun t k => K6 t (by rw [q7] at k; exact k)⟩
      · -- no
        have K8 : ∀ t, Steps p.tables e below (T3.setTop (mkF m 44 #[.val (.int p0), .val (.int (w0_1 p0)), .val (.ref ob1), .unset, .unset] [(.int (0 : Int32))])) t → Steps p.tables e below S0 t := fun t k => K4 t (by
          refine XS.icmpYes X3.here hx rfl (pc0 := 36) (pc' := 43) rfl (hb hby at_36) rfl (XT.ii_ne_t hc36_1) (by decide) (by decide) ?_
          show Steps p.tables e below (T3.setTop (mkF m 43 #[.val (.int p0), .val (.int (w0_1 p0)), .val (.ref ob1), .unset, .unset] [])) _
          refine XS.iconst X3.here hx rfl (hb hby at_43) ?_
          show Steps p.tables e below (T3.setTop (mkF m 44 #[.val (.int p0), .val (.int (w0_1 p0)), .val (.ref ob1), .unset, .unset] [(.int (0 : Int32))])) _
          exact k)
        have q9 : (w0_m2 p0) = (0 : Int32) := by unfold w0_m2; rw [if_neg hc36_1]
        exact ⟨T3, _, X3, N0, e3, fun t k => K8 t (by rw [q9] at k; exact k)⟩
    have K10 : ∀ t, Steps p.tables e below (T5.setTop (mkF m 46 #[.val (.int p0), .val (.int (w0_1 p0)), .val (.ref ob1), .val (.int (w0_m2 p0)), .unset] [(.ref ob1)])) t → Steps p.tables e below S0 t := fun t k => K5 t (by
      refine XS.istoreN X5.here hx rfl (hb hby at_44) rfl (l' := #[.val (.int p0), .val (.int (w0_1 p0)), .val (.ref ob1), .val (.int (w0_m2 p0)), .unset]) rfl ?_
      show Steps p.tables e below (T5.setTop (mkF m 45 #[.val (.int p0), .val (.int (w0_1 p0)), .val (.ref ob1), .val (.int (w0_m2 p0)), .unset] [])) _
      refine XS.aloadN X5.here hx rfl (hb hby at_45) rfl rfl ?_
      show Steps p.tables e below (T5.setTop (mkF m 46 #[.val (.int p0), .val (.int (w0_1 p0)), .val (.ref ob1), .val (.int (w0_m2 p0)), .unset] [(.ref ob1)])) _
      exact k)
    have K_11 : ∀ t, Steps p.tables e below (T5.setTop (mkF m 46 #[.val (.int p0), .val (.int (w0_1 p0)), .val (.ref ob1), .val (.int (w0_m2 p0)), .unset] [(.ref ob1)])) t → Steps p.tables e below S0 t := K10
    obtain ⟨cq12, kq12, q12a, q12b, q12c⟩ := isOf hZ e5 E_ob1
    obtain ⟨_, _, ⟨T12, L12, k12, n12⟩, -, X12, ⟨Lc12, hQ12, l12, y12, z12⟩, st12⟩ := X5.virtualBack hx (y := (⟨"com/example/nearmark/nearmark/binpacking/OnlineAlgorithm", "takesClasses", "()Z"⟩ : MethodName)) (z := (⟨"com/example/nearmark/nearmark/binpacking/OnlineAlgorithm", "takesClasses", "()Z"⟩ : MethodName)) hown (mvT hZ (hw _ (List.mem_of_getElem? (i := 4) rfl))) (mvT hZ (hw _ (List.mem_of_getElem? (i := 5) rfl))) (notFace_of_selects (args := #[]) (mvT hZ (hw _ (List.mem_of_getElem? (i := 7) rfl)))) (mvT hZ (hw _ (List.mem_of_getElem? (i := 7) rfl))) (mvT hZ (hw _ (List.mem_of_getElem? (i := 6) rfl))) (by decide) (backOf (W := 0) (rm1 l Z a0 hw [] ob1 (0 : Int32) h0 n0 Z0 F_ob1_minClasses) hZ (hw _ (List.mem_of_getElem? (i := 8) rfl)) (hw _ (List.mem_of_getElem? (i := 2) rfl)) (by decide) (by decide)) q12a q12c (g := (mkF m 46 #[.val (.int p0), .val (.int (w0_1 p0)), .val (.ref ob1), .val (.int (w0_m2 p0)), .unset] [(.ref ob1)])) rfl (by rw [hml]; rfl) (Steps.refl _) (argsL := []) (rest := []) (lenOf pd0_0 rfl) rfl (by show 2 * 0 + _ ≤ _; exact Nat.le_of_eq rfl) (hb hby at_46) (fun _ _ => ⟨rfl, e5, (by decide : 0 + 0 ≤ 0), (by decide : 0 + 0 ≤ 0)⟩)
    dsimp only [Pt.U, Pt.locs, Pt.cells, Pt.slots] at X12 l12 y12 z12 st12 hQ12
    subst l12 y12 z12
    obtain ⟨rfl, N12q, e12⟩ := hQ12
    have N12 := Fr.app N5 N12q
    have K12 : ∀ t, Steps p.tables e below (T12.setTop (mkF m 49 #[.val (.int p0), .val (.int (w0_1 p0)), .val (.ref ob1), .val (.int (w0_m2 p0)), .unset] [(.int (w1_r1 (0 : Int32)))])) t → Steps p.tables e below S0 t := fun t k => K_11 t (st12.trans k)
    have K13 : ∀ t, Steps p.tables e below (T12.setTop (mkF m 54 #[.val (.int p0), .val (.int (w0_1 p0)), .val (.ref ob1), .val (.int (w0_m2 p0)), .val (.int (w1_r1 (0 : Int32)))] [(.int (w0_m2 p0)), (.int (w1_r1 (0 : Int32)))])) t → Steps p.tables e below S0 t := fun t k => K12 t (by
      refine XS.istore X12.here hx rfl (hb hby at_49) rfl (l' := #[.val (.int p0), .val (.int (w0_1 p0)), .val (.ref ob1), .val (.int (w0_m2 p0)), .val (.int (w1_r1 (0 : Int32)))]) rfl ?_
      show Steps p.tables e below (T12.setTop (mkF m 51 #[.val (.int p0), .val (.int (w0_1 p0)), .val (.ref ob1), .val (.int (w0_m2 p0)), .val (.int (w1_r1 (0 : Int32)))] [])) _
      refine XS.iload X12.here hx rfl (hb hby at_51) rfl ?_
      show Steps p.tables e below (T12.setTop (mkF m 53 #[.val (.int p0), .val (.int (w0_1 p0)), .val (.ref ob1), .val (.int (w0_m2 p0)), .val (.int (w1_r1 (0 : Int32)))] [(.int (w1_r1 (0 : Int32)))])) _
      refine XS.iloadN X12.here hx rfl (hb hby at_53) rfl ?_
      show Steps p.tables e below (T12.setTop (mkF m 54 #[.val (.int p0), .val (.int (w0_1 p0)), .val (.ref ob1), .val (.int (w0_m2 p0)), .val (.int (w1_r1 (0 : Int32)))] [(.int (w0_m2 p0)), (.int (w1_r1 (0 : Int32)))])) _
      exact k)
    by_cases hc54_1 : (w1_r1 (0 : Int32)) = (w0_m2 p0)
    · -- yes
      have K14 : ∀ t, Steps p.tables e below (T12.setTop (mkF m 61 #[.val (.int p0), .val (.int (w0_1 p0)), .val (.ref ob1), .val (.int (w0_m2 p0)), .val (.int (w1_r1 (0 : Int32)))] [(.int (w1_r1 (0 : Int32)))])) t → Steps p.tables e below S0 t := fun t k => K13 t (by
        refine XS.icmpYes X12.here hx rfl (pc0 := 54) (pc' := 59) rfl (hb hby at_54) rfl (XT.ii_eq_t hc54_1) (by decide) (by decide) ?_
        show Steps p.tables e below (T12.setTop (mkF m 59 #[.val (.int p0), .val (.int (w0_1 p0)), .val (.ref ob1), .val (.int (w0_m2 p0)), .val (.int (w1_r1 (0 : Int32)))] [])) _
        refine XS.iload X12.here hx rfl (hb hby at_59) rfl ?_
        show Steps p.tables e below (T12.setTop (mkF m 61 #[.val (.int p0), .val (.int (w0_1 p0)), .val (.ref ob1), .val (.int (w0_m2 p0)), .val (.int (w1_r1 (0 : Int32)))] [(.int (w1_r1 (0 : Int32)))])) _
        exact k)
      by_cases hc61_2 : (w1_r1 (0 : Int32)) = (0 : Int32)
      · -- yes
        have K15 : ∀ t, Steps p.tables e below (T12.setTop (mkF m 75 #[.val (.int p0), .val (.int (w0_1 p0)), .val (.ref ob1), .val (.int (w0_m2 p0)), .val (.int (w1_r1 (0 : Int32)))] [(.int (1 : Int32))])) t → Steps p.tables e below S0 t := fun t k => K14 t (by
          refine XS.ifYes X12.here hx rfl (pc0 := 61) (pc' := 74) rfl (hb hby at_61) rfl (XT.i0_eq_t hc61_2) (by decide) (by decide) ?_
          show Steps p.tables e below (T12.setTop (mkF m 74 #[.val (.int p0), .val (.int (w0_1 p0)), .val (.ref ob1), .val (.int (w0_m2 p0)), .val (.int (w1_r1 (0 : Int32)))] [])) _
          refine XS.iconst X12.here hx rfl (hb hby at_74) ?_
          show Steps p.tables e below (T12.setTop (mkF m 75 #[.val (.int p0), .val (.int (w0_1 p0)), .val (.ref ob1), .val (.int (w0_m2 p0)), .val (.int (w1_r1 (0 : Int32)))] [(.int (1 : Int32))])) _
          exact k)
        obtain ⟨fs, hr, hrun, hended, hW, hsame⟩ := X12.leave (v := some (.int (1 : Int32))) (fun h => by rw [Bd.returns] at h; cases h)
        refine ⟨_, _, ?_, hrun, hended, _, _, rfl, ?_, ⟨_, rfl⟩, hW, hsame.mono (by decide) (by decide)⟩
        · rw [← hS0]; exact K15 _ (retN X12 hx (t := .boolean) Bd.returns (by simp) (hb hby at_75) hr)
        · show Q0 Z p0 ob1 ob2 ob3 h0 n0 _ T12.heap _
          rw [e12]
          have qr : (1 : Int32) = (w0_r3 p0) := by unfold w0_r3; rw [if_pos hc8_0, if_pos hc54_1, if_pos hc61_2]
          exact ⟨congrArg (fun z => some (Value.int z)) qr, N12⟩
      · -- no
        have K16 : ∀ t, Steps p.tables e below (T12.setTop (mkF m 65 #[.val (.int p0), .val (.int (w0_1 p0)), .val (.ref ob1), .val (.int (w0_m2 p0)), .val (.int (w1_r1 (0 : Int32)))] [(.ref ob1)])) t → Steps p.tables e below S0 t := fun t k => K14 t (by
          refine XS.ifNo X12.here hx rfl (hb hby at_61) rfl (XT.i0_eq_f hc61_2) ?_
          show Steps p.tables e below (T12.setTop (mkF m 64 #[.val (.int p0), .val (.int (w0_1 p0)), .val (.ref ob1), .val (.int (w0_m2 p0)), .val (.int (w1_r1 (0 : Int32)))] [])) _
          refine XS.aloadN X12.here hx rfl (hb hby at_64) rfl rfl ?_
          show Steps p.tables e below (T12.setTop (mkF m 65 #[.val (.int p0), .val (.int (w0_1 p0)), .val (.ref ob1), .val (.int (w0_m2 p0)), .val (.int (w1_r1 (0 : Int32)))] [(.ref ob1)])) _
          exact k)
        have K_17 : ∀ t, Steps p.tables e below (T12.setTop (mkF m 65 #[.val (.int p0), .val (.int (w0_1 p0)), .val (.ref ob1), .val (.int (w0_m2 p0)), .val (.int (w1_r1 (0 : Int32)))] [(.ref ob1)])) t → Steps p.tables e below S0 t := K16
        obtain ⟨cq18, kq18, q18a, q18b, q18c⟩ := isOf hZ e12 E_ob1
        obtain ⟨_, _, ⟨T18, L18, k18, n18⟩, -, X18, ⟨Lc18, hQ18, l18, y18, z18⟩, st18⟩ := X12.virtualBack hx (y := (⟨"com/example/nearmark/nearmark/binpacking/OnlineAlgorithm", "minClasses", "()I"⟩ : MethodName)) (z := (⟨"com/example/nearmark/nearmark/binpacking/OnlineAlgorithm", "minClasses", "()I"⟩ : MethodName)) hown (mvT hZ (hw _ (List.mem_of_getElem? (i := 13) rfl))) (mvT hZ (hw _ (List.mem_of_getElem? (i := 14) rfl))) (notFace_of_selects (args := #[]) (mvT hZ (hw _ (List.mem_of_getElem? (i := 16) rfl)))) (mvT hZ (hw _ (List.mem_of_getElem? (i := 16) rfl))) (mvT hZ (hw _ (List.mem_of_getElem? (i := 15) rfl))) (by decide) (backOf (W := 0) (rm2 l Z a0 hw [] ob1 (0 : Int32) h0 n0 Z0 F_ob1_minClasses) hZ (hw _ (List.mem_of_getElem? (i := 17) rfl)) (hw _ (List.mem_of_getElem? (i := 2) rfl)) (by decide) (by decide)) q18a q18c (g := (mkF m 65 #[.val (.int p0), .val (.int (w0_1 p0)), .val (.ref ob1), .val (.int (w0_m2 p0)), .val (.int (w1_r1 (0 : Int32)))] [(.ref ob1)])) rfl (by rw [hml]; rfl) (Steps.refl _) (argsL := []) (rest := []) (lenOf pd0_1 rfl) rfl (by show 2 * 0 + _ ≤ _; exact Nat.le_of_eq rfl) (hb hby at_65) (fun _ _ => ⟨rfl, e12, (by decide : 0 + 0 ≤ 0), (by decide : 0 + 0 ≤ 0)⟩)
        dsimp only [Pt.U, Pt.locs, Pt.cells, Pt.slots] at X18 l18 y18 z18 st18 hQ18
        subst l18 y18 z18
        obtain ⟨rfl, N18q, e18⟩ := hQ18
        have N18 := Fr.app N12 N18q
        have K18 : ∀ t, Steps p.tables e below (T18.setTop (mkF m 68 #[.val (.int p0), .val (.int (w0_1 p0)), .val (.ref ob1), .val (.int (w0_m2 p0)), .val (.int (w1_r1 (0 : Int32)))] [(.int (0 : Int32))])) t → Steps p.tables e below S0 t := fun t k => K_17 t (st18.trans k)
        have K19 : ∀ t, Steps p.tables e below (T18.setTop (mkF m 69 #[.val (.int p0), .val (.int (w0_1 p0)), .val (.ref ob1), .val (.int (w0_m2 p0)), .val (.int (w1_r1 (0 : Int32)))] [(.int (2 : Int32)), (.int (0 : Int32))])) t → Steps p.tables e below S0 t := fun t k => K18 t (by
          refine XS.iconst X18.here hx rfl (hb hby at_68) ?_
          show Steps p.tables e below (T18.setTop (mkF m 69 #[.val (.int p0), .val (.int (w0_1 p0)), .val (.ref ob1), .val (.int (w0_m2 p0)), .val (.int (w1_r1 (0 : Int32)))] [(.int (2 : Int32)), (.int (0 : Int32))])) _
          exact k)
        have K20 : ∀ t, Steps p.tables e below (T18.setTop (mkF m 73 #[.val (.int p0), .val (.int (w0_1 p0)), .val (.ref ob1), .val (.int (w0_m2 p0)), .val (.int (w1_r1 (0 : Int32)))] [(.int (0 : Int32))])) t → Steps p.tables e below S0 t := fun t k => K19 t (by
          refine XS.icmpNo X18.here hx rfl (hb hby at_69) rfl (XT.ii_ge_f (by decide)) ?_
          show Steps p.tables e below (T18.setTop (mkF m 72 #[.val (.int p0), .val (.int (w0_1 p0)), .val (.ref ob1), .val (.int (w0_m2 p0)), .val (.int (w1_r1 (0 : Int32)))] [])) _
          refine XS.iconst X18.here hx rfl (hb hby at_72) ?_
          show Steps p.tables e below (T18.setTop (mkF m 73 #[.val (.int p0), .val (.int (w0_1 p0)), .val (.ref ob1), .val (.int (w0_m2 p0)), .val (.int (w1_r1 (0 : Int32)))] [(.int (0 : Int32))])) _
          exact k)
        obtain ⟨fs, hr, hrun, hended, hW, hsame⟩ := X18.leave (v := some (.int (0 : Int32))) (fun h => by rw [Bd.returns] at h; cases h)
        refine ⟨_, _, ?_, hrun, hended, _, _, rfl, ?_, ⟨_, rfl⟩, hW, hsame.mono (by decide) (by decide)⟩
        · rw [← hS0]; exact K20 _ (retN X18 hx (t := .boolean) Bd.returns (by simp) (hb hby at_73) hr)
        · show Q0 Z p0 ob1 ob2 ob3 h0 n0 _ T18.heap _
          rw [e18]
          have qr : (0 : Int32) = (w0_r3 p0) := by unfold w0_r3; rw [if_pos hc8_0, if_pos hc54_1, if_neg hc61_2]
          exact ⟨congrArg (fun z => some (Value.int z)) qr, N18⟩
    · -- no
      have K21 : ∀ t, Steps p.tables e below (T12.setTop (mkF m 58 #[.val (.int p0), .val (.int (w0_1 p0)), .val (.ref ob1), .val (.int (w0_m2 p0)), .val (.int (w1_r1 (0 : Int32)))] [(.int (0 : Int32))])) t → Steps p.tables e below S0 t := fun t k => K13 t (by
        refine XS.icmpNo X12.here hx rfl (hb hby at_54) rfl (XT.ii_eq_f hc54_1) ?_
        show Steps p.tables e below (T12.setTop (mkF m 57 #[.val (.int p0), .val (.int (w0_1 p0)), .val (.ref ob1), .val (.int (w0_m2 p0)), .val (.int (w1_r1 (0 : Int32)))] [])) _
        refine XS.iconst X12.here hx rfl (hb hby at_57) ?_
        show Steps p.tables e below (T12.setTop (mkF m 58 #[.val (.int p0), .val (.int (w0_1 p0)), .val (.ref ob1), .val (.int (w0_m2 p0)), .val (.int (w1_r1 (0 : Int32)))] [(.int (0 : Int32))])) _
        exact k)
      obtain ⟨fs, hr, hrun, hended, hW, hsame⟩ := X12.leave (v := some (.int (0 : Int32))) (fun h => by rw [Bd.returns] at h; cases h)
      refine ⟨_, _, ?_, hrun, hended, _, _, rfl, ?_, ⟨_, rfl⟩, hW, hsame.mono (by decide) (by decide)⟩
      · rw [← hS0]; exact K21 _ (retN X12 hx (t := .boolean) Bd.returns (by simp) (hb hby at_58) hr)
      · show Q0 Z p0 ob1 ob2 ob3 h0 n0 _ T12.heap _
        rw [e12]
        have qr : (0 : Int32) = (w0_r3 p0) := by unfold w0_r3; rw [if_pos hc8_0, if_neg hc54_1]
        exact ⟨congrArg (fun z => some (Value.int z)) qr, N12⟩
  · -- no
    have K22 : ∀ t, Steps p.tables e below (s₁.setTop (mkF m 20 #[.val (.int p0), .val (.int (w0_1 p0)), .unset, .unset, .unset] [(.int (1 : Int32)), (.int (w0_1 p0))])) t → Steps p.tables e below S0 t := fun t k => K1 t (by
      refine XS.ifYes X0.here hx rfl (pc0 := 8) (pc' := 18) rfl (hb hby at_8) rfl (XT.i0_ne_t hc8_0) (by decide) (by decide) ?_
      show Steps p.tables e below (s₁.setTop (mkF m 18 #[.val (.int p0), .val (.int (w0_1 p0)), .unset, .unset, .unset] [])) _
      refine XS.iloadN X0.here hx rfl (hb hby at_18) rfl ?_
      show Steps p.tables e below (s₁.setTop (mkF m 19 #[.val (.int p0), .val (.int (w0_1 p0)), .unset, .unset, .unset] [(.int (w0_1 p0))])) _
      refine XS.iconst X0.here hx rfl (hb hby at_19) ?_
      show Steps p.tables e below (s₁.setTop (mkF m 20 #[.val (.int p0), .val (.int (w0_1 p0)), .unset, .unset, .unset] [(.int (1 : Int32)), (.int (w0_1 p0))])) _
      exact k)
    by_cases hc20_1 : (w0_1 p0) = (1 : Int32)
    · -- yes
      have K23 : ∀ t, Steps p.tables e below (s₁.setTop (mkF m 23 #[.val (.int p0), .val (.int (w0_1 p0)), .unset, .unset, .unset] [])) t → Steps p.tables e below S0 t := fun t k => K22 t (by
        refine XS.icmpNo X0.here hx rfl (hb hby at_20) rfl (XT.ii_ne_f hc20_1) ?_
        show Steps p.tables e below (s₁.setTop (mkF m 23 #[.val (.int p0), .val (.int (w0_1 p0)), .unset, .unset, .unset] [])) _
        exact k)
      obtain ⟨T24, X24, e24, st24⟩ := getS2 X0 hx hZ hown (host := "") (Or.inl (hw _ (List.mem_of_getElem? (i := 18) rfl))) Via.refl e0 S_OnlineAlgorithm_FIRST_FIT (g := (mkF m 23 #[.val (.int p0), .val (.int (w0_1 p0)), .unset, .unset, .unset] [])) rfl (hb hby at_23)
      have K24 : ∀ t, Steps p.tables e below (T24.setTop (mkF m 26 #[.val (.int p0), .val (.int (w0_1 p0)), .unset, .unset, .unset] [(.ref ob3)])) t → Steps p.tables e below S0 t := fun t k => K23 t (st24 t k)
      have K25 : ∀ t, Steps p.tables e below (T24.setTop (mkF m 36 #[.val (.int p0), .val (.int (w0_1 p0)), .val (.ref ob3), .unset, .unset] [(.int (2 : Int32)), (.int (w0_1 p0))])) t → Steps p.tables e below S0 t := fun t k => K24 t (by
        refine XS.astoreN X24.here hx rfl (hb hby at_26) rfl rfl (l' := #[.val (.int p0), .val (.int (w0_1 p0)), .val (.ref ob3), .unset, .unset]) rfl ?_
        show Steps p.tables e below (T24.setTop (mkF m 27 #[.val (.int p0), .val (.int (w0_1 p0)), .val (.ref ob3), .unset, .unset] [])) _
        refine XS.goto X24.here hx rfl (pc0 := 27) (pc' := 34) rfl (hb hby at_27) (by decide) (by decide) ?_
        show Steps p.tables e below (T24.setTop (mkF m 34 #[.val (.int p0), .val (.int (w0_1 p0)), .val (.ref ob3), .unset, .unset] [])) _
        refine XS.iloadN X24.here hx rfl (hb hby at_34) rfl ?_
        show Steps p.tables e below (T24.setTop (mkF m 35 #[.val (.int p0), .val (.int (w0_1 p0)), .val (.ref ob3), .unset, .unset] [(.int (w0_1 p0))])) _
        refine XS.iconst X24.here hx rfl (hb hby at_35) ?_
        show Steps p.tables e below (T24.setTop (mkF m 36 #[.val (.int p0), .val (.int (w0_1 p0)), .val (.ref ob3), .unset, .unset] [(.int (2 : Int32)), (.int (w0_1 p0))])) _
        exact k)
      obtain ⟨T26, lo26, X26, N26, e26, K26⟩ : ∃ (T' : State) (locs' : List Loc), Stand p l e room_1 s m #[(.int p0)] below meth c T' locs' 0 0 ∧ Fr n0 locs' ∧ T'.heap = h0 ∧ ∀ t, Steps p.tables e below (T'.setTop (mkF m 44 #[.val (.int p0), .val (.int (w0_1 p0)), .val (.ref ob3), .unset, .unset] [(.int (w0_m2 p0))])) t → Steps p.tables e below S0 t := by
        by_cases hc36_2 : (w0_1 p0) = (2 : Int32)
        · -- yes
          have K27 : ∀ t, Steps p.tables e below (T24.setTop (mkF m 44 #[.val (.int p0), .val (.int (w0_1 p0)), .val (.ref ob3), .unset, .unset] [(.int (1 : Int32))])) t → Steps p.tables e below S0 t := fun t k => K25 t (by
            refine XS.icmpNo X24.here hx rfl (hb hby at_36) rfl (XT.ii_ne_f hc36_2) ?_
            show Steps p.tables e below (T24.setTop (mkF m 39 #[.val (.int p0), .val (.int (w0_1 p0)), .val (.ref ob3), .unset, .unset] [])) _
            refine XS.iconst X24.here hx rfl (hb hby at_39) ?_
            show Steps p.tables e below (T24.setTop (mkF m 40 #[.val (.int p0), .val (.int (w0_1 p0)), .val (.ref ob3), .unset, .unset] [(.int (1 : Int32))])) _
            refine XS.goto X24.here hx rfl (pc0 := 40) (pc' := 44) rfl (hb hby at_40) (by decide) (by decide) ?_
            show Steps p.tables e below (T24.setTop (mkF m 44 #[.val (.int p0), .val (.int (w0_1 p0)), .val (.ref ob3), .unset, .unset] [(.int (1 : Int32))])) _
            exact k)
          have q28 : (w0_m2 p0) = (1 : Int32) := by unfold w0_m2; rw [if_pos hc36_2]
          exact ⟨T24, _, X24, N0, e24, fun t k => K27 t (by rw [q28] at k; exact k)⟩
        · -- no
          have K29 : ∀ t, Steps p.tables e below (T24.setTop (mkF m 44 #[.val (.int p0), .val (.int (w0_1 p0)), .val (.ref ob3), .unset, .unset] [(.int (0 : Int32))])) t → Steps p.tables e below S0 t := fun t k => K25 t (by
            refine XS.icmpYes X24.here hx rfl (pc0 := 36) (pc' := 43) rfl (hb hby at_36) rfl (XT.ii_ne_t hc36_2) (by decide) (by decide) ?_
            show Steps p.tables e below (T24.setTop (mkF m 43 #[.val (.int p0), .val (.int (w0_1 p0)), .val (.ref ob3), .unset, .unset] [])) _
            refine XS.iconst X24.here hx rfl (hb hby at_43) ?_
            show Steps p.tables e below (T24.setTop (mkF m 44 #[.val (.int p0), .val (.int (w0_1 p0)), .val (.ref ob3), .unset, .unset] [(.int (0 : Int32))])) _
            exact k)
          have q30 : (w0_m2 p0) = (0 : Int32) := by unfold w0_m2; rw [if_neg hc36_2]
          exact ⟨T24, _, X24, N0, e24, fun t k => K29 t (by rw [q30] at k; exact k)⟩
      have K31 : ∀ t, Steps p.tables e below (T26.setTop (mkF m 46 #[.val (.int p0), .val (.int (w0_1 p0)), .val (.ref ob3), .val (.int (w0_m2 p0)), .unset] [(.ref ob3)])) t → Steps p.tables e below S0 t := fun t k => K26 t (by
        refine XS.istoreN X26.here hx rfl (hb hby at_44) rfl (l' := #[.val (.int p0), .val (.int (w0_1 p0)), .val (.ref ob3), .val (.int (w0_m2 p0)), .unset]) rfl ?_
        show Steps p.tables e below (T26.setTop (mkF m 45 #[.val (.int p0), .val (.int (w0_1 p0)), .val (.ref ob3), .val (.int (w0_m2 p0)), .unset] [])) _
        refine XS.aloadN X26.here hx rfl (hb hby at_45) rfl rfl ?_
        show Steps p.tables e below (T26.setTop (mkF m 46 #[.val (.int p0), .val (.int (w0_1 p0)), .val (.ref ob3), .val (.int (w0_m2 p0)), .unset] [(.ref ob3)])) _
        exact k)
      have K_32 : ∀ t, Steps p.tables e below (T26.setTop (mkF m 46 #[.val (.int p0), .val (.int (w0_1 p0)), .val (.ref ob3), .val (.int (w0_m2 p0)), .unset] [(.ref ob3)])) t → Steps p.tables e below S0 t := K31
      obtain ⟨cq33, kq33, q33a, q33b, q33c⟩ := isOf hZ e26 E_ob3
      obtain ⟨_, _, ⟨T33, L33, k33, n33⟩, -, X33, ⟨Lc33, hQ33, l33, y33, z33⟩, st33⟩ := X26.virtualBack hx (y := (⟨"com/example/nearmark/nearmark/binpacking/OnlineAlgorithm", "takesClasses", "()Z"⟩ : MethodName)) (z := (⟨"com/example/nearmark/nearmark/binpacking/OnlineAlgorithm", "takesClasses", "()Z"⟩ : MethodName)) hown (mvT hZ (hw _ (List.mem_of_getElem? (i := 4) rfl))) (mvT hZ (hw _ (List.mem_of_getElem? (i := 5) rfl))) (notFace_of_selects (args := #[]) (mvT hZ (hw _ (List.mem_of_getElem? (i := 7) rfl)))) (mvT hZ (hw _ (List.mem_of_getElem? (i := 7) rfl))) (mvT hZ (hw _ (List.mem_of_getElem? (i := 6) rfl))) (by decide) (backOf (W := 0) (rm1 l Z a0 hw [] ob3 (0 : Int32) h0 n0 Z0 F_ob3_minClasses) hZ (hw _ (List.mem_of_getElem? (i := 8) rfl)) (hw _ (List.mem_of_getElem? (i := 2) rfl)) (by decide) (by decide)) q33a q33c (g := (mkF m 46 #[.val (.int p0), .val (.int (w0_1 p0)), .val (.ref ob3), .val (.int (w0_m2 p0)), .unset] [(.ref ob3)])) rfl (by rw [hml]; rfl) (Steps.refl _) (argsL := []) (rest := []) (lenOf pd0_0 rfl) rfl (by show 2 * 0 + _ ≤ _; exact Nat.le_of_eq rfl) (hb hby at_46) (fun _ _ => ⟨rfl, e26, (by decide : 0 + 0 ≤ 0), (by decide : 0 + 0 ≤ 0)⟩)
      dsimp only [Pt.U, Pt.locs, Pt.cells, Pt.slots] at X33 l33 y33 z33 st33 hQ33
      subst l33 y33 z33
      obtain ⟨rfl, N33q, e33⟩ := hQ33
      have N33 := Fr.app N26 N33q
      have K33 : ∀ t, Steps p.tables e below (T33.setTop (mkF m 49 #[.val (.int p0), .val (.int (w0_1 p0)), .val (.ref ob3), .val (.int (w0_m2 p0)), .unset] [(.int (w1_r1 (0 : Int32)))])) t → Steps p.tables e below S0 t := fun t k => K_32 t (st33.trans k)
      have K34 : ∀ t, Steps p.tables e below (T33.setTop (mkF m 54 #[.val (.int p0), .val (.int (w0_1 p0)), .val (.ref ob3), .val (.int (w0_m2 p0)), .val (.int (w1_r1 (0 : Int32)))] [(.int (w0_m2 p0)), (.int (w1_r1 (0 : Int32)))])) t → Steps p.tables e below S0 t := fun t k => K33 t (by
        refine XS.istore X33.here hx rfl (hb hby at_49) rfl (l' := #[.val (.int p0), .val (.int (w0_1 p0)), .val (.ref ob3), .val (.int (w0_m2 p0)), .val (.int (w1_r1 (0 : Int32)))]) rfl ?_
        show Steps p.tables e below (T33.setTop (mkF m 51 #[.val (.int p0), .val (.int (w0_1 p0)), .val (.ref ob3), .val (.int (w0_m2 p0)), .val (.int (w1_r1 (0 : Int32)))] [])) _
        refine XS.iload X33.here hx rfl (hb hby at_51) rfl ?_
        show Steps p.tables e below (T33.setTop (mkF m 53 #[.val (.int p0), .val (.int (w0_1 p0)), .val (.ref ob3), .val (.int (w0_m2 p0)), .val (.int (w1_r1 (0 : Int32)))] [(.int (w1_r1 (0 : Int32)))])) _
        refine XS.iloadN X33.here hx rfl (hb hby at_53) rfl ?_
        show Steps p.tables e below (T33.setTop (mkF m 54 #[.val (.int p0), .val (.int (w0_1 p0)), .val (.ref ob3), .val (.int (w0_m2 p0)), .val (.int (w1_r1 (0 : Int32)))] [(.int (w0_m2 p0)), (.int (w1_r1 (0 : Int32)))])) _
        exact k)
      by_cases hc54_2 : (w1_r1 (0 : Int32)) = (w0_m2 p0)
      · -- yes
        have K35 : ∀ t, Steps p.tables e below (T33.setTop (mkF m 61 #[.val (.int p0), .val (.int (w0_1 p0)), .val (.ref ob3), .val (.int (w0_m2 p0)), .val (.int (w1_r1 (0 : Int32)))] [(.int (w1_r1 (0 : Int32)))])) t → Steps p.tables e below S0 t := fun t k => K34 t (by
          refine XS.icmpYes X33.here hx rfl (pc0 := 54) (pc' := 59) rfl (hb hby at_54) rfl (XT.ii_eq_t hc54_2) (by decide) (by decide) ?_
          show Steps p.tables e below (T33.setTop (mkF m 59 #[.val (.int p0), .val (.int (w0_1 p0)), .val (.ref ob3), .val (.int (w0_m2 p0)), .val (.int (w1_r1 (0 : Int32)))] [])) _
          refine XS.iload X33.here hx rfl (hb hby at_59) rfl ?_
          show Steps p.tables e below (T33.setTop (mkF m 61 #[.val (.int p0), .val (.int (w0_1 p0)), .val (.ref ob3), .val (.int (w0_m2 p0)), .val (.int (w1_r1 (0 : Int32)))] [(.int (w1_r1 (0 : Int32)))])) _
          exact k)
        by_cases hc61_3 : (w1_r1 (0 : Int32)) = (0 : Int32)
        · -- yes
          have K36 : ∀ t, Steps p.tables e below (T33.setTop (mkF m 75 #[.val (.int p0), .val (.int (w0_1 p0)), .val (.ref ob3), .val (.int (w0_m2 p0)), .val (.int (w1_r1 (0 : Int32)))] [(.int (1 : Int32))])) t → Steps p.tables e below S0 t := fun t k => K35 t (by
            refine XS.ifYes X33.here hx rfl (pc0 := 61) (pc' := 74) rfl (hb hby at_61) rfl (XT.i0_eq_t hc61_3) (by decide) (by decide) ?_
            show Steps p.tables e below (T33.setTop (mkF m 74 #[.val (.int p0), .val (.int (w0_1 p0)), .val (.ref ob3), .val (.int (w0_m2 p0)), .val (.int (w1_r1 (0 : Int32)))] [])) _
            refine XS.iconst X33.here hx rfl (hb hby at_74) ?_
            show Steps p.tables e below (T33.setTop (mkF m 75 #[.val (.int p0), .val (.int (w0_1 p0)), .val (.ref ob3), .val (.int (w0_m2 p0)), .val (.int (w1_r1 (0 : Int32)))] [(.int (1 : Int32))])) _
            exact k)
          obtain ⟨fs, hr, hrun, hended, hW, hsame⟩ := X33.leave (v := some (.int (1 : Int32))) (fun h => by rw [Bd.returns] at h; cases h)
          refine ⟨_, _, ?_, hrun, hended, _, _, rfl, ?_, ⟨_, rfl⟩, hW, hsame.mono (by decide) (by decide)⟩
          · rw [← hS0]; exact K36 _ (retN X33 hx (t := .boolean) Bd.returns (by simp) (hb hby at_75) hr)
          · show Q0 Z p0 ob1 ob2 ob3 h0 n0 _ T33.heap _
            rw [e33]
            have qr : (1 : Int32) = (w0_r3 p0) := by unfold w0_r3; rw [if_neg hc8_0, if_pos hc20_1, if_pos hc54_2, if_pos hc61_3]
            exact ⟨congrArg (fun z => some (Value.int z)) qr, N33⟩
        · -- no
          have K37 : ∀ t, Steps p.tables e below (T33.setTop (mkF m 65 #[.val (.int p0), .val (.int (w0_1 p0)), .val (.ref ob3), .val (.int (w0_m2 p0)), .val (.int (w1_r1 (0 : Int32)))] [(.ref ob3)])) t → Steps p.tables e below S0 t := fun t k => K35 t (by
            refine XS.ifNo X33.here hx rfl (hb hby at_61) rfl (XT.i0_eq_f hc61_3) ?_
            show Steps p.tables e below (T33.setTop (mkF m 64 #[.val (.int p0), .val (.int (w0_1 p0)), .val (.ref ob3), .val (.int (w0_m2 p0)), .val (.int (w1_r1 (0 : Int32)))] [])) _
            refine XS.aloadN X33.here hx rfl (hb hby at_64) rfl rfl ?_
            show Steps p.tables e below (T33.setTop (mkF m 65 #[.val (.int p0), .val (.int (w0_1 p0)), .val (.ref ob3), .val (.int (w0_m2 p0)), .val (.int (w1_r1 (0 : Int32)))] [(.ref ob3)])) _
            exact k)
          have K_38 : ∀ t, Steps p.tables e below (T33.setTop (mkF m 65 #[.val (.int p0), .val (.int (w0_1 p0)), .val (.ref ob3), .val (.int (w0_m2 p0)), .val (.int (w1_r1 (0 : Int32)))] [(.ref ob3)])) t → Steps p.tables e below S0 t := K37
          obtain ⟨cq39, kq39, q39a, q39b, q39c⟩ := isOf hZ e33 E_ob3
          obtain ⟨_, _, ⟨T39, L39, k39, n39⟩, -, X39, ⟨Lc39, hQ39, l39, y39, z39⟩, st39⟩ := X33.virtualBack hx (y := (⟨"com/example/nearmark/nearmark/binpacking/OnlineAlgorithm", "minClasses", "()I"⟩ : MethodName)) (z := (⟨"com/example/nearmark/nearmark/binpacking/OnlineAlgorithm", "minClasses", "()I"⟩ : MethodName)) hown (mvT hZ (hw _ (List.mem_of_getElem? (i := 13) rfl))) (mvT hZ (hw _ (List.mem_of_getElem? (i := 14) rfl))) (notFace_of_selects (args := #[]) (mvT hZ (hw _ (List.mem_of_getElem? (i := 16) rfl)))) (mvT hZ (hw _ (List.mem_of_getElem? (i := 16) rfl))) (mvT hZ (hw _ (List.mem_of_getElem? (i := 15) rfl))) (by decide) (backOf (W := 0) (rm2 l Z a0 hw [] ob3 (0 : Int32) h0 n0 Z0 F_ob3_minClasses) hZ (hw _ (List.mem_of_getElem? (i := 17) rfl)) (hw _ (List.mem_of_getElem? (i := 2) rfl)) (by decide) (by decide)) q39a q39c (g := (mkF m 65 #[.val (.int p0), .val (.int (w0_1 p0)), .val (.ref ob3), .val (.int (w0_m2 p0)), .val (.int (w1_r1 (0 : Int32)))] [(.ref ob3)])) rfl (by rw [hml]; rfl) (Steps.refl _) (argsL := []) (rest := []) (lenOf pd0_1 rfl) rfl (by show 2 * 0 + _ ≤ _; exact Nat.le_of_eq rfl) (hb hby at_65) (fun _ _ => ⟨rfl, e33, (by decide : 0 + 0 ≤ 0), (by decide : 0 + 0 ≤ 0)⟩)
          dsimp only [Pt.U, Pt.locs, Pt.cells, Pt.slots] at X39 l39 y39 z39 st39 hQ39
          subst l39 y39 z39
          obtain ⟨rfl, N39q, e39⟩ := hQ39
          have N39 := Fr.app N33 N39q
          have K39 : ∀ t, Steps p.tables e below (T39.setTop (mkF m 68 #[.val (.int p0), .val (.int (w0_1 p0)), .val (.ref ob3), .val (.int (w0_m2 p0)), .val (.int (w1_r1 (0 : Int32)))] [(.int (0 : Int32))])) t → Steps p.tables e below S0 t := fun t k => K_38 t (st39.trans k)
          have K40 : ∀ t, Steps p.tables e below (T39.setTop (mkF m 69 #[.val (.int p0), .val (.int (w0_1 p0)), .val (.ref ob3), .val (.int (w0_m2 p0)), .val (.int (w1_r1 (0 : Int32)))] [(.int (2 : Int32)), (.int (0 : Int32))])) t → Steps p.tables e below S0 t := fun t k => K39 t (by
            refine XS.iconst X39.here hx rfl (hb hby at_68) ?_
            show Steps p.tables e below (T39.setTop (mkF m 69 #[.val (.int p0), .val (.int (w0_1 p0)), .val (.ref ob3), .val (.int (w0_m2 p0)), .val (.int (w1_r1 (0 : Int32)))] [(.int (2 : Int32)), (.int (0 : Int32))])) _
            exact k)
          have K41 : ∀ t, Steps p.tables e below (T39.setTop (mkF m 73 #[.val (.int p0), .val (.int (w0_1 p0)), .val (.ref ob3), .val (.int (w0_m2 p0)), .val (.int (w1_r1 (0 : Int32)))] [(.int (0 : Int32))])) t → Steps p.tables e below S0 t := fun t k => K40 t (by
            refine XS.icmpNo X39.here hx rfl (hb hby at_69) rfl (XT.ii_ge_f (by decide)) ?_
            show Steps p.tables e below (T39.setTop (mkF m 72 #[.val (.int p0), .val (.int (w0_1 p0)), .val (.ref ob3), .val (.int (w0_m2 p0)), .val (.int (w1_r1 (0 : Int32)))] [])) _
            refine XS.iconst X39.here hx rfl (hb hby at_72) ?_
            show Steps p.tables e below (T39.setTop (mkF m 73 #[.val (.int p0), .val (.int (w0_1 p0)), .val (.ref ob3), .val (.int (w0_m2 p0)), .val (.int (w1_r1 (0 : Int32)))] [(.int (0 : Int32))])) _
            exact k)
          obtain ⟨fs, hr, hrun, hended, hW, hsame⟩ := X39.leave (v := some (.int (0 : Int32))) (fun h => by rw [Bd.returns] at h; cases h)
          refine ⟨_, _, ?_, hrun, hended, _, _, rfl, ?_, ⟨_, rfl⟩, hW, hsame.mono (by decide) (by decide)⟩
          · rw [← hS0]; exact K41 _ (retN X39 hx (t := .boolean) Bd.returns (by simp) (hb hby at_73) hr)
          · show Q0 Z p0 ob1 ob2 ob3 h0 n0 _ T39.heap _
            rw [e39]
            have qr : (0 : Int32) = (w0_r3 p0) := by unfold w0_r3; rw [if_neg hc8_0, if_pos hc20_1, if_pos hc54_2, if_neg hc61_3]
            exact ⟨congrArg (fun z => some (Value.int z)) qr, N39⟩
      · -- no
        have K42 : ∀ t, Steps p.tables e below (T33.setTop (mkF m 58 #[.val (.int p0), .val (.int (w0_1 p0)), .val (.ref ob3), .val (.int (w0_m2 p0)), .val (.int (w1_r1 (0 : Int32)))] [(.int (0 : Int32))])) t → Steps p.tables e below S0 t := fun t k => K34 t (by
          refine XS.icmpNo X33.here hx rfl (hb hby at_54) rfl (XT.ii_eq_f hc54_2) ?_
          show Steps p.tables e below (T33.setTop (mkF m 57 #[.val (.int p0), .val (.int (w0_1 p0)), .val (.ref ob3), .val (.int (w0_m2 p0)), .val (.int (w1_r1 (0 : Int32)))] [])) _
          refine XS.iconst X33.here hx rfl (hb hby at_57) ?_
          show Steps p.tables e below (T33.setTop (mkF m 58 #[.val (.int p0), .val (.int (w0_1 p0)), .val (.ref ob3), .val (.int (w0_m2 p0)), .val (.int (w1_r1 (0 : Int32)))] [(.int (0 : Int32))])) _
          exact k)
        obtain ⟨fs, hr, hrun, hended, hW, hsame⟩ := X33.leave (v := some (.int (0 : Int32))) (fun h => by rw [Bd.returns] at h; cases h)
        refine ⟨_, _, ?_, hrun, hended, _, _, rfl, ?_, ⟨_, rfl⟩, hW, hsame.mono (by decide) (by decide)⟩
        · rw [← hS0]; exact K42 _ (retN X33 hx (t := .boolean) Bd.returns (by simp) (hb hby at_58) hr)
        · show Q0 Z p0 ob1 ob2 ob3 h0 n0 _ T33.heap _
          rw [e33]
          have qr : (0 : Int32) = (w0_r3 p0) := by unfold w0_r3; rw [if_neg hc8_0, if_pos hc20_1, if_neg hc54_2]
          exact ⟨congrArg (fun z => some (Value.int z)) qr, N33⟩
    · -- no
      have K43 : ∀ t, Steps p.tables e below (s₁.setTop (mkF m 30 #[.val (.int p0), .val (.int (w0_1 p0)), .unset, .unset, .unset] [])) t → Steps p.tables e below S0 t := fun t k => K22 t (by
        refine XS.icmpYes X0.here hx rfl (pc0 := 20) (pc' := 30) rfl (hb hby at_20) rfl (XT.ii_ne_t hc20_1) (by decide) (by decide) ?_
        show Steps p.tables e below (s₁.setTop (mkF m 30 #[.val (.int p0), .val (.int (w0_1 p0)), .unset, .unset, .unset] [])) _
        exact k)
      obtain ⟨T44, X44, e44, st44⟩ := getS2 X0 hx hZ hown (host := "") (Or.inl (hw _ (List.mem_of_getElem? (i := 11) rfl))) Via.refl e0 S_OnlineAlgorithm_HARMONIC (g := (mkF m 30 #[.val (.int p0), .val (.int (w0_1 p0)), .unset, .unset, .unset] [])) rfl (hb hby at_30)
      have K44 : ∀ t, Steps p.tables e below (T44.setTop (mkF m 33 #[.val (.int p0), .val (.int (w0_1 p0)), .unset, .unset, .unset] [(.ref ob2)])) t → Steps p.tables e below S0 t := fun t k => K43 t (st44 t k)
      have K45 : ∀ t, Steps p.tables e below (T44.setTop (mkF m 36 #[.val (.int p0), .val (.int (w0_1 p0)), .val (.ref ob2), .unset, .unset] [(.int (2 : Int32)), (.int (w0_1 p0))])) t → Steps p.tables e below S0 t := fun t k => K44 t (by
        refine XS.astoreN X44.here hx rfl (hb hby at_33) rfl rfl (l' := #[.val (.int p0), .val (.int (w0_1 p0)), .val (.ref ob2), .unset, .unset]) rfl ?_
        show Steps p.tables e below (T44.setTop (mkF m 34 #[.val (.int p0), .val (.int (w0_1 p0)), .val (.ref ob2), .unset, .unset] [])) _
        refine XS.iloadN X44.here hx rfl (hb hby at_34) rfl ?_
        show Steps p.tables e below (T44.setTop (mkF m 35 #[.val (.int p0), .val (.int (w0_1 p0)), .val (.ref ob2), .unset, .unset] [(.int (w0_1 p0))])) _
        refine XS.iconst X44.here hx rfl (hb hby at_35) ?_
        show Steps p.tables e below (T44.setTop (mkF m 36 #[.val (.int p0), .val (.int (w0_1 p0)), .val (.ref ob2), .unset, .unset] [(.int (2 : Int32)), (.int (w0_1 p0))])) _
        exact k)
      obtain ⟨T46, lo46, X46, N46, e46, K46⟩ : ∃ (T' : State) (locs' : List Loc), Stand p l e room_1 s m #[(.int p0)] below meth c T' locs' 0 0 ∧ Fr n0 locs' ∧ T'.heap = h0 ∧ ∀ t, Steps p.tables e below (T'.setTop (mkF m 44 #[.val (.int p0), .val (.int (w0_1 p0)), .val (.ref ob2), .unset, .unset] [(.int (w0_m2 p0))])) t → Steps p.tables e below S0 t := by
        by_cases hc36_2 : (w0_1 p0) = (2 : Int32)
        · -- yes
          have K47 : ∀ t, Steps p.tables e below (T44.setTop (mkF m 44 #[.val (.int p0), .val (.int (w0_1 p0)), .val (.ref ob2), .unset, .unset] [(.int (1 : Int32))])) t → Steps p.tables e below S0 t := fun t k => K45 t (by
            refine XS.icmpNo X44.here hx rfl (hb hby at_36) rfl (XT.ii_ne_f hc36_2) ?_
            show Steps p.tables e below (T44.setTop (mkF m 39 #[.val (.int p0), .val (.int (w0_1 p0)), .val (.ref ob2), .unset, .unset] [])) _
            refine XS.iconst X44.here hx rfl (hb hby at_39) ?_
            show Steps p.tables e below (T44.setTop (mkF m 40 #[.val (.int p0), .val (.int (w0_1 p0)), .val (.ref ob2), .unset, .unset] [(.int (1 : Int32))])) _
            refine XS.goto X44.here hx rfl (pc0 := 40) (pc' := 44) rfl (hb hby at_40) (by decide) (by decide) ?_
            show Steps p.tables e below (T44.setTop (mkF m 44 #[.val (.int p0), .val (.int (w0_1 p0)), .val (.ref ob2), .unset, .unset] [(.int (1 : Int32))])) _
            exact k)
          have q48 : (w0_m2 p0) = (1 : Int32) := by unfold w0_m2; rw [if_pos hc36_2]
          exact ⟨T44, _, X44, N0, e44, fun t k => K47 t (by rw [q48] at k; exact k)⟩
        · -- no
          have K49 : ∀ t, Steps p.tables e below (T44.setTop (mkF m 44 #[.val (.int p0), .val (.int (w0_1 p0)), .val (.ref ob2), .unset, .unset] [(.int (0 : Int32))])) t → Steps p.tables e below S0 t := fun t k => K45 t (by
            refine XS.icmpYes X44.here hx rfl (pc0 := 36) (pc' := 43) rfl (hb hby at_36) rfl (XT.ii_ne_t hc36_2) (by decide) (by decide) ?_
            show Steps p.tables e below (T44.setTop (mkF m 43 #[.val (.int p0), .val (.int (w0_1 p0)), .val (.ref ob2), .unset, .unset] [])) _
            refine XS.iconst X44.here hx rfl (hb hby at_43) ?_
            show Steps p.tables e below (T44.setTop (mkF m 44 #[.val (.int p0), .val (.int (w0_1 p0)), .val (.ref ob2), .unset, .unset] [(.int (0 : Int32))])) _
            exact k)
          have q50 : (w0_m2 p0) = (0 : Int32) := by unfold w0_m2; rw [if_neg hc36_2]
          exact ⟨T44, _, X44, N0, e44, fun t k => K49 t (by rw [q50] at k; exact k)⟩
      have K51 : ∀ t, Steps p.tables e below (T46.setTop (mkF m 46 #[.val (.int p0), .val (.int (w0_1 p0)), .val (.ref ob2), .val (.int (w0_m2 p0)), .unset] [(.ref ob2)])) t → Steps p.tables e below S0 t := fun t k => K46 t (by
        refine XS.istoreN X46.here hx rfl (hb hby at_44) rfl (l' := #[.val (.int p0), .val (.int (w0_1 p0)), .val (.ref ob2), .val (.int (w0_m2 p0)), .unset]) rfl ?_
        show Steps p.tables e below (T46.setTop (mkF m 45 #[.val (.int p0), .val (.int (w0_1 p0)), .val (.ref ob2), .val (.int (w0_m2 p0)), .unset] [])) _
        refine XS.aloadN X46.here hx rfl (hb hby at_45) rfl rfl ?_
        show Steps p.tables e below (T46.setTop (mkF m 46 #[.val (.int p0), .val (.int (w0_1 p0)), .val (.ref ob2), .val (.int (w0_m2 p0)), .unset] [(.ref ob2)])) _
        exact k)
      have K_52 : ∀ t, Steps p.tables e below (T46.setTop (mkF m 46 #[.val (.int p0), .val (.int (w0_1 p0)), .val (.ref ob2), .val (.int (w0_m2 p0)), .unset] [(.ref ob2)])) t → Steps p.tables e below S0 t := K51
      obtain ⟨cq53, kq53, q53a, q53b, q53c⟩ := isOf hZ e46 E_ob2
      obtain ⟨_, _, ⟨T53, L53, k53, n53⟩, -, X53, ⟨Lc53, hQ53, l53, y53, z53⟩, st53⟩ := X46.virtualBack hx (y := (⟨"com/example/nearmark/nearmark/binpacking/OnlineAlgorithm", "takesClasses", "()Z"⟩ : MethodName)) (z := (⟨"com/example/nearmark/nearmark/binpacking/OnlineAlgorithm", "takesClasses", "()Z"⟩ : MethodName)) hown (mvT hZ (hw _ (List.mem_of_getElem? (i := 4) rfl))) (mvT hZ (hw _ (List.mem_of_getElem? (i := 5) rfl))) (notFace_of_selects (args := #[]) (mvT hZ (hw _ (List.mem_of_getElem? (i := 7) rfl)))) (mvT hZ (hw _ (List.mem_of_getElem? (i := 7) rfl))) (mvT hZ (hw _ (List.mem_of_getElem? (i := 6) rfl))) (by decide) (backOf (W := 0) (rm1 l Z a0 hw [] ob2 (2 : Int32) h0 n0 Z0 F_ob2_minClasses) hZ (hw _ (List.mem_of_getElem? (i := 8) rfl)) (hw _ (List.mem_of_getElem? (i := 2) rfl)) (by decide) (by decide)) q53a q53c (g := (mkF m 46 #[.val (.int p0), .val (.int (w0_1 p0)), .val (.ref ob2), .val (.int (w0_m2 p0)), .unset] [(.ref ob2)])) rfl (by rw [hml]; rfl) (Steps.refl _) (argsL := []) (rest := []) (lenOf pd0_0 rfl) rfl (by show 2 * 0 + _ ≤ _; exact Nat.le_of_eq rfl) (hb hby at_46) (fun _ _ => ⟨rfl, e46, (by decide : 0 + 0 ≤ 0), (by decide : 0 + 0 ≤ 0)⟩)
      dsimp only [Pt.U, Pt.locs, Pt.cells, Pt.slots] at X53 l53 y53 z53 st53 hQ53
      subst l53 y53 z53
      obtain ⟨rfl, N53q, e53⟩ := hQ53
      have N53 := Fr.app N46 N53q
      have K53 : ∀ t, Steps p.tables e below (T53.setTop (mkF m 49 #[.val (.int p0), .val (.int (w0_1 p0)), .val (.ref ob2), .val (.int (w0_m2 p0)), .unset] [(.int (w1_r1 (2 : Int32)))])) t → Steps p.tables e below S0 t := fun t k => K_52 t (st53.trans k)
      have K54 : ∀ t, Steps p.tables e below (T53.setTop (mkF m 54 #[.val (.int p0), .val (.int (w0_1 p0)), .val (.ref ob2), .val (.int (w0_m2 p0)), .val (.int (w1_r1 (2 : Int32)))] [(.int (w0_m2 p0)), (.int (w1_r1 (2 : Int32)))])) t → Steps p.tables e below S0 t := fun t k => K53 t (by
        refine XS.istore X53.here hx rfl (hb hby at_49) rfl (l' := #[.val (.int p0), .val (.int (w0_1 p0)), .val (.ref ob2), .val (.int (w0_m2 p0)), .val (.int (w1_r1 (2 : Int32)))]) rfl ?_
        show Steps p.tables e below (T53.setTop (mkF m 51 #[.val (.int p0), .val (.int (w0_1 p0)), .val (.ref ob2), .val (.int (w0_m2 p0)), .val (.int (w1_r1 (2 : Int32)))] [])) _
        refine XS.iload X53.here hx rfl (hb hby at_51) rfl ?_
        show Steps p.tables e below (T53.setTop (mkF m 53 #[.val (.int p0), .val (.int (w0_1 p0)), .val (.ref ob2), .val (.int (w0_m2 p0)), .val (.int (w1_r1 (2 : Int32)))] [(.int (w1_r1 (2 : Int32)))])) _
        refine XS.iloadN X53.here hx rfl (hb hby at_53) rfl ?_
        show Steps p.tables e below (T53.setTop (mkF m 54 #[.val (.int p0), .val (.int (w0_1 p0)), .val (.ref ob2), .val (.int (w0_m2 p0)), .val (.int (w1_r1 (2 : Int32)))] [(.int (w0_m2 p0)), (.int (w1_r1 (2 : Int32)))])) _
        exact k)
      by_cases hc54_2 : (w1_r1 (2 : Int32)) = (w0_m2 p0)
      · -- yes
        have K55 : ∀ t, Steps p.tables e below (T53.setTop (mkF m 61 #[.val (.int p0), .val (.int (w0_1 p0)), .val (.ref ob2), .val (.int (w0_m2 p0)), .val (.int (w1_r1 (2 : Int32)))] [(.int (w1_r1 (2 : Int32)))])) t → Steps p.tables e below S0 t := fun t k => K54 t (by
          refine XS.icmpYes X53.here hx rfl (pc0 := 54) (pc' := 59) rfl (hb hby at_54) rfl (XT.ii_eq_t hc54_2) (by decide) (by decide) ?_
          show Steps p.tables e below (T53.setTop (mkF m 59 #[.val (.int p0), .val (.int (w0_1 p0)), .val (.ref ob2), .val (.int (w0_m2 p0)), .val (.int (w1_r1 (2 : Int32)))] [])) _
          refine XS.iload X53.here hx rfl (hb hby at_59) rfl ?_
          show Steps p.tables e below (T53.setTop (mkF m 61 #[.val (.int p0), .val (.int (w0_1 p0)), .val (.ref ob2), .val (.int (w0_m2 p0)), .val (.int (w1_r1 (2 : Int32)))] [(.int (w1_r1 (2 : Int32)))])) _
          exact k)
        by_cases hc61_3 : (w1_r1 (2 : Int32)) = (0 : Int32)
        · -- yes
          have K56 : ∀ t, Steps p.tables e below (T53.setTop (mkF m 75 #[.val (.int p0), .val (.int (w0_1 p0)), .val (.ref ob2), .val (.int (w0_m2 p0)), .val (.int (w1_r1 (2 : Int32)))] [(.int (1 : Int32))])) t → Steps p.tables e below S0 t := fun t k => K55 t (by
            refine XS.ifYes X53.here hx rfl (pc0 := 61) (pc' := 74) rfl (hb hby at_61) rfl (XT.i0_eq_t hc61_3) (by decide) (by decide) ?_
            show Steps p.tables e below (T53.setTop (mkF m 74 #[.val (.int p0), .val (.int (w0_1 p0)), .val (.ref ob2), .val (.int (w0_m2 p0)), .val (.int (w1_r1 (2 : Int32)))] [])) _
            refine XS.iconst X53.here hx rfl (hb hby at_74) ?_
            show Steps p.tables e below (T53.setTop (mkF m 75 #[.val (.int p0), .val (.int (w0_1 p0)), .val (.ref ob2), .val (.int (w0_m2 p0)), .val (.int (w1_r1 (2 : Int32)))] [(.int (1 : Int32))])) _
            exact k)
          obtain ⟨fs, hr, hrun, hended, hW, hsame⟩ := X53.leave (v := some (.int (1 : Int32))) (fun h => by rw [Bd.returns] at h; cases h)
          refine ⟨_, _, ?_, hrun, hended, _, _, rfl, ?_, ⟨_, rfl⟩, hW, hsame.mono (by decide) (by decide)⟩
          · rw [← hS0]; exact K56 _ (retN X53 hx (t := .boolean) Bd.returns (by simp) (hb hby at_75) hr)
          · show Q0 Z p0 ob1 ob2 ob3 h0 n0 _ T53.heap _
            rw [e53]
            have qr : (1 : Int32) = (w0_r3 p0) := by unfold w0_r3; rw [if_neg hc8_0, if_neg hc20_1, if_pos hc54_2]
            exact ⟨congrArg (fun z => some (Value.int z)) qr, N53⟩
        · -- no
          have K57 : ∀ t, Steps p.tables e below (T53.setTop (mkF m 65 #[.val (.int p0), .val (.int (w0_1 p0)), .val (.ref ob2), .val (.int (w0_m2 p0)), .val (.int (w1_r1 (2 : Int32)))] [(.ref ob2)])) t → Steps p.tables e below S0 t := fun t k => K55 t (by
            refine XS.ifNo X53.here hx rfl (hb hby at_61) rfl (XT.i0_eq_f hc61_3) ?_
            show Steps p.tables e below (T53.setTop (mkF m 64 #[.val (.int p0), .val (.int (w0_1 p0)), .val (.ref ob2), .val (.int (w0_m2 p0)), .val (.int (w1_r1 (2 : Int32)))] [])) _
            refine XS.aloadN X53.here hx rfl (hb hby at_64) rfl rfl ?_
            show Steps p.tables e below (T53.setTop (mkF m 65 #[.val (.int p0), .val (.int (w0_1 p0)), .val (.ref ob2), .val (.int (w0_m2 p0)), .val (.int (w1_r1 (2 : Int32)))] [(.ref ob2)])) _
            exact k)
          have K_58 : ∀ t, Steps p.tables e below (T53.setTop (mkF m 65 #[.val (.int p0), .val (.int (w0_1 p0)), .val (.ref ob2), .val (.int (w0_m2 p0)), .val (.int (w1_r1 (2 : Int32)))] [(.ref ob2)])) t → Steps p.tables e below S0 t := K57
          obtain ⟨cq59, kq59, q59a, q59b, q59c⟩ := isOf hZ e53 E_ob2
          obtain ⟨_, _, ⟨T59, L59, k59, n59⟩, -, X59, ⟨Lc59, hQ59, l59, y59, z59⟩, st59⟩ := X53.virtualBack hx (y := (⟨"com/example/nearmark/nearmark/binpacking/OnlineAlgorithm", "minClasses", "()I"⟩ : MethodName)) (z := (⟨"com/example/nearmark/nearmark/binpacking/OnlineAlgorithm", "minClasses", "()I"⟩ : MethodName)) hown (mvT hZ (hw _ (List.mem_of_getElem? (i := 13) rfl))) (mvT hZ (hw _ (List.mem_of_getElem? (i := 14) rfl))) (notFace_of_selects (args := #[]) (mvT hZ (hw _ (List.mem_of_getElem? (i := 16) rfl)))) (mvT hZ (hw _ (List.mem_of_getElem? (i := 16) rfl))) (mvT hZ (hw _ (List.mem_of_getElem? (i := 15) rfl))) (by decide) (backOf (W := 0) (rm2 l Z a0 hw [] ob2 (2 : Int32) h0 n0 Z0 F_ob2_minClasses) hZ (hw _ (List.mem_of_getElem? (i := 17) rfl)) (hw _ (List.mem_of_getElem? (i := 2) rfl)) (by decide) (by decide)) q59a q59c (g := (mkF m 65 #[.val (.int p0), .val (.int (w0_1 p0)), .val (.ref ob2), .val (.int (w0_m2 p0)), .val (.int (w1_r1 (2 : Int32)))] [(.ref ob2)])) rfl (by rw [hml]; rfl) (Steps.refl _) (argsL := []) (rest := []) (lenOf pd0_1 rfl) rfl (by show 2 * 0 + _ ≤ _; exact Nat.le_of_eq rfl) (hb hby at_65) (fun _ _ => ⟨rfl, e53, (by decide : 0 + 0 ≤ 0), (by decide : 0 + 0 ≤ 0)⟩)
          dsimp only [Pt.U, Pt.locs, Pt.cells, Pt.slots] at X59 l59 y59 z59 st59 hQ59
          subst l59 y59 z59
          obtain ⟨rfl, N59q, e59⟩ := hQ59
          have N59 := Fr.app N53 N59q
          have K59 : ∀ t, Steps p.tables e below (T59.setTop (mkF m 68 #[.val (.int p0), .val (.int (w0_1 p0)), .val (.ref ob2), .val (.int (w0_m2 p0)), .val (.int (w1_r1 (2 : Int32)))] [(.int (2 : Int32))])) t → Steps p.tables e below S0 t := fun t k => K_58 t (st59.trans k)
          have K60 : ∀ t, Steps p.tables e below (T59.setTop (mkF m 69 #[.val (.int p0), .val (.int (w0_1 p0)), .val (.ref ob2), .val (.int (w0_m2 p0)), .val (.int (w1_r1 (2 : Int32)))] [(.int (2 : Int32)), (.int (2 : Int32))])) t → Steps p.tables e below S0 t := fun t k => K59 t (by
            refine XS.iconst X59.here hx rfl (hb hby at_68) ?_
            show Steps p.tables e below (T59.setTop (mkF m 69 #[.val (.int p0), .val (.int (w0_1 p0)), .val (.ref ob2), .val (.int (w0_m2 p0)), .val (.int (w1_r1 (2 : Int32)))] [(.int (2 : Int32)), (.int (2 : Int32))])) _
            exact k)
          have K61 : ∀ t, Steps p.tables e below (T59.setTop (mkF m 75 #[.val (.int p0), .val (.int (w0_1 p0)), .val (.ref ob2), .val (.int (w0_m2 p0)), .val (.int (w1_r1 (2 : Int32)))] [(.int (1 : Int32))])) t → Steps p.tables e below S0 t := fun t k => K60 t (by
            refine XS.icmpYes X59.here hx rfl (pc0 := 69) (pc' := 74) rfl (hb hby at_69) rfl (XT.ii_ge_t (by decide)) (by decide) (by decide) ?_
            show Steps p.tables e below (T59.setTop (mkF m 74 #[.val (.int p0), .val (.int (w0_1 p0)), .val (.ref ob2), .val (.int (w0_m2 p0)), .val (.int (w1_r1 (2 : Int32)))] [])) _
            refine XS.iconst X59.here hx rfl (hb hby at_74) ?_
            show Steps p.tables e below (T59.setTop (mkF m 75 #[.val (.int p0), .val (.int (w0_1 p0)), .val (.ref ob2), .val (.int (w0_m2 p0)), .val (.int (w1_r1 (2 : Int32)))] [(.int (1 : Int32))])) _
            exact k)
          obtain ⟨fs, hr, hrun, hended, hW, hsame⟩ := X59.leave (v := some (.int (1 : Int32))) (fun h => by rw [Bd.returns] at h; cases h)
          refine ⟨_, _, ?_, hrun, hended, _, _, rfl, ?_, ⟨_, rfl⟩, hW, hsame.mono (by decide) (by decide)⟩
          · rw [← hS0]; exact K61 _ (retN X59 hx (t := .boolean) Bd.returns (by simp) (hb hby at_75) hr)
          · show Q0 Z p0 ob1 ob2 ob3 h0 n0 _ T59.heap _
            rw [e59]
            have qr : (1 : Int32) = (w0_r3 p0) := by unfold w0_r3; rw [if_neg hc8_0, if_neg hc20_1, if_pos hc54_2]
            exact ⟨congrArg (fun z => some (Value.int z)) qr, N59⟩
      · -- no
        have K62 : ∀ t, Steps p.tables e below (T53.setTop (mkF m 58 #[.val (.int p0), .val (.int (w0_1 p0)), .val (.ref ob2), .val (.int (w0_m2 p0)), .val (.int (w1_r1 (2 : Int32)))] [(.int (0 : Int32))])) t → Steps p.tables e below S0 t := fun t k => K54 t (by
          refine XS.icmpNo X53.here hx rfl (hb hby at_54) rfl (XT.ii_eq_f hc54_2) ?_
          show Steps p.tables e below (T53.setTop (mkF m 57 #[.val (.int p0), .val (.int (w0_1 p0)), .val (.ref ob2), .val (.int (w0_m2 p0)), .val (.int (w1_r1 (2 : Int32)))] [])) _
          refine XS.iconst X53.here hx rfl (hb hby at_57) ?_
          show Steps p.tables e below (T53.setTop (mkF m 58 #[.val (.int p0), .val (.int (w0_1 p0)), .val (.ref ob2), .val (.int (w0_m2 p0)), .val (.int (w1_r1 (2 : Int32)))] [(.int (0 : Int32))])) _
          exact k)
        obtain ⟨fs, hr, hrun, hended, hW, hsame⟩ := X53.leave (v := some (.int (0 : Int32))) (fun h => by rw [Bd.returns] at h; cases h)
        refine ⟨_, _, ?_, hrun, hended, _, _, rfl, ?_, ⟨_, rfl⟩, hW, hsame.mono (by decide) (by decide)⟩
        · rw [← hS0]; exact K62 _ (retN X53 hx (t := .boolean) Bd.returns (by simp) (hb hby at_58) hr)
        · show Q0 Z p0 ob1 ob2 ob3 h0 n0 _ T53.heap _
          rw [e53]
          have qr : (0 : Int32) = (w0_r3 p0) := by unfold w0_r3; rw [if_neg hc8_0, if_neg hc20_1, if_neg hc54_2]
          exact ⟨congrArg (fun z => some (Value.int z)) qr, N53⟩
set_option maxRecDepth 65536 in
set_option maxHeartbeats 40000000 in
theorem comes_1 {Post : Tables → Env → Array Value → State → Outcome → State → Prop} (hpost : ∀ tb e args s v u, (limb_1_1.after args s (.returned v) u = true ∧ limb_1_2.after args s (.returned v) u = true ∧ True) → FrameEnd s (.returned v) u (Jvm.fieldLocs frame_1_writes args s ++ Jvm.arrayLocs frame_1_arrays args s ++ Jvm.staticLocs frame_1_statics s) 0 0 → Post tb e args s (.returned v) u) :
    ArmFor flags0 classFile x code maxLocals ret World_1 tables_1 room_1 Calls_1 rest_1 Pre_1 Post := by
  intro l hfl _ _ p e ha hc hk s m args below hf hA hF happ hP
  obtain ⟨hcalls, hrest, hpre⟩ := hP
  obtain ⟨-, -, -, hnamed, -, -, -, hat⟩ := (Spec.applies_iff hf).mp happ
  obtain ⟨hg, hn⟩ := and_e (Cond.before_iff.mp (show (Jvm.Cond.and given_1 narrow_1).before args s = true from hpre))
  obtain ⟨hcount, hv0⟩ := and_e hg
  have hi0 := hv0
  obtain ⟨w0, rfl⟩ : ∃ w0 : Value, args = #[w0] := by
    have hs : args.size = 1 := by simpa [Cond.value, given_1] using hcount
    obtain ⟨L⟩ := args
    match L, hs with
    | [w0], _ => exact ⟨w0, rfl⟩
  have hw := fun d (hd : d ∈ tables_1) => atoms_spec (ws := Jvm.Cond.code x code maxLocals ret :: tables_1) hat d (List.mem_cons_of_mem _ hd)
  have hfit : Fit s := fun {y c} hc i hi => by
    obtain ⟨ha, rfl⟩ := Array.getElem?_eq_some_iff.mp hc
    have q := List.all_eq_true.mp ((Array.all_eq_true_iff_forall_mem.mp hF) _ (Array.getElem_mem ha)) i (List.mem_range.mpr hi)
    simpa [Array.getElem?_eq_getElem hi] using q
  obtain ⟨i0, ei0⟩ := is_v hi0
  obtain rfl : w0 = (.int i0) := Option.some.inj ei0
  obtain ⟨z1, hz1⟩ := and_e hn
  obtain ⟨y1, hy1⟩ := and_e hz1
  obtain ⟨z2, hz2⟩ := and_e hy1
  obtain ⟨y2, hy2⟩ := and_e hz2
  obtain ⟨z3, y3⟩ := and_e hy2
  obtain ⟨ob1, ev1⟩ := exa_v z1
  have S1 : Sta s s.heap "com/example/nearmark/nearmark/binpacking/OnlineAlgorithm" "NEXT_FIT" "Lcom/example/nearmark/nearmark/binpacking/OnlineAlgorithm;" (.ref ob1) := Sta.start ev1 (Or.inr ⟨hw _ (List.mem_of_getElem? (i := 2) rfl), hw _ (List.mem_of_getElem? (i := 3) rfl)⟩)
  have E1 := Exa.start ev1 z1
  have F1 := Fld.start (own_fldeq ev1 y1)
  obtain ⟨ob2, ev2⟩ := exa_v z2
  have S2 : Sta s s.heap "com/example/nearmark/nearmark/binpacking/OnlineAlgorithm" "HARMONIC" "Lcom/example/nearmark/nearmark/binpacking/OnlineAlgorithm;" (.ref ob2) := Sta.start ev2 (Or.inr ⟨hw _ (List.mem_of_getElem? (i := 2) rfl), hw _ (List.mem_of_getElem? (i := 12) rfl)⟩)
  have E2 := Exa.start ev2 z2
  have F2 := Fld.start (own_fldeq ev2 y2)
  obtain ⟨ob3, ev3⟩ := exa_v z3
  have S3 : Sta s s.heap "com/example/nearmark/nearmark/binpacking/OnlineAlgorithm" "FIRST_FIT" "Lcom/example/nearmark/nearmark/binpacking/OnlineAlgorithm;" (.ref ob3) := Sta.start ev3 (Or.inr ⟨hw _ (List.mem_of_getElem? (i := 2) rfl), hw _ (List.mem_of_getElem? (i := 19) rfl)⟩)
  have E3 := Exa.start ev3 z3
  have F3 := Fld.start (own_fldeq ev3 y3)
  obtain ⟨n, o, h1, h2, h3, _, L, rfl, ⟨rfl, N⟩, hq⟩ := rm0 l s _ hw tables_1 i0 ob1 ob2 ob3 s.heap s.heap.size (Nat.le_refl _) S1 E1 F1 S2 E2 F2 S3 E3 F3 p e ha hc hk s m _ below hf ((Spec.applies_iff_loose hf).mp happ).1 ⟨rfl, State.Warmed39.refl s, rfl⟩ trivial
  refine ⟨n, _, h1, h2, h3, hpost _ _ _ _ _ _ ⟨Cond.after_iff.mpr rfl, Cond.after_iff.mpr (eq_i res_at (Term.int_eval (1)) (congrArg Value.int (plain_law i0))), trivial⟩ ⟨hq.1, hq.2.1, (hq.2.2.sift fun y hy => Or.inr (N y hy)).mono (by decide) (by decide)⟩⟩
theorem main_1_1 : Claimed_1_1 := comes_1 fun _ _ _ _ _ _ h hF => ⟨h.1, hF⟩
theorem main_1_2 : Claimed_1_2 := comes_1 fun _ _ _ _ _ _ h hF => ⟨h.2.1, hF⟩
end Jvm.Pilot.@@N@@
namespace Jvm.Pilot.@@N@@
open Jvm Jvm.ClassFile Sem Op Lib Jvm.Free Jvm.Stand Jvm.Pilot.@@N@@.Jvm.D
/-! MADE BY PROGRAM (witnessworld.py) out of the Statement's table words and the real class files: 12 classes; the members and pool entries that the words name. The judged class is class 1, her method 1. -/
namespace start1
open Jvm.ClassFile
def u (s : String) : CpInfo := .utf8 (stringToUtf16 s)
/-- a pool by its gaps: so many unusable entries, then the entry; so many at the end -/
def gap : Nat → List CpInfo → List CpInfo
  | 0, r => r
  | n + 1, r => .unusable :: gap n r
def poolList (es : List (Nat × CpInfo)) (last : Nat) : List CpInfo := es.foldr (fun e r => gap e.1 (e.2 :: r)) (gap last [])
def pool (es : List (Nat × CpInfo)) (last : Nat) : Array CpInfo := ⟨poolList es last⟩
def fileOf (pool : Array CpInfo) (this : Nat) (attrs : Array Attribute := #[]) (ms : Array MethodInfo := #[]) (fl : Nat := 33) (sup : Nat := 0) (ifs : Array Nat := #[]) (fds : Array FieldInfo := #[]) : ClassFile where
  minorVersion := 0
  majorVersion := 65
  constantPool := pool
  accessFlags := fl
  thisClass := this
  superClass := sup
  interfaces := ifs
  fields := fds
  methods := ms
  attributes := attrs
def plain (name : String) (sup : Option ClassId) : Class where
  name := name
  kind := .ordinary
  loader := none
  accessFlags := 33
  super := sup
  interfaces := #[]
  cf := none
  fields := #[]
  methods := #[]
  instanceTypes := #[]
  staticTypes := #[]
  resolved := #[]
  callSites := []
  init := .initialized
  statics := none
  mirror := none

def pool0 : Array CpInfo := pool [(5, u "<init>"), (0, u "()V"), (1, .class_ 10), (1, u "java/lang/Object")] 113

def k0m0 : Method := { name := "<init>", desc := "()V", sig := { parameters := [], returnType := none }, accessFlags := 1, code := none }
/-- java/lang/Object -/
def k0 : Class := { plain "java/lang/Object" none with
  accessFlags := 33
  interfaces := #[]
  cf := some (fileOf pool0 8 #[] #[{ accessFlags := 1, nameIndex := 5, descriptorIndex := 6, attributes := #[] }] 33 0 #[] #[])
  fields := #[]
  methods := #[k0m0]
  instanceTypes := #[]
  staticTypes := #[]
  resolved := Array.replicate 124 none
  statics := none }

def pool1 : Array CpInfo := pool [(2, .class_ 4), (1, u "java/lang/Object"), (0, u "<init>"), (0, u "()V"), (0, .integer 2147483647), (0, .fieldref 9 10), (0, .class_ 11), (0, .nameAndType 12 13), (0, u "com/example/nearmark/nearmark/binpacking/OnlineAlgorithm"), (0, u "NEXT_FIT"), (0, u "Lcom/example/nearmark/nearmark/binpacking/OnlineAlgorithm;"), (0, .fieldref 9 15), (0, .nameAndType 16 13), (0, u "FIRST_FIT"), (0, .fieldref 9 18), (0, .nameAndType 19 13), (0, u "HARMONIC"), (0, .methodref 9 21), (0, .nameAndType 22 23), (0, u "takesClasses"), (0, u "()Z"), (0, .methodref 9 25), (0, .nameAndType 26 27), (0, u "minClasses"), (0, u "()I"), (0, .class_ 29), (0, u "com/example/nearmark/nearmark/binpacking/OnlineAlgorithmTakesClassesPinLaw"), (2, u "law"), (0, u "(I)Z")] 3

def k1m0 : Method := { name := "<init>", desc := "()V", sig := { parameters := [], returnType := none }, accessFlags := 1, code := none }
def k1c1 : Code := { maxStack := 2, maxLocals := 5, code := code, exceptionTable := #[], attributes := #[] }
def k1m1 : Method := { name := "law", desc := "(I)Z", sig := { parameters := [.int], returnType := some .boolean }, accessFlags := 9, code := some k1c1 }
/-- com/example/nearmark/nearmark/binpacking/OnlineAlgorithmTakesClassesPinLaw -/
def k1 : Class := { plain "com/example/nearmark/nearmark/binpacking/OnlineAlgorithmTakesClassesPinLaw" (some 0) with
  accessFlags := 49
  interfaces := #[]
  cf := some (fileOf pool1 28 #[] #[{ accessFlags := 1, nameIndex := 5, descriptorIndex := 6, attributes := #[] }, { accessFlags := 9, nameIndex := 32, descriptorIndex := 33, attributes := #[] }] 49 2 #[] #[])
  fields := #[]
  methods := #[k1m0, k1m1]
  instanceTypes := #[]
  staticTypes := #[]
  resolved := Array.replicate 37 none
  statics := none }

def pool2 : Array CpInfo := pool [(1, .class_ 2), (0, u "java/lang/constant/Constable"), (0, .class_ 4), (0, u "java/lang/Object")] 6

/-- java/lang/constant/Constable -/
def k2 : Class := { plain "java/lang/constant/Constable" (some 0) with
  accessFlags := 1537
  interfaces := #[]
  cf := some (fileOf pool2 1 #[] #[] 1537 3 #[] #[])
  fields := #[]
  methods := #[]
  instanceTypes := #[]
  staticTypes := #[]
  resolved := Array.replicate 11 none
  statics := none }

def pool3 : Array CpInfo := pool [(1, .class_ 2), (0, u "java/lang/Comparable"), (0, .class_ 4), (0, u "java/lang/Object")] 7

/-- java/lang/Comparable -/
def k3 : Class := { plain "java/lang/Comparable" (some 0) with
  accessFlags := 1537
  interfaces := #[]
  cf := some (fileOf pool3 1 #[] #[] 1537 3 #[] #[])
  fields := #[]
  methods := #[]
  instanceTypes := #[]
  staticTypes := #[]
  resolved := Array.replicate 12 none
  statics := none }

def pool4 : Array CpInfo := pool [(1, .class_ 2), (0, u "java/io/Serializable"), (0, .class_ 4), (0, u "java/lang/Object")] 2

/-- java/io/Serializable -/
def k4 : Class := { plain "java/io/Serializable" (some 0) with
  accessFlags := 1537
  interfaces := #[]
  cf := some (fileOf pool4 1 #[] #[] 1537 3 #[] #[])
  fields := #[]
  methods := #[]
  instanceTypes := #[]
  staticTypes := #[]
  resolved := Array.replicate 7 none
  statics := none }

def pool5 : Array CpInfo := pool [(2, .class_ 4), (1, u "java/lang/Enum"), (0, u "name"), (0, u "Ljava/lang/String;"), (2, u "ordinal"), (0, u "I"), (1, .class_ 14), (1, u "java/lang/Object"), (4, u "hash"), (86, .class_ 108), (1, u "java/lang/Enum$EnumDesc"), (2, .class_ 112), (0, u "java/lang/constant/Constable"), (0, .class_ 114), (0, u "java/lang/Comparable"), (0, .class_ 116), (0, u "java/io/Serializable")] 87

/-- java/lang/Enum -/
def k5 : Class := { plain "java/lang/Enum" (some 0) with
  accessFlags := 1057
  interfaces := #[2, 3, 4]
  cf := some (fileOf pool5 2 #[.nestMembers #[106]] #[] 1057 12 #[111, 113, 115] #[{ accessFlags := 18, nameIndex := 5, descriptorIndex := 6, attributes := #[] }, { accessFlags := 18, nameIndex := 9, descriptorIndex := 10, attributes := #[] }, { accessFlags := 2, nameIndex := 19, descriptorIndex := 10, attributes := #[] }])
  fields := #[{ name := "name", type := (.object "java/lang/String"), accessFlags := 18, slot := 0, constantValue := 0 }, { name := "ordinal", type := .int, accessFlags := 18, slot := 1, constantValue := 0 }, { name := "hash", type := .int, accessFlags := 2, slot := 2, constantValue := 0 }]
  methods := #[]
  instanceTypes := #[(.object "java/lang/String"), .int, .int]
  staticTypes := #[]
  resolved := Array.replicate 204 none
  statics := none }

def pool6 : Array CpInfo := pool [(1, .class_ 2), (0, u "com/example/nearmark/nearmark/binpacking/OnlineAlgorithm"), (2, u "NEXT_FIT"), (0, u "Lcom/example/nearmark/nearmark/binpacking/OnlineAlgorithm;"), (2, u "FIRST_FIT"), (2, u "HARMONIC"), (2, u "$VALUES"), (0, u "[Lcom/example/nearmark/nearmark/binpacking/OnlineAlgorithm;"), (6, .class_ 25), (1, u "java/lang/Enum"), (8, u "code"), (0, u "Ljava/lang/String;"), (2, u "guarantee"), (0, u "Lcom/example/nearmark/nearmark/certificate/Guarantee;"), (0, .fieldref 1 41), (0, .nameAndType 42 43), (0, u "minClasses"), (0, u "I"), (2, u "starter"), (0, u "Lcom/example/nearmark/nearmark/binpacking/OnlineAlgorithm$Starter;"), (14, u "()Z"), (2, u "takesClasses"), (15, .class_ 83), (1, u "com/example/nearmark/nearmark/binpacking/OnlineAlgorithm$Starter"), (63, u "()I")] 53

def k6c0 : Code := { maxStack := 1, maxLocals := 1, code := prog_21_method_6_code, exceptionTable := #[], attributes := #[] }
def k6m0 : Method := { name := "takesClasses", desc := "()Z", sig := { parameters := [], returnType := some .boolean }, accessFlags := 1, code := some k6c0 }
def k6c1 : Code := { maxStack := 1, maxLocals := 1, code := prog_21_method_7_code, exceptionTable := #[], attributes := #[] }
def k6m1 : Method := { name := "minClasses", desc := "()I", sig := { parameters := [], returnType := some .int }, accessFlags := 1, code := some k6c1 }
/-- com/example/nearmark/nearmark/binpacking/OnlineAlgorithm -/
def k6 : Class := { plain "com/example/nearmark/nearmark/binpacking/OnlineAlgorithm" (some 5) with
  accessFlags := 16433
  interfaces := #[]
  cf := some (fileOf pool6 1 #[.nestMembers #[81]] #[{ accessFlags := 1, nameIndex := 65, descriptorIndex := 62, attributes := #[] }, { accessFlags := 1, nameIndex := 42, descriptorIndex := 147, attributes := #[] }] 16433 23 #[] #[{ accessFlags := 16409, nameIndex := 5, descriptorIndex := 6, attributes := #[] }, { accessFlags := 16409, nameIndex := 9, descriptorIndex := 6, attributes := #[] }, { accessFlags := 16409, nameIndex := 12, descriptorIndex := 6, attributes := #[] }, { accessFlags := 18, nameIndex := 34, descriptorIndex := 35, attributes := #[] }, { accessFlags := 18, nameIndex := 38, descriptorIndex := 39, attributes := #[] }, { accessFlags := 18, nameIndex := 42, descriptorIndex := 43, attributes := #[] }, { accessFlags := 18, nameIndex := 46, descriptorIndex := 47, attributes := #[] }, { accessFlags := 4122, nameIndex := 15, descriptorIndex := 16, attributes := #[] }])
  fields := #[{ name := "NEXT_FIT", type := (.object "com/example/nearmark/nearmark/binpacking/OnlineAlgorithm"), accessFlags := 16409, slot := 0, constantValue := 0 }, { name := "FIRST_FIT", type := (.object "com/example/nearmark/nearmark/binpacking/OnlineAlgorithm"), accessFlags := 16409, slot := 1, constantValue := 0 }, { name := "HARMONIC", type := (.object "com/example/nearmark/nearmark/binpacking/OnlineAlgorithm"), accessFlags := 16409, slot := 2, constantValue := 0 }, { name := "code", type := (.object "java/lang/String"), accessFlags := 18, slot := 3, constantValue := 0 }, { name := "guarantee", type := (.object "com/example/nearmark/nearmark/certificate/Guarantee"), accessFlags := 18, slot := 4, constantValue := 0 }, { name := "minClasses", type := .int, accessFlags := 18, slot := 5, constantValue := 0 }, { name := "starter", type := (.object "com/example/nearmark/nearmark/binpacking/OnlineAlgorithm$Starter"), accessFlags := 18, slot := 6, constantValue := 0 }, { name := "$VALUES", type := (.array (.object "com/example/nearmark/nearmark/binpacking/OnlineAlgorithm")), accessFlags := 4122, slot := 3, constantValue := 0 }]
  methods := #[k6m0, k6m1]
  instanceTypes := #[(.object "java/lang/String"), .int, .int, (.object "java/lang/String"), (.object "com/example/nearmark/nearmark/certificate/Guarantee"), .int, (.object "com/example/nearmark/nearmark/binpacking/OnlineAlgorithm$Starter")]
  staticTypes := #[(.object "com/example/nearmark/nearmark/binpacking/OnlineAlgorithm"), (.object "com/example/nearmark/nearmark/binpacking/OnlineAlgorithm"), (.object "com/example/nearmark/nearmark/binpacking/OnlineAlgorithm"), (.array (.object "com/example/nearmark/nearmark/binpacking/OnlineAlgorithm"))]
  resolved := Array.replicate 201 none
  statics := some 0 }

def pool7 : Array CpInfo := pool [(1, u "java/lang/Cloneable"), (0, .class_ 1), (0, u "java/lang/Object"), (0, .class_ 3)] 3

/-- java/lang/Cloneable -/
def k7 : Class := { plain "java/lang/Cloneable" (some 0) with
  accessFlags := 1537
  interfaces := #[]
  cf := some (fileOf pool7 2 #[] #[] 1537 4 #[] #[])
  fields := #[]
  methods := #[]
  instanceTypes := #[]
  staticTypes := #[]
  resolved := Array.replicate 8 none
  statics := none }

/-- the primitive byte -/
def k8 : Class := { plain "byte" none with kind := .primitive 'B', accessFlags := 0x411 }
/-- [B -/
def k9 : Class := { plain "[B" (some 0) with kind := .array 8 .byte, interfaces := #[7, 4], accessFlags := 1041 }

/-- the primitive int -/
def k10 : Class := { plain "int" none with kind := .primitive 'I', accessFlags := 0x411 }
/-- [I -/
def k11 : Class := { plain "[I" (some 0) with kind := .array 10 .int, interfaces := #[7, 4], accessFlags := 1041 }

def heap : Heap := #[{ cls := 6, slots := #[.ref 1, .ref 2, .ref 3, .null], vm := .statics 6 },
  { cls := 6, slots := #[.null, .int 0, .int 0, .null, .null, .int 0, .null], vm := .none },
  { cls := 6, slots := #[.null, .int 1, .int 0, .null, .null, .int 0, .null], vm := .none },
  { cls := 6, slots := #[.null, .int 2, .int 0, .null, .null, .int 2, .null], vm := .none }]
def classes : Array Class := #[k0, k1, k2, k3, k4, k5, k6, k7, k8, k9, k10, k11]
def interned : List (Array UInt16 × Addr) := []
def slotsUsed : Nat := 25
def theMethod : MethodId := ⟨1, 1⟩
def args0 : Array Value := #[.int 5]
def aboutOver (below : List Frame) : State where
  vm := { classes := classes, interned := interned.toArray }
  heap := heap
  slotsUsed := slotsUsed
  threads := #[{ frames := .invoking theMethod args0 :: below }]
def below0 : List Frame := [.native { method := ⟨0, 0⟩, args := #[] }]
def about1 : State := aboutOver below0
def p0 : Program := .bare "" "" ""
def e0 : Env := launch0.env 0 0 0
theorem w_frames : about1.frames = Frame.invoking theMethod args0 :: below0 := rfl
set_option maxRecDepth 65536 in
theorem w_args : argsFit about1.vm theMethod args0 = true := by decide +kernel
set_option maxRecDepth 65536 in
theorem w_heap : heapFits about1 = true := by decide +kernel
set_option maxRecDepth 65536 in
theorem w_runnable : about1.curStatus? = some .runnable := by decide +kernel
set_option maxRecDepth 65536 in
theorem w_alone : about1.alone = true := by decide +kernel
set_option maxRecDepth 65536 in
theorem w_named : about1.methodNamed? x = some theMethod := by decide +kernel
set_option maxRecDepth 65536 in
theorem w_hears : about1.hears theMethod below0 = true := by decide +kernel
set_option maxRecDepth 65536 in
theorem w_ripe : about1.ripe theMethod args0 below0 = true := by decide +kernel
theorem w_running : about1.status = .running := rfl
set_option maxRecDepth 65536 in
theorem w_room : about1.hasRoom e0.platform room_1 = true :=
  launch0.hasRoom_least _ room_1 (by decide +kernel) (by decide +kernel) (by decide +kernel) (by decide +kernel) (by decide +kernel) (by decide +kernel)
theorem allAtoms_all (ts : List Jvm.Cond) (a : Array Jvm.Value) (st : Jvm.State) : (allAtoms ts).before a st = ts.all (fun c => c.before a st) := by
  induction ts with
  | nil => rfl
  | cons c t ih =>
    show (Jvm.Cond.and c (allAtoms t)).before a st = _
    rw [Jvm.Cond.before_and, ih, List.all_cons]
def words1 : List Jvm.Cond := Jvm.Cond.code x code maxLocals ret :: tables_1
/-- a 'code' word, met by the world's own term for the bytes: nothing is compared byte by byte -/
theorem code_word {y : MethodName} {bytes : ByteArray} {mx : Nat} {rt : Option FieldType} {a : Array Value} {s : State} {m : MethodId} {meth : Method} {c : Code} (h1 : s.methodNamed? y = some m) (h2 : s.vm.method? m = some meth) (h3 : meth.code = some c) (h4 : c.code = bytes)
    (h5 : (c.maxLocals == mx && c.exceptionTable.isEmpty && decide (c.maxStack ≤ mostOperands) && decide (meth.sig.returnType = rt) && !meth.locks && decide (parseMethodDescriptor y.desc = some meth.sig)) = true) : (Jvm.Cond.code y bytes mx rt).before a s = true := by
  simp only [Bool.and_eq_true, beq_iff_eq, Bool.not_eq_true', decide_eq_true_eq] at h5
  obtain ⟨⟨⟨⟨⟨g1, g2⟩, g3⟩, g4⟩, g5⟩, g6⟩ := h5
  simp [Cond.before, Cond.holds, Cond.value, h1, h2, h3, h4, g1, g2, g3, g4, g5, g6]
def isCode : Jvm.Cond → Bool
  | .code _ _ _ _ => true
  | _ => false
theorem all_split {L : List Jvm.Cond} {P : Jvm.Cond → Bool} (h1 : L.all (fun c => isCode c || P c) = true) (h2 : ∀ c ∈ L.filter isCode, P c = true) : L.all P = true := by
  refine List.all_eq_true.mpr fun c hc => ?_
  have h := List.all_eq_true.mp h1 c hc
  rcases Bool.eq_false_or_eq_true (isCode c) with hi | hi
  · exact h2 c (List.mem_filter.mpr ⟨hc, hi⟩)
  · simpa [hi] using h
set_option maxRecDepth 65536 in
theorem w_c0 : (Jvm.Cond.code x code maxLocals ret).before args0 about1 = true := code_word (m := ⟨1, 1⟩) (meth := k1m1) (c := k1c1) (by decide +kernel) rfl rfl rfl (by decide +kernel)
set_option maxRecDepth 65536 in
theorem w_c1 : (Jvm.Cond.code ({ cls := "com/example/nearmark/nearmark/binpacking/OnlineAlgorithm", name := "takesClasses", desc := "()Z" } : Jvm.MethodName) prog_21_method_6_code (1 : Nat) (Option.some Jvm.ClassFile.FieldType.boolean)).before args0 about1 = true := code_word (m := ⟨6, 0⟩) (meth := k6m0) (c := k6c0) (by decide +kernel) rfl rfl rfl (by decide +kernel)
set_option maxRecDepth 65536 in
theorem w_c2 : (Jvm.Cond.code ({ cls := "com/example/nearmark/nearmark/binpacking/OnlineAlgorithm", name := "minClasses", desc := "()I" } : Jvm.MethodName) prog_21_method_7_code (1 : Nat) (Option.some Jvm.ClassFile.FieldType.int)).before args0 about1 = true := code_word (m := ⟨6, 1⟩) (meth := k6m1) (c := k6c1) (by decide +kernel) rfl rfl rfl (by decide +kernel)
def codes1 : List Jvm.Cond := [Jvm.Cond.code x code maxLocals ret, Jvm.Cond.code ({ cls := "com/example/nearmark/nearmark/binpacking/OnlineAlgorithm", name := "takesClasses", desc := "()Z" } : Jvm.MethodName) prog_21_method_6_code (1 : Nat) (Option.some Jvm.ClassFile.FieldType.boolean), Jvm.Cond.code ({ cls := "com/example/nearmark/nearmark/binpacking/OnlineAlgorithm", name := "minClasses", desc := "()I" } : Jvm.MethodName) prog_21_method_7_code (1 : Nat) (Option.some Jvm.ClassFile.FieldType.int)]
set_option maxRecDepth 65536 in
theorem codes_eq : words1.filter isCode = codes1 := rfl
theorem w_codes : ∀ c ∈ words1.filter isCode, c.before args0 about1 = true := by
  rw [codes_eq]
  intro c hc
  simp only [codes1, List.mem_cons, List.not_mem_nil, or_false] at hc
  rcases hc with rfl | rfl | rfl
  · exact w_c0
  · exact w_c1
  · exact w_c2
set_option maxRecDepth 65536 in
theorem w_t1 : words1.all (fun c => isCode c || c.before args0 about1) = true := by decide +kernel
theorem w_tables : (allAtoms (Jvm.Cond.code x code maxLocals ret :: tables_1)).before args0 about1 = true := by
  rw [allAtoms_all]
  show words1.all (fun c => c.before args0 about1) = true
  refine all_split ?_ w_codes
  rw [w_t1]
set_option maxRecDepth 65536 in
theorem w_case : (Jvm.Cond.and given_1 narrow_1).before args0 about1 = true := by decide +kernel
theorem w_applies : (headSpec (Jvm.Cond.code x code maxLocals ret :: tables_1) room_1).applies x e0.platform about1 = true :=
  (Spec.applies_iff w_frames).mpr ⟨w_running, w_runnable, w_alone, w_named, w_hears, w_ripe, w_room, w_tables⟩
theorem atStart : AtStart classFile x code maxLocals ret World_1 tables_1 room_1 Calls_1 rest_1 Pre_1 launch0 p0 e0 about1 theMethod args0 below0 :=
  ⟨lists_1, trivial, launch0.admits_env _ _ _, launch0.least_env, fairChoices_fair.cas, fairChoices_fair.clock, w_frames, w_args, w_heap, w_applies, trivial, trivial, w_case⟩
end start1
theorem witness_1 : WitnessClaimed_1 := ⟨start1.p0, start1.e0, start1.about1, start1.theMethod, start1.args0, start1.below0, start1.atStart⟩
end Jvm.Pilot.@@N@@
