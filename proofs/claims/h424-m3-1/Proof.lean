import JvmDerived
import JvmDerived.Pilot.@@N@@Statement
import JvmDerived.Pilot.@@N@@Code
set_option linter.unusedVariables false
set_option linter.unusedSimpArgs false
namespace Jvm.RoadKit
open Sem ClassFile Op Lib Jvm.Stand Jvm.Free Jvm.LawKit
section New
variable {p : Program} {l : Launch} {e : Env} {R : Room} {s : State} {m : MethodId} {args : Array Value} {below : List Frame} {meth : Method} {c : Code} {T : State} {locs : List Loc} {cells slots : Nat}
theorem retI (X : Stand p l e R s m args below meth c T locs cells slots) (hx : p.tables.exec = Jvm.exec) {pc : Nat} {Ls : Array Slot} {z : Int32} {rest : List Value} (hret : meth.sig.returnType = some .int) (hd : decode c.code pc = .ok (.ireturn, 1)) {fs : List Frame}
    (hl : ∀ (f : JFrame) (acts : List Action), f.method = m → f.locked = none → f.entered = [] → (doReturn e (T.setTop f) acts (some (.int z))).1 = T.setFrames fs) : Steps p.tables e below (T.setTop (mkF m pc Ls (.int z :: rest))) (T.setFrames fs) :=
  retOut X hx hret rfl (Or.inl ⟨rfl, Or.inl rfl, _, rfl⟩) hd hl
end New
end Jvm.RoadKit
namespace Jvm.Pilot.@@N@@
open Jvm Jvm.ClassFile Sem Op Lib Jvm.Free Jvm.Stand Jvm.LawKit Jvm.RoadKit Bundle Jvm.Pilot.@@N@@.Jvm.D
def w1_r1 (q0 : Int64) : Int64 := ((((q0 + (3 : Int64)) / (4 : Int64)) - ((q0 + (99 : Int64)) / (100 : Int64))) + ((q0 + (399 : Int64)) / (400 : Int64)))
def w2_r1 (q0 : Int64) : Int32 := (if q0 < (-719528 : Int64) then (0 : Int32) else (if (2932896 : Int64) < q0 then (0 : Int32) else (1 : Int32)))
def w3_r1 (q0 : Int64) (q1 : Int64) (q2 : Int64) : Int32 := (if q0 < q1 then (0 : Int32) else (if q2 < q0 then (0 : Int32) else (1 : Int32)))
def w0_1  : Int64 := (-((719050 : Int64) + (w1_r1 (1970 : Int64))))
def w0_2  : Int64 := (((2930950 : Int64) + ((w1_r1 (10000 : Int64)) - (w1_r1 (1970 : Int64)))) - (1 : Int64))
def w0_3 (p1 : Int32) : Int64 := ((((p1 &&& (2147483647 : Int32)) % (5 : Int32)) - (2 : Int32)).toInt64)
def w0_m4 (q0 : Int64) : Int32 := (if (w2_r1 q0) = (w3_r1 q0 w0_1 w0_2) then (1 : Int32) else (0 : Int32))
def w0_5 (p1 : Int32) : Int32 := (w3_r1 (w0_1 + (w0_3 p1)) w0_1 w0_2)
def w0_m6 (p1 : Int32) : Int32 := (if (w2_r1 (w0_1 + (w0_3 p1))) = (w0_5 p1) then (1 : Int32) else (0 : Int32))
def w0_7 (p1 : Int32) : Int32 := (w3_r1 (w0_2 + (w0_3 p1)) w0_1 w0_2)
def w0_m8 (p1 : Int32) : Int32 := (if (w2_r1 (w0_2 + (w0_3 p1))) = (w0_7 p1) then (1 : Int32) else (0 : Int32))
def w0_r9 (q0 : Int64) (p1 : Int32) : Int32 := (if (w0_m4 q0) = (0 : Int32) then (0 : Int32) else (if (w0_m6 p1) = (0 : Int32) then (0 : Int32) else (if (w0_m8 p1) = (0 : Int32) then (0 : Int32) else (1 : Int32))))
theorem own_c1 : w0_1 = -719528 := by decide
theorem own_c2 : w0_2 = 2932896 := by decide
theorem own_a (q : Int64) : w2_r1 q = w3_r1 q w0_1 w0_2 := by rw [own_c1, own_c2]; rfl
theorem plain_law (q0 : Int64) (p1 : Int32) : w0_r9 q0 p1 = 1 := by
  have m4 : w0_m4 q0 = 1 := by unfold w0_m4; exact if_pos (own_a q0)
  have m6 : w0_m6 p1 = 1 := by unfold w0_m6 w0_5; exact if_pos (own_a _)
  have m8 : w0_m8 p1 = 1 := by unfold w0_m8 w0_7; exact if_pos (own_a _)
  unfold w0_r9
  rw [m4, m6, m8]
  decide

theorem d1_0 : decode method_2_code 0 = .ok (.lload_n 0, 1) := by decide +kernel
theorem d1_1 : decode method_2_code 1 = .ok (.ldc2_w 7, 3) := by decide +kernel
theorem d1_4 : decode method_2_code 4 = .ok (.ladd, 1) := by decide +kernel
theorem d1_5 : decode method_2_code 5 = .ok (.ldc2_w 9, 3) := by decide +kernel
theorem d1_8 : decode method_2_code 8 = .ok (.ldiv, 1) := by decide +kernel
theorem d1_9 : decode method_2_code 9 = .ok (.lload_n 0, 1) := by decide +kernel
theorem d1_10 : decode method_2_code 10 = .ok (.ldc2_w 11, 3) := by decide +kernel
theorem d1_13 : decode method_2_code 13 = .ok (.ladd, 1) := by decide +kernel
theorem d1_14 : decode method_2_code 14 = .ok (.ldc2_w 13, 3) := by decide +kernel
theorem d1_17 : decode method_2_code 17 = .ok (.ldiv, 1) := by decide +kernel
theorem d1_18 : decode method_2_code 18 = .ok (.lsub, 1) := by decide +kernel
theorem d1_19 : decode method_2_code 19 = .ok (.lload_n 0, 1) := by decide +kernel
theorem d1_20 : decode method_2_code 20 = .ok (.ldc2_w 15, 3) := by decide +kernel
theorem d1_23 : decode method_2_code 23 = .ok (.ladd, 1) := by decide +kernel
theorem d1_24 : decode method_2_code 24 = .ok (.ldc2_w 17, 3) := by decide +kernel
theorem d1_27 : decode method_2_code 27 = .ok (.ldiv, 1) := by decide +kernel
theorem d1_28 : decode method_2_code 28 = .ok (.ladd, 1) := by decide +kernel
theorem d1_29 : decode method_2_code 29 = .ok (.lreturn, 1) := by decide +kernel
theorem pn1 : plainName "com/example/acervo/acervo/index/DocumentValueIsDayPinLaw" = true := by first | (simp [plainName, overriddenIn]; done) | decide +kernel
theorem ef1 (m : MethodId) (q0 : Int64) : entryFrame m #[(.long q0)] 2 = mkF m 0 #[.val (.long q0), .second] [] := by first | (simp [entryFrame, mkF, argsToLocals, Value.category]; done) | rfl
def Q1 (Z : State) (q0 : Int64) (h0 : Heap) (n0 : Nat) (v : Option Value) (h : Heap) (L : List Loc) : Prop := v = some (.long (w1_r1 q0)) ∧ Fr n0 L ∧ h = h0
set_option maxRecDepth 65536 in
set_option maxHeartbeats 40000000 in
theorem rm1 (l : Launch) (Z : State) (a0 : Array Value) (hw : ∀ d ∈ tables_1, d.before a0 Z = true) (ws : List Jvm.Cond) (q0 : Int64) (h0 : Heap) (n0 : Nat) (Z0 : n0 ≤ h0.size) :
    MetFree l (⟨"com/example/acervo/acervo/index/DocumentValueIsDayPinLaw", "leapYearsBefore", "(J)J"⟩ : MethodName) (head1 (Jvm.Cond.code (⟨"com/example/acervo/acervo/index/DocumentValueIsDayPinLaw", "leapYearsBefore", "(J)J"⟩ : MethodName) method_2_code 2 (some .long) :: ws) ({ frames := 0, cells := 0, slots := 0, locals := 0 } : Room)) (fun a U => a = #[(.long q0)] ∧ Z.Warmed39 U.vm ∧ U.heap = h0) (fun _ _ _ _ _ => True) (fun _ U o U' => ∃ v L, o = .returned v ∧ Q1 Z q0 h0 n0 v U'.heap L ∧ FrameEnd U o U' L ({ frames := 0, cells := 0, slots := 0, locals := 0 } : Room).cells ({ frames := 0, cells := 0, slots := 0, locals := 0 } : Room).slots) := by
  refine MetFree.of_bodySF (plainFor_of_name pn1) hisR ?_
  intro p e s m args below meth c s₁ Bd hml0 hP hK
  obtain ⟨rfl, hZ, hh⟩ := hP
  have hx := Bd.exec
  have hby := Bd.bytes
  have hml : c.maxLocals = 2 := hml0
  have hown : s.vm.findClass "com/example/acervo/acervo/index/DocumentValueIsDayPinLaw" = some m.cls := findClass_of_methodNamed Bd.named
  have hnm := (name_of_methodNamed Bd.named Bd.method).1
  have X0 : Stand p l e ({ frames := 0, cells := 0, slots := 0, locals := 0 } : Room) s m #[(.long q0)] below meth c s₁ [] 0 0 := Stand.of_body Bd
  have e0 : s₁.heap = h0 := by rw [← hh, Bd.state]; rfl
  have N0 := Fr.nil n0
  obtain ⟨S0, hS0⟩ : ∃ S0, S0 = s₁.setTop (entryFrame m #[(.long q0)] 2) := ⟨_, rfl⟩
  have pre0 : ∀ t, Steps p.tables e below (s₁.setTop (mkF m 0 #[.val (.long q0), .second] [])) t → Steps p.tables e below S0 t := fun t k => by rw [hS0]; exact castTop (ef1 m q0) k
  have K1 : ∀ t, Steps p.tables e below (s₁.setTop (mkF m 29 #[.val (.long q0), .second] [(.long ((((q0 + (3 : Int64)) / (4 : Int64)) - ((q0 + (99 : Int64)) / (100 : Int64))) + ((q0 + (399 : Int64)) / (400 : Int64))))])) t → Steps p.tables e below S0 t := fun t k => pre0 t (by
    refine XS.lloadN X0.here hx rfl (hb hby d1_0) rfl ?_
    show Steps p.tables e below (s₁.setTop (mkF m 1 #[.val (.long q0), .second] [(.long q0)])) _
    refine X0.ldc2Long hx hown (mvT hZ (hw _ (List.mem_of_getElem? (i := 6) rfl))) (g := (mkF m 1 #[.val (.long q0), .second] [(.long q0)])) rfl (hb hby d1_1) _ ?_
    show Steps p.tables e below (s₁.setTop (mkF m 4 #[.val (.long q0), .second] [(.long (3 : Int64)), (.long q0)])) _
    refine XS.ladd X0.here hx rfl (hb hby d1_4) rfl ?_
    show Steps p.tables e below (s₁.setTop (mkF m 5 #[.val (.long q0), .second] [(.long (q0 + (3 : Int64)))])) _
    refine X0.ldc2Long hx hown (mvT hZ (hw _ (List.mem_of_getElem? (i := 7) rfl))) (g := (mkF m 5 #[.val (.long q0), .second] [(.long (q0 + (3 : Int64)))])) rfl (hb hby d1_5) _ ?_
    show Steps p.tables e below (s₁.setTop (mkF m 8 #[.val (.long q0), .second] [(.long (4 : Int64)), (.long (q0 + (3 : Int64)))])) _
    refine XS.ldiv X0.here hx rfl (hb hby d1_8) rfl (by decide) ?_
    show Steps p.tables e below (s₁.setTop (mkF m 9 #[.val (.long q0), .second] [(.long ((q0 + (3 : Int64)) / (4 : Int64)))])) _
    refine XS.lloadN X0.here hx rfl (hb hby d1_9) rfl ?_
    show Steps p.tables e below (s₁.setTop (mkF m 10 #[.val (.long q0), .second] [(.long q0), (.long ((q0 + (3 : Int64)) / (4 : Int64)))])) _
    refine X0.ldc2Long hx hown (mvT hZ (hw _ (List.mem_of_getElem? (i := 8) rfl))) (g := (mkF m 10 #[.val (.long q0), .second] [(.long q0), (.long ((q0 + (3 : Int64)) / (4 : Int64)))])) rfl (hb hby d1_10) _ ?_
    show Steps p.tables e below (s₁.setTop (mkF m 13 #[.val (.long q0), .second] [(.long (99 : Int64)), (.long q0), (.long ((q0 + (3 : Int64)) / (4 : Int64)))])) _
    refine XS.ladd X0.here hx rfl (hb hby d1_13) rfl ?_
    show Steps p.tables e below (s₁.setTop (mkF m 14 #[.val (.long q0), .second] [(.long (q0 + (99 : Int64))), (.long ((q0 + (3 : Int64)) / (4 : Int64)))])) _
    refine X0.ldc2Long hx hown (mvT hZ (hw _ (List.mem_of_getElem? (i := 9) rfl))) (g := (mkF m 14 #[.val (.long q0), .second] [(.long (q0 + (99 : Int64))), (.long ((q0 + (3 : Int64)) / (4 : Int64)))])) rfl (hb hby d1_14) _ ?_
    show Steps p.tables e below (s₁.setTop (mkF m 17 #[.val (.long q0), .second] [(.long (100 : Int64)), (.long (q0 + (99 : Int64))), (.long ((q0 + (3 : Int64)) / (4 : Int64)))])) _
    refine XS.ldiv X0.here hx rfl (hb hby d1_17) rfl (by decide) ?_
    show Steps p.tables e below (s₁.setTop (mkF m 18 #[.val (.long q0), .second] [(.long ((q0 + (99 : Int64)) / (100 : Int64))), (.long ((q0 + (3 : Int64)) / (4 : Int64)))])) _
    refine XS.lsub X0.here hx rfl (hb hby d1_18) rfl ?_
    show Steps p.tables e below (s₁.setTop (mkF m 19 #[.val (.long q0), .second] [(.long (((q0 + (3 : Int64)) / (4 : Int64)) - ((q0 + (99 : Int64)) / (100 : Int64))))])) _
    refine XS.lloadN X0.here hx rfl (hb hby d1_19) rfl ?_
    show Steps p.tables e below (s₁.setTop (mkF m 20 #[.val (.long q0), .second] [(.long q0), (.long (((q0 + (3 : Int64)) / (4 : Int64)) - ((q0 + (99 : Int64)) / (100 : Int64))))])) _
    refine X0.ldc2Long hx hown (mvT hZ (hw _ (List.mem_of_getElem? (i := 10) rfl))) (g := (mkF m 20 #[.val (.long q0), .second] [(.long q0), (.long (((q0 + (3 : Int64)) / (4 : Int64)) - ((q0 + (99 : Int64)) / (100 : Int64))))])) rfl (hb hby d1_20) _ ?_
    show Steps p.tables e below (s₁.setTop (mkF m 23 #[.val (.long q0), .second] [(.long (399 : Int64)), (.long q0), (.long (((q0 + (3 : Int64)) / (4 : Int64)) - ((q0 + (99 : Int64)) / (100 : Int64))))])) _
    refine XS.ladd X0.here hx rfl (hb hby d1_23) rfl ?_
    show Steps p.tables e below (s₁.setTop (mkF m 24 #[.val (.long q0), .second] [(.long (q0 + (399 : Int64))), (.long (((q0 + (3 : Int64)) / (4 : Int64)) - ((q0 + (99 : Int64)) / (100 : Int64))))])) _
    refine X0.ldc2Long hx hown (mvT hZ (hw _ (List.mem_of_getElem? (i := 11) rfl))) (g := (mkF m 24 #[.val (.long q0), .second] [(.long (q0 + (399 : Int64))), (.long (((q0 + (3 : Int64)) / (4 : Int64)) - ((q0 + (99 : Int64)) / (100 : Int64))))])) rfl (hb hby d1_24) _ ?_
    show Steps p.tables e below (s₁.setTop (mkF m 27 #[.val (.long q0), .second] [(.long (400 : Int64)), (.long (q0 + (399 : Int64))), (.long (((q0 + (3 : Int64)) / (4 : Int64)) - ((q0 + (99 : Int64)) / (100 : Int64))))])) _
    refine XS.ldiv X0.here hx rfl (hb hby d1_27) rfl (by decide) ?_
    show Steps p.tables e below (s₁.setTop (mkF m 28 #[.val (.long q0), .second] [(.long ((q0 + (399 : Int64)) / (400 : Int64))), (.long (((q0 + (3 : Int64)) / (4 : Int64)) - ((q0 + (99 : Int64)) / (100 : Int64))))])) _
    refine XS.ladd X0.here hx rfl (hb hby d1_28) rfl ?_
    show Steps p.tables e below (s₁.setTop (mkF m 29 #[.val (.long q0), .second] [(.long ((((q0 + (3 : Int64)) / (4 : Int64)) - ((q0 + (99 : Int64)) / (100 : Int64))) + ((q0 + (399 : Int64)) / (400 : Int64))))])) _
    exact k)
  obtain ⟨fs, hr, hrun, hended, hW, hsame⟩ := X0.leave (v := some (.long ((((q0 + (3 : Int64)) / (4 : Int64)) - ((q0 + (99 : Int64)) / (100 : Int64))) + ((q0 + (399 : Int64)) / (400 : Int64))))) (fun h => by rw [Bd.returns] at h; cases h)
  refine ⟨_, _, ?_, hrun, hended, _, _, rfl, ?_, ⟨_, rfl⟩, hW, hsame.mono (by decide) (by decide)⟩
  · rw [← hS0]; exact K1 _ (retOut X0 hx Bd.returns rfl (Or.inr (Or.inl ⟨rfl, rfl, _, rfl⟩)) (hb hby d1_29) hr)
  · show Q1 Z q0 h0 n0 _ s₁.heap _
    rw [e0]
    have qr : ((((q0 + (3 : Int64)) / (4 : Int64)) - ((q0 + (99 : Int64)) / (100 : Int64))) + ((q0 + (399 : Int64)) / (400 : Int64))) = (w1_r1 q0) := rfl
    exact ⟨congrArg (fun z => some (Value.long z)) qr, N0, rfl⟩
theorem d2_0 : decode prog_82_method_2_code 0 = .ok (.lload_n 0, 1) := by decide +kernel
theorem d2_1 : decode prog_82_method_2_code 1 = .ok (.ldc2_w 39, 3) := by decide +kernel
theorem d2_4 : decode prog_82_method_2_code 4 = .ok (.lcmp, 1) := by decide +kernel
theorem d2_5 : decode prog_82_method_2_code 5 = .ok (.ifCond .lt 15, 3) := by decide +kernel
theorem d2_8 : decode prog_82_method_2_code 8 = .ok (.lload_n 0, 1) := by decide +kernel
theorem d2_9 : decode prog_82_method_2_code 9 = .ok (.ldc2_w 41, 3) := by decide +kernel
theorem d2_12 : decode prog_82_method_2_code 12 = .ok (.lcmp, 1) := by decide +kernel
theorem d2_13 : decode prog_82_method_2_code 13 = .ok (.ifCond .gt 7, 3) := by decide +kernel
theorem d2_16 : decode prog_82_method_2_code 16 = .ok (.iconst 1, 1) := by decide +kernel
theorem d2_17 : decode prog_82_method_2_code 17 = .ok (.goto 4, 3) := by decide +kernel
theorem d2_20 : decode prog_82_method_2_code 20 = .ok (.iconst 0, 1) := by decide +kernel
theorem d2_21 : decode prog_82_method_2_code 21 = .ok (.ireturn, 1) := by decide +kernel
theorem pn2 : plainName "com/example/acervo/acervo/index/DocumentValue" = true := by first | (simp [plainName, overriddenIn]; done) | decide +kernel
theorem ef2 (m : MethodId) (q0 : Int64) : entryFrame m #[(.long q0)] 2 = mkF m 0 #[.val (.long q0), .second] [] := by first | (simp [entryFrame, mkF, argsToLocals, Value.category]; done) | rfl
def Q2 (Z : State) (q0 : Int64) (h0 : Heap) (n0 : Nat) (v : Option Value) (h : Heap) (L : List Loc) : Prop := v = some (.int (w2_r1 q0)) ∧ Fr n0 L ∧ h = h0
set_option maxRecDepth 65536 in
set_option maxHeartbeats 40000000 in
theorem rm2 (l : Launch) (Z : State) (a0 : Array Value) (hw : ∀ d ∈ tables_1, d.before a0 Z = true) (ws : List Jvm.Cond) (q0 : Int64) (h0 : Heap) (n0 : Nat) (Z0 : n0 ≤ h0.size) :
    MetFree l (⟨"com/example/acervo/acervo/index/DocumentValue", "isDay", "(J)Z"⟩ : MethodName) (head1 (Jvm.Cond.code (⟨"com/example/acervo/acervo/index/DocumentValue", "isDay", "(J)Z"⟩ : MethodName) prog_82_method_2_code 2 (some .boolean) :: ws) ({ frames := 0, cells := 0, slots := 0, locals := 0 } : Room)) (fun a U => a = #[(.long q0)] ∧ Z.Warmed39 U.vm ∧ U.heap = h0) (fun _ _ _ _ _ => True) (fun _ U o U' => ∃ v L, o = .returned v ∧ Q2 Z q0 h0 n0 v U'.heap L ∧ FrameEnd U o U' L ({ frames := 0, cells := 0, slots := 0, locals := 0 } : Room).cells ({ frames := 0, cells := 0, slots := 0, locals := 0 } : Room).slots) := by
  refine MetFree.of_bodySF (plainFor_of_name pn2) hisR ?_
  intro p e s m args below meth c s₁ Bd hml0 hP hK
  obtain ⟨rfl, hZ, hh⟩ := hP
  have hx := Bd.exec
  have hby := Bd.bytes
  have hml : c.maxLocals = 2 := hml0
  have hown : s.vm.findClass "com/example/acervo/acervo/index/DocumentValue" = some m.cls := findClass_of_methodNamed Bd.named
  have hnm := (name_of_methodNamed Bd.named Bd.method).1
  have X0 : Stand p l e ({ frames := 0, cells := 0, slots := 0, locals := 0 } : Room) s m #[(.long q0)] below meth c s₁ [] 0 0 := Stand.of_body Bd
  have e0 : s₁.heap = h0 := by rw [← hh, Bd.state]; rfl
  have N0 := Fr.nil n0
  obtain ⟨S0, hS0⟩ : ∃ S0, S0 = s₁.setTop (entryFrame m #[(.long q0)] 2) := ⟨_, rfl⟩
  have pre0 : ∀ t, Steps p.tables e below (s₁.setTop (mkF m 0 #[.val (.long q0), .second] [])) t → Steps p.tables e below S0 t := fun t k => by rw [hS0]; exact castTop (ef2 m q0) k
  have K1 : ∀ t, Steps p.tables e below (s₁.setTop (mkF m 5 #[.val (.long q0), .second] [(.int (lcmpW q0 (-719528 : Int64)))])) t → Steps p.tables e below S0 t := fun t k => pre0 t (by
    refine XS.lloadN X0.here hx rfl (hb hby d2_0) rfl ?_
    show Steps p.tables e below (s₁.setTop (mkF m 1 #[.val (.long q0), .second] [(.long q0)])) _
    refine X0.ldc2Long hx hown (mvT hZ (hw _ (List.mem_of_getElem? (i := 19) rfl))) (g := (mkF m 1 #[.val (.long q0), .second] [(.long q0)])) rfl (hb hby d2_1) _ ?_
    show Steps p.tables e below (s₁.setTop (mkF m 4 #[.val (.long q0), .second] [(.long (-719528 : Int64)), (.long q0)])) _
    refine XS.lcmp X0.here hx rfl (hb hby d2_4) rfl ?_
    show Steps p.tables e below (s₁.setTop (mkF m 5 #[.val (.long q0), .second] [(.int (lcmpW q0 (-719528 : Int64)))])) _
    exact k)
  by_cases hc5_0 : q0 < (-719528 : Int64)
  · -- yes
    have K2 : ∀ t, Steps p.tables e below (s₁.setTop (mkF m 21 #[.val (.long q0), .second] [(.int (0 : Int32))])) t → Steps p.tables e below S0 t := fun t k => K1 t (by
      refine XS.ifYes X0.here hx rfl (pc0 := 5) (pc' := 20) rfl (hb hby d2_5) rfl (XT.ll_lt_t hc5_0) (by decide) (by decide) ?_
      show Steps p.tables e below (s₁.setTop (mkF m 20 #[.val (.long q0), .second] [])) _
      refine XS.iconst X0.here hx rfl (hb hby d2_20) ?_
      show Steps p.tables e below (s₁.setTop (mkF m 21 #[.val (.long q0), .second] [(.int (0 : Int32))])) _
      exact k)
    obtain ⟨fs, hr, hrun, hended, hW, hsame⟩ := X0.leave (v := some (.int (0 : Int32))) (fun h => by rw [Bd.returns] at h; cases h)
    refine ⟨_, _, ?_, hrun, hended, _, _, rfl, ?_, ⟨_, rfl⟩, hW, hsame.mono (by decide) (by decide)⟩
    · rw [← hS0]; exact K2 _ (retN X0 hx (t := .boolean) Bd.returns (by simp) (hb hby d2_21) hr)
    · show Q2 Z q0 h0 n0 _ s₁.heap _
      rw [e0]
      have qr : (0 : Int32) = (w2_r1 q0) := by unfold w2_r1; rw [if_pos hc5_0]
      exact ⟨congrArg (fun z => some (Value.int z)) qr, N0, rfl⟩
  · -- no
    have K3 : ∀ t, Steps p.tables e below (s₁.setTop (mkF m 13 #[.val (.long q0), .second] [(.int (lcmpW q0 (2932896 : Int64)))])) t → Steps p.tables e below S0 t := fun t k => K1 t (by
      refine XS.ifNo X0.here hx rfl (hb hby d2_5) rfl (XT.ll_lt_f hc5_0) ?_
      show Steps p.tables e below (s₁.setTop (mkF m 8 #[.val (.long q0), .second] [])) _
      refine XS.lloadN X0.here hx rfl (hb hby d2_8) rfl ?_
      show Steps p.tables e below (s₁.setTop (mkF m 9 #[.val (.long q0), .second] [(.long q0)])) _
      refine X0.ldc2Long hx hown (mvT hZ (hw _ (List.mem_of_getElem? (i := 20) rfl))) (g := (mkF m 9 #[.val (.long q0), .second] [(.long q0)])) rfl (hb hby d2_9) _ ?_
      show Steps p.tables e below (s₁.setTop (mkF m 12 #[.val (.long q0), .second] [(.long (2932896 : Int64)), (.long q0)])) _
      refine XS.lcmp X0.here hx rfl (hb hby d2_12) rfl ?_
      show Steps p.tables e below (s₁.setTop (mkF m 13 #[.val (.long q0), .second] [(.int (lcmpW q0 (2932896 : Int64)))])) _
      exact k)
    by_cases hc13_1 : (2932896 : Int64) < q0
    · -- yes
      have K4 : ∀ t, Steps p.tables e below (s₁.setTop (mkF m 21 #[.val (.long q0), .second] [(.int (0 : Int32))])) t → Steps p.tables e below S0 t := fun t k => K3 t (by
        refine XS.ifYes X0.here hx rfl (pc0 := 13) (pc' := 20) rfl (hb hby d2_13) rfl (XT.ll_gt_t hc13_1) (by decide) (by decide) ?_
        show Steps p.tables e below (s₁.setTop (mkF m 20 #[.val (.long q0), .second] [])) _
        refine XS.iconst X0.here hx rfl (hb hby d2_20) ?_
        show Steps p.tables e below (s₁.setTop (mkF m 21 #[.val (.long q0), .second] [(.int (0 : Int32))])) _
        exact k)
      obtain ⟨fs, hr, hrun, hended, hW, hsame⟩ := X0.leave (v := some (.int (0 : Int32))) (fun h => by rw [Bd.returns] at h; cases h)
      refine ⟨_, _, ?_, hrun, hended, _, _, rfl, ?_, ⟨_, rfl⟩, hW, hsame.mono (by decide) (by decide)⟩
      · rw [← hS0]; exact K4 _ (retN X0 hx (t := .boolean) Bd.returns (by simp) (hb hby d2_21) hr)
      · show Q2 Z q0 h0 n0 _ s₁.heap _
        rw [e0]
        have qr : (0 : Int32) = (w2_r1 q0) := by unfold w2_r1; rw [if_neg hc5_0, if_pos hc13_1]
        exact ⟨congrArg (fun z => some (Value.int z)) qr, N0, rfl⟩
    · -- no
      have K5 : ∀ t, Steps p.tables e below (s₁.setTop (mkF m 21 #[.val (.long q0), .second] [(.int (1 : Int32))])) t → Steps p.tables e below S0 t := fun t k => K3 t (by
        refine XS.ifNo X0.here hx rfl (hb hby d2_13) rfl (XT.ll_gt_f hc13_1) ?_
        show Steps p.tables e below (s₁.setTop (mkF m 16 #[.val (.long q0), .second] [])) _
        refine XS.iconst X0.here hx rfl (hb hby d2_16) ?_
        show Steps p.tables e below (s₁.setTop (mkF m 17 #[.val (.long q0), .second] [(.int (1 : Int32))])) _
        refine XS.goto X0.here hx rfl (pc0 := 17) (pc' := 21) rfl (hb hby d2_17) (by decide) (by decide) ?_
        show Steps p.tables e below (s₁.setTop (mkF m 21 #[.val (.long q0), .second] [(.int (1 : Int32))])) _
        exact k)
      obtain ⟨fs, hr, hrun, hended, hW, hsame⟩ := X0.leave (v := some (.int (1 : Int32))) (fun h => by rw [Bd.returns] at h; cases h)
      refine ⟨_, _, ?_, hrun, hended, _, _, rfl, ?_, ⟨_, rfl⟩, hW, hsame.mono (by decide) (by decide)⟩
      · rw [← hS0]; exact K5 _ (retN X0 hx (t := .boolean) Bd.returns (by simp) (hb hby d2_21) hr)
      · show Q2 Z q0 h0 n0 _ s₁.heap _
        rw [e0]
        have qr : (1 : Int32) = (w2_r1 q0) := by unfold w2_r1; rw [if_neg hc5_0, if_neg hc13_1]
        exact ⟨congrArg (fun z => some (Value.int z)) qr, N0, rfl⟩
theorem d3_0 : decode method_3_code 0 = .ok (.lload_n 2, 1) := by decide +kernel
theorem d3_1 : decode method_3_code 1 = .ok (.lload_n 0, 1) := by decide +kernel
theorem d3_2 : decode method_3_code 2 = .ok (.lcmp, 1) := by decide +kernel
theorem d3_3 : decode method_3_code 3 = .ok (.ifCond .gt 14, 3) := by decide +kernel
theorem d3_6 : decode method_3_code 6 = .ok (.lload_n 0, 1) := by decide +kernel
theorem d3_7 : decode method_3_code 7 = .ok (.lload 4, 2) := by decide +kernel
theorem d3_9 : decode method_3_code 9 = .ok (.lcmp, 1) := by decide +kernel
theorem d3_10 : decode method_3_code 10 = .ok (.ifCond .gt 7, 3) := by decide +kernel
theorem d3_13 : decode method_3_code 13 = .ok (.iconst 1, 1) := by decide +kernel
theorem d3_14 : decode method_3_code 14 = .ok (.goto 4, 3) := by decide +kernel
theorem d3_17 : decode method_3_code 17 = .ok (.iconst 0, 1) := by decide +kernel
theorem d3_18 : decode method_3_code 18 = .ok (.ireturn, 1) := by decide +kernel
theorem pn3 : plainName "com/example/acervo/acervo/index/DocumentValueIsDayPinLaw" = true := by first | (simp [plainName, overriddenIn]; done) | decide +kernel
theorem ef3 (m : MethodId) (q0 : Int64) (q1 : Int64) (q2 : Int64) : entryFrame m #[(.long q0), (.long q1), (.long q2)] 6 = mkF m 0 #[.val (.long q0), .second, .val (.long q1), .second, .val (.long q2), .second] [] := by first | (simp [entryFrame, mkF, argsToLocals, Value.category]; done) | rfl
def Q3 (Z : State) (q0 : Int64) (q1 : Int64) (q2 : Int64) (h0 : Heap) (n0 : Nat) (v : Option Value) (h : Heap) (L : List Loc) : Prop := v = some (.int (w3_r1 q0 q1 q2)) ∧ Fr n0 L ∧ h = h0
set_option maxRecDepth 65536 in
set_option maxHeartbeats 40000000 in
theorem rm3 (l : Launch) (Z : State) (a0 : Array Value) (hw : ∀ d ∈ tables_1, d.before a0 Z = true) (ws : List Jvm.Cond) (q0 : Int64) (q1 : Int64) (q2 : Int64) (h0 : Heap) (n0 : Nat) (Z0 : n0 ≤ h0.size) :
    MetFree l (⟨"com/example/acervo/acervo/index/DocumentValueIsDayPinLaw", "ref", "(JJJ)Z"⟩ : MethodName) (head1 (Jvm.Cond.code (⟨"com/example/acervo/acervo/index/DocumentValueIsDayPinLaw", "ref", "(JJJ)Z"⟩ : MethodName) method_3_code 6 (some .boolean) :: ws) ({ frames := 0, cells := 0, slots := 0, locals := 0 } : Room)) (fun a U => a = #[(.long q0), (.long q1), (.long q2)] ∧ Z.Warmed39 U.vm ∧ U.heap = h0) (fun _ _ _ _ _ => True) (fun _ U o U' => ∃ v L, o = .returned v ∧ Q3 Z q0 q1 q2 h0 n0 v U'.heap L ∧ FrameEnd U o U' L ({ frames := 0, cells := 0, slots := 0, locals := 0 } : Room).cells ({ frames := 0, cells := 0, slots := 0, locals := 0 } : Room).slots) := by
  refine MetFree.of_bodySF (plainFor_of_name pn3) hisR ?_
  intro p e s m args below meth c s₁ Bd hml0 hP hK
  obtain ⟨rfl, hZ, hh⟩ := hP
  have hx := Bd.exec
  have hby := Bd.bytes
  have hml : c.maxLocals = 6 := hml0
  have hown : s.vm.findClass "com/example/acervo/acervo/index/DocumentValueIsDayPinLaw" = some m.cls := findClass_of_methodNamed Bd.named
  have hnm := (name_of_methodNamed Bd.named Bd.method).1
  have X0 : Stand p l e ({ frames := 0, cells := 0, slots := 0, locals := 0 } : Room) s m #[(.long q0), (.long q1), (.long q2)] below meth c s₁ [] 0 0 := Stand.of_body Bd
  have e0 : s₁.heap = h0 := by rw [← hh, Bd.state]; rfl
  have N0 := Fr.nil n0
  obtain ⟨S0, hS0⟩ : ∃ S0, S0 = s₁.setTop (entryFrame m #[(.long q0), (.long q1), (.long q2)] 6) := ⟨_, rfl⟩
  have pre0 : ∀ t, Steps p.tables e below (s₁.setTop (mkF m 0 #[.val (.long q0), .second, .val (.long q1), .second, .val (.long q2), .second] [])) t → Steps p.tables e below S0 t := fun t k => by rw [hS0]; exact castTop (ef3 m q0 q1 q2) k
  have K1 : ∀ t, Steps p.tables e below (s₁.setTop (mkF m 3 #[.val (.long q0), .second, .val (.long q1), .second, .val (.long q2), .second] [(.int (lcmpW q1 q0))])) t → Steps p.tables e below S0 t := fun t k => pre0 t (by
    refine XS.lloadN X0.here hx rfl (hb hby d3_0) rfl ?_
    show Steps p.tables e below (s₁.setTop (mkF m 1 #[.val (.long q0), .second, .val (.long q1), .second, .val (.long q2), .second] [(.long q1)])) _
    refine XS.lloadN X0.here hx rfl (hb hby d3_1) rfl ?_
    show Steps p.tables e below (s₁.setTop (mkF m 2 #[.val (.long q0), .second, .val (.long q1), .second, .val (.long q2), .second] [(.long q0), (.long q1)])) _
    refine XS.lcmp X0.here hx rfl (hb hby d3_2) rfl ?_
    show Steps p.tables e below (s₁.setTop (mkF m 3 #[.val (.long q0), .second, .val (.long q1), .second, .val (.long q2), .second] [(.int (lcmpW q1 q0))])) _
    exact k)
  by_cases hc3_0 : q0 < q1
  · -- yes
    have K2 : ∀ t, Steps p.tables e below (s₁.setTop (mkF m 18 #[.val (.long q0), .second, .val (.long q1), .second, .val (.long q2), .second] [(.int (0 : Int32))])) t → Steps p.tables e below S0 t := fun t k => K1 t (by
      refine XS.ifYes X0.here hx rfl (pc0 := 3) (pc' := 17) rfl (hb hby d3_3) rfl (XT.ll_gt_t hc3_0) (by decide) (by decide) ?_
      show Steps p.tables e below (s₁.setTop (mkF m 17 #[.val (.long q0), .second, .val (.long q1), .second, .val (.long q2), .second] [])) _
      refine XS.iconst X0.here hx rfl (hb hby d3_17) ?_
      show Steps p.tables e below (s₁.setTop (mkF m 18 #[.val (.long q0), .second, .val (.long q1), .second, .val (.long q2), .second] [(.int (0 : Int32))])) _
      exact k)
    obtain ⟨fs, hr, hrun, hended, hW, hsame⟩ := X0.leave (v := some (.int (0 : Int32))) (fun h => by rw [Bd.returns] at h; cases h)
    refine ⟨_, _, ?_, hrun, hended, _, _, rfl, ?_, ⟨_, rfl⟩, hW, hsame.mono (by decide) (by decide)⟩
    · rw [← hS0]; exact K2 _ (retN X0 hx (t := .boolean) Bd.returns (by simp) (hb hby d3_18) hr)
    · show Q3 Z q0 q1 q2 h0 n0 _ s₁.heap _
      rw [e0]
      have qr : (0 : Int32) = (w3_r1 q0 q1 q2) := by unfold w3_r1; rw [if_pos hc3_0]
      exact ⟨congrArg (fun z => some (Value.int z)) qr, N0, rfl⟩
  · -- no
    have K3 : ∀ t, Steps p.tables e below (s₁.setTop (mkF m 10 #[.val (.long q0), .second, .val (.long q1), .second, .val (.long q2), .second] [(.int (lcmpW q0 q2))])) t → Steps p.tables e below S0 t := fun t k => K1 t (by
      refine XS.ifNo X0.here hx rfl (hb hby d3_3) rfl (XT.ll_gt_f hc3_0) ?_
      show Steps p.tables e below (s₁.setTop (mkF m 6 #[.val (.long q0), .second, .val (.long q1), .second, .val (.long q2), .second] [])) _
      refine XS.lloadN X0.here hx rfl (hb hby d3_6) rfl ?_
      show Steps p.tables e below (s₁.setTop (mkF m 7 #[.val (.long q0), .second, .val (.long q1), .second, .val (.long q2), .second] [(.long q0)])) _
      refine XS.lload X0.here hx rfl (hb hby d3_7) rfl ?_
      show Steps p.tables e below (s₁.setTop (mkF m 9 #[.val (.long q0), .second, .val (.long q1), .second, .val (.long q2), .second] [(.long q2), (.long q0)])) _
      refine XS.lcmp X0.here hx rfl (hb hby d3_9) rfl ?_
      show Steps p.tables e below (s₁.setTop (mkF m 10 #[.val (.long q0), .second, .val (.long q1), .second, .val (.long q2), .second] [(.int (lcmpW q0 q2))])) _
      exact k)
    by_cases hc10_1 : q2 < q0
    · -- yes
      have K4 : ∀ t, Steps p.tables e below (s₁.setTop (mkF m 18 #[.val (.long q0), .second, .val (.long q1), .second, .val (.long q2), .second] [(.int (0 : Int32))])) t → Steps p.tables e below S0 t := fun t k => K3 t (by
        refine XS.ifYes X0.here hx rfl (pc0 := 10) (pc' := 17) rfl (hb hby d3_10) rfl (XT.ll_gt_t hc10_1) (by decide) (by decide) ?_
        show Steps p.tables e below (s₁.setTop (mkF m 17 #[.val (.long q0), .second, .val (.long q1), .second, .val (.long q2), .second] [])) _
        refine XS.iconst X0.here hx rfl (hb hby d3_17) ?_
        show Steps p.tables e below (s₁.setTop (mkF m 18 #[.val (.long q0), .second, .val (.long q1), .second, .val (.long q2), .second] [(.int (0 : Int32))])) _
        exact k)
      obtain ⟨fs, hr, hrun, hended, hW, hsame⟩ := X0.leave (v := some (.int (0 : Int32))) (fun h => by rw [Bd.returns] at h; cases h)
      refine ⟨_, _, ?_, hrun, hended, _, _, rfl, ?_, ⟨_, rfl⟩, hW, hsame.mono (by decide) (by decide)⟩
      · rw [← hS0]; exact K4 _ (retN X0 hx (t := .boolean) Bd.returns (by simp) (hb hby d3_18) hr)
      · show Q3 Z q0 q1 q2 h0 n0 _ s₁.heap _
        rw [e0]
        have qr : (0 : Int32) = (w3_r1 q0 q1 q2) := by unfold w3_r1; rw [if_neg hc3_0, if_pos hc10_1]
        exact ⟨congrArg (fun z => some (Value.int z)) qr, N0, rfl⟩
    · -- no
      have K5 : ∀ t, Steps p.tables e below (s₁.setTop (mkF m 18 #[.val (.long q0), .second, .val (.long q1), .second, .val (.long q2), .second] [(.int (1 : Int32))])) t → Steps p.tables e below S0 t := fun t k => K3 t (by
        refine XS.ifNo X0.here hx rfl (hb hby d3_10) rfl (XT.ll_gt_f hc10_1) ?_
        show Steps p.tables e below (s₁.setTop (mkF m 13 #[.val (.long q0), .second, .val (.long q1), .second, .val (.long q2), .second] [])) _
        refine XS.iconst X0.here hx rfl (hb hby d3_13) ?_
        show Steps p.tables e below (s₁.setTop (mkF m 14 #[.val (.long q0), .second, .val (.long q1), .second, .val (.long q2), .second] [(.int (1 : Int32))])) _
        refine XS.goto X0.here hx rfl (pc0 := 14) (pc' := 18) rfl (hb hby d3_14) (by decide) (by decide) ?_
        show Steps p.tables e below (s₁.setTop (mkF m 18 #[.val (.long q0), .second, .val (.long q1), .second, .val (.long q2), .second] [(.int (1 : Int32))])) _
        exact k)
      obtain ⟨fs, hr, hrun, hended, hW, hsame⟩ := X0.leave (v := some (.int (1 : Int32))) (fun h => by rw [Bd.returns] at h; cases h)
      refine ⟨_, _, ?_, hrun, hended, _, _, rfl, ?_, ⟨_, rfl⟩, hW, hsame.mono (by decide) (by decide)⟩
      · rw [← hS0]; exact K5 _ (retN X0 hx (t := .boolean) Bd.returns (by simp) (hb hby d3_18) hr)
      · show Q3 Z q0 q1 q2 h0 n0 _ s₁.heap _
        rw [e0]
        have qr : (1 : Int32) = (w3_r1 q0 q1 q2) := by unfold w3_r1; rw [if_neg hc3_0, if_neg hc10_1]
        exact ⟨congrArg (fun z => some (Value.int z)) qr, N0, rfl⟩
theorem pn0 : plainName "com/example/acervo/acervo/index/DocumentValueIsDayPinLaw" = true := by first | (simp [plainName, overriddenIn]; done) | decide +kernel
theorem pd0_0 : parseMethodDescriptor "(J)J" = some ⟨[.long], some .long⟩ := by decide +kernel
theorem pd0_1 : parseMethodDescriptor "(J)Z" = some ⟨[.long], some .boolean⟩ := by decide +kernel
theorem pd0_2 : parseMethodDescriptor "(JJJ)Z" = some ⟨[.long, .long, .long], some .boolean⟩ := by decide +kernel
theorem ef0 (m : MethodId) (q0 : Int64) (p1 : Int32) : entryFrame m #[(.long q0), (.int p1)] maxLocals = mkF m 0 #[.val (.long q0), .second, .val (.int p1), .unset, .unset, .unset, .unset, .unset, .unset, .unset, .unset, .unset, .unset, .unset, .unset, .unset] [] := by first | (simp [entryFrame, mkF, argsToLocals, Value.category, maxLocals]; done) | rfl
def Q0 (Z : State) (q0 : Int64) (p1 : Int32) (h0 : Heap) (n0 : Nat) (v : Option Value) (h : Heap) (L : List Loc) : Prop := v = some (.int (w0_r9 q0 p1)) ∧ Fr n0 L
set_option maxRecDepth 65536 in
set_option maxHeartbeats 40000000 in
theorem rm0 (l : Launch) (Z : State) (a0 : Array Value) (hw : ∀ d ∈ tables_1, d.before a0 Z = true) (ws : List Jvm.Cond) (q0 : Int64) (p1 : Int32) (h0 : Heap) (n0 : Nat) (Z0 : n0 ≤ h0.size) :
    MetFree l x (head1 (Jvm.Cond.code x code maxLocals ret :: ws) room_1) (fun a U => a = #[(.long q0), (.int p1)] ∧ Z.Warmed39 U.vm ∧ U.heap = h0) (fun _ _ _ _ _ => True) (fun _ U o U' => ∃ v L, o = .returned v ∧ Q0 Z q0 p1 h0 n0 v U'.heap L ∧ FrameEnd U o U' L 0 0) := by
  refine MetFree.of_bodySF (plainFor_of_name pn0) hisR ?_
  intro p e s m args below meth c s₁ Bd hml0 hP hK
  obtain ⟨rfl, hZ, hh⟩ := hP
  have hx := Bd.exec
  have hby := Bd.bytes
  have hml : c.maxLocals = 16 := hml0
  have hown : s.vm.findClass "com/example/acervo/acervo/index/DocumentValueIsDayPinLaw" = some m.cls := findClass_of_methodNamed Bd.named
  have hnm := (name_of_methodNamed Bd.named Bd.method).1
  have X0 : Stand p l e room_1 s m #[(.long q0), (.int p1)] below meth c s₁ [] 0 0 := Stand.of_body Bd
  have e0 : s₁.heap = h0 := by rw [← hh, Bd.state]; rfl
  have N0 := Fr.nil n0
  obtain ⟨S0, hS0⟩ : ∃ S0, S0 = s₁.setTop (entryFrame m #[(.long q0), (.int p1)] maxLocals) := ⟨_, rfl⟩
  have pre0 : ∀ t, Steps p.tables e below (s₁.setTop (mkF m 0 #[.val (.long q0), .second, .val (.int p1), .unset, .unset, .unset, .unset, .unset, .unset, .unset, .unset, .unset, .unset, .unset, .unset, .unset] [])) t → Steps p.tables e below S0 t := fun t k => by rw [hS0]; exact castTop (ef0 m q0 p1) k
  have K1 : ∀ t, Steps p.tables e below (s₁.setTop (mkF m 6 #[.val (.long q0), .second, .val (.int p1), .unset, .unset, .unset, .unset, .unset, .unset, .unset, .unset, .unset, .unset, .unset, .unset, .unset] [(.long (1970 : Int64)), (.long (719050 : Int64))])) t → Steps p.tables e below S0 t := fun t k => pre0 t (by
    refine X0.ldc2Long hx hown (mvT hZ (hw _ (List.mem_of_getElem? (i := 0) rfl))) (g := (mkF m 0 #[.val (.long q0), .second, .val (.int p1), .unset, .unset, .unset, .unset, .unset, .unset, .unset, .unset, .unset, .unset, .unset, .unset, .unset] [])) rfl (hb hby at_0) _ ?_
    show Steps p.tables e below (s₁.setTop (mkF m 3 #[.val (.long q0), .second, .val (.int p1), .unset, .unset, .unset, .unset, .unset, .unset, .unset, .unset, .unset, .unset, .unset, .unset, .unset] [(.long (719050 : Int64))])) _
    refine X0.ldc2Long hx hown (mvT hZ (hw _ (List.mem_of_getElem? (i := 1) rfl))) (g := (mkF m 3 #[.val (.long q0), .second, .val (.int p1), .unset, .unset, .unset, .unset, .unset, .unset, .unset, .unset, .unset, .unset, .unset, .unset, .unset] [(.long (719050 : Int64))])) rfl (hb hby at_3) _ ?_
    show Steps p.tables e below (s₁.setTop (mkF m 6 #[.val (.long q0), .second, .val (.int p1), .unset, .unset, .unset, .unset, .unset, .unset, .unset, .unset, .unset, .unset, .unset, .unset, .unset] [(.long (1970 : Int64)), (.long (719050 : Int64))])) _
    exact k)
  have K_2 : ∀ t, Steps p.tables e below (s₁.setTop (mkF m 6 #[.val (.long q0), .second, .val (.int p1), .unset, .unset, .unset, .unset, .unset, .unset, .unset, .unset, .unset, .unset, .unset, .unset, .unset] [(.long (1970 : Int64)), (.long (719050 : Int64))])) t → Steps p.tables e below S0 t := K1
  obtain ⟨_, _, ⟨T3, L3, k3, n3⟩, -, X3, ⟨Lc3, hQ3, l3, y3, z3⟩, st3⟩ := Jvm.LawKit.callS X0 hx (y := (⟨"com/example/acervo/acervo/index/DocumentValueIsDayPinLaw", "leapYearsBefore", "(J)J"⟩ : MethodName)) hown (mvT hZ (hw _ (List.mem_of_getElem? (i := 2) rfl))) (mvT hZ (hw _ (List.mem_of_getElem? (i := 3) rfl))) (mvT hZ (hw _ (List.mem_of_getElem? (i := 4) rfl))) (mvT hZ (hw _ (List.mem_of_getElem? (i := 5) rfl))) (by decide) (backOf (W := 2) (rm1 l Z a0 hw [] (1970 : Int64) h0 n0 Z0 ) hZ (hw _ (List.mem_of_getElem? (i := 5) rfl)) (hw _ (List.mem_of_getElem? (i := 4) rfl)) (by decide) (by decide)) (g := (mkF m 6 #[.val (.long q0), .second, .val (.int p1), .unset, .unset, .unset, .unset, .unset, .unset, .unset, .unset, .unset, .unset, .unset, .unset, .unset] [(.long (1970 : Int64)), (.long (719050 : Int64))])) rfl (by rw [hml]; rfl) (argsL := [(.long (1970 : Int64))]) (rest := [(.long (719050 : Int64))]) (lenOf pd0_0 rfl) rfl (by show 2 * 0 + _ ≤ _; exact Nat.le_of_eq rfl) (hb hby at_6) (fun _ _ => ⟨rfl, e0, (by decide : 0 + 0 ≤ 0), (by decide : 0 + 0 ≤ 0)⟩)
  dsimp only [Pt.U, Pt.locs, Pt.cells, Pt.slots] at X3 l3 y3 z3 st3 hQ3
  subst l3 y3 z3
  obtain ⟨rfl, N3q, e3⟩ := hQ3
  have N3 := Fr.app N0 N3q
  have K3 : ∀ t, Steps p.tables e below (T3.setTop (mkF m 9 #[.val (.long q0), .second, .val (.int p1), .unset, .unset, .unset, .unset, .unset, .unset, .unset, .unset, .unset, .unset, .unset, .unset, .unset] [(.long (w1_r1 (1970 : Int64))), (.long (719050 : Int64))])) t → Steps p.tables e below S0 t := fun t k => K_2 t (st3 t k)
  have K4 : ∀ t, Steps p.tables e below (T3.setTop (mkF m 18 #[.val (.long q0), .second, .val (.int p1), .val (.long w0_1), .second, .unset, .unset, .unset, .unset, .unset, .unset, .unset, .unset, .unset, .unset, .unset] [(.long (10000 : Int64)), (.long (2930950 : Int64))])) t → Steps p.tables e below S0 t := fun t k => K3 t (by
    refine XS.ladd X3.here hx rfl (hb hby at_9) rfl ?_
    show Steps p.tables e below (T3.setTop (mkF m 10 #[.val (.long q0), .second, .val (.int p1), .unset, .unset, .unset, .unset, .unset, .unset, .unset, .unset, .unset, .unset, .unset, .unset, .unset] [(.long ((719050 : Int64) + (w1_r1 (1970 : Int64))))])) _
    refine XS.lneg X3.here hx rfl (hb hby at_10) rfl ?_
    show Steps p.tables e below (T3.setTop (mkF m 11 #[.val (.long q0), .second, .val (.int p1), .unset, .unset, .unset, .unset, .unset, .unset, .unset, .unset, .unset, .unset, .unset, .unset, .unset] [(.long (-((719050 : Int64) + (w1_r1 (1970 : Int64)))))])) _
    refine XS.lstoreN X3.here hx rfl (hb hby at_11) rfl (l' := #[.val (.long q0), .second, .val (.int p1), .val (.long w0_1), .second, .unset, .unset, .unset, .unset, .unset, .unset, .unset, .unset, .unset, .unset, .unset]) rfl ?_
    show Steps p.tables e below (T3.setTop (mkF m 12 #[.val (.long q0), .second, .val (.int p1), .val (.long w0_1), .second, .unset, .unset, .unset, .unset, .unset, .unset, .unset, .unset, .unset, .unset, .unset] [])) _
    refine X3.ldc2Long hx hown (mvT hZ (hw _ (List.mem_of_getElem? (i := 12) rfl))) (g := (mkF m 12 #[.val (.long q0), .second, .val (.int p1), .val (.long w0_1), .second, .unset, .unset, .unset, .unset, .unset, .unset, .unset, .unset, .unset, .unset, .unset] [])) rfl (hb hby at_12) _ ?_
    show Steps p.tables e below (T3.setTop (mkF m 15 #[.val (.long q0), .second, .val (.int p1), .val (.long w0_1), .second, .unset, .unset, .unset, .unset, .unset, .unset, .unset, .unset, .unset, .unset, .unset] [(.long (2930950 : Int64))])) _
    refine X3.ldc2Long hx hown (mvT hZ (hw _ (List.mem_of_getElem? (i := 13) rfl))) (g := (mkF m 15 #[.val (.long q0), .second, .val (.int p1), .val (.long w0_1), .second, .unset, .unset, .unset, .unset, .unset, .unset, .unset, .unset, .unset, .unset, .unset] [(.long (2930950 : Int64))])) rfl (hb hby at_15) _ ?_
    show Steps p.tables e below (T3.setTop (mkF m 18 #[.val (.long q0), .second, .val (.int p1), .val (.long w0_1), .second, .unset, .unset, .unset, .unset, .unset, .unset, .unset, .unset, .unset, .unset, .unset] [(.long (10000 : Int64)), (.long (2930950 : Int64))])) _
    exact k)
  have K_5 : ∀ t, Steps p.tables e below (T3.setTop (mkF m 18 #[.val (.long q0), .second, .val (.int p1), .val (.long w0_1), .second, .unset, .unset, .unset, .unset, .unset, .unset, .unset, .unset, .unset, .unset, .unset] [(.long (10000 : Int64)), (.long (2930950 : Int64))])) t → Steps p.tables e below S0 t := K4
  obtain ⟨_, _, ⟨T6, L6, k6, n6⟩, -, X6, ⟨Lc6, hQ6, l6, y6, z6⟩, st6⟩ := Jvm.LawKit.callS X3 hx (y := (⟨"com/example/acervo/acervo/index/DocumentValueIsDayPinLaw", "leapYearsBefore", "(J)J"⟩ : MethodName)) hown (mvT hZ (hw _ (List.mem_of_getElem? (i := 2) rfl))) (mvT hZ (hw _ (List.mem_of_getElem? (i := 3) rfl))) (mvT hZ (hw _ (List.mem_of_getElem? (i := 4) rfl))) (mvT hZ (hw _ (List.mem_of_getElem? (i := 5) rfl))) (by decide) (backOf (W := 2) (rm1 l Z a0 hw [] (10000 : Int64) h0 n0 Z0 ) hZ (hw _ (List.mem_of_getElem? (i := 5) rfl)) (hw _ (List.mem_of_getElem? (i := 4) rfl)) (by decide) (by decide)) (g := (mkF m 18 #[.val (.long q0), .second, .val (.int p1), .val (.long w0_1), .second, .unset, .unset, .unset, .unset, .unset, .unset, .unset, .unset, .unset, .unset, .unset] [(.long (10000 : Int64)), (.long (2930950 : Int64))])) rfl (by rw [hml]; rfl) (argsL := [(.long (10000 : Int64))]) (rest := [(.long (2930950 : Int64))]) (lenOf pd0_0 rfl) rfl (by show 2 * 0 + _ ≤ _; exact Nat.le_of_eq rfl) (hb hby at_18) (fun _ _ => ⟨rfl, e3, (by decide : 0 + 0 ≤ 0), (by decide : 0 + 0 ≤ 0)⟩)
  dsimp only [Pt.U, Pt.locs, Pt.cells, Pt.slots] at X6 l6 y6 z6 st6 hQ6
  subst l6 y6 z6
  obtain ⟨rfl, N6q, e6⟩ := hQ6
  have N6 := Fr.app N3 N6q
  have K6 : ∀ t, Steps p.tables e below (T6.setTop (mkF m 21 #[.val (.long q0), .second, .val (.int p1), .val (.long w0_1), .second, .unset, .unset, .unset, .unset, .unset, .unset, .unset, .unset, .unset, .unset, .unset] [(.long (w1_r1 (10000 : Int64))), (.long (2930950 : Int64))])) t → Steps p.tables e below S0 t := fun t k => K_5 t (st6 t k)
  have K7 : ∀ t, Steps p.tables e below (T6.setTop (mkF m 24 #[.val (.long q0), .second, .val (.int p1), .val (.long w0_1), .second, .unset, .unset, .unset, .unset, .unset, .unset, .unset, .unset, .unset, .unset, .unset] [(.long (1970 : Int64)), (.long (w1_r1 (10000 : Int64))), (.long (2930950 : Int64))])) t → Steps p.tables e below S0 t := fun t k => K6 t (by
    refine X6.ldc2Long hx hown (mvT hZ (hw _ (List.mem_of_getElem? (i := 1) rfl))) (g := (mkF m 21 #[.val (.long q0), .second, .val (.int p1), .val (.long w0_1), .second, .unset, .unset, .unset, .unset, .unset, .unset, .unset, .unset, .unset, .unset, .unset] [(.long (w1_r1 (10000 : Int64))), (.long (2930950 : Int64))])) rfl (hb hby at_21) _ ?_
    show Steps p.tables e below (T6.setTop (mkF m 24 #[.val (.long q0), .second, .val (.int p1), .val (.long w0_1), .second, .unset, .unset, .unset, .unset, .unset, .unset, .unset, .unset, .unset, .unset, .unset] [(.long (1970 : Int64)), (.long (w1_r1 (10000 : Int64))), (.long (2930950 : Int64))])) _
    exact k)
  have K_8 : ∀ t, Steps p.tables e below (T6.setTop (mkF m 24 #[.val (.long q0), .second, .val (.int p1), .val (.long w0_1), .second, .unset, .unset, .unset, .unset, .unset, .unset, .unset, .unset, .unset, .unset, .unset] [(.long (1970 : Int64)), (.long (w1_r1 (10000 : Int64))), (.long (2930950 : Int64))])) t → Steps p.tables e below S0 t := K7
  obtain ⟨_, _, ⟨T9, L9, k9, n9⟩, -, X9, ⟨Lc9, hQ9, l9, y9, z9⟩, st9⟩ := Jvm.LawKit.callS X6 hx (y := (⟨"com/example/acervo/acervo/index/DocumentValueIsDayPinLaw", "leapYearsBefore", "(J)J"⟩ : MethodName)) hown (mvT hZ (hw _ (List.mem_of_getElem? (i := 2) rfl))) (mvT hZ (hw _ (List.mem_of_getElem? (i := 3) rfl))) (mvT hZ (hw _ (List.mem_of_getElem? (i := 4) rfl))) (mvT hZ (hw _ (List.mem_of_getElem? (i := 5) rfl))) (by decide) (backOf (W := 4) (rm1 l Z a0 hw [] (1970 : Int64) h0 n0 Z0 ) hZ (hw _ (List.mem_of_getElem? (i := 5) rfl)) (hw _ (List.mem_of_getElem? (i := 4) rfl)) (by decide) (by decide)) (g := (mkF m 24 #[.val (.long q0), .second, .val (.int p1), .val (.long w0_1), .second, .unset, .unset, .unset, .unset, .unset, .unset, .unset, .unset, .unset, .unset, .unset] [(.long (1970 : Int64)), (.long (w1_r1 (10000 : Int64))), (.long (2930950 : Int64))])) rfl (by rw [hml]; rfl) (argsL := [(.long (1970 : Int64))]) (rest := [(.long (w1_r1 (10000 : Int64))), (.long (2930950 : Int64))]) (lenOf pd0_0 rfl) rfl (by show 2 * 0 + _ ≤ _; exact Nat.le_of_eq rfl) (hb hby at_24) (fun _ _ => ⟨rfl, e6, (by decide : 0 + 0 ≤ 0), (by decide : 0 + 0 ≤ 0)⟩)
  dsimp only [Pt.U, Pt.locs, Pt.cells, Pt.slots] at X9 l9 y9 z9 st9 hQ9
  subst l9 y9 z9
  obtain ⟨rfl, N9q, e9⟩ := hQ9
  have N9 := Fr.app N6 N9q
  have K9 : ∀ t, Steps p.tables e below (T9.setTop (mkF m 27 #[.val (.long q0), .second, .val (.int p1), .val (.long w0_1), .second, .unset, .unset, .unset, .unset, .unset, .unset, .unset, .unset, .unset, .unset, .unset] [(.long (w1_r1 (1970 : Int64))), (.long (w1_r1 (10000 : Int64))), (.long (2930950 : Int64))])) t → Steps p.tables e below S0 t := fun t k => K_8 t (st9 t k)
  have K10 : ∀ t, Steps p.tables e below (T9.setTop (mkF m 58 #[.val (.long q0), .second, .val (.int p1), .val (.long w0_1), .second, .val (.long w0_2), .second, .val (.long (w0_3 p1)), .second, .val (.long (w0_1 + (w0_3 p1))), .second, .val (.long (w0_2 + (w0_3 p1))), .second, .unset, .unset, .unset] [(.long q0)])) t → Steps p.tables e below S0 t := fun t k => K9 t (by
    refine XS.lsub X9.here hx rfl (hb hby at_27) rfl ?_
    show Steps p.tables e below (T9.setTop (mkF m 28 #[.val (.long q0), .second, .val (.int p1), .val (.long w0_1), .second, .unset, .unset, .unset, .unset, .unset, .unset, .unset, .unset, .unset, .unset, .unset] [(.long ((w1_r1 (10000 : Int64)) - (w1_r1 (1970 : Int64)))), (.long (2930950 : Int64))])) _
    refine XS.ladd X9.here hx rfl (hb hby at_28) rfl ?_
    show Steps p.tables e below (T9.setTop (mkF m 29 #[.val (.long q0), .second, .val (.int p1), .val (.long w0_1), .second, .unset, .unset, .unset, .unset, .unset, .unset, .unset, .unset, .unset, .unset, .unset] [(.long ((2930950 : Int64) + ((w1_r1 (10000 : Int64)) - (w1_r1 (1970 : Int64)))))])) _
    refine XS.lconst X9.here hx rfl (hb hby at_29) ?_
    show Steps p.tables e below (T9.setTop (mkF m 30 #[.val (.long q0), .second, .val (.int p1), .val (.long w0_1), .second, .unset, .unset, .unset, .unset, .unset, .unset, .unset, .unset, .unset, .unset, .unset] [(.long (1 : Int64)), (.long ((2930950 : Int64) + ((w1_r1 (10000 : Int64)) - (w1_r1 (1970 : Int64)))))])) _
    refine XS.lsub X9.here hx rfl (hb hby at_30) rfl ?_
    show Steps p.tables e below (T9.setTop (mkF m 31 #[.val (.long q0), .second, .val (.int p1), .val (.long w0_1), .second, .unset, .unset, .unset, .unset, .unset, .unset, .unset, .unset, .unset, .unset, .unset] [(.long (((2930950 : Int64) + ((w1_r1 (10000 : Int64)) - (w1_r1 (1970 : Int64)))) - (1 : Int64)))])) _
    refine XS.lstore X9.here hx rfl (hb hby at_31) rfl (l' := #[.val (.long q0), .second, .val (.int p1), .val (.long w0_1), .second, .val (.long w0_2), .second, .unset, .unset, .unset, .unset, .unset, .unset, .unset, .unset, .unset]) rfl ?_
    show Steps p.tables e below (T9.setTop (mkF m 33 #[.val (.long q0), .second, .val (.int p1), .val (.long w0_1), .second, .val (.long w0_2), .second, .unset, .unset, .unset, .unset, .unset, .unset, .unset, .unset, .unset] [])) _
    refine XS.iloadN X9.here hx rfl (hb hby at_33) rfl ?_
    show Steps p.tables e below (T9.setTop (mkF m 34 #[.val (.long q0), .second, .val (.int p1), .val (.long w0_1), .second, .val (.long w0_2), .second, .unset, .unset, .unset, .unset, .unset, .unset, .unset, .unset, .unset] [(.int p1)])) _
    refine X9.ldcInt hx hown (mvT hZ (hw _ (List.mem_of_getElem? (i := 14) rfl))) (g := (mkF m 34 #[.val (.long q0), .second, .val (.int p1), .val (.long w0_1), .second, .val (.long w0_2), .second, .unset, .unset, .unset, .unset, .unset, .unset, .unset, .unset, .unset] [(.int p1)])) rfl (hb hby at_34) _ ?_
    show Steps p.tables e below (T9.setTop (mkF m 36 #[.val (.long q0), .second, .val (.int p1), .val (.long w0_1), .second, .val (.long w0_2), .second, .unset, .unset, .unset, .unset, .unset, .unset, .unset, .unset, .unset] [(.int (2147483647 : Int32)), (.int p1)])) _
    refine XS.iand X9.here hx rfl (hb hby at_36) rfl ?_
    show Steps p.tables e below (T9.setTop (mkF m 37 #[.val (.long q0), .second, .val (.int p1), .val (.long w0_1), .second, .val (.long w0_2), .second, .unset, .unset, .unset, .unset, .unset, .unset, .unset, .unset, .unset] [(.int (p1 &&& (2147483647 : Int32)))])) _
    refine XS.iconst X9.here hx rfl (hb hby at_37) ?_
    show Steps p.tables e below (T9.setTop (mkF m 38 #[.val (.long q0), .second, .val (.int p1), .val (.long w0_1), .second, .val (.long w0_2), .second, .unset, .unset, .unset, .unset, .unset, .unset, .unset, .unset, .unset] [(.int (5 : Int32)), (.int (p1 &&& (2147483647 : Int32)))])) _
    refine iremM X9 hx rfl (hb hby at_38) rfl (by decide) ?_
    show Steps p.tables e below (T9.setTop (mkF m 39 #[.val (.long q0), .second, .val (.int p1), .val (.long w0_1), .second, .val (.long w0_2), .second, .unset, .unset, .unset, .unset, .unset, .unset, .unset, .unset, .unset] [(.int ((p1 &&& (2147483647 : Int32)) % (5 : Int32)))])) _
    refine XS.iconst X9.here hx rfl (hb hby at_39) ?_
    show Steps p.tables e below (T9.setTop (mkF m 40 #[.val (.long q0), .second, .val (.int p1), .val (.long w0_1), .second, .val (.long w0_2), .second, .unset, .unset, .unset, .unset, .unset, .unset, .unset, .unset, .unset] [(.int (2 : Int32)), (.int ((p1 &&& (2147483647 : Int32)) % (5 : Int32)))])) _
    refine XS.isub X9.here hx rfl (hb hby at_40) rfl ?_
    show Steps p.tables e below (T9.setTop (mkF m 41 #[.val (.long q0), .second, .val (.int p1), .val (.long w0_1), .second, .val (.long w0_2), .second, .unset, .unset, .unset, .unset, .unset, .unset, .unset, .unset, .unset] [(.int (((p1 &&& (2147483647 : Int32)) % (5 : Int32)) - (2 : Int32)))])) _
    refine XS.i2l X9.here hx rfl (hb hby at_41) rfl ?_
    show Steps p.tables e below (T9.setTop (mkF m 42 #[.val (.long q0), .second, .val (.int p1), .val (.long w0_1), .second, .val (.long w0_2), .second, .unset, .unset, .unset, .unset, .unset, .unset, .unset, .unset, .unset] [(.long ((((p1 &&& (2147483647 : Int32)) % (5 : Int32)) - (2 : Int32)).toInt64))])) _
    refine XS.lstore X9.here hx rfl (hb hby at_42) rfl (l' := #[.val (.long q0), .second, .val (.int p1), .val (.long w0_1), .second, .val (.long w0_2), .second, .val (.long (w0_3 p1)), .second, .unset, .unset, .unset, .unset, .unset, .unset, .unset]) rfl ?_
    show Steps p.tables e below (T9.setTop (mkF m 44 #[.val (.long q0), .second, .val (.int p1), .val (.long w0_1), .second, .val (.long w0_2), .second, .val (.long (w0_3 p1)), .second, .unset, .unset, .unset, .unset, .unset, .unset, .unset] [])) _
    refine XS.lloadN X9.here hx rfl (hb hby at_44) rfl ?_
    show Steps p.tables e below (T9.setTop (mkF m 45 #[.val (.long q0), .second, .val (.int p1), .val (.long w0_1), .second, .val (.long w0_2), .second, .val (.long (w0_3 p1)), .second, .unset, .unset, .unset, .unset, .unset, .unset, .unset] [(.long w0_1)])) _
    refine XS.lload X9.here hx rfl (hb hby at_45) rfl ?_
    show Steps p.tables e below (T9.setTop (mkF m 47 #[.val (.long q0), .second, .val (.int p1), .val (.long w0_1), .second, .val (.long w0_2), .second, .val (.long (w0_3 p1)), .second, .unset, .unset, .unset, .unset, .unset, .unset, .unset] [(.long (w0_3 p1)), (.long w0_1)])) _
    refine XS.ladd X9.here hx rfl (hb hby at_47) rfl ?_
    show Steps p.tables e below (T9.setTop (mkF m 48 #[.val (.long q0), .second, .val (.int p1), .val (.long w0_1), .second, .val (.long w0_2), .second, .val (.long (w0_3 p1)), .second, .unset, .unset, .unset, .unset, .unset, .unset, .unset] [(.long (w0_1 + (w0_3 p1)))])) _
    refine XS.lstore X9.here hx rfl (hb hby at_48) rfl (l' := #[.val (.long q0), .second, .val (.int p1), .val (.long w0_1), .second, .val (.long w0_2), .second, .val (.long (w0_3 p1)), .second, .val (.long (w0_1 + (w0_3 p1))), .second, .unset, .unset, .unset, .unset, .unset]) rfl ?_
    show Steps p.tables e below (T9.setTop (mkF m 50 #[.val (.long q0), .second, .val (.int p1), .val (.long w0_1), .second, .val (.long w0_2), .second, .val (.long (w0_3 p1)), .second, .val (.long (w0_1 + (w0_3 p1))), .second, .unset, .unset, .unset, .unset, .unset] [])) _
    refine XS.lload X9.here hx rfl (hb hby at_50) rfl ?_
    show Steps p.tables e below (T9.setTop (mkF m 52 #[.val (.long q0), .second, .val (.int p1), .val (.long w0_1), .second, .val (.long w0_2), .second, .val (.long (w0_3 p1)), .second, .val (.long (w0_1 + (w0_3 p1))), .second, .unset, .unset, .unset, .unset, .unset] [(.long w0_2)])) _
    refine XS.lload X9.here hx rfl (hb hby at_52) rfl ?_
    show Steps p.tables e below (T9.setTop (mkF m 54 #[.val (.long q0), .second, .val (.int p1), .val (.long w0_1), .second, .val (.long w0_2), .second, .val (.long (w0_3 p1)), .second, .val (.long (w0_1 + (w0_3 p1))), .second, .unset, .unset, .unset, .unset, .unset] [(.long (w0_3 p1)), (.long w0_2)])) _
    refine XS.ladd X9.here hx rfl (hb hby at_54) rfl ?_
    show Steps p.tables e below (T9.setTop (mkF m 55 #[.val (.long q0), .second, .val (.int p1), .val (.long w0_1), .second, .val (.long w0_2), .second, .val (.long (w0_3 p1)), .second, .val (.long (w0_1 + (w0_3 p1))), .second, .unset, .unset, .unset, .unset, .unset] [(.long (w0_2 + (w0_3 p1)))])) _
    refine XS.lstore X9.here hx rfl (hb hby at_55) rfl (l' := #[.val (.long q0), .second, .val (.int p1), .val (.long w0_1), .second, .val (.long w0_2), .second, .val (.long (w0_3 p1)), .second, .val (.long (w0_1 + (w0_3 p1))), .second, .val (.long (w0_2 + (w0_3 p1))), .second, .unset, .unset, .unset]) rfl ?_
    show Steps p.tables e below (T9.setTop (mkF m 57 #[.val (.long q0), .second, .val (.int p1), .val (.long w0_1), .second, .val (.long w0_2), .second, .val (.long (w0_3 p1)), .second, .val (.long (w0_1 + (w0_3 p1))), .second, .val (.long (w0_2 + (w0_3 p1))), .second, .unset, .unset, .unset] [])) _
    refine XS.lloadN X9.here hx rfl (hb hby at_57) rfl ?_
    show Steps p.tables e below (T9.setTop (mkF m 58 #[.val (.long q0), .second, .val (.int p1), .val (.long w0_1), .second, .val (.long w0_2), .second, .val (.long (w0_3 p1)), .second, .val (.long (w0_1 + (w0_3 p1))), .second, .val (.long (w0_2 + (w0_3 p1))), .second, .unset, .unset, .unset] [(.long q0)])) _
    exact k)
  have K_11 : ∀ t, Steps p.tables e below (T9.setTop (mkF m 58 #[.val (.long q0), .second, .val (.int p1), .val (.long w0_1), .second, .val (.long w0_2), .second, .val (.long (w0_3 p1)), .second, .val (.long (w0_1 + (w0_3 p1))), .second, .val (.long (w0_2 + (w0_3 p1))), .second, .unset, .unset, .unset] [(.long q0)])) t → Steps p.tables e below S0 t := K10
  obtain ⟨_, _, ⟨T12, L12, k12, n12⟩, -, X12, ⟨Lc12, hQ12, l12, y12, z12⟩, st12⟩ := Jvm.LawKit.callS X9 hx (y := (⟨"com/example/acervo/acervo/index/DocumentValue", "isDay", "(J)Z"⟩ : MethodName)) hown (mvT hZ (hw _ (List.mem_of_getElem? (i := 15) rfl))) (mvT hZ (hw _ (List.mem_of_getElem? (i := 16) rfl))) (mvT hZ (hw _ (List.mem_of_getElem? (i := 17) rfl))) (mvT hZ (hw _ (List.mem_of_getElem? (i := 18) rfl))) (by decide) (backOf (W := 0) (rm2 l Z a0 hw [] q0 h0 n0 Z0 ) hZ (hw _ (List.mem_of_getElem? (i := 18) rfl)) (hw _ (List.mem_of_getElem? (i := 17) rfl)) (by decide) (by decide)) (g := (mkF m 58 #[.val (.long q0), .second, .val (.int p1), .val (.long w0_1), .second, .val (.long w0_2), .second, .val (.long (w0_3 p1)), .second, .val (.long (w0_1 + (w0_3 p1))), .second, .val (.long (w0_2 + (w0_3 p1))), .second, .unset, .unset, .unset] [(.long q0)])) rfl (by rw [hml]; rfl) (argsL := [(.long q0)]) (rest := []) (lenOf pd0_1 rfl) rfl (by show 2 * 0 + _ ≤ _; exact Nat.le_of_eq rfl) (hb hby at_58) (fun _ _ => ⟨rfl, e9, (by decide : 0 + 0 ≤ 0), (by decide : 0 + 0 ≤ 0)⟩)
  dsimp only [Pt.U, Pt.locs, Pt.cells, Pt.slots] at X12 l12 y12 z12 st12 hQ12
  subst l12 y12 z12
  obtain ⟨rfl, N12q, e12⟩ := hQ12
  have N12 := Fr.app N9 N12q
  have K12 : ∀ t, Steps p.tables e below (T12.setTop (mkF m 61 #[.val (.long q0), .second, .val (.int p1), .val (.long w0_1), .second, .val (.long w0_2), .second, .val (.long (w0_3 p1)), .second, .val (.long (w0_1 + (w0_3 p1))), .second, .val (.long (w0_2 + (w0_3 p1))), .second, .unset, .unset, .unset] [(.int (w2_r1 q0))])) t → Steps p.tables e below S0 t := fun t k => K_11 t (st12 t k)
  have K13 : ∀ t, Steps p.tables e below (T12.setTop (mkF m 65 #[.val (.long q0), .second, .val (.int p1), .val (.long w0_1), .second, .val (.long w0_2), .second, .val (.long (w0_3 p1)), .second, .val (.long (w0_1 + (w0_3 p1))), .second, .val (.long (w0_2 + (w0_3 p1))), .second, .unset, .unset, .unset] [(.long w0_2), (.long w0_1), (.long q0), (.int (w2_r1 q0))])) t → Steps p.tables e below S0 t := fun t k => K12 t (by
    refine XS.lloadN X12.here hx rfl (hb hby at_61) rfl ?_
    show Steps p.tables e below (T12.setTop (mkF m 62 #[.val (.long q0), .second, .val (.int p1), .val (.long w0_1), .second, .val (.long w0_2), .second, .val (.long (w0_3 p1)), .second, .val (.long (w0_1 + (w0_3 p1))), .second, .val (.long (w0_2 + (w0_3 p1))), .second, .unset, .unset, .unset] [(.long q0), (.int (w2_r1 q0))])) _
    refine XS.lloadN X12.here hx rfl (hb hby at_62) rfl ?_
    show Steps p.tables e below (T12.setTop (mkF m 63 #[.val (.long q0), .second, .val (.int p1), .val (.long w0_1), .second, .val (.long w0_2), .second, .val (.long (w0_3 p1)), .second, .val (.long (w0_1 + (w0_3 p1))), .second, .val (.long (w0_2 + (w0_3 p1))), .second, .unset, .unset, .unset] [(.long w0_1), (.long q0), (.int (w2_r1 q0))])) _
    refine XS.lload X12.here hx rfl (hb hby at_63) rfl ?_
    show Steps p.tables e below (T12.setTop (mkF m 65 #[.val (.long q0), .second, .val (.int p1), .val (.long w0_1), .second, .val (.long w0_2), .second, .val (.long (w0_3 p1)), .second, .val (.long (w0_1 + (w0_3 p1))), .second, .val (.long (w0_2 + (w0_3 p1))), .second, .unset, .unset, .unset] [(.long w0_2), (.long w0_1), (.long q0), (.int (w2_r1 q0))])) _
    exact k)
  have K_14 : ∀ t, Steps p.tables e below (T12.setTop (mkF m 65 #[.val (.long q0), .second, .val (.int p1), .val (.long w0_1), .second, .val (.long w0_2), .second, .val (.long (w0_3 p1)), .second, .val (.long (w0_1 + (w0_3 p1))), .second, .val (.long (w0_2 + (w0_3 p1))), .second, .unset, .unset, .unset] [(.long w0_2), (.long w0_1), (.long q0), (.int (w2_r1 q0))])) t → Steps p.tables e below S0 t := K13
  obtain ⟨_, _, ⟨T15, L15, k15, n15⟩, -, X15, ⟨Lc15, hQ15, l15, y15, z15⟩, st15⟩ := Jvm.LawKit.callS X12 hx (y := (⟨"com/example/acervo/acervo/index/DocumentValueIsDayPinLaw", "ref", "(JJJ)Z"⟩ : MethodName)) hown (mvT hZ (hw _ (List.mem_of_getElem? (i := 21) rfl))) (mvT hZ (hw _ (List.mem_of_getElem? (i := 22) rfl))) (mvT hZ (hw _ (List.mem_of_getElem? (i := 4) rfl))) (mvT hZ (hw _ (List.mem_of_getElem? (i := 23) rfl))) (by decide) (backOf (W := 1) (rm3 l Z a0 hw [] q0 w0_1 w0_2 h0 n0 Z0 ) hZ (hw _ (List.mem_of_getElem? (i := 23) rfl)) (hw _ (List.mem_of_getElem? (i := 4) rfl)) (by decide) (by decide)) (g := (mkF m 65 #[.val (.long q0), .second, .val (.int p1), .val (.long w0_1), .second, .val (.long w0_2), .second, .val (.long (w0_3 p1)), .second, .val (.long (w0_1 + (w0_3 p1))), .second, .val (.long (w0_2 + (w0_3 p1))), .second, .unset, .unset, .unset] [(.long w0_2), (.long w0_1), (.long q0), (.int (w2_r1 q0))])) rfl (by rw [hml]; rfl) (argsL := [(.long q0), (.long w0_1), (.long w0_2)]) (rest := [(.int (w2_r1 q0))]) (lenOf pd0_2 rfl) rfl (by show 2 * 0 + _ ≤ _; exact Nat.le_of_eq rfl) (hb hby at_65) (fun _ _ => ⟨rfl, e12, (by decide : 0 + 0 ≤ 0), (by decide : 0 + 0 ≤ 0)⟩)
  dsimp only [Pt.U, Pt.locs, Pt.cells, Pt.slots] at X15 l15 y15 z15 st15 hQ15
  subst l15 y15 z15
  obtain ⟨rfl, N15q, e15⟩ := hQ15
  have N15 := Fr.app N12 N15q
  have K15 : ∀ t, Steps p.tables e below (T15.setTop (mkF m 68 #[.val (.long q0), .second, .val (.int p1), .val (.long w0_1), .second, .val (.long w0_2), .second, .val (.long (w0_3 p1)), .second, .val (.long (w0_1 + (w0_3 p1))), .second, .val (.long (w0_2 + (w0_3 p1))), .second, .unset, .unset, .unset] [(.int (w3_r1 q0 w0_1 w0_2)), (.int (w2_r1 q0))])) t → Steps p.tables e below S0 t := fun t k => K_14 t (st15 t k)
  obtain ⟨T16, lo16, X16, N16, e16, K16⟩ : ∃ (T' : State) (locs' : List Loc), Stand p l e room_1 s m #[(.long q0), (.int p1)] below meth c T' locs' 0 0 ∧ Fr n0 locs' ∧ T'.heap = h0 ∧ ∀ t, Steps p.tables e below (T'.setTop (mkF m 76 #[.val (.long q0), .second, .val (.int p1), .val (.long w0_1), .second, .val (.long w0_2), .second, .val (.long (w0_3 p1)), .second, .val (.long (w0_1 + (w0_3 p1))), .second, .val (.long (w0_2 + (w0_3 p1))), .second, .unset, .unset, .unset] [(.int (w0_m4 q0))])) t → Steps p.tables e below S0 t := by
    by_cases hc68_0 : (w2_r1 q0) = (w3_r1 q0 w0_1 w0_2)
    · -- yes
      have K17 : ∀ t, Steps p.tables e below (T15.setTop (mkF m 76 #[.val (.long q0), .second, .val (.int p1), .val (.long w0_1), .second, .val (.long w0_2), .second, .val (.long (w0_3 p1)), .second, .val (.long (w0_1 + (w0_3 p1))), .second, .val (.long (w0_2 + (w0_3 p1))), .second, .unset, .unset, .unset] [(.int (1 : Int32))])) t → Steps p.tables e below S0 t := fun t k => K15 t (by
        refine XS.icmpNo X15.here hx rfl (hb hby at_68) rfl (XT.ii_ne_f hc68_0) ?_
        show Steps p.tables e below (T15.setTop (mkF m 71 #[.val (.long q0), .second, .val (.int p1), .val (.long w0_1), .second, .val (.long w0_2), .second, .val (.long (w0_3 p1)), .second, .val (.long (w0_1 + (w0_3 p1))), .second, .val (.long (w0_2 + (w0_3 p1))), .second, .unset, .unset, .unset] [])) _
        refine XS.iconst X15.here hx rfl (hb hby at_71) ?_
        show Steps p.tables e below (T15.setTop (mkF m 72 #[.val (.long q0), .second, .val (.int p1), .val (.long w0_1), .second, .val (.long w0_2), .second, .val (.long (w0_3 p1)), .second, .val (.long (w0_1 + (w0_3 p1))), .second, .val (.long (w0_2 + (w0_3 p1))), .second, .unset, .unset, .unset] [(.int (1 : Int32))])) _
        refine XS.goto X15.here hx rfl (pc0 := 72) (pc' := 76) rfl (hb hby at_72) (by decide) (by decide) ?_
        show Steps p.tables e below (T15.setTop (mkF m 76 #[.val (.long q0), .second, .val (.int p1), .val (.long w0_1), .second, .val (.long w0_2), .second, .val (.long (w0_3 p1)), .second, .val (.long (w0_1 + (w0_3 p1))), .second, .val (.long (w0_2 + (w0_3 p1))), .second, .unset, .unset, .unset] [(.int (1 : Int32))])) _
        exact k)
      have q18 : (w0_m4 q0) = (1 : Int32) := by unfold w0_m4; rw [if_pos hc68_0]
      exact ⟨T15, _, X15, N15, e15, fun t k => K17 t (by rw [q18] at k; exact k)⟩
    · -- no
      have K19 : ∀ t, Steps p.tables e below (T15.setTop (mkF m 76 #[.val (.long q0), .second, .val (.int p1), .val (.long w0_1), .second, .val (.long w0_2), .second, .val (.long (w0_3 p1)), .second, .val (.long (w0_1 + (w0_3 p1))), .second, .val (.long (w0_2 + (w0_3 p1))), .second, .unset, .unset, .unset] [(.int (0 : Int32))])) t → Steps p.tables e below S0 t := fun t k => K15 t (by
        refine XS.icmpYes X15.here hx rfl (pc0 := 68) (pc' := 75) rfl (hb hby at_68) rfl (XT.ii_ne_t hc68_0) (by decide) (by decide) ?_
        show Steps p.tables e below (T15.setTop (mkF m 75 #[.val (.long q0), .second, .val (.int p1), .val (.long w0_1), .second, .val (.long w0_2), .second, .val (.long (w0_3 p1)), .second, .val (.long (w0_1 + (w0_3 p1))), .second, .val (.long (w0_2 + (w0_3 p1))), .second, .unset, .unset, .unset] [])) _
        refine XS.iconst X15.here hx rfl (hb hby at_75) ?_
        show Steps p.tables e below (T15.setTop (mkF m 76 #[.val (.long q0), .second, .val (.int p1), .val (.long w0_1), .second, .val (.long w0_2), .second, .val (.long (w0_3 p1)), .second, .val (.long (w0_1 + (w0_3 p1))), .second, .val (.long (w0_2 + (w0_3 p1))), .second, .unset, .unset, .unset] [(.int (0 : Int32))])) _
        exact k)
      have q20 : (w0_m4 q0) = (0 : Int32) := by unfold w0_m4; rw [if_neg hc68_0]
      exact ⟨T15, _, X15, N15, e15, fun t k => K19 t (by rw [q20] at k; exact k)⟩
  have K21 : ∀ t, Steps p.tables e below (T16.setTop (mkF m 80 #[.val (.long q0), .second, .val (.int p1), .val (.long w0_1), .second, .val (.long w0_2), .second, .val (.long (w0_3 p1)), .second, .val (.long (w0_1 + (w0_3 p1))), .second, .val (.long (w0_2 + (w0_3 p1))), .second, .val (.int (w0_m4 q0)), .unset, .unset] [(.long (w0_1 + (w0_3 p1)))])) t → Steps p.tables e below S0 t := fun t k => K16 t (by
    refine XS.istore X16.here hx rfl (hb hby at_76) rfl (l' := #[.val (.long q0), .second, .val (.int p1), .val (.long w0_1), .second, .val (.long w0_2), .second, .val (.long (w0_3 p1)), .second, .val (.long (w0_1 + (w0_3 p1))), .second, .val (.long (w0_2 + (w0_3 p1))), .second, .val (.int (w0_m4 q0)), .unset, .unset]) rfl ?_
    show Steps p.tables e below (T16.setTop (mkF m 78 #[.val (.long q0), .second, .val (.int p1), .val (.long w0_1), .second, .val (.long w0_2), .second, .val (.long (w0_3 p1)), .second, .val (.long (w0_1 + (w0_3 p1))), .second, .val (.long (w0_2 + (w0_3 p1))), .second, .val (.int (w0_m4 q0)), .unset, .unset] [])) _
    refine XS.lload X16.here hx rfl (hb hby at_78) rfl ?_
    show Steps p.tables e below (T16.setTop (mkF m 80 #[.val (.long q0), .second, .val (.int p1), .val (.long w0_1), .second, .val (.long w0_2), .second, .val (.long (w0_3 p1)), .second, .val (.long (w0_1 + (w0_3 p1))), .second, .val (.long (w0_2 + (w0_3 p1))), .second, .val (.int (w0_m4 q0)), .unset, .unset] [(.long (w0_1 + (w0_3 p1)))])) _
    exact k)
  have K_22 : ∀ t, Steps p.tables e below (T16.setTop (mkF m 80 #[.val (.long q0), .second, .val (.int p1), .val (.long w0_1), .second, .val (.long w0_2), .second, .val (.long (w0_3 p1)), .second, .val (.long (w0_1 + (w0_3 p1))), .second, .val (.long (w0_2 + (w0_3 p1))), .second, .val (.int (w0_m4 q0)), .unset, .unset] [(.long (w0_1 + (w0_3 p1)))])) t → Steps p.tables e below S0 t := K21
  obtain ⟨_, _, ⟨T23, L23, k23, n23⟩, -, X23, ⟨Lc23, hQ23, l23, y23, z23⟩, st23⟩ := Jvm.LawKit.callS X16 hx (y := (⟨"com/example/acervo/acervo/index/DocumentValue", "isDay", "(J)Z"⟩ : MethodName)) hown (mvT hZ (hw _ (List.mem_of_getElem? (i := 15) rfl))) (mvT hZ (hw _ (List.mem_of_getElem? (i := 16) rfl))) (mvT hZ (hw _ (List.mem_of_getElem? (i := 17) rfl))) (mvT hZ (hw _ (List.mem_of_getElem? (i := 18) rfl))) (by decide) (backOf (W := 0) (rm2 l Z a0 hw [] (w0_1 + (w0_3 p1)) h0 n0 Z0 ) hZ (hw _ (List.mem_of_getElem? (i := 18) rfl)) (hw _ (List.mem_of_getElem? (i := 17) rfl)) (by decide) (by decide)) (g := (mkF m 80 #[.val (.long q0), .second, .val (.int p1), .val (.long w0_1), .second, .val (.long w0_2), .second, .val (.long (w0_3 p1)), .second, .val (.long (w0_1 + (w0_3 p1))), .second, .val (.long (w0_2 + (w0_3 p1))), .second, .val (.int (w0_m4 q0)), .unset, .unset] [(.long (w0_1 + (w0_3 p1)))])) rfl (by rw [hml]; rfl) (argsL := [(.long (w0_1 + (w0_3 p1)))]) (rest := []) (lenOf pd0_1 rfl) rfl (by show 2 * 0 + _ ≤ _; exact Nat.le_of_eq rfl) (hb hby at_80) (fun _ _ => ⟨rfl, e16, (by decide : 0 + 0 ≤ 0), (by decide : 0 + 0 ≤ 0)⟩)
  dsimp only [Pt.U, Pt.locs, Pt.cells, Pt.slots] at X23 l23 y23 z23 st23 hQ23
  subst l23 y23 z23
  obtain ⟨rfl, N23q, e23⟩ := hQ23
  have N23 := Fr.app N16 N23q
  have K23 : ∀ t, Steps p.tables e below (T23.setTop (mkF m 83 #[.val (.long q0), .second, .val (.int p1), .val (.long w0_1), .second, .val (.long w0_2), .second, .val (.long (w0_3 p1)), .second, .val (.long (w0_1 + (w0_3 p1))), .second, .val (.long (w0_2 + (w0_3 p1))), .second, .val (.int (w0_m4 q0)), .unset, .unset] [(.int (w2_r1 (w0_1 + (w0_3 p1))))])) t → Steps p.tables e below S0 t := fun t k => K_22 t (st23 t k)
  have K24 : ∀ t, Steps p.tables e below (T23.setTop (mkF m 88 #[.val (.long q0), .second, .val (.int p1), .val (.long w0_1), .second, .val (.long w0_2), .second, .val (.long (w0_3 p1)), .second, .val (.long (w0_1 + (w0_3 p1))), .second, .val (.long (w0_2 + (w0_3 p1))), .second, .val (.int (w0_m4 q0)), .unset, .unset] [(.long w0_2), (.long w0_1), (.long (w0_1 + (w0_3 p1))), (.int (w2_r1 (w0_1 + (w0_3 p1))))])) t → Steps p.tables e below S0 t := fun t k => K23 t (by
    refine XS.lload X23.here hx rfl (hb hby at_83) rfl ?_
    show Steps p.tables e below (T23.setTop (mkF m 85 #[.val (.long q0), .second, .val (.int p1), .val (.long w0_1), .second, .val (.long w0_2), .second, .val (.long (w0_3 p1)), .second, .val (.long (w0_1 + (w0_3 p1))), .second, .val (.long (w0_2 + (w0_3 p1))), .second, .val (.int (w0_m4 q0)), .unset, .unset] [(.long (w0_1 + (w0_3 p1))), (.int (w2_r1 (w0_1 + (w0_3 p1))))])) _
    refine XS.lloadN X23.here hx rfl (hb hby at_85) rfl ?_
    show Steps p.tables e below (T23.setTop (mkF m 86 #[.val (.long q0), .second, .val (.int p1), .val (.long w0_1), .second, .val (.long w0_2), .second, .val (.long (w0_3 p1)), .second, .val (.long (w0_1 + (w0_3 p1))), .second, .val (.long (w0_2 + (w0_3 p1))), .second, .val (.int (w0_m4 q0)), .unset, .unset] [(.long w0_1), (.long (w0_1 + (w0_3 p1))), (.int (w2_r1 (w0_1 + (w0_3 p1))))])) _
    refine XS.lload X23.here hx rfl (hb hby at_86) rfl ?_
    show Steps p.tables e below (T23.setTop (mkF m 88 #[.val (.long q0), .second, .val (.int p1), .val (.long w0_1), .second, .val (.long w0_2), .second, .val (.long (w0_3 p1)), .second, .val (.long (w0_1 + (w0_3 p1))), .second, .val (.long (w0_2 + (w0_3 p1))), .second, .val (.int (w0_m4 q0)), .unset, .unset] [(.long w0_2), (.long w0_1), (.long (w0_1 + (w0_3 p1))), (.int (w2_r1 (w0_1 + (w0_3 p1))))])) _
    exact k)
  have K_25 : ∀ t, Steps p.tables e below (T23.setTop (mkF m 88 #[.val (.long q0), .second, .val (.int p1), .val (.long w0_1), .second, .val (.long w0_2), .second, .val (.long (w0_3 p1)), .second, .val (.long (w0_1 + (w0_3 p1))), .second, .val (.long (w0_2 + (w0_3 p1))), .second, .val (.int (w0_m4 q0)), .unset, .unset] [(.long w0_2), (.long w0_1), (.long (w0_1 + (w0_3 p1))), (.int (w2_r1 (w0_1 + (w0_3 p1))))])) t → Steps p.tables e below S0 t := K24
  obtain ⟨_, _, ⟨T26, L26, k26, n26⟩, -, X26, ⟨Lc26, hQ26, l26, y26, z26⟩, st26⟩ := Jvm.LawKit.callS X23 hx (y := (⟨"com/example/acervo/acervo/index/DocumentValueIsDayPinLaw", "ref", "(JJJ)Z"⟩ : MethodName)) hown (mvT hZ (hw _ (List.mem_of_getElem? (i := 21) rfl))) (mvT hZ (hw _ (List.mem_of_getElem? (i := 22) rfl))) (mvT hZ (hw _ (List.mem_of_getElem? (i := 4) rfl))) (mvT hZ (hw _ (List.mem_of_getElem? (i := 23) rfl))) (by decide) (backOf (W := 1) (rm3 l Z a0 hw [] (w0_1 + (w0_3 p1)) w0_1 w0_2 h0 n0 Z0 ) hZ (hw _ (List.mem_of_getElem? (i := 23) rfl)) (hw _ (List.mem_of_getElem? (i := 4) rfl)) (by decide) (by decide)) (g := (mkF m 88 #[.val (.long q0), .second, .val (.int p1), .val (.long w0_1), .second, .val (.long w0_2), .second, .val (.long (w0_3 p1)), .second, .val (.long (w0_1 + (w0_3 p1))), .second, .val (.long (w0_2 + (w0_3 p1))), .second, .val (.int (w0_m4 q0)), .unset, .unset] [(.long w0_2), (.long w0_1), (.long (w0_1 + (w0_3 p1))), (.int (w2_r1 (w0_1 + (w0_3 p1))))])) rfl (by rw [hml]; rfl) (argsL := [(.long (w0_1 + (w0_3 p1))), (.long w0_1), (.long w0_2)]) (rest := [(.int (w2_r1 (w0_1 + (w0_3 p1))))]) (lenOf pd0_2 rfl) rfl (by show 2 * 0 + _ ≤ _; exact Nat.le_of_eq rfl) (hb hby at_88) (fun _ _ => ⟨rfl, e23, (by decide : 0 + 0 ≤ 0), (by decide : 0 + 0 ≤ 0)⟩)
  dsimp only [Pt.U, Pt.locs, Pt.cells, Pt.slots] at X26 l26 y26 z26 st26 hQ26
  subst l26 y26 z26
  obtain ⟨rfl, N26q, e26⟩ := hQ26
  have N26 := Fr.app N23 N26q
  have K26 : ∀ t, Steps p.tables e below (T26.setTop (mkF m 91 #[.val (.long q0), .second, .val (.int p1), .val (.long w0_1), .second, .val (.long w0_2), .second, .val (.long (w0_3 p1)), .second, .val (.long (w0_1 + (w0_3 p1))), .second, .val (.long (w0_2 + (w0_3 p1))), .second, .val (.int (w0_m4 q0)), .unset, .unset] [(.int (w0_5 p1)), (.int (w2_r1 (w0_1 + (w0_3 p1))))])) t → Steps p.tables e below S0 t := fun t k => K_25 t (st26 t k)
  obtain ⟨T27, lo27, X27, N27, e27, K27⟩ : ∃ (T' : State) (locs' : List Loc), Stand p l e room_1 s m #[(.long q0), (.int p1)] below meth c T' locs' 0 0 ∧ Fr n0 locs' ∧ T'.heap = h0 ∧ ∀ t, Steps p.tables e below (T'.setTop (mkF m 99 #[.val (.long q0), .second, .val (.int p1), .val (.long w0_1), .second, .val (.long w0_2), .second, .val (.long (w0_3 p1)), .second, .val (.long (w0_1 + (w0_3 p1))), .second, .val (.long (w0_2 + (w0_3 p1))), .second, .val (.int (w0_m4 q0)), .unset, .unset] [(.int (w0_m6 p1))])) t → Steps p.tables e below S0 t := by
    by_cases hc91_0 : (w2_r1 (w0_1 + (w0_3 p1))) = (w0_5 p1)
    · -- yes
      have K28 : ∀ t, Steps p.tables e below (T26.setTop (mkF m 99 #[.val (.long q0), .second, .val (.int p1), .val (.long w0_1), .second, .val (.long w0_2), .second, .val (.long (w0_3 p1)), .second, .val (.long (w0_1 + (w0_3 p1))), .second, .val (.long (w0_2 + (w0_3 p1))), .second, .val (.int (w0_m4 q0)), .unset, .unset] [(.int (1 : Int32))])) t → Steps p.tables e below S0 t := fun t k => K26 t (by
        refine XS.icmpNo X26.here hx rfl (hb hby at_91) rfl (XT.ii_ne_f hc91_0) ?_
        show Steps p.tables e below (T26.setTop (mkF m 94 #[.val (.long q0), .second, .val (.int p1), .val (.long w0_1), .second, .val (.long w0_2), .second, .val (.long (w0_3 p1)), .second, .val (.long (w0_1 + (w0_3 p1))), .second, .val (.long (w0_2 + (w0_3 p1))), .second, .val (.int (w0_m4 q0)), .unset, .unset] [])) _
        refine XS.iconst X26.here hx rfl (hb hby at_94) ?_
        show Steps p.tables e below (T26.setTop (mkF m 95 #[.val (.long q0), .second, .val (.int p1), .val (.long w0_1), .second, .val (.long w0_2), .second, .val (.long (w0_3 p1)), .second, .val (.long (w0_1 + (w0_3 p1))), .second, .val (.long (w0_2 + (w0_3 p1))), .second, .val (.int (w0_m4 q0)), .unset, .unset] [(.int (1 : Int32))])) _
        refine XS.goto X26.here hx rfl (pc0 := 95) (pc' := 99) rfl (hb hby at_95) (by decide) (by decide) ?_
        show Steps p.tables e below (T26.setTop (mkF m 99 #[.val (.long q0), .second, .val (.int p1), .val (.long w0_1), .second, .val (.long w0_2), .second, .val (.long (w0_3 p1)), .second, .val (.long (w0_1 + (w0_3 p1))), .second, .val (.long (w0_2 + (w0_3 p1))), .second, .val (.int (w0_m4 q0)), .unset, .unset] [(.int (1 : Int32))])) _
        exact k)
      have q29 : (w0_m6 p1) = (1 : Int32) := by unfold w0_m6; rw [if_pos hc91_0]
      exact ⟨T26, _, X26, N26, e26, fun t k => K28 t (by rw [q29] at k; exact k)⟩
    · -- no
      have K30 : ∀ t, Steps p.tables e below (T26.setTop (mkF m 99 #[.val (.long q0), .second, .val (.int p1), .val (.long w0_1), .second, .val (.long w0_2), .second, .val (.long (w0_3 p1)), .second, .val (.long (w0_1 + (w0_3 p1))), .second, .val (.long (w0_2 + (w0_3 p1))), .second, .val (.int (w0_m4 q0)), .unset, .unset] [(.int (0 : Int32))])) t → Steps p.tables e below S0 t := fun t k => K26 t (by
        refine XS.icmpYes X26.here hx rfl (pc0 := 91) (pc' := 98) rfl (hb hby at_91) rfl (XT.ii_ne_t hc91_0) (by decide) (by decide) ?_
        show Steps p.tables e below (T26.setTop (mkF m 98 #[.val (.long q0), .second, .val (.int p1), .val (.long w0_1), .second, .val (.long w0_2), .second, .val (.long (w0_3 p1)), .second, .val (.long (w0_1 + (w0_3 p1))), .second, .val (.long (w0_2 + (w0_3 p1))), .second, .val (.int (w0_m4 q0)), .unset, .unset] [])) _
        refine XS.iconst X26.here hx rfl (hb hby at_98) ?_
        show Steps p.tables e below (T26.setTop (mkF m 99 #[.val (.long q0), .second, .val (.int p1), .val (.long w0_1), .second, .val (.long w0_2), .second, .val (.long (w0_3 p1)), .second, .val (.long (w0_1 + (w0_3 p1))), .second, .val (.long (w0_2 + (w0_3 p1))), .second, .val (.int (w0_m4 q0)), .unset, .unset] [(.int (0 : Int32))])) _
        exact k)
      have q31 : (w0_m6 p1) = (0 : Int32) := by unfold w0_m6; rw [if_neg hc91_0]
      exact ⟨T26, _, X26, N26, e26, fun t k => K30 t (by rw [q31] at k; exact k)⟩
  have K32 : ∀ t, Steps p.tables e below (T27.setTop (mkF m 103 #[.val (.long q0), .second, .val (.int p1), .val (.long w0_1), .second, .val (.long w0_2), .second, .val (.long (w0_3 p1)), .second, .val (.long (w0_1 + (w0_3 p1))), .second, .val (.long (w0_2 + (w0_3 p1))), .second, .val (.int (w0_m4 q0)), .val (.int (w0_m6 p1)), .unset] [(.long (w0_2 + (w0_3 p1)))])) t → Steps p.tables e below S0 t := fun t k => K27 t (by
    refine XS.istore X27.here hx rfl (hb hby at_99) rfl (l' := #[.val (.long q0), .second, .val (.int p1), .val (.long w0_1), .second, .val (.long w0_2), .second, .val (.long (w0_3 p1)), .second, .val (.long (w0_1 + (w0_3 p1))), .second, .val (.long (w0_2 + (w0_3 p1))), .second, .val (.int (w0_m4 q0)), .val (.int (w0_m6 p1)), .unset]) rfl ?_
    show Steps p.tables e below (T27.setTop (mkF m 101 #[.val (.long q0), .second, .val (.int p1), .val (.long w0_1), .second, .val (.long w0_2), .second, .val (.long (w0_3 p1)), .second, .val (.long (w0_1 + (w0_3 p1))), .second, .val (.long (w0_2 + (w0_3 p1))), .second, .val (.int (w0_m4 q0)), .val (.int (w0_m6 p1)), .unset] [])) _
    refine XS.lload X27.here hx rfl (hb hby at_101) rfl ?_
    show Steps p.tables e below (T27.setTop (mkF m 103 #[.val (.long q0), .second, .val (.int p1), .val (.long w0_1), .second, .val (.long w0_2), .second, .val (.long (w0_3 p1)), .second, .val (.long (w0_1 + (w0_3 p1))), .second, .val (.long (w0_2 + (w0_3 p1))), .second, .val (.int (w0_m4 q0)), .val (.int (w0_m6 p1)), .unset] [(.long (w0_2 + (w0_3 p1)))])) _
    exact k)
  have K_33 : ∀ t, Steps p.tables e below (T27.setTop (mkF m 103 #[.val (.long q0), .second, .val (.int p1), .val (.long w0_1), .second, .val (.long w0_2), .second, .val (.long (w0_3 p1)), .second, .val (.long (w0_1 + (w0_3 p1))), .second, .val (.long (w0_2 + (w0_3 p1))), .second, .val (.int (w0_m4 q0)), .val (.int (w0_m6 p1)), .unset] [(.long (w0_2 + (w0_3 p1)))])) t → Steps p.tables e below S0 t := K32
  obtain ⟨_, _, ⟨T34, L34, k34, n34⟩, -, X34, ⟨Lc34, hQ34, l34, y34, z34⟩, st34⟩ := Jvm.LawKit.callS X27 hx (y := (⟨"com/example/acervo/acervo/index/DocumentValue", "isDay", "(J)Z"⟩ : MethodName)) hown (mvT hZ (hw _ (List.mem_of_getElem? (i := 15) rfl))) (mvT hZ (hw _ (List.mem_of_getElem? (i := 16) rfl))) (mvT hZ (hw _ (List.mem_of_getElem? (i := 17) rfl))) (mvT hZ (hw _ (List.mem_of_getElem? (i := 18) rfl))) (by decide) (backOf (W := 0) (rm2 l Z a0 hw [] (w0_2 + (w0_3 p1)) h0 n0 Z0 ) hZ (hw _ (List.mem_of_getElem? (i := 18) rfl)) (hw _ (List.mem_of_getElem? (i := 17) rfl)) (by decide) (by decide)) (g := (mkF m 103 #[.val (.long q0), .second, .val (.int p1), .val (.long w0_1), .second, .val (.long w0_2), .second, .val (.long (w0_3 p1)), .second, .val (.long (w0_1 + (w0_3 p1))), .second, .val (.long (w0_2 + (w0_3 p1))), .second, .val (.int (w0_m4 q0)), .val (.int (w0_m6 p1)), .unset] [(.long (w0_2 + (w0_3 p1)))])) rfl (by rw [hml]; rfl) (argsL := [(.long (w0_2 + (w0_3 p1)))]) (rest := []) (lenOf pd0_1 rfl) rfl (by show 2 * 0 + _ ≤ _; exact Nat.le_of_eq rfl) (hb hby at_103) (fun _ _ => ⟨rfl, e27, (by decide : 0 + 0 ≤ 0), (by decide : 0 + 0 ≤ 0)⟩)
  dsimp only [Pt.U, Pt.locs, Pt.cells, Pt.slots] at X34 l34 y34 z34 st34 hQ34
  subst l34 y34 z34
  obtain ⟨rfl, N34q, e34⟩ := hQ34
  have N34 := Fr.app N27 N34q
  have K34 : ∀ t, Steps p.tables e below (T34.setTop (mkF m 106 #[.val (.long q0), .second, .val (.int p1), .val (.long w0_1), .second, .val (.long w0_2), .second, .val (.long (w0_3 p1)), .second, .val (.long (w0_1 + (w0_3 p1))), .second, .val (.long (w0_2 + (w0_3 p1))), .second, .val (.int (w0_m4 q0)), .val (.int (w0_m6 p1)), .unset] [(.int (w2_r1 (w0_2 + (w0_3 p1))))])) t → Steps p.tables e below S0 t := fun t k => K_33 t (st34 t k)
  have K35 : ∀ t, Steps p.tables e below (T34.setTop (mkF m 111 #[.val (.long q0), .second, .val (.int p1), .val (.long w0_1), .second, .val (.long w0_2), .second, .val (.long (w0_3 p1)), .second, .val (.long (w0_1 + (w0_3 p1))), .second, .val (.long (w0_2 + (w0_3 p1))), .second, .val (.int (w0_m4 q0)), .val (.int (w0_m6 p1)), .unset] [(.long w0_2), (.long w0_1), (.long (w0_2 + (w0_3 p1))), (.int (w2_r1 (w0_2 + (w0_3 p1))))])) t → Steps p.tables e below S0 t := fun t k => K34 t (by
    refine XS.lload X34.here hx rfl (hb hby at_106) rfl ?_
    show Steps p.tables e below (T34.setTop (mkF m 108 #[.val (.long q0), .second, .val (.int p1), .val (.long w0_1), .second, .val (.long w0_2), .second, .val (.long (w0_3 p1)), .second, .val (.long (w0_1 + (w0_3 p1))), .second, .val (.long (w0_2 + (w0_3 p1))), .second, .val (.int (w0_m4 q0)), .val (.int (w0_m6 p1)), .unset] [(.long (w0_2 + (w0_3 p1))), (.int (w2_r1 (w0_2 + (w0_3 p1))))])) _
    refine XS.lloadN X34.here hx rfl (hb hby at_108) rfl ?_
    show Steps p.tables e below (T34.setTop (mkF m 109 #[.val (.long q0), .second, .val (.int p1), .val (.long w0_1), .second, .val (.long w0_2), .second, .val (.long (w0_3 p1)), .second, .val (.long (w0_1 + (w0_3 p1))), .second, .val (.long (w0_2 + (w0_3 p1))), .second, .val (.int (w0_m4 q0)), .val (.int (w0_m6 p1)), .unset] [(.long w0_1), (.long (w0_2 + (w0_3 p1))), (.int (w2_r1 (w0_2 + (w0_3 p1))))])) _
    refine XS.lload X34.here hx rfl (hb hby at_109) rfl ?_
    show Steps p.tables e below (T34.setTop (mkF m 111 #[.val (.long q0), .second, .val (.int p1), .val (.long w0_1), .second, .val (.long w0_2), .second, .val (.long (w0_3 p1)), .second, .val (.long (w0_1 + (w0_3 p1))), .second, .val (.long (w0_2 + (w0_3 p1))), .second, .val (.int (w0_m4 q0)), .val (.int (w0_m6 p1)), .unset] [(.long w0_2), (.long w0_1), (.long (w0_2 + (w0_3 p1))), (.int (w2_r1 (w0_2 + (w0_3 p1))))])) _
    exact k)
  have K_36 : ∀ t, Steps p.tables e below (T34.setTop (mkF m 111 #[.val (.long q0), .second, .val (.int p1), .val (.long w0_1), .second, .val (.long w0_2), .second, .val (.long (w0_3 p1)), .second, .val (.long (w0_1 + (w0_3 p1))), .second, .val (.long (w0_2 + (w0_3 p1))), .second, .val (.int (w0_m4 q0)), .val (.int (w0_m6 p1)), .unset] [(.long w0_2), (.long w0_1), (.long (w0_2 + (w0_3 p1))), (.int (w2_r1 (w0_2 + (w0_3 p1))))])) t → Steps p.tables e below S0 t := K35
  obtain ⟨_, _, ⟨T37, L37, k37, n37⟩, -, X37, ⟨Lc37, hQ37, l37, y37, z37⟩, st37⟩ := Jvm.LawKit.callS X34 hx (y := (⟨"com/example/acervo/acervo/index/DocumentValueIsDayPinLaw", "ref", "(JJJ)Z"⟩ : MethodName)) hown (mvT hZ (hw _ (List.mem_of_getElem? (i := 21) rfl))) (mvT hZ (hw _ (List.mem_of_getElem? (i := 22) rfl))) (mvT hZ (hw _ (List.mem_of_getElem? (i := 4) rfl))) (mvT hZ (hw _ (List.mem_of_getElem? (i := 23) rfl))) (by decide) (backOf (W := 1) (rm3 l Z a0 hw [] (w0_2 + (w0_3 p1)) w0_1 w0_2 h0 n0 Z0 ) hZ (hw _ (List.mem_of_getElem? (i := 23) rfl)) (hw _ (List.mem_of_getElem? (i := 4) rfl)) (by decide) (by decide)) (g := (mkF m 111 #[.val (.long q0), .second, .val (.int p1), .val (.long w0_1), .second, .val (.long w0_2), .second, .val (.long (w0_3 p1)), .second, .val (.long (w0_1 + (w0_3 p1))), .second, .val (.long (w0_2 + (w0_3 p1))), .second, .val (.int (w0_m4 q0)), .val (.int (w0_m6 p1)), .unset] [(.long w0_2), (.long w0_1), (.long (w0_2 + (w0_3 p1))), (.int (w2_r1 (w0_2 + (w0_3 p1))))])) rfl (by rw [hml]; rfl) (argsL := [(.long (w0_2 + (w0_3 p1))), (.long w0_1), (.long w0_2)]) (rest := [(.int (w2_r1 (w0_2 + (w0_3 p1))))]) (lenOf pd0_2 rfl) rfl (by show 2 * 0 + _ ≤ _; exact Nat.le_of_eq rfl) (hb hby at_111) (fun _ _ => ⟨rfl, e34, (by decide : 0 + 0 ≤ 0), (by decide : 0 + 0 ≤ 0)⟩)
  dsimp only [Pt.U, Pt.locs, Pt.cells, Pt.slots] at X37 l37 y37 z37 st37 hQ37
  subst l37 y37 z37
  obtain ⟨rfl, N37q, e37⟩ := hQ37
  have N37 := Fr.app N34 N37q
  have K37 : ∀ t, Steps p.tables e below (T37.setTop (mkF m 114 #[.val (.long q0), .second, .val (.int p1), .val (.long w0_1), .second, .val (.long w0_2), .second, .val (.long (w0_3 p1)), .second, .val (.long (w0_1 + (w0_3 p1))), .second, .val (.long (w0_2 + (w0_3 p1))), .second, .val (.int (w0_m4 q0)), .val (.int (w0_m6 p1)), .unset] [(.int (w0_7 p1)), (.int (w2_r1 (w0_2 + (w0_3 p1))))])) t → Steps p.tables e below S0 t := fun t k => K_36 t (st37 t k)
  obtain ⟨T38, lo38, X38, N38, e38, K38⟩ : ∃ (T' : State) (locs' : List Loc), Stand p l e room_1 s m #[(.long q0), (.int p1)] below meth c T' locs' 0 0 ∧ Fr n0 locs' ∧ T'.heap = h0 ∧ ∀ t, Steps p.tables e below (T'.setTop (mkF m 122 #[.val (.long q0), .second, .val (.int p1), .val (.long w0_1), .second, .val (.long w0_2), .second, .val (.long (w0_3 p1)), .second, .val (.long (w0_1 + (w0_3 p1))), .second, .val (.long (w0_2 + (w0_3 p1))), .second, .val (.int (w0_m4 q0)), .val (.int (w0_m6 p1)), .unset] [(.int (w0_m8 p1))])) t → Steps p.tables e below S0 t := by
    by_cases hc114_0 : (w2_r1 (w0_2 + (w0_3 p1))) = (w0_7 p1)
    · -- yes
      have K39 : ∀ t, Steps p.tables e below (T37.setTop (mkF m 122 #[.val (.long q0), .second, .val (.int p1), .val (.long w0_1), .second, .val (.long w0_2), .second, .val (.long (w0_3 p1)), .second, .val (.long (w0_1 + (w0_3 p1))), .second, .val (.long (w0_2 + (w0_3 p1))), .second, .val (.int (w0_m4 q0)), .val (.int (w0_m6 p1)), .unset] [(.int (1 : Int32))])) t → Steps p.tables e below S0 t := fun t k => K37 t (by
        refine XS.icmpNo X37.here hx rfl (hb hby at_114) rfl (XT.ii_ne_f hc114_0) ?_
        show Steps p.tables e below (T37.setTop (mkF m 117 #[.val (.long q0), .second, .val (.int p1), .val (.long w0_1), .second, .val (.long w0_2), .second, .val (.long (w0_3 p1)), .second, .val (.long (w0_1 + (w0_3 p1))), .second, .val (.long (w0_2 + (w0_3 p1))), .second, .val (.int (w0_m4 q0)), .val (.int (w0_m6 p1)), .unset] [])) _
        refine XS.iconst X37.here hx rfl (hb hby at_117) ?_
        show Steps p.tables e below (T37.setTop (mkF m 118 #[.val (.long q0), .second, .val (.int p1), .val (.long w0_1), .second, .val (.long w0_2), .second, .val (.long (w0_3 p1)), .second, .val (.long (w0_1 + (w0_3 p1))), .second, .val (.long (w0_2 + (w0_3 p1))), .second, .val (.int (w0_m4 q0)), .val (.int (w0_m6 p1)), .unset] [(.int (1 : Int32))])) _
        refine XS.goto X37.here hx rfl (pc0 := 118) (pc' := 122) rfl (hb hby at_118) (by decide) (by decide) ?_
        show Steps p.tables e below (T37.setTop (mkF m 122 #[.val (.long q0), .second, .val (.int p1), .val (.long w0_1), .second, .val (.long w0_2), .second, .val (.long (w0_3 p1)), .second, .val (.long (w0_1 + (w0_3 p1))), .second, .val (.long (w0_2 + (w0_3 p1))), .second, .val (.int (w0_m4 q0)), .val (.int (w0_m6 p1)), .unset] [(.int (1 : Int32))])) _
        exact k)
      have q40 : (w0_m8 p1) = (1 : Int32) := by unfold w0_m8; rw [if_pos hc114_0]
      exact ⟨T37, _, X37, N37, e37, fun t k => K39 t (by rw [q40] at k; exact k)⟩
    · -- no
      have K41 : ∀ t, Steps p.tables e below (T37.setTop (mkF m 122 #[.val (.long q0), .second, .val (.int p1), .val (.long w0_1), .second, .val (.long w0_2), .second, .val (.long (w0_3 p1)), .second, .val (.long (w0_1 + (w0_3 p1))), .second, .val (.long (w0_2 + (w0_3 p1))), .second, .val (.int (w0_m4 q0)), .val (.int (w0_m6 p1)), .unset] [(.int (0 : Int32))])) t → Steps p.tables e below S0 t := fun t k => K37 t (by
        refine XS.icmpYes X37.here hx rfl (pc0 := 114) (pc' := 121) rfl (hb hby at_114) rfl (XT.ii_ne_t hc114_0) (by decide) (by decide) ?_
        show Steps p.tables e below (T37.setTop (mkF m 121 #[.val (.long q0), .second, .val (.int p1), .val (.long w0_1), .second, .val (.long w0_2), .second, .val (.long (w0_3 p1)), .second, .val (.long (w0_1 + (w0_3 p1))), .second, .val (.long (w0_2 + (w0_3 p1))), .second, .val (.int (w0_m4 q0)), .val (.int (w0_m6 p1)), .unset] [])) _
        refine XS.iconst X37.here hx rfl (hb hby at_121) ?_
        show Steps p.tables e below (T37.setTop (mkF m 122 #[.val (.long q0), .second, .val (.int p1), .val (.long w0_1), .second, .val (.long w0_2), .second, .val (.long (w0_3 p1)), .second, .val (.long (w0_1 + (w0_3 p1))), .second, .val (.long (w0_2 + (w0_3 p1))), .second, .val (.int (w0_m4 q0)), .val (.int (w0_m6 p1)), .unset] [(.int (0 : Int32))])) _
        exact k)
      have q42 : (w0_m8 p1) = (0 : Int32) := by unfold w0_m8; rw [if_neg hc114_0]
      exact ⟨T37, _, X37, N37, e37, fun t k => K41 t (by rw [q42] at k; exact k)⟩
  have K43 : ∀ t, Steps p.tables e below (T38.setTop (mkF m 126 #[.val (.long q0), .second, .val (.int p1), .val (.long w0_1), .second, .val (.long w0_2), .second, .val (.long (w0_3 p1)), .second, .val (.long (w0_1 + (w0_3 p1))), .second, .val (.long (w0_2 + (w0_3 p1))), .second, .val (.int (w0_m4 q0)), .val (.int (w0_m6 p1)), .val (.int (w0_m8 p1))] [(.int (w0_m4 q0))])) t → Steps p.tables e below S0 t := fun t k => K38 t (by
    refine XS.istore X38.here hx rfl (hb hby at_122) rfl (l' := #[.val (.long q0), .second, .val (.int p1), .val (.long w0_1), .second, .val (.long w0_2), .second, .val (.long (w0_3 p1)), .second, .val (.long (w0_1 + (w0_3 p1))), .second, .val (.long (w0_2 + (w0_3 p1))), .second, .val (.int (w0_m4 q0)), .val (.int (w0_m6 p1)), .val (.int (w0_m8 p1))]) rfl ?_
    show Steps p.tables e below (T38.setTop (mkF m 124 #[.val (.long q0), .second, .val (.int p1), .val (.long w0_1), .second, .val (.long w0_2), .second, .val (.long (w0_3 p1)), .second, .val (.long (w0_1 + (w0_3 p1))), .second, .val (.long (w0_2 + (w0_3 p1))), .second, .val (.int (w0_m4 q0)), .val (.int (w0_m6 p1)), .val (.int (w0_m8 p1))] [])) _
    refine XS.iload X38.here hx rfl (hb hby at_124) rfl ?_
    show Steps p.tables e below (T38.setTop (mkF m 126 #[.val (.long q0), .second, .val (.int p1), .val (.long w0_1), .second, .val (.long w0_2), .second, .val (.long (w0_3 p1)), .second, .val (.long (w0_1 + (w0_3 p1))), .second, .val (.long (w0_2 + (w0_3 p1))), .second, .val (.int (w0_m4 q0)), .val (.int (w0_m6 p1)), .val (.int (w0_m8 p1))] [(.int (w0_m4 q0))])) _
    exact k)
  by_cases hc126_0 : (w0_m4 q0) = (0 : Int32)
  · -- yes
    have K44 : ∀ t, Steps p.tables e below (T38.setTop (mkF m 144 #[.val (.long q0), .second, .val (.int p1), .val (.long w0_1), .second, .val (.long w0_2), .second, .val (.long (w0_3 p1)), .second, .val (.long (w0_1 + (w0_3 p1))), .second, .val (.long (w0_2 + (w0_3 p1))), .second, .val (.int (w0_m4 q0)), .val (.int (w0_m6 p1)), .val (.int (w0_m8 p1))] [(.int (0 : Int32))])) t → Steps p.tables e below S0 t := fun t k => K43 t (by
      refine XS.ifYes X38.here hx rfl (pc0 := 126) (pc' := 143) rfl (hb hby at_126) rfl (XT.i0_eq_t hc126_0) (by decide) (by decide) ?_
      show Steps p.tables e below (T38.setTop (mkF m 143 #[.val (.long q0), .second, .val (.int p1), .val (.long w0_1), .second, .val (.long w0_2), .second, .val (.long (w0_3 p1)), .second, .val (.long (w0_1 + (w0_3 p1))), .second, .val (.long (w0_2 + (w0_3 p1))), .second, .val (.int (w0_m4 q0)), .val (.int (w0_m6 p1)), .val (.int (w0_m8 p1))] [])) _
      refine XS.iconst X38.here hx rfl (hb hby at_143) ?_
      show Steps p.tables e below (T38.setTop (mkF m 144 #[.val (.long q0), .second, .val (.int p1), .val (.long w0_1), .second, .val (.long w0_2), .second, .val (.long (w0_3 p1)), .second, .val (.long (w0_1 + (w0_3 p1))), .second, .val (.long (w0_2 + (w0_3 p1))), .second, .val (.int (w0_m4 q0)), .val (.int (w0_m6 p1)), .val (.int (w0_m8 p1))] [(.int (0 : Int32))])) _
      exact k)
    obtain ⟨fs, hr, hrun, hended, hW, hsame⟩ := X38.leave (v := some (.int (0 : Int32))) (fun h => by rw [Bd.returns] at h; cases h)
    refine ⟨_, _, ?_, hrun, hended, _, _, rfl, ?_, ⟨_, rfl⟩, hW, hsame.mono (by decide) (by decide)⟩
    · rw [← hS0]; exact K44 _ (retN X38 hx (t := .boolean) Bd.returns (by simp) (hb hby at_144) hr)
    · show Q0 Z q0 p1 h0 n0 _ T38.heap _
      rw [e38]
      have qr : (0 : Int32) = (w0_r9 q0 p1) := by unfold w0_r9; rw [if_pos hc126_0]
      exact ⟨congrArg (fun z => some (Value.int z)) qr, N38⟩
  · -- no
    have K45 : ∀ t, Steps p.tables e below (T38.setTop (mkF m 131 #[.val (.long q0), .second, .val (.int p1), .val (.long w0_1), .second, .val (.long w0_2), .second, .val (.long (w0_3 p1)), .second, .val (.long (w0_1 + (w0_3 p1))), .second, .val (.long (w0_2 + (w0_3 p1))), .second, .val (.int (w0_m4 q0)), .val (.int (w0_m6 p1)), .val (.int (w0_m8 p1))] [(.int (w0_m6 p1))])) t → Steps p.tables e below S0 t := fun t k => K43 t (by
      refine XS.ifNo X38.here hx rfl (hb hby at_126) rfl (XT.i0_eq_f hc126_0) ?_
      show Steps p.tables e below (T38.setTop (mkF m 129 #[.val (.long q0), .second, .val (.int p1), .val (.long w0_1), .second, .val (.long w0_2), .second, .val (.long (w0_3 p1)), .second, .val (.long (w0_1 + (w0_3 p1))), .second, .val (.long (w0_2 + (w0_3 p1))), .second, .val (.int (w0_m4 q0)), .val (.int (w0_m6 p1)), .val (.int (w0_m8 p1))] [])) _
      refine XS.iload X38.here hx rfl (hb hby at_129) rfl ?_
      show Steps p.tables e below (T38.setTop (mkF m 131 #[.val (.long q0), .second, .val (.int p1), .val (.long w0_1), .second, .val (.long w0_2), .second, .val (.long (w0_3 p1)), .second, .val (.long (w0_1 + (w0_3 p1))), .second, .val (.long (w0_2 + (w0_3 p1))), .second, .val (.int (w0_m4 q0)), .val (.int (w0_m6 p1)), .val (.int (w0_m8 p1))] [(.int (w0_m6 p1))])) _
      exact k)
    by_cases hc131_1 : (w0_m6 p1) = (0 : Int32)
    · -- yes
      have K46 : ∀ t, Steps p.tables e below (T38.setTop (mkF m 144 #[.val (.long q0), .second, .val (.int p1), .val (.long w0_1), .second, .val (.long w0_2), .second, .val (.long (w0_3 p1)), .second, .val (.long (w0_1 + (w0_3 p1))), .second, .val (.long (w0_2 + (w0_3 p1))), .second, .val (.int (w0_m4 q0)), .val (.int (w0_m6 p1)), .val (.int (w0_m8 p1))] [(.int (0 : Int32))])) t → Steps p.tables e below S0 t := fun t k => K45 t (by
        refine XS.ifYes X38.here hx rfl (pc0 := 131) (pc' := 143) rfl (hb hby at_131) rfl (XT.i0_eq_t hc131_1) (by decide) (by decide) ?_
        show Steps p.tables e below (T38.setTop (mkF m 143 #[.val (.long q0), .second, .val (.int p1), .val (.long w0_1), .second, .val (.long w0_2), .second, .val (.long (w0_3 p1)), .second, .val (.long (w0_1 + (w0_3 p1))), .second, .val (.long (w0_2 + (w0_3 p1))), .second, .val (.int (w0_m4 q0)), .val (.int (w0_m6 p1)), .val (.int (w0_m8 p1))] [])) _
        refine XS.iconst X38.here hx rfl (hb hby at_143) ?_
        show Steps p.tables e below (T38.setTop (mkF m 144 #[.val (.long q0), .second, .val (.int p1), .val (.long w0_1), .second, .val (.long w0_2), .second, .val (.long (w0_3 p1)), .second, .val (.long (w0_1 + (w0_3 p1))), .second, .val (.long (w0_2 + (w0_3 p1))), .second, .val (.int (w0_m4 q0)), .val (.int (w0_m6 p1)), .val (.int (w0_m8 p1))] [(.int (0 : Int32))])) _
        exact k)
      obtain ⟨fs, hr, hrun, hended, hW, hsame⟩ := X38.leave (v := some (.int (0 : Int32))) (fun h => by rw [Bd.returns] at h; cases h)
      refine ⟨_, _, ?_, hrun, hended, _, _, rfl, ?_, ⟨_, rfl⟩, hW, hsame.mono (by decide) (by decide)⟩
      · rw [← hS0]; exact K46 _ (retN X38 hx (t := .boolean) Bd.returns (by simp) (hb hby at_144) hr)
      · show Q0 Z q0 p1 h0 n0 _ T38.heap _
        rw [e38]
        have qr : (0 : Int32) = (w0_r9 q0 p1) := by unfold w0_r9; rw [if_neg hc126_0, if_pos hc131_1]
        exact ⟨congrArg (fun z => some (Value.int z)) qr, N38⟩
    · -- no
      have K47 : ∀ t, Steps p.tables e below (T38.setTop (mkF m 136 #[.val (.long q0), .second, .val (.int p1), .val (.long w0_1), .second, .val (.long w0_2), .second, .val (.long (w0_3 p1)), .second, .val (.long (w0_1 + (w0_3 p1))), .second, .val (.long (w0_2 + (w0_3 p1))), .second, .val (.int (w0_m4 q0)), .val (.int (w0_m6 p1)), .val (.int (w0_m8 p1))] [(.int (w0_m8 p1))])) t → Steps p.tables e below S0 t := fun t k => K45 t (by
        refine XS.ifNo X38.here hx rfl (hb hby at_131) rfl (XT.i0_eq_f hc131_1) ?_
        show Steps p.tables e below (T38.setTop (mkF m 134 #[.val (.long q0), .second, .val (.int p1), .val (.long w0_1), .second, .val (.long w0_2), .second, .val (.long (w0_3 p1)), .second, .val (.long (w0_1 + (w0_3 p1))), .second, .val (.long (w0_2 + (w0_3 p1))), .second, .val (.int (w0_m4 q0)), .val (.int (w0_m6 p1)), .val (.int (w0_m8 p1))] [])) _
        refine XS.iload X38.here hx rfl (hb hby at_134) rfl ?_
        show Steps p.tables e below (T38.setTop (mkF m 136 #[.val (.long q0), .second, .val (.int p1), .val (.long w0_1), .second, .val (.long w0_2), .second, .val (.long (w0_3 p1)), .second, .val (.long (w0_1 + (w0_3 p1))), .second, .val (.long (w0_2 + (w0_3 p1))), .second, .val (.int (w0_m4 q0)), .val (.int (w0_m6 p1)), .val (.int (w0_m8 p1))] [(.int (w0_m8 p1))])) _
        exact k)
      by_cases hc136_2 : (w0_m8 p1) = (0 : Int32)
      · -- yes
        have K48 : ∀ t, Steps p.tables e below (T38.setTop (mkF m 144 #[.val (.long q0), .second, .val (.int p1), .val (.long w0_1), .second, .val (.long w0_2), .second, .val (.long (w0_3 p1)), .second, .val (.long (w0_1 + (w0_3 p1))), .second, .val (.long (w0_2 + (w0_3 p1))), .second, .val (.int (w0_m4 q0)), .val (.int (w0_m6 p1)), .val (.int (w0_m8 p1))] [(.int (0 : Int32))])) t → Steps p.tables e below S0 t := fun t k => K47 t (by
          refine XS.ifYes X38.here hx rfl (pc0 := 136) (pc' := 143) rfl (hb hby at_136) rfl (XT.i0_eq_t hc136_2) (by decide) (by decide) ?_
          show Steps p.tables e below (T38.setTop (mkF m 143 #[.val (.long q0), .second, .val (.int p1), .val (.long w0_1), .second, .val (.long w0_2), .second, .val (.long (w0_3 p1)), .second, .val (.long (w0_1 + (w0_3 p1))), .second, .val (.long (w0_2 + (w0_3 p1))), .second, .val (.int (w0_m4 q0)), .val (.int (w0_m6 p1)), .val (.int (w0_m8 p1))] [])) _
          refine XS.iconst X38.here hx rfl (hb hby at_143) ?_
          show Steps p.tables e below (T38.setTop (mkF m 144 #[.val (.long q0), .second, .val (.int p1), .val (.long w0_1), .second, .val (.long w0_2), .second, .val (.long (w0_3 p1)), .second, .val (.long (w0_1 + (w0_3 p1))), .second, .val (.long (w0_2 + (w0_3 p1))), .second, .val (.int (w0_m4 q0)), .val (.int (w0_m6 p1)), .val (.int (w0_m8 p1))] [(.int (0 : Int32))])) _
          exact k)
        obtain ⟨fs, hr, hrun, hended, hW, hsame⟩ := X38.leave (v := some (.int (0 : Int32))) (fun h => by rw [Bd.returns] at h; cases h)
        refine ⟨_, _, ?_, hrun, hended, _, _, rfl, ?_, ⟨_, rfl⟩, hW, hsame.mono (by decide) (by decide)⟩
        · rw [← hS0]; exact K48 _ (retN X38 hx (t := .boolean) Bd.returns (by simp) (hb hby at_144) hr)
        · show Q0 Z q0 p1 h0 n0 _ T38.heap _
          rw [e38]
          have qr : (0 : Int32) = (w0_r9 q0 p1) := by unfold w0_r9; rw [if_neg hc126_0, if_neg hc131_1, if_pos hc136_2]
          exact ⟨congrArg (fun z => some (Value.int z)) qr, N38⟩
      · -- no
        have K49 : ∀ t, Steps p.tables e below (T38.setTop (mkF m 144 #[.val (.long q0), .second, .val (.int p1), .val (.long w0_1), .second, .val (.long w0_2), .second, .val (.long (w0_3 p1)), .second, .val (.long (w0_1 + (w0_3 p1))), .second, .val (.long (w0_2 + (w0_3 p1))), .second, .val (.int (w0_m4 q0)), .val (.int (w0_m6 p1)), .val (.int (w0_m8 p1))] [(.int (1 : Int32))])) t → Steps p.tables e below S0 t := fun t k => K47 t (by
          refine XS.ifNo X38.here hx rfl (hb hby at_136) rfl (XT.i0_eq_f hc136_2) ?_
          show Steps p.tables e below (T38.setTop (mkF m 139 #[.val (.long q0), .second, .val (.int p1), .val (.long w0_1), .second, .val (.long w0_2), .second, .val (.long (w0_3 p1)), .second, .val (.long (w0_1 + (w0_3 p1))), .second, .val (.long (w0_2 + (w0_3 p1))), .second, .val (.int (w0_m4 q0)), .val (.int (w0_m6 p1)), .val (.int (w0_m8 p1))] [])) _
          refine XS.iconst X38.here hx rfl (hb hby at_139) ?_
          show Steps p.tables e below (T38.setTop (mkF m 140 #[.val (.long q0), .second, .val (.int p1), .val (.long w0_1), .second, .val (.long w0_2), .second, .val (.long (w0_3 p1)), .second, .val (.long (w0_1 + (w0_3 p1))), .second, .val (.long (w0_2 + (w0_3 p1))), .second, .val (.int (w0_m4 q0)), .val (.int (w0_m6 p1)), .val (.int (w0_m8 p1))] [(.int (1 : Int32))])) _
          refine XS.goto X38.here hx rfl (pc0 := 140) (pc' := 144) rfl (hb hby at_140) (by decide) (by decide) ?_
          show Steps p.tables e below (T38.setTop (mkF m 144 #[.val (.long q0), .second, .val (.int p1), .val (.long w0_1), .second, .val (.long w0_2), .second, .val (.long (w0_3 p1)), .second, .val (.long (w0_1 + (w0_3 p1))), .second, .val (.long (w0_2 + (w0_3 p1))), .second, .val (.int (w0_m4 q0)), .val (.int (w0_m6 p1)), .val (.int (w0_m8 p1))] [(.int (1 : Int32))])) _
          exact k)
        obtain ⟨fs, hr, hrun, hended, hW, hsame⟩ := X38.leave (v := some (.int (1 : Int32))) (fun h => by rw [Bd.returns] at h; cases h)
        refine ⟨_, _, ?_, hrun, hended, _, _, rfl, ?_, ⟨_, rfl⟩, hW, hsame.mono (by decide) (by decide)⟩
        · rw [← hS0]; exact K49 _ (retN X38 hx (t := .boolean) Bd.returns (by simp) (hb hby at_144) hr)
        · show Q0 Z q0 p1 h0 n0 _ T38.heap _
          rw [e38]
          have qr : (1 : Int32) = (w0_r9 q0 p1) := by unfold w0_r9; rw [if_neg hc126_0, if_neg hc131_1, if_neg hc136_2]
          exact ⟨congrArg (fun z => some (Value.int z)) qr, N38⟩
set_option maxRecDepth 65536 in
set_option maxHeartbeats 40000000 in
theorem comes_1 {Post : Tables → Env → Array Value → State → Outcome → State → Prop} (hpost : ∀ tb e args s v u, (limb_1_1.after args s (.returned v) u = true ∧ limb_1_2.after args s (.returned v) u = true ∧ True) → FrameEnd s (.returned v) u (Jvm.fieldLocs frame_1_writes args s ++ Jvm.arrayLocs frame_1_arrays args s ++ Jvm.staticLocs frame_1_statics s) 0 0 → Post tb e args s (.returned v) u) :
    ArmFor flags0 classFile x code maxLocals ret World_1 tables_1 room_1 Calls_1 rest_1 Pre_1 Post := by
  intro l hfl _ _ p e ha hc hk s m args below hf hA hF happ hP
  obtain ⟨hcalls, hrest, hpre⟩ := hP
  obtain ⟨-, -, -, hnamed, -, -, -, hat⟩ := (Spec.applies_iff hf).mp happ
  obtain ⟨hg, hn⟩ := and_e (Cond.before_iff.mp (show (Jvm.Cond.and given_1 narrow_1).before args s = true from hpre))
  obtain ⟨hcount, hv0⟩ := and_e hg
  obtain ⟨hi0, hv1⟩ := and_e hv0
  have hi1 := hv1
  obtain ⟨w0, w1, rfl⟩ : ∃ w0 w1 : Value, args = #[w0, w1] := by
    have hs : args.size = 2 := by simpa [Cond.value, given_1] using hcount
    obtain ⟨L⟩ := args
    match L, hs with
    | [w0, w1], _ => exact ⟨w0, w1, rfl⟩
  have hw := fun d (hd : d ∈ tables_1) => atoms_spec (ws := Jvm.Cond.code x code maxLocals ret :: tables_1) hat d (List.mem_cons_of_mem _ hd)
  have hfit : Fit s := fun {y c} hc i hi => by
    obtain ⟨ha, rfl⟩ := Array.getElem?_eq_some_iff.mp hc
    have q := List.all_eq_true.mp ((Array.all_eq_true_iff_forall_mem.mp hF) _ (Array.getElem_mem ha)) i (List.mem_range.mpr hi)
    simpa [Array.getElem?_eq_getElem hi] using q
  obtain ⟨i0, ei0⟩ := isL_v hi0
  obtain rfl : w0 = (.long i0) := Option.some.inj ei0
  obtain ⟨i1, ei1⟩ := is_v hi1
  obtain rfl : w1 = (.int i1) := Option.some.inj ei1
  obtain ⟨n, o, h1, h2, h3, _, L, rfl, ⟨rfl, N⟩, hq⟩ := rm0 l s _ hw tables_1 i0 i1  s.heap s.heap.size (Nat.le_refl _)  p e ha hc hk s m _ below hf ((Spec.applies_iff_loose hf).mp happ).1 ⟨rfl, State.Warmed39.refl s, rfl⟩ trivial
  refine ⟨n, _, h1, h2, h3, hpost _ _ _ _ _ _ ⟨Cond.after_iff.mpr rfl, Cond.after_iff.mpr (eq_i res_at (Term.int_eval (1)) (congrArg Value.int (plain_law i0 i1))), trivial⟩ ⟨hq.1, hq.2.1, (hq.2.2.sift fun y hy => Or.inr (N y hy)).mono (by decide) (by decide)⟩⟩
theorem main_1_1 : Claimed_1_1 := comes_1 fun _ _ _ _ _ _ h hF => ⟨h.1, hF⟩
theorem main_1_2 : Claimed_1_2 := comes_1 fun _ _ _ _ _ _ h hF => ⟨h.2.1, hF⟩
end Jvm.Pilot.@@N@@
namespace Jvm.Pilot.@@N@@
open Jvm Jvm.ClassFile Sem Op Lib Jvm.Free Jvm.Stand Jvm.Pilot.@@N@@.Jvm.D
/-! MADE BY PROGRAM (witnessworld.py) out of the Statement's table words and the real class files: 11 classes; the members and pool entries that the words name. The judged class is class 1, her method 3. -/
namespace start1
open Jvm.ClassFile
def u (s : String) : CpInfo := .utf8 (stringToUtf16 s)
/-- a pool by its gaps: so many unusable entries, then the entry; so many at the end -/
def gap : Nat → List CpInfo → List CpInfo
  | 0, r => r
  | n + 1, r => .unusable :: gap n r
def poolList (es : List (Nat × CpInfo)) (last : Nat) : List CpInfo := es.foldr (fun e r => gap e.1 (e.2 :: r)) (gap last [])
def pool (es : List (Nat × CpInfo)) (last : Nat) : Array CpInfo := ⟨poolList es last⟩
def fileOf (pool : Array CpInfo) (this : Nat) (attrs : Array Attribute := #[]) (ms : Array MethodInfo := #[]) (fl : Nat := 33) (sup : Nat := 0) (ifs : Array Nat := #[]) (fds : Array FieldInfo := #[]) : ClassFile where
  minorVersion := 0
  majorVersion := 65
  constantPool := pool
  accessFlags := fl
  thisClass := this
  superClass := sup
  interfaces := ifs
  fields := fds
  methods := ms
  attributes := attrs
def plain (name : String) (sup : Option ClassId) : Class where
  name := name
  kind := .ordinary
  loader := none
  accessFlags := 33
  super := sup
  interfaces := #[]
  cf := none
  fields := #[]
  methods := #[]
  instanceTypes := #[]
  staticTypes := #[]
  resolved := #[]
  callSites := []
  init := .initialized
  statics := none
  mirror := none

def pool0 : Array CpInfo := pool [(5, u "<init>"), (0, u "()V"), (1, .class_ 10), (1, u "java/lang/Object")] 113

def k0m0 : Method := { name := "<init>", desc := "()V", sig := { parameters := [], returnType := none }, accessFlags := 1, code := none }
/-- java/lang/Object -/
def k0 : Class := { plain "java/lang/Object" none with
  accessFlags := 33
  interfaces := #[]
  cf := some (fileOf pool0 8 #[] #[{ accessFlags := 1, nameIndex := 5, descriptorIndex := 6, attributes := #[] }] 33 0 #[] #[])
  fields := #[]
  methods := #[k0m0]
  instanceTypes := #[]
  staticTypes := #[]
  resolved := Array.replicate 124 none
  statics := none }

def pool1 : Array CpInfo := pool [(2, .class_ 4), (1, u "java/lang/Object"), (0, u "<init>"), (0, u "()V"), (0, .long 3), (1, .long 4), (1, .long 99), (1, .long 100), (1, .long 399), (1, .long 400), (1, .long 719050), (1, .long 1970), (1, .methodref 24 25), (0, .class_ 26), (0, .nameAndType 27 28), (0, u "com/example/acervo/acervo/index/DocumentValueIsDayPinLaw"), (0, u "leapYearsBefore"), (0, u "(J)J"), (0, .long 2930950), (1, .long 10000), (1, .integer 2147483647), (0, .methodref 35 36), (0, .class_ 37), (0, .nameAndType 38 39), (0, u "com/example/acervo/acervo/index/DocumentValue"), (0, u "isDay"), (0, u "(J)Z"), (0, .methodref 24 41), (0, .nameAndType 42 43), (0, u "ref"), (0, u "(JJJ)Z"), (3, u "law"), (0, u "(JI)Z")] 2

def k1m0 : Method := { name := "<init>", desc := "()V", sig := { parameters := [], returnType := none }, accessFlags := 2, code := none }
def k1c1 : Code := { maxStack := 6, maxLocals := 2, code := method_2_code, exceptionTable := #[], attributes := #[] }
def k1m1 : Method := { name := "leapYearsBefore", desc := "(J)J", sig := { parameters := [.long], returnType := some .long }, accessFlags := 10, code := some k1c1 }
def k1c2 : Code := { maxStack := 4, maxLocals := 6, code := method_3_code, exceptionTable := #[], attributes := #[] }
def k1m2 : Method := { name := "ref", desc := "(JJJ)Z", sig := { parameters := [.long, .long, .long], returnType := some .boolean }, accessFlags := 10, code := some k1c2 }
def k1c3 : Code := { maxStack := 7, maxLocals := 16, code := code, exceptionTable := #[], attributes := #[] }
def k1m3 : Method := { name := "law", desc := "(JI)Z", sig := { parameters := [.long, .int], returnType := some .boolean }, accessFlags := 9, code := some k1c3 }
/-- com/example/acervo/acervo/index/DocumentValueIsDayPinLaw -/
def k1 : Class := { plain "com/example/acervo/acervo/index/DocumentValueIsDayPinLaw" (some 0) with
  accessFlags := 49
  interfaces := #[]
  cf := some (fileOf pool1 24 #[] #[{ accessFlags := 2, nameIndex := 5, descriptorIndex := 6, attributes := #[] }, { accessFlags := 10, nameIndex := 27, descriptorIndex := 28, attributes := #[] }, { accessFlags := 10, nameIndex := 42, descriptorIndex := 43, attributes := #[] }, { accessFlags := 9, nameIndex := 47, descriptorIndex := 48, attributes := #[] }] 49 2 #[] #[])
  fields := #[]
  methods := #[k1m0, k1m1, k1m2, k1m3]
  instanceTypes := #[]
  staticTypes := #[]
  resolved := Array.replicate 51 none
  statics := none }

def pool2 : Array CpInfo := pool [(2, .class_ 4), (1, u "java/lang/Object"), (0, u "<init>"), (0, u "()V"), (0, .class_ 8), (0, u "java/lang/Record")] 13

def k2m0 : Method := { name := "<init>", desc := "()V", sig := { parameters := [], returnType := none }, accessFlags := 4, code := none }
/-- java/lang/Record -/
def k2 : Class := { plain "java/lang/Record" (some 0) with
  accessFlags := 1057
  interfaces := #[]
  cf := some (fileOf pool2 7 #[] #[{ accessFlags := 4, nameIndex := 5, descriptorIndex := 6, attributes := #[] }] 1057 2 #[] #[])
  fields := #[]
  methods := #[k2m0]
  instanceTypes := #[]
  staticTypes := #[]
  resolved := Array.replicate 22 none
  statics := none }

def pool3 : Array CpInfo := pool [(1, .class_ 2), (0, u "java/lang/Comparable"), (0, .class_ 4), (0, u "java/lang/Object")] 7

/-- java/lang/Comparable -/
def k3 : Class := { plain "java/lang/Comparable" (some 0) with
  accessFlags := 1537
  interfaces := #[]
  cf := some (fileOf pool3 1 #[] #[] 1537 3 #[] #[])
  fields := #[]
  methods := #[]
  instanceTypes := #[]
  staticTypes := #[]
  resolved := Array.replicate 12 none
  statics := none }

def pool4 : Array CpInfo := pool [(2, .class_ 4), (1, u "java/lang/Record"), (5, u "kind"), (4, .class_ 17), (1, u "com/example/acervo/acervo/index/DocumentValue$Kind"), (1, u "Lcom/example/acervo/acervo/index/DocumentValue$Kind;"), (1, .class_ 23), (1, u "com/example/acervo/acervo/index/DocumentValue"), (0, u "isDay"), (0, u "(J)Z"), (11, u "number"), (0, u "J"), (0, .long 18446744073708832088), (1, .long 2932896), (111, u "MONTH_DAYS"), (0, u "[I"), (6, .class_ 162), (0, u "java/lang/Comparable"), (0, u "FIRST_DAY"), (1, u "LAST_DAY"), (0, u "DAYS_OF_400_YEARS"), (0, u "DATE_LENGTH"), (0, u "I"), (1, u "TAKES"), (0, u "Ljava/lang/String;")] 35

def k4c0 : Code := { maxStack := 4, maxLocals := 2, code := prog_82_method_2_code, exceptionTable := #[], attributes := #[] }
def k4m0 : Method := { name := "isDay", desc := "(J)Z", sig := { parameters := [.long], returnType := some .boolean }, accessFlags := 8, code := some k4c0 }
/-- com/example/acervo/acervo/index/DocumentValue -/
def k4 : Class := { plain "com/example/acervo/acervo/index/DocumentValue" (some 2) with
  accessFlags := 49
  interfaces := #[3]
  cf := some (fileOf pool4 21 #[.nestMembers #[15]] #[{ accessFlags := 8, nameIndex := 24, descriptorIndex := 25, attributes := #[] }] 49 2 #[161] #[{ accessFlags := 18, nameIndex := 10, descriptorIndex := 19, attributes := #[] }, { accessFlags := 18, nameIndex := 37, descriptorIndex := 38, attributes := #[] }, { accessFlags := 26, nameIndex := 163, descriptorIndex := 38, attributes := #[] }, { accessFlags := 26, nameIndex := 165, descriptorIndex := 38, attributes := #[] }, { accessFlags := 26, nameIndex := 153, descriptorIndex := 154, attributes := #[] }, { accessFlags := 26, nameIndex := 166, descriptorIndex := 38, attributes := #[] }, { accessFlags := 26, nameIndex := 167, descriptorIndex := 168, attributes := #[] }, { accessFlags := 26, nameIndex := 170, descriptorIndex := 171, attributes := #[] }])
  fields := #[{ name := "kind", type := (.object "com/example/acervo/acervo/index/DocumentValue$Kind"), accessFlags := 18, slot := 0, constantValue := 0 }, { name := "number", type := .long, accessFlags := 18, slot := 1, constantValue := 0 }, { name := "FIRST_DAY", type := .long, accessFlags := 26, slot := 0, constantValue := 0 }, { name := "LAST_DAY", type := .long, accessFlags := 26, slot := 1, constantValue := 0 }, { name := "MONTH_DAYS", type := (.array .int), accessFlags := 26, slot := 2, constantValue := 0 }, { name := "DAYS_OF_400_YEARS", type := .long, accessFlags := 26, slot := 3, constantValue := 0 }, { name := "DATE_LENGTH", type := .int, accessFlags := 26, slot := 4, constantValue := 0 }, { name := "TAKES", type := (.object "java/lang/String"), accessFlags := 26, slot := 5, constantValue := 0 }]
  methods := #[k4m0]
  instanceTypes := #[(.object "com/example/acervo/acervo/index/DocumentValue$Kind"), .long]
  staticTypes := #[.long, .long, (.array .int), .long, .int, (.object "java/lang/String")]
  resolved := Array.replicate 207 none
  statics := none }

def pool5 : Array CpInfo := pool [(1, u "java/lang/Cloneable"), (0, .class_ 1), (0, u "java/lang/Object"), (0, .class_ 3)] 3

/-- java/lang/Cloneable -/
def k5 : Class := { plain "java/lang/Cloneable" (some 0) with
  accessFlags := 1537
  interfaces := #[]
  cf := some (fileOf pool5 2 #[] #[] 1537 4 #[] #[])
  fields := #[]
  methods := #[]
  instanceTypes := #[]
  staticTypes := #[]
  resolved := Array.replicate 8 none
  statics := none }

def pool6 : Array CpInfo := pool [(1, u "java/io/Serializable"), (0, .class_ 1), (0, u "java/lang/Object"), (0, .class_ 3)] 3

/-- java/io/Serializable -/
def k6 : Class := { plain "java/io/Serializable" (some 0) with
  accessFlags := 1537
  interfaces := #[]
  cf := some (fileOf pool6 2 #[] #[] 1537 4 #[] #[])
  fields := #[]
  methods := #[]
  instanceTypes := #[]
  staticTypes := #[]
  resolved := Array.replicate 8 none
  statics := none }

/-- the primitive byte -/
def k7 : Class := { plain "byte" none with kind := .primitive 'B', accessFlags := 0x411 }
/-- [B -/
def k8 : Class := { plain "[B" (some 0) with kind := .array 7 .byte, interfaces := #[5, 6], accessFlags := 1041 }

/-- the primitive int -/
def k9 : Class := { plain "int" none with kind := .primitive 'I', accessFlags := 0x411 }
/-- [I -/
def k10 : Class := { plain "[I" (some 0) with kind := .array 9 .int, interfaces := #[5, 6], accessFlags := 1041 }

def heap : Heap := #[]
def classes : Array Class := #[k0, k1, k2, k3, k4, k5, k6, k7, k8, k9, k10]
def interned : List (Array UInt16 × Addr) := []
def slotsUsed : Nat := 0
def theMethod : MethodId := ⟨1, 3⟩
def args0 : Array Value := #[.long 5, .int 3]
def aboutOver (below : List Frame) : State where
  vm := { classes := classes, interned := interned.toArray }
  heap := heap
  slotsUsed := slotsUsed
  threads := #[{ frames := .invoking theMethod args0 :: below }]
def below0 : List Frame := [.native { method := ⟨0, 0⟩, args := #[] }]
def about1 : State := aboutOver below0
def p0 : Program := .bare "" "" ""
def e0 : Env := launch0.env 0 0 0
theorem w_frames : about1.frames = Frame.invoking theMethod args0 :: below0 := rfl
set_option maxRecDepth 65536 in
theorem w_args : argsFit about1.vm theMethod args0 = true := by decide +kernel
set_option maxRecDepth 65536 in
theorem w_heap : heapFits about1 = true := by decide +kernel
set_option maxRecDepth 65536 in
theorem w_runnable : about1.curStatus? = some .runnable := by decide +kernel
set_option maxRecDepth 65536 in
theorem w_alone : about1.alone = true := by decide +kernel
set_option maxRecDepth 65536 in
theorem w_named : about1.methodNamed? x = some theMethod := by decide +kernel
set_option maxRecDepth 65536 in
theorem w_hears : about1.hears theMethod below0 = true := by decide +kernel
set_option maxRecDepth 65536 in
theorem w_ripe : about1.ripe theMethod args0 below0 = true := by decide +kernel
theorem w_running : about1.status = .running := rfl
set_option maxRecDepth 65536 in
theorem w_room : about1.hasRoom e0.platform room_1 = true :=
  launch0.hasRoom_least _ room_1 (by decide +kernel) (by decide +kernel) (by decide +kernel) (by decide +kernel) (by decide +kernel) (by decide +kernel)
theorem allAtoms_all (ts : List Jvm.Cond) (a : Array Jvm.Value) (st : Jvm.State) : (allAtoms ts).before a st = ts.all (fun c => c.before a st) := by
  induction ts with
  | nil => rfl
  | cons c t ih =>
    show (Jvm.Cond.and c (allAtoms t)).before a st = _
    rw [Jvm.Cond.before_and, ih, List.all_cons]
def words1 : List Jvm.Cond := Jvm.Cond.code x code maxLocals ret :: tables_1
/-- a 'code' word, met by the world's own term for the bytes: nothing is compared byte by byte -/
theorem code_word {y : MethodName} {bytes : ByteArray} {mx : Nat} {rt : Option FieldType} {a : Array Value} {s : State} {m : MethodId} {meth : Method} {c : Code} (h1 : s.methodNamed? y = some m) (h2 : s.vm.method? m = some meth) (h3 : meth.code = some c) (h4 : c.code = bytes)
    (h5 : (c.maxLocals == mx && c.exceptionTable.isEmpty && decide (c.maxStack ≤ mostOperands) && decide (meth.sig.returnType = rt) && !meth.locks && decide (parseMethodDescriptor y.desc = some meth.sig)) = true) : (Jvm.Cond.code y bytes mx rt).before a s = true := by
  simp only [Bool.and_eq_true, beq_iff_eq, Bool.not_eq_true', decide_eq_true_eq] at h5
  obtain ⟨⟨⟨⟨⟨g1, g2⟩, g3⟩, g4⟩, g5⟩, g6⟩ := h5
  simp [Cond.before, Cond.holds, Cond.value, h1, h2, h3, h4, g1, g2, g3, g4, g5, g6]
def isCode : Jvm.Cond → Bool
  | .code _ _ _ _ => true
  | _ => false
theorem all_split {L : List Jvm.Cond} {P : Jvm.Cond → Bool} (h1 : L.all (fun c => isCode c || P c) = true) (h2 : ∀ c ∈ L.filter isCode, P c = true) : L.all P = true := by
  refine List.all_eq_true.mpr fun c hc => ?_
  have h := List.all_eq_true.mp h1 c hc
  rcases Bool.eq_false_or_eq_true (isCode c) with hi | hi
  · exact h2 c (List.mem_filter.mpr ⟨hc, hi⟩)
  · simpa [hi] using h
set_option maxRecDepth 65536 in
theorem w_c0 : (Jvm.Cond.code x code maxLocals ret).before args0 about1 = true := code_word (m := ⟨1, 3⟩) (meth := k1m3) (c := k1c3) (by decide +kernel) rfl rfl rfl (by decide +kernel)
set_option maxRecDepth 65536 in
theorem w_c1 : (Jvm.Cond.code ({ cls := "com/example/acervo/acervo/index/DocumentValueIsDayPinLaw", name := "leapYearsBefore", desc := "(J)J" } : Jvm.MethodName) method_2_code (2 : Nat) (Option.some Jvm.ClassFile.FieldType.long)).before args0 about1 = true := code_word (m := ⟨1, 1⟩) (meth := k1m1) (c := k1c1) (by decide +kernel) rfl rfl rfl (by decide +kernel)
set_option maxRecDepth 65536 in
theorem w_c2 : (Jvm.Cond.code ({ cls := "com/example/acervo/acervo/index/DocumentValue", name := "isDay", desc := "(J)Z" } : Jvm.MethodName) prog_82_method_2_code (2 : Nat) (Option.some Jvm.ClassFile.FieldType.boolean)).before args0 about1 = true := code_word (m := ⟨4, 0⟩) (meth := k4m0) (c := k4c0) (by decide +kernel) rfl rfl rfl (by decide +kernel)
set_option maxRecDepth 65536 in
theorem w_c3 : (Jvm.Cond.code ({ cls := "com/example/acervo/acervo/index/DocumentValueIsDayPinLaw", name := "ref", desc := "(JJJ)Z" } : Jvm.MethodName) method_3_code (6 : Nat) (Option.some Jvm.ClassFile.FieldType.boolean)).before args0 about1 = true := code_word (m := ⟨1, 2⟩) (meth := k1m2) (c := k1c2) (by decide +kernel) rfl rfl rfl (by decide +kernel)
def codes1 : List Jvm.Cond := [Jvm.Cond.code x code maxLocals ret, Jvm.Cond.code ({ cls := "com/example/acervo/acervo/index/DocumentValueIsDayPinLaw", name := "leapYearsBefore", desc := "(J)J" } : Jvm.MethodName) method_2_code (2 : Nat) (Option.some Jvm.ClassFile.FieldType.long), Jvm.Cond.code ({ cls := "com/example/acervo/acervo/index/DocumentValue", name := "isDay", desc := "(J)Z" } : Jvm.MethodName) prog_82_method_2_code (2 : Nat) (Option.some Jvm.ClassFile.FieldType.boolean), Jvm.Cond.code ({ cls := "com/example/acervo/acervo/index/DocumentValueIsDayPinLaw", name := "ref", desc := "(JJJ)Z" } : Jvm.MethodName) method_3_code (6 : Nat) (Option.some Jvm.ClassFile.FieldType.boolean)]
set_option maxRecDepth 65536 in
theorem codes_eq : words1.filter isCode = codes1 := rfl
theorem w_codes : ∀ c ∈ words1.filter isCode, c.before args0 about1 = true := by
  rw [codes_eq]
  intro c hc
  simp only [codes1, List.mem_cons, List.not_mem_nil, or_false] at hc
  rcases hc with rfl | rfl | rfl | rfl
  · exact w_c0
  · exact w_c1
  · exact w_c2
  · exact w_c3
set_option maxRecDepth 65536 in
theorem w_t1 : (words1.take 24).all (fun c => isCode c || c.before args0 about1) = true := by decide +kernel
set_option maxRecDepth 65536 in
theorem w_t2 : (words1.drop 24).all (fun c => isCode c || c.before args0 about1) = true := by decide +kernel
theorem w_tables : (allAtoms (Jvm.Cond.code x code maxLocals ret :: tables_1)).before args0 about1 = true := by
  rw [allAtoms_all]
  show words1.all (fun c => c.before args0 about1) = true
  refine all_split ?_ w_codes
  rw [← List.take_append_drop 24 words1, List.all_append, w_t1, w_t2]
  rfl
set_option maxRecDepth 65536 in
theorem w_case : (Jvm.Cond.and given_1 narrow_1).before args0 about1 = true := by decide +kernel
theorem w_applies : (headSpec (Jvm.Cond.code x code maxLocals ret :: tables_1) room_1).applies x e0.platform about1 = true :=
  (Spec.applies_iff w_frames).mpr ⟨w_running, w_runnable, w_alone, w_named, w_hears, w_ripe, w_room, w_tables⟩
theorem atStart : AtStart classFile x code maxLocals ret World_1 tables_1 room_1 Calls_1 rest_1 Pre_1 launch0 p0 e0 about1 theMethod args0 below0 :=
  ⟨lists_1, trivial, launch0.admits_env _ _ _, launch0.least_env, fairChoices_fair.cas, fairChoices_fair.clock, w_frames, w_args, w_heap, w_applies, trivial, trivial, w_case⟩
end start1
theorem witness_1 : WitnessClaimed_1 := ⟨start1.p0, start1.e0, start1.about1, start1.theMethod, start1.args0, start1.below0, start1.atStart⟩
end Jvm.Pilot.@@N@@
