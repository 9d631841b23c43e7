import JvmDerived
import JvmDerived.Pilot.@@N@@Statement
import JvmDerived.Pilot.@@N@@Code
set_option linter.unusedVariables false
set_option linter.unusedSimpArgs false
namespace Jvm.RoadKit
open Sem ClassFile Op Lib Jvm.Stand Jvm.Free Jvm.LawKit
section New
variable {p : Program} {l : Launch} {e : Env} {R : Room} {s : State} {m : MethodId} {args : Array Value} {below : List Frame} {meth : Method} {c : Code} {T : State} {locs : List Loc} {cells slots : Nat}
theorem retI (X : Stand p l e R s m args below meth c T locs cells slots) (hx : p.tables.exec = Jvm.exec) {pc : Nat} {Ls : Array Slot} {z : Int32} {rest : List Value} (hret : meth.sig.returnType = some .int) (hd : decode c.code pc = .ok (.ireturn, 1)) {fs : List Frame}
    (hl : ∀ (f : JFrame) (acts : List Action), f.method = m → f.locked = none → f.entered = [] → (doReturn e (T.setTop f) acts (some (.int z))).1 = T.setFrames fs) : Steps p.tables e below (T.setTop (mkF m pc Ls (.int z :: rest))) (T.setFrames fs) :=
  retOut X hx hret rfl (Or.inl ⟨rfl, Or.inl rfl, _, rfl⟩) hd hl
end New
end Jvm.RoadKit
namespace Jvm.Pilot.@@N@@
open Jvm Jvm.ClassFile Sem Op Lib Jvm.Free Jvm.Stand Jvm.LawKit Jvm.RoadKit Bundle Jvm.Pilot.@@N@@.Jvm.D
theorem own_mvM {Z s : State} {b0 args : Array Value} {own host : String} {index : Nat} {y : MethodName} (hZ : Z.Warmed39 s.vm) (w : (Jvm.Cond.methodLinkNest own index y host).before b0 Z = true) : (Jvm.Cond.methodLinkNest own index y host).before args s = true := (Cond.methodLinkNest_wide hZ w :)
theorem own_ib {Z s : State} {vm : Vm} {Ts : List String} (hI : IB Z s.vm Ts) (hw : s.WarmedH vm) : IB Z vm Ts := by
  obtain ⟨more, e, h⟩ := hI
  exact ⟨more, hw.interned_eq.trans e, h⟩
theorem own_backOfI {p : Program} {l : Launch} {e : Env} {R : Room} {s : State} {args : Array Value} {below : List Frame} {Z : State} {a0 : Array Value} {h : Heap} {y : MethodName} {bytes : ByteArray} {maxL : Nat} {ret : Option FieldType} {rm : Room} {len W : Nat} {as' : Array Value} {Q : Option Value → Heap → List Loc → Prop}
    (hM : MetFree l y (head1 [Cond.code y bytes maxL ret] rm) (fun a U => a = as' ∧ Z.Warmed39 U.vm ∧ U.heap = h ∧ IB Z U.vm []) (fun _ _ _ _ _ => True) (fun _ U o U' => ∃ v L, o = .returned v ∧ Q v U'.heap L ∧ ReturnedEndW U o U' L rm.cells rm.slots))
    (hZ : Z.Warmed39 s.vm) (hI : IB Z s.vm []) (wc : (Cond.code y bytes maxL ret).before a0 Z = true) (wz : (Cond.initialized y.cls).before a0 Z = true) (hf : rm.frames + 1 ≤ R.frames) (hl : W + (maxL + 11) + rm.locals ≤ R.locals) :
    BackS l R p e below s args y len W (fun A a => a = as' ∧ A.U.heap = h ∧ A.cells + rm.cells ≤ R.cells ∧ A.slots + rm.slots ≤ R.slots)
      (fun A _ v B => ∃ L, Q v B.U.heap L ∧ B.locs = A.locs ++ L ∧ B.cells = A.cells + rm.cells ∧ B.slots = A.slots + rm.slots) := by
  have up : ∀ {U : State}, s.WarmedH U.vm → Z.Warmed39 U.vm ∧ IB Z U.vm [] := fun h => ⟨wtrans hZ h, own_ib hI h⟩
  refine BackS.of_freeW (bytes := bytes) (maxL := maxL) (ret := ret) (E := fun _ _ o t L k n => (k, n) = (rm.cells, rm.slots) ∧ ∀ v, o = .returned v → Q v t.heap L) hM hf hl ?_ ?_ ?_ ?_ ?_
  · intro _ _ _ A a Y hp
    obtain ⟨-, -, h3, h4⟩ := hp
    have c1 : (Cond.code y bytes maxL ret).before a A.U = true := mv (up Y.warmed).1 wc
    have c2 : (Cond.initialized y.cls).before a A.U = true := mv (up Y.warmed).1 wz
    exact ⟨(Cond.before_and ..).trans ((Bool.and_eq_true ..).mpr ⟨c1, rfl⟩), c1, c2, h3, h4⟩
  · intro _ _ _ A a g mk Y hp
    exact ⟨hp.1, (up Y.warmed).1, hp.2.1, (up Y.warmed).2⟩
  · intros
    trivial
  · rintro _ _ _ _ ⟨v, L, rfl, hq, hE⟩
    exact ⟨L, _, _, hE, rfl, fun v' q => by cases q; exact hq⟩
  · intro _ _ _ A a g mk v t L k n Y hp _ _ hE
    obtain ⟨q, hq⟩ := hE
    cases q
    exact ⟨L, hq v rfl, rfl, rfl, rfl⟩
theorem own_litne {Z : State} {h : Heap} {x a b : Addr} {C n d : String} (F : Fld Z h x C n d .null) (G : Fld Z h a C n d (.ref b)) : x ≠ a := by
  rintro rfl
  obtain ⟨c1, i1, k1, j1, f1, a1, a2, a3, a4, a5, a6, a7⟩ := F
  obtain ⟨c2, i2, k2, j2, f2, b1, b2, b3, b4, b5, b6, b7⟩ := G
  cases a1.symm.trans b1
  cases a2.symm.trans b2
  cases a7.symm.trans b7
theorem own_sAt {a0 : Array Value} {Z : State} (hw : ∀ d ∈ tables_1, d.before a0 Z = true) : ∀ a ∈ Bundle.stringAtoms, a.before a0 Z = true := by
  intro d hd
  simp only [Bundle.stringAtoms, List.mem_cons, List.not_mem_nil, or_false] at hd
  rcases hd with rfl | rfl | rfl | rfl | rfl | rfl | rfl
  · exact hw _ (List.mem_of_getElem? (i := 3) rfl)
  · exact hw _ (List.mem_of_getElem? (i := 2) rfl)
  · exact hw _ (List.mem_of_getElem? (i := 19) rfl)
  · exact hw _ (List.mem_of_getElem? (i := 29) rfl)
  · exact hw _ (List.mem_of_getElem? (i := 27) rfl)
  · exact hw _ (List.mem_of_getElem? (i := 129) rfl)
  · exact hw _ (List.mem_of_getElem? (i := 130) rfl)
def wsk_r1  : Int32 := (nar .byte ((((0 : Int32).toUInt32 >>> ((31 : Int32) &&& 31).toUInt32).toInt32).toInt8.toInt32))
def w1_r1 (p0 : Int32) : Int32 := (if (255 : Int32) < p0 then (0 : Int32) else (1 : Int32))
def wreq_r1 (rq : Int32) : Int32 := (nar .boolean rq)
def wrep_r1 (rq : Int32) : Int32 := (nar .boolean rq)
def w0_1 (p0 : Int32) : Int32 := ((p0 &&& (255 : Int32)).toUInt32.toUInt16.toUInt32.toInt32)
def w0_2 (p0 : Int32) : Int32 := ((((p0.toUInt32 >>> ((8 : Int32) &&& 31).toUInt32).toInt32) &&& (255 : Int32)).toUInt32.toUInt16.toUInt32.toInt32)
def w0_3 (p1 : Int32) : Int32 := ((p1 &&& (255 : Int32)).toUInt32.toUInt16.toUInt32.toInt32)
def w0_m4 (p2 : Int32) : Int32 := (if (p2 &&& (1 : Int32)) = (0 : Int32) then (0 : Int32) else (1 : Int32))
def w0_m5 (p2 : Int32) : Int32 := (if (p2 &&& (2 : Int32)) = (0 : Int32) then (0 : Int32) else (1 : Int32))
def w0_m6 (p2 : Int32) : Int32 := (if (p2 &&& (4 : Int32)) = (0 : Int32) then (0 : Int32) else (1 : Int32))
def w0_m7 (p2 : Int32) : Int32 := (if (p2 &&& (8 : Int32)) = (0 : Int32) then (0 : Int32) else (1 : Int32))
def w0_m8 (p2 : Int32) : Int32 := (if (p2 &&& (64 : Int32)) = (0 : Int32) then (0 : Int32) else (1 : Int32))
def w0_9 (p2 : Int32) : Int32 := (((p2.toUInt32 >>> ((4 : Int32) &&& 31).toUInt32).toInt32) &&& (3 : Int32))
def w0_m10 (p2 : Int32) : Int32 := (if (w0_9 p2) = (3 : Int32) then (1 : Int32) else (0 : Int32))
def w0_r11 (p2 : Int32) : Int32 := (if (w0_9 p2) = (0 : Int32) then (if (0 : Int32) = (w0_m10 p2) then (1 : Int32) else (0 : Int32)) else (if (w0_9 p2) = (1 : Int32) then (if (0 : Int32) = (w0_m10 p2) then (1 : Int32) else (0 : Int32)) else (if (w0_9 p2) = (2 : Int32) then (if (0 : Int32) = (w0_m10 p2) then (1 : Int32) else (0 : Int32)) else (if (1 : Int32) = (w0_m10 p2) then (1 : Int32) else (0 : Int32)))))
theorem own_enc (p0 : Int32) (hp : ¬ (255 : Int32) < p0) : ¬ (w1_r1 p0) = (0 : Int32) := by
  unfold w1_r1
  rw [if_neg hp]
  decide
theorem own_ch (x : Int32) : ¬ (255 : Int32) < nar .char ((x &&& (255 : Int32)).toUInt32.toUInt16.toUInt32.toInt32) := by
  show ¬ (255 : Int32) < ((x &&& (255 : Int32)).toUInt32.toUInt16.toUInt32.toInt32).toUInt32.toUInt16.toUInt32.toInt32
  rw [i2c_mask, i2c_mask]
  have h := c_mask x 255 8 (by decide) (by decide)
  have l : (255 : Int32).toInt = 255 := rfl
  rw [Int32.lt_iff_toInt_lt, l]
  omega
theorem own_chb (p1 : Int32) : ¬ (255 : Int32) < w0_3 p1 := by
  unfold w0_3
  rw [i2c_mask]
  have h := c_mask p1 255 8 (by decide) (by decide)
  have l : (255 : Int32).toInt = 255 := rfl
  rw [Int32.lt_iff_toInt_lt, l]
  omega
theorem own_k (p2 : Int32) : w0_9 p2 = 0 ∨ w0_9 p2 = 1 ∨ w0_9 p2 = 2 ∨ w0_9 p2 = 3 := by
  have h := c_mask ((p2.toUInt32 >>> ((4 : Int32) &&& 31).toUInt32).toInt32) 3 2 (by decide) (by decide)
  have e : (w0_9 p2).toInt = (((p2.toUInt32 >>> ((4 : Int32) &&& 31).toUInt32).toInt32) &&& 3).toInt := rfl
  rw [← e] at h
  have l0 : (0 : Int32).toInt = 0 := rfl
  have l1 : (1 : Int32).toInt = 1 := rfl
  have l2 : (2 : Int32).toInt = 2 := rfl
  have l3 : (3 : Int32).toInt = 3 := rfl
  rw [← Int32.toInt_inj, ← Int32.toInt_inj, ← Int32.toInt_inj, ← Int32.toInt_inj, l0, l1, l2, l3]
  omega
theorem own_m4 (p2 : Int32) (h : ¬ w0_m4 p2 = (0 : Int32)) : (1 : Int32) = w0_m4 p2 := by
  unfold w0_m4 at h ⊢
  split at h
  · exact absurd rfl h
  · rename_i q
    rw [if_neg q]
theorem plain_law (p2 : Int32) : w0_r11 p2 = 1 := by
  have hk := own_k p2
  unfold w0_r11 w0_m10
  rcases hk with k | k | k | k <;> rw [k] <;> decide

theorem dsc_0 : decode jdk_52_method_21_code 0 = .ok (.iconst 0, 1) := by decide +kernel
theorem dsc_1 : decode jdk_52_method_21_code 1 = .ok (.istore 5, 2) := by decide +kernel
theorem dsc_3 : decode jdk_52_method_21_code 3 = .ok (.iload 5, 2) := by decide +kernel
theorem dsc_5 : decode jdk_52_method_21_code 5 = .ok (.iload 4, 2) := by decide +kernel
theorem dsc_7 : decode jdk_52_method_21_code 7 = .ok (.if_icmp .ge 37, 3) := by decide +kernel
theorem dsc_10 : decode jdk_52_method_21_code 10 = .ok (.aload_n 0, 1) := by decide +kernel
theorem dsc_11 : decode jdk_52_method_21_code 11 = .ok (.iload_n 1, 1) := by decide +kernel
theorem dsc_12 : decode jdk_52_method_21_code 12 = .ok (.caload, 1) := by decide +kernel
theorem dsc_13 : decode jdk_52_method_21_code 13 = .ok (.istore 6, 2) := by decide +kernel
theorem dsc_15 : decode jdk_52_method_21_code 15 = .ok (.iload 6, 2) := by decide +kernel
theorem dsc_17 : decode jdk_52_method_21_code 17 = .ok (.sipush 255, 3) := by decide +kernel
theorem dsc_20 : decode jdk_52_method_21_code 20 = .ok (.if_icmp .le 6, 3) := by decide +kernel
theorem dsc_26 : decode jdk_52_method_21_code 26 = .ok (.aload_n 2, 1) := by decide +kernel
theorem dsc_27 : decode jdk_52_method_21_code 27 = .ok (.iload_n 3, 1) := by decide +kernel
theorem dsc_28 : decode jdk_52_method_21_code 28 = .ok (.iload 6, 2) := by decide +kernel
theorem dsc_30 : decode jdk_52_method_21_code 30 = .ok (.i2b, 1) := by decide +kernel
theorem dsc_31 : decode jdk_52_method_21_code 31 = .ok (.bastore, 1) := by decide +kernel
theorem dsc_32 : decode jdk_52_method_21_code 32 = .ok (.iinc 1 1, 3) := by decide +kernel
theorem dsc_35 : decode jdk_52_method_21_code 35 = .ok (.iinc 3 1, 3) := by decide +kernel
theorem dsc_38 : decode jdk_52_method_21_code 38 = .ok (.iinc 5 1, 3) := by decide +kernel
theorem dsc_41 : decode jdk_52_method_21_code 41 = .ok (.goto (-38), 3) := by decide +kernel
theorem dsc_44 : decode jdk_52_method_21_code 44 = .ok (.iload 4, 2) := by decide +kernel
theorem dsc_46 : decode jdk_52_method_21_code 46 = .ok (.ireturn, 1) := by decide +kernel
theorem pnsc : plainName "java/lang/StringUTF16" = true := by first | (simp [plainName, overriddenIn]; done) | decide +kernel
theorem efsc (m : MethodId) (o0 : Addr) (o2 : Addr) : entryFrame m #[(.ref o0), (.int (0 : Int32)), (.ref o2), (.int (0 : Int32)), (.int (2 : Int32))] 7 = mkF m 0 #[.val (.ref o0), .val (.int (0 : Int32)), .val (.ref o2), .val (.int (0 : Int32)), .val (.int (2 : Int32)), .unset, .unset] [] := by first | (simp [entryFrame, mkF, argsToLocals, Value.category]; done) | rfl
def Qsc (Z : State) (o0 : Addr) (o2 : Addr) (ka : ClassId) (kb : ClassId) (x0 : Int32) (x1 : Int32) (h0 : Heap) (n0 : Nat) (v : Option Value) (h : Heap) (L : List Loc) : Prop := v = some (.int (2 : Int32)) ∧ Fr n0 L ∧ Keep h0 h [o2] ∧ Arv Z h o2 kb .byte (2 : Int32) [(.int (nar .byte (x0.toInt8.toInt32))), (.int (nar .byte (x1.toInt8.toInt32)))] (.int (0 : Int32))
set_option maxRecDepth 65536 in
set_option maxHeartbeats 40000000 in
theorem rmsc (l : Launch) (Z : State) (a0 : Array Value) (hw : ∀ d ∈ tables_1, d.before a0 Z = true) (ws : List Jvm.Cond) (o0 : Addr) (o2 : Addr) (ka : ClassId) (kb : ClassId) (x0 : Int32) (x1 : Int32) (h0 : Heap) (n0 : Nat) (Z0 : n0 ≤ h0.size) (V_o0 : Arv Z h0 o0 ka .char (2 : Int32) [(.int x0), (.int x1)] (.int (0 : Int32))) (V_o2 : Arv Z h0 o2 kb .byte (2 : Int32) [(.int (0 : Int32)), (.int (0 : Int32))] (.int (0 : Int32))) (g_o2 : n0 ≤ o2) (hx0 : ¬ (255 : Int32) < x0) (hx1 : ¬ (255 : Int32) < x1) (ne_o0_o2 : o0 ≠ o2) :
    MetFree l (⟨"java/lang/StringUTF16", "compress", "([CI[BII)I"⟩ : MethodName) (head1 (Jvm.Cond.code (⟨"java/lang/StringUTF16", "compress", "([CI[BII)I"⟩ : MethodName) jdk_52_method_21_code 7 (some .int) :: ws) ({ frames := 0, cells := 0, slots := 0, locals := 0 } : Room)) (fun a U => a = #[(.ref o0), (.int (0 : Int32)), (.ref o2), (.int (0 : Int32)), (.int (2 : Int32))] ∧ Z.Warmed39 U.vm ∧ U.heap = h0) (fun _ _ _ _ _ => True) (fun _ U o U' => ∃ v L, o = .returned v ∧ Qsc Z o0 o2 ka kb x0 x1 h0 n0 v U'.heap L ∧ FrameEnd U o U' L ({ frames := 0, cells := 0, slots := 0, locals := 0 } : Room).cells ({ frames := 0, cells := 0, slots := 0, locals := 0 } : Room).slots) := by
  refine MetFree.of_bodySF (plainFor_of_name pnsc) hisR ?_
  intro p e s m args below meth c s₁ Bd hml0 hP hK
  obtain ⟨rfl, hZ, hh⟩ := hP
  have hlk : meth.locks = false := BodyLoose.notSynchronized Bd
  have hx := Bd.exec
  have hby := Bd.bytes
  have hml : c.maxLocals = 7 := hml0
  have hown : s.vm.findClass "java/lang/StringUTF16" = some m.cls := findClass_of_methodNamed Bd.named
  have hnm := (name_of_methodNamed Bd.named Bd.method).1
  have X0 : Stand p l e ({ frames := 0, cells := 0, slots := 0, locals := 0 } : Room) s m #[(.ref o0), (.int (0 : Int32)), (.ref o2), (.int (0 : Int32)), (.int (2 : Int32))] below meth c s₁ [] 0 0 := Stand.of_body Bd
  have e0 : s₁.heap = h0 := by rw [← hh, Bd.state]; rfl
  have N0 := Fr.nil n0
  obtain ⟨S0, hS0⟩ : ∃ S0, S0 = s₁.setTop (entryFrame m #[(.ref o0), (.int (0 : Int32)), (.ref o2), (.int (0 : Int32)), (.int (2 : Int32))] 7) := ⟨_, rfl⟩
  have pre0 : ∀ t, Steps p.tables e below (s₁.setTop (mkF m 0 #[.val (.ref o0), .val (.int (0 : Int32)), .val (.ref o2), .val (.int (0 : Int32)), .val (.int (2 : Int32)), .unset, .unset] [])) t → Steps p.tables e below S0 t := fun t k => by rw [hS0]; exact castTop (efsc m o0 o2) k
  have K1 : ∀ t, Steps p.tables e below (s₁.setTop (mkF m 7 #[.val (.ref o0), .val (.int (0 : Int32)), .val (.ref o2), .val (.int (0 : Int32)), .val (.int (2 : Int32)), .val (.int (0 : Int32)), .unset] [(.int (2 : Int32)), (.int (0 : Int32))])) t → Steps p.tables e below S0 t := fun t k => pre0 t (by
    refine XS.iconst X0.here hx rfl (hb hby dsc_0) ?_
    show Steps p.tables e below (s₁.setTop (mkF m 1 #[.val (.ref o0), .val (.int (0 : Int32)), .val (.ref o2), .val (.int (0 : Int32)), .val (.int (2 : Int32)), .unset, .unset] [(.int (0 : Int32))])) _
    refine XS.istore X0.here hx rfl (hb hby dsc_1) rfl (l' := #[.val (.ref o0), .val (.int (0 : Int32)), .val (.ref o2), .val (.int (0 : Int32)), .val (.int (2 : Int32)), .val (.int (0 : Int32)), .unset]) rfl ?_
    show Steps p.tables e below (s₁.setTop (mkF m 3 #[.val (.ref o0), .val (.int (0 : Int32)), .val (.ref o2), .val (.int (0 : Int32)), .val (.int (2 : Int32)), .val (.int (0 : Int32)), .unset] [])) _
    refine XS.iload X0.here hx rfl (hb hby dsc_3) rfl ?_
    show Steps p.tables e below (s₁.setTop (mkF m 5 #[.val (.ref o0), .val (.int (0 : Int32)), .val (.ref o2), .val (.int (0 : Int32)), .val (.int (2 : Int32)), .val (.int (0 : Int32)), .unset] [(.int (0 : Int32))])) _
    refine XS.iload X0.here hx rfl (hb hby dsc_5) rfl ?_
    show Steps p.tables e below (s₁.setTop (mkF m 7 #[.val (.ref o0), .val (.int (0 : Int32)), .val (.ref o2), .val (.int (0 : Int32)), .val (.int (2 : Int32)), .val (.int (0 : Int32)), .unset] [(.int (2 : Int32)), (.int (0 : Int32))])) _
    exact k)
  have K2 : ∀ t, Steps p.tables e below (s₁.setTop (mkF m 12 #[.val (.ref o0), .val (.int (0 : Int32)), .val (.ref o2), .val (.int (0 : Int32)), .val (.int (2 : Int32)), .val (.int (0 : Int32)), .unset] [(.int (0 : Int32)), (.ref o0)])) t → Steps p.tables e below S0 t := fun t k => K1 t (by
    refine XS.icmpNo X0.here hx rfl (hb hby dsc_7) rfl (XT.ii_ge_f (by decide)) ?_
    show Steps p.tables e below (s₁.setTop (mkF m 10 #[.val (.ref o0), .val (.int (0 : Int32)), .val (.ref o2), .val (.int (0 : Int32)), .val (.int (2 : Int32)), .val (.int (0 : Int32)), .unset] [])) _
    refine XS.aloadN X0.here hx rfl (hb hby dsc_10) rfl rfl ?_
    show Steps p.tables e below (s₁.setTop (mkF m 11 #[.val (.ref o0), .val (.int (0 : Int32)), .val (.ref o2), .val (.int (0 : Int32)), .val (.int (2 : Int32)), .val (.int (0 : Int32)), .unset] [(.ref o0)])) _
    refine XS.iloadN X0.here hx rfl (hb hby dsc_11) rfl ?_
    show Steps p.tables e below (s₁.setTop (mkF m 12 #[.val (.ref o0), .val (.int (0 : Int32)), .val (.ref o2), .val (.int (0 : Int32)), .val (.int (2 : Int32)), .val (.int (0 : Int32)), .unset] [(.int (0 : Int32)), (.ref o0)])) _
    exact k)
  have K_3 : ∀ t, Steps p.tables e below (s₁.setTop (mkF m 12 #[.val (.ref o0), .val (.int (0 : Int32)), .val (.ref o2), .val (.int (0 : Int32)), .val (.int (2 : Int32)), .val (.int (0 : Int32)), .unset] [(.int (0 : Int32)), (.ref o0)])) t → Steps p.tables e below S0 t := K2
  obtain ⟨cl4, Ar4, qa4, sa4, na4, ha4, ga4⟩ := id V_o0
  have hin4 : ¬ ((0 : Int32) < 0 ∨ cl4.slots.size ≤ ((0 : Int32)).toNatClampNeg) := inb_of sa4 ⟨by decide, by decide⟩
  have hat4 : cl4.slots[((0 : Int32)).toNatClampNeg]? = some (.int x0) := Has.at ha4 hin4 rfl
  have K4 : ∀ t, Steps p.tables e below (s₁.setTop (mkF m 13 #[.val (.ref o0), .val (.int (0 : Int32)), .val (.ref o2), .val (.int (0 : Int32)), .val (.int (2 : Int32)), .val (.int (0 : Int32)), .unset] [(.int x0)])) t → Steps p.tables e below S0 t := fun t k => K_3 t (X0.caload hx (j := (0 : Int32)) (v := (.int x0)) (by rw [e0]; exact Ar4.1) (State.isArrayOf_alike hZ.alike Ar4.2.1) Ar4.2.2 hin4 hat4 (g := (mkF m 12 #[.val (.ref o0), .val (.int (0 : Int32)), .val (.ref o2), .val (.int (0 : Int32)), .val (.int (2 : Int32)), .val (.int (0 : Int32)), .unset] [(.int (0 : Int32)), (.ref o0)])) rfl rfl (hb hby dsc_12) _ k)
  have K5 : ∀ t, Steps p.tables e below (s₁.setTop (mkF m 20 #[.val (.ref o0), .val (.int (0 : Int32)), .val (.ref o2), .val (.int (0 : Int32)), .val (.int (2 : Int32)), .val (.int (0 : Int32)), .val (.int x0)] [(.int (255 : Int32)), (.int x0)])) t → Steps p.tables e below S0 t := fun t k => K4 t (by
    refine XS.istore X0.here hx rfl (hb hby dsc_13) rfl (l' := #[.val (.ref o0), .val (.int (0 : Int32)), .val (.ref o2), .val (.int (0 : Int32)), .val (.int (2 : Int32)), .val (.int (0 : Int32)), .val (.int x0)]) rfl ?_
    show Steps p.tables e below (s₁.setTop (mkF m 15 #[.val (.ref o0), .val (.int (0 : Int32)), .val (.ref o2), .val (.int (0 : Int32)), .val (.int (2 : Int32)), .val (.int (0 : Int32)), .val (.int x0)] [])) _
    refine XS.iload X0.here hx rfl (hb hby dsc_15) rfl ?_
    show Steps p.tables e below (s₁.setTop (mkF m 17 #[.val (.ref o0), .val (.int (0 : Int32)), .val (.ref o2), .val (.int (0 : Int32)), .val (.int (2 : Int32)), .val (.int (0 : Int32)), .val (.int x0)] [(.int x0)])) _
    refine XS.sipush X0.here hx rfl (hb hby dsc_17) ?_
    show Steps p.tables e below (s₁.setTop (mkF m 20 #[.val (.ref o0), .val (.int (0 : Int32)), .val (.ref o2), .val (.int (0 : Int32)), .val (.int (2 : Int32)), .val (.int (0 : Int32)), .val (.int x0)] [(.int (255 : Int32)), (.int x0)])) _
    exact k)
  have hf6 : ¬ ((255 : Int32) < x0) := hx0
  have K7 : ∀ t, Steps p.tables e below (s₁.setTop (mkF m 31 #[.val (.ref o0), .val (.int (0 : Int32)), .val (.ref o2), .val (.int (0 : Int32)), .val (.int (2 : Int32)), .val (.int (0 : Int32)), .val (.int x0)] [(.int (x0.toInt8.toInt32)), (.int (0 : Int32)), (.ref o2)])) t → Steps p.tables e below S0 t := fun t k => K5 t (by
    refine XS.icmpYes X0.here hx rfl (pc0 := 20) (pc' := 26) rfl (hb hby dsc_20) rfl (XT.ii_le_t hf6) (by decide) (by decide) ?_
    show Steps p.tables e below (s₁.setTop (mkF m 26 #[.val (.ref o0), .val (.int (0 : Int32)), .val (.ref o2), .val (.int (0 : Int32)), .val (.int (2 : Int32)), .val (.int (0 : Int32)), .val (.int x0)] [])) _
    refine XS.aloadN X0.here hx rfl (hb hby dsc_26) rfl rfl ?_
    show Steps p.tables e below (s₁.setTop (mkF m 27 #[.val (.ref o0), .val (.int (0 : Int32)), .val (.ref o2), .val (.int (0 : Int32)), .val (.int (2 : Int32)), .val (.int (0 : Int32)), .val (.int x0)] [(.ref o2)])) _
    refine XS.iloadN X0.here hx rfl (hb hby dsc_27) rfl ?_
    show Steps p.tables e below (s₁.setTop (mkF m 28 #[.val (.ref o0), .val (.int (0 : Int32)), .val (.ref o2), .val (.int (0 : Int32)), .val (.int (2 : Int32)), .val (.int (0 : Int32)), .val (.int x0)] [(.int (0 : Int32)), (.ref o2)])) _
    refine XS.iload X0.here hx rfl (hb hby dsc_28) rfl ?_
    show Steps p.tables e below (s₁.setTop (mkF m 30 #[.val (.ref o0), .val (.int (0 : Int32)), .val (.ref o2), .val (.int (0 : Int32)), .val (.int (2 : Int32)), .val (.int (0 : Int32)), .val (.int x0)] [(.int x0), (.int (0 : Int32)), (.ref o2)])) _
    refine XS.i2b X0.here hx rfl (hb hby dsc_30) rfl ?_
    show Steps p.tables e below (s₁.setTop (mkF m 31 #[.val (.ref o0), .val (.int (0 : Int32)), .val (.ref o2), .val (.int (0 : Int32)), .val (.int (2 : Int32)), .val (.int (0 : Int32)), .val (.int x0)] [(.int (x0.toInt8.toInt32)), (.int (0 : Int32)), (.ref o2)])) _
    exact k)
  have K_8 : ∀ t, Steps p.tables e below (s₁.setTop (mkF m 31 #[.val (.ref o0), .val (.int (0 : Int32)), .val (.ref o2), .val (.int (0 : Int32)), .val (.int (2 : Int32)), .val (.int (0 : Int32)), .val (.int x0)] [(.int (x0.toInt8.toInt32)), (.int (0 : Int32)), (.ref o2)])) t → Steps p.tables e below S0 t := K7
  obtain ⟨cl9, Ar9, qa9, sa9, na9, ha9, ga9⟩ := id V_o2
  have hin9 : ¬ ((0 : Int32) < 0 ∨ cl9.slots.size ≤ ((0 : Int32)).toNatClampNeg) := inb_of sa9 ⟨by decide, by decide⟩
  obtain ⟨T9, h9, X9, e9, W9, st9⟩ := stB X0 hx hZ e0 Ar9 (j := (0 : Int32)) hin9 (g := (mkF m 31 #[.val (.ref o0), .val (.int (0 : Int32)), .val (.ref o2), .val (.int (0 : Int32)), .val (.int (2 : Int32)), .val (.int (0 : Int32)), .val (.int x0)] [(.int (x0.toInt8.toInt32)), (.int (0 : Int32)), (.ref o2)])) rfl rfl (hb hby dsc_31)
  have V_o2__9 : Arv Z h9 o2 kb .byte (2 : Int32) [(.int (nar .byte (x0.toInt8.toInt32))), (.int (0 : Int32))] (.int (0 : Int32)) := Arv.set Ar9 qa9 sa9 na9 ha9 ga9 (fits_nar_byte _) W9 0 rfl (Nat.le_of_ble_eq_true rfl)
  have V_o0__9 := V_o0.other W9 ne_o0_o2
  have N9 := Fr.snoc X9 N0 g_o2
  have Zs9 : n0 ≤ h9.size := Nat.le_trans Z0 (Nat.le_of_eq W9.size.symm)
  have Kc9 : Keep h0 h9 [o2] := (Keep.refl h0 [o2]).wr W9 (Or.inl (List.mem_of_getElem? (i := 0) rfl))
  have K9 : ∀ t, Steps p.tables e below (T9.setTop (mkF m 32 #[.val (.ref o0), .val (.int (0 : Int32)), .val (.ref o2), .val (.int (0 : Int32)), .val (.int (2 : Int32)), .val (.int (0 : Int32)), .val (.int x0)] [])) t → Steps p.tables e below S0 t := fun t k => K_8 t (st9 t k)
  have K10 : ∀ t, Steps p.tables e below (T9.setTop (mkF m 7 #[.val (.ref o0), .val (.int (1 : Int32)), .val (.ref o2), .val (.int (1 : Int32)), .val (.int (2 : Int32)), .val (.int (1 : Int32)), .val (.int x0)] [(.int (2 : Int32)), (.int (1 : Int32))])) t → Steps p.tables e below S0 t := fun t k => K9 t (by
    refine XS.iinc X9.here hx rfl (hb hby dsc_32) rfl (l' := #[.val (.ref o0), .val (.int (1 : Int32)), .val (.ref o2), .val (.int (0 : Int32)), .val (.int (2 : Int32)), .val (.int (0 : Int32)), .val (.int x0)]) rfl ?_
    show Steps p.tables e below (T9.setTop (mkF m 35 #[.val (.ref o0), .val (.int (1 : Int32)), .val (.ref o2), .val (.int (0 : Int32)), .val (.int (2 : Int32)), .val (.int (0 : Int32)), .val (.int x0)] [])) _
    refine XS.iinc X9.here hx rfl (hb hby dsc_35) rfl (l' := #[.val (.ref o0), .val (.int (1 : Int32)), .val (.ref o2), .val (.int (1 : Int32)), .val (.int (2 : Int32)), .val (.int (0 : Int32)), .val (.int x0)]) rfl ?_
    show Steps p.tables e below (T9.setTop (mkF m 38 #[.val (.ref o0), .val (.int (1 : Int32)), .val (.ref o2), .val (.int (1 : Int32)), .val (.int (2 : Int32)), .val (.int (0 : Int32)), .val (.int x0)] [])) _
    refine XS.iinc X9.here hx rfl (hb hby dsc_38) rfl (l' := #[.val (.ref o0), .val (.int (1 : Int32)), .val (.ref o2), .val (.int (1 : Int32)), .val (.int (2 : Int32)), .val (.int (1 : Int32)), .val (.int x0)]) rfl ?_
    show Steps p.tables e below (T9.setTop (mkF m 41 #[.val (.ref o0), .val (.int (1 : Int32)), .val (.ref o2), .val (.int (1 : Int32)), .val (.int (2 : Int32)), .val (.int (1 : Int32)), .val (.int x0)] [])) _
    refine XS.goto X9.here hx rfl (pc0 := 41) (pc' := 3) rfl (hb hby dsc_41) (by decide) (by decide) ?_
    show Steps p.tables e below (T9.setTop (mkF m 3 #[.val (.ref o0), .val (.int (1 : Int32)), .val (.ref o2), .val (.int (1 : Int32)), .val (.int (2 : Int32)), .val (.int (1 : Int32)), .val (.int x0)] [])) _
    refine XS.iload X9.here hx rfl (hb hby dsc_3) rfl ?_
    show Steps p.tables e below (T9.setTop (mkF m 5 #[.val (.ref o0), .val (.int (1 : Int32)), .val (.ref o2), .val (.int (1 : Int32)), .val (.int (2 : Int32)), .val (.int (1 : Int32)), .val (.int x0)] [(.int (1 : Int32))])) _
    refine XS.iload X9.here hx rfl (hb hby dsc_5) rfl ?_
    show Steps p.tables e below (T9.setTop (mkF m 7 #[.val (.ref o0), .val (.int (1 : Int32)), .val (.ref o2), .val (.int (1 : Int32)), .val (.int (2 : Int32)), .val (.int (1 : Int32)), .val (.int x0)] [(.int (2 : Int32)), (.int (1 : Int32))])) _
    exact k)
  have K11 : ∀ t, Steps p.tables e below (T9.setTop (mkF m 12 #[.val (.ref o0), .val (.int (1 : Int32)), .val (.ref o2), .val (.int (1 : Int32)), .val (.int (2 : Int32)), .val (.int (1 : Int32)), .val (.int x0)] [(.int (1 : Int32)), (.ref o0)])) t → Steps p.tables e below S0 t := fun t k => K10 t (by
    refine XS.icmpNo X9.here hx rfl (hb hby dsc_7) rfl (XT.ii_ge_f (by decide)) ?_
    show Steps p.tables e below (T9.setTop (mkF m 10 #[.val (.ref o0), .val (.int (1 : Int32)), .val (.ref o2), .val (.int (1 : Int32)), .val (.int (2 : Int32)), .val (.int (1 : Int32)), .val (.int x0)] [])) _
    refine XS.aloadN X9.here hx rfl (hb hby dsc_10) rfl rfl ?_
    show Steps p.tables e below (T9.setTop (mkF m 11 #[.val (.ref o0), .val (.int (1 : Int32)), .val (.ref o2), .val (.int (1 : Int32)), .val (.int (2 : Int32)), .val (.int (1 : Int32)), .val (.int x0)] [(.ref o0)])) _
    refine XS.iloadN X9.here hx rfl (hb hby dsc_11) rfl ?_
    show Steps p.tables e below (T9.setTop (mkF m 12 #[.val (.ref o0), .val (.int (1 : Int32)), .val (.ref o2), .val (.int (1 : Int32)), .val (.int (2 : Int32)), .val (.int (1 : Int32)), .val (.int x0)] [(.int (1 : Int32)), (.ref o0)])) _
    exact k)
  have K_12 : ∀ t, Steps p.tables e below (T9.setTop (mkF m 12 #[.val (.ref o0), .val (.int (1 : Int32)), .val (.ref o2), .val (.int (1 : Int32)), .val (.int (2 : Int32)), .val (.int (1 : Int32)), .val (.int x0)] [(.int (1 : Int32)), (.ref o0)])) t → Steps p.tables e below S0 t := K11
  obtain ⟨cl13, Ar13, qa13, sa13, na13, ha13, ga13⟩ := id V_o0__9
  have hin13 : ¬ ((1 : Int32) < 0 ∨ cl13.slots.size ≤ ((1 : Int32)).toNatClampNeg) := inb_of sa13 ⟨by decide, by decide⟩
  have hat13 : cl13.slots[((1 : Int32)).toNatClampNeg]? = some (.int x1) := Has.at ha13 hin13 rfl
  have K13 : ∀ t, Steps p.tables e below (T9.setTop (mkF m 13 #[.val (.ref o0), .val (.int (1 : Int32)), .val (.ref o2), .val (.int (1 : Int32)), .val (.int (2 : Int32)), .val (.int (1 : Int32)), .val (.int x0)] [(.int x1)])) t → Steps p.tables e below S0 t := fun t k => K_12 t (X9.caload hx (j := (1 : Int32)) (v := (.int x1)) (by rw [e9]; exact Ar13.1) (State.isArrayOf_alike hZ.alike Ar13.2.1) Ar13.2.2 hin13 hat13 (g := (mkF m 12 #[.val (.ref o0), .val (.int (1 : Int32)), .val (.ref o2), .val (.int (1 : Int32)), .val (.int (2 : Int32)), .val (.int (1 : Int32)), .val (.int x0)] [(.int (1 : Int32)), (.ref o0)])) rfl rfl (hb hby dsc_12) _ k)
  have K14 : ∀ t, Steps p.tables e below (T9.setTop (mkF m 20 #[.val (.ref o0), .val (.int (1 : Int32)), .val (.ref o2), .val (.int (1 : Int32)), .val (.int (2 : Int32)), .val (.int (1 : Int32)), .val (.int x1)] [(.int (255 : Int32)), (.int x1)])) t → Steps p.tables e below S0 t := fun t k => K13 t (by
    refine XS.istore X9.here hx rfl (hb hby dsc_13) rfl (l' := #[.val (.ref o0), .val (.int (1 : Int32)), .val (.ref o2), .val (.int (1 : Int32)), .val (.int (2 : Int32)), .val (.int (1 : Int32)), .val (.int x1)]) rfl ?_
    show Steps p.tables e below (T9.setTop (mkF m 15 #[.val (.ref o0), .val (.int (1 : Int32)), .val (.ref o2), .val (.int (1 : Int32)), .val (.int (2 : Int32)), .val (.int (1 : Int32)), .val (.int x1)] [])) _
    refine XS.iload X9.here hx rfl (hb hby dsc_15) rfl ?_
    show Steps p.tables e below (T9.setTop (mkF m 17 #[.val (.ref o0), .val (.int (1 : Int32)), .val (.ref o2), .val (.int (1 : Int32)), .val (.int (2 : Int32)), .val (.int (1 : Int32)), .val (.int x1)] [(.int x1)])) _
    refine XS.sipush X9.here hx rfl (hb hby dsc_17) ?_
    show Steps p.tables e below (T9.setTop (mkF m 20 #[.val (.ref o0), .val (.int (1 : Int32)), .val (.ref o2), .val (.int (1 : Int32)), .val (.int (2 : Int32)), .val (.int (1 : Int32)), .val (.int x1)] [(.int (255 : Int32)), (.int x1)])) _
    exact k)
  have hf15 : ¬ ((255 : Int32) < x1) := hx1
  have K16 : ∀ t, Steps p.tables e below (T9.setTop (mkF m 31 #[.val (.ref o0), .val (.int (1 : Int32)), .val (.ref o2), .val (.int (1 : Int32)), .val (.int (2 : Int32)), .val (.int (1 : Int32)), .val (.int x1)] [(.int (x1.toInt8.toInt32)), (.int (1 : Int32)), (.ref o2)])) t → Steps p.tables e below S0 t := fun t k => K14 t (by
    refine XS.icmpYes X9.here hx rfl (pc0 := 20) (pc' := 26) rfl (hb hby dsc_20) rfl (XT.ii_le_t hf15) (by decide) (by decide) ?_
    show Steps p.tables e below (T9.setTop (mkF m 26 #[.val (.ref o0), .val (.int (1 : Int32)), .val (.ref o2), .val (.int (1 : Int32)), .val (.int (2 : Int32)), .val (.int (1 : Int32)), .val (.int x1)] [])) _
    refine XS.aloadN X9.here hx rfl (hb hby dsc_26) rfl rfl ?_
    show Steps p.tables e below (T9.setTop (mkF m 27 #[.val (.ref o0), .val (.int (1 : Int32)), .val (.ref o2), .val (.int (1 : Int32)), .val (.int (2 : Int32)), .val (.int (1 : Int32)), .val (.int x1)] [(.ref o2)])) _
    refine XS.iloadN X9.here hx rfl (hb hby dsc_27) rfl ?_
    show Steps p.tables e below (T9.setTop (mkF m 28 #[.val (.ref o0), .val (.int (1 : Int32)), .val (.ref o2), .val (.int (1 : Int32)), .val (.int (2 : Int32)), .val (.int (1 : Int32)), .val (.int x1)] [(.int (1 : Int32)), (.ref o2)])) _
    refine XS.iload X9.here hx rfl (hb hby dsc_28) rfl ?_
    show Steps p.tables e below (T9.setTop (mkF m 30 #[.val (.ref o0), .val (.int (1 : Int32)), .val (.ref o2), .val (.int (1 : Int32)), .val (.int (2 : Int32)), .val (.int (1 : Int32)), .val (.int x1)] [(.int x1), (.int (1 : Int32)), (.ref o2)])) _
    refine XS.i2b X9.here hx rfl (hb hby dsc_30) rfl ?_
    show Steps p.tables e below (T9.setTop (mkF m 31 #[.val (.ref o0), .val (.int (1 : Int32)), .val (.ref o2), .val (.int (1 : Int32)), .val (.int (2 : Int32)), .val (.int (1 : Int32)), .val (.int x1)] [(.int (x1.toInt8.toInt32)), (.int (1 : Int32)), (.ref o2)])) _
    exact k)
  have K_17 : ∀ t, Steps p.tables e below (T9.setTop (mkF m 31 #[.val (.ref o0), .val (.int (1 : Int32)), .val (.ref o2), .val (.int (1 : Int32)), .val (.int (2 : Int32)), .val (.int (1 : Int32)), .val (.int x1)] [(.int (x1.toInt8.toInt32)), (.int (1 : Int32)), (.ref o2)])) t → Steps p.tables e below S0 t := K16
  obtain ⟨cl18, Ar18, qa18, sa18, na18, ha18, ga18⟩ := id V_o2__9
  have hin18 : ¬ ((1 : Int32) < 0 ∨ cl18.slots.size ≤ ((1 : Int32)).toNatClampNeg) := inb_of sa18 ⟨by decide, by decide⟩
  obtain ⟨T18, h18, X18, e18, W18, st18⟩ := stB X9 hx hZ e9 Ar18 (j := (1 : Int32)) hin18 (g := (mkF m 31 #[.val (.ref o0), .val (.int (1 : Int32)), .val (.ref o2), .val (.int (1 : Int32)), .val (.int (2 : Int32)), .val (.int (1 : Int32)), .val (.int x1)] [(.int (x1.toInt8.toInt32)), (.int (1 : Int32)), (.ref o2)])) rfl rfl (hb hby dsc_31)
  have V_o2__18 : Arv Z h18 o2 kb .byte (2 : Int32) [(.int (nar .byte (x0.toInt8.toInt32))), (.int (nar .byte (x1.toInt8.toInt32)))] (.int (0 : Int32)) := Arv.set Ar18 qa18 sa18 na18 ha18 ga18 (fits_nar_byte _) W18 1 rfl (Nat.le_of_ble_eq_true rfl)
  have V_o0__18 := V_o0__9.other W18 ne_o0_o2
  have N18 := Fr.snoc X18 N9 g_o2
  have Zs18 : n0 ≤ h18.size := Nat.le_trans Zs9 (Nat.le_of_eq W18.size.symm)
  have Kc18 : Keep h0 h18 [o2] := Kc9.wr W18 (Or.inl (List.mem_of_getElem? (i := 0) rfl))
  have K18 : ∀ t, Steps p.tables e below (T18.setTop (mkF m 32 #[.val (.ref o0), .val (.int (1 : Int32)), .val (.ref o2), .val (.int (1 : Int32)), .val (.int (2 : Int32)), .val (.int (1 : Int32)), .val (.int x1)] [])) t → Steps p.tables e below S0 t := fun t k => K_17 t (st18 t k)
  have K19 : ∀ t, Steps p.tables e below (T18.setTop (mkF m 7 #[.val (.ref o0), .val (.int (2 : Int32)), .val (.ref o2), .val (.int (2 : Int32)), .val (.int (2 : Int32)), .val (.int (2 : Int32)), .val (.int x1)] [(.int (2 : Int32)), (.int (2 : Int32))])) t → Steps p.tables e below S0 t := fun t k => K18 t (by
    refine XS.iinc X18.here hx rfl (hb hby dsc_32) rfl (l' := #[.val (.ref o0), .val (.int (2 : Int32)), .val (.ref o2), .val (.int (1 : Int32)), .val (.int (2 : Int32)), .val (.int (1 : Int32)), .val (.int x1)]) rfl ?_
    show Steps p.tables e below (T18.setTop (mkF m 35 #[.val (.ref o0), .val (.int (2 : Int32)), .val (.ref o2), .val (.int (1 : Int32)), .val (.int (2 : Int32)), .val (.int (1 : Int32)), .val (.int x1)] [])) _
    refine XS.iinc X18.here hx rfl (hb hby dsc_35) rfl (l' := #[.val (.ref o0), .val (.int (2 : Int32)), .val (.ref o2), .val (.int (2 : Int32)), .val (.int (2 : Int32)), .val (.int (1 : Int32)), .val (.int x1)]) rfl ?_
    show Steps p.tables e below (T18.setTop (mkF m 38 #[.val (.ref o0), .val (.int (2 : Int32)), .val (.ref o2), .val (.int (2 : Int32)), .val (.int (2 : Int32)), .val (.int (1 : Int32)), .val (.int x1)] [])) _
    refine XS.iinc X18.here hx rfl (hb hby dsc_38) rfl (l' := #[.val (.ref o0), .val (.int (2 : Int32)), .val (.ref o2), .val (.int (2 : Int32)), .val (.int (2 : Int32)), .val (.int (2 : Int32)), .val (.int x1)]) rfl ?_
    show Steps p.tables e below (T18.setTop (mkF m 41 #[.val (.ref o0), .val (.int (2 : Int32)), .val (.ref o2), .val (.int (2 : Int32)), .val (.int (2 : Int32)), .val (.int (2 : Int32)), .val (.int x1)] [])) _
    refine XS.goto X18.here hx rfl (pc0 := 41) (pc' := 3) rfl (hb hby dsc_41) (by decide) (by decide) ?_
    show Steps p.tables e below (T18.setTop (mkF m 3 #[.val (.ref o0), .val (.int (2 : Int32)), .val (.ref o2), .val (.int (2 : Int32)), .val (.int (2 : Int32)), .val (.int (2 : Int32)), .val (.int x1)] [])) _
    refine XS.iload X18.here hx rfl (hb hby dsc_3) rfl ?_
    show Steps p.tables e below (T18.setTop (mkF m 5 #[.val (.ref o0), .val (.int (2 : Int32)), .val (.ref o2), .val (.int (2 : Int32)), .val (.int (2 : Int32)), .val (.int (2 : Int32)), .val (.int x1)] [(.int (2 : Int32))])) _
    refine XS.iload X18.here hx rfl (hb hby dsc_5) rfl ?_
    show Steps p.tables e below (T18.setTop (mkF m 7 #[.val (.ref o0), .val (.int (2 : Int32)), .val (.ref o2), .val (.int (2 : Int32)), .val (.int (2 : Int32)), .val (.int (2 : Int32)), .val (.int x1)] [(.int (2 : Int32)), (.int (2 : Int32))])) _
    exact k)
  have K20 : ∀ t, Steps p.tables e below (T18.setTop (mkF m 46 #[.val (.ref o0), .val (.int (2 : Int32)), .val (.ref o2), .val (.int (2 : Int32)), .val (.int (2 : Int32)), .val (.int (2 : Int32)), .val (.int x1)] [(.int (2 : Int32))])) t → Steps p.tables e below S0 t := fun t k => K19 t (by
    refine XS.icmpYes X18.here hx rfl (pc0 := 7) (pc' := 44) rfl (hb hby dsc_7) rfl (XT.ii_ge_t (by decide)) (by decide) (by decide) ?_
    show Steps p.tables e below (T18.setTop (mkF m 44 #[.val (.ref o0), .val (.int (2 : Int32)), .val (.ref o2), .val (.int (2 : Int32)), .val (.int (2 : Int32)), .val (.int (2 : Int32)), .val (.int x1)] [])) _
    refine XS.iload X18.here hx rfl (hb hby dsc_44) rfl ?_
    show Steps p.tables e below (T18.setTop (mkF m 46 #[.val (.ref o0), .val (.int (2 : Int32)), .val (.ref o2), .val (.int (2 : Int32)), .val (.int (2 : Int32)), .val (.int (2 : Int32)), .val (.int x1)] [(.int (2 : Int32))])) _
    exact k)
  obtain ⟨fs, hr, hrun, hended, hW, hsame⟩ := X18.leave (v := some (.int (2 : Int32))) (fun h => by rw [Bd.returns] at h; cases h) hlk
  refine ⟨_, _, ?_, hrun, hended, _, _, rfl, ?_, ⟨_, rfl⟩, hW, hsame.mono (by decide) (by decide)⟩
  · rw [← hS0]; exact K20 _ (retI X18 hx Bd.returns (hb hby dsc_46) hr)
  · show Qsc Z o0 o2 ka kb x0 x1 h0 n0 _ T18.heap _
    rw [e18]
    exact ⟨rfl, N18, Kc18, V_o2__18⟩
theorem dsd_0 : decode jdk_52_method_16_code 0 = .ok (.iload_n 2, 1) := by decide +kernel
theorem dsd_1 : decode jdk_52_method_16_code 1 = .ok (.newarray .byte, 2) := by decide +kernel
theorem dsd_3 : decode jdk_52_method_16_code 3 = .ok (.astore_n 3, 1) := by decide +kernel
theorem dsd_4 : decode jdk_52_method_16_code 4 = .ok (.aload_n 0, 1) := by decide +kernel
theorem dsd_5 : decode jdk_52_method_16_code 5 = .ok (.iload_n 1, 1) := by decide +kernel
theorem dsd_6 : decode jdk_52_method_16_code 6 = .ok (.aload_n 3, 1) := by decide +kernel
theorem dsd_7 : decode jdk_52_method_16_code 7 = .ok (.iconst 0, 1) := by decide +kernel
theorem dsd_8 : decode jdk_52_method_16_code 8 = .ok (.iload_n 2, 1) := by decide +kernel
theorem dsd_9 : decode jdk_52_method_16_code 9 = .ok (.invokestatic 115, 3) := by decide +kernel
theorem dsd_12 : decode jdk_52_method_16_code 12 = .ok (.istore 4, 2) := by decide +kernel
theorem dsd_14 : decode jdk_52_method_16_code 14 = .ok (.iload 4, 2) := by decide +kernel
theorem dsd_16 : decode jdk_52_method_16_code 16 = .ok (.iload_n 2, 1) := by decide +kernel
theorem dsd_17 : decode jdk_52_method_16_code 17 = .ok (.if_icmp .eq 40, 3) := by decide +kernel
theorem dsd_57 : decode jdk_52_method_16_code 57 = .ok (.aload_n 3, 1) := by decide +kernel
theorem dsd_58 : decode jdk_52_method_16_code 58 = .ok (.areturn, 1) := by decide +kernel
theorem pnsd : plainName "java/lang/StringUTF16" = true := by first | (simp [plainName, overriddenIn]; done) | decide +kernel
theorem pdsd_0 : parseMethodDescriptor "([CI[BII)I" = some ⟨[(.array .char), .int, (.array .byte), .int, .int], some .int⟩ := by decide +kernel
theorem efsd (m : MethodId) (o0 : Addr) : entryFrame m #[(.ref o0), (.int (0 : Int32)), (.int (2 : Int32))] 6 = mkF m 0 #[.val (.ref o0), .val (.int (0 : Int32)), .val (.int (2 : Int32)), .unset, .unset, .unset] [] := by first | (simp [entryFrame, mkF, argsToLocals, Value.category]; done) | rfl
def Qsd (Z : State) (o0 : Addr) (ka : ClassId) (x0 : Int32) (x1 : Int32) (h0 : Heap) (n0 : Nat) (v : Option Value) (h : Heap) (L : List Loc) : Prop := ∃ (b2 : Addr) (k2 : ClassId), v = some (.ref b2) ∧ Fr n0 L ∧ Keep h0 h [] ∧ h0.size ≤ b2 ∧ Arv Z h b2 k2 .byte (2 : Int32) [(.int (nar .byte (x0.toInt8.toInt32))), (.int (nar .byte (x1.toInt8.toInt32)))] (.int (0 : Int32))
set_option maxRecDepth 65536 in
set_option maxHeartbeats 40000000 in
theorem rmsd (l : Launch) (Z : State) (a0 : Array Value) (hw : ∀ d ∈ tables_1, d.before a0 Z = true) (ws : List Jvm.Cond) (o0 : Addr) (ka : ClassId) (x0 : Int32) (x1 : Int32) (h0 : Heap) (n0 : Nat) (Z0 : n0 ≤ h0.size) (V_o0 : Arv Z h0 o0 ka .char (2 : Int32) [(.int x0), (.int x1)] (.int (0 : Int32))) (hx0 : ¬ (255 : Int32) < x0) (hx1 : ¬ (255 : Int32) < x1) :
    MetFree l (⟨"java/lang/StringUTF16", "compress", "([CII)[B"⟩ : MethodName) (head1 (Jvm.Cond.code (⟨"java/lang/StringUTF16", "compress", "([CII)[B"⟩ : MethodName) jdk_52_method_16_code 6 (some (.array .byte)) :: ws) ({ frames := 1, cells := 1, slots := 2, locals := 18 } : Room)) (fun a U => a = #[(.ref o0), (.int (0 : Int32)), (.int (2 : Int32))] ∧ Z.Warmed39 U.vm ∧ U.heap = h0) (fun _ _ _ _ _ => True) (fun _ U o U' => ∃ v L, o = .returned v ∧ Qsd Z o0 ka x0 x1 h0 n0 v U'.heap L ∧ FrameEnd U o U' L ({ frames := 1, cells := 1, slots := 2, locals := 18 } : Room).cells ({ frames := 1, cells := 1, slots := 2, locals := 18 } : Room).slots) := by
  refine MetFree.of_bodySF (plainFor_of_name pnsd) hisR ?_
  intro p e s m args below meth c s₁ Bd hml0 hP hK
  obtain ⟨rfl, hZ, hh⟩ := hP
  have hlk : meth.locks = false := BodyLoose.notSynchronized Bd
  have hx := Bd.exec
  have hby := Bd.bytes
  have hml : c.maxLocals = 6 := hml0
  have hown : s.vm.findClass "java/lang/StringUTF16" = some m.cls := findClass_of_methodNamed Bd.named
  have hnm := (name_of_methodNamed Bd.named Bd.method).1
  have X0 : Stand p l e ({ frames := 1, cells := 1, slots := 2, locals := 18 } : Room) s m #[(.ref o0), (.int (0 : Int32)), (.int (2 : Int32))] below meth c s₁ [] 0 0 := Stand.of_body Bd
  have e0 : s₁.heap = h0 := by rw [← hh, Bd.state]; rfl
  have N0 := Fr.nil n0
  obtain ⟨S0, hS0⟩ : ∃ S0, S0 = s₁.setTop (entryFrame m #[(.ref o0), (.int (0 : Int32)), (.int (2 : Int32))] 6) := ⟨_, rfl⟩
  have pre0 : ∀ t, Steps p.tables e below (s₁.setTop (mkF m 0 #[.val (.ref o0), .val (.int (0 : Int32)), .val (.int (2 : Int32)), .unset, .unset, .unset] [])) t → Steps p.tables e below S0 t := fun t k => by rw [hS0]; exact castTop (efsd m o0) k
  have K1 : ∀ t, Steps p.tables e below (s₁.setTop (mkF m 1 #[.val (.ref o0), .val (.int (0 : Int32)), .val (.int (2 : Int32)), .unset, .unset, .unset] [(.int (2 : Int32))])) t → Steps p.tables e below S0 t := fun t k => pre0 t (by
    refine XS.iloadN X0.here hx rfl (hb hby dsd_0) rfl ?_
    show Steps p.tables e below (s₁.setTop (mkF m 1 #[.val (.ref o0), .val (.int (0 : Int32)), .val (.int (2 : Int32)), .unset, .unset, .unset] [(.int (2 : Int32))])) _
    exact k)
  obtain ⟨T2, h2, k2, X2, e2, E2, A2, st2⟩ := newP X0 hx hZ (hw _ (List.mem_of_getElem? (i := 19) rfl)) e0 (g := (mkF m 1 #[.val (.ref o0), .val (.int (0 : Int32)), .val (.int (2 : Int32)), .unset, .unset, .unset] [(.int (2 : Int32))])) rfl (hb hby dsd_1) rfl (by decide) (cap := 2) (by decide) (by decide) (by decide) (by decide)
  obtain ⟨b2, g2⟩ : ∃ z, z = h0.size := ⟨_, rfl⟩
  rw [← g2] at A2 st2
  have ne_o0_b2 : o0 ≠ b2 := Nat.ne_of_lt (Nat.lt_of_lt_of_le V_o0.lt (Nat.le_of_eq g2.symm))
  have V_o0__2 := V_o0.ext E2
  have g_b2 : n0 ≤ b2 := Nat.le_trans Z0 (Nat.le_of_eq g2.symm)
  have Zs2 : n0 ≤ h2.size := Nat.le_trans Z0 E2.1
  have sz_b2 : h0.size ≤ b2 := Nat.le_trans (Keep.refl h0 []).1 (Nat.le_of_eq g2.symm)
  have Kc2 : Keep h0 h2 [] := (Keep.refl h0 []).ext E2
  have V_b2 : Arv Z h2 b2 k2 .byte (2 : Int32) [(.int (0 : Int32)), (.int (0 : Int32))] (.int (0 : Int32)) := (Arv.new A2 (by decide)).pad (pad_rep [] (.int (0 : Int32)) 2)
  have K2 : ∀ t, Steps p.tables e below (T2.setTop (mkF m 3 #[.val (.ref o0), .val (.int (0 : Int32)), .val (.int (2 : Int32)), .unset, .unset, .unset] [(.ref b2)])) t → Steps p.tables e below S0 t := fun t k => K1 t (st2 t k)
  have K3 : ∀ t, Steps p.tables e below (T2.setTop (mkF m 9 #[.val (.ref o0), .val (.int (0 : Int32)), .val (.int (2 : Int32)), .val (.ref b2), .unset, .unset] [(.int (2 : Int32)), (.int (0 : Int32)), (.ref b2), (.int (0 : Int32)), (.ref o0)])) t → Steps p.tables e below S0 t := fun t k => K2 t (by
    refine XS.astoreN X2.here hx rfl (hb hby dsd_3) rfl rfl (l' := #[.val (.ref o0), .val (.int (0 : Int32)), .val (.int (2 : Int32)), .val (.ref b2), .unset, .unset]) rfl ?_
    show Steps p.tables e below (T2.setTop (mkF m 4 #[.val (.ref o0), .val (.int (0 : Int32)), .val (.int (2 : Int32)), .val (.ref b2), .unset, .unset] [])) _
    refine XS.aloadN X2.here hx rfl (hb hby dsd_4) rfl rfl ?_
    show Steps p.tables e below (T2.setTop (mkF m 5 #[.val (.ref o0), .val (.int (0 : Int32)), .val (.int (2 : Int32)), .val (.ref b2), .unset, .unset] [(.ref o0)])) _
    refine XS.iloadN X2.here hx rfl (hb hby dsd_5) rfl ?_
    show Steps p.tables e below (T2.setTop (mkF m 6 #[.val (.ref o0), .val (.int (0 : Int32)), .val (.int (2 : Int32)), .val (.ref b2), .unset, .unset] [(.int (0 : Int32)), (.ref o0)])) _
    refine XS.aloadN X2.here hx rfl (hb hby dsd_6) rfl rfl ?_
    show Steps p.tables e below (T2.setTop (mkF m 7 #[.val (.ref o0), .val (.int (0 : Int32)), .val (.int (2 : Int32)), .val (.ref b2), .unset, .unset] [(.ref b2), (.int (0 : Int32)), (.ref o0)])) _
    refine XS.iconst X2.here hx rfl (hb hby dsd_7) ?_
    show Steps p.tables e below (T2.setTop (mkF m 8 #[.val (.ref o0), .val (.int (0 : Int32)), .val (.int (2 : Int32)), .val (.ref b2), .unset, .unset] [(.int (0 : Int32)), (.ref b2), (.int (0 : Int32)), (.ref o0)])) _
    refine XS.iloadN X2.here hx rfl (hb hby dsd_8) rfl ?_
    show Steps p.tables e below (T2.setTop (mkF m 9 #[.val (.ref o0), .val (.int (0 : Int32)), .val (.int (2 : Int32)), .val (.ref b2), .unset, .unset] [(.int (2 : Int32)), (.int (0 : Int32)), (.ref b2), (.int (0 : Int32)), (.ref o0)])) _
    exact k)
  have K_4 : ∀ t, Steps p.tables e below (T2.setTop (mkF m 9 #[.val (.ref o0), .val (.int (0 : Int32)), .val (.int (2 : Int32)), .val (.ref b2), .unset, .unset] [(.int (2 : Int32)), (.int (0 : Int32)), (.ref b2), (.int (0 : Int32)), (.ref o0)])) t → Steps p.tables e below S0 t := K3
  obtain ⟨_, _, ⟨T5, L5, k5, n5⟩, -, X5, ⟨Lc5, hQ5, l5, y5, z5⟩, st5⟩ := Jvm.LawKit.callS X2 hx (y := (⟨"java/lang/StringUTF16", "compress", "([CI[BII)I"⟩ : MethodName)) hown (mvT hZ (hw _ (List.mem_of_getElem? (i := 20) rfl))) (mvT hZ (hw _ (List.mem_of_getElem? (i := 21) rfl))) (mvT hZ (hw _ (List.mem_of_getElem? (i := 17) rfl))) (mvT hZ (hw _ (List.mem_of_getElem? (i := 22) rfl))) (by decide) (backOf (W := 0) (rmsc l Z a0 hw [] o0 b2 ka k2 x0 x1 h2 n0 Zs2 V_o0__2 V_b2 g_b2 hx0 hx1 ne_o0_b2) hZ (hw _ (List.mem_of_getElem? (i := 22) rfl)) (hw _ (List.mem_of_getElem? (i := 17) rfl)) (by decide) (by decide)) (g := (mkF m 9 #[.val (.ref o0), .val (.int (0 : Int32)), .val (.int (2 : Int32)), .val (.ref b2), .unset, .unset] [(.int (2 : Int32)), (.int (0 : Int32)), (.ref b2), (.int (0 : Int32)), (.ref o0)])) rfl (by rw [hml]; rfl) (argsL := [(.ref o0), (.int (0 : Int32)), (.ref b2), (.int (0 : Int32)), (.int (2 : Int32))]) (rest := []) (lenOf pdsd_0 rfl) rfl (by show 2 * 0 + _ ≤ _; exact Nat.le_of_eq rfl) (hb hby dsd_9) (fun _ _ => ⟨rfl, e2, (by decide : 1 + 0 ≤ 1), (by decide : 2 + 0 ≤ 2)⟩)
  dsimp only [Pt.U, Pt.locs, Pt.cells, Pt.slots] at X5 l5 y5 z5 st5 hQ5
  subst l5 y5 z5
  obtain ⟨rfl, N5q, Kp5, Fn5_0⟩ := hQ5
  have N5 := Fr.app N0 N5q
  have V_o0__5 := V_o0__2.keep Kp5 (ninS ne_o0_b2 nin0)
  have Zs5 : n0 ≤ T5.heap.size := Nat.le_trans Zs2 Kp5.1
  have Kc5 : Keep h0 T5.heap [] := Kc2.trans Kp5 (allS (P := fun x => x ∈ [] ∨ h0.size ≤ x) (Or.inr sz_b2) all0)
  have K5 : ∀ t, Steps p.tables e below (T5.setTop (mkF m 12 #[.val (.ref o0), .val (.int (0 : Int32)), .val (.int (2 : Int32)), .val (.ref b2), .unset, .unset] [(.int (2 : Int32))])) t → Steps p.tables e below S0 t := fun t k => K_4 t (st5 t k)
  have K6 : ∀ t, Steps p.tables e below (T5.setTop (mkF m 17 #[.val (.ref o0), .val (.int (0 : Int32)), .val (.int (2 : Int32)), .val (.ref b2), .val (.int (2 : Int32)), .unset] [(.int (2 : Int32)), (.int (2 : Int32))])) t → Steps p.tables e below S0 t := fun t k => K5 t (by
    refine XS.istore X5.here hx rfl (hb hby dsd_12) rfl (l' := #[.val (.ref o0), .val (.int (0 : Int32)), .val (.int (2 : Int32)), .val (.ref b2), .val (.int (2 : Int32)), .unset]) rfl ?_
    show Steps p.tables e below (T5.setTop (mkF m 14 #[.val (.ref o0), .val (.int (0 : Int32)), .val (.int (2 : Int32)), .val (.ref b2), .val (.int (2 : Int32)), .unset] [])) _
    refine XS.iload X5.here hx rfl (hb hby dsd_14) rfl ?_
    show Steps p.tables e below (T5.setTop (mkF m 16 #[.val (.ref o0), .val (.int (0 : Int32)), .val (.int (2 : Int32)), .val (.ref b2), .val (.int (2 : Int32)), .unset] [(.int (2 : Int32))])) _
    refine XS.iloadN X5.here hx rfl (hb hby dsd_16) rfl ?_
    show Steps p.tables e below (T5.setTop (mkF m 17 #[.val (.ref o0), .val (.int (0 : Int32)), .val (.int (2 : Int32)), .val (.ref b2), .val (.int (2 : Int32)), .unset] [(.int (2 : Int32)), (.int (2 : Int32))])) _
    exact k)
  have K7 : ∀ t, Steps p.tables e below (T5.setTop (mkF m 58 #[.val (.ref o0), .val (.int (0 : Int32)), .val (.int (2 : Int32)), .val (.ref b2), .val (.int (2 : Int32)), .unset] [(.ref b2)])) t → Steps p.tables e below S0 t := fun t k => K6 t (by
    refine XS.icmpYes X5.here hx rfl (pc0 := 17) (pc' := 57) rfl (hb hby dsd_17) rfl (XT.ii_eq_t (by decide)) (by decide) (by decide) ?_
    show Steps p.tables e below (T5.setTop (mkF m 57 #[.val (.ref o0), .val (.int (0 : Int32)), .val (.int (2 : Int32)), .val (.ref b2), .val (.int (2 : Int32)), .unset] [])) _
    refine XS.aloadN X5.here hx rfl (hb hby dsd_57) rfl rfl ?_
    show Steps p.tables e below (T5.setTop (mkF m 58 #[.val (.ref o0), .val (.int (0 : Int32)), .val (.int (2 : Int32)), .val (.ref b2), .val (.int (2 : Int32)), .unset] [(.ref b2)])) _
    exact k)
  obtain ⟨fs, hr, hrun, hended, hW, hsame⟩ := X5.leave (v := some (.ref b2)) (fun h => by rw [Bd.returns] at h; cases h) hlk
  refine ⟨_, _, ?_, hrun, hended, _, _, rfl, ?_, ⟨_, rfl⟩, hW, hsame.mono (by decide) (by decide)⟩
  · rw [← hS0]; exact K7 _ (retOut X5 hx Bd.returns rfl (Or.inr (Or.inr (Or.inr (Or.inr ⟨rfl, rfl, rfl⟩)))) (hb hby dsd_58) hr)
  · show Qsd Z o0 ka x0 x1 h0 n0 _ T5.heap _
    exact ⟨b2, k2, rfl, N5, Kc5, sz_b2, Fn5_0⟩
theorem dsk_0 : decode jdk_52_method_15_code 0 = .ok (.iload_n 1, 1) := by decide +kernel
theorem dsk_1 : decode jdk_52_method_15_code 1 = .ok (.aload_n 0, 1) := by decide +kernel
theorem dsk_2 : decode jdk_52_method_15_code 2 = .ok (.arraylength, 1) := by decide +kernel
theorem dsk_3 : decode jdk_52_method_15_code 3 = .ok (.isub, 1) := by decide +kernel
theorem dsk_4 : decode jdk_52_method_15_code 4 = .ok (.bipush 31, 2) := by decide +kernel
theorem dsk_6 : decode jdk_52_method_15_code 6 = .ok (.iushr, 1) := by decide +kernel
theorem dsk_7 : decode jdk_52_method_15_code 7 = .ok (.i2b, 1) := by decide +kernel
theorem dsk_8 : decode jdk_52_method_15_code 8 = .ok (.ireturn, 1) := by decide +kernel
theorem pnsk : plainName "java/lang/StringUTF16" = true := by first | (simp [plainName, overriddenIn]; done) | decide +kernel
theorem efsk (m : MethodId) (o0 : Addr) : entryFrame m #[(.ref o0), (.int (2 : Int32))] 2 = mkF m 0 #[.val (.ref o0), .val (.int (2 : Int32))] [] := by first | (simp [entryFrame, mkF, argsToLocals, Value.category]; done) | rfl
def Qsk (Z : State) (o0 : Addr) (kb : ClassId) (y0 : Int32) (y1 : Int32) (h0 : Heap) (n0 : Nat) (v : Option Value) (h : Heap) (L : List Loc) : Prop := v = some (.int wsk_r1) ∧ Fr n0 L ∧ h = h0
set_option maxRecDepth 65536 in
set_option maxHeartbeats 40000000 in
theorem rmsk (l : Launch) (Z : State) (a0 : Array Value) (hw : ∀ d ∈ tables_1, d.before a0 Z = true) (ws : List Jvm.Cond) (o0 : Addr) (kb : ClassId) (y0 : Int32) (y1 : Int32) (h0 : Heap) (n0 : Nat) (Z0 : n0 ≤ h0.size) (V_o0 : Arv Z h0 o0 kb .byte (2 : Int32) [(.int y0), (.int y1)] (.int (0 : Int32))) :
    MetFree l (⟨"java/lang/StringUTF16", "coderFromArrayLen", "([BI)B"⟩ : MethodName) (head1 (Jvm.Cond.code (⟨"java/lang/StringUTF16", "coderFromArrayLen", "([BI)B"⟩ : MethodName) jdk_52_method_15_code 2 (some .byte) :: ws) ({ frames := 0, cells := 0, slots := 0, locals := 0 } : Room)) (fun a U => a = #[(.ref o0), (.int (2 : Int32))] ∧ Z.Warmed39 U.vm ∧ U.heap = h0) (fun _ _ _ _ _ => True) (fun _ U o U' => ∃ v L, o = .returned v ∧ Qsk Z o0 kb y0 y1 h0 n0 v U'.heap L ∧ FrameEnd U o U' L ({ frames := 0, cells := 0, slots := 0, locals := 0 } : Room).cells ({ frames := 0, cells := 0, slots := 0, locals := 0 } : Room).slots) := by
  refine MetFree.of_bodySF (plainFor_of_name pnsk) hisR ?_
  intro p e s m args below meth c s₁ Bd hml0 hP hK
  obtain ⟨rfl, hZ, hh⟩ := hP
  have hlk : meth.locks = false := BodyLoose.notSynchronized Bd
  have hx := Bd.exec
  have hby := Bd.bytes
  have hml : c.maxLocals = 2 := hml0
  have hown : s.vm.findClass "java/lang/StringUTF16" = some m.cls := findClass_of_methodNamed Bd.named
  have hnm := (name_of_methodNamed Bd.named Bd.method).1
  have X0 : Stand p l e ({ frames := 0, cells := 0, slots := 0, locals := 0 } : Room) s m #[(.ref o0), (.int (2 : Int32))] below meth c s₁ [] 0 0 := Stand.of_body Bd
  have e0 : s₁.heap = h0 := by rw [← hh, Bd.state]; rfl
  have N0 := Fr.nil n0
  obtain ⟨S0, hS0⟩ : ∃ S0, S0 = s₁.setTop (entryFrame m #[(.ref o0), (.int (2 : Int32))] 2) := ⟨_, rfl⟩
  have pre0 : ∀ t, Steps p.tables e below (s₁.setTop (mkF m 0 #[.val (.ref o0), .val (.int (2 : Int32))] [])) t → Steps p.tables e below S0 t := fun t k => by rw [hS0]; exact castTop (efsk m o0) k
  have K1 : ∀ t, Steps p.tables e below (s₁.setTop (mkF m 2 #[.val (.ref o0), .val (.int (2 : Int32))] [(.ref o0), (.int (2 : Int32))])) t → Steps p.tables e below S0 t := fun t k => pre0 t (by
    refine XS.iloadN X0.here hx rfl (hb hby dsk_0) rfl ?_
    show Steps p.tables e below (s₁.setTop (mkF m 1 #[.val (.ref o0), .val (.int (2 : Int32))] [(.int (2 : Int32))])) _
    refine XS.aloadN X0.here hx rfl (hb hby dsk_1) rfl rfl ?_
    show Steps p.tables e below (s₁.setTop (mkF m 2 #[.val (.ref o0), .val (.int (2 : Int32))] [(.ref o0), (.int (2 : Int32))])) _
    exact k)
  obtain ⟨cl2, Ar2, qa2, sa2, na2, ha2, ga2⟩ := id V_o0
  have K2 : ∀ t, Steps p.tables e below (s₁.setTop (mkF m 3 #[.val (.ref o0), .val (.int (2 : Int32))] [(.int (2 : Int32)), (.int (2 : Int32))])) t → Steps p.tables e below S0 t := fun t k => K1 t (X0.arraylength hx (by rw [e0]; exact Ar2.1) (State.isArrayOf_alike hZ.alike Ar2.2.1) (g := (mkF m 2 #[.val (.ref o0), .val (.int (2 : Int32))] [(.ref o0), (.int (2 : Int32))])) rfl rfl (hb hby dsk_2) _ (by rw [len_of sa2 na2]; exact k))
  have K3 : ∀ t, Steps p.tables e below (s₁.setTop (mkF m 8 #[.val (.ref o0), .val (.int (2 : Int32))] [(.int ((((0 : Int32).toUInt32 >>> ((31 : Int32) &&& 31).toUInt32).toInt32).toInt8.toInt32))])) t → Steps p.tables e below S0 t := fun t k => K2 t (by
    refine XS.isub X0.here hx rfl (hb hby dsk_3) rfl ?_
    show Steps p.tables e below (s₁.setTop (mkF m 4 #[.val (.ref o0), .val (.int (2 : Int32))] [(.int (0 : Int32))])) _
    refine XS.bipush X0.here hx rfl (hb hby dsk_4) ?_
    show Steps p.tables e below (s₁.setTop (mkF m 6 #[.val (.ref o0), .val (.int (2 : Int32))] [(.int (31 : Int32)), (.int (0 : Int32))])) _
    refine XS.iushr X0.here hx rfl (hb hby dsk_6) rfl ?_
    show Steps p.tables e below (s₁.setTop (mkF m 7 #[.val (.ref o0), .val (.int (2 : Int32))] [(.int (((0 : Int32).toUInt32 >>> ((31 : Int32) &&& 31).toUInt32).toInt32))])) _
    refine XS.i2b X0.here hx rfl (hb hby dsk_7) rfl ?_
    show Steps p.tables e below (s₁.setTop (mkF m 8 #[.val (.ref o0), .val (.int (2 : Int32))] [(.int ((((0 : Int32).toUInt32 >>> ((31 : Int32) &&& 31).toUInt32).toInt32).toInt8.toInt32))])) _
    exact k)
  obtain ⟨fs, hr, hrun, hended, hW, hsame⟩ := X0.leave (v := some (.int (nar .byte ((((0 : Int32).toUInt32 >>> ((31 : Int32) &&& 31).toUInt32).toInt32).toInt8.toInt32)))) (fun h => by rw [Bd.returns] at h; cases h) hlk
  refine ⟨_, _, ?_, hrun, hended, _, _, rfl, ?_, ⟨_, rfl⟩, hW, hsame.mono (by decide) (by decide)⟩
  · rw [← hS0]; exact K3 _ (retN X0 hx (t := .byte) Bd.returns (by simp) (hb hby dsk_8) hr)
  · show Qsk Z o0 kb y0 y1 h0 n0 _ s₁.heap _
    rw [e0]
    have qr : (nar .byte ((((0 : Int32).toUInt32 >>> ((31 : Int32) &&& 31).toUInt32).toInt32).toInt8.toInt32)) = wsk_r1 := rfl
    exact ⟨congrArg (fun z => some (Value.int z)) qr, N0, rfl⟩
theorem dsv_0 : decode jdk_42_method_149_code 0 = .ok (.aload_n 0, 1) := by decide +kernel
theorem dsv_1 : decode jdk_42_method_149_code 1 = .ok (.invokespecial 1, 3) := by decide +kernel
theorem dsv_4 : decode jdk_42_method_149_code 4 = .ok (.iload_n 3, 1) := by decide +kernel
theorem dsv_5 : decode jdk_42_method_149_code 5 = .ok (.ifCond .ne 22, 3) := by decide +kernel
theorem dsv_27 : decode jdk_42_method_149_code 27 = .ok (.getstatic 38, 3) := by decide +kernel
theorem dsv_30 : decode jdk_42_method_149_code 30 = .ok (.ifCond .eq 28, 3) := by decide +kernel
theorem dsv_33 : decode jdk_42_method_149_code 33 = .ok (.aload_n 1, 1) := by decide +kernel
theorem dsv_34 : decode jdk_42_method_149_code 34 = .ok (.iload_n 2, 1) := by decide +kernel
theorem dsv_35 : decode jdk_42_method_149_code 35 = .ok (.iload_n 3, 1) := by decide +kernel
theorem dsv_36 : decode jdk_42_method_149_code 36 = .ok (.invokestatic 177, 3) := by decide +kernel
theorem dsv_39 : decode jdk_42_method_149_code 39 = .ok (.astore 5, 2) := by decide +kernel
theorem dsv_41 : decode jdk_42_method_149_code 41 = .ok (.aload_n 0, 1) := by decide +kernel
theorem dsv_42 : decode jdk_42_method_149_code 42 = .ok (.aload 5, 2) := by decide +kernel
theorem dsv_44 : decode jdk_42_method_149_code 44 = .ok (.iload_n 3, 1) := by decide +kernel
theorem dsv_45 : decode jdk_42_method_149_code 45 = .ok (.invokestatic 47, 3) := by decide +kernel
theorem dsv_48 : decode jdk_42_method_149_code 48 = .ok (.putfield 15, 3) := by decide +kernel
theorem dsv_51 : decode jdk_42_method_149_code 51 = .ok (.aload_n 0, 1) := by decide +kernel
theorem dsv_52 : decode jdk_42_method_149_code 52 = .ok (.aload 5, 2) := by decide +kernel
theorem dsv_54 : decode jdk_42_method_149_code 54 = .ok (.putfield 9, 3) := by decide +kernel
theorem dsv_57 : decode jdk_42_method_149_code 57 = .ok (.return_, 1) := by decide +kernel
theorem pnsv : plainName "java/lang/String" = true := by first | (simp [plainName, overriddenIn]; done) | decide +kernel
theorem pdsv_0 : parseMethodDescriptor "([CII)[B" = some ⟨[(.array .char), .int, .int], some (.array .byte)⟩ := by decide +kernel
theorem pdsv_1 : parseMethodDescriptor "([BI)B" = some ⟨[(.array .byte), .int], some .byte⟩ := by decide +kernel
theorem efsv (m : MethodId) (o0 : Addr) (o1 : Addr) : entryFrame m #[(.ref o0), (.ref o1), (.int (0 : Int32)), (.int (2 : Int32)), .null] 6 = mkF m 0 #[.val (.ref o0), .val (.ref o1), .val (.int (0 : Int32)), .val (.int (2 : Int32)), .val .null, .unset] [] := by first | (simp [entryFrame, mkF, argsToLocals, Value.category]; done) | rfl
def Qsv (Z : State) (o0 : Addr) (o1 : Addr) (ka : ClassId) (zc : Int32) (x0 : Int32) (x1 : Int32) (h0 : Heap) (n0 : Nat) (v : Option Value) (h : Heap) (L : List Loc) : Prop := ∃ (b10_2 : Addr) (kn10_0 : ClassId), v = none ∧ Fr n0 L ∧ Keep h0 h [o0] ∧ h0.size ≤ b10_2 ∧ Exa Z h o0 "java/lang/String" ∧ Fld Z h o0 "java/lang/String" "value" "[B" (.ref b10_2) ∧ Fld Z h o0 "java/lang/String" "coder" "B" (.int (nar .byte wsk_r1)) ∧ Arv Z h b10_2 kn10_0 .byte (2 : Int32) [(.int (nar .byte (x0.toInt8.toInt32))), (.int (nar .byte (x1.toInt8.toInt32)))] (.int (0 : Int32))
set_option maxRecDepth 65536 in
set_option maxHeartbeats 40000000 in
theorem rmsv (l : Launch) (Z : State) (a0 : Array Value) (hw : ∀ d ∈ tables_1, d.before a0 Z = true) (ws : List Jvm.Cond) (o0 : Addr) (o1 : Addr) (ka : ClassId) (zc : Int32) (x0 : Int32) (x1 : Int32) (h0 : Heap) (n0 : Nat) (Z0 : n0 ≤ h0.size) (E_o0 : Exa Z h0 o0 "java/lang/String") (F_o0_value : Fld Z h0 o0 "java/lang/String" "value" "[B" .null) (F_o0_coder : Fld Z h0 o0 "java/lang/String" "coder" "B" (.int (0 : Int32))) (g_o0 : n0 ≤ o0) (V_o1 : Arv Z h0 o1 ka .char (2 : Int32) [(.int x0), (.int x1)] (.int (0 : Int32))) (S_String_COMPACT_STRINGS : Sta Z h0 "java/lang/String" "COMPACT_STRINGS" "Z" (.int zc)) (hz : ¬ zc = (0 : Int32)) (hx0 : ¬ (255 : Int32) < x0) (hx1 : ¬ (255 : Int32) < x1) (ne_o0_o1 : o0 ≠ o1) :
    MetFree l (⟨"java/lang/String", "<init>", "([CIILjava/lang/Void;)V"⟩ : MethodName) (head1 (Jvm.Cond.code (⟨"java/lang/String", "<init>", "([CIILjava/lang/Void;)V"⟩ : MethodName) jdk_42_method_149_code 6 none :: ws) ({ frames := 2, cells := 1, slots := 2, locals := 35 } : Room)) (fun a U => a = #[(.ref o0), (.ref o1), (.int (0 : Int32)), (.int (2 : Int32)), .null] ∧ Z.Warmed39 U.vm ∧ U.heap = h0) (fun _ _ _ _ _ => True) (fun _ U o U' => ∃ v L, o = .returned v ∧ Qsv Z o0 o1 ka zc x0 x1 h0 n0 v U'.heap L ∧ FrameEnd U o U' L ({ frames := 2, cells := 1, slots := 2, locals := 35 } : Room).cells ({ frames := 2, cells := 1, slots := 2, locals := 35 } : Room).slots) := by
  refine MetFree.of_bodySF (plainFor_of_name pnsv) hisR ?_
  intro p e s m args below meth c s₁ Bd hml0 hP hK
  obtain ⟨rfl, hZ, hh⟩ := hP
  have hlk : meth.locks = false := BodyLoose.notSynchronized Bd
  have hx := Bd.exec
  have hby := Bd.bytes
  have hml : c.maxLocals = 6 := hml0
  have hown : s.vm.findClass "java/lang/String" = some m.cls := findClass_of_methodNamed Bd.named
  have hnm := (name_of_methodNamed Bd.named Bd.method).1
  have X0 : Stand p l e ({ frames := 2, cells := 1, slots := 2, locals := 35 } : Room) s m #[(.ref o0), (.ref o1), (.int (0 : Int32)), (.int (2 : Int32)), .null] below meth c s₁ [] 0 0 := Stand.of_body Bd
  have e0 : s₁.heap = h0 := by rw [← hh, Bd.state]; rfl
  have N0 := Fr.nil n0
  obtain ⟨S0, hS0⟩ : ∃ S0, S0 = s₁.setTop (entryFrame m #[(.ref o0), (.ref o1), (.int (0 : Int32)), (.int (2 : Int32)), .null] 6) := ⟨_, rfl⟩
  have pre0 : ∀ t, Steps p.tables e below (s₁.setTop (mkF m 0 #[.val (.ref o0), .val (.ref o1), .val (.int (0 : Int32)), .val (.int (2 : Int32)), .val .null, .unset] [])) t → Steps p.tables e below S0 t := fun t k => by rw [hS0]; exact castTop (efsv m o0 o1) k
  have K1 : ∀ t, Steps p.tables e below (s₁.setTop (mkF m 1 #[.val (.ref o0), .val (.ref o1), .val (.int (0 : Int32)), .val (.int (2 : Int32)), .val .null, .unset] [(.ref o0)])) t → Steps p.tables e below S0 t := fun t k => pre0 t (by
    refine XS.aloadN X0.here hx rfl (hb hby dsv_0) rfl rfl ?_
    show Steps p.tables e below (s₁.setTop (mkF m 1 #[.val (.ref o0), .val (.ref o1), .val (.int (0 : Int32)), .val (.int (2 : Int32)), .val .null, .unset] [(.ref o0)])) _
    exact k)
  have K_2 : ∀ t, Steps p.tables e below (s₁.setTop (mkF m 1 #[.val (.ref o0), .val (.ref o1), .val (.int (0 : Int32)), .val (.int (2 : Int32)), .val .null, .unset] [(.ref o0)])) t → Steps p.tables e below S0 t := K1
  obtain ⟨T3, X3, e3, st3⟩ := initO X0 hx hZ hown (hw _ (List.mem_of_getElem? (i := 11) rfl)) (hw _ (List.mem_of_getElem? (i := 12) rfl)) (hw _ (List.mem_of_getElem? (i := 13) rfl)) e0 (g := (mkF m 1 #[.val (.ref o0), .val (.ref o1), .val (.int (0 : Int32)), .val (.int (2 : Int32)), .val .null, .unset] [(.ref o0)])) rfl (by rw [hml]; rfl) rfl (hb hby dsv_1) (by decide) (W := 0) (by show 2 * 0 + _ ≤ _; exact Nat.le_of_eq rfl) (by decide)
  have K3 : ∀ t, Steps p.tables e below (T3.setTop (mkF m 4 #[.val (.ref o0), .val (.ref o1), .val (.int (0 : Int32)), .val (.int (2 : Int32)), .val .null, .unset] [])) t → Steps p.tables e below S0 t := fun t k => K_2 t (st3 t k)
  have K4 : ∀ t, Steps p.tables e below (T3.setTop (mkF m 5 #[.val (.ref o0), .val (.ref o1), .val (.int (0 : Int32)), .val (.int (2 : Int32)), .val .null, .unset] [(.int (2 : Int32))])) t → Steps p.tables e below S0 t := fun t k => K3 t (by
    refine XS.iloadN X3.here hx rfl (hb hby dsv_4) rfl ?_
    show Steps p.tables e below (T3.setTop (mkF m 5 #[.val (.ref o0), .val (.ref o1), .val (.int (0 : Int32)), .val (.int (2 : Int32)), .val .null, .unset] [(.int (2 : Int32))])) _
    exact k)
  have K5 : ∀ t, Steps p.tables e below (T3.setTop (mkF m 27 #[.val (.ref o0), .val (.ref o1), .val (.int (0 : Int32)), .val (.int (2 : Int32)), .val .null, .unset] [])) t → Steps p.tables e below S0 t := fun t k => K4 t (by
    refine XS.ifYes X3.here hx rfl (pc0 := 5) (pc' := 27) rfl (hb hby dsv_5) rfl (XT.i0_ne_t (by decide)) (by decide) (by decide) ?_
    show Steps p.tables e below (T3.setTop (mkF m 27 #[.val (.ref o0), .val (.ref o1), .val (.int (0 : Int32)), .val (.int (2 : Int32)), .val .null, .unset] [])) _
    exact k)
  obtain ⟨T6, X6, e6, st6⟩ := getS2 X3 hx hZ hown (host := "") (Or.inl (hw _ (List.mem_of_getElem? (i := 14) rfl))) Via.refl e3 S_String_COMPACT_STRINGS (g := (mkF m 27 #[.val (.ref o0), .val (.ref o1), .val (.int (0 : Int32)), .val (.int (2 : Int32)), .val .null, .unset] [])) rfl (hb hby dsv_27)
  have K6 : ∀ t, Steps p.tables e below (T6.setTop (mkF m 30 #[.val (.ref o0), .val (.ref o1), .val (.int (0 : Int32)), .val (.int (2 : Int32)), .val .null, .unset] [(.int zc)])) t → Steps p.tables e below S0 t := fun t k => K5 t (st6 t k)
  have hf7 : ¬ (zc = (0 : Int32)) := hz
  have K8 : ∀ t, Steps p.tables e below (T6.setTop (mkF m 36 #[.val (.ref o0), .val (.ref o1), .val (.int (0 : Int32)), .val (.int (2 : Int32)), .val .null, .unset] [(.int (2 : Int32)), (.int (0 : Int32)), (.ref o1)])) t → Steps p.tables e below S0 t := fun t k => K6 t (by
    refine XS.ifNo X6.here hx rfl (hb hby dsv_30) rfl (XT.i0_eq_f hf7) ?_
    show Steps p.tables e below (T6.setTop (mkF m 33 #[.val (.ref o0), .val (.ref o1), .val (.int (0 : Int32)), .val (.int (2 : Int32)), .val .null, .unset] [])) _
    refine XS.aloadN X6.here hx rfl (hb hby dsv_33) rfl rfl ?_
    show Steps p.tables e below (T6.setTop (mkF m 34 #[.val (.ref o0), .val (.ref o1), .val (.int (0 : Int32)), .val (.int (2 : Int32)), .val .null, .unset] [(.ref o1)])) _
    refine XS.iloadN X6.here hx rfl (hb hby dsv_34) rfl ?_
    show Steps p.tables e below (T6.setTop (mkF m 35 #[.val (.ref o0), .val (.ref o1), .val (.int (0 : Int32)), .val (.int (2 : Int32)), .val .null, .unset] [(.int (0 : Int32)), (.ref o1)])) _
    refine XS.iloadN X6.here hx rfl (hb hby dsv_35) rfl ?_
    show Steps p.tables e below (T6.setTop (mkF m 36 #[.val (.ref o0), .val (.ref o1), .val (.int (0 : Int32)), .val (.int (2 : Int32)), .val .null, .unset] [(.int (2 : Int32)), (.int (0 : Int32)), (.ref o1)])) _
    exact k)
  have K_9 : ∀ t, Steps p.tables e below (T6.setTop (mkF m 36 #[.val (.ref o0), .val (.ref o1), .val (.int (0 : Int32)), .val (.int (2 : Int32)), .val .null, .unset] [(.int (2 : Int32)), (.int (0 : Int32)), (.ref o1)])) t → Steps p.tables e below S0 t := K8
  obtain ⟨_, _, ⟨T10, L10, k10, n10⟩, -, X10, ⟨Lc10, hQ10, l10, y10, z10⟩, st10⟩ := Jvm.LawKit.callS X6 hx (y := (⟨"java/lang/StringUTF16", "compress", "([CII)[B"⟩ : MethodName)) hown (mvT hZ (hw _ (List.mem_of_getElem? (i := 15) rfl))) (mvT hZ (hw _ (List.mem_of_getElem? (i := 16) rfl))) (mvT hZ (hw _ (List.mem_of_getElem? (i := 17) rfl))) (mvT hZ (hw _ (List.mem_of_getElem? (i := 18) rfl))) (by decide) (backOf (W := 0) (rmsd l Z a0 hw [] o1 ka x0 x1 h0 n0 Z0 V_o1 hx0 hx1) hZ (hw _ (List.mem_of_getElem? (i := 18) rfl)) (hw _ (List.mem_of_getElem? (i := 17) rfl)) (by decide) (by decide)) (g := (mkF m 36 #[.val (.ref o0), .val (.ref o1), .val (.int (0 : Int32)), .val (.int (2 : Int32)), .val .null, .unset] [(.int (2 : Int32)), (.int (0 : Int32)), (.ref o1)])) rfl (by rw [hml]; rfl) (argsL := [(.ref o1), (.int (0 : Int32)), (.int (2 : Int32))]) (rest := []) (lenOf pdsv_0 rfl) rfl (by show 2 * 0 + _ ≤ _; exact Nat.le_of_eq rfl) (hb hby dsv_36) (fun _ _ => ⟨rfl, e6, (by decide : 0 + 1 ≤ 1), (by decide : 0 + 2 ≤ 2)⟩)
  dsimp only [Pt.U, Pt.locs, Pt.cells, Pt.slots] at X10 l10 y10 z10 st10 hQ10
  subst l10 y10 z10
  obtain ⟨b10_2, kn10_0, rfl, N10q, Kp10, lb_b10_2, Fn10_0⟩ := hQ10
  have N10 := Fr.app N0 N10q
  have g_b10_2 : n0 ≤ b10_2 := Nat.le_trans Z0 lb_b10_2
  have ne_o0_b10_2 : o0 ≠ b10_2 := Nat.ne_of_lt (Nat.lt_of_lt_of_le E_o0.lt lb_b10_2)
  have ne_o1_b10_2 : o1 ≠ b10_2 := Nat.ne_of_lt (Nat.lt_of_lt_of_le V_o1.lt lb_b10_2)
  have sz_b10_2 : h0.size ≤ b10_2 := Nat.le_trans (Keep.refl h0 [o0]).1 lb_b10_2
  have E_o0__10 := E_o0.keep Kp10
  have F_o0_value__10 := F_o0_value.keep Kp10 nin0
  have F_o0_coder__10 := F_o0_coder.keep Kp10 nin0
  have V_o1__10 := V_o1.keep Kp10 nin0
  have Zs10 : n0 ≤ T10.heap.size := Nat.le_trans Z0 Kp10.1
  have Kc10 : Keep h0 T10.heap [o0] := (Keep.refl h0 [o0]).trans Kp10 all0
  have K10 : ∀ t, Steps p.tables e below (T10.setTop (mkF m 39 #[.val (.ref o0), .val (.ref o1), .val (.int (0 : Int32)), .val (.int (2 : Int32)), .val .null, .unset] [(.ref b10_2)])) t → Steps p.tables e below S0 t := fun t k => K_9 t (st10 t k)
  have K11 : ∀ t, Steps p.tables e below (T10.setTop (mkF m 45 #[.val (.ref o0), .val (.ref o1), .val (.int (0 : Int32)), .val (.int (2 : Int32)), .val .null, .val (.ref b10_2)] [(.int (2 : Int32)), (.ref b10_2), (.ref o0)])) t → Steps p.tables e below S0 t := fun t k => K10 t (by
    refine XS.astore X10.here hx rfl (hb hby dsv_39) rfl rfl (l' := #[.val (.ref o0), .val (.ref o1), .val (.int (0 : Int32)), .val (.int (2 : Int32)), .val .null, .val (.ref b10_2)]) rfl ?_
    show Steps p.tables e below (T10.setTop (mkF m 41 #[.val (.ref o0), .val (.ref o1), .val (.int (0 : Int32)), .val (.int (2 : Int32)), .val .null, .val (.ref b10_2)] [])) _
    refine XS.aloadN X10.here hx rfl (hb hby dsv_41) rfl rfl ?_
    show Steps p.tables e below (T10.setTop (mkF m 42 #[.val (.ref o0), .val (.ref o1), .val (.int (0 : Int32)), .val (.int (2 : Int32)), .val .null, .val (.ref b10_2)] [(.ref o0)])) _
    refine XS.aload X10.here hx rfl (hb hby dsv_42) rfl rfl ?_
    show Steps p.tables e below (T10.setTop (mkF m 44 #[.val (.ref o0), .val (.ref o1), .val (.int (0 : Int32)), .val (.int (2 : Int32)), .val .null, .val (.ref b10_2)] [(.ref b10_2), (.ref o0)])) _
    refine XS.iloadN X10.here hx rfl (hb hby dsv_44) rfl ?_
    show Steps p.tables e below (T10.setTop (mkF m 45 #[.val (.ref o0), .val (.ref o1), .val (.int (0 : Int32)), .val (.int (2 : Int32)), .val .null, .val (.ref b10_2)] [(.int (2 : Int32)), (.ref b10_2), (.ref o0)])) _
    exact k)
  have K_12 : ∀ t, Steps p.tables e below (T10.setTop (mkF m 45 #[.val (.ref o0), .val (.ref o1), .val (.int (0 : Int32)), .val (.int (2 : Int32)), .val .null, .val (.ref b10_2)] [(.int (2 : Int32)), (.ref b10_2), (.ref o0)])) t → Steps p.tables e below S0 t := K11
  obtain ⟨_, _, ⟨T13, L13, k13, n13⟩, -, X13, ⟨Lc13, hQ13, l13, y13, z13⟩, st13⟩ := Jvm.LawKit.callS X10 hx (y := (⟨"java/lang/StringUTF16", "coderFromArrayLen", "([BI)B"⟩ : MethodName)) hown (mvT hZ (hw _ (List.mem_of_getElem? (i := 23) rfl))) (mvT hZ (hw _ (List.mem_of_getElem? (i := 24) rfl))) (mvT hZ (hw _ (List.mem_of_getElem? (i := 17) rfl))) (mvT hZ (hw _ (List.mem_of_getElem? (i := 25) rfl))) (by decide) (backOf (W := 1) (rmsk l Z a0 hw [] b10_2 kn10_0 (nar .byte (x0.toInt8.toInt32)) (nar .byte (x1.toInt8.toInt32)) T10.heap n0 Zs10 Fn10_0) hZ (hw _ (List.mem_of_getElem? (i := 25) rfl)) (hw _ (List.mem_of_getElem? (i := 17) rfl)) (by decide) (by decide)) (g := (mkF m 45 #[.val (.ref o0), .val (.ref o1), .val (.int (0 : Int32)), .val (.int (2 : Int32)), .val .null, .val (.ref b10_2)] [(.int (2 : Int32)), (.ref b10_2), (.ref o0)])) rfl (by rw [hml]; rfl) (argsL := [(.ref b10_2), (.int (2 : Int32))]) (rest := [(.ref o0)]) (lenOf pdsv_1 rfl) rfl (by show 2 * 0 + _ ≤ _; exact Nat.le_of_eq rfl) (hb hby dsv_45) (fun _ _ => ⟨rfl, rfl, (by decide : 1 + 0 ≤ 1), (by decide : 2 + 0 ≤ 2)⟩)
  dsimp only [Pt.U, Pt.locs, Pt.cells, Pt.slots] at X13 l13 y13 z13 st13 hQ13
  subst l13 y13 z13
  obtain ⟨rfl, N13q, e13⟩ := hQ13
  have N13 := Fr.app N10 N13q
  have K13 : ∀ t, Steps p.tables e below (T13.setTop (mkF m 48 #[.val (.ref o0), .val (.ref o1), .val (.int (0 : Int32)), .val (.int (2 : Int32)), .val .null, .val (.ref b10_2)] [(.int wsk_r1), (.ref o0)])) t → Steps p.tables e below S0 t := fun t k => K_12 t (st13 t k)
  obtain ⟨T14, h14, X14, e14, W14, st14⟩ := putFN X13 hx hZ hown (hw _ (List.mem_of_getElem? (i := 26) rfl)) Via.refl e13 F_o0_coder__10 E_o0__10 (Or.inr ⟨(hw _ (List.mem_of_getElem? (i := 27) rfl)), rfl, hnm⟩) (hw _ (List.mem_of_getElem? (i := 2) rfl)) (ty := .byte) (v' := (.int (nar .byte wsk_r1))) (by decide) rfl (fits_nar_byte wsk_r1) (g := (mkF m 48 #[.val (.ref o0), .val (.ref o1), .val (.int (0 : Int32)), .val (.int (2 : Int32)), .val .null, .val (.ref b10_2)] [(.int wsk_r1), (.ref o0)])) rfl rfl (hb hby dsv_48)
  have F_o0_coder__14 := F_o0_coder__10.same W14
  have E_o0__14 := E_o0__10.wr W14
  have F_o0_value__14 := F_o0_value__10.other W14 (Or.inr (slot_ne (Or.inr (hw _ (List.mem_of_getElem? (i := 29) rfl))) (Or.inr (hw _ (List.mem_of_getElem? (i := 27) rfl))) (by decide) (t := (.array .byte)) (t' := .byte) (by decide) (by decide)))
  have V_o1__14 := V_o1__10.other W14 (Ne.symm ne_o0_o1)
  have Fn10_0__14 := Fn10_0.other W14 (Ne.symm ne_o0_b10_2)
  have N14 := Fr.snoc X14 N13 g_o0
  have Zs14 : n0 ≤ h14.size := Nat.le_trans Zs10 (Nat.le_of_eq W14.size.symm)
  have Kc14 : Keep h0 h14 [o0] := Kc10.wr W14 (Or.inl (List.mem_of_getElem? (i := 0) rfl))
  have K14 : ∀ t, Steps p.tables e below (T14.setTop (mkF m 51 #[.val (.ref o0), .val (.ref o1), .val (.int (0 : Int32)), .val (.int (2 : Int32)), .val .null, .val (.ref b10_2)] [])) t → Steps p.tables e below S0 t := fun t k => K13 t (st14 t k)
  have K15 : ∀ t, Steps p.tables e below (T14.setTop (mkF m 54 #[.val (.ref o0), .val (.ref o1), .val (.int (0 : Int32)), .val (.int (2 : Int32)), .val .null, .val (.ref b10_2)] [(.ref b10_2), (.ref o0)])) t → Steps p.tables e below S0 t := fun t k => K14 t (by
    refine XS.aloadN X14.here hx rfl (hb hby dsv_51) rfl rfl ?_
    show Steps p.tables e below (T14.setTop (mkF m 52 #[.val (.ref o0), .val (.ref o1), .val (.int (0 : Int32)), .val (.int (2 : Int32)), .val .null, .val (.ref b10_2)] [(.ref o0)])) _
    refine XS.aload X14.here hx rfl (hb hby dsv_52) rfl rfl ?_
    show Steps p.tables e below (T14.setTop (mkF m 54 #[.val (.ref o0), .val (.ref o1), .val (.int (0 : Int32)), .val (.int (2 : Int32)), .val .null, .val (.ref b10_2)] [(.ref b10_2), (.ref o0)])) _
    exact k)
  obtain ⟨T16, h16, X16, e16, W16, st16⟩ := putF X14 hx hZ hown (host := "") (Or.inl (hw _ (List.mem_of_getElem? (i := 28) rfl))) Via.refl e14 F_o0_value__14 E_o0__14 (Or.inr ⟨(hw _ (List.mem_of_getElem? (i := 29) rfl)), rfl, hnm⟩) (hw _ (List.mem_of_getElem? (i := 2) rfl)) (ty := (.array .byte)) (by decide) rfl rfl (g := (mkF m 54 #[.val (.ref o0), .val (.ref o1), .val (.int (0 : Int32)), .val (.int (2 : Int32)), .val .null, .val (.ref b10_2)] [(.ref b10_2), (.ref o0)])) rfl rfl (hb hby dsv_54)
  have F_o0_value__16 := F_o0_value__14.same W16
  have E_o0__16 := E_o0__14.wr W16
  have F_o0_coder__16 := F_o0_coder__14.other W16 (Or.inr (slot_ne (Or.inr (hw _ (List.mem_of_getElem? (i := 27) rfl))) (Or.inr (hw _ (List.mem_of_getElem? (i := 29) rfl))) (by decide) (t := .byte) (t' := (.array .byte)) (by decide) (by decide)))
  have V_o1__16 := V_o1__14.other W16 (Ne.symm ne_o0_o1)
  have Fn10_0__16 := Fn10_0__14.other W16 (Ne.symm ne_o0_b10_2)
  have N16 := Fr.snoc X16 N14 g_o0
  have Zs16 : n0 ≤ h16.size := Nat.le_trans Zs14 (Nat.le_of_eq W16.size.symm)
  have Kc16 : Keep h0 h16 [o0] := Kc14.wr W16 (Or.inl (List.mem_of_getElem? (i := 0) rfl))
  have K16 : ∀ t, Steps p.tables e below (T16.setTop (mkF m 57 #[.val (.ref o0), .val (.ref o1), .val (.int (0 : Int32)), .val (.int (2 : Int32)), .val .null, .val (.ref b10_2)] [])) t → Steps p.tables e below S0 t := fun t k => K15 t (st16 t k)
  obtain ⟨fs, hr, hrun, hended, hW, hsame⟩ := X16.leave (v := none) (fun _ => rfl) hlk
  refine ⟨_, _, ?_, hrun, hended, _, _, rfl, ?_, ⟨_, rfl⟩, hW, hsame.mono (by decide) (by decide)⟩
  · rw [← hS0]; exact K16 _ (X16.returnOut hx Bd.returns (hb hby dsv_57) hr)
  · show Qsv Z o0 o1 ka zc x0 x1 h0 n0 _ T16.heap _
    rw [e16]
    exact ⟨b10_2, kn10_0, rfl, N16, Kc16, sz_b10_2, E_o0__16, F_o0_value__16, F_o0_coder__16, Fn10_0__16⟩
theorem dsi_0 : decode jdk_42_method_3_code 0 = .ok (.aload_n 0, 1) := by decide +kernel
theorem dsi_1 : decode jdk_42_method_3_code 1 = .ok (.aload_n 1, 1) := by decide +kernel
theorem dsi_2 : decode jdk_42_method_3_code 2 = .ok (.iconst 0, 1) := by decide +kernel
theorem dsi_3 : decode jdk_42_method_3_code 3 = .ok (.aload_n 1, 1) := by decide +kernel
theorem dsi_4 : decode jdk_42_method_3_code 4 = .ok (.arraylength, 1) := by decide +kernel
theorem dsi_5 : decode jdk_42_method_3_code 5 = .ok (.aconst_null, 1) := by decide +kernel
theorem dsi_6 : decode jdk_42_method_3_code 6 = .ok (.invokespecial 27, 3) := by decide +kernel
theorem dsi_9 : decode jdk_42_method_3_code 9 = .ok (.return_, 1) := by decide +kernel
theorem pnsi : plainName "java/lang/String" = true := by first | (simp [plainName, overriddenIn]; done) | decide +kernel
theorem pdsi_0 : parseMethodDescriptor "([CIILjava/lang/Void;)V" = some ⟨[(.array .char), .int, .int, (.object "java/lang/Void")], none⟩ := by decide +kernel
theorem efsi (m : MethodId) (o0 : Addr) (o1 : Addr) : entryFrame m #[(.ref o0), (.ref o1)] 2 = mkF m 0 #[.val (.ref o0), .val (.ref o1)] [] := by first | (simp [entryFrame, mkF, argsToLocals, Value.category]; done) | rfl
def Qsi (Z : State) (o0 : Addr) (o1 : Addr) (ka : ClassId) (zc : Int32) (x0 : Int32) (x1 : Int32) (h0 : Heap) (n0 : Nat) (v : Option Value) (h : Heap) (L : List Loc) : Prop := ∃ (b5_10_2 : Addr) (kn5_0 : ClassId), v = none ∧ Fr n0 L ∧ Keep h0 h [o0] ∧ h0.size ≤ b5_10_2 ∧ Exa Z h o0 "java/lang/String" ∧ Fld Z h o0 "java/lang/String" "value" "[B" (.ref b5_10_2) ∧ Fld Z h o0 "java/lang/String" "coder" "B" (.int (nar .byte wsk_r1)) ∧ Arv Z h b5_10_2 kn5_0 .byte (2 : Int32) [(.int (nar .byte (x0.toInt8.toInt32))), (.int (nar .byte (x1.toInt8.toInt32)))] (.int (0 : Int32))
set_option maxRecDepth 65536 in
set_option maxHeartbeats 40000000 in
theorem rmsi (l : Launch) (Z : State) (a0 : Array Value) (hw : ∀ d ∈ tables_1, d.before a0 Z = true) (ws : List Jvm.Cond) (o0 : Addr) (o1 : Addr) (ka : ClassId) (zc : Int32) (x0 : Int32) (x1 : Int32) (h0 : Heap) (n0 : Nat) (Z0 : n0 ≤ h0.size) (E_o0 : Exa Z h0 o0 "java/lang/String") (F_o0_value : Fld Z h0 o0 "java/lang/String" "value" "[B" .null) (F_o0_coder : Fld Z h0 o0 "java/lang/String" "coder" "B" (.int (0 : Int32))) (g_o0 : n0 ≤ o0) (V_o1 : Arv Z h0 o1 ka .char (2 : Int32) [(.int x0), (.int x1)] (.int (0 : Int32))) (S_String_COMPACT_STRINGS : Sta Z h0 "java/lang/String" "COMPACT_STRINGS" "Z" (.int zc)) (hz : ¬ zc = (0 : Int32)) (hx0 : ¬ (255 : Int32) < x0) (hx1 : ¬ (255 : Int32) < x1) (ne_o0_o1 : o0 ≠ o1) :
    MetFree l (⟨"java/lang/String", "<init>", "([C)V"⟩ : MethodName) (head1 (Jvm.Cond.code (⟨"java/lang/String", "<init>", "([C)V"⟩ : MethodName) jdk_42_method_3_code 2 none :: ws) ({ frames := 3, cells := 1, slots := 2, locals := 52 } : Room)) (fun a U => a = #[(.ref o0), (.ref o1)] ∧ Z.Warmed39 U.vm ∧ U.heap = h0) (fun _ _ _ _ _ => True) (fun _ U o U' => ∃ v L, o = .returned v ∧ Qsi Z o0 o1 ka zc x0 x1 h0 n0 v U'.heap L ∧ FrameEnd U o U' L ({ frames := 3, cells := 1, slots := 2, locals := 52 } : Room).cells ({ frames := 3, cells := 1, slots := 2, locals := 52 } : Room).slots) := by
  refine MetFree.of_bodySF (plainFor_of_name pnsi) hisR ?_
  intro p e s m args below meth c s₁ Bd hml0 hP hK
  obtain ⟨rfl, hZ, hh⟩ := hP
  have hlk : meth.locks = false := BodyLoose.notSynchronized Bd
  have hx := Bd.exec
  have hby := Bd.bytes
  have hml : c.maxLocals = 2 := hml0
  have hown : s.vm.findClass "java/lang/String" = some m.cls := findClass_of_methodNamed Bd.named
  have hnm := (name_of_methodNamed Bd.named Bd.method).1
  have X0 : Stand p l e ({ frames := 3, cells := 1, slots := 2, locals := 52 } : Room) s m #[(.ref o0), (.ref o1)] below meth c s₁ [] 0 0 := Stand.of_body Bd
  have e0 : s₁.heap = h0 := by rw [← hh, Bd.state]; rfl
  have N0 := Fr.nil n0
  obtain ⟨S0, hS0⟩ : ∃ S0, S0 = s₁.setTop (entryFrame m #[(.ref o0), (.ref o1)] 2) := ⟨_, rfl⟩
  have pre0 : ∀ t, Steps p.tables e below (s₁.setTop (mkF m 0 #[.val (.ref o0), .val (.ref o1)] [])) t → Steps p.tables e below S0 t := fun t k => by rw [hS0]; exact castTop (efsi m o0 o1) k
  have K1 : ∀ t, Steps p.tables e below (s₁.setTop (mkF m 4 #[.val (.ref o0), .val (.ref o1)] [(.ref o1), (.int (0 : Int32)), (.ref o1), (.ref o0)])) t → Steps p.tables e below S0 t := fun t k => pre0 t (by
    refine XS.aloadN X0.here hx rfl (hb hby dsi_0) rfl rfl ?_
    show Steps p.tables e below (s₁.setTop (mkF m 1 #[.val (.ref o0), .val (.ref o1)] [(.ref o0)])) _
    refine XS.aloadN X0.here hx rfl (hb hby dsi_1) rfl rfl ?_
    show Steps p.tables e below (s₁.setTop (mkF m 2 #[.val (.ref o0), .val (.ref o1)] [(.ref o1), (.ref o0)])) _
    refine XS.iconst X0.here hx rfl (hb hby dsi_2) ?_
    show Steps p.tables e below (s₁.setTop (mkF m 3 #[.val (.ref o0), .val (.ref o1)] [(.int (0 : Int32)), (.ref o1), (.ref o0)])) _
    refine XS.aloadN X0.here hx rfl (hb hby dsi_3) rfl rfl ?_
    show Steps p.tables e below (s₁.setTop (mkF m 4 #[.val (.ref o0), .val (.ref o1)] [(.ref o1), (.int (0 : Int32)), (.ref o1), (.ref o0)])) _
    exact k)
  obtain ⟨cl2, Ar2, qa2, sa2, na2, ha2, ga2⟩ := id V_o1
  have K2 : ∀ t, Steps p.tables e below (s₁.setTop (mkF m 5 #[.val (.ref o0), .val (.ref o1)] [(.int (2 : Int32)), (.int (0 : Int32)), (.ref o1), (.ref o0)])) t → Steps p.tables e below S0 t := fun t k => K1 t (X0.arraylength hx (by rw [e0]; exact Ar2.1) (State.isArrayOf_alike hZ.alike Ar2.2.1) (g := (mkF m 4 #[.val (.ref o0), .val (.ref o1)] [(.ref o1), (.int (0 : Int32)), (.ref o1), (.ref o0)])) rfl rfl (hb hby dsi_4) _ (by rw [len_of sa2 na2]; exact k))
  have K3 : ∀ t, Steps p.tables e below (s₁.setTop (mkF m 6 #[.val (.ref o0), .val (.ref o1)] [.null, (.int (2 : Int32)), (.int (0 : Int32)), (.ref o1), (.ref o0)])) t → Steps p.tables e below S0 t := fun t k => K2 t (by
    refine XS.aconstNull X0.here hx rfl (hb hby dsi_5) ?_
    show Steps p.tables e below (s₁.setTop (mkF m 6 #[.val (.ref o0), .val (.ref o1)] [.null, (.int (2 : Int32)), (.int (0 : Int32)), (.ref o1), (.ref o0)])) _
    exact k)
  have K_4 : ∀ t, Steps p.tables e below (s₁.setTop (mkF m 6 #[.val (.ref o0), .val (.ref o1)] [.null, (.int (2 : Int32)), (.int (0 : Int32)), (.ref o1), (.ref o0)])) t → Steps p.tables e below S0 t := K3
  obtain ⟨_, _, ⟨T5, L5, k5, n5⟩, -, X5, ⟨Lc5, hQ5, l5, y5, z5⟩, st5⟩ := X0.specialBack hx (y := (⟨"java/lang/String", "<init>", "([CIILjava/lang/Void;)V"⟩ : MethodName)) rfl hown (mvT hZ (hw _ (List.mem_of_getElem? (i := 7) rfl))) (mvT hZ (hw _ (List.mem_of_getElem? (i := 8) rfl))) (mvT hZ (hw _ (List.mem_of_getElem? (i := 10) rfl))) (by decide) (backOf (W := 0) (rmsv l Z a0 hw [] o0 o1 ka zc x0 x1 h0 n0 Z0 E_o0 F_o0_value F_o0_coder g_o0 V_o1 S_String_COMPACT_STRINGS hz hx0 hx1 ne_o0_o1) hZ (hw _ (List.mem_of_getElem? (i := 10) rfl)) (hw _ (List.mem_of_getElem? (i := 3) rfl)) (by decide) (by decide)) (g := (mkF m 6 #[.val (.ref o0), .val (.ref o1)] [.null, (.int (2 : Int32)), (.int (0 : Int32)), (.ref o1), (.ref o0)])) rfl (by rw [hml]; rfl) (Steps.refl _) (a := o0) (argsL := [(.ref o1), (.int (0 : Int32)), (.int (2 : Int32)), .null]) (rest := []) (lenOf pdsi_0 rfl) rfl (by show 2 * 0 + _ ≤ _; exact Nat.le_of_eq rfl) (hb hby dsi_6) (fun _ _ => ⟨rfl, e0, (by decide : 0 + 1 ≤ 1), (by decide : 0 + 2 ≤ 2)⟩)
  dsimp only [Pt.U, Pt.locs, Pt.cells, Pt.slots] at X5 l5 y5 z5 st5 hQ5
  subst l5 y5 z5
  obtain ⟨b5_10_2, kn5_0, rfl, N5q, Kp5, lb_b5_10_2, Fn5_0, Fn5_1, Fn5_2, Fn5_3⟩ := hQ5
  have N5 := Fr.app N0 N5q
  have g_b5_10_2 : n0 ≤ b5_10_2 := Nat.le_trans Z0 lb_b5_10_2
  have ne_o0_b5_10_2 : o0 ≠ b5_10_2 := Nat.ne_of_lt (Nat.lt_of_lt_of_le E_o0.lt lb_b5_10_2)
  have ne_o1_b5_10_2 : o1 ≠ b5_10_2 := Nat.ne_of_lt (Nat.lt_of_lt_of_le V_o1.lt lb_b5_10_2)
  have sz_b5_10_2 : h0.size ≤ b5_10_2 := Nat.le_trans (Keep.refl h0 [o0]).1 lb_b5_10_2
  have V_o1__5 := V_o1.keep Kp5 (ninS (Ne.symm ne_o0_o1) nin0)
  have Zs5 : n0 ≤ T5.heap.size := Nat.le_trans Z0 Kp5.1
  have Kc5 : Keep h0 T5.heap [o0] := (Keep.refl h0 [o0]).trans Kp5 (allS (P := fun x => x ∈ [o0] ∨ h0.size ≤ x) (Or.inl (List.mem_of_getElem? (i := 0) rfl)) all0)
  have K5 : ∀ t, Steps p.tables e below (T5.setTop (mkF m 9 #[.val (.ref o0), .val (.ref o1)] [])) t → Steps p.tables e below S0 t := fun t k => K_4 t (st5.trans k)
  obtain ⟨fs, hr, hrun, hended, hW, hsame⟩ := X5.leave (v := none) (fun _ => rfl) hlk
  refine ⟨_, _, ?_, hrun, hended, _, _, rfl, ?_, ⟨_, rfl⟩, hW, hsame.mono (by decide) (by decide)⟩
  · rw [← hS0]; exact K5 _ (X5.returnOut hx Bd.returns (hb hby dsi_9) hr)
  · show Qsi Z o0 o1 ka zc x0 x1 h0 n0 _ T5.heap _
    exact ⟨b5_10_2, kn5_0, rfl, N5, Kc5, sz_b5_10_2, Fn5_0, Fn5_1, Fn5_2, Fn5_3⟩
theorem d1_0 : decode jdk_43_method_3_code 0 = .ok (.iload_n 0, 1) := by decide +kernel
theorem d1_1 : decode jdk_43_method_3_code 1 = .ok (.sipush 255, 3) := by decide +kernel
theorem d1_4 : decode jdk_43_method_3_code 4 = .ok (.if_icmp .gt 7, 3) := by decide +kernel
theorem d1_7 : decode jdk_43_method_3_code 7 = .ok (.iconst 1, 1) := by decide +kernel
theorem d1_8 : decode jdk_43_method_3_code 8 = .ok (.goto 4, 3) := by decide +kernel
theorem d1_11 : decode jdk_43_method_3_code 11 = .ok (.iconst 0, 1) := by decide +kernel
theorem d1_12 : decode jdk_43_method_3_code 12 = .ok (.ireturn, 1) := by decide +kernel
theorem pn1 : plainName "java/lang/StringLatin1" = true := by first | (simp [plainName, overriddenIn]; done) | decide +kernel
theorem ef1 (m : MethodId) (p0 : Int32) : entryFrame m #[(.int p0)] 1 = mkF m 0 #[.val (.int p0)] [] := by first | (simp [entryFrame, mkF, argsToLocals, Value.category]; done) | rfl
def Q1 (Z : State) (p0 : Int32) (h0 : Heap) (n0 : Nat) (v : Option Value) (h : Heap) (L : List Loc) : Prop := v = some (.int (w1_r1 p0)) ∧ Fr n0 L ∧ h = h0
set_option maxRecDepth 65536 in
set_option maxHeartbeats 40000000 in
theorem rm1 (l : Launch) (Z : State) (a0 : Array Value) (hw : ∀ d ∈ tables_1, d.before a0 Z = true) (ws : List Jvm.Cond) (p0 : Int32) (h0 : Heap) (n0 : Nat) (Z0 : n0 ≤ h0.size) :
    MetFree l (⟨"java/lang/StringLatin1", "canEncode", "(C)Z"⟩ : MethodName) (head1 (Jvm.Cond.code (⟨"java/lang/StringLatin1", "canEncode", "(C)Z"⟩ : MethodName) jdk_43_method_3_code 1 (some .boolean) :: ws) ({ frames := 0, cells := 0, slots := 0, locals := 0 } : Room)) (fun a U => a = #[(.int p0)] ∧ Z.Warmed39 U.vm ∧ U.heap = h0) (fun _ _ _ _ _ => True) (fun _ U o U' => ∃ v L, o = .returned v ∧ Q1 Z p0 h0 n0 v U'.heap L ∧ FrameEnd U o U' L ({ frames := 0, cells := 0, slots := 0, locals := 0 } : Room).cells ({ frames := 0, cells := 0, slots := 0, locals := 0 } : Room).slots) := by
  refine MetFree.of_bodySF (plainFor_of_name pn1) hisR ?_
  intro p e s m args below meth c s₁ Bd hml0 hP hK
  obtain ⟨rfl, hZ, hh⟩ := hP
  have hlk : meth.locks = false := BodyLoose.notSynchronized Bd
  have hx := Bd.exec
  have hby := Bd.bytes
  have hml : c.maxLocals = 1 := hml0
  have hown : s.vm.findClass "java/lang/StringLatin1" = some m.cls := findClass_of_methodNamed Bd.named
  have hnm := (name_of_methodNamed Bd.named Bd.method).1
  have X0 : Stand p l e ({ frames := 0, cells := 0, slots := 0, locals := 0 } : Room) s m #[(.int p0)] below meth c s₁ [] 0 0 := Stand.of_body Bd
  have e0 : s₁.heap = h0 := by rw [← hh, Bd.state]; rfl
  have N0 := Fr.nil n0
  obtain ⟨S0, hS0⟩ : ∃ S0, S0 = s₁.setTop (entryFrame m #[(.int p0)] 1) := ⟨_, rfl⟩
  have pre0 : ∀ t, Steps p.tables e below (s₁.setTop (mkF m 0 #[.val (.int p0)] [])) t → Steps p.tables e below S0 t := fun t k => by rw [hS0]; exact castTop (ef1 m p0) k
  have K1 : ∀ t, Steps p.tables e below (s₁.setTop (mkF m 4 #[.val (.int p0)] [(.int (255 : Int32)), (.int p0)])) t → Steps p.tables e below S0 t := fun t k => pre0 t (by
    refine XS.iloadN X0.here hx rfl (hb hby d1_0) rfl ?_
    show Steps p.tables e below (s₁.setTop (mkF m 1 #[.val (.int p0)] [(.int p0)])) _
    refine XS.sipush X0.here hx rfl (hb hby d1_1) ?_
    show Steps p.tables e below (s₁.setTop (mkF m 4 #[.val (.int p0)] [(.int (255 : Int32)), (.int p0)])) _
    exact k)
  by_cases hc4_0 : (255 : Int32) < p0
  · -- yes
    have K2 : ∀ t, Steps p.tables e below (s₁.setTop (mkF m 12 #[.val (.int p0)] [(.int (0 : Int32))])) t → Steps p.tables e below S0 t := fun t k => K1 t (by
      refine XS.icmpYes X0.here hx rfl (pc0 := 4) (pc' := 11) rfl (hb hby d1_4) rfl (XT.ii_gt_t hc4_0) (by decide) (by decide) ?_
      show Steps p.tables e below (s₁.setTop (mkF m 11 #[.val (.int p0)] [])) _
      refine XS.iconst X0.here hx rfl (hb hby d1_11) ?_
      show Steps p.tables e below (s₁.setTop (mkF m 12 #[.val (.int p0)] [(.int (0 : Int32))])) _
      exact k)
    obtain ⟨fs, hr, hrun, hended, hW, hsame⟩ := X0.leave (v := some (.int (0 : Int32))) (fun h => by rw [Bd.returns] at h; cases h) hlk
    refine ⟨_, _, ?_, hrun, hended, _, _, rfl, ?_, ⟨_, rfl⟩, hW, hsame.mono (by decide) (by decide)⟩
    · rw [← hS0]; exact K2 _ (retN X0 hx (t := .boolean) Bd.returns (by simp) (hb hby d1_12) hr)
    · show Q1 Z p0 h0 n0 _ s₁.heap _
      rw [e0]
      have qr : (0 : Int32) = (w1_r1 p0) := by unfold w1_r1; rw [if_pos hc4_0]
      exact ⟨congrArg (fun z => some (Value.int z)) qr, N0, rfl⟩
  · -- no
    have K3 : ∀ t, Steps p.tables e below (s₁.setTop (mkF m 12 #[.val (.int p0)] [(.int (1 : Int32))])) t → Steps p.tables e below S0 t := fun t k => K1 t (by
      refine XS.icmpNo X0.here hx rfl (hb hby d1_4) rfl (XT.ii_gt_f hc4_0) ?_
      show Steps p.tables e below (s₁.setTop (mkF m 7 #[.val (.int p0)] [])) _
      refine XS.iconst X0.here hx rfl (hb hby d1_7) ?_
      show Steps p.tables e below (s₁.setTop (mkF m 8 #[.val (.int p0)] [(.int (1 : Int32))])) _
      refine XS.goto X0.here hx rfl (pc0 := 8) (pc' := 12) rfl (hb hby d1_8) (by decide) (by decide) ?_
      show Steps p.tables e below (s₁.setTop (mkF m 12 #[.val (.int p0)] [(.int (1 : Int32))])) _
      exact k)
    obtain ⟨fs, hr, hrun, hended, hW, hsame⟩ := X0.leave (v := some (.int (1 : Int32))) (fun h => by rw [Bd.returns] at h; cases h) hlk
    refine ⟨_, _, ?_, hrun, hended, _, _, rfl, ?_, ⟨_, rfl⟩, hW, hsame.mono (by decide) (by decide)⟩
    · rw [← hS0]; exact K3 _ (retN X0 hx (t := .boolean) Bd.returns (by simp) (hb hby d1_12) hr)
    · show Q1 Z p0 h0 n0 _ s₁.heap _
      rw [e0]
      have qr : (1 : Int32) = (w1_r1 p0) := by unfold w1_r1; rw [if_neg hc4_0]
      exact ⟨congrArg (fun z => some (Value.int z)) qr, N0, rfl⟩
theorem d2_0 : decode jdk_43_method_46_code 0 = .ok (.iconst 1, 1) := by decide +kernel
theorem d2_1 : decode jdk_43_method_46_code 1 = .ok (.newarray .byte, 2) := by decide +kernel
theorem d2_3 : decode jdk_43_method_46_code 3 = .ok (.dup, 1) := by decide +kernel
theorem d2_4 : decode jdk_43_method_46_code 4 = .ok (.iconst 0, 1) := by decide +kernel
theorem d2_5 : decode jdk_43_method_46_code 5 = .ok (.iload_n 0, 1) := by decide +kernel
theorem d2_6 : decode jdk_43_method_46_code 6 = .ok (.i2b, 1) := by decide +kernel
theorem d2_7 : decode jdk_43_method_46_code 7 = .ok (.bastore, 1) := by decide +kernel
theorem d2_8 : decode jdk_43_method_46_code 8 = .ok (.areturn, 1) := by decide +kernel
theorem pn2 : plainName "java/lang/StringLatin1" = true := by first | (simp [plainName, overriddenIn]; done) | decide +kernel
theorem ef2 (m : MethodId) (p0 : Int32) : entryFrame m #[(.int p0)] 1 = mkF m 0 #[.val (.int p0)] [] := by first | (simp [entryFrame, mkF, argsToLocals, Value.category]; done) | rfl
def Q2 (Z : State) (p0 : Int32) (h0 : Heap) (n0 : Nat) (v : Option Value) (h : Heap) (L : List Loc) : Prop := ∃ (b2 : Addr) (k2 : ClassId), v = some (.ref b2) ∧ Fr n0 L ∧ Keep h0 h [] ∧ h0.size ≤ b2 ∧ Arv Z h b2 k2 .byte (1 : Int32) [(.int (nar .byte (p0.toInt8.toInt32)))] (.int (0 : Int32))
set_option maxRecDepth 65536 in
set_option maxHeartbeats 40000000 in
theorem rm2 (l : Launch) (Z : State) (a0 : Array Value) (hw : ∀ d ∈ tables_1, d.before a0 Z = true) (ws : List Jvm.Cond) (p0 : Int32) (h0 : Heap) (n0 : Nat) (Z0 : n0 ≤ h0.size) :
    MetFree l (⟨"java/lang/StringLatin1", "toBytes", "(C)[B"⟩ : MethodName) (head1 (Jvm.Cond.code (⟨"java/lang/StringLatin1", "toBytes", "(C)[B"⟩ : MethodName) jdk_43_method_46_code 1 (some (.array .byte)) :: ws) ({ frames := 0, cells := 1, slots := 1, locals := 0 } : Room)) (fun a U => a = #[(.int p0)] ∧ Z.Warmed39 U.vm ∧ U.heap = h0) (fun _ _ _ _ _ => True) (fun _ U o U' => ∃ v L, o = .returned v ∧ Q2 Z p0 h0 n0 v U'.heap L ∧ FrameEnd U o U' L ({ frames := 0, cells := 1, slots := 1, locals := 0 } : Room).cells ({ frames := 0, cells := 1, slots := 1, locals := 0 } : Room).slots) := by
  refine MetFree.of_bodySF (plainFor_of_name pn2) hisR ?_
  intro p e s m args below meth c s₁ Bd hml0 hP hK
  obtain ⟨rfl, hZ, hh⟩ := hP
  have hlk : meth.locks = false := BodyLoose.notSynchronized Bd
  have hx := Bd.exec
  have hby := Bd.bytes
  have hml : c.maxLocals = 1 := hml0
  have hown : s.vm.findClass "java/lang/StringLatin1" = some m.cls := findClass_of_methodNamed Bd.named
  have hnm := (name_of_methodNamed Bd.named Bd.method).1
  have X0 : Stand p l e ({ frames := 0, cells := 1, slots := 1, locals := 0 } : Room) s m #[(.int p0)] below meth c s₁ [] 0 0 := Stand.of_body Bd
  have e0 : s₁.heap = h0 := by rw [← hh, Bd.state]; rfl
  have N0 := Fr.nil n0
  obtain ⟨S0, hS0⟩ : ∃ S0, S0 = s₁.setTop (entryFrame m #[(.int p0)] 1) := ⟨_, rfl⟩
  have pre0 : ∀ t, Steps p.tables e below (s₁.setTop (mkF m 0 #[.val (.int p0)] [])) t → Steps p.tables e below S0 t := fun t k => by rw [hS0]; exact castTop (ef2 m p0) k
  have K1 : ∀ t, Steps p.tables e below (s₁.setTop (mkF m 1 #[.val (.int p0)] [(.int (1 : Int32))])) t → Steps p.tables e below S0 t := fun t k => pre0 t (by
    refine XS.iconst X0.here hx rfl (hb hby d2_0) ?_
    show Steps p.tables e below (s₁.setTop (mkF m 1 #[.val (.int p0)] [(.int (1 : Int32))])) _
    exact k)
  obtain ⟨T2, h2, k2, X2, e2, E2, A2, st2⟩ := newP X0 hx hZ (hw _ (List.mem_of_getElem? (i := 19) rfl)) e0 (g := (mkF m 1 #[.val (.int p0)] [(.int (1 : Int32))])) rfl (hb hby d2_1) rfl (by decide) (cap := 1) (by decide) (by decide) (by decide) (by decide)
  obtain ⟨b2, g2⟩ : ∃ z, z = h0.size := ⟨_, rfl⟩
  rw [← g2] at A2 st2
  have g_b2 : n0 ≤ b2 := Nat.le_trans Z0 (Nat.le_of_eq g2.symm)
  have Zs2 : n0 ≤ h2.size := Nat.le_trans Z0 E2.1
  have sz_b2 : h0.size ≤ b2 := Nat.le_trans (Keep.refl h0 []).1 (Nat.le_of_eq g2.symm)
  have Kc2 : Keep h0 h2 [] := (Keep.refl h0 []).ext E2
  have V_b2 : Arv Z h2 b2 k2 .byte (1 : Int32) [(.int (0 : Int32))] (.int (0 : Int32)) := (Arv.new A2 (by decide)).pad (pad_rep [] (.int (0 : Int32)) 1)
  have K2 : ∀ t, Steps p.tables e below (T2.setTop (mkF m 3 #[.val (.int p0)] [(.ref b2)])) t → Steps p.tables e below S0 t := fun t k => K1 t (st2 t k)
  have K3 : ∀ t, Steps p.tables e below (T2.setTop (mkF m 7 #[.val (.int p0)] [(.int (p0.toInt8.toInt32)), (.int (0 : Int32)), (.ref b2), (.ref b2)])) t → Steps p.tables e below S0 t := fun t k => K2 t (by
    refine XS.dup X2.here hx rfl (hb hby d2_3) rfl rfl ?_
    show Steps p.tables e below (T2.setTop (mkF m 4 #[.val (.int p0)] [(.ref b2), (.ref b2)])) _
    refine XS.iconst X2.here hx rfl (hb hby d2_4) ?_
    show Steps p.tables e below (T2.setTop (mkF m 5 #[.val (.int p0)] [(.int (0 : Int32)), (.ref b2), (.ref b2)])) _
    refine XS.iloadN X2.here hx rfl (hb hby d2_5) rfl ?_
    show Steps p.tables e below (T2.setTop (mkF m 6 #[.val (.int p0)] [(.int p0), (.int (0 : Int32)), (.ref b2), (.ref b2)])) _
    refine XS.i2b X2.here hx rfl (hb hby d2_6) rfl ?_
    show Steps p.tables e below (T2.setTop (mkF m 7 #[.val (.int p0)] [(.int (p0.toInt8.toInt32)), (.int (0 : Int32)), (.ref b2), (.ref b2)])) _
    exact k)
  have K_4 : ∀ t, Steps p.tables e below (T2.setTop (mkF m 7 #[.val (.int p0)] [(.int (p0.toInt8.toInt32)), (.int (0 : Int32)), (.ref b2), (.ref b2)])) t → Steps p.tables e below S0 t := K3
  obtain ⟨cl5, Ar5, qa5, sa5, na5, ha5, ga5⟩ := id V_b2
  have hin5 : ¬ ((0 : Int32) < 0 ∨ cl5.slots.size ≤ ((0 : Int32)).toNatClampNeg) := inb_of sa5 ⟨by decide, by decide⟩
  obtain ⟨T5, h5, X5, e5, W5, st5⟩ := stB X2 hx hZ e2 Ar5 (j := (0 : Int32)) hin5 (g := (mkF m 7 #[.val (.int p0)] [(.int (p0.toInt8.toInt32)), (.int (0 : Int32)), (.ref b2), (.ref b2)])) rfl rfl (hb hby d2_7)
  have V_b2__5 : Arv Z h5 b2 k2 .byte (1 : Int32) [(.int (nar .byte (p0.toInt8.toInt32)))] (.int (0 : Int32)) := Arv.set Ar5 qa5 sa5 na5 ha5 ga5 (fits_nar_byte _) W5 0 rfl (Nat.le_of_ble_eq_true rfl)
  have N5 := Fr.snoc X5 N0 g_b2
  have Zs5 : n0 ≤ h5.size := Nat.le_trans Zs2 (Nat.le_of_eq W5.size.symm)
  have Kc5 : Keep h0 h5 [] := Kc2.wr W5 (Or.inr sz_b2)
  have K5 : ∀ t, Steps p.tables e below (T5.setTop (mkF m 8 #[.val (.int p0)] [(.ref b2)])) t → Steps p.tables e below S0 t := fun t k => K_4 t (st5 t k)
  obtain ⟨fs, hr, hrun, hended, hW, hsame⟩ := X5.leave (v := some (.ref b2)) (fun h => by rw [Bd.returns] at h; cases h) hlk
  refine ⟨_, _, ?_, hrun, hended, _, _, rfl, ?_, ⟨_, rfl⟩, hW, hsame.mono (by decide) (by decide)⟩
  · rw [← hS0]; exact K5 _ (retOut X5 hx Bd.returns rfl (Or.inr (Or.inr (Or.inr (Or.inr ⟨rfl, rfl, rfl⟩)))) (hb hby d2_8) hr)
  · show Q2 Z p0 h0 n0 _ T5.heap _
    rw [e5]
    exact ⟨b2, k2, rfl, N5, Kc5, sz_b2, V_b2__5⟩
theorem d3_0 : decode jdk_42_method_151_code 0 = .ok (.aload_n 0, 1) := by decide +kernel
theorem d3_1 : decode jdk_42_method_151_code 1 = .ok (.invokespecial 1, 3) := by decide +kernel
theorem d3_4 : decode jdk_42_method_151_code 4 = .ok (.aload_n 0, 1) := by decide +kernel
theorem d3_5 : decode jdk_42_method_151_code 5 = .ok (.aload_n 1, 1) := by decide +kernel
theorem d3_6 : decode jdk_42_method_151_code 6 = .ok (.putfield 9, 3) := by decide +kernel
theorem d3_9 : decode jdk_42_method_151_code 9 = .ok (.aload_n 0, 1) := by decide +kernel
theorem d3_10 : decode jdk_42_method_151_code 10 = .ok (.iload_n 2, 1) := by decide +kernel
theorem d3_11 : decode jdk_42_method_151_code 11 = .ok (.putfield 15, 3) := by decide +kernel
theorem d3_14 : decode jdk_42_method_151_code 14 = .ok (.return_, 1) := by decide +kernel
theorem pn3 : plainName "java/lang/String" = true := by first | (simp [plainName, overriddenIn]; done) | decide +kernel
theorem ef3 (m : MethodId) (o0 : Addr) (o1 : Addr) (p2 : Int32) : entryFrame m #[(.ref o0), (.ref o1), (.int p2)] 3 = mkF m 0 #[.val (.ref o0), .val (.ref o1), .val (.int p2)] [] := by first | (simp [entryFrame, mkF, argsToLocals, Value.category]; done) | rfl
def Q3 (Z : State) (o0 : Addr) (o1 : Addr) (p2 : Int32) (h0 : Heap) (n0 : Nat) (v : Option Value) (h : Heap) (L : List Loc) : Prop := v = none ∧ Fr n0 L ∧ Keep h0 h [o0] ∧ Exa Z h o0 "java/lang/String" ∧ Fld Z h o0 "java/lang/String" "value" "[B" (.ref o1) ∧ Fld Z h o0 "java/lang/String" "coder" "B" (.int (nar .byte p2))
set_option maxRecDepth 65536 in
set_option maxHeartbeats 40000000 in
theorem rm3 (l : Launch) (Z : State) (a0 : Array Value) (hw : ∀ d ∈ tables_1, d.before a0 Z = true) (ws : List Jvm.Cond) (o0 : Addr) (o1 : Addr) (p2 : Int32) (h0 : Heap) (n0 : Nat) (Z0 : n0 ≤ h0.size) (E_o0 : Exa Z h0 o0 "java/lang/String") (F_o0_value : Fld Z h0 o0 "java/lang/String" "value" "[B" .null) (F_o0_coder : Fld Z h0 o0 "java/lang/String" "coder" "B" (.int (0 : Int32))) (g_o0 : n0 ≤ o0) :
    MetFree l (⟨"java/lang/String", "<init>", "([BB)V"⟩ : MethodName) (head1 (Jvm.Cond.code (⟨"java/lang/String", "<init>", "([BB)V"⟩ : MethodName) jdk_42_method_151_code 3 none :: ws) ({ frames := 1, cells := 0, slots := 0, locals := 12 } : Room)) (fun a U => a = #[(.ref o0), (.ref o1), (.int p2)] ∧ Z.Warmed39 U.vm ∧ U.heap = h0) (fun _ _ _ _ _ => True) (fun _ U o U' => ∃ v L, o = .returned v ∧ Q3 Z o0 o1 p2 h0 n0 v U'.heap L ∧ FrameEnd U o U' L ({ frames := 1, cells := 0, slots := 0, locals := 12 } : Room).cells ({ frames := 1, cells := 0, slots := 0, locals := 12 } : Room).slots) := by
  refine MetFree.of_bodySF (plainFor_of_name pn3) hisR ?_
  intro p e s m args below meth c s₁ Bd hml0 hP hK
  obtain ⟨rfl, hZ, hh⟩ := hP
  have hlk : meth.locks = false := BodyLoose.notSynchronized Bd
  have hx := Bd.exec
  have hby := Bd.bytes
  have hml : c.maxLocals = 3 := hml0
  have hown : s.vm.findClass "java/lang/String" = some m.cls := findClass_of_methodNamed Bd.named
  have hnm := (name_of_methodNamed Bd.named Bd.method).1
  have X0 : Stand p l e ({ frames := 1, cells := 0, slots := 0, locals := 12 } : Room) s m #[(.ref o0), (.ref o1), (.int p2)] below meth c s₁ [] 0 0 := Stand.of_body Bd
  have e0 : s₁.heap = h0 := by rw [← hh, Bd.state]; rfl
  have N0 := Fr.nil n0
  obtain ⟨S0, hS0⟩ : ∃ S0, S0 = s₁.setTop (entryFrame m #[(.ref o0), (.ref o1), (.int p2)] 3) := ⟨_, rfl⟩
  have pre0 : ∀ t, Steps p.tables e below (s₁.setTop (mkF m 0 #[.val (.ref o0), .val (.ref o1), .val (.int p2)] [])) t → Steps p.tables e below S0 t := fun t k => by rw [hS0]; exact castTop (ef3 m o0 o1 p2) k
  have K1 : ∀ t, Steps p.tables e below (s₁.setTop (mkF m 1 #[.val (.ref o0), .val (.ref o1), .val (.int p2)] [(.ref o0)])) t → Steps p.tables e below S0 t := fun t k => pre0 t (by
    refine XS.aloadN X0.here hx rfl (hb hby d3_0) rfl rfl ?_
    show Steps p.tables e below (s₁.setTop (mkF m 1 #[.val (.ref o0), .val (.ref o1), .val (.int p2)] [(.ref o0)])) _
    exact k)
  have K_2 : ∀ t, Steps p.tables e below (s₁.setTop (mkF m 1 #[.val (.ref o0), .val (.ref o1), .val (.int p2)] [(.ref o0)])) t → Steps p.tables e below S0 t := K1
  obtain ⟨T3, X3, e3, st3⟩ := initO X0 hx hZ hown (hw _ (List.mem_of_getElem? (i := 11) rfl)) (hw _ (List.mem_of_getElem? (i := 12) rfl)) (hw _ (List.mem_of_getElem? (i := 13) rfl)) e0 (g := (mkF m 1 #[.val (.ref o0), .val (.ref o1), .val (.int p2)] [(.ref o0)])) rfl (by rw [hml]; rfl) rfl (hb hby d3_1) (by decide) (W := 0) (by show 2 * 0 + _ ≤ _; exact Nat.le_of_eq rfl) (by decide)
  have K3 : ∀ t, Steps p.tables e below (T3.setTop (mkF m 4 #[.val (.ref o0), .val (.ref o1), .val (.int p2)] [])) t → Steps p.tables e below S0 t := fun t k => K_2 t (st3 t k)
  have K4 : ∀ t, Steps p.tables e below (T3.setTop (mkF m 6 #[.val (.ref o0), .val (.ref o1), .val (.int p2)] [(.ref o1), (.ref o0)])) t → Steps p.tables e below S0 t := fun t k => K3 t (by
    refine XS.aloadN X3.here hx rfl (hb hby d3_4) rfl rfl ?_
    show Steps p.tables e below (T3.setTop (mkF m 5 #[.val (.ref o0), .val (.ref o1), .val (.int p2)] [(.ref o0)])) _
    refine XS.aloadN X3.here hx rfl (hb hby d3_5) rfl rfl ?_
    show Steps p.tables e below (T3.setTop (mkF m 6 #[.val (.ref o0), .val (.ref o1), .val (.int p2)] [(.ref o1), (.ref o0)])) _
    exact k)
  obtain ⟨T5, h5, X5, e5, W5, st5⟩ := putF X3 hx hZ hown (host := "") (Or.inl (hw _ (List.mem_of_getElem? (i := 28) rfl))) Via.refl e3 F_o0_value E_o0 (Or.inr ⟨(hw _ (List.mem_of_getElem? (i := 29) rfl)), rfl, hnm⟩) (hw _ (List.mem_of_getElem? (i := 2) rfl)) (ty := (.array .byte)) (by decide) rfl rfl (g := (mkF m 6 #[.val (.ref o0), .val (.ref o1), .val (.int p2)] [(.ref o1), (.ref o0)])) rfl rfl (hb hby d3_6)
  have F_o0_value__5 := F_o0_value.same W5
  have E_o0__5 := E_o0.wr W5
  have F_o0_coder__5 := F_o0_coder.other W5 (Or.inr (slot_ne (Or.inr (hw _ (List.mem_of_getElem? (i := 27) rfl))) (Or.inr (hw _ (List.mem_of_getElem? (i := 29) rfl))) (by decide) (t := .byte) (t' := (.array .byte)) (by decide) (by decide)))
  have N5 := Fr.snoc X5 N0 g_o0
  have Zs5 : n0 ≤ h5.size := Nat.le_trans Z0 (Nat.le_of_eq W5.size.symm)
  have Kc5 : Keep h0 h5 [o0] := (Keep.refl h0 [o0]).wr W5 (Or.inl (List.mem_of_getElem? (i := 0) rfl))
  have K5 : ∀ t, Steps p.tables e below (T5.setTop (mkF m 9 #[.val (.ref o0), .val (.ref o1), .val (.int p2)] [])) t → Steps p.tables e below S0 t := fun t k => K4 t (st5 t k)
  have K6 : ∀ t, Steps p.tables e below (T5.setTop (mkF m 11 #[.val (.ref o0), .val (.ref o1), .val (.int p2)] [(.int p2), (.ref o0)])) t → Steps p.tables e below S0 t := fun t k => K5 t (by
    refine XS.aloadN X5.here hx rfl (hb hby d3_9) rfl rfl ?_
    show Steps p.tables e below (T5.setTop (mkF m 10 #[.val (.ref o0), .val (.ref o1), .val (.int p2)] [(.ref o0)])) _
    refine XS.iloadN X5.here hx rfl (hb hby d3_10) rfl ?_
    show Steps p.tables e below (T5.setTop (mkF m 11 #[.val (.ref o0), .val (.ref o1), .val (.int p2)] [(.int p2), (.ref o0)])) _
    exact k)
  obtain ⟨T7, h7, X7, e7, W7, st7⟩ := putFN X5 hx hZ hown (hw _ (List.mem_of_getElem? (i := 26) rfl)) Via.refl e5 F_o0_coder__5 E_o0__5 (Or.inr ⟨(hw _ (List.mem_of_getElem? (i := 27) rfl)), rfl, hnm⟩) (hw _ (List.mem_of_getElem? (i := 2) rfl)) (ty := .byte) (v' := (.int (nar .byte p2))) (by decide) rfl (fits_nar_byte p2) (g := (mkF m 11 #[.val (.ref o0), .val (.ref o1), .val (.int p2)] [(.int p2), (.ref o0)])) rfl rfl (hb hby d3_11)
  have F_o0_coder__7 := F_o0_coder__5.same W7
  have E_o0__7 := E_o0__5.wr W7
  have F_o0_value__7 := F_o0_value__5.other W7 (Or.inr (slot_ne (Or.inr (hw _ (List.mem_of_getElem? (i := 29) rfl))) (Or.inr (hw _ (List.mem_of_getElem? (i := 27) rfl))) (by decide) (t := (.array .byte)) (t' := .byte) (by decide) (by decide)))
  have N7 := Fr.snoc X7 N5 g_o0
  have Zs7 : n0 ≤ h7.size := Nat.le_trans Zs5 (Nat.le_of_eq W7.size.symm)
  have Kc7 : Keep h0 h7 [o0] := Kc5.wr W7 (Or.inl (List.mem_of_getElem? (i := 0) rfl))
  have K7 : ∀ t, Steps p.tables e below (T7.setTop (mkF m 14 #[.val (.ref o0), .val (.ref o1), .val (.int p2)] [])) t → Steps p.tables e below S0 t := fun t k => K6 t (st7 t k)
  obtain ⟨fs, hr, hrun, hended, hW, hsame⟩ := X7.leave (v := none) (fun _ => rfl) hlk
  refine ⟨_, _, ?_, hrun, hended, _, _, rfl, ?_, ⟨_, rfl⟩, hW, hsame.mono (by decide) (by decide)⟩
  · rw [← hS0]; exact K7 _ (X7.returnOut hx Bd.returns (hb hby d3_14) hr)
  · show Q3 Z o0 o1 p2 h0 n0 _ T7.heap _
    rw [e7]
    exact ⟨rfl, N7, Kc7, E_o0__7, F_o0_value__7, F_o0_coder__7⟩
theorem d4_0 : decode jdk_42_method_139_code 0 = .ok (.getstatic 38, 3) := by decide +kernel
theorem d4_3 : decode jdk_42_method_139_code 3 = .ok (.ifCond .eq 23, 3) := by decide +kernel
theorem d4_6 : decode jdk_42_method_139_code 6 = .ok (.iload_n 0, 1) := by decide +kernel
theorem d4_7 : decode jdk_42_method_139_code 7 = .ok (.invokestatic 1015, 3) := by decide +kernel
theorem d4_10 : decode jdk_42_method_139_code 10 = .ok (.ifCond .eq 16, 3) := by decide +kernel
theorem d4_13 : decode jdk_42_method_139_code 13 = .ok (.new 10, 3) := by decide +kernel
theorem d4_16 : decode jdk_42_method_139_code 16 = .ok (.dup, 1) := by decide +kernel
theorem d4_17 : decode jdk_42_method_139_code 17 = .ok (.iload_n 0, 1) := by decide +kernel
theorem d4_18 : decode jdk_42_method_139_code 18 = .ok (.invokestatic 1018, 3) := by decide +kernel
theorem d4_21 : decode jdk_42_method_139_code 21 = .ok (.iconst 0, 1) := by decide +kernel
theorem d4_22 : decode jdk_42_method_139_code 22 = .ok (.invokespecial 209, 3) := by decide +kernel
theorem d4_25 : decode jdk_42_method_139_code 25 = .ok (.areturn, 1) := by decide +kernel
theorem pn4 : plainName "java/lang/String" = true := by first | (simp [plainName, overriddenIn]; done) | decide +kernel
theorem pd4_0 : parseMethodDescriptor "(C)Z" = some ⟨[.char], some .boolean⟩ := by decide +kernel
theorem pd4_1 : parseMethodDescriptor "(C)[B" = some ⟨[.char], some (.array .byte)⟩ := by decide +kernel
theorem pd4_2 : parseMethodDescriptor "([BB)V" = some ⟨[(.array .byte), .byte], none⟩ := by decide +kernel
theorem ef4 (m : MethodId) (p0 : Int32) : entryFrame m #[(.int p0)] 1 = mkF m 0 #[.val (.int p0)] [] := by first | (simp [entryFrame, mkF, argsToLocals, Value.category]; done) | rfl
def Q4 (Z : State) (p0 : Int32) (zc : Int32) (h0 : Heap) (n0 : Nat) (v : Option Value) (h : Heap) (L : List Loc) : Prop := ∃ (b8 : Addr) (b11_2 : Addr) (kn11_0 : ClassId), v = some (.ref b8) ∧ Fr n0 L ∧ Keep h0 h [] ∧ h0.size ≤ b8 ∧ h0.size ≤ b11_2 ∧ b8 ≠ b11_2 ∧ Exa Z h b8 "java/lang/String" ∧ Fld Z h b8 "java/lang/String" "coder" "B" (.int (nar .byte (0 : Int32))) ∧ Fld Z h b8 "java/lang/String" "value" "[B" (.ref b11_2) ∧ Arv Z h b11_2 kn11_0 .byte (1 : Int32) [(.int (nar .byte (p0.toInt8.toInt32)))] (.int (0 : Int32))
set_option maxRecDepth 65536 in
set_option maxHeartbeats 40000000 in
theorem rm4 (l : Launch) (Z : State) (a0 : Array Value) (hw : ∀ d ∈ tables_1, d.before a0 Z = true) (ws : List Jvm.Cond) (p0 : Int32) (zc : Int32) (h0 : Heap) (n0 : Nat) (Z0 : n0 ≤ h0.size) (S_String_COMPACT_STRINGS : Sta Z h0 "java/lang/String" "COMPACT_STRINGS" "Z" (.int zc)) (hz : ¬ zc = (0 : Int32)) (hp : ¬ (255 : Int32) < p0) :
    MetFree l (⟨"java/lang/String", "valueOf", "(C)Ljava/lang/String;"⟩ : MethodName) (head1 (Jvm.Cond.code (⟨"java/lang/String", "valueOf", "(C)Ljava/lang/String;"⟩ : MethodName) jdk_42_method_139_code 1 (some (.object "java/lang/String")) :: ws) ({ frames := 2, cells := 2, slots := 5, locals := 27 } : Room)) (fun a U => a = #[(.int p0)] ∧ Z.Warmed39 U.vm ∧ U.heap = h0) (fun _ _ _ _ _ => True) (fun _ U o U' => ∃ v L, o = .returned v ∧ Q4 Z p0 zc h0 n0 v U'.heap L ∧ FrameEnd U o U' L ({ frames := 2, cells := 2, slots := 5, locals := 27 } : Room).cells ({ frames := 2, cells := 2, slots := 5, locals := 27 } : Room).slots) := by
  refine MetFree.of_bodySF (plainFor_of_name pn4) hisR ?_
  intro p e s m args below meth c s₁ Bd hml0 hP hK
  obtain ⟨rfl, hZ, hh⟩ := hP
  have hlk : meth.locks = false := BodyLoose.notSynchronized Bd
  have hx := Bd.exec
  have hby := Bd.bytes
  have hml : c.maxLocals = 1 := hml0
  have hown : s.vm.findClass "java/lang/String" = some m.cls := findClass_of_methodNamed Bd.named
  have hnm := (name_of_methodNamed Bd.named Bd.method).1
  have X0 : Stand p l e ({ frames := 2, cells := 2, slots := 5, locals := 27 } : Room) s m #[(.int p0)] below meth c s₁ [] 0 0 := Stand.of_body Bd
  have e0 : s₁.heap = h0 := by rw [← hh, Bd.state]; rfl
  have N0 := Fr.nil n0
  obtain ⟨S0, hS0⟩ : ∃ S0, S0 = s₁.setTop (entryFrame m #[(.int p0)] 1) := ⟨_, rfl⟩
  have pre0 : ∀ t, Steps p.tables e below (s₁.setTop (mkF m 0 #[.val (.int p0)] [])) t → Steps p.tables e below S0 t := fun t k => by rw [hS0]; exact castTop (ef4 m p0) k
  obtain ⟨T1, X1, e1, st1⟩ := getS2 X0 hx hZ hown (host := "") (Or.inl (hw _ (List.mem_of_getElem? (i := 14) rfl))) Via.refl e0 S_String_COMPACT_STRINGS (g := (mkF m 0 #[.val (.int p0)] [])) rfl (hb hby d4_0)
  have K1 : ∀ t, Steps p.tables e below (T1.setTop (mkF m 3 #[.val (.int p0)] [(.int zc)])) t → Steps p.tables e below S0 t := fun t k => pre0 t (st1 t k)
  have hf2 : ¬ (zc = (0 : Int32)) := hz
  have K3 : ∀ t, Steps p.tables e below (T1.setTop (mkF m 7 #[.val (.int p0)] [(.int p0)])) t → Steps p.tables e below S0 t := fun t k => K1 t (by
    refine XS.ifNo X1.here hx rfl (hb hby d4_3) rfl (XT.i0_eq_f hf2) ?_
    show Steps p.tables e below (T1.setTop (mkF m 6 #[.val (.int p0)] [])) _
    refine XS.iloadN X1.here hx rfl (hb hby d4_6) rfl ?_
    show Steps p.tables e below (T1.setTop (mkF m 7 #[.val (.int p0)] [(.int p0)])) _
    exact k)
  have K_4 : ∀ t, Steps p.tables e below (T1.setTop (mkF m 7 #[.val (.int p0)] [(.int p0)])) t → Steps p.tables e below S0 t := K3
  obtain ⟨_, _, ⟨T5, L5, k5, n5⟩, -, X5, ⟨Lc5, hQ5, l5, y5, z5⟩, st5⟩ := Jvm.LawKit.callS X1 hx (y := (⟨"java/lang/StringLatin1", "canEncode", "(C)Z"⟩ : MethodName)) hown (mvT hZ (hw _ (List.mem_of_getElem? (i := 33) rfl))) (mvT hZ (hw _ (List.mem_of_getElem? (i := 34) rfl))) (mvT hZ (hw _ (List.mem_of_getElem? (i := 35) rfl))) (mvT hZ (hw _ (List.mem_of_getElem? (i := 36) rfl))) (by decide) (backOf (W := 0) (rm1 l Z a0 hw [] p0 h0 n0 Z0 ) hZ (hw _ (List.mem_of_getElem? (i := 36) rfl)) (hw _ (List.mem_of_getElem? (i := 35) rfl)) (by decide) (by decide)) (g := (mkF m 7 #[.val (.int p0)] [(.int p0)])) rfl (by rw [hml]; rfl) (argsL := [(.int p0)]) (rest := []) (lenOf pd4_0 rfl) rfl (by show 2 * 0 + _ ≤ _; exact Nat.le_of_eq rfl) (hb hby d4_7) (fun _ _ => ⟨rfl, e1, (by decide : 0 + 0 ≤ 2), (by decide : 0 + 0 ≤ 5)⟩)
  dsimp only [Pt.U, Pt.locs, Pt.cells, Pt.slots] at X5 l5 y5 z5 st5 hQ5
  subst l5 y5 z5
  obtain ⟨rfl, N5q, e5⟩ := hQ5
  have N5 := Fr.app N0 N5q
  have K5 : ∀ t, Steps p.tables e below (T5.setTop (mkF m 10 #[.val (.int p0)] [(.int (w1_r1 p0))])) t → Steps p.tables e below S0 t := fun t k => K_4 t (st5 t k)
  have hf6 : ¬ ((w1_r1 p0) = (0 : Int32)) := (own_enc p0 hp)
  have K7 : ∀ t, Steps p.tables e below (T5.setTop (mkF m 13 #[.val (.int p0)] [])) t → Steps p.tables e below S0 t := fun t k => K5 t (by
    refine XS.ifNo X5.here hx rfl (hb hby d4_10) rfl (XT.i0_eq_f hf6) ?_
    show Steps p.tables e below (T5.setTop (mkF m 13 #[.val (.int p0)] [])) _
    exact k)
  obtain ⟨T8, h8, X8, e8, E8, A8, D8, -, st8⟩ := newO X5 hx hZ hown (hw _ (List.mem_of_getElem? (i := 37) rfl)) (hw _ (List.mem_of_getElem? (i := 2) rfl)) (hw _ (List.mem_of_getElem? (i := 3) rfl)) e5 (g := (mkF m 13 #[.val (.int p0)] [])) rfl (hb hby d4_13) (by decide) (by decide)
  obtain ⟨b8, g8⟩ : ∃ z, z = h0.size := ⟨_, rfl⟩
  rw [← g8] at A8 D8 st8
  have S_String_COMPACT_STRINGS__8 := S_String_COMPACT_STRINGS.ext E8
  have g_b8 : n0 ≤ b8 := Nat.le_trans Z0 (Nat.le_of_eq g8.symm)
  have Zs8 : n0 ≤ h8.size := Nat.le_trans Z0 E8.1
  have sz_b8 : h0.size ≤ b8 := Nat.le_trans (Keep.refl h0 []).1 (Nat.le_of_eq g8.symm)
  have Kc8 : Keep h0 h8 [] := (Keep.refl h0 []).ext E8
  have F_b8_coder : Fld Z h8 b8 "java/lang/String" "coder" "B" (.int (0 : Int32)) := D8 (Or.inr (hw _ (List.mem_of_getElem? (i := 27) rfl))) (ty := .byte) (by decide)
  have F_b8_value : Fld Z h8 b8 "java/lang/String" "value" "[B" .null := D8 (Or.inr (hw _ (List.mem_of_getElem? (i := 29) rfl))) (ty := (.array .byte)) (by decide)
  have K8 : ∀ t, Steps p.tables e below (T8.setTop (mkF m 16 #[.val (.int p0)] [(.ref b8)])) t → Steps p.tables e below S0 t := fun t k => K7 t (st8 t k)
  have K9 : ∀ t, Steps p.tables e below (T8.setTop (mkF m 18 #[.val (.int p0)] [(.int p0), (.ref b8), (.ref b8)])) t → Steps p.tables e below S0 t := fun t k => K8 t (by
    refine XS.dup X8.here hx rfl (hb hby d4_16) rfl rfl ?_
    show Steps p.tables e below (T8.setTop (mkF m 17 #[.val (.int p0)] [(.ref b8), (.ref b8)])) _
    refine XS.iloadN X8.here hx rfl (hb hby d4_17) rfl ?_
    show Steps p.tables e below (T8.setTop (mkF m 18 #[.val (.int p0)] [(.int p0), (.ref b8), (.ref b8)])) _
    exact k)
  have K_10 : ∀ t, Steps p.tables e below (T8.setTop (mkF m 18 #[.val (.int p0)] [(.int p0), (.ref b8), (.ref b8)])) t → Steps p.tables e below S0 t := K9
  obtain ⟨_, _, ⟨T11, L11, k11, n11⟩, -, X11, ⟨Lc11, hQ11, l11, y11, z11⟩, st11⟩ := Jvm.LawKit.callS X8 hx (y := (⟨"java/lang/StringLatin1", "toBytes", "(C)[B"⟩ : MethodName)) hown (mvT hZ (hw _ (List.mem_of_getElem? (i := 38) rfl))) (mvT hZ (hw _ (List.mem_of_getElem? (i := 39) rfl))) (mvT hZ (hw _ (List.mem_of_getElem? (i := 35) rfl))) (mvT hZ (hw _ (List.mem_of_getElem? (i := 40) rfl))) (by decide) (backOf (W := 2) (rm2 l Z a0 hw [] p0 h8 n0 Zs8 ) hZ (hw _ (List.mem_of_getElem? (i := 40) rfl)) (hw _ (List.mem_of_getElem? (i := 35) rfl)) (by decide) (by decide)) (g := (mkF m 18 #[.val (.int p0)] [(.int p0), (.ref b8), (.ref b8)])) rfl (by rw [hml]; rfl) (argsL := [(.int p0)]) (rest := [(.ref b8), (.ref b8)]) (lenOf pd4_1 rfl) rfl (by show 2 * 0 + _ ≤ _; exact Nat.le_of_eq rfl) (hb hby d4_18) (fun _ _ => ⟨rfl, e8, (by decide : 1 + 1 ≤ 2), (by decide : 4 + 1 ≤ 5)⟩)
  dsimp only [Pt.U, Pt.locs, Pt.cells, Pt.slots] at X11 l11 y11 z11 st11 hQ11
  subst l11 y11 z11
  obtain ⟨b11_2, kn11_0, rfl, N11q, Kp11, lb_b11_2, Fn11_0⟩ := hQ11
  have N11 := Fr.app N5 N11q
  have g_b11_2 : n0 ≤ b11_2 := Nat.le_trans Zs8 lb_b11_2
  have ne_b8_b11_2 : b8 ≠ b11_2 := Nat.ne_of_lt (Nat.lt_of_lt_of_le A8.lt lb_b11_2)
  have sz_b11_2 : h0.size ≤ b11_2 := Nat.le_trans Kc8.1 lb_b11_2
  have A8__11 := A8.keep Kp11
  have F_b8_coder__11 := F_b8_coder.keep Kp11 nin0
  have F_b8_value__11 := F_b8_value.keep Kp11 nin0
  have Zs11 : n0 ≤ T11.heap.size := Nat.le_trans Zs8 Kp11.1
  have Kc11 : Keep h0 T11.heap [] := Kc8.trans Kp11 all0
  have K11 : ∀ t, Steps p.tables e below (T11.setTop (mkF m 21 #[.val (.int p0)] [(.ref b11_2), (.ref b8), (.ref b8)])) t → Steps p.tables e below S0 t := fun t k => K_10 t (st11 t k)
  have K12 : ∀ t, Steps p.tables e below (T11.setTop (mkF m 22 #[.val (.int p0)] [(.int (0 : Int32)), (.ref b11_2), (.ref b8), (.ref b8)])) t → Steps p.tables e below S0 t := fun t k => K11 t (by
    refine XS.iconst X11.here hx rfl (hb hby d4_21) ?_
    show Steps p.tables e below (T11.setTop (mkF m 22 #[.val (.int p0)] [(.int (0 : Int32)), (.ref b11_2), (.ref b8), (.ref b8)])) _
    exact k)
  have K_13 : ∀ t, Steps p.tables e below (T11.setTop (mkF m 22 #[.val (.int p0)] [(.int (0 : Int32)), (.ref b11_2), (.ref b8), (.ref b8)])) t → Steps p.tables e below S0 t := K12
  obtain ⟨_, _, ⟨T14, L14, k14, n14⟩, -, X14, ⟨Lc14, hQ14, l14, y14, z14⟩, st14⟩ := X11.specialBack hx (y := (⟨"java/lang/String", "<init>", "([BB)V"⟩ : MethodName)) rfl hown (mvT hZ (hw _ (List.mem_of_getElem? (i := 41) rfl))) (mvT hZ (hw _ (List.mem_of_getElem? (i := 42) rfl))) (mvT hZ (hw _ (List.mem_of_getElem? (i := 43) rfl))) (by decide) (backOf (W := 1) (rm3 l Z a0 hw [] b8 b11_2 (0 : Int32) T11.heap n0 Zs11 A8__11 F_b8_value__11 F_b8_coder__11 g_b8) hZ (hw _ (List.mem_of_getElem? (i := 43) rfl)) (hw _ (List.mem_of_getElem? (i := 3) rfl)) (by decide) (by decide)) (g := (mkF m 22 #[.val (.int p0)] [(.int (0 : Int32)), (.ref b11_2), (.ref b8), (.ref b8)])) rfl (by rw [hml]; rfl) (Steps.refl _) (a := b8) (argsL := [(.ref b11_2), (.int (0 : Int32))]) (rest := [(.ref b8)]) (lenOf pd4_2 rfl) rfl (by show 2 * 0 + _ ≤ _; exact Nat.le_of_eq rfl) (hb hby d4_22) (fun _ _ => ⟨rfl, rfl, (by decide : 2 + 0 ≤ 2), (by decide : 5 + 0 ≤ 5)⟩)
  dsimp only [Pt.U, Pt.locs, Pt.cells, Pt.slots] at X14 l14 y14 z14 st14 hQ14
  subst l14 y14 z14
  obtain ⟨rfl, N14q, Kp14, Fn14_0, Fn14_1, Fn14_2⟩ := hQ14
  have N14 := Fr.app N11 N14q
  have Fn11_0__14 := Fn11_0.keep Kp14 (ninS (Ne.symm ne_b8_b11_2) nin0)
  have Zs14 : n0 ≤ T14.heap.size := Nat.le_trans Zs11 Kp14.1
  have Kc14 : Keep h0 T14.heap [] := Kc11.trans Kp14 (allS (P := fun x => x ∈ [] ∨ h0.size ≤ x) (Or.inr sz_b8) all0)
  have K14 : ∀ t, Steps p.tables e below (T14.setTop (mkF m 25 #[.val (.int p0)] [(.ref b8)])) t → Steps p.tables e below S0 t := fun t k => K_13 t (st14.trans k)
  obtain ⟨fs, hr, hrun, hended, hW, hsame⟩ := X14.leave (v := some (.ref b8)) (fun h => by rw [Bd.returns] at h; cases h) hlk
  refine ⟨_, _, ?_, hrun, hended, _, _, rfl, ?_, ⟨_, rfl⟩, hW, hsame.mono (by decide) (by decide)⟩
  · rw [← hS0]; exact K14 _ (retOut X14 hx Bd.returns rfl (Or.inr (Or.inr (Or.inr (Or.inr ⟨rfl, rfl, rfl⟩)))) (hb hby d4_25) hr)
  · show Q4 Z p0 zc h0 n0 _ T14.heap _
    exact ⟨b8, b11_2, kn11_0, rfl, N14, Kc14, sz_b8, sz_b11_2, ne_b8_b11_2, Fn14_0, Fn14_2, Fn14_1, Fn11_0__14⟩
theorem dzv_0 : decode jdk_42_method_149_code 0 = .ok (.aload_n 0, 1) := by decide +kernel
theorem dzv_1 : decode jdk_42_method_149_code 1 = .ok (.invokespecial 1, 3) := by decide +kernel
theorem dzv_4 : decode jdk_42_method_149_code 4 = .ok (.iload_n 3, 1) := by decide +kernel
theorem dzv_5 : decode jdk_42_method_149_code 5 = .ok (.ifCond .ne 22, 3) := by decide +kernel
theorem dzv_8 : decode jdk_42_method_149_code 8 = .ok (.aload_n 0, 1) := by decide +kernel
theorem dzv_9 : decode jdk_42_method_149_code 9 = .ok (.ldc 7, 2) := by decide +kernel
theorem dzv_11 : decode jdk_42_method_149_code 11 = .ok (.getfield 9, 3) := by decide +kernel
theorem dzv_14 : decode jdk_42_method_149_code 14 = .ok (.putfield 9, 3) := by decide +kernel
theorem dzv_17 : decode jdk_42_method_149_code 17 = .ok (.aload_n 0, 1) := by decide +kernel
theorem dzv_18 : decode jdk_42_method_149_code 18 = .ok (.ldc 7, 2) := by decide +kernel
theorem dzv_20 : decode jdk_42_method_149_code 20 = .ok (.getfield 15, 3) := by decide +kernel
theorem dzv_23 : decode jdk_42_method_149_code 23 = .ok (.putfield 15, 3) := by decide +kernel
theorem dzv_26 : decode jdk_42_method_149_code 26 = .ok (.return_, 1) := by decide +kernel
theorem pnzv : plainName "java/lang/String" = true := by first | (simp [plainName, overriddenIn]; done) | decide +kernel
theorem efzv (m : MethodId) (o0 : Addr) (o1 : Addr) : entryFrame m #[(.ref o0), (.ref o1), (.int (0 : Int32)), (.int (0 : Int32)), .null] 6 = mkF m 0 #[.val (.ref o0), .val (.ref o1), .val (.int (0 : Int32)), .val (.int (0 : Int32)), .val .null, .unset] [] := by first | (simp [entryFrame, mkF, argsToLocals, Value.category]; done) | rfl
def Qzv (Z : State) (o0 : Addr) (o1 : Addr) (h0 : Heap) (n0 : Nat) (v : Option Value) (h : Heap) (L : List Loc) : Prop := v = none ∧ Fr n0 L ∧ Keep h0 h [o0] ∧ Exa Z h o0 "java/lang/String" ∧ Fld Z h o0 "java/lang/String" "coder" "B" (.int (0 : Int32))
set_option maxRecDepth 65536 in
set_option maxHeartbeats 40000000 in
theorem rmzv (l : Launch) (Z : State) (a0 : Array Value) (hw : ∀ d ∈ tables_1, d.before a0 Z = true) (ws : List Jvm.Cond) (o0 : Addr) (o1 : Addr) (h0 : Heap) (n0 : Nat) (Z0 : n0 ≤ h0.size) (E_o0 : Exa Z h0 o0 "java/lang/String") (F_o0_value : Fld Z h0 o0 "java/lang/String" "value" "[B" .null) (F_o0_coder : Fld Z h0 o0 "java/lang/String" "coder" "B" (.int (0 : Int32))) (g_o0 : n0 ≤ o0) (hold : Old Z n0 h0) (hcs : Jvm.Lit.constHeld Z "java/lang/String" 7) (hcw : Jvm.Lit.compactW.before a0 Z = true) :
    MetFree l (⟨"java/lang/String", "<init>", "([CIILjava/lang/Void;)V"⟩ : MethodName) (head1 (Jvm.Cond.code (⟨"java/lang/String", "<init>", "([CIILjava/lang/Void;)V"⟩ : MethodName) jdk_42_method_149_code 6 none :: ws) ({ frames := 1, cells := 2, slots := 4, locals := 12 } : Room)) (fun a U => a = #[(.ref o0), (.ref o1), (.int (0 : Int32)), (.int (0 : Int32)), .null] ∧ Z.Warmed39 U.vm ∧ U.heap = h0 ∧ IB Z U.vm []) (fun _ _ _ _ _ => True) (fun _ U o U' => ∃ v L, o = .returned v ∧ Qzv Z o0 o1 h0 n0 v U'.heap L ∧ ReturnedEndW U o U' L ({ frames := 1, cells := 2, slots := 4, locals := 12 } : Room).cells ({ frames := 1, cells := 2, slots := 4, locals := 12 } : Room).slots) := by
  refine MetFree.of_bodySF (plainFor_of_name pnzv) hisR ?_
  intro p e s m args below meth c s₁ Bd hml0 hP hK
  obtain ⟨rfl, hZ, hh, hI⟩ := hP
  have hlk : meth.locks = false := BodyLoose.notSynchronized Bd
  have hx := Bd.exec
  have hby := Bd.bytes
  have hml : c.maxLocals = 6 := hml0
  have hown : s.vm.findClass "java/lang/String" = some m.cls := findClass_of_methodNamed Bd.named
  have hnm := (name_of_methodNamed Bd.named Bd.method).1
  have X0 : Stand p l e ({ frames := 1, cells := 2, slots := 4, locals := 12 } : Room) s m #[(.ref o0), (.ref o1), (.int (0 : Int32)), (.int (0 : Int32)), .null] below meth c s₁ [] 0 0 := Stand.of_body Bd
  have e0 : s₁.heap = h0 := by rw [← hh, Bd.state]; rfl
  have N0 := Fr.nil n0
  obtain ⟨S0, hS0⟩ : ∃ S0, S0 = s₁.setTop (entryFrame m #[(.ref o0), (.ref o1), (.int (0 : Int32)), (.int (0 : Int32)), .null] 6) := ⟨_, rfl⟩
  have pre0 : ∀ t, Steps p.tables e below (s₁.setTop (mkF m 0 #[.val (.ref o0), .val (.ref o1), .val (.int (0 : Int32)), .val (.int (0 : Int32)), .val .null, .unset] [])) t → Steps p.tables e below S0 t := fun t k => by rw [hS0]; exact castTop (efzv m o0 o1) k
  have K1 : ∀ t, Steps p.tables e below (s₁.setTop (mkF m 1 #[.val (.ref o0), .val (.ref o1), .val (.int (0 : Int32)), .val (.int (0 : Int32)), .val .null, .unset] [(.ref o0)])) t → Steps p.tables e below S0 t := fun t k => pre0 t (by
    refine XS.aloadN X0.here hx rfl (hb hby dzv_0) rfl rfl ?_
    show Steps p.tables e below (s₁.setTop (mkF m 1 #[.val (.ref o0), .val (.ref o1), .val (.int (0 : Int32)), .val (.int (0 : Int32)), .val .null, .unset] [(.ref o0)])) _
    exact k)
  have K_2 : ∀ t, Steps p.tables e below (s₁.setTop (mkF m 1 #[.val (.ref o0), .val (.ref o1), .val (.int (0 : Int32)), .val (.int (0 : Int32)), .val .null, .unset] [(.ref o0)])) t → Steps p.tables e below S0 t := K1
  obtain ⟨T3, X3, e3, st3⟩ := initO X0 hx hZ hown (hw _ (List.mem_of_getElem? (i := 11) rfl)) (hw _ (List.mem_of_getElem? (i := 12) rfl)) (hw _ (List.mem_of_getElem? (i := 13) rfl)) e0 (g := (mkF m 1 #[.val (.ref o0), .val (.ref o1), .val (.int (0 : Int32)), .val (.int (0 : Int32)), .val .null, .unset] [(.ref o0)])) rfl (by rw [hml]; rfl) rfl (hb hby dzv_1) (by decide) (W := 0) (by show 2 * 0 + _ ≤ _; exact Nat.le_of_eq rfl) (by decide)
  have K3 : ∀ t, Steps p.tables e below (T3.setTop (mkF m 4 #[.val (.ref o0), .val (.ref o1), .val (.int (0 : Int32)), .val (.int (0 : Int32)), .val .null, .unset] [])) t → Steps p.tables e below S0 t := fun t k => K_2 t (st3 t k)
  have K4 : ∀ t, Steps p.tables e below (T3.setTop (mkF m 5 #[.val (.ref o0), .val (.ref o1), .val (.int (0 : Int32)), .val (.int (0 : Int32)), .val .null, .unset] [(.int (0 : Int32))])) t → Steps p.tables e below S0 t := fun t k => K3 t (by
    refine XS.iloadN X3.here hx rfl (hb hby dzv_4) rfl ?_
    show Steps p.tables e below (T3.setTop (mkF m 5 #[.val (.ref o0), .val (.ref o1), .val (.int (0 : Int32)), .val (.int (0 : Int32)), .val .null, .unset] [(.int (0 : Int32))])) _
    exact k)
  have K5 : ∀ t, Steps p.tables e below (T3.setTop (mkF m 9 #[.val (.ref o0), .val (.ref o1), .val (.int (0 : Int32)), .val (.int (0 : Int32)), .val .null, .unset] [(.ref o0)])) t → Steps p.tables e below S0 t := fun t k => K4 t (by
    refine XS.ifNo X3.here hx rfl (hb hby dzv_5) rfl (XT.i0_ne_f (by decide)) ?_
    show Steps p.tables e below (T3.setTop (mkF m 8 #[.val (.ref o0), .val (.ref o1), .val (.int (0 : Int32)), .val (.int (0 : Int32)), .val .null, .unset] [])) _
    refine XS.aloadN X3.here hx rfl (hb hby dzv_8) rfl rfl ?_
    show Steps p.tables e below (T3.setTop (mkF m 9 #[.val (.ref o0), .val (.ref o1), .val (.int (0 : Int32)), .val (.int (0 : Int32)), .val .null, .unset] [(.ref o0)])) _
    exact k)
  obtain ⟨al6, T6, h6, kw6, bl6, kl6, X6, e6, E6, hS6, hk6, hZ, hown, A6, FC6, FV6, -, -, -, -, Lt6, st6⟩ := ldcSVL (s := s) (vm0 := s.vm) X3 hx hZ hown (hw _ (List.mem_of_getElem? (i := 128) rfl)) (own_sAt hw) e3 (State.WarmedH.since (State.WarmedH.refl s) 0) (Nat.zero_le _) (Fr.nil s.heap.size) (fun b cl q => hh ▸ hold.2.2 b cl q) hI (by decide) hcs hcw (vs := []) (z := 0) (by decide) (by decide) rfl (g := (mkF m 9 #[.val (.ref o0), .val (.ref o1), .val (.int (0 : Int32)), .val (.int (0 : Int32)), .val .null, .unset] [(.ref o0)])) rfl (hb hby dzv_9) (n := 0) (by decide) (by decide) (by decide) (by decide)
  have E_o0__6 := E_o0.ext E6
  have F_o0_value__6 := F_o0_value.ext E6
  have F_o0_coder__6 := F_o0_coder.ext E6
  have Zs6 : n0 ≤ h6.size := Nat.le_trans Z0 E6.1
  have Kc6 : Keep h0 h6 [o0] := (Keep.refl h0 [o0]).ext E6
  have ne_o0_al6 : o0 ≠ al6 := own_litne F_o0_value__6 FV6
  have K6 : ∀ t, Steps p.tables e below (T6.setTop (mkF m 11 #[.val (.ref o0), .val (.ref o1), .val (.int (0 : Int32)), .val (.int (0 : Int32)), .val .null, .unset] [(.ref al6), (.ref o0)])) t → Steps p.tables e below S0 t := fun t k => K5 t (st6 t k)
  obtain ⟨T7, X7, e7, st7⟩ := getF X6 hx hZ hown (host := "") (Or.inl (hw _ (List.mem_of_getElem? (i := 28) rfl))) Via.refl e6 FV6 (g := (mkF m 11 #[.val (.ref o0), .val (.ref o1), .val (.int (0 : Int32)), .val (.int (0 : Int32)), .val .null, .unset] [(.ref al6), (.ref o0)])) rfl rfl (hb hby dzv_11)
  have K7 : ∀ t, Steps p.tables e below (T7.setTop (mkF m 14 #[.val (.ref o0), .val (.ref o1), .val (.int (0 : Int32)), .val (.int (0 : Int32)), .val .null, .unset] [(.ref bl6), (.ref o0)])) t → Steps p.tables e below S0 t := fun t k => K6 t (st7 t k)
  obtain ⟨T8, h8, X8, e8, W8, st8⟩ := putF X7 hx hZ hown (host := "") (Or.inl (hw _ (List.mem_of_getElem? (i := 28) rfl))) Via.refl e7 F_o0_value__6 E_o0__6 (Or.inr ⟨(hw _ (List.mem_of_getElem? (i := 29) rfl)), rfl, hnm⟩) (hw _ (List.mem_of_getElem? (i := 2) rfl)) (ty := (.array .byte)) (by decide) rfl rfl (g := (mkF m 14 #[.val (.ref o0), .val (.ref o1), .val (.int (0 : Int32)), .val (.int (0 : Int32)), .val .null, .unset] [(.ref bl6), (.ref o0)])) rfl rfl (hb hby dzv_14)
  have F_o0_value__8 := F_o0_value__6.same W8
  have E_o0__8 := E_o0__6.wr W8
  have F_o0_coder__8 := F_o0_coder__6.other W8 (Or.inr (slot_ne (Or.inr (hw _ (List.mem_of_getElem? (i := 27) rfl))) (Or.inr (hw _ (List.mem_of_getElem? (i := 29) rfl))) (by decide) (t := .byte) (t' := (.array .byte)) (by decide) (by decide)))
  have A6__8 := A6.wr W8
  have FC6__8 := FC6.other W8 (Or.inl (Ne.symm ne_o0_al6))
  have FV6__8 := FV6.other W8 (Or.inl (Ne.symm ne_o0_al6))
  have N8 := Fr.snoc X8 N0 g_o0
  have Zs8 : n0 ≤ h8.size := Nat.le_trans Zs6 (Nat.le_of_eq W8.size.symm)
  have Zk8 : kw6 ≤ h8.size := Nat.le_trans hk6 (Nat.le_of_eq W8.size.symm)
  have Kc8 : Keep h0 h8 [o0] := Kc6.wr W8 (Or.inl (List.mem_of_getElem? (i := 0) rfl))
  have K8 : ∀ t, Steps p.tables e below (T8.setTop (mkF m 17 #[.val (.ref o0), .val (.ref o1), .val (.int (0 : Int32)), .val (.int (0 : Int32)), .val .null, .unset] [])) t → Steps p.tables e below S0 t := fun t k => K7 t (st8 t k)
  have K9 : ∀ t, Steps p.tables e below (T8.setTop (mkF m 18 #[.val (.ref o0), .val (.ref o1), .val (.int (0 : Int32)), .val (.int (0 : Int32)), .val .null, .unset] [(.ref o0)])) t → Steps p.tables e below S0 t := fun t k => K8 t (by
    refine XS.aloadN X8.here hx rfl (hb hby dzv_17) rfl rfl ?_
    show Steps p.tables e below (T8.setTop (mkF m 18 #[.val (.ref o0), .val (.ref o1), .val (.int (0 : Int32)), .val (.int (0 : Int32)), .val .null, .unset] [(.ref o0)])) _
    exact k)
  have K10 : ∀ t, Steps p.tables e below (T8.setTop (mkF m 20 #[.val (.ref o0), .val (.ref o1), .val (.int (0 : Int32)), .val (.int (0 : Int32)), .val .null, .unset] [(.ref al6), (.ref o0)])) t → Steps p.tables e below S0 t := fun t k => K9 t (by
    refine ldcAgain X8 hx hZ hown (hw _ (List.mem_of_getElem? (i := 128) rfl)) Lt6 (g := (mkF m 18 #[.val (.ref o0), .val (.ref o1), .val (.int (0 : Int32)), .val (.int (0 : Int32)), .val .null, .unset] [(.ref o0)])) rfl (hb hby dzv_18) _ ?_
    show Steps p.tables e below (T8.setTop (mkF m 20 #[.val (.ref o0), .val (.ref o1), .val (.int (0 : Int32)), .val (.int (0 : Int32)), .val .null, .unset] [(.ref al6), (.ref o0)])) _
    exact k)
  obtain ⟨T11, X11, e11, st11⟩ := getF X8 hx hZ hown (host := "") (Or.inl (hw _ (List.mem_of_getElem? (i := 26) rfl))) Via.refl e8 FC6__8 (g := (mkF m 20 #[.val (.ref o0), .val (.ref o1), .val (.int (0 : Int32)), .val (.int (0 : Int32)), .val .null, .unset] [(.ref al6), (.ref o0)])) rfl rfl (hb hby dzv_20)
  have K11 : ∀ t, Steps p.tables e below (T11.setTop (mkF m 23 #[.val (.ref o0), .val (.ref o1), .val (.int (0 : Int32)), .val (.int (0 : Int32)), .val .null, .unset] [(.int (0 : Int32)), (.ref o0)])) t → Steps p.tables e below S0 t := fun t k => K10 t (st11 t k)
  obtain ⟨T12, h12, X12, e12, W12, st12⟩ := putFN X11 hx hZ hown (hw _ (List.mem_of_getElem? (i := 26) rfl)) Via.refl e11 F_o0_coder__8 E_o0__8 (Or.inr ⟨(hw _ (List.mem_of_getElem? (i := 27) rfl)), rfl, hnm⟩) (hw _ (List.mem_of_getElem? (i := 2) rfl)) (ty := .byte) (v' := (.int (0 : Int32))) (by decide) rfl (fits_nar_byte (0 : Int32)) (g := (mkF m 23 #[.val (.ref o0), .val (.ref o1), .val (.int (0 : Int32)), .val (.int (0 : Int32)), .val .null, .unset] [(.int (0 : Int32)), (.ref o0)])) rfl rfl (hb hby dzv_23)
  have F_o0_coder__12 := F_o0_coder__8.same W12
  have E_o0__12 := E_o0__8.wr W12
  have F_o0_value__12 := F_o0_value__8.other W12 (Or.inr (slot_ne (Or.inr (hw _ (List.mem_of_getElem? (i := 29) rfl))) (Or.inr (hw _ (List.mem_of_getElem? (i := 27) rfl))) (by decide) (t := (.array .byte)) (t' := .byte) (by decide) (by decide)))
  have A6__12 := A6__8.wr W12
  have FC6__12 := FC6__8.other W12 (Or.inl (Ne.symm ne_o0_al6))
  have FV6__12 := FV6__8.other W12 (Or.inl (Ne.symm ne_o0_al6))
  have N12 := Fr.snoc X12 N8 g_o0
  have Zs12 : n0 ≤ h12.size := Nat.le_trans Zs8 (Nat.le_of_eq W12.size.symm)
  have Zk12 : kw6 ≤ h12.size := Nat.le_trans Zk8 (Nat.le_of_eq W12.size.symm)
  have Kc12 : Keep h0 h12 [o0] := Kc8.wr W12 (Or.inl (List.mem_of_getElem? (i := 0) rfl))
  have K12 : ∀ t, Steps p.tables e below (T12.setTop (mkF m 26 #[.val (.ref o0), .val (.ref o1), .val (.int (0 : Int32)), .val (.int (0 : Int32)), .val .null, .unset] [])) t → Steps p.tables e below S0 t := fun t k => K11 t (st12 t k)
  obtain ⟨fs, hr, hrun, hended, hE⟩ := Jvm.Stand.leaveW (s := s) X12 hS6 (by rw [e12]; exact Zk12) (v := none) (fun _ => rfl) hlk
  refine ⟨_, _, ?_, hrun, hended, _, _, rfl, ?_, hE.1, hE.2.1, hE.2.2.1, hE.2.2.2.mono (by decide) (by decide)⟩
  · rw [← hS0]; exact K12 _ (X12.returnOut hx Bd.returns (hb hby dzv_26) hr)
  · show Qzv Z o0 o1 h0 n0 _ T12.heap _
    rw [e12]
    exact ⟨rfl, N12, Kc12, E_o0__12, F_o0_coder__12⟩
theorem dzi_0 : decode jdk_42_method_3_code 0 = .ok (.aload_n 0, 1) := by decide +kernel
theorem dzi_1 : decode jdk_42_method_3_code 1 = .ok (.aload_n 1, 1) := by decide +kernel
theorem dzi_2 : decode jdk_42_method_3_code 2 = .ok (.iconst 0, 1) := by decide +kernel
theorem dzi_3 : decode jdk_42_method_3_code 3 = .ok (.aload_n 1, 1) := by decide +kernel
theorem dzi_4 : decode jdk_42_method_3_code 4 = .ok (.arraylength, 1) := by decide +kernel
theorem dzi_5 : decode jdk_42_method_3_code 5 = .ok (.aconst_null, 1) := by decide +kernel
theorem dzi_6 : decode jdk_42_method_3_code 6 = .ok (.invokespecial 27, 3) := by decide +kernel
theorem dzi_9 : decode jdk_42_method_3_code 9 = .ok (.return_, 1) := by decide +kernel
theorem pnzi : plainName "java/lang/String" = true := by first | (simp [plainName, overriddenIn]; done) | decide +kernel
theorem pdzi_0 : parseMethodDescriptor "([CIILjava/lang/Void;)V" = some ⟨[(.array .char), .int, .int, (.object "java/lang/Void")], none⟩ := by decide +kernel
theorem efzi (m : MethodId) (o0 : Addr) (o1 : Addr) : entryFrame m #[(.ref o0), (.ref o1)] 2 = mkF m 0 #[.val (.ref o0), .val (.ref o1)] [] := by first | (simp [entryFrame, mkF, argsToLocals, Value.category]; done) | rfl
def Qzi (Z : State) (o0 : Addr) (o1 : Addr) (ka : ClassId) (h0 : Heap) (n0 : Nat) (v : Option Value) (h : Heap) (L : List Loc) : Prop := v = none ∧ Fr n0 L ∧ Keep h0 h [o0] ∧ Exa Z h o0 "java/lang/String" ∧ Fld Z h o0 "java/lang/String" "coder" "B" (.int (0 : Int32))
set_option maxRecDepth 65536 in
set_option maxHeartbeats 40000000 in
theorem rmzi (l : Launch) (Z : State) (a0 : Array Value) (hw : ∀ d ∈ tables_1, d.before a0 Z = true) (ws : List Jvm.Cond) (o0 : Addr) (o1 : Addr) (ka : ClassId) (h0 : Heap) (n0 : Nat) (Z0 : n0 ≤ h0.size) (E_o0 : Exa Z h0 o0 "java/lang/String") (F_o0_value : Fld Z h0 o0 "java/lang/String" "value" "[B" .null) (F_o0_coder : Fld Z h0 o0 "java/lang/String" "coder" "B" (.int (0 : Int32))) (g_o0 : n0 ≤ o0) (V_o1 : Arv Z h0 o1 ka .char (0 : Int32) [] (.int (0 : Int32))) (hold : Old Z n0 h0) (hcs : Jvm.Lit.constHeld Z "java/lang/String" 7) (hcw : Jvm.Lit.compactW.before a0 Z = true) (ne_o0_o1 : o0 ≠ o1) :
    MetFree l (⟨"java/lang/String", "<init>", "([C)V"⟩ : MethodName) (head1 (Jvm.Cond.code (⟨"java/lang/String", "<init>", "([C)V"⟩ : MethodName) jdk_42_method_3_code 2 none :: ws) ({ frames := 2, cells := 2, slots := 4, locals := 29 } : Room)) (fun a U => a = #[(.ref o0), (.ref o1)] ∧ Z.Warmed39 U.vm ∧ U.heap = h0 ∧ IB Z U.vm []) (fun _ _ _ _ _ => True) (fun _ U o U' => ∃ v L, o = .returned v ∧ Qzi Z o0 o1 ka h0 n0 v U'.heap L ∧ ReturnedEndW U o U' L ({ frames := 2, cells := 2, slots := 4, locals := 29 } : Room).cells ({ frames := 2, cells := 2, slots := 4, locals := 29 } : Room).slots) := by
  refine MetFree.of_bodySF (plainFor_of_name pnzi) hisR ?_
  intro p e s m args below meth c s₁ Bd hml0 hP hK
  obtain ⟨rfl, hZ, hh, hI⟩ := hP
  have hlk : meth.locks = false := BodyLoose.notSynchronized Bd
  have hx := Bd.exec
  have hby := Bd.bytes
  have hml : c.maxLocals = 2 := hml0
  have hown : s.vm.findClass "java/lang/String" = some m.cls := findClass_of_methodNamed Bd.named
  have hnm := (name_of_methodNamed Bd.named Bd.method).1
  have X0 : Stand p l e ({ frames := 2, cells := 2, slots := 4, locals := 29 } : Room) s m #[(.ref o0), (.ref o1)] below meth c s₁ [] 0 0 := Stand.of_body Bd
  have e0 : s₁.heap = h0 := by rw [← hh, Bd.state]; rfl
  have N0 := Fr.nil n0
  obtain ⟨S0, hS0⟩ : ∃ S0, S0 = s₁.setTop (entryFrame m #[(.ref o0), (.ref o1)] 2) := ⟨_, rfl⟩
  have pre0 : ∀ t, Steps p.tables e below (s₁.setTop (mkF m 0 #[.val (.ref o0), .val (.ref o1)] [])) t → Steps p.tables e below S0 t := fun t k => by rw [hS0]; exact castTop (efzi m o0 o1) k
  have K1 : ∀ t, Steps p.tables e below (s₁.setTop (mkF m 4 #[.val (.ref o0), .val (.ref o1)] [(.ref o1), (.int (0 : Int32)), (.ref o1), (.ref o0)])) t → Steps p.tables e below S0 t := fun t k => pre0 t (by
    refine XS.aloadN X0.here hx rfl (hb hby dzi_0) rfl rfl ?_
    show Steps p.tables e below (s₁.setTop (mkF m 1 #[.val (.ref o0), .val (.ref o1)] [(.ref o0)])) _
    refine XS.aloadN X0.here hx rfl (hb hby dzi_1) rfl rfl ?_
    show Steps p.tables e below (s₁.setTop (mkF m 2 #[.val (.ref o0), .val (.ref o1)] [(.ref o1), (.ref o0)])) _
    refine XS.iconst X0.here hx rfl (hb hby dzi_2) ?_
    show Steps p.tables e below (s₁.setTop (mkF m 3 #[.val (.ref o0), .val (.ref o1)] [(.int (0 : Int32)), (.ref o1), (.ref o0)])) _
    refine XS.aloadN X0.here hx rfl (hb hby dzi_3) rfl rfl ?_
    show Steps p.tables e below (s₁.setTop (mkF m 4 #[.val (.ref o0), .val (.ref o1)] [(.ref o1), (.int (0 : Int32)), (.ref o1), (.ref o0)])) _
    exact k)
  obtain ⟨cl2, Ar2, qa2, sa2, na2, ha2, ga2⟩ := id V_o1
  have K2 : ∀ t, Steps p.tables e below (s₁.setTop (mkF m 5 #[.val (.ref o0), .val (.ref o1)] [(.int (0 : Int32)), (.int (0 : Int32)), (.ref o1), (.ref o0)])) t → Steps p.tables e below S0 t := fun t k => K1 t (X0.arraylength hx (by rw [e0]; exact Ar2.1) (State.isArrayOf_alike hZ.alike Ar2.2.1) (g := (mkF m 4 #[.val (.ref o0), .val (.ref o1)] [(.ref o1), (.int (0 : Int32)), (.ref o1), (.ref o0)])) rfl rfl (hb hby dzi_4) _ (by rw [len_of sa2 na2]; exact k))
  have K3 : ∀ t, Steps p.tables e below (s₁.setTop (mkF m 6 #[.val (.ref o0), .val (.ref o1)] [.null, (.int (0 : Int32)), (.int (0 : Int32)), (.ref o1), (.ref o0)])) t → Steps p.tables e below S0 t := fun t k => K2 t (by
    refine XS.aconstNull X0.here hx rfl (hb hby dzi_5) ?_
    show Steps p.tables e below (s₁.setTop (mkF m 6 #[.val (.ref o0), .val (.ref o1)] [.null, (.int (0 : Int32)), (.int (0 : Int32)), (.ref o1), (.ref o0)])) _
    exact k)
  have K_4 : ∀ t, Steps p.tables e below (s₁.setTop (mkF m 6 #[.val (.ref o0), .val (.ref o1)] [.null, (.int (0 : Int32)), (.int (0 : Int32)), (.ref o1), (.ref o0)])) t → Steps p.tables e below S0 t := K3
  obtain ⟨_, _, ⟨T5, L5, k5, n5⟩, -, X5, hS5, hgr5, ⟨Lc5, hQ5, l5, y5, z5⟩, st5⟩ := X0.specialBackS hx (y := (⟨"java/lang/String", "<init>", "([CIILjava/lang/Void;)V"⟩ : MethodName)) rfl hown (mvT hZ (hw _ (List.mem_of_getElem? (i := 7) rfl))) (mvT hZ (hw _ (List.mem_of_getElem? (i := 8) rfl))) (mvT hZ (hw _ (List.mem_of_getElem? (i := 10) rfl))) (by decide) (own_backOfI (W := 0) (rmzv l Z a0 hw [] o0 o1 h0 n0 Z0 E_o0 F_o0_value F_o0_coder g_o0 hold hcs hcw) hZ hI (hw _ (List.mem_of_getElem? (i := 10) rfl)) (hw _ (List.mem_of_getElem? (i := 3) rfl)) (by decide) (by decide)) (g := (mkF m 6 #[.val (.ref o0), .val (.ref o1)] [.null, (.int (0 : Int32)), (.int (0 : Int32)), (.ref o1), (.ref o0)])) rfl (by rw [hml]; rfl) (Steps.refl _) (a := o0) (argsL := [(.ref o1), (.int (0 : Int32)), (.int (0 : Int32)), .null]) (rest := []) (lenOf pdzi_0 rfl) rfl (by show 2 * 0 + _ ≤ _; exact Nat.le_of_eq rfl) (hb hby dzi_6) (fun _ _ => ⟨rfl, e0, (by decide : 0 + 2 ≤ 2), (by decide : 0 + 4 ≤ 4)⟩)
  dsimp only [Pt.U] at hS5 hgr5
  dsimp only [Pt.U, Pt.locs, Pt.cells, Pt.slots] at X5 l5 y5 z5 st5 hQ5
  subst l5 y5 z5
  obtain ⟨rfl, N5q, Kp5, Fn5_0, Fn5_1⟩ := hQ5
  have N5 := Fr.app N0 N5q
  have V_o1__5 := V_o1.keep Kp5 (ninS (Ne.symm ne_o0_o1) nin0)
  have Zs5 : n0 ≤ T5.heap.size := Nat.le_trans Z0 Kp5.1
  have Kc5 : Keep h0 T5.heap [o0] := (Keep.refl h0 [o0]).trans Kp5 (allS (P := fun x => x ∈ [o0] ∨ h0.size ≤ x) (Or.inl (List.mem_of_getElem? (i := 0) rfl)) all0)
  have hZ : Z.Warmed39 (s.setVm T5.vm).vm := State.Warmed39.trans hZ hS5.1
  have hown : (s.setVm T5.vm).vm.findClass "java/lang/String" = some m.cls := (hS5.1.alike.findClass _ _).trans hown
  have K5 : ∀ t, Steps p.tables e below (T5.setTop (mkF m 9 #[.val (.ref o0), .val (.ref o1)] [])) t → Steps p.tables e below S0 t := fun t k => K_4 t (st5.trans k)
  obtain ⟨fs, hr, hrun, hended, hE⟩ := Jvm.Stand.leaveW (s := s) X5 hS5 (Nat.le_refl _) (v := none) (fun _ => rfl) hlk
  refine ⟨_, _, ?_, hrun, hended, _, _, rfl, ?_, hE.1, hE.2.1, hE.2.2.1, hE.2.2.2.mono (by decide) (by decide)⟩
  · rw [← hS0]; exact K5 _ (X5.returnOut hx Bd.returns (hb hby dzi_9) hr)
  · show Qzi Z o0 o1 ka h0 n0 _ T5.heap _
    exact ⟨rfl, N5, Kc5, Fn5_0, Fn5_1⟩
theorem d5_0 : decode jdk_30_method_1_code 0 = .ok (.aload_n 0, 1) := by decide +kernel
theorem d5_1 : decode jdk_30_method_1_code 1 = .ok (.invokespecial 1, 3) := by decide +kernel
theorem d5_4 : decode jdk_30_method_1_code 4 = .ok (.return_, 1) := by decide +kernel
theorem pn5 : plainName "java/lang/Record" = true := by first | (simp [plainName, overriddenIn]; done) | decide +kernel
theorem ef5 (m : MethodId) (o0 : Addr) : entryFrame m #[(.ref o0)] 1 = mkF m 0 #[.val (.ref o0)] [] := by first | (simp [entryFrame, mkF, argsToLocals, Value.category]; done) | rfl
def Q5 (Z : State) (o0 : Addr) (h0 : Heap) (n0 : Nat) (v : Option Value) (h : Heap) (L : List Loc) : Prop := v = none ∧ Fr n0 L ∧ h = h0
set_option maxRecDepth 65536 in
set_option maxHeartbeats 40000000 in
theorem rm5 (l : Launch) (Z : State) (a0 : Array Value) (hw : ∀ d ∈ tables_1, d.before a0 Z = true) (ws : List Jvm.Cond) (o0 : Addr) (h0 : Heap) (n0 : Nat) (Z0 : n0 ≤ h0.size) :
    MetFree l (⟨"java/lang/Record", "<init>", "()V"⟩ : MethodName) (head1 (Jvm.Cond.code (⟨"java/lang/Record", "<init>", "()V"⟩ : MethodName) jdk_30_method_1_code 1 none :: ws) ({ frames := 1, cells := 0, slots := 0, locals := 12 } : Room)) (fun a U => a = #[(.ref o0)] ∧ Z.Warmed39 U.vm ∧ U.heap = h0) (fun _ _ _ _ _ => True) (fun _ U o U' => ∃ v L, o = .returned v ∧ Q5 Z o0 h0 n0 v U'.heap L ∧ FrameEnd U o U' L ({ frames := 1, cells := 0, slots := 0, locals := 12 } : Room).cells ({ frames := 1, cells := 0, slots := 0, locals := 12 } : Room).slots) := by
  refine MetFree.of_bodySF (plainFor_of_name pn5) hisR ?_
  intro p e s m args below meth c s₁ Bd hml0 hP hK
  obtain ⟨rfl, hZ, hh⟩ := hP
  have hlk : meth.locks = false := BodyLoose.notSynchronized Bd
  have hx := Bd.exec
  have hby := Bd.bytes
  have hml : c.maxLocals = 1 := hml0
  have hown : s.vm.findClass "java/lang/Record" = some m.cls := findClass_of_methodNamed Bd.named
  have hnm := (name_of_methodNamed Bd.named Bd.method).1
  have X0 : Stand p l e ({ frames := 1, cells := 0, slots := 0, locals := 12 } : Room) s m #[(.ref o0)] below meth c s₁ [] 0 0 := Stand.of_body Bd
  have e0 : s₁.heap = h0 := by rw [← hh, Bd.state]; rfl
  have N0 := Fr.nil n0
  obtain ⟨S0, hS0⟩ : ∃ S0, S0 = s₁.setTop (entryFrame m #[(.ref o0)] 1) := ⟨_, rfl⟩
  have pre0 : ∀ t, Steps p.tables e below (s₁.setTop (mkF m 0 #[.val (.ref o0)] [])) t → Steps p.tables e below S0 t := fun t k => by rw [hS0]; exact castTop (ef5 m o0) k
  have K1 : ∀ t, Steps p.tables e below (s₁.setTop (mkF m 1 #[.val (.ref o0)] [(.ref o0)])) t → Steps p.tables e below S0 t := fun t k => pre0 t (by
    refine XS.aloadN X0.here hx rfl (hb hby d5_0) rfl rfl ?_
    show Steps p.tables e below (s₁.setTop (mkF m 1 #[.val (.ref o0)] [(.ref o0)])) _
    exact k)
  have K_2 : ∀ t, Steps p.tables e below (s₁.setTop (mkF m 1 #[.val (.ref o0)] [(.ref o0)])) t → Steps p.tables e below S0 t := K1
  obtain ⟨T3, X3, e3, st3⟩ := initO X0 hx hZ hown (hw _ (List.mem_of_getElem? (i := 55) rfl)) (hw _ (List.mem_of_getElem? (i := 12) rfl)) (hw _ (List.mem_of_getElem? (i := 13) rfl)) e0 (g := (mkF m 1 #[.val (.ref o0)] [(.ref o0)])) rfl (by rw [hml]; rfl) rfl (hb hby d5_1) (by decide) (W := 0) (by show 2 * 0 + _ ≤ _; exact Nat.le_of_eq rfl) (by decide)
  have K3 : ∀ t, Steps p.tables e below (T3.setTop (mkF m 4 #[.val (.ref o0)] [])) t → Steps p.tables e below S0 t := fun t k => K_2 t (st3 t k)
  obtain ⟨fs, hr, hrun, hended, hW, hsame⟩ := X3.leave (v := none) (fun _ => rfl) hlk
  refine ⟨_, _, ?_, hrun, hended, _, _, rfl, ?_, ⟨_, rfl⟩, hW, hsame.mono (by decide) (by decide)⟩
  · rw [← hS0]; exact K3 _ (X3.returnOut hx Bd.returns (hb hby d5_4) hr)
  · show Q5 Z o0 h0 n0 _ T3.heap _
    rw [e3]
    exact ⟨rfl, N0, rfl⟩
theorem di000_0 : decode prog_84_method_1_code 0 = .ok (.aload_n 0, 1) := by decide +kernel
theorem di000_1 : decode prog_84_method_1_code 1 = .ok (.invokespecial 1, 3) := by decide +kernel
theorem di000_4 : decode prog_84_method_1_code 4 = .ok (.aload_n 0, 1) := by decide +kernel
theorem di000_5 : decode prog_84_method_1_code 5 = .ok (.aload_n 1, 1) := by decide +kernel
theorem di000_6 : decode prog_84_method_1_code 6 = .ok (.putfield 7, 3) := by decide +kernel
theorem di000_9 : decode prog_84_method_1_code 9 = .ok (.aload_n 0, 1) := by decide +kernel
theorem di000_10 : decode prog_84_method_1_code 10 = .ok (.aload_n 2, 1) := by decide +kernel
theorem di000_11 : decode prog_84_method_1_code 11 = .ok (.putfield 13, 3) := by decide +kernel
theorem di000_14 : decode prog_84_method_1_code 14 = .ok (.aload_n 0, 1) := by decide +kernel
theorem di000_15 : decode prog_84_method_1_code 15 = .ok (.iload_n 3, 1) := by decide +kernel
theorem di000_16 : decode prog_84_method_1_code 16 = .ok (.putfield 17, 3) := by decide +kernel
theorem di000_19 : decode prog_84_method_1_code 19 = .ok (.aload_n 0, 1) := by decide +kernel
theorem di000_20 : decode prog_84_method_1_code 20 = .ok (.iload 4, 2) := by decide +kernel
theorem di000_22 : decode prog_84_method_1_code 22 = .ok (.putfield 21, 3) := by decide +kernel
theorem di000_25 : decode prog_84_method_1_code 25 = .ok (.aload_n 0, 1) := by decide +kernel
theorem di000_26 : decode prog_84_method_1_code 26 = .ok (.aload 5, 2) := by decide +kernel
theorem di000_28 : decode prog_84_method_1_code 28 = .ok (.putfield 24, 3) := by decide +kernel
theorem di000_31 : decode prog_84_method_1_code 31 = .ok (.return_, 1) := by decide +kernel
theorem pni000 : plainName "biaxial/cli/Forms$Operand" = true := by first | (simp [plainName, overriddenIn]; done) | decide +kernel
theorem pdi000_0 : parseMethodDescriptor "()V" = some ⟨[], none⟩ := by decide +kernel
theorem efi000 (m : MethodId) (o0 : Addr) (p3 : Int32) (p4 : Int32) : entryFrame m #[(.ref o0), .null, .null, (.int p3), (.int p4), .null] 6 = mkF m 0 #[.val (.ref o0), .val .null, .val .null, .val (.int p3), .val (.int p4), .val .null] [] := by first | (simp [entryFrame, mkF, argsToLocals, Value.category]; done) | rfl
def Qi000 (Z : State) (o0 : Addr) (p3 : Int32) (p4 : Int32) (h0 : Heap) (n0 : Nat) (v : Option Value) (h : Heap) (L : List Loc) : Prop := v = none ∧ Fr n0 L ∧ Keep h0 h [o0] ∧ Exa Z h o0 "biaxial/cli/Forms$Operand" ∧ Fld Z h o0 "biaxial/cli/Forms$Operand" "name" "Ljava/lang/String;" .null ∧ Fld Z h o0 "biaxial/cli/Forms$Operand" "kind" "Lbiaxial/cli/Forms$Kind;" .null ∧ Fld Z h o0 "biaxial/cli/Forms$Operand" "required" "Z" (.int (nar .boolean p3)) ∧ Fld Z h o0 "biaxial/cli/Forms$Operand" "repeated" "Z" (.int (nar .boolean p4)) ∧ Fld Z h o0 "biaxial/cli/Forms$Operand" "flag" "Ljava/lang/String;" .null
set_option maxRecDepth 65536 in
set_option maxHeartbeats 40000000 in
theorem rmi000 (l : Launch) (Z : State) (a0 : Array Value) (hw : ∀ d ∈ tables_1, d.before a0 Z = true) (ws : List Jvm.Cond) (o0 : Addr) (p3 : Int32) (p4 : Int32) (h0 : Heap) (n0 : Nat) (Z0 : n0 ≤ h0.size) (E_o0 : Exa Z h0 o0 "biaxial/cli/Forms$Operand") (F_o0_name : Fld Z h0 o0 "biaxial/cli/Forms$Operand" "name" "Ljava/lang/String;" .null) (F_o0_kind : Fld Z h0 o0 "biaxial/cli/Forms$Operand" "kind" "Lbiaxial/cli/Forms$Kind;" .null) (F_o0_required : Fld Z h0 o0 "biaxial/cli/Forms$Operand" "required" "Z" (.int (0 : Int32))) (F_o0_repeated : Fld Z h0 o0 "biaxial/cli/Forms$Operand" "repeated" "Z" (.int (0 : Int32))) (F_o0_flag : Fld Z h0 o0 "biaxial/cli/Forms$Operand" "flag" "Ljava/lang/String;" .null) (g_o0 : n0 ≤ o0) :
    MetFree l (⟨"biaxial/cli/Forms$Operand", "<init>", "(Ljava/lang/String;Lbiaxial/cli/Forms$Kind;ZZLjava/lang/String;)V"⟩ : MethodName) (head1 (Jvm.Cond.code (⟨"biaxial/cli/Forms$Operand", "<init>", "(Ljava/lang/String;Lbiaxial/cli/Forms$Kind;ZZLjava/lang/String;)V"⟩ : MethodName) prog_84_method_1_code 6 none :: ws) ({ frames := 2, cells := 0, slots := 0, locals := 24 } : Room)) (fun a U => a = #[(.ref o0), .null, .null, (.int p3), (.int p4), .null] ∧ Z.Warmed39 U.vm ∧ U.heap = h0) (fun _ _ _ _ _ => True) (fun _ U o U' => ∃ v L, o = .returned v ∧ Qi000 Z o0 p3 p4 h0 n0 v U'.heap L ∧ FrameEnd U o U' L ({ frames := 2, cells := 0, slots := 0, locals := 24 } : Room).cells ({ frames := 2, cells := 0, slots := 0, locals := 24 } : Room).slots) := by
  refine MetFree.of_bodySF (plainFor_of_name pni000) hisR ?_
  intro p e s m args below meth c s₁ Bd hml0 hP hK
  obtain ⟨rfl, hZ, hh⟩ := hP
  have hlk : meth.locks = false := BodyLoose.notSynchronized Bd
  have hx := Bd.exec
  have hby := Bd.bytes
  have hml : c.maxLocals = 6 := hml0
  have hown : s.vm.findClass "biaxial/cli/Forms$Operand" = some m.cls := findClass_of_methodNamed Bd.named
  have hnm := (name_of_methodNamed Bd.named Bd.method).1
  have X0 : Stand p l e ({ frames := 2, cells := 0, slots := 0, locals := 24 } : Room) s m #[(.ref o0), .null, .null, (.int p3), (.int p4), .null] below meth c s₁ [] 0 0 := Stand.of_body Bd
  have e0 : s₁.heap = h0 := by rw [← hh, Bd.state]; rfl
  have N0 := Fr.nil n0
  obtain ⟨S0, hS0⟩ : ∃ S0, S0 = s₁.setTop (entryFrame m #[(.ref o0), .null, .null, (.int p3), (.int p4), .null] 6) := ⟨_, rfl⟩
  have pre0 : ∀ t, Steps p.tables e below (s₁.setTop (mkF m 0 #[.val (.ref o0), .val .null, .val .null, .val (.int p3), .val (.int p4), .val .null] [])) t → Steps p.tables e below S0 t := fun t k => by rw [hS0]; exact castTop (efi000 m o0 p3 p4) k
  have K1 : ∀ t, Steps p.tables e below (s₁.setTop (mkF m 1 #[.val (.ref o0), .val .null, .val .null, .val (.int p3), .val (.int p4), .val .null] [(.ref o0)])) t → Steps p.tables e below S0 t := fun t k => pre0 t (by
    refine XS.aloadN X0.here hx rfl (hb hby di000_0) rfl rfl ?_
    show Steps p.tables e below (s₁.setTop (mkF m 1 #[.val (.ref o0), .val .null, .val .null, .val (.int p3), .val (.int p4), .val .null] [(.ref o0)])) _
    exact k)
  have K_2 : ∀ t, Steps p.tables e below (s₁.setTop (mkF m 1 #[.val (.ref o0), .val .null, .val .null, .val (.int p3), .val (.int p4), .val .null] [(.ref o0)])) t → Steps p.tables e below S0 t := K1
  obtain ⟨_, _, ⟨T3, L3, k3, n3⟩, -, X3, ⟨Lc3, hQ3, l3, y3, z3⟩, st3⟩ := X0.specialBack hx (y := (⟨"java/lang/Record", "<init>", "()V"⟩ : MethodName)) rfl hown (mvT hZ (hw _ (List.mem_of_getElem? (i := 50) rfl))) (mvT hZ (hw _ (List.mem_of_getElem? (i := 51) rfl))) (mvT hZ (hw _ (List.mem_of_getElem? (i := 54) rfl))) (by decide) (backOf (W := 0) (rm5 l Z a0 hw [] o0 h0 n0 Z0 ) hZ (hw _ (List.mem_of_getElem? (i := 54) rfl)) (hw _ (List.mem_of_getElem? (i := 53) rfl)) (by decide) (by decide)) (g := (mkF m 1 #[.val (.ref o0), .val .null, .val .null, .val (.int p3), .val (.int p4), .val .null] [(.ref o0)])) rfl (by rw [hml]; rfl) (Steps.refl _) (a := o0) (argsL := []) (rest := []) (lenOf pdi000_0 rfl) rfl (by show 2 * 0 + _ ≤ _; exact Nat.le_of_eq rfl) (hb hby di000_1) (fun _ _ => ⟨rfl, e0, (by decide : 0 + 0 ≤ 0), (by decide : 0 + 0 ≤ 0)⟩)
  dsimp only [Pt.U, Pt.locs, Pt.cells, Pt.slots] at X3 l3 y3 z3 st3 hQ3
  subst l3 y3 z3
  obtain ⟨rfl, N3q, e3⟩ := hQ3
  have N3 := Fr.app N0 N3q
  have K3 : ∀ t, Steps p.tables e below (T3.setTop (mkF m 4 #[.val (.ref o0), .val .null, .val .null, .val (.int p3), .val (.int p4), .val .null] [])) t → Steps p.tables e below S0 t := fun t k => K_2 t (st3.trans k)
  have K4 : ∀ t, Steps p.tables e below (T3.setTop (mkF m 6 #[.val (.ref o0), .val .null, .val .null, .val (.int p3), .val (.int p4), .val .null] [.null, (.ref o0)])) t → Steps p.tables e below S0 t := fun t k => K3 t (by
    refine XS.aloadN X3.here hx rfl (hb hby di000_4) rfl rfl ?_
    show Steps p.tables e below (T3.setTop (mkF m 5 #[.val (.ref o0), .val .null, .val .null, .val (.int p3), .val (.int p4), .val .null] [(.ref o0)])) _
    refine XS.aloadN X3.here hx rfl (hb hby di000_5) rfl rfl ?_
    show Steps p.tables e below (T3.setTop (mkF m 6 #[.val (.ref o0), .val .null, .val .null, .val (.int p3), .val (.int p4), .val .null] [.null, (.ref o0)])) _
    exact k)
  obtain ⟨T5, h5, X5, e5, W5, st5⟩ := putF X3 hx hZ hown (host := "") (Or.inl (hw _ (List.mem_of_getElem? (i := 56) rfl))) Via.refl e3 F_o0_name E_o0 (Or.inr ⟨(hw _ (List.mem_of_getElem? (i := 57) rfl)), rfl, hnm⟩) (hw _ (List.mem_of_getElem? (i := 45) rfl)) (ty := (.object "java/lang/String")) (by decide) rfl rfl (g := (mkF m 6 #[.val (.ref o0), .val .null, .val .null, .val (.int p3), .val (.int p4), .val .null] [.null, (.ref o0)])) rfl rfl (hb hby di000_6)
  have F_o0_name__5 := F_o0_name.same W5
  have E_o0__5 := E_o0.wr W5
  have F_o0_kind__5 := F_o0_kind.other W5 (Or.inr (slot_ne (Or.inr (hw _ (List.mem_of_getElem? (i := 59) rfl))) (Or.inr (hw _ (List.mem_of_getElem? (i := 57) rfl))) (by decide) (t := (.object "biaxial/cli/Forms$Kind")) (t' := (.object "java/lang/String")) (by decide) (by decide)))
  have F_o0_required__5 := F_o0_required.other W5 (Or.inr (slot_ne (Or.inr (hw _ (List.mem_of_getElem? (i := 61) rfl))) (Or.inr (hw _ (List.mem_of_getElem? (i := 57) rfl))) (by decide) (t := .boolean) (t' := (.object "java/lang/String")) (by decide) (by decide)))
  have F_o0_repeated__5 := F_o0_repeated.other W5 (Or.inr (slot_ne (Or.inr (hw _ (List.mem_of_getElem? (i := 63) rfl))) (Or.inr (hw _ (List.mem_of_getElem? (i := 57) rfl))) (by decide) (t := .boolean) (t' := (.object "java/lang/String")) (by decide) (by decide)))
  have F_o0_flag__5 := F_o0_flag.other W5 (Or.inr (slot_ne (Or.inr (hw _ (List.mem_of_getElem? (i := 65) rfl))) (Or.inr (hw _ (List.mem_of_getElem? (i := 57) rfl))) (by decide) (t := (.object "java/lang/String")) (t' := (.object "java/lang/String")) (by decide) (by decide)))
  have N5 := Fr.snoc X5 N3 g_o0
  have Zs5 : n0 ≤ h5.size := Nat.le_trans Z0 (Nat.le_of_eq W5.size.symm)
  have Kc5 : Keep h0 h5 [o0] := (Keep.refl h0 [o0]).wr W5 (Or.inl (List.mem_of_getElem? (i := 0) rfl))
  have K5 : ∀ t, Steps p.tables e below (T5.setTop (mkF m 9 #[.val (.ref o0), .val .null, .val .null, .val (.int p3), .val (.int p4), .val .null] [])) t → Steps p.tables e below S0 t := fun t k => K4 t (st5 t k)
  have K6 : ∀ t, Steps p.tables e below (T5.setTop (mkF m 11 #[.val (.ref o0), .val .null, .val .null, .val (.int p3), .val (.int p4), .val .null] [.null, (.ref o0)])) t → Steps p.tables e below S0 t := fun t k => K5 t (by
    refine XS.aloadN X5.here hx rfl (hb hby di000_9) rfl rfl ?_
    show Steps p.tables e below (T5.setTop (mkF m 10 #[.val (.ref o0), .val .null, .val .null, .val (.int p3), .val (.int p4), .val .null] [(.ref o0)])) _
    refine XS.aloadN X5.here hx rfl (hb hby di000_10) rfl rfl ?_
    show Steps p.tables e below (T5.setTop (mkF m 11 #[.val (.ref o0), .val .null, .val .null, .val (.int p3), .val (.int p4), .val .null] [.null, (.ref o0)])) _
    exact k)
  obtain ⟨T7, h7, X7, e7, W7, st7⟩ := putF X5 hx hZ hown (host := "") (Or.inl (hw _ (List.mem_of_getElem? (i := 58) rfl))) Via.refl e5 F_o0_kind__5 E_o0__5 (Or.inr ⟨(hw _ (List.mem_of_getElem? (i := 59) rfl)), rfl, hnm⟩) (hw _ (List.mem_of_getElem? (i := 45) rfl)) (ty := (.object "biaxial/cli/Forms$Kind")) (by decide) rfl rfl (g := (mkF m 11 #[.val (.ref o0), .val .null, .val .null, .val (.int p3), .val (.int p4), .val .null] [.null, (.ref o0)])) rfl rfl (hb hby di000_11)
  have F_o0_kind__7 := F_o0_kind__5.same W7
  have E_o0__7 := E_o0__5.wr W7
  have F_o0_name__7 := F_o0_name__5.other W7 (Or.inr (slot_ne (Or.inr (hw _ (List.mem_of_getElem? (i := 57) rfl))) (Or.inr (hw _ (List.mem_of_getElem? (i := 59) rfl))) (by decide) (t := (.object "java/lang/String")) (t' := (.object "biaxial/cli/Forms$Kind")) (by decide) (by decide)))
  have F_o0_required__7 := F_o0_required__5.other W7 (Or.inr (slot_ne (Or.inr (hw _ (List.mem_of_getElem? (i := 61) rfl))) (Or.inr (hw _ (List.mem_of_getElem? (i := 59) rfl))) (by decide) (t := .boolean) (t' := (.object "biaxial/cli/Forms$Kind")) (by decide) (by decide)))
  have F_o0_repeated__7 := F_o0_repeated__5.other W7 (Or.inr (slot_ne (Or.inr (hw _ (List.mem_of_getElem? (i := 63) rfl))) (Or.inr (hw _ (List.mem_of_getElem? (i := 59) rfl))) (by decide) (t := .boolean) (t' := (.object "biaxial/cli/Forms$Kind")) (by decide) (by decide)))
  have F_o0_flag__7 := F_o0_flag__5.other W7 (Or.inr (slot_ne (Or.inr (hw _ (List.mem_of_getElem? (i := 65) rfl))) (Or.inr (hw _ (List.mem_of_getElem? (i := 59) rfl))) (by decide) (t := (.object "java/lang/String")) (t' := (.object "biaxial/cli/Forms$Kind")) (by decide) (by decide)))
  have N7 := Fr.snoc X7 N5 g_o0
  have Zs7 : n0 ≤ h7.size := Nat.le_trans Zs5 (Nat.le_of_eq W7.size.symm)
  have Kc7 : Keep h0 h7 [o0] := Kc5.wr W7 (Or.inl (List.mem_of_getElem? (i := 0) rfl))
  have K7 : ∀ t, Steps p.tables e below (T7.setTop (mkF m 14 #[.val (.ref o0), .val .null, .val .null, .val (.int p3), .val (.int p4), .val .null] [])) t → Steps p.tables e below S0 t := fun t k => K6 t (st7 t k)
  have K8 : ∀ t, Steps p.tables e below (T7.setTop (mkF m 16 #[.val (.ref o0), .val .null, .val .null, .val (.int p3), .val (.int p4), .val .null] [(.int p3), (.ref o0)])) t → Steps p.tables e below S0 t := fun t k => K7 t (by
    refine XS.aloadN X7.here hx rfl (hb hby di000_14) rfl rfl ?_
    show Steps p.tables e below (T7.setTop (mkF m 15 #[.val (.ref o0), .val .null, .val .null, .val (.int p3), .val (.int p4), .val .null] [(.ref o0)])) _
    refine XS.iloadN X7.here hx rfl (hb hby di000_15) rfl ?_
    show Steps p.tables e below (T7.setTop (mkF m 16 #[.val (.ref o0), .val .null, .val .null, .val (.int p3), .val (.int p4), .val .null] [(.int p3), (.ref o0)])) _
    exact k)
  obtain ⟨T9, h9, X9, e9, W9, st9⟩ := putFN X7 hx hZ hown (hw _ (List.mem_of_getElem? (i := 60) rfl)) Via.refl e7 F_o0_required__7 E_o0__7 (Or.inr ⟨(hw _ (List.mem_of_getElem? (i := 61) rfl)), rfl, hnm⟩) (hw _ (List.mem_of_getElem? (i := 45) rfl)) (ty := .boolean) (v' := (.int (nar .boolean p3))) (by decide) rfl (fits_nar_bool p3) (g := (mkF m 16 #[.val (.ref o0), .val .null, .val .null, .val (.int p3), .val (.int p4), .val .null] [(.int p3), (.ref o0)])) rfl rfl (hb hby di000_16)
  have F_o0_required__9 := F_o0_required__7.same W9
  have E_o0__9 := E_o0__7.wr W9
  have F_o0_name__9 := F_o0_name__7.other W9 (Or.inr (slot_ne (Or.inr (hw _ (List.mem_of_getElem? (i := 57) rfl))) (Or.inr (hw _ (List.mem_of_getElem? (i := 61) rfl))) (by decide) (t := (.object "java/lang/String")) (t' := .boolean) (by decide) (by decide)))
  have F_o0_kind__9 := F_o0_kind__7.other W9 (Or.inr (slot_ne (Or.inr (hw _ (List.mem_of_getElem? (i := 59) rfl))) (Or.inr (hw _ (List.mem_of_getElem? (i := 61) rfl))) (by decide) (t := (.object "biaxial/cli/Forms$Kind")) (t' := .boolean) (by decide) (by decide)))
  have F_o0_repeated__9 := F_o0_repeated__7.other W9 (Or.inr (slot_ne (Or.inr (hw _ (List.mem_of_getElem? (i := 63) rfl))) (Or.inr (hw _ (List.mem_of_getElem? (i := 61) rfl))) (by decide) (t := .boolean) (t' := .boolean) (by decide) (by decide)))
  have F_o0_flag__9 := F_o0_flag__7.other W9 (Or.inr (slot_ne (Or.inr (hw _ (List.mem_of_getElem? (i := 65) rfl))) (Or.inr (hw _ (List.mem_of_getElem? (i := 61) rfl))) (by decide) (t := (.object "java/lang/String")) (t' := .boolean) (by decide) (by decide)))
  have N9 := Fr.snoc X9 N7 g_o0
  have Zs9 : n0 ≤ h9.size := Nat.le_trans Zs7 (Nat.le_of_eq W9.size.symm)
  have Kc9 : Keep h0 h9 [o0] := Kc7.wr W9 (Or.inl (List.mem_of_getElem? (i := 0) rfl))
  have K9 : ∀ t, Steps p.tables e below (T9.setTop (mkF m 19 #[.val (.ref o0), .val .null, .val .null, .val (.int p3), .val (.int p4), .val .null] [])) t → Steps p.tables e below S0 t := fun t k => K8 t (st9 t k)
  have K10 : ∀ t, Steps p.tables e below (T9.setTop (mkF m 22 #[.val (.ref o0), .val .null, .val .null, .val (.int p3), .val (.int p4), .val .null] [(.int p4), (.ref o0)])) t → Steps p.tables e below S0 t := fun t k => K9 t (by
    refine XS.aloadN X9.here hx rfl (hb hby di000_19) rfl rfl ?_
    show Steps p.tables e below (T9.setTop (mkF m 20 #[.val (.ref o0), .val .null, .val .null, .val (.int p3), .val (.int p4), .val .null] [(.ref o0)])) _
    refine XS.iload X9.here hx rfl (hb hby di000_20) rfl ?_
    show Steps p.tables e below (T9.setTop (mkF m 22 #[.val (.ref o0), .val .null, .val .null, .val (.int p3), .val (.int p4), .val .null] [(.int p4), (.ref o0)])) _
    exact k)
  obtain ⟨T11, h11, X11, e11, W11, st11⟩ := putFN X9 hx hZ hown (hw _ (List.mem_of_getElem? (i := 62) rfl)) Via.refl e9 F_o0_repeated__9 E_o0__9 (Or.inr ⟨(hw _ (List.mem_of_getElem? (i := 63) rfl)), rfl, hnm⟩) (hw _ (List.mem_of_getElem? (i := 45) rfl)) (ty := .boolean) (v' := (.int (nar .boolean p4))) (by decide) rfl (fits_nar_bool p4) (g := (mkF m 22 #[.val (.ref o0), .val .null, .val .null, .val (.int p3), .val (.int p4), .val .null] [(.int p4), (.ref o0)])) rfl rfl (hb hby di000_22)
  have F_o0_repeated__11 := F_o0_repeated__9.same W11
  have E_o0__11 := E_o0__9.wr W11
  have F_o0_name__11 := F_o0_name__9.other W11 (Or.inr (slot_ne (Or.inr (hw _ (List.mem_of_getElem? (i := 57) rfl))) (Or.inr (hw _ (List.mem_of_getElem? (i := 63) rfl))) (by decide) (t := (.object "java/lang/String")) (t' := .boolean) (by decide) (by decide)))
  have F_o0_kind__11 := F_o0_kind__9.other W11 (Or.inr (slot_ne (Or.inr (hw _ (List.mem_of_getElem? (i := 59) rfl))) (Or.inr (hw _ (List.mem_of_getElem? (i := 63) rfl))) (by decide) (t := (.object "biaxial/cli/Forms$Kind")) (t' := .boolean) (by decide) (by decide)))
  have F_o0_required__11 := F_o0_required__9.other W11 (Or.inr (slot_ne (Or.inr (hw _ (List.mem_of_getElem? (i := 61) rfl))) (Or.inr (hw _ (List.mem_of_getElem? (i := 63) rfl))) (by decide) (t := .boolean) (t' := .boolean) (by decide) (by decide)))
  have F_o0_flag__11 := F_o0_flag__9.other W11 (Or.inr (slot_ne (Or.inr (hw _ (List.mem_of_getElem? (i := 65) rfl))) (Or.inr (hw _ (List.mem_of_getElem? (i := 63) rfl))) (by decide) (t := (.object "java/lang/String")) (t' := .boolean) (by decide) (by decide)))
  have N11 := Fr.snoc X11 N9 g_o0
  have Zs11 : n0 ≤ h11.size := Nat.le_trans Zs9 (Nat.le_of_eq W11.size.symm)
  have Kc11 : Keep h0 h11 [o0] := Kc9.wr W11 (Or.inl (List.mem_of_getElem? (i := 0) rfl))
  have K11 : ∀ t, Steps p.tables e below (T11.setTop (mkF m 25 #[.val (.ref o0), .val .null, .val .null, .val (.int p3), .val (.int p4), .val .null] [])) t → Steps p.tables e below S0 t := fun t k => K10 t (st11 t k)
  have K12 : ∀ t, Steps p.tables e below (T11.setTop (mkF m 28 #[.val (.ref o0), .val .null, .val .null, .val (.int p3), .val (.int p4), .val .null] [.null, (.ref o0)])) t → Steps p.tables e below S0 t := fun t k => K11 t (by
    refine XS.aloadN X11.here hx rfl (hb hby di000_25) rfl rfl ?_
    show Steps p.tables e below (T11.setTop (mkF m 26 #[.val (.ref o0), .val .null, .val .null, .val (.int p3), .val (.int p4), .val .null] [(.ref o0)])) _
    refine XS.aload X11.here hx rfl (hb hby di000_26) rfl rfl ?_
    show Steps p.tables e below (T11.setTop (mkF m 28 #[.val (.ref o0), .val .null, .val .null, .val (.int p3), .val (.int p4), .val .null] [.null, (.ref o0)])) _
    exact k)
  obtain ⟨T13, h13, X13, e13, W13, st13⟩ := putF X11 hx hZ hown (host := "") (Or.inl (hw _ (List.mem_of_getElem? (i := 64) rfl))) Via.refl e11 F_o0_flag__11 E_o0__11 (Or.inr ⟨(hw _ (List.mem_of_getElem? (i := 65) rfl)), rfl, hnm⟩) (hw _ (List.mem_of_getElem? (i := 45) rfl)) (ty := (.object "java/lang/String")) (by decide) rfl rfl (g := (mkF m 28 #[.val (.ref o0), .val .null, .val .null, .val (.int p3), .val (.int p4), .val .null] [.null, (.ref o0)])) rfl rfl (hb hby di000_28)
  have F_o0_flag__13 := F_o0_flag__11.same W13
  have E_o0__13 := E_o0__11.wr W13
  have F_o0_name__13 := F_o0_name__11.other W13 (Or.inr (slot_ne (Or.inr (hw _ (List.mem_of_getElem? (i := 57) rfl))) (Or.inr (hw _ (List.mem_of_getElem? (i := 65) rfl))) (by decide) (t := (.object "java/lang/String")) (t' := (.object "java/lang/String")) (by decide) (by decide)))
  have F_o0_kind__13 := F_o0_kind__11.other W13 (Or.inr (slot_ne (Or.inr (hw _ (List.mem_of_getElem? (i := 59) rfl))) (Or.inr (hw _ (List.mem_of_getElem? (i := 65) rfl))) (by decide) (t := (.object "biaxial/cli/Forms$Kind")) (t' := (.object "java/lang/String")) (by decide) (by decide)))
  have F_o0_required__13 := F_o0_required__11.other W13 (Or.inr (slot_ne (Or.inr (hw _ (List.mem_of_getElem? (i := 61) rfl))) (Or.inr (hw _ (List.mem_of_getElem? (i := 65) rfl))) (by decide) (t := .boolean) (t' := (.object "java/lang/String")) (by decide) (by decide)))
  have F_o0_repeated__13 := F_o0_repeated__11.other W13 (Or.inr (slot_ne (Or.inr (hw _ (List.mem_of_getElem? (i := 63) rfl))) (Or.inr (hw _ (List.mem_of_getElem? (i := 65) rfl))) (by decide) (t := .boolean) (t' := (.object "java/lang/String")) (by decide) (by decide)))
  have N13 := Fr.snoc X13 N11 g_o0
  have Zs13 : n0 ≤ h13.size := Nat.le_trans Zs11 (Nat.le_of_eq W13.size.symm)
  have Kc13 : Keep h0 h13 [o0] := Kc11.wr W13 (Or.inl (List.mem_of_getElem? (i := 0) rfl))
  have K13 : ∀ t, Steps p.tables e below (T13.setTop (mkF m 31 #[.val (.ref o0), .val .null, .val .null, .val (.int p3), .val (.int p4), .val .null] [])) t → Steps p.tables e below S0 t := fun t k => K12 t (st13 t k)
  obtain ⟨fs, hr, hrun, hended, hW, hsame⟩ := X13.leave (v := none) (fun _ => rfl) hlk
  refine ⟨_, _, ?_, hrun, hended, _, _, rfl, ?_, ⟨_, rfl⟩, hW, hsame.mono (by decide) (by decide)⟩
  · rw [← hS0]; exact K13 _ (X13.returnOut hx Bd.returns (hb hby di000_31) hr)
  · show Qi000 Z o0 p3 p4 h0 n0 _ T13.heap _
    rw [e13]
    exact ⟨rfl, N13, Kc13, E_o0__13, F_o0_name__13, F_o0_kind__13, F_o0_required__13, F_o0_repeated__13, F_o0_flag__13⟩
theorem di001_0 : decode prog_84_method_1_code 0 = .ok (.aload_n 0, 1) := by decide +kernel
theorem di001_1 : decode prog_84_method_1_code 1 = .ok (.invokespecial 1, 3) := by decide +kernel
theorem di001_4 : decode prog_84_method_1_code 4 = .ok (.aload_n 0, 1) := by decide +kernel
theorem di001_5 : decode prog_84_method_1_code 5 = .ok (.aload_n 1, 1) := by decide +kernel
theorem di001_6 : decode prog_84_method_1_code 6 = .ok (.putfield 7, 3) := by decide +kernel
theorem di001_9 : decode prog_84_method_1_code 9 = .ok (.aload_n 0, 1) := by decide +kernel
theorem di001_10 : decode prog_84_method_1_code 10 = .ok (.aload_n 2, 1) := by decide +kernel
theorem di001_11 : decode prog_84_method_1_code 11 = .ok (.putfield 13, 3) := by decide +kernel
theorem di001_14 : decode prog_84_method_1_code 14 = .ok (.aload_n 0, 1) := by decide +kernel
theorem di001_15 : decode prog_84_method_1_code 15 = .ok (.iload_n 3, 1) := by decide +kernel
theorem di001_16 : decode prog_84_method_1_code 16 = .ok (.putfield 17, 3) := by decide +kernel
theorem di001_19 : decode prog_84_method_1_code 19 = .ok (.aload_n 0, 1) := by decide +kernel
theorem di001_20 : decode prog_84_method_1_code 20 = .ok (.iload 4, 2) := by decide +kernel
theorem di001_22 : decode prog_84_method_1_code 22 = .ok (.putfield 21, 3) := by decide +kernel
theorem di001_25 : decode prog_84_method_1_code 25 = .ok (.aload_n 0, 1) := by decide +kernel
theorem di001_26 : decode prog_84_method_1_code 26 = .ok (.aload 5, 2) := by decide +kernel
theorem di001_28 : decode prog_84_method_1_code 28 = .ok (.putfield 24, 3) := by decide +kernel
theorem di001_31 : decode prog_84_method_1_code 31 = .ok (.return_, 1) := by decide +kernel
theorem pni001 : plainName "biaxial/cli/Forms$Operand" = true := by first | (simp [plainName, overriddenIn]; done) | decide +kernel
theorem pdi001_0 : parseMethodDescriptor "()V" = some ⟨[], none⟩ := by decide +kernel
theorem efi001 (m : MethodId) (o0 : Addr) (p3 : Int32) (p4 : Int32) (o5 : Addr) : entryFrame m #[(.ref o0), .null, .null, (.int p3), (.int p4), (.ref o5)] 6 = mkF m 0 #[.val (.ref o0), .val .null, .val .null, .val (.int p3), .val (.int p4), .val (.ref o5)] [] := by first | (simp [entryFrame, mkF, argsToLocals, Value.category]; done) | rfl
def Qi001 (Z : State) (o0 : Addr) (p3 : Int32) (p4 : Int32) (o5 : Addr) (h0 : Heap) (n0 : Nat) (v : Option Value) (h : Heap) (L : List Loc) : Prop := v = none ∧ Fr n0 L ∧ Keep h0 h [o0] ∧ Exa Z h o0 "biaxial/cli/Forms$Operand" ∧ Fld Z h o0 "biaxial/cli/Forms$Operand" "name" "Ljava/lang/String;" .null ∧ Fld Z h o0 "biaxial/cli/Forms$Operand" "kind" "Lbiaxial/cli/Forms$Kind;" .null ∧ Fld Z h o0 "biaxial/cli/Forms$Operand" "required" "Z" (.int (nar .boolean p3)) ∧ Fld Z h o0 "biaxial/cli/Forms$Operand" "repeated" "Z" (.int (nar .boolean p4)) ∧ Fld Z h o0 "biaxial/cli/Forms$Operand" "flag" "Ljava/lang/String;" (.ref o5)
set_option maxRecDepth 65536 in
set_option maxHeartbeats 40000000 in
theorem rmi001 (l : Launch) (Z : State) (a0 : Array Value) (hw : ∀ d ∈ tables_1, d.before a0 Z = true) (ws : List Jvm.Cond) (o0 : Addr) (p3 : Int32) (p4 : Int32) (o5 : Addr) (h0 : Heap) (n0 : Nat) (Z0 : n0 ≤ h0.size) (E_o0 : Exa Z h0 o0 "biaxial/cli/Forms$Operand") (F_o0_name : Fld Z h0 o0 "biaxial/cli/Forms$Operand" "name" "Ljava/lang/String;" .null) (F_o0_kind : Fld Z h0 o0 "biaxial/cli/Forms$Operand" "kind" "Lbiaxial/cli/Forms$Kind;" .null) (F_o0_required : Fld Z h0 o0 "biaxial/cli/Forms$Operand" "required" "Z" (.int (0 : Int32))) (F_o0_repeated : Fld Z h0 o0 "biaxial/cli/Forms$Operand" "repeated" "Z" (.int (0 : Int32))) (F_o0_flag : Fld Z h0 o0 "biaxial/cli/Forms$Operand" "flag" "Ljava/lang/String;" .null) (g_o0 : n0 ≤ o0) :
    MetFree l (⟨"biaxial/cli/Forms$Operand", "<init>", "(Ljava/lang/String;Lbiaxial/cli/Forms$Kind;ZZLjava/lang/String;)V"⟩ : MethodName) (head1 (Jvm.Cond.code (⟨"biaxial/cli/Forms$Operand", "<init>", "(Ljava/lang/String;Lbiaxial/cli/Forms$Kind;ZZLjava/lang/String;)V"⟩ : MethodName) prog_84_method_1_code 6 none :: ws) ({ frames := 2, cells := 0, slots := 0, locals := 24 } : Room)) (fun a U => a = #[(.ref o0), .null, .null, (.int p3), (.int p4), (.ref o5)] ∧ Z.Warmed39 U.vm ∧ U.heap = h0) (fun _ _ _ _ _ => True) (fun _ U o U' => ∃ v L, o = .returned v ∧ Qi001 Z o0 p3 p4 o5 h0 n0 v U'.heap L ∧ FrameEnd U o U' L ({ frames := 2, cells := 0, slots := 0, locals := 24 } : Room).cells ({ frames := 2, cells := 0, slots := 0, locals := 24 } : Room).slots) := by
  refine MetFree.of_bodySF (plainFor_of_name pni001) hisR ?_
  intro p e s m args below meth c s₁ Bd hml0 hP hK
  obtain ⟨rfl, hZ, hh⟩ := hP
  have hlk : meth.locks = false := BodyLoose.notSynchronized Bd
  have hx := Bd.exec
  have hby := Bd.bytes
  have hml : c.maxLocals = 6 := hml0
  have hown : s.vm.findClass "biaxial/cli/Forms$Operand" = some m.cls := findClass_of_methodNamed Bd.named
  have hnm := (name_of_methodNamed Bd.named Bd.method).1
  have X0 : Stand p l e ({ frames := 2, cells := 0, slots := 0, locals := 24 } : Room) s m #[(.ref o0), .null, .null, (.int p3), (.int p4), (.ref o5)] below meth c s₁ [] 0 0 := Stand.of_body Bd
  have e0 : s₁.heap = h0 := by rw [← hh, Bd.state]; rfl
  have N0 := Fr.nil n0
  obtain ⟨S0, hS0⟩ : ∃ S0, S0 = s₁.setTop (entryFrame m #[(.ref o0), .null, .null, (.int p3), (.int p4), (.ref o5)] 6) := ⟨_, rfl⟩
  have pre0 : ∀ t, Steps p.tables e below (s₁.setTop (mkF m 0 #[.val (.ref o0), .val .null, .val .null, .val (.int p3), .val (.int p4), .val (.ref o5)] [])) t → Steps p.tables e below S0 t := fun t k => by rw [hS0]; exact castTop (efi001 m o0 p3 p4 o5) k
  have K1 : ∀ t, Steps p.tables e below (s₁.setTop (mkF m 1 #[.val (.ref o0), .val .null, .val .null, .val (.int p3), .val (.int p4), .val (.ref o5)] [(.ref o0)])) t → Steps p.tables e below S0 t := fun t k => pre0 t (by
    refine XS.aloadN X0.here hx rfl (hb hby di001_0) rfl rfl ?_
    show Steps p.tables e below (s₁.setTop (mkF m 1 #[.val (.ref o0), .val .null, .val .null, .val (.int p3), .val (.int p4), .val (.ref o5)] [(.ref o0)])) _
    exact k)
  have K_2 : ∀ t, Steps p.tables e below (s₁.setTop (mkF m 1 #[.val (.ref o0), .val .null, .val .null, .val (.int p3), .val (.int p4), .val (.ref o5)] [(.ref o0)])) t → Steps p.tables e below S0 t := K1
  obtain ⟨_, _, ⟨T3, L3, k3, n3⟩, -, X3, ⟨Lc3, hQ3, l3, y3, z3⟩, st3⟩ := X0.specialBack hx (y := (⟨"java/lang/Record", "<init>", "()V"⟩ : MethodName)) rfl hown (mvT hZ (hw _ (List.mem_of_getElem? (i := 50) rfl))) (mvT hZ (hw _ (List.mem_of_getElem? (i := 51) rfl))) (mvT hZ (hw _ (List.mem_of_getElem? (i := 54) rfl))) (by decide) (backOf (W := 0) (rm5 l Z a0 hw [] o0 h0 n0 Z0 ) hZ (hw _ (List.mem_of_getElem? (i := 54) rfl)) (hw _ (List.mem_of_getElem? (i := 53) rfl)) (by decide) (by decide)) (g := (mkF m 1 #[.val (.ref o0), .val .null, .val .null, .val (.int p3), .val (.int p4), .val (.ref o5)] [(.ref o0)])) rfl (by rw [hml]; rfl) (Steps.refl _) (a := o0) (argsL := []) (rest := []) (lenOf pdi001_0 rfl) rfl (by show 2 * 0 + _ ≤ _; exact Nat.le_of_eq rfl) (hb hby di001_1) (fun _ _ => ⟨rfl, e0, (by decide : 0 + 0 ≤ 0), (by decide : 0 + 0 ≤ 0)⟩)
  dsimp only [Pt.U, Pt.locs, Pt.cells, Pt.slots] at X3 l3 y3 z3 st3 hQ3
  subst l3 y3 z3
  obtain ⟨rfl, N3q, e3⟩ := hQ3
  have N3 := Fr.app N0 N3q
  have K3 : ∀ t, Steps p.tables e below (T3.setTop (mkF m 4 #[.val (.ref o0), .val .null, .val .null, .val (.int p3), .val (.int p4), .val (.ref o5)] [])) t → Steps p.tables e below S0 t := fun t k => K_2 t (st3.trans k)
  have K4 : ∀ t, Steps p.tables e below (T3.setTop (mkF m 6 #[.val (.ref o0), .val .null, .val .null, .val (.int p3), .val (.int p4), .val (.ref o5)] [.null, (.ref o0)])) t → Steps p.tables e below S0 t := fun t k => K3 t (by
    refine XS.aloadN X3.here hx rfl (hb hby di001_4) rfl rfl ?_
    show Steps p.tables e below (T3.setTop (mkF m 5 #[.val (.ref o0), .val .null, .val .null, .val (.int p3), .val (.int p4), .val (.ref o5)] [(.ref o0)])) _
    refine XS.aloadN X3.here hx rfl (hb hby di001_5) rfl rfl ?_
    show Steps p.tables e below (T3.setTop (mkF m 6 #[.val (.ref o0), .val .null, .val .null, .val (.int p3), .val (.int p4), .val (.ref o5)] [.null, (.ref o0)])) _
    exact k)
  obtain ⟨T5, h5, X5, e5, W5, st5⟩ := putF X3 hx hZ hown (host := "") (Or.inl (hw _ (List.mem_of_getElem? (i := 56) rfl))) Via.refl e3 F_o0_name E_o0 (Or.inr ⟨(hw _ (List.mem_of_getElem? (i := 57) rfl)), rfl, hnm⟩) (hw _ (List.mem_of_getElem? (i := 45) rfl)) (ty := (.object "java/lang/String")) (by decide) rfl rfl (g := (mkF m 6 #[.val (.ref o0), .val .null, .val .null, .val (.int p3), .val (.int p4), .val (.ref o5)] [.null, (.ref o0)])) rfl rfl (hb hby di001_6)
  have F_o0_name__5 := F_o0_name.same W5
  have E_o0__5 := E_o0.wr W5
  have F_o0_kind__5 := F_o0_kind.other W5 (Or.inr (slot_ne (Or.inr (hw _ (List.mem_of_getElem? (i := 59) rfl))) (Or.inr (hw _ (List.mem_of_getElem? (i := 57) rfl))) (by decide) (t := (.object "biaxial/cli/Forms$Kind")) (t' := (.object "java/lang/String")) (by decide) (by decide)))
  have F_o0_required__5 := F_o0_required.other W5 (Or.inr (slot_ne (Or.inr (hw _ (List.mem_of_getElem? (i := 61) rfl))) (Or.inr (hw _ (List.mem_of_getElem? (i := 57) rfl))) (by decide) (t := .boolean) (t' := (.object "java/lang/String")) (by decide) (by decide)))
  have F_o0_repeated__5 := F_o0_repeated.other W5 (Or.inr (slot_ne (Or.inr (hw _ (List.mem_of_getElem? (i := 63) rfl))) (Or.inr (hw _ (List.mem_of_getElem? (i := 57) rfl))) (by decide) (t := .boolean) (t' := (.object "java/lang/String")) (by decide) (by decide)))
  have F_o0_flag__5 := F_o0_flag.other W5 (Or.inr (slot_ne (Or.inr (hw _ (List.mem_of_getElem? (i := 65) rfl))) (Or.inr (hw _ (List.mem_of_getElem? (i := 57) rfl))) (by decide) (t := (.object "java/lang/String")) (t' := (.object "java/lang/String")) (by decide) (by decide)))
  have N5 := Fr.snoc X5 N3 g_o0
  have Zs5 : n0 ≤ h5.size := Nat.le_trans Z0 (Nat.le_of_eq W5.size.symm)
  have Kc5 : Keep h0 h5 [o0] := (Keep.refl h0 [o0]).wr W5 (Or.inl (List.mem_of_getElem? (i := 0) rfl))
  have K5 : ∀ t, Steps p.tables e below (T5.setTop (mkF m 9 #[.val (.ref o0), .val .null, .val .null, .val (.int p3), .val (.int p4), .val (.ref o5)] [])) t → Steps p.tables e below S0 t := fun t k => K4 t (st5 t k)
  have K6 : ∀ t, Steps p.tables e below (T5.setTop (mkF m 11 #[.val (.ref o0), .val .null, .val .null, .val (.int p3), .val (.int p4), .val (.ref o5)] [.null, (.ref o0)])) t → Steps p.tables e below S0 t := fun t k => K5 t (by
    refine XS.aloadN X5.here hx rfl (hb hby di001_9) rfl rfl ?_
    show Steps p.tables e below (T5.setTop (mkF m 10 #[.val (.ref o0), .val .null, .val .null, .val (.int p3), .val (.int p4), .val (.ref o5)] [(.ref o0)])) _
    refine XS.aloadN X5.here hx rfl (hb hby di001_10) rfl rfl ?_
    show Steps p.tables e below (T5.setTop (mkF m 11 #[.val (.ref o0), .val .null, .val .null, .val (.int p3), .val (.int p4), .val (.ref o5)] [.null, (.ref o0)])) _
    exact k)
  obtain ⟨T7, h7, X7, e7, W7, st7⟩ := putF X5 hx hZ hown (host := "") (Or.inl (hw _ (List.mem_of_getElem? (i := 58) rfl))) Via.refl e5 F_o0_kind__5 E_o0__5 (Or.inr ⟨(hw _ (List.mem_of_getElem? (i := 59) rfl)), rfl, hnm⟩) (hw _ (List.mem_of_getElem? (i := 45) rfl)) (ty := (.object "biaxial/cli/Forms$Kind")) (by decide) rfl rfl (g := (mkF m 11 #[.val (.ref o0), .val .null, .val .null, .val (.int p3), .val (.int p4), .val (.ref o5)] [.null, (.ref o0)])) rfl rfl (hb hby di001_11)
  have F_o0_kind__7 := F_o0_kind__5.same W7
  have E_o0__7 := E_o0__5.wr W7
  have F_o0_name__7 := F_o0_name__5.other W7 (Or.inr (slot_ne (Or.inr (hw _ (List.mem_of_getElem? (i := 57) rfl))) (Or.inr (hw _ (List.mem_of_getElem? (i := 59) rfl))) (by decide) (t := (.object "java/lang/String")) (t' := (.object "biaxial/cli/Forms$Kind")) (by decide) (by decide)))
  have F_o0_required__7 := F_o0_required__5.other W7 (Or.inr (slot_ne (Or.inr (hw _ (List.mem_of_getElem? (i := 61) rfl))) (Or.inr (hw _ (List.mem_of_getElem? (i := 59) rfl))) (by decide) (t := .boolean) (t' := (.object "biaxial/cli/Forms$Kind")) (by decide) (by decide)))
  have F_o0_repeated__7 := F_o0_repeated__5.other W7 (Or.inr (slot_ne (Or.inr (hw _ (List.mem_of_getElem? (i := 63) rfl))) (Or.inr (hw _ (List.mem_of_getElem? (i := 59) rfl))) (by decide) (t := .boolean) (t' := (.object "biaxial/cli/Forms$Kind")) (by decide) (by decide)))
  have F_o0_flag__7 := F_o0_flag__5.other W7 (Or.inr (slot_ne (Or.inr (hw _ (List.mem_of_getElem? (i := 65) rfl))) (Or.inr (hw _ (List.mem_of_getElem? (i := 59) rfl))) (by decide) (t := (.object "java/lang/String")) (t' := (.object "biaxial/cli/Forms$Kind")) (by decide) (by decide)))
  have N7 := Fr.snoc X7 N5 g_o0
  have Zs7 : n0 ≤ h7.size := Nat.le_trans Zs5 (Nat.le_of_eq W7.size.symm)
  have Kc7 : Keep h0 h7 [o0] := Kc5.wr W7 (Or.inl (List.mem_of_getElem? (i := 0) rfl))
  have K7 : ∀ t, Steps p.tables e below (T7.setTop (mkF m 14 #[.val (.ref o0), .val .null, .val .null, .val (.int p3), .val (.int p4), .val (.ref o5)] [])) t → Steps p.tables e below S0 t := fun t k => K6 t (st7 t k)
  have K8 : ∀ t, Steps p.tables e below (T7.setTop (mkF m 16 #[.val (.ref o0), .val .null, .val .null, .val (.int p3), .val (.int p4), .val (.ref o5)] [(.int p3), (.ref o0)])) t → Steps p.tables e below S0 t := fun t k => K7 t (by
    refine XS.aloadN X7.here hx rfl (hb hby di001_14) rfl rfl ?_
    show Steps p.tables e below (T7.setTop (mkF m 15 #[.val (.ref o0), .val .null, .val .null, .val (.int p3), .val (.int p4), .val (.ref o5)] [(.ref o0)])) _
    refine XS.iloadN X7.here hx rfl (hb hby di001_15) rfl ?_
    show Steps p.tables e below (T7.setTop (mkF m 16 #[.val (.ref o0), .val .null, .val .null, .val (.int p3), .val (.int p4), .val (.ref o5)] [(.int p3), (.ref o0)])) _
    exact k)
  obtain ⟨T9, h9, X9, e9, W9, st9⟩ := putFN X7 hx hZ hown (hw _ (List.mem_of_getElem? (i := 60) rfl)) Via.refl e7 F_o0_required__7 E_o0__7 (Or.inr ⟨(hw _ (List.mem_of_getElem? (i := 61) rfl)), rfl, hnm⟩) (hw _ (List.mem_of_getElem? (i := 45) rfl)) (ty := .boolean) (v' := (.int (nar .boolean p3))) (by decide) rfl (fits_nar_bool p3) (g := (mkF m 16 #[.val (.ref o0), .val .null, .val .null, .val (.int p3), .val (.int p4), .val (.ref o5)] [(.int p3), (.ref o0)])) rfl rfl (hb hby di001_16)
  have F_o0_required__9 := F_o0_required__7.same W9
  have E_o0__9 := E_o0__7.wr W9
  have F_o0_name__9 := F_o0_name__7.other W9 (Or.inr (slot_ne (Or.inr (hw _ (List.mem_of_getElem? (i := 57) rfl))) (Or.inr (hw _ (List.mem_of_getElem? (i := 61) rfl))) (by decide) (t := (.object "java/lang/String")) (t' := .boolean) (by decide) (by decide)))
  have F_o0_kind__9 := F_o0_kind__7.other W9 (Or.inr (slot_ne (Or.inr (hw _ (List.mem_of_getElem? (i := 59) rfl))) (Or.inr (hw _ (List.mem_of_getElem? (i := 61) rfl))) (by decide) (t := (.object "biaxial/cli/Forms$Kind")) (t' := .boolean) (by decide) (by decide)))
  have F_o0_repeated__9 := F_o0_repeated__7.other W9 (Or.inr (slot_ne (Or.inr (hw _ (List.mem_of_getElem? (i := 63) rfl))) (Or.inr (hw _ (List.mem_of_getElem? (i := 61) rfl))) (by decide) (t := .boolean) (t' := .boolean) (by decide) (by decide)))
  have F_o0_flag__9 := F_o0_flag__7.other W9 (Or.inr (slot_ne (Or.inr (hw _ (List.mem_of_getElem? (i := 65) rfl))) (Or.inr (hw _ (List.mem_of_getElem? (i := 61) rfl))) (by decide) (t := (.object "java/lang/String")) (t' := .boolean) (by decide) (by decide)))
  have N9 := Fr.snoc X9 N7 g_o0
  have Zs9 : n0 ≤ h9.size := Nat.le_trans Zs7 (Nat.le_of_eq W9.size.symm)
  have Kc9 : Keep h0 h9 [o0] := Kc7.wr W9 (Or.inl (List.mem_of_getElem? (i := 0) rfl))
  have K9 : ∀ t, Steps p.tables e below (T9.setTop (mkF m 19 #[.val (.ref o0), .val .null, .val .null, .val (.int p3), .val (.int p4), .val (.ref o5)] [])) t → Steps p.tables e below S0 t := fun t k => K8 t (st9 t k)
  have K10 : ∀ t, Steps p.tables e below (T9.setTop (mkF m 22 #[.val (.ref o0), .val .null, .val .null, .val (.int p3), .val (.int p4), .val (.ref o5)] [(.int p4), (.ref o0)])) t → Steps p.tables e below S0 t := fun t k => K9 t (by
    refine XS.aloadN X9.here hx rfl (hb hby di001_19) rfl rfl ?_
    show Steps p.tables e below (T9.setTop (mkF m 20 #[.val (.ref o0), .val .null, .val .null, .val (.int p3), .val (.int p4), .val (.ref o5)] [(.ref o0)])) _
    refine XS.iload X9.here hx rfl (hb hby di001_20) rfl ?_
    show Steps p.tables e below (T9.setTop (mkF m 22 #[.val (.ref o0), .val .null, .val .null, .val (.int p3), .val (.int p4), .val (.ref o5)] [(.int p4), (.ref o0)])) _
    exact k)
  obtain ⟨T11, h11, X11, e11, W11, st11⟩ := putFN X9 hx hZ hown (hw _ (List.mem_of_getElem? (i := 62) rfl)) Via.refl e9 F_o0_repeated__9 E_o0__9 (Or.inr ⟨(hw _ (List.mem_of_getElem? (i := 63) rfl)), rfl, hnm⟩) (hw _ (List.mem_of_getElem? (i := 45) rfl)) (ty := .boolean) (v' := (.int (nar .boolean p4))) (by decide) rfl (fits_nar_bool p4) (g := (mkF m 22 #[.val (.ref o0), .val .null, .val .null, .val (.int p3), .val (.int p4), .val (.ref o5)] [(.int p4), (.ref o0)])) rfl rfl (hb hby di001_22)
  have F_o0_repeated__11 := F_o0_repeated__9.same W11
  have E_o0__11 := E_o0__9.wr W11
  have F_o0_name__11 := F_o0_name__9.other W11 (Or.inr (slot_ne (Or.inr (hw _ (List.mem_of_getElem? (i := 57) rfl))) (Or.inr (hw _ (List.mem_of_getElem? (i := 63) rfl))) (by decide) (t := (.object "java/lang/String")) (t' := .boolean) (by decide) (by decide)))
  have F_o0_kind__11 := F_o0_kind__9.other W11 (Or.inr (slot_ne (Or.inr (hw _ (List.mem_of_getElem? (i := 59) rfl))) (Or.inr (hw _ (List.mem_of_getElem? (i := 63) rfl))) (by decide) (t := (.object "biaxial/cli/Forms$Kind")) (t' := .boolean) (by decide) (by decide)))
  have F_o0_required__11 := F_o0_required__9.other W11 (Or.inr (slot_ne (Or.inr (hw _ (List.mem_of_getElem? (i := 61) rfl))) (Or.inr (hw _ (List.mem_of_getElem? (i := 63) rfl))) (by decide) (t := .boolean) (t' := .boolean) (by decide) (by decide)))
  have F_o0_flag__11 := F_o0_flag__9.other W11 (Or.inr (slot_ne (Or.inr (hw _ (List.mem_of_getElem? (i := 65) rfl))) (Or.inr (hw _ (List.mem_of_getElem? (i := 63) rfl))) (by decide) (t := (.object "java/lang/String")) (t' := .boolean) (by decide) (by decide)))
  have N11 := Fr.snoc X11 N9 g_o0
  have Zs11 : n0 ≤ h11.size := Nat.le_trans Zs9 (Nat.le_of_eq W11.size.symm)
  have Kc11 : Keep h0 h11 [o0] := Kc9.wr W11 (Or.inl (List.mem_of_getElem? (i := 0) rfl))
  have K11 : ∀ t, Steps p.tables e below (T11.setTop (mkF m 25 #[.val (.ref o0), .val .null, .val .null, .val (.int p3), .val (.int p4), .val (.ref o5)] [])) t → Steps p.tables e below S0 t := fun t k => K10 t (st11 t k)
  have K12 : ∀ t, Steps p.tables e below (T11.setTop (mkF m 28 #[.val (.ref o0), .val .null, .val .null, .val (.int p3), .val (.int p4), .val (.ref o5)] [(.ref o5), (.ref o0)])) t → Steps p.tables e below S0 t := fun t k => K11 t (by
    refine XS.aloadN X11.here hx rfl (hb hby di001_25) rfl rfl ?_
    show Steps p.tables e below (T11.setTop (mkF m 26 #[.val (.ref o0), .val .null, .val .null, .val (.int p3), .val (.int p4), .val (.ref o5)] [(.ref o0)])) _
    refine XS.aload X11.here hx rfl (hb hby di001_26) rfl rfl ?_
    show Steps p.tables e below (T11.setTop (mkF m 28 #[.val (.ref o0), .val .null, .val .null, .val (.int p3), .val (.int p4), .val (.ref o5)] [(.ref o5), (.ref o0)])) _
    exact k)
  obtain ⟨T13, h13, X13, e13, W13, st13⟩ := putF X11 hx hZ hown (host := "") (Or.inl (hw _ (List.mem_of_getElem? (i := 64) rfl))) Via.refl e11 F_o0_flag__11 E_o0__11 (Or.inr ⟨(hw _ (List.mem_of_getElem? (i := 65) rfl)), rfl, hnm⟩) (hw _ (List.mem_of_getElem? (i := 45) rfl)) (ty := (.object "java/lang/String")) (by decide) rfl rfl (g := (mkF m 28 #[.val (.ref o0), .val .null, .val .null, .val (.int p3), .val (.int p4), .val (.ref o5)] [(.ref o5), (.ref o0)])) rfl rfl (hb hby di001_28)
  have F_o0_flag__13 := F_o0_flag__11.same W13
  have E_o0__13 := E_o0__11.wr W13
  have F_o0_name__13 := F_o0_name__11.other W13 (Or.inr (slot_ne (Or.inr (hw _ (List.mem_of_getElem? (i := 57) rfl))) (Or.inr (hw _ (List.mem_of_getElem? (i := 65) rfl))) (by decide) (t := (.object "java/lang/String")) (t' := (.object "java/lang/String")) (by decide) (by decide)))
  have F_o0_kind__13 := F_o0_kind__11.other W13 (Or.inr (slot_ne (Or.inr (hw _ (List.mem_of_getElem? (i := 59) rfl))) (Or.inr (hw _ (List.mem_of_getElem? (i := 65) rfl))) (by decide) (t := (.object "biaxial/cli/Forms$Kind")) (t' := (.object "java/lang/String")) (by decide) (by decide)))
  have F_o0_required__13 := F_o0_required__11.other W13 (Or.inr (slot_ne (Or.inr (hw _ (List.mem_of_getElem? (i := 61) rfl))) (Or.inr (hw _ (List.mem_of_getElem? (i := 65) rfl))) (by decide) (t := .boolean) (t' := (.object "java/lang/String")) (by decide) (by decide)))
  have F_o0_repeated__13 := F_o0_repeated__11.other W13 (Or.inr (slot_ne (Or.inr (hw _ (List.mem_of_getElem? (i := 63) rfl))) (Or.inr (hw _ (List.mem_of_getElem? (i := 65) rfl))) (by decide) (t := .boolean) (t' := (.object "java/lang/String")) (by decide) (by decide)))
  have N13 := Fr.snoc X13 N11 g_o0
  have Zs13 : n0 ≤ h13.size := Nat.le_trans Zs11 (Nat.le_of_eq W13.size.symm)
  have Kc13 : Keep h0 h13 [o0] := Kc11.wr W13 (Or.inl (List.mem_of_getElem? (i := 0) rfl))
  have K13 : ∀ t, Steps p.tables e below (T13.setTop (mkF m 31 #[.val (.ref o0), .val .null, .val .null, .val (.int p3), .val (.int p4), .val (.ref o5)] [])) t → Steps p.tables e below S0 t := fun t k => K12 t (st13 t k)
  obtain ⟨fs, hr, hrun, hended, hW, hsame⟩ := X13.leave (v := none) (fun _ => rfl) hlk
  refine ⟨_, _, ?_, hrun, hended, _, _, rfl, ?_, ⟨_, rfl⟩, hW, hsame.mono (by decide) (by decide)⟩
  · rw [← hS0]; exact K13 _ (X13.returnOut hx Bd.returns (hb hby di001_31) hr)
  · show Qi001 Z o0 p3 p4 o5 h0 n0 _ T13.heap _
    rw [e13]
    exact ⟨rfl, N13, Kc13, E_o0__13, F_o0_name__13, F_o0_kind__13, F_o0_required__13, F_o0_repeated__13, F_o0_flag__13⟩
theorem di100_0 : decode prog_84_method_1_code 0 = .ok (.aload_n 0, 1) := by decide +kernel
theorem di100_1 : decode prog_84_method_1_code 1 = .ok (.invokespecial 1, 3) := by decide +kernel
theorem di100_4 : decode prog_84_method_1_code 4 = .ok (.aload_n 0, 1) := by decide +kernel
theorem di100_5 : decode prog_84_method_1_code 5 = .ok (.aload_n 1, 1) := by decide +kernel
theorem di100_6 : decode prog_84_method_1_code 6 = .ok (.putfield 7, 3) := by decide +kernel
theorem di100_9 : decode prog_84_method_1_code 9 = .ok (.aload_n 0, 1) := by decide +kernel
theorem di100_10 : decode prog_84_method_1_code 10 = .ok (.aload_n 2, 1) := by decide +kernel
theorem di100_11 : decode prog_84_method_1_code 11 = .ok (.putfield 13, 3) := by decide +kernel
theorem di100_14 : decode prog_84_method_1_code 14 = .ok (.aload_n 0, 1) := by decide +kernel
theorem di100_15 : decode prog_84_method_1_code 15 = .ok (.iload_n 3, 1) := by decide +kernel
theorem di100_16 : decode prog_84_method_1_code 16 = .ok (.putfield 17, 3) := by decide +kernel
theorem di100_19 : decode prog_84_method_1_code 19 = .ok (.aload_n 0, 1) := by decide +kernel
theorem di100_20 : decode prog_84_method_1_code 20 = .ok (.iload 4, 2) := by decide +kernel
theorem di100_22 : decode prog_84_method_1_code 22 = .ok (.putfield 21, 3) := by decide +kernel
theorem di100_25 : decode prog_84_method_1_code 25 = .ok (.aload_n 0, 1) := by decide +kernel
theorem di100_26 : decode prog_84_method_1_code 26 = .ok (.aload 5, 2) := by decide +kernel
theorem di100_28 : decode prog_84_method_1_code 28 = .ok (.putfield 24, 3) := by decide +kernel
theorem di100_31 : decode prog_84_method_1_code 31 = .ok (.return_, 1) := by decide +kernel
theorem pni100 : plainName "biaxial/cli/Forms$Operand" = true := by first | (simp [plainName, overriddenIn]; done) | decide +kernel
theorem pdi100_0 : parseMethodDescriptor "()V" = some ⟨[], none⟩ := by decide +kernel
theorem efi100 (m : MethodId) (o0 : Addr) (o1 : Addr) (p3 : Int32) (p4 : Int32) : entryFrame m #[(.ref o0), (.ref o1), .null, (.int p3), (.int p4), .null] 6 = mkF m 0 #[.val (.ref o0), .val (.ref o1), .val .null, .val (.int p3), .val (.int p4), .val .null] [] := by first | (simp [entryFrame, mkF, argsToLocals, Value.category]; done) | rfl
def Qi100 (Z : State) (o0 : Addr) (o1 : Addr) (p3 : Int32) (p4 : Int32) (h0 : Heap) (n0 : Nat) (v : Option Value) (h : Heap) (L : List Loc) : Prop := v = none ∧ Fr n0 L ∧ Keep h0 h [o0] ∧ Exa Z h o0 "biaxial/cli/Forms$Operand" ∧ Fld Z h o0 "biaxial/cli/Forms$Operand" "name" "Ljava/lang/String;" (.ref o1) ∧ Fld Z h o0 "biaxial/cli/Forms$Operand" "kind" "Lbiaxial/cli/Forms$Kind;" .null ∧ Fld Z h o0 "biaxial/cli/Forms$Operand" "required" "Z" (.int (nar .boolean p3)) ∧ Fld Z h o0 "biaxial/cli/Forms$Operand" "repeated" "Z" (.int (nar .boolean p4)) ∧ Fld Z h o0 "biaxial/cli/Forms$Operand" "flag" "Ljava/lang/String;" .null
set_option maxRecDepth 65536 in
set_option maxHeartbeats 40000000 in
theorem rmi100 (l : Launch) (Z : State) (a0 : Array Value) (hw : ∀ d ∈ tables_1, d.before a0 Z = true) (ws : List Jvm.Cond) (o0 : Addr) (o1 : Addr) (p3 : Int32) (p4 : Int32) (h0 : Heap) (n0 : Nat) (Z0 : n0 ≤ h0.size) (E_o0 : Exa Z h0 o0 "biaxial/cli/Forms$Operand") (F_o0_name : Fld Z h0 o0 "biaxial/cli/Forms$Operand" "name" "Ljava/lang/String;" .null) (F_o0_kind : Fld Z h0 o0 "biaxial/cli/Forms$Operand" "kind" "Lbiaxial/cli/Forms$Kind;" .null) (F_o0_required : Fld Z h0 o0 "biaxial/cli/Forms$Operand" "required" "Z" (.int (0 : Int32))) (F_o0_repeated : Fld Z h0 o0 "biaxial/cli/Forms$Operand" "repeated" "Z" (.int (0 : Int32))) (F_o0_flag : Fld Z h0 o0 "biaxial/cli/Forms$Operand" "flag" "Ljava/lang/String;" .null) (g_o0 : n0 ≤ o0) :
    MetFree l (⟨"biaxial/cli/Forms$Operand", "<init>", "(Ljava/lang/String;Lbiaxial/cli/Forms$Kind;ZZLjava/lang/String;)V"⟩ : MethodName) (head1 (Jvm.Cond.code (⟨"biaxial/cli/Forms$Operand", "<init>", "(Ljava/lang/String;Lbiaxial/cli/Forms$Kind;ZZLjava/lang/String;)V"⟩ : MethodName) prog_84_method_1_code 6 none :: ws) ({ frames := 2, cells := 0, slots := 0, locals := 24 } : Room)) (fun a U => a = #[(.ref o0), (.ref o1), .null, (.int p3), (.int p4), .null] ∧ Z.Warmed39 U.vm ∧ U.heap = h0) (fun _ _ _ _ _ => True) (fun _ U o U' => ∃ v L, o = .returned v ∧ Qi100 Z o0 o1 p3 p4 h0 n0 v U'.heap L ∧ FrameEnd U o U' L ({ frames := 2, cells := 0, slots := 0, locals := 24 } : Room).cells ({ frames := 2, cells := 0, slots := 0, locals := 24 } : Room).slots) := by
  refine MetFree.of_bodySF (plainFor_of_name pni100) hisR ?_
  intro p e s m args below meth c s₁ Bd hml0 hP hK
  obtain ⟨rfl, hZ, hh⟩ := hP
  have hlk : meth.locks = false := BodyLoose.notSynchronized Bd
  have hx := Bd.exec
  have hby := Bd.bytes
  have hml : c.maxLocals = 6 := hml0
  have hown : s.vm.findClass "biaxial/cli/Forms$Operand" = some m.cls := findClass_of_methodNamed Bd.named
  have hnm := (name_of_methodNamed Bd.named Bd.method).1
  have X0 : Stand p l e ({ frames := 2, cells := 0, slots := 0, locals := 24 } : Room) s m #[(.ref o0), (.ref o1), .null, (.int p3), (.int p4), .null] below meth c s₁ [] 0 0 := Stand.of_body Bd
  have e0 : s₁.heap = h0 := by rw [← hh, Bd.state]; rfl
  have N0 := Fr.nil n0
  obtain ⟨S0, hS0⟩ : ∃ S0, S0 = s₁.setTop (entryFrame m #[(.ref o0), (.ref o1), .null, (.int p3), (.int p4), .null] 6) := ⟨_, rfl⟩
  have pre0 : ∀ t, Steps p.tables e below (s₁.setTop (mkF m 0 #[.val (.ref o0), .val (.ref o1), .val .null, .val (.int p3), .val (.int p4), .val .null] [])) t → Steps p.tables e below S0 t := fun t k => by rw [hS0]; exact castTop (efi100 m o0 o1 p3 p4) k
  have K1 : ∀ t, Steps p.tables e below (s₁.setTop (mkF m 1 #[.val (.ref o0), .val (.ref o1), .val .null, .val (.int p3), .val (.int p4), .val .null] [(.ref o0)])) t → Steps p.tables e below S0 t := fun t k => pre0 t (by
    refine XS.aloadN X0.here hx rfl (hb hby di100_0) rfl rfl ?_
    show Steps p.tables e below (s₁.setTop (mkF m 1 #[.val (.ref o0), .val (.ref o1), .val .null, .val (.int p3), .val (.int p4), .val .null] [(.ref o0)])) _
    exact k)
  have K_2 : ∀ t, Steps p.tables e below (s₁.setTop (mkF m 1 #[.val (.ref o0), .val (.ref o1), .val .null, .val (.int p3), .val (.int p4), .val .null] [(.ref o0)])) t → Steps p.tables e below S0 t := K1
  obtain ⟨_, _, ⟨T3, L3, k3, n3⟩, -, X3, ⟨Lc3, hQ3, l3, y3, z3⟩, st3⟩ := X0.specialBack hx (y := (⟨"java/lang/Record", "<init>", "()V"⟩ : MethodName)) rfl hown (mvT hZ (hw _ (List.mem_of_getElem? (i := 50) rfl))) (mvT hZ (hw _ (List.mem_of_getElem? (i := 51) rfl))) (mvT hZ (hw _ (List.mem_of_getElem? (i := 54) rfl))) (by decide) (backOf (W := 0) (rm5 l Z a0 hw [] o0 h0 n0 Z0 ) hZ (hw _ (List.mem_of_getElem? (i := 54) rfl)) (hw _ (List.mem_of_getElem? (i := 53) rfl)) (by decide) (by decide)) (g := (mkF m 1 #[.val (.ref o0), .val (.ref o1), .val .null, .val (.int p3), .val (.int p4), .val .null] [(.ref o0)])) rfl (by rw [hml]; rfl) (Steps.refl _) (a := o0) (argsL := []) (rest := []) (lenOf pdi100_0 rfl) rfl (by show 2 * 0 + _ ≤ _; exact Nat.le_of_eq rfl) (hb hby di100_1) (fun _ _ => ⟨rfl, e0, (by decide : 0 + 0 ≤ 0), (by decide : 0 + 0 ≤ 0)⟩)
  dsimp only [Pt.U, Pt.locs, Pt.cells, Pt.slots] at X3 l3 y3 z3 st3 hQ3
  subst l3 y3 z3
  obtain ⟨rfl, N3q, e3⟩ := hQ3
  have N3 := Fr.app N0 N3q
  have K3 : ∀ t, Steps p.tables e below (T3.setTop (mkF m 4 #[.val (.ref o0), .val (.ref o1), .val .null, .val (.int p3), .val (.int p4), .val .null] [])) t → Steps p.tables e below S0 t := fun t k => K_2 t (st3.trans k)
  have K4 : ∀ t, Steps p.tables e below (T3.setTop (mkF m 6 #[.val (.ref o0), .val (.ref o1), .val .null, .val (.int p3), .val (.int p4), .val .null] [(.ref o1), (.ref o0)])) t → Steps p.tables e below S0 t := fun t k => K3 t (by
    refine XS.aloadN X3.here hx rfl (hb hby di100_4) rfl rfl ?_
    show Steps p.tables e below (T3.setTop (mkF m 5 #[.val (.ref o0), .val (.ref o1), .val .null, .val (.int p3), .val (.int p4), .val .null] [(.ref o0)])) _
    refine XS.aloadN X3.here hx rfl (hb hby di100_5) rfl rfl ?_
    show Steps p.tables e below (T3.setTop (mkF m 6 #[.val (.ref o0), .val (.ref o1), .val .null, .val (.int p3), .val (.int p4), .val .null] [(.ref o1), (.ref o0)])) _
    exact k)
  obtain ⟨T5, h5, X5, e5, W5, st5⟩ := putF X3 hx hZ hown (host := "") (Or.inl (hw _ (List.mem_of_getElem? (i := 56) rfl))) Via.refl e3 F_o0_name E_o0 (Or.inr ⟨(hw _ (List.mem_of_getElem? (i := 57) rfl)), rfl, hnm⟩) (hw _ (List.mem_of_getElem? (i := 45) rfl)) (ty := (.object "java/lang/String")) (by decide) rfl rfl (g := (mkF m 6 #[.val (.ref o0), .val (.ref o1), .val .null, .val (.int p3), .val (.int p4), .val .null] [(.ref o1), (.ref o0)])) rfl rfl (hb hby di100_6)
  have F_o0_name__5 := F_o0_name.same W5
  have E_o0__5 := E_o0.wr W5
  have F_o0_kind__5 := F_o0_kind.other W5 (Or.inr (slot_ne (Or.inr (hw _ (List.mem_of_getElem? (i := 59) rfl))) (Or.inr (hw _ (List.mem_of_getElem? (i := 57) rfl))) (by decide) (t := (.object "biaxial/cli/Forms$Kind")) (t' := (.object "java/lang/String")) (by decide) (by decide)))
  have F_o0_required__5 := F_o0_required.other W5 (Or.inr (slot_ne (Or.inr (hw _ (List.mem_of_getElem? (i := 61) rfl))) (Or.inr (hw _ (List.mem_of_getElem? (i := 57) rfl))) (by decide) (t := .boolean) (t' := (.object "java/lang/String")) (by decide) (by decide)))
  have F_o0_repeated__5 := F_o0_repeated.other W5 (Or.inr (slot_ne (Or.inr (hw _ (List.mem_of_getElem? (i := 63) rfl))) (Or.inr (hw _ (List.mem_of_getElem? (i := 57) rfl))) (by decide) (t := .boolean) (t' := (.object "java/lang/String")) (by decide) (by decide)))
  have F_o0_flag__5 := F_o0_flag.other W5 (Or.inr (slot_ne (Or.inr (hw _ (List.mem_of_getElem? (i := 65) rfl))) (Or.inr (hw _ (List.mem_of_getElem? (i := 57) rfl))) (by decide) (t := (.object "java/lang/String")) (t' := (.object "java/lang/String")) (by decide) (by decide)))
  have N5 := Fr.snoc X5 N3 g_o0
  have Zs5 : n0 ≤ h5.size := Nat.le_trans Z0 (Nat.le_of_eq W5.size.symm)
  have Kc5 : Keep h0 h5 [o0] := (Keep.refl h0 [o0]).wr W5 (Or.inl (List.mem_of_getElem? (i := 0) rfl))
  have K5 : ∀ t, Steps p.tables e below (T5.setTop (mkF m 9 #[.val (.ref o0), .val (.ref o1), .val .null, .val (.int p3), .val (.int p4), .val .null] [])) t → Steps p.tables e below S0 t := fun t k => K4 t (st5 t k)
  have K6 : ∀ t, Steps p.tables e below (T5.setTop (mkF m 11 #[.val (.ref o0), .val (.ref o1), .val .null, .val (.int p3), .val (.int p4), .val .null] [.null, (.ref o0)])) t → Steps p.tables e below S0 t := fun t k => K5 t (by
    refine XS.aloadN X5.here hx rfl (hb hby di100_9) rfl rfl ?_
    show Steps p.tables e below (T5.setTop (mkF m 10 #[.val (.ref o0), .val (.ref o1), .val .null, .val (.int p3), .val (.int p4), .val .null] [(.ref o0)])) _
    refine XS.aloadN X5.here hx rfl (hb hby di100_10) rfl rfl ?_
    show Steps p.tables e below (T5.setTop (mkF m 11 #[.val (.ref o0), .val (.ref o1), .val .null, .val (.int p3), .val (.int p4), .val .null] [.null, (.ref o0)])) _
    exact k)
  obtain ⟨T7, h7, X7, e7, W7, st7⟩ := putF X5 hx hZ hown (host := "") (Or.inl (hw _ (List.mem_of_getElem? (i := 58) rfl))) Via.refl e5 F_o0_kind__5 E_o0__5 (Or.inr ⟨(hw _ (List.mem_of_getElem? (i := 59) rfl)), rfl, hnm⟩) (hw _ (List.mem_of_getElem? (i := 45) rfl)) (ty := (.object "biaxial/cli/Forms$Kind")) (by decide) rfl rfl (g := (mkF m 11 #[.val (.ref o0), .val (.ref o1), .val .null, .val (.int p3), .val (.int p4), .val .null] [.null, (.ref o0)])) rfl rfl (hb hby di100_11)
  have F_o0_kind__7 := F_o0_kind__5.same W7
  have E_o0__7 := E_o0__5.wr W7
  have F_o0_name__7 := F_o0_name__5.other W7 (Or.inr (slot_ne (Or.inr (hw _ (List.mem_of_getElem? (i := 57) rfl))) (Or.inr (hw _ (List.mem_of_getElem? (i := 59) rfl))) (by decide) (t := (.object "java/lang/String")) (t' := (.object "biaxial/cli/Forms$Kind")) (by decide) (by decide)))
  have F_o0_required__7 := F_o0_required__5.other W7 (Or.inr (slot_ne (Or.inr (hw _ (List.mem_of_getElem? (i := 61) rfl))) (Or.inr (hw _ (List.mem_of_getElem? (i := 59) rfl))) (by decide) (t := .boolean) (t' := (.object "biaxial/cli/Forms$Kind")) (by decide) (by decide)))
  have F_o0_repeated__7 := F_o0_repeated__5.other W7 (Or.inr (slot_ne (Or.inr (hw _ (List.mem_of_getElem? (i := 63) rfl))) (Or.inr (hw _ (List.mem_of_getElem? (i := 59) rfl))) (by decide) (t := .boolean) (t' := (.object "biaxial/cli/Forms$Kind")) (by decide) (by decide)))
  have F_o0_flag__7 := F_o0_flag__5.other W7 (Or.inr (slot_ne (Or.inr (hw _ (List.mem_of_getElem? (i := 65) rfl))) (Or.inr (hw _ (List.mem_of_getElem? (i := 59) rfl))) (by decide) (t := (.object "java/lang/String")) (t' := (.object "biaxial/cli/Forms$Kind")) (by decide) (by decide)))
  have N7 := Fr.snoc X7 N5 g_o0
  have Zs7 : n0 ≤ h7.size := Nat.le_trans Zs5 (Nat.le_of_eq W7.size.symm)
  have Kc7 : Keep h0 h7 [o0] := Kc5.wr W7 (Or.inl (List.mem_of_getElem? (i := 0) rfl))
  have K7 : ∀ t, Steps p.tables e below (T7.setTop (mkF m 14 #[.val (.ref o0), .val (.ref o1), .val .null, .val (.int p3), .val (.int p4), .val .null] [])) t → Steps p.tables e below S0 t := fun t k => K6 t (st7 t k)
  have K8 : ∀ t, Steps p.tables e below (T7.setTop (mkF m 16 #[.val (.ref o0), .val (.ref o1), .val .null, .val (.int p3), .val (.int p4), .val .null] [(.int p3), (.ref o0)])) t → Steps p.tables e below S0 t := fun t k => K7 t (by
    refine XS.aloadN X7.here hx rfl (hb hby di100_14) rfl rfl ?_
    show Steps p.tables e below (T7.setTop (mkF m 15 #[.val (.ref o0), .val (.ref o1), .val .null, .val (.int p3), .val (.int p4), .val .null] [(.ref o0)])) _
    refine XS.iloadN X7.here hx rfl (hb hby di100_15) rfl ?_
    show Steps p.tables e below (T7.setTop (mkF m 16 #[.val (.ref o0), .val (.ref o1), .val .null, .val (.int p3), .val (.int p4), .val .null] [(.int p3), (.ref o0)])) _
    exact k)
  obtain ⟨T9, h9, X9, e9, W9, st9⟩ := putFN X7 hx hZ hown (hw _ (List.mem_of_getElem? (i := 60) rfl)) Via.refl e7 F_o0_required__7 E_o0__7 (Or.inr ⟨(hw _ (List.mem_of_getElem? (i := 61) rfl)), rfl, hnm⟩) (hw _ (List.mem_of_getElem? (i := 45) rfl)) (ty := .boolean) (v' := (.int (nar .boolean p3))) (by decide) rfl (fits_nar_bool p3) (g := (mkF m 16 #[.val (.ref o0), .val (.ref o1), .val .null, .val (.int p3), .val (.int p4), .val .null] [(.int p3), (.ref o0)])) rfl rfl (hb hby di100_16)
  have F_o0_required__9 := F_o0_required__7.same W9
  have E_o0__9 := E_o0__7.wr W9
  have F_o0_name__9 := F_o0_name__7.other W9 (Or.inr (slot_ne (Or.inr (hw _ (List.mem_of_getElem? (i := 57) rfl))) (Or.inr (hw _ (List.mem_of_getElem? (i := 61) rfl))) (by decide) (t := (.object "java/lang/String")) (t' := .boolean) (by decide) (by decide)))
  have F_o0_kind__9 := F_o0_kind__7.other W9 (Or.inr (slot_ne (Or.inr (hw _ (List.mem_of_getElem? (i := 59) rfl))) (Or.inr (hw _ (List.mem_of_getElem? (i := 61) rfl))) (by decide) (t := (.object "biaxial/cli/Forms$Kind")) (t' := .boolean) (by decide) (by decide)))
  have F_o0_repeated__9 := F_o0_repeated__7.other W9 (Or.inr (slot_ne (Or.inr (hw _ (List.mem_of_getElem? (i := 63) rfl))) (Or.inr (hw _ (List.mem_of_getElem? (i := 61) rfl))) (by decide) (t := .boolean) (t' := .boolean) (by decide) (by decide)))
  have F_o0_flag__9 := F_o0_flag__7.other W9 (Or.inr (slot_ne (Or.inr (hw _ (List.mem_of_getElem? (i := 65) rfl))) (Or.inr (hw _ (List.mem_of_getElem? (i := 61) rfl))) (by decide) (t := (.object "java/lang/String")) (t' := .boolean) (by decide) (by decide)))
  have N9 := Fr.snoc X9 N7 g_o0
  have Zs9 : n0 ≤ h9.size := Nat.le_trans Zs7 (Nat.le_of_eq W9.size.symm)
  have Kc9 : Keep h0 h9 [o0] := Kc7.wr W9 (Or.inl (List.mem_of_getElem? (i := 0) rfl))
  have K9 : ∀ t, Steps p.tables e below (T9.setTop (mkF m 19 #[.val (.ref o0), .val (.ref o1), .val .null, .val (.int p3), .val (.int p4), .val .null] [])) t → Steps p.tables e below S0 t := fun t k => K8 t (st9 t k)
  have K10 : ∀ t, Steps p.tables e below (T9.setTop (mkF m 22 #[.val (.ref o0), .val (.ref o1), .val .null, .val (.int p3), .val (.int p4), .val .null] [(.int p4), (.ref o0)])) t → Steps p.tables e below S0 t := fun t k => K9 t (by
    refine XS.aloadN X9.here hx rfl (hb hby di100_19) rfl rfl ?_
    show Steps p.tables e below (T9.setTop (mkF m 20 #[.val (.ref o0), .val (.ref o1), .val .null, .val (.int p3), .val (.int p4), .val .null] [(.ref o0)])) _
    refine XS.iload X9.here hx rfl (hb hby di100_20) rfl ?_
    show Steps p.tables e below (T9.setTop (mkF m 22 #[.val (.ref o0), .val (.ref o1), .val .null, .val (.int p3), .val (.int p4), .val .null] [(.int p4), (.ref o0)])) _
    exact k)
  obtain ⟨T11, h11, X11, e11, W11, st11⟩ := putFN X9 hx hZ hown (hw _ (List.mem_of_getElem? (i := 62) rfl)) Via.refl e9 F_o0_repeated__9 E_o0__9 (Or.inr ⟨(hw _ (List.mem_of_getElem? (i := 63) rfl)), rfl, hnm⟩) (hw _ (List.mem_of_getElem? (i := 45) rfl)) (ty := .boolean) (v' := (.int (nar .boolean p4))) (by decide) rfl (fits_nar_bool p4) (g := (mkF m 22 #[.val (.ref o0), .val (.ref o1), .val .null, .val (.int p3), .val (.int p4), .val .null] [(.int p4), (.ref o0)])) rfl rfl (hb hby di100_22)
  have F_o0_repeated__11 := F_o0_repeated__9.same W11
  have E_o0__11 := E_o0__9.wr W11
  have F_o0_name__11 := F_o0_name__9.other W11 (Or.inr (slot_ne (Or.inr (hw _ (List.mem_of_getElem? (i := 57) rfl))) (Or.inr (hw _ (List.mem_of_getElem? (i := 63) rfl))) (by decide) (t := (.object "java/lang/String")) (t' := .boolean) (by decide) (by decide)))
  have F_o0_kind__11 := F_o0_kind__9.other W11 (Or.inr (slot_ne (Or.inr (hw _ (List.mem_of_getElem? (i := 59) rfl))) (Or.inr (hw _ (List.mem_of_getElem? (i := 63) rfl))) (by decide) (t := (.object "biaxial/cli/Forms$Kind")) (t' := .boolean) (by decide) (by decide)))
  have F_o0_required__11 := F_o0_required__9.other W11 (Or.inr (slot_ne (Or.inr (hw _ (List.mem_of_getElem? (i := 61) rfl))) (Or.inr (hw _ (List.mem_of_getElem? (i := 63) rfl))) (by decide) (t := .boolean) (t' := .boolean) (by decide) (by decide)))
  have F_o0_flag__11 := F_o0_flag__9.other W11 (Or.inr (slot_ne (Or.inr (hw _ (List.mem_of_getElem? (i := 65) rfl))) (Or.inr (hw _ (List.mem_of_getElem? (i := 63) rfl))) (by decide) (t := (.object "java/lang/String")) (t' := .boolean) (by decide) (by decide)))
  have N11 := Fr.snoc X11 N9 g_o0
  have Zs11 : n0 ≤ h11.size := Nat.le_trans Zs9 (Nat.le_of_eq W11.size.symm)
  have Kc11 : Keep h0 h11 [o0] := Kc9.wr W11 (Or.inl (List.mem_of_getElem? (i := 0) rfl))
  have K11 : ∀ t, Steps p.tables e below (T11.setTop (mkF m 25 #[.val (.ref o0), .val (.ref o1), .val .null, .val (.int p3), .val (.int p4), .val .null] [])) t → Steps p.tables e below S0 t := fun t k => K10 t (st11 t k)
  have K12 : ∀ t, Steps p.tables e below (T11.setTop (mkF m 28 #[.val (.ref o0), .val (.ref o1), .val .null, .val (.int p3), .val (.int p4), .val .null] [.null, (.ref o0)])) t → Steps p.tables e below S0 t := fun t k => K11 t (by
    refine XS.aloadN X11.here hx rfl (hb hby di100_25) rfl rfl ?_
    show Steps p.tables e below (T11.setTop (mkF m 26 #[.val (.ref o0), .val (.ref o1), .val .null, .val (.int p3), .val (.int p4), .val .null] [(.ref o0)])) _
    refine XS.aload X11.here hx rfl (hb hby di100_26) rfl rfl ?_
    show Steps p.tables e below (T11.setTop (mkF m 28 #[.val (.ref o0), .val (.ref o1), .val .null, .val (.int p3), .val (.int p4), .val .null] [.null, (.ref o0)])) _
    exact k)
  obtain ⟨T13, h13, X13, e13, W13, st13⟩ := putF X11 hx hZ hown (host := "") (Or.inl (hw _ (List.mem_of_getElem? (i := 64) rfl))) Via.refl e11 F_o0_flag__11 E_o0__11 (Or.inr ⟨(hw _ (List.mem_of_getElem? (i := 65) rfl)), rfl, hnm⟩) (hw _ (List.mem_of_getElem? (i := 45) rfl)) (ty := (.object "java/lang/String")) (by decide) rfl rfl (g := (mkF m 28 #[.val (.ref o0), .val (.ref o1), .val .null, .val (.int p3), .val (.int p4), .val .null] [.null, (.ref o0)])) rfl rfl (hb hby di100_28)
  have F_o0_flag__13 := F_o0_flag__11.same W13
  have E_o0__13 := E_o0__11.wr W13
  have F_o0_name__13 := F_o0_name__11.other W13 (Or.inr (slot_ne (Or.inr (hw _ (List.mem_of_getElem? (i := 57) rfl))) (Or.inr (hw _ (List.mem_of_getElem? (i := 65) rfl))) (by decide) (t := (.object "java/lang/String")) (t' := (.object "java/lang/String")) (by decide) (by decide)))
  have F_o0_kind__13 := F_o0_kind__11.other W13 (Or.inr (slot_ne (Or.inr (hw _ (List.mem_of_getElem? (i := 59) rfl))) (Or.inr (hw _ (List.mem_of_getElem? (i := 65) rfl))) (by decide) (t := (.object "biaxial/cli/Forms$Kind")) (t' := (.object "java/lang/String")) (by decide) (by decide)))
  have F_o0_required__13 := F_o0_required__11.other W13 (Or.inr (slot_ne (Or.inr (hw _ (List.mem_of_getElem? (i := 61) rfl))) (Or.inr (hw _ (List.mem_of_getElem? (i := 65) rfl))) (by decide) (t := .boolean) (t' := (.object "java/lang/String")) (by decide) (by decide)))
  have F_o0_repeated__13 := F_o0_repeated__11.other W13 (Or.inr (slot_ne (Or.inr (hw _ (List.mem_of_getElem? (i := 63) rfl))) (Or.inr (hw _ (List.mem_of_getElem? (i := 65) rfl))) (by decide) (t := .boolean) (t' := (.object "java/lang/String")) (by decide) (by decide)))
  have N13 := Fr.snoc X13 N11 g_o0
  have Zs13 : n0 ≤ h13.size := Nat.le_trans Zs11 (Nat.le_of_eq W13.size.symm)
  have Kc13 : Keep h0 h13 [o0] := Kc11.wr W13 (Or.inl (List.mem_of_getElem? (i := 0) rfl))
  have K13 : ∀ t, Steps p.tables e below (T13.setTop (mkF m 31 #[.val (.ref o0), .val (.ref o1), .val .null, .val (.int p3), .val (.int p4), .val .null] [])) t → Steps p.tables e below S0 t := fun t k => K12 t (st13 t k)
  obtain ⟨fs, hr, hrun, hended, hW, hsame⟩ := X13.leave (v := none) (fun _ => rfl) hlk
  refine ⟨_, _, ?_, hrun, hended, _, _, rfl, ?_, ⟨_, rfl⟩, hW, hsame.mono (by decide) (by decide)⟩
  · rw [← hS0]; exact K13 _ (X13.returnOut hx Bd.returns (hb hby di100_31) hr)
  · show Qi100 Z o0 o1 p3 p4 h0 n0 _ T13.heap _
    rw [e13]
    exact ⟨rfl, N13, Kc13, E_o0__13, F_o0_name__13, F_o0_kind__13, F_o0_required__13, F_o0_repeated__13, F_o0_flag__13⟩
theorem di101_0 : decode prog_84_method_1_code 0 = .ok (.aload_n 0, 1) := by decide +kernel
theorem di101_1 : decode prog_84_method_1_code 1 = .ok (.invokespecial 1, 3) := by decide +kernel
theorem di101_4 : decode prog_84_method_1_code 4 = .ok (.aload_n 0, 1) := by decide +kernel
theorem di101_5 : decode prog_84_method_1_code 5 = .ok (.aload_n 1, 1) := by decide +kernel
theorem di101_6 : decode prog_84_method_1_code 6 = .ok (.putfield 7, 3) := by decide +kernel
theorem di101_9 : decode prog_84_method_1_code 9 = .ok (.aload_n 0, 1) := by decide +kernel
theorem di101_10 : decode prog_84_method_1_code 10 = .ok (.aload_n 2, 1) := by decide +kernel
theorem di101_11 : decode prog_84_method_1_code 11 = .ok (.putfield 13, 3) := by decide +kernel
theorem di101_14 : decode prog_84_method_1_code 14 = .ok (.aload_n 0, 1) := by decide +kernel
theorem di101_15 : decode prog_84_method_1_code 15 = .ok (.iload_n 3, 1) := by decide +kernel
theorem di101_16 : decode prog_84_method_1_code 16 = .ok (.putfield 17, 3) := by decide +kernel
theorem di101_19 : decode prog_84_method_1_code 19 = .ok (.aload_n 0, 1) := by decide +kernel
theorem di101_20 : decode prog_84_method_1_code 20 = .ok (.iload 4, 2) := by decide +kernel
theorem di101_22 : decode prog_84_method_1_code 22 = .ok (.putfield 21, 3) := by decide +kernel
theorem di101_25 : decode prog_84_method_1_code 25 = .ok (.aload_n 0, 1) := by decide +kernel
theorem di101_26 : decode prog_84_method_1_code 26 = .ok (.aload 5, 2) := by decide +kernel
theorem di101_28 : decode prog_84_method_1_code 28 = .ok (.putfield 24, 3) := by decide +kernel
theorem di101_31 : decode prog_84_method_1_code 31 = .ok (.return_, 1) := by decide +kernel
theorem pni101 : plainName "biaxial/cli/Forms$Operand" = true := by first | (simp [plainName, overriddenIn]; done) | decide +kernel
theorem pdi101_0 : parseMethodDescriptor "()V" = some ⟨[], none⟩ := by decide +kernel
theorem efi101 (m : MethodId) (o0 : Addr) (o1 : Addr) (p3 : Int32) (p4 : Int32) (o5 : Addr) : entryFrame m #[(.ref o0), (.ref o1), .null, (.int p3), (.int p4), (.ref o5)] 6 = mkF m 0 #[.val (.ref o0), .val (.ref o1), .val .null, .val (.int p3), .val (.int p4), .val (.ref o5)] [] := by first | (simp [entryFrame, mkF, argsToLocals, Value.category]; done) | rfl
def Qi101 (Z : State) (o0 : Addr) (o1 : Addr) (p3 : Int32) (p4 : Int32) (o5 : Addr) (h0 : Heap) (n0 : Nat) (v : Option Value) (h : Heap) (L : List Loc) : Prop := v = none ∧ Fr n0 L ∧ Keep h0 h [o0] ∧ Exa Z h o0 "biaxial/cli/Forms$Operand" ∧ Fld Z h o0 "biaxial/cli/Forms$Operand" "name" "Ljava/lang/String;" (.ref o1) ∧ Fld Z h o0 "biaxial/cli/Forms$Operand" "kind" "Lbiaxial/cli/Forms$Kind;" .null ∧ Fld Z h o0 "biaxial/cli/Forms$Operand" "required" "Z" (.int (nar .boolean p3)) ∧ Fld Z h o0 "biaxial/cli/Forms$Operand" "repeated" "Z" (.int (nar .boolean p4)) ∧ Fld Z h o0 "biaxial/cli/Forms$Operand" "flag" "Ljava/lang/String;" (.ref o5)
set_option maxRecDepth 65536 in
set_option maxHeartbeats 40000000 in
theorem rmi101 (l : Launch) (Z : State) (a0 : Array Value) (hw : ∀ d ∈ tables_1, d.before a0 Z = true) (ws : List Jvm.Cond) (o0 : Addr) (o1 : Addr) (p3 : Int32) (p4 : Int32) (o5 : Addr) (h0 : Heap) (n0 : Nat) (Z0 : n0 ≤ h0.size) (E_o0 : Exa Z h0 o0 "biaxial/cli/Forms$Operand") (F_o0_name : Fld Z h0 o0 "biaxial/cli/Forms$Operand" "name" "Ljava/lang/String;" .null) (F_o0_kind : Fld Z h0 o0 "biaxial/cli/Forms$Operand" "kind" "Lbiaxial/cli/Forms$Kind;" .null) (F_o0_required : Fld Z h0 o0 "biaxial/cli/Forms$Operand" "required" "Z" (.int (0 : Int32))) (F_o0_repeated : Fld Z h0 o0 "biaxial/cli/Forms$Operand" "repeated" "Z" (.int (0 : Int32))) (F_o0_flag : Fld Z h0 o0 "biaxial/cli/Forms$Operand" "flag" "Ljava/lang/String;" .null) (g_o0 : n0 ≤ o0) :
    MetFree l (⟨"biaxial/cli/Forms$Operand", "<init>", "(Ljava/lang/String;Lbiaxial/cli/Forms$Kind;ZZLjava/lang/String;)V"⟩ : MethodName) (head1 (Jvm.Cond.code (⟨"biaxial/cli/Forms$Operand", "<init>", "(Ljava/lang/String;Lbiaxial/cli/Forms$Kind;ZZLjava/lang/String;)V"⟩ : MethodName) prog_84_method_1_code 6 none :: ws) ({ frames := 2, cells := 0, slots := 0, locals := 24 } : Room)) (fun a U => a = #[(.ref o0), (.ref o1), .null, (.int p3), (.int p4), (.ref o5)] ∧ Z.Warmed39 U.vm ∧ U.heap = h0) (fun _ _ _ _ _ => True) (fun _ U o U' => ∃ v L, o = .returned v ∧ Qi101 Z o0 o1 p3 p4 o5 h0 n0 v U'.heap L ∧ FrameEnd U o U' L ({ frames := 2, cells := 0, slots := 0, locals := 24 } : Room).cells ({ frames := 2, cells := 0, slots := 0, locals := 24 } : Room).slots) := by
  refine MetFree.of_bodySF (plainFor_of_name pni101) hisR ?_
  intro p e s m args below meth c s₁ Bd hml0 hP hK
  obtain ⟨rfl, hZ, hh⟩ := hP
  have hlk : meth.locks = false := BodyLoose.notSynchronized Bd
  have hx := Bd.exec
  have hby := Bd.bytes
  have hml : c.maxLocals = 6 := hml0
  have hown : s.vm.findClass "biaxial/cli/Forms$Operand" = some m.cls := findClass_of_methodNamed Bd.named
  have hnm := (name_of_methodNamed Bd.named Bd.method).1
  have X0 : Stand p l e ({ frames := 2, cells := 0, slots := 0, locals := 24 } : Room) s m #[(.ref o0), (.ref o1), .null, (.int p3), (.int p4), (.ref o5)] below meth c s₁ [] 0 0 := Stand.of_body Bd
  have e0 : s₁.heap = h0 := by rw [← hh, Bd.state]; rfl
  have N0 := Fr.nil n0
  obtain ⟨S0, hS0⟩ : ∃ S0, S0 = s₁.setTop (entryFrame m #[(.ref o0), (.ref o1), .null, (.int p3), (.int p4), (.ref o5)] 6) := ⟨_, rfl⟩
  have pre0 : ∀ t, Steps p.tables e below (s₁.setTop (mkF m 0 #[.val (.ref o0), .val (.ref o1), .val .null, .val (.int p3), .val (.int p4), .val (.ref o5)] [])) t → Steps p.tables e below S0 t := fun t k => by rw [hS0]; exact castTop (efi101 m o0 o1 p3 p4 o5) k
  have K1 : ∀ t, Steps p.tables e below (s₁.setTop (mkF m 1 #[.val (.ref o0), .val (.ref o1), .val .null, .val (.int p3), .val (.int p4), .val (.ref o5)] [(.ref o0)])) t → Steps p.tables e below S0 t := fun t k => pre0 t (by
    refine XS.aloadN X0.here hx rfl (hb hby di101_0) rfl rfl ?_
    show Steps p.tables e below (s₁.setTop (mkF m 1 #[.val (.ref o0), .val (.ref o1), .val .null, .val (.int p3), .val (.int p4), .val (.ref o5)] [(.ref o0)])) _
    exact k)
  have K_2 : ∀ t, Steps p.tables e below (s₁.setTop (mkF m 1 #[.val (.ref o0), .val (.ref o1), .val .null, .val (.int p3), .val (.int p4), .val (.ref o5)] [(.ref o0)])) t → Steps p.tables e below S0 t := K1
  obtain ⟨_, _, ⟨T3, L3, k3, n3⟩, -, X3, ⟨Lc3, hQ3, l3, y3, z3⟩, st3⟩ := X0.specialBack hx (y := (⟨"java/lang/Record", "<init>", "()V"⟩ : MethodName)) rfl hown (mvT hZ (hw _ (List.mem_of_getElem? (i := 50) rfl))) (mvT hZ (hw _ (List.mem_of_getElem? (i := 51) rfl))) (mvT hZ (hw _ (List.mem_of_getElem? (i := 54) rfl))) (by decide) (backOf (W := 0) (rm5 l Z a0 hw [] o0 h0 n0 Z0 ) hZ (hw _ (List.mem_of_getElem? (i := 54) rfl)) (hw _ (List.mem_of_getElem? (i := 53) rfl)) (by decide) (by decide)) (g := (mkF m 1 #[.val (.ref o0), .val (.ref o1), .val .null, .val (.int p3), .val (.int p4), .val (.ref o5)] [(.ref o0)])) rfl (by rw [hml]; rfl) (Steps.refl _) (a := o0) (argsL := []) (rest := []) (lenOf pdi101_0 rfl) rfl (by show 2 * 0 + _ ≤ _; exact Nat.le_of_eq rfl) (hb hby di101_1) (fun _ _ => ⟨rfl, e0, (by decide : 0 + 0 ≤ 0), (by decide : 0 + 0 ≤ 0)⟩)
  dsimp only [Pt.U, Pt.locs, Pt.cells, Pt.slots] at X3 l3 y3 z3 st3 hQ3
  subst l3 y3 z3
  obtain ⟨rfl, N3q, e3⟩ := hQ3
  have N3 := Fr.app N0 N3q
  have K3 : ∀ t, Steps p.tables e below (T3.setTop (mkF m 4 #[.val (.ref o0), .val (.ref o1), .val .null, .val (.int p3), .val (.int p4), .val (.ref o5)] [])) t → Steps p.tables e below S0 t := fun t k => K_2 t (st3.trans k)
  have K4 : ∀ t, Steps p.tables e below (T3.setTop (mkF m 6 #[.val (.ref o0), .val (.ref o1), .val .null, .val (.int p3), .val (.int p4), .val (.ref o5)] [(.ref o1), (.ref o0)])) t → Steps p.tables e below S0 t := fun t k => K3 t (by
    refine XS.aloadN X3.here hx rfl (hb hby di101_4) rfl rfl ?_
    show Steps p.tables e below (T3.setTop (mkF m 5 #[.val (.ref o0), .val (.ref o1), .val .null, .val (.int p3), .val (.int p4), .val (.ref o5)] [(.ref o0)])) _
    refine XS.aloadN X3.here hx rfl (hb hby di101_5) rfl rfl ?_
    show Steps p.tables e below (T3.setTop (mkF m 6 #[.val (.ref o0), .val (.ref o1), .val .null, .val (.int p3), .val (.int p4), .val (.ref o5)] [(.ref o1), (.ref o0)])) _
    exact k)
  obtain ⟨T5, h5, X5, e5, W5, st5⟩ := putF X3 hx hZ hown (host := "") (Or.inl (hw _ (List.mem_of_getElem? (i := 56) rfl))) Via.refl e3 F_o0_name E_o0 (Or.inr ⟨(hw _ (List.mem_of_getElem? (i := 57) rfl)), rfl, hnm⟩) (hw _ (List.mem_of_getElem? (i := 45) rfl)) (ty := (.object "java/lang/String")) (by decide) rfl rfl (g := (mkF m 6 #[.val (.ref o0), .val (.ref o1), .val .null, .val (.int p3), .val (.int p4), .val (.ref o5)] [(.ref o1), (.ref o0)])) rfl rfl (hb hby di101_6)
  have F_o0_name__5 := F_o0_name.same W5
  have E_o0__5 := E_o0.wr W5
  have F_o0_kind__5 := F_o0_kind.other W5 (Or.inr (slot_ne (Or.inr (hw _ (List.mem_of_getElem? (i := 59) rfl))) (Or.inr (hw _ (List.mem_of_getElem? (i := 57) rfl))) (by decide) (t := (.object "biaxial/cli/Forms$Kind")) (t' := (.object "java/lang/String")) (by decide) (by decide)))
  have F_o0_required__5 := F_o0_required.other W5 (Or.inr (slot_ne (Or.inr (hw _ (List.mem_of_getElem? (i := 61) rfl))) (Or.inr (hw _ (List.mem_of_getElem? (i := 57) rfl))) (by decide) (t := .boolean) (t' := (.object "java/lang/String")) (by decide) (by decide)))
  have F_o0_repeated__5 := F_o0_repeated.other W5 (Or.inr (slot_ne (Or.inr (hw _ (List.mem_of_getElem? (i := 63) rfl))) (Or.inr (hw _ (List.mem_of_getElem? (i := 57) rfl))) (by decide) (t := .boolean) (t' := (.object "java/lang/String")) (by decide) (by decide)))
  have F_o0_flag__5 := F_o0_flag.other W5 (Or.inr (slot_ne (Or.inr (hw _ (List.mem_of_getElem? (i := 65) rfl))) (Or.inr (hw _ (List.mem_of_getElem? (i := 57) rfl))) (by decide) (t := (.object "java/lang/String")) (t' := (.object "java/lang/String")) (by decide) (by decide)))
  have N5 := Fr.snoc X5 N3 g_o0
  have Zs5 : n0 ≤ h5.size := Nat.le_trans Z0 (Nat.le_of_eq W5.size.symm)
  have Kc5 : Keep h0 h5 [o0] := (Keep.refl h0 [o0]).wr W5 (Or.inl (List.mem_of_getElem? (i := 0) rfl))
  have K5 : ∀ t, Steps p.tables e below (T5.setTop (mkF m 9 #[.val (.ref o0), .val (.ref o1), .val .null, .val (.int p3), .val (.int p4), .val (.ref o5)] [])) t → Steps p.tables e below S0 t := fun t k => K4 t (st5 t k)
  have K6 : ∀ t, Steps p.tables e below (T5.setTop (mkF m 11 #[.val (.ref o0), .val (.ref o1), .val .null, .val (.int p3), .val (.int p4), .val (.ref o5)] [.null, (.ref o0)])) t → Steps p.tables e below S0 t := fun t k => K5 t (by
    refine XS.aloadN X5.here hx rfl (hb hby di101_9) rfl rfl ?_
    show Steps p.tables e below (T5.setTop (mkF m 10 #[.val (.ref o0), .val (.ref o1), .val .null, .val (.int p3), .val (.int p4), .val (.ref o5)] [(.ref o0)])) _
    refine XS.aloadN X5.here hx rfl (hb hby di101_10) rfl rfl ?_
    show Steps p.tables e below (T5.setTop (mkF m 11 #[.val (.ref o0), .val (.ref o1), .val .null, .val (.int p3), .val (.int p4), .val (.ref o5)] [.null, (.ref o0)])) _
    exact k)
  obtain ⟨T7, h7, X7, e7, W7, st7⟩ := putF X5 hx hZ hown (host := "") (Or.inl (hw _ (List.mem_of_getElem? (i := 58) rfl))) Via.refl e5 F_o0_kind__5 E_o0__5 (Or.inr ⟨(hw _ (List.mem_of_getElem? (i := 59) rfl)), rfl, hnm⟩) (hw _ (List.mem_of_getElem? (i := 45) rfl)) (ty := (.object "biaxial/cli/Forms$Kind")) (by decide) rfl rfl (g := (mkF m 11 #[.val (.ref o0), .val (.ref o1), .val .null, .val (.int p3), .val (.int p4), .val (.ref o5)] [.null, (.ref o0)])) rfl rfl (hb hby di101_11)
  have F_o0_kind__7 := F_o0_kind__5.same W7
  have E_o0__7 := E_o0__5.wr W7
  have F_o0_name__7 := F_o0_name__5.other W7 (Or.inr (slot_ne (Or.inr (hw _ (List.mem_of_getElem? (i := 57) rfl))) (Or.inr (hw _ (List.mem_of_getElem? (i := 59) rfl))) (by decide) (t := (.object "java/lang/String")) (t' := (.object "biaxial/cli/Forms$Kind")) (by decide) (by decide)))
  have F_o0_required__7 := F_o0_required__5.other W7 (Or.inr (slot_ne (Or.inr (hw _ (List.mem_of_getElem? (i := 61) rfl))) (Or.inr (hw _ (List.mem_of_getElem? (i := 59) rfl))) (by decide) (t := .boolean) (t' := (.object "biaxial/cli/Forms$Kind")) (by decide) (by decide)))
  have F_o0_repeated__7 := F_o0_repeated__5.other W7 (Or.inr (slot_ne (Or.inr (hw _ (List.mem_of_getElem? (i := 63) rfl))) (Or.inr (hw _ (List.mem_of_getElem? (i := 59) rfl))) (by decide) (t := .boolean) (t' := (.object "biaxial/cli/Forms$Kind")) (by decide) (by decide)))
  have F_o0_flag__7 := F_o0_flag__5.other W7 (Or.inr (slot_ne (Or.inr (hw _ (List.mem_of_getElem? (i := 65) rfl))) (Or.inr (hw _ (List.mem_of_getElem? (i := 59) rfl))) (by decide) (t := (.object "java/lang/String")) (t' := (.object "biaxial/cli/Forms$Kind")) (by decide) (by decide)))
  have N7 := Fr.snoc X7 N5 g_o0
  have Zs7 : n0 ≤ h7.size := Nat.le_trans Zs5 (Nat.le_of_eq W7.size.symm)
  have Kc7 : Keep h0 h7 [o0] := Kc5.wr W7 (Or.inl (List.mem_of_getElem? (i := 0) rfl))
  have K7 : ∀ t, Steps p.tables e below (T7.setTop (mkF m 14 #[.val (.ref o0), .val (.ref o1), .val .null, .val (.int p3), .val (.int p4), .val (.ref o5)] [])) t → Steps p.tables e below S0 t := fun t k => K6 t (st7 t k)
  have K8 : ∀ t, Steps p.tables e below (T7.setTop (mkF m 16 #[.val (.ref o0), .val (.ref o1), .val .null, .val (.int p3), .val (.int p4), .val (.ref o5)] [(.int p3), (.ref o0)])) t → Steps p.tables e below S0 t := fun t k => K7 t (by
    refine XS.aloadN X7.here hx rfl (hb hby di101_14) rfl rfl ?_
    show Steps p.tables e below (T7.setTop (mkF m 15 #[.val (.ref o0), .val (.ref o1), .val .null, .val (.int p3), .val (.int p4), .val (.ref o5)] [(.ref o0)])) _
    refine XS.iloadN X7.here hx rfl (hb hby di101_15) rfl ?_
    show Steps p.tables e below (T7.setTop (mkF m 16 #[.val (.ref o0), .val (.ref o1), .val .null, .val (.int p3), .val (.int p4), .val (.ref o5)] [(.int p3), (.ref o0)])) _
    exact k)
  obtain ⟨T9, h9, X9, e9, W9, st9⟩ := putFN X7 hx hZ hown (hw _ (List.mem_of_getElem? (i := 60) rfl)) Via.refl e7 F_o0_required__7 E_o0__7 (Or.inr ⟨(hw _ (List.mem_of_getElem? (i := 61) rfl)), rfl, hnm⟩) (hw _ (List.mem_of_getElem? (i := 45) rfl)) (ty := .boolean) (v' := (.int (nar .boolean p3))) (by decide) rfl (fits_nar_bool p3) (g := (mkF m 16 #[.val (.ref o0), .val (.ref o1), .val .null, .val (.int p3), .val (.int p4), .val (.ref o5)] [(.int p3), (.ref o0)])) rfl rfl (hb hby di101_16)
  have F_o0_required__9 := F_o0_required__7.same W9
  have E_o0__9 := E_o0__7.wr W9
  have F_o0_name__9 := F_o0_name__7.other W9 (Or.inr (slot_ne (Or.inr (hw _ (List.mem_of_getElem? (i := 57) rfl))) (Or.inr (hw _ (List.mem_of_getElem? (i := 61) rfl))) (by decide) (t := (.object "java/lang/String")) (t' := .boolean) (by decide) (by decide)))
  have F_o0_kind__9 := F_o0_kind__7.other W9 (Or.inr (slot_ne (Or.inr (hw _ (List.mem_of_getElem? (i := 59) rfl))) (Or.inr (hw _ (List.mem_of_getElem? (i := 61) rfl))) (by decide) (t := (.object "biaxial/cli/Forms$Kind")) (t' := .boolean) (by decide) (by decide)))
  have F_o0_repeated__9 := F_o0_repeated__7.other W9 (Or.inr (slot_ne (Or.inr (hw _ (List.mem_of_getElem? (i := 63) rfl))) (Or.inr (hw _ (List.mem_of_getElem? (i := 61) rfl))) (by decide) (t := .boolean) (t' := .boolean) (by decide) (by decide)))
  have F_o0_flag__9 := F_o0_flag__7.other W9 (Or.inr (slot_ne (Or.inr (hw _ (List.mem_of_getElem? (i := 65) rfl))) (Or.inr (hw _ (List.mem_of_getElem? (i := 61) rfl))) (by decide) (t := (.object "java/lang/String")) (t' := .boolean) (by decide) (by decide)))
  have N9 := Fr.snoc X9 N7 g_o0
  have Zs9 : n0 ≤ h9.size := Nat.le_trans Zs7 (Nat.le_of_eq W9.size.symm)
  have Kc9 : Keep h0 h9 [o0] := Kc7.wr W9 (Or.inl (List.mem_of_getElem? (i := 0) rfl))
  have K9 : ∀ t, Steps p.tables e below (T9.setTop (mkF m 19 #[.val (.ref o0), .val (.ref o1), .val .null, .val (.int p3), .val (.int p4), .val (.ref o5)] [])) t → Steps p.tables e below S0 t := fun t k => K8 t (st9 t k)
  have K10 : ∀ t, Steps p.tables e below (T9.setTop (mkF m 22 #[.val (.ref o0), .val (.ref o1), .val .null, .val (.int p3), .val (.int p4), .val (.ref o5)] [(.int p4), (.ref o0)])) t → Steps p.tables e below S0 t := fun t k => K9 t (by
    refine XS.aloadN X9.here hx rfl (hb hby di101_19) rfl rfl ?_
    show Steps p.tables e below (T9.setTop (mkF m 20 #[.val (.ref o0), .val (.ref o1), .val .null, .val (.int p3), .val (.int p4), .val (.ref o5)] [(.ref o0)])) _
    refine XS.iload X9.here hx rfl (hb hby di101_20) rfl ?_
    show Steps p.tables e below (T9.setTop (mkF m 22 #[.val (.ref o0), .val (.ref o1), .val .null, .val (.int p3), .val (.int p4), .val (.ref o5)] [(.int p4), (.ref o0)])) _
    exact k)
  obtain ⟨T11, h11, X11, e11, W11, st11⟩ := putFN X9 hx hZ hown (hw _ (List.mem_of_getElem? (i := 62) rfl)) Via.refl e9 F_o0_repeated__9 E_o0__9 (Or.inr ⟨(hw _ (List.mem_of_getElem? (i := 63) rfl)), rfl, hnm⟩) (hw _ (List.mem_of_getElem? (i := 45) rfl)) (ty := .boolean) (v' := (.int (nar .boolean p4))) (by decide) rfl (fits_nar_bool p4) (g := (mkF m 22 #[.val (.ref o0), .val (.ref o1), .val .null, .val (.int p3), .val (.int p4), .val (.ref o5)] [(.int p4), (.ref o0)])) rfl rfl (hb hby di101_22)
  have F_o0_repeated__11 := F_o0_repeated__9.same W11
  have E_o0__11 := E_o0__9.wr W11
  have F_o0_name__11 := F_o0_name__9.other W11 (Or.inr (slot_ne (Or.inr (hw _ (List.mem_of_getElem? (i := 57) rfl))) (Or.inr (hw _ (List.mem_of_getElem? (i := 63) rfl))) (by decide) (t := (.object "java/lang/String")) (t' := .boolean) (by decide) (by decide)))
  have F_o0_kind__11 := F_o0_kind__9.other W11 (Or.inr (slot_ne (Or.inr (hw _ (List.mem_of_getElem? (i := 59) rfl))) (Or.inr (hw _ (List.mem_of_getElem? (i := 63) rfl))) (by decide) (t := (.object "biaxial/cli/Forms$Kind")) (t' := .boolean) (by decide) (by decide)))
  have F_o0_required__11 := F_o0_required__9.other W11 (Or.inr (slot_ne (Or.inr (hw _ (List.mem_of_getElem? (i := 61) rfl))) (Or.inr (hw _ (List.mem_of_getElem? (i := 63) rfl))) (by decide) (t := .boolean) (t' := .boolean) (by decide) (by decide)))
  have F_o0_flag__11 := F_o0_flag__9.other W11 (Or.inr (slot_ne (Or.inr (hw _ (List.mem_of_getElem? (i := 65) rfl))) (Or.inr (hw _ (List.mem_of_getElem? (i := 63) rfl))) (by decide) (t := (.object "java/lang/String")) (t' := .boolean) (by decide) (by decide)))
  have N11 := Fr.snoc X11 N9 g_o0
  have Zs11 : n0 ≤ h11.size := Nat.le_trans Zs9 (Nat.le_of_eq W11.size.symm)
  have Kc11 : Keep h0 h11 [o0] := Kc9.wr W11 (Or.inl (List.mem_of_getElem? (i := 0) rfl))
  have K11 : ∀ t, Steps p.tables e below (T11.setTop (mkF m 25 #[.val (.ref o0), .val (.ref o1), .val .null, .val (.int p3), .val (.int p4), .val (.ref o5)] [])) t → Steps p.tables e below S0 t := fun t k => K10 t (st11 t k)
  have K12 : ∀ t, Steps p.tables e below (T11.setTop (mkF m 28 #[.val (.ref o0), .val (.ref o1), .val .null, .val (.int p3), .val (.int p4), .val (.ref o5)] [(.ref o5), (.ref o0)])) t → Steps p.tables e below S0 t := fun t k => K11 t (by
    refine XS.aloadN X11.here hx rfl (hb hby di101_25) rfl rfl ?_
    show Steps p.tables e below (T11.setTop (mkF m 26 #[.val (.ref o0), .val (.ref o1), .val .null, .val (.int p3), .val (.int p4), .val (.ref o5)] [(.ref o0)])) _
    refine XS.aload X11.here hx rfl (hb hby di101_26) rfl rfl ?_
    show Steps p.tables e below (T11.setTop (mkF m 28 #[.val (.ref o0), .val (.ref o1), .val .null, .val (.int p3), .val (.int p4), .val (.ref o5)] [(.ref o5), (.ref o0)])) _
    exact k)
  obtain ⟨T13, h13, X13, e13, W13, st13⟩ := putF X11 hx hZ hown (host := "") (Or.inl (hw _ (List.mem_of_getElem? (i := 64) rfl))) Via.refl e11 F_o0_flag__11 E_o0__11 (Or.inr ⟨(hw _ (List.mem_of_getElem? (i := 65) rfl)), rfl, hnm⟩) (hw _ (List.mem_of_getElem? (i := 45) rfl)) (ty := (.object "java/lang/String")) (by decide) rfl rfl (g := (mkF m 28 #[.val (.ref o0), .val (.ref o1), .val .null, .val (.int p3), .val (.int p4), .val (.ref o5)] [(.ref o5), (.ref o0)])) rfl rfl (hb hby di101_28)
  have F_o0_flag__13 := F_o0_flag__11.same W13
  have E_o0__13 := E_o0__11.wr W13
  have F_o0_name__13 := F_o0_name__11.other W13 (Or.inr (slot_ne (Or.inr (hw _ (List.mem_of_getElem? (i := 57) rfl))) (Or.inr (hw _ (List.mem_of_getElem? (i := 65) rfl))) (by decide) (t := (.object "java/lang/String")) (t' := (.object "java/lang/String")) (by decide) (by decide)))
  have F_o0_kind__13 := F_o0_kind__11.other W13 (Or.inr (slot_ne (Or.inr (hw _ (List.mem_of_getElem? (i := 59) rfl))) (Or.inr (hw _ (List.mem_of_getElem? (i := 65) rfl))) (by decide) (t := (.object "biaxial/cli/Forms$Kind")) (t' := (.object "java/lang/String")) (by decide) (by decide)))
  have F_o0_required__13 := F_o0_required__11.other W13 (Or.inr (slot_ne (Or.inr (hw _ (List.mem_of_getElem? (i := 61) rfl))) (Or.inr (hw _ (List.mem_of_getElem? (i := 65) rfl))) (by decide) (t := .boolean) (t' := (.object "java/lang/String")) (by decide) (by decide)))
  have F_o0_repeated__13 := F_o0_repeated__11.other W13 (Or.inr (slot_ne (Or.inr (hw _ (List.mem_of_getElem? (i := 63) rfl))) (Or.inr (hw _ (List.mem_of_getElem? (i := 65) rfl))) (by decide) (t := .boolean) (t' := (.object "java/lang/String")) (by decide) (by decide)))
  have N13 := Fr.snoc X13 N11 g_o0
  have Zs13 : n0 ≤ h13.size := Nat.le_trans Zs11 (Nat.le_of_eq W13.size.symm)
  have Kc13 : Keep h0 h13 [o0] := Kc11.wr W13 (Or.inl (List.mem_of_getElem? (i := 0) rfl))
  have K13 : ∀ t, Steps p.tables e below (T13.setTop (mkF m 31 #[.val (.ref o0), .val (.ref o1), .val .null, .val (.int p3), .val (.int p4), .val (.ref o5)] [])) t → Steps p.tables e below S0 t := fun t k => K12 t (st13 t k)
  obtain ⟨fs, hr, hrun, hended, hW, hsame⟩ := X13.leave (v := none) (fun _ => rfl) hlk
  refine ⟨_, _, ?_, hrun, hended, _, _, rfl, ?_, ⟨_, rfl⟩, hW, hsame.mono (by decide) (by decide)⟩
  · rw [← hS0]; exact K13 _ (X13.returnOut hx Bd.returns (hb hby di101_31) hr)
  · show Qi101 Z o0 o1 p3 p4 o5 h0 n0 _ T13.heap _
    rw [e13]
    exact ⟨rfl, N13, Kc13, E_o0__13, F_o0_name__13, F_o0_kind__13, F_o0_required__13, F_o0_repeated__13, F_o0_flag__13⟩
theorem di110_0 : decode prog_84_method_1_code 0 = .ok (.aload_n 0, 1) := by decide +kernel
theorem di110_1 : decode prog_84_method_1_code 1 = .ok (.invokespecial 1, 3) := by decide +kernel
theorem di110_4 : decode prog_84_method_1_code 4 = .ok (.aload_n 0, 1) := by decide +kernel
theorem di110_5 : decode prog_84_method_1_code 5 = .ok (.aload_n 1, 1) := by decide +kernel
theorem di110_6 : decode prog_84_method_1_code 6 = .ok (.putfield 7, 3) := by decide +kernel
theorem di110_9 : decode prog_84_method_1_code 9 = .ok (.aload_n 0, 1) := by decide +kernel
theorem di110_10 : decode prog_84_method_1_code 10 = .ok (.aload_n 2, 1) := by decide +kernel
theorem di110_11 : decode prog_84_method_1_code 11 = .ok (.putfield 13, 3) := by decide +kernel
theorem di110_14 : decode prog_84_method_1_code 14 = .ok (.aload_n 0, 1) := by decide +kernel
theorem di110_15 : decode prog_84_method_1_code 15 = .ok (.iload_n 3, 1) := by decide +kernel
theorem di110_16 : decode prog_84_method_1_code 16 = .ok (.putfield 17, 3) := by decide +kernel
theorem di110_19 : decode prog_84_method_1_code 19 = .ok (.aload_n 0, 1) := by decide +kernel
theorem di110_20 : decode prog_84_method_1_code 20 = .ok (.iload 4, 2) := by decide +kernel
theorem di110_22 : decode prog_84_method_1_code 22 = .ok (.putfield 21, 3) := by decide +kernel
theorem di110_25 : decode prog_84_method_1_code 25 = .ok (.aload_n 0, 1) := by decide +kernel
theorem di110_26 : decode prog_84_method_1_code 26 = .ok (.aload 5, 2) := by decide +kernel
theorem di110_28 : decode prog_84_method_1_code 28 = .ok (.putfield 24, 3) := by decide +kernel
theorem di110_31 : decode prog_84_method_1_code 31 = .ok (.return_, 1) := by decide +kernel
theorem pni110 : plainName "biaxial/cli/Forms$Operand" = true := by first | (simp [plainName, overriddenIn]; done) | decide +kernel
theorem pdi110_0 : parseMethodDescriptor "()V" = some ⟨[], none⟩ := by decide +kernel
theorem efi110 (m : MethodId) (o0 : Addr) (o1 : Addr) (o2 : Addr) (p3 : Int32) (p4 : Int32) : entryFrame m #[(.ref o0), (.ref o1), (.ref o2), (.int p3), (.int p4), .null] 6 = mkF m 0 #[.val (.ref o0), .val (.ref o1), .val (.ref o2), .val (.int p3), .val (.int p4), .val .null] [] := by first | (simp [entryFrame, mkF, argsToLocals, Value.category]; done) | rfl
def Qi110 (Z : State) (o0 : Addr) (o1 : Addr) (o2 : Addr) (p3 : Int32) (p4 : Int32) (h0 : Heap) (n0 : Nat) (v : Option Value) (h : Heap) (L : List Loc) : Prop := v = none ∧ Fr n0 L ∧ Keep h0 h [o0] ∧ Exa Z h o0 "biaxial/cli/Forms$Operand" ∧ Fld Z h o0 "biaxial/cli/Forms$Operand" "name" "Ljava/lang/String;" (.ref o1) ∧ Fld Z h o0 "biaxial/cli/Forms$Operand" "kind" "Lbiaxial/cli/Forms$Kind;" (.ref o2) ∧ Fld Z h o0 "biaxial/cli/Forms$Operand" "required" "Z" (.int (nar .boolean p3)) ∧ Fld Z h o0 "biaxial/cli/Forms$Operand" "repeated" "Z" (.int (nar .boolean p4)) ∧ Fld Z h o0 "biaxial/cli/Forms$Operand" "flag" "Ljava/lang/String;" .null
set_option maxRecDepth 65536 in
set_option maxHeartbeats 40000000 in
theorem rmi110 (l : Launch) (Z : State) (a0 : Array Value) (hw : ∀ d ∈ tables_1, d.before a0 Z = true) (ws : List Jvm.Cond) (o0 : Addr) (o1 : Addr) (o2 : Addr) (p3 : Int32) (p4 : Int32) (h0 : Heap) (n0 : Nat) (Z0 : n0 ≤ h0.size) (E_o0 : Exa Z h0 o0 "biaxial/cli/Forms$Operand") (F_o0_name : Fld Z h0 o0 "biaxial/cli/Forms$Operand" "name" "Ljava/lang/String;" .null) (F_o0_kind : Fld Z h0 o0 "biaxial/cli/Forms$Operand" "kind" "Lbiaxial/cli/Forms$Kind;" .null) (F_o0_required : Fld Z h0 o0 "biaxial/cli/Forms$Operand" "required" "Z" (.int (0 : Int32))) (F_o0_repeated : Fld Z h0 o0 "biaxial/cli/Forms$Operand" "repeated" "Z" (.int (0 : Int32))) (F_o0_flag : Fld Z h0 o0 "biaxial/cli/Forms$Operand" "flag" "Ljava/lang/String;" .null) (g_o0 : n0 ≤ o0) :
    MetFree l (⟨"biaxial/cli/Forms$Operand", "<init>", "(Ljava/lang/String;Lbiaxial/cli/Forms$Kind;ZZLjava/lang/String;)V"⟩ : MethodName) (head1 (Jvm.Cond.code (⟨"biaxial/cli/Forms$Operand", "<init>", "(Ljava/lang/String;Lbiaxial/cli/Forms$Kind;ZZLjava/lang/String;)V"⟩ : MethodName) prog_84_method_1_code 6 none :: ws) ({ frames := 2, cells := 0, slots := 0, locals := 24 } : Room)) (fun a U => a = #[(.ref o0), (.ref o1), (.ref o2), (.int p3), (.int p4), .null] ∧ Z.Warmed39 U.vm ∧ U.heap = h0) (fun _ _ _ _ _ => True) (fun _ U o U' => ∃ v L, o = .returned v ∧ Qi110 Z o0 o1 o2 p3 p4 h0 n0 v U'.heap L ∧ FrameEnd U o U' L ({ frames := 2, cells := 0, slots := 0, locals := 24 } : Room).cells ({ frames := 2, cells := 0, slots := 0, locals := 24 } : Room).slots) := by
  refine MetFree.of_bodySF (plainFor_of_name pni110) hisR ?_
  intro p e s m args below meth c s₁ Bd hml0 hP hK
  obtain ⟨rfl, hZ, hh⟩ := hP
  have hlk : meth.locks = false := BodyLoose.notSynchronized Bd
  have hx := Bd.exec
  have hby := Bd.bytes
  have hml : c.maxLocals = 6 := hml0
  have hown : s.vm.findClass "biaxial/cli/Forms$Operand" = some m.cls := findClass_of_methodNamed Bd.named
  have hnm := (name_of_methodNamed Bd.named Bd.method).1
  have X0 : Stand p l e ({ frames := 2, cells := 0, slots := 0, locals := 24 } : Room) s m #[(.ref o0), (.ref o1), (.ref o2), (.int p3), (.int p4), .null] below meth c s₁ [] 0 0 := Stand.of_body Bd
  have e0 : s₁.heap = h0 := by rw [← hh, Bd.state]; rfl
  have N0 := Fr.nil n0
  obtain ⟨S0, hS0⟩ : ∃ S0, S0 = s₁.setTop (entryFrame m #[(.ref o0), (.ref o1), (.ref o2), (.int p3), (.int p4), .null] 6) := ⟨_, rfl⟩
  have pre0 : ∀ t, Steps p.tables e below (s₁.setTop (mkF m 0 #[.val (.ref o0), .val (.ref o1), .val (.ref o2), .val (.int p3), .val (.int p4), .val .null] [])) t → Steps p.tables e below S0 t := fun t k => by rw [hS0]; exact castTop (efi110 m o0 o1 o2 p3 p4) k
  have K1 : ∀ t, Steps p.tables e below (s₁.setTop (mkF m 1 #[.val (.ref o0), .val (.ref o1), .val (.ref o2), .val (.int p3), .val (.int p4), .val .null] [(.ref o0)])) t → Steps p.tables e below S0 t := fun t k => pre0 t (by
    refine XS.aloadN X0.here hx rfl (hb hby di110_0) rfl rfl ?_
    show Steps p.tables e below (s₁.setTop (mkF m 1 #[.val (.ref o0), .val (.ref o1), .val (.ref o2), .val (.int p3), .val (.int p4), .val .null] [(.ref o0)])) _
    exact k)
  have K_2 : ∀ t, Steps p.tables e below (s₁.setTop (mkF m 1 #[.val (.ref o0), .val (.ref o1), .val (.ref o2), .val (.int p3), .val (.int p4), .val .null] [(.ref o0)])) t → Steps p.tables e below S0 t := K1
  obtain ⟨_, _, ⟨T3, L3, k3, n3⟩, -, X3, ⟨Lc3, hQ3, l3, y3, z3⟩, st3⟩ := X0.specialBack hx (y := (⟨"java/lang/Record", "<init>", "()V"⟩ : MethodName)) rfl hown (mvT hZ (hw _ (List.mem_of_getElem? (i := 50) rfl))) (mvT hZ (hw _ (List.mem_of_getElem? (i := 51) rfl))) (mvT hZ (hw _ (List.mem_of_getElem? (i := 54) rfl))) (by decide) (backOf (W := 0) (rm5 l Z a0 hw [] o0 h0 n0 Z0 ) hZ (hw _ (List.mem_of_getElem? (i := 54) rfl)) (hw _ (List.mem_of_getElem? (i := 53) rfl)) (by decide) (by decide)) (g := (mkF m 1 #[.val (.ref o0), .val (.ref o1), .val (.ref o2), .val (.int p3), .val (.int p4), .val .null] [(.ref o0)])) rfl (by rw [hml]; rfl) (Steps.refl _) (a := o0) (argsL := []) (rest := []) (lenOf pdi110_0 rfl) rfl (by show 2 * 0 + _ ≤ _; exact Nat.le_of_eq rfl) (hb hby di110_1) (fun _ _ => ⟨rfl, e0, (by decide : 0 + 0 ≤ 0), (by decide : 0 + 0 ≤ 0)⟩)
  dsimp only [Pt.U, Pt.locs, Pt.cells, Pt.slots] at X3 l3 y3 z3 st3 hQ3
  subst l3 y3 z3
  obtain ⟨rfl, N3q, e3⟩ := hQ3
  have N3 := Fr.app N0 N3q
  have K3 : ∀ t, Steps p.tables e below (T3.setTop (mkF m 4 #[.val (.ref o0), .val (.ref o1), .val (.ref o2), .val (.int p3), .val (.int p4), .val .null] [])) t → Steps p.tables e below S0 t := fun t k => K_2 t (st3.trans k)
  have K4 : ∀ t, Steps p.tables e below (T3.setTop (mkF m 6 #[.val (.ref o0), .val (.ref o1), .val (.ref o2), .val (.int p3), .val (.int p4), .val .null] [(.ref o1), (.ref o0)])) t → Steps p.tables e below S0 t := fun t k => K3 t (by
    refine XS.aloadN X3.here hx rfl (hb hby di110_4) rfl rfl ?_
    show Steps p.tables e below (T3.setTop (mkF m 5 #[.val (.ref o0), .val (.ref o1), .val (.ref o2), .val (.int p3), .val (.int p4), .val .null] [(.ref o0)])) _
    refine XS.aloadN X3.here hx rfl (hb hby di110_5) rfl rfl ?_
    show Steps p.tables e below (T3.setTop (mkF m 6 #[.val (.ref o0), .val (.ref o1), .val (.ref o2), .val (.int p3), .val (.int p4), .val .null] [(.ref o1), (.ref o0)])) _
    exact k)
  obtain ⟨T5, h5, X5, e5, W5, st5⟩ := putF X3 hx hZ hown (host := "") (Or.inl (hw _ (List.mem_of_getElem? (i := 56) rfl))) Via.refl e3 F_o0_name E_o0 (Or.inr ⟨(hw _ (List.mem_of_getElem? (i := 57) rfl)), rfl, hnm⟩) (hw _ (List.mem_of_getElem? (i := 45) rfl)) (ty := (.object "java/lang/String")) (by decide) rfl rfl (g := (mkF m 6 #[.val (.ref o0), .val (.ref o1), .val (.ref o2), .val (.int p3), .val (.int p4), .val .null] [(.ref o1), (.ref o0)])) rfl rfl (hb hby di110_6)
  have F_o0_name__5 := F_o0_name.same W5
  have E_o0__5 := E_o0.wr W5
  have F_o0_kind__5 := F_o0_kind.other W5 (Or.inr (slot_ne (Or.inr (hw _ (List.mem_of_getElem? (i := 59) rfl))) (Or.inr (hw _ (List.mem_of_getElem? (i := 57) rfl))) (by decide) (t := (.object "biaxial/cli/Forms$Kind")) (t' := (.object "java/lang/String")) (by decide) (by decide)))
  have F_o0_required__5 := F_o0_required.other W5 (Or.inr (slot_ne (Or.inr (hw _ (List.mem_of_getElem? (i := 61) rfl))) (Or.inr (hw _ (List.mem_of_getElem? (i := 57) rfl))) (by decide) (t := .boolean) (t' := (.object "java/lang/String")) (by decide) (by decide)))
  have F_o0_repeated__5 := F_o0_repeated.other W5 (Or.inr (slot_ne (Or.inr (hw _ (List.mem_of_getElem? (i := 63) rfl))) (Or.inr (hw _ (List.mem_of_getElem? (i := 57) rfl))) (by decide) (t := .boolean) (t' := (.object "java/lang/String")) (by decide) (by decide)))
  have F_o0_flag__5 := F_o0_flag.other W5 (Or.inr (slot_ne (Or.inr (hw _ (List.mem_of_getElem? (i := 65) rfl))) (Or.inr (hw _ (List.mem_of_getElem? (i := 57) rfl))) (by decide) (t := (.object "java/lang/String")) (t' := (.object "java/lang/String")) (by decide) (by decide)))
  have N5 := Fr.snoc X5 N3 g_o0
  have Zs5 : n0 ≤ h5.size := Nat.le_trans Z0 (Nat.le_of_eq W5.size.symm)
  have Kc5 : Keep h0 h5 [o0] := (Keep.refl h0 [o0]).wr W5 (Or.inl (List.mem_of_getElem? (i := 0) rfl))
  have K5 : ∀ t, Steps p.tables e below (T5.setTop (mkF m 9 #[.val (.ref o0), .val (.ref o1), .val (.ref o2), .val (.int p3), .val (.int p4), .val .null] [])) t → Steps p.tables e below S0 t := fun t k => K4 t (st5 t k)
  have K6 : ∀ t, Steps p.tables e below (T5.setTop (mkF m 11 #[.val (.ref o0), .val (.ref o1), .val (.ref o2), .val (.int p3), .val (.int p4), .val .null] [(.ref o2), (.ref o0)])) t → Steps p.tables e below S0 t := fun t k => K5 t (by
    refine XS.aloadN X5.here hx rfl (hb hby di110_9) rfl rfl ?_
    show Steps p.tables e below (T5.setTop (mkF m 10 #[.val (.ref o0), .val (.ref o1), .val (.ref o2), .val (.int p3), .val (.int p4), .val .null] [(.ref o0)])) _
    refine XS.aloadN X5.here hx rfl (hb hby di110_10) rfl rfl ?_
    show Steps p.tables e below (T5.setTop (mkF m 11 #[.val (.ref o0), .val (.ref o1), .val (.ref o2), .val (.int p3), .val (.int p4), .val .null] [(.ref o2), (.ref o0)])) _
    exact k)
  obtain ⟨T7, h7, X7, e7, W7, st7⟩ := putF X5 hx hZ hown (host := "") (Or.inl (hw _ (List.mem_of_getElem? (i := 58) rfl))) Via.refl e5 F_o0_kind__5 E_o0__5 (Or.inr ⟨(hw _ (List.mem_of_getElem? (i := 59) rfl)), rfl, hnm⟩) (hw _ (List.mem_of_getElem? (i := 45) rfl)) (ty := (.object "biaxial/cli/Forms$Kind")) (by decide) rfl rfl (g := (mkF m 11 #[.val (.ref o0), .val (.ref o1), .val (.ref o2), .val (.int p3), .val (.int p4), .val .null] [(.ref o2), (.ref o0)])) rfl rfl (hb hby di110_11)
  have F_o0_kind__7 := F_o0_kind__5.same W7
  have E_o0__7 := E_o0__5.wr W7
  have F_o0_name__7 := F_o0_name__5.other W7 (Or.inr (slot_ne (Or.inr (hw _ (List.mem_of_getElem? (i := 57) rfl))) (Or.inr (hw _ (List.mem_of_getElem? (i := 59) rfl))) (by decide) (t := (.object "java/lang/String")) (t' := (.object "biaxial/cli/Forms$Kind")) (by decide) (by decide)))
  have F_o0_required__7 := F_o0_required__5.other W7 (Or.inr (slot_ne (Or.inr (hw _ (List.mem_of_getElem? (i := 61) rfl))) (Or.inr (hw _ (List.mem_of_getElem? (i := 59) rfl))) (by decide) (t := .boolean) (t' := (.object "biaxial/cli/Forms$Kind")) (by decide) (by decide)))
  have F_o0_repeated__7 := F_o0_repeated__5.other W7 (Or.inr (slot_ne (Or.inr (hw _ (List.mem_of_getElem? (i := 63) rfl))) (Or.inr (hw _ (List.mem_of_getElem? (i := 59) rfl))) (by decide) (t := .boolean) (t' := (.object "biaxial/cli/Forms$Kind")) (by decide) (by decide)))
  have F_o0_flag__7 := F_o0_flag__5.other W7 (Or.inr (slot_ne (Or.inr (hw _ (List.mem_of_getElem? (i := 65) rfl))) (Or.inr (hw _ (List.mem_of_getElem? (i := 59) rfl))) (by decide) (t := (.object "java/lang/String")) (t' := (.object "biaxial/cli/Forms$Kind")) (by decide) (by decide)))
  have N7 := Fr.snoc X7 N5 g_o0
  have Zs7 : n0 ≤ h7.size := Nat.le_trans Zs5 (Nat.le_of_eq W7.size.symm)
  have Kc7 : Keep h0 h7 [o0] := Kc5.wr W7 (Or.inl (List.mem_of_getElem? (i := 0) rfl))
  have K7 : ∀ t, Steps p.tables e below (T7.setTop (mkF m 14 #[.val (.ref o0), .val (.ref o1), .val (.ref o2), .val (.int p3), .val (.int p4), .val .null] [])) t → Steps p.tables e below S0 t := fun t k => K6 t (st7 t k)
  have K8 : ∀ t, Steps p.tables e below (T7.setTop (mkF m 16 #[.val (.ref o0), .val (.ref o1), .val (.ref o2), .val (.int p3), .val (.int p4), .val .null] [(.int p3), (.ref o0)])) t → Steps p.tables e below S0 t := fun t k => K7 t (by
    refine XS.aloadN X7.here hx rfl (hb hby di110_14) rfl rfl ?_
    show Steps p.tables e below (T7.setTop (mkF m 15 #[.val (.ref o0), .val (.ref o1), .val (.ref o2), .val (.int p3), .val (.int p4), .val .null] [(.ref o0)])) _
    refine XS.iloadN X7.here hx rfl (hb hby di110_15) rfl ?_
    show Steps p.tables e below (T7.setTop (mkF m 16 #[.val (.ref o0), .val (.ref o1), .val (.ref o2), .val (.int p3), .val (.int p4), .val .null] [(.int p3), (.ref o0)])) _
    exact k)
  obtain ⟨T9, h9, X9, e9, W9, st9⟩ := putFN X7 hx hZ hown (hw _ (List.mem_of_getElem? (i := 60) rfl)) Via.refl e7 F_o0_required__7 E_o0__7 (Or.inr ⟨(hw _ (List.mem_of_getElem? (i := 61) rfl)), rfl, hnm⟩) (hw _ (List.mem_of_getElem? (i := 45) rfl)) (ty := .boolean) (v' := (.int (nar .boolean p3))) (by decide) rfl (fits_nar_bool p3) (g := (mkF m 16 #[.val (.ref o0), .val (.ref o1), .val (.ref o2), .val (.int p3), .val (.int p4), .val .null] [(.int p3), (.ref o0)])) rfl rfl (hb hby di110_16)
  have F_o0_required__9 := F_o0_required__7.same W9
  have E_o0__9 := E_o0__7.wr W9
  have F_o0_name__9 := F_o0_name__7.other W9 (Or.inr (slot_ne (Or.inr (hw _ (List.mem_of_getElem? (i := 57) rfl))) (Or.inr (hw _ (List.mem_of_getElem? (i := 61) rfl))) (by decide) (t := (.object "java/lang/String")) (t' := .boolean) (by decide) (by decide)))
  have F_o0_kind__9 := F_o0_kind__7.other W9 (Or.inr (slot_ne (Or.inr (hw _ (List.mem_of_getElem? (i := 59) rfl))) (Or.inr (hw _ (List.mem_of_getElem? (i := 61) rfl))) (by decide) (t := (.object "biaxial/cli/Forms$Kind")) (t' := .boolean) (by decide) (by decide)))
  have F_o0_repeated__9 := F_o0_repeated__7.other W9 (Or.inr (slot_ne (Or.inr (hw _ (List.mem_of_getElem? (i := 63) rfl))) (Or.inr (hw _ (List.mem_of_getElem? (i := 61) rfl))) (by decide) (t := .boolean) (t' := .boolean) (by decide) (by decide)))
  have F_o0_flag__9 := F_o0_flag__7.other W9 (Or.inr (slot_ne (Or.inr (hw _ (List.mem_of_getElem? (i := 65) rfl))) (Or.inr (hw _ (List.mem_of_getElem? (i := 61) rfl))) (by decide) (t := (.object "java/lang/String")) (t' := .boolean) (by decide) (by decide)))
  have N9 := Fr.snoc X9 N7 g_o0
  have Zs9 : n0 ≤ h9.size := Nat.le_trans Zs7 (Nat.le_of_eq W9.size.symm)
  have Kc9 : Keep h0 h9 [o0] := Kc7.wr W9 (Or.inl (List.mem_of_getElem? (i := 0) rfl))
  have K9 : ∀ t, Steps p.tables e below (T9.setTop (mkF m 19 #[.val (.ref o0), .val (.ref o1), .val (.ref o2), .val (.int p3), .val (.int p4), .val .null] [])) t → Steps p.tables e below S0 t := fun t k => K8 t (st9 t k)
  have K10 : ∀ t, Steps p.tables e below (T9.setTop (mkF m 22 #[.val (.ref o0), .val (.ref o1), .val (.ref o2), .val (.int p3), .val (.int p4), .val .null] [(.int p4), (.ref o0)])) t → Steps p.tables e below S0 t := fun t k => K9 t (by
    refine XS.aloadN X9.here hx rfl (hb hby di110_19) rfl rfl ?_
    show Steps p.tables e below (T9.setTop (mkF m 20 #[.val (.ref o0), .val (.ref o1), .val (.ref o2), .val (.int p3), .val (.int p4), .val .null] [(.ref o0)])) _
    refine XS.iload X9.here hx rfl (hb hby di110_20) rfl ?_
    show Steps p.tables e below (T9.setTop (mkF m 22 #[.val (.ref o0), .val (.ref o1), .val (.ref o2), .val (.int p3), .val (.int p4), .val .null] [(.int p4), (.ref o0)])) _
    exact k)
  obtain ⟨T11, h11, X11, e11, W11, st11⟩ := putFN X9 hx hZ hown (hw _ (List.mem_of_getElem? (i := 62) rfl)) Via.refl e9 F_o0_repeated__9 E_o0__9 (Or.inr ⟨(hw _ (List.mem_of_getElem? (i := 63) rfl)), rfl, hnm⟩) (hw _ (List.mem_of_getElem? (i := 45) rfl)) (ty := .boolean) (v' := (.int (nar .boolean p4))) (by decide) rfl (fits_nar_bool p4) (g := (mkF m 22 #[.val (.ref o0), .val (.ref o1), .val (.ref o2), .val (.int p3), .val (.int p4), .val .null] [(.int p4), (.ref o0)])) rfl rfl (hb hby di110_22)
  have F_o0_repeated__11 := F_o0_repeated__9.same W11
  have E_o0__11 := E_o0__9.wr W11
  have F_o0_name__11 := F_o0_name__9.other W11 (Or.inr (slot_ne (Or.inr (hw _ (List.mem_of_getElem? (i := 57) rfl))) (Or.inr (hw _ (List.mem_of_getElem? (i := 63) rfl))) (by decide) (t := (.object "java/lang/String")) (t' := .boolean) (by decide) (by decide)))
  have F_o0_kind__11 := F_o0_kind__9.other W11 (Or.inr (slot_ne (Or.inr (hw _ (List.mem_of_getElem? (i := 59) rfl))) (Or.inr (hw _ (List.mem_of_getElem? (i := 63) rfl))) (by decide) (t := (.object "biaxial/cli/Forms$Kind")) (t' := .boolean) (by decide) (by decide)))
  have F_o0_required__11 := F_o0_required__9.other W11 (Or.inr (slot_ne (Or.inr (hw _ (List.mem_of_getElem? (i := 61) rfl))) (Or.inr (hw _ (List.mem_of_getElem? (i := 63) rfl))) (by decide) (t := .boolean) (t' := .boolean) (by decide) (by decide)))
  have F_o0_flag__11 := F_o0_flag__9.other W11 (Or.inr (slot_ne (Or.inr (hw _ (List.mem_of_getElem? (i := 65) rfl))) (Or.inr (hw _ (List.mem_of_getElem? (i := 63) rfl))) (by decide) (t := (.object "java/lang/String")) (t' := .boolean) (by decide) (by decide)))
  have N11 := Fr.snoc X11 N9 g_o0
  have Zs11 : n0 ≤ h11.size := Nat.le_trans Zs9 (Nat.le_of_eq W11.size.symm)
  have Kc11 : Keep h0 h11 [o0] := Kc9.wr W11 (Or.inl (List.mem_of_getElem? (i := 0) rfl))
  have K11 : ∀ t, Steps p.tables e below (T11.setTop (mkF m 25 #[.val (.ref o0), .val (.ref o1), .val (.ref o2), .val (.int p3), .val (.int p4), .val .null] [])) t → Steps p.tables e below S0 t := fun t k => K10 t (st11 t k)
  have K12 : ∀ t, Steps p.tables e below (T11.setTop (mkF m 28 #[.val (.ref o0), .val (.ref o1), .val (.ref o2), .val (.int p3), .val (.int p4), .val .null] [.null, (.ref o0)])) t → Steps p.tables e below S0 t := fun t k => K11 t (by
    refine XS.aloadN X11.here hx rfl (hb hby di110_25) rfl rfl ?_
    show Steps p.tables e below (T11.setTop (mkF m 26 #[.val (.ref o0), .val (.ref o1), .val (.ref o2), .val (.int p3), .val (.int p4), .val .null] [(.ref o0)])) _
    refine XS.aload X11.here hx rfl (hb hby di110_26) rfl rfl ?_
    show Steps p.tables e below (T11.setTop (mkF m 28 #[.val (.ref o0), .val (.ref o1), .val (.ref o2), .val (.int p3), .val (.int p4), .val .null] [.null, (.ref o0)])) _
    exact k)
  obtain ⟨T13, h13, X13, e13, W13, st13⟩ := putF X11 hx hZ hown (host := "") (Or.inl (hw _ (List.mem_of_getElem? (i := 64) rfl))) Via.refl e11 F_o0_flag__11 E_o0__11 (Or.inr ⟨(hw _ (List.mem_of_getElem? (i := 65) rfl)), rfl, hnm⟩) (hw _ (List.mem_of_getElem? (i := 45) rfl)) (ty := (.object "java/lang/String")) (by decide) rfl rfl (g := (mkF m 28 #[.val (.ref o0), .val (.ref o1), .val (.ref o2), .val (.int p3), .val (.int p4), .val .null] [.null, (.ref o0)])) rfl rfl (hb hby di110_28)
  have F_o0_flag__13 := F_o0_flag__11.same W13
  have E_o0__13 := E_o0__11.wr W13
  have F_o0_name__13 := F_o0_name__11.other W13 (Or.inr (slot_ne (Or.inr (hw _ (List.mem_of_getElem? (i := 57) rfl))) (Or.inr (hw _ (List.mem_of_getElem? (i := 65) rfl))) (by decide) (t := (.object "java/lang/String")) (t' := (.object "java/lang/String")) (by decide) (by decide)))
  have F_o0_kind__13 := F_o0_kind__11.other W13 (Or.inr (slot_ne (Or.inr (hw _ (List.mem_of_getElem? (i := 59) rfl))) (Or.inr (hw _ (List.mem_of_getElem? (i := 65) rfl))) (by decide) (t := (.object "biaxial/cli/Forms$Kind")) (t' := (.object "java/lang/String")) (by decide) (by decide)))
  have F_o0_required__13 := F_o0_required__11.other W13 (Or.inr (slot_ne (Or.inr (hw _ (List.mem_of_getElem? (i := 61) rfl))) (Or.inr (hw _ (List.mem_of_getElem? (i := 65) rfl))) (by decide) (t := .boolean) (t' := (.object "java/lang/String")) (by decide) (by decide)))
  have F_o0_repeated__13 := F_o0_repeated__11.other W13 (Or.inr (slot_ne (Or.inr (hw _ (List.mem_of_getElem? (i := 63) rfl))) (Or.inr (hw _ (List.mem_of_getElem? (i := 65) rfl))) (by decide) (t := .boolean) (t' := (.object "java/lang/String")) (by decide) (by decide)))
  have N13 := Fr.snoc X13 N11 g_o0
  have Zs13 : n0 ≤ h13.size := Nat.le_trans Zs11 (Nat.le_of_eq W13.size.symm)
  have Kc13 : Keep h0 h13 [o0] := Kc11.wr W13 (Or.inl (List.mem_of_getElem? (i := 0) rfl))
  have K13 : ∀ t, Steps p.tables e below (T13.setTop (mkF m 31 #[.val (.ref o0), .val (.ref o1), .val (.ref o2), .val (.int p3), .val (.int p4), .val .null] [])) t → Steps p.tables e below S0 t := fun t k => K12 t (st13 t k)
  obtain ⟨fs, hr, hrun, hended, hW, hsame⟩ := X13.leave (v := none) (fun _ => rfl) hlk
  refine ⟨_, _, ?_, hrun, hended, _, _, rfl, ?_, ⟨_, rfl⟩, hW, hsame.mono (by decide) (by decide)⟩
  · rw [← hS0]; exact K13 _ (X13.returnOut hx Bd.returns (hb hby di110_31) hr)
  · show Qi110 Z o0 o1 o2 p3 p4 h0 n0 _ T13.heap _
    rw [e13]
    exact ⟨rfl, N13, Kc13, E_o0__13, F_o0_name__13, F_o0_kind__13, F_o0_required__13, F_o0_repeated__13, F_o0_flag__13⟩
theorem di011_0 : decode prog_84_method_1_code 0 = .ok (.aload_n 0, 1) := by decide +kernel
theorem di011_1 : decode prog_84_method_1_code 1 = .ok (.invokespecial 1, 3) := by decide +kernel
theorem di011_4 : decode prog_84_method_1_code 4 = .ok (.aload_n 0, 1) := by decide +kernel
theorem di011_5 : decode prog_84_method_1_code 5 = .ok (.aload_n 1, 1) := by decide +kernel
theorem di011_6 : decode prog_84_method_1_code 6 = .ok (.putfield 7, 3) := by decide +kernel
theorem di011_9 : decode prog_84_method_1_code 9 = .ok (.aload_n 0, 1) := by decide +kernel
theorem di011_10 : decode prog_84_method_1_code 10 = .ok (.aload_n 2, 1) := by decide +kernel
theorem di011_11 : decode prog_84_method_1_code 11 = .ok (.putfield 13, 3) := by decide +kernel
theorem di011_14 : decode prog_84_method_1_code 14 = .ok (.aload_n 0, 1) := by decide +kernel
theorem di011_15 : decode prog_84_method_1_code 15 = .ok (.iload_n 3, 1) := by decide +kernel
theorem di011_16 : decode prog_84_method_1_code 16 = .ok (.putfield 17, 3) := by decide +kernel
theorem di011_19 : decode prog_84_method_1_code 19 = .ok (.aload_n 0, 1) := by decide +kernel
theorem di011_20 : decode prog_84_method_1_code 20 = .ok (.iload 4, 2) := by decide +kernel
theorem di011_22 : decode prog_84_method_1_code 22 = .ok (.putfield 21, 3) := by decide +kernel
theorem di011_25 : decode prog_84_method_1_code 25 = .ok (.aload_n 0, 1) := by decide +kernel
theorem di011_26 : decode prog_84_method_1_code 26 = .ok (.aload 5, 2) := by decide +kernel
theorem di011_28 : decode prog_84_method_1_code 28 = .ok (.putfield 24, 3) := by decide +kernel
theorem di011_31 : decode prog_84_method_1_code 31 = .ok (.return_, 1) := by decide +kernel
theorem pni011 : plainName "biaxial/cli/Forms$Operand" = true := by first | (simp [plainName, overriddenIn]; done) | decide +kernel
theorem pdi011_0 : parseMethodDescriptor "()V" = some ⟨[], none⟩ := by decide +kernel
theorem efi011 (m : MethodId) (o0 : Addr) (o2 : Addr) (p3 : Int32) (p4 : Int32) (o5 : Addr) : entryFrame m #[(.ref o0), .null, (.ref o2), (.int p3), (.int p4), (.ref o5)] 6 = mkF m 0 #[.val (.ref o0), .val .null, .val (.ref o2), .val (.int p3), .val (.int p4), .val (.ref o5)] [] := by first | (simp [entryFrame, mkF, argsToLocals, Value.category]; done) | rfl
def Qi011 (Z : State) (o0 : Addr) (o2 : Addr) (p3 : Int32) (p4 : Int32) (o5 : Addr) (h0 : Heap) (n0 : Nat) (v : Option Value) (h : Heap) (L : List Loc) : Prop := v = none ∧ Fr n0 L ∧ Keep h0 h [o0] ∧ Exa Z h o0 "biaxial/cli/Forms$Operand" ∧ Fld Z h o0 "biaxial/cli/Forms$Operand" "name" "Ljava/lang/String;" .null ∧ Fld Z h o0 "biaxial/cli/Forms$Operand" "kind" "Lbiaxial/cli/Forms$Kind;" (.ref o2) ∧ Fld Z h o0 "biaxial/cli/Forms$Operand" "required" "Z" (.int (nar .boolean p3)) ∧ Fld Z h o0 "biaxial/cli/Forms$Operand" "repeated" "Z" (.int (nar .boolean p4)) ∧ Fld Z h o0 "biaxial/cli/Forms$Operand" "flag" "Ljava/lang/String;" (.ref o5)
set_option maxRecDepth 65536 in
set_option maxHeartbeats 40000000 in
theorem rmi011 (l : Launch) (Z : State) (a0 : Array Value) (hw : ∀ d ∈ tables_1, d.before a0 Z = true) (ws : List Jvm.Cond) (o0 : Addr) (o2 : Addr) (p3 : Int32) (p4 : Int32) (o5 : Addr) (h0 : Heap) (n0 : Nat) (Z0 : n0 ≤ h0.size) (E_o0 : Exa Z h0 o0 "biaxial/cli/Forms$Operand") (F_o0_name : Fld Z h0 o0 "biaxial/cli/Forms$Operand" "name" "Ljava/lang/String;" .null) (F_o0_kind : Fld Z h0 o0 "biaxial/cli/Forms$Operand" "kind" "Lbiaxial/cli/Forms$Kind;" .null) (F_o0_required : Fld Z h0 o0 "biaxial/cli/Forms$Operand" "required" "Z" (.int (0 : Int32))) (F_o0_repeated : Fld Z h0 o0 "biaxial/cli/Forms$Operand" "repeated" "Z" (.int (0 : Int32))) (F_o0_flag : Fld Z h0 o0 "biaxial/cli/Forms$Operand" "flag" "Ljava/lang/String;" .null) (g_o0 : n0 ≤ o0) :
    MetFree l (⟨"biaxial/cli/Forms$Operand", "<init>", "(Ljava/lang/String;Lbiaxial/cli/Forms$Kind;ZZLjava/lang/String;)V"⟩ : MethodName) (head1 (Jvm.Cond.code (⟨"biaxial/cli/Forms$Operand", "<init>", "(Ljava/lang/String;Lbiaxial/cli/Forms$Kind;ZZLjava/lang/String;)V"⟩ : MethodName) prog_84_method_1_code 6 none :: ws) ({ frames := 2, cells := 0, slots := 0, locals := 24 } : Room)) (fun a U => a = #[(.ref o0), .null, (.ref o2), (.int p3), (.int p4), (.ref o5)] ∧ Z.Warmed39 U.vm ∧ U.heap = h0) (fun _ _ _ _ _ => True) (fun _ U o U' => ∃ v L, o = .returned v ∧ Qi011 Z o0 o2 p3 p4 o5 h0 n0 v U'.heap L ∧ FrameEnd U o U' L ({ frames := 2, cells := 0, slots := 0, locals := 24 } : Room).cells ({ frames := 2, cells := 0, slots := 0, locals := 24 } : Room).slots) := by
  refine MetFree.of_bodySF (plainFor_of_name pni011) hisR ?_
  intro p e s m args below meth c s₁ Bd hml0 hP hK
  obtain ⟨rfl, hZ, hh⟩ := hP
  have hlk : meth.locks = false := BodyLoose.notSynchronized Bd
  have hx := Bd.exec
  have hby := Bd.bytes
  have hml : c.maxLocals = 6 := hml0
  have hown : s.vm.findClass "biaxial/cli/Forms$Operand" = some m.cls := findClass_of_methodNamed Bd.named
  have hnm := (name_of_methodNamed Bd.named Bd.method).1
  have X0 : Stand p l e ({ frames := 2, cells := 0, slots := 0, locals := 24 } : Room) s m #[(.ref o0), .null, (.ref o2), (.int p3), (.int p4), (.ref o5)] below meth c s₁ [] 0 0 := Stand.of_body Bd
  have e0 : s₁.heap = h0 := by rw [← hh, Bd.state]; rfl
  have N0 := Fr.nil n0
  obtain ⟨S0, hS0⟩ : ∃ S0, S0 = s₁.setTop (entryFrame m #[(.ref o0), .null, (.ref o2), (.int p3), (.int p4), (.ref o5)] 6) := ⟨_, rfl⟩
  have pre0 : ∀ t, Steps p.tables e below (s₁.setTop (mkF m 0 #[.val (.ref o0), .val .null, .val (.ref o2), .val (.int p3), .val (.int p4), .val (.ref o5)] [])) t → Steps p.tables e below S0 t := fun t k => by rw [hS0]; exact castTop (efi011 m o0 o2 p3 p4 o5) k
  have K1 : ∀ t, Steps p.tables e below (s₁.setTop (mkF m 1 #[.val (.ref o0), .val .null, .val (.ref o2), .val (.int p3), .val (.int p4), .val (.ref o5)] [(.ref o0)])) t → Steps p.tables e below S0 t := fun t k => pre0 t (by
    refine XS.aloadN X0.here hx rfl (hb hby di011_0) rfl rfl ?_
    show Steps p.tables e below (s₁.setTop (mkF m 1 #[.val (.ref o0), .val .null, .val (.ref o2), .val (.int p3), .val (.int p4), .val (.ref o5)] [(.ref o0)])) _
    exact k)
  have K_2 : ∀ t, Steps p.tables e below (s₁.setTop (mkF m 1 #[.val (.ref o0), .val .null, .val (.ref o2), .val (.int p3), .val (.int p4), .val (.ref o5)] [(.ref o0)])) t → Steps p.tables e below S0 t := K1
  obtain ⟨_, _, ⟨T3, L3, k3, n3⟩, -, X3, ⟨Lc3, hQ3, l3, y3, z3⟩, st3⟩ := X0.specialBack hx (y := (⟨"java/lang/Record", "<init>", "()V"⟩ : MethodName)) rfl hown (mvT hZ (hw _ (List.mem_of_getElem? (i := 50) rfl))) (mvT hZ (hw _ (List.mem_of_getElem? (i := 51) rfl))) (mvT hZ (hw _ (List.mem_of_getElem? (i := 54) rfl))) (by decide) (backOf (W := 0) (rm5 l Z a0 hw [] o0 h0 n0 Z0 ) hZ (hw _ (List.mem_of_getElem? (i := 54) rfl)) (hw _ (List.mem_of_getElem? (i := 53) rfl)) (by decide) (by decide)) (g := (mkF m 1 #[.val (.ref o0), .val .null, .val (.ref o2), .val (.int p3), .val (.int p4), .val (.ref o5)] [(.ref o0)])) rfl (by rw [hml]; rfl) (Steps.refl _) (a := o0) (argsL := []) (rest := []) (lenOf pdi011_0 rfl) rfl (by show 2 * 0 + _ ≤ _; exact Nat.le_of_eq rfl) (hb hby di011_1) (fun _ _ => ⟨rfl, e0, (by decide : 0 + 0 ≤ 0), (by decide : 0 + 0 ≤ 0)⟩)
  dsimp only [Pt.U, Pt.locs, Pt.cells, Pt.slots] at X3 l3 y3 z3 st3 hQ3
  subst l3 y3 z3
  obtain ⟨rfl, N3q, e3⟩ := hQ3
  have N3 := Fr.app N0 N3q
  have K3 : ∀ t, Steps p.tables e below (T3.setTop (mkF m 4 #[.val (.ref o0), .val .null, .val (.ref o2), .val (.int p3), .val (.int p4), .val (.ref o5)] [])) t → Steps p.tables e below S0 t := fun t k => K_2 t (st3.trans k)
  have K4 : ∀ t, Steps p.tables e below (T3.setTop (mkF m 6 #[.val (.ref o0), .val .null, .val (.ref o2), .val (.int p3), .val (.int p4), .val (.ref o5)] [.null, (.ref o0)])) t → Steps p.tables e below S0 t := fun t k => K3 t (by
    refine XS.aloadN X3.here hx rfl (hb hby di011_4) rfl rfl ?_
    show Steps p.tables e below (T3.setTop (mkF m 5 #[.val (.ref o0), .val .null, .val (.ref o2), .val (.int p3), .val (.int p4), .val (.ref o5)] [(.ref o0)])) _
    refine XS.aloadN X3.here hx rfl (hb hby di011_5) rfl rfl ?_
    show Steps p.tables e below (T3.setTop (mkF m 6 #[.val (.ref o0), .val .null, .val (.ref o2), .val (.int p3), .val (.int p4), .val (.ref o5)] [.null, (.ref o0)])) _
    exact k)
  obtain ⟨T5, h5, X5, e5, W5, st5⟩ := putF X3 hx hZ hown (host := "") (Or.inl (hw _ (List.mem_of_getElem? (i := 56) rfl))) Via.refl e3 F_o0_name E_o0 (Or.inr ⟨(hw _ (List.mem_of_getElem? (i := 57) rfl)), rfl, hnm⟩) (hw _ (List.mem_of_getElem? (i := 45) rfl)) (ty := (.object "java/lang/String")) (by decide) rfl rfl (g := (mkF m 6 #[.val (.ref o0), .val .null, .val (.ref o2), .val (.int p3), .val (.int p4), .val (.ref o5)] [.null, (.ref o0)])) rfl rfl (hb hby di011_6)
  have F_o0_name__5 := F_o0_name.same W5
  have E_o0__5 := E_o0.wr W5
  have F_o0_kind__5 := F_o0_kind.other W5 (Or.inr (slot_ne (Or.inr (hw _ (List.mem_of_getElem? (i := 59) rfl))) (Or.inr (hw _ (List.mem_of_getElem? (i := 57) rfl))) (by decide) (t := (.object "biaxial/cli/Forms$Kind")) (t' := (.object "java/lang/String")) (by decide) (by decide)))
  have F_o0_required__5 := F_o0_required.other W5 (Or.inr (slot_ne (Or.inr (hw _ (List.mem_of_getElem? (i := 61) rfl))) (Or.inr (hw _ (List.mem_of_getElem? (i := 57) rfl))) (by decide) (t := .boolean) (t' := (.object "java/lang/String")) (by decide) (by decide)))
  have F_o0_repeated__5 := F_o0_repeated.other W5 (Or.inr (slot_ne (Or.inr (hw _ (List.mem_of_getElem? (i := 63) rfl))) (Or.inr (hw _ (List.mem_of_getElem? (i := 57) rfl))) (by decide) (t := .boolean) (t' := (.object "java/lang/String")) (by decide) (by decide)))
  have F_o0_flag__5 := F_o0_flag.other W5 (Or.inr (slot_ne (Or.inr (hw _ (List.mem_of_getElem? (i := 65) rfl))) (Or.inr (hw _ (List.mem_of_getElem? (i := 57) rfl))) (by decide) (t := (.object "java/lang/String")) (t' := (.object "java/lang/String")) (by decide) (by decide)))
  have N5 := Fr.snoc X5 N3 g_o0
  have Zs5 : n0 ≤ h5.size := Nat.le_trans Z0 (Nat.le_of_eq W5.size.symm)
  have Kc5 : Keep h0 h5 [o0] := (Keep.refl h0 [o0]).wr W5 (Or.inl (List.mem_of_getElem? (i := 0) rfl))
  have K5 : ∀ t, Steps p.tables e below (T5.setTop (mkF m 9 #[.val (.ref o0), .val .null, .val (.ref o2), .val (.int p3), .val (.int p4), .val (.ref o5)] [])) t → Steps p.tables e below S0 t := fun t k => K4 t (st5 t k)
  have K6 : ∀ t, Steps p.tables e below (T5.setTop (mkF m 11 #[.val (.ref o0), .val .null, .val (.ref o2), .val (.int p3), .val (.int p4), .val (.ref o5)] [(.ref o2), (.ref o0)])) t → Steps p.tables e below S0 t := fun t k => K5 t (by
    refine XS.aloadN X5.here hx rfl (hb hby di011_9) rfl rfl ?_
    show Steps p.tables e below (T5.setTop (mkF m 10 #[.val (.ref o0), .val .null, .val (.ref o2), .val (.int p3), .val (.int p4), .val (.ref o5)] [(.ref o0)])) _
    refine XS.aloadN X5.here hx rfl (hb hby di011_10) rfl rfl ?_
    show Steps p.tables e below (T5.setTop (mkF m 11 #[.val (.ref o0), .val .null, .val (.ref o2), .val (.int p3), .val (.int p4), .val (.ref o5)] [(.ref o2), (.ref o0)])) _
    exact k)
  obtain ⟨T7, h7, X7, e7, W7, st7⟩ := putF X5 hx hZ hown (host := "") (Or.inl (hw _ (List.mem_of_getElem? (i := 58) rfl))) Via.refl e5 F_o0_kind__5 E_o0__5 (Or.inr ⟨(hw _ (List.mem_of_getElem? (i := 59) rfl)), rfl, hnm⟩) (hw _ (List.mem_of_getElem? (i := 45) rfl)) (ty := (.object "biaxial/cli/Forms$Kind")) (by decide) rfl rfl (g := (mkF m 11 #[.val (.ref o0), .val .null, .val (.ref o2), .val (.int p3), .val (.int p4), .val (.ref o5)] [(.ref o2), (.ref o0)])) rfl rfl (hb hby di011_11)
  have F_o0_kind__7 := F_o0_kind__5.same W7
  have E_o0__7 := E_o0__5.wr W7
  have F_o0_name__7 := F_o0_name__5.other W7 (Or.inr (slot_ne (Or.inr (hw _ (List.mem_of_getElem? (i := 57) rfl))) (Or.inr (hw _ (List.mem_of_getElem? (i := 59) rfl))) (by decide) (t := (.object "java/lang/String")) (t' := (.object "biaxial/cli/Forms$Kind")) (by decide) (by decide)))
  have F_o0_required__7 := F_o0_required__5.other W7 (Or.inr (slot_ne (Or.inr (hw _ (List.mem_of_getElem? (i := 61) rfl))) (Or.inr (hw _ (List.mem_of_getElem? (i := 59) rfl))) (by decide) (t := .boolean) (t' := (.object "biaxial/cli/Forms$Kind")) (by decide) (by decide)))
  have F_o0_repeated__7 := F_o0_repeated__5.other W7 (Or.inr (slot_ne (Or.inr (hw _ (List.mem_of_getElem? (i := 63) rfl))) (Or.inr (hw _ (List.mem_of_getElem? (i := 59) rfl))) (by decide) (t := .boolean) (t' := (.object "biaxial/cli/Forms$Kind")) (by decide) (by decide)))
  have F_o0_flag__7 := F_o0_flag__5.other W7 (Or.inr (slot_ne (Or.inr (hw _ (List.mem_of_getElem? (i := 65) rfl))) (Or.inr (hw _ (List.mem_of_getElem? (i := 59) rfl))) (by decide) (t := (.object "java/lang/String")) (t' := (.object "biaxial/cli/Forms$Kind")) (by decide) (by decide)))
  have N7 := Fr.snoc X7 N5 g_o0
  have Zs7 : n0 ≤ h7.size := Nat.le_trans Zs5 (Nat.le_of_eq W7.size.symm)
  have Kc7 : Keep h0 h7 [o0] := Kc5.wr W7 (Or.inl (List.mem_of_getElem? (i := 0) rfl))
  have K7 : ∀ t, Steps p.tables e below (T7.setTop (mkF m 14 #[.val (.ref o0), .val .null, .val (.ref o2), .val (.int p3), .val (.int p4), .val (.ref o5)] [])) t → Steps p.tables e below S0 t := fun t k => K6 t (st7 t k)
  have K8 : ∀ t, Steps p.tables e below (T7.setTop (mkF m 16 #[.val (.ref o0), .val .null, .val (.ref o2), .val (.int p3), .val (.int p4), .val (.ref o5)] [(.int p3), (.ref o0)])) t → Steps p.tables e below S0 t := fun t k => K7 t (by
    refine XS.aloadN X7.here hx rfl (hb hby di011_14) rfl rfl ?_
    show Steps p.tables e below (T7.setTop (mkF m 15 #[.val (.ref o0), .val .null, .val (.ref o2), .val (.int p3), .val (.int p4), .val (.ref o5)] [(.ref o0)])) _
    refine XS.iloadN X7.here hx rfl (hb hby di011_15) rfl ?_
    show Steps p.tables e below (T7.setTop (mkF m 16 #[.val (.ref o0), .val .null, .val (.ref o2), .val (.int p3), .val (.int p4), .val (.ref o5)] [(.int p3), (.ref o0)])) _
    exact k)
  obtain ⟨T9, h9, X9, e9, W9, st9⟩ := putFN X7 hx hZ hown (hw _ (List.mem_of_getElem? (i := 60) rfl)) Via.refl e7 F_o0_required__7 E_o0__7 (Or.inr ⟨(hw _ (List.mem_of_getElem? (i := 61) rfl)), rfl, hnm⟩) (hw _ (List.mem_of_getElem? (i := 45) rfl)) (ty := .boolean) (v' := (.int (nar .boolean p3))) (by decide) rfl (fits_nar_bool p3) (g := (mkF m 16 #[.val (.ref o0), .val .null, .val (.ref o2), .val (.int p3), .val (.int p4), .val (.ref o5)] [(.int p3), (.ref o0)])) rfl rfl (hb hby di011_16)
  have F_o0_required__9 := F_o0_required__7.same W9
  have E_o0__9 := E_o0__7.wr W9
  have F_o0_name__9 := F_o0_name__7.other W9 (Or.inr (slot_ne (Or.inr (hw _ (List.mem_of_getElem? (i := 57) rfl))) (Or.inr (hw _ (List.mem_of_getElem? (i := 61) rfl))) (by decide) (t := (.object "java/lang/String")) (t' := .boolean) (by decide) (by decide)))
  have F_o0_kind__9 := F_o0_kind__7.other W9 (Or.inr (slot_ne (Or.inr (hw _ (List.mem_of_getElem? (i := 59) rfl))) (Or.inr (hw _ (List.mem_of_getElem? (i := 61) rfl))) (by decide) (t := (.object "biaxial/cli/Forms$Kind")) (t' := .boolean) (by decide) (by decide)))
  have F_o0_repeated__9 := F_o0_repeated__7.other W9 (Or.inr (slot_ne (Or.inr (hw _ (List.mem_of_getElem? (i := 63) rfl))) (Or.inr (hw _ (List.mem_of_getElem? (i := 61) rfl))) (by decide) (t := .boolean) (t' := .boolean) (by decide) (by decide)))
  have F_o0_flag__9 := F_o0_flag__7.other W9 (Or.inr (slot_ne (Or.inr (hw _ (List.mem_of_getElem? (i := 65) rfl))) (Or.inr (hw _ (List.mem_of_getElem? (i := 61) rfl))) (by decide) (t := (.object "java/lang/String")) (t' := .boolean) (by decide) (by decide)))
  have N9 := Fr.snoc X9 N7 g_o0
  have Zs9 : n0 ≤ h9.size := Nat.le_trans Zs7 (Nat.le_of_eq W9.size.symm)
  have Kc9 : Keep h0 h9 [o0] := Kc7.wr W9 (Or.inl (List.mem_of_getElem? (i := 0) rfl))
  have K9 : ∀ t, Steps p.tables e below (T9.setTop (mkF m 19 #[.val (.ref o0), .val .null, .val (.ref o2), .val (.int p3), .val (.int p4), .val (.ref o5)] [])) t → Steps p.tables e below S0 t := fun t k => K8 t (st9 t k)
  have K10 : ∀ t, Steps p.tables e below (T9.setTop (mkF m 22 #[.val (.ref o0), .val .null, .val (.ref o2), .val (.int p3), .val (.int p4), .val (.ref o5)] [(.int p4), (.ref o0)])) t → Steps p.tables e below S0 t := fun t k => K9 t (by
    refine XS.aloadN X9.here hx rfl (hb hby di011_19) rfl rfl ?_
    show Steps p.tables e below (T9.setTop (mkF m 20 #[.val (.ref o0), .val .null, .val (.ref o2), .val (.int p3), .val (.int p4), .val (.ref o5)] [(.ref o0)])) _
    refine XS.iload X9.here hx rfl (hb hby di011_20) rfl ?_
    show Steps p.tables e below (T9.setTop (mkF m 22 #[.val (.ref o0), .val .null, .val (.ref o2), .val (.int p3), .val (.int p4), .val (.ref o5)] [(.int p4), (.ref o0)])) _
    exact k)
  obtain ⟨T11, h11, X11, e11, W11, st11⟩ := putFN X9 hx hZ hown (hw _ (List.mem_of_getElem? (i := 62) rfl)) Via.refl e9 F_o0_repeated__9 E_o0__9 (Or.inr ⟨(hw _ (List.mem_of_getElem? (i := 63) rfl)), rfl, hnm⟩) (hw _ (List.mem_of_getElem? (i := 45) rfl)) (ty := .boolean) (v' := (.int (nar .boolean p4))) (by decide) rfl (fits_nar_bool p4) (g := (mkF m 22 #[.val (.ref o0), .val .null, .val (.ref o2), .val (.int p3), .val (.int p4), .val (.ref o5)] [(.int p4), (.ref o0)])) rfl rfl (hb hby di011_22)
  have F_o0_repeated__11 := F_o0_repeated__9.same W11
  have E_o0__11 := E_o0__9.wr W11
  have F_o0_name__11 := F_o0_name__9.other W11 (Or.inr (slot_ne (Or.inr (hw _ (List.mem_of_getElem? (i := 57) rfl))) (Or.inr (hw _ (List.mem_of_getElem? (i := 63) rfl))) (by decide) (t := (.object "java/lang/String")) (t' := .boolean) (by decide) (by decide)))
  have F_o0_kind__11 := F_o0_kind__9.other W11 (Or.inr (slot_ne (Or.inr (hw _ (List.mem_of_getElem? (i := 59) rfl))) (Or.inr (hw _ (List.mem_of_getElem? (i := 63) rfl))) (by decide) (t := (.object "biaxial/cli/Forms$Kind")) (t' := .boolean) (by decide) (by decide)))
  have F_o0_required__11 := F_o0_required__9.other W11 (Or.inr (slot_ne (Or.inr (hw _ (List.mem_of_getElem? (i := 61) rfl))) (Or.inr (hw _ (List.mem_of_getElem? (i := 63) rfl))) (by decide) (t := .boolean) (t' := .boolean) (by decide) (by decide)))
  have F_o0_flag__11 := F_o0_flag__9.other W11 (Or.inr (slot_ne (Or.inr (hw _ (List.mem_of_getElem? (i := 65) rfl))) (Or.inr (hw _ (List.mem_of_getElem? (i := 63) rfl))) (by decide) (t := (.object "java/lang/String")) (t' := .boolean) (by decide) (by decide)))
  have N11 := Fr.snoc X11 N9 g_o0
  have Zs11 : n0 ≤ h11.size := Nat.le_trans Zs9 (Nat.le_of_eq W11.size.symm)
  have Kc11 : Keep h0 h11 [o0] := Kc9.wr W11 (Or.inl (List.mem_of_getElem? (i := 0) rfl))
  have K11 : ∀ t, Steps p.tables e below (T11.setTop (mkF m 25 #[.val (.ref o0), .val .null, .val (.ref o2), .val (.int p3), .val (.int p4), .val (.ref o5)] [])) t → Steps p.tables e below S0 t := fun t k => K10 t (st11 t k)
  have K12 : ∀ t, Steps p.tables e below (T11.setTop (mkF m 28 #[.val (.ref o0), .val .null, .val (.ref o2), .val (.int p3), .val (.int p4), .val (.ref o5)] [(.ref o5), (.ref o0)])) t → Steps p.tables e below S0 t := fun t k => K11 t (by
    refine XS.aloadN X11.here hx rfl (hb hby di011_25) rfl rfl ?_
    show Steps p.tables e below (T11.setTop (mkF m 26 #[.val (.ref o0), .val .null, .val (.ref o2), .val (.int p3), .val (.int p4), .val (.ref o5)] [(.ref o0)])) _
    refine XS.aload X11.here hx rfl (hb hby di011_26) rfl rfl ?_
    show Steps p.tables e below (T11.setTop (mkF m 28 #[.val (.ref o0), .val .null, .val (.ref o2), .val (.int p3), .val (.int p4), .val (.ref o5)] [(.ref o5), (.ref o0)])) _
    exact k)
  obtain ⟨T13, h13, X13, e13, W13, st13⟩ := putF X11 hx hZ hown (host := "") (Or.inl (hw _ (List.mem_of_getElem? (i := 64) rfl))) Via.refl e11 F_o0_flag__11 E_o0__11 (Or.inr ⟨(hw _ (List.mem_of_getElem? (i := 65) rfl)), rfl, hnm⟩) (hw _ (List.mem_of_getElem? (i := 45) rfl)) (ty := (.object "java/lang/String")) (by decide) rfl rfl (g := (mkF m 28 #[.val (.ref o0), .val .null, .val (.ref o2), .val (.int p3), .val (.int p4), .val (.ref o5)] [(.ref o5), (.ref o0)])) rfl rfl (hb hby di011_28)
  have F_o0_flag__13 := F_o0_flag__11.same W13
  have E_o0__13 := E_o0__11.wr W13
  have F_o0_name__13 := F_o0_name__11.other W13 (Or.inr (slot_ne (Or.inr (hw _ (List.mem_of_getElem? (i := 57) rfl))) (Or.inr (hw _ (List.mem_of_getElem? (i := 65) rfl))) (by decide) (t := (.object "java/lang/String")) (t' := (.object "java/lang/String")) (by decide) (by decide)))
  have F_o0_kind__13 := F_o0_kind__11.other W13 (Or.inr (slot_ne (Or.inr (hw _ (List.mem_of_getElem? (i := 59) rfl))) (Or.inr (hw _ (List.mem_of_getElem? (i := 65) rfl))) (by decide) (t := (.object "biaxial/cli/Forms$Kind")) (t' := (.object "java/lang/String")) (by decide) (by decide)))
  have F_o0_required__13 := F_o0_required__11.other W13 (Or.inr (slot_ne (Or.inr (hw _ (List.mem_of_getElem? (i := 61) rfl))) (Or.inr (hw _ (List.mem_of_getElem? (i := 65) rfl))) (by decide) (t := .boolean) (t' := (.object "java/lang/String")) (by decide) (by decide)))
  have F_o0_repeated__13 := F_o0_repeated__11.other W13 (Or.inr (slot_ne (Or.inr (hw _ (List.mem_of_getElem? (i := 63) rfl))) (Or.inr (hw _ (List.mem_of_getElem? (i := 65) rfl))) (by decide) (t := .boolean) (t' := (.object "java/lang/String")) (by decide) (by decide)))
  have N13 := Fr.snoc X13 N11 g_o0
  have Zs13 : n0 ≤ h13.size := Nat.le_trans Zs11 (Nat.le_of_eq W13.size.symm)
  have Kc13 : Keep h0 h13 [o0] := Kc11.wr W13 (Or.inl (List.mem_of_getElem? (i := 0) rfl))
  have K13 : ∀ t, Steps p.tables e below (T13.setTop (mkF m 31 #[.val (.ref o0), .val .null, .val (.ref o2), .val (.int p3), .val (.int p4), .val (.ref o5)] [])) t → Steps p.tables e below S0 t := fun t k => K12 t (st13 t k)
  obtain ⟨fs, hr, hrun, hended, hW, hsame⟩ := X13.leave (v := none) (fun _ => rfl) hlk
  refine ⟨_, _, ?_, hrun, hended, _, _, rfl, ?_, ⟨_, rfl⟩, hW, hsame.mono (by decide) (by decide)⟩
  · rw [← hS0]; exact K13 _ (X13.returnOut hx Bd.returns (hb hby di011_31) hr)
  · show Qi011 Z o0 o2 p3 p4 o5 h0 n0 _ T13.heap _
    rw [e13]
    exact ⟨rfl, N13, Kc13, E_o0__13, F_o0_name__13, F_o0_kind__13, F_o0_required__13, F_o0_repeated__13, F_o0_flag__13⟩
theorem di111_0 : decode prog_84_method_1_code 0 = .ok (.aload_n 0, 1) := by decide +kernel
theorem di111_1 : decode prog_84_method_1_code 1 = .ok (.invokespecial 1, 3) := by decide +kernel
theorem di111_4 : decode prog_84_method_1_code 4 = .ok (.aload_n 0, 1) := by decide +kernel
theorem di111_5 : decode prog_84_method_1_code 5 = .ok (.aload_n 1, 1) := by decide +kernel
theorem di111_6 : decode prog_84_method_1_code 6 = .ok (.putfield 7, 3) := by decide +kernel
theorem di111_9 : decode prog_84_method_1_code 9 = .ok (.aload_n 0, 1) := by decide +kernel
theorem di111_10 : decode prog_84_method_1_code 10 = .ok (.aload_n 2, 1) := by decide +kernel
theorem di111_11 : decode prog_84_method_1_code 11 = .ok (.putfield 13, 3) := by decide +kernel
theorem di111_14 : decode prog_84_method_1_code 14 = .ok (.aload_n 0, 1) := by decide +kernel
theorem di111_15 : decode prog_84_method_1_code 15 = .ok (.iload_n 3, 1) := by decide +kernel
theorem di111_16 : decode prog_84_method_1_code 16 = .ok (.putfield 17, 3) := by decide +kernel
theorem di111_19 : decode prog_84_method_1_code 19 = .ok (.aload_n 0, 1) := by decide +kernel
theorem di111_20 : decode prog_84_method_1_code 20 = .ok (.iload 4, 2) := by decide +kernel
theorem di111_22 : decode prog_84_method_1_code 22 = .ok (.putfield 21, 3) := by decide +kernel
theorem di111_25 : decode prog_84_method_1_code 25 = .ok (.aload_n 0, 1) := by decide +kernel
theorem di111_26 : decode prog_84_method_1_code 26 = .ok (.aload 5, 2) := by decide +kernel
theorem di111_28 : decode prog_84_method_1_code 28 = .ok (.putfield 24, 3) := by decide +kernel
theorem di111_31 : decode prog_84_method_1_code 31 = .ok (.return_, 1) := by decide +kernel
theorem pni111 : plainName "biaxial/cli/Forms$Operand" = true := by first | (simp [plainName, overriddenIn]; done) | decide +kernel
theorem pdi111_0 : parseMethodDescriptor "()V" = some ⟨[], none⟩ := by decide +kernel
theorem efi111 (m : MethodId) (o0 : Addr) (o1 : Addr) (o2 : Addr) (p3 : Int32) (p4 : Int32) (o5 : Addr) : entryFrame m #[(.ref o0), (.ref o1), (.ref o2), (.int p3), (.int p4), (.ref o5)] 6 = mkF m 0 #[.val (.ref o0), .val (.ref o1), .val (.ref o2), .val (.int p3), .val (.int p4), .val (.ref o5)] [] := by first | (simp [entryFrame, mkF, argsToLocals, Value.category]; done) | rfl
def Qi111 (Z : State) (o0 : Addr) (o1 : Addr) (o2 : Addr) (p3 : Int32) (p4 : Int32) (o5 : Addr) (h0 : Heap) (n0 : Nat) (v : Option Value) (h : Heap) (L : List Loc) : Prop := v = none ∧ Fr n0 L ∧ Keep h0 h [o0] ∧ Exa Z h o0 "biaxial/cli/Forms$Operand" ∧ Fld Z h o0 "biaxial/cli/Forms$Operand" "name" "Ljava/lang/String;" (.ref o1) ∧ Fld Z h o0 "biaxial/cli/Forms$Operand" "kind" "Lbiaxial/cli/Forms$Kind;" (.ref o2) ∧ Fld Z h o0 "biaxial/cli/Forms$Operand" "required" "Z" (.int (nar .boolean p3)) ∧ Fld Z h o0 "biaxial/cli/Forms$Operand" "repeated" "Z" (.int (nar .boolean p4)) ∧ Fld Z h o0 "biaxial/cli/Forms$Operand" "flag" "Ljava/lang/String;" (.ref o5)
set_option maxRecDepth 65536 in
set_option maxHeartbeats 40000000 in
theorem rmi111 (l : Launch) (Z : State) (a0 : Array Value) (hw : ∀ d ∈ tables_1, d.before a0 Z = true) (ws : List Jvm.Cond) (o0 : Addr) (o1 : Addr) (o2 : Addr) (p3 : Int32) (p4 : Int32) (o5 : Addr) (h0 : Heap) (n0 : Nat) (Z0 : n0 ≤ h0.size) (E_o0 : Exa Z h0 o0 "biaxial/cli/Forms$Operand") (F_o0_name : Fld Z h0 o0 "biaxial/cli/Forms$Operand" "name" "Ljava/lang/String;" .null) (F_o0_kind : Fld Z h0 o0 "biaxial/cli/Forms$Operand" "kind" "Lbiaxial/cli/Forms$Kind;" .null) (F_o0_required : Fld Z h0 o0 "biaxial/cli/Forms$Operand" "required" "Z" (.int (0 : Int32))) (F_o0_repeated : Fld Z h0 o0 "biaxial/cli/Forms$Operand" "repeated" "Z" (.int (0 : Int32))) (F_o0_flag : Fld Z h0 o0 "biaxial/cli/Forms$Operand" "flag" "Ljava/lang/String;" .null) (g_o0 : n0 ≤ o0) :
    MetFree l (⟨"biaxial/cli/Forms$Operand", "<init>", "(Ljava/lang/String;Lbiaxial/cli/Forms$Kind;ZZLjava/lang/String;)V"⟩ : MethodName) (head1 (Jvm.Cond.code (⟨"biaxial/cli/Forms$Operand", "<init>", "(Ljava/lang/String;Lbiaxial/cli/Forms$Kind;ZZLjava/lang/String;)V"⟩ : MethodName) prog_84_method_1_code 6 none :: ws) ({ frames := 2, cells := 0, slots := 0, locals := 24 } : Room)) (fun a U => a = #[(.ref o0), (.ref o1), (.ref o2), (.int p3), (.int p4), (.ref o5)] ∧ Z.Warmed39 U.vm ∧ U.heap = h0) (fun _ _ _ _ _ => True) (fun _ U o U' => ∃ v L, o = .returned v ∧ Qi111 Z o0 o1 o2 p3 p4 o5 h0 n0 v U'.heap L ∧ FrameEnd U o U' L ({ frames := 2, cells := 0, slots := 0, locals := 24 } : Room).cells ({ frames := 2, cells := 0, slots := 0, locals := 24 } : Room).slots) := by
  refine MetFree.of_bodySF (plainFor_of_name pni111) hisR ?_
  intro p e s m args below meth c s₁ Bd hml0 hP hK
  obtain ⟨rfl, hZ, hh⟩ := hP
  have hlk : meth.locks = false := BodyLoose.notSynchronized Bd
  have hx := Bd.exec
  have hby := Bd.bytes
  have hml : c.maxLocals = 6 := hml0
  have hown : s.vm.findClass "biaxial/cli/Forms$Operand" = some m.cls := findClass_of_methodNamed Bd.named
  have hnm := (name_of_methodNamed Bd.named Bd.method).1
  have X0 : Stand p l e ({ frames := 2, cells := 0, slots := 0, locals := 24 } : Room) s m #[(.ref o0), (.ref o1), (.ref o2), (.int p3), (.int p4), (.ref o5)] below meth c s₁ [] 0 0 := Stand.of_body Bd
  have e0 : s₁.heap = h0 := by rw [← hh, Bd.state]; rfl
  have N0 := Fr.nil n0
  obtain ⟨S0, hS0⟩ : ∃ S0, S0 = s₁.setTop (entryFrame m #[(.ref o0), (.ref o1), (.ref o2), (.int p3), (.int p4), (.ref o5)] 6) := ⟨_, rfl⟩
  have pre0 : ∀ t, Steps p.tables e below (s₁.setTop (mkF m 0 #[.val (.ref o0), .val (.ref o1), .val (.ref o2), .val (.int p3), .val (.int p4), .val (.ref o5)] [])) t → Steps p.tables e below S0 t := fun t k => by rw [hS0]; exact castTop (efi111 m o0 o1 o2 p3 p4 o5) k
  have K1 : ∀ t, Steps p.tables e below (s₁.setTop (mkF m 1 #[.val (.ref o0), .val (.ref o1), .val (.ref o2), .val (.int p3), .val (.int p4), .val (.ref o5)] [(.ref o0)])) t → Steps p.tables e below S0 t := fun t k => pre0 t (by
    refine XS.aloadN X0.here hx rfl (hb hby di111_0) rfl rfl ?_
    show Steps p.tables e below (s₁.setTop (mkF m 1 #[.val (.ref o0), .val (.ref o1), .val (.ref o2), .val (.int p3), .val (.int p4), .val (.ref o5)] [(.ref o0)])) _
    exact k)
  have K_2 : ∀ t, Steps p.tables e below (s₁.setTop (mkF m 1 #[.val (.ref o0), .val (.ref o1), .val (.ref o2), .val (.int p3), .val (.int p4), .val (.ref o5)] [(.ref o0)])) t → Steps p.tables e below S0 t := K1
  obtain ⟨_, _, ⟨T3, L3, k3, n3⟩, -, X3, ⟨Lc3, hQ3, l3, y3, z3⟩, st3⟩ := X0.specialBack hx (y := (⟨"java/lang/Record", "<init>", "()V"⟩ : MethodName)) rfl hown (mvT hZ (hw _ (List.mem_of_getElem? (i := 50) rfl))) (mvT hZ (hw _ (List.mem_of_getElem? (i := 51) rfl))) (mvT hZ (hw _ (List.mem_of_getElem? (i := 54) rfl))) (by decide) (backOf (W := 0) (rm5 l Z a0 hw [] o0 h0 n0 Z0 ) hZ (hw _ (List.mem_of_getElem? (i := 54) rfl)) (hw _ (List.mem_of_getElem? (i := 53) rfl)) (by decide) (by decide)) (g := (mkF m 1 #[.val (.ref o0), .val (.ref o1), .val (.ref o2), .val (.int p3), .val (.int p4), .val (.ref o5)] [(.ref o0)])) rfl (by rw [hml]; rfl) (Steps.refl _) (a := o0) (argsL := []) (rest := []) (lenOf pdi111_0 rfl) rfl (by show 2 * 0 + _ ≤ _; exact Nat.le_of_eq rfl) (hb hby di111_1) (fun _ _ => ⟨rfl, e0, (by decide : 0 + 0 ≤ 0), (by decide : 0 + 0 ≤ 0)⟩)
  dsimp only [Pt.U, Pt.locs, Pt.cells, Pt.slots] at X3 l3 y3 z3 st3 hQ3
  subst l3 y3 z3
  obtain ⟨rfl, N3q, e3⟩ := hQ3
  have N3 := Fr.app N0 N3q
  have K3 : ∀ t, Steps p.tables e below (T3.setTop (mkF m 4 #[.val (.ref o0), .val (.ref o1), .val (.ref o2), .val (.int p3), .val (.int p4), .val (.ref o5)] [])) t → Steps p.tables e below S0 t := fun t k => K_2 t (st3.trans k)
  have K4 : ∀ t, Steps p.tables e below (T3.setTop (mkF m 6 #[.val (.ref o0), .val (.ref o1), .val (.ref o2), .val (.int p3), .val (.int p4), .val (.ref o5)] [(.ref o1), (.ref o0)])) t → Steps p.tables e below S0 t := fun t k => K3 t (by
    refine XS.aloadN X3.here hx rfl (hb hby di111_4) rfl rfl ?_
    show Steps p.tables e below (T3.setTop (mkF m 5 #[.val (.ref o0), .val (.ref o1), .val (.ref o2), .val (.int p3), .val (.int p4), .val (.ref o5)] [(.ref o0)])) _
    refine XS.aloadN X3.here hx rfl (hb hby di111_5) rfl rfl ?_
    show Steps p.tables e below (T3.setTop (mkF m 6 #[.val (.ref o0), .val (.ref o1), .val (.ref o2), .val (.int p3), .val (.int p4), .val (.ref o5)] [(.ref o1), (.ref o0)])) _
    exact k)
  obtain ⟨T5, h5, X5, e5, W5, st5⟩ := putF X3 hx hZ hown (host := "") (Or.inl (hw _ (List.mem_of_getElem? (i := 56) rfl))) Via.refl e3 F_o0_name E_o0 (Or.inr ⟨(hw _ (List.mem_of_getElem? (i := 57) rfl)), rfl, hnm⟩) (hw _ (List.mem_of_getElem? (i := 45) rfl)) (ty := (.object "java/lang/String")) (by decide) rfl rfl (g := (mkF m 6 #[.val (.ref o0), .val (.ref o1), .val (.ref o2), .val (.int p3), .val (.int p4), .val (.ref o5)] [(.ref o1), (.ref o0)])) rfl rfl (hb hby di111_6)
  have F_o0_name__5 := F_o0_name.same W5
  have E_o0__5 := E_o0.wr W5
  have F_o0_kind__5 := F_o0_kind.other W5 (Or.inr (slot_ne (Or.inr (hw _ (List.mem_of_getElem? (i := 59) rfl))) (Or.inr (hw _ (List.mem_of_getElem? (i := 57) rfl))) (by decide) (t := (.object "biaxial/cli/Forms$Kind")) (t' := (.object "java/lang/String")) (by decide) (by decide)))
  have F_o0_required__5 := F_o0_required.other W5 (Or.inr (slot_ne (Or.inr (hw _ (List.mem_of_getElem? (i := 61) rfl))) (Or.inr (hw _ (List.mem_of_getElem? (i := 57) rfl))) (by decide) (t := .boolean) (t' := (.object "java/lang/String")) (by decide) (by decide)))
  have F_o0_repeated__5 := F_o0_repeated.other W5 (Or.inr (slot_ne (Or.inr (hw _ (List.mem_of_getElem? (i := 63) rfl))) (Or.inr (hw _ (List.mem_of_getElem? (i := 57) rfl))) (by decide) (t := .boolean) (t' := (.object "java/lang/String")) (by decide) (by decide)))
  have F_o0_flag__5 := F_o0_flag.other W5 (Or.inr (slot_ne (Or.inr (hw _ (List.mem_of_getElem? (i := 65) rfl))) (Or.inr (hw _ (List.mem_of_getElem? (i := 57) rfl))) (by decide) (t := (.object "java/lang/String")) (t' := (.object "java/lang/String")) (by decide) (by decide)))
  have N5 := Fr.snoc X5 N3 g_o0
  have Zs5 : n0 ≤ h5.size := Nat.le_trans Z0 (Nat.le_of_eq W5.size.symm)
  have Kc5 : Keep h0 h5 [o0] := (Keep.refl h0 [o0]).wr W5 (Or.inl (List.mem_of_getElem? (i := 0) rfl))
  have K5 : ∀ t, Steps p.tables e below (T5.setTop (mkF m 9 #[.val (.ref o0), .val (.ref o1), .val (.ref o2), .val (.int p3), .val (.int p4), .val (.ref o5)] [])) t → Steps p.tables e below S0 t := fun t k => K4 t (st5 t k)
  have K6 : ∀ t, Steps p.tables e below (T5.setTop (mkF m 11 #[.val (.ref o0), .val (.ref o1), .val (.ref o2), .val (.int p3), .val (.int p4), .val (.ref o5)] [(.ref o2), (.ref o0)])) t → Steps p.tables e below S0 t := fun t k => K5 t (by
    refine XS.aloadN X5.here hx rfl (hb hby di111_9) rfl rfl ?_
    show Steps p.tables e below (T5.setTop (mkF m 10 #[.val (.ref o0), .val (.ref o1), .val (.ref o2), .val (.int p3), .val (.int p4), .val (.ref o5)] [(.ref o0)])) _
    refine XS.aloadN X5.here hx rfl (hb hby di111_10) rfl rfl ?_
    show Steps p.tables e below (T5.setTop (mkF m 11 #[.val (.ref o0), .val (.ref o1), .val (.ref o2), .val (.int p3), .val (.int p4), .val (.ref o5)] [(.ref o2), (.ref o0)])) _
    exact k)
  obtain ⟨T7, h7, X7, e7, W7, st7⟩ := putF X5 hx hZ hown (host := "") (Or.inl (hw _ (List.mem_of_getElem? (i := 58) rfl))) Via.refl e5 F_o0_kind__5 E_o0__5 (Or.inr ⟨(hw _ (List.mem_of_getElem? (i := 59) rfl)), rfl, hnm⟩) (hw _ (List.mem_of_getElem? (i := 45) rfl)) (ty := (.object "biaxial/cli/Forms$Kind")) (by decide) rfl rfl (g := (mkF m 11 #[.val (.ref o0), .val (.ref o1), .val (.ref o2), .val (.int p3), .val (.int p4), .val (.ref o5)] [(.ref o2), (.ref o0)])) rfl rfl (hb hby di111_11)
  have F_o0_kind__7 := F_o0_kind__5.same W7
  have E_o0__7 := E_o0__5.wr W7
  have F_o0_name__7 := F_o0_name__5.other W7 (Or.inr (slot_ne (Or.inr (hw _ (List.mem_of_getElem? (i := 57) rfl))) (Or.inr (hw _ (List.mem_of_getElem? (i := 59) rfl))) (by decide) (t := (.object "java/lang/String")) (t' := (.object "biaxial/cli/Forms$Kind")) (by decide) (by decide)))
  have F_o0_required__7 := F_o0_required__5.other W7 (Or.inr (slot_ne (Or.inr (hw _ (List.mem_of_getElem? (i := 61) rfl))) (Or.inr (hw _ (List.mem_of_getElem? (i := 59) rfl))) (by decide) (t := .boolean) (t' := (.object "biaxial/cli/Forms$Kind")) (by decide) (by decide)))
  have F_o0_repeated__7 := F_o0_repeated__5.other W7 (Or.inr (slot_ne (Or.inr (hw _ (List.mem_of_getElem? (i := 63) rfl))) (Or.inr (hw _ (List.mem_of_getElem? (i := 59) rfl))) (by decide) (t := .boolean) (t' := (.object "biaxial/cli/Forms$Kind")) (by decide) (by decide)))
  have F_o0_flag__7 := F_o0_flag__5.other W7 (Or.inr (slot_ne (Or.inr (hw _ (List.mem_of_getElem? (i := 65) rfl))) (Or.inr (hw _ (List.mem_of_getElem? (i := 59) rfl))) (by decide) (t := (.object "java/lang/String")) (t' := (.object "biaxial/cli/Forms$Kind")) (by decide) (by decide)))
  have N7 := Fr.snoc X7 N5 g_o0
  have Zs7 : n0 ≤ h7.size := Nat.le_trans Zs5 (Nat.le_of_eq W7.size.symm)
  have Kc7 : Keep h0 h7 [o0] := Kc5.wr W7 (Or.inl (List.mem_of_getElem? (i := 0) rfl))
  have K7 : ∀ t, Steps p.tables e below (T7.setTop (mkF m 14 #[.val (.ref o0), .val (.ref o1), .val (.ref o2), .val (.int p3), .val (.int p4), .val (.ref o5)] [])) t → Steps p.tables e below S0 t := fun t k => K6 t (st7 t k)
  have K8 : ∀ t, Steps p.tables e below (T7.setTop (mkF m 16 #[.val (.ref o0), .val (.ref o1), .val (.ref o2), .val (.int p3), .val (.int p4), .val (.ref o5)] [(.int p3), (.ref o0)])) t → Steps p.tables e below S0 t := fun t k => K7 t (by
    refine XS.aloadN X7.here hx rfl (hb hby di111_14) rfl rfl ?_
    show Steps p.tables e below (T7.setTop (mkF m 15 #[.val (.ref o0), .val (.ref o1), .val (.ref o2), .val (.int p3), .val (.int p4), .val (.ref o5)] [(.ref o0)])) _
    refine XS.iloadN X7.here hx rfl (hb hby di111_15) rfl ?_
    show Steps p.tables e below (T7.setTop (mkF m 16 #[.val (.ref o0), .val (.ref o1), .val (.ref o2), .val (.int p3), .val (.int p4), .val (.ref o5)] [(.int p3), (.ref o0)])) _
    exact k)
  obtain ⟨T9, h9, X9, e9, W9, st9⟩ := putFN X7 hx hZ hown (hw _ (List.mem_of_getElem? (i := 60) rfl)) Via.refl e7 F_o0_required__7 E_o0__7 (Or.inr ⟨(hw _ (List.mem_of_getElem? (i := 61) rfl)), rfl, hnm⟩) (hw _ (List.mem_of_getElem? (i := 45) rfl)) (ty := .boolean) (v' := (.int (nar .boolean p3))) (by decide) rfl (fits_nar_bool p3) (g := (mkF m 16 #[.val (.ref o0), .val (.ref o1), .val (.ref o2), .val (.int p3), .val (.int p4), .val (.ref o5)] [(.int p3), (.ref o0)])) rfl rfl (hb hby di111_16)
  have F_o0_required__9 := F_o0_required__7.same W9
  have E_o0__9 := E_o0__7.wr W9
  have F_o0_name__9 := F_o0_name__7.other W9 (Or.inr (slot_ne (Or.inr (hw _ (List.mem_of_getElem? (i := 57) rfl))) (Or.inr (hw _ (List.mem_of_getElem? (i := 61) rfl))) (by decide) (t := (.object "java/lang/String")) (t' := .boolean) (by decide) (by decide)))
  have F_o0_kind__9 := F_o0_kind__7.other W9 (Or.inr (slot_ne (Or.inr (hw _ (List.mem_of_getElem? (i := 59) rfl))) (Or.inr (hw _ (List.mem_of_getElem? (i := 61) rfl))) (by decide) (t := (.object "biaxial/cli/Forms$Kind")) (t' := .boolean) (by decide) (by decide)))
  have F_o0_repeated__9 := F_o0_repeated__7.other W9 (Or.inr (slot_ne (Or.inr (hw _ (List.mem_of_getElem? (i := 63) rfl))) (Or.inr (hw _ (List.mem_of_getElem? (i := 61) rfl))) (by decide) (t := .boolean) (t' := .boolean) (by decide) (by decide)))
  have F_o0_flag__9 := F_o0_flag__7.other W9 (Or.inr (slot_ne (Or.inr (hw _ (List.mem_of_getElem? (i := 65) rfl))) (Or.inr (hw _ (List.mem_of_getElem? (i := 61) rfl))) (by decide) (t := (.object "java/lang/String")) (t' := .boolean) (by decide) (by decide)))
  have N9 := Fr.snoc X9 N7 g_o0
  have Zs9 : n0 ≤ h9.size := Nat.le_trans Zs7 (Nat.le_of_eq W9.size.symm)
  have Kc9 : Keep h0 h9 [o0] := Kc7.wr W9 (Or.inl (List.mem_of_getElem? (i := 0) rfl))
  have K9 : ∀ t, Steps p.tables e below (T9.setTop (mkF m 19 #[.val (.ref o0), .val (.ref o1), .val (.ref o2), .val (.int p3), .val (.int p4), .val (.ref o5)] [])) t → Steps p.tables e below S0 t := fun t k => K8 t (st9 t k)
  have K10 : ∀ t, Steps p.tables e below (T9.setTop (mkF m 22 #[.val (.ref o0), .val (.ref o1), .val (.ref o2), .val (.int p3), .val (.int p4), .val (.ref o5)] [(.int p4), (.ref o0)])) t → Steps p.tables e below S0 t := fun t k => K9 t (by
    refine XS.aloadN X9.here hx rfl (hb hby di111_19) rfl rfl ?_
    show Steps p.tables e below (T9.setTop (mkF m 20 #[.val (.ref o0), .val (.ref o1), .val (.ref o2), .val (.int p3), .val (.int p4), .val (.ref o5)] [(.ref o0)])) _
    refine XS.iload X9.here hx rfl (hb hby di111_20) rfl ?_
    show Steps p.tables e below (T9.setTop (mkF m 22 #[.val (.ref o0), .val (.ref o1), .val (.ref o2), .val (.int p3), .val (.int p4), .val (.ref o5)] [(.int p4), (.ref o0)])) _
    exact k)
  obtain ⟨T11, h11, X11, e11, W11, st11⟩ := putFN X9 hx hZ hown (hw _ (List.mem_of_getElem? (i := 62) rfl)) Via.refl e9 F_o0_repeated__9 E_o0__9 (Or.inr ⟨(hw _ (List.mem_of_getElem? (i := 63) rfl)), rfl, hnm⟩) (hw _ (List.mem_of_getElem? (i := 45) rfl)) (ty := .boolean) (v' := (.int (nar .boolean p4))) (by decide) rfl (fits_nar_bool p4) (g := (mkF m 22 #[.val (.ref o0), .val (.ref o1), .val (.ref o2), .val (.int p3), .val (.int p4), .val (.ref o5)] [(.int p4), (.ref o0)])) rfl rfl (hb hby di111_22)
  have F_o0_repeated__11 := F_o0_repeated__9.same W11
  have E_o0__11 := E_o0__9.wr W11
  have F_o0_name__11 := F_o0_name__9.other W11 (Or.inr (slot_ne (Or.inr (hw _ (List.mem_of_getElem? (i := 57) rfl))) (Or.inr (hw _ (List.mem_of_getElem? (i := 63) rfl))) (by decide) (t := (.object "java/lang/String")) (t' := .boolean) (by decide) (by decide)))
  have F_o0_kind__11 := F_o0_kind__9.other W11 (Or.inr (slot_ne (Or.inr (hw _ (List.mem_of_getElem? (i := 59) rfl))) (Or.inr (hw _ (List.mem_of_getElem? (i := 63) rfl))) (by decide) (t := (.object "biaxial/cli/Forms$Kind")) (t' := .boolean) (by decide) (by decide)))
  have F_o0_required__11 := F_o0_required__9.other W11 (Or.inr (slot_ne (Or.inr (hw _ (List.mem_of_getElem? (i := 61) rfl))) (Or.inr (hw _ (List.mem_of_getElem? (i := 63) rfl))) (by decide) (t := .boolean) (t' := .boolean) (by decide) (by decide)))
  have F_o0_flag__11 := F_o0_flag__9.other W11 (Or.inr (slot_ne (Or.inr (hw _ (List.mem_of_getElem? (i := 65) rfl))) (Or.inr (hw _ (List.mem_of_getElem? (i := 63) rfl))) (by decide) (t := (.object "java/lang/String")) (t' := .boolean) (by decide) (by decide)))
  have N11 := Fr.snoc X11 N9 g_o0
  have Zs11 : n0 ≤ h11.size := Nat.le_trans Zs9 (Nat.le_of_eq W11.size.symm)
  have Kc11 : Keep h0 h11 [o0] := Kc9.wr W11 (Or.inl (List.mem_of_getElem? (i := 0) rfl))
  have K11 : ∀ t, Steps p.tables e below (T11.setTop (mkF m 25 #[.val (.ref o0), .val (.ref o1), .val (.ref o2), .val (.int p3), .val (.int p4), .val (.ref o5)] [])) t → Steps p.tables e below S0 t := fun t k => K10 t (st11 t k)
  have K12 : ∀ t, Steps p.tables e below (T11.setTop (mkF m 28 #[.val (.ref o0), .val (.ref o1), .val (.ref o2), .val (.int p3), .val (.int p4), .val (.ref o5)] [(.ref o5), (.ref o0)])) t → Steps p.tables e below S0 t := fun t k => K11 t (by
    refine XS.aloadN X11.here hx rfl (hb hby di111_25) rfl rfl ?_
    show Steps p.tables e below (T11.setTop (mkF m 26 #[.val (.ref o0), .val (.ref o1), .val (.ref o2), .val (.int p3), .val (.int p4), .val (.ref o5)] [(.ref o0)])) _
    refine XS.aload X11.here hx rfl (hb hby di111_26) rfl rfl ?_
    show Steps p.tables e below (T11.setTop (mkF m 28 #[.val (.ref o0), .val (.ref o1), .val (.ref o2), .val (.int p3), .val (.int p4), .val (.ref o5)] [(.ref o5), (.ref o0)])) _
    exact k)
  obtain ⟨T13, h13, X13, e13, W13, st13⟩ := putF X11 hx hZ hown (host := "") (Or.inl (hw _ (List.mem_of_getElem? (i := 64) rfl))) Via.refl e11 F_o0_flag__11 E_o0__11 (Or.inr ⟨(hw _ (List.mem_of_getElem? (i := 65) rfl)), rfl, hnm⟩) (hw _ (List.mem_of_getElem? (i := 45) rfl)) (ty := (.object "java/lang/String")) (by decide) rfl rfl (g := (mkF m 28 #[.val (.ref o0), .val (.ref o1), .val (.ref o2), .val (.int p3), .val (.int p4), .val (.ref o5)] [(.ref o5), (.ref o0)])) rfl rfl (hb hby di111_28)
  have F_o0_flag__13 := F_o0_flag__11.same W13
  have E_o0__13 := E_o0__11.wr W13
  have F_o0_name__13 := F_o0_name__11.other W13 (Or.inr (slot_ne (Or.inr (hw _ (List.mem_of_getElem? (i := 57) rfl))) (Or.inr (hw _ (List.mem_of_getElem? (i := 65) rfl))) (by decide) (t := (.object "java/lang/String")) (t' := (.object "java/lang/String")) (by decide) (by decide)))
  have F_o0_kind__13 := F_o0_kind__11.other W13 (Or.inr (slot_ne (Or.inr (hw _ (List.mem_of_getElem? (i := 59) rfl))) (Or.inr (hw _ (List.mem_of_getElem? (i := 65) rfl))) (by decide) (t := (.object "biaxial/cli/Forms$Kind")) (t' := (.object "java/lang/String")) (by decide) (by decide)))
  have F_o0_required__13 := F_o0_required__11.other W13 (Or.inr (slot_ne (Or.inr (hw _ (List.mem_of_getElem? (i := 61) rfl))) (Or.inr (hw _ (List.mem_of_getElem? (i := 65) rfl))) (by decide) (t := .boolean) (t' := (.object "java/lang/String")) (by decide) (by decide)))
  have F_o0_repeated__13 := F_o0_repeated__11.other W13 (Or.inr (slot_ne (Or.inr (hw _ (List.mem_of_getElem? (i := 63) rfl))) (Or.inr (hw _ (List.mem_of_getElem? (i := 65) rfl))) (by decide) (t := .boolean) (t' := (.object "java/lang/String")) (by decide) (by decide)))
  have N13 := Fr.snoc X13 N11 g_o0
  have Zs13 : n0 ≤ h13.size := Nat.le_trans Zs11 (Nat.le_of_eq W13.size.symm)
  have Kc13 : Keep h0 h13 [o0] := Kc11.wr W13 (Or.inl (List.mem_of_getElem? (i := 0) rfl))
  have K13 : ∀ t, Steps p.tables e below (T13.setTop (mkF m 31 #[.val (.ref o0), .val (.ref o1), .val (.ref o2), .val (.int p3), .val (.int p4), .val (.ref o5)] [])) t → Steps p.tables e below S0 t := fun t k => K12 t (st13 t k)
  obtain ⟨fs, hr, hrun, hended, hW, hsame⟩ := X13.leave (v := none) (fun _ => rfl) hlk
  refine ⟨_, _, ?_, hrun, hended, _, _, rfl, ?_, ⟨_, rfl⟩, hW, hsame.mono (by decide) (by decide)⟩
  · rw [← hS0]; exact K13 _ (X13.returnOut hx Bd.returns (hb hby di111_31) hr)
  · show Qi111 Z o0 o1 o2 p3 p4 o5 h0 n0 _ T13.heap _
    rw [e13]
    exact ⟨rfl, N13, Kc13, E_o0__13, F_o0_name__13, F_o0_kind__13, F_o0_required__13, F_o0_repeated__13, F_o0_flag__13⟩
theorem dw0_0 : decode prog_84_method_2_code 0 = .ok (.aload_n 0, 1) := by decide +kernel
theorem dw0_1 : decode prog_84_method_2_code 1 = .ok (.getfield 7, 3) := by decide +kernel
theorem dw0_4 : decode prog_84_method_2_code 4 = .ok (.ifnonnull 7, 3) := by decide +kernel
theorem dw0_7 : decode prog_84_method_2_code 7 = .ok (.iconst 1, 1) := by decide +kernel
theorem dw0_8 : decode prog_84_method_2_code 8 = .ok (.goto 4, 3) := by decide +kernel
theorem dw0_12 : decode prog_84_method_2_code 12 = .ok (.ireturn, 1) := by decide +kernel
theorem pnw0 : plainName "biaxial/cli/Forms$Operand" = true := by first | (simp [plainName, overriddenIn]; done) | decide +kernel
theorem efw0 (m : MethodId) (o0 : Addr) : entryFrame m #[(.ref o0)] 1 = mkF m 0 #[.val (.ref o0)] [] := by first | (simp [entryFrame, mkF, argsToLocals, Value.category]; done) | rfl
def Qw0 (Z : State) (o0 : Addr) (h0 : Heap) (n0 : Nat) (v : Option Value) (h : Heap) (L : List Loc) : Prop := v = some (.int (1 : Int32)) ∧ Fr n0 L ∧ h = h0
set_option maxRecDepth 65536 in
set_option maxHeartbeats 40000000 in
theorem rmw0 (l : Launch) (Z : State) (a0 : Array Value) (hw : ∀ d ∈ tables_1, d.before a0 Z = true) (ws : List Jvm.Cond) (o0 : Addr) (h0 : Heap) (n0 : Nat) (Z0 : n0 ≤ h0.size) (F_o0_name : Fld Z h0 o0 "biaxial/cli/Forms$Operand" "name" "Ljava/lang/String;" .null) :
    MetFree l (⟨"biaxial/cli/Forms$Operand", "isSwitch", "()Z"⟩ : MethodName) (head1 (Jvm.Cond.code (⟨"biaxial/cli/Forms$Operand", "isSwitch", "()Z"⟩ : MethodName) prog_84_method_2_code 1 (some .boolean) :: ws) ({ frames := 0, cells := 0, slots := 0, locals := 0 } : Room)) (fun a U => a = #[(.ref o0)] ∧ Z.Warmed39 U.vm ∧ U.heap = h0) (fun _ _ _ _ _ => True) (fun _ U o U' => ∃ v L, o = .returned v ∧ Qw0 Z o0 h0 n0 v U'.heap L ∧ FrameEnd U o U' L ({ frames := 0, cells := 0, slots := 0, locals := 0 } : Room).cells ({ frames := 0, cells := 0, slots := 0, locals := 0 } : Room).slots) := by
  refine MetFree.of_bodySF (plainFor_of_name pnw0) hisR ?_
  intro p e s m args below meth c s₁ Bd hml0 hP hK
  obtain ⟨rfl, hZ, hh⟩ := hP
  have hlk : meth.locks = false := BodyLoose.notSynchronized Bd
  have hx := Bd.exec
  have hby := Bd.bytes
  have hml : c.maxLocals = 1 := hml0
  have hown : s.vm.findClass "biaxial/cli/Forms$Operand" = some m.cls := findClass_of_methodNamed Bd.named
  have hnm := (name_of_methodNamed Bd.named Bd.method).1
  have X0 : Stand p l e ({ frames := 0, cells := 0, slots := 0, locals := 0 } : Room) s m #[(.ref o0)] below meth c s₁ [] 0 0 := Stand.of_body Bd
  have e0 : s₁.heap = h0 := by rw [← hh, Bd.state]; rfl
  have N0 := Fr.nil n0
  obtain ⟨S0, hS0⟩ : ∃ S0, S0 = s₁.setTop (entryFrame m #[(.ref o0)] 1) := ⟨_, rfl⟩
  have pre0 : ∀ t, Steps p.tables e below (s₁.setTop (mkF m 0 #[.val (.ref o0)] [])) t → Steps p.tables e below S0 t := fun t k => by rw [hS0]; exact castTop (efw0 m o0) k
  have K1 : ∀ t, Steps p.tables e below (s₁.setTop (mkF m 1 #[.val (.ref o0)] [(.ref o0)])) t → Steps p.tables e below S0 t := fun t k => pre0 t (by
    refine XS.aloadN X0.here hx rfl (hb hby dw0_0) rfl rfl ?_
    show Steps p.tables e below (s₁.setTop (mkF m 1 #[.val (.ref o0)] [(.ref o0)])) _
    exact k)
  obtain ⟨T2, X2, e2, st2⟩ := getF X0 hx hZ hown (host := "") (Or.inl (hw _ (List.mem_of_getElem? (i := 56) rfl))) Via.refl e0 F_o0_name (g := (mkF m 1 #[.val (.ref o0)] [(.ref o0)])) rfl rfl (hb hby dw0_1)
  have K2 : ∀ t, Steps p.tables e below (T2.setTop (mkF m 4 #[.val (.ref o0)] [.null])) t → Steps p.tables e below S0 t := fun t k => K1 t (st2 t k)
  have K3 : ∀ t, Steps p.tables e below (T2.setTop (mkF m 12 #[.val (.ref o0)] [(.int (1 : Int32))])) t → Steps p.tables e below S0 t := fun t k => K2 t (by
    refine XS.ifnonnullNo X2.here hx rfl (hb hby dw0_4) rfl ?_
    show Steps p.tables e below (T2.setTop (mkF m 7 #[.val (.ref o0)] [])) _
    refine XS.iconst X2.here hx rfl (hb hby dw0_7) ?_
    show Steps p.tables e below (T2.setTop (mkF m 8 #[.val (.ref o0)] [(.int (1 : Int32))])) _
    refine XS.goto X2.here hx rfl (pc0 := 8) (pc' := 12) rfl (hb hby dw0_8) (by decide) (by decide) ?_
    show Steps p.tables e below (T2.setTop (mkF m 12 #[.val (.ref o0)] [(.int (1 : Int32))])) _
    exact k)
  obtain ⟨fs, hr, hrun, hended, hW, hsame⟩ := X2.leave (v := some (.int (1 : Int32))) (fun h => by rw [Bd.returns] at h; cases h) hlk
  refine ⟨_, _, ?_, hrun, hended, _, _, rfl, ?_, ⟨_, rfl⟩, hW, hsame.mono (by decide) (by decide)⟩
  · rw [← hS0]; exact K3 _ (retN X2 hx (t := .boolean) Bd.returns (by simp) (hb hby dw0_12) hr)
  · show Qw0 Z o0 h0 n0 _ T2.heap _
    rw [e2]
    exact ⟨rfl, N0, rfl⟩
theorem dw1_0 : decode prog_84_method_2_code 0 = .ok (.aload_n 0, 1) := by decide +kernel
theorem dw1_1 : decode prog_84_method_2_code 1 = .ok (.getfield 7, 3) := by decide +kernel
theorem dw1_4 : decode prog_84_method_2_code 4 = .ok (.ifnonnull 7, 3) := by decide +kernel
theorem dw1_11 : decode prog_84_method_2_code 11 = .ok (.iconst 0, 1) := by decide +kernel
theorem dw1_12 : decode prog_84_method_2_code 12 = .ok (.ireturn, 1) := by decide +kernel
theorem pnw1 : plainName "biaxial/cli/Forms$Operand" = true := by first | (simp [plainName, overriddenIn]; done) | decide +kernel
theorem efw1 (m : MethodId) (o0 : Addr) : entryFrame m #[(.ref o0)] 1 = mkF m 0 #[.val (.ref o0)] [] := by first | (simp [entryFrame, mkF, argsToLocals, Value.category]; done) | rfl
def Qw1 (Z : State) (o0 : Addr) (nm : Addr) (h0 : Heap) (n0 : Nat) (v : Option Value) (h : Heap) (L : List Loc) : Prop := v = some (.int (0 : Int32)) ∧ Fr n0 L ∧ h = h0
set_option maxRecDepth 65536 in
set_option maxHeartbeats 40000000 in
theorem rmw1 (l : Launch) (Z : State) (a0 : Array Value) (hw : ∀ d ∈ tables_1, d.before a0 Z = true) (ws : List Jvm.Cond) (o0 : Addr) (nm : Addr) (h0 : Heap) (n0 : Nat) (Z0 : n0 ≤ h0.size) (F_o0_name : Fld Z h0 o0 "biaxial/cli/Forms$Operand" "name" "Ljava/lang/String;" (.ref nm)) :
    MetFree l (⟨"biaxial/cli/Forms$Operand", "isSwitch", "()Z"⟩ : MethodName) (head1 (Jvm.Cond.code (⟨"biaxial/cli/Forms$Operand", "isSwitch", "()Z"⟩ : MethodName) prog_84_method_2_code 1 (some .boolean) :: ws) ({ frames := 0, cells := 0, slots := 0, locals := 0 } : Room)) (fun a U => a = #[(.ref o0)] ∧ Z.Warmed39 U.vm ∧ U.heap = h0) (fun _ _ _ _ _ => True) (fun _ U o U' => ∃ v L, o = .returned v ∧ Qw1 Z o0 nm h0 n0 v U'.heap L ∧ FrameEnd U o U' L ({ frames := 0, cells := 0, slots := 0, locals := 0 } : Room).cells ({ frames := 0, cells := 0, slots := 0, locals := 0 } : Room).slots) := by
  refine MetFree.of_bodySF (plainFor_of_name pnw1) hisR ?_
  intro p e s m args below meth c s₁ Bd hml0 hP hK
  obtain ⟨rfl, hZ, hh⟩ := hP
  have hlk : meth.locks = false := BodyLoose.notSynchronized Bd
  have hx := Bd.exec
  have hby := Bd.bytes
  have hml : c.maxLocals = 1 := hml0
  have hown : s.vm.findClass "biaxial/cli/Forms$Operand" = some m.cls := findClass_of_methodNamed Bd.named
  have hnm := (name_of_methodNamed Bd.named Bd.method).1
  have X0 : Stand p l e ({ frames := 0, cells := 0, slots := 0, locals := 0 } : Room) s m #[(.ref o0)] below meth c s₁ [] 0 0 := Stand.of_body Bd
  have e0 : s₁.heap = h0 := by rw [← hh, Bd.state]; rfl
  have N0 := Fr.nil n0
  obtain ⟨S0, hS0⟩ : ∃ S0, S0 = s₁.setTop (entryFrame m #[(.ref o0)] 1) := ⟨_, rfl⟩
  have pre0 : ∀ t, Steps p.tables e below (s₁.setTop (mkF m 0 #[.val (.ref o0)] [])) t → Steps p.tables e below S0 t := fun t k => by rw [hS0]; exact castTop (efw1 m o0) k
  have K1 : ∀ t, Steps p.tables e below (s₁.setTop (mkF m 1 #[.val (.ref o0)] [(.ref o0)])) t → Steps p.tables e below S0 t := fun t k => pre0 t (by
    refine XS.aloadN X0.here hx rfl (hb hby dw1_0) rfl rfl ?_
    show Steps p.tables e below (s₁.setTop (mkF m 1 #[.val (.ref o0)] [(.ref o0)])) _
    exact k)
  obtain ⟨T2, X2, e2, st2⟩ := getF X0 hx hZ hown (host := "") (Or.inl (hw _ (List.mem_of_getElem? (i := 56) rfl))) Via.refl e0 F_o0_name (g := (mkF m 1 #[.val (.ref o0)] [(.ref o0)])) rfl rfl (hb hby dw1_1)
  have K2 : ∀ t, Steps p.tables e below (T2.setTop (mkF m 4 #[.val (.ref o0)] [(.ref nm)])) t → Steps p.tables e below S0 t := fun t k => K1 t (st2 t k)
  have K3 : ∀ t, Steps p.tables e below (T2.setTop (mkF m 12 #[.val (.ref o0)] [(.int (0 : Int32))])) t → Steps p.tables e below S0 t := fun t k => K2 t (by
    refine XS.ifnonnullYes X2.here hx rfl (pc0 := 4) (pc' := 11) rfl (hb hby dw1_4) rfl (by decide) (by decide) ?_
    show Steps p.tables e below (T2.setTop (mkF m 11 #[.val (.ref o0)] [])) _
    refine XS.iconst X2.here hx rfl (hb hby dw1_11) ?_
    show Steps p.tables e below (T2.setTop (mkF m 12 #[.val (.ref o0)] [(.int (0 : Int32))])) _
    exact k)
  obtain ⟨fs, hr, hrun, hended, hW, hsame⟩ := X2.leave (v := some (.int (0 : Int32))) (fun h => by rw [Bd.returns] at h; cases h) hlk
  refine ⟨_, _, ?_, hrun, hended, _, _, rfl, ?_, ⟨_, rfl⟩, hW, hsame.mono (by decide) (by decide)⟩
  · rw [← hS0]; exact K3 _ (retN X2 hx (t := .boolean) Bd.returns (by simp) (hb hby dw1_12) hr)
  · show Qw1 Z o0 nm h0 n0 _ T2.heap _
    rw [e2]
    exact ⟨rfl, N0, rfl⟩
theorem do00_0 : decode prog_84_method_3_code 0 = .ok (.new 8, 3) := by decide +kernel
theorem do00_3 : decode prog_84_method_3_code 3 = .ok (.dup, 1) := by decide +kernel
theorem do00_4 : decode prog_84_method_3_code 4 = .ok (.aload_n 0, 1) := by decide +kernel
theorem do00_5 : decode prog_84_method_3_code 5 = .ok (.getfield 7, 3) := by decide +kernel
theorem do00_8 : decode prog_84_method_3_code 8 = .ok (.aload_n 0, 1) := by decide +kernel
theorem do00_9 : decode prog_84_method_3_code 9 = .ok (.getfield 13, 3) := by decide +kernel
theorem do00_12 : decode prog_84_method_3_code 12 = .ok (.iconst 0, 1) := by decide +kernel
theorem do00_13 : decode prog_84_method_3_code 13 = .ok (.aload_n 0, 1) := by decide +kernel
theorem do00_14 : decode prog_84_method_3_code 14 = .ok (.getfield 21, 3) := by decide +kernel
theorem do00_17 : decode prog_84_method_3_code 17 = .ok (.aload_n 0, 1) := by decide +kernel
theorem do00_18 : decode prog_84_method_3_code 18 = .ok (.getfield 24, 3) := by decide +kernel
theorem do00_21 : decode prog_84_method_3_code 21 = .ok (.invokespecial 27, 3) := by decide +kernel
theorem do00_24 : decode prog_84_method_3_code 24 = .ok (.areturn, 1) := by decide +kernel
theorem pno00 : plainName "biaxial/cli/Forms$Operand" = true := by first | (simp [plainName, overriddenIn]; done) | decide +kernel
theorem pdo00_0 : parseMethodDescriptor "(Ljava/lang/String;Lbiaxial/cli/Forms$Kind;ZZLjava/lang/String;)V" = some ⟨[(.object "java/lang/String"), (.object "biaxial/cli/Forms$Kind"), .boolean, .boolean, (.object "java/lang/String")], none⟩ := by decide +kernel
theorem efo00 (m : MethodId) (o0 : Addr) : entryFrame m #[(.ref o0)] 1 = mkF m 0 #[.val (.ref o0)] [] := by first | (simp [entryFrame, mkF, argsToLocals, Value.category]; done) | rfl
def Qo00 (Z : State) (o0 : Addr) (rq : Int32) (rp : Int32) (h0 : Heap) (n0 : Nat) (v : Option Value) (h : Heap) (L : List Loc) : Prop := ∃ (b1 : Addr), v = some (.ref b1) ∧ Fr n0 L ∧ Keep h0 h [] ∧ h0.size ≤ b1 ∧ Exa Z h b1 "biaxial/cli/Forms$Operand" ∧ Fld Z h b1 "biaxial/cli/Forms$Operand" "name" "Ljava/lang/String;" .null ∧ Fld Z h b1 "biaxial/cli/Forms$Operand" "kind" "Lbiaxial/cli/Forms$Kind;" .null ∧ Fld Z h b1 "biaxial/cli/Forms$Operand" "required" "Z" (.int (nar .boolean (0 : Int32))) ∧ Fld Z h b1 "biaxial/cli/Forms$Operand" "repeated" "Z" (.int (nar .boolean rp)) ∧ Fld Z h b1 "biaxial/cli/Forms$Operand" "flag" "Ljava/lang/String;" .null
set_option maxRecDepth 65536 in
set_option maxHeartbeats 40000000 in
theorem rmo00 (l : Launch) (Z : State) (a0 : Array Value) (hw : ∀ d ∈ tables_1, d.before a0 Z = true) (ws : List Jvm.Cond) (o0 : Addr) (rq : Int32) (rp : Int32) (h0 : Heap) (n0 : Nat) (Z0 : n0 ≤ h0.size) (F_o0_name : Fld Z h0 o0 "biaxial/cli/Forms$Operand" "name" "Ljava/lang/String;" .null) (F_o0_kind : Fld Z h0 o0 "biaxial/cli/Forms$Operand" "kind" "Lbiaxial/cli/Forms$Kind;" .null) (F_o0_required : Fld Z h0 o0 "biaxial/cli/Forms$Operand" "required" "Z" (.int rq)) (F_o0_repeated : Fld Z h0 o0 "biaxial/cli/Forms$Operand" "repeated" "Z" (.int rp)) (F_o0_flag : Fld Z h0 o0 "biaxial/cli/Forms$Operand" "flag" "Ljava/lang/String;" .null) :
    MetFree l (⟨"biaxial/cli/Forms$Operand", "optional", "()Lbiaxial/cli/Forms$Operand;"⟩ : MethodName) (head1 (Jvm.Cond.code (⟨"biaxial/cli/Forms$Operand", "optional", "()Lbiaxial/cli/Forms$Operand;"⟩ : MethodName) prog_84_method_3_code 1 (some (.object "biaxial/cli/Forms$Operand")) :: ws) ({ frames := 3, cells := 1, slots := 5, locals := 42 } : Room)) (fun a U => a = #[(.ref o0)] ∧ Z.Warmed39 U.vm ∧ U.heap = h0) (fun _ _ _ _ _ => True) (fun _ U o U' => ∃ v L, o = .returned v ∧ Qo00 Z o0 rq rp h0 n0 v U'.heap L ∧ FrameEnd U o U' L ({ frames := 3, cells := 1, slots := 5, locals := 42 } : Room).cells ({ frames := 3, cells := 1, slots := 5, locals := 42 } : Room).slots) := by
  refine MetFree.of_bodySF (plainFor_of_name pno00) hisR ?_
  intro p e s m args below meth c s₁ Bd hml0 hP hK
  obtain ⟨rfl, hZ, hh⟩ := hP
  have hlk : meth.locks = false := BodyLoose.notSynchronized Bd
  have hx := Bd.exec
  have hby := Bd.bytes
  have hml : c.maxLocals = 1 := hml0
  have hown : s.vm.findClass "biaxial/cli/Forms$Operand" = some m.cls := findClass_of_methodNamed Bd.named
  have hnm := (name_of_methodNamed Bd.named Bd.method).1
  have X0 : Stand p l e ({ frames := 3, cells := 1, slots := 5, locals := 42 } : Room) s m #[(.ref o0)] below meth c s₁ [] 0 0 := Stand.of_body Bd
  have e0 : s₁.heap = h0 := by rw [← hh, Bd.state]; rfl
  have N0 := Fr.nil n0
  obtain ⟨S0, hS0⟩ : ∃ S0, S0 = s₁.setTop (entryFrame m #[(.ref o0)] 1) := ⟨_, rfl⟩
  have pre0 : ∀ t, Steps p.tables e below (s₁.setTop (mkF m 0 #[.val (.ref o0)] [])) t → Steps p.tables e below S0 t := fun t k => by rw [hS0]; exact castTop (efo00 m o0) k
  obtain ⟨T1, h1, X1, e1, E1, A1, D1, -, st1⟩ := newO X0 hx hZ hown (hw _ (List.mem_of_getElem? (i := 76) rfl)) (hw _ (List.mem_of_getElem? (i := 45) rfl)) (hw _ (List.mem_of_getElem? (i := 46) rfl)) e0 (g := (mkF m 0 #[.val (.ref o0)] [])) rfl (hb hby do00_0) (by decide) (by decide)
  obtain ⟨b1, g1⟩ : ∃ z, z = h0.size := ⟨_, rfl⟩
  rw [← g1] at A1 D1 st1
  have ne_o0_b1 : o0 ≠ b1 := Nat.ne_of_lt (Nat.lt_of_lt_of_le F_o0_name.lt (Nat.le_of_eq g1.symm))
  have F_o0_name__1 := F_o0_name.ext E1
  have F_o0_kind__1 := F_o0_kind.ext E1
  have F_o0_required__1 := F_o0_required.ext E1
  have F_o0_repeated__1 := F_o0_repeated.ext E1
  have F_o0_flag__1 := F_o0_flag.ext E1
  have g_b1 : n0 ≤ b1 := Nat.le_trans Z0 (Nat.le_of_eq g1.symm)
  have Zs1 : n0 ≤ h1.size := Nat.le_trans Z0 E1.1
  have sz_b1 : h0.size ≤ b1 := Nat.le_trans (Keep.refl h0 []).1 (Nat.le_of_eq g1.symm)
  have Kc1 : Keep h0 h1 [] := (Keep.refl h0 []).ext E1
  have F_b1_name : Fld Z h1 b1 "biaxial/cli/Forms$Operand" "name" "Ljava/lang/String;" .null := D1 (Or.inr (hw _ (List.mem_of_getElem? (i := 57) rfl))) (ty := (.object "java/lang/String")) (by decide)
  have F_b1_kind : Fld Z h1 b1 "biaxial/cli/Forms$Operand" "kind" "Lbiaxial/cli/Forms$Kind;" .null := D1 (Or.inr (hw _ (List.mem_of_getElem? (i := 59) rfl))) (ty := (.object "biaxial/cli/Forms$Kind")) (by decide)
  have F_b1_required : Fld Z h1 b1 "biaxial/cli/Forms$Operand" "required" "Z" (.int (0 : Int32)) := D1 (Or.inr (hw _ (List.mem_of_getElem? (i := 61) rfl))) (ty := .boolean) (by decide)
  have F_b1_repeated : Fld Z h1 b1 "biaxial/cli/Forms$Operand" "repeated" "Z" (.int (0 : Int32)) := D1 (Or.inr (hw _ (List.mem_of_getElem? (i := 63) rfl))) (ty := .boolean) (by decide)
  have F_b1_flag : Fld Z h1 b1 "biaxial/cli/Forms$Operand" "flag" "Ljava/lang/String;" .null := D1 (Or.inr (hw _ (List.mem_of_getElem? (i := 65) rfl))) (ty := (.object "java/lang/String")) (by decide)
  have K1 : ∀ t, Steps p.tables e below (T1.setTop (mkF m 3 #[.val (.ref o0)] [(.ref b1)])) t → Steps p.tables e below S0 t := fun t k => pre0 t (st1 t k)
  have K2 : ∀ t, Steps p.tables e below (T1.setTop (mkF m 5 #[.val (.ref o0)] [(.ref o0), (.ref b1), (.ref b1)])) t → Steps p.tables e below S0 t := fun t k => K1 t (by
    refine XS.dup X1.here hx rfl (hb hby do00_3) rfl rfl ?_
    show Steps p.tables e below (T1.setTop (mkF m 4 #[.val (.ref o0)] [(.ref b1), (.ref b1)])) _
    refine XS.aloadN X1.here hx rfl (hb hby do00_4) rfl rfl ?_
    show Steps p.tables e below (T1.setTop (mkF m 5 #[.val (.ref o0)] [(.ref o0), (.ref b1), (.ref b1)])) _
    exact k)
  obtain ⟨T3, X3, e3, st3⟩ := getF X1 hx hZ hown (host := "") (Or.inl (hw _ (List.mem_of_getElem? (i := 56) rfl))) Via.refl e1 F_o0_name__1 (g := (mkF m 5 #[.val (.ref o0)] [(.ref o0), (.ref b1), (.ref b1)])) rfl rfl (hb hby do00_5)
  have K3 : ∀ t, Steps p.tables e below (T3.setTop (mkF m 8 #[.val (.ref o0)] [.null, (.ref b1), (.ref b1)])) t → Steps p.tables e below S0 t := fun t k => K2 t (st3 t k)
  have K4 : ∀ t, Steps p.tables e below (T3.setTop (mkF m 9 #[.val (.ref o0)] [(.ref o0), .null, (.ref b1), (.ref b1)])) t → Steps p.tables e below S0 t := fun t k => K3 t (by
    refine XS.aloadN X3.here hx rfl (hb hby do00_8) rfl rfl ?_
    show Steps p.tables e below (T3.setTop (mkF m 9 #[.val (.ref o0)] [(.ref o0), .null, (.ref b1), (.ref b1)])) _
    exact k)
  obtain ⟨T5, X5, e5, st5⟩ := getF X3 hx hZ hown (host := "") (Or.inl (hw _ (List.mem_of_getElem? (i := 58) rfl))) Via.refl e3 F_o0_kind__1 (g := (mkF m 9 #[.val (.ref o0)] [(.ref o0), .null, (.ref b1), (.ref b1)])) rfl rfl (hb hby do00_9)
  have K5 : ∀ t, Steps p.tables e below (T5.setTop (mkF m 12 #[.val (.ref o0)] [.null, .null, (.ref b1), (.ref b1)])) t → Steps p.tables e below S0 t := fun t k => K4 t (st5 t k)
  have K6 : ∀ t, Steps p.tables e below (T5.setTop (mkF m 14 #[.val (.ref o0)] [(.ref o0), (.int (0 : Int32)), .null, .null, (.ref b1), (.ref b1)])) t → Steps p.tables e below S0 t := fun t k => K5 t (by
    refine XS.iconst X5.here hx rfl (hb hby do00_12) ?_
    show Steps p.tables e below (T5.setTop (mkF m 13 #[.val (.ref o0)] [(.int (0 : Int32)), .null, .null, (.ref b1), (.ref b1)])) _
    refine XS.aloadN X5.here hx rfl (hb hby do00_13) rfl rfl ?_
    show Steps p.tables e below (T5.setTop (mkF m 14 #[.val (.ref o0)] [(.ref o0), (.int (0 : Int32)), .null, .null, (.ref b1), (.ref b1)])) _
    exact k)
  obtain ⟨T7, X7, e7, st7⟩ := getF X5 hx hZ hown (host := "") (Or.inl (hw _ (List.mem_of_getElem? (i := 62) rfl))) Via.refl e5 F_o0_repeated__1 (g := (mkF m 14 #[.val (.ref o0)] [(.ref o0), (.int (0 : Int32)), .null, .null, (.ref b1), (.ref b1)])) rfl rfl (hb hby do00_14)
  have K7 : ∀ t, Steps p.tables e below (T7.setTop (mkF m 17 #[.val (.ref o0)] [(.int rp), (.int (0 : Int32)), .null, .null, (.ref b1), (.ref b1)])) t → Steps p.tables e below S0 t := fun t k => K6 t (st7 t k)
  have K8 : ∀ t, Steps p.tables e below (T7.setTop (mkF m 18 #[.val (.ref o0)] [(.ref o0), (.int rp), (.int (0 : Int32)), .null, .null, (.ref b1), (.ref b1)])) t → Steps p.tables e below S0 t := fun t k => K7 t (by
    refine XS.aloadN X7.here hx rfl (hb hby do00_17) rfl rfl ?_
    show Steps p.tables e below (T7.setTop (mkF m 18 #[.val (.ref o0)] [(.ref o0), (.int rp), (.int (0 : Int32)), .null, .null, (.ref b1), (.ref b1)])) _
    exact k)
  obtain ⟨T9, X9, e9, st9⟩ := getF X7 hx hZ hown (host := "") (Or.inl (hw _ (List.mem_of_getElem? (i := 64) rfl))) Via.refl e7 F_o0_flag__1 (g := (mkF m 18 #[.val (.ref o0)] [(.ref o0), (.int rp), (.int (0 : Int32)), .null, .null, (.ref b1), (.ref b1)])) rfl rfl (hb hby do00_18)
  have K9 : ∀ t, Steps p.tables e below (T9.setTop (mkF m 21 #[.val (.ref o0)] [.null, (.int rp), (.int (0 : Int32)), .null, .null, (.ref b1), (.ref b1)])) t → Steps p.tables e below S0 t := fun t k => K8 t (st9 t k)
  have K_10 : ∀ t, Steps p.tables e below (T9.setTop (mkF m 21 #[.val (.ref o0)] [.null, (.int rp), (.int (0 : Int32)), .null, .null, (.ref b1), (.ref b1)])) t → Steps p.tables e below S0 t := K9
  obtain ⟨_, _, ⟨T11, L11, k11, n11⟩, -, X11, ⟨Lc11, hQ11, l11, y11, z11⟩, st11⟩ := X9.specialBack hx (y := (⟨"biaxial/cli/Forms$Operand", "<init>", "(Ljava/lang/String;Lbiaxial/cli/Forms$Kind;ZZLjava/lang/String;)V"⟩ : MethodName)) rfl hown (mvT hZ (hw _ (List.mem_of_getElem? (i := 77) rfl))) (mvT hZ (hw _ (List.mem_of_getElem? (i := 48) rfl))) (mvT hZ (hw _ (List.mem_of_getElem? (i := 49) rfl))) (by decide) (backOf (W := 1) (rmi000 l Z a0 hw [] b1 (0 : Int32) rp h1 n0 Zs1 A1 F_b1_name F_b1_kind F_b1_required F_b1_repeated F_b1_flag g_b1) hZ (hw _ (List.mem_of_getElem? (i := 49) rfl)) (hw _ (List.mem_of_getElem? (i := 46) rfl)) (by decide) (by decide)) (g := (mkF m 21 #[.val (.ref o0)] [.null, (.int rp), (.int (0 : Int32)), .null, .null, (.ref b1), (.ref b1)])) rfl (by rw [hml]; rfl) (Steps.refl _) (a := b1) (argsL := [.null, .null, (.int (0 : Int32)), (.int rp), .null]) (rest := [(.ref b1)]) (lenOf pdo00_0 rfl) rfl (by show 2 * 0 + _ ≤ _; exact Nat.le_of_eq rfl) (hb hby do00_21) (fun _ _ => ⟨rfl, e9, (by decide : 1 + 0 ≤ 1), (by decide : 5 + 0 ≤ 5)⟩)
  dsimp only [Pt.U, Pt.locs, Pt.cells, Pt.slots] at X11 l11 y11 z11 st11 hQ11
  subst l11 y11 z11
  obtain ⟨rfl, N11q, Kp11, Fn11_0, Fn11_1, Fn11_2, Fn11_3, Fn11_4, Fn11_5⟩ := hQ11
  have N11 := Fr.app N0 N11q
  have F_o0_name__11 := F_o0_name__1.keep Kp11 (ninS ne_o0_b1 nin0)
  have F_o0_kind__11 := F_o0_kind__1.keep Kp11 (ninS ne_o0_b1 nin0)
  have F_o0_required__11 := F_o0_required__1.keep Kp11 (ninS ne_o0_b1 nin0)
  have F_o0_repeated__11 := F_o0_repeated__1.keep Kp11 (ninS ne_o0_b1 nin0)
  have F_o0_flag__11 := F_o0_flag__1.keep Kp11 (ninS ne_o0_b1 nin0)
  have Zs11 : n0 ≤ T11.heap.size := Nat.le_trans Zs1 Kp11.1
  have Kc11 : Keep h0 T11.heap [] := Kc1.trans Kp11 (allS (P := fun x => x ∈ [] ∨ h0.size ≤ x) (Or.inr sz_b1) all0)
  have K11 : ∀ t, Steps p.tables e below (T11.setTop (mkF m 24 #[.val (.ref o0)] [(.ref b1)])) t → Steps p.tables e below S0 t := fun t k => K_10 t (st11.trans k)
  obtain ⟨fs, hr, hrun, hended, hW, hsame⟩ := X11.leave (v := some (.ref b1)) (fun h => by rw [Bd.returns] at h; cases h) hlk
  refine ⟨_, _, ?_, hrun, hended, _, _, rfl, ?_, ⟨_, rfl⟩, hW, hsame.mono (by decide) (by decide)⟩
  · rw [← hS0]; exact K11 _ (retOut X11 hx Bd.returns rfl (Or.inr (Or.inr (Or.inr (Or.inr ⟨rfl, rfl, rfl⟩)))) (hb hby do00_24) hr)
  · show Qo00 Z o0 rq rp h0 n0 _ T11.heap _
    exact ⟨b1, rfl, N11, Kc11, sz_b1, Fn11_0, Fn11_1, Fn11_2, Fn11_3, Fn11_4, Fn11_5⟩
theorem do01_0 : decode prog_84_method_3_code 0 = .ok (.new 8, 3) := by decide +kernel
theorem do01_3 : decode prog_84_method_3_code 3 = .ok (.dup, 1) := by decide +kernel
theorem do01_4 : decode prog_84_method_3_code 4 = .ok (.aload_n 0, 1) := by decide +kernel
theorem do01_5 : decode prog_84_method_3_code 5 = .ok (.getfield 7, 3) := by decide +kernel
theorem do01_8 : decode prog_84_method_3_code 8 = .ok (.aload_n 0, 1) := by decide +kernel
theorem do01_9 : decode prog_84_method_3_code 9 = .ok (.getfield 13, 3) := by decide +kernel
theorem do01_12 : decode prog_84_method_3_code 12 = .ok (.iconst 0, 1) := by decide +kernel
theorem do01_13 : decode prog_84_method_3_code 13 = .ok (.aload_n 0, 1) := by decide +kernel
theorem do01_14 : decode prog_84_method_3_code 14 = .ok (.getfield 21, 3) := by decide +kernel
theorem do01_17 : decode prog_84_method_3_code 17 = .ok (.aload_n 0, 1) := by decide +kernel
theorem do01_18 : decode prog_84_method_3_code 18 = .ok (.getfield 24, 3) := by decide +kernel
theorem do01_21 : decode prog_84_method_3_code 21 = .ok (.invokespecial 27, 3) := by decide +kernel
theorem do01_24 : decode prog_84_method_3_code 24 = .ok (.areturn, 1) := by decide +kernel
theorem pno01 : plainName "biaxial/cli/Forms$Operand" = true := by first | (simp [plainName, overriddenIn]; done) | decide +kernel
theorem pdo01_0 : parseMethodDescriptor "(Ljava/lang/String;Lbiaxial/cli/Forms$Kind;ZZLjava/lang/String;)V" = some ⟨[(.object "java/lang/String"), (.object "biaxial/cli/Forms$Kind"), .boolean, .boolean, (.object "java/lang/String")], none⟩ := by decide +kernel
theorem efo01 (m : MethodId) (o0 : Addr) : entryFrame m #[(.ref o0)] 1 = mkF m 0 #[.val (.ref o0)] [] := by first | (simp [entryFrame, mkF, argsToLocals, Value.category]; done) | rfl
def Qo01 (Z : State) (o0 : Addr) (fg : Addr) (rq : Int32) (rp : Int32) (h0 : Heap) (n0 : Nat) (v : Option Value) (h : Heap) (L : List Loc) : Prop := ∃ (b1 : Addr), v = some (.ref b1) ∧ Fr n0 L ∧ Keep h0 h [] ∧ h0.size ≤ b1 ∧ Exa Z h b1 "biaxial/cli/Forms$Operand" ∧ Fld Z h b1 "biaxial/cli/Forms$Operand" "name" "Ljava/lang/String;" .null ∧ Fld Z h b1 "biaxial/cli/Forms$Operand" "kind" "Lbiaxial/cli/Forms$Kind;" .null ∧ Fld Z h b1 "biaxial/cli/Forms$Operand" "required" "Z" (.int (nar .boolean (0 : Int32))) ∧ Fld Z h b1 "biaxial/cli/Forms$Operand" "repeated" "Z" (.int (nar .boolean rp)) ∧ Fld Z h b1 "biaxial/cli/Forms$Operand" "flag" "Ljava/lang/String;" (.ref fg)
set_option maxRecDepth 65536 in
set_option maxHeartbeats 40000000 in
theorem rmo01 (l : Launch) (Z : State) (a0 : Array Value) (hw : ∀ d ∈ tables_1, d.before a0 Z = true) (ws : List Jvm.Cond) (o0 : Addr) (fg : Addr) (rq : Int32) (rp : Int32) (h0 : Heap) (n0 : Nat) (Z0 : n0 ≤ h0.size) (F_o0_name : Fld Z h0 o0 "biaxial/cli/Forms$Operand" "name" "Ljava/lang/String;" .null) (F_o0_kind : Fld Z h0 o0 "biaxial/cli/Forms$Operand" "kind" "Lbiaxial/cli/Forms$Kind;" .null) (F_o0_required : Fld Z h0 o0 "biaxial/cli/Forms$Operand" "required" "Z" (.int rq)) (F_o0_repeated : Fld Z h0 o0 "biaxial/cli/Forms$Operand" "repeated" "Z" (.int rp)) (F_o0_flag : Fld Z h0 o0 "biaxial/cli/Forms$Operand" "flag" "Ljava/lang/String;" (.ref fg)) :
    MetFree l (⟨"biaxial/cli/Forms$Operand", "optional", "()Lbiaxial/cli/Forms$Operand;"⟩ : MethodName) (head1 (Jvm.Cond.code (⟨"biaxial/cli/Forms$Operand", "optional", "()Lbiaxial/cli/Forms$Operand;"⟩ : MethodName) prog_84_method_3_code 1 (some (.object "biaxial/cli/Forms$Operand")) :: ws) ({ frames := 3, cells := 1, slots := 5, locals := 42 } : Room)) (fun a U => a = #[(.ref o0)] ∧ Z.Warmed39 U.vm ∧ U.heap = h0) (fun _ _ _ _ _ => True) (fun _ U o U' => ∃ v L, o = .returned v ∧ Qo01 Z o0 fg rq rp h0 n0 v U'.heap L ∧ FrameEnd U o U' L ({ frames := 3, cells := 1, slots := 5, locals := 42 } : Room).cells ({ frames := 3, cells := 1, slots := 5, locals := 42 } : Room).slots) := by
  refine MetFree.of_bodySF (plainFor_of_name pno01) hisR ?_
  intro p e s m args below meth c s₁ Bd hml0 hP hK
  obtain ⟨rfl, hZ, hh⟩ := hP
  have hlk : meth.locks = false := BodyLoose.notSynchronized Bd
  have hx := Bd.exec
  have hby := Bd.bytes
  have hml : c.maxLocals = 1 := hml0
  have hown : s.vm.findClass "biaxial/cli/Forms$Operand" = some m.cls := findClass_of_methodNamed Bd.named
  have hnm := (name_of_methodNamed Bd.named Bd.method).1
  have X0 : Stand p l e ({ frames := 3, cells := 1, slots := 5, locals := 42 } : Room) s m #[(.ref o0)] below meth c s₁ [] 0 0 := Stand.of_body Bd
  have e0 : s₁.heap = h0 := by rw [← hh, Bd.state]; rfl
  have N0 := Fr.nil n0
  obtain ⟨S0, hS0⟩ : ∃ S0, S0 = s₁.setTop (entryFrame m #[(.ref o0)] 1) := ⟨_, rfl⟩
  have pre0 : ∀ t, Steps p.tables e below (s₁.setTop (mkF m 0 #[.val (.ref o0)] [])) t → Steps p.tables e below S0 t := fun t k => by rw [hS0]; exact castTop (efo01 m o0) k
  obtain ⟨T1, h1, X1, e1, E1, A1, D1, -, st1⟩ := newO X0 hx hZ hown (hw _ (List.mem_of_getElem? (i := 76) rfl)) (hw _ (List.mem_of_getElem? (i := 45) rfl)) (hw _ (List.mem_of_getElem? (i := 46) rfl)) e0 (g := (mkF m 0 #[.val (.ref o0)] [])) rfl (hb hby do01_0) (by decide) (by decide)
  obtain ⟨b1, g1⟩ : ∃ z, z = h0.size := ⟨_, rfl⟩
  rw [← g1] at A1 D1 st1
  have ne_o0_b1 : o0 ≠ b1 := Nat.ne_of_lt (Nat.lt_of_lt_of_le F_o0_name.lt (Nat.le_of_eq g1.symm))
  have F_o0_name__1 := F_o0_name.ext E1
  have F_o0_kind__1 := F_o0_kind.ext E1
  have F_o0_required__1 := F_o0_required.ext E1
  have F_o0_repeated__1 := F_o0_repeated.ext E1
  have F_o0_flag__1 := F_o0_flag.ext E1
  have g_b1 : n0 ≤ b1 := Nat.le_trans Z0 (Nat.le_of_eq g1.symm)
  have Zs1 : n0 ≤ h1.size := Nat.le_trans Z0 E1.1
  have sz_b1 : h0.size ≤ b1 := Nat.le_trans (Keep.refl h0 []).1 (Nat.le_of_eq g1.symm)
  have Kc1 : Keep h0 h1 [] := (Keep.refl h0 []).ext E1
  have F_b1_name : Fld Z h1 b1 "biaxial/cli/Forms$Operand" "name" "Ljava/lang/String;" .null := D1 (Or.inr (hw _ (List.mem_of_getElem? (i := 57) rfl))) (ty := (.object "java/lang/String")) (by decide)
  have F_b1_kind : Fld Z h1 b1 "biaxial/cli/Forms$Operand" "kind" "Lbiaxial/cli/Forms$Kind;" .null := D1 (Or.inr (hw _ (List.mem_of_getElem? (i := 59) rfl))) (ty := (.object "biaxial/cli/Forms$Kind")) (by decide)
  have F_b1_required : Fld Z h1 b1 "biaxial/cli/Forms$Operand" "required" "Z" (.int (0 : Int32)) := D1 (Or.inr (hw _ (List.mem_of_getElem? (i := 61) rfl))) (ty := .boolean) (by decide)
  have F_b1_repeated : Fld Z h1 b1 "biaxial/cli/Forms$Operand" "repeated" "Z" (.int (0 : Int32)) := D1 (Or.inr (hw _ (List.mem_of_getElem? (i := 63) rfl))) (ty := .boolean) (by decide)
  have F_b1_flag : Fld Z h1 b1 "biaxial/cli/Forms$Operand" "flag" "Ljava/lang/String;" .null := D1 (Or.inr (hw _ (List.mem_of_getElem? (i := 65) rfl))) (ty := (.object "java/lang/String")) (by decide)
  have K1 : ∀ t, Steps p.tables e below (T1.setTop (mkF m 3 #[.val (.ref o0)] [(.ref b1)])) t → Steps p.tables e below S0 t := fun t k => pre0 t (st1 t k)
  have K2 : ∀ t, Steps p.tables e below (T1.setTop (mkF m 5 #[.val (.ref o0)] [(.ref o0), (.ref b1), (.ref b1)])) t → Steps p.tables e below S0 t := fun t k => K1 t (by
    refine XS.dup X1.here hx rfl (hb hby do01_3) rfl rfl ?_
    show Steps p.tables e below (T1.setTop (mkF m 4 #[.val (.ref o0)] [(.ref b1), (.ref b1)])) _
    refine XS.aloadN X1.here hx rfl (hb hby do01_4) rfl rfl ?_
    show Steps p.tables e below (T1.setTop (mkF m 5 #[.val (.ref o0)] [(.ref o0), (.ref b1), (.ref b1)])) _
    exact k)
  obtain ⟨T3, X3, e3, st3⟩ := getF X1 hx hZ hown (host := "") (Or.inl (hw _ (List.mem_of_getElem? (i := 56) rfl))) Via.refl e1 F_o0_name__1 (g := (mkF m 5 #[.val (.ref o0)] [(.ref o0), (.ref b1), (.ref b1)])) rfl rfl (hb hby do01_5)
  have K3 : ∀ t, Steps p.tables e below (T3.setTop (mkF m 8 #[.val (.ref o0)] [.null, (.ref b1), (.ref b1)])) t → Steps p.tables e below S0 t := fun t k => K2 t (st3 t k)
  have K4 : ∀ t, Steps p.tables e below (T3.setTop (mkF m 9 #[.val (.ref o0)] [(.ref o0), .null, (.ref b1), (.ref b1)])) t → Steps p.tables e below S0 t := fun t k => K3 t (by
    refine XS.aloadN X3.here hx rfl (hb hby do01_8) rfl rfl ?_
    show Steps p.tables e below (T3.setTop (mkF m 9 #[.val (.ref o0)] [(.ref o0), .null, (.ref b1), (.ref b1)])) _
    exact k)
  obtain ⟨T5, X5, e5, st5⟩ := getF X3 hx hZ hown (host := "") (Or.inl (hw _ (List.mem_of_getElem? (i := 58) rfl))) Via.refl e3 F_o0_kind__1 (g := (mkF m 9 #[.val (.ref o0)] [(.ref o0), .null, (.ref b1), (.ref b1)])) rfl rfl (hb hby do01_9)
  have K5 : ∀ t, Steps p.tables e below (T5.setTop (mkF m 12 #[.val (.ref o0)] [.null, .null, (.ref b1), (.ref b1)])) t → Steps p.tables e below S0 t := fun t k => K4 t (st5 t k)
  have K6 : ∀ t, Steps p.tables e below (T5.setTop (mkF m 14 #[.val (.ref o0)] [(.ref o0), (.int (0 : Int32)), .null, .null, (.ref b1), (.ref b1)])) t → Steps p.tables e below S0 t := fun t k => K5 t (by
    refine XS.iconst X5.here hx rfl (hb hby do01_12) ?_
    show Steps p.tables e below (T5.setTop (mkF m 13 #[.val (.ref o0)] [(.int (0 : Int32)), .null, .null, (.ref b1), (.ref b1)])) _
    refine XS.aloadN X5.here hx rfl (hb hby do01_13) rfl rfl ?_
    show Steps p.tables e below (T5.setTop (mkF m 14 #[.val (.ref o0)] [(.ref o0), (.int (0 : Int32)), .null, .null, (.ref b1), (.ref b1)])) _
    exact k)
  obtain ⟨T7, X7, e7, st7⟩ := getF X5 hx hZ hown (host := "") (Or.inl (hw _ (List.mem_of_getElem? (i := 62) rfl))) Via.refl e5 F_o0_repeated__1 (g := (mkF m 14 #[.val (.ref o0)] [(.ref o0), (.int (0 : Int32)), .null, .null, (.ref b1), (.ref b1)])) rfl rfl (hb hby do01_14)
  have K7 : ∀ t, Steps p.tables e below (T7.setTop (mkF m 17 #[.val (.ref o0)] [(.int rp), (.int (0 : Int32)), .null, .null, (.ref b1), (.ref b1)])) t → Steps p.tables e below S0 t := fun t k => K6 t (st7 t k)
  have K8 : ∀ t, Steps p.tables e below (T7.setTop (mkF m 18 #[.val (.ref o0)] [(.ref o0), (.int rp), (.int (0 : Int32)), .null, .null, (.ref b1), (.ref b1)])) t → Steps p.tables e below S0 t := fun t k => K7 t (by
    refine XS.aloadN X7.here hx rfl (hb hby do01_17) rfl rfl ?_
    show Steps p.tables e below (T7.setTop (mkF m 18 #[.val (.ref o0)] [(.ref o0), (.int rp), (.int (0 : Int32)), .null, .null, (.ref b1), (.ref b1)])) _
    exact k)
  obtain ⟨T9, X9, e9, st9⟩ := getF X7 hx hZ hown (host := "") (Or.inl (hw _ (List.mem_of_getElem? (i := 64) rfl))) Via.refl e7 F_o0_flag__1 (g := (mkF m 18 #[.val (.ref o0)] [(.ref o0), (.int rp), (.int (0 : Int32)), .null, .null, (.ref b1), (.ref b1)])) rfl rfl (hb hby do01_18)
  have K9 : ∀ t, Steps p.tables e below (T9.setTop (mkF m 21 #[.val (.ref o0)] [(.ref fg), (.int rp), (.int (0 : Int32)), .null, .null, (.ref b1), (.ref b1)])) t → Steps p.tables e below S0 t := fun t k => K8 t (st9 t k)
  have K_10 : ∀ t, Steps p.tables e below (T9.setTop (mkF m 21 #[.val (.ref o0)] [(.ref fg), (.int rp), (.int (0 : Int32)), .null, .null, (.ref b1), (.ref b1)])) t → Steps p.tables e below S0 t := K9
  obtain ⟨_, _, ⟨T11, L11, k11, n11⟩, -, X11, ⟨Lc11, hQ11, l11, y11, z11⟩, st11⟩ := X9.specialBack hx (y := (⟨"biaxial/cli/Forms$Operand", "<init>", "(Ljava/lang/String;Lbiaxial/cli/Forms$Kind;ZZLjava/lang/String;)V"⟩ : MethodName)) rfl hown (mvT hZ (hw _ (List.mem_of_getElem? (i := 77) rfl))) (mvT hZ (hw _ (List.mem_of_getElem? (i := 48) rfl))) (mvT hZ (hw _ (List.mem_of_getElem? (i := 49) rfl))) (by decide) (backOf (W := 1) (rmi001 l Z a0 hw [] b1 (0 : Int32) rp fg h1 n0 Zs1 A1 F_b1_name F_b1_kind F_b1_required F_b1_repeated F_b1_flag g_b1) hZ (hw _ (List.mem_of_getElem? (i := 49) rfl)) (hw _ (List.mem_of_getElem? (i := 46) rfl)) (by decide) (by decide)) (g := (mkF m 21 #[.val (.ref o0)] [(.ref fg), (.int rp), (.int (0 : Int32)), .null, .null, (.ref b1), (.ref b1)])) rfl (by rw [hml]; rfl) (Steps.refl _) (a := b1) (argsL := [.null, .null, (.int (0 : Int32)), (.int rp), (.ref fg)]) (rest := [(.ref b1)]) (lenOf pdo01_0 rfl) rfl (by show 2 * 0 + _ ≤ _; exact Nat.le_of_eq rfl) (hb hby do01_21) (fun _ _ => ⟨rfl, e9, (by decide : 1 + 0 ≤ 1), (by decide : 5 + 0 ≤ 5)⟩)
  dsimp only [Pt.U, Pt.locs, Pt.cells, Pt.slots] at X11 l11 y11 z11 st11 hQ11
  subst l11 y11 z11
  obtain ⟨rfl, N11q, Kp11, Fn11_0, Fn11_1, Fn11_2, Fn11_3, Fn11_4, Fn11_5⟩ := hQ11
  have N11 := Fr.app N0 N11q
  have F_o0_name__11 := F_o0_name__1.keep Kp11 (ninS ne_o0_b1 nin0)
  have F_o0_kind__11 := F_o0_kind__1.keep Kp11 (ninS ne_o0_b1 nin0)
  have F_o0_required__11 := F_o0_required__1.keep Kp11 (ninS ne_o0_b1 nin0)
  have F_o0_repeated__11 := F_o0_repeated__1.keep Kp11 (ninS ne_o0_b1 nin0)
  have F_o0_flag__11 := F_o0_flag__1.keep Kp11 (ninS ne_o0_b1 nin0)
  have Zs11 : n0 ≤ T11.heap.size := Nat.le_trans Zs1 Kp11.1
  have Kc11 : Keep h0 T11.heap [] := Kc1.trans Kp11 (allS (P := fun x => x ∈ [] ∨ h0.size ≤ x) (Or.inr sz_b1) all0)
  have K11 : ∀ t, Steps p.tables e below (T11.setTop (mkF m 24 #[.val (.ref o0)] [(.ref b1)])) t → Steps p.tables e below S0 t := fun t k => K_10 t (st11.trans k)
  obtain ⟨fs, hr, hrun, hended, hW, hsame⟩ := X11.leave (v := some (.ref b1)) (fun h => by rw [Bd.returns] at h; cases h) hlk
  refine ⟨_, _, ?_, hrun, hended, _, _, rfl, ?_, ⟨_, rfl⟩, hW, hsame.mono (by decide) (by decide)⟩
  · rw [← hS0]; exact K11 _ (retOut X11 hx Bd.returns rfl (Or.inr (Or.inr (Or.inr (Or.inr ⟨rfl, rfl, rfl⟩)))) (hb hby do01_24) hr)
  · show Qo01 Z o0 fg rq rp h0 n0 _ T11.heap _
    exact ⟨b1, rfl, N11, Kc11, sz_b1, Fn11_0, Fn11_1, Fn11_2, Fn11_3, Fn11_4, Fn11_5⟩
theorem do10_0 : decode prog_84_method_3_code 0 = .ok (.new 8, 3) := by decide +kernel
theorem do10_3 : decode prog_84_method_3_code 3 = .ok (.dup, 1) := by decide +kernel
theorem do10_4 : decode prog_84_method_3_code 4 = .ok (.aload_n 0, 1) := by decide +kernel
theorem do10_5 : decode prog_84_method_3_code 5 = .ok (.getfield 7, 3) := by decide +kernel
theorem do10_8 : decode prog_84_method_3_code 8 = .ok (.aload_n 0, 1) := by decide +kernel
theorem do10_9 : decode prog_84_method_3_code 9 = .ok (.getfield 13, 3) := by decide +kernel
theorem do10_12 : decode prog_84_method_3_code 12 = .ok (.iconst 0, 1) := by decide +kernel
theorem do10_13 : decode prog_84_method_3_code 13 = .ok (.aload_n 0, 1) := by decide +kernel
theorem do10_14 : decode prog_84_method_3_code 14 = .ok (.getfield 21, 3) := by decide +kernel
theorem do10_17 : decode prog_84_method_3_code 17 = .ok (.aload_n 0, 1) := by decide +kernel
theorem do10_18 : decode prog_84_method_3_code 18 = .ok (.getfield 24, 3) := by decide +kernel
theorem do10_21 : decode prog_84_method_3_code 21 = .ok (.invokespecial 27, 3) := by decide +kernel
theorem do10_24 : decode prog_84_method_3_code 24 = .ok (.areturn, 1) := by decide +kernel
theorem pno10 : plainName "biaxial/cli/Forms$Operand" = true := by first | (simp [plainName, overriddenIn]; done) | decide +kernel
theorem pdo10_0 : parseMethodDescriptor "(Ljava/lang/String;Lbiaxial/cli/Forms$Kind;ZZLjava/lang/String;)V" = some ⟨[(.object "java/lang/String"), (.object "biaxial/cli/Forms$Kind"), .boolean, .boolean, (.object "java/lang/String")], none⟩ := by decide +kernel
theorem efo10 (m : MethodId) (o0 : Addr) : entryFrame m #[(.ref o0)] 1 = mkF m 0 #[.val (.ref o0)] [] := by first | (simp [entryFrame, mkF, argsToLocals, Value.category]; done) | rfl
def Qo10 (Z : State) (o0 : Addr) (nm : Addr) (rq : Int32) (rp : Int32) (h0 : Heap) (n0 : Nat) (v : Option Value) (h : Heap) (L : List Loc) : Prop := ∃ (b1 : Addr), v = some (.ref b1) ∧ Fr n0 L ∧ Keep h0 h [] ∧ h0.size ≤ b1 ∧ Exa Z h b1 "biaxial/cli/Forms$Operand" ∧ Fld Z h b1 "biaxial/cli/Forms$Operand" "name" "Ljava/lang/String;" (.ref nm) ∧ Fld Z h b1 "biaxial/cli/Forms$Operand" "kind" "Lbiaxial/cli/Forms$Kind;" .null ∧ Fld Z h b1 "biaxial/cli/Forms$Operand" "required" "Z" (.int (nar .boolean (0 : Int32))) ∧ Fld Z h b1 "biaxial/cli/Forms$Operand" "repeated" "Z" (.int (nar .boolean rp)) ∧ Fld Z h b1 "biaxial/cli/Forms$Operand" "flag" "Ljava/lang/String;" .null
set_option maxRecDepth 65536 in
set_option maxHeartbeats 40000000 in
theorem rmo10 (l : Launch) (Z : State) (a0 : Array Value) (hw : ∀ d ∈ tables_1, d.before a0 Z = true) (ws : List Jvm.Cond) (o0 : Addr) (nm : Addr) (rq : Int32) (rp : Int32) (h0 : Heap) (n0 : Nat) (Z0 : n0 ≤ h0.size) (F_o0_name : Fld Z h0 o0 "biaxial/cli/Forms$Operand" "name" "Ljava/lang/String;" (.ref nm)) (F_o0_kind : Fld Z h0 o0 "biaxial/cli/Forms$Operand" "kind" "Lbiaxial/cli/Forms$Kind;" .null) (F_o0_required : Fld Z h0 o0 "biaxial/cli/Forms$Operand" "required" "Z" (.int rq)) (F_o0_repeated : Fld Z h0 o0 "biaxial/cli/Forms$Operand" "repeated" "Z" (.int rp)) (F_o0_flag : Fld Z h0 o0 "biaxial/cli/Forms$Operand" "flag" "Ljava/lang/String;" .null) :
    MetFree l (⟨"biaxial/cli/Forms$Operand", "optional", "()Lbiaxial/cli/Forms$Operand;"⟩ : MethodName) (head1 (Jvm.Cond.code (⟨"biaxial/cli/Forms$Operand", "optional", "()Lbiaxial/cli/Forms$Operand;"⟩ : MethodName) prog_84_method_3_code 1 (some (.object "biaxial/cli/Forms$Operand")) :: ws) ({ frames := 3, cells := 1, slots := 5, locals := 42 } : Room)) (fun a U => a = #[(.ref o0)] ∧ Z.Warmed39 U.vm ∧ U.heap = h0) (fun _ _ _ _ _ => True) (fun _ U o U' => ∃ v L, o = .returned v ∧ Qo10 Z o0 nm rq rp h0 n0 v U'.heap L ∧ FrameEnd U o U' L ({ frames := 3, cells := 1, slots := 5, locals := 42 } : Room).cells ({ frames := 3, cells := 1, slots := 5, locals := 42 } : Room).slots) := by
  refine MetFree.of_bodySF (plainFor_of_name pno10) hisR ?_
  intro p e s m args below meth c s₁ Bd hml0 hP hK
  obtain ⟨rfl, hZ, hh⟩ := hP
  have hlk : meth.locks = false := BodyLoose.notSynchronized Bd
  have hx := Bd.exec
  have hby := Bd.bytes
  have hml : c.maxLocals = 1 := hml0
  have hown : s.vm.findClass "biaxial/cli/Forms$Operand" = some m.cls := findClass_of_methodNamed Bd.named
  have hnm := (name_of_methodNamed Bd.named Bd.method).1
  have X0 : Stand p l e ({ frames := 3, cells := 1, slots := 5, locals := 42 } : Room) s m #[(.ref o0)] below meth c s₁ [] 0 0 := Stand.of_body Bd
  have e0 : s₁.heap = h0 := by rw [← hh, Bd.state]; rfl
  have N0 := Fr.nil n0
  obtain ⟨S0, hS0⟩ : ∃ S0, S0 = s₁.setTop (entryFrame m #[(.ref o0)] 1) := ⟨_, rfl⟩
  have pre0 : ∀ t, Steps p.tables e below (s₁.setTop (mkF m 0 #[.val (.ref o0)] [])) t → Steps p.tables e below S0 t := fun t k => by rw [hS0]; exact castTop (efo10 m o0) k
  obtain ⟨T1, h1, X1, e1, E1, A1, D1, -, st1⟩ := newO X0 hx hZ hown (hw _ (List.mem_of_getElem? (i := 76) rfl)) (hw _ (List.mem_of_getElem? (i := 45) rfl)) (hw _ (List.mem_of_getElem? (i := 46) rfl)) e0 (g := (mkF m 0 #[.val (.ref o0)] [])) rfl (hb hby do10_0) (by decide) (by decide)
  obtain ⟨b1, g1⟩ : ∃ z, z = h0.size := ⟨_, rfl⟩
  rw [← g1] at A1 D1 st1
  have ne_o0_b1 : o0 ≠ b1 := Nat.ne_of_lt (Nat.lt_of_lt_of_le F_o0_name.lt (Nat.le_of_eq g1.symm))
  have F_o0_name__1 := F_o0_name.ext E1
  have F_o0_kind__1 := F_o0_kind.ext E1
  have F_o0_required__1 := F_o0_required.ext E1
  have F_o0_repeated__1 := F_o0_repeated.ext E1
  have F_o0_flag__1 := F_o0_flag.ext E1
  have g_b1 : n0 ≤ b1 := Nat.le_trans Z0 (Nat.le_of_eq g1.symm)
  have Zs1 : n0 ≤ h1.size := Nat.le_trans Z0 E1.1
  have sz_b1 : h0.size ≤ b1 := Nat.le_trans (Keep.refl h0 []).1 (Nat.le_of_eq g1.symm)
  have Kc1 : Keep h0 h1 [] := (Keep.refl h0 []).ext E1
  have F_b1_name : Fld Z h1 b1 "biaxial/cli/Forms$Operand" "name" "Ljava/lang/String;" .null := D1 (Or.inr (hw _ (List.mem_of_getElem? (i := 57) rfl))) (ty := (.object "java/lang/String")) (by decide)
  have F_b1_kind : Fld Z h1 b1 "biaxial/cli/Forms$Operand" "kind" "Lbiaxial/cli/Forms$Kind;" .null := D1 (Or.inr (hw _ (List.mem_of_getElem? (i := 59) rfl))) (ty := (.object "biaxial/cli/Forms$Kind")) (by decide)
  have F_b1_required : Fld Z h1 b1 "biaxial/cli/Forms$Operand" "required" "Z" (.int (0 : Int32)) := D1 (Or.inr (hw _ (List.mem_of_getElem? (i := 61) rfl))) (ty := .boolean) (by decide)
  have F_b1_repeated : Fld Z h1 b1 "biaxial/cli/Forms$Operand" "repeated" "Z" (.int (0 : Int32)) := D1 (Or.inr (hw _ (List.mem_of_getElem? (i := 63) rfl))) (ty := .boolean) (by decide)
  have F_b1_flag : Fld Z h1 b1 "biaxial/cli/Forms$Operand" "flag" "Ljava/lang/String;" .null := D1 (Or.inr (hw _ (List.mem_of_getElem? (i := 65) rfl))) (ty := (.object "java/lang/String")) (by decide)
  have K1 : ∀ t, Steps p.tables e below (T1.setTop (mkF m 3 #[.val (.ref o0)] [(.ref b1)])) t → Steps p.tables e below S0 t := fun t k => pre0 t (st1 t k)
  have K2 : ∀ t, Steps p.tables e below (T1.setTop (mkF m 5 #[.val (.ref o0)] [(.ref o0), (.ref b1), (.ref b1)])) t → Steps p.tables e below S0 t := fun t k => K1 t (by
    refine XS.dup X1.here hx rfl (hb hby do10_3) rfl rfl ?_
    show Steps p.tables e below (T1.setTop (mkF m 4 #[.val (.ref o0)] [(.ref b1), (.ref b1)])) _
    refine XS.aloadN X1.here hx rfl (hb hby do10_4) rfl rfl ?_
    show Steps p.tables e below (T1.setTop (mkF m 5 #[.val (.ref o0)] [(.ref o0), (.ref b1), (.ref b1)])) _
    exact k)
  obtain ⟨T3, X3, e3, st3⟩ := getF X1 hx hZ hown (host := "") (Or.inl (hw _ (List.mem_of_getElem? (i := 56) rfl))) Via.refl e1 F_o0_name__1 (g := (mkF m 5 #[.val (.ref o0)] [(.ref o0), (.ref b1), (.ref b1)])) rfl rfl (hb hby do10_5)
  have K3 : ∀ t, Steps p.tables e below (T3.setTop (mkF m 8 #[.val (.ref o0)] [(.ref nm), (.ref b1), (.ref b1)])) t → Steps p.tables e below S0 t := fun t k => K2 t (st3 t k)
  have K4 : ∀ t, Steps p.tables e below (T3.setTop (mkF m 9 #[.val (.ref o0)] [(.ref o0), (.ref nm), (.ref b1), (.ref b1)])) t → Steps p.tables e below S0 t := fun t k => K3 t (by
    refine XS.aloadN X3.here hx rfl (hb hby do10_8) rfl rfl ?_
    show Steps p.tables e below (T3.setTop (mkF m 9 #[.val (.ref o0)] [(.ref o0), (.ref nm), (.ref b1), (.ref b1)])) _
    exact k)
  obtain ⟨T5, X5, e5, st5⟩ := getF X3 hx hZ hown (host := "") (Or.inl (hw _ (List.mem_of_getElem? (i := 58) rfl))) Via.refl e3 F_o0_kind__1 (g := (mkF m 9 #[.val (.ref o0)] [(.ref o0), (.ref nm), (.ref b1), (.ref b1)])) rfl rfl (hb hby do10_9)
  have K5 : ∀ t, Steps p.tables e below (T5.setTop (mkF m 12 #[.val (.ref o0)] [.null, (.ref nm), (.ref b1), (.ref b1)])) t → Steps p.tables e below S0 t := fun t k => K4 t (st5 t k)
  have K6 : ∀ t, Steps p.tables e below (T5.setTop (mkF m 14 #[.val (.ref o0)] [(.ref o0), (.int (0 : Int32)), .null, (.ref nm), (.ref b1), (.ref b1)])) t → Steps p.tables e below S0 t := fun t k => K5 t (by
    refine XS.iconst X5.here hx rfl (hb hby do10_12) ?_
    show Steps p.tables e below (T5.setTop (mkF m 13 #[.val (.ref o0)] [(.int (0 : Int32)), .null, (.ref nm), (.ref b1), (.ref b1)])) _
    refine XS.aloadN X5.here hx rfl (hb hby do10_13) rfl rfl ?_
    show Steps p.tables e below (T5.setTop (mkF m 14 #[.val (.ref o0)] [(.ref o0), (.int (0 : Int32)), .null, (.ref nm), (.ref b1), (.ref b1)])) _
    exact k)
  obtain ⟨T7, X7, e7, st7⟩ := getF X5 hx hZ hown (host := "") (Or.inl (hw _ (List.mem_of_getElem? (i := 62) rfl))) Via.refl e5 F_o0_repeated__1 (g := (mkF m 14 #[.val (.ref o0)] [(.ref o0), (.int (0 : Int32)), .null, (.ref nm), (.ref b1), (.ref b1)])) rfl rfl (hb hby do10_14)
  have K7 : ∀ t, Steps p.tables e below (T7.setTop (mkF m 17 #[.val (.ref o0)] [(.int rp), (.int (0 : Int32)), .null, (.ref nm), (.ref b1), (.ref b1)])) t → Steps p.tables e below S0 t := fun t k => K6 t (st7 t k)
  have K8 : ∀ t, Steps p.tables e below (T7.setTop (mkF m 18 #[.val (.ref o0)] [(.ref o0), (.int rp), (.int (0 : Int32)), .null, (.ref nm), (.ref b1), (.ref b1)])) t → Steps p.tables e below S0 t := fun t k => K7 t (by
    refine XS.aloadN X7.here hx rfl (hb hby do10_17) rfl rfl ?_
    show Steps p.tables e below (T7.setTop (mkF m 18 #[.val (.ref o0)] [(.ref o0), (.int rp), (.int (0 : Int32)), .null, (.ref nm), (.ref b1), (.ref b1)])) _
    exact k)
  obtain ⟨T9, X9, e9, st9⟩ := getF X7 hx hZ hown (host := "") (Or.inl (hw _ (List.mem_of_getElem? (i := 64) rfl))) Via.refl e7 F_o0_flag__1 (g := (mkF m 18 #[.val (.ref o0)] [(.ref o0), (.int rp), (.int (0 : Int32)), .null, (.ref nm), (.ref b1), (.ref b1)])) rfl rfl (hb hby do10_18)
  have K9 : ∀ t, Steps p.tables e below (T9.setTop (mkF m 21 #[.val (.ref o0)] [.null, (.int rp), (.int (0 : Int32)), .null, (.ref nm), (.ref b1), (.ref b1)])) t → Steps p.tables e below S0 t := fun t k => K8 t (st9 t k)
  have K_10 : ∀ t, Steps p.tables e below (T9.setTop (mkF m 21 #[.val (.ref o0)] [.null, (.int rp), (.int (0 : Int32)), .null, (.ref nm), (.ref b1), (.ref b1)])) t → Steps p.tables e below S0 t := K9
  obtain ⟨_, _, ⟨T11, L11, k11, n11⟩, -, X11, ⟨Lc11, hQ11, l11, y11, z11⟩, st11⟩ := X9.specialBack hx (y := (⟨"biaxial/cli/Forms$Operand", "<init>", "(Ljava/lang/String;Lbiaxial/cli/Forms$Kind;ZZLjava/lang/String;)V"⟩ : MethodName)) rfl hown (mvT hZ (hw _ (List.mem_of_getElem? (i := 77) rfl))) (mvT hZ (hw _ (List.mem_of_getElem? (i := 48) rfl))) (mvT hZ (hw _ (List.mem_of_getElem? (i := 49) rfl))) (by decide) (backOf (W := 1) (rmi100 l Z a0 hw [] b1 nm (0 : Int32) rp h1 n0 Zs1 A1 F_b1_name F_b1_kind F_b1_required F_b1_repeated F_b1_flag g_b1) hZ (hw _ (List.mem_of_getElem? (i := 49) rfl)) (hw _ (List.mem_of_getElem? (i := 46) rfl)) (by decide) (by decide)) (g := (mkF m 21 #[.val (.ref o0)] [.null, (.int rp), (.int (0 : Int32)), .null, (.ref nm), (.ref b1), (.ref b1)])) rfl (by rw [hml]; rfl) (Steps.refl _) (a := b1) (argsL := [(.ref nm), .null, (.int (0 : Int32)), (.int rp), .null]) (rest := [(.ref b1)]) (lenOf pdo10_0 rfl) rfl (by show 2 * 0 + _ ≤ _; exact Nat.le_of_eq rfl) (hb hby do10_21) (fun _ _ => ⟨rfl, e9, (by decide : 1 + 0 ≤ 1), (by decide : 5 + 0 ≤ 5)⟩)
  dsimp only [Pt.U, Pt.locs, Pt.cells, Pt.slots] at X11 l11 y11 z11 st11 hQ11
  subst l11 y11 z11
  obtain ⟨rfl, N11q, Kp11, Fn11_0, Fn11_1, Fn11_2, Fn11_3, Fn11_4, Fn11_5⟩ := hQ11
  have N11 := Fr.app N0 N11q
  have F_o0_name__11 := F_o0_name__1.keep Kp11 (ninS ne_o0_b1 nin0)
  have F_o0_kind__11 := F_o0_kind__1.keep Kp11 (ninS ne_o0_b1 nin0)
  have F_o0_required__11 := F_o0_required__1.keep Kp11 (ninS ne_o0_b1 nin0)
  have F_o0_repeated__11 := F_o0_repeated__1.keep Kp11 (ninS ne_o0_b1 nin0)
  have F_o0_flag__11 := F_o0_flag__1.keep Kp11 (ninS ne_o0_b1 nin0)
  have Zs11 : n0 ≤ T11.heap.size := Nat.le_trans Zs1 Kp11.1
  have Kc11 : Keep h0 T11.heap [] := Kc1.trans Kp11 (allS (P := fun x => x ∈ [] ∨ h0.size ≤ x) (Or.inr sz_b1) all0)
  have K11 : ∀ t, Steps p.tables e below (T11.setTop (mkF m 24 #[.val (.ref o0)] [(.ref b1)])) t → Steps p.tables e below S0 t := fun t k => K_10 t (st11.trans k)
  obtain ⟨fs, hr, hrun, hended, hW, hsame⟩ := X11.leave (v := some (.ref b1)) (fun h => by rw [Bd.returns] at h; cases h) hlk
  refine ⟨_, _, ?_, hrun, hended, _, _, rfl, ?_, ⟨_, rfl⟩, hW, hsame.mono (by decide) (by decide)⟩
  · rw [← hS0]; exact K11 _ (retOut X11 hx Bd.returns rfl (Or.inr (Or.inr (Or.inr (Or.inr ⟨rfl, rfl, rfl⟩)))) (hb hby do10_24) hr)
  · show Qo10 Z o0 nm rq rp h0 n0 _ T11.heap _
    exact ⟨b1, rfl, N11, Kc11, sz_b1, Fn11_0, Fn11_1, Fn11_2, Fn11_3, Fn11_4, Fn11_5⟩
theorem do11_0 : decode prog_84_method_3_code 0 = .ok (.new 8, 3) := by decide +kernel
theorem do11_3 : decode prog_84_method_3_code 3 = .ok (.dup, 1) := by decide +kernel
theorem do11_4 : decode prog_84_method_3_code 4 = .ok (.aload_n 0, 1) := by decide +kernel
theorem do11_5 : decode prog_84_method_3_code 5 = .ok (.getfield 7, 3) := by decide +kernel
theorem do11_8 : decode prog_84_method_3_code 8 = .ok (.aload_n 0, 1) := by decide +kernel
theorem do11_9 : decode prog_84_method_3_code 9 = .ok (.getfield 13, 3) := by decide +kernel
theorem do11_12 : decode prog_84_method_3_code 12 = .ok (.iconst 0, 1) := by decide +kernel
theorem do11_13 : decode prog_84_method_3_code 13 = .ok (.aload_n 0, 1) := by decide +kernel
theorem do11_14 : decode prog_84_method_3_code 14 = .ok (.getfield 21, 3) := by decide +kernel
theorem do11_17 : decode prog_84_method_3_code 17 = .ok (.aload_n 0, 1) := by decide +kernel
theorem do11_18 : decode prog_84_method_3_code 18 = .ok (.getfield 24, 3) := by decide +kernel
theorem do11_21 : decode prog_84_method_3_code 21 = .ok (.invokespecial 27, 3) := by decide +kernel
theorem do11_24 : decode prog_84_method_3_code 24 = .ok (.areturn, 1) := by decide +kernel
theorem pno11 : plainName "biaxial/cli/Forms$Operand" = true := by first | (simp [plainName, overriddenIn]; done) | decide +kernel
theorem pdo11_0 : parseMethodDescriptor "(Ljava/lang/String;Lbiaxial/cli/Forms$Kind;ZZLjava/lang/String;)V" = some ⟨[(.object "java/lang/String"), (.object "biaxial/cli/Forms$Kind"), .boolean, .boolean, (.object "java/lang/String")], none⟩ := by decide +kernel
theorem efo11 (m : MethodId) (o0 : Addr) : entryFrame m #[(.ref o0)] 1 = mkF m 0 #[.val (.ref o0)] [] := by first | (simp [entryFrame, mkF, argsToLocals, Value.category]; done) | rfl
def Qo11 (Z : State) (o0 : Addr) (nm : Addr) (fg : Addr) (rq : Int32) (rp : Int32) (h0 : Heap) (n0 : Nat) (v : Option Value) (h : Heap) (L : List Loc) : Prop := ∃ (b1 : Addr), v = some (.ref b1) ∧ Fr n0 L ∧ Keep h0 h [] ∧ h0.size ≤ b1 ∧ Exa Z h b1 "biaxial/cli/Forms$Operand" ∧ Fld Z h b1 "biaxial/cli/Forms$Operand" "name" "Ljava/lang/String;" (.ref nm) ∧ Fld Z h b1 "biaxial/cli/Forms$Operand" "kind" "Lbiaxial/cli/Forms$Kind;" .null ∧ Fld Z h b1 "biaxial/cli/Forms$Operand" "required" "Z" (.int (nar .boolean (0 : Int32))) ∧ Fld Z h b1 "biaxial/cli/Forms$Operand" "repeated" "Z" (.int (nar .boolean rp)) ∧ Fld Z h b1 "biaxial/cli/Forms$Operand" "flag" "Ljava/lang/String;" (.ref fg)
set_option maxRecDepth 65536 in
set_option maxHeartbeats 40000000 in
theorem rmo11 (l : Launch) (Z : State) (a0 : Array Value) (hw : ∀ d ∈ tables_1, d.before a0 Z = true) (ws : List Jvm.Cond) (o0 : Addr) (nm : Addr) (fg : Addr) (rq : Int32) (rp : Int32) (h0 : Heap) (n0 : Nat) (Z0 : n0 ≤ h0.size) (F_o0_name : Fld Z h0 o0 "biaxial/cli/Forms$Operand" "name" "Ljava/lang/String;" (.ref nm)) (F_o0_kind : Fld Z h0 o0 "biaxial/cli/Forms$Operand" "kind" "Lbiaxial/cli/Forms$Kind;" .null) (F_o0_required : Fld Z h0 o0 "biaxial/cli/Forms$Operand" "required" "Z" (.int rq)) (F_o0_repeated : Fld Z h0 o0 "biaxial/cli/Forms$Operand" "repeated" "Z" (.int rp)) (F_o0_flag : Fld Z h0 o0 "biaxial/cli/Forms$Operand" "flag" "Ljava/lang/String;" (.ref fg)) :
    MetFree l (⟨"biaxial/cli/Forms$Operand", "optional", "()Lbiaxial/cli/Forms$Operand;"⟩ : MethodName) (head1 (Jvm.Cond.code (⟨"biaxial/cli/Forms$Operand", "optional", "()Lbiaxial/cli/Forms$Operand;"⟩ : MethodName) prog_84_method_3_code 1 (some (.object "biaxial/cli/Forms$Operand")) :: ws) ({ frames := 3, cells := 1, slots := 5, locals := 42 } : Room)) (fun a U => a = #[(.ref o0)] ∧ Z.Warmed39 U.vm ∧ U.heap = h0) (fun _ _ _ _ _ => True) (fun _ U o U' => ∃ v L, o = .returned v ∧ Qo11 Z o0 nm fg rq rp h0 n0 v U'.heap L ∧ FrameEnd U o U' L ({ frames := 3, cells := 1, slots := 5, locals := 42 } : Room).cells ({ frames := 3, cells := 1, slots := 5, locals := 42 } : Room).slots) := by
  refine MetFree.of_bodySF (plainFor_of_name pno11) hisR ?_
  intro p e s m args below meth c s₁ Bd hml0 hP hK
  obtain ⟨rfl, hZ, hh⟩ := hP
  have hlk : meth.locks = false := BodyLoose.notSynchronized Bd
  have hx := Bd.exec
  have hby := Bd.bytes
  have hml : c.maxLocals = 1 := hml0
  have hown : s.vm.findClass "biaxial/cli/Forms$Operand" = some m.cls := findClass_of_methodNamed Bd.named
  have hnm := (name_of_methodNamed Bd.named Bd.method).1
  have X0 : Stand p l e ({ frames := 3, cells := 1, slots := 5, locals := 42 } : Room) s m #[(.ref o0)] below meth c s₁ [] 0 0 := Stand.of_body Bd
  have e0 : s₁.heap = h0 := by rw [← hh, Bd.state]; rfl
  have N0 := Fr.nil n0
  obtain ⟨S0, hS0⟩ : ∃ S0, S0 = s₁.setTop (entryFrame m #[(.ref o0)] 1) := ⟨_, rfl⟩
  have pre0 : ∀ t, Steps p.tables e below (s₁.setTop (mkF m 0 #[.val (.ref o0)] [])) t → Steps p.tables e below S0 t := fun t k => by rw [hS0]; exact castTop (efo11 m o0) k
  obtain ⟨T1, h1, X1, e1, E1, A1, D1, -, st1⟩ := newO X0 hx hZ hown (hw _ (List.mem_of_getElem? (i := 76) rfl)) (hw _ (List.mem_of_getElem? (i := 45) rfl)) (hw _ (List.mem_of_getElem? (i := 46) rfl)) e0 (g := (mkF m 0 #[.val (.ref o0)] [])) rfl (hb hby do11_0) (by decide) (by decide)
  obtain ⟨b1, g1⟩ : ∃ z, z = h0.size := ⟨_, rfl⟩
  rw [← g1] at A1 D1 st1
  have ne_o0_b1 : o0 ≠ b1 := Nat.ne_of_lt (Nat.lt_of_lt_of_le F_o0_name.lt (Nat.le_of_eq g1.symm))
  have F_o0_name__1 := F_o0_name.ext E1
  have F_o0_kind__1 := F_o0_kind.ext E1
  have F_o0_required__1 := F_o0_required.ext E1
  have F_o0_repeated__1 := F_o0_repeated.ext E1
  have F_o0_flag__1 := F_o0_flag.ext E1
  have g_b1 : n0 ≤ b1 := Nat.le_trans Z0 (Nat.le_of_eq g1.symm)
  have Zs1 : n0 ≤ h1.size := Nat.le_trans Z0 E1.1
  have sz_b1 : h0.size ≤ b1 := Nat.le_trans (Keep.refl h0 []).1 (Nat.le_of_eq g1.symm)
  have Kc1 : Keep h0 h1 [] := (Keep.refl h0 []).ext E1
  have F_b1_name : Fld Z h1 b1 "biaxial/cli/Forms$Operand" "name" "Ljava/lang/String;" .null := D1 (Or.inr (hw _ (List.mem_of_getElem? (i := 57) rfl))) (ty := (.object "java/lang/String")) (by decide)
  have F_b1_kind : Fld Z h1 b1 "biaxial/cli/Forms$Operand" "kind" "Lbiaxial/cli/Forms$Kind;" .null := D1 (Or.inr (hw _ (List.mem_of_getElem? (i := 59) rfl))) (ty := (.object "biaxial/cli/Forms$Kind")) (by decide)
  have F_b1_required : Fld Z h1 b1 "biaxial/cli/Forms$Operand" "required" "Z" (.int (0 : Int32)) := D1 (Or.inr (hw _ (List.mem_of_getElem? (i := 61) rfl))) (ty := .boolean) (by decide)
  have F_b1_repeated : Fld Z h1 b1 "biaxial/cli/Forms$Operand" "repeated" "Z" (.int (0 : Int32)) := D1 (Or.inr (hw _ (List.mem_of_getElem? (i := 63) rfl))) (ty := .boolean) (by decide)
  have F_b1_flag : Fld Z h1 b1 "biaxial/cli/Forms$Operand" "flag" "Ljava/lang/String;" .null := D1 (Or.inr (hw _ (List.mem_of_getElem? (i := 65) rfl))) (ty := (.object "java/lang/String")) (by decide)
  have K1 : ∀ t, Steps p.tables e below (T1.setTop (mkF m 3 #[.val (.ref o0)] [(.ref b1)])) t → Steps p.tables e below S0 t := fun t k => pre0 t (st1 t k)
  have K2 : ∀ t, Steps p.tables e below (T1.setTop (mkF m 5 #[.val (.ref o0)] [(.ref o0), (.ref b1), (.ref b1)])) t → Steps p.tables e below S0 t := fun t k => K1 t (by
    refine XS.dup X1.here hx rfl (hb hby do11_3) rfl rfl ?_
    show Steps p.tables e below (T1.setTop (mkF m 4 #[.val (.ref o0)] [(.ref b1), (.ref b1)])) _
    refine XS.aloadN X1.here hx rfl (hb hby do11_4) rfl rfl ?_
    show Steps p.tables e below (T1.setTop (mkF m 5 #[.val (.ref o0)] [(.ref o0), (.ref b1), (.ref b1)])) _
    exact k)
  obtain ⟨T3, X3, e3, st3⟩ := getF X1 hx hZ hown (host := "") (Or.inl (hw _ (List.mem_of_getElem? (i := 56) rfl))) Via.refl e1 F_o0_name__1 (g := (mkF m 5 #[.val (.ref o0)] [(.ref o0), (.ref b1), (.ref b1)])) rfl rfl (hb hby do11_5)
  have K3 : ∀ t, Steps p.tables e below (T3.setTop (mkF m 8 #[.val (.ref o0)] [(.ref nm), (.ref b1), (.ref b1)])) t → Steps p.tables e below S0 t := fun t k => K2 t (st3 t k)
  have K4 : ∀ t, Steps p.tables e below (T3.setTop (mkF m 9 #[.val (.ref o0)] [(.ref o0), (.ref nm), (.ref b1), (.ref b1)])) t → Steps p.tables e below S0 t := fun t k => K3 t (by
    refine XS.aloadN X3.here hx rfl (hb hby do11_8) rfl rfl ?_
    show Steps p.tables e below (T3.setTop (mkF m 9 #[.val (.ref o0)] [(.ref o0), (.ref nm), (.ref b1), (.ref b1)])) _
    exact k)
  obtain ⟨T5, X5, e5, st5⟩ := getF X3 hx hZ hown (host := "") (Or.inl (hw _ (List.mem_of_getElem? (i := 58) rfl))) Via.refl e3 F_o0_kind__1 (g := (mkF m 9 #[.val (.ref o0)] [(.ref o0), (.ref nm), (.ref b1), (.ref b1)])) rfl rfl (hb hby do11_9)
  have K5 : ∀ t, Steps p.tables e below (T5.setTop (mkF m 12 #[.val (.ref o0)] [.null, (.ref nm), (.ref b1), (.ref b1)])) t → Steps p.tables e below S0 t := fun t k => K4 t (st5 t k)
  have K6 : ∀ t, Steps p.tables e below (T5.setTop (mkF m 14 #[.val (.ref o0)] [(.ref o0), (.int (0 : Int32)), .null, (.ref nm), (.ref b1), (.ref b1)])) t → Steps p.tables e below S0 t := fun t k => K5 t (by
    refine XS.iconst X5.here hx rfl (hb hby do11_12) ?_
    show Steps p.tables e below (T5.setTop (mkF m 13 #[.val (.ref o0)] [(.int (0 : Int32)), .null, (.ref nm), (.ref b1), (.ref b1)])) _
    refine XS.aloadN X5.here hx rfl (hb hby do11_13) rfl rfl ?_
    show Steps p.tables e below (T5.setTop (mkF m 14 #[.val (.ref o0)] [(.ref o0), (.int (0 : Int32)), .null, (.ref nm), (.ref b1), (.ref b1)])) _
    exact k)
  obtain ⟨T7, X7, e7, st7⟩ := getF X5 hx hZ hown (host := "") (Or.inl (hw _ (List.mem_of_getElem? (i := 62) rfl))) Via.refl e5 F_o0_repeated__1 (g := (mkF m 14 #[.val (.ref o0)] [(.ref o0), (.int (0 : Int32)), .null, (.ref nm), (.ref b1), (.ref b1)])) rfl rfl (hb hby do11_14)
  have K7 : ∀ t, Steps p.tables e below (T7.setTop (mkF m 17 #[.val (.ref o0)] [(.int rp), (.int (0 : Int32)), .null, (.ref nm), (.ref b1), (.ref b1)])) t → Steps p.tables e below S0 t := fun t k => K6 t (st7 t k)
  have K8 : ∀ t, Steps p.tables e below (T7.setTop (mkF m 18 #[.val (.ref o0)] [(.ref o0), (.int rp), (.int (0 : Int32)), .null, (.ref nm), (.ref b1), (.ref b1)])) t → Steps p.tables e below S0 t := fun t k => K7 t (by
    refine XS.aloadN X7.here hx rfl (hb hby do11_17) rfl rfl ?_
    show Steps p.tables e below (T7.setTop (mkF m 18 #[.val (.ref o0)] [(.ref o0), (.int rp), (.int (0 : Int32)), .null, (.ref nm), (.ref b1), (.ref b1)])) _
    exact k)
  obtain ⟨T9, X9, e9, st9⟩ := getF X7 hx hZ hown (host := "") (Or.inl (hw _ (List.mem_of_getElem? (i := 64) rfl))) Via.refl e7 F_o0_flag__1 (g := (mkF m 18 #[.val (.ref o0)] [(.ref o0), (.int rp), (.int (0 : Int32)), .null, (.ref nm), (.ref b1), (.ref b1)])) rfl rfl (hb hby do11_18)
  have K9 : ∀ t, Steps p.tables e below (T9.setTop (mkF m 21 #[.val (.ref o0)] [(.ref fg), (.int rp), (.int (0 : Int32)), .null, (.ref nm), (.ref b1), (.ref b1)])) t → Steps p.tables e below S0 t := fun t k => K8 t (st9 t k)
  have K_10 : ∀ t, Steps p.tables e below (T9.setTop (mkF m 21 #[.val (.ref o0)] [(.ref fg), (.int rp), (.int (0 : Int32)), .null, (.ref nm), (.ref b1), (.ref b1)])) t → Steps p.tables e below S0 t := K9
  obtain ⟨_, _, ⟨T11, L11, k11, n11⟩, -, X11, ⟨Lc11, hQ11, l11, y11, z11⟩, st11⟩ := X9.specialBack hx (y := (⟨"biaxial/cli/Forms$Operand", "<init>", "(Ljava/lang/String;Lbiaxial/cli/Forms$Kind;ZZLjava/lang/String;)V"⟩ : MethodName)) rfl hown (mvT hZ (hw _ (List.mem_of_getElem? (i := 77) rfl))) (mvT hZ (hw _ (List.mem_of_getElem? (i := 48) rfl))) (mvT hZ (hw _ (List.mem_of_getElem? (i := 49) rfl))) (by decide) (backOf (W := 1) (rmi101 l Z a0 hw [] b1 nm (0 : Int32) rp fg h1 n0 Zs1 A1 F_b1_name F_b1_kind F_b1_required F_b1_repeated F_b1_flag g_b1) hZ (hw _ (List.mem_of_getElem? (i := 49) rfl)) (hw _ (List.mem_of_getElem? (i := 46) rfl)) (by decide) (by decide)) (g := (mkF m 21 #[.val (.ref o0)] [(.ref fg), (.int rp), (.int (0 : Int32)), .null, (.ref nm), (.ref b1), (.ref b1)])) rfl (by rw [hml]; rfl) (Steps.refl _) (a := b1) (argsL := [(.ref nm), .null, (.int (0 : Int32)), (.int rp), (.ref fg)]) (rest := [(.ref b1)]) (lenOf pdo11_0 rfl) rfl (by show 2 * 0 + _ ≤ _; exact Nat.le_of_eq rfl) (hb hby do11_21) (fun _ _ => ⟨rfl, e9, (by decide : 1 + 0 ≤ 1), (by decide : 5 + 0 ≤ 5)⟩)
  dsimp only [Pt.U, Pt.locs, Pt.cells, Pt.slots] at X11 l11 y11 z11 st11 hQ11
  subst l11 y11 z11
  obtain ⟨rfl, N11q, Kp11, Fn11_0, Fn11_1, Fn11_2, Fn11_3, Fn11_4, Fn11_5⟩ := hQ11
  have N11 := Fr.app N0 N11q
  have F_o0_name__11 := F_o0_name__1.keep Kp11 (ninS ne_o0_b1 nin0)
  have F_o0_kind__11 := F_o0_kind__1.keep Kp11 (ninS ne_o0_b1 nin0)
  have F_o0_required__11 := F_o0_required__1.keep Kp11 (ninS ne_o0_b1 nin0)
  have F_o0_repeated__11 := F_o0_repeated__1.keep Kp11 (ninS ne_o0_b1 nin0)
  have F_o0_flag__11 := F_o0_flag__1.keep Kp11 (ninS ne_o0_b1 nin0)
  have Zs11 : n0 ≤ T11.heap.size := Nat.le_trans Zs1 Kp11.1
  have Kc11 : Keep h0 T11.heap [] := Kc1.trans Kp11 (allS (P := fun x => x ∈ [] ∨ h0.size ≤ x) (Or.inr sz_b1) all0)
  have K11 : ∀ t, Steps p.tables e below (T11.setTop (mkF m 24 #[.val (.ref o0)] [(.ref b1)])) t → Steps p.tables e below S0 t := fun t k => K_10 t (st11.trans k)
  obtain ⟨fs, hr, hrun, hended, hW, hsame⟩ := X11.leave (v := some (.ref b1)) (fun h => by rw [Bd.returns] at h; cases h) hlk
  refine ⟨_, _, ?_, hrun, hended, _, _, rfl, ?_, ⟨_, rfl⟩, hW, hsame.mono (by decide) (by decide)⟩
  · rw [← hS0]; exact K11 _ (retOut X11 hx Bd.returns rfl (Or.inr (Or.inr (Or.inr (Or.inr ⟨rfl, rfl, rfl⟩)))) (hb hby do11_24) hr)
  · show Qo11 Z o0 nm fg rq rp h0 n0 _ T11.heap _
    exact ⟨b1, rfl, N11, Kc11, sz_b1, Fn11_0, Fn11_1, Fn11_2, Fn11_3, Fn11_4, Fn11_5⟩
theorem dr00_0 : decode prog_84_method_4_code 0 = .ok (.new 8, 3) := by decide +kernel
theorem dr00_3 : decode prog_84_method_4_code 3 = .ok (.dup, 1) := by decide +kernel
theorem dr00_4 : decode prog_84_method_4_code 4 = .ok (.aload_n 0, 1) := by decide +kernel
theorem dr00_5 : decode prog_84_method_4_code 5 = .ok (.getfield 7, 3) := by decide +kernel
theorem dr00_8 : decode prog_84_method_4_code 8 = .ok (.aload_n 0, 1) := by decide +kernel
theorem dr00_9 : decode prog_84_method_4_code 9 = .ok (.getfield 13, 3) := by decide +kernel
theorem dr00_12 : decode prog_84_method_4_code 12 = .ok (.aload_n 0, 1) := by decide +kernel
theorem dr00_13 : decode prog_84_method_4_code 13 = .ok (.getfield 17, 3) := by decide +kernel
theorem dr00_16 : decode prog_84_method_4_code 16 = .ok (.iconst 1, 1) := by decide +kernel
theorem dr00_17 : decode prog_84_method_4_code 17 = .ok (.aload_n 0, 1) := by decide +kernel
theorem dr00_18 : decode prog_84_method_4_code 18 = .ok (.getfield 24, 3) := by decide +kernel
theorem dr00_21 : decode prog_84_method_4_code 21 = .ok (.invokespecial 27, 3) := by decide +kernel
theorem dr00_24 : decode prog_84_method_4_code 24 = .ok (.areturn, 1) := by decide +kernel
theorem pnr00 : plainName "biaxial/cli/Forms$Operand" = true := by first | (simp [plainName, overriddenIn]; done) | decide +kernel
theorem pdr00_0 : parseMethodDescriptor "(Ljava/lang/String;Lbiaxial/cli/Forms$Kind;ZZLjava/lang/String;)V" = some ⟨[(.object "java/lang/String"), (.object "biaxial/cli/Forms$Kind"), .boolean, .boolean, (.object "java/lang/String")], none⟩ := by decide +kernel
theorem efr00 (m : MethodId) (o0 : Addr) : entryFrame m #[(.ref o0)] 1 = mkF m 0 #[.val (.ref o0)] [] := by first | (simp [entryFrame, mkF, argsToLocals, Value.category]; done) | rfl
def Qr00 (Z : State) (o0 : Addr) (rq : Int32) (rp : Int32) (h0 : Heap) (n0 : Nat) (v : Option Value) (h : Heap) (L : List Loc) : Prop := ∃ (b1 : Addr), v = some (.ref b1) ∧ Fr n0 L ∧ Keep h0 h [] ∧ h0.size ≤ b1 ∧ Exa Z h b1 "biaxial/cli/Forms$Operand" ∧ Fld Z h b1 "biaxial/cli/Forms$Operand" "name" "Ljava/lang/String;" .null ∧ Fld Z h b1 "biaxial/cli/Forms$Operand" "kind" "Lbiaxial/cli/Forms$Kind;" .null ∧ Fld Z h b1 "biaxial/cli/Forms$Operand" "required" "Z" (.int (nar .boolean rq)) ∧ Fld Z h b1 "biaxial/cli/Forms$Operand" "repeated" "Z" (.int (nar .boolean (1 : Int32))) ∧ Fld Z h b1 "biaxial/cli/Forms$Operand" "flag" "Ljava/lang/String;" .null
set_option maxRecDepth 65536 in
set_option maxHeartbeats 40000000 in
theorem rmr00 (l : Launch) (Z : State) (a0 : Array Value) (hw : ∀ d ∈ tables_1, d.before a0 Z = true) (ws : List Jvm.Cond) (o0 : Addr) (rq : Int32) (rp : Int32) (h0 : Heap) (n0 : Nat) (Z0 : n0 ≤ h0.size) (F_o0_name : Fld Z h0 o0 "biaxial/cli/Forms$Operand" "name" "Ljava/lang/String;" .null) (F_o0_kind : Fld Z h0 o0 "biaxial/cli/Forms$Operand" "kind" "Lbiaxial/cli/Forms$Kind;" .null) (F_o0_required : Fld Z h0 o0 "biaxial/cli/Forms$Operand" "required" "Z" (.int rq)) (F_o0_repeated : Fld Z h0 o0 "biaxial/cli/Forms$Operand" "repeated" "Z" (.int rp)) (F_o0_flag : Fld Z h0 o0 "biaxial/cli/Forms$Operand" "flag" "Ljava/lang/String;" .null) :
    MetFree l (⟨"biaxial/cli/Forms$Operand", "repeats", "()Lbiaxial/cli/Forms$Operand;"⟩ : MethodName) (head1 (Jvm.Cond.code (⟨"biaxial/cli/Forms$Operand", "repeats", "()Lbiaxial/cli/Forms$Operand;"⟩ : MethodName) prog_84_method_4_code 1 (some (.object "biaxial/cli/Forms$Operand")) :: ws) ({ frames := 3, cells := 1, slots := 5, locals := 42 } : Room)) (fun a U => a = #[(.ref o0)] ∧ Z.Warmed39 U.vm ∧ U.heap = h0) (fun _ _ _ _ _ => True) (fun _ U o U' => ∃ v L, o = .returned v ∧ Qr00 Z o0 rq rp h0 n0 v U'.heap L ∧ FrameEnd U o U' L ({ frames := 3, cells := 1, slots := 5, locals := 42 } : Room).cells ({ frames := 3, cells := 1, slots := 5, locals := 42 } : Room).slots) := by
  refine MetFree.of_bodySF (plainFor_of_name pnr00) hisR ?_
  intro p e s m args below meth c s₁ Bd hml0 hP hK
  obtain ⟨rfl, hZ, hh⟩ := hP
  have hlk : meth.locks = false := BodyLoose.notSynchronized Bd
  have hx := Bd.exec
  have hby := Bd.bytes
  have hml : c.maxLocals = 1 := hml0
  have hown : s.vm.findClass "biaxial/cli/Forms$Operand" = some m.cls := findClass_of_methodNamed Bd.named
  have hnm := (name_of_methodNamed Bd.named Bd.method).1
  have X0 : Stand p l e ({ frames := 3, cells := 1, slots := 5, locals := 42 } : Room) s m #[(.ref o0)] below meth c s₁ [] 0 0 := Stand.of_body Bd
  have e0 : s₁.heap = h0 := by rw [← hh, Bd.state]; rfl
  have N0 := Fr.nil n0
  obtain ⟨S0, hS0⟩ : ∃ S0, S0 = s₁.setTop (entryFrame m #[(.ref o0)] 1) := ⟨_, rfl⟩
  have pre0 : ∀ t, Steps p.tables e below (s₁.setTop (mkF m 0 #[.val (.ref o0)] [])) t → Steps p.tables e below S0 t := fun t k => by rw [hS0]; exact castTop (efr00 m o0) k
  obtain ⟨T1, h1, X1, e1, E1, A1, D1, -, st1⟩ := newO X0 hx hZ hown (hw _ (List.mem_of_getElem? (i := 76) rfl)) (hw _ (List.mem_of_getElem? (i := 45) rfl)) (hw _ (List.mem_of_getElem? (i := 46) rfl)) e0 (g := (mkF m 0 #[.val (.ref o0)] [])) rfl (hb hby dr00_0) (by decide) (by decide)
  obtain ⟨b1, g1⟩ : ∃ z, z = h0.size := ⟨_, rfl⟩
  rw [← g1] at A1 D1 st1
  have ne_o0_b1 : o0 ≠ b1 := Nat.ne_of_lt (Nat.lt_of_lt_of_le F_o0_name.lt (Nat.le_of_eq g1.symm))
  have F_o0_name__1 := F_o0_name.ext E1
  have F_o0_kind__1 := F_o0_kind.ext E1
  have F_o0_required__1 := F_o0_required.ext E1
  have F_o0_repeated__1 := F_o0_repeated.ext E1
  have F_o0_flag__1 := F_o0_flag.ext E1
  have g_b1 : n0 ≤ b1 := Nat.le_trans Z0 (Nat.le_of_eq g1.symm)
  have Zs1 : n0 ≤ h1.size := Nat.le_trans Z0 E1.1
  have sz_b1 : h0.size ≤ b1 := Nat.le_trans (Keep.refl h0 []).1 (Nat.le_of_eq g1.symm)
  have Kc1 : Keep h0 h1 [] := (Keep.refl h0 []).ext E1
  have F_b1_name : Fld Z h1 b1 "biaxial/cli/Forms$Operand" "name" "Ljava/lang/String;" .null := D1 (Or.inr (hw _ (List.mem_of_getElem? (i := 57) rfl))) (ty := (.object "java/lang/String")) (by decide)
  have F_b1_kind : Fld Z h1 b1 "biaxial/cli/Forms$Operand" "kind" "Lbiaxial/cli/Forms$Kind;" .null := D1 (Or.inr (hw _ (List.mem_of_getElem? (i := 59) rfl))) (ty := (.object "biaxial/cli/Forms$Kind")) (by decide)
  have F_b1_required : Fld Z h1 b1 "biaxial/cli/Forms$Operand" "required" "Z" (.int (0 : Int32)) := D1 (Or.inr (hw _ (List.mem_of_getElem? (i := 61) rfl))) (ty := .boolean) (by decide)
  have F_b1_repeated : Fld Z h1 b1 "biaxial/cli/Forms$Operand" "repeated" "Z" (.int (0 : Int32)) := D1 (Or.inr (hw _ (List.mem_of_getElem? (i := 63) rfl))) (ty := .boolean) (by decide)
  have F_b1_flag : Fld Z h1 b1 "biaxial/cli/Forms$Operand" "flag" "Ljava/lang/String;" .null := D1 (Or.inr (hw _ (List.mem_of_getElem? (i := 65) rfl))) (ty := (.object "java/lang/String")) (by decide)
  have K1 : ∀ t, Steps p.tables e below (T1.setTop (mkF m 3 #[.val (.ref o0)] [(.ref b1)])) t → Steps p.tables e below S0 t := fun t k => pre0 t (st1 t k)
  have K2 : ∀ t, Steps p.tables e below (T1.setTop (mkF m 5 #[.val (.ref o0)] [(.ref o0), (.ref b1), (.ref b1)])) t → Steps p.tables e below S0 t := fun t k => K1 t (by
    refine XS.dup X1.here hx rfl (hb hby dr00_3) rfl rfl ?_
    show Steps p.tables e below (T1.setTop (mkF m 4 #[.val (.ref o0)] [(.ref b1), (.ref b1)])) _
    refine XS.aloadN X1.here hx rfl (hb hby dr00_4) rfl rfl ?_
    show Steps p.tables e below (T1.setTop (mkF m 5 #[.val (.ref o0)] [(.ref o0), (.ref b1), (.ref b1)])) _
    exact k)
  obtain ⟨T3, X3, e3, st3⟩ := getF X1 hx hZ hown (host := "") (Or.inl (hw _ (List.mem_of_getElem? (i := 56) rfl))) Via.refl e1 F_o0_name__1 (g := (mkF m 5 #[.val (.ref o0)] [(.ref o0), (.ref b1), (.ref b1)])) rfl rfl (hb hby dr00_5)
  have K3 : ∀ t, Steps p.tables e below (T3.setTop (mkF m 8 #[.val (.ref o0)] [.null, (.ref b1), (.ref b1)])) t → Steps p.tables e below S0 t := fun t k => K2 t (st3 t k)
  have K4 : ∀ t, Steps p.tables e below (T3.setTop (mkF m 9 #[.val (.ref o0)] [(.ref o0), .null, (.ref b1), (.ref b1)])) t → Steps p.tables e below S0 t := fun t k => K3 t (by
    refine XS.aloadN X3.here hx rfl (hb hby dr00_8) rfl rfl ?_
    show Steps p.tables e below (T3.setTop (mkF m 9 #[.val (.ref o0)] [(.ref o0), .null, (.ref b1), (.ref b1)])) _
    exact k)
  obtain ⟨T5, X5, e5, st5⟩ := getF X3 hx hZ hown (host := "") (Or.inl (hw _ (List.mem_of_getElem? (i := 58) rfl))) Via.refl e3 F_o0_kind__1 (g := (mkF m 9 #[.val (.ref o0)] [(.ref o0), .null, (.ref b1), (.ref b1)])) rfl rfl (hb hby dr00_9)
  have K5 : ∀ t, Steps p.tables e below (T5.setTop (mkF m 12 #[.val (.ref o0)] [.null, .null, (.ref b1), (.ref b1)])) t → Steps p.tables e below S0 t := fun t k => K4 t (st5 t k)
  have K6 : ∀ t, Steps p.tables e below (T5.setTop (mkF m 13 #[.val (.ref o0)] [(.ref o0), .null, .null, (.ref b1), (.ref b1)])) t → Steps p.tables e below S0 t := fun t k => K5 t (by
    refine XS.aloadN X5.here hx rfl (hb hby dr00_12) rfl rfl ?_
    show Steps p.tables e below (T5.setTop (mkF m 13 #[.val (.ref o0)] [(.ref o0), .null, .null, (.ref b1), (.ref b1)])) _
    exact k)
  obtain ⟨T7, X7, e7, st7⟩ := getF X5 hx hZ hown (host := "") (Or.inl (hw _ (List.mem_of_getElem? (i := 60) rfl))) Via.refl e5 F_o0_required__1 (g := (mkF m 13 #[.val (.ref o0)] [(.ref o0), .null, .null, (.ref b1), (.ref b1)])) rfl rfl (hb hby dr00_13)
  have K7 : ∀ t, Steps p.tables e below (T7.setTop (mkF m 16 #[.val (.ref o0)] [(.int rq), .null, .null, (.ref b1), (.ref b1)])) t → Steps p.tables e below S0 t := fun t k => K6 t (st7 t k)
  have K8 : ∀ t, Steps p.tables e below (T7.setTop (mkF m 18 #[.val (.ref o0)] [(.ref o0), (.int (1 : Int32)), (.int rq), .null, .null, (.ref b1), (.ref b1)])) t → Steps p.tables e below S0 t := fun t k => K7 t (by
    refine XS.iconst X7.here hx rfl (hb hby dr00_16) ?_
    show Steps p.tables e below (T7.setTop (mkF m 17 #[.val (.ref o0)] [(.int (1 : Int32)), (.int rq), .null, .null, (.ref b1), (.ref b1)])) _
    refine XS.aloadN X7.here hx rfl (hb hby dr00_17) rfl rfl ?_
    show Steps p.tables e below (T7.setTop (mkF m 18 #[.val (.ref o0)] [(.ref o0), (.int (1 : Int32)), (.int rq), .null, .null, (.ref b1), (.ref b1)])) _
    exact k)
  obtain ⟨T9, X9, e9, st9⟩ := getF X7 hx hZ hown (host := "") (Or.inl (hw _ (List.mem_of_getElem? (i := 64) rfl))) Via.refl e7 F_o0_flag__1 (g := (mkF m 18 #[.val (.ref o0)] [(.ref o0), (.int (1 : Int32)), (.int rq), .null, .null, (.ref b1), (.ref b1)])) rfl rfl (hb hby dr00_18)
  have K9 : ∀ t, Steps p.tables e below (T9.setTop (mkF m 21 #[.val (.ref o0)] [.null, (.int (1 : Int32)), (.int rq), .null, .null, (.ref b1), (.ref b1)])) t → Steps p.tables e below S0 t := fun t k => K8 t (st9 t k)
  have K_10 : ∀ t, Steps p.tables e below (T9.setTop (mkF m 21 #[.val (.ref o0)] [.null, (.int (1 : Int32)), (.int rq), .null, .null, (.ref b1), (.ref b1)])) t → Steps p.tables e below S0 t := K9
  obtain ⟨_, _, ⟨T11, L11, k11, n11⟩, -, X11, ⟨Lc11, hQ11, l11, y11, z11⟩, st11⟩ := X9.specialBack hx (y := (⟨"biaxial/cli/Forms$Operand", "<init>", "(Ljava/lang/String;Lbiaxial/cli/Forms$Kind;ZZLjava/lang/String;)V"⟩ : MethodName)) rfl hown (mvT hZ (hw _ (List.mem_of_getElem? (i := 77) rfl))) (mvT hZ (hw _ (List.mem_of_getElem? (i := 48) rfl))) (mvT hZ (hw _ (List.mem_of_getElem? (i := 49) rfl))) (by decide) (backOf (W := 1) (rmi000 l Z a0 hw [] b1 rq (1 : Int32) h1 n0 Zs1 A1 F_b1_name F_b1_kind F_b1_required F_b1_repeated F_b1_flag g_b1) hZ (hw _ (List.mem_of_getElem? (i := 49) rfl)) (hw _ (List.mem_of_getElem? (i := 46) rfl)) (by decide) (by decide)) (g := (mkF m 21 #[.val (.ref o0)] [.null, (.int (1 : Int32)), (.int rq), .null, .null, (.ref b1), (.ref b1)])) rfl (by rw [hml]; rfl) (Steps.refl _) (a := b1) (argsL := [.null, .null, (.int rq), (.int (1 : Int32)), .null]) (rest := [(.ref b1)]) (lenOf pdr00_0 rfl) rfl (by show 2 * 0 + _ ≤ _; exact Nat.le_of_eq rfl) (hb hby dr00_21) (fun _ _ => ⟨rfl, e9, (by decide : 1 + 0 ≤ 1), (by decide : 5 + 0 ≤ 5)⟩)
  dsimp only [Pt.U, Pt.locs, Pt.cells, Pt.slots] at X11 l11 y11 z11 st11 hQ11
  subst l11 y11 z11
  obtain ⟨rfl, N11q, Kp11, Fn11_0, Fn11_1, Fn11_2, Fn11_3, Fn11_4, Fn11_5⟩ := hQ11
  have N11 := Fr.app N0 N11q
  have F_o0_name__11 := F_o0_name__1.keep Kp11 (ninS ne_o0_b1 nin0)
  have F_o0_kind__11 := F_o0_kind__1.keep Kp11 (ninS ne_o0_b1 nin0)
  have F_o0_required__11 := F_o0_required__1.keep Kp11 (ninS ne_o0_b1 nin0)
  have F_o0_repeated__11 := F_o0_repeated__1.keep Kp11 (ninS ne_o0_b1 nin0)
  have F_o0_flag__11 := F_o0_flag__1.keep Kp11 (ninS ne_o0_b1 nin0)
  have Zs11 : n0 ≤ T11.heap.size := Nat.le_trans Zs1 Kp11.1
  have Kc11 : Keep h0 T11.heap [] := Kc1.trans Kp11 (allS (P := fun x => x ∈ [] ∨ h0.size ≤ x) (Or.inr sz_b1) all0)
  have K11 : ∀ t, Steps p.tables e below (T11.setTop (mkF m 24 #[.val (.ref o0)] [(.ref b1)])) t → Steps p.tables e below S0 t := fun t k => K_10 t (st11.trans k)
  obtain ⟨fs, hr, hrun, hended, hW, hsame⟩ := X11.leave (v := some (.ref b1)) (fun h => by rw [Bd.returns] at h; cases h) hlk
  refine ⟨_, _, ?_, hrun, hended, _, _, rfl, ?_, ⟨_, rfl⟩, hW, hsame.mono (by decide) (by decide)⟩
  · rw [← hS0]; exact K11 _ (retOut X11 hx Bd.returns rfl (Or.inr (Or.inr (Or.inr (Or.inr ⟨rfl, rfl, rfl⟩)))) (hb hby dr00_24) hr)
  · show Qr00 Z o0 rq rp h0 n0 _ T11.heap _
    exact ⟨b1, rfl, N11, Kc11, sz_b1, Fn11_0, Fn11_1, Fn11_2, Fn11_3, Fn11_4, Fn11_5⟩
theorem dr01_0 : decode prog_84_method_4_code 0 = .ok (.new 8, 3) := by decide +kernel
theorem dr01_3 : decode prog_84_method_4_code 3 = .ok (.dup, 1) := by decide +kernel
theorem dr01_4 : decode prog_84_method_4_code 4 = .ok (.aload_n 0, 1) := by decide +kernel
theorem dr01_5 : decode prog_84_method_4_code 5 = .ok (.getfield 7, 3) := by decide +kernel
theorem dr01_8 : decode prog_84_method_4_code 8 = .ok (.aload_n 0, 1) := by decide +kernel
theorem dr01_9 : decode prog_84_method_4_code 9 = .ok (.getfield 13, 3) := by decide +kernel
theorem dr01_12 : decode prog_84_method_4_code 12 = .ok (.aload_n 0, 1) := by decide +kernel
theorem dr01_13 : decode prog_84_method_4_code 13 = .ok (.getfield 17, 3) := by decide +kernel
theorem dr01_16 : decode prog_84_method_4_code 16 = .ok (.iconst 1, 1) := by decide +kernel
theorem dr01_17 : decode prog_84_method_4_code 17 = .ok (.aload_n 0, 1) := by decide +kernel
theorem dr01_18 : decode prog_84_method_4_code 18 = .ok (.getfield 24, 3) := by decide +kernel
theorem dr01_21 : decode prog_84_method_4_code 21 = .ok (.invokespecial 27, 3) := by decide +kernel
theorem dr01_24 : decode prog_84_method_4_code 24 = .ok (.areturn, 1) := by decide +kernel
theorem pnr01 : plainName "biaxial/cli/Forms$Operand" = true := by first | (simp [plainName, overriddenIn]; done) | decide +kernel
theorem pdr01_0 : parseMethodDescriptor "(Ljava/lang/String;Lbiaxial/cli/Forms$Kind;ZZLjava/lang/String;)V" = some ⟨[(.object "java/lang/String"), (.object "biaxial/cli/Forms$Kind"), .boolean, .boolean, (.object "java/lang/String")], none⟩ := by decide +kernel
theorem efr01 (m : MethodId) (o0 : Addr) : entryFrame m #[(.ref o0)] 1 = mkF m 0 #[.val (.ref o0)] [] := by first | (simp [entryFrame, mkF, argsToLocals, Value.category]; done) | rfl
def Qr01 (Z : State) (o0 : Addr) (fg : Addr) (rq : Int32) (rp : Int32) (h0 : Heap) (n0 : Nat) (v : Option Value) (h : Heap) (L : List Loc) : Prop := ∃ (b1 : Addr), v = some (.ref b1) ∧ Fr n0 L ∧ Keep h0 h [] ∧ h0.size ≤ b1 ∧ Exa Z h b1 "biaxial/cli/Forms$Operand" ∧ Fld Z h b1 "biaxial/cli/Forms$Operand" "name" "Ljava/lang/String;" .null ∧ Fld Z h b1 "biaxial/cli/Forms$Operand" "kind" "Lbiaxial/cli/Forms$Kind;" .null ∧ Fld Z h b1 "biaxial/cli/Forms$Operand" "required" "Z" (.int (nar .boolean rq)) ∧ Fld Z h b1 "biaxial/cli/Forms$Operand" "repeated" "Z" (.int (nar .boolean (1 : Int32))) ∧ Fld Z h b1 "biaxial/cli/Forms$Operand" "flag" "Ljava/lang/String;" (.ref fg)
set_option maxRecDepth 65536 in
set_option maxHeartbeats 40000000 in
theorem rmr01 (l : Launch) (Z : State) (a0 : Array Value) (hw : ∀ d ∈ tables_1, d.before a0 Z = true) (ws : List Jvm.Cond) (o0 : Addr) (fg : Addr) (rq : Int32) (rp : Int32) (h0 : Heap) (n0 : Nat) (Z0 : n0 ≤ h0.size) (F_o0_name : Fld Z h0 o0 "biaxial/cli/Forms$Operand" "name" "Ljava/lang/String;" .null) (F_o0_kind : Fld Z h0 o0 "biaxial/cli/Forms$Operand" "kind" "Lbiaxial/cli/Forms$Kind;" .null) (F_o0_required : Fld Z h0 o0 "biaxial/cli/Forms$Operand" "required" "Z" (.int rq)) (F_o0_repeated : Fld Z h0 o0 "biaxial/cli/Forms$Operand" "repeated" "Z" (.int rp)) (F_o0_flag : Fld Z h0 o0 "biaxial/cli/Forms$Operand" "flag" "Ljava/lang/String;" (.ref fg)) :
    MetFree l (⟨"biaxial/cli/Forms$Operand", "repeats", "()Lbiaxial/cli/Forms$Operand;"⟩ : MethodName) (head1 (Jvm.Cond.code (⟨"biaxial/cli/Forms$Operand", "repeats", "()Lbiaxial/cli/Forms$Operand;"⟩ : MethodName) prog_84_method_4_code 1 (some (.object "biaxial/cli/Forms$Operand")) :: ws) ({ frames := 3, cells := 1, slots := 5, locals := 42 } : Room)) (fun a U => a = #[(.ref o0)] ∧ Z.Warmed39 U.vm ∧ U.heap = h0) (fun _ _ _ _ _ => True) (fun _ U o U' => ∃ v L, o = .returned v ∧ Qr01 Z o0 fg rq rp h0 n0 v U'.heap L ∧ FrameEnd U o U' L ({ frames := 3, cells := 1, slots := 5, locals := 42 } : Room).cells ({ frames := 3, cells := 1, slots := 5, locals := 42 } : Room).slots) := by
  refine MetFree.of_bodySF (plainFor_of_name pnr01) hisR ?_
  intro p e s m args below meth c s₁ Bd hml0 hP hK
  obtain ⟨rfl, hZ, hh⟩ := hP
  have hlk : meth.locks = false := BodyLoose.notSynchronized Bd
  have hx := Bd.exec
  have hby := Bd.bytes
  have hml : c.maxLocals = 1 := hml0
  have hown : s.vm.findClass "biaxial/cli/Forms$Operand" = some m.cls := findClass_of_methodNamed Bd.named
  have hnm := (name_of_methodNamed Bd.named Bd.method).1
  have X0 : Stand p l e ({ frames := 3, cells := 1, slots := 5, locals := 42 } : Room) s m #[(.ref o0)] below meth c s₁ [] 0 0 := Stand.of_body Bd
  have e0 : s₁.heap = h0 := by rw [← hh, Bd.state]; rfl
  have N0 := Fr.nil n0
  obtain ⟨S0, hS0⟩ : ∃ S0, S0 = s₁.setTop (entryFrame m #[(.ref o0)] 1) := ⟨_, rfl⟩
  have pre0 : ∀ t, Steps p.tables e below (s₁.setTop (mkF m 0 #[.val (.ref o0)] [])) t → Steps p.tables e below S0 t := fun t k => by rw [hS0]; exact castTop (efr01 m o0) k
  obtain ⟨T1, h1, X1, e1, E1, A1, D1, -, st1⟩ := newO X0 hx hZ hown (hw _ (List.mem_of_getElem? (i := 76) rfl)) (hw _ (List.mem_of_getElem? (i := 45) rfl)) (hw _ (List.mem_of_getElem? (i := 46) rfl)) e0 (g := (mkF m 0 #[.val (.ref o0)] [])) rfl (hb hby dr01_0) (by decide) (by decide)
  obtain ⟨b1, g1⟩ : ∃ z, z = h0.size := ⟨_, rfl⟩
  rw [← g1] at A1 D1 st1
  have ne_o0_b1 : o0 ≠ b1 := Nat.ne_of_lt (Nat.lt_of_lt_of_le F_o0_name.lt (Nat.le_of_eq g1.symm))
  have F_o0_name__1 := F_o0_name.ext E1
  have F_o0_kind__1 := F_o0_kind.ext E1
  have F_o0_required__1 := F_o0_required.ext E1
  have F_o0_repeated__1 := F_o0_repeated.ext E1
  have F_o0_flag__1 := F_o0_flag.ext E1
  have g_b1 : n0 ≤ b1 := Nat.le_trans Z0 (Nat.le_of_eq g1.symm)
  have Zs1 : n0 ≤ h1.size := Nat.le_trans Z0 E1.1
  have sz_b1 : h0.size ≤ b1 := Nat.le_trans (Keep.refl h0 []).1 (Nat.le_of_eq g1.symm)
  have Kc1 : Keep h0 h1 [] := (Keep.refl h0 []).ext E1
  have F_b1_name : Fld Z h1 b1 "biaxial/cli/Forms$Operand" "name" "Ljava/lang/String;" .null := D1 (Or.inr (hw _ (List.mem_of_getElem? (i := 57) rfl))) (ty := (.object "java/lang/String")) (by decide)
  have F_b1_kind : Fld Z h1 b1 "biaxial/cli/Forms$Operand" "kind" "Lbiaxial/cli/Forms$Kind;" .null := D1 (Or.inr (hw _ (List.mem_of_getElem? (i := 59) rfl))) (ty := (.object "biaxial/cli/Forms$Kind")) (by decide)
  have F_b1_required : Fld Z h1 b1 "biaxial/cli/Forms$Operand" "required" "Z" (.int (0 : Int32)) := D1 (Or.inr (hw _ (List.mem_of_getElem? (i := 61) rfl))) (ty := .boolean) (by decide)
  have F_b1_repeated : Fld Z h1 b1 "biaxial/cli/Forms$Operand" "repeated" "Z" (.int (0 : Int32)) := D1 (Or.inr (hw _ (List.mem_of_getElem? (i := 63) rfl))) (ty := .boolean) (by decide)
  have F_b1_flag : Fld Z h1 b1 "biaxial/cli/Forms$Operand" "flag" "Ljava/lang/String;" .null := D1 (Or.inr (hw _ (List.mem_of_getElem? (i := 65) rfl))) (ty := (.object "java/lang/String")) (by decide)
  have K1 : ∀ t, Steps p.tables e below (T1.setTop (mkF m 3 #[.val (.ref o0)] [(.ref b1)])) t → Steps p.tables e below S0 t := fun t k => pre0 t (st1 t k)
  have K2 : ∀ t, Steps p.tables e below (T1.setTop (mkF m 5 #[.val (.ref o0)] [(.ref o0), (.ref b1), (.ref b1)])) t → Steps p.tables e below S0 t := fun t k => K1 t (by
    refine XS.dup X1.here hx rfl (hb hby dr01_3) rfl rfl ?_
    show Steps p.tables e below (T1.setTop (mkF m 4 #[.val (.ref o0)] [(.ref b1), (.ref b1)])) _
    refine XS.aloadN X1.here hx rfl (hb hby dr01_4) rfl rfl ?_
    show Steps p.tables e below (T1.setTop (mkF m 5 #[.val (.ref o0)] [(.ref o0), (.ref b1), (.ref b1)])) _
    exact k)
  obtain ⟨T3, X3, e3, st3⟩ := getF X1 hx hZ hown (host := "") (Or.inl (hw _ (List.mem_of_getElem? (i := 56) rfl))) Via.refl e1 F_o0_name__1 (g := (mkF m 5 #[.val (.ref o0)] [(.ref o0), (.ref b1), (.ref b1)])) rfl rfl (hb hby dr01_5)
  have K3 : ∀ t, Steps p.tables e below (T3.setTop (mkF m 8 #[.val (.ref o0)] [.null, (.ref b1), (.ref b1)])) t → Steps p.tables e below S0 t := fun t k => K2 t (st3 t k)
  have K4 : ∀ t, Steps p.tables e below (T3.setTop (mkF m 9 #[.val (.ref o0)] [(.ref o0), .null, (.ref b1), (.ref b1)])) t → Steps p.tables e below S0 t := fun t k => K3 t (by
    refine XS.aloadN X3.here hx rfl (hb hby dr01_8) rfl rfl ?_
    show Steps p.tables e below (T3.setTop (mkF m 9 #[.val (.ref o0)] [(.ref o0), .null, (.ref b1), (.ref b1)])) _
    exact k)
  obtain ⟨T5, X5, e5, st5⟩ := getF X3 hx hZ hown (host := "") (Or.inl (hw _ (List.mem_of_getElem? (i := 58) rfl))) Via.refl e3 F_o0_kind__1 (g := (mkF m 9 #[.val (.ref o0)] [(.ref o0), .null, (.ref b1), (.ref b1)])) rfl rfl (hb hby dr01_9)
  have K5 : ∀ t, Steps p.tables e below (T5.setTop (mkF m 12 #[.val (.ref o0)] [.null, .null, (.ref b1), (.ref b1)])) t → Steps p.tables e below S0 t := fun t k => K4 t (st5 t k)
  have K6 : ∀ t, Steps p.tables e below (T5.setTop (mkF m 13 #[.val (.ref o0)] [(.ref o0), .null, .null, (.ref b1), (.ref b1)])) t → Steps p.tables e below S0 t := fun t k => K5 t (by
    refine XS.aloadN X5.here hx rfl (hb hby dr01_12) rfl rfl ?_
    show Steps p.tables e below (T5.setTop (mkF m 13 #[.val (.ref o0)] [(.ref o0), .null, .null, (.ref b1), (.ref b1)])) _
    exact k)
  obtain ⟨T7, X7, e7, st7⟩ := getF X5 hx hZ hown (host := "") (Or.inl (hw _ (List.mem_of_getElem? (i := 60) rfl))) Via.refl e5 F_o0_required__1 (g := (mkF m 13 #[.val (.ref o0)] [(.ref o0), .null, .null, (.ref b1), (.ref b1)])) rfl rfl (hb hby dr01_13)
  have K7 : ∀ t, Steps p.tables e below (T7.setTop (mkF m 16 #[.val (.ref o0)] [(.int rq), .null, .null, (.ref b1), (.ref b1)])) t → Steps p.tables e below S0 t := fun t k => K6 t (st7 t k)
  have K8 : ∀ t, Steps p.tables e below (T7.setTop (mkF m 18 #[.val (.ref o0)] [(.ref o0), (.int (1 : Int32)), (.int rq), .null, .null, (.ref b1), (.ref b1)])) t → Steps p.tables e below S0 t := fun t k => K7 t (by
    refine XS.iconst X7.here hx rfl (hb hby dr01_16) ?_
    show Steps p.tables e below (T7.setTop (mkF m 17 #[.val (.ref o0)] [(.int (1 : Int32)), (.int rq), .null, .null, (.ref b1), (.ref b1)])) _
    refine XS.aloadN X7.here hx rfl (hb hby dr01_17) rfl rfl ?_
    show Steps p.tables e below (T7.setTop (mkF m 18 #[.val (.ref o0)] [(.ref o0), (.int (1 : Int32)), (.int rq), .null, .null, (.ref b1), (.ref b1)])) _
    exact k)
  obtain ⟨T9, X9, e9, st9⟩ := getF X7 hx hZ hown (host := "") (Or.inl (hw _ (List.mem_of_getElem? (i := 64) rfl))) Via.refl e7 F_o0_flag__1 (g := (mkF m 18 #[.val (.ref o0)] [(.ref o0), (.int (1 : Int32)), (.int rq), .null, .null, (.ref b1), (.ref b1)])) rfl rfl (hb hby dr01_18)
  have K9 : ∀ t, Steps p.tables e below (T9.setTop (mkF m 21 #[.val (.ref o0)] [(.ref fg), (.int (1 : Int32)), (.int rq), .null, .null, (.ref b1), (.ref b1)])) t → Steps p.tables e below S0 t := fun t k => K8 t (st9 t k)
  have K_10 : ∀ t, Steps p.tables e below (T9.setTop (mkF m 21 #[.val (.ref o0)] [(.ref fg), (.int (1 : Int32)), (.int rq), .null, .null, (.ref b1), (.ref b1)])) t → Steps p.tables e below S0 t := K9
  obtain ⟨_, _, ⟨T11, L11, k11, n11⟩, -, X11, ⟨Lc11, hQ11, l11, y11, z11⟩, st11⟩ := X9.specialBack hx (y := (⟨"biaxial/cli/Forms$Operand", "<init>", "(Ljava/lang/String;Lbiaxial/cli/Forms$Kind;ZZLjava/lang/String;)V"⟩ : MethodName)) rfl hown (mvT hZ (hw _ (List.mem_of_getElem? (i := 77) rfl))) (mvT hZ (hw _ (List.mem_of_getElem? (i := 48) rfl))) (mvT hZ (hw _ (List.mem_of_getElem? (i := 49) rfl))) (by decide) (backOf (W := 1) (rmi001 l Z a0 hw [] b1 rq (1 : Int32) fg h1 n0 Zs1 A1 F_b1_name F_b1_kind F_b1_required F_b1_repeated F_b1_flag g_b1) hZ (hw _ (List.mem_of_getElem? (i := 49) rfl)) (hw _ (List.mem_of_getElem? (i := 46) rfl)) (by decide) (by decide)) (g := (mkF m 21 #[.val (.ref o0)] [(.ref fg), (.int (1 : Int32)), (.int rq), .null, .null, (.ref b1), (.ref b1)])) rfl (by rw [hml]; rfl) (Steps.refl _) (a := b1) (argsL := [.null, .null, (.int rq), (.int (1 : Int32)), (.ref fg)]) (rest := [(.ref b1)]) (lenOf pdr01_0 rfl) rfl (by show 2 * 0 + _ ≤ _; exact Nat.le_of_eq rfl) (hb hby dr01_21) (fun _ _ => ⟨rfl, e9, (by decide : 1 + 0 ≤ 1), (by decide : 5 + 0 ≤ 5)⟩)
  dsimp only [Pt.U, Pt.locs, Pt.cells, Pt.slots] at X11 l11 y11 z11 st11 hQ11
  subst l11 y11 z11
  obtain ⟨rfl, N11q, Kp11, Fn11_0, Fn11_1, Fn11_2, Fn11_3, Fn11_4, Fn11_5⟩ := hQ11
  have N11 := Fr.app N0 N11q
  have F_o0_name__11 := F_o0_name__1.keep Kp11 (ninS ne_o0_b1 nin0)
  have F_o0_kind__11 := F_o0_kind__1.keep Kp11 (ninS ne_o0_b1 nin0)
  have F_o0_required__11 := F_o0_required__1.keep Kp11 (ninS ne_o0_b1 nin0)
  have F_o0_repeated__11 := F_o0_repeated__1.keep Kp11 (ninS ne_o0_b1 nin0)
  have F_o0_flag__11 := F_o0_flag__1.keep Kp11 (ninS ne_o0_b1 nin0)
  have Zs11 : n0 ≤ T11.heap.size := Nat.le_trans Zs1 Kp11.1
  have Kc11 : Keep h0 T11.heap [] := Kc1.trans Kp11 (allS (P := fun x => x ∈ [] ∨ h0.size ≤ x) (Or.inr sz_b1) all0)
  have K11 : ∀ t, Steps p.tables e below (T11.setTop (mkF m 24 #[.val (.ref o0)] [(.ref b1)])) t → Steps p.tables e below S0 t := fun t k => K_10 t (st11.trans k)
  obtain ⟨fs, hr, hrun, hended, hW, hsame⟩ := X11.leave (v := some (.ref b1)) (fun h => by rw [Bd.returns] at h; cases h) hlk
  refine ⟨_, _, ?_, hrun, hended, _, _, rfl, ?_, ⟨_, rfl⟩, hW, hsame.mono (by decide) (by decide)⟩
  · rw [← hS0]; exact K11 _ (retOut X11 hx Bd.returns rfl (Or.inr (Or.inr (Or.inr (Or.inr ⟨rfl, rfl, rfl⟩)))) (hb hby dr01_24) hr)
  · show Qr01 Z o0 fg rq rp h0 n0 _ T11.heap _
    exact ⟨b1, rfl, N11, Kc11, sz_b1, Fn11_0, Fn11_1, Fn11_2, Fn11_3, Fn11_4, Fn11_5⟩
theorem dr10_0 : decode prog_84_method_4_code 0 = .ok (.new 8, 3) := by decide +kernel
theorem dr10_3 : decode prog_84_method_4_code 3 = .ok (.dup, 1) := by decide +kernel
theorem dr10_4 : decode prog_84_method_4_code 4 = .ok (.aload_n 0, 1) := by decide +kernel
theorem dr10_5 : decode prog_84_method_4_code 5 = .ok (.getfield 7, 3) := by decide +kernel
theorem dr10_8 : decode prog_84_method_4_code 8 = .ok (.aload_n 0, 1) := by decide +kernel
theorem dr10_9 : decode prog_84_method_4_code 9 = .ok (.getfield 13, 3) := by decide +kernel
theorem dr10_12 : decode prog_84_method_4_code 12 = .ok (.aload_n 0, 1) := by decide +kernel
theorem dr10_13 : decode prog_84_method_4_code 13 = .ok (.getfield 17, 3) := by decide +kernel
theorem dr10_16 : decode prog_84_method_4_code 16 = .ok (.iconst 1, 1) := by decide +kernel
theorem dr10_17 : decode prog_84_method_4_code 17 = .ok (.aload_n 0, 1) := by decide +kernel
theorem dr10_18 : decode prog_84_method_4_code 18 = .ok (.getfield 24, 3) := by decide +kernel
theorem dr10_21 : decode prog_84_method_4_code 21 = .ok (.invokespecial 27, 3) := by decide +kernel
theorem dr10_24 : decode prog_84_method_4_code 24 = .ok (.areturn, 1) := by decide +kernel
theorem pnr10 : plainName "biaxial/cli/Forms$Operand" = true := by first | (simp [plainName, overriddenIn]; done) | decide +kernel
theorem pdr10_0 : parseMethodDescriptor "(Ljava/lang/String;Lbiaxial/cli/Forms$Kind;ZZLjava/lang/String;)V" = some ⟨[(.object "java/lang/String"), (.object "biaxial/cli/Forms$Kind"), .boolean, .boolean, (.object "java/lang/String")], none⟩ := by decide +kernel
theorem efr10 (m : MethodId) (o0 : Addr) : entryFrame m #[(.ref o0)] 1 = mkF m 0 #[.val (.ref o0)] [] := by first | (simp [entryFrame, mkF, argsToLocals, Value.category]; done) | rfl
def Qr10 (Z : State) (o0 : Addr) (nm : Addr) (rq : Int32) (rp : Int32) (h0 : Heap) (n0 : Nat) (v : Option Value) (h : Heap) (L : List Loc) : Prop := ∃ (b1 : Addr), v = some (.ref b1) ∧ Fr n0 L ∧ Keep h0 h [] ∧ h0.size ≤ b1 ∧ Exa Z h b1 "biaxial/cli/Forms$Operand" ∧ Fld Z h b1 "biaxial/cli/Forms$Operand" "name" "Ljava/lang/String;" (.ref nm) ∧ Fld Z h b1 "biaxial/cli/Forms$Operand" "kind" "Lbiaxial/cli/Forms$Kind;" .null ∧ Fld Z h b1 "biaxial/cli/Forms$Operand" "required" "Z" (.int (nar .boolean rq)) ∧ Fld Z h b1 "biaxial/cli/Forms$Operand" "repeated" "Z" (.int (nar .boolean (1 : Int32))) ∧ Fld Z h b1 "biaxial/cli/Forms$Operand" "flag" "Ljava/lang/String;" .null
set_option maxRecDepth 65536 in
set_option maxHeartbeats 40000000 in
theorem rmr10 (l : Launch) (Z : State) (a0 : Array Value) (hw : ∀ d ∈ tables_1, d.before a0 Z = true) (ws : List Jvm.Cond) (o0 : Addr) (nm : Addr) (rq : Int32) (rp : Int32) (h0 : Heap) (n0 : Nat) (Z0 : n0 ≤ h0.size) (F_o0_name : Fld Z h0 o0 "biaxial/cli/Forms$Operand" "name" "Ljava/lang/String;" (.ref nm)) (F_o0_kind : Fld Z h0 o0 "biaxial/cli/Forms$Operand" "kind" "Lbiaxial/cli/Forms$Kind;" .null) (F_o0_required : Fld Z h0 o0 "biaxial/cli/Forms$Operand" "required" "Z" (.int rq)) (F_o0_repeated : Fld Z h0 o0 "biaxial/cli/Forms$Operand" "repeated" "Z" (.int rp)) (F_o0_flag : Fld Z h0 o0 "biaxial/cli/Forms$Operand" "flag" "Ljava/lang/String;" .null) :
    MetFree l (⟨"biaxial/cli/Forms$Operand", "repeats", "()Lbiaxial/cli/Forms$Operand;"⟩ : MethodName) (head1 (Jvm.Cond.code (⟨"biaxial/cli/Forms$Operand", "repeats", "()Lbiaxial/cli/Forms$Operand;"⟩ : MethodName) prog_84_method_4_code 1 (some (.object "biaxial/cli/Forms$Operand")) :: ws) ({ frames := 3, cells := 1, slots := 5, locals := 42 } : Room)) (fun a U => a = #[(.ref o0)] ∧ Z.Warmed39 U.vm ∧ U.heap = h0) (fun _ _ _ _ _ => True) (fun _ U o U' => ∃ v L, o = .returned v ∧ Qr10 Z o0 nm rq rp h0 n0 v U'.heap L ∧ FrameEnd U o U' L ({ frames := 3, cells := 1, slots := 5, locals := 42 } : Room).cells ({ frames := 3, cells := 1, slots := 5, locals := 42 } : Room).slots) := by
  refine MetFree.of_bodySF (plainFor_of_name pnr10) hisR ?_
  intro p e s m args below meth c s₁ Bd hml0 hP hK
  obtain ⟨rfl, hZ, hh⟩ := hP
  have hlk : meth.locks = false := BodyLoose.notSynchronized Bd
  have hx := Bd.exec
  have hby := Bd.bytes
  have hml : c.maxLocals = 1 := hml0
  have hown : s.vm.findClass "biaxial/cli/Forms$Operand" = some m.cls := findClass_of_methodNamed Bd.named
  have hnm := (name_of_methodNamed Bd.named Bd.method).1
  have X0 : Stand p l e ({ frames := 3, cells := 1, slots := 5, locals := 42 } : Room) s m #[(.ref o0)] below meth c s₁ [] 0 0 := Stand.of_body Bd
  have e0 : s₁.heap = h0 := by rw [← hh, Bd.state]; rfl
  have N0 := Fr.nil n0
  obtain ⟨S0, hS0⟩ : ∃ S0, S0 = s₁.setTop (entryFrame m #[(.ref o0)] 1) := ⟨_, rfl⟩
  have pre0 : ∀ t, Steps p.tables e below (s₁.setTop (mkF m 0 #[.val (.ref o0)] [])) t → Steps p.tables e below S0 t := fun t k => by rw [hS0]; exact castTop (efr10 m o0) k
  obtain ⟨T1, h1, X1, e1, E1, A1, D1, -, st1⟩ := newO X0 hx hZ hown (hw _ (List.mem_of_getElem? (i := 76) rfl)) (hw _ (List.mem_of_getElem? (i := 45) rfl)) (hw _ (List.mem_of_getElem? (i := 46) rfl)) e0 (g := (mkF m 0 #[.val (.ref o0)] [])) rfl (hb hby dr10_0) (by decide) (by decide)
  obtain ⟨b1, g1⟩ : ∃ z, z = h0.size := ⟨_, rfl⟩
  rw [← g1] at A1 D1 st1
  have ne_o0_b1 : o0 ≠ b1 := Nat.ne_of_lt (Nat.lt_of_lt_of_le F_o0_name.lt (Nat.le_of_eq g1.symm))
  have F_o0_name__1 := F_o0_name.ext E1
  have F_o0_kind__1 := F_o0_kind.ext E1
  have F_o0_required__1 := F_o0_required.ext E1
  have F_o0_repeated__1 := F_o0_repeated.ext E1
  have F_o0_flag__1 := F_o0_flag.ext E1
  have g_b1 : n0 ≤ b1 := Nat.le_trans Z0 (Nat.le_of_eq g1.symm)
  have Zs1 : n0 ≤ h1.size := Nat.le_trans Z0 E1.1
  have sz_b1 : h0.size ≤ b1 := Nat.le_trans (Keep.refl h0 []).1 (Nat.le_of_eq g1.symm)
  have Kc1 : Keep h0 h1 [] := (Keep.refl h0 []).ext E1
  have F_b1_name : Fld Z h1 b1 "biaxial/cli/Forms$Operand" "name" "Ljava/lang/String;" .null := D1 (Or.inr (hw _ (List.mem_of_getElem? (i := 57) rfl))) (ty := (.object "java/lang/String")) (by decide)
  have F_b1_kind : Fld Z h1 b1 "biaxial/cli/Forms$Operand" "kind" "Lbiaxial/cli/Forms$Kind;" .null := D1 (Or.inr (hw _ (List.mem_of_getElem? (i := 59) rfl))) (ty := (.object "biaxial/cli/Forms$Kind")) (by decide)
  have F_b1_required : Fld Z h1 b1 "biaxial/cli/Forms$Operand" "required" "Z" (.int (0 : Int32)) := D1 (Or.inr (hw _ (List.mem_of_getElem? (i := 61) rfl))) (ty := .boolean) (by decide)
  have F_b1_repeated : Fld Z h1 b1 "biaxial/cli/Forms$Operand" "repeated" "Z" (.int (0 : Int32)) := D1 (Or.inr (hw _ (List.mem_of_getElem? (i := 63) rfl))) (ty := .boolean) (by decide)
  have F_b1_flag : Fld Z h1 b1 "biaxial/cli/Forms$Operand" "flag" "Ljava/lang/String;" .null := D1 (Or.inr (hw _ (List.mem_of_getElem? (i := 65) rfl))) (ty := (.object "java/lang/String")) (by decide)
  have K1 : ∀ t, Steps p.tables e below (T1.setTop (mkF m 3 #[.val (.ref o0)] [(.ref b1)])) t → Steps p.tables e below S0 t := fun t k => pre0 t (st1 t k)
  have K2 : ∀ t, Steps p.tables e below (T1.setTop (mkF m 5 #[.val (.ref o0)] [(.ref o0), (.ref b1), (.ref b1)])) t → Steps p.tables e below S0 t := fun t k => K1 t (by
    refine XS.dup X1.here hx rfl (hb hby dr10_3) rfl rfl ?_
    show Steps p.tables e below (T1.setTop (mkF m 4 #[.val (.ref o0)] [(.ref b1), (.ref b1)])) _
    refine XS.aloadN X1.here hx rfl (hb hby dr10_4) rfl rfl ?_
    show Steps p.tables e below (T1.setTop (mkF m 5 #[.val (.ref o0)] [(.ref o0), (.ref b1), (.ref b1)])) _
    exact k)
  obtain ⟨T3, X3, e3, st3⟩ := getF X1 hx hZ hown (host := "") (Or.inl (hw _ (List.mem_of_getElem? (i := 56) rfl))) Via.refl e1 F_o0_name__1 (g := (mkF m 5 #[.val (.ref o0)] [(.ref o0), (.ref b1), (.ref b1)])) rfl rfl (hb hby dr10_5)
  have K3 : ∀ t, Steps p.tables e below (T3.setTop (mkF m 8 #[.val (.ref o0)] [(.ref nm), (.ref b1), (.ref b1)])) t → Steps p.tables e below S0 t := fun t k => K2 t (st3 t k)
  have K4 : ∀ t, Steps p.tables e below (T3.setTop (mkF m 9 #[.val (.ref o0)] [(.ref o0), (.ref nm), (.ref b1), (.ref b1)])) t → Steps p.tables e below S0 t := fun t k => K3 t (by
    refine XS.aloadN X3.here hx rfl (hb hby dr10_8) rfl rfl ?_
    show Steps p.tables e below (T3.setTop (mkF m 9 #[.val (.ref o0)] [(.ref o0), (.ref nm), (.ref b1), (.ref b1)])) _
    exact k)
  obtain ⟨T5, X5, e5, st5⟩ := getF X3 hx hZ hown (host := "") (Or.inl (hw _ (List.mem_of_getElem? (i := 58) rfl))) Via.refl e3 F_o0_kind__1 (g := (mkF m 9 #[.val (.ref o0)] [(.ref o0), (.ref nm), (.ref b1), (.ref b1)])) rfl rfl (hb hby dr10_9)
  have K5 : ∀ t, Steps p.tables e below (T5.setTop (mkF m 12 #[.val (.ref o0)] [.null, (.ref nm), (.ref b1), (.ref b1)])) t → Steps p.tables e below S0 t := fun t k => K4 t (st5 t k)
  have K6 : ∀ t, Steps p.tables e below (T5.setTop (mkF m 13 #[.val (.ref o0)] [(.ref o0), .null, (.ref nm), (.ref b1), (.ref b1)])) t → Steps p.tables e below S0 t := fun t k => K5 t (by
    refine XS.aloadN X5.here hx rfl (hb hby dr10_12) rfl rfl ?_
    show Steps p.tables e below (T5.setTop (mkF m 13 #[.val (.ref o0)] [(.ref o0), .null, (.ref nm), (.ref b1), (.ref b1)])) _
    exact k)
  obtain ⟨T7, X7, e7, st7⟩ := getF X5 hx hZ hown (host := "") (Or.inl (hw _ (List.mem_of_getElem? (i := 60) rfl))) Via.refl e5 F_o0_required__1 (g := (mkF m 13 #[.val (.ref o0)] [(.ref o0), .null, (.ref nm), (.ref b1), (.ref b1)])) rfl rfl (hb hby dr10_13)
  have K7 : ∀ t, Steps p.tables e below (T7.setTop (mkF m 16 #[.val (.ref o0)] [(.int rq), .null, (.ref nm), (.ref b1), (.ref b1)])) t → Steps p.tables e below S0 t := fun t k => K6 t (st7 t k)
  have K8 : ∀ t, Steps p.tables e below (T7.setTop (mkF m 18 #[.val (.ref o0)] [(.ref o0), (.int (1 : Int32)), (.int rq), .null, (.ref nm), (.ref b1), (.ref b1)])) t → Steps p.tables e below S0 t := fun t k => K7 t (by
    refine XS.iconst X7.here hx rfl (hb hby dr10_16) ?_
    show Steps p.tables e below (T7.setTop (mkF m 17 #[.val (.ref o0)] [(.int (1 : Int32)), (.int rq), .null, (.ref nm), (.ref b1), (.ref b1)])) _
    refine XS.aloadN X7.here hx rfl (hb hby dr10_17) rfl rfl ?_
    show Steps p.tables e below (T7.setTop (mkF m 18 #[.val (.ref o0)] [(.ref o0), (.int (1 : Int32)), (.int rq), .null, (.ref nm), (.ref b1), (.ref b1)])) _
    exact k)
  obtain ⟨T9, X9, e9, st9⟩ := getF X7 hx hZ hown (host := "") (Or.inl (hw _ (List.mem_of_getElem? (i := 64) rfl))) Via.refl e7 F_o0_flag__1 (g := (mkF m 18 #[.val (.ref o0)] [(.ref o0), (.int (1 : Int32)), (.int rq), .null, (.ref nm), (.ref b1), (.ref b1)])) rfl rfl (hb hby dr10_18)
  have K9 : ∀ t, Steps p.tables e below (T9.setTop (mkF m 21 #[.val (.ref o0)] [.null, (.int (1 : Int32)), (.int rq), .null, (.ref nm), (.ref b1), (.ref b1)])) t → Steps p.tables e below S0 t := fun t k => K8 t (st9 t k)
  have K_10 : ∀ t, Steps p.tables e below (T9.setTop (mkF m 21 #[.val (.ref o0)] [.null, (.int (1 : Int32)), (.int rq), .null, (.ref nm), (.ref b1), (.ref b1)])) t → Steps p.tables e below S0 t := K9
  obtain ⟨_, _, ⟨T11, L11, k11, n11⟩, -, X11, ⟨Lc11, hQ11, l11, y11, z11⟩, st11⟩ := X9.specialBack hx (y := (⟨"biaxial/cli/Forms$Operand", "<init>", "(Ljava/lang/String;Lbiaxial/cli/Forms$Kind;ZZLjava/lang/String;)V"⟩ : MethodName)) rfl hown (mvT hZ (hw _ (List.mem_of_getElem? (i := 77) rfl))) (mvT hZ (hw _ (List.mem_of_getElem? (i := 48) rfl))) (mvT hZ (hw _ (List.mem_of_getElem? (i := 49) rfl))) (by decide) (backOf (W := 1) (rmi100 l Z a0 hw [] b1 nm rq (1 : Int32) h1 n0 Zs1 A1 F_b1_name F_b1_kind F_b1_required F_b1_repeated F_b1_flag g_b1) hZ (hw _ (List.mem_of_getElem? (i := 49) rfl)) (hw _ (List.mem_of_getElem? (i := 46) rfl)) (by decide) (by decide)) (g := (mkF m 21 #[.val (.ref o0)] [.null, (.int (1 : Int32)), (.int rq), .null, (.ref nm), (.ref b1), (.ref b1)])) rfl (by rw [hml]; rfl) (Steps.refl _) (a := b1) (argsL := [(.ref nm), .null, (.int rq), (.int (1 : Int32)), .null]) (rest := [(.ref b1)]) (lenOf pdr10_0 rfl) rfl (by show 2 * 0 + _ ≤ _; exact Nat.le_of_eq rfl) (hb hby dr10_21) (fun _ _ => ⟨rfl, e9, (by decide : 1 + 0 ≤ 1), (by decide : 5 + 0 ≤ 5)⟩)
  dsimp only [Pt.U, Pt.locs, Pt.cells, Pt.slots] at X11 l11 y11 z11 st11 hQ11
  subst l11 y11 z11
  obtain ⟨rfl, N11q, Kp11, Fn11_0, Fn11_1, Fn11_2, Fn11_3, Fn11_4, Fn11_5⟩ := hQ11
  have N11 := Fr.app N0 N11q
  have F_o0_name__11 := F_o0_name__1.keep Kp11 (ninS ne_o0_b1 nin0)
  have F_o0_kind__11 := F_o0_kind__1.keep Kp11 (ninS ne_o0_b1 nin0)
  have F_o0_required__11 := F_o0_required__1.keep Kp11 (ninS ne_o0_b1 nin0)
  have F_o0_repeated__11 := F_o0_repeated__1.keep Kp11 (ninS ne_o0_b1 nin0)
  have F_o0_flag__11 := F_o0_flag__1.keep Kp11 (ninS ne_o0_b1 nin0)
  have Zs11 : n0 ≤ T11.heap.size := Nat.le_trans Zs1 Kp11.1
  have Kc11 : Keep h0 T11.heap [] := Kc1.trans Kp11 (allS (P := fun x => x ∈ [] ∨ h0.size ≤ x) (Or.inr sz_b1) all0)
  have K11 : ∀ t, Steps p.tables e below (T11.setTop (mkF m 24 #[.val (.ref o0)] [(.ref b1)])) t → Steps p.tables e below S0 t := fun t k => K_10 t (st11.trans k)
  obtain ⟨fs, hr, hrun, hended, hW, hsame⟩ := X11.leave (v := some (.ref b1)) (fun h => by rw [Bd.returns] at h; cases h) hlk
  refine ⟨_, _, ?_, hrun, hended, _, _, rfl, ?_, ⟨_, rfl⟩, hW, hsame.mono (by decide) (by decide)⟩
  · rw [← hS0]; exact K11 _ (retOut X11 hx Bd.returns rfl (Or.inr (Or.inr (Or.inr (Or.inr ⟨rfl, rfl, rfl⟩)))) (hb hby dr10_24) hr)
  · show Qr10 Z o0 nm rq rp h0 n0 _ T11.heap _
    exact ⟨b1, rfl, N11, Kc11, sz_b1, Fn11_0, Fn11_1, Fn11_2, Fn11_3, Fn11_4, Fn11_5⟩
theorem dr11_0 : decode prog_84_method_4_code 0 = .ok (.new 8, 3) := by decide +kernel
theorem dr11_3 : decode prog_84_method_4_code 3 = .ok (.dup, 1) := by decide +kernel
theorem dr11_4 : decode prog_84_method_4_code 4 = .ok (.aload_n 0, 1) := by decide +kernel
theorem dr11_5 : decode prog_84_method_4_code 5 = .ok (.getfield 7, 3) := by decide +kernel
theorem dr11_8 : decode prog_84_method_4_code 8 = .ok (.aload_n 0, 1) := by decide +kernel
theorem dr11_9 : decode prog_84_method_4_code 9 = .ok (.getfield 13, 3) := by decide +kernel
theorem dr11_12 : decode prog_84_method_4_code 12 = .ok (.aload_n 0, 1) := by decide +kernel
theorem dr11_13 : decode prog_84_method_4_code 13 = .ok (.getfield 17, 3) := by decide +kernel
theorem dr11_16 : decode prog_84_method_4_code 16 = .ok (.iconst 1, 1) := by decide +kernel
theorem dr11_17 : decode prog_84_method_4_code 17 = .ok (.aload_n 0, 1) := by decide +kernel
theorem dr11_18 : decode prog_84_method_4_code 18 = .ok (.getfield 24, 3) := by decide +kernel
theorem dr11_21 : decode prog_84_method_4_code 21 = .ok (.invokespecial 27, 3) := by decide +kernel
theorem dr11_24 : decode prog_84_method_4_code 24 = .ok (.areturn, 1) := by decide +kernel
theorem pnr11 : plainName "biaxial/cli/Forms$Operand" = true := by first | (simp [plainName, overriddenIn]; done) | decide +kernel
theorem pdr11_0 : parseMethodDescriptor "(Ljava/lang/String;Lbiaxial/cli/Forms$Kind;ZZLjava/lang/String;)V" = some ⟨[(.object "java/lang/String"), (.object "biaxial/cli/Forms$Kind"), .boolean, .boolean, (.object "java/lang/String")], none⟩ := by decide +kernel
theorem efr11 (m : MethodId) (o0 : Addr) : entryFrame m #[(.ref o0)] 1 = mkF m 0 #[.val (.ref o0)] [] := by first | (simp [entryFrame, mkF, argsToLocals, Value.category]; done) | rfl
def Qr11 (Z : State) (o0 : Addr) (nm : Addr) (fg : Addr) (rq : Int32) (rp : Int32) (h0 : Heap) (n0 : Nat) (v : Option Value) (h : Heap) (L : List Loc) : Prop := ∃ (b1 : Addr), v = some (.ref b1) ∧ Fr n0 L ∧ Keep h0 h [] ∧ h0.size ≤ b1 ∧ Exa Z h b1 "biaxial/cli/Forms$Operand" ∧ Fld Z h b1 "biaxial/cli/Forms$Operand" "name" "Ljava/lang/String;" (.ref nm) ∧ Fld Z h b1 "biaxial/cli/Forms$Operand" "kind" "Lbiaxial/cli/Forms$Kind;" .null ∧ Fld Z h b1 "biaxial/cli/Forms$Operand" "required" "Z" (.int (nar .boolean rq)) ∧ Fld Z h b1 "biaxial/cli/Forms$Operand" "repeated" "Z" (.int (nar .boolean (1 : Int32))) ∧ Fld Z h b1 "biaxial/cli/Forms$Operand" "flag" "Ljava/lang/String;" (.ref fg)
set_option maxRecDepth 65536 in
set_option maxHeartbeats 40000000 in
theorem rmr11 (l : Launch) (Z : State) (a0 : Array Value) (hw : ∀ d ∈ tables_1, d.before a0 Z = true) (ws : List Jvm.Cond) (o0 : Addr) (nm : Addr) (fg : Addr) (rq : Int32) (rp : Int32) (h0 : Heap) (n0 : Nat) (Z0 : n0 ≤ h0.size) (F_o0_name : Fld Z h0 o0 "biaxial/cli/Forms$Operand" "name" "Ljava/lang/String;" (.ref nm)) (F_o0_kind : Fld Z h0 o0 "biaxial/cli/Forms$Operand" "kind" "Lbiaxial/cli/Forms$Kind;" .null) (F_o0_required : Fld Z h0 o0 "biaxial/cli/Forms$Operand" "required" "Z" (.int rq)) (F_o0_repeated : Fld Z h0 o0 "biaxial/cli/Forms$Operand" "repeated" "Z" (.int rp)) (F_o0_flag : Fld Z h0 o0 "biaxial/cli/Forms$Operand" "flag" "Ljava/lang/String;" (.ref fg)) :
    MetFree l (⟨"biaxial/cli/Forms$Operand", "repeats", "()Lbiaxial/cli/Forms$Operand;"⟩ : MethodName) (head1 (Jvm.Cond.code (⟨"biaxial/cli/Forms$Operand", "repeats", "()Lbiaxial/cli/Forms$Operand;"⟩ : MethodName) prog_84_method_4_code 1 (some (.object "biaxial/cli/Forms$Operand")) :: ws) ({ frames := 3, cells := 1, slots := 5, locals := 42 } : Room)) (fun a U => a = #[(.ref o0)] ∧ Z.Warmed39 U.vm ∧ U.heap = h0) (fun _ _ _ _ _ => True) (fun _ U o U' => ∃ v L, o = .returned v ∧ Qr11 Z o0 nm fg rq rp h0 n0 v U'.heap L ∧ FrameEnd U o U' L ({ frames := 3, cells := 1, slots := 5, locals := 42 } : Room).cells ({ frames := 3, cells := 1, slots := 5, locals := 42 } : Room).slots) := by
  refine MetFree.of_bodySF (plainFor_of_name pnr11) hisR ?_
  intro p e s m args below meth c s₁ Bd hml0 hP hK
  obtain ⟨rfl, hZ, hh⟩ := hP
  have hlk : meth.locks = false := BodyLoose.notSynchronized Bd
  have hx := Bd.exec
  have hby := Bd.bytes
  have hml : c.maxLocals = 1 := hml0
  have hown : s.vm.findClass "biaxial/cli/Forms$Operand" = some m.cls := findClass_of_methodNamed Bd.named
  have hnm := (name_of_methodNamed Bd.named Bd.method).1
  have X0 : Stand p l e ({ frames := 3, cells := 1, slots := 5, locals := 42 } : Room) s m #[(.ref o0)] below meth c s₁ [] 0 0 := Stand.of_body Bd
  have e0 : s₁.heap = h0 := by rw [← hh, Bd.state]; rfl
  have N0 := Fr.nil n0
  obtain ⟨S0, hS0⟩ : ∃ S0, S0 = s₁.setTop (entryFrame m #[(.ref o0)] 1) := ⟨_, rfl⟩
  have pre0 : ∀ t, Steps p.tables e below (s₁.setTop (mkF m 0 #[.val (.ref o0)] [])) t → Steps p.tables e below S0 t := fun t k => by rw [hS0]; exact castTop (efr11 m o0) k
  obtain ⟨T1, h1, X1, e1, E1, A1, D1, -, st1⟩ := newO X0 hx hZ hown (hw _ (List.mem_of_getElem? (i := 76) rfl)) (hw _ (List.mem_of_getElem? (i := 45) rfl)) (hw _ (List.mem_of_getElem? (i := 46) rfl)) e0 (g := (mkF m 0 #[.val (.ref o0)] [])) rfl (hb hby dr11_0) (by decide) (by decide)
  obtain ⟨b1, g1⟩ : ∃ z, z = h0.size := ⟨_, rfl⟩
  rw [← g1] at A1 D1 st1
  have ne_o0_b1 : o0 ≠ b1 := Nat.ne_of_lt (Nat.lt_of_lt_of_le F_o0_name.lt (Nat.le_of_eq g1.symm))
  have F_o0_name__1 := F_o0_name.ext E1
  have F_o0_kind__1 := F_o0_kind.ext E1
  have F_o0_required__1 := F_o0_required.ext E1
  have F_o0_repeated__1 := F_o0_repeated.ext E1
  have F_o0_flag__1 := F_o0_flag.ext E1
  have g_b1 : n0 ≤ b1 := Nat.le_trans Z0 (Nat.le_of_eq g1.symm)
  have Zs1 : n0 ≤ h1.size := Nat.le_trans Z0 E1.1
  have sz_b1 : h0.size ≤ b1 := Nat.le_trans (Keep.refl h0 []).1 (Nat.le_of_eq g1.symm)
  have Kc1 : Keep h0 h1 [] := (Keep.refl h0 []).ext E1
  have F_b1_name : Fld Z h1 b1 "biaxial/cli/Forms$Operand" "name" "Ljava/lang/String;" .null := D1 (Or.inr (hw _ (List.mem_of_getElem? (i := 57) rfl))) (ty := (.object "java/lang/String")) (by decide)
  have F_b1_kind : Fld Z h1 b1 "biaxial/cli/Forms$Operand" "kind" "Lbiaxial/cli/Forms$Kind;" .null := D1 (Or.inr (hw _ (List.mem_of_getElem? (i := 59) rfl))) (ty := (.object "biaxial/cli/Forms$Kind")) (by decide)
  have F_b1_required : Fld Z h1 b1 "biaxial/cli/Forms$Operand" "required" "Z" (.int (0 : Int32)) := D1 (Or.inr (hw _ (List.mem_of_getElem? (i := 61) rfl))) (ty := .boolean) (by decide)
  have F_b1_repeated : Fld Z h1 b1 "biaxial/cli/Forms$Operand" "repeated" "Z" (.int (0 : Int32)) := D1 (Or.inr (hw _ (List.mem_of_getElem? (i := 63) rfl))) (ty := .boolean) (by decide)
  have F_b1_flag : Fld Z h1 b1 "biaxial/cli/Forms$Operand" "flag" "Ljava/lang/String;" .null := D1 (Or.inr (hw _ (List.mem_of_getElem? (i := 65) rfl))) (ty := (.object "java/lang/String")) (by decide)
  have K1 : ∀ t, Steps p.tables e below (T1.setTop (mkF m 3 #[.val (.ref o0)] [(.ref b1)])) t → Steps p.tables e below S0 t := fun t k => pre0 t (st1 t k)
  have K2 : ∀ t, Steps p.tables e below (T1.setTop (mkF m 5 #[.val (.ref o0)] [(.ref o0), (.ref b1), (.ref b1)])) t → Steps p.tables e below S0 t := fun t k => K1 t (by
    refine XS.dup X1.here hx rfl (hb hby dr11_3) rfl rfl ?_
    show Steps p.tables e below (T1.setTop (mkF m 4 #[.val (.ref o0)] [(.ref b1), (.ref b1)])) _
    refine XS.aloadN X1.here hx rfl (hb hby dr11_4) rfl rfl ?_
    show Steps p.tables e below (T1.setTop (mkF m 5 #[.val (.ref o0)] [(.ref o0), (.ref b1), (.ref b1)])) _
    exact k)
  obtain ⟨T3, X3, e3, st3⟩ := getF X1 hx hZ hown (host := "") (Or.inl (hw _ (List.mem_of_getElem? (i := 56) rfl))) Via.refl e1 F_o0_name__1 (g := (mkF m 5 #[.val (.ref o0)] [(.ref o0), (.ref b1), (.ref b1)])) rfl rfl (hb hby dr11_5)
  have K3 : ∀ t, Steps p.tables e below (T3.setTop (mkF m 8 #[.val (.ref o0)] [(.ref nm), (.ref b1), (.ref b1)])) t → Steps p.tables e below S0 t := fun t k => K2 t (st3 t k)
  have K4 : ∀ t, Steps p.tables e below (T3.setTop (mkF m 9 #[.val (.ref o0)] [(.ref o0), (.ref nm), (.ref b1), (.ref b1)])) t → Steps p.tables e below S0 t := fun t k => K3 t (by
    refine XS.aloadN X3.here hx rfl (hb hby dr11_8) rfl rfl ?_
    show Steps p.tables e below (T3.setTop (mkF m 9 #[.val (.ref o0)] [(.ref o0), (.ref nm), (.ref b1), (.ref b1)])) _
    exact k)
  obtain ⟨T5, X5, e5, st5⟩ := getF X3 hx hZ hown (host := "") (Or.inl (hw _ (List.mem_of_getElem? (i := 58) rfl))) Via.refl e3 F_o0_kind__1 (g := (mkF m 9 #[.val (.ref o0)] [(.ref o0), (.ref nm), (.ref b1), (.ref b1)])) rfl rfl (hb hby dr11_9)
  have K5 : ∀ t, Steps p.tables e below (T5.setTop (mkF m 12 #[.val (.ref o0)] [.null, (.ref nm), (.ref b1), (.ref b1)])) t → Steps p.tables e below S0 t := fun t k => K4 t (st5 t k)
  have K6 : ∀ t, Steps p.tables e below (T5.setTop (mkF m 13 #[.val (.ref o0)] [(.ref o0), .null, (.ref nm), (.ref b1), (.ref b1)])) t → Steps p.tables e below S0 t := fun t k => K5 t (by
    refine XS.aloadN X5.here hx rfl (hb hby dr11_12) rfl rfl ?_
    show Steps p.tables e below (T5.setTop (mkF m 13 #[.val (.ref o0)] [(.ref o0), .null, (.ref nm), (.ref b1), (.ref b1)])) _
    exact k)
  obtain ⟨T7, X7, e7, st7⟩ := getF X5 hx hZ hown (host := "") (Or.inl (hw _ (List.mem_of_getElem? (i := 60) rfl))) Via.refl e5 F_o0_required__1 (g := (mkF m 13 #[.val (.ref o0)] [(.ref o0), .null, (.ref nm), (.ref b1), (.ref b1)])) rfl rfl (hb hby dr11_13)
  have K7 : ∀ t, Steps p.tables e below (T7.setTop (mkF m 16 #[.val (.ref o0)] [(.int rq), .null, (.ref nm), (.ref b1), (.ref b1)])) t → Steps p.tables e below S0 t := fun t k => K6 t (st7 t k)
  have K8 : ∀ t, Steps p.tables e below (T7.setTop (mkF m 18 #[.val (.ref o0)] [(.ref o0), (.int (1 : Int32)), (.int rq), .null, (.ref nm), (.ref b1), (.ref b1)])) t → Steps p.tables e below S0 t := fun t k => K7 t (by
    refine XS.iconst X7.here hx rfl (hb hby dr11_16) ?_
    show Steps p.tables e below (T7.setTop (mkF m 17 #[.val (.ref o0)] [(.int (1 : Int32)), (.int rq), .null, (.ref nm), (.ref b1), (.ref b1)])) _
    refine XS.aloadN X7.here hx rfl (hb hby dr11_17) rfl rfl ?_
    show Steps p.tables e below (T7.setTop (mkF m 18 #[.val (.ref o0)] [(.ref o0), (.int (1 : Int32)), (.int rq), .null, (.ref nm), (.ref b1), (.ref b1)])) _
    exact k)
  obtain ⟨T9, X9, e9, st9⟩ := getF X7 hx hZ hown (host := "") (Or.inl (hw _ (List.mem_of_getElem? (i := 64) rfl))) Via.refl e7 F_o0_flag__1 (g := (mkF m 18 #[.val (.ref o0)] [(.ref o0), (.int (1 : Int32)), (.int rq), .null, (.ref nm), (.ref b1), (.ref b1)])) rfl rfl (hb hby dr11_18)
  have K9 : ∀ t, Steps p.tables e below (T9.setTop (mkF m 21 #[.val (.ref o0)] [(.ref fg), (.int (1 : Int32)), (.int rq), .null, (.ref nm), (.ref b1), (.ref b1)])) t → Steps p.tables e below S0 t := fun t k => K8 t (st9 t k)
  have K_10 : ∀ t, Steps p.tables e below (T9.setTop (mkF m 21 #[.val (.ref o0)] [(.ref fg), (.int (1 : Int32)), (.int rq), .null, (.ref nm), (.ref b1), (.ref b1)])) t → Steps p.tables e below S0 t := K9
  obtain ⟨_, _, ⟨T11, L11, k11, n11⟩, -, X11, ⟨Lc11, hQ11, l11, y11, z11⟩, st11⟩ := X9.specialBack hx (y := (⟨"biaxial/cli/Forms$Operand", "<init>", "(Ljava/lang/String;Lbiaxial/cli/Forms$Kind;ZZLjava/lang/String;)V"⟩ : MethodName)) rfl hown (mvT hZ (hw _ (List.mem_of_getElem? (i := 77) rfl))) (mvT hZ (hw _ (List.mem_of_getElem? (i := 48) rfl))) (mvT hZ (hw _ (List.mem_of_getElem? (i := 49) rfl))) (by decide) (backOf (W := 1) (rmi101 l Z a0 hw [] b1 nm rq (1 : Int32) fg h1 n0 Zs1 A1 F_b1_name F_b1_kind F_b1_required F_b1_repeated F_b1_flag g_b1) hZ (hw _ (List.mem_of_getElem? (i := 49) rfl)) (hw _ (List.mem_of_getElem? (i := 46) rfl)) (by decide) (by decide)) (g := (mkF m 21 #[.val (.ref o0)] [(.ref fg), (.int (1 : Int32)), (.int rq), .null, (.ref nm), (.ref b1), (.ref b1)])) rfl (by rw [hml]; rfl) (Steps.refl _) (a := b1) (argsL := [(.ref nm), .null, (.int rq), (.int (1 : Int32)), (.ref fg)]) (rest := [(.ref b1)]) (lenOf pdr11_0 rfl) rfl (by show 2 * 0 + _ ≤ _; exact Nat.le_of_eq rfl) (hb hby dr11_21) (fun _ _ => ⟨rfl, e9, (by decide : 1 + 0 ≤ 1), (by decide : 5 + 0 ≤ 5)⟩)
  dsimp only [Pt.U, Pt.locs, Pt.cells, Pt.slots] at X11 l11 y11 z11 st11 hQ11
  subst l11 y11 z11
  obtain ⟨rfl, N11q, Kp11, Fn11_0, Fn11_1, Fn11_2, Fn11_3, Fn11_4, Fn11_5⟩ := hQ11
  have N11 := Fr.app N0 N11q
  have F_o0_name__11 := F_o0_name__1.keep Kp11 (ninS ne_o0_b1 nin0)
  have F_o0_kind__11 := F_o0_kind__1.keep Kp11 (ninS ne_o0_b1 nin0)
  have F_o0_required__11 := F_o0_required__1.keep Kp11 (ninS ne_o0_b1 nin0)
  have F_o0_repeated__11 := F_o0_repeated__1.keep Kp11 (ninS ne_o0_b1 nin0)
  have F_o0_flag__11 := F_o0_flag__1.keep Kp11 (ninS ne_o0_b1 nin0)
  have Zs11 : n0 ≤ T11.heap.size := Nat.le_trans Zs1 Kp11.1
  have Kc11 : Keep h0 T11.heap [] := Kc1.trans Kp11 (allS (P := fun x => x ∈ [] ∨ h0.size ≤ x) (Or.inr sz_b1) all0)
  have K11 : ∀ t, Steps p.tables e below (T11.setTop (mkF m 24 #[.val (.ref o0)] [(.ref b1)])) t → Steps p.tables e below S0 t := fun t k => K_10 t (st11.trans k)
  obtain ⟨fs, hr, hrun, hended, hW, hsame⟩ := X11.leave (v := some (.ref b1)) (fun h => by rw [Bd.returns] at h; cases h) hlk
  refine ⟨_, _, ?_, hrun, hended, _, _, rfl, ?_, ⟨_, rfl⟩, hW, hsame.mono (by decide) (by decide)⟩
  · rw [← hS0]; exact K11 _ (retOut X11 hx Bd.returns rfl (Or.inr (Or.inr (Or.inr (Or.inr ⟨rfl, rfl, rfl⟩)))) (hb hby dr11_24) hr)
  · show Qr11 Z o0 nm fg rq rp h0 n0 _ T11.heap _
    exact ⟨b1, rfl, N11, Kc11, sz_b1, Fn11_0, Fn11_1, Fn11_2, Fn11_3, Fn11_4, Fn11_5⟩
theorem dfname_0 : decode prog_76_method_6_code 0 = .ok (.new 102, 3) := by decide +kernel
theorem dfname_3 : decode prog_76_method_6_code 3 = .ok (.dup, 1) := by decide +kernel
theorem dfname_4 : decode prog_76_method_6_code 4 = .ok (.aload_n 0, 1) := by decide +kernel
theorem dfname_5 : decode prog_76_method_6_code 5 = .ok (.getstatic 207, 3) := by decide +kernel
theorem dfname_8 : decode prog_76_method_6_code 8 = .ok (.iconst 1, 1) := by decide +kernel
theorem dfname_9 : decode prog_76_method_6_code 9 = .ok (.iconst 0, 1) := by decide +kernel
theorem dfname_10 : decode prog_76_method_6_code 10 = .ok (.aconst_null, 1) := by decide +kernel
theorem dfname_11 : decode prog_76_method_6_code 11 = .ok (.invokespecial 204, 3) := by decide +kernel
theorem dfname_14 : decode prog_76_method_6_code 14 = .ok (.areturn, 1) := by decide +kernel
theorem pnfname : plainName "biaxial/cli/Forms" = true := by first | (simp [plainName, overriddenIn]; done) | decide +kernel
theorem pdfname_0 : parseMethodDescriptor "(Ljava/lang/String;Lbiaxial/cli/Forms$Kind;ZZLjava/lang/String;)V" = some ⟨[(.object "java/lang/String"), (.object "biaxial/cli/Forms$Kind"), .boolean, .boolean, (.object "java/lang/String")], none⟩ := by decide +kernel
theorem effname (m : MethodId) (o0 : Addr) : entryFrame m #[(.ref o0)] 1 = mkF m 0 #[.val (.ref o0)] [] := by first | (simp [entryFrame, mkF, argsToLocals, Value.category]; done) | rfl
def Qfname (Z : State) (o0 : Addr) (kd : Addr) (h0 : Heap) (n0 : Nat) (v : Option Value) (h : Heap) (L : List Loc) : Prop := ∃ (b1 : Addr), v = some (.ref b1) ∧ Fr n0 L ∧ Keep h0 h [] ∧ h0.size ≤ b1 ∧ Exa Z h b1 "biaxial/cli/Forms$Operand" ∧ Fld Z h b1 "biaxial/cli/Forms$Operand" "name" "Ljava/lang/String;" (.ref o0) ∧ Fld Z h b1 "biaxial/cli/Forms$Operand" "kind" "Lbiaxial/cli/Forms$Kind;" (.ref kd) ∧ Fld Z h b1 "biaxial/cli/Forms$Operand" "required" "Z" (.int (nar .boolean (1 : Int32))) ∧ Fld Z h b1 "biaxial/cli/Forms$Operand" "repeated" "Z" (.int (nar .boolean (0 : Int32))) ∧ Fld Z h b1 "biaxial/cli/Forms$Operand" "flag" "Ljava/lang/String;" .null
set_option maxRecDepth 65536 in
set_option maxHeartbeats 40000000 in
theorem rmfname (l : Launch) (Z : State) (a0 : Array Value) (hw : ∀ d ∈ tables_1, d.before a0 Z = true) (ws : List Jvm.Cond) (o0 : Addr) (kd : Addr) (h0 : Heap) (n0 : Nat) (Z0 : n0 ≤ h0.size) (S_Forms_Kind_NAME : Sta Z h0 "biaxial/cli/Forms$Kind" "NAME" "Lbiaxial/cli/Forms$Kind;" (.ref kd)) :
    MetFree l (⟨"biaxial/cli/Forms", "name", "(Ljava/lang/String;)Lbiaxial/cli/Forms$Operand;"⟩ : MethodName) (head1 (Jvm.Cond.code (⟨"biaxial/cli/Forms", "name", "(Ljava/lang/String;)Lbiaxial/cli/Forms$Operand;"⟩ : MethodName) prog_76_method_6_code 1 (some (.object "biaxial/cli/Forms$Operand")) :: ws) ({ frames := 3, cells := 1, slots := 5, locals := 42 } : Room)) (fun a U => a = #[(.ref o0)] ∧ Z.Warmed39 U.vm ∧ U.heap = h0) (fun _ _ _ _ _ => True) (fun _ U o U' => ∃ v L, o = .returned v ∧ Qfname Z o0 kd h0 n0 v U'.heap L ∧ FrameEnd U o U' L ({ frames := 3, cells := 1, slots := 5, locals := 42 } : Room).cells ({ frames := 3, cells := 1, slots := 5, locals := 42 } : Room).slots) := by
  refine MetFree.of_bodySF (plainFor_of_name pnfname) hisR ?_
  intro p e s m args below meth c s₁ Bd hml0 hP hK
  obtain ⟨rfl, hZ, hh⟩ := hP
  have hlk : meth.locks = false := BodyLoose.notSynchronized Bd
  have hx := Bd.exec
  have hby := Bd.bytes
  have hml : c.maxLocals = 1 := hml0
  have hown : s.vm.findClass "biaxial/cli/Forms" = some m.cls := findClass_of_methodNamed Bd.named
  have hnm := (name_of_methodNamed Bd.named Bd.method).1
  have X0 : Stand p l e ({ frames := 3, cells := 1, slots := 5, locals := 42 } : Room) s m #[(.ref o0)] below meth c s₁ [] 0 0 := Stand.of_body Bd
  have e0 : s₁.heap = h0 := by rw [← hh, Bd.state]; rfl
  have N0 := Fr.nil n0
  obtain ⟨S0, hS0⟩ : ∃ S0, S0 = s₁.setTop (entryFrame m #[(.ref o0)] 1) := ⟨_, rfl⟩
  have pre0 : ∀ t, Steps p.tables e below (s₁.setTop (mkF m 0 #[.val (.ref o0)] [])) t → Steps p.tables e below S0 t := fun t k => by rw [hS0]; exact castTop (effname m o0) k
  obtain ⟨T1, h1, X1, e1, E1, A1, D1, -, st1⟩ := newO X0 hx hZ hown (hw _ (List.mem_of_getElem? (i := 87) rfl)) (hw _ (List.mem_of_getElem? (i := 45) rfl)) (hw _ (List.mem_of_getElem? (i := 46) rfl)) e0 (g := (mkF m 0 #[.val (.ref o0)] [])) rfl (hb hby dfname_0) (by decide) (by decide)
  obtain ⟨b1, g1⟩ : ∃ z, z = h0.size := ⟨_, rfl⟩
  rw [← g1] at A1 D1 st1
  have S_Forms_Kind_NAME__1 := S_Forms_Kind_NAME.ext E1
  have g_b1 : n0 ≤ b1 := Nat.le_trans Z0 (Nat.le_of_eq g1.symm)
  have Zs1 : n0 ≤ h1.size := Nat.le_trans Z0 E1.1
  have sz_b1 : h0.size ≤ b1 := Nat.le_trans (Keep.refl h0 []).1 (Nat.le_of_eq g1.symm)
  have Kc1 : Keep h0 h1 [] := (Keep.refl h0 []).ext E1
  have F_b1_name : Fld Z h1 b1 "biaxial/cli/Forms$Operand" "name" "Ljava/lang/String;" .null := D1 (Or.inr (hw _ (List.mem_of_getElem? (i := 57) rfl))) (ty := (.object "java/lang/String")) (by decide)
  have F_b1_kind : Fld Z h1 b1 "biaxial/cli/Forms$Operand" "kind" "Lbiaxial/cli/Forms$Kind;" .null := D1 (Or.inr (hw _ (List.mem_of_getElem? (i := 59) rfl))) (ty := (.object "biaxial/cli/Forms$Kind")) (by decide)
  have F_b1_required : Fld Z h1 b1 "biaxial/cli/Forms$Operand" "required" "Z" (.int (0 : Int32)) := D1 (Or.inr (hw _ (List.mem_of_getElem? (i := 61) rfl))) (ty := .boolean) (by decide)
  have F_b1_repeated : Fld Z h1 b1 "biaxial/cli/Forms$Operand" "repeated" "Z" (.int (0 : Int32)) := D1 (Or.inr (hw _ (List.mem_of_getElem? (i := 63) rfl))) (ty := .boolean) (by decide)
  have F_b1_flag : Fld Z h1 b1 "biaxial/cli/Forms$Operand" "flag" "Ljava/lang/String;" .null := D1 (Or.inr (hw _ (List.mem_of_getElem? (i := 65) rfl))) (ty := (.object "java/lang/String")) (by decide)
  have K1 : ∀ t, Steps p.tables e below (T1.setTop (mkF m 3 #[.val (.ref o0)] [(.ref b1)])) t → Steps p.tables e below S0 t := fun t k => pre0 t (st1 t k)
  have K2 : ∀ t, Steps p.tables e below (T1.setTop (mkF m 5 #[.val (.ref o0)] [(.ref o0), (.ref b1), (.ref b1)])) t → Steps p.tables e below S0 t := fun t k => K1 t (by
    refine XS.dup X1.here hx rfl (hb hby dfname_3) rfl rfl ?_
    show Steps p.tables e below (T1.setTop (mkF m 4 #[.val (.ref o0)] [(.ref b1), (.ref b1)])) _
    refine XS.aloadN X1.here hx rfl (hb hby dfname_4) rfl rfl ?_
    show Steps p.tables e below (T1.setTop (mkF m 5 #[.val (.ref o0)] [(.ref o0), (.ref b1), (.ref b1)])) _
    exact k)
  obtain ⟨T3, X3, e3, st3⟩ := getS2 X1 hx hZ hown (host := "") (Or.inl (hw _ (List.mem_of_getElem? (i := 88) rfl))) Via.refl e1 S_Forms_Kind_NAME__1 (g := (mkF m 5 #[.val (.ref o0)] [(.ref o0), (.ref b1), (.ref b1)])) rfl (hb hby dfname_5)
  have K3 : ∀ t, Steps p.tables e below (T3.setTop (mkF m 8 #[.val (.ref o0)] [(.ref kd), (.ref o0), (.ref b1), (.ref b1)])) t → Steps p.tables e below S0 t := fun t k => K2 t (st3 t k)
  have K4 : ∀ t, Steps p.tables e below (T3.setTop (mkF m 11 #[.val (.ref o0)] [.null, (.int (0 : Int32)), (.int (1 : Int32)), (.ref kd), (.ref o0), (.ref b1), (.ref b1)])) t → Steps p.tables e below S0 t := fun t k => K3 t (by
    refine XS.iconst X3.here hx rfl (hb hby dfname_8) ?_
    show Steps p.tables e below (T3.setTop (mkF m 9 #[.val (.ref o0)] [(.int (1 : Int32)), (.ref kd), (.ref o0), (.ref b1), (.ref b1)])) _
    refine XS.iconst X3.here hx rfl (hb hby dfname_9) ?_
    show Steps p.tables e below (T3.setTop (mkF m 10 #[.val (.ref o0)] [(.int (0 : Int32)), (.int (1 : Int32)), (.ref kd), (.ref o0), (.ref b1), (.ref b1)])) _
    refine XS.aconstNull X3.here hx rfl (hb hby dfname_10) ?_
    show Steps p.tables e below (T3.setTop (mkF m 11 #[.val (.ref o0)] [.null, (.int (0 : Int32)), (.int (1 : Int32)), (.ref kd), (.ref o0), (.ref b1), (.ref b1)])) _
    exact k)
  have K_5 : ∀ t, Steps p.tables e below (T3.setTop (mkF m 11 #[.val (.ref o0)] [.null, (.int (0 : Int32)), (.int (1 : Int32)), (.ref kd), (.ref o0), (.ref b1), (.ref b1)])) t → Steps p.tables e below S0 t := K4
  obtain ⟨_, _, ⟨T6, L6, k6, n6⟩, -, X6, ⟨Lc6, hQ6, l6, y6, z6⟩, st6⟩ := X3.specialBack hx (y := (⟨"biaxial/cli/Forms$Operand", "<init>", "(Ljava/lang/String;Lbiaxial/cli/Forms$Kind;ZZLjava/lang/String;)V"⟩ : MethodName)) rfl hown (mvT hZ (hw _ (List.mem_of_getElem? (i := 91) rfl))) (mvT hZ (hw _ (List.mem_of_getElem? (i := 48) rfl))) (mvT hZ (hw _ (List.mem_of_getElem? (i := 49) rfl))) (by decide) (backOf (W := 1) (rmi110 l Z a0 hw [] b1 o0 kd (1 : Int32) (0 : Int32) h1 n0 Zs1 A1 F_b1_name F_b1_kind F_b1_required F_b1_repeated F_b1_flag g_b1) hZ (hw _ (List.mem_of_getElem? (i := 49) rfl)) (hw _ (List.mem_of_getElem? (i := 46) rfl)) (by decide) (by decide)) (g := (mkF m 11 #[.val (.ref o0)] [.null, (.int (0 : Int32)), (.int (1 : Int32)), (.ref kd), (.ref o0), (.ref b1), (.ref b1)])) rfl (by rw [hml]; rfl) (Steps.refl _) (a := b1) (argsL := [(.ref o0), (.ref kd), (.int (1 : Int32)), (.int (0 : Int32)), .null]) (rest := [(.ref b1)]) (lenOf pdfname_0 rfl) rfl (by show 2 * 0 + _ ≤ _; exact Nat.le_of_eq rfl) (hb hby dfname_11) (fun _ _ => ⟨rfl, e3, (by decide : 1 + 0 ≤ 1), (by decide : 5 + 0 ≤ 5)⟩)
  dsimp only [Pt.U, Pt.locs, Pt.cells, Pt.slots] at X6 l6 y6 z6 st6 hQ6
  subst l6 y6 z6
  obtain ⟨rfl, N6q, Kp6, Fn6_0, Fn6_1, Fn6_2, Fn6_3, Fn6_4, Fn6_5⟩ := hQ6
  have N6 := Fr.app N0 N6q
  have Zs6 : n0 ≤ T6.heap.size := Nat.le_trans Zs1 Kp6.1
  have Kc6 : Keep h0 T6.heap [] := Kc1.trans Kp6 (allS (P := fun x => x ∈ [] ∨ h0.size ≤ x) (Or.inr sz_b1) all0)
  have K6 : ∀ t, Steps p.tables e below (T6.setTop (mkF m 14 #[.val (.ref o0)] [(.ref b1)])) t → Steps p.tables e below S0 t := fun t k => K_5 t (st6.trans k)
  obtain ⟨fs, hr, hrun, hended, hW, hsame⟩ := X6.leave (v := some (.ref b1)) (fun h => by rw [Bd.returns] at h; cases h) hlk
  refine ⟨_, _, ?_, hrun, hended, _, _, rfl, ?_, ⟨_, rfl⟩, hW, hsame.mono (by decide) (by decide)⟩
  · rw [← hS0]; exact K6 _ (retOut X6 hx Bd.returns rfl (Or.inr (Or.inr (Or.inr (Or.inr ⟨rfl, rfl, rfl⟩)))) (hb hby dfname_14) hr)
  · show Qfname Z o0 kd h0 n0 _ T6.heap _
    exact ⟨b1, rfl, N6, Kc6, sz_b1, Fn6_0, Fn6_1, Fn6_2, Fn6_3, Fn6_4, Fn6_5⟩
theorem dffile_0 : decode prog_76_method_5_code 0 = .ok (.new 102, 3) := by decide +kernel
theorem dffile_3 : decode prog_76_method_5_code 3 = .ok (.dup, 1) := by decide +kernel
theorem dffile_4 : decode prog_76_method_5_code 4 = .ok (.aload_n 0, 1) := by decide +kernel
theorem dffile_5 : decode prog_76_method_5_code 5 = .ok (.getstatic 137, 3) := by decide +kernel
theorem dffile_8 : decode prog_76_method_5_code 8 = .ok (.iconst 1, 1) := by decide +kernel
theorem dffile_9 : decode prog_76_method_5_code 9 = .ok (.iconst 0, 1) := by decide +kernel
theorem dffile_10 : decode prog_76_method_5_code 10 = .ok (.aconst_null, 1) := by decide +kernel
theorem dffile_11 : decode prog_76_method_5_code 11 = .ok (.invokespecial 204, 3) := by decide +kernel
theorem dffile_14 : decode prog_76_method_5_code 14 = .ok (.areturn, 1) := by decide +kernel
theorem pnffile : plainName "biaxial/cli/Forms" = true := by first | (simp [plainName, overriddenIn]; done) | decide +kernel
theorem pdffile_0 : parseMethodDescriptor "(Ljava/lang/String;Lbiaxial/cli/Forms$Kind;ZZLjava/lang/String;)V" = some ⟨[(.object "java/lang/String"), (.object "biaxial/cli/Forms$Kind"), .boolean, .boolean, (.object "java/lang/String")], none⟩ := by decide +kernel
theorem efffile (m : MethodId) (o0 : Addr) : entryFrame m #[(.ref o0)] 1 = mkF m 0 #[.val (.ref o0)] [] := by first | (simp [entryFrame, mkF, argsToLocals, Value.category]; done) | rfl
def Qffile (Z : State) (o0 : Addr) (kd : Addr) (h0 : Heap) (n0 : Nat) (v : Option Value) (h : Heap) (L : List Loc) : Prop := ∃ (b1 : Addr), v = some (.ref b1) ∧ Fr n0 L ∧ Keep h0 h [] ∧ h0.size ≤ b1 ∧ Exa Z h b1 "biaxial/cli/Forms$Operand" ∧ Fld Z h b1 "biaxial/cli/Forms$Operand" "name" "Ljava/lang/String;" (.ref o0) ∧ Fld Z h b1 "biaxial/cli/Forms$Operand" "kind" "Lbiaxial/cli/Forms$Kind;" (.ref kd) ∧ Fld Z h b1 "biaxial/cli/Forms$Operand" "required" "Z" (.int (nar .boolean (1 : Int32))) ∧ Fld Z h b1 "biaxial/cli/Forms$Operand" "repeated" "Z" (.int (nar .boolean (0 : Int32))) ∧ Fld Z h b1 "biaxial/cli/Forms$Operand" "flag" "Ljava/lang/String;" .null
set_option maxRecDepth 65536 in
set_option maxHeartbeats 40000000 in
theorem rmffile (l : Launch) (Z : State) (a0 : Array Value) (hw : ∀ d ∈ tables_1, d.before a0 Z = true) (ws : List Jvm.Cond) (o0 : Addr) (kd : Addr) (h0 : Heap) (n0 : Nat) (Z0 : n0 ≤ h0.size) (S_Forms_Kind_FILE : Sta Z h0 "biaxial/cli/Forms$Kind" "FILE" "Lbiaxial/cli/Forms$Kind;" (.ref kd)) :
    MetFree l (⟨"biaxial/cli/Forms", "file", "(Ljava/lang/String;)Lbiaxial/cli/Forms$Operand;"⟩ : MethodName) (head1 (Jvm.Cond.code (⟨"biaxial/cli/Forms", "file", "(Ljava/lang/String;)Lbiaxial/cli/Forms$Operand;"⟩ : MethodName) prog_76_method_5_code 1 (some (.object "biaxial/cli/Forms$Operand")) :: ws) ({ frames := 3, cells := 1, slots := 5, locals := 42 } : Room)) (fun a U => a = #[(.ref o0)] ∧ Z.Warmed39 U.vm ∧ U.heap = h0) (fun _ _ _ _ _ => True) (fun _ U o U' => ∃ v L, o = .returned v ∧ Qffile Z o0 kd h0 n0 v U'.heap L ∧ FrameEnd U o U' L ({ frames := 3, cells := 1, slots := 5, locals := 42 } : Room).cells ({ frames := 3, cells := 1, slots := 5, locals := 42 } : Room).slots) := by
  refine MetFree.of_bodySF (plainFor_of_name pnffile) hisR ?_
  intro p e s m args below meth c s₁ Bd hml0 hP hK
  obtain ⟨rfl, hZ, hh⟩ := hP
  have hlk : meth.locks = false := BodyLoose.notSynchronized Bd
  have hx := Bd.exec
  have hby := Bd.bytes
  have hml : c.maxLocals = 1 := hml0
  have hown : s.vm.findClass "biaxial/cli/Forms" = some m.cls := findClass_of_methodNamed Bd.named
  have hnm := (name_of_methodNamed Bd.named Bd.method).1
  have X0 : Stand p l e ({ frames := 3, cells := 1, slots := 5, locals := 42 } : Room) s m #[(.ref o0)] below meth c s₁ [] 0 0 := Stand.of_body Bd
  have e0 : s₁.heap = h0 := by rw [← hh, Bd.state]; rfl
  have N0 := Fr.nil n0
  obtain ⟨S0, hS0⟩ : ∃ S0, S0 = s₁.setTop (entryFrame m #[(.ref o0)] 1) := ⟨_, rfl⟩
  have pre0 : ∀ t, Steps p.tables e below (s₁.setTop (mkF m 0 #[.val (.ref o0)] [])) t → Steps p.tables e below S0 t := fun t k => by rw [hS0]; exact castTop (efffile m o0) k
  obtain ⟨T1, h1, X1, e1, E1, A1, D1, -, st1⟩ := newO X0 hx hZ hown (hw _ (List.mem_of_getElem? (i := 87) rfl)) (hw _ (List.mem_of_getElem? (i := 45) rfl)) (hw _ (List.mem_of_getElem? (i := 46) rfl)) e0 (g := (mkF m 0 #[.val (.ref o0)] [])) rfl (hb hby dffile_0) (by decide) (by decide)
  obtain ⟨b1, g1⟩ : ∃ z, z = h0.size := ⟨_, rfl⟩
  rw [← g1] at A1 D1 st1
  have S_Forms_Kind_FILE__1 := S_Forms_Kind_FILE.ext E1
  have g_b1 : n0 ≤ b1 := Nat.le_trans Z0 (Nat.le_of_eq g1.symm)
  have Zs1 : n0 ≤ h1.size := Nat.le_trans Z0 E1.1
  have sz_b1 : h0.size ≤ b1 := Nat.le_trans (Keep.refl h0 []).1 (Nat.le_of_eq g1.symm)
  have Kc1 : Keep h0 h1 [] := (Keep.refl h0 []).ext E1
  have F_b1_name : Fld Z h1 b1 "biaxial/cli/Forms$Operand" "name" "Ljava/lang/String;" .null := D1 (Or.inr (hw _ (List.mem_of_getElem? (i := 57) rfl))) (ty := (.object "java/lang/String")) (by decide)
  have F_b1_kind : Fld Z h1 b1 "biaxial/cli/Forms$Operand" "kind" "Lbiaxial/cli/Forms$Kind;" .null := D1 (Or.inr (hw _ (List.mem_of_getElem? (i := 59) rfl))) (ty := (.object "biaxial/cli/Forms$Kind")) (by decide)
  have F_b1_required : Fld Z h1 b1 "biaxial/cli/Forms$Operand" "required" "Z" (.int (0 : Int32)) := D1 (Or.inr (hw _ (List.mem_of_getElem? (i := 61) rfl))) (ty := .boolean) (by decide)
  have F_b1_repeated : Fld Z h1 b1 "biaxial/cli/Forms$Operand" "repeated" "Z" (.int (0 : Int32)) := D1 (Or.inr (hw _ (List.mem_of_getElem? (i := 63) rfl))) (ty := .boolean) (by decide)
  have F_b1_flag : Fld Z h1 b1 "biaxial/cli/Forms$Operand" "flag" "Ljava/lang/String;" .null := D1 (Or.inr (hw _ (List.mem_of_getElem? (i := 65) rfl))) (ty := (.object "java/lang/String")) (by decide)
  have K1 : ∀ t, Steps p.tables e below (T1.setTop (mkF m 3 #[.val (.ref o0)] [(.ref b1)])) t → Steps p.tables e below S0 t := fun t k => pre0 t (st1 t k)
  have K2 : ∀ t, Steps p.tables e below (T1.setTop (mkF m 5 #[.val (.ref o0)] [(.ref o0), (.ref b1), (.ref b1)])) t → Steps p.tables e below S0 t := fun t k => K1 t (by
    refine XS.dup X1.here hx rfl (hb hby dffile_3) rfl rfl ?_
    show Steps p.tables e below (T1.setTop (mkF m 4 #[.val (.ref o0)] [(.ref b1), (.ref b1)])) _
    refine XS.aloadN X1.here hx rfl (hb hby dffile_4) rfl rfl ?_
    show Steps p.tables e below (T1.setTop (mkF m 5 #[.val (.ref o0)] [(.ref o0), (.ref b1), (.ref b1)])) _
    exact k)
  obtain ⟨T3, X3, e3, st3⟩ := getS2 X1 hx hZ hown (host := "") (Or.inl (hw _ (List.mem_of_getElem? (i := 126) rfl))) Via.refl e1 S_Forms_Kind_FILE__1 (g := (mkF m 5 #[.val (.ref o0)] [(.ref o0), (.ref b1), (.ref b1)])) rfl (hb hby dffile_5)
  have K3 : ∀ t, Steps p.tables e below (T3.setTop (mkF m 8 #[.val (.ref o0)] [(.ref kd), (.ref o0), (.ref b1), (.ref b1)])) t → Steps p.tables e below S0 t := fun t k => K2 t (st3 t k)
  have K4 : ∀ t, Steps p.tables e below (T3.setTop (mkF m 11 #[.val (.ref o0)] [.null, (.int (0 : Int32)), (.int (1 : Int32)), (.ref kd), (.ref o0), (.ref b1), (.ref b1)])) t → Steps p.tables e below S0 t := fun t k => K3 t (by
    refine XS.iconst X3.here hx rfl (hb hby dffile_8) ?_
    show Steps p.tables e below (T3.setTop (mkF m 9 #[.val (.ref o0)] [(.int (1 : Int32)), (.ref kd), (.ref o0), (.ref b1), (.ref b1)])) _
    refine XS.iconst X3.here hx rfl (hb hby dffile_9) ?_
    show Steps p.tables e below (T3.setTop (mkF m 10 #[.val (.ref o0)] [(.int (0 : Int32)), (.int (1 : Int32)), (.ref kd), (.ref o0), (.ref b1), (.ref b1)])) _
    refine XS.aconstNull X3.here hx rfl (hb hby dffile_10) ?_
    show Steps p.tables e below (T3.setTop (mkF m 11 #[.val (.ref o0)] [.null, (.int (0 : Int32)), (.int (1 : Int32)), (.ref kd), (.ref o0), (.ref b1), (.ref b1)])) _
    exact k)
  have K_5 : ∀ t, Steps p.tables e below (T3.setTop (mkF m 11 #[.val (.ref o0)] [.null, (.int (0 : Int32)), (.int (1 : Int32)), (.ref kd), (.ref o0), (.ref b1), (.ref b1)])) t → Steps p.tables e below S0 t := K4
  obtain ⟨_, _, ⟨T6, L6, k6, n6⟩, -, X6, ⟨Lc6, hQ6, l6, y6, z6⟩, st6⟩ := X3.specialBack hx (y := (⟨"biaxial/cli/Forms$Operand", "<init>", "(Ljava/lang/String;Lbiaxial/cli/Forms$Kind;ZZLjava/lang/String;)V"⟩ : MethodName)) rfl hown (mvT hZ (hw _ (List.mem_of_getElem? (i := 91) rfl))) (mvT hZ (hw _ (List.mem_of_getElem? (i := 48) rfl))) (mvT hZ (hw _ (List.mem_of_getElem? (i := 49) rfl))) (by decide) (backOf (W := 1) (rmi110 l Z a0 hw [] b1 o0 kd (1 : Int32) (0 : Int32) h1 n0 Zs1 A1 F_b1_name F_b1_kind F_b1_required F_b1_repeated F_b1_flag g_b1) hZ (hw _ (List.mem_of_getElem? (i := 49) rfl)) (hw _ (List.mem_of_getElem? (i := 46) rfl)) (by decide) (by decide)) (g := (mkF m 11 #[.val (.ref o0)] [.null, (.int (0 : Int32)), (.int (1 : Int32)), (.ref kd), (.ref o0), (.ref b1), (.ref b1)])) rfl (by rw [hml]; rfl) (Steps.refl _) (a := b1) (argsL := [(.ref o0), (.ref kd), (.int (1 : Int32)), (.int (0 : Int32)), .null]) (rest := [(.ref b1)]) (lenOf pdffile_0 rfl) rfl (by show 2 * 0 + _ ≤ _; exact Nat.le_of_eq rfl) (hb hby dffile_11) (fun _ _ => ⟨rfl, e3, (by decide : 1 + 0 ≤ 1), (by decide : 5 + 0 ≤ 5)⟩)
  dsimp only [Pt.U, Pt.locs, Pt.cells, Pt.slots] at X6 l6 y6 z6 st6 hQ6
  subst l6 y6 z6
  obtain ⟨rfl, N6q, Kp6, Fn6_0, Fn6_1, Fn6_2, Fn6_3, Fn6_4, Fn6_5⟩ := hQ6
  have N6 := Fr.app N0 N6q
  have Zs6 : n0 ≤ T6.heap.size := Nat.le_trans Zs1 Kp6.1
  have Kc6 : Keep h0 T6.heap [] := Kc1.trans Kp6 (allS (P := fun x => x ∈ [] ∨ h0.size ≤ x) (Or.inr sz_b1) all0)
  have K6 : ∀ t, Steps p.tables e below (T6.setTop (mkF m 14 #[.val (.ref o0)] [(.ref b1)])) t → Steps p.tables e below S0 t := fun t k => K_5 t (st6.trans k)
  obtain ⟨fs, hr, hrun, hended, hW, hsame⟩ := X6.leave (v := some (.ref b1)) (fun h => by rw [Bd.returns] at h; cases h) hlk
  refine ⟨_, _, ?_, hrun, hended, _, _, rfl, ?_, ⟨_, rfl⟩, hW, hsame.mono (by decide) (by decide)⟩
  · rw [← hS0]; exact K6 _ (retOut X6 hx Bd.returns rfl (Or.inr (Or.inr (Or.inr (Or.inr ⟨rfl, rfl, rfl⟩)))) (hb hby dffile_14) hr)
  · show Qffile Z o0 kd h0 n0 _ T6.heap _
    exact ⟨b1, rfl, N6, Kc6, sz_b1, Fn6_0, Fn6_1, Fn6_2, Fn6_3, Fn6_4, Fn6_5⟩
theorem dfword_0 : decode prog_76_method_7_code 0 = .ok (.new 102, 3) := by decide +kernel
theorem dfword_3 : decode prog_76_method_7_code 3 = .ok (.dup, 1) := by decide +kernel
theorem dfword_4 : decode prog_76_method_7_code 4 = .ok (.aload_n 0, 1) := by decide +kernel
theorem dfword_5 : decode prog_76_method_7_code 5 = .ok (.getstatic 210, 3) := by decide +kernel
theorem dfword_8 : decode prog_76_method_7_code 8 = .ok (.iconst 1, 1) := by decide +kernel
theorem dfword_9 : decode prog_76_method_7_code 9 = .ok (.iconst 0, 1) := by decide +kernel
theorem dfword_10 : decode prog_76_method_7_code 10 = .ok (.aconst_null, 1) := by decide +kernel
theorem dfword_11 : decode prog_76_method_7_code 11 = .ok (.invokespecial 204, 3) := by decide +kernel
theorem dfword_14 : decode prog_76_method_7_code 14 = .ok (.areturn, 1) := by decide +kernel
theorem pnfword : plainName "biaxial/cli/Forms" = true := by first | (simp [plainName, overriddenIn]; done) | decide +kernel
theorem pdfword_0 : parseMethodDescriptor "(Ljava/lang/String;Lbiaxial/cli/Forms$Kind;ZZLjava/lang/String;)V" = some ⟨[(.object "java/lang/String"), (.object "biaxial/cli/Forms$Kind"), .boolean, .boolean, (.object "java/lang/String")], none⟩ := by decide +kernel
theorem effword (m : MethodId) (o0 : Addr) : entryFrame m #[(.ref o0)] 1 = mkF m 0 #[.val (.ref o0)] [] := by first | (simp [entryFrame, mkF, argsToLocals, Value.category]; done) | rfl
def Qfword (Z : State) (o0 : Addr) (kd : Addr) (h0 : Heap) (n0 : Nat) (v : Option Value) (h : Heap) (L : List Loc) : Prop := ∃ (b1 : Addr), v = some (.ref b1) ∧ Fr n0 L ∧ Keep h0 h [] ∧ h0.size ≤ b1 ∧ Exa Z h b1 "biaxial/cli/Forms$Operand" ∧ Fld Z h b1 "biaxial/cli/Forms$Operand" "name" "Ljava/lang/String;" (.ref o0) ∧ Fld Z h b1 "biaxial/cli/Forms$Operand" "kind" "Lbiaxial/cli/Forms$Kind;" (.ref kd) ∧ Fld Z h b1 "biaxial/cli/Forms$Operand" "required" "Z" (.int (nar .boolean (1 : Int32))) ∧ Fld Z h b1 "biaxial/cli/Forms$Operand" "repeated" "Z" (.int (nar .boolean (0 : Int32))) ∧ Fld Z h b1 "biaxial/cli/Forms$Operand" "flag" "Ljava/lang/String;" .null
set_option maxRecDepth 65536 in
set_option maxHeartbeats 40000000 in
theorem rmfword (l : Launch) (Z : State) (a0 : Array Value) (hw : ∀ d ∈ tables_1, d.before a0 Z = true) (ws : List Jvm.Cond) (o0 : Addr) (kd : Addr) (h0 : Heap) (n0 : Nat) (Z0 : n0 ≤ h0.size) (S_Forms_Kind_WORD : Sta Z h0 "biaxial/cli/Forms$Kind" "WORD" "Lbiaxial/cli/Forms$Kind;" (.ref kd)) :
    MetFree l (⟨"biaxial/cli/Forms", "word", "(Ljava/lang/String;)Lbiaxial/cli/Forms$Operand;"⟩ : MethodName) (head1 (Jvm.Cond.code (⟨"biaxial/cli/Forms", "word", "(Ljava/lang/String;)Lbiaxial/cli/Forms$Operand;"⟩ : MethodName) prog_76_method_7_code 1 (some (.object "biaxial/cli/Forms$Operand")) :: ws) ({ frames := 3, cells := 1, slots := 5, locals := 42 } : Room)) (fun a U => a = #[(.ref o0)] ∧ Z.Warmed39 U.vm ∧ U.heap = h0) (fun _ _ _ _ _ => True) (fun _ U o U' => ∃ v L, o = .returned v ∧ Qfword Z o0 kd h0 n0 v U'.heap L ∧ FrameEnd U o U' L ({ frames := 3, cells := 1, slots := 5, locals := 42 } : Room).cells ({ frames := 3, cells := 1, slots := 5, locals := 42 } : Room).slots) := by
  refine MetFree.of_bodySF (plainFor_of_name pnfword) hisR ?_
  intro p e s m args below meth c s₁ Bd hml0 hP hK
  obtain ⟨rfl, hZ, hh⟩ := hP
  have hlk : meth.locks = false := BodyLoose.notSynchronized Bd
  have hx := Bd.exec
  have hby := Bd.bytes
  have hml : c.maxLocals = 1 := hml0
  have hown : s.vm.findClass "biaxial/cli/Forms" = some m.cls := findClass_of_methodNamed Bd.named
  have hnm := (name_of_methodNamed Bd.named Bd.method).1
  have X0 : Stand p l e ({ frames := 3, cells := 1, slots := 5, locals := 42 } : Room) s m #[(.ref o0)] below meth c s₁ [] 0 0 := Stand.of_body Bd
  have e0 : s₁.heap = h0 := by rw [← hh, Bd.state]; rfl
  have N0 := Fr.nil n0
  obtain ⟨S0, hS0⟩ : ∃ S0, S0 = s₁.setTop (entryFrame m #[(.ref o0)] 1) := ⟨_, rfl⟩
  have pre0 : ∀ t, Steps p.tables e below (s₁.setTop (mkF m 0 #[.val (.ref o0)] [])) t → Steps p.tables e below S0 t := fun t k => by rw [hS0]; exact castTop (effword m o0) k
  obtain ⟨T1, h1, X1, e1, E1, A1, D1, -, st1⟩ := newO X0 hx hZ hown (hw _ (List.mem_of_getElem? (i := 87) rfl)) (hw _ (List.mem_of_getElem? (i := 45) rfl)) (hw _ (List.mem_of_getElem? (i := 46) rfl)) e0 (g := (mkF m 0 #[.val (.ref o0)] [])) rfl (hb hby dfword_0) (by decide) (by decide)
  obtain ⟨b1, g1⟩ : ∃ z, z = h0.size := ⟨_, rfl⟩
  rw [← g1] at A1 D1 st1
  have S_Forms_Kind_WORD__1 := S_Forms_Kind_WORD.ext E1
  have g_b1 : n0 ≤ b1 := Nat.le_trans Z0 (Nat.le_of_eq g1.symm)
  have Zs1 : n0 ≤ h1.size := Nat.le_trans Z0 E1.1
  have sz_b1 : h0.size ≤ b1 := Nat.le_trans (Keep.refl h0 []).1 (Nat.le_of_eq g1.symm)
  have Kc1 : Keep h0 h1 [] := (Keep.refl h0 []).ext E1
  have F_b1_name : Fld Z h1 b1 "biaxial/cli/Forms$Operand" "name" "Ljava/lang/String;" .null := D1 (Or.inr (hw _ (List.mem_of_getElem? (i := 57) rfl))) (ty := (.object "java/lang/String")) (by decide)
  have F_b1_kind : Fld Z h1 b1 "biaxial/cli/Forms$Operand" "kind" "Lbiaxial/cli/Forms$Kind;" .null := D1 (Or.inr (hw _ (List.mem_of_getElem? (i := 59) rfl))) (ty := (.object "biaxial/cli/Forms$Kind")) (by decide)
  have F_b1_required : Fld Z h1 b1 "biaxial/cli/Forms$Operand" "required" "Z" (.int (0 : Int32)) := D1 (Or.inr (hw _ (List.mem_of_getElem? (i := 61) rfl))) (ty := .boolean) (by decide)
  have F_b1_repeated : Fld Z h1 b1 "biaxial/cli/Forms$Operand" "repeated" "Z" (.int (0 : Int32)) := D1 (Or.inr (hw _ (List.mem_of_getElem? (i := 63) rfl))) (ty := .boolean) (by decide)
  have F_b1_flag : Fld Z h1 b1 "biaxial/cli/Forms$Operand" "flag" "Ljava/lang/String;" .null := D1 (Or.inr (hw _ (List.mem_of_getElem? (i := 65) rfl))) (ty := (.object "java/lang/String")) (by decide)
  have K1 : ∀ t, Steps p.tables e below (T1.setTop (mkF m 3 #[.val (.ref o0)] [(.ref b1)])) t → Steps p.tables e below S0 t := fun t k => pre0 t (st1 t k)
  have K2 : ∀ t, Steps p.tables e below (T1.setTop (mkF m 5 #[.val (.ref o0)] [(.ref o0), (.ref b1), (.ref b1)])) t → Steps p.tables e below S0 t := fun t k => K1 t (by
    refine XS.dup X1.here hx rfl (hb hby dfword_3) rfl rfl ?_
    show Steps p.tables e below (T1.setTop (mkF m 4 #[.val (.ref o0)] [(.ref b1), (.ref b1)])) _
    refine XS.aloadN X1.here hx rfl (hb hby dfword_4) rfl rfl ?_
    show Steps p.tables e below (T1.setTop (mkF m 5 #[.val (.ref o0)] [(.ref o0), (.ref b1), (.ref b1)])) _
    exact k)
  obtain ⟨T3, X3, e3, st3⟩ := getS2 X1 hx hZ hown (host := "") (Or.inl (hw _ (List.mem_of_getElem? (i := 121) rfl))) Via.refl e1 S_Forms_Kind_WORD__1 (g := (mkF m 5 #[.val (.ref o0)] [(.ref o0), (.ref b1), (.ref b1)])) rfl (hb hby dfword_5)
  have K3 : ∀ t, Steps p.tables e below (T3.setTop (mkF m 8 #[.val (.ref o0)] [(.ref kd), (.ref o0), (.ref b1), (.ref b1)])) t → Steps p.tables e below S0 t := fun t k => K2 t (st3 t k)
  have K4 : ∀ t, Steps p.tables e below (T3.setTop (mkF m 11 #[.val (.ref o0)] [.null, (.int (0 : Int32)), (.int (1 : Int32)), (.ref kd), (.ref o0), (.ref b1), (.ref b1)])) t → Steps p.tables e below S0 t := fun t k => K3 t (by
    refine XS.iconst X3.here hx rfl (hb hby dfword_8) ?_
    show Steps p.tables e below (T3.setTop (mkF m 9 #[.val (.ref o0)] [(.int (1 : Int32)), (.ref kd), (.ref o0), (.ref b1), (.ref b1)])) _
    refine XS.iconst X3.here hx rfl (hb hby dfword_9) ?_
    show Steps p.tables e below (T3.setTop (mkF m 10 #[.val (.ref o0)] [(.int (0 : Int32)), (.int (1 : Int32)), (.ref kd), (.ref o0), (.ref b1), (.ref b1)])) _
    refine XS.aconstNull X3.here hx rfl (hb hby dfword_10) ?_
    show Steps p.tables e below (T3.setTop (mkF m 11 #[.val (.ref o0)] [.null, (.int (0 : Int32)), (.int (1 : Int32)), (.ref kd), (.ref o0), (.ref b1), (.ref b1)])) _
    exact k)
  have K_5 : ∀ t, Steps p.tables e below (T3.setTop (mkF m 11 #[.val (.ref o0)] [.null, (.int (0 : Int32)), (.int (1 : Int32)), (.ref kd), (.ref o0), (.ref b1), (.ref b1)])) t → Steps p.tables e below S0 t := K4
  obtain ⟨_, _, ⟨T6, L6, k6, n6⟩, -, X6, ⟨Lc6, hQ6, l6, y6, z6⟩, st6⟩ := X3.specialBack hx (y := (⟨"biaxial/cli/Forms$Operand", "<init>", "(Ljava/lang/String;Lbiaxial/cli/Forms$Kind;ZZLjava/lang/String;)V"⟩ : MethodName)) rfl hown (mvT hZ (hw _ (List.mem_of_getElem? (i := 91) rfl))) (mvT hZ (hw _ (List.mem_of_getElem? (i := 48) rfl))) (mvT hZ (hw _ (List.mem_of_getElem? (i := 49) rfl))) (by decide) (backOf (W := 1) (rmi110 l Z a0 hw [] b1 o0 kd (1 : Int32) (0 : Int32) h1 n0 Zs1 A1 F_b1_name F_b1_kind F_b1_required F_b1_repeated F_b1_flag g_b1) hZ (hw _ (List.mem_of_getElem? (i := 49) rfl)) (hw _ (List.mem_of_getElem? (i := 46) rfl)) (by decide) (by decide)) (g := (mkF m 11 #[.val (.ref o0)] [.null, (.int (0 : Int32)), (.int (1 : Int32)), (.ref kd), (.ref o0), (.ref b1), (.ref b1)])) rfl (by rw [hml]; rfl) (Steps.refl _) (a := b1) (argsL := [(.ref o0), (.ref kd), (.int (1 : Int32)), (.int (0 : Int32)), .null]) (rest := [(.ref b1)]) (lenOf pdfword_0 rfl) rfl (by show 2 * 0 + _ ≤ _; exact Nat.le_of_eq rfl) (hb hby dfword_11) (fun _ _ => ⟨rfl, e3, (by decide : 1 + 0 ≤ 1), (by decide : 5 + 0 ≤ 5)⟩)
  dsimp only [Pt.U, Pt.locs, Pt.cells, Pt.slots] at X6 l6 y6 z6 st6 hQ6
  subst l6 y6 z6
  obtain ⟨rfl, N6q, Kp6, Fn6_0, Fn6_1, Fn6_2, Fn6_3, Fn6_4, Fn6_5⟩ := hQ6
  have N6 := Fr.app N0 N6q
  have Zs6 : n0 ≤ T6.heap.size := Nat.le_trans Zs1 Kp6.1
  have Kc6 : Keep h0 T6.heap [] := Kc1.trans Kp6 (allS (P := fun x => x ∈ [] ∨ h0.size ≤ x) (Or.inr sz_b1) all0)
  have K6 : ∀ t, Steps p.tables e below (T6.setTop (mkF m 14 #[.val (.ref o0)] [(.ref b1)])) t → Steps p.tables e below S0 t := fun t k => K_5 t (st6.trans k)
  obtain ⟨fs, hr, hrun, hended, hW, hsame⟩ := X6.leave (v := some (.ref b1)) (fun h => by rw [Bd.returns] at h; cases h) hlk
  refine ⟨_, _, ?_, hrun, hended, _, _, rfl, ?_, ⟨_, rfl⟩, hW, hsame.mono (by decide) (by decide)⟩
  · rw [← hS0]; exact K6 _ (retOut X6 hx Bd.returns rfl (Or.inr (Or.inr (Or.inr (Or.inr ⟨rfl, rfl, rfl⟩)))) (hb hby dfword_14) hr)
  · show Qfword Z o0 kd h0 n0 _ T6.heap _
    exact ⟨b1, rfl, N6, Kc6, sz_b1, Fn6_0, Fn6_1, Fn6_2, Fn6_3, Fn6_4, Fn6_5⟩
theorem dfflag_0 : decode prog_76_method_8_code 0 = .ok (.new 102, 3) := by decide +kernel
theorem dfflag_3 : decode prog_76_method_8_code 3 = .ok (.dup, 1) := by decide +kernel
theorem dfflag_4 : decode prog_76_method_8_code 4 = .ok (.aconst_null, 1) := by decide +kernel
theorem dfflag_5 : decode prog_76_method_8_code 5 = .ok (.getstatic 207, 3) := by decide +kernel
theorem dfflag_8 : decode prog_76_method_8_code 8 = .ok (.iconst 1, 1) := by decide +kernel
theorem dfflag_9 : decode prog_76_method_8_code 9 = .ok (.iconst 0, 1) := by decide +kernel
theorem dfflag_10 : decode prog_76_method_8_code 10 = .ok (.aload_n 0, 1) := by decide +kernel
theorem dfflag_11 : decode prog_76_method_8_code 11 = .ok (.invokespecial 204, 3) := by decide +kernel
theorem dfflag_14 : decode prog_76_method_8_code 14 = .ok (.areturn, 1) := by decide +kernel
theorem pnfflag : plainName "biaxial/cli/Forms" = true := by first | (simp [plainName, overriddenIn]; done) | decide +kernel
theorem pdfflag_0 : parseMethodDescriptor "(Ljava/lang/String;Lbiaxial/cli/Forms$Kind;ZZLjava/lang/String;)V" = some ⟨[(.object "java/lang/String"), (.object "biaxial/cli/Forms$Kind"), .boolean, .boolean, (.object "java/lang/String")], none⟩ := by decide +kernel
theorem effflag (m : MethodId) (o0 : Addr) : entryFrame m #[(.ref o0)] 1 = mkF m 0 #[.val (.ref o0)] [] := by first | (simp [entryFrame, mkF, argsToLocals, Value.category]; done) | rfl
def Qfflag (Z : State) (o0 : Addr) (kd : Addr) (h0 : Heap) (n0 : Nat) (v : Option Value) (h : Heap) (L : List Loc) : Prop := ∃ (b1 : Addr), v = some (.ref b1) ∧ Fr n0 L ∧ Keep h0 h [] ∧ h0.size ≤ b1 ∧ Exa Z h b1 "biaxial/cli/Forms$Operand" ∧ Fld Z h b1 "biaxial/cli/Forms$Operand" "name" "Ljava/lang/String;" .null ∧ Fld Z h b1 "biaxial/cli/Forms$Operand" "kind" "Lbiaxial/cli/Forms$Kind;" (.ref kd) ∧ Fld Z h b1 "biaxial/cli/Forms$Operand" "required" "Z" (.int (nar .boolean (1 : Int32))) ∧ Fld Z h b1 "biaxial/cli/Forms$Operand" "repeated" "Z" (.int (nar .boolean (0 : Int32))) ∧ Fld Z h b1 "biaxial/cli/Forms$Operand" "flag" "Ljava/lang/String;" (.ref o0)
set_option maxRecDepth 65536 in
set_option maxHeartbeats 40000000 in
theorem rmfflag (l : Launch) (Z : State) (a0 : Array Value) (hw : ∀ d ∈ tables_1, d.before a0 Z = true) (ws : List Jvm.Cond) (o0 : Addr) (kd : Addr) (h0 : Heap) (n0 : Nat) (Z0 : n0 ≤ h0.size) (S_Forms_Kind_NAME : Sta Z h0 "biaxial/cli/Forms$Kind" "NAME" "Lbiaxial/cli/Forms$Kind;" (.ref kd)) :
    MetFree l (⟨"biaxial/cli/Forms", "flag", "(Ljava/lang/String;)Lbiaxial/cli/Forms$Operand;"⟩ : MethodName) (head1 (Jvm.Cond.code (⟨"biaxial/cli/Forms", "flag", "(Ljava/lang/String;)Lbiaxial/cli/Forms$Operand;"⟩ : MethodName) prog_76_method_8_code 1 (some (.object "biaxial/cli/Forms$Operand")) :: ws) ({ frames := 3, cells := 1, slots := 5, locals := 42 } : Room)) (fun a U => a = #[(.ref o0)] ∧ Z.Warmed39 U.vm ∧ U.heap = h0) (fun _ _ _ _ _ => True) (fun _ U o U' => ∃ v L, o = .returned v ∧ Qfflag Z o0 kd h0 n0 v U'.heap L ∧ FrameEnd U o U' L ({ frames := 3, cells := 1, slots := 5, locals := 42 } : Room).cells ({ frames := 3, cells := 1, slots := 5, locals := 42 } : Room).slots) := by
  refine MetFree.of_bodySF (plainFor_of_name pnfflag) hisR ?_
  intro p e s m args below meth c s₁ Bd hml0 hP hK
  obtain ⟨rfl, hZ, hh⟩ := hP
  have hlk : meth.locks = false := BodyLoose.notSynchronized Bd
  have hx := Bd.exec
  have hby := Bd.bytes
  have hml : c.maxLocals = 1 := hml0
  have hown : s.vm.findClass "biaxial/cli/Forms" = some m.cls := findClass_of_methodNamed Bd.named
  have hnm := (name_of_methodNamed Bd.named Bd.method).1
  have X0 : Stand p l e ({ frames := 3, cells := 1, slots := 5, locals := 42 } : Room) s m #[(.ref o0)] below meth c s₁ [] 0 0 := Stand.of_body Bd
  have e0 : s₁.heap = h0 := by rw [← hh, Bd.state]; rfl
  have N0 := Fr.nil n0
  obtain ⟨S0, hS0⟩ : ∃ S0, S0 = s₁.setTop (entryFrame m #[(.ref o0)] 1) := ⟨_, rfl⟩
  have pre0 : ∀ t, Steps p.tables e below (s₁.setTop (mkF m 0 #[.val (.ref o0)] [])) t → Steps p.tables e below S0 t := fun t k => by rw [hS0]; exact castTop (effflag m o0) k
  obtain ⟨T1, h1, X1, e1, E1, A1, D1, -, st1⟩ := newO X0 hx hZ hown (hw _ (List.mem_of_getElem? (i := 87) rfl)) (hw _ (List.mem_of_getElem? (i := 45) rfl)) (hw _ (List.mem_of_getElem? (i := 46) rfl)) e0 (g := (mkF m 0 #[.val (.ref o0)] [])) rfl (hb hby dfflag_0) (by decide) (by decide)
  obtain ⟨b1, g1⟩ : ∃ z, z = h0.size := ⟨_, rfl⟩
  rw [← g1] at A1 D1 st1
  have S_Forms_Kind_NAME__1 := S_Forms_Kind_NAME.ext E1
  have g_b1 : n0 ≤ b1 := Nat.le_trans Z0 (Nat.le_of_eq g1.symm)
  have Zs1 : n0 ≤ h1.size := Nat.le_trans Z0 E1.1
  have sz_b1 : h0.size ≤ b1 := Nat.le_trans (Keep.refl h0 []).1 (Nat.le_of_eq g1.symm)
  have Kc1 : Keep h0 h1 [] := (Keep.refl h0 []).ext E1
  have F_b1_name : Fld Z h1 b1 "biaxial/cli/Forms$Operand" "name" "Ljava/lang/String;" .null := D1 (Or.inr (hw _ (List.mem_of_getElem? (i := 57) rfl))) (ty := (.object "java/lang/String")) (by decide)
  have F_b1_kind : Fld Z h1 b1 "biaxial/cli/Forms$Operand" "kind" "Lbiaxial/cli/Forms$Kind;" .null := D1 (Or.inr (hw _ (List.mem_of_getElem? (i := 59) rfl))) (ty := (.object "biaxial/cli/Forms$Kind")) (by decide)
  have F_b1_required : Fld Z h1 b1 "biaxial/cli/Forms$Operand" "required" "Z" (.int (0 : Int32)) := D1 (Or.inr (hw _ (List.mem_of_getElem? (i := 61) rfl))) (ty := .boolean) (by decide)
  have F_b1_repeated : Fld Z h1 b1 "biaxial/cli/Forms$Operand" "repeated" "Z" (.int (0 : Int32)) := D1 (Or.inr (hw _ (List.mem_of_getElem? (i := 63) rfl))) (ty := .boolean) (by decide)
  have F_b1_flag : Fld Z h1 b1 "biaxial/cli/Forms$Operand" "flag" "Ljava/lang/String;" .null := D1 (Or.inr (hw _ (List.mem_of_getElem? (i := 65) rfl))) (ty := (.object "java/lang/String")) (by decide)
  have K1 : ∀ t, Steps p.tables e below (T1.setTop (mkF m 3 #[.val (.ref o0)] [(.ref b1)])) t → Steps p.tables e below S0 t := fun t k => pre0 t (st1 t k)
  have K2 : ∀ t, Steps p.tables e below (T1.setTop (mkF m 5 #[.val (.ref o0)] [.null, (.ref b1), (.ref b1)])) t → Steps p.tables e below S0 t := fun t k => K1 t (by
    refine XS.dup X1.here hx rfl (hb hby dfflag_3) rfl rfl ?_
    show Steps p.tables e below (T1.setTop (mkF m 4 #[.val (.ref o0)] [(.ref b1), (.ref b1)])) _
    refine XS.aconstNull X1.here hx rfl (hb hby dfflag_4) ?_
    show Steps p.tables e below (T1.setTop (mkF m 5 #[.val (.ref o0)] [.null, (.ref b1), (.ref b1)])) _
    exact k)
  obtain ⟨T3, X3, e3, st3⟩ := getS2 X1 hx hZ hown (host := "") (Or.inl (hw _ (List.mem_of_getElem? (i := 88) rfl))) Via.refl e1 S_Forms_Kind_NAME__1 (g := (mkF m 5 #[.val (.ref o0)] [.null, (.ref b1), (.ref b1)])) rfl (hb hby dfflag_5)
  have K3 : ∀ t, Steps p.tables e below (T3.setTop (mkF m 8 #[.val (.ref o0)] [(.ref kd), .null, (.ref b1), (.ref b1)])) t → Steps p.tables e below S0 t := fun t k => K2 t (st3 t k)
  have K4 : ∀ t, Steps p.tables e below (T3.setTop (mkF m 11 #[.val (.ref o0)] [(.ref o0), (.int (0 : Int32)), (.int (1 : Int32)), (.ref kd), .null, (.ref b1), (.ref b1)])) t → Steps p.tables e below S0 t := fun t k => K3 t (by
    refine XS.iconst X3.here hx rfl (hb hby dfflag_8) ?_
    show Steps p.tables e below (T3.setTop (mkF m 9 #[.val (.ref o0)] [(.int (1 : Int32)), (.ref kd), .null, (.ref b1), (.ref b1)])) _
    refine XS.iconst X3.here hx rfl (hb hby dfflag_9) ?_
    show Steps p.tables e below (T3.setTop (mkF m 10 #[.val (.ref o0)] [(.int (0 : Int32)), (.int (1 : Int32)), (.ref kd), .null, (.ref b1), (.ref b1)])) _
    refine XS.aloadN X3.here hx rfl (hb hby dfflag_10) rfl rfl ?_
    show Steps p.tables e below (T3.setTop (mkF m 11 #[.val (.ref o0)] [(.ref o0), (.int (0 : Int32)), (.int (1 : Int32)), (.ref kd), .null, (.ref b1), (.ref b1)])) _
    exact k)
  have K_5 : ∀ t, Steps p.tables e below (T3.setTop (mkF m 11 #[.val (.ref o0)] [(.ref o0), (.int (0 : Int32)), (.int (1 : Int32)), (.ref kd), .null, (.ref b1), (.ref b1)])) t → Steps p.tables e below S0 t := K4
  obtain ⟨_, _, ⟨T6, L6, k6, n6⟩, -, X6, ⟨Lc6, hQ6, l6, y6, z6⟩, st6⟩ := X3.specialBack hx (y := (⟨"biaxial/cli/Forms$Operand", "<init>", "(Ljava/lang/String;Lbiaxial/cli/Forms$Kind;ZZLjava/lang/String;)V"⟩ : MethodName)) rfl hown (mvT hZ (hw _ (List.mem_of_getElem? (i := 91) rfl))) (mvT hZ (hw _ (List.mem_of_getElem? (i := 48) rfl))) (mvT hZ (hw _ (List.mem_of_getElem? (i := 49) rfl))) (by decide) (backOf (W := 1) (rmi011 l Z a0 hw [] b1 kd (1 : Int32) (0 : Int32) o0 h1 n0 Zs1 A1 F_b1_name F_b1_kind F_b1_required F_b1_repeated F_b1_flag g_b1) hZ (hw _ (List.mem_of_getElem? (i := 49) rfl)) (hw _ (List.mem_of_getElem? (i := 46) rfl)) (by decide) (by decide)) (g := (mkF m 11 #[.val (.ref o0)] [(.ref o0), (.int (0 : Int32)), (.int (1 : Int32)), (.ref kd), .null, (.ref b1), (.ref b1)])) rfl (by rw [hml]; rfl) (Steps.refl _) (a := b1) (argsL := [.null, (.ref kd), (.int (1 : Int32)), (.int (0 : Int32)), (.ref o0)]) (rest := [(.ref b1)]) (lenOf pdfflag_0 rfl) rfl (by show 2 * 0 + _ ≤ _; exact Nat.le_of_eq rfl) (hb hby dfflag_11) (fun _ _ => ⟨rfl, e3, (by decide : 1 + 0 ≤ 1), (by decide : 5 + 0 ≤ 5)⟩)
  dsimp only [Pt.U, Pt.locs, Pt.cells, Pt.slots] at X6 l6 y6 z6 st6 hQ6
  subst l6 y6 z6
  obtain ⟨rfl, N6q, Kp6, Fn6_0, Fn6_1, Fn6_2, Fn6_3, Fn6_4, Fn6_5⟩ := hQ6
  have N6 := Fr.app N0 N6q
  have Zs6 : n0 ≤ T6.heap.size := Nat.le_trans Zs1 Kp6.1
  have Kc6 : Keep h0 T6.heap [] := Kc1.trans Kp6 (allS (P := fun x => x ∈ [] ∨ h0.size ≤ x) (Or.inr sz_b1) all0)
  have K6 : ∀ t, Steps p.tables e below (T6.setTop (mkF m 14 #[.val (.ref o0)] [(.ref b1)])) t → Steps p.tables e below S0 t := fun t k => K_5 t (st6.trans k)
  obtain ⟨fs, hr, hrun, hended, hW, hsame⟩ := X6.leave (v := some (.ref b1)) (fun h => by rw [Bd.returns] at h; cases h) hlk
  refine ⟨_, _, ?_, hrun, hended, _, _, rfl, ?_, ⟨_, rfl⟩, hW, hsame.mono (by decide) (by decide)⟩
  · rw [← hS0]; exact K6 _ (retOut X6 hx Bd.returns rfl (Or.inr (Or.inr (Or.inr (Or.inr ⟨rfl, rfl, rfl⟩)))) (hb hby dfflag_14) hr)
  · show Qfflag Z o0 kd h0 n0 _ T6.heap _
    exact ⟨b1, rfl, N6, Kc6, sz_b1, Fn6_0, Fn6_1, Fn6_2, Fn6_3, Fn6_4, Fn6_5⟩
theorem dn0_0 : decode prog_84_method_10_code 0 = .ok (.aload_n 0, 1) := by decide +kernel
theorem dn0_1 : decode prog_84_method_10_code 1 = .ok (.getfield 7, 3) := by decide +kernel
theorem dn0_4 : decode prog_84_method_10_code 4 = .ok (.areturn, 1) := by decide +kernel
theorem pnn0 : plainName "biaxial/cli/Forms$Operand" = true := by first | (simp [plainName, overriddenIn]; done) | decide +kernel
theorem efn0 (m : MethodId) (o0 : Addr) : entryFrame m #[(.ref o0)] 1 = mkF m 0 #[.val (.ref o0)] [] := by first | (simp [entryFrame, mkF, argsToLocals, Value.category]; done) | rfl
def Qn0 (Z : State) (o0 : Addr) (h0 : Heap) (n0 : Nat) (v : Option Value) (h : Heap) (L : List Loc) : Prop := v = some .null ∧ Fr n0 L ∧ h = h0
set_option maxRecDepth 65536 in
set_option maxHeartbeats 40000000 in
theorem rmn0 (l : Launch) (Z : State) (a0 : Array Value) (hw : ∀ d ∈ tables_1, d.before a0 Z = true) (ws : List Jvm.Cond) (o0 : Addr) (h0 : Heap) (n0 : Nat) (Z0 : n0 ≤ h0.size) (F_o0_name : Fld Z h0 o0 "biaxial/cli/Forms$Operand" "name" "Ljava/lang/String;" .null) :
    MetFree l (⟨"biaxial/cli/Forms$Operand", "name", "()Ljava/lang/String;"⟩ : MethodName) (head1 (Jvm.Cond.code (⟨"biaxial/cli/Forms$Operand", "name", "()Ljava/lang/String;"⟩ : MethodName) prog_84_method_10_code 1 (some (.object "java/lang/String")) :: ws) ({ frames := 0, cells := 0, slots := 0, locals := 0 } : Room)) (fun a U => a = #[(.ref o0)] ∧ Z.Warmed39 U.vm ∧ U.heap = h0) (fun _ _ _ _ _ => True) (fun _ U o U' => ∃ v L, o = .returned v ∧ Qn0 Z o0 h0 n0 v U'.heap L ∧ FrameEnd U o U' L ({ frames := 0, cells := 0, slots := 0, locals := 0 } : Room).cells ({ frames := 0, cells := 0, slots := 0, locals := 0 } : Room).slots) := by
  refine MetFree.of_bodySF (plainFor_of_name pnn0) hisR ?_
  intro p e s m args below meth c s₁ Bd hml0 hP hK
  obtain ⟨rfl, hZ, hh⟩ := hP
  have hlk : meth.locks = false := BodyLoose.notSynchronized Bd
  have hx := Bd.exec
  have hby := Bd.bytes
  have hml : c.maxLocals = 1 := hml0
  have hown : s.vm.findClass "biaxial/cli/Forms$Operand" = some m.cls := findClass_of_methodNamed Bd.named
  have hnm := (name_of_methodNamed Bd.named Bd.method).1
  have X0 : Stand p l e ({ frames := 0, cells := 0, slots := 0, locals := 0 } : Room) s m #[(.ref o0)] below meth c s₁ [] 0 0 := Stand.of_body Bd
  have e0 : s₁.heap = h0 := by rw [← hh, Bd.state]; rfl
  have N0 := Fr.nil n0
  obtain ⟨S0, hS0⟩ : ∃ S0, S0 = s₁.setTop (entryFrame m #[(.ref o0)] 1) := ⟨_, rfl⟩
  have pre0 : ∀ t, Steps p.tables e below (s₁.setTop (mkF m 0 #[.val (.ref o0)] [])) t → Steps p.tables e below S0 t := fun t k => by rw [hS0]; exact castTop (efn0 m o0) k
  have K1 : ∀ t, Steps p.tables e below (s₁.setTop (mkF m 1 #[.val (.ref o0)] [(.ref o0)])) t → Steps p.tables e below S0 t := fun t k => pre0 t (by
    refine XS.aloadN X0.here hx rfl (hb hby dn0_0) rfl rfl ?_
    show Steps p.tables e below (s₁.setTop (mkF m 1 #[.val (.ref o0)] [(.ref o0)])) _
    exact k)
  obtain ⟨T2, X2, e2, st2⟩ := getF X0 hx hZ hown (host := "") (Or.inl (hw _ (List.mem_of_getElem? (i := 56) rfl))) Via.refl e0 F_o0_name (g := (mkF m 1 #[.val (.ref o0)] [(.ref o0)])) rfl rfl (hb hby dn0_1)
  have K2 : ∀ t, Steps p.tables e below (T2.setTop (mkF m 4 #[.val (.ref o0)] [.null])) t → Steps p.tables e below S0 t := fun t k => K1 t (st2 t k)
  obtain ⟨fs, hr, hrun, hended, hW, hsame⟩ := X2.leave (v := some .null) (fun h => by rw [Bd.returns] at h; cases h) hlk
  refine ⟨_, _, ?_, hrun, hended, _, _, rfl, ?_, ⟨_, rfl⟩, hW, hsame.mono (by decide) (by decide)⟩
  · rw [← hS0]; exact K2 _ (retOut X2 hx Bd.returns rfl (Or.inr (Or.inr (Or.inr (Or.inr ⟨rfl, rfl, rfl⟩)))) (hb hby dn0_4) hr)
  · show Qn0 Z o0 h0 n0 _ T2.heap _
    rw [e2]
    exact ⟨rfl, N0, rfl⟩
theorem dn1_0 : decode prog_84_method_10_code 0 = .ok (.aload_n 0, 1) := by decide +kernel
theorem dn1_1 : decode prog_84_method_10_code 1 = .ok (.getfield 7, 3) := by decide +kernel
theorem dn1_4 : decode prog_84_method_10_code 4 = .ok (.areturn, 1) := by decide +kernel
theorem pnn1 : plainName "biaxial/cli/Forms$Operand" = true := by first | (simp [plainName, overriddenIn]; done) | decide +kernel
theorem efn1 (m : MethodId) (o0 : Addr) : entryFrame m #[(.ref o0)] 1 = mkF m 0 #[.val (.ref o0)] [] := by first | (simp [entryFrame, mkF, argsToLocals, Value.category]; done) | rfl
def Qn1 (Z : State) (o0 : Addr) (nm : Addr) (h0 : Heap) (n0 : Nat) (v : Option Value) (h : Heap) (L : List Loc) : Prop := v = some (.ref nm) ∧ Fr n0 L ∧ h = h0
set_option maxRecDepth 65536 in
set_option maxHeartbeats 40000000 in
theorem rmn1 (l : Launch) (Z : State) (a0 : Array Value) (hw : ∀ d ∈ tables_1, d.before a0 Z = true) (ws : List Jvm.Cond) (o0 : Addr) (nm : Addr) (h0 : Heap) (n0 : Nat) (Z0 : n0 ≤ h0.size) (F_o0_name : Fld Z h0 o0 "biaxial/cli/Forms$Operand" "name" "Ljava/lang/String;" (.ref nm)) :
    MetFree l (⟨"biaxial/cli/Forms$Operand", "name", "()Ljava/lang/String;"⟩ : MethodName) (head1 (Jvm.Cond.code (⟨"biaxial/cli/Forms$Operand", "name", "()Ljava/lang/String;"⟩ : MethodName) prog_84_method_10_code 1 (some (.object "java/lang/String")) :: ws) ({ frames := 0, cells := 0, slots := 0, locals := 0 } : Room)) (fun a U => a = #[(.ref o0)] ∧ Z.Warmed39 U.vm ∧ U.heap = h0) (fun _ _ _ _ _ => True) (fun _ U o U' => ∃ v L, o = .returned v ∧ Qn1 Z o0 nm h0 n0 v U'.heap L ∧ FrameEnd U o U' L ({ frames := 0, cells := 0, slots := 0, locals := 0 } : Room).cells ({ frames := 0, cells := 0, slots := 0, locals := 0 } : Room).slots) := by
  refine MetFree.of_bodySF (plainFor_of_name pnn1) hisR ?_
  intro p e s m args below meth c s₁ Bd hml0 hP hK
  obtain ⟨rfl, hZ, hh⟩ := hP
  have hlk : meth.locks = false := BodyLoose.notSynchronized Bd
  have hx := Bd.exec
  have hby := Bd.bytes
  have hml : c.maxLocals = 1 := hml0
  have hown : s.vm.findClass "biaxial/cli/Forms$Operand" = some m.cls := findClass_of_methodNamed Bd.named
  have hnm := (name_of_methodNamed Bd.named Bd.method).1
  have X0 : Stand p l e ({ frames := 0, cells := 0, slots := 0, locals := 0 } : Room) s m #[(.ref o0)] below meth c s₁ [] 0 0 := Stand.of_body Bd
  have e0 : s₁.heap = h0 := by rw [← hh, Bd.state]; rfl
  have N0 := Fr.nil n0
  obtain ⟨S0, hS0⟩ : ∃ S0, S0 = s₁.setTop (entryFrame m #[(.ref o0)] 1) := ⟨_, rfl⟩
  have pre0 : ∀ t, Steps p.tables e below (s₁.setTop (mkF m 0 #[.val (.ref o0)] [])) t → Steps p.tables e below S0 t := fun t k => by rw [hS0]; exact castTop (efn1 m o0) k
  have K1 : ∀ t, Steps p.tables e below (s₁.setTop (mkF m 1 #[.val (.ref o0)] [(.ref o0)])) t → Steps p.tables e below S0 t := fun t k => pre0 t (by
    refine XS.aloadN X0.here hx rfl (hb hby dn1_0) rfl rfl ?_
    show Steps p.tables e below (s₁.setTop (mkF m 1 #[.val (.ref o0)] [(.ref o0)])) _
    exact k)
  obtain ⟨T2, X2, e2, st2⟩ := getF X0 hx hZ hown (host := "") (Or.inl (hw _ (List.mem_of_getElem? (i := 56) rfl))) Via.refl e0 F_o0_name (g := (mkF m 1 #[.val (.ref o0)] [(.ref o0)])) rfl rfl (hb hby dn1_1)
  have K2 : ∀ t, Steps p.tables e below (T2.setTop (mkF m 4 #[.val (.ref o0)] [(.ref nm)])) t → Steps p.tables e below S0 t := fun t k => K1 t (st2 t k)
  obtain ⟨fs, hr, hrun, hended, hW, hsame⟩ := X2.leave (v := some (.ref nm)) (fun h => by rw [Bd.returns] at h; cases h) hlk
  refine ⟨_, _, ?_, hrun, hended, _, _, rfl, ?_, ⟨_, rfl⟩, hW, hsame.mono (by decide) (by decide)⟩
  · rw [← hS0]; exact K2 _ (retOut X2 hx Bd.returns rfl (Or.inr (Or.inr (Or.inr (Or.inr ⟨rfl, rfl, rfl⟩)))) (hb hby dn1_4) hr)
  · show Qn1 Z o0 nm h0 n0 _ T2.heap _
    rw [e2]
    exact ⟨rfl, N0, rfl⟩
theorem dk1_0 : decode prog_84_method_11_code 0 = .ok (.aload_n 0, 1) := by decide +kernel
theorem dk1_1 : decode prog_84_method_11_code 1 = .ok (.getfield 13, 3) := by decide +kernel
theorem dk1_4 : decode prog_84_method_11_code 4 = .ok (.areturn, 1) := by decide +kernel
theorem pnk1 : plainName "biaxial/cli/Forms$Operand" = true := by first | (simp [plainName, overriddenIn]; done) | decide +kernel
theorem efk1 (m : MethodId) (o0 : Addr) : entryFrame m #[(.ref o0)] 1 = mkF m 0 #[.val (.ref o0)] [] := by first | (simp [entryFrame, mkF, argsToLocals, Value.category]; done) | rfl
def Qk1 (Z : State) (o0 : Addr) (kd : Addr) (h0 : Heap) (n0 : Nat) (v : Option Value) (h : Heap) (L : List Loc) : Prop := v = some (.ref kd) ∧ Fr n0 L ∧ h = h0
set_option maxRecDepth 65536 in
set_option maxHeartbeats 40000000 in
theorem rmk1 (l : Launch) (Z : State) (a0 : Array Value) (hw : ∀ d ∈ tables_1, d.before a0 Z = true) (ws : List Jvm.Cond) (o0 : Addr) (kd : Addr) (h0 : Heap) (n0 : Nat) (Z0 : n0 ≤ h0.size) (F_o0_kind : Fld Z h0 o0 "biaxial/cli/Forms$Operand" "kind" "Lbiaxial/cli/Forms$Kind;" (.ref kd)) :
    MetFree l (⟨"biaxial/cli/Forms$Operand", "kind", "()Lbiaxial/cli/Forms$Kind;"⟩ : MethodName) (head1 (Jvm.Cond.code (⟨"biaxial/cli/Forms$Operand", "kind", "()Lbiaxial/cli/Forms$Kind;"⟩ : MethodName) prog_84_method_11_code 1 (some (.object "biaxial/cli/Forms$Kind")) :: ws) ({ frames := 0, cells := 0, slots := 0, locals := 0 } : Room)) (fun a U => a = #[(.ref o0)] ∧ Z.Warmed39 U.vm ∧ U.heap = h0) (fun _ _ _ _ _ => True) (fun _ U o U' => ∃ v L, o = .returned v ∧ Qk1 Z o0 kd h0 n0 v U'.heap L ∧ FrameEnd U o U' L ({ frames := 0, cells := 0, slots := 0, locals := 0 } : Room).cells ({ frames := 0, cells := 0, slots := 0, locals := 0 } : Room).slots) := by
  refine MetFree.of_bodySF (plainFor_of_name pnk1) hisR ?_
  intro p e s m args below meth c s₁ Bd hml0 hP hK
  obtain ⟨rfl, hZ, hh⟩ := hP
  have hlk : meth.locks = false := BodyLoose.notSynchronized Bd
  have hx := Bd.exec
  have hby := Bd.bytes
  have hml : c.maxLocals = 1 := hml0
  have hown : s.vm.findClass "biaxial/cli/Forms$Operand" = some m.cls := findClass_of_methodNamed Bd.named
  have hnm := (name_of_methodNamed Bd.named Bd.method).1
  have X0 : Stand p l e ({ frames := 0, cells := 0, slots := 0, locals := 0 } : Room) s m #[(.ref o0)] below meth c s₁ [] 0 0 := Stand.of_body Bd
  have e0 : s₁.heap = h0 := by rw [← hh, Bd.state]; rfl
  have N0 := Fr.nil n0
  obtain ⟨S0, hS0⟩ : ∃ S0, S0 = s₁.setTop (entryFrame m #[(.ref o0)] 1) := ⟨_, rfl⟩
  have pre0 : ∀ t, Steps p.tables e below (s₁.setTop (mkF m 0 #[.val (.ref o0)] [])) t → Steps p.tables e below S0 t := fun t k => by rw [hS0]; exact castTop (efk1 m o0) k
  have K1 : ∀ t, Steps p.tables e below (s₁.setTop (mkF m 1 #[.val (.ref o0)] [(.ref o0)])) t → Steps p.tables e below S0 t := fun t k => pre0 t (by
    refine XS.aloadN X0.here hx rfl (hb hby dk1_0) rfl rfl ?_
    show Steps p.tables e below (s₁.setTop (mkF m 1 #[.val (.ref o0)] [(.ref o0)])) _
    exact k)
  obtain ⟨T2, X2, e2, st2⟩ := getF X0 hx hZ hown (host := "") (Or.inl (hw _ (List.mem_of_getElem? (i := 58) rfl))) Via.refl e0 F_o0_kind (g := (mkF m 1 #[.val (.ref o0)] [(.ref o0)])) rfl rfl (hb hby dk1_1)
  have K2 : ∀ t, Steps p.tables e below (T2.setTop (mkF m 4 #[.val (.ref o0)] [(.ref kd)])) t → Steps p.tables e below S0 t := fun t k => K1 t (st2 t k)
  obtain ⟨fs, hr, hrun, hended, hW, hsame⟩ := X2.leave (v := some (.ref kd)) (fun h => by rw [Bd.returns] at h; cases h) hlk
  refine ⟨_, _, ?_, hrun, hended, _, _, rfl, ?_, ⟨_, rfl⟩, hW, hsame.mono (by decide) (by decide)⟩
  · rw [← hS0]; exact K2 _ (retOut X2 hx Bd.returns rfl (Or.inr (Or.inr (Or.inr (Or.inr ⟨rfl, rfl, rfl⟩)))) (hb hby dk1_4) hr)
  · show Qk1 Z o0 kd h0 n0 _ T2.heap _
    rw [e2]
    exact ⟨rfl, N0, rfl⟩
theorem dreq_0 : decode prog_84_method_12_code 0 = .ok (.aload_n 0, 1) := by decide +kernel
theorem dreq_1 : decode prog_84_method_12_code 1 = .ok (.getfield 17, 3) := by decide +kernel
theorem dreq_4 : decode prog_84_method_12_code 4 = .ok (.ireturn, 1) := by decide +kernel
theorem pnreq : plainName "biaxial/cli/Forms$Operand" = true := by first | (simp [plainName, overriddenIn]; done) | decide +kernel
theorem efreq (m : MethodId) (o0 : Addr) : entryFrame m #[(.ref o0)] 1 = mkF m 0 #[.val (.ref o0)] [] := by first | (simp [entryFrame, mkF, argsToLocals, Value.category]; done) | rfl
def Qreq (Z : State) (o0 : Addr) (rq : Int32) (h0 : Heap) (n0 : Nat) (v : Option Value) (h : Heap) (L : List Loc) : Prop := v = some (.int (wreq_r1 rq)) ∧ Fr n0 L ∧ h = h0
set_option maxRecDepth 65536 in
set_option maxHeartbeats 40000000 in
theorem rmreq (l : Launch) (Z : State) (a0 : Array Value) (hw : ∀ d ∈ tables_1, d.before a0 Z = true) (ws : List Jvm.Cond) (o0 : Addr) (rq : Int32) (h0 : Heap) (n0 : Nat) (Z0 : n0 ≤ h0.size) (F_o0_required : Fld Z h0 o0 "biaxial/cli/Forms$Operand" "required" "Z" (.int rq)) :
    MetFree l (⟨"biaxial/cli/Forms$Operand", "required", "()Z"⟩ : MethodName) (head1 (Jvm.Cond.code (⟨"biaxial/cli/Forms$Operand", "required", "()Z"⟩ : MethodName) prog_84_method_12_code 1 (some .boolean) :: ws) ({ frames := 0, cells := 0, slots := 0, locals := 0 } : Room)) (fun a U => a = #[(.ref o0)] ∧ Z.Warmed39 U.vm ∧ U.heap = h0) (fun _ _ _ _ _ => True) (fun _ U o U' => ∃ v L, o = .returned v ∧ Qreq Z o0 rq h0 n0 v U'.heap L ∧ FrameEnd U o U' L ({ frames := 0, cells := 0, slots := 0, locals := 0 } : Room).cells ({ frames := 0, cells := 0, slots := 0, locals := 0 } : Room).slots) := by
  refine MetFree.of_bodySF (plainFor_of_name pnreq) hisR ?_
  intro p e s m args below meth c s₁ Bd hml0 hP hK
  obtain ⟨rfl, hZ, hh⟩ := hP
  have hlk : meth.locks = false := BodyLoose.notSynchronized Bd
  have hx := Bd.exec
  have hby := Bd.bytes
  have hml : c.maxLocals = 1 := hml0
  have hown : s.vm.findClass "biaxial/cli/Forms$Operand" = some m.cls := findClass_of_methodNamed Bd.named
  have hnm := (name_of_methodNamed Bd.named Bd.method).1
  have X0 : Stand p l e ({ frames := 0, cells := 0, slots := 0, locals := 0 } : Room) s m #[(.ref o0)] below meth c s₁ [] 0 0 := Stand.of_body Bd
  have e0 : s₁.heap = h0 := by rw [← hh, Bd.state]; rfl
  have N0 := Fr.nil n0
  obtain ⟨S0, hS0⟩ : ∃ S0, S0 = s₁.setTop (entryFrame m #[(.ref o0)] 1) := ⟨_, rfl⟩
  have pre0 : ∀ t, Steps p.tables e below (s₁.setTop (mkF m 0 #[.val (.ref o0)] [])) t → Steps p.tables e below S0 t := fun t k => by rw [hS0]; exact castTop (efreq m o0) k
  have K1 : ∀ t, Steps p.tables e below (s₁.setTop (mkF m 1 #[.val (.ref o0)] [(.ref o0)])) t → Steps p.tables e below S0 t := fun t k => pre0 t (by
    refine XS.aloadN X0.here hx rfl (hb hby dreq_0) rfl rfl ?_
    show Steps p.tables e below (s₁.setTop (mkF m 1 #[.val (.ref o0)] [(.ref o0)])) _
    exact k)
  obtain ⟨T2, X2, e2, st2⟩ := getF X0 hx hZ hown (host := "") (Or.inl (hw _ (List.mem_of_getElem? (i := 60) rfl))) Via.refl e0 F_o0_required (g := (mkF m 1 #[.val (.ref o0)] [(.ref o0)])) rfl rfl (hb hby dreq_1)
  have K2 : ∀ t, Steps p.tables e below (T2.setTop (mkF m 4 #[.val (.ref o0)] [(.int rq)])) t → Steps p.tables e below S0 t := fun t k => K1 t (st2 t k)
  obtain ⟨fs, hr, hrun, hended, hW, hsame⟩ := X2.leave (v := some (.int (nar .boolean rq))) (fun h => by rw [Bd.returns] at h; cases h) hlk
  refine ⟨_, _, ?_, hrun, hended, _, _, rfl, ?_, ⟨_, rfl⟩, hW, hsame.mono (by decide) (by decide)⟩
  · rw [← hS0]; exact K2 _ (retN X2 hx (t := .boolean) Bd.returns (by simp) (hb hby dreq_4) hr)
  · show Qreq Z o0 rq h0 n0 _ T2.heap _
    rw [e2]
    have qr : (nar .boolean rq) = (wreq_r1 rq) := rfl
    exact ⟨congrArg (fun z => some (Value.int z)) qr, N0, rfl⟩
theorem drep_0 : decode prog_84_method_13_code 0 = .ok (.aload_n 0, 1) := by decide +kernel
theorem drep_1 : decode prog_84_method_13_code 1 = .ok (.getfield 21, 3) := by decide +kernel
theorem drep_4 : decode prog_84_method_13_code 4 = .ok (.ireturn, 1) := by decide +kernel
theorem pnrep : plainName "biaxial/cli/Forms$Operand" = true := by first | (simp [plainName, overriddenIn]; done) | decide +kernel
theorem efrep (m : MethodId) (o0 : Addr) : entryFrame m #[(.ref o0)] 1 = mkF m 0 #[.val (.ref o0)] [] := by first | (simp [entryFrame, mkF, argsToLocals, Value.category]; done) | rfl
def Qrep (Z : State) (o0 : Addr) (rq : Int32) (h0 : Heap) (n0 : Nat) (v : Option Value) (h : Heap) (L : List Loc) : Prop := v = some (.int (wrep_r1 rq)) ∧ Fr n0 L ∧ h = h0
set_option maxRecDepth 65536 in
set_option maxHeartbeats 40000000 in
theorem rmrep (l : Launch) (Z : State) (a0 : Array Value) (hw : ∀ d ∈ tables_1, d.before a0 Z = true) (ws : List Jvm.Cond) (o0 : Addr) (rq : Int32) (h0 : Heap) (n0 : Nat) (Z0 : n0 ≤ h0.size) (F_o0_repeated : Fld Z h0 o0 "biaxial/cli/Forms$Operand" "repeated" "Z" (.int rq)) :
    MetFree l (⟨"biaxial/cli/Forms$Operand", "repeated", "()Z"⟩ : MethodName) (head1 (Jvm.Cond.code (⟨"biaxial/cli/Forms$Operand", "repeated", "()Z"⟩ : MethodName) prog_84_method_13_code 1 (some .boolean) :: ws) ({ frames := 0, cells := 0, slots := 0, locals := 0 } : Room)) (fun a U => a = #[(.ref o0)] ∧ Z.Warmed39 U.vm ∧ U.heap = h0) (fun _ _ _ _ _ => True) (fun _ U o U' => ∃ v L, o = .returned v ∧ Qrep Z o0 rq h0 n0 v U'.heap L ∧ FrameEnd U o U' L ({ frames := 0, cells := 0, slots := 0, locals := 0 } : Room).cells ({ frames := 0, cells := 0, slots := 0, locals := 0 } : Room).slots) := by
  refine MetFree.of_bodySF (plainFor_of_name pnrep) hisR ?_
  intro p e s m args below meth c s₁ Bd hml0 hP hK
  obtain ⟨rfl, hZ, hh⟩ := hP
  have hlk : meth.locks = false := BodyLoose.notSynchronized Bd
  have hx := Bd.exec
  have hby := Bd.bytes
  have hml : c.maxLocals = 1 := hml0
  have hown : s.vm.findClass "biaxial/cli/Forms$Operand" = some m.cls := findClass_of_methodNamed Bd.named
  have hnm := (name_of_methodNamed Bd.named Bd.method).1
  have X0 : Stand p l e ({ frames := 0, cells := 0, slots := 0, locals := 0 } : Room) s m #[(.ref o0)] below meth c s₁ [] 0 0 := Stand.of_body Bd
  have e0 : s₁.heap = h0 := by rw [← hh, Bd.state]; rfl
  have N0 := Fr.nil n0
  obtain ⟨S0, hS0⟩ : ∃ S0, S0 = s₁.setTop (entryFrame m #[(.ref o0)] 1) := ⟨_, rfl⟩
  have pre0 : ∀ t, Steps p.tables e below (s₁.setTop (mkF m 0 #[.val (.ref o0)] [])) t → Steps p.tables e below S0 t := fun t k => by rw [hS0]; exact castTop (efrep m o0) k
  have K1 : ∀ t, Steps p.tables e below (s₁.setTop (mkF m 1 #[.val (.ref o0)] [(.ref o0)])) t → Steps p.tables e below S0 t := fun t k => pre0 t (by
    refine XS.aloadN X0.here hx rfl (hb hby drep_0) rfl rfl ?_
    show Steps p.tables e below (s₁.setTop (mkF m 1 #[.val (.ref o0)] [(.ref o0)])) _
    exact k)
  obtain ⟨T2, X2, e2, st2⟩ := getF X0 hx hZ hown (host := "") (Or.inl (hw _ (List.mem_of_getElem? (i := 62) rfl))) Via.refl e0 F_o0_repeated (g := (mkF m 1 #[.val (.ref o0)] [(.ref o0)])) rfl rfl (hb hby drep_1)
  have K2 : ∀ t, Steps p.tables e below (T2.setTop (mkF m 4 #[.val (.ref o0)] [(.int rq)])) t → Steps p.tables e below S0 t := fun t k => K1 t (st2 t k)
  obtain ⟨fs, hr, hrun, hended, hW, hsame⟩ := X2.leave (v := some (.int (nar .boolean rq))) (fun h => by rw [Bd.returns] at h; cases h) hlk
  refine ⟨_, _, ?_, hrun, hended, _, _, rfl, ?_, ⟨_, rfl⟩, hW, hsame.mono (by decide) (by decide)⟩
  · rw [← hS0]; exact K2 _ (retN X2 hx (t := .boolean) Bd.returns (by simp) (hb hby drep_4) hr)
  · show Qrep Z o0 rq h0 n0 _ T2.heap _
    rw [e2]
    have qr : (nar .boolean rq) = (wrep_r1 rq) := rfl
    exact ⟨congrArg (fun z => some (Value.int z)) qr, N0, rfl⟩
theorem dp0_0 : decode prog_76_method_9_code 0 = .ok (.new 102, 3) := by decide +kernel
theorem dp0_3 : decode prog_76_method_9_code 3 = .ok (.dup, 1) := by decide +kernel
theorem dp0_4 : decode prog_76_method_9_code 4 = .ok (.aload_n 1, 1) := by decide +kernel
theorem dp0_5 : decode prog_76_method_9_code 5 = .ok (.invokevirtual 213, 3) := by decide +kernel
theorem dp0_8 : decode prog_76_method_9_code 8 = .ok (.aload_n 1, 1) := by decide +kernel
theorem dp0_9 : decode prog_76_method_9_code 9 = .ok (.invokevirtual 133, 3) := by decide +kernel
theorem dp0_12 : decode prog_76_method_9_code 12 = .ok (.aload_n 1, 1) := by decide +kernel
theorem dp0_13 : decode prog_76_method_9_code 13 = .ok (.invokevirtual 214, 3) := by decide +kernel
theorem dp0_16 : decode prog_76_method_9_code 16 = .ok (.aload_n 1, 1) := by decide +kernel
theorem dp0_17 : decode prog_76_method_9_code 17 = .ok (.invokevirtual 217, 3) := by decide +kernel
theorem dp0_20 : decode prog_76_method_9_code 20 = .ok (.aload_n 0, 1) := by decide +kernel
theorem dp0_21 : decode prog_76_method_9_code 21 = .ok (.invokespecial 204, 3) := by decide +kernel
theorem dp0_24 : decode prog_76_method_9_code 24 = .ok (.areturn, 1) := by decide +kernel
theorem pnp0 : plainName "biaxial/cli/Forms" = true := by first | (simp [plainName, overriddenIn]; done) | decide +kernel
theorem pdp0_0 : parseMethodDescriptor "()Ljava/lang/String;" = some ⟨[], some (.object "java/lang/String")⟩ := by decide +kernel
theorem pdp0_1 : parseMethodDescriptor "()Lbiaxial/cli/Forms$Kind;" = some ⟨[], some (.object "biaxial/cli/Forms$Kind")⟩ := by decide +kernel
theorem pdp0_2 : parseMethodDescriptor "()Z" = some ⟨[], some .boolean⟩ := by decide +kernel
theorem pdp0_3 : parseMethodDescriptor "(Ljava/lang/String;Lbiaxial/cli/Forms$Kind;ZZLjava/lang/String;)V" = some ⟨[(.object "java/lang/String"), (.object "biaxial/cli/Forms$Kind"), .boolean, .boolean, (.object "java/lang/String")], none⟩ := by decide +kernel
theorem efp0 (m : MethodId) (o0 : Addr) (o1 : Addr) : entryFrame m #[(.ref o0), (.ref o1)] 2 = mkF m 0 #[.val (.ref o0), .val (.ref o1)] [] := by first | (simp [entryFrame, mkF, argsToLocals, Value.category]; done) | rfl
def Qp0 (Z : State) (o0 : Addr) (o1 : Addr) (kd : Addr) (rq : Int32) (rp : Int32) (h0 : Heap) (n0 : Nat) (v : Option Value) (h : Heap) (L : List Loc) : Prop := ∃ (b1 : Addr), v = some (.ref b1) ∧ Fr n0 L ∧ Keep h0 h [] ∧ h0.size ≤ b1 ∧ Exa Z h b1 "biaxial/cli/Forms$Operand" ∧ Fld Z h b1 "biaxial/cli/Forms$Operand" "name" "Ljava/lang/String;" .null ∧ Fld Z h b1 "biaxial/cli/Forms$Operand" "kind" "Lbiaxial/cli/Forms$Kind;" (.ref kd) ∧ Fld Z h b1 "biaxial/cli/Forms$Operand" "required" "Z" (.int (nar .boolean (wreq_r1 rq))) ∧ Fld Z h b1 "biaxial/cli/Forms$Operand" "repeated" "Z" (.int (nar .boolean (wrep_r1 rp))) ∧ Fld Z h b1 "biaxial/cli/Forms$Operand" "flag" "Ljava/lang/String;" (.ref o0)
set_option maxRecDepth 65536 in
set_option maxHeartbeats 40000000 in
theorem rmp0 (l : Launch) (Z : State) (a0 : Array Value) (hw : ∀ d ∈ tables_1, d.before a0 Z = true) (ws : List Jvm.Cond) (o0 : Addr) (o1 : Addr) (kd : Addr) (rq : Int32) (rp : Int32) (h0 : Heap) (n0 : Nat) (Z0 : n0 ≤ h0.size) (E_o1 : Exa Z h0 o1 "biaxial/cli/Forms$Operand") (F_o1_name : Fld Z h0 o1 "biaxial/cli/Forms$Operand" "name" "Ljava/lang/String;" .null) (F_o1_kind : Fld Z h0 o1 "biaxial/cli/Forms$Operand" "kind" "Lbiaxial/cli/Forms$Kind;" (.ref kd)) (F_o1_required : Fld Z h0 o1 "biaxial/cli/Forms$Operand" "required" "Z" (.int rq)) (F_o1_repeated : Fld Z h0 o1 "biaxial/cli/Forms$Operand" "repeated" "Z" (.int rp)) :
    MetFree l (⟨"biaxial/cli/Forms", "option", "(Ljava/lang/String;Lbiaxial/cli/Forms$Operand;)Lbiaxial/cli/Forms$Operand;"⟩ : MethodName) (head1 (Jvm.Cond.code (⟨"biaxial/cli/Forms", "option", "(Ljava/lang/String;Lbiaxial/cli/Forms$Operand;)Lbiaxial/cli/Forms$Operand;"⟩ : MethodName) prog_76_method_9_code 2 (some (.object "biaxial/cli/Forms$Operand")) :: ws) ({ frames := 3, cells := 1, slots := 5, locals := 42 } : Room)) (fun a U => a = #[(.ref o0), (.ref o1)] ∧ Z.Warmed39 U.vm ∧ U.heap = h0) (fun _ _ _ _ _ => True) (fun _ U o U' => ∃ v L, o = .returned v ∧ Qp0 Z o0 o1 kd rq rp h0 n0 v U'.heap L ∧ FrameEnd U o U' L ({ frames := 3, cells := 1, slots := 5, locals := 42 } : Room).cells ({ frames := 3, cells := 1, slots := 5, locals := 42 } : Room).slots) := by
  refine MetFree.of_bodySF (plainFor_of_name pnp0) hisR ?_
  intro p e s m args below meth c s₁ Bd hml0 hP hK
  obtain ⟨rfl, hZ, hh⟩ := hP
  have hlk : meth.locks = false := BodyLoose.notSynchronized Bd
  have hx := Bd.exec
  have hby := Bd.bytes
  have hml : c.maxLocals = 2 := hml0
  have hown : s.vm.findClass "biaxial/cli/Forms" = some m.cls := findClass_of_methodNamed Bd.named
  have hnm := (name_of_methodNamed Bd.named Bd.method).1
  have X0 : Stand p l e ({ frames := 3, cells := 1, slots := 5, locals := 42 } : Room) s m #[(.ref o0), (.ref o1)] below meth c s₁ [] 0 0 := Stand.of_body Bd
  have e0 : s₁.heap = h0 := by rw [← hh, Bd.state]; rfl
  have N0 := Fr.nil n0
  obtain ⟨S0, hS0⟩ : ∃ S0, S0 = s₁.setTop (entryFrame m #[(.ref o0), (.ref o1)] 2) := ⟨_, rfl⟩
  have pre0 : ∀ t, Steps p.tables e below (s₁.setTop (mkF m 0 #[.val (.ref o0), .val (.ref o1)] [])) t → Steps p.tables e below S0 t := fun t k => by rw [hS0]; exact castTop (efp0 m o0 o1) k
  obtain ⟨T1, h1, X1, e1, E1, A1, D1, -, st1⟩ := newO X0 hx hZ hown (hw _ (List.mem_of_getElem? (i := 87) rfl)) (hw _ (List.mem_of_getElem? (i := 45) rfl)) (hw _ (List.mem_of_getElem? (i := 46) rfl)) e0 (g := (mkF m 0 #[.val (.ref o0), .val (.ref o1)] [])) rfl (hb hby dp0_0) (by decide) (by decide)
  obtain ⟨b1, g1⟩ : ∃ z, z = h0.size := ⟨_, rfl⟩
  rw [← g1] at A1 D1 st1
  have ne_o1_b1 : o1 ≠ b1 := Nat.ne_of_lt (Nat.lt_of_lt_of_le E_o1.lt (Nat.le_of_eq g1.symm))
  have E_o1__1 := E_o1.ext E1
  have F_o1_name__1 := F_o1_name.ext E1
  have F_o1_kind__1 := F_o1_kind.ext E1
  have F_o1_required__1 := F_o1_required.ext E1
  have F_o1_repeated__1 := F_o1_repeated.ext E1
  have g_b1 : n0 ≤ b1 := Nat.le_trans Z0 (Nat.le_of_eq g1.symm)
  have Zs1 : n0 ≤ h1.size := Nat.le_trans Z0 E1.1
  have sz_b1 : h0.size ≤ b1 := Nat.le_trans (Keep.refl h0 []).1 (Nat.le_of_eq g1.symm)
  have Kc1 : Keep h0 h1 [] := (Keep.refl h0 []).ext E1
  have F_b1_name : Fld Z h1 b1 "biaxial/cli/Forms$Operand" "name" "Ljava/lang/String;" .null := D1 (Or.inr (hw _ (List.mem_of_getElem? (i := 57) rfl))) (ty := (.object "java/lang/String")) (by decide)
  have F_b1_kind : Fld Z h1 b1 "biaxial/cli/Forms$Operand" "kind" "Lbiaxial/cli/Forms$Kind;" .null := D1 (Or.inr (hw _ (List.mem_of_getElem? (i := 59) rfl))) (ty := (.object "biaxial/cli/Forms$Kind")) (by decide)
  have F_b1_required : Fld Z h1 b1 "biaxial/cli/Forms$Operand" "required" "Z" (.int (0 : Int32)) := D1 (Or.inr (hw _ (List.mem_of_getElem? (i := 61) rfl))) (ty := .boolean) (by decide)
  have F_b1_repeated : Fld Z h1 b1 "biaxial/cli/Forms$Operand" "repeated" "Z" (.int (0 : Int32)) := D1 (Or.inr (hw _ (List.mem_of_getElem? (i := 63) rfl))) (ty := .boolean) (by decide)
  have F_b1_flag : Fld Z h1 b1 "biaxial/cli/Forms$Operand" "flag" "Ljava/lang/String;" .null := D1 (Or.inr (hw _ (List.mem_of_getElem? (i := 65) rfl))) (ty := (.object "java/lang/String")) (by decide)
  have K1 : ∀ t, Steps p.tables e below (T1.setTop (mkF m 3 #[.val (.ref o0), .val (.ref o1)] [(.ref b1)])) t → Steps p.tables e below S0 t := fun t k => pre0 t (st1 t k)
  have K2 : ∀ t, Steps p.tables e below (T1.setTop (mkF m 5 #[.val (.ref o0), .val (.ref o1)] [(.ref o1), (.ref b1), (.ref b1)])) t → Steps p.tables e below S0 t := fun t k => K1 t (by
    refine XS.dup X1.here hx rfl (hb hby dp0_3) rfl rfl ?_
    show Steps p.tables e below (T1.setTop (mkF m 4 #[.val (.ref o0), .val (.ref o1)] [(.ref b1), (.ref b1)])) _
    refine XS.aloadN X1.here hx rfl (hb hby dp0_4) rfl rfl ?_
    show Steps p.tables e below (T1.setTop (mkF m 5 #[.val (.ref o0), .val (.ref o1)] [(.ref o1), (.ref b1), (.ref b1)])) _
    exact k)
  have K_3 : ∀ t, Steps p.tables e below (T1.setTop (mkF m 5 #[.val (.ref o0), .val (.ref o1)] [(.ref o1), (.ref b1), (.ref b1)])) t → Steps p.tables e below S0 t := K2
  obtain ⟨cq4, kq4, q4a, q4b, q4c⟩ := isOf hZ e1 E_o1__1
  obtain ⟨_, _, ⟨T4, L4, k4, n4⟩, -, X4, ⟨Lc4, hQ4, l4, y4, z4⟩, st4⟩ := X1.virtualBack hx (y := (⟨"biaxial/cli/Forms$Operand", "name", "()Ljava/lang/String;"⟩ : MethodName)) (z := (⟨"biaxial/cli/Forms$Operand", "name", "()Ljava/lang/String;"⟩ : MethodName)) hown (mvT hZ (hw _ (List.mem_of_getElem? (i := 95) rfl))) (mvT hZ (hw _ (List.mem_of_getElem? (i := 96) rfl))) (notFace_of_selects (args := #[]) (mvT hZ (hw _ (List.mem_of_getElem? (i := 98) rfl)))) (mvT hZ (hw _ (List.mem_of_getElem? (i := 98) rfl))) (mvT hZ (hw _ (List.mem_of_getElem? (i := 97) rfl))) (by decide) (backOf (W := 2) (rmn0 l Z a0 hw [] o1 h1 n0 Zs1 F_o1_name__1) hZ (hw _ (List.mem_of_getElem? (i := 99) rfl)) (hw _ (List.mem_of_getElem? (i := 46) rfl)) (by decide) (by decide)) q4a q4c (g := (mkF m 5 #[.val (.ref o0), .val (.ref o1)] [(.ref o1), (.ref b1), (.ref b1)])) rfl (by rw [hml]; rfl) (Steps.refl _) (argsL := []) (rest := [(.ref b1), (.ref b1)]) (lenOf pdp0_0 rfl) rfl (by show 2 * 0 + _ ≤ _; exact Nat.le_of_eq rfl) (hb hby dp0_5) (fun _ _ => ⟨rfl, e1, (by decide : 1 + 0 ≤ 1), (by decide : 5 + 0 ≤ 5)⟩)
  dsimp only [Pt.U, Pt.locs, Pt.cells, Pt.slots] at X4 l4 y4 z4 st4 hQ4
  subst l4 y4 z4
  obtain ⟨rfl, N4q, e4⟩ := hQ4
  have N4 := Fr.app N0 N4q
  have K4 : ∀ t, Steps p.tables e below (T4.setTop (mkF m 8 #[.val (.ref o0), .val (.ref o1)] [.null, (.ref b1), (.ref b1)])) t → Steps p.tables e below S0 t := fun t k => K_3 t (st4.trans k)
  have K5 : ∀ t, Steps p.tables e below (T4.setTop (mkF m 9 #[.val (.ref o0), .val (.ref o1)] [(.ref o1), .null, (.ref b1), (.ref b1)])) t → Steps p.tables e below S0 t := fun t k => K4 t (by
    refine XS.aloadN X4.here hx rfl (hb hby dp0_8) rfl rfl ?_
    show Steps p.tables e below (T4.setTop (mkF m 9 #[.val (.ref o0), .val (.ref o1)] [(.ref o1), .null, (.ref b1), (.ref b1)])) _
    exact k)
  have K_6 : ∀ t, Steps p.tables e below (T4.setTop (mkF m 9 #[.val (.ref o0), .val (.ref o1)] [(.ref o1), .null, (.ref b1), (.ref b1)])) t → Steps p.tables e below S0 t := K5
  obtain ⟨cq7, kq7, q7a, q7b, q7c⟩ := isOf hZ e4 E_o1__1
  obtain ⟨_, _, ⟨T7, L7, k7, n7⟩, -, X7, ⟨Lc7, hQ7, l7, y7, z7⟩, st7⟩ := X4.virtualBack hx (y := (⟨"biaxial/cli/Forms$Operand", "kind", "()Lbiaxial/cli/Forms$Kind;"⟩ : MethodName)) (z := (⟨"biaxial/cli/Forms$Operand", "kind", "()Lbiaxial/cli/Forms$Kind;"⟩ : MethodName)) hown (mvT hZ (hw _ (List.mem_of_getElem? (i := 100) rfl))) (mvT hZ (hw _ (List.mem_of_getElem? (i := 101) rfl))) (notFace_of_selects (args := #[]) (mvT hZ (hw _ (List.mem_of_getElem? (i := 103) rfl)))) (mvT hZ (hw _ (List.mem_of_getElem? (i := 103) rfl))) (mvT hZ (hw _ (List.mem_of_getElem? (i := 102) rfl))) (by decide) (backOf (W := 3) (rmk1 l Z a0 hw [] o1 kd h1 n0 Zs1 F_o1_kind__1) hZ (hw _ (List.mem_of_getElem? (i := 104) rfl)) (hw _ (List.mem_of_getElem? (i := 46) rfl)) (by decide) (by decide)) q7a q7c (g := (mkF m 9 #[.val (.ref o0), .val (.ref o1)] [(.ref o1), .null, (.ref b1), (.ref b1)])) rfl (by rw [hml]; rfl) (Steps.refl _) (argsL := []) (rest := [.null, (.ref b1), (.ref b1)]) (lenOf pdp0_1 rfl) rfl (by show 2 * 0 + _ ≤ _; exact Nat.le_of_eq rfl) (hb hby dp0_9) (fun _ _ => ⟨rfl, e4, (by decide : 1 + 0 ≤ 1), (by decide : 5 + 0 ≤ 5)⟩)
  dsimp only [Pt.U, Pt.locs, Pt.cells, Pt.slots] at X7 l7 y7 z7 st7 hQ7
  subst l7 y7 z7
  obtain ⟨rfl, N7q, e7⟩ := hQ7
  have N7 := Fr.app N4 N7q
  have K7 : ∀ t, Steps p.tables e below (T7.setTop (mkF m 12 #[.val (.ref o0), .val (.ref o1)] [(.ref kd), .null, (.ref b1), (.ref b1)])) t → Steps p.tables e below S0 t := fun t k => K_6 t (st7.trans k)
  have K8 : ∀ t, Steps p.tables e below (T7.setTop (mkF m 13 #[.val (.ref o0), .val (.ref o1)] [(.ref o1), (.ref kd), .null, (.ref b1), (.ref b1)])) t → Steps p.tables e below S0 t := fun t k => K7 t (by
    refine XS.aloadN X7.here hx rfl (hb hby dp0_12) rfl rfl ?_
    show Steps p.tables e below (T7.setTop (mkF m 13 #[.val (.ref o0), .val (.ref o1)] [(.ref o1), (.ref kd), .null, (.ref b1), (.ref b1)])) _
    exact k)
  have K_9 : ∀ t, Steps p.tables e below (T7.setTop (mkF m 13 #[.val (.ref o0), .val (.ref o1)] [(.ref o1), (.ref kd), .null, (.ref b1), (.ref b1)])) t → Steps p.tables e below S0 t := K8
  obtain ⟨cq10, kq10, q10a, q10b, q10c⟩ := isOf hZ e7 E_o1__1
  obtain ⟨_, _, ⟨T10, L10, k10, n10⟩, -, X10, ⟨Lc10, hQ10, l10, y10, z10⟩, st10⟩ := X7.virtualBack hx (y := (⟨"biaxial/cli/Forms$Operand", "required", "()Z"⟩ : MethodName)) (z := (⟨"biaxial/cli/Forms$Operand", "required", "()Z"⟩ : MethodName)) hown (mvT hZ (hw _ (List.mem_of_getElem? (i := 105) rfl))) (mvT hZ (hw _ (List.mem_of_getElem? (i := 106) rfl))) (notFace_of_selects (args := #[]) (mvT hZ (hw _ (List.mem_of_getElem? (i := 108) rfl)))) (mvT hZ (hw _ (List.mem_of_getElem? (i := 108) rfl))) (mvT hZ (hw _ (List.mem_of_getElem? (i := 107) rfl))) (by decide) (backOf (W := 4) (rmreq l Z a0 hw [] o1 rq h1 n0 Zs1 F_o1_required__1) hZ (hw _ (List.mem_of_getElem? (i := 109) rfl)) (hw _ (List.mem_of_getElem? (i := 46) rfl)) (by decide) (by decide)) q10a q10c (g := (mkF m 13 #[.val (.ref o0), .val (.ref o1)] [(.ref o1), (.ref kd), .null, (.ref b1), (.ref b1)])) rfl (by rw [hml]; rfl) (Steps.refl _) (argsL := []) (rest := [(.ref kd), .null, (.ref b1), (.ref b1)]) (lenOf pdp0_2 rfl) rfl (by show 2 * 0 + _ ≤ _; exact Nat.le_of_eq rfl) (hb hby dp0_13) (fun _ _ => ⟨rfl, e7, (by decide : 1 + 0 ≤ 1), (by decide : 5 + 0 ≤ 5)⟩)
  dsimp only [Pt.U, Pt.locs, Pt.cells, Pt.slots] at X10 l10 y10 z10 st10 hQ10
  subst l10 y10 z10
  obtain ⟨rfl, N10q, e10⟩ := hQ10
  have N10 := Fr.app N7 N10q
  have K10 : ∀ t, Steps p.tables e below (T10.setTop (mkF m 16 #[.val (.ref o0), .val (.ref o1)] [(.int (wreq_r1 rq)), (.ref kd), .null, (.ref b1), (.ref b1)])) t → Steps p.tables e below S0 t := fun t k => K_9 t (st10.trans k)
  have K11 : ∀ t, Steps p.tables e below (T10.setTop (mkF m 17 #[.val (.ref o0), .val (.ref o1)] [(.ref o1), (.int (wreq_r1 rq)), (.ref kd), .null, (.ref b1), (.ref b1)])) t → Steps p.tables e below S0 t := fun t k => K10 t (by
    refine XS.aloadN X10.here hx rfl (hb hby dp0_16) rfl rfl ?_
    show Steps p.tables e below (T10.setTop (mkF m 17 #[.val (.ref o0), .val (.ref o1)] [(.ref o1), (.int (wreq_r1 rq)), (.ref kd), .null, (.ref b1), (.ref b1)])) _
    exact k)
  have K_12 : ∀ t, Steps p.tables e below (T10.setTop (mkF m 17 #[.val (.ref o0), .val (.ref o1)] [(.ref o1), (.int (wreq_r1 rq)), (.ref kd), .null, (.ref b1), (.ref b1)])) t → Steps p.tables e below S0 t := K11
  obtain ⟨cq13, kq13, q13a, q13b, q13c⟩ := isOf hZ e10 E_o1__1
  obtain ⟨_, _, ⟨T13, L13, k13, n13⟩, -, X13, ⟨Lc13, hQ13, l13, y13, z13⟩, st13⟩ := X10.virtualBack hx (y := (⟨"biaxial/cli/Forms$Operand", "repeated", "()Z"⟩ : MethodName)) (z := (⟨"biaxial/cli/Forms$Operand", "repeated", "()Z"⟩ : MethodName)) hown (mvT hZ (hw _ (List.mem_of_getElem? (i := 110) rfl))) (mvT hZ (hw _ (List.mem_of_getElem? (i := 111) rfl))) (notFace_of_selects (args := #[]) (mvT hZ (hw _ (List.mem_of_getElem? (i := 113) rfl)))) (mvT hZ (hw _ (List.mem_of_getElem? (i := 113) rfl))) (mvT hZ (hw _ (List.mem_of_getElem? (i := 112) rfl))) (by decide) (backOf (W := 5) (rmrep l Z a0 hw [] o1 rp h1 n0 Zs1 F_o1_repeated__1) hZ (hw _ (List.mem_of_getElem? (i := 114) rfl)) (hw _ (List.mem_of_getElem? (i := 46) rfl)) (by decide) (by decide)) q13a q13c (g := (mkF m 17 #[.val (.ref o0), .val (.ref o1)] [(.ref o1), (.int (wreq_r1 rq)), (.ref kd), .null, (.ref b1), (.ref b1)])) rfl (by rw [hml]; rfl) (Steps.refl _) (argsL := []) (rest := [(.int (wreq_r1 rq)), (.ref kd), .null, (.ref b1), (.ref b1)]) (lenOf pdp0_2 rfl) rfl (by show 2 * 0 + _ ≤ _; exact Nat.le_of_eq rfl) (hb hby dp0_17) (fun _ _ => ⟨rfl, e10, (by decide : 1 + 0 ≤ 1), (by decide : 5 + 0 ≤ 5)⟩)
  dsimp only [Pt.U, Pt.locs, Pt.cells, Pt.slots] at X13 l13 y13 z13 st13 hQ13
  subst l13 y13 z13
  obtain ⟨rfl, N13q, e13⟩ := hQ13
  have N13 := Fr.app N10 N13q
  have K13 : ∀ t, Steps p.tables e below (T13.setTop (mkF m 20 #[.val (.ref o0), .val (.ref o1)] [(.int (wrep_r1 rp)), (.int (wreq_r1 rq)), (.ref kd), .null, (.ref b1), (.ref b1)])) t → Steps p.tables e below S0 t := fun t k => K_12 t (st13.trans k)
  have K14 : ∀ t, Steps p.tables e below (T13.setTop (mkF m 21 #[.val (.ref o0), .val (.ref o1)] [(.ref o0), (.int (wrep_r1 rp)), (.int (wreq_r1 rq)), (.ref kd), .null, (.ref b1), (.ref b1)])) t → Steps p.tables e below S0 t := fun t k => K13 t (by
    refine XS.aloadN X13.here hx rfl (hb hby dp0_20) rfl rfl ?_
    show Steps p.tables e below (T13.setTop (mkF m 21 #[.val (.ref o0), .val (.ref o1)] [(.ref o0), (.int (wrep_r1 rp)), (.int (wreq_r1 rq)), (.ref kd), .null, (.ref b1), (.ref b1)])) _
    exact k)
  have K_15 : ∀ t, Steps p.tables e below (T13.setTop (mkF m 21 #[.val (.ref o0), .val (.ref o1)] [(.ref o0), (.int (wrep_r1 rp)), (.int (wreq_r1 rq)), (.ref kd), .null, (.ref b1), (.ref b1)])) t → Steps p.tables e below S0 t := K14
  obtain ⟨_, _, ⟨T16, L16, k16, n16⟩, -, X16, ⟨Lc16, hQ16, l16, y16, z16⟩, st16⟩ := X13.specialBack hx (y := (⟨"biaxial/cli/Forms$Operand", "<init>", "(Ljava/lang/String;Lbiaxial/cli/Forms$Kind;ZZLjava/lang/String;)V"⟩ : MethodName)) rfl hown (mvT hZ (hw _ (List.mem_of_getElem? (i := 91) rfl))) (mvT hZ (hw _ (List.mem_of_getElem? (i := 48) rfl))) (mvT hZ (hw _ (List.mem_of_getElem? (i := 49) rfl))) (by decide) (backOf (W := 1) (rmi011 l Z a0 hw [] b1 kd (wreq_r1 rq) (wrep_r1 rp) o0 h1 n0 Zs1 A1 F_b1_name F_b1_kind F_b1_required F_b1_repeated F_b1_flag g_b1) hZ (hw _ (List.mem_of_getElem? (i := 49) rfl)) (hw _ (List.mem_of_getElem? (i := 46) rfl)) (by decide) (by decide)) (g := (mkF m 21 #[.val (.ref o0), .val (.ref o1)] [(.ref o0), (.int (wrep_r1 rp)), (.int (wreq_r1 rq)), (.ref kd), .null, (.ref b1), (.ref b1)])) rfl (by rw [hml]; rfl) (Steps.refl _) (a := b1) (argsL := [.null, (.ref kd), (.int (wreq_r1 rq)), (.int (wrep_r1 rp)), (.ref o0)]) (rest := [(.ref b1)]) (lenOf pdp0_3 rfl) rfl (by show 2 * 0 + _ ≤ _; exact Nat.le_of_eq rfl) (hb hby dp0_21) (fun _ _ => ⟨rfl, e13, (by decide : 1 + 0 ≤ 1), (by decide : 5 + 0 ≤ 5)⟩)
  dsimp only [Pt.U, Pt.locs, Pt.cells, Pt.slots] at X16 l16 y16 z16 st16 hQ16
  subst l16 y16 z16
  obtain ⟨rfl, N16q, Kp16, Fn16_0, Fn16_1, Fn16_2, Fn16_3, Fn16_4, Fn16_5⟩ := hQ16
  have N16 := Fr.app N13 N16q
  have E_o1__16 := E_o1__1.keep Kp16
  have F_o1_name__16 := F_o1_name__1.keep Kp16 (ninS ne_o1_b1 nin0)
  have F_o1_kind__16 := F_o1_kind__1.keep Kp16 (ninS ne_o1_b1 nin0)
  have F_o1_required__16 := F_o1_required__1.keep Kp16 (ninS ne_o1_b1 nin0)
  have F_o1_repeated__16 := F_o1_repeated__1.keep Kp16 (ninS ne_o1_b1 nin0)
  have Zs16 : n0 ≤ T16.heap.size := Nat.le_trans Zs1 Kp16.1
  have Kc16 : Keep h0 T16.heap [] := Kc1.trans Kp16 (allS (P := fun x => x ∈ [] ∨ h0.size ≤ x) (Or.inr sz_b1) all0)
  have K16 : ∀ t, Steps p.tables e below (T16.setTop (mkF m 24 #[.val (.ref o0), .val (.ref o1)] [(.ref b1)])) t → Steps p.tables e below S0 t := fun t k => K_15 t (st16.trans k)
  obtain ⟨fs, hr, hrun, hended, hW, hsame⟩ := X16.leave (v := some (.ref b1)) (fun h => by rw [Bd.returns] at h; cases h) hlk
  refine ⟨_, _, ?_, hrun, hended, _, _, rfl, ?_, ⟨_, rfl⟩, hW, hsame.mono (by decide) (by decide)⟩
  · rw [← hS0]; exact K16 _ (retOut X16 hx Bd.returns rfl (Or.inr (Or.inr (Or.inr (Or.inr ⟨rfl, rfl, rfl⟩)))) (hb hby dp0_24) hr)
  · show Qp0 Z o0 o1 kd rq rp h0 n0 _ T16.heap _
    exact ⟨b1, rfl, N16, Kc16, sz_b1, Fn16_0, Fn16_1, Fn16_2, Fn16_3, Fn16_4, Fn16_5⟩
theorem dp1_0 : decode prog_76_method_9_code 0 = .ok (.new 102, 3) := by decide +kernel
theorem dp1_3 : decode prog_76_method_9_code 3 = .ok (.dup, 1) := by decide +kernel
theorem dp1_4 : decode prog_76_method_9_code 4 = .ok (.aload_n 1, 1) := by decide +kernel
theorem dp1_5 : decode prog_76_method_9_code 5 = .ok (.invokevirtual 213, 3) := by decide +kernel
theorem dp1_8 : decode prog_76_method_9_code 8 = .ok (.aload_n 1, 1) := by decide +kernel
theorem dp1_9 : decode prog_76_method_9_code 9 = .ok (.invokevirtual 133, 3) := by decide +kernel
theorem dp1_12 : decode prog_76_method_9_code 12 = .ok (.aload_n 1, 1) := by decide +kernel
theorem dp1_13 : decode prog_76_method_9_code 13 = .ok (.invokevirtual 214, 3) := by decide +kernel
theorem dp1_16 : decode prog_76_method_9_code 16 = .ok (.aload_n 1, 1) := by decide +kernel
theorem dp1_17 : decode prog_76_method_9_code 17 = .ok (.invokevirtual 217, 3) := by decide +kernel
theorem dp1_20 : decode prog_76_method_9_code 20 = .ok (.aload_n 0, 1) := by decide +kernel
theorem dp1_21 : decode prog_76_method_9_code 21 = .ok (.invokespecial 204, 3) := by decide +kernel
theorem dp1_24 : decode prog_76_method_9_code 24 = .ok (.areturn, 1) := by decide +kernel
theorem pnp1 : plainName "biaxial/cli/Forms" = true := by first | (simp [plainName, overriddenIn]; done) | decide +kernel
theorem pdp1_0 : parseMethodDescriptor "()Ljava/lang/String;" = some ⟨[], some (.object "java/lang/String")⟩ := by decide +kernel
theorem pdp1_1 : parseMethodDescriptor "()Lbiaxial/cli/Forms$Kind;" = some ⟨[], some (.object "biaxial/cli/Forms$Kind")⟩ := by decide +kernel
theorem pdp1_2 : parseMethodDescriptor "()Z" = some ⟨[], some .boolean⟩ := by decide +kernel
theorem pdp1_3 : parseMethodDescriptor "(Ljava/lang/String;Lbiaxial/cli/Forms$Kind;ZZLjava/lang/String;)V" = some ⟨[(.object "java/lang/String"), (.object "biaxial/cli/Forms$Kind"), .boolean, .boolean, (.object "java/lang/String")], none⟩ := by decide +kernel
theorem efp1 (m : MethodId) (o0 : Addr) (o1 : Addr) : entryFrame m #[(.ref o0), (.ref o1)] 2 = mkF m 0 #[.val (.ref o0), .val (.ref o1)] [] := by first | (simp [entryFrame, mkF, argsToLocals, Value.category]; done) | rfl
def Qp1 (Z : State) (o0 : Addr) (o1 : Addr) (nm : Addr) (kd : Addr) (rq : Int32) (rp : Int32) (h0 : Heap) (n0 : Nat) (v : Option Value) (h : Heap) (L : List Loc) : Prop := ∃ (b1 : Addr), v = some (.ref b1) ∧ Fr n0 L ∧ Keep h0 h [] ∧ h0.size ≤ b1 ∧ Exa Z h b1 "biaxial/cli/Forms$Operand" ∧ Fld Z h b1 "biaxial/cli/Forms$Operand" "name" "Ljava/lang/String;" (.ref nm) ∧ Fld Z h b1 "biaxial/cli/Forms$Operand" "kind" "Lbiaxial/cli/Forms$Kind;" (.ref kd) ∧ Fld Z h b1 "biaxial/cli/Forms$Operand" "required" "Z" (.int (nar .boolean (wreq_r1 rq))) ∧ Fld Z h b1 "biaxial/cli/Forms$Operand" "repeated" "Z" (.int (nar .boolean (wrep_r1 rp))) ∧ Fld Z h b1 "biaxial/cli/Forms$Operand" "flag" "Ljava/lang/String;" (.ref o0)
set_option maxRecDepth 65536 in
set_option maxHeartbeats 40000000 in
theorem rmp1 (l : Launch) (Z : State) (a0 : Array Value) (hw : ∀ d ∈ tables_1, d.before a0 Z = true) (ws : List Jvm.Cond) (o0 : Addr) (o1 : Addr) (nm : Addr) (kd : Addr) (rq : Int32) (rp : Int32) (h0 : Heap) (n0 : Nat) (Z0 : n0 ≤ h0.size) (E_o1 : Exa Z h0 o1 "biaxial/cli/Forms$Operand") (F_o1_name : Fld Z h0 o1 "biaxial/cli/Forms$Operand" "name" "Ljava/lang/String;" (.ref nm)) (F_o1_kind : Fld Z h0 o1 "biaxial/cli/Forms$Operand" "kind" "Lbiaxial/cli/Forms$Kind;" (.ref kd)) (F_o1_required : Fld Z h0 o1 "biaxial/cli/Forms$Operand" "required" "Z" (.int rq)) (F_o1_repeated : Fld Z h0 o1 "biaxial/cli/Forms$Operand" "repeated" "Z" (.int rp)) :
    MetFree l (⟨"biaxial/cli/Forms", "option", "(Ljava/lang/String;Lbiaxial/cli/Forms$Operand;)Lbiaxial/cli/Forms$Operand;"⟩ : MethodName) (head1 (Jvm.Cond.code (⟨"biaxial/cli/Forms", "option", "(Ljava/lang/String;Lbiaxial/cli/Forms$Operand;)Lbiaxial/cli/Forms$Operand;"⟩ : MethodName) prog_76_method_9_code 2 (some (.object "biaxial/cli/Forms$Operand")) :: ws) ({ frames := 3, cells := 1, slots := 5, locals := 42 } : Room)) (fun a U => a = #[(.ref o0), (.ref o1)] ∧ Z.Warmed39 U.vm ∧ U.heap = h0) (fun _ _ _ _ _ => True) (fun _ U o U' => ∃ v L, o = .returned v ∧ Qp1 Z o0 o1 nm kd rq rp h0 n0 v U'.heap L ∧ FrameEnd U o U' L ({ frames := 3, cells := 1, slots := 5, locals := 42 } : Room).cells ({ frames := 3, cells := 1, slots := 5, locals := 42 } : Room).slots) := by
  refine MetFree.of_bodySF (plainFor_of_name pnp1) hisR ?_
  intro p e s m args below meth c s₁ Bd hml0 hP hK
  obtain ⟨rfl, hZ, hh⟩ := hP
  have hlk : meth.locks = false := BodyLoose.notSynchronized Bd
  have hx := Bd.exec
  have hby := Bd.bytes
  have hml : c.maxLocals = 2 := hml0
  have hown : s.vm.findClass "biaxial/cli/Forms" = some m.cls := findClass_of_methodNamed Bd.named
  have hnm := (name_of_methodNamed Bd.named Bd.method).1
  have X0 : Stand p l e ({ frames := 3, cells := 1, slots := 5, locals := 42 } : Room) s m #[(.ref o0), (.ref o1)] below meth c s₁ [] 0 0 := Stand.of_body Bd
  have e0 : s₁.heap = h0 := by rw [← hh, Bd.state]; rfl
  have N0 := Fr.nil n0
  obtain ⟨S0, hS0⟩ : ∃ S0, S0 = s₁.setTop (entryFrame m #[(.ref o0), (.ref o1)] 2) := ⟨_, rfl⟩
  have pre0 : ∀ t, Steps p.tables e below (s₁.setTop (mkF m 0 #[.val (.ref o0), .val (.ref o1)] [])) t → Steps p.tables e below S0 t := fun t k => by rw [hS0]; exact castTop (efp1 m o0 o1) k
  obtain ⟨T1, h1, X1, e1, E1, A1, D1, -, st1⟩ := newO X0 hx hZ hown (hw _ (List.mem_of_getElem? (i := 87) rfl)) (hw _ (List.mem_of_getElem? (i := 45) rfl)) (hw _ (List.mem_of_getElem? (i := 46) rfl)) e0 (g := (mkF m 0 #[.val (.ref o0), .val (.ref o1)] [])) rfl (hb hby dp1_0) (by decide) (by decide)
  obtain ⟨b1, g1⟩ : ∃ z, z = h0.size := ⟨_, rfl⟩
  rw [← g1] at A1 D1 st1
  have ne_o1_b1 : o1 ≠ b1 := Nat.ne_of_lt (Nat.lt_of_lt_of_le E_o1.lt (Nat.le_of_eq g1.symm))
  have E_o1__1 := E_o1.ext E1
  have F_o1_name__1 := F_o1_name.ext E1
  have F_o1_kind__1 := F_o1_kind.ext E1
  have F_o1_required__1 := F_o1_required.ext E1
  have F_o1_repeated__1 := F_o1_repeated.ext E1
  have g_b1 : n0 ≤ b1 := Nat.le_trans Z0 (Nat.le_of_eq g1.symm)
  have Zs1 : n0 ≤ h1.size := Nat.le_trans Z0 E1.1
  have sz_b1 : h0.size ≤ b1 := Nat.le_trans (Keep.refl h0 []).1 (Nat.le_of_eq g1.symm)
  have Kc1 : Keep h0 h1 [] := (Keep.refl h0 []).ext E1
  have F_b1_name : Fld Z h1 b1 "biaxial/cli/Forms$Operand" "name" "Ljava/lang/String;" .null := D1 (Or.inr (hw _ (List.mem_of_getElem? (i := 57) rfl))) (ty := (.object "java/lang/String")) (by decide)
  have F_b1_kind : Fld Z h1 b1 "biaxial/cli/Forms$Operand" "kind" "Lbiaxial/cli/Forms$Kind;" .null := D1 (Or.inr (hw _ (List.mem_of_getElem? (i := 59) rfl))) (ty := (.object "biaxial/cli/Forms$Kind")) (by decide)
  have F_b1_required : Fld Z h1 b1 "biaxial/cli/Forms$Operand" "required" "Z" (.int (0 : Int32)) := D1 (Or.inr (hw _ (List.mem_of_getElem? (i := 61) rfl))) (ty := .boolean) (by decide)
  have F_b1_repeated : Fld Z h1 b1 "biaxial/cli/Forms$Operand" "repeated" "Z" (.int (0 : Int32)) := D1 (Or.inr (hw _ (List.mem_of_getElem? (i := 63) rfl))) (ty := .boolean) (by decide)
  have F_b1_flag : Fld Z h1 b1 "biaxial/cli/Forms$Operand" "flag" "Ljava/lang/String;" .null := D1 (Or.inr (hw _ (List.mem_of_getElem? (i := 65) rfl))) (ty := (.object "java/lang/String")) (by decide)
  have K1 : ∀ t, Steps p.tables e below (T1.setTop (mkF m 3 #[.val (.ref o0), .val (.ref o1)] [(.ref b1)])) t → Steps p.tables e below S0 t := fun t k => pre0 t (st1 t k)
  have K2 : ∀ t, Steps p.tables e below (T1.setTop (mkF m 5 #[.val (.ref o0), .val (.ref o1)] [(.ref o1), (.ref b1), (.ref b1)])) t → Steps p.tables e below S0 t := fun t k => K1 t (by
    refine XS.dup X1.here hx rfl (hb hby dp1_3) rfl rfl ?_
    show Steps p.tables e below (T1.setTop (mkF m 4 #[.val (.ref o0), .val (.ref o1)] [(.ref b1), (.ref b1)])) _
    refine XS.aloadN X1.here hx rfl (hb hby dp1_4) rfl rfl ?_
    show Steps p.tables e below (T1.setTop (mkF m 5 #[.val (.ref o0), .val (.ref o1)] [(.ref o1), (.ref b1), (.ref b1)])) _
    exact k)
  have K_3 : ∀ t, Steps p.tables e below (T1.setTop (mkF m 5 #[.val (.ref o0), .val (.ref o1)] [(.ref o1), (.ref b1), (.ref b1)])) t → Steps p.tables e below S0 t := K2
  obtain ⟨cq4, kq4, q4a, q4b, q4c⟩ := isOf hZ e1 E_o1__1
  obtain ⟨_, _, ⟨T4, L4, k4, n4⟩, -, X4, ⟨Lc4, hQ4, l4, y4, z4⟩, st4⟩ := X1.virtualBack hx (y := (⟨"biaxial/cli/Forms$Operand", "name", "()Ljava/lang/String;"⟩ : MethodName)) (z := (⟨"biaxial/cli/Forms$Operand", "name", "()Ljava/lang/String;"⟩ : MethodName)) hown (mvT hZ (hw _ (List.mem_of_getElem? (i := 95) rfl))) (mvT hZ (hw _ (List.mem_of_getElem? (i := 96) rfl))) (notFace_of_selects (args := #[]) (mvT hZ (hw _ (List.mem_of_getElem? (i := 98) rfl)))) (mvT hZ (hw _ (List.mem_of_getElem? (i := 98) rfl))) (mvT hZ (hw _ (List.mem_of_getElem? (i := 97) rfl))) (by decide) (backOf (W := 2) (rmn1 l Z a0 hw [] o1 nm h1 n0 Zs1 F_o1_name__1) hZ (hw _ (List.mem_of_getElem? (i := 99) rfl)) (hw _ (List.mem_of_getElem? (i := 46) rfl)) (by decide) (by decide)) q4a q4c (g := (mkF m 5 #[.val (.ref o0), .val (.ref o1)] [(.ref o1), (.ref b1), (.ref b1)])) rfl (by rw [hml]; rfl) (Steps.refl _) (argsL := []) (rest := [(.ref b1), (.ref b1)]) (lenOf pdp1_0 rfl) rfl (by show 2 * 0 + _ ≤ _; exact Nat.le_of_eq rfl) (hb hby dp1_5) (fun _ _ => ⟨rfl, e1, (by decide : 1 + 0 ≤ 1), (by decide : 5 + 0 ≤ 5)⟩)
  dsimp only [Pt.U, Pt.locs, Pt.cells, Pt.slots] at X4 l4 y4 z4 st4 hQ4
  subst l4 y4 z4
  obtain ⟨rfl, N4q, e4⟩ := hQ4
  have N4 := Fr.app N0 N4q
  have K4 : ∀ t, Steps p.tables e below (T4.setTop (mkF m 8 #[.val (.ref o0), .val (.ref o1)] [(.ref nm), (.ref b1), (.ref b1)])) t → Steps p.tables e below S0 t := fun t k => K_3 t (st4.trans k)
  have K5 : ∀ t, Steps p.tables e below (T4.setTop (mkF m 9 #[.val (.ref o0), .val (.ref o1)] [(.ref o1), (.ref nm), (.ref b1), (.ref b1)])) t → Steps p.tables e below S0 t := fun t k => K4 t (by
    refine XS.aloadN X4.here hx rfl (hb hby dp1_8) rfl rfl ?_
    show Steps p.tables e below (T4.setTop (mkF m 9 #[.val (.ref o0), .val (.ref o1)] [(.ref o1), (.ref nm), (.ref b1), (.ref b1)])) _
    exact k)
  have K_6 : ∀ t, Steps p.tables e below (T4.setTop (mkF m 9 #[.val (.ref o0), .val (.ref o1)] [(.ref o1), (.ref nm), (.ref b1), (.ref b1)])) t → Steps p.tables e below S0 t := K5
  obtain ⟨cq7, kq7, q7a, q7b, q7c⟩ := isOf hZ e4 E_o1__1
  obtain ⟨_, _, ⟨T7, L7, k7, n7⟩, -, X7, ⟨Lc7, hQ7, l7, y7, z7⟩, st7⟩ := X4.virtualBack hx (y := (⟨"biaxial/cli/Forms$Operand", "kind", "()Lbiaxial/cli/Forms$Kind;"⟩ : MethodName)) (z := (⟨"biaxial/cli/Forms$Operand", "kind", "()Lbiaxial/cli/Forms$Kind;"⟩ : MethodName)) hown (mvT hZ (hw _ (List.mem_of_getElem? (i := 100) rfl))) (mvT hZ (hw _ (List.mem_of_getElem? (i := 101) rfl))) (notFace_of_selects (args := #[]) (mvT hZ (hw _ (List.mem_of_getElem? (i := 103) rfl)))) (mvT hZ (hw _ (List.mem_of_getElem? (i := 103) rfl))) (mvT hZ (hw _ (List.mem_of_getElem? (i := 102) rfl))) (by decide) (backOf (W := 3) (rmk1 l Z a0 hw [] o1 kd h1 n0 Zs1 F_o1_kind__1) hZ (hw _ (List.mem_of_getElem? (i := 104) rfl)) (hw _ (List.mem_of_getElem? (i := 46) rfl)) (by decide) (by decide)) q7a q7c (g := (mkF m 9 #[.val (.ref o0), .val (.ref o1)] [(.ref o1), (.ref nm), (.ref b1), (.ref b1)])) rfl (by rw [hml]; rfl) (Steps.refl _) (argsL := []) (rest := [(.ref nm), (.ref b1), (.ref b1)]) (lenOf pdp1_1 rfl) rfl (by show 2 * 0 + _ ≤ _; exact Nat.le_of_eq rfl) (hb hby dp1_9) (fun _ _ => ⟨rfl, e4, (by decide : 1 + 0 ≤ 1), (by decide : 5 + 0 ≤ 5)⟩)
  dsimp only [Pt.U, Pt.locs, Pt.cells, Pt.slots] at X7 l7 y7 z7 st7 hQ7
  subst l7 y7 z7
  obtain ⟨rfl, N7q, e7⟩ := hQ7
  have N7 := Fr.app N4 N7q
  have K7 : ∀ t, Steps p.tables e below (T7.setTop (mkF m 12 #[.val (.ref o0), .val (.ref o1)] [(.ref kd), (.ref nm), (.ref b1), (.ref b1)])) t → Steps p.tables e below S0 t := fun t k => K_6 t (st7.trans k)
  have K8 : ∀ t, Steps p.tables e below (T7.setTop (mkF m 13 #[.val (.ref o0), .val (.ref o1)] [(.ref o1), (.ref kd), (.ref nm), (.ref b1), (.ref b1)])) t → Steps p.tables e below S0 t := fun t k => K7 t (by
    refine XS.aloadN X7.here hx rfl (hb hby dp1_12) rfl rfl ?_
    show Steps p.tables e below (T7.setTop (mkF m 13 #[.val (.ref o0), .val (.ref o1)] [(.ref o1), (.ref kd), (.ref nm), (.ref b1), (.ref b1)])) _
    exact k)
  have K_9 : ∀ t, Steps p.tables e below (T7.setTop (mkF m 13 #[.val (.ref o0), .val (.ref o1)] [(.ref o1), (.ref kd), (.ref nm), (.ref b1), (.ref b1)])) t → Steps p.tables e below S0 t := K8
  obtain ⟨cq10, kq10, q10a, q10b, q10c⟩ := isOf hZ e7 E_o1__1
  obtain ⟨_, _, ⟨T10, L10, k10, n10⟩, -, X10, ⟨Lc10, hQ10, l10, y10, z10⟩, st10⟩ := X7.virtualBack hx (y := (⟨"biaxial/cli/Forms$Operand", "required", "()Z"⟩ : MethodName)) (z := (⟨"biaxial/cli/Forms$Operand", "required", "()Z"⟩ : MethodName)) hown (mvT hZ (hw _ (List.mem_of_getElem? (i := 105) rfl))) (mvT hZ (hw _ (List.mem_of_getElem? (i := 106) rfl))) (notFace_of_selects (args := #[]) (mvT hZ (hw _ (List.mem_of_getElem? (i := 108) rfl)))) (mvT hZ (hw _ (List.mem_of_getElem? (i := 108) rfl))) (mvT hZ (hw _ (List.mem_of_getElem? (i := 107) rfl))) (by decide) (backOf (W := 4) (rmreq l Z a0 hw [] o1 rq h1 n0 Zs1 F_o1_required__1) hZ (hw _ (List.mem_of_getElem? (i := 109) rfl)) (hw _ (List.mem_of_getElem? (i := 46) rfl)) (by decide) (by decide)) q10a q10c (g := (mkF m 13 #[.val (.ref o0), .val (.ref o1)] [(.ref o1), (.ref kd), (.ref nm), (.ref b1), (.ref b1)])) rfl (by rw [hml]; rfl) (Steps.refl _) (argsL := []) (rest := [(.ref kd), (.ref nm), (.ref b1), (.ref b1)]) (lenOf pdp1_2 rfl) rfl (by show 2 * 0 + _ ≤ _; exact Nat.le_of_eq rfl) (hb hby dp1_13) (fun _ _ => ⟨rfl, e7, (by decide : 1 + 0 ≤ 1), (by decide : 5 + 0 ≤ 5)⟩)
  dsimp only [Pt.U, Pt.locs, Pt.cells, Pt.slots] at X10 l10 y10 z10 st10 hQ10
  subst l10 y10 z10
  obtain ⟨rfl, N10q, e10⟩ := hQ10
  have N10 := Fr.app N7 N10q
  have K10 : ∀ t, Steps p.tables e below (T10.setTop (mkF m 16 #[.val (.ref o0), .val (.ref o1)] [(.int (wreq_r1 rq)), (.ref kd), (.ref nm), (.ref b1), (.ref b1)])) t → Steps p.tables e below S0 t := fun t k => K_9 t (st10.trans k)
  have K11 : ∀ t, Steps p.tables e below (T10.setTop (mkF m 17 #[.val (.ref o0), .val (.ref o1)] [(.ref o1), (.int (wreq_r1 rq)), (.ref kd), (.ref nm), (.ref b1), (.ref b1)])) t → Steps p.tables e below S0 t := fun t k => K10 t (by
    refine XS.aloadN X10.here hx rfl (hb hby dp1_16) rfl rfl ?_
    show Steps p.tables e below (T10.setTop (mkF m 17 #[.val (.ref o0), .val (.ref o1)] [(.ref o1), (.int (wreq_r1 rq)), (.ref kd), (.ref nm), (.ref b1), (.ref b1)])) _
    exact k)
  have K_12 : ∀ t, Steps p.tables e below (T10.setTop (mkF m 17 #[.val (.ref o0), .val (.ref o1)] [(.ref o1), (.int (wreq_r1 rq)), (.ref kd), (.ref nm), (.ref b1), (.ref b1)])) t → Steps p.tables e below S0 t := K11
  obtain ⟨cq13, kq13, q13a, q13b, q13c⟩ := isOf hZ e10 E_o1__1
  obtain ⟨_, _, ⟨T13, L13, k13, n13⟩, -, X13, ⟨Lc13, hQ13, l13, y13, z13⟩, st13⟩ := X10.virtualBack hx (y := (⟨"biaxial/cli/Forms$Operand", "repeated", "()Z"⟩ : MethodName)) (z := (⟨"biaxial/cli/Forms$Operand", "repeated", "()Z"⟩ : MethodName)) hown (mvT hZ (hw _ (List.mem_of_getElem? (i := 110) rfl))) (mvT hZ (hw _ (List.mem_of_getElem? (i := 111) rfl))) (notFace_of_selects (args := #[]) (mvT hZ (hw _ (List.mem_of_getElem? (i := 113) rfl)))) (mvT hZ (hw _ (List.mem_of_getElem? (i := 113) rfl))) (mvT hZ (hw _ (List.mem_of_getElem? (i := 112) rfl))) (by decide) (backOf (W := 5) (rmrep l Z a0 hw [] o1 rp h1 n0 Zs1 F_o1_repeated__1) hZ (hw _ (List.mem_of_getElem? (i := 114) rfl)) (hw _ (List.mem_of_getElem? (i := 46) rfl)) (by decide) (by decide)) q13a q13c (g := (mkF m 17 #[.val (.ref o0), .val (.ref o1)] [(.ref o1), (.int (wreq_r1 rq)), (.ref kd), (.ref nm), (.ref b1), (.ref b1)])) rfl (by rw [hml]; rfl) (Steps.refl _) (argsL := []) (rest := [(.int (wreq_r1 rq)), (.ref kd), (.ref nm), (.ref b1), (.ref b1)]) (lenOf pdp1_2 rfl) rfl (by show 2 * 0 + _ ≤ _; exact Nat.le_of_eq rfl) (hb hby dp1_17) (fun _ _ => ⟨rfl, e10, (by decide : 1 + 0 ≤ 1), (by decide : 5 + 0 ≤ 5)⟩)
  dsimp only [Pt.U, Pt.locs, Pt.cells, Pt.slots] at X13 l13 y13 z13 st13 hQ13
  subst l13 y13 z13
  obtain ⟨rfl, N13q, e13⟩ := hQ13
  have N13 := Fr.app N10 N13q
  have K13 : ∀ t, Steps p.tables e below (T13.setTop (mkF m 20 #[.val (.ref o0), .val (.ref o1)] [(.int (wrep_r1 rp)), (.int (wreq_r1 rq)), (.ref kd), (.ref nm), (.ref b1), (.ref b1)])) t → Steps p.tables e below S0 t := fun t k => K_12 t (st13.trans k)
  have K14 : ∀ t, Steps p.tables e below (T13.setTop (mkF m 21 #[.val (.ref o0), .val (.ref o1)] [(.ref o0), (.int (wrep_r1 rp)), (.int (wreq_r1 rq)), (.ref kd), (.ref nm), (.ref b1), (.ref b1)])) t → Steps p.tables e below S0 t := fun t k => K13 t (by
    refine XS.aloadN X13.here hx rfl (hb hby dp1_20) rfl rfl ?_
    show Steps p.tables e below (T13.setTop (mkF m 21 #[.val (.ref o0), .val (.ref o1)] [(.ref o0), (.int (wrep_r1 rp)), (.int (wreq_r1 rq)), (.ref kd), (.ref nm), (.ref b1), (.ref b1)])) _
    exact k)
  have K_15 : ∀ t, Steps p.tables e below (T13.setTop (mkF m 21 #[.val (.ref o0), .val (.ref o1)] [(.ref o0), (.int (wrep_r1 rp)), (.int (wreq_r1 rq)), (.ref kd), (.ref nm), (.ref b1), (.ref b1)])) t → Steps p.tables e below S0 t := K14
  obtain ⟨_, _, ⟨T16, L16, k16, n16⟩, -, X16, ⟨Lc16, hQ16, l16, y16, z16⟩, st16⟩ := X13.specialBack hx (y := (⟨"biaxial/cli/Forms$Operand", "<init>", "(Ljava/lang/String;Lbiaxial/cli/Forms$Kind;ZZLjava/lang/String;)V"⟩ : MethodName)) rfl hown (mvT hZ (hw _ (List.mem_of_getElem? (i := 91) rfl))) (mvT hZ (hw _ (List.mem_of_getElem? (i := 48) rfl))) (mvT hZ (hw _ (List.mem_of_getElem? (i := 49) rfl))) (by decide) (backOf (W := 1) (rmi111 l Z a0 hw [] b1 nm kd (wreq_r1 rq) (wrep_r1 rp) o0 h1 n0 Zs1 A1 F_b1_name F_b1_kind F_b1_required F_b1_repeated F_b1_flag g_b1) hZ (hw _ (List.mem_of_getElem? (i := 49) rfl)) (hw _ (List.mem_of_getElem? (i := 46) rfl)) (by decide) (by decide)) (g := (mkF m 21 #[.val (.ref o0), .val (.ref o1)] [(.ref o0), (.int (wrep_r1 rp)), (.int (wreq_r1 rq)), (.ref kd), (.ref nm), (.ref b1), (.ref b1)])) rfl (by rw [hml]; rfl) (Steps.refl _) (a := b1) (argsL := [(.ref nm), (.ref kd), (.int (wreq_r1 rq)), (.int (wrep_r1 rp)), (.ref o0)]) (rest := [(.ref b1)]) (lenOf pdp1_3 rfl) rfl (by show 2 * 0 + _ ≤ _; exact Nat.le_of_eq rfl) (hb hby dp1_21) (fun _ _ => ⟨rfl, e13, (by decide : 1 + 0 ≤ 1), (by decide : 5 + 0 ≤ 5)⟩)
  dsimp only [Pt.U, Pt.locs, Pt.cells, Pt.slots] at X16 l16 y16 z16 st16 hQ16
  subst l16 y16 z16
  obtain ⟨rfl, N16q, Kp16, Fn16_0, Fn16_1, Fn16_2, Fn16_3, Fn16_4, Fn16_5⟩ := hQ16
  have N16 := Fr.app N13 N16q
  have E_o1__16 := E_o1__1.keep Kp16
  have F_o1_name__16 := F_o1_name__1.keep Kp16 (ninS ne_o1_b1 nin0)
  have F_o1_kind__16 := F_o1_kind__1.keep Kp16 (ninS ne_o1_b1 nin0)
  have F_o1_required__16 := F_o1_required__1.keep Kp16 (ninS ne_o1_b1 nin0)
  have F_o1_repeated__16 := F_o1_repeated__1.keep Kp16 (ninS ne_o1_b1 nin0)
  have Zs16 : n0 ≤ T16.heap.size := Nat.le_trans Zs1 Kp16.1
  have Kc16 : Keep h0 T16.heap [] := Kc1.trans Kp16 (allS (P := fun x => x ∈ [] ∨ h0.size ≤ x) (Or.inr sz_b1) all0)
  have K16 : ∀ t, Steps p.tables e below (T16.setTop (mkF m 24 #[.val (.ref o0), .val (.ref o1)] [(.ref b1)])) t → Steps p.tables e below S0 t := fun t k => K_15 t (st16.trans k)
  obtain ⟨fs, hr, hrun, hended, hW, hsame⟩ := X16.leave (v := some (.ref b1)) (fun h => by rw [Bd.returns] at h; cases h) hlk
  refine ⟨_, _, ?_, hrun, hended, _, _, rfl, ?_, ⟨_, rfl⟩, hW, hsame.mono (by decide) (by decide)⟩
  · rw [← hS0]; exact K16 _ (retOut X16 hx Bd.returns rfl (Or.inr (Or.inr (Or.inr (Or.inr ⟨rfl, rfl, rfl⟩)))) (hb hby dp1_24) hr)
  · show Qp1 Z o0 o1 nm kd rq rp h0 n0 _ T16.heap _
    exact ⟨b1, rfl, N16, Kc16, sz_b1, Fn16_0, Fn16_1, Fn16_2, Fn16_3, Fn16_4, Fn16_5⟩
theorem pn0 : plainName "biaxial/cli/OperandIsSwitchPinLaw" = true := by first | (simp [plainName, overriddenIn]; done) | decide +kernel
theorem pd0_0 : parseMethodDescriptor "([C)V" = some ⟨[(.array .char)], none⟩ := by decide +kernel
theorem pd0_1 : parseMethodDescriptor "(C)Ljava/lang/String;" = some ⟨[.char], some (.object "java/lang/String")⟩ := by decide +kernel
theorem pd0_2 : parseMethodDescriptor "(Ljava/lang/String;Lbiaxial/cli/Forms$Kind;ZZLjava/lang/String;)V" = some ⟨[(.object "java/lang/String"), (.object "biaxial/cli/Forms$Kind"), .boolean, .boolean, (.object "java/lang/String")], none⟩ := by decide +kernel
theorem pd0_3 : parseMethodDescriptor "()Z" = some ⟨[], some .boolean⟩ := by decide +kernel
theorem pd0_4 : parseMethodDescriptor "()Lbiaxial/cli/Forms$Operand;" = some ⟨[], some (.object "biaxial/cli/Forms$Operand")⟩ := by decide +kernel
theorem pd0_5 : parseMethodDescriptor "(Ljava/lang/String;)Lbiaxial/cli/Forms$Operand;" = some ⟨[(.object "java/lang/String")], some (.object "biaxial/cli/Forms$Operand")⟩ := by decide +kernel
theorem pd0_6 : parseMethodDescriptor "(Ljava/lang/String;Lbiaxial/cli/Forms$Operand;)Lbiaxial/cli/Forms$Operand;" = some ⟨[(.object "java/lang/String"), (.object "biaxial/cli/Forms$Operand")], some (.object "biaxial/cli/Forms$Operand")⟩ := by decide +kernel
theorem ef0 (m : MethodId) (p0 : Int32) (p1 : Int32) (p2 : Int32) : entryFrame m #[(.int p0), (.int p1), (.int p2)] maxLocals = mkF m 0 #[.val (.int p0), .val (.int p1), .val (.int p2), .unset, .unset, .unset, .unset, .unset, .unset, .unset, .unset, .unset, .unset, .unset, .unset, .unset] [] := by first | (simp [entryFrame, mkF, argsToLocals, Value.category, maxLocals]; done) | rfl
def Q0 (Z : State) (p0 : Int32) (p1 : Int32) (p2 : Int32) (zc : Int32) (ob1 : Addr) (ob2 : Addr) (ob3 : Addr) (h0 : Heap) (n0 : Nat) (v : Option Value) (h : Heap) (L : List Loc) : Prop := v = some (.int (w0_r11 p2)) ∧ Fr n0 L
set_option maxRecDepth 65536 in
set_option maxHeartbeats 40000000 in
theorem rm0 (l : Launch) (Z : State) (a0 : Array Value) (hw : ∀ d ∈ tables_1, d.before a0 Z = true) (ws : List Jvm.Cond) (p0 : Int32) (p1 : Int32) (p2 : Int32) (zc : Int32) (ob1 : Addr) (ob2 : Addr) (ob3 : Addr) (h0 : Heap) (n0 : Nat) (Z0 : n0 ≤ h0.size) (S_String_COMPACT_STRINGS : Sta Z Z.heap "java/lang/String" "COMPACT_STRINGS" "Z" (.int zc)) (hz : ¬ zc = (0 : Int32)) (S_Forms_Kind_NAME : Sta Z Z.heap "biaxial/cli/Forms$Kind" "NAME" "Lbiaxial/cli/Forms$Kind;" (.ref ob1)) (S_Forms_Kind_WORD : Sta Z Z.heap "biaxial/cli/Forms$Kind" "WORD" "Lbiaxial/cli/Forms$Kind;" (.ref ob2)) (S_Forms_Kind_FILE : Sta Z Z.heap "biaxial/cli/Forms$Kind" "FILE" "Lbiaxial/cli/Forms$Kind;" (.ref ob3)) (hcs : Jvm.Lit.constHeld Z "java/lang/String" 7) (hcw : Jvm.Lit.compactW.before a0 Z = true) (OL0 : Old Z n0 h0) :
    MetFree l x (head1 (Jvm.Cond.code x code maxLocals ret :: ws) room_1) (fun a U => a = #[(.int p0), (.int p1), (.int p2)] ∧ Z.Warmed39 U.vm ∧ U.heap = h0 ∧ IB Z U.vm []) (fun _ _ _ _ _ => True) (fun _ U o U' => ∃ v L, o = .returned v ∧ Q0 Z p0 p1 p2 zc ob1 ob2 ob3 h0 n0 v U'.heap L ∧ ReturnedEndW U o U' L 14 46) := by
  refine MetFree.of_bodySF (plainFor_of_name pn0) hisR ?_
  intro p e s m args below meth c s₁ Bd hml0 hP hK
  obtain ⟨rfl, hZ, hh, hI⟩ := hP
  have hlk : meth.locks = false := BodyLoose.notSynchronized Bd
  have hx := Bd.exec
  have hby := Bd.bytes
  have hml : c.maxLocals = 16 := hml0
  have hown : s.vm.findClass "biaxial/cli/OperandIsSwitchPinLaw" = some m.cls := findClass_of_methodNamed Bd.named
  have hnm := (name_of_methodNamed Bd.named Bd.method).1
  have X0 : Stand p l e room_1 s m #[(.int p0), (.int p1), (.int p2)] below meth c s₁ [] 0 0 := Stand.of_body Bd
  have e0 : s₁.heap = h0 := by rw [← hh, Bd.state]; rfl
  have N0 := Fr.nil n0
  obtain ⟨S0, hS0⟩ : ∃ S0, S0 = s₁.setTop (entryFrame m #[(.int p0), (.int p1), (.int p2)] maxLocals) := ⟨_, rfl⟩
  have pre0 : ∀ t, Steps p.tables e below (s₁.setTop (mkF m 0 #[.val (.int p0), .val (.int p1), .val (.int p2), .unset, .unset, .unset, .unset, .unset, .unset, .unset, .unset, .unset, .unset, .unset, .unset, .unset] [])) t → Steps p.tables e below S0 t := fun t k => by rw [hS0]; exact castTop (ef0 m p0 p1 p2) k
  have S_String_COMPACT_STRINGS__0 := S_String_COMPACT_STRINGS.ext OL0.2
  have S_Forms_Kind_NAME__0 := S_Forms_Kind_NAME.ext OL0.2
  have S_Forms_Kind_WORD__0 := S_Forms_Kind_WORD.ext OL0.2
  have S_Forms_Kind_FILE__0 := S_Forms_Kind_FILE.ext OL0.2
  have K1 : ∀ t, Steps p.tables e below (s₁.setTop (mkF m 1 #[.val (.int p0), .val (.int p1), .val (.int p2), .unset, .unset, .unset, .unset, .unset, .unset, .unset, .unset, .unset, .unset, .unset, .unset, .unset] [(.int (2 : Int32))])) t → Steps p.tables e below S0 t := fun t k => pre0 t (by
    refine XS.iconst X0.here hx rfl (hb hby at_0) ?_
    show Steps p.tables e below (s₁.setTop (mkF m 1 #[.val (.int p0), .val (.int p1), .val (.int p2), .unset, .unset, .unset, .unset, .unset, .unset, .unset, .unset, .unset, .unset, .unset, .unset, .unset] [(.int (2 : Int32))])) _
    exact k)
  obtain ⟨T2, h2, k2, X2, e2, E2, A2, st2⟩ := newP X0 hx hZ (hw _ (List.mem_of_getElem? (i := 0) rfl)) e0 (g := (mkF m 1 #[.val (.int p0), .val (.int p1), .val (.int p2), .unset, .unset, .unset, .unset, .unset, .unset, .unset, .unset, .unset, .unset, .unset, .unset, .unset] [(.int (2 : Int32))])) rfl (hb hby at_1) rfl (by decide) (cap := 2) (by decide) (by decide) (by decide) (by decide)
  obtain ⟨b2, g2⟩ : ∃ z, z = h0.size := ⟨_, rfl⟩
  rw [← g2] at A2 st2
  have OL2 := OL0.ext E2
  have g_b2 : n0 ≤ b2 := Nat.le_trans Z0 (Nat.le_of_eq g2.symm)
  have Zs2 : n0 ≤ h2.size := Nat.le_trans Z0 E2.1
  have V_b2 : Arv Z h2 b2 k2 .char (2 : Int32) [(.int (0 : Int32)), (.int (0 : Int32))] (.int (0 : Int32)) := (Arv.new A2 (by decide)).pad (pad_rep [] (.int (0 : Int32)) 2)
  have K2 : ∀ t, Steps p.tables e below (T2.setTop (mkF m 3 #[.val (.int p0), .val (.int p1), .val (.int p2), .unset, .unset, .unset, .unset, .unset, .unset, .unset, .unset, .unset, .unset, .unset, .unset, .unset] [(.ref b2)])) t → Steps p.tables e below S0 t := fun t k => K1 t (st2 t k)
  have K3 : ∀ t, Steps p.tables e below (T2.setTop (mkF m 11 #[.val (.int p0), .val (.int p1), .val (.int p2), .unset, .unset, .unset, .unset, .unset, .unset, .unset, .unset, .unset, .unset, .unset, .unset, .unset] [(.int ((p0 &&& (255 : Int32)).toUInt32.toUInt16.toUInt32.toInt32)), (.int (0 : Int32)), (.ref b2), (.ref b2)])) t → Steps p.tables e below S0 t := fun t k => K2 t (by
    refine XS.dup X2.here hx rfl (hb hby at_3) rfl rfl ?_
    show Steps p.tables e below (T2.setTop (mkF m 4 #[.val (.int p0), .val (.int p1), .val (.int p2), .unset, .unset, .unset, .unset, .unset, .unset, .unset, .unset, .unset, .unset, .unset, .unset, .unset] [(.ref b2), (.ref b2)])) _
    refine XS.iconst X2.here hx rfl (hb hby at_4) ?_
    show Steps p.tables e below (T2.setTop (mkF m 5 #[.val (.int p0), .val (.int p1), .val (.int p2), .unset, .unset, .unset, .unset, .unset, .unset, .unset, .unset, .unset, .unset, .unset, .unset, .unset] [(.int (0 : Int32)), (.ref b2), (.ref b2)])) _
    refine XS.iloadN X2.here hx rfl (hb hby at_5) rfl ?_
    show Steps p.tables e below (T2.setTop (mkF m 6 #[.val (.int p0), .val (.int p1), .val (.int p2), .unset, .unset, .unset, .unset, .unset, .unset, .unset, .unset, .unset, .unset, .unset, .unset, .unset] [(.int p0), (.int (0 : Int32)), (.ref b2), (.ref b2)])) _
    refine XS.sipush X2.here hx rfl (hb hby at_6) ?_
    show Steps p.tables e below (T2.setTop (mkF m 9 #[.val (.int p0), .val (.int p1), .val (.int p2), .unset, .unset, .unset, .unset, .unset, .unset, .unset, .unset, .unset, .unset, .unset, .unset, .unset] [(.int (255 : Int32)), (.int p0), (.int (0 : Int32)), (.ref b2), (.ref b2)])) _
    refine XS.iand X2.here hx rfl (hb hby at_9) rfl ?_
    show Steps p.tables e below (T2.setTop (mkF m 10 #[.val (.int p0), .val (.int p1), .val (.int p2), .unset, .unset, .unset, .unset, .unset, .unset, .unset, .unset, .unset, .unset, .unset, .unset, .unset] [(.int (p0 &&& (255 : Int32))), (.int (0 : Int32)), (.ref b2), (.ref b2)])) _
    refine XS.i2c X2.here hx rfl (hb hby at_10) rfl ?_
    show Steps p.tables e below (T2.setTop (mkF m 11 #[.val (.int p0), .val (.int p1), .val (.int p2), .unset, .unset, .unset, .unset, .unset, .unset, .unset, .unset, .unset, .unset, .unset, .unset, .unset] [(.int ((p0 &&& (255 : Int32)).toUInt32.toUInt16.toUInt32.toInt32)), (.int (0 : Int32)), (.ref b2), (.ref b2)])) _
    exact k)
  have K_4 : ∀ t, Steps p.tables e below (T2.setTop (mkF m 11 #[.val (.int p0), .val (.int p1), .val (.int p2), .unset, .unset, .unset, .unset, .unset, .unset, .unset, .unset, .unset, .unset, .unset, .unset, .unset] [(.int (w0_1 p0)), (.int (0 : Int32)), (.ref b2), (.ref b2)])) t → Steps p.tables e below S0 t := K3
  obtain ⟨cl5, Ar5, qa5, sa5, na5, ha5, ga5⟩ := id V_b2
  have hin5 : ¬ ((0 : Int32) < 0 ∨ cl5.slots.size ≤ ((0 : Int32)).toNatClampNeg) := inb_of sa5 ⟨by decide, by decide⟩
  obtain ⟨T5, h5, X5, e5, W5, st5⟩ := stC X2 hx hZ e2 Ar5 (j := (0 : Int32)) hin5 (g := (mkF m 11 #[.val (.int p0), .val (.int p1), .val (.int p2), .unset, .unset, .unset, .unset, .unset, .unset, .unset, .unset, .unset, .unset, .unset, .unset, .unset] [(.int (w0_1 p0)), (.int (0 : Int32)), (.ref b2), (.ref b2)])) rfl rfl (hb hby at_11)
  have V_b2__5 : Arv Z h5 b2 k2 .char (2 : Int32) [(.int (nar .char (w0_1 p0))), (.int (0 : Int32))] (.int (0 : Int32)) := Arv.set Ar5 qa5 sa5 na5 ha5 ga5 (fits_nar_char _) W5 0 rfl (Nat.le_of_ble_eq_true rfl)
  have OL5 := OL2.wr W5 g_b2
  have N5 := Fr.snoc X5 N0 g_b2
  have Zs5 : n0 ≤ h5.size := Nat.le_trans Zs2 (Nat.le_of_eq W5.size.symm)
  have K5 : ∀ t, Steps p.tables e below (T5.setTop (mkF m 12 #[.val (.int p0), .val (.int p1), .val (.int p2), .unset, .unset, .unset, .unset, .unset, .unset, .unset, .unset, .unset, .unset, .unset, .unset, .unset] [(.ref b2)])) t → Steps p.tables e below S0 t := fun t k => K_4 t (st5 t k)
  have K6 : ∀ t, Steps p.tables e below (T5.setTop (mkF m 23 #[.val (.int p0), .val (.int p1), .val (.int p2), .unset, .unset, .unset, .unset, .unset, .unset, .unset, .unset, .unset, .unset, .unset, .unset, .unset] [(.int ((((p0.toUInt32 >>> ((8 : Int32) &&& 31).toUInt32).toInt32) &&& (255 : Int32)).toUInt32.toUInt16.toUInt32.toInt32)), (.int (1 : Int32)), (.ref b2), (.ref b2)])) t → Steps p.tables e below S0 t := fun t k => K5 t (by
    refine XS.dup X5.here hx rfl (hb hby at_12) rfl rfl ?_
    show Steps p.tables e below (T5.setTop (mkF m 13 #[.val (.int p0), .val (.int p1), .val (.int p2), .unset, .unset, .unset, .unset, .unset, .unset, .unset, .unset, .unset, .unset, .unset, .unset, .unset] [(.ref b2), (.ref b2)])) _
    refine XS.iconst X5.here hx rfl (hb hby at_13) ?_
    show Steps p.tables e below (T5.setTop (mkF m 14 #[.val (.int p0), .val (.int p1), .val (.int p2), .unset, .unset, .unset, .unset, .unset, .unset, .unset, .unset, .unset, .unset, .unset, .unset, .unset] [(.int (1 : Int32)), (.ref b2), (.ref b2)])) _
    refine XS.iloadN X5.here hx rfl (hb hby at_14) rfl ?_
    show Steps p.tables e below (T5.setTop (mkF m 15 #[.val (.int p0), .val (.int p1), .val (.int p2), .unset, .unset, .unset, .unset, .unset, .unset, .unset, .unset, .unset, .unset, .unset, .unset, .unset] [(.int p0), (.int (1 : Int32)), (.ref b2), (.ref b2)])) _
    refine XS.bipush X5.here hx rfl (hb hby at_15) ?_
    show Steps p.tables e below (T5.setTop (mkF m 17 #[.val (.int p0), .val (.int p1), .val (.int p2), .unset, .unset, .unset, .unset, .unset, .unset, .unset, .unset, .unset, .unset, .unset, .unset, .unset] [(.int (8 : Int32)), (.int p0), (.int (1 : Int32)), (.ref b2), (.ref b2)])) _
    refine XS.iushr X5.here hx rfl (hb hby at_17) rfl ?_
    show Steps p.tables e below (T5.setTop (mkF m 18 #[.val (.int p0), .val (.int p1), .val (.int p2), .unset, .unset, .unset, .unset, .unset, .unset, .unset, .unset, .unset, .unset, .unset, .unset, .unset] [(.int ((p0.toUInt32 >>> ((8 : Int32) &&& 31).toUInt32).toInt32)), (.int (1 : Int32)), (.ref b2), (.ref b2)])) _
    refine XS.sipush X5.here hx rfl (hb hby at_18) ?_
    show Steps p.tables e below (T5.setTop (mkF m 21 #[.val (.int p0), .val (.int p1), .val (.int p2), .unset, .unset, .unset, .unset, .unset, .unset, .unset, .unset, .unset, .unset, .unset, .unset, .unset] [(.int (255 : Int32)), (.int ((p0.toUInt32 >>> ((8 : Int32) &&& 31).toUInt32).toInt32)), (.int (1 : Int32)), (.ref b2), (.ref b2)])) _
    refine XS.iand X5.here hx rfl (hb hby at_21) rfl ?_
    show Steps p.tables e below (T5.setTop (mkF m 22 #[.val (.int p0), .val (.int p1), .val (.int p2), .unset, .unset, .unset, .unset, .unset, .unset, .unset, .unset, .unset, .unset, .unset, .unset, .unset] [(.int (((p0.toUInt32 >>> ((8 : Int32) &&& 31).toUInt32).toInt32) &&& (255 : Int32))), (.int (1 : Int32)), (.ref b2), (.ref b2)])) _
    refine XS.i2c X5.here hx rfl (hb hby at_22) rfl ?_
    show Steps p.tables e below (T5.setTop (mkF m 23 #[.val (.int p0), .val (.int p1), .val (.int p2), .unset, .unset, .unset, .unset, .unset, .unset, .unset, .unset, .unset, .unset, .unset, .unset, .unset] [(.int ((((p0.toUInt32 >>> ((8 : Int32) &&& 31).toUInt32).toInt32) &&& (255 : Int32)).toUInt32.toUInt16.toUInt32.toInt32)), (.int (1 : Int32)), (.ref b2), (.ref b2)])) _
    exact k)
  have K_7 : ∀ t, Steps p.tables e below (T5.setTop (mkF m 23 #[.val (.int p0), .val (.int p1), .val (.int p2), .unset, .unset, .unset, .unset, .unset, .unset, .unset, .unset, .unset, .unset, .unset, .unset, .unset] [(.int (w0_2 p0)), (.int (1 : Int32)), (.ref b2), (.ref b2)])) t → Steps p.tables e below S0 t := K6
  obtain ⟨cl8, Ar8, qa8, sa8, na8, ha8, ga8⟩ := id V_b2__5
  have hin8 : ¬ ((1 : Int32) < 0 ∨ cl8.slots.size ≤ ((1 : Int32)).toNatClampNeg) := inb_of sa8 ⟨by decide, by decide⟩
  obtain ⟨T8, h8, X8, e8, W8, st8⟩ := stC X5 hx hZ e5 Ar8 (j := (1 : Int32)) hin8 (g := (mkF m 23 #[.val (.int p0), .val (.int p1), .val (.int p2), .unset, .unset, .unset, .unset, .unset, .unset, .unset, .unset, .unset, .unset, .unset, .unset, .unset] [(.int (w0_2 p0)), (.int (1 : Int32)), (.ref b2), (.ref b2)])) rfl rfl (hb hby at_23)
  have V_b2__8 : Arv Z h8 b2 k2 .char (2 : Int32) [(.int (nar .char (w0_1 p0))), (.int (nar .char (w0_2 p0)))] (.int (0 : Int32)) := Arv.set Ar8 qa8 sa8 na8 ha8 ga8 (fits_nar_char _) W8 1 rfl (Nat.le_of_ble_eq_true rfl)
  have OL8 := OL5.wr W8 g_b2
  have N8 := Fr.snoc X8 N5 g_b2
  have Zs8 : n0 ≤ h8.size := Nat.le_trans Zs5 (Nat.le_of_eq W8.size.symm)
  have K8 : ∀ t, Steps p.tables e below (T8.setTop (mkF m 24 #[.val (.int p0), .val (.int p1), .val (.int p2), .unset, .unset, .unset, .unset, .unset, .unset, .unset, .unset, .unset, .unset, .unset, .unset, .unset] [(.ref b2)])) t → Steps p.tables e below S0 t := fun t k => K_7 t (st8 t k)
  have K9 : ∀ t, Steps p.tables e below (T8.setTop (mkF m 25 #[.val (.int p0), .val (.int p1), .val (.int p2), .val (.ref b2), .unset, .unset, .unset, .unset, .unset, .unset, .unset, .unset, .unset, .unset, .unset, .unset] [])) t → Steps p.tables e below S0 t := fun t k => K8 t (by
    refine XS.astoreN X8.here hx rfl (hb hby at_24) rfl rfl (l' := #[.val (.int p0), .val (.int p1), .val (.int p2), .val (.ref b2), .unset, .unset, .unset, .unset, .unset, .unset, .unset, .unset, .unset, .unset, .unset, .unset]) rfl ?_
    show Steps p.tables e below (T8.setTop (mkF m 25 #[.val (.int p0), .val (.int p1), .val (.int p2), .val (.ref b2), .unset, .unset, .unset, .unset, .unset, .unset, .unset, .unset, .unset, .unset, .unset, .unset] [])) _
    exact k)
  obtain ⟨T10, h10, X10, e10, E10, A10, D10, -, st10⟩ := newO X8 hx hZ hown (hw _ (List.mem_of_getElem? (i := 1) rfl)) (hw _ (List.mem_of_getElem? (i := 2) rfl)) (hw _ (List.mem_of_getElem? (i := 3) rfl)) e8 (g := (mkF m 25 #[.val (.int p0), .val (.int p1), .val (.int p2), .val (.ref b2), .unset, .unset, .unset, .unset, .unset, .unset, .unset, .unset, .unset, .unset, .unset, .unset] [])) rfl (hb hby at_25) (by decide) (by decide)
  obtain ⟨b10, g10⟩ : ∃ z, z = h8.size := ⟨_, rfl⟩
  rw [← g10] at A10 D10 st10
  have ne_b2_b10 : b2 ≠ b10 := Nat.ne_of_lt (Nat.lt_of_lt_of_le V_b2__8.lt (Nat.le_of_eq g10.symm))
  have OL10 := OL8.ext E10
  have V_b2__10 := V_b2__8.ext E10
  have g_b10 : n0 ≤ b10 := Nat.le_trans Zs8 (Nat.le_of_eq g10.symm)
  have Zs10 : n0 ≤ h10.size := Nat.le_trans Zs8 E10.1
  have F_b10_coder : Fld Z h10 b10 "java/lang/String" "coder" "B" (.int (0 : Int32)) := D10 (Or.inr (hw _ (List.mem_of_getElem? (i := 27) rfl))) (ty := .byte) (by decide)
  have F_b10_value : Fld Z h10 b10 "java/lang/String" "value" "[B" .null := D10 (Or.inr (hw _ (List.mem_of_getElem? (i := 29) rfl))) (ty := (.array .byte)) (by decide)
  have K10 : ∀ t, Steps p.tables e below (T10.setTop (mkF m 28 #[.val (.int p0), .val (.int p1), .val (.int p2), .val (.ref b2), .unset, .unset, .unset, .unset, .unset, .unset, .unset, .unset, .unset, .unset, .unset, .unset] [(.ref b10)])) t → Steps p.tables e below S0 t := fun t k => K9 t (st10 t k)
  have K11 : ∀ t, Steps p.tables e below (T10.setTop (mkF m 30 #[.val (.int p0), .val (.int p1), .val (.int p2), .val (.ref b2), .unset, .unset, .unset, .unset, .unset, .unset, .unset, .unset, .unset, .unset, .unset, .unset] [(.ref b2), (.ref b10), (.ref b10)])) t → Steps p.tables e below S0 t := fun t k => K10 t (by
    refine XS.dup X10.here hx rfl (hb hby at_28) rfl rfl ?_
    show Steps p.tables e below (T10.setTop (mkF m 29 #[.val (.int p0), .val (.int p1), .val (.int p2), .val (.ref b2), .unset, .unset, .unset, .unset, .unset, .unset, .unset, .unset, .unset, .unset, .unset, .unset] [(.ref b10), (.ref b10)])) _
    refine XS.aloadN X10.here hx rfl (hb hby at_29) rfl rfl ?_
    show Steps p.tables e below (T10.setTop (mkF m 30 #[.val (.int p0), .val (.int p1), .val (.int p2), .val (.ref b2), .unset, .unset, .unset, .unset, .unset, .unset, .unset, .unset, .unset, .unset, .unset, .unset] [(.ref b2), (.ref b10), (.ref b10)])) _
    exact k)
  have K_12 : ∀ t, Steps p.tables e below (T10.setTop (mkF m 30 #[.val (.int p0), .val (.int p1), .val (.int p2), .val (.ref b2), .unset, .unset, .unset, .unset, .unset, .unset, .unset, .unset, .unset, .unset, .unset, .unset] [(.ref b2), (.ref b10), (.ref b10)])) t → Steps p.tables e below S0 t := K11
  obtain ⟨_, _, ⟨T13, L13, k13, n13⟩, -, X13, ⟨Lc13, hQ13, l13, y13, z13⟩, st13⟩ := X10.specialBack hx (y := (⟨"java/lang/String", "<init>", "([C)V"⟩ : MethodName)) rfl hown (mvT hZ (hw _ (List.mem_of_getElem? (i := 4) rfl))) (mvT hZ (hw _ (List.mem_of_getElem? (i := 5) rfl))) (mvT hZ (hw _ (List.mem_of_getElem? (i := 6) rfl))) (by decide) (backOf (W := 1) (rmsi l Z a0 hw [] b10 b2 k2 zc (nar .char (w0_1 p0)) (nar .char (w0_2 p0)) h10 n0 Zs10 A10 F_b10_value F_b10_coder g_b10 V_b2__10 (S_String_COMPACT_STRINGS.ext OL10.2) hz (own_ch _) (own_ch _) (Ne.symm ne_b2_b10)) hZ (hw _ (List.mem_of_getElem? (i := 6) rfl)) (hw _ (List.mem_of_getElem? (i := 3) rfl)) (by decide) (by decide)) (g := (mkF m 30 #[.val (.int p0), .val (.int p1), .val (.int p2), .val (.ref b2), .unset, .unset, .unset, .unset, .unset, .unset, .unset, .unset, .unset, .unset, .unset, .unset] [(.ref b2), (.ref b10), (.ref b10)])) rfl (by rw [hml]; rfl) (Steps.refl _) (a := b10) (argsL := [(.ref b2)]) (rest := [(.ref b10)]) (lenOf pd0_0 rfl) rfl (by show 2 * 0 + _ ≤ _; exact Nat.le_of_eq rfl) (hb hby at_30) (fun _ _ => ⟨rfl, e10, (by decide : 2 + 1 ≤ 40), (by decide : 6 + 2 ≤ 1216)⟩)
  dsimp only [Pt.U, Pt.locs, Pt.cells, Pt.slots] at X13 l13 y13 z13 st13 hQ13
  subst l13 y13 z13
  obtain ⟨b13_5_10_2, kn13_0, rfl, N13q, Kp13, lb_b13_5_10_2, Fn13_0, Fn13_1, Fn13_2, Fn13_3⟩ := hQ13
  have N13 := Fr.app N8 N13q
  have g_b13_5_10_2 : n0 ≤ b13_5_10_2 := Nat.le_trans Zs10 lb_b13_5_10_2
  have ne_b2_b13_5_10_2 : b2 ≠ b13_5_10_2 := Nat.ne_of_lt (Nat.lt_of_lt_of_le V_b2__10.lt lb_b13_5_10_2)
  have ne_b10_b13_5_10_2 : b10 ≠ b13_5_10_2 := Nat.ne_of_lt (Nat.lt_of_lt_of_le A10.lt lb_b13_5_10_2)
  have OL13 := OL10.keep Kp13 (allS (P := fun x => n0 ≤ x) g_b10 all0)
  have V_b2__13 := V_b2__10.keep Kp13 (ninS ne_b2_b10 nin0)
  have Zs13 : n0 ≤ T13.heap.size := Nat.le_trans Zs10 Kp13.1
  have K13 : ∀ t, Steps p.tables e below (T13.setTop (mkF m 33 #[.val (.int p0), .val (.int p1), .val (.int p2), .val (.ref b2), .unset, .unset, .unset, .unset, .unset, .unset, .unset, .unset, .unset, .unset, .unset, .unset] [(.ref b10)])) t → Steps p.tables e below S0 t := fun t k => K_12 t (st13.trans k)
  have K14 : ∀ t, Steps p.tables e below (T13.setTop (mkF m 41 #[.val (.int p0), .val (.int p1), .val (.int p2), .val (.ref b2), .val (.ref b10), .unset, .unset, .unset, .unset, .unset, .unset, .unset, .unset, .unset, .unset, .unset] [(.int (w0_3 p1))])) t → Steps p.tables e below S0 t := fun t k => K13 t (by
    refine XS.astore X13.here hx rfl (hb hby at_33) rfl rfl (l' := #[.val (.int p0), .val (.int p1), .val (.int p2), .val (.ref b2), .val (.ref b10), .unset, .unset, .unset, .unset, .unset, .unset, .unset, .unset, .unset, .unset, .unset]) rfl ?_
    show Steps p.tables e below (T13.setTop (mkF m 35 #[.val (.int p0), .val (.int p1), .val (.int p2), .val (.ref b2), .val (.ref b10), .unset, .unset, .unset, .unset, .unset, .unset, .unset, .unset, .unset, .unset, .unset] [])) _
    refine XS.iloadN X13.here hx rfl (hb hby at_35) rfl ?_
    show Steps p.tables e below (T13.setTop (mkF m 36 #[.val (.int p0), .val (.int p1), .val (.int p2), .val (.ref b2), .val (.ref b10), .unset, .unset, .unset, .unset, .unset, .unset, .unset, .unset, .unset, .unset, .unset] [(.int p1)])) _
    refine XS.sipush X13.here hx rfl (hb hby at_36) ?_
    show Steps p.tables e below (T13.setTop (mkF m 39 #[.val (.int p0), .val (.int p1), .val (.int p2), .val (.ref b2), .val (.ref b10), .unset, .unset, .unset, .unset, .unset, .unset, .unset, .unset, .unset, .unset, .unset] [(.int (255 : Int32)), (.int p1)])) _
    refine XS.iand X13.here hx rfl (hb hby at_39) rfl ?_
    show Steps p.tables e below (T13.setTop (mkF m 40 #[.val (.int p0), .val (.int p1), .val (.int p2), .val (.ref b2), .val (.ref b10), .unset, .unset, .unset, .unset, .unset, .unset, .unset, .unset, .unset, .unset, .unset] [(.int (p1 &&& (255 : Int32)))])) _
    refine XS.i2c X13.here hx rfl (hb hby at_40) rfl ?_
    show Steps p.tables e below (T13.setTop (mkF m 41 #[.val (.int p0), .val (.int p1), .val (.int p2), .val (.ref b2), .val (.ref b10), .unset, .unset, .unset, .unset, .unset, .unset, .unset, .unset, .unset, .unset, .unset] [(.int ((p1 &&& (255 : Int32)).toUInt32.toUInt16.toUInt32.toInt32))])) _
    exact k)
  have K_15 : ∀ t, Steps p.tables e below (T13.setTop (mkF m 41 #[.val (.int p0), .val (.int p1), .val (.int p2), .val (.ref b2), .val (.ref b10), .unset, .unset, .unset, .unset, .unset, .unset, .unset, .unset, .unset, .unset, .unset] [(.int (w0_3 p1))])) t → Steps p.tables e below S0 t := K14
  obtain ⟨_, _, ⟨T16, L16, k16, n16⟩, -, X16, ⟨Lc16, hQ16, l16, y16, z16⟩, st16⟩ := Jvm.LawKit.callS X13 hx (y := (⟨"java/lang/String", "valueOf", "(C)Ljava/lang/String;"⟩ : MethodName)) hown (mvT hZ (hw _ (List.mem_of_getElem? (i := 30) rfl))) (mvT hZ (hw _ (List.mem_of_getElem? (i := 31) rfl))) (mvT hZ (hw _ (List.mem_of_getElem? (i := 3) rfl))) (mvT hZ (hw _ (List.mem_of_getElem? (i := 32) rfl))) (by decide) (backOf (W := 0) (rm4 l Z a0 hw [] (w0_3 p1) zc T13.heap n0 Zs13 (S_String_COMPACT_STRINGS.ext OL13.2) hz (own_chb p1)) hZ (hw _ (List.mem_of_getElem? (i := 32) rfl)) (hw _ (List.mem_of_getElem? (i := 3) rfl)) (by decide) (by decide)) (g := (mkF m 41 #[.val (.int p0), .val (.int p1), .val (.int p2), .val (.ref b2), .val (.ref b10), .unset, .unset, .unset, .unset, .unset, .unset, .unset, .unset, .unset, .unset, .unset] [(.int (w0_3 p1))])) rfl (by rw [hml]; rfl) (argsL := [(.int (w0_3 p1))]) (rest := []) (lenOf pd0_1 rfl) rfl (by show 2 * 0 + _ ≤ _; exact Nat.le_of_eq rfl) (hb hby at_41) (fun _ _ => ⟨rfl, rfl, (by decide : 3 + 2 ≤ 40), (by decide : 8 + 5 ≤ 1216)⟩)
  dsimp only [Pt.U, Pt.locs, Pt.cells, Pt.slots] at X16 l16 y16 z16 st16 hQ16
  subst l16 y16 z16
  obtain ⟨b16_8, b16_11_2, kn16_0, rfl, N16q, Kp16, lb_b16_8, lb_b16_11_2, ne_b16_8_b16_11_2, Fn16_0, Fn16_1, Fn16_2, Fn16_3⟩ := hQ16
  have N16 := Fr.app N13 N16q
  have g_b16_8 : n0 ≤ b16_8 := Nat.le_trans Zs13 lb_b16_8
  have ne_b2_b16_8 : b2 ≠ b16_8 := Nat.ne_of_lt (Nat.lt_of_lt_of_le V_b2__13.lt lb_b16_8)
  have ne_b10_b16_8 : b10 ≠ b16_8 := Nat.ne_of_lt (Nat.lt_of_lt_of_le Fn13_0.lt lb_b16_8)
  have ne_b13_5_10_2_b16_8 : b13_5_10_2 ≠ b16_8 := Nat.ne_of_lt (Nat.lt_of_lt_of_le Fn13_3.lt lb_b16_8)
  have g_b16_11_2 : n0 ≤ b16_11_2 := Nat.le_trans Zs13 lb_b16_11_2
  have ne_b2_b16_11_2 : b2 ≠ b16_11_2 := Nat.ne_of_lt (Nat.lt_of_lt_of_le V_b2__13.lt lb_b16_11_2)
  have ne_b10_b16_11_2 : b10 ≠ b16_11_2 := Nat.ne_of_lt (Nat.lt_of_lt_of_le Fn13_0.lt lb_b16_11_2)
  have ne_b13_5_10_2_b16_11_2 : b13_5_10_2 ≠ b16_11_2 := Nat.ne_of_lt (Nat.lt_of_lt_of_le Fn13_3.lt lb_b16_11_2)
  have OL16 := OL13.keep Kp16 all0
  have V_b2__16 := V_b2__13.keep Kp16 nin0
  have Fn13_0__16 := Fn13_0.keep Kp16
  have Fn13_2__16 := Fn13_2.keep Kp16 nin0
  have Fn13_1__16 := Fn13_1.keep Kp16 nin0
  have Fn13_3__16 := Fn13_3.keep Kp16 nin0
  have Zs16 : n0 ≤ T16.heap.size := Nat.le_trans Zs13 Kp16.1
  have K16 : ∀ t, Steps p.tables e below (T16.setTop (mkF m 44 #[.val (.int p0), .val (.int p1), .val (.int p2), .val (.ref b2), .val (.ref b10), .unset, .unset, .unset, .unset, .unset, .unset, .unset, .unset, .unset, .unset, .unset] [(.ref b16_8)])) t → Steps p.tables e below S0 t := fun t k => K_15 t (st16 t k)
  have K17 : ∀ t, Steps p.tables e below (T16.setTop (mkF m 49 #[.val (.int p0), .val (.int p1), .val (.int p2), .val (.ref b2), .val (.ref b10), .val (.ref b16_8), .unset, .unset, .unset, .unset, .unset, .unset, .unset, .unset, .unset, .unset] [(.int (p2 &&& (1 : Int32)))])) t → Steps p.tables e below S0 t := fun t k => K16 t (by
    refine XS.astore X16.here hx rfl (hb hby at_44) rfl rfl (l' := #[.val (.int p0), .val (.int p1), .val (.int p2), .val (.ref b2), .val (.ref b10), .val (.ref b16_8), .unset, .unset, .unset, .unset, .unset, .unset, .unset, .unset, .unset, .unset]) rfl ?_
    show Steps p.tables e below (T16.setTop (mkF m 46 #[.val (.int p0), .val (.int p1), .val (.int p2), .val (.ref b2), .val (.ref b10), .val (.ref b16_8), .unset, .unset, .unset, .unset, .unset, .unset, .unset, .unset, .unset, .unset] [])) _
    refine XS.iloadN X16.here hx rfl (hb hby at_46) rfl ?_
    show Steps p.tables e below (T16.setTop (mkF m 47 #[.val (.int p0), .val (.int p1), .val (.int p2), .val (.ref b2), .val (.ref b10), .val (.ref b16_8), .unset, .unset, .unset, .unset, .unset, .unset, .unset, .unset, .unset, .unset] [(.int p2)])) _
    refine XS.iconst X16.here hx rfl (hb hby at_47) ?_
    show Steps p.tables e below (T16.setTop (mkF m 48 #[.val (.int p0), .val (.int p1), .val (.int p2), .val (.ref b2), .val (.ref b10), .val (.ref b16_8), .unset, .unset, .unset, .unset, .unset, .unset, .unset, .unset, .unset, .unset] [(.int (1 : Int32)), (.int p2)])) _
    refine XS.iand X16.here hx rfl (hb hby at_48) rfl ?_
    show Steps p.tables e below (T16.setTop (mkF m 49 #[.val (.int p0), .val (.int p1), .val (.int p2), .val (.ref b2), .val (.ref b10), .val (.ref b16_8), .unset, .unset, .unset, .unset, .unset, .unset, .unset, .unset, .unset, .unset] [(.int (p2 &&& (1 : Int32)))])) _
    exact k)
  obtain ⟨T18, lo18, X18, N18, e18, K18⟩ : ∃ (T' : State) (locs' : List Loc), Stand p l e room_1 s m #[(.int p0), (.int p1), (.int p2)] below meth c T' locs' 5 13 ∧ Fr n0 locs' ∧ T'.heap = T16.heap ∧ ∀ t, Steps p.tables e below (T'.setTop (mkF m 57 #[.val (.int p0), .val (.int p1), .val (.int p2), .val (.ref b2), .val (.ref b10), .val (.ref b16_8), .unset, .unset, .unset, .unset, .unset, .unset, .unset, .unset, .unset, .unset] [(.int (w0_m4 p2))])) t → Steps p.tables e below S0 t := by
    by_cases hc49_0 : (p2 &&& (1 : Int32)) = (0 : Int32)
    · -- yes
      have K19 : ∀ t, Steps p.tables e below (T16.setTop (mkF m 57 #[.val (.int p0), .val (.int p1), .val (.int p2), .val (.ref b2), .val (.ref b10), .val (.ref b16_8), .unset, .unset, .unset, .unset, .unset, .unset, .unset, .unset, .unset, .unset] [(.int (0 : Int32))])) t → Steps p.tables e below S0 t := fun t k => K17 t (by
        refine XS.ifYes X16.here hx rfl (pc0 := 49) (pc' := 56) rfl (hb hby at_49) rfl (XT.i0_eq_t hc49_0) (by decide) (by decide) ?_
        show Steps p.tables e below (T16.setTop (mkF m 56 #[.val (.int p0), .val (.int p1), .val (.int p2), .val (.ref b2), .val (.ref b10), .val (.ref b16_8), .unset, .unset, .unset, .unset, .unset, .unset, .unset, .unset, .unset, .unset] [])) _
        refine XS.iconst X16.here hx rfl (hb hby at_56) ?_
        show Steps p.tables e below (T16.setTop (mkF m 57 #[.val (.int p0), .val (.int p1), .val (.int p2), .val (.ref b2), .val (.ref b10), .val (.ref b16_8), .unset, .unset, .unset, .unset, .unset, .unset, .unset, .unset, .unset, .unset] [(.int (0 : Int32))])) _
        exact k)
      have q20 : (w0_m4 p2) = (0 : Int32) := by unfold w0_m4; rw [if_pos hc49_0]
      exact ⟨T16, _, X16, N16, rfl, fun t k => K19 t (by rw [q20] at k; exact k)⟩
    · -- no
      have K21 : ∀ t, Steps p.tables e below (T16.setTop (mkF m 57 #[.val (.int p0), .val (.int p1), .val (.int p2), .val (.ref b2), .val (.ref b10), .val (.ref b16_8), .unset, .unset, .unset, .unset, .unset, .unset, .unset, .unset, .unset, .unset] [(.int (1 : Int32))])) t → Steps p.tables e below S0 t := fun t k => K17 t (by
        refine XS.ifNo X16.here hx rfl (hb hby at_49) rfl (XT.i0_eq_f hc49_0) ?_
        show Steps p.tables e below (T16.setTop (mkF m 52 #[.val (.int p0), .val (.int p1), .val (.int p2), .val (.ref b2), .val (.ref b10), .val (.ref b16_8), .unset, .unset, .unset, .unset, .unset, .unset, .unset, .unset, .unset, .unset] [])) _
        refine XS.iconst X16.here hx rfl (hb hby at_52) ?_
        show Steps p.tables e below (T16.setTop (mkF m 53 #[.val (.int p0), .val (.int p1), .val (.int p2), .val (.ref b2), .val (.ref b10), .val (.ref b16_8), .unset, .unset, .unset, .unset, .unset, .unset, .unset, .unset, .unset, .unset] [(.int (1 : Int32))])) _
        refine XS.goto X16.here hx rfl (pc0 := 53) (pc' := 57) rfl (hb hby at_53) (by decide) (by decide) ?_
        show Steps p.tables e below (T16.setTop (mkF m 57 #[.val (.int p0), .val (.int p1), .val (.int p2), .val (.ref b2), .val (.ref b10), .val (.ref b16_8), .unset, .unset, .unset, .unset, .unset, .unset, .unset, .unset, .unset, .unset] [(.int (1 : Int32))])) _
        exact k)
      have q22 : (w0_m4 p2) = (1 : Int32) := by unfold w0_m4; rw [if_neg hc49_0]
      exact ⟨T16, _, X16, N16, rfl, fun t k => K21 t (by rw [q22] at k; exact k)⟩
  have K23 : ∀ t, Steps p.tables e below (T18.setTop (mkF m 62 #[.val (.int p0), .val (.int p1), .val (.int p2), .val (.ref b2), .val (.ref b10), .val (.ref b16_8), .val (.int (w0_m4 p2)), .unset, .unset, .unset, .unset, .unset, .unset, .unset, .unset, .unset] [(.int (p2 &&& (2 : Int32)))])) t → Steps p.tables e below S0 t := fun t k => K18 t (by
    refine XS.istore X18.here hx rfl (hb hby at_57) rfl (l' := #[.val (.int p0), .val (.int p1), .val (.int p2), .val (.ref b2), .val (.ref b10), .val (.ref b16_8), .val (.int (w0_m4 p2)), .unset, .unset, .unset, .unset, .unset, .unset, .unset, .unset, .unset]) rfl ?_
    show Steps p.tables e below (T18.setTop (mkF m 59 #[.val (.int p0), .val (.int p1), .val (.int p2), .val (.ref b2), .val (.ref b10), .val (.ref b16_8), .val (.int (w0_m4 p2)), .unset, .unset, .unset, .unset, .unset, .unset, .unset, .unset, .unset] [])) _
    refine XS.iloadN X18.here hx rfl (hb hby at_59) rfl ?_
    show Steps p.tables e below (T18.setTop (mkF m 60 #[.val (.int p0), .val (.int p1), .val (.int p2), .val (.ref b2), .val (.ref b10), .val (.ref b16_8), .val (.int (w0_m4 p2)), .unset, .unset, .unset, .unset, .unset, .unset, .unset, .unset, .unset] [(.int p2)])) _
    refine XS.iconst X18.here hx rfl (hb hby at_60) ?_
    show Steps p.tables e below (T18.setTop (mkF m 61 #[.val (.int p0), .val (.int p1), .val (.int p2), .val (.ref b2), .val (.ref b10), .val (.ref b16_8), .val (.int (w0_m4 p2)), .unset, .unset, .unset, .unset, .unset, .unset, .unset, .unset, .unset] [(.int (2 : Int32)), (.int p2)])) _
    refine XS.iand X18.here hx rfl (hb hby at_61) rfl ?_
    show Steps p.tables e below (T18.setTop (mkF m 62 #[.val (.int p0), .val (.int p1), .val (.int p2), .val (.ref b2), .val (.ref b10), .val (.ref b16_8), .val (.int (w0_m4 p2)), .unset, .unset, .unset, .unset, .unset, .unset, .unset, .unset, .unset] [(.int (p2 &&& (2 : Int32)))])) _
    exact k)
  obtain ⟨T24, lo24, X24, N24, e24, K24⟩ : ∃ (T' : State) (locs' : List Loc), Stand p l e room_1 s m #[(.int p0), (.int p1), (.int p2)] below meth c T' locs' 5 13 ∧ Fr n0 locs' ∧ T'.heap = T16.heap ∧ ∀ t, Steps p.tables e below (T'.setTop (mkF m 70 #[.val (.int p0), .val (.int p1), .val (.int p2), .val (.ref b2), .val (.ref b10), .val (.ref b16_8), .val (.int (w0_m4 p2)), .unset, .unset, .unset, .unset, .unset, .unset, .unset, .unset, .unset] [(.int (w0_m5 p2))])) t → Steps p.tables e below S0 t := by
    by_cases hc62_0 : (p2 &&& (2 : Int32)) = (0 : Int32)
    · -- yes
      have K25 : ∀ t, Steps p.tables e below (T18.setTop (mkF m 70 #[.val (.int p0), .val (.int p1), .val (.int p2), .val (.ref b2), .val (.ref b10), .val (.ref b16_8), .val (.int (w0_m4 p2)), .unset, .unset, .unset, .unset, .unset, .unset, .unset, .unset, .unset] [(.int (0 : Int32))])) t → Steps p.tables e below S0 t := fun t k => K23 t (by
        refine XS.ifYes X18.here hx rfl (pc0 := 62) (pc' := 69) rfl (hb hby at_62) rfl (XT.i0_eq_t hc62_0) (by decide) (by decide) ?_
        show Steps p.tables e below (T18.setTop (mkF m 69 #[.val (.int p0), .val (.int p1), .val (.int p2), .val (.ref b2), .val (.ref b10), .val (.ref b16_8), .val (.int (w0_m4 p2)), .unset, .unset, .unset, .unset, .unset, .unset, .unset, .unset, .unset] [])) _
        refine XS.iconst X18.here hx rfl (hb hby at_69) ?_
        show Steps p.tables e below (T18.setTop (mkF m 70 #[.val (.int p0), .val (.int p1), .val (.int p2), .val (.ref b2), .val (.ref b10), .val (.ref b16_8), .val (.int (w0_m4 p2)), .unset, .unset, .unset, .unset, .unset, .unset, .unset, .unset, .unset] [(.int (0 : Int32))])) _
        exact k)
      have q26 : (w0_m5 p2) = (0 : Int32) := by unfold w0_m5; rw [if_pos hc62_0]
      exact ⟨T18, _, X18, N18, e18, fun t k => K25 t (by rw [q26] at k; exact k)⟩
    · -- no
      have K27 : ∀ t, Steps p.tables e below (T18.setTop (mkF m 70 #[.val (.int p0), .val (.int p1), .val (.int p2), .val (.ref b2), .val (.ref b10), .val (.ref b16_8), .val (.int (w0_m4 p2)), .unset, .unset, .unset, .unset, .unset, .unset, .unset, .unset, .unset] [(.int (1 : Int32))])) t → Steps p.tables e below S0 t := fun t k => K23 t (by
        refine XS.ifNo X18.here hx rfl (hb hby at_62) rfl (XT.i0_eq_f hc62_0) ?_
        show Steps p.tables e below (T18.setTop (mkF m 65 #[.val (.int p0), .val (.int p1), .val (.int p2), .val (.ref b2), .val (.ref b10), .val (.ref b16_8), .val (.int (w0_m4 p2)), .unset, .unset, .unset, .unset, .unset, .unset, .unset, .unset, .unset] [])) _
        refine XS.iconst X18.here hx rfl (hb hby at_65) ?_
        show Steps p.tables e below (T18.setTop (mkF m 66 #[.val (.int p0), .val (.int p1), .val (.int p2), .val (.ref b2), .val (.ref b10), .val (.ref b16_8), .val (.int (w0_m4 p2)), .unset, .unset, .unset, .unset, .unset, .unset, .unset, .unset, .unset] [(.int (1 : Int32))])) _
        refine XS.goto X18.here hx rfl (pc0 := 66) (pc' := 70) rfl (hb hby at_66) (by decide) (by decide) ?_
        show Steps p.tables e below (T18.setTop (mkF m 70 #[.val (.int p0), .val (.int p1), .val (.int p2), .val (.ref b2), .val (.ref b10), .val (.ref b16_8), .val (.int (w0_m4 p2)), .unset, .unset, .unset, .unset, .unset, .unset, .unset, .unset, .unset] [(.int (1 : Int32))])) _
        exact k)
      have q28 : (w0_m5 p2) = (1 : Int32) := by unfold w0_m5; rw [if_neg hc62_0]
      exact ⟨T18, _, X18, N18, e18, fun t k => K27 t (by rw [q28] at k; exact k)⟩
  have K29 : ∀ t, Steps p.tables e below (T24.setTop (mkF m 75 #[.val (.int p0), .val (.int p1), .val (.int p2), .val (.ref b2), .val (.ref b10), .val (.ref b16_8), .val (.int (w0_m4 p2)), .val (.int (w0_m5 p2)), .unset, .unset, .unset, .unset, .unset, .unset, .unset, .unset] [(.int (p2 &&& (4 : Int32)))])) t → Steps p.tables e below S0 t := fun t k => K24 t (by
    refine XS.istore X24.here hx rfl (hb hby at_70) rfl (l' := #[.val (.int p0), .val (.int p1), .val (.int p2), .val (.ref b2), .val (.ref b10), .val (.ref b16_8), .val (.int (w0_m4 p2)), .val (.int (w0_m5 p2)), .unset, .unset, .unset, .unset, .unset, .unset, .unset, .unset]) rfl ?_
    show Steps p.tables e below (T24.setTop (mkF m 72 #[.val (.int p0), .val (.int p1), .val (.int p2), .val (.ref b2), .val (.ref b10), .val (.ref b16_8), .val (.int (w0_m4 p2)), .val (.int (w0_m5 p2)), .unset, .unset, .unset, .unset, .unset, .unset, .unset, .unset] [])) _
    refine XS.iloadN X24.here hx rfl (hb hby at_72) rfl ?_
    show Steps p.tables e below (T24.setTop (mkF m 73 #[.val (.int p0), .val (.int p1), .val (.int p2), .val (.ref b2), .val (.ref b10), .val (.ref b16_8), .val (.int (w0_m4 p2)), .val (.int (w0_m5 p2)), .unset, .unset, .unset, .unset, .unset, .unset, .unset, .unset] [(.int p2)])) _
    refine XS.iconst X24.here hx rfl (hb hby at_73) ?_
    show Steps p.tables e below (T24.setTop (mkF m 74 #[.val (.int p0), .val (.int p1), .val (.int p2), .val (.ref b2), .val (.ref b10), .val (.ref b16_8), .val (.int (w0_m4 p2)), .val (.int (w0_m5 p2)), .unset, .unset, .unset, .unset, .unset, .unset, .unset, .unset] [(.int (4 : Int32)), (.int p2)])) _
    refine XS.iand X24.here hx rfl (hb hby at_74) rfl ?_
    show Steps p.tables e below (T24.setTop (mkF m 75 #[.val (.int p0), .val (.int p1), .val (.int p2), .val (.ref b2), .val (.ref b10), .val (.ref b16_8), .val (.int (w0_m4 p2)), .val (.int (w0_m5 p2)), .unset, .unset, .unset, .unset, .unset, .unset, .unset, .unset] [(.int (p2 &&& (4 : Int32)))])) _
    exact k)
  obtain ⟨T30, lo30, X30, N30, e30, K30⟩ : ∃ (T' : State) (locs' : List Loc), Stand p l e room_1 s m #[(.int p0), (.int p1), (.int p2)] below meth c T' locs' 5 13 ∧ Fr n0 locs' ∧ T'.heap = T16.heap ∧ ∀ t, Steps p.tables e below (T'.setTop (mkF m 83 #[.val (.int p0), .val (.int p1), .val (.int p2), .val (.ref b2), .val (.ref b10), .val (.ref b16_8), .val (.int (w0_m4 p2)), .val (.int (w0_m5 p2)), .unset, .unset, .unset, .unset, .unset, .unset, .unset, .unset] [(.int (w0_m6 p2))])) t → Steps p.tables e below S0 t := by
    by_cases hc75_0 : (p2 &&& (4 : Int32)) = (0 : Int32)
    · -- yes
      have K31 : ∀ t, Steps p.tables e below (T24.setTop (mkF m 83 #[.val (.int p0), .val (.int p1), .val (.int p2), .val (.ref b2), .val (.ref b10), .val (.ref b16_8), .val (.int (w0_m4 p2)), .val (.int (w0_m5 p2)), .unset, .unset, .unset, .unset, .unset, .unset, .unset, .unset] [(.int (0 : Int32))])) t → Steps p.tables e below S0 t := fun t k => K29 t (by
        refine XS.ifYes X24.here hx rfl (pc0 := 75) (pc' := 82) rfl (hb hby at_75) rfl (XT.i0_eq_t hc75_0) (by decide) (by decide) ?_
        show Steps p.tables e below (T24.setTop (mkF m 82 #[.val (.int p0), .val (.int p1), .val (.int p2), .val (.ref b2), .val (.ref b10), .val (.ref b16_8), .val (.int (w0_m4 p2)), .val (.int (w0_m5 p2)), .unset, .unset, .unset, .unset, .unset, .unset, .unset, .unset] [])) _
        refine XS.iconst X24.here hx rfl (hb hby at_82) ?_
        show Steps p.tables e below (T24.setTop (mkF m 83 #[.val (.int p0), .val (.int p1), .val (.int p2), .val (.ref b2), .val (.ref b10), .val (.ref b16_8), .val (.int (w0_m4 p2)), .val (.int (w0_m5 p2)), .unset, .unset, .unset, .unset, .unset, .unset, .unset, .unset] [(.int (0 : Int32))])) _
        exact k)
      have q32 : (w0_m6 p2) = (0 : Int32) := by unfold w0_m6; rw [if_pos hc75_0]
      exact ⟨T24, _, X24, N24, e24, fun t k => K31 t (by rw [q32] at k; exact k)⟩
    · -- no
      have K33 : ∀ t, Steps p.tables e below (T24.setTop (mkF m 83 #[.val (.int p0), .val (.int p1), .val (.int p2), .val (.ref b2), .val (.ref b10), .val (.ref b16_8), .val (.int (w0_m4 p2)), .val (.int (w0_m5 p2)), .unset, .unset, .unset, .unset, .unset, .unset, .unset, .unset] [(.int (1 : Int32))])) t → Steps p.tables e below S0 t := fun t k => K29 t (by
        refine XS.ifNo X24.here hx rfl (hb hby at_75) rfl (XT.i0_eq_f hc75_0) ?_
        show Steps p.tables e below (T24.setTop (mkF m 78 #[.val (.int p0), .val (.int p1), .val (.int p2), .val (.ref b2), .val (.ref b10), .val (.ref b16_8), .val (.int (w0_m4 p2)), .val (.int (w0_m5 p2)), .unset, .unset, .unset, .unset, .unset, .unset, .unset, .unset] [])) _
        refine XS.iconst X24.here hx rfl (hb hby at_78) ?_
        show Steps p.tables e below (T24.setTop (mkF m 79 #[.val (.int p0), .val (.int p1), .val (.int p2), .val (.ref b2), .val (.ref b10), .val (.ref b16_8), .val (.int (w0_m4 p2)), .val (.int (w0_m5 p2)), .unset, .unset, .unset, .unset, .unset, .unset, .unset, .unset] [(.int (1 : Int32))])) _
        refine XS.goto X24.here hx rfl (pc0 := 79) (pc' := 83) rfl (hb hby at_79) (by decide) (by decide) ?_
        show Steps p.tables e below (T24.setTop (mkF m 83 #[.val (.int p0), .val (.int p1), .val (.int p2), .val (.ref b2), .val (.ref b10), .val (.ref b16_8), .val (.int (w0_m4 p2)), .val (.int (w0_m5 p2)), .unset, .unset, .unset, .unset, .unset, .unset, .unset, .unset] [(.int (1 : Int32))])) _
        exact k)
      have q34 : (w0_m6 p2) = (1 : Int32) := by unfold w0_m6; rw [if_neg hc75_0]
      exact ⟨T24, _, X24, N24, e24, fun t k => K33 t (by rw [q34] at k; exact k)⟩
  have K35 : ∀ t, Steps p.tables e below (T30.setTop (mkF m 89 #[.val (.int p0), .val (.int p1), .val (.int p2), .val (.ref b2), .val (.ref b10), .val (.ref b16_8), .val (.int (w0_m4 p2)), .val (.int (w0_m5 p2)), .val (.int (w0_m6 p2)), .unset, .unset, .unset, .unset, .unset, .unset, .unset] [(.int (p2 &&& (8 : Int32)))])) t → Steps p.tables e below S0 t := fun t k => K30 t (by
    refine XS.istore X30.here hx rfl (hb hby at_83) rfl (l' := #[.val (.int p0), .val (.int p1), .val (.int p2), .val (.ref b2), .val (.ref b10), .val (.ref b16_8), .val (.int (w0_m4 p2)), .val (.int (w0_m5 p2)), .val (.int (w0_m6 p2)), .unset, .unset, .unset, .unset, .unset, .unset, .unset]) rfl ?_
    show Steps p.tables e below (T30.setTop (mkF m 85 #[.val (.int p0), .val (.int p1), .val (.int p2), .val (.ref b2), .val (.ref b10), .val (.ref b16_8), .val (.int (w0_m4 p2)), .val (.int (w0_m5 p2)), .val (.int (w0_m6 p2)), .unset, .unset, .unset, .unset, .unset, .unset, .unset] [])) _
    refine XS.iloadN X30.here hx rfl (hb hby at_85) rfl ?_
    show Steps p.tables e below (T30.setTop (mkF m 86 #[.val (.int p0), .val (.int p1), .val (.int p2), .val (.ref b2), .val (.ref b10), .val (.ref b16_8), .val (.int (w0_m4 p2)), .val (.int (w0_m5 p2)), .val (.int (w0_m6 p2)), .unset, .unset, .unset, .unset, .unset, .unset, .unset] [(.int p2)])) _
    refine XS.bipush X30.here hx rfl (hb hby at_86) ?_
    show Steps p.tables e below (T30.setTop (mkF m 88 #[.val (.int p0), .val (.int p1), .val (.int p2), .val (.ref b2), .val (.ref b10), .val (.ref b16_8), .val (.int (w0_m4 p2)), .val (.int (w0_m5 p2)), .val (.int (w0_m6 p2)), .unset, .unset, .unset, .unset, .unset, .unset, .unset] [(.int (8 : Int32)), (.int p2)])) _
    refine XS.iand X30.here hx rfl (hb hby at_88) rfl ?_
    show Steps p.tables e below (T30.setTop (mkF m 89 #[.val (.int p0), .val (.int p1), .val (.int p2), .val (.ref b2), .val (.ref b10), .val (.ref b16_8), .val (.int (w0_m4 p2)), .val (.int (w0_m5 p2)), .val (.int (w0_m6 p2)), .unset, .unset, .unset, .unset, .unset, .unset, .unset] [(.int (p2 &&& (8 : Int32)))])) _
    exact k)
  obtain ⟨T36, lo36, X36, N36, e36, K36⟩ : ∃ (T' : State) (locs' : List Loc), Stand p l e room_1 s m #[(.int p0), (.int p1), (.int p2)] below meth c T' locs' 5 13 ∧ Fr n0 locs' ∧ T'.heap = T16.heap ∧ ∀ t, Steps p.tables e below (T'.setTop (mkF m 97 #[.val (.int p0), .val (.int p1), .val (.int p2), .val (.ref b2), .val (.ref b10), .val (.ref b16_8), .val (.int (w0_m4 p2)), .val (.int (w0_m5 p2)), .val (.int (w0_m6 p2)), .unset, .unset, .unset, .unset, .unset, .unset, .unset] [(.int (w0_m7 p2))])) t → Steps p.tables e below S0 t := by
    by_cases hc89_0 : (p2 &&& (8 : Int32)) = (0 : Int32)
    · -- yes
      have K37 : ∀ t, Steps p.tables e below (T30.setTop (mkF m 97 #[.val (.int p0), .val (.int p1), .val (.int p2), .val (.ref b2), .val (.ref b10), .val (.ref b16_8), .val (.int (w0_m4 p2)), .val (.int (w0_m5 p2)), .val (.int (w0_m6 p2)), .unset, .unset, .unset, .unset, .unset, .unset, .unset] [(.int (0 : Int32))])) t → Steps p.tables e below S0 t := fun t k => K35 t (by
        refine XS.ifYes X30.here hx rfl (pc0 := 89) (pc' := 96) rfl (hb hby at_89) rfl (XT.i0_eq_t hc89_0) (by decide) (by decide) ?_
        show Steps p.tables e below (T30.setTop (mkF m 96 #[.val (.int p0), .val (.int p1), .val (.int p2), .val (.ref b2), .val (.ref b10), .val (.ref b16_8), .val (.int (w0_m4 p2)), .val (.int (w0_m5 p2)), .val (.int (w0_m6 p2)), .unset, .unset, .unset, .unset, .unset, .unset, .unset] [])) _
        refine XS.iconst X30.here hx rfl (hb hby at_96) ?_
        show Steps p.tables e below (T30.setTop (mkF m 97 #[.val (.int p0), .val (.int p1), .val (.int p2), .val (.ref b2), .val (.ref b10), .val (.ref b16_8), .val (.int (w0_m4 p2)), .val (.int (w0_m5 p2)), .val (.int (w0_m6 p2)), .unset, .unset, .unset, .unset, .unset, .unset, .unset] [(.int (0 : Int32))])) _
        exact k)
      have q38 : (w0_m7 p2) = (0 : Int32) := by unfold w0_m7; rw [if_pos hc89_0]
      exact ⟨T30, _, X30, N30, e30, fun t k => K37 t (by rw [q38] at k; exact k)⟩
    · -- no
      have K39 : ∀ t, Steps p.tables e below (T30.setTop (mkF m 97 #[.val (.int p0), .val (.int p1), .val (.int p2), .val (.ref b2), .val (.ref b10), .val (.ref b16_8), .val (.int (w0_m4 p2)), .val (.int (w0_m5 p2)), .val (.int (w0_m6 p2)), .unset, .unset, .unset, .unset, .unset, .unset, .unset] [(.int (1 : Int32))])) t → Steps p.tables e below S0 t := fun t k => K35 t (by
        refine XS.ifNo X30.here hx rfl (hb hby at_89) rfl (XT.i0_eq_f hc89_0) ?_
        show Steps p.tables e below (T30.setTop (mkF m 92 #[.val (.int p0), .val (.int p1), .val (.int p2), .val (.ref b2), .val (.ref b10), .val (.ref b16_8), .val (.int (w0_m4 p2)), .val (.int (w0_m5 p2)), .val (.int (w0_m6 p2)), .unset, .unset, .unset, .unset, .unset, .unset, .unset] [])) _
        refine XS.iconst X30.here hx rfl (hb hby at_92) ?_
        show Steps p.tables e below (T30.setTop (mkF m 93 #[.val (.int p0), .val (.int p1), .val (.int p2), .val (.ref b2), .val (.ref b10), .val (.ref b16_8), .val (.int (w0_m4 p2)), .val (.int (w0_m5 p2)), .val (.int (w0_m6 p2)), .unset, .unset, .unset, .unset, .unset, .unset, .unset] [(.int (1 : Int32))])) _
        refine XS.goto X30.here hx rfl (pc0 := 93) (pc' := 97) rfl (hb hby at_93) (by decide) (by decide) ?_
        show Steps p.tables e below (T30.setTop (mkF m 97 #[.val (.int p0), .val (.int p1), .val (.int p2), .val (.ref b2), .val (.ref b10), .val (.ref b16_8), .val (.int (w0_m4 p2)), .val (.int (w0_m5 p2)), .val (.int (w0_m6 p2)), .unset, .unset, .unset, .unset, .unset, .unset, .unset] [(.int (1 : Int32))])) _
        exact k)
      have q40 : (w0_m7 p2) = (1 : Int32) := by unfold w0_m7; rw [if_neg hc89_0]
      exact ⟨T30, _, X30, N30, e30, fun t k => K39 t (by rw [q40] at k; exact k)⟩
  have K41 : ∀ t, Steps p.tables e below (T36.setTop (mkF m 103 #[.val (.int p0), .val (.int p1), .val (.int p2), .val (.ref b2), .val (.ref b10), .val (.ref b16_8), .val (.int (w0_m4 p2)), .val (.int (w0_m5 p2)), .val (.int (w0_m6 p2)), .val (.int (w0_m7 p2)), .unset, .unset, .unset, .unset, .unset, .unset] [(.int (p2 &&& (64 : Int32)))])) t → Steps p.tables e below S0 t := fun t k => K36 t (by
    refine XS.istore X36.here hx rfl (hb hby at_97) rfl (l' := #[.val (.int p0), .val (.int p1), .val (.int p2), .val (.ref b2), .val (.ref b10), .val (.ref b16_8), .val (.int (w0_m4 p2)), .val (.int (w0_m5 p2)), .val (.int (w0_m6 p2)), .val (.int (w0_m7 p2)), .unset, .unset, .unset, .unset, .unset, .unset]) rfl ?_
    show Steps p.tables e below (T36.setTop (mkF m 99 #[.val (.int p0), .val (.int p1), .val (.int p2), .val (.ref b2), .val (.ref b10), .val (.ref b16_8), .val (.int (w0_m4 p2)), .val (.int (w0_m5 p2)), .val (.int (w0_m6 p2)), .val (.int (w0_m7 p2)), .unset, .unset, .unset, .unset, .unset, .unset] [])) _
    refine XS.iloadN X36.here hx rfl (hb hby at_99) rfl ?_
    show Steps p.tables e below (T36.setTop (mkF m 100 #[.val (.int p0), .val (.int p1), .val (.int p2), .val (.ref b2), .val (.ref b10), .val (.ref b16_8), .val (.int (w0_m4 p2)), .val (.int (w0_m5 p2)), .val (.int (w0_m6 p2)), .val (.int (w0_m7 p2)), .unset, .unset, .unset, .unset, .unset, .unset] [(.int p2)])) _
    refine XS.bipush X36.here hx rfl (hb hby at_100) ?_
    show Steps p.tables e below (T36.setTop (mkF m 102 #[.val (.int p0), .val (.int p1), .val (.int p2), .val (.ref b2), .val (.ref b10), .val (.ref b16_8), .val (.int (w0_m4 p2)), .val (.int (w0_m5 p2)), .val (.int (w0_m6 p2)), .val (.int (w0_m7 p2)), .unset, .unset, .unset, .unset, .unset, .unset] [(.int (64 : Int32)), (.int p2)])) _
    refine XS.iand X36.here hx rfl (hb hby at_102) rfl ?_
    show Steps p.tables e below (T36.setTop (mkF m 103 #[.val (.int p0), .val (.int p1), .val (.int p2), .val (.ref b2), .val (.ref b10), .val (.ref b16_8), .val (.int (w0_m4 p2)), .val (.int (w0_m5 p2)), .val (.int (w0_m6 p2)), .val (.int (w0_m7 p2)), .unset, .unset, .unset, .unset, .unset, .unset] [(.int (p2 &&& (64 : Int32)))])) _
    exact k)
  obtain ⟨T42, lo42, X42, N42, e42, K42⟩ : ∃ (T' : State) (locs' : List Loc), Stand p l e room_1 s m #[(.int p0), (.int p1), (.int p2)] below meth c T' locs' 5 13 ∧ Fr n0 locs' ∧ T'.heap = T16.heap ∧ ∀ t, Steps p.tables e below (T'.setTop (mkF m 111 #[.val (.int p0), .val (.int p1), .val (.int p2), .val (.ref b2), .val (.ref b10), .val (.ref b16_8), .val (.int (w0_m4 p2)), .val (.int (w0_m5 p2)), .val (.int (w0_m6 p2)), .val (.int (w0_m7 p2)), .unset, .unset, .unset, .unset, .unset, .unset] [(.int (w0_m8 p2))])) t → Steps p.tables e below S0 t := by
    by_cases hc103_0 : (p2 &&& (64 : Int32)) = (0 : Int32)
    · -- yes
      have K43 : ∀ t, Steps p.tables e below (T36.setTop (mkF m 111 #[.val (.int p0), .val (.int p1), .val (.int p2), .val (.ref b2), .val (.ref b10), .val (.ref b16_8), .val (.int (w0_m4 p2)), .val (.int (w0_m5 p2)), .val (.int (w0_m6 p2)), .val (.int (w0_m7 p2)), .unset, .unset, .unset, .unset, .unset, .unset] [(.int (0 : Int32))])) t → Steps p.tables e below S0 t := fun t k => K41 t (by
        refine XS.ifYes X36.here hx rfl (pc0 := 103) (pc' := 110) rfl (hb hby at_103) rfl (XT.i0_eq_t hc103_0) (by decide) (by decide) ?_
        show Steps p.tables e below (T36.setTop (mkF m 110 #[.val (.int p0), .val (.int p1), .val (.int p2), .val (.ref b2), .val (.ref b10), .val (.ref b16_8), .val (.int (w0_m4 p2)), .val (.int (w0_m5 p2)), .val (.int (w0_m6 p2)), .val (.int (w0_m7 p2)), .unset, .unset, .unset, .unset, .unset, .unset] [])) _
        refine XS.iconst X36.here hx rfl (hb hby at_110) ?_
        show Steps p.tables e below (T36.setTop (mkF m 111 #[.val (.int p0), .val (.int p1), .val (.int p2), .val (.ref b2), .val (.ref b10), .val (.ref b16_8), .val (.int (w0_m4 p2)), .val (.int (w0_m5 p2)), .val (.int (w0_m6 p2)), .val (.int (w0_m7 p2)), .unset, .unset, .unset, .unset, .unset, .unset] [(.int (0 : Int32))])) _
        exact k)
      have q44 : (w0_m8 p2) = (0 : Int32) := by unfold w0_m8; rw [if_pos hc103_0]
      exact ⟨T36, _, X36, N36, e36, fun t k => K43 t (by rw [q44] at k; exact k)⟩
    · -- no
      have K45 : ∀ t, Steps p.tables e below (T36.setTop (mkF m 111 #[.val (.int p0), .val (.int p1), .val (.int p2), .val (.ref b2), .val (.ref b10), .val (.ref b16_8), .val (.int (w0_m4 p2)), .val (.int (w0_m5 p2)), .val (.int (w0_m6 p2)), .val (.int (w0_m7 p2)), .unset, .unset, .unset, .unset, .unset, .unset] [(.int (1 : Int32))])) t → Steps p.tables e below S0 t := fun t k => K41 t (by
        refine XS.ifNo X36.here hx rfl (hb hby at_103) rfl (XT.i0_eq_f hc103_0) ?_
        show Steps p.tables e below (T36.setTop (mkF m 106 #[.val (.int p0), .val (.int p1), .val (.int p2), .val (.ref b2), .val (.ref b10), .val (.ref b16_8), .val (.int (w0_m4 p2)), .val (.int (w0_m5 p2)), .val (.int (w0_m6 p2)), .val (.int (w0_m7 p2)), .unset, .unset, .unset, .unset, .unset, .unset] [])) _
        refine XS.iconst X36.here hx rfl (hb hby at_106) ?_
        show Steps p.tables e below (T36.setTop (mkF m 107 #[.val (.int p0), .val (.int p1), .val (.int p2), .val (.ref b2), .val (.ref b10), .val (.ref b16_8), .val (.int (w0_m4 p2)), .val (.int (w0_m5 p2)), .val (.int (w0_m6 p2)), .val (.int (w0_m7 p2)), .unset, .unset, .unset, .unset, .unset, .unset] [(.int (1 : Int32))])) _
        refine XS.goto X36.here hx rfl (pc0 := 107) (pc' := 111) rfl (hb hby at_107) (by decide) (by decide) ?_
        show Steps p.tables e below (T36.setTop (mkF m 111 #[.val (.int p0), .val (.int p1), .val (.int p2), .val (.ref b2), .val (.ref b10), .val (.ref b16_8), .val (.int (w0_m4 p2)), .val (.int (w0_m5 p2)), .val (.int (w0_m6 p2)), .val (.int (w0_m7 p2)), .unset, .unset, .unset, .unset, .unset, .unset] [(.int (1 : Int32))])) _
        exact k)
      have q46 : (w0_m8 p2) = (1 : Int32) := by unfold w0_m8; rw [if_neg hc103_0]
      exact ⟨T36, _, X36, N36, e36, fun t k => K45 t (by rw [q46] at k; exact k)⟩
  have K47 : ∀ t, Steps p.tables e below (T42.setTop (mkF m 115 #[.val (.int p0), .val (.int p1), .val (.int p2), .val (.ref b2), .val (.ref b10), .val (.ref b16_8), .val (.int (w0_m4 p2)), .val (.int (w0_m5 p2)), .val (.int (w0_m6 p2)), .val (.int (w0_m7 p2)), .val (.int (w0_m8 p2)), .unset, .unset, .unset, .unset, .unset] [(.int (w0_m4 p2))])) t → Steps p.tables e below S0 t := fun t k => K42 t (by
    refine XS.istore X42.here hx rfl (hb hby at_111) rfl (l' := #[.val (.int p0), .val (.int p1), .val (.int p2), .val (.ref b2), .val (.ref b10), .val (.ref b16_8), .val (.int (w0_m4 p2)), .val (.int (w0_m5 p2)), .val (.int (w0_m6 p2)), .val (.int (w0_m7 p2)), .val (.int (w0_m8 p2)), .unset, .unset, .unset, .unset, .unset]) rfl ?_
    show Steps p.tables e below (T42.setTop (mkF m 113 #[.val (.int p0), .val (.int p1), .val (.int p2), .val (.ref b2), .val (.ref b10), .val (.ref b16_8), .val (.int (w0_m4 p2)), .val (.int (w0_m5 p2)), .val (.int (w0_m6 p2)), .val (.int (w0_m7 p2)), .val (.int (w0_m8 p2)), .unset, .unset, .unset, .unset, .unset] [])) _
    refine XS.iload X42.here hx rfl (hb hby at_113) rfl ?_
    show Steps p.tables e below (T42.setTop (mkF m 115 #[.val (.int p0), .val (.int p1), .val (.int p2), .val (.ref b2), .val (.ref b10), .val (.ref b16_8), .val (.int (w0_m4 p2)), .val (.int (w0_m5 p2)), .val (.int (w0_m6 p2)), .val (.int (w0_m7 p2)), .val (.int (w0_m8 p2)), .unset, .unset, .unset, .unset, .unset] [(.int (w0_m4 p2))])) _
    exact k)
  obtain ⟨T48, vm48, kk48, lo48, s48_l11, s48_l12, X48, N48, hS48, Zk48, Zs48, hZ, hown, OL48, o_s48_l11, o_s48_l12, K48⟩ : ∃ (T' : State) (vm0 : Vm) (k0 : Nat) (locs' : List Loc) (s48_l11 : Slot) (s48_l12 : Slot), Stand p l e room_1 (s.setVm vm0) m #[(.int p0), (.int p1), (.int p2)] below meth c T' locs' 12 36 ∧ Fr n0 locs' ∧ s.Since vm0 k0 ∧ k0 ≤ T'.heap.size ∧ n0 ≤ T'.heap.size ∧ Z.Warmed39 (s.setVm vm0).vm ∧ (s.setVm vm0).vm.findClass "biaxial/cli/OperandIsSwitchPinLaw" = some m.cls ∧ Old Z n0 T'.heap ∧ One s48_l11 ∧ One s48_l12 ∧ ∀ t, Steps p.tables e below (T'.setTop (mkF m 213 #[.val (.int p0), .val (.int p1), .val (.int p2), .val (.ref b2), .val (.ref b10), .val (.ref b16_8), .val (.int (w0_m4 p2)), .val (.int (w0_m5 p2)), .val (.int (w0_m6 p2)), .val (.int (w0_m7 p2)), .val (.int (w0_m8 p2)), s48_l11, s48_l12, .unset, .unset, .unset] [])) t → Steps p.tables e below S0 t := by
    by_cases hc115_0 : (w0_m4 p2) = (0 : Int32)
    · -- yes
      have K49 : ∀ t, Steps p.tables e below (T42.setTop (mkF m 124 #[.val (.int p0), .val (.int p1), .val (.int p2), .val (.ref b2), .val (.ref b10), .val (.ref b16_8), .val (.int (w0_m4 p2)), .val (.int (w0_m5 p2)), .val (.int (w0_m6 p2)), .val (.int (w0_m7 p2)), .val (.int (w0_m8 p2)), .unset, .unset, .unset, .unset, .unset] [(.int (w0_m8 p2))])) t → Steps p.tables e below S0 t := fun t k => K47 t (by
        refine XS.ifYes X42.here hx rfl (pc0 := 115) (pc' := 122) rfl (hb hby at_115) rfl (XT.i0_eq_t hc115_0) (by decide) (by decide) ?_
        show Steps p.tables e below (T42.setTop (mkF m 122 #[.val (.int p0), .val (.int p1), .val (.int p2), .val (.ref b2), .val (.ref b10), .val (.ref b16_8), .val (.int (w0_m4 p2)), .val (.int (w0_m5 p2)), .val (.int (w0_m6 p2)), .val (.int (w0_m7 p2)), .val (.int (w0_m8 p2)), .unset, .unset, .unset, .unset, .unset] [])) _
        refine XS.iload X42.here hx rfl (hb hby at_122) rfl ?_
        show Steps p.tables e below (T42.setTop (mkF m 124 #[.val (.int p0), .val (.int p1), .val (.int p2), .val (.ref b2), .val (.ref b10), .val (.ref b16_8), .val (.int (w0_m4 p2)), .val (.int (w0_m5 p2)), .val (.int (w0_m6 p2)), .val (.int (w0_m7 p2)), .val (.int (w0_m8 p2)), .unset, .unset, .unset, .unset, .unset] [(.int (w0_m8 p2))])) _
        exact k)
      by_cases hc124_1 : (w0_m8 p2) = (0 : Int32)
      · -- yes
        have K50 : ∀ t, Steps p.tables e below (T42.setTop (mkF m 144 #[.val (.int p0), .val (.int p1), .val (.int p2), .val (.ref b2), .val (.ref b10), .val (.ref b16_8), .val (.int (w0_m4 p2)), .val (.int (w0_m5 p2)), .val (.int (w0_m6 p2)), .val (.int (w0_m7 p2)), .val (.int (w0_m8 p2)), .val (.ref b10), .unset, .unset, .unset, .unset] [])) t → Steps p.tables e below S0 t := fun t k => K49 t (by
          refine XS.ifYes X42.here hx rfl (pc0 := 124) (pc' := 140) rfl (hb hby at_124) rfl (XT.i0_eq_t hc124_1) (by decide) (by decide) ?_
          show Steps p.tables e below (T42.setTop (mkF m 140 #[.val (.int p0), .val (.int p1), .val (.int p2), .val (.ref b2), .val (.ref b10), .val (.ref b16_8), .val (.int (w0_m4 p2)), .val (.int (w0_m5 p2)), .val (.int (w0_m6 p2)), .val (.int (w0_m7 p2)), .val (.int (w0_m8 p2)), .unset, .unset, .unset, .unset, .unset] [])) _
          refine XS.aload X42.here hx rfl (hb hby at_140) rfl rfl ?_
          show Steps p.tables e below (T42.setTop (mkF m 142 #[.val (.int p0), .val (.int p1), .val (.int p2), .val (.ref b2), .val (.ref b10), .val (.ref b16_8), .val (.int (w0_m4 p2)), .val (.int (w0_m5 p2)), .val (.int (w0_m6 p2)), .val (.int (w0_m7 p2)), .val (.int (w0_m8 p2)), .unset, .unset, .unset, .unset, .unset] [(.ref b10)])) _
          refine XS.astore X42.here hx rfl (hb hby at_142) rfl rfl (l' := #[.val (.int p0), .val (.int p1), .val (.int p2), .val (.ref b2), .val (.ref b10), .val (.ref b16_8), .val (.int (w0_m4 p2)), .val (.int (w0_m5 p2)), .val (.int (w0_m6 p2)), .val (.int (w0_m7 p2)), .val (.int (w0_m8 p2)), .val (.ref b10), .unset, .unset, .unset, .unset]) rfl ?_
          show Steps p.tables e below (T42.setTop (mkF m 144 #[.val (.int p0), .val (.int p1), .val (.int p2), .val (.ref b2), .val (.ref b10), .val (.ref b16_8), .val (.int (w0_m4 p2)), .val (.int (w0_m5 p2)), .val (.int (w0_m6 p2)), .val (.int (w0_m7 p2)), .val (.int (w0_m8 p2)), .val (.ref b10), .unset, .unset, .unset, .unset] [])) _
          exact k)
        obtain ⟨T51, h51, X51, e51, E51, A51, D51, -, st51⟩ := newO X42 hx hZ hown (hw _ (List.mem_of_getElem? (i := 44) rfl)) (hw _ (List.mem_of_getElem? (i := 45) rfl)) (hw _ (List.mem_of_getElem? (i := 46) rfl)) e42 (g := (mkF m 144 #[.val (.int p0), .val (.int p1), .val (.int p2), .val (.ref b2), .val (.ref b10), .val (.ref b16_8), .val (.int (w0_m4 p2)), .val (.int (w0_m5 p2)), .val (.int (w0_m6 p2)), .val (.int (w0_m7 p2)), .val (.int (w0_m8 p2)), .val (.ref b10), .unset, .unset, .unset, .unset] [])) rfl (hb hby at_144) (by decide) (by decide)
        obtain ⟨b51, g51⟩ : ∃ z, z = T16.heap.size := ⟨_, rfl⟩
        rw [← g51] at A51 D51 st51
        have OL51 := OL16.ext E51
        have g_b51 : n0 ≤ b51 := Nat.le_trans Zs16 (Nat.le_of_eq g51.symm)
        have Zs51 : n0 ≤ h51.size := Nat.le_trans Zs16 E51.1
        have F_b51_name : Fld Z h51 b51 "biaxial/cli/Forms$Operand" "name" "Ljava/lang/String;" .null := D51 (Or.inr (hw _ (List.mem_of_getElem? (i := 57) rfl))) (ty := (.object "java/lang/String")) (by decide)
        have F_b51_kind : Fld Z h51 b51 "biaxial/cli/Forms$Operand" "kind" "Lbiaxial/cli/Forms$Kind;" .null := D51 (Or.inr (hw _ (List.mem_of_getElem? (i := 59) rfl))) (ty := (.object "biaxial/cli/Forms$Kind")) (by decide)
        have F_b51_required : Fld Z h51 b51 "biaxial/cli/Forms$Operand" "required" "Z" (.int (0 : Int32)) := D51 (Or.inr (hw _ (List.mem_of_getElem? (i := 61) rfl))) (ty := .boolean) (by decide)
        have F_b51_repeated : Fld Z h51 b51 "biaxial/cli/Forms$Operand" "repeated" "Z" (.int (0 : Int32)) := D51 (Or.inr (hw _ (List.mem_of_getElem? (i := 63) rfl))) (ty := .boolean) (by decide)
        have F_b51_flag : Fld Z h51 b51 "biaxial/cli/Forms$Operand" "flag" "Ljava/lang/String;" .null := D51 (Or.inr (hw _ (List.mem_of_getElem? (i := 65) rfl))) (ty := (.object "java/lang/String")) (by decide)
        have K51 : ∀ t, Steps p.tables e below (T51.setTop (mkF m 147 #[.val (.int p0), .val (.int p1), .val (.int p2), .val (.ref b2), .val (.ref b10), .val (.ref b16_8), .val (.int (w0_m4 p2)), .val (.int (w0_m5 p2)), .val (.int (w0_m6 p2)), .val (.int (w0_m7 p2)), .val (.int (w0_m8 p2)), .val (.ref b10), .unset, .unset, .unset, .unset] [(.ref b51)])) t → Steps p.tables e below S0 t := fun t k => K50 t (st51 t k)
        have K52 : ∀ t, Steps p.tables e below (T51.setTop (mkF m 157 #[.val (.int p0), .val (.int p1), .val (.int p2), .val (.ref b2), .val (.ref b10), .val (.ref b16_8), .val (.int (w0_m4 p2)), .val (.int (w0_m5 p2)), .val (.int (w0_m6 p2)), .val (.int (w0_m7 p2)), .val (.int (w0_m8 p2)), .val (.ref b10), .unset, .unset, .unset, .unset] [(.int (w0_m7 p2)), (.int (w0_m6 p2)), (.int (w0_m5 p2)), .null, (.ref b10), (.ref b51), (.ref b51)])) t → Steps p.tables e below S0 t := fun t k => K51 t (by
          refine XS.dup X51.here hx rfl (hb hby at_147) rfl rfl ?_
          show Steps p.tables e below (T51.setTop (mkF m 148 #[.val (.int p0), .val (.int p1), .val (.int p2), .val (.ref b2), .val (.ref b10), .val (.ref b16_8), .val (.int (w0_m4 p2)), .val (.int (w0_m5 p2)), .val (.int (w0_m6 p2)), .val (.int (w0_m7 p2)), .val (.int (w0_m8 p2)), .val (.ref b10), .unset, .unset, .unset, .unset] [(.ref b51), (.ref b51)])) _
          refine XS.aload X51.here hx rfl (hb hby at_148) rfl rfl ?_
          show Steps p.tables e below (T51.setTop (mkF m 150 #[.val (.int p0), .val (.int p1), .val (.int p2), .val (.ref b2), .val (.ref b10), .val (.ref b16_8), .val (.int (w0_m4 p2)), .val (.int (w0_m5 p2)), .val (.int (w0_m6 p2)), .val (.int (w0_m7 p2)), .val (.int (w0_m8 p2)), .val (.ref b10), .unset, .unset, .unset, .unset] [(.ref b10), (.ref b51), (.ref b51)])) _
          refine XS.aconstNull X51.here hx rfl (hb hby at_150) ?_
          show Steps p.tables e below (T51.setTop (mkF m 151 #[.val (.int p0), .val (.int p1), .val (.int p2), .val (.ref b2), .val (.ref b10), .val (.ref b16_8), .val (.int (w0_m4 p2)), .val (.int (w0_m5 p2)), .val (.int (w0_m6 p2)), .val (.int (w0_m7 p2)), .val (.int (w0_m8 p2)), .val (.ref b10), .unset, .unset, .unset, .unset] [.null, (.ref b10), (.ref b51), (.ref b51)])) _
          refine XS.iload X51.here hx rfl (hb hby at_151) rfl ?_
          show Steps p.tables e below (T51.setTop (mkF m 153 #[.val (.int p0), .val (.int p1), .val (.int p2), .val (.ref b2), .val (.ref b10), .val (.ref b16_8), .val (.int (w0_m4 p2)), .val (.int (w0_m5 p2)), .val (.int (w0_m6 p2)), .val (.int (w0_m7 p2)), .val (.int (w0_m8 p2)), .val (.ref b10), .unset, .unset, .unset, .unset] [(.int (w0_m5 p2)), .null, (.ref b10), (.ref b51), (.ref b51)])) _
          refine XS.iload X51.here hx rfl (hb hby at_153) rfl ?_
          show Steps p.tables e below (T51.setTop (mkF m 155 #[.val (.int p0), .val (.int p1), .val (.int p2), .val (.ref b2), .val (.ref b10), .val (.ref b16_8), .val (.int (w0_m4 p2)), .val (.int (w0_m5 p2)), .val (.int (w0_m6 p2)), .val (.int (w0_m7 p2)), .val (.int (w0_m8 p2)), .val (.ref b10), .unset, .unset, .unset, .unset] [(.int (w0_m6 p2)), (.int (w0_m5 p2)), .null, (.ref b10), (.ref b51), (.ref b51)])) _
          refine XS.iload X51.here hx rfl (hb hby at_155) rfl ?_
          show Steps p.tables e below (T51.setTop (mkF m 157 #[.val (.int p0), .val (.int p1), .val (.int p2), .val (.ref b2), .val (.ref b10), .val (.ref b16_8), .val (.int (w0_m4 p2)), .val (.int (w0_m5 p2)), .val (.int (w0_m6 p2)), .val (.int (w0_m7 p2)), .val (.int (w0_m8 p2)), .val (.ref b10), .unset, .unset, .unset, .unset] [(.int (w0_m7 p2)), (.int (w0_m6 p2)), (.int (w0_m5 p2)), .null, (.ref b10), (.ref b51), (.ref b51)])) _
          exact k)
        by_cases hc157_2 : (w0_m7 p2) = (0 : Int32)
        · -- yes
          have K53 : ∀ t, Steps p.tables e below (T51.setTop (mkF m 166 #[.val (.int p0), .val (.int p1), .val (.int p2), .val (.ref b2), .val (.ref b10), .val (.ref b16_8), .val (.int (w0_m4 p2)), .val (.int (w0_m5 p2)), .val (.int (w0_m6 p2)), .val (.int (w0_m7 p2)), .val (.int (w0_m8 p2)), .val (.ref b10), .unset, .unset, .unset, .unset] [(.ref b16_8), (.int (w0_m6 p2)), (.int (w0_m5 p2)), .null, (.ref b10), (.ref b51), (.ref b51)])) t → Steps p.tables e below S0 t := fun t k => K52 t (by
            refine XS.ifYes X51.here hx rfl (pc0 := 157) (pc' := 164) rfl (hb hby at_157) rfl (XT.i0_eq_t hc157_2) (by decide) (by decide) ?_
            show Steps p.tables e below (T51.setTop (mkF m 164 #[.val (.int p0), .val (.int p1), .val (.int p2), .val (.ref b2), .val (.ref b10), .val (.ref b16_8), .val (.int (w0_m4 p2)), .val (.int (w0_m5 p2)), .val (.int (w0_m6 p2)), .val (.int (w0_m7 p2)), .val (.int (w0_m8 p2)), .val (.ref b10), .unset, .unset, .unset, .unset] [(.int (w0_m6 p2)), (.int (w0_m5 p2)), .null, (.ref b10), (.ref b51), (.ref b51)])) _
            refine XS.aload X51.here hx rfl (hb hby at_164) rfl rfl ?_
            show Steps p.tables e below (T51.setTop (mkF m 166 #[.val (.int p0), .val (.int p1), .val (.int p2), .val (.ref b2), .val (.ref b10), .val (.ref b16_8), .val (.int (w0_m4 p2)), .val (.int (w0_m5 p2)), .val (.int (w0_m6 p2)), .val (.int (w0_m7 p2)), .val (.int (w0_m8 p2)), .val (.ref b10), .unset, .unset, .unset, .unset] [(.ref b16_8), (.int (w0_m6 p2)), (.int (w0_m5 p2)), .null, (.ref b10), (.ref b51), (.ref b51)])) _
            exact k)
          have K_54 : ∀ t, Steps p.tables e below (T51.setTop (mkF m 166 #[.val (.int p0), .val (.int p1), .val (.int p2), .val (.ref b2), .val (.ref b10), .val (.ref b16_8), .val (.int (w0_m4 p2)), .val (.int (w0_m5 p2)), .val (.int (w0_m6 p2)), .val (.int (w0_m7 p2)), .val (.int (w0_m8 p2)), .val (.ref b10), .unset, .unset, .unset, .unset] [(.ref b16_8), (.int (w0_m6 p2)), (.int (w0_m5 p2)), .null, (.ref b10), (.ref b51), (.ref b51)])) t → Steps p.tables e below S0 t := K53
          obtain ⟨_, _, ⟨T55, L55, k55, n55⟩, -, X55, ⟨Lc55, hQ55, l55, y55, z55⟩, st55⟩ := X51.specialBack hx (y := (⟨"biaxial/cli/Forms$Operand", "<init>", "(Ljava/lang/String;Lbiaxial/cli/Forms$Kind;ZZLjava/lang/String;)V"⟩ : MethodName)) rfl hown (mvT hZ (hw _ (List.mem_of_getElem? (i := 47) rfl))) (mvT hZ (hw _ (List.mem_of_getElem? (i := 48) rfl))) (mvT hZ (hw _ (List.mem_of_getElem? (i := 49) rfl))) (by decide) (backOf (W := 1) (rmi101 l Z a0 hw [] b51 b10 (w0_m5 p2) (w0_m6 p2) b16_8 h51 n0 Zs51 A51 F_b51_name F_b51_kind F_b51_required F_b51_repeated F_b51_flag g_b51) hZ (hw _ (List.mem_of_getElem? (i := 49) rfl)) (hw _ (List.mem_of_getElem? (i := 46) rfl)) (by decide) (by decide)) (g := (mkF m 166 #[.val (.int p0), .val (.int p1), .val (.int p2), .val (.ref b2), .val (.ref b10), .val (.ref b16_8), .val (.int (w0_m4 p2)), .val (.int (w0_m5 p2)), .val (.int (w0_m6 p2)), .val (.int (w0_m7 p2)), .val (.int (w0_m8 p2)), .val (.ref b10), .unset, .unset, .unset, .unset] [(.ref b16_8), (.int (w0_m6 p2)), (.int (w0_m5 p2)), .null, (.ref b10), (.ref b51), (.ref b51)])) rfl (by rw [hml]; rfl) (Steps.refl _) (a := b51) (argsL := [(.ref b10), .null, (.int (w0_m5 p2)), (.int (w0_m6 p2)), (.ref b16_8)]) (rest := [(.ref b51)]) (lenOf pd0_2 rfl) rfl (by show 2 * 0 + _ ≤ _; exact Nat.le_of_eq rfl) (hb hby at_166) (fun _ _ => ⟨rfl, e51, (by decide : 6 + 0 ≤ 40), (by decide : 18 + 0 ≤ 1216)⟩)
          dsimp only [Pt.U, Pt.locs, Pt.cells, Pt.slots] at X55 l55 y55 z55 st55 hQ55
          subst l55 y55 z55
          obtain ⟨rfl, N55q, Kp55, Fn55_0, Fn55_1, Fn55_2, Fn55_3, Fn55_4, Fn55_5⟩ := hQ55
          have N55 := Fr.app N42 N55q
          have OL55 := OL51.keep Kp55 (allS (P := fun x => n0 ≤ x) g_b51 all0)
          have Zs55 : n0 ≤ T55.heap.size := Nat.le_trans Zs51 Kp55.1
          have K55 : ∀ t, Steps p.tables e below (T55.setTop (mkF m 169 #[.val (.int p0), .val (.int p1), .val (.int p2), .val (.ref b2), .val (.ref b10), .val (.ref b16_8), .val (.int (w0_m4 p2)), .val (.int (w0_m5 p2)), .val (.int (w0_m6 p2)), .val (.int (w0_m7 p2)), .val (.int (w0_m8 p2)), .val (.ref b10), .unset, .unset, .unset, .unset] [(.ref b51)])) t → Steps p.tables e below S0 t := fun t k => K_54 t (st55.trans k)
          have K56 : ∀ t, Steps p.tables e below (T55.setTop (mkF m 173 #[.val (.int p0), .val (.int p1), .val (.int p2), .val (.ref b2), .val (.ref b10), .val (.ref b16_8), .val (.int (w0_m4 p2)), .val (.int (w0_m5 p2)), .val (.int (w0_m6 p2)), .val (.int (w0_m7 p2)), .val (.int (w0_m8 p2)), .val (.ref b10), .val (.ref b51), .unset, .unset, .unset] [(.ref b51)])) t → Steps p.tables e below S0 t := fun t k => K55 t (by
            refine XS.astore X55.here hx rfl (hb hby at_169) rfl rfl (l' := #[.val (.int p0), .val (.int p1), .val (.int p2), .val (.ref b2), .val (.ref b10), .val (.ref b16_8), .val (.int (w0_m4 p2)), .val (.int (w0_m5 p2)), .val (.int (w0_m6 p2)), .val (.int (w0_m7 p2)), .val (.int (w0_m8 p2)), .val (.ref b10), .val (.ref b51), .unset, .unset, .unset]) rfl ?_
            show Steps p.tables e below (T55.setTop (mkF m 171 #[.val (.int p0), .val (.int p1), .val (.int p2), .val (.ref b2), .val (.ref b10), .val (.ref b16_8), .val (.int (w0_m4 p2)), .val (.int (w0_m5 p2)), .val (.int (w0_m6 p2)), .val (.int (w0_m7 p2)), .val (.int (w0_m8 p2)), .val (.ref b10), .val (.ref b51), .unset, .unset, .unset] [])) _
            refine XS.aload X55.here hx rfl (hb hby at_171) rfl rfl ?_
            show Steps p.tables e below (T55.setTop (mkF m 173 #[.val (.int p0), .val (.int p1), .val (.int p2), .val (.ref b2), .val (.ref b10), .val (.ref b16_8), .val (.int (w0_m4 p2)), .val (.int (w0_m5 p2)), .val (.int (w0_m6 p2)), .val (.int (w0_m7 p2)), .val (.int (w0_m8 p2)), .val (.ref b10), .val (.ref b51), .unset, .unset, .unset] [(.ref b51)])) _
            exact k)
          have K_57 : ∀ t, Steps p.tables e below (T55.setTop (mkF m 173 #[.val (.int p0), .val (.int p1), .val (.int p2), .val (.ref b2), .val (.ref b10), .val (.ref b16_8), .val (.int (w0_m4 p2)), .val (.int (w0_m5 p2)), .val (.int (w0_m6 p2)), .val (.int (w0_m7 p2)), .val (.int (w0_m8 p2)), .val (.ref b10), .val (.ref b51), .unset, .unset, .unset] [(.ref b51)])) t → Steps p.tables e below S0 t := K56
          obtain ⟨cq58, kq58, q58a, q58b, q58c⟩ := isOf hZ rfl Fn55_0
          obtain ⟨_, _, ⟨T58, L58, k58, n58⟩, -, X58, ⟨Lc58, hQ58, l58, y58, z58⟩, st58⟩ := X55.virtualBack hx (y := (⟨"biaxial/cli/Forms$Operand", "isSwitch", "()Z"⟩ : MethodName)) (z := (⟨"biaxial/cli/Forms$Operand", "isSwitch", "()Z"⟩ : MethodName)) hown (mvT hZ (hw _ (List.mem_of_getElem? (i := 66) rfl))) (mvT hZ (hw _ (List.mem_of_getElem? (i := 67) rfl))) (notFace_of_selects (args := #[]) (mvT hZ (hw _ (List.mem_of_getElem? (i := 69) rfl)))) (mvT hZ (hw _ (List.mem_of_getElem? (i := 69) rfl))) (mvT hZ (hw _ (List.mem_of_getElem? (i := 68) rfl))) (by decide) (backOf (W := 0) (rmw1 l Z a0 hw [] b51 b10 T55.heap n0 Zs55 Fn55_1) hZ (hw _ (List.mem_of_getElem? (i := 70) rfl)) (hw _ (List.mem_of_getElem? (i := 46) rfl)) (by decide) (by decide)) q58a q58c (g := (mkF m 173 #[.val (.int p0), .val (.int p1), .val (.int p2), .val (.ref b2), .val (.ref b10), .val (.ref b16_8), .val (.int (w0_m4 p2)), .val (.int (w0_m5 p2)), .val (.int (w0_m6 p2)), .val (.int (w0_m7 p2)), .val (.int (w0_m8 p2)), .val (.ref b10), .val (.ref b51), .unset, .unset, .unset] [(.ref b51)])) rfl (by rw [hml]; rfl) (Steps.refl _) (argsL := []) (rest := []) (lenOf pd0_3 rfl) rfl (by show 2 * 0 + _ ≤ _; exact Nat.le_of_eq rfl) (hb hby at_173) (fun _ _ => ⟨rfl, rfl, (by decide : 6 + 0 ≤ 40), (by decide : 18 + 0 ≤ 1216)⟩)
          dsimp only [Pt.U, Pt.locs, Pt.cells, Pt.slots] at X58 l58 y58 z58 st58 hQ58
          subst l58 y58 z58
          obtain ⟨rfl, N58q, e58⟩ := hQ58
          have N58 := Fr.app N55 N58q
          have K58 : ∀ t, Steps p.tables e below (T58.setTop (mkF m 176 #[.val (.int p0), .val (.int p1), .val (.int p2), .val (.ref b2), .val (.ref b10), .val (.ref b16_8), .val (.int (w0_m4 p2)), .val (.int (w0_m5 p2)), .val (.int (w0_m6 p2)), .val (.int (w0_m7 p2)), .val (.int (w0_m8 p2)), .val (.ref b10), .val (.ref b51), .unset, .unset, .unset] [(.int (0 : Int32))])) t → Steps p.tables e below S0 t := fun t k => K_57 t (st58.trans k)
          have K59 : ∀ t, Steps p.tables e below (T58.setTop (mkF m 178 #[.val (.int p0), .val (.int p1), .val (.int p2), .val (.ref b2), .val (.ref b10), .val (.ref b16_8), .val (.int (w0_m4 p2)), .val (.int (w0_m5 p2)), .val (.int (w0_m6 p2)), .val (.int (w0_m7 p2)), .val (.int (w0_m8 p2)), .val (.ref b10), .val (.ref b51), .unset, .unset, .unset] [(.int (w0_m4 p2)), (.int (0 : Int32))])) t → Steps p.tables e below S0 t := fun t k => K58 t (by
            refine XS.iload X58.here hx rfl (hb hby at_176) rfl ?_
            show Steps p.tables e below (T58.setTop (mkF m 178 #[.val (.int p0), .val (.int p1), .val (.int p2), .val (.ref b2), .val (.ref b10), .val (.ref b16_8), .val (.int (w0_m4 p2)), .val (.int (w0_m5 p2)), .val (.int (w0_m6 p2)), .val (.int (w0_m7 p2)), .val (.int (w0_m8 p2)), .val (.ref b10), .val (.ref b51), .unset, .unset, .unset] [(.int (w0_m4 p2)), (.int (0 : Int32))])) _
            exact k)
          have hf60 : (0 : Int32) = (w0_m4 p2) := hc115_0.symm
          have K61 : ∀ t, Steps p.tables e below (T58.setTop (mkF m 185 #[.val (.int p0), .val (.int p1), .val (.int p2), .val (.ref b2), .val (.ref b10), .val (.ref b16_8), .val (.int (w0_m4 p2)), .val (.int (w0_m5 p2)), .val (.int (w0_m6 p2)), .val (.int (w0_m7 p2)), .val (.int (w0_m8 p2)), .val (.ref b10), .val (.ref b51), .unset, .unset, .unset] [(.ref b51)])) t → Steps p.tables e below S0 t := fun t k => K59 t (by
            refine XS.icmpYes X58.here hx rfl (pc0 := 178) (pc' := 183) rfl (hb hby at_178) rfl (XT.ii_eq_t hf60) (by decide) (by decide) ?_
            show Steps p.tables e below (T58.setTop (mkF m 183 #[.val (.int p0), .val (.int p1), .val (.int p2), .val (.ref b2), .val (.ref b10), .val (.ref b16_8), .val (.int (w0_m4 p2)), .val (.int (w0_m5 p2)), .val (.int (w0_m6 p2)), .val (.int (w0_m7 p2)), .val (.int (w0_m8 p2)), .val (.ref b10), .val (.ref b51), .unset, .unset, .unset] [])) _
            refine XS.aload X58.here hx rfl (hb hby at_183) rfl rfl ?_
            show Steps p.tables e below (T58.setTop (mkF m 185 #[.val (.int p0), .val (.int p1), .val (.int p2), .val (.ref b2), .val (.ref b10), .val (.ref b16_8), .val (.int (w0_m4 p2)), .val (.int (w0_m5 p2)), .val (.int (w0_m6 p2)), .val (.int (w0_m7 p2)), .val (.int (w0_m8 p2)), .val (.ref b10), .val (.ref b51), .unset, .unset, .unset] [(.ref b51)])) _
            exact k)
          have K_62 : ∀ t, Steps p.tables e below (T58.setTop (mkF m 185 #[.val (.int p0), .val (.int p1), .val (.int p2), .val (.ref b2), .val (.ref b10), .val (.ref b16_8), .val (.int (w0_m4 p2)), .val (.int (w0_m5 p2)), .val (.int (w0_m6 p2)), .val (.int (w0_m7 p2)), .val (.int (w0_m8 p2)), .val (.ref b10), .val (.ref b51), .unset, .unset, .unset] [(.ref b51)])) t → Steps p.tables e below S0 t := K61
          obtain ⟨cq63, kq63, q63a, q63b, q63c⟩ := isOf hZ e58 Fn55_0
          obtain ⟨_, _, ⟨T63, L63, k63, n63⟩, -, X63, ⟨Lc63, hQ63, l63, y63, z63⟩, st63⟩ := X58.virtualBack hx (y := (⟨"biaxial/cli/Forms$Operand", "optional", "()Lbiaxial/cli/Forms$Operand;"⟩ : MethodName)) (z := (⟨"biaxial/cli/Forms$Operand", "optional", "()Lbiaxial/cli/Forms$Operand;"⟩ : MethodName)) hown (mvT hZ (hw _ (List.mem_of_getElem? (i := 71) rfl))) (mvT hZ (hw _ (List.mem_of_getElem? (i := 72) rfl))) (notFace_of_selects (args := #[]) (mvT hZ (hw _ (List.mem_of_getElem? (i := 74) rfl)))) (mvT hZ (hw _ (List.mem_of_getElem? (i := 74) rfl))) (mvT hZ (hw _ (List.mem_of_getElem? (i := 73) rfl))) (by decide) (backOf (W := 0) (rmo11 l Z a0 hw [] b51 b10 b16_8 (nar .boolean (w0_m5 p2)) (nar .boolean (w0_m6 p2)) T55.heap n0 Zs55 Fn55_1 Fn55_2 Fn55_3 Fn55_4 Fn55_5) hZ (hw _ (List.mem_of_getElem? (i := 75) rfl)) (hw _ (List.mem_of_getElem? (i := 46) rfl)) (by decide) (by decide)) q63a q63c (g := (mkF m 185 #[.val (.int p0), .val (.int p1), .val (.int p2), .val (.ref b2), .val (.ref b10), .val (.ref b16_8), .val (.int (w0_m4 p2)), .val (.int (w0_m5 p2)), .val (.int (w0_m6 p2)), .val (.int (w0_m7 p2)), .val (.int (w0_m8 p2)), .val (.ref b10), .val (.ref b51), .unset, .unset, .unset] [(.ref b51)])) rfl (by rw [hml]; rfl) (Steps.refl _) (argsL := []) (rest := []) (lenOf pd0_4 rfl) rfl (by show 2 * 0 + _ ≤ _; exact Nat.le_of_eq rfl) (hb hby at_185) (fun _ _ => ⟨rfl, e58, (by decide : 6 + 1 ≤ 40), (by decide : 18 + 5 ≤ 1216)⟩)
          dsimp only [Pt.U, Pt.locs, Pt.cells, Pt.slots] at X63 l63 y63 z63 st63 hQ63
          subst l63 y63 z63
          obtain ⟨b63_1, rfl, N63q, Kp63, lb_b63_1, Fn63_0, Fn63_1, Fn63_2, Fn63_3, Fn63_4, Fn63_5⟩ := hQ63
          have N63 := Fr.app N58 N63q
          have g_b63_1 : n0 ≤ b63_1 := Nat.le_trans Zs55 lb_b63_1
          have ne_b51_b63_1 : b51 ≠ b63_1 := Nat.ne_of_lt (Nat.lt_of_lt_of_le Fn55_0.lt lb_b63_1)
          have OL63 := OL55.keep Kp63 all0
          have Fn55_0__63 := Fn55_0.keep Kp63
          have Fn55_1__63 := Fn55_1.keep Kp63 nin0
          have Fn55_2__63 := Fn55_2.keep Kp63 nin0
          have Fn55_3__63 := Fn55_3.keep Kp63 nin0
          have Fn55_4__63 := Fn55_4.keep Kp63 nin0
          have Fn55_5__63 := Fn55_5.keep Kp63 nin0
          have Zs63 : n0 ≤ T63.heap.size := Nat.le_trans Zs55 Kp63.1
          have K63 : ∀ t, Steps p.tables e below (T63.setTop (mkF m 188 #[.val (.int p0), .val (.int p1), .val (.int p2), .val (.ref b2), .val (.ref b10), .val (.ref b16_8), .val (.int (w0_m4 p2)), .val (.int (w0_m5 p2)), .val (.int (w0_m6 p2)), .val (.int (w0_m7 p2)), .val (.int (w0_m8 p2)), .val (.ref b10), .val (.ref b51), .unset, .unset, .unset] [(.ref b63_1)])) t → Steps p.tables e below S0 t := fun t k => K_62 t (st63.trans k)
          have K_64 : ∀ t, Steps p.tables e below (T63.setTop (mkF m 188 #[.val (.int p0), .val (.int p1), .val (.int p2), .val (.ref b2), .val (.ref b10), .val (.ref b16_8), .val (.int (w0_m4 p2)), .val (.int (w0_m5 p2)), .val (.int (w0_m6 p2)), .val (.int (w0_m7 p2)), .val (.int (w0_m8 p2)), .val (.ref b10), .val (.ref b51), .unset, .unset, .unset] [(.ref b63_1)])) t → Steps p.tables e below S0 t := K63
          obtain ⟨cq65, kq65, q65a, q65b, q65c⟩ := isOf hZ rfl Fn63_0
          obtain ⟨_, _, ⟨T65, L65, k65, n65⟩, -, X65, ⟨Lc65, hQ65, l65, y65, z65⟩, st65⟩ := X63.virtualBack hx (y := (⟨"biaxial/cli/Forms$Operand", "isSwitch", "()Z"⟩ : MethodName)) (z := (⟨"biaxial/cli/Forms$Operand", "isSwitch", "()Z"⟩ : MethodName)) hown (mvT hZ (hw _ (List.mem_of_getElem? (i := 66) rfl))) (mvT hZ (hw _ (List.mem_of_getElem? (i := 67) rfl))) (notFace_of_selects (args := #[]) (mvT hZ (hw _ (List.mem_of_getElem? (i := 69) rfl)))) (mvT hZ (hw _ (List.mem_of_getElem? (i := 69) rfl))) (mvT hZ (hw _ (List.mem_of_getElem? (i := 68) rfl))) (by decide) (backOf (W := 0) (rmw1 l Z a0 hw [] b63_1 b10 T63.heap n0 Zs63 Fn63_1) hZ (hw _ (List.mem_of_getElem? (i := 70) rfl)) (hw _ (List.mem_of_getElem? (i := 46) rfl)) (by decide) (by decide)) q65a q65c (g := (mkF m 188 #[.val (.int p0), .val (.int p1), .val (.int p2), .val (.ref b2), .val (.ref b10), .val (.ref b16_8), .val (.int (w0_m4 p2)), .val (.int (w0_m5 p2)), .val (.int (w0_m6 p2)), .val (.int (w0_m7 p2)), .val (.int (w0_m8 p2)), .val (.ref b10), .val (.ref b51), .unset, .unset, .unset] [(.ref b63_1)])) rfl (by rw [hml]; rfl) (Steps.refl _) (argsL := []) (rest := []) (lenOf pd0_3 rfl) rfl (by show 2 * 0 + _ ≤ _; exact Nat.le_of_eq rfl) (hb hby at_188) (fun _ _ => ⟨rfl, rfl, (by decide : 7 + 0 ≤ 40), (by decide : 23 + 0 ≤ 1216)⟩)
          dsimp only [Pt.U, Pt.locs, Pt.cells, Pt.slots] at X65 l65 y65 z65 st65 hQ65
          subst l65 y65 z65
          obtain ⟨rfl, N65q, e65⟩ := hQ65
          have N65 := Fr.app N63 N65q
          have K65 : ∀ t, Steps p.tables e below (T65.setTop (mkF m 191 #[.val (.int p0), .val (.int p1), .val (.int p2), .val (.ref b2), .val (.ref b10), .val (.ref b16_8), .val (.int (w0_m4 p2)), .val (.int (w0_m5 p2)), .val (.int (w0_m6 p2)), .val (.int (w0_m7 p2)), .val (.int (w0_m8 p2)), .val (.ref b10), .val (.ref b51), .unset, .unset, .unset] [(.int (0 : Int32))])) t → Steps p.tables e below S0 t := fun t k => K_64 t (st65.trans k)
          have K66 : ∀ t, Steps p.tables e below (T65.setTop (mkF m 193 #[.val (.int p0), .val (.int p1), .val (.int p2), .val (.ref b2), .val (.ref b10), .val (.ref b16_8), .val (.int (w0_m4 p2)), .val (.int (w0_m5 p2)), .val (.int (w0_m6 p2)), .val (.int (w0_m7 p2)), .val (.int (w0_m8 p2)), .val (.ref b10), .val (.ref b51), .unset, .unset, .unset] [(.int (w0_m4 p2)), (.int (0 : Int32))])) t → Steps p.tables e below S0 t := fun t k => K65 t (by
            refine XS.iload X65.here hx rfl (hb hby at_191) rfl ?_
            show Steps p.tables e below (T65.setTop (mkF m 193 #[.val (.int p0), .val (.int p1), .val (.int p2), .val (.ref b2), .val (.ref b10), .val (.ref b16_8), .val (.int (w0_m4 p2)), .val (.int (w0_m5 p2)), .val (.int (w0_m6 p2)), .val (.int (w0_m7 p2)), .val (.int (w0_m8 p2)), .val (.ref b10), .val (.ref b51), .unset, .unset, .unset] [(.int (w0_m4 p2)), (.int (0 : Int32))])) _
            exact k)
          have hf67 : (0 : Int32) = (w0_m4 p2) := hc115_0.symm
          have K68 : ∀ t, Steps p.tables e below (T65.setTop (mkF m 200 #[.val (.int p0), .val (.int p1), .val (.int p2), .val (.ref b2), .val (.ref b10), .val (.ref b16_8), .val (.int (w0_m4 p2)), .val (.int (w0_m5 p2)), .val (.int (w0_m6 p2)), .val (.int (w0_m7 p2)), .val (.int (w0_m8 p2)), .val (.ref b10), .val (.ref b51), .unset, .unset, .unset] [(.ref b51)])) t → Steps p.tables e below S0 t := fun t k => K66 t (by
            refine XS.icmpYes X65.here hx rfl (pc0 := 193) (pc' := 198) rfl (hb hby at_193) rfl (XT.ii_eq_t hf67) (by decide) (by decide) ?_
            show Steps p.tables e below (T65.setTop (mkF m 198 #[.val (.int p0), .val (.int p1), .val (.int p2), .val (.ref b2), .val (.ref b10), .val (.ref b16_8), .val (.int (w0_m4 p2)), .val (.int (w0_m5 p2)), .val (.int (w0_m6 p2)), .val (.int (w0_m7 p2)), .val (.int (w0_m8 p2)), .val (.ref b10), .val (.ref b51), .unset, .unset, .unset] [])) _
            refine XS.aload X65.here hx rfl (hb hby at_198) rfl rfl ?_
            show Steps p.tables e below (T65.setTop (mkF m 200 #[.val (.int p0), .val (.int p1), .val (.int p2), .val (.ref b2), .val (.ref b10), .val (.ref b16_8), .val (.int (w0_m4 p2)), .val (.int (w0_m5 p2)), .val (.int (w0_m6 p2)), .val (.int (w0_m7 p2)), .val (.int (w0_m8 p2)), .val (.ref b10), .val (.ref b51), .unset, .unset, .unset] [(.ref b51)])) _
            exact k)
          have K_69 : ∀ t, Steps p.tables e below (T65.setTop (mkF m 200 #[.val (.int p0), .val (.int p1), .val (.int p2), .val (.ref b2), .val (.ref b10), .val (.ref b16_8), .val (.int (w0_m4 p2)), .val (.int (w0_m5 p2)), .val (.int (w0_m6 p2)), .val (.int (w0_m7 p2)), .val (.int (w0_m8 p2)), .val (.ref b10), .val (.ref b51), .unset, .unset, .unset] [(.ref b51)])) t → Steps p.tables e below S0 t := K68
          obtain ⟨cq70, kq70, q70a, q70b, q70c⟩ := isOf hZ e65 Fn55_0__63
          obtain ⟨_, _, ⟨T70, L70, k70, n70⟩, -, X70, ⟨Lc70, hQ70, l70, y70, z70⟩, st70⟩ := X65.virtualBack hx (y := (⟨"biaxial/cli/Forms$Operand", "repeats", "()Lbiaxial/cli/Forms$Operand;"⟩ : MethodName)) (z := (⟨"biaxial/cli/Forms$Operand", "repeats", "()Lbiaxial/cli/Forms$Operand;"⟩ : MethodName)) hown (mvT hZ (hw _ (List.mem_of_getElem? (i := 78) rfl))) (mvT hZ (hw _ (List.mem_of_getElem? (i := 79) rfl))) (notFace_of_selects (args := #[]) (mvT hZ (hw _ (List.mem_of_getElem? (i := 81) rfl)))) (mvT hZ (hw _ (List.mem_of_getElem? (i := 81) rfl))) (mvT hZ (hw _ (List.mem_of_getElem? (i := 80) rfl))) (by decide) (backOf (W := 0) (rmr11 l Z a0 hw [] b51 b10 b16_8 (nar .boolean (w0_m5 p2)) (nar .boolean (w0_m6 p2)) T63.heap n0 Zs63 Fn55_1__63 Fn55_2__63 Fn55_3__63 Fn55_4__63 Fn55_5__63) hZ (hw _ (List.mem_of_getElem? (i := 82) rfl)) (hw _ (List.mem_of_getElem? (i := 46) rfl)) (by decide) (by decide)) q70a q70c (g := (mkF m 200 #[.val (.int p0), .val (.int p1), .val (.int p2), .val (.ref b2), .val (.ref b10), .val (.ref b16_8), .val (.int (w0_m4 p2)), .val (.int (w0_m5 p2)), .val (.int (w0_m6 p2)), .val (.int (w0_m7 p2)), .val (.int (w0_m8 p2)), .val (.ref b10), .val (.ref b51), .unset, .unset, .unset] [(.ref b51)])) rfl (by rw [hml]; rfl) (Steps.refl _) (argsL := []) (rest := []) (lenOf pd0_4 rfl) rfl (by show 2 * 0 + _ ≤ _; exact Nat.le_of_eq rfl) (hb hby at_200) (fun _ _ => ⟨rfl, e65, (by decide : 7 + 1 ≤ 40), (by decide : 23 + 5 ≤ 1216)⟩)
          dsimp only [Pt.U, Pt.locs, Pt.cells, Pt.slots] at X70 l70 y70 z70 st70 hQ70
          subst l70 y70 z70
          obtain ⟨b70_1, rfl, N70q, Kp70, lb_b70_1, Fn70_0, Fn70_1, Fn70_2, Fn70_3, Fn70_4, Fn70_5⟩ := hQ70
          have N70 := Fr.app N65 N70q
          have g_b70_1 : n0 ≤ b70_1 := Nat.le_trans Zs63 lb_b70_1
          have ne_b51_b70_1 : b51 ≠ b70_1 := Nat.ne_of_lt (Nat.lt_of_lt_of_le Fn55_0__63.lt lb_b70_1)
          have OL70 := OL63.keep Kp70 all0
          have Fn55_0__70 := Fn55_0__63.keep Kp70
          have Fn55_1__70 := Fn55_1__63.keep Kp70 nin0
          have Fn55_2__70 := Fn55_2__63.keep Kp70 nin0
          have Fn55_3__70 := Fn55_3__63.keep Kp70 nin0
          have Fn55_4__70 := Fn55_4__63.keep Kp70 nin0
          have Fn55_5__70 := Fn55_5__63.keep Kp70 nin0
          have Zs70 : n0 ≤ T70.heap.size := Nat.le_trans Zs63 Kp70.1
          have K70 : ∀ t, Steps p.tables e below (T70.setTop (mkF m 203 #[.val (.int p0), .val (.int p1), .val (.int p2), .val (.ref b2), .val (.ref b10), .val (.ref b16_8), .val (.int (w0_m4 p2)), .val (.int (w0_m5 p2)), .val (.int (w0_m6 p2)), .val (.int (w0_m7 p2)), .val (.int (w0_m8 p2)), .val (.ref b10), .val (.ref b51), .unset, .unset, .unset] [(.ref b70_1)])) t → Steps p.tables e below S0 t := fun t k => K_69 t (st70.trans k)
          have K_71 : ∀ t, Steps p.tables e below (T70.setTop (mkF m 203 #[.val (.int p0), .val (.int p1), .val (.int p2), .val (.ref b2), .val (.ref b10), .val (.ref b16_8), .val (.int (w0_m4 p2)), .val (.int (w0_m5 p2)), .val (.int (w0_m6 p2)), .val (.int (w0_m7 p2)), .val (.int (w0_m8 p2)), .val (.ref b10), .val (.ref b51), .unset, .unset, .unset] [(.ref b70_1)])) t → Steps p.tables e below S0 t := K70
          obtain ⟨cq72, kq72, q72a, q72b, q72c⟩ := isOf hZ rfl Fn70_0
          obtain ⟨_, _, ⟨T72, L72, k72, n72⟩, -, X72, ⟨Lc72, hQ72, l72, y72, z72⟩, st72⟩ := X70.virtualBack hx (y := (⟨"biaxial/cli/Forms$Operand", "isSwitch", "()Z"⟩ : MethodName)) (z := (⟨"biaxial/cli/Forms$Operand", "isSwitch", "()Z"⟩ : MethodName)) hown (mvT hZ (hw _ (List.mem_of_getElem? (i := 66) rfl))) (mvT hZ (hw _ (List.mem_of_getElem? (i := 67) rfl))) (notFace_of_selects (args := #[]) (mvT hZ (hw _ (List.mem_of_getElem? (i := 69) rfl)))) (mvT hZ (hw _ (List.mem_of_getElem? (i := 69) rfl))) (mvT hZ (hw _ (List.mem_of_getElem? (i := 68) rfl))) (by decide) (backOf (W := 0) (rmw1 l Z a0 hw [] b70_1 b10 T70.heap n0 Zs70 Fn70_1) hZ (hw _ (List.mem_of_getElem? (i := 70) rfl)) (hw _ (List.mem_of_getElem? (i := 46) rfl)) (by decide) (by decide)) q72a q72c (g := (mkF m 203 #[.val (.int p0), .val (.int p1), .val (.int p2), .val (.ref b2), .val (.ref b10), .val (.ref b16_8), .val (.int (w0_m4 p2)), .val (.int (w0_m5 p2)), .val (.int (w0_m6 p2)), .val (.int (w0_m7 p2)), .val (.int (w0_m8 p2)), .val (.ref b10), .val (.ref b51), .unset, .unset, .unset] [(.ref b70_1)])) rfl (by rw [hml]; rfl) (Steps.refl _) (argsL := []) (rest := []) (lenOf pd0_3 rfl) rfl (by show 2 * 0 + _ ≤ _; exact Nat.le_of_eq rfl) (hb hby at_203) (fun _ _ => ⟨rfl, rfl, (by decide : 8 + 0 ≤ 40), (by decide : 28 + 0 ≤ 1216)⟩)
          dsimp only [Pt.U, Pt.locs, Pt.cells, Pt.slots] at X72 l72 y72 z72 st72 hQ72
          subst l72 y72 z72
          obtain ⟨rfl, N72q, e72⟩ := hQ72
          have N72 := Fr.app N70 N72q
          have K72 : ∀ t, Steps p.tables e below (T72.setTop (mkF m 206 #[.val (.int p0), .val (.int p1), .val (.int p2), .val (.ref b2), .val (.ref b10), .val (.ref b16_8), .val (.int (w0_m4 p2)), .val (.int (w0_m5 p2)), .val (.int (w0_m6 p2)), .val (.int (w0_m7 p2)), .val (.int (w0_m8 p2)), .val (.ref b10), .val (.ref b51), .unset, .unset, .unset] [(.int (0 : Int32))])) t → Steps p.tables e below S0 t := fun t k => K_71 t (st72.trans k)
          have K73 : ∀ t, Steps p.tables e below (T72.setTop (mkF m 208 #[.val (.int p0), .val (.int p1), .val (.int p2), .val (.ref b2), .val (.ref b10), .val (.ref b16_8), .val (.int (w0_m4 p2)), .val (.int (w0_m5 p2)), .val (.int (w0_m6 p2)), .val (.int (w0_m7 p2)), .val (.int (w0_m8 p2)), .val (.ref b10), .val (.ref b51), .unset, .unset, .unset] [(.int (w0_m4 p2)), (.int (0 : Int32))])) t → Steps p.tables e below S0 t := fun t k => K72 t (by
            refine XS.iload X72.here hx rfl (hb hby at_206) rfl ?_
            show Steps p.tables e below (T72.setTop (mkF m 208 #[.val (.int p0), .val (.int p1), .val (.int p2), .val (.ref b2), .val (.ref b10), .val (.ref b16_8), .val (.int (w0_m4 p2)), .val (.int (w0_m5 p2)), .val (.int (w0_m6 p2)), .val (.int (w0_m7 p2)), .val (.int (w0_m8 p2)), .val (.ref b10), .val (.ref b51), .unset, .unset, .unset] [(.int (w0_m4 p2)), (.int (0 : Int32))])) _
            exact k)
          have hf74 : (0 : Int32) = (w0_m4 p2) := hc115_0.symm
          have K75 : ∀ t, Steps p.tables e below (T72.setTop (mkF m 213 #[.val (.int p0), .val (.int p1), .val (.int p2), .val (.ref b2), .val (.ref b10), .val (.ref b16_8), .val (.int (w0_m4 p2)), .val (.int (w0_m5 p2)), .val (.int (w0_m6 p2)), .val (.int (w0_m7 p2)), .val (.int (w0_m8 p2)), .val (.ref b10), .val (.ref b51), .unset, .unset, .unset] [])) t → Steps p.tables e below S0 t := fun t k => K73 t (by
            refine XS.icmpYes X72.here hx rfl (pc0 := 208) (pc' := 213) rfl (hb hby at_208) rfl (XT.ii_eq_t hf74) (by decide) (by decide) ?_
            show Steps p.tables e below (T72.setTop (mkF m 213 #[.val (.int p0), .val (.int p1), .val (.int p2), .val (.ref b2), .val (.ref b10), .val (.ref b16_8), .val (.int (w0_m4 p2)), .val (.int (w0_m5 p2)), .val (.int (w0_m6 p2)), .val (.int (w0_m7 p2)), .val (.int (w0_m8 p2)), .val (.ref b10), .val (.ref b51), .unset, .unset, .unset] [])) _
            exact k)
          exact ⟨T72, s.vm, 0, _, .val (.ref b10), .val (.ref b51), { X72 with same := X72.same.mono (by decide) (by decide) }, N72, (State.WarmedH.since (State.WarmedH.refl s) 0), (Nat.zero_le _), (by rw [e72]; exact Zs70), hZ, hown, (by rw [e72]; exact OL70), One.val rfl, One.val rfl, fun t k => K75 t k⟩
        · -- no
          have K76 : ∀ t, Steps p.tables e below (T51.setTop (mkF m 166 #[.val (.int p0), .val (.int p1), .val (.int p2), .val (.ref b2), .val (.ref b10), .val (.ref b16_8), .val (.int (w0_m4 p2)), .val (.int (w0_m5 p2)), .val (.int (w0_m6 p2)), .val (.int (w0_m7 p2)), .val (.int (w0_m8 p2)), .val (.ref b10), .unset, .unset, .unset, .unset] [.null, (.int (w0_m6 p2)), (.int (w0_m5 p2)), .null, (.ref b10), (.ref b51), (.ref b51)])) t → Steps p.tables e below S0 t := fun t k => K52 t (by
            refine XS.ifNo X51.here hx rfl (hb hby at_157) rfl (XT.i0_eq_f hc157_2) ?_
            show Steps p.tables e below (T51.setTop (mkF m 160 #[.val (.int p0), .val (.int p1), .val (.int p2), .val (.ref b2), .val (.ref b10), .val (.ref b16_8), .val (.int (w0_m4 p2)), .val (.int (w0_m5 p2)), .val (.int (w0_m6 p2)), .val (.int (w0_m7 p2)), .val (.int (w0_m8 p2)), .val (.ref b10), .unset, .unset, .unset, .unset] [(.int (w0_m6 p2)), (.int (w0_m5 p2)), .null, (.ref b10), (.ref b51), (.ref b51)])) _
            refine XS.aconstNull X51.here hx rfl (hb hby at_160) ?_
            show Steps p.tables e below (T51.setTop (mkF m 161 #[.val (.int p0), .val (.int p1), .val (.int p2), .val (.ref b2), .val (.ref b10), .val (.ref b16_8), .val (.int (w0_m4 p2)), .val (.int (w0_m5 p2)), .val (.int (w0_m6 p2)), .val (.int (w0_m7 p2)), .val (.int (w0_m8 p2)), .val (.ref b10), .unset, .unset, .unset, .unset] [.null, (.int (w0_m6 p2)), (.int (w0_m5 p2)), .null, (.ref b10), (.ref b51), (.ref b51)])) _
            refine XS.goto X51.here hx rfl (pc0 := 161) (pc' := 166) rfl (hb hby at_161) (by decide) (by decide) ?_
            show Steps p.tables e below (T51.setTop (mkF m 166 #[.val (.int p0), .val (.int p1), .val (.int p2), .val (.ref b2), .val (.ref b10), .val (.ref b16_8), .val (.int (w0_m4 p2)), .val (.int (w0_m5 p2)), .val (.int (w0_m6 p2)), .val (.int (w0_m7 p2)), .val (.int (w0_m8 p2)), .val (.ref b10), .unset, .unset, .unset, .unset] [.null, (.int (w0_m6 p2)), (.int (w0_m5 p2)), .null, (.ref b10), (.ref b51), (.ref b51)])) _
            exact k)
          have K_77 : ∀ t, Steps p.tables e below (T51.setTop (mkF m 166 #[.val (.int p0), .val (.int p1), .val (.int p2), .val (.ref b2), .val (.ref b10), .val (.ref b16_8), .val (.int (w0_m4 p2)), .val (.int (w0_m5 p2)), .val (.int (w0_m6 p2)), .val (.int (w0_m7 p2)), .val (.int (w0_m8 p2)), .val (.ref b10), .unset, .unset, .unset, .unset] [.null, (.int (w0_m6 p2)), (.int (w0_m5 p2)), .null, (.ref b10), (.ref b51), (.ref b51)])) t → Steps p.tables e below S0 t := K76
          obtain ⟨_, _, ⟨T78, L78, k78, n78⟩, -, X78, ⟨Lc78, hQ78, l78, y78, z78⟩, st78⟩ := X51.specialBack hx (y := (⟨"biaxial/cli/Forms$Operand", "<init>", "(Ljava/lang/String;Lbiaxial/cli/Forms$Kind;ZZLjava/lang/String;)V"⟩ : MethodName)) rfl hown (mvT hZ (hw _ (List.mem_of_getElem? (i := 47) rfl))) (mvT hZ (hw _ (List.mem_of_getElem? (i := 48) rfl))) (mvT hZ (hw _ (List.mem_of_getElem? (i := 49) rfl))) (by decide) (backOf (W := 1) (rmi100 l Z a0 hw [] b51 b10 (w0_m5 p2) (w0_m6 p2) h51 n0 Zs51 A51 F_b51_name F_b51_kind F_b51_required F_b51_repeated F_b51_flag g_b51) hZ (hw _ (List.mem_of_getElem? (i := 49) rfl)) (hw _ (List.mem_of_getElem? (i := 46) rfl)) (by decide) (by decide)) (g := (mkF m 166 #[.val (.int p0), .val (.int p1), .val (.int p2), .val (.ref b2), .val (.ref b10), .val (.ref b16_8), .val (.int (w0_m4 p2)), .val (.int (w0_m5 p2)), .val (.int (w0_m6 p2)), .val (.int (w0_m7 p2)), .val (.int (w0_m8 p2)), .val (.ref b10), .unset, .unset, .unset, .unset] [.null, (.int (w0_m6 p2)), (.int (w0_m5 p2)), .null, (.ref b10), (.ref b51), (.ref b51)])) rfl (by rw [hml]; rfl) (Steps.refl _) (a := b51) (argsL := [(.ref b10), .null, (.int (w0_m5 p2)), (.int (w0_m6 p2)), .null]) (rest := [(.ref b51)]) (lenOf pd0_2 rfl) rfl (by show 2 * 0 + _ ≤ _; exact Nat.le_of_eq rfl) (hb hby at_166) (fun _ _ => ⟨rfl, e51, (by decide : 6 + 0 ≤ 40), (by decide : 18 + 0 ≤ 1216)⟩)
          dsimp only [Pt.U, Pt.locs, Pt.cells, Pt.slots] at X78 l78 y78 z78 st78 hQ78
          subst l78 y78 z78
          obtain ⟨rfl, N78q, Kp78, Fn78_0, Fn78_1, Fn78_2, Fn78_3, Fn78_4, Fn78_5⟩ := hQ78
          have N78 := Fr.app N42 N78q
          have OL78 := OL51.keep Kp78 (allS (P := fun x => n0 ≤ x) g_b51 all0)
          have Zs78 : n0 ≤ T78.heap.size := Nat.le_trans Zs51 Kp78.1
          have K78 : ∀ t, Steps p.tables e below (T78.setTop (mkF m 169 #[.val (.int p0), .val (.int p1), .val (.int p2), .val (.ref b2), .val (.ref b10), .val (.ref b16_8), .val (.int (w0_m4 p2)), .val (.int (w0_m5 p2)), .val (.int (w0_m6 p2)), .val (.int (w0_m7 p2)), .val (.int (w0_m8 p2)), .val (.ref b10), .unset, .unset, .unset, .unset] [(.ref b51)])) t → Steps p.tables e below S0 t := fun t k => K_77 t (st78.trans k)
          have K79 : ∀ t, Steps p.tables e below (T78.setTop (mkF m 173 #[.val (.int p0), .val (.int p1), .val (.int p2), .val (.ref b2), .val (.ref b10), .val (.ref b16_8), .val (.int (w0_m4 p2)), .val (.int (w0_m5 p2)), .val (.int (w0_m6 p2)), .val (.int (w0_m7 p2)), .val (.int (w0_m8 p2)), .val (.ref b10), .val (.ref b51), .unset, .unset, .unset] [(.ref b51)])) t → Steps p.tables e below S0 t := fun t k => K78 t (by
            refine XS.astore X78.here hx rfl (hb hby at_169) rfl rfl (l' := #[.val (.int p0), .val (.int p1), .val (.int p2), .val (.ref b2), .val (.ref b10), .val (.ref b16_8), .val (.int (w0_m4 p2)), .val (.int (w0_m5 p2)), .val (.int (w0_m6 p2)), .val (.int (w0_m7 p2)), .val (.int (w0_m8 p2)), .val (.ref b10), .val (.ref b51), .unset, .unset, .unset]) rfl ?_
            show Steps p.tables e below (T78.setTop (mkF m 171 #[.val (.int p0), .val (.int p1), .val (.int p2), .val (.ref b2), .val (.ref b10), .val (.ref b16_8), .val (.int (w0_m4 p2)), .val (.int (w0_m5 p2)), .val (.int (w0_m6 p2)), .val (.int (w0_m7 p2)), .val (.int (w0_m8 p2)), .val (.ref b10), .val (.ref b51), .unset, .unset, .unset] [])) _
            refine XS.aload X78.here hx rfl (hb hby at_171) rfl rfl ?_
            show Steps p.tables e below (T78.setTop (mkF m 173 #[.val (.int p0), .val (.int p1), .val (.int p2), .val (.ref b2), .val (.ref b10), .val (.ref b16_8), .val (.int (w0_m4 p2)), .val (.int (w0_m5 p2)), .val (.int (w0_m6 p2)), .val (.int (w0_m7 p2)), .val (.int (w0_m8 p2)), .val (.ref b10), .val (.ref b51), .unset, .unset, .unset] [(.ref b51)])) _
            exact k)
          have K_80 : ∀ t, Steps p.tables e below (T78.setTop (mkF m 173 #[.val (.int p0), .val (.int p1), .val (.int p2), .val (.ref b2), .val (.ref b10), .val (.ref b16_8), .val (.int (w0_m4 p2)), .val (.int (w0_m5 p2)), .val (.int (w0_m6 p2)), .val (.int (w0_m7 p2)), .val (.int (w0_m8 p2)), .val (.ref b10), .val (.ref b51), .unset, .unset, .unset] [(.ref b51)])) t → Steps p.tables e below S0 t := K79
          obtain ⟨cq81, kq81, q81a, q81b, q81c⟩ := isOf hZ rfl Fn78_0
          obtain ⟨_, _, ⟨T81, L81, k81, n81⟩, -, X81, ⟨Lc81, hQ81, l81, y81, z81⟩, st81⟩ := X78.virtualBack hx (y := (⟨"biaxial/cli/Forms$Operand", "isSwitch", "()Z"⟩ : MethodName)) (z := (⟨"biaxial/cli/Forms$Operand", "isSwitch", "()Z"⟩ : MethodName)) hown (mvT hZ (hw _ (List.mem_of_getElem? (i := 66) rfl))) (mvT hZ (hw _ (List.mem_of_getElem? (i := 67) rfl))) (notFace_of_selects (args := #[]) (mvT hZ (hw _ (List.mem_of_getElem? (i := 69) rfl)))) (mvT hZ (hw _ (List.mem_of_getElem? (i := 69) rfl))) (mvT hZ (hw _ (List.mem_of_getElem? (i := 68) rfl))) (by decide) (backOf (W := 0) (rmw1 l Z a0 hw [] b51 b10 T78.heap n0 Zs78 Fn78_1) hZ (hw _ (List.mem_of_getElem? (i := 70) rfl)) (hw _ (List.mem_of_getElem? (i := 46) rfl)) (by decide) (by decide)) q81a q81c (g := (mkF m 173 #[.val (.int p0), .val (.int p1), .val (.int p2), .val (.ref b2), .val (.ref b10), .val (.ref b16_8), .val (.int (w0_m4 p2)), .val (.int (w0_m5 p2)), .val (.int (w0_m6 p2)), .val (.int (w0_m7 p2)), .val (.int (w0_m8 p2)), .val (.ref b10), .val (.ref b51), .unset, .unset, .unset] [(.ref b51)])) rfl (by rw [hml]; rfl) (Steps.refl _) (argsL := []) (rest := []) (lenOf pd0_3 rfl) rfl (by show 2 * 0 + _ ≤ _; exact Nat.le_of_eq rfl) (hb hby at_173) (fun _ _ => ⟨rfl, rfl, (by decide : 6 + 0 ≤ 40), (by decide : 18 + 0 ≤ 1216)⟩)
          dsimp only [Pt.U, Pt.locs, Pt.cells, Pt.slots] at X81 l81 y81 z81 st81 hQ81
          subst l81 y81 z81
          obtain ⟨rfl, N81q, e81⟩ := hQ81
          have N81 := Fr.app N78 N81q
          have K81 : ∀ t, Steps p.tables e below (T81.setTop (mkF m 176 #[.val (.int p0), .val (.int p1), .val (.int p2), .val (.ref b2), .val (.ref b10), .val (.ref b16_8), .val (.int (w0_m4 p2)), .val (.int (w0_m5 p2)), .val (.int (w0_m6 p2)), .val (.int (w0_m7 p2)), .val (.int (w0_m8 p2)), .val (.ref b10), .val (.ref b51), .unset, .unset, .unset] [(.int (0 : Int32))])) t → Steps p.tables e below S0 t := fun t k => K_80 t (st81.trans k)
          have K82 : ∀ t, Steps p.tables e below (T81.setTop (mkF m 178 #[.val (.int p0), .val (.int p1), .val (.int p2), .val (.ref b2), .val (.ref b10), .val (.ref b16_8), .val (.int (w0_m4 p2)), .val (.int (w0_m5 p2)), .val (.int (w0_m6 p2)), .val (.int (w0_m7 p2)), .val (.int (w0_m8 p2)), .val (.ref b10), .val (.ref b51), .unset, .unset, .unset] [(.int (w0_m4 p2)), (.int (0 : Int32))])) t → Steps p.tables e below S0 t := fun t k => K81 t (by
            refine XS.iload X81.here hx rfl (hb hby at_176) rfl ?_
            show Steps p.tables e below (T81.setTop (mkF m 178 #[.val (.int p0), .val (.int p1), .val (.int p2), .val (.ref b2), .val (.ref b10), .val (.ref b16_8), .val (.int (w0_m4 p2)), .val (.int (w0_m5 p2)), .val (.int (w0_m6 p2)), .val (.int (w0_m7 p2)), .val (.int (w0_m8 p2)), .val (.ref b10), .val (.ref b51), .unset, .unset, .unset] [(.int (w0_m4 p2)), (.int (0 : Int32))])) _
            exact k)
          have hf83 : (0 : Int32) = (w0_m4 p2) := hc115_0.symm
          have K84 : ∀ t, Steps p.tables e below (T81.setTop (mkF m 185 #[.val (.int p0), .val (.int p1), .val (.int p2), .val (.ref b2), .val (.ref b10), .val (.ref b16_8), .val (.int (w0_m4 p2)), .val (.int (w0_m5 p2)), .val (.int (w0_m6 p2)), .val (.int (w0_m7 p2)), .val (.int (w0_m8 p2)), .val (.ref b10), .val (.ref b51), .unset, .unset, .unset] [(.ref b51)])) t → Steps p.tables e below S0 t := fun t k => K82 t (by
            refine XS.icmpYes X81.here hx rfl (pc0 := 178) (pc' := 183) rfl (hb hby at_178) rfl (XT.ii_eq_t hf83) (by decide) (by decide) ?_
            show Steps p.tables e below (T81.setTop (mkF m 183 #[.val (.int p0), .val (.int p1), .val (.int p2), .val (.ref b2), .val (.ref b10), .val (.ref b16_8), .val (.int (w0_m4 p2)), .val (.int (w0_m5 p2)), .val (.int (w0_m6 p2)), .val (.int (w0_m7 p2)), .val (.int (w0_m8 p2)), .val (.ref b10), .val (.ref b51), .unset, .unset, .unset] [])) _
            refine XS.aload X81.here hx rfl (hb hby at_183) rfl rfl ?_
            show Steps p.tables e below (T81.setTop (mkF m 185 #[.val (.int p0), .val (.int p1), .val (.int p2), .val (.ref b2), .val (.ref b10), .val (.ref b16_8), .val (.int (w0_m4 p2)), .val (.int (w0_m5 p2)), .val (.int (w0_m6 p2)), .val (.int (w0_m7 p2)), .val (.int (w0_m8 p2)), .val (.ref b10), .val (.ref b51), .unset, .unset, .unset] [(.ref b51)])) _
            exact k)
          have K_85 : ∀ t, Steps p.tables e below (T81.setTop (mkF m 185 #[.val (.int p0), .val (.int p1), .val (.int p2), .val (.ref b2), .val (.ref b10), .val (.ref b16_8), .val (.int (w0_m4 p2)), .val (.int (w0_m5 p2)), .val (.int (w0_m6 p2)), .val (.int (w0_m7 p2)), .val (.int (w0_m8 p2)), .val (.ref b10), .val (.ref b51), .unset, .unset, .unset] [(.ref b51)])) t → Steps p.tables e below S0 t := K84
          obtain ⟨cq86, kq86, q86a, q86b, q86c⟩ := isOf hZ e81 Fn78_0
          obtain ⟨_, _, ⟨T86, L86, k86, n86⟩, -, X86, ⟨Lc86, hQ86, l86, y86, z86⟩, st86⟩ := X81.virtualBack hx (y := (⟨"biaxial/cli/Forms$Operand", "optional", "()Lbiaxial/cli/Forms$Operand;"⟩ : MethodName)) (z := (⟨"biaxial/cli/Forms$Operand", "optional", "()Lbiaxial/cli/Forms$Operand;"⟩ : MethodName)) hown (mvT hZ (hw _ (List.mem_of_getElem? (i := 71) rfl))) (mvT hZ (hw _ (List.mem_of_getElem? (i := 72) rfl))) (notFace_of_selects (args := #[]) (mvT hZ (hw _ (List.mem_of_getElem? (i := 74) rfl)))) (mvT hZ (hw _ (List.mem_of_getElem? (i := 74) rfl))) (mvT hZ (hw _ (List.mem_of_getElem? (i := 73) rfl))) (by decide) (backOf (W := 0) (rmo10 l Z a0 hw [] b51 b10 (nar .boolean (w0_m5 p2)) (nar .boolean (w0_m6 p2)) T78.heap n0 Zs78 Fn78_1 Fn78_2 Fn78_3 Fn78_4 Fn78_5) hZ (hw _ (List.mem_of_getElem? (i := 75) rfl)) (hw _ (List.mem_of_getElem? (i := 46) rfl)) (by decide) (by decide)) q86a q86c (g := (mkF m 185 #[.val (.int p0), .val (.int p1), .val (.int p2), .val (.ref b2), .val (.ref b10), .val (.ref b16_8), .val (.int (w0_m4 p2)), .val (.int (w0_m5 p2)), .val (.int (w0_m6 p2)), .val (.int (w0_m7 p2)), .val (.int (w0_m8 p2)), .val (.ref b10), .val (.ref b51), .unset, .unset, .unset] [(.ref b51)])) rfl (by rw [hml]; rfl) (Steps.refl _) (argsL := []) (rest := []) (lenOf pd0_4 rfl) rfl (by show 2 * 0 + _ ≤ _; exact Nat.le_of_eq rfl) (hb hby at_185) (fun _ _ => ⟨rfl, e81, (by decide : 6 + 1 ≤ 40), (by decide : 18 + 5 ≤ 1216)⟩)
          dsimp only [Pt.U, Pt.locs, Pt.cells, Pt.slots] at X86 l86 y86 z86 st86 hQ86
          subst l86 y86 z86
          obtain ⟨b86_1, rfl, N86q, Kp86, lb_b86_1, Fn86_0, Fn86_1, Fn86_2, Fn86_3, Fn86_4, Fn86_5⟩ := hQ86
          have N86 := Fr.app N81 N86q
          have g_b86_1 : n0 ≤ b86_1 := Nat.le_trans Zs78 lb_b86_1
          have ne_b51_b86_1 : b51 ≠ b86_1 := Nat.ne_of_lt (Nat.lt_of_lt_of_le Fn78_0.lt lb_b86_1)
          have OL86 := OL78.keep Kp86 all0
          have Fn78_0__86 := Fn78_0.keep Kp86
          have Fn78_1__86 := Fn78_1.keep Kp86 nin0
          have Fn78_2__86 := Fn78_2.keep Kp86 nin0
          have Fn78_3__86 := Fn78_3.keep Kp86 nin0
          have Fn78_4__86 := Fn78_4.keep Kp86 nin0
          have Fn78_5__86 := Fn78_5.keep Kp86 nin0
          have Zs86 : n0 ≤ T86.heap.size := Nat.le_trans Zs78 Kp86.1
          have K86 : ∀ t, Steps p.tables e below (T86.setTop (mkF m 188 #[.val (.int p0), .val (.int p1), .val (.int p2), .val (.ref b2), .val (.ref b10), .val (.ref b16_8), .val (.int (w0_m4 p2)), .val (.int (w0_m5 p2)), .val (.int (w0_m6 p2)), .val (.int (w0_m7 p2)), .val (.int (w0_m8 p2)), .val (.ref b10), .val (.ref b51), .unset, .unset, .unset] [(.ref b86_1)])) t → Steps p.tables e below S0 t := fun t k => K_85 t (st86.trans k)
          have K_87 : ∀ t, Steps p.tables e below (T86.setTop (mkF m 188 #[.val (.int p0), .val (.int p1), .val (.int p2), .val (.ref b2), .val (.ref b10), .val (.ref b16_8), .val (.int (w0_m4 p2)), .val (.int (w0_m5 p2)), .val (.int (w0_m6 p2)), .val (.int (w0_m7 p2)), .val (.int (w0_m8 p2)), .val (.ref b10), .val (.ref b51), .unset, .unset, .unset] [(.ref b86_1)])) t → Steps p.tables e below S0 t := K86
          obtain ⟨cq88, kq88, q88a, q88b, q88c⟩ := isOf hZ rfl Fn86_0
          obtain ⟨_, _, ⟨T88, L88, k88, n88⟩, -, X88, ⟨Lc88, hQ88, l88, y88, z88⟩, st88⟩ := X86.virtualBack hx (y := (⟨"biaxial/cli/Forms$Operand", "isSwitch", "()Z"⟩ : MethodName)) (z := (⟨"biaxial/cli/Forms$Operand", "isSwitch", "()Z"⟩ : MethodName)) hown (mvT hZ (hw _ (List.mem_of_getElem? (i := 66) rfl))) (mvT hZ (hw _ (List.mem_of_getElem? (i := 67) rfl))) (notFace_of_selects (args := #[]) (mvT hZ (hw _ (List.mem_of_getElem? (i := 69) rfl)))) (mvT hZ (hw _ (List.mem_of_getElem? (i := 69) rfl))) (mvT hZ (hw _ (List.mem_of_getElem? (i := 68) rfl))) (by decide) (backOf (W := 0) (rmw1 l Z a0 hw [] b86_1 b10 T86.heap n0 Zs86 Fn86_1) hZ (hw _ (List.mem_of_getElem? (i := 70) rfl)) (hw _ (List.mem_of_getElem? (i := 46) rfl)) (by decide) (by decide)) q88a q88c (g := (mkF m 188 #[.val (.int p0), .val (.int p1), .val (.int p2), .val (.ref b2), .val (.ref b10), .val (.ref b16_8), .val (.int (w0_m4 p2)), .val (.int (w0_m5 p2)), .val (.int (w0_m6 p2)), .val (.int (w0_m7 p2)), .val (.int (w0_m8 p2)), .val (.ref b10), .val (.ref b51), .unset, .unset, .unset] [(.ref b86_1)])) rfl (by rw [hml]; rfl) (Steps.refl _) (argsL := []) (rest := []) (lenOf pd0_3 rfl) rfl (by show 2 * 0 + _ ≤ _; exact Nat.le_of_eq rfl) (hb hby at_188) (fun _ _ => ⟨rfl, rfl, (by decide : 7 + 0 ≤ 40), (by decide : 23 + 0 ≤ 1216)⟩)
          dsimp only [Pt.U, Pt.locs, Pt.cells, Pt.slots] at X88 l88 y88 z88 st88 hQ88
          subst l88 y88 z88
          obtain ⟨rfl, N88q, e88⟩ := hQ88
          have N88 := Fr.app N86 N88q
          have K88 : ∀ t, Steps p.tables e below (T88.setTop (mkF m 191 #[.val (.int p0), .val (.int p1), .val (.int p2), .val (.ref b2), .val (.ref b10), .val (.ref b16_8), .val (.int (w0_m4 p2)), .val (.int (w0_m5 p2)), .val (.int (w0_m6 p2)), .val (.int (w0_m7 p2)), .val (.int (w0_m8 p2)), .val (.ref b10), .val (.ref b51), .unset, .unset, .unset] [(.int (0 : Int32))])) t → Steps p.tables e below S0 t := fun t k => K_87 t (st88.trans k)
          have K89 : ∀ t, Steps p.tables e below (T88.setTop (mkF m 193 #[.val (.int p0), .val (.int p1), .val (.int p2), .val (.ref b2), .val (.ref b10), .val (.ref b16_8), .val (.int (w0_m4 p2)), .val (.int (w0_m5 p2)), .val (.int (w0_m6 p2)), .val (.int (w0_m7 p2)), .val (.int (w0_m8 p2)), .val (.ref b10), .val (.ref b51), .unset, .unset, .unset] [(.int (w0_m4 p2)), (.int (0 : Int32))])) t → Steps p.tables e below S0 t := fun t k => K88 t (by
            refine XS.iload X88.here hx rfl (hb hby at_191) rfl ?_
            show Steps p.tables e below (T88.setTop (mkF m 193 #[.val (.int p0), .val (.int p1), .val (.int p2), .val (.ref b2), .val (.ref b10), .val (.ref b16_8), .val (.int (w0_m4 p2)), .val (.int (w0_m5 p2)), .val (.int (w0_m6 p2)), .val (.int (w0_m7 p2)), .val (.int (w0_m8 p2)), .val (.ref b10), .val (.ref b51), .unset, .unset, .unset] [(.int (w0_m4 p2)), (.int (0 : Int32))])) _
            exact k)
          have hf90 : (0 : Int32) = (w0_m4 p2) := hc115_0.symm
          have K91 : ∀ t, Steps p.tables e below (T88.setTop (mkF m 200 #[.val (.int p0), .val (.int p1), .val (.int p2), .val (.ref b2), .val (.ref b10), .val (.ref b16_8), .val (.int (w0_m4 p2)), .val (.int (w0_m5 p2)), .val (.int (w0_m6 p2)), .val (.int (w0_m7 p2)), .val (.int (w0_m8 p2)), .val (.ref b10), .val (.ref b51), .unset, .unset, .unset] [(.ref b51)])) t → Steps p.tables e below S0 t := fun t k => K89 t (by
            refine XS.icmpYes X88.here hx rfl (pc0 := 193) (pc' := 198) rfl (hb hby at_193) rfl (XT.ii_eq_t hf90) (by decide) (by decide) ?_
            show Steps p.tables e below (T88.setTop (mkF m 198 #[.val (.int p0), .val (.int p1), .val (.int p2), .val (.ref b2), .val (.ref b10), .val (.ref b16_8), .val (.int (w0_m4 p2)), .val (.int (w0_m5 p2)), .val (.int (w0_m6 p2)), .val (.int (w0_m7 p2)), .val (.int (w0_m8 p2)), .val (.ref b10), .val (.ref b51), .unset, .unset, .unset] [])) _
            refine XS.aload X88.here hx rfl (hb hby at_198) rfl rfl ?_
            show Steps p.tables e below (T88.setTop (mkF m 200 #[.val (.int p0), .val (.int p1), .val (.int p2), .val (.ref b2), .val (.ref b10), .val (.ref b16_8), .val (.int (w0_m4 p2)), .val (.int (w0_m5 p2)), .val (.int (w0_m6 p2)), .val (.int (w0_m7 p2)), .val (.int (w0_m8 p2)), .val (.ref b10), .val (.ref b51), .unset, .unset, .unset] [(.ref b51)])) _
            exact k)
          have K_92 : ∀ t, Steps p.tables e below (T88.setTop (mkF m 200 #[.val (.int p0), .val (.int p1), .val (.int p2), .val (.ref b2), .val (.ref b10), .val (.ref b16_8), .val (.int (w0_m4 p2)), .val (.int (w0_m5 p2)), .val (.int (w0_m6 p2)), .val (.int (w0_m7 p2)), .val (.int (w0_m8 p2)), .val (.ref b10), .val (.ref b51), .unset, .unset, .unset] [(.ref b51)])) t → Steps p.tables e below S0 t := K91
          obtain ⟨cq93, kq93, q93a, q93b, q93c⟩ := isOf hZ e88 Fn78_0__86
          obtain ⟨_, _, ⟨T93, L93, k93, n93⟩, -, X93, ⟨Lc93, hQ93, l93, y93, z93⟩, st93⟩ := X88.virtualBack hx (y := (⟨"biaxial/cli/Forms$Operand", "repeats", "()Lbiaxial/cli/Forms$Operand;"⟩ : MethodName)) (z := (⟨"biaxial/cli/Forms$Operand", "repeats", "()Lbiaxial/cli/Forms$Operand;"⟩ : MethodName)) hown (mvT hZ (hw _ (List.mem_of_getElem? (i := 78) rfl))) (mvT hZ (hw _ (List.mem_of_getElem? (i := 79) rfl))) (notFace_of_selects (args := #[]) (mvT hZ (hw _ (List.mem_of_getElem? (i := 81) rfl)))) (mvT hZ (hw _ (List.mem_of_getElem? (i := 81) rfl))) (mvT hZ (hw _ (List.mem_of_getElem? (i := 80) rfl))) (by decide) (backOf (W := 0) (rmr10 l Z a0 hw [] b51 b10 (nar .boolean (w0_m5 p2)) (nar .boolean (w0_m6 p2)) T86.heap n0 Zs86 Fn78_1__86 Fn78_2__86 Fn78_3__86 Fn78_4__86 Fn78_5__86) hZ (hw _ (List.mem_of_getElem? (i := 82) rfl)) (hw _ (List.mem_of_getElem? (i := 46) rfl)) (by decide) (by decide)) q93a q93c (g := (mkF m 200 #[.val (.int p0), .val (.int p1), .val (.int p2), .val (.ref b2), .val (.ref b10), .val (.ref b16_8), .val (.int (w0_m4 p2)), .val (.int (w0_m5 p2)), .val (.int (w0_m6 p2)), .val (.int (w0_m7 p2)), .val (.int (w0_m8 p2)), .val (.ref b10), .val (.ref b51), .unset, .unset, .unset] [(.ref b51)])) rfl (by rw [hml]; rfl) (Steps.refl _) (argsL := []) (rest := []) (lenOf pd0_4 rfl) rfl (by show 2 * 0 + _ ≤ _; exact Nat.le_of_eq rfl) (hb hby at_200) (fun _ _ => ⟨rfl, e88, (by decide : 7 + 1 ≤ 40), (by decide : 23 + 5 ≤ 1216)⟩)
          dsimp only [Pt.U, Pt.locs, Pt.cells, Pt.slots] at X93 l93 y93 z93 st93 hQ93
          subst l93 y93 z93
          obtain ⟨b93_1, rfl, N93q, Kp93, lb_b93_1, Fn93_0, Fn93_1, Fn93_2, Fn93_3, Fn93_4, Fn93_5⟩ := hQ93
          have N93 := Fr.app N88 N93q
          have g_b93_1 : n0 ≤ b93_1 := Nat.le_trans Zs86 lb_b93_1
          have ne_b51_b93_1 : b51 ≠ b93_1 := Nat.ne_of_lt (Nat.lt_of_lt_of_le Fn78_0__86.lt lb_b93_1)
          have OL93 := OL86.keep Kp93 all0
          have Fn78_0__93 := Fn78_0__86.keep Kp93
          have Fn78_1__93 := Fn78_1__86.keep Kp93 nin0
          have Fn78_2__93 := Fn78_2__86.keep Kp93 nin0
          have Fn78_3__93 := Fn78_3__86.keep Kp93 nin0
          have Fn78_4__93 := Fn78_4__86.keep Kp93 nin0
          have Fn78_5__93 := Fn78_5__86.keep Kp93 nin0
          have Zs93 : n0 ≤ T93.heap.size := Nat.le_trans Zs86 Kp93.1
          have K93 : ∀ t, Steps p.tables e below (T93.setTop (mkF m 203 #[.val (.int p0), .val (.int p1), .val (.int p2), .val (.ref b2), .val (.ref b10), .val (.ref b16_8), .val (.int (w0_m4 p2)), .val (.int (w0_m5 p2)), .val (.int (w0_m6 p2)), .val (.int (w0_m7 p2)), .val (.int (w0_m8 p2)), .val (.ref b10), .val (.ref b51), .unset, .unset, .unset] [(.ref b93_1)])) t → Steps p.tables e below S0 t := fun t k => K_92 t (st93.trans k)
          have K_94 : ∀ t, Steps p.tables e below (T93.setTop (mkF m 203 #[.val (.int p0), .val (.int p1), .val (.int p2), .val (.ref b2), .val (.ref b10), .val (.ref b16_8), .val (.int (w0_m4 p2)), .val (.int (w0_m5 p2)), .val (.int (w0_m6 p2)), .val (.int (w0_m7 p2)), .val (.int (w0_m8 p2)), .val (.ref b10), .val (.ref b51), .unset, .unset, .unset] [(.ref b93_1)])) t → Steps p.tables e below S0 t := K93
          obtain ⟨cq95, kq95, q95a, q95b, q95c⟩ := isOf hZ rfl Fn93_0
          obtain ⟨_, _, ⟨T95, L95, k95, n95⟩, -, X95, ⟨Lc95, hQ95, l95, y95, z95⟩, st95⟩ := X93.virtualBack hx (y := (⟨"biaxial/cli/Forms$Operand", "isSwitch", "()Z"⟩ : MethodName)) (z := (⟨"biaxial/cli/Forms$Operand", "isSwitch", "()Z"⟩ : MethodName)) hown (mvT hZ (hw _ (List.mem_of_getElem? (i := 66) rfl))) (mvT hZ (hw _ (List.mem_of_getElem? (i := 67) rfl))) (notFace_of_selects (args := #[]) (mvT hZ (hw _ (List.mem_of_getElem? (i := 69) rfl)))) (mvT hZ (hw _ (List.mem_of_getElem? (i := 69) rfl))) (mvT hZ (hw _ (List.mem_of_getElem? (i := 68) rfl))) (by decide) (backOf (W := 0) (rmw1 l Z a0 hw [] b93_1 b10 T93.heap n0 Zs93 Fn93_1) hZ (hw _ (List.mem_of_getElem? (i := 70) rfl)) (hw _ (List.mem_of_getElem? (i := 46) rfl)) (by decide) (by decide)) q95a q95c (g := (mkF m 203 #[.val (.int p0), .val (.int p1), .val (.int p2), .val (.ref b2), .val (.ref b10), .val (.ref b16_8), .val (.int (w0_m4 p2)), .val (.int (w0_m5 p2)), .val (.int (w0_m6 p2)), .val (.int (w0_m7 p2)), .val (.int (w0_m8 p2)), .val (.ref b10), .val (.ref b51), .unset, .unset, .unset] [(.ref b93_1)])) rfl (by rw [hml]; rfl) (Steps.refl _) (argsL := []) (rest := []) (lenOf pd0_3 rfl) rfl (by show 2 * 0 + _ ≤ _; exact Nat.le_of_eq rfl) (hb hby at_203) (fun _ _ => ⟨rfl, rfl, (by decide : 8 + 0 ≤ 40), (by decide : 28 + 0 ≤ 1216)⟩)
          dsimp only [Pt.U, Pt.locs, Pt.cells, Pt.slots] at X95 l95 y95 z95 st95 hQ95
          subst l95 y95 z95
          obtain ⟨rfl, N95q, e95⟩ := hQ95
          have N95 := Fr.app N93 N95q
          have K95 : ∀ t, Steps p.tables e below (T95.setTop (mkF m 206 #[.val (.int p0), .val (.int p1), .val (.int p2), .val (.ref b2), .val (.ref b10), .val (.ref b16_8), .val (.int (w0_m4 p2)), .val (.int (w0_m5 p2)), .val (.int (w0_m6 p2)), .val (.int (w0_m7 p2)), .val (.int (w0_m8 p2)), .val (.ref b10), .val (.ref b51), .unset, .unset, .unset] [(.int (0 : Int32))])) t → Steps p.tables e below S0 t := fun t k => K_94 t (st95.trans k)
          have K96 : ∀ t, Steps p.tables e below (T95.setTop (mkF m 208 #[.val (.int p0), .val (.int p1), .val (.int p2), .val (.ref b2), .val (.ref b10), .val (.ref b16_8), .val (.int (w0_m4 p2)), .val (.int (w0_m5 p2)), .val (.int (w0_m6 p2)), .val (.int (w0_m7 p2)), .val (.int (w0_m8 p2)), .val (.ref b10), .val (.ref b51), .unset, .unset, .unset] [(.int (w0_m4 p2)), (.int (0 : Int32))])) t → Steps p.tables e below S0 t := fun t k => K95 t (by
            refine XS.iload X95.here hx rfl (hb hby at_206) rfl ?_
            show Steps p.tables e below (T95.setTop (mkF m 208 #[.val (.int p0), .val (.int p1), .val (.int p2), .val (.ref b2), .val (.ref b10), .val (.ref b16_8), .val (.int (w0_m4 p2)), .val (.int (w0_m5 p2)), .val (.int (w0_m6 p2)), .val (.int (w0_m7 p2)), .val (.int (w0_m8 p2)), .val (.ref b10), .val (.ref b51), .unset, .unset, .unset] [(.int (w0_m4 p2)), (.int (0 : Int32))])) _
            exact k)
          have hf97 : (0 : Int32) = (w0_m4 p2) := hc115_0.symm
          have K98 : ∀ t, Steps p.tables e below (T95.setTop (mkF m 213 #[.val (.int p0), .val (.int p1), .val (.int p2), .val (.ref b2), .val (.ref b10), .val (.ref b16_8), .val (.int (w0_m4 p2)), .val (.int (w0_m5 p2)), .val (.int (w0_m6 p2)), .val (.int (w0_m7 p2)), .val (.int (w0_m8 p2)), .val (.ref b10), .val (.ref b51), .unset, .unset, .unset] [])) t → Steps p.tables e below S0 t := fun t k => K96 t (by
            refine XS.icmpYes X95.here hx rfl (pc0 := 208) (pc' := 213) rfl (hb hby at_208) rfl (XT.ii_eq_t hf97) (by decide) (by decide) ?_
            show Steps p.tables e below (T95.setTop (mkF m 213 #[.val (.int p0), .val (.int p1), .val (.int p2), .val (.ref b2), .val (.ref b10), .val (.ref b16_8), .val (.int (w0_m4 p2)), .val (.int (w0_m5 p2)), .val (.int (w0_m6 p2)), .val (.int (w0_m7 p2)), .val (.int (w0_m8 p2)), .val (.ref b10), .val (.ref b51), .unset, .unset, .unset] [])) _
            exact k)
          exact ⟨T95, s.vm, 0, _, .val (.ref b10), .val (.ref b51), { X95 with same := X95.same.mono (by decide) (by decide) }, N95, (State.WarmedH.since (State.WarmedH.refl s) 0), (Nat.zero_le _), (by rw [e95]; exact Zs93), hZ, hown, (by rw [e95]; exact OL93), One.val rfl, One.val rfl, fun t k => K98 t k⟩
      · -- no
        have K99 : ∀ t, Steps p.tables e below (T42.setTop (mkF m 127 #[.val (.int p0), .val (.int p1), .val (.int p2), .val (.ref b2), .val (.ref b10), .val (.ref b16_8), .val (.int (w0_m4 p2)), .val (.int (w0_m5 p2)), .val (.int (w0_m6 p2)), .val (.int (w0_m7 p2)), .val (.int (w0_m8 p2)), .unset, .unset, .unset, .unset, .unset] [])) t → Steps p.tables e below S0 t := fun t k => K49 t (by
          refine XS.ifNo X42.here hx rfl (hb hby at_124) rfl (XT.i0_eq_f hc124_1) ?_
          show Steps p.tables e below (T42.setTop (mkF m 127 #[.val (.int p0), .val (.int p1), .val (.int p2), .val (.ref b2), .val (.ref b10), .val (.ref b16_8), .val (.int (w0_m4 p2)), .val (.int (w0_m5 p2)), .val (.int (w0_m6 p2)), .val (.int (w0_m7 p2)), .val (.int (w0_m8 p2)), .unset, .unset, .unset, .unset, .unset] [])) _
          exact k)
        obtain ⟨T100, h100, X100, e100, E100, A100, D100, -, st100⟩ := newO X42 hx hZ hown (hw _ (List.mem_of_getElem? (i := 1) rfl)) (hw _ (List.mem_of_getElem? (i := 2) rfl)) (hw _ (List.mem_of_getElem? (i := 3) rfl)) e42 (g := (mkF m 127 #[.val (.int p0), .val (.int p1), .val (.int p2), .val (.ref b2), .val (.ref b10), .val (.ref b16_8), .val (.int (w0_m4 p2)), .val (.int (w0_m5 p2)), .val (.int (w0_m6 p2)), .val (.int (w0_m7 p2)), .val (.int (w0_m8 p2)), .unset, .unset, .unset, .unset, .unset] [])) rfl (hb hby at_127) (by decide) (by decide)
        obtain ⟨b100, g100⟩ : ∃ z, z = T16.heap.size := ⟨_, rfl⟩
        rw [← g100] at A100 D100 st100
        have OL100 := OL16.ext E100
        have g_b100 : n0 ≤ b100 := Nat.le_trans Zs16 (Nat.le_of_eq g100.symm)
        have Zs100 : n0 ≤ h100.size := Nat.le_trans Zs16 E100.1
        have F_b100_coder : Fld Z h100 b100 "java/lang/String" "coder" "B" (.int (0 : Int32)) := D100 (Or.inr (hw _ (List.mem_of_getElem? (i := 27) rfl))) (ty := .byte) (by decide)
        have F_b100_value : Fld Z h100 b100 "java/lang/String" "value" "[B" .null := D100 (Or.inr (hw _ (List.mem_of_getElem? (i := 29) rfl))) (ty := (.array .byte)) (by decide)
        have K100 : ∀ t, Steps p.tables e below (T100.setTop (mkF m 130 #[.val (.int p0), .val (.int p1), .val (.int p2), .val (.ref b2), .val (.ref b10), .val (.ref b16_8), .val (.int (w0_m4 p2)), .val (.int (w0_m5 p2)), .val (.int (w0_m6 p2)), .val (.int (w0_m7 p2)), .val (.int (w0_m8 p2)), .unset, .unset, .unset, .unset, .unset] [(.ref b100)])) t → Steps p.tables e below S0 t := fun t k => K99 t (st100 t k)
        have K101 : ∀ t, Steps p.tables e below (T100.setTop (mkF m 132 #[.val (.int p0), .val (.int p1), .val (.int p2), .val (.ref b2), .val (.ref b10), .val (.ref b16_8), .val (.int (w0_m4 p2)), .val (.int (w0_m5 p2)), .val (.int (w0_m6 p2)), .val (.int (w0_m7 p2)), .val (.int (w0_m8 p2)), .unset, .unset, .unset, .unset, .unset] [(.int (0 : Int32)), (.ref b100), (.ref b100)])) t → Steps p.tables e below S0 t := fun t k => K100 t (by
          refine XS.dup X100.here hx rfl (hb hby at_130) rfl rfl ?_
          show Steps p.tables e below (T100.setTop (mkF m 131 #[.val (.int p0), .val (.int p1), .val (.int p2), .val (.ref b2), .val (.ref b10), .val (.ref b16_8), .val (.int (w0_m4 p2)), .val (.int (w0_m5 p2)), .val (.int (w0_m6 p2)), .val (.int (w0_m7 p2)), .val (.int (w0_m8 p2)), .unset, .unset, .unset, .unset, .unset] [(.ref b100), (.ref b100)])) _
          refine XS.iconst X100.here hx rfl (hb hby at_131) ?_
          show Steps p.tables e below (T100.setTop (mkF m 132 #[.val (.int p0), .val (.int p1), .val (.int p2), .val (.ref b2), .val (.ref b10), .val (.ref b16_8), .val (.int (w0_m4 p2)), .val (.int (w0_m5 p2)), .val (.int (w0_m6 p2)), .val (.int (w0_m7 p2)), .val (.int (w0_m8 p2)), .unset, .unset, .unset, .unset, .unset] [(.int (0 : Int32)), (.ref b100), (.ref b100)])) _
          exact k)
        obtain ⟨T102, h102, k102, X102, e102, E102, A102, st102⟩ := newP X100 hx hZ (hw _ (List.mem_of_getElem? (i := 0) rfl)) e100 (g := (mkF m 132 #[.val (.int p0), .val (.int p1), .val (.int p2), .val (.ref b2), .val (.ref b10), .val (.ref b16_8), .val (.int (w0_m4 p2)), .val (.int (w0_m5 p2)), .val (.int (w0_m6 p2)), .val (.int (w0_m7 p2)), .val (.int (w0_m8 p2)), .unset, .unset, .unset, .unset, .unset] [(.int (0 : Int32)), (.ref b100), (.ref b100)])) rfl (hb hby at_132) rfl (by decide) (cap := 0) (by decide) (by decide) (by decide) (by decide)
        obtain ⟨b102, g102⟩ : ∃ z, z = h100.size := ⟨_, rfl⟩
        rw [← g102] at A102 st102
        have ne_b100_b102 : b100 ≠ b102 := Nat.ne_of_lt (Nat.lt_of_lt_of_le A100.lt (Nat.le_of_eq g102.symm))
        have OL102 := OL100.ext E102
        have A100__102 := A100.ext E102
        have F_b100_coder__102 := F_b100_coder.ext E102
        have F_b100_value__102 := F_b100_value.ext E102
        have g_b102 : n0 ≤ b102 := Nat.le_trans Zs100 (Nat.le_of_eq g102.symm)
        have Zs102 : n0 ≤ h102.size := Nat.le_trans Zs100 E102.1
        have V_b102 := Arv.new A102 (by decide)
        have K102 : ∀ t, Steps p.tables e below (T102.setTop (mkF m 134 #[.val (.int p0), .val (.int p1), .val (.int p2), .val (.ref b2), .val (.ref b10), .val (.ref b16_8), .val (.int (w0_m4 p2)), .val (.int (w0_m5 p2)), .val (.int (w0_m6 p2)), .val (.int (w0_m7 p2)), .val (.int (w0_m8 p2)), .unset, .unset, .unset, .unset, .unset] [(.ref b102), (.ref b100), (.ref b100)])) t → Steps p.tables e below S0 t := fun t k => K101 t (st102 t k)
        have K_103 : ∀ t, Steps p.tables e below (T102.setTop (mkF m 134 #[.val (.int p0), .val (.int p1), .val (.int p2), .val (.ref b2), .val (.ref b10), .val (.ref b16_8), .val (.int (w0_m4 p2)), .val (.int (w0_m5 p2)), .val (.int (w0_m6 p2)), .val (.int (w0_m7 p2)), .val (.int (w0_m8 p2)), .unset, .unset, .unset, .unset, .unset] [(.ref b102), (.ref b100), (.ref b100)])) t → Steps p.tables e below S0 t := K102
        obtain ⟨_, _, ⟨T104, L104, k104, n104⟩, -, X104, hS104, hgr104, ⟨Lc104, hQ104, l104, y104, z104⟩, st104⟩ := X102.specialBackS hx (y := (⟨"java/lang/String", "<init>", "([C)V"⟩ : MethodName)) rfl hown (mvT hZ (hw _ (List.mem_of_getElem? (i := 4) rfl))) (mvT hZ (hw _ (List.mem_of_getElem? (i := 5) rfl))) (mvT hZ (hw _ (List.mem_of_getElem? (i := 6) rfl))) (by decide) (own_backOfI (W := 1) (rmzi l Z a0 hw [] b100 b102 k102 h102 n0 Zs102 A100__102 F_b100_value__102 F_b100_coder__102 g_b100 V_b102 OL102 hcs hcw ne_b100_b102) hZ hI (hw _ (List.mem_of_getElem? (i := 6) rfl)) (hw _ (List.mem_of_getElem? (i := 3) rfl)) (by decide) (by decide)) (g := (mkF m 134 #[.val (.int p0), .val (.int p1), .val (.int p2), .val (.ref b2), .val (.ref b10), .val (.ref b16_8), .val (.int (w0_m4 p2)), .val (.int (w0_m5 p2)), .val (.int (w0_m6 p2)), .val (.int (w0_m7 p2)), .val (.int (w0_m8 p2)), .unset, .unset, .unset, .unset, .unset] [(.ref b102), (.ref b100), (.ref b100)])) rfl (by rw [hml]; rfl) (Steps.refl _) (a := b100) (argsL := [(.ref b102)]) (rest := [(.ref b100)]) (lenOf pd0_0 rfl) rfl (by show 2 * 0 + _ ≤ _; exact Nat.le_of_eq rfl) (hb hby at_134) (fun _ _ => ⟨rfl, e102, (by decide : 7 + 2 ≤ 40), (by decide : 17 + 4 ≤ 1216)⟩)
        dsimp only [Pt.U] at hS104 hgr104
        dsimp only [Pt.U, Pt.locs, Pt.cells, Pt.slots] at X104 l104 y104 z104 st104 hQ104
        subst l104 y104 z104
        obtain ⟨rfl, N104q, Kp104, Fn104_0, Fn104_1⟩ := hQ104
        have N104 := Fr.app N42 N104q
        have OL104 := OL102.keep Kp104 (allS (P := fun x => n0 ≤ x) g_b100 all0)
        have V_b102__104 := V_b102.keep Kp104 (ninS (Ne.symm ne_b100_b102) nin0)
        have Zs104 : n0 ≤ T104.heap.size := Nat.le_trans Zs102 Kp104.1
        have hZ : Z.Warmed39 (s.setVm T104.vm).vm := State.Warmed39.trans hZ hS104.1
        have hown : (s.setVm T104.vm).vm.findClass "biaxial/cli/OperandIsSwitchPinLaw" = some m.cls := (hS104.1.alike.findClass _ _).trans hown
        have K104 : ∀ t, Steps p.tables e below (T104.setTop (mkF m 137 #[.val (.int p0), .val (.int p1), .val (.int p2), .val (.ref b2), .val (.ref b10), .val (.ref b16_8), .val (.int (w0_m4 p2)), .val (.int (w0_m5 p2)), .val (.int (w0_m6 p2)), .val (.int (w0_m7 p2)), .val (.int (w0_m8 p2)), .unset, .unset, .unset, .unset, .unset] [(.ref b100)])) t → Steps p.tables e below S0 t := fun t k => K_103 t (st104.trans k)
        have K105 : ∀ t, Steps p.tables e below (T104.setTop (mkF m 144 #[.val (.int p0), .val (.int p1), .val (.int p2), .val (.ref b2), .val (.ref b10), .val (.ref b16_8), .val (.int (w0_m4 p2)), .val (.int (w0_m5 p2)), .val (.int (w0_m6 p2)), .val (.int (w0_m7 p2)), .val (.int (w0_m8 p2)), .val (.ref b100), .unset, .unset, .unset, .unset] [])) t → Steps p.tables e below S0 t := fun t k => K104 t (by
          refine XS.goto X104.here hx rfl (pc0 := 137) (pc' := 142) rfl (hb hby at_137) (by decide) (by decide) ?_
          show Steps p.tables e below (T104.setTop (mkF m 142 #[.val (.int p0), .val (.int p1), .val (.int p2), .val (.ref b2), .val (.ref b10), .val (.ref b16_8), .val (.int (w0_m4 p2)), .val (.int (w0_m5 p2)), .val (.int (w0_m6 p2)), .val (.int (w0_m7 p2)), .val (.int (w0_m8 p2)), .unset, .unset, .unset, .unset, .unset] [(.ref b100)])) _
          refine XS.astore X104.here hx rfl (hb hby at_142) rfl rfl (l' := #[.val (.int p0), .val (.int p1), .val (.int p2), .val (.ref b2), .val (.ref b10), .val (.ref b16_8), .val (.int (w0_m4 p2)), .val (.int (w0_m5 p2)), .val (.int (w0_m6 p2)), .val (.int (w0_m7 p2)), .val (.int (w0_m8 p2)), .val (.ref b100), .unset, .unset, .unset, .unset]) rfl ?_
          show Steps p.tables e below (T104.setTop (mkF m 144 #[.val (.int p0), .val (.int p1), .val (.int p2), .val (.ref b2), .val (.ref b10), .val (.ref b16_8), .val (.int (w0_m4 p2)), .val (.int (w0_m5 p2)), .val (.int (w0_m6 p2)), .val (.int (w0_m7 p2)), .val (.int (w0_m8 p2)), .val (.ref b100), .unset, .unset, .unset, .unset] [])) _
          exact k)
        obtain ⟨T106, h106, X106, e106, E106, A106, D106, -, st106⟩ := newO X104 hx hZ hown (hw _ (List.mem_of_getElem? (i := 44) rfl)) (hw _ (List.mem_of_getElem? (i := 45) rfl)) (hw _ (List.mem_of_getElem? (i := 46) rfl)) rfl (g := (mkF m 144 #[.val (.int p0), .val (.int p1), .val (.int p2), .val (.ref b2), .val (.ref b10), .val (.ref b16_8), .val (.int (w0_m4 p2)), .val (.int (w0_m5 p2)), .val (.int (w0_m6 p2)), .val (.int (w0_m7 p2)), .val (.int (w0_m8 p2)), .val (.ref b100), .unset, .unset, .unset, .unset] [])) rfl (hb hby at_144) (by decide) (by decide)
        obtain ⟨b106, g106⟩ : ∃ z, z = T104.heap.size := ⟨_, rfl⟩
        rw [← g106] at A106 D106 st106
        have ne_b100_b106 : b100 ≠ b106 := Nat.ne_of_lt (Nat.lt_of_lt_of_le Fn104_0.lt (Nat.le_of_eq g106.symm))
        have ne_b102_b106 : b102 ≠ b106 := Nat.ne_of_lt (Nat.lt_of_lt_of_le V_b102__104.lt (Nat.le_of_eq g106.symm))
        have OL106 := OL104.ext E106
        have Fn104_0__106 := Fn104_0.ext E106
        have Fn104_1__106 := Fn104_1.ext E106
        have V_b102__106 := V_b102__104.ext E106
        have g_b106 : n0 ≤ b106 := Nat.le_trans Zs104 (Nat.le_of_eq g106.symm)
        have Zs106 : n0 ≤ h106.size := Nat.le_trans Zs104 E106.1
        have Zk106 : T104.heap.size ≤ h106.size := Nat.le_trans (Nat.le_refl _) E106.1
        have F_b106_name : Fld Z h106 b106 "biaxial/cli/Forms$Operand" "name" "Ljava/lang/String;" .null := D106 (Or.inr (hw _ (List.mem_of_getElem? (i := 57) rfl))) (ty := (.object "java/lang/String")) (by decide)
        have F_b106_kind : Fld Z h106 b106 "biaxial/cli/Forms$Operand" "kind" "Lbiaxial/cli/Forms$Kind;" .null := D106 (Or.inr (hw _ (List.mem_of_getElem? (i := 59) rfl))) (ty := (.object "biaxial/cli/Forms$Kind")) (by decide)
        have F_b106_required : Fld Z h106 b106 "biaxial/cli/Forms$Operand" "required" "Z" (.int (0 : Int32)) := D106 (Or.inr (hw _ (List.mem_of_getElem? (i := 61) rfl))) (ty := .boolean) (by decide)
        have F_b106_repeated : Fld Z h106 b106 "biaxial/cli/Forms$Operand" "repeated" "Z" (.int (0 : Int32)) := D106 (Or.inr (hw _ (List.mem_of_getElem? (i := 63) rfl))) (ty := .boolean) (by decide)
        have F_b106_flag : Fld Z h106 b106 "biaxial/cli/Forms$Operand" "flag" "Ljava/lang/String;" .null := D106 (Or.inr (hw _ (List.mem_of_getElem? (i := 65) rfl))) (ty := (.object "java/lang/String")) (by decide)
        have K106 : ∀ t, Steps p.tables e below (T106.setTop (mkF m 147 #[.val (.int p0), .val (.int p1), .val (.int p2), .val (.ref b2), .val (.ref b10), .val (.ref b16_8), .val (.int (w0_m4 p2)), .val (.int (w0_m5 p2)), .val (.int (w0_m6 p2)), .val (.int (w0_m7 p2)), .val (.int (w0_m8 p2)), .val (.ref b100), .unset, .unset, .unset, .unset] [(.ref b106)])) t → Steps p.tables e below S0 t := fun t k => K105 t (st106 t k)
        have K107 : ∀ t, Steps p.tables e below (T106.setTop (mkF m 157 #[.val (.int p0), .val (.int p1), .val (.int p2), .val (.ref b2), .val (.ref b10), .val (.ref b16_8), .val (.int (w0_m4 p2)), .val (.int (w0_m5 p2)), .val (.int (w0_m6 p2)), .val (.int (w0_m7 p2)), .val (.int (w0_m8 p2)), .val (.ref b100), .unset, .unset, .unset, .unset] [(.int (w0_m7 p2)), (.int (w0_m6 p2)), (.int (w0_m5 p2)), .null, (.ref b100), (.ref b106), (.ref b106)])) t → Steps p.tables e below S0 t := fun t k => K106 t (by
          refine XS.dup X106.here hx rfl (hb hby at_147) rfl rfl ?_
          show Steps p.tables e below (T106.setTop (mkF m 148 #[.val (.int p0), .val (.int p1), .val (.int p2), .val (.ref b2), .val (.ref b10), .val (.ref b16_8), .val (.int (w0_m4 p2)), .val (.int (w0_m5 p2)), .val (.int (w0_m6 p2)), .val (.int (w0_m7 p2)), .val (.int (w0_m8 p2)), .val (.ref b100), .unset, .unset, .unset, .unset] [(.ref b106), (.ref b106)])) _
          refine XS.aload X106.here hx rfl (hb hby at_148) rfl rfl ?_
          show Steps p.tables e below (T106.setTop (mkF m 150 #[.val (.int p0), .val (.int p1), .val (.int p2), .val (.ref b2), .val (.ref b10), .val (.ref b16_8), .val (.int (w0_m4 p2)), .val (.int (w0_m5 p2)), .val (.int (w0_m6 p2)), .val (.int (w0_m7 p2)), .val (.int (w0_m8 p2)), .val (.ref b100), .unset, .unset, .unset, .unset] [(.ref b100), (.ref b106), (.ref b106)])) _
          refine XS.aconstNull X106.here hx rfl (hb hby at_150) ?_
          show Steps p.tables e below (T106.setTop (mkF m 151 #[.val (.int p0), .val (.int p1), .val (.int p2), .val (.ref b2), .val (.ref b10), .val (.ref b16_8), .val (.int (w0_m4 p2)), .val (.int (w0_m5 p2)), .val (.int (w0_m6 p2)), .val (.int (w0_m7 p2)), .val (.int (w0_m8 p2)), .val (.ref b100), .unset, .unset, .unset, .unset] [.null, (.ref b100), (.ref b106), (.ref b106)])) _
          refine XS.iload X106.here hx rfl (hb hby at_151) rfl ?_
          show Steps p.tables e below (T106.setTop (mkF m 153 #[.val (.int p0), .val (.int p1), .val (.int p2), .val (.ref b2), .val (.ref b10), .val (.ref b16_8), .val (.int (w0_m4 p2)), .val (.int (w0_m5 p2)), .val (.int (w0_m6 p2)), .val (.int (w0_m7 p2)), .val (.int (w0_m8 p2)), .val (.ref b100), .unset, .unset, .unset, .unset] [(.int (w0_m5 p2)), .null, (.ref b100), (.ref b106), (.ref b106)])) _
          refine XS.iload X106.here hx rfl (hb hby at_153) rfl ?_
          show Steps p.tables e below (T106.setTop (mkF m 155 #[.val (.int p0), .val (.int p1), .val (.int p2), .val (.ref b2), .val (.ref b10), .val (.ref b16_8), .val (.int (w0_m4 p2)), .val (.int (w0_m5 p2)), .val (.int (w0_m6 p2)), .val (.int (w0_m7 p2)), .val (.int (w0_m8 p2)), .val (.ref b100), .unset, .unset, .unset, .unset] [(.int (w0_m6 p2)), (.int (w0_m5 p2)), .null, (.ref b100), (.ref b106), (.ref b106)])) _
          refine XS.iload X106.here hx rfl (hb hby at_155) rfl ?_
          show Steps p.tables e below (T106.setTop (mkF m 157 #[.val (.int p0), .val (.int p1), .val (.int p2), .val (.ref b2), .val (.ref b10), .val (.ref b16_8), .val (.int (w0_m4 p2)), .val (.int (w0_m5 p2)), .val (.int (w0_m6 p2)), .val (.int (w0_m7 p2)), .val (.int (w0_m8 p2)), .val (.ref b100), .unset, .unset, .unset, .unset] [(.int (w0_m7 p2)), (.int (w0_m6 p2)), (.int (w0_m5 p2)), .null, (.ref b100), (.ref b106), (.ref b106)])) _
          exact k)
        by_cases hc157_2 : (w0_m7 p2) = (0 : Int32)
        · -- yes
          have K108 : ∀ t, Steps p.tables e below (T106.setTop (mkF m 166 #[.val (.int p0), .val (.int p1), .val (.int p2), .val (.ref b2), .val (.ref b10), .val (.ref b16_8), .val (.int (w0_m4 p2)), .val (.int (w0_m5 p2)), .val (.int (w0_m6 p2)), .val (.int (w0_m7 p2)), .val (.int (w0_m8 p2)), .val (.ref b100), .unset, .unset, .unset, .unset] [(.ref b16_8), (.int (w0_m6 p2)), (.int (w0_m5 p2)), .null, (.ref b100), (.ref b106), (.ref b106)])) t → Steps p.tables e below S0 t := fun t k => K107 t (by
            refine XS.ifYes X106.here hx rfl (pc0 := 157) (pc' := 164) rfl (hb hby at_157) rfl (XT.i0_eq_t hc157_2) (by decide) (by decide) ?_
            show Steps p.tables e below (T106.setTop (mkF m 164 #[.val (.int p0), .val (.int p1), .val (.int p2), .val (.ref b2), .val (.ref b10), .val (.ref b16_8), .val (.int (w0_m4 p2)), .val (.int (w0_m5 p2)), .val (.int (w0_m6 p2)), .val (.int (w0_m7 p2)), .val (.int (w0_m8 p2)), .val (.ref b100), .unset, .unset, .unset, .unset] [(.int (w0_m6 p2)), (.int (w0_m5 p2)), .null, (.ref b100), (.ref b106), (.ref b106)])) _
            refine XS.aload X106.here hx rfl (hb hby at_164) rfl rfl ?_
            show Steps p.tables e below (T106.setTop (mkF m 166 #[.val (.int p0), .val (.int p1), .val (.int p2), .val (.ref b2), .val (.ref b10), .val (.ref b16_8), .val (.int (w0_m4 p2)), .val (.int (w0_m5 p2)), .val (.int (w0_m6 p2)), .val (.int (w0_m7 p2)), .val (.int (w0_m8 p2)), .val (.ref b100), .unset, .unset, .unset, .unset] [(.ref b16_8), (.int (w0_m6 p2)), (.int (w0_m5 p2)), .null, (.ref b100), (.ref b106), (.ref b106)])) _
            exact k)
          have K_109 : ∀ t, Steps p.tables e below (T106.setTop (mkF m 166 #[.val (.int p0), .val (.int p1), .val (.int p2), .val (.ref b2), .val (.ref b10), .val (.ref b16_8), .val (.int (w0_m4 p2)), .val (.int (w0_m5 p2)), .val (.int (w0_m6 p2)), .val (.int (w0_m7 p2)), .val (.int (w0_m8 p2)), .val (.ref b100), .unset, .unset, .unset, .unset] [(.ref b16_8), (.int (w0_m6 p2)), (.int (w0_m5 p2)), .null, (.ref b100), (.ref b106), (.ref b106)])) t → Steps p.tables e below S0 t := K108
          obtain ⟨_, _, ⟨T110, L110, k110, n110⟩, -, X110, ⟨Lc110, hQ110, l110, y110, z110⟩, st110⟩ := X106.specialBack hx (y := (⟨"biaxial/cli/Forms$Operand", "<init>", "(Ljava/lang/String;Lbiaxial/cli/Forms$Kind;ZZLjava/lang/String;)V"⟩ : MethodName)) rfl hown (mvT hZ (hw _ (List.mem_of_getElem? (i := 47) rfl))) (mvT hZ (hw _ (List.mem_of_getElem? (i := 48) rfl))) (mvT hZ (hw _ (List.mem_of_getElem? (i := 49) rfl))) (by decide) (backOf (W := 1) (rmi101 l Z a0 hw [] b106 b100 (w0_m5 p2) (w0_m6 p2) b16_8 h106 n0 Zs106 A106 F_b106_name F_b106_kind F_b106_required F_b106_repeated F_b106_flag g_b106) hZ (hw _ (List.mem_of_getElem? (i := 49) rfl)) (hw _ (List.mem_of_getElem? (i := 46) rfl)) (by decide) (by decide)) (g := (mkF m 166 #[.val (.int p0), .val (.int p1), .val (.int p2), .val (.ref b2), .val (.ref b10), .val (.ref b16_8), .val (.int (w0_m4 p2)), .val (.int (w0_m5 p2)), .val (.int (w0_m6 p2)), .val (.int (w0_m7 p2)), .val (.int (w0_m8 p2)), .val (.ref b100), .unset, .unset, .unset, .unset] [(.ref b16_8), (.int (w0_m6 p2)), (.int (w0_m5 p2)), .null, (.ref b100), (.ref b106), (.ref b106)])) rfl (by rw [hml]; rfl) (Steps.refl _) (a := b106) (argsL := [(.ref b100), .null, (.int (w0_m5 p2)), (.int (w0_m6 p2)), (.ref b16_8)]) (rest := [(.ref b106)]) (lenOf pd0_2 rfl) rfl (by show 2 * 0 + _ ≤ _; exact Nat.le_of_eq rfl) (hb hby at_166) (fun _ _ => ⟨rfl, e106, (by decide : 10 + 0 ≤ 40), (by decide : 26 + 0 ≤ 1216)⟩)
          dsimp only [Pt.U, Pt.locs, Pt.cells, Pt.slots] at X110 l110 y110 z110 st110 hQ110
          subst l110 y110 z110
          obtain ⟨rfl, N110q, Kp110, Fn110_0, Fn110_1, Fn110_2, Fn110_3, Fn110_4, Fn110_5⟩ := hQ110
          have N110 := Fr.app N104 N110q
          have OL110 := OL106.keep Kp110 (allS (P := fun x => n0 ≤ x) g_b106 all0)
          have Fn104_0__110 := Fn104_0__106.keep Kp110
          have Fn104_1__110 := Fn104_1__106.keep Kp110 (ninS ne_b100_b106 nin0)
          have V_b102__110 := V_b102__106.keep Kp110 (ninS ne_b102_b106 nin0)
          have Zs110 : n0 ≤ T110.heap.size := Nat.le_trans Zs106 Kp110.1
          have Zk110 : T104.heap.size ≤ T110.heap.size := Nat.le_trans Zk106 Kp110.1
          have K110 : ∀ t, Steps p.tables e below (T110.setTop (mkF m 169 #[.val (.int p0), .val (.int p1), .val (.int p2), .val (.ref b2), .val (.ref b10), .val (.ref b16_8), .val (.int (w0_m4 p2)), .val (.int (w0_m5 p2)), .val (.int (w0_m6 p2)), .val (.int (w0_m7 p2)), .val (.int (w0_m8 p2)), .val (.ref b100), .unset, .unset, .unset, .unset] [(.ref b106)])) t → Steps p.tables e below S0 t := fun t k => K_109 t (st110.trans k)
          have K111 : ∀ t, Steps p.tables e below (T110.setTop (mkF m 173 #[.val (.int p0), .val (.int p1), .val (.int p2), .val (.ref b2), .val (.ref b10), .val (.ref b16_8), .val (.int (w0_m4 p2)), .val (.int (w0_m5 p2)), .val (.int (w0_m6 p2)), .val (.int (w0_m7 p2)), .val (.int (w0_m8 p2)), .val (.ref b100), .val (.ref b106), .unset, .unset, .unset] [(.ref b106)])) t → Steps p.tables e below S0 t := fun t k => K110 t (by
            refine XS.astore X110.here hx rfl (hb hby at_169) rfl rfl (l' := #[.val (.int p0), .val (.int p1), .val (.int p2), .val (.ref b2), .val (.ref b10), .val (.ref b16_8), .val (.int (w0_m4 p2)), .val (.int (w0_m5 p2)), .val (.int (w0_m6 p2)), .val (.int (w0_m7 p2)), .val (.int (w0_m8 p2)), .val (.ref b100), .val (.ref b106), .unset, .unset, .unset]) rfl ?_
            show Steps p.tables e below (T110.setTop (mkF m 171 #[.val (.int p0), .val (.int p1), .val (.int p2), .val (.ref b2), .val (.ref b10), .val (.ref b16_8), .val (.int (w0_m4 p2)), .val (.int (w0_m5 p2)), .val (.int (w0_m6 p2)), .val (.int (w0_m7 p2)), .val (.int (w0_m8 p2)), .val (.ref b100), .val (.ref b106), .unset, .unset, .unset] [])) _
            refine XS.aload X110.here hx rfl (hb hby at_171) rfl rfl ?_
            show Steps p.tables e below (T110.setTop (mkF m 173 #[.val (.int p0), .val (.int p1), .val (.int p2), .val (.ref b2), .val (.ref b10), .val (.ref b16_8), .val (.int (w0_m4 p2)), .val (.int (w0_m5 p2)), .val (.int (w0_m6 p2)), .val (.int (w0_m7 p2)), .val (.int (w0_m8 p2)), .val (.ref b100), .val (.ref b106), .unset, .unset, .unset] [(.ref b106)])) _
            exact k)
          have K_112 : ∀ t, Steps p.tables e below (T110.setTop (mkF m 173 #[.val (.int p0), .val (.int p1), .val (.int p2), .val (.ref b2), .val (.ref b10), .val (.ref b16_8), .val (.int (w0_m4 p2)), .val (.int (w0_m5 p2)), .val (.int (w0_m6 p2)), .val (.int (w0_m7 p2)), .val (.int (w0_m8 p2)), .val (.ref b100), .val (.ref b106), .unset, .unset, .unset] [(.ref b106)])) t → Steps p.tables e below S0 t := K111
          obtain ⟨cq113, kq113, q113a, q113b, q113c⟩ := isOf hZ rfl Fn110_0
          obtain ⟨_, _, ⟨T113, L113, k113, n113⟩, -, X113, ⟨Lc113, hQ113, l113, y113, z113⟩, st113⟩ := X110.virtualBack hx (y := (⟨"biaxial/cli/Forms$Operand", "isSwitch", "()Z"⟩ : MethodName)) (z := (⟨"biaxial/cli/Forms$Operand", "isSwitch", "()Z"⟩ : MethodName)) hown (mvT hZ (hw _ (List.mem_of_getElem? (i := 66) rfl))) (mvT hZ (hw _ (List.mem_of_getElem? (i := 67) rfl))) (notFace_of_selects (args := #[]) (mvT hZ (hw _ (List.mem_of_getElem? (i := 69) rfl)))) (mvT hZ (hw _ (List.mem_of_getElem? (i := 69) rfl))) (mvT hZ (hw _ (List.mem_of_getElem? (i := 68) rfl))) (by decide) (backOf (W := 0) (rmw1 l Z a0 hw [] b106 b100 T110.heap n0 Zs110 Fn110_1) hZ (hw _ (List.mem_of_getElem? (i := 70) rfl)) (hw _ (List.mem_of_getElem? (i := 46) rfl)) (by decide) (by decide)) q113a q113c (g := (mkF m 173 #[.val (.int p0), .val (.int p1), .val (.int p2), .val (.ref b2), .val (.ref b10), .val (.ref b16_8), .val (.int (w0_m4 p2)), .val (.int (w0_m5 p2)), .val (.int (w0_m6 p2)), .val (.int (w0_m7 p2)), .val (.int (w0_m8 p2)), .val (.ref b100), .val (.ref b106), .unset, .unset, .unset] [(.ref b106)])) rfl (by rw [hml]; rfl) (Steps.refl _) (argsL := []) (rest := []) (lenOf pd0_3 rfl) rfl (by show 2 * 0 + _ ≤ _; exact Nat.le_of_eq rfl) (hb hby at_173) (fun _ _ => ⟨rfl, rfl, (by decide : 10 + 0 ≤ 40), (by decide : 26 + 0 ≤ 1216)⟩)
          dsimp only [Pt.U, Pt.locs, Pt.cells, Pt.slots] at X113 l113 y113 z113 st113 hQ113
          subst l113 y113 z113
          obtain ⟨rfl, N113q, e113⟩ := hQ113
          have N113 := Fr.app N110 N113q
          have K113 : ∀ t, Steps p.tables e below (T113.setTop (mkF m 176 #[.val (.int p0), .val (.int p1), .val (.int p2), .val (.ref b2), .val (.ref b10), .val (.ref b16_8), .val (.int (w0_m4 p2)), .val (.int (w0_m5 p2)), .val (.int (w0_m6 p2)), .val (.int (w0_m7 p2)), .val (.int (w0_m8 p2)), .val (.ref b100), .val (.ref b106), .unset, .unset, .unset] [(.int (0 : Int32))])) t → Steps p.tables e below S0 t := fun t k => K_112 t (st113.trans k)
          have K114 : ∀ t, Steps p.tables e below (T113.setTop (mkF m 178 #[.val (.int p0), .val (.int p1), .val (.int p2), .val (.ref b2), .val (.ref b10), .val (.ref b16_8), .val (.int (w0_m4 p2)), .val (.int (w0_m5 p2)), .val (.int (w0_m6 p2)), .val (.int (w0_m7 p2)), .val (.int (w0_m8 p2)), .val (.ref b100), .val (.ref b106), .unset, .unset, .unset] [(.int (w0_m4 p2)), (.int (0 : Int32))])) t → Steps p.tables e below S0 t := fun t k => K113 t (by
            refine XS.iload X113.here hx rfl (hb hby at_176) rfl ?_
            show Steps p.tables e below (T113.setTop (mkF m 178 #[.val (.int p0), .val (.int p1), .val (.int p2), .val (.ref b2), .val (.ref b10), .val (.ref b16_8), .val (.int (w0_m4 p2)), .val (.int (w0_m5 p2)), .val (.int (w0_m6 p2)), .val (.int (w0_m7 p2)), .val (.int (w0_m8 p2)), .val (.ref b100), .val (.ref b106), .unset, .unset, .unset] [(.int (w0_m4 p2)), (.int (0 : Int32))])) _
            exact k)
          have hf115 : (0 : Int32) = (w0_m4 p2) := hc115_0.symm
          have K116 : ∀ t, Steps p.tables e below (T113.setTop (mkF m 185 #[.val (.int p0), .val (.int p1), .val (.int p2), .val (.ref b2), .val (.ref b10), .val (.ref b16_8), .val (.int (w0_m4 p2)), .val (.int (w0_m5 p2)), .val (.int (w0_m6 p2)), .val (.int (w0_m7 p2)), .val (.int (w0_m8 p2)), .val (.ref b100), .val (.ref b106), .unset, .unset, .unset] [(.ref b106)])) t → Steps p.tables e below S0 t := fun t k => K114 t (by
            refine XS.icmpYes X113.here hx rfl (pc0 := 178) (pc' := 183) rfl (hb hby at_178) rfl (XT.ii_eq_t hf115) (by decide) (by decide) ?_
            show Steps p.tables e below (T113.setTop (mkF m 183 #[.val (.int p0), .val (.int p1), .val (.int p2), .val (.ref b2), .val (.ref b10), .val (.ref b16_8), .val (.int (w0_m4 p2)), .val (.int (w0_m5 p2)), .val (.int (w0_m6 p2)), .val (.int (w0_m7 p2)), .val (.int (w0_m8 p2)), .val (.ref b100), .val (.ref b106), .unset, .unset, .unset] [])) _
            refine XS.aload X113.here hx rfl (hb hby at_183) rfl rfl ?_
            show Steps p.tables e below (T113.setTop (mkF m 185 #[.val (.int p0), .val (.int p1), .val (.int p2), .val (.ref b2), .val (.ref b10), .val (.ref b16_8), .val (.int (w0_m4 p2)), .val (.int (w0_m5 p2)), .val (.int (w0_m6 p2)), .val (.int (w0_m7 p2)), .val (.int (w0_m8 p2)), .val (.ref b100), .val (.ref b106), .unset, .unset, .unset] [(.ref b106)])) _
            exact k)
          have K_117 : ∀ t, Steps p.tables e below (T113.setTop (mkF m 185 #[.val (.int p0), .val (.int p1), .val (.int p2), .val (.ref b2), .val (.ref b10), .val (.ref b16_8), .val (.int (w0_m4 p2)), .val (.int (w0_m5 p2)), .val (.int (w0_m6 p2)), .val (.int (w0_m7 p2)), .val (.int (w0_m8 p2)), .val (.ref b100), .val (.ref b106), .unset, .unset, .unset] [(.ref b106)])) t → Steps p.tables e below S0 t := K116
          obtain ⟨cq118, kq118, q118a, q118b, q118c⟩ := isOf hZ e113 Fn110_0
          obtain ⟨_, _, ⟨T118, L118, k118, n118⟩, -, X118, ⟨Lc118, hQ118, l118, y118, z118⟩, st118⟩ := X113.virtualBack hx (y := (⟨"biaxial/cli/Forms$Operand", "optional", "()Lbiaxial/cli/Forms$Operand;"⟩ : MethodName)) (z := (⟨"biaxial/cli/Forms$Operand", "optional", "()Lbiaxial/cli/Forms$Operand;"⟩ : MethodName)) hown (mvT hZ (hw _ (List.mem_of_getElem? (i := 71) rfl))) (mvT hZ (hw _ (List.mem_of_getElem? (i := 72) rfl))) (notFace_of_selects (args := #[]) (mvT hZ (hw _ (List.mem_of_getElem? (i := 74) rfl)))) (mvT hZ (hw _ (List.mem_of_getElem? (i := 74) rfl))) (mvT hZ (hw _ (List.mem_of_getElem? (i := 73) rfl))) (by decide) (backOf (W := 0) (rmo11 l Z a0 hw [] b106 b100 b16_8 (nar .boolean (w0_m5 p2)) (nar .boolean (w0_m6 p2)) T110.heap n0 Zs110 Fn110_1 Fn110_2 Fn110_3 Fn110_4 Fn110_5) hZ (hw _ (List.mem_of_getElem? (i := 75) rfl)) (hw _ (List.mem_of_getElem? (i := 46) rfl)) (by decide) (by decide)) q118a q118c (g := (mkF m 185 #[.val (.int p0), .val (.int p1), .val (.int p2), .val (.ref b2), .val (.ref b10), .val (.ref b16_8), .val (.int (w0_m4 p2)), .val (.int (w0_m5 p2)), .val (.int (w0_m6 p2)), .val (.int (w0_m7 p2)), .val (.int (w0_m8 p2)), .val (.ref b100), .val (.ref b106), .unset, .unset, .unset] [(.ref b106)])) rfl (by rw [hml]; rfl) (Steps.refl _) (argsL := []) (rest := []) (lenOf pd0_4 rfl) rfl (by show 2 * 0 + _ ≤ _; exact Nat.le_of_eq rfl) (hb hby at_185) (fun _ _ => ⟨rfl, e113, (by decide : 10 + 1 ≤ 40), (by decide : 26 + 5 ≤ 1216)⟩)
          dsimp only [Pt.U, Pt.locs, Pt.cells, Pt.slots] at X118 l118 y118 z118 st118 hQ118
          subst l118 y118 z118
          obtain ⟨b118_1, rfl, N118q, Kp118, lb_b118_1, Fn118_0, Fn118_1, Fn118_2, Fn118_3, Fn118_4, Fn118_5⟩ := hQ118
          have N118 := Fr.app N113 N118q
          have g_b118_1 : n0 ≤ b118_1 := Nat.le_trans Zs110 lb_b118_1
          have ne_b106_b118_1 : b106 ≠ b118_1 := Nat.ne_of_lt (Nat.lt_of_lt_of_le Fn110_0.lt lb_b118_1)
          have OL118 := OL110.keep Kp118 all0
          have Fn110_0__118 := Fn110_0.keep Kp118
          have Fn110_1__118 := Fn110_1.keep Kp118 nin0
          have Fn110_2__118 := Fn110_2.keep Kp118 nin0
          have Fn110_3__118 := Fn110_3.keep Kp118 nin0
          have Fn110_4__118 := Fn110_4.keep Kp118 nin0
          have Fn110_5__118 := Fn110_5.keep Kp118 nin0
          have Zs118 : n0 ≤ T118.heap.size := Nat.le_trans Zs110 Kp118.1
          have Zk118 : T104.heap.size ≤ T118.heap.size := Nat.le_trans Zk110 Kp118.1
          have K118 : ∀ t, Steps p.tables e below (T118.setTop (mkF m 188 #[.val (.int p0), .val (.int p1), .val (.int p2), .val (.ref b2), .val (.ref b10), .val (.ref b16_8), .val (.int (w0_m4 p2)), .val (.int (w0_m5 p2)), .val (.int (w0_m6 p2)), .val (.int (w0_m7 p2)), .val (.int (w0_m8 p2)), .val (.ref b100), .val (.ref b106), .unset, .unset, .unset] [(.ref b118_1)])) t → Steps p.tables e below S0 t := fun t k => K_117 t (st118.trans k)
          have K_119 : ∀ t, Steps p.tables e below (T118.setTop (mkF m 188 #[.val (.int p0), .val (.int p1), .val (.int p2), .val (.ref b2), .val (.ref b10), .val (.ref b16_8), .val (.int (w0_m4 p2)), .val (.int (w0_m5 p2)), .val (.int (w0_m6 p2)), .val (.int (w0_m7 p2)), .val (.int (w0_m8 p2)), .val (.ref b100), .val (.ref b106), .unset, .unset, .unset] [(.ref b118_1)])) t → Steps p.tables e below S0 t := K118
          obtain ⟨cq120, kq120, q120a, q120b, q120c⟩ := isOf hZ rfl Fn118_0
          obtain ⟨_, _, ⟨T120, L120, k120, n120⟩, -, X120, ⟨Lc120, hQ120, l120, y120, z120⟩, st120⟩ := X118.virtualBack hx (y := (⟨"biaxial/cli/Forms$Operand", "isSwitch", "()Z"⟩ : MethodName)) (z := (⟨"biaxial/cli/Forms$Operand", "isSwitch", "()Z"⟩ : MethodName)) hown (mvT hZ (hw _ (List.mem_of_getElem? (i := 66) rfl))) (mvT hZ (hw _ (List.mem_of_getElem? (i := 67) rfl))) (notFace_of_selects (args := #[]) (mvT hZ (hw _ (List.mem_of_getElem? (i := 69) rfl)))) (mvT hZ (hw _ (List.mem_of_getElem? (i := 69) rfl))) (mvT hZ (hw _ (List.mem_of_getElem? (i := 68) rfl))) (by decide) (backOf (W := 0) (rmw1 l Z a0 hw [] b118_1 b100 T118.heap n0 Zs118 Fn118_1) hZ (hw _ (List.mem_of_getElem? (i := 70) rfl)) (hw _ (List.mem_of_getElem? (i := 46) rfl)) (by decide) (by decide)) q120a q120c (g := (mkF m 188 #[.val (.int p0), .val (.int p1), .val (.int p2), .val (.ref b2), .val (.ref b10), .val (.ref b16_8), .val (.int (w0_m4 p2)), .val (.int (w0_m5 p2)), .val (.int (w0_m6 p2)), .val (.int (w0_m7 p2)), .val (.int (w0_m8 p2)), .val (.ref b100), .val (.ref b106), .unset, .unset, .unset] [(.ref b118_1)])) rfl (by rw [hml]; rfl) (Steps.refl _) (argsL := []) (rest := []) (lenOf pd0_3 rfl) rfl (by show 2 * 0 + _ ≤ _; exact Nat.le_of_eq rfl) (hb hby at_188) (fun _ _ => ⟨rfl, rfl, (by decide : 11 + 0 ≤ 40), (by decide : 31 + 0 ≤ 1216)⟩)
          dsimp only [Pt.U, Pt.locs, Pt.cells, Pt.slots] at X120 l120 y120 z120 st120 hQ120
          subst l120 y120 z120
          obtain ⟨rfl, N120q, e120⟩ := hQ120
          have N120 := Fr.app N118 N120q
          have K120 : ∀ t, Steps p.tables e below (T120.setTop (mkF m 191 #[.val (.int p0), .val (.int p1), .val (.int p2), .val (.ref b2), .val (.ref b10), .val (.ref b16_8), .val (.int (w0_m4 p2)), .val (.int (w0_m5 p2)), .val (.int (w0_m6 p2)), .val (.int (w0_m7 p2)), .val (.int (w0_m8 p2)), .val (.ref b100), .val (.ref b106), .unset, .unset, .unset] [(.int (0 : Int32))])) t → Steps p.tables e below S0 t := fun t k => K_119 t (st120.trans k)
          have K121 : ∀ t, Steps p.tables e below (T120.setTop (mkF m 193 #[.val (.int p0), .val (.int p1), .val (.int p2), .val (.ref b2), .val (.ref b10), .val (.ref b16_8), .val (.int (w0_m4 p2)), .val (.int (w0_m5 p2)), .val (.int (w0_m6 p2)), .val (.int (w0_m7 p2)), .val (.int (w0_m8 p2)), .val (.ref b100), .val (.ref b106), .unset, .unset, .unset] [(.int (w0_m4 p2)), (.int (0 : Int32))])) t → Steps p.tables e below S0 t := fun t k => K120 t (by
            refine XS.iload X120.here hx rfl (hb hby at_191) rfl ?_
            show Steps p.tables e below (T120.setTop (mkF m 193 #[.val (.int p0), .val (.int p1), .val (.int p2), .val (.ref b2), .val (.ref b10), .val (.ref b16_8), .val (.int (w0_m4 p2)), .val (.int (w0_m5 p2)), .val (.int (w0_m6 p2)), .val (.int (w0_m7 p2)), .val (.int (w0_m8 p2)), .val (.ref b100), .val (.ref b106), .unset, .unset, .unset] [(.int (w0_m4 p2)), (.int (0 : Int32))])) _
            exact k)
          have hf122 : (0 : Int32) = (w0_m4 p2) := hc115_0.symm
          have K123 : ∀ t, Steps p.tables e below (T120.setTop (mkF m 200 #[.val (.int p0), .val (.int p1), .val (.int p2), .val (.ref b2), .val (.ref b10), .val (.ref b16_8), .val (.int (w0_m4 p2)), .val (.int (w0_m5 p2)), .val (.int (w0_m6 p2)), .val (.int (w0_m7 p2)), .val (.int (w0_m8 p2)), .val (.ref b100), .val (.ref b106), .unset, .unset, .unset] [(.ref b106)])) t → Steps p.tables e below S0 t := fun t k => K121 t (by
            refine XS.icmpYes X120.here hx rfl (pc0 := 193) (pc' := 198) rfl (hb hby at_193) rfl (XT.ii_eq_t hf122) (by decide) (by decide) ?_
            show Steps p.tables e below (T120.setTop (mkF m 198 #[.val (.int p0), .val (.int p1), .val (.int p2), .val (.ref b2), .val (.ref b10), .val (.ref b16_8), .val (.int (w0_m4 p2)), .val (.int (w0_m5 p2)), .val (.int (w0_m6 p2)), .val (.int (w0_m7 p2)), .val (.int (w0_m8 p2)), .val (.ref b100), .val (.ref b106), .unset, .unset, .unset] [])) _
            refine XS.aload X120.here hx rfl (hb hby at_198) rfl rfl ?_
            show Steps p.tables e below (T120.setTop (mkF m 200 #[.val (.int p0), .val (.int p1), .val (.int p2), .val (.ref b2), .val (.ref b10), .val (.ref b16_8), .val (.int (w0_m4 p2)), .val (.int (w0_m5 p2)), .val (.int (w0_m6 p2)), .val (.int (w0_m7 p2)), .val (.int (w0_m8 p2)), .val (.ref b100), .val (.ref b106), .unset, .unset, .unset] [(.ref b106)])) _
            exact k)
          have K_124 : ∀ t, Steps p.tables e below (T120.setTop (mkF m 200 #[.val (.int p0), .val (.int p1), .val (.int p2), .val (.ref b2), .val (.ref b10), .val (.ref b16_8), .val (.int (w0_m4 p2)), .val (.int (w0_m5 p2)), .val (.int (w0_m6 p2)), .val (.int (w0_m7 p2)), .val (.int (w0_m8 p2)), .val (.ref b100), .val (.ref b106), .unset, .unset, .unset] [(.ref b106)])) t → Steps p.tables e below S0 t := K123
          obtain ⟨cq125, kq125, q125a, q125b, q125c⟩ := isOf hZ e120 Fn110_0__118
          obtain ⟨_, _, ⟨T125, L125, k125, n125⟩, -, X125, ⟨Lc125, hQ125, l125, y125, z125⟩, st125⟩ := X120.virtualBack hx (y := (⟨"biaxial/cli/Forms$Operand", "repeats", "()Lbiaxial/cli/Forms$Operand;"⟩ : MethodName)) (z := (⟨"biaxial/cli/Forms$Operand", "repeats", "()Lbiaxial/cli/Forms$Operand;"⟩ : MethodName)) hown (mvT hZ (hw _ (List.mem_of_getElem? (i := 78) rfl))) (mvT hZ (hw _ (List.mem_of_getElem? (i := 79) rfl))) (notFace_of_selects (args := #[]) (mvT hZ (hw _ (List.mem_of_getElem? (i := 81) rfl)))) (mvT hZ (hw _ (List.mem_of_getElem? (i := 81) rfl))) (mvT hZ (hw _ (List.mem_of_getElem? (i := 80) rfl))) (by decide) (backOf (W := 0) (rmr11 l Z a0 hw [] b106 b100 b16_8 (nar .boolean (w0_m5 p2)) (nar .boolean (w0_m6 p2)) T118.heap n0 Zs118 Fn110_1__118 Fn110_2__118 Fn110_3__118 Fn110_4__118 Fn110_5__118) hZ (hw _ (List.mem_of_getElem? (i := 82) rfl)) (hw _ (List.mem_of_getElem? (i := 46) rfl)) (by decide) (by decide)) q125a q125c (g := (mkF m 200 #[.val (.int p0), .val (.int p1), .val (.int p2), .val (.ref b2), .val (.ref b10), .val (.ref b16_8), .val (.int (w0_m4 p2)), .val (.int (w0_m5 p2)), .val (.int (w0_m6 p2)), .val (.int (w0_m7 p2)), .val (.int (w0_m8 p2)), .val (.ref b100), .val (.ref b106), .unset, .unset, .unset] [(.ref b106)])) rfl (by rw [hml]; rfl) (Steps.refl _) (argsL := []) (rest := []) (lenOf pd0_4 rfl) rfl (by show 2 * 0 + _ ≤ _; exact Nat.le_of_eq rfl) (hb hby at_200) (fun _ _ => ⟨rfl, e120, (by decide : 11 + 1 ≤ 40), (by decide : 31 + 5 ≤ 1216)⟩)
          dsimp only [Pt.U, Pt.locs, Pt.cells, Pt.slots] at X125 l125 y125 z125 st125 hQ125
          subst l125 y125 z125
          obtain ⟨b125_1, rfl, N125q, Kp125, lb_b125_1, Fn125_0, Fn125_1, Fn125_2, Fn125_3, Fn125_4, Fn125_5⟩ := hQ125
          have N125 := Fr.app N120 N125q
          have g_b125_1 : n0 ≤ b125_1 := Nat.le_trans Zs118 lb_b125_1
          have ne_b106_b125_1 : b106 ≠ b125_1 := Nat.ne_of_lt (Nat.lt_of_lt_of_le Fn110_0__118.lt lb_b125_1)
          have OL125 := OL118.keep Kp125 all0
          have Fn110_0__125 := Fn110_0__118.keep Kp125
          have Fn110_1__125 := Fn110_1__118.keep Kp125 nin0
          have Fn110_2__125 := Fn110_2__118.keep Kp125 nin0
          have Fn110_3__125 := Fn110_3__118.keep Kp125 nin0
          have Fn110_4__125 := Fn110_4__118.keep Kp125 nin0
          have Fn110_5__125 := Fn110_5__118.keep Kp125 nin0
          have Zs125 : n0 ≤ T125.heap.size := Nat.le_trans Zs118 Kp125.1
          have Zk125 : T104.heap.size ≤ T125.heap.size := Nat.le_trans Zk118 Kp125.1
          have K125 : ∀ t, Steps p.tables e below (T125.setTop (mkF m 203 #[.val (.int p0), .val (.int p1), .val (.int p2), .val (.ref b2), .val (.ref b10), .val (.ref b16_8), .val (.int (w0_m4 p2)), .val (.int (w0_m5 p2)), .val (.int (w0_m6 p2)), .val (.int (w0_m7 p2)), .val (.int (w0_m8 p2)), .val (.ref b100), .val (.ref b106), .unset, .unset, .unset] [(.ref b125_1)])) t → Steps p.tables e below S0 t := fun t k => K_124 t (st125.trans k)
          have K_126 : ∀ t, Steps p.tables e below (T125.setTop (mkF m 203 #[.val (.int p0), .val (.int p1), .val (.int p2), .val (.ref b2), .val (.ref b10), .val (.ref b16_8), .val (.int (w0_m4 p2)), .val (.int (w0_m5 p2)), .val (.int (w0_m6 p2)), .val (.int (w0_m7 p2)), .val (.int (w0_m8 p2)), .val (.ref b100), .val (.ref b106), .unset, .unset, .unset] [(.ref b125_1)])) t → Steps p.tables e below S0 t := K125
          obtain ⟨cq127, kq127, q127a, q127b, q127c⟩ := isOf hZ rfl Fn125_0
          obtain ⟨_, _, ⟨T127, L127, k127, n127⟩, -, X127, ⟨Lc127, hQ127, l127, y127, z127⟩, st127⟩ := X125.virtualBack hx (y := (⟨"biaxial/cli/Forms$Operand", "isSwitch", "()Z"⟩ : MethodName)) (z := (⟨"biaxial/cli/Forms$Operand", "isSwitch", "()Z"⟩ : MethodName)) hown (mvT hZ (hw _ (List.mem_of_getElem? (i := 66) rfl))) (mvT hZ (hw _ (List.mem_of_getElem? (i := 67) rfl))) (notFace_of_selects (args := #[]) (mvT hZ (hw _ (List.mem_of_getElem? (i := 69) rfl)))) (mvT hZ (hw _ (List.mem_of_getElem? (i := 69) rfl))) (mvT hZ (hw _ (List.mem_of_getElem? (i := 68) rfl))) (by decide) (backOf (W := 0) (rmw1 l Z a0 hw [] b125_1 b100 T125.heap n0 Zs125 Fn125_1) hZ (hw _ (List.mem_of_getElem? (i := 70) rfl)) (hw _ (List.mem_of_getElem? (i := 46) rfl)) (by decide) (by decide)) q127a q127c (g := (mkF m 203 #[.val (.int p0), .val (.int p1), .val (.int p2), .val (.ref b2), .val (.ref b10), .val (.ref b16_8), .val (.int (w0_m4 p2)), .val (.int (w0_m5 p2)), .val (.int (w0_m6 p2)), .val (.int (w0_m7 p2)), .val (.int (w0_m8 p2)), .val (.ref b100), .val (.ref b106), .unset, .unset, .unset] [(.ref b125_1)])) rfl (by rw [hml]; rfl) (Steps.refl _) (argsL := []) (rest := []) (lenOf pd0_3 rfl) rfl (by show 2 * 0 + _ ≤ _; exact Nat.le_of_eq rfl) (hb hby at_203) (fun _ _ => ⟨rfl, rfl, (by decide : 12 + 0 ≤ 40), (by decide : 36 + 0 ≤ 1216)⟩)
          dsimp only [Pt.U, Pt.locs, Pt.cells, Pt.slots] at X127 l127 y127 z127 st127 hQ127
          subst l127 y127 z127
          obtain ⟨rfl, N127q, e127⟩ := hQ127
          have N127 := Fr.app N125 N127q
          have K127 : ∀ t, Steps p.tables e below (T127.setTop (mkF m 206 #[.val (.int p0), .val (.int p1), .val (.int p2), .val (.ref b2), .val (.ref b10), .val (.ref b16_8), .val (.int (w0_m4 p2)), .val (.int (w0_m5 p2)), .val (.int (w0_m6 p2)), .val (.int (w0_m7 p2)), .val (.int (w0_m8 p2)), .val (.ref b100), .val (.ref b106), .unset, .unset, .unset] [(.int (0 : Int32))])) t → Steps p.tables e below S0 t := fun t k => K_126 t (st127.trans k)
          have K128 : ∀ t, Steps p.tables e below (T127.setTop (mkF m 208 #[.val (.int p0), .val (.int p1), .val (.int p2), .val (.ref b2), .val (.ref b10), .val (.ref b16_8), .val (.int (w0_m4 p2)), .val (.int (w0_m5 p2)), .val (.int (w0_m6 p2)), .val (.int (w0_m7 p2)), .val (.int (w0_m8 p2)), .val (.ref b100), .val (.ref b106), .unset, .unset, .unset] [(.int (w0_m4 p2)), (.int (0 : Int32))])) t → Steps p.tables e below S0 t := fun t k => K127 t (by
            refine XS.iload X127.here hx rfl (hb hby at_206) rfl ?_
            show Steps p.tables e below (T127.setTop (mkF m 208 #[.val (.int p0), .val (.int p1), .val (.int p2), .val (.ref b2), .val (.ref b10), .val (.ref b16_8), .val (.int (w0_m4 p2)), .val (.int (w0_m5 p2)), .val (.int (w0_m6 p2)), .val (.int (w0_m7 p2)), .val (.int (w0_m8 p2)), .val (.ref b100), .val (.ref b106), .unset, .unset, .unset] [(.int (w0_m4 p2)), (.int (0 : Int32))])) _
            exact k)
          have hf129 : (0 : Int32) = (w0_m4 p2) := hc115_0.symm
          have K130 : ∀ t, Steps p.tables e below (T127.setTop (mkF m 213 #[.val (.int p0), .val (.int p1), .val (.int p2), .val (.ref b2), .val (.ref b10), .val (.ref b16_8), .val (.int (w0_m4 p2)), .val (.int (w0_m5 p2)), .val (.int (w0_m6 p2)), .val (.int (w0_m7 p2)), .val (.int (w0_m8 p2)), .val (.ref b100), .val (.ref b106), .unset, .unset, .unset] [])) t → Steps p.tables e below S0 t := fun t k => K128 t (by
            refine XS.icmpYes X127.here hx rfl (pc0 := 208) (pc' := 213) rfl (hb hby at_208) rfl (XT.ii_eq_t hf129) (by decide) (by decide) ?_
            show Steps p.tables e below (T127.setTop (mkF m 213 #[.val (.int p0), .val (.int p1), .val (.int p2), .val (.ref b2), .val (.ref b10), .val (.ref b16_8), .val (.int (w0_m4 p2)), .val (.int (w0_m5 p2)), .val (.int (w0_m6 p2)), .val (.int (w0_m7 p2)), .val (.int (w0_m8 p2)), .val (.ref b100), .val (.ref b106), .unset, .unset, .unset] [])) _
            exact k)
          exact ⟨T127, T104.vm, T104.heap.size, _, .val (.ref b100), .val (.ref b106), X127, N127, hS104, (by rw [e127]; exact Zk125), (by rw [e127]; exact Zs125), hZ, hown, (by rw [e127]; exact OL125), One.val rfl, One.val rfl, fun t k => K130 t k⟩
        · -- no
          have K131 : ∀ t, Steps p.tables e below (T106.setTop (mkF m 166 #[.val (.int p0), .val (.int p1), .val (.int p2), .val (.ref b2), .val (.ref b10), .val (.ref b16_8), .val (.int (w0_m4 p2)), .val (.int (w0_m5 p2)), .val (.int (w0_m6 p2)), .val (.int (w0_m7 p2)), .val (.int (w0_m8 p2)), .val (.ref b100), .unset, .unset, .unset, .unset] [.null, (.int (w0_m6 p2)), (.int (w0_m5 p2)), .null, (.ref b100), (.ref b106), (.ref b106)])) t → Steps p.tables e below S0 t := fun t k => K107 t (by
            refine XS.ifNo X106.here hx rfl (hb hby at_157) rfl (XT.i0_eq_f hc157_2) ?_
            show Steps p.tables e below (T106.setTop (mkF m 160 #[.val (.int p0), .val (.int p1), .val (.int p2), .val (.ref b2), .val (.ref b10), .val (.ref b16_8), .val (.int (w0_m4 p2)), .val (.int (w0_m5 p2)), .val (.int (w0_m6 p2)), .val (.int (w0_m7 p2)), .val (.int (w0_m8 p2)), .val (.ref b100), .unset, .unset, .unset, .unset] [(.int (w0_m6 p2)), (.int (w0_m5 p2)), .null, (.ref b100), (.ref b106), (.ref b106)])) _
            refine XS.aconstNull X106.here hx rfl (hb hby at_160) ?_
            show Steps p.tables e below (T106.setTop (mkF m 161 #[.val (.int p0), .val (.int p1), .val (.int p2), .val (.ref b2), .val (.ref b10), .val (.ref b16_8), .val (.int (w0_m4 p2)), .val (.int (w0_m5 p2)), .val (.int (w0_m6 p2)), .val (.int (w0_m7 p2)), .val (.int (w0_m8 p2)), .val (.ref b100), .unset, .unset, .unset, .unset] [.null, (.int (w0_m6 p2)), (.int (w0_m5 p2)), .null, (.ref b100), (.ref b106), (.ref b106)])) _
            refine XS.goto X106.here hx rfl (pc0 := 161) (pc' := 166) rfl (hb hby at_161) (by decide) (by decide) ?_
            show Steps p.tables e below (T106.setTop (mkF m 166 #[.val (.int p0), .val (.int p1), .val (.int p2), .val (.ref b2), .val (.ref b10), .val (.ref b16_8), .val (.int (w0_m4 p2)), .val (.int (w0_m5 p2)), .val (.int (w0_m6 p2)), .val (.int (w0_m7 p2)), .val (.int (w0_m8 p2)), .val (.ref b100), .unset, .unset, .unset, .unset] [.null, (.int (w0_m6 p2)), (.int (w0_m5 p2)), .null, (.ref b100), (.ref b106), (.ref b106)])) _
            exact k)
          have K_132 : ∀ t, Steps p.tables e below (T106.setTop (mkF m 166 #[.val (.int p0), .val (.int p1), .val (.int p2), .val (.ref b2), .val (.ref b10), .val (.ref b16_8), .val (.int (w0_m4 p2)), .val (.int (w0_m5 p2)), .val (.int (w0_m6 p2)), .val (.int (w0_m7 p2)), .val (.int (w0_m8 p2)), .val (.ref b100), .unset, .unset, .unset, .unset] [.null, (.int (w0_m6 p2)), (.int (w0_m5 p2)), .null, (.ref b100), (.ref b106), (.ref b106)])) t → Steps p.tables e below S0 t := K131
          obtain ⟨_, _, ⟨T133, L133, k133, n133⟩, -, X133, ⟨Lc133, hQ133, l133, y133, z133⟩, st133⟩ := X106.specialBack hx (y := (⟨"biaxial/cli/Forms$Operand", "<init>", "(Ljava/lang/String;Lbiaxial/cli/Forms$Kind;ZZLjava/lang/String;)V"⟩ : MethodName)) rfl hown (mvT hZ (hw _ (List.mem_of_getElem? (i := 47) rfl))) (mvT hZ (hw _ (List.mem_of_getElem? (i := 48) rfl))) (mvT hZ (hw _ (List.mem_of_getElem? (i := 49) rfl))) (by decide) (backOf (W := 1) (rmi100 l Z a0 hw [] b106 b100 (w0_m5 p2) (w0_m6 p2) h106 n0 Zs106 A106 F_b106_name F_b106_kind F_b106_required F_b106_repeated F_b106_flag g_b106) hZ (hw _ (List.mem_of_getElem? (i := 49) rfl)) (hw _ (List.mem_of_getElem? (i := 46) rfl)) (by decide) (by decide)) (g := (mkF m 166 #[.val (.int p0), .val (.int p1), .val (.int p2), .val (.ref b2), .val (.ref b10), .val (.ref b16_8), .val (.int (w0_m4 p2)), .val (.int (w0_m5 p2)), .val (.int (w0_m6 p2)), .val (.int (w0_m7 p2)), .val (.int (w0_m8 p2)), .val (.ref b100), .unset, .unset, .unset, .unset] [.null, (.int (w0_m6 p2)), (.int (w0_m5 p2)), .null, (.ref b100), (.ref b106), (.ref b106)])) rfl (by rw [hml]; rfl) (Steps.refl _) (a := b106) (argsL := [(.ref b100), .null, (.int (w0_m5 p2)), (.int (w0_m6 p2)), .null]) (rest := [(.ref b106)]) (lenOf pd0_2 rfl) rfl (by show 2 * 0 + _ ≤ _; exact Nat.le_of_eq rfl) (hb hby at_166) (fun _ _ => ⟨rfl, e106, (by decide : 10 + 0 ≤ 40), (by decide : 26 + 0 ≤ 1216)⟩)
          dsimp only [Pt.U, Pt.locs, Pt.cells, Pt.slots] at X133 l133 y133 z133 st133 hQ133
          subst l133 y133 z133
          obtain ⟨rfl, N133q, Kp133, Fn133_0, Fn133_1, Fn133_2, Fn133_3, Fn133_4, Fn133_5⟩ := hQ133
          have N133 := Fr.app N104 N133q
          have OL133 := OL106.keep Kp133 (allS (P := fun x => n0 ≤ x) g_b106 all0)
          have Fn104_0__133 := Fn104_0__106.keep Kp133
          have Fn104_1__133 := Fn104_1__106.keep Kp133 (ninS ne_b100_b106 nin0)
          have V_b102__133 := V_b102__106.keep Kp133 (ninS ne_b102_b106 nin0)
          have Zs133 : n0 ≤ T133.heap.size := Nat.le_trans Zs106 Kp133.1
          have Zk133 : T104.heap.size ≤ T133.heap.size := Nat.le_trans Zk106 Kp133.1
          have K133 : ∀ t, Steps p.tables e below (T133.setTop (mkF m 169 #[.val (.int p0), .val (.int p1), .val (.int p2), .val (.ref b2), .val (.ref b10), .val (.ref b16_8), .val (.int (w0_m4 p2)), .val (.int (w0_m5 p2)), .val (.int (w0_m6 p2)), .val (.int (w0_m7 p2)), .val (.int (w0_m8 p2)), .val (.ref b100), .unset, .unset, .unset, .unset] [(.ref b106)])) t → Steps p.tables e below S0 t := fun t k => K_132 t (st133.trans k)
          have K134 : ∀ t, Steps p.tables e below (T133.setTop (mkF m 173 #[.val (.int p0), .val (.int p1), .val (.int p2), .val (.ref b2), .val (.ref b10), .val (.ref b16_8), .val (.int (w0_m4 p2)), .val (.int (w0_m5 p2)), .val (.int (w0_m6 p2)), .val (.int (w0_m7 p2)), .val (.int (w0_m8 p2)), .val (.ref b100), .val (.ref b106), .unset, .unset, .unset] [(.ref b106)])) t → Steps p.tables e below S0 t := fun t k => K133 t (by
            refine XS.astore X133.here hx rfl (hb hby at_169) rfl rfl (l' := #[.val (.int p0), .val (.int p1), .val (.int p2), .val (.ref b2), .val (.ref b10), .val (.ref b16_8), .val (.int (w0_m4 p2)), .val (.int (w0_m5 p2)), .val (.int (w0_m6 p2)), .val (.int (w0_m7 p2)), .val (.int (w0_m8 p2)), .val (.ref b100), .val (.ref b106), .unset, .unset, .unset]) rfl ?_
            show Steps p.tables e below (T133.setTop (mkF m 171 #[.val (.int p0), .val (.int p1), .val (.int p2), .val (.ref b2), .val (.ref b10), .val (.ref b16_8), .val (.int (w0_m4 p2)), .val (.int (w0_m5 p2)), .val (.int (w0_m6 p2)), .val (.int (w0_m7 p2)), .val (.int (w0_m8 p2)), .val (.ref b100), .val (.ref b106), .unset, .unset, .unset] [])) _
            refine XS.aload X133.here hx rfl (hb hby at_171) rfl rfl ?_
            show Steps p.tables e below (T133.setTop (mkF m 173 #[.val (.int p0), .val (.int p1), .val (.int p2), .val (.ref b2), .val (.ref b10), .val (.ref b16_8), .val (.int (w0_m4 p2)), .val (.int (w0_m5 p2)), .val (.int (w0_m6 p2)), .val (.int (w0_m7 p2)), .val (.int (w0_m8 p2)), .val (.ref b100), .val (.ref b106), .unset, .unset, .unset] [(.ref b106)])) _
            exact k)
          have K_135 : ∀ t, Steps p.tables e below (T133.setTop (mkF m 173 #[.val (.int p0), .val (.int p1), .val (.int p2), .val (.ref b2), .val (.ref b10), .val (.ref b16_8), .val (.int (w0_m4 p2)), .val (.int (w0_m5 p2)), .val (.int (w0_m6 p2)), .val (.int (w0_m7 p2)), .val (.int (w0_m8 p2)), .val (.ref b100), .val (.ref b106), .unset, .unset, .unset] [(.ref b106)])) t → Steps p.tables e below S0 t := K134
          obtain ⟨cq136, kq136, q136a, q136b, q136c⟩ := isOf hZ rfl Fn133_0
          obtain ⟨_, _, ⟨T136, L136, k136, n136⟩, -, X136, ⟨Lc136, hQ136, l136, y136, z136⟩, st136⟩ := X133.virtualBack hx (y := (⟨"biaxial/cli/Forms$Operand", "isSwitch", "()Z"⟩ : MethodName)) (z := (⟨"biaxial/cli/Forms$Operand", "isSwitch", "()Z"⟩ : MethodName)) hown (mvT hZ (hw _ (List.mem_of_getElem? (i := 66) rfl))) (mvT hZ (hw _ (List.mem_of_getElem? (i := 67) rfl))) (notFace_of_selects (args := #[]) (mvT hZ (hw _ (List.mem_of_getElem? (i := 69) rfl)))) (mvT hZ (hw _ (List.mem_of_getElem? (i := 69) rfl))) (mvT hZ (hw _ (List.mem_of_getElem? (i := 68) rfl))) (by decide) (backOf (W := 0) (rmw1 l Z a0 hw [] b106 b100 T133.heap n0 Zs133 Fn133_1) hZ (hw _ (List.mem_of_getElem? (i := 70) rfl)) (hw _ (List.mem_of_getElem? (i := 46) rfl)) (by decide) (by decide)) q136a q136c (g := (mkF m 173 #[.val (.int p0), .val (.int p1), .val (.int p2), .val (.ref b2), .val (.ref b10), .val (.ref b16_8), .val (.int (w0_m4 p2)), .val (.int (w0_m5 p2)), .val (.int (w0_m6 p2)), .val (.int (w0_m7 p2)), .val (.int (w0_m8 p2)), .val (.ref b100), .val (.ref b106), .unset, .unset, .unset] [(.ref b106)])) rfl (by rw [hml]; rfl) (Steps.refl _) (argsL := []) (rest := []) (lenOf pd0_3 rfl) rfl (by show 2 * 0 + _ ≤ _; exact Nat.le_of_eq rfl) (hb hby at_173) (fun _ _ => ⟨rfl, rfl, (by decide : 10 + 0 ≤ 40), (by decide : 26 + 0 ≤ 1216)⟩)
          dsimp only [Pt.U, Pt.locs, Pt.cells, Pt.slots] at X136 l136 y136 z136 st136 hQ136
          subst l136 y136 z136
          obtain ⟨rfl, N136q, e136⟩ := hQ136
          have N136 := Fr.app N133 N136q
          have K136 : ∀ t, Steps p.tables e below (T136.setTop (mkF m 176 #[.val (.int p0), .val (.int p1), .val (.int p2), .val (.ref b2), .val (.ref b10), .val (.ref b16_8), .val (.int (w0_m4 p2)), .val (.int (w0_m5 p2)), .val (.int (w0_m6 p2)), .val (.int (w0_m7 p2)), .val (.int (w0_m8 p2)), .val (.ref b100), .val (.ref b106), .unset, .unset, .unset] [(.int (0 : Int32))])) t → Steps p.tables e below S0 t := fun t k => K_135 t (st136.trans k)
          have K137 : ∀ t, Steps p.tables e below (T136.setTop (mkF m 178 #[.val (.int p0), .val (.int p1), .val (.int p2), .val (.ref b2), .val (.ref b10), .val (.ref b16_8), .val (.int (w0_m4 p2)), .val (.int (w0_m5 p2)), .val (.int (w0_m6 p2)), .val (.int (w0_m7 p2)), .val (.int (w0_m8 p2)), .val (.ref b100), .val (.ref b106), .unset, .unset, .unset] [(.int (w0_m4 p2)), (.int (0 : Int32))])) t → Steps p.tables e below S0 t := fun t k => K136 t (by
            refine XS.iload X136.here hx rfl (hb hby at_176) rfl ?_
            show Steps p.tables e below (T136.setTop (mkF m 178 #[.val (.int p0), .val (.int p1), .val (.int p2), .val (.ref b2), .val (.ref b10), .val (.ref b16_8), .val (.int (w0_m4 p2)), .val (.int (w0_m5 p2)), .val (.int (w0_m6 p2)), .val (.int (w0_m7 p2)), .val (.int (w0_m8 p2)), .val (.ref b100), .val (.ref b106), .unset, .unset, .unset] [(.int (w0_m4 p2)), (.int (0 : Int32))])) _
            exact k)
          have hf138 : (0 : Int32) = (w0_m4 p2) := hc115_0.symm
          have K139 : ∀ t, Steps p.tables e below (T136.setTop (mkF m 185 #[.val (.int p0), .val (.int p1), .val (.int p2), .val (.ref b2), .val (.ref b10), .val (.ref b16_8), .val (.int (w0_m4 p2)), .val (.int (w0_m5 p2)), .val (.int (w0_m6 p2)), .val (.int (w0_m7 p2)), .val (.int (w0_m8 p2)), .val (.ref b100), .val (.ref b106), .unset, .unset, .unset] [(.ref b106)])) t → Steps p.tables e below S0 t := fun t k => K137 t (by
            refine XS.icmpYes X136.here hx rfl (pc0 := 178) (pc' := 183) rfl (hb hby at_178) rfl (XT.ii_eq_t hf138) (by decide) (by decide) ?_
            show Steps p.tables e below (T136.setTop (mkF m 183 #[.val (.int p0), .val (.int p1), .val (.int p2), .val (.ref b2), .val (.ref b10), .val (.ref b16_8), .val (.int (w0_m4 p2)), .val (.int (w0_m5 p2)), .val (.int (w0_m6 p2)), .val (.int (w0_m7 p2)), .val (.int (w0_m8 p2)), .val (.ref b100), .val (.ref b106), .unset, .unset, .unset] [])) _
            refine XS.aload X136.here hx rfl (hb hby at_183) rfl rfl ?_
            show Steps p.tables e below (T136.setTop (mkF m 185 #[.val (.int p0), .val (.int p1), .val (.int p2), .val (.ref b2), .val (.ref b10), .val (.ref b16_8), .val (.int (w0_m4 p2)), .val (.int (w0_m5 p2)), .val (.int (w0_m6 p2)), .val (.int (w0_m7 p2)), .val (.int (w0_m8 p2)), .val (.ref b100), .val (.ref b106), .unset, .unset, .unset] [(.ref b106)])) _
            exact k)
          have K_140 : ∀ t, Steps p.tables e below (T136.setTop (mkF m 185 #[.val (.int p0), .val (.int p1), .val (.int p2), .val (.ref b2), .val (.ref b10), .val (.ref b16_8), .val (.int (w0_m4 p2)), .val (.int (w0_m5 p2)), .val (.int (w0_m6 p2)), .val (.int (w0_m7 p2)), .val (.int (w0_m8 p2)), .val (.ref b100), .val (.ref b106), .unset, .unset, .unset] [(.ref b106)])) t → Steps p.tables e below S0 t := K139
          obtain ⟨cq141, kq141, q141a, q141b, q141c⟩ := isOf hZ e136 Fn133_0
          obtain ⟨_, _, ⟨T141, L141, k141, n141⟩, -, X141, ⟨Lc141, hQ141, l141, y141, z141⟩, st141⟩ := X136.virtualBack hx (y := (⟨"biaxial/cli/Forms$Operand", "optional", "()Lbiaxial/cli/Forms$Operand;"⟩ : MethodName)) (z := (⟨"biaxial/cli/Forms$Operand", "optional", "()Lbiaxial/cli/Forms$Operand;"⟩ : MethodName)) hown (mvT hZ (hw _ (List.mem_of_getElem? (i := 71) rfl))) (mvT hZ (hw _ (List.mem_of_getElem? (i := 72) rfl))) (notFace_of_selects (args := #[]) (mvT hZ (hw _ (List.mem_of_getElem? (i := 74) rfl)))) (mvT hZ (hw _ (List.mem_of_getElem? (i := 74) rfl))) (mvT hZ (hw _ (List.mem_of_getElem? (i := 73) rfl))) (by decide) (backOf (W := 0) (rmo10 l Z a0 hw [] b106 b100 (nar .boolean (w0_m5 p2)) (nar .boolean (w0_m6 p2)) T133.heap n0 Zs133 Fn133_1 Fn133_2 Fn133_3 Fn133_4 Fn133_5) hZ (hw _ (List.mem_of_getElem? (i := 75) rfl)) (hw _ (List.mem_of_getElem? (i := 46) rfl)) (by decide) (by decide)) q141a q141c (g := (mkF m 185 #[.val (.int p0), .val (.int p1), .val (.int p2), .val (.ref b2), .val (.ref b10), .val (.ref b16_8), .val (.int (w0_m4 p2)), .val (.int (w0_m5 p2)), .val (.int (w0_m6 p2)), .val (.int (w0_m7 p2)), .val (.int (w0_m8 p2)), .val (.ref b100), .val (.ref b106), .unset, .unset, .unset] [(.ref b106)])) rfl (by rw [hml]; rfl) (Steps.refl _) (argsL := []) (rest := []) (lenOf pd0_4 rfl) rfl (by show 2 * 0 + _ ≤ _; exact Nat.le_of_eq rfl) (hb hby at_185) (fun _ _ => ⟨rfl, e136, (by decide : 10 + 1 ≤ 40), (by decide : 26 + 5 ≤ 1216)⟩)
          dsimp only [Pt.U, Pt.locs, Pt.cells, Pt.slots] at X141 l141 y141 z141 st141 hQ141
          subst l141 y141 z141
          obtain ⟨b141_1, rfl, N141q, Kp141, lb_b141_1, Fn141_0, Fn141_1, Fn141_2, Fn141_3, Fn141_4, Fn141_5⟩ := hQ141
          have N141 := Fr.app N136 N141q
          have g_b141_1 : n0 ≤ b141_1 := Nat.le_trans Zs133 lb_b141_1
          have ne_b106_b141_1 : b106 ≠ b141_1 := Nat.ne_of_lt (Nat.lt_of_lt_of_le Fn133_0.lt lb_b141_1)
          have OL141 := OL133.keep Kp141 all0
          have Fn133_0__141 := Fn133_0.keep Kp141
          have Fn133_1__141 := Fn133_1.keep Kp141 nin0
          have Fn133_2__141 := Fn133_2.keep Kp141 nin0
          have Fn133_3__141 := Fn133_3.keep Kp141 nin0
          have Fn133_4__141 := Fn133_4.keep Kp141 nin0
          have Fn133_5__141 := Fn133_5.keep Kp141 nin0
          have Zs141 : n0 ≤ T141.heap.size := Nat.le_trans Zs133 Kp141.1
          have Zk141 : T104.heap.size ≤ T141.heap.size := Nat.le_trans Zk133 Kp141.1
          have K141 : ∀ t, Steps p.tables e below (T141.setTop (mkF m 188 #[.val (.int p0), .val (.int p1), .val (.int p2), .val (.ref b2), .val (.ref b10), .val (.ref b16_8), .val (.int (w0_m4 p2)), .val (.int (w0_m5 p2)), .val (.int (w0_m6 p2)), .val (.int (w0_m7 p2)), .val (.int (w0_m8 p2)), .val (.ref b100), .val (.ref b106), .unset, .unset, .unset] [(.ref b141_1)])) t → Steps p.tables e below S0 t := fun t k => K_140 t (st141.trans k)
          have K_142 : ∀ t, Steps p.tables e below (T141.setTop (mkF m 188 #[.val (.int p0), .val (.int p1), .val (.int p2), .val (.ref b2), .val (.ref b10), .val (.ref b16_8), .val (.int (w0_m4 p2)), .val (.int (w0_m5 p2)), .val (.int (w0_m6 p2)), .val (.int (w0_m7 p2)), .val (.int (w0_m8 p2)), .val (.ref b100), .val (.ref b106), .unset, .unset, .unset] [(.ref b141_1)])) t → Steps p.tables e below S0 t := K141
          obtain ⟨cq143, kq143, q143a, q143b, q143c⟩ := isOf hZ rfl Fn141_0
          obtain ⟨_, _, ⟨T143, L143, k143, n143⟩, -, X143, ⟨Lc143, hQ143, l143, y143, z143⟩, st143⟩ := X141.virtualBack hx (y := (⟨"biaxial/cli/Forms$Operand", "isSwitch", "()Z"⟩ : MethodName)) (z := (⟨"biaxial/cli/Forms$Operand", "isSwitch", "()Z"⟩ : MethodName)) hown (mvT hZ (hw _ (List.mem_of_getElem? (i := 66) rfl))) (mvT hZ (hw _ (List.mem_of_getElem? (i := 67) rfl))) (notFace_of_selects (args := #[]) (mvT hZ (hw _ (List.mem_of_getElem? (i := 69) rfl)))) (mvT hZ (hw _ (List.mem_of_getElem? (i := 69) rfl))) (mvT hZ (hw _ (List.mem_of_getElem? (i := 68) rfl))) (by decide) (backOf (W := 0) (rmw1 l Z a0 hw [] b141_1 b100 T141.heap n0 Zs141 Fn141_1) hZ (hw _ (List.mem_of_getElem? (i := 70) rfl)) (hw _ (List.mem_of_getElem? (i := 46) rfl)) (by decide) (by decide)) q143a q143c (g := (mkF m 188 #[.val (.int p0), .val (.int p1), .val (.int p2), .val (.ref b2), .val (.ref b10), .val (.ref b16_8), .val (.int (w0_m4 p2)), .val (.int (w0_m5 p2)), .val (.int (w0_m6 p2)), .val (.int (w0_m7 p2)), .val (.int (w0_m8 p2)), .val (.ref b100), .val (.ref b106), .unset, .unset, .unset] [(.ref b141_1)])) rfl (by rw [hml]; rfl) (Steps.refl _) (argsL := []) (rest := []) (lenOf pd0_3 rfl) rfl (by show 2 * 0 + _ ≤ _; exact Nat.le_of_eq rfl) (hb hby at_188) (fun _ _ => ⟨rfl, rfl, (by decide : 11 + 0 ≤ 40), (by decide : 31 + 0 ≤ 1216)⟩)
          dsimp only [Pt.U, Pt.locs, Pt.cells, Pt.slots] at X143 l143 y143 z143 st143 hQ143
          subst l143 y143 z143
          obtain ⟨rfl, N143q, e143⟩ := hQ143
          have N143 := Fr.app N141 N143q
          have K143 : ∀ t, Steps p.tables e below (T143.setTop (mkF m 191 #[.val (.int p0), .val (.int p1), .val (.int p2), .val (.ref b2), .val (.ref b10), .val (.ref b16_8), .val (.int (w0_m4 p2)), .val (.int (w0_m5 p2)), .val (.int (w0_m6 p2)), .val (.int (w0_m7 p2)), .val (.int (w0_m8 p2)), .val (.ref b100), .val (.ref b106), .unset, .unset, .unset] [(.int (0 : Int32))])) t → Steps p.tables e below S0 t := fun t k => K_142 t (st143.trans k)
          have K144 : ∀ t, Steps p.tables e below (T143.setTop (mkF m 193 #[.val (.int p0), .val (.int p1), .val (.int p2), .val (.ref b2), .val (.ref b10), .val (.ref b16_8), .val (.int (w0_m4 p2)), .val (.int (w0_m5 p2)), .val (.int (w0_m6 p2)), .val (.int (w0_m7 p2)), .val (.int (w0_m8 p2)), .val (.ref b100), .val (.ref b106), .unset, .unset, .unset] [(.int (w0_m4 p2)), (.int (0 : Int32))])) t → Steps p.tables e below S0 t := fun t k => K143 t (by
            refine XS.iload X143.here hx rfl (hb hby at_191) rfl ?_
            show Steps p.tables e below (T143.setTop (mkF m 193 #[.val (.int p0), .val (.int p1), .val (.int p2), .val (.ref b2), .val (.ref b10), .val (.ref b16_8), .val (.int (w0_m4 p2)), .val (.int (w0_m5 p2)), .val (.int (w0_m6 p2)), .val (.int (w0_m7 p2)), .val (.int (w0_m8 p2)), .val (.ref b100), .val (.ref b106), .unset, .unset, .unset] [(.int (w0_m4 p2)), (.int (0 : Int32))])) _
            exact k)
          have hf145 : (0 : Int32) = (w0_m4 p2) := hc115_0.symm
          have K146 : ∀ t, Steps p.tables e below (T143.setTop (mkF m 200 #[.val (.int p0), .val (.int p1), .val (.int p2), .val (.ref b2), .val (.ref b10), .val (.ref b16_8), .val (.int (w0_m4 p2)), .val (.int (w0_m5 p2)), .val (.int (w0_m6 p2)), .val (.int (w0_m7 p2)), .val (.int (w0_m8 p2)), .val (.ref b100), .val (.ref b106), .unset, .unset, .unset] [(.ref b106)])) t → Steps p.tables e below S0 t := fun t k => K144 t (by
            refine XS.icmpYes X143.here hx rfl (pc0 := 193) (pc' := 198) rfl (hb hby at_193) rfl (XT.ii_eq_t hf145) (by decide) (by decide) ?_
            show Steps p.tables e below (T143.setTop (mkF m 198 #[.val (.int p0), .val (.int p1), .val (.int p2), .val (.ref b2), .val (.ref b10), .val (.ref b16_8), .val (.int (w0_m4 p2)), .val (.int (w0_m5 p2)), .val (.int (w0_m6 p2)), .val (.int (w0_m7 p2)), .val (.int (w0_m8 p2)), .val (.ref b100), .val (.ref b106), .unset, .unset, .unset] [])) _
            refine XS.aload X143.here hx rfl (hb hby at_198) rfl rfl ?_
            show Steps p.tables e below (T143.setTop (mkF m 200 #[.val (.int p0), .val (.int p1), .val (.int p2), .val (.ref b2), .val (.ref b10), .val (.ref b16_8), .val (.int (w0_m4 p2)), .val (.int (w0_m5 p2)), .val (.int (w0_m6 p2)), .val (.int (w0_m7 p2)), .val (.int (w0_m8 p2)), .val (.ref b100), .val (.ref b106), .unset, .unset, .unset] [(.ref b106)])) _
            exact k)
          have K_147 : ∀ t, Steps p.tables e below (T143.setTop (mkF m 200 #[.val (.int p0), .val (.int p1), .val (.int p2), .val (.ref b2), .val (.ref b10), .val (.ref b16_8), .val (.int (w0_m4 p2)), .val (.int (w0_m5 p2)), .val (.int (w0_m6 p2)), .val (.int (w0_m7 p2)), .val (.int (w0_m8 p2)), .val (.ref b100), .val (.ref b106), .unset, .unset, .unset] [(.ref b106)])) t → Steps p.tables e below S0 t := K146
          obtain ⟨cq148, kq148, q148a, q148b, q148c⟩ := isOf hZ e143 Fn133_0__141
          obtain ⟨_, _, ⟨T148, L148, k148, n148⟩, -, X148, ⟨Lc148, hQ148, l148, y148, z148⟩, st148⟩ := X143.virtualBack hx (y := (⟨"biaxial/cli/Forms$Operand", "repeats", "()Lbiaxial/cli/Forms$Operand;"⟩ : MethodName)) (z := (⟨"biaxial/cli/Forms$Operand", "repeats", "()Lbiaxial/cli/Forms$Operand;"⟩ : MethodName)) hown (mvT hZ (hw _ (List.mem_of_getElem? (i := 78) rfl))) (mvT hZ (hw _ (List.mem_of_getElem? (i := 79) rfl))) (notFace_of_selects (args := #[]) (mvT hZ (hw _ (List.mem_of_getElem? (i := 81) rfl)))) (mvT hZ (hw _ (List.mem_of_getElem? (i := 81) rfl))) (mvT hZ (hw _ (List.mem_of_getElem? (i := 80) rfl))) (by decide) (backOf (W := 0) (rmr10 l Z a0 hw [] b106 b100 (nar .boolean (w0_m5 p2)) (nar .boolean (w0_m6 p2)) T141.heap n0 Zs141 Fn133_1__141 Fn133_2__141 Fn133_3__141 Fn133_4__141 Fn133_5__141) hZ (hw _ (List.mem_of_getElem? (i := 82) rfl)) (hw _ (List.mem_of_getElem? (i := 46) rfl)) (by decide) (by decide)) q148a q148c (g := (mkF m 200 #[.val (.int p0), .val (.int p1), .val (.int p2), .val (.ref b2), .val (.ref b10), .val (.ref b16_8), .val (.int (w0_m4 p2)), .val (.int (w0_m5 p2)), .val (.int (w0_m6 p2)), .val (.int (w0_m7 p2)), .val (.int (w0_m8 p2)), .val (.ref b100), .val (.ref b106), .unset, .unset, .unset] [(.ref b106)])) rfl (by rw [hml]; rfl) (Steps.refl _) (argsL := []) (rest := []) (lenOf pd0_4 rfl) rfl (by show 2 * 0 + _ ≤ _; exact Nat.le_of_eq rfl) (hb hby at_200) (fun _ _ => ⟨rfl, e143, (by decide : 11 + 1 ≤ 40), (by decide : 31 + 5 ≤ 1216)⟩)
          dsimp only [Pt.U, Pt.locs, Pt.cells, Pt.slots] at X148 l148 y148 z148 st148 hQ148
          subst l148 y148 z148
          obtain ⟨b148_1, rfl, N148q, Kp148, lb_b148_1, Fn148_0, Fn148_1, Fn148_2, Fn148_3, Fn148_4, Fn148_5⟩ := hQ148
          have N148 := Fr.app N143 N148q
          have g_b148_1 : n0 ≤ b148_1 := Nat.le_trans Zs141 lb_b148_1
          have ne_b106_b148_1 : b106 ≠ b148_1 := Nat.ne_of_lt (Nat.lt_of_lt_of_le Fn133_0__141.lt lb_b148_1)
          have OL148 := OL141.keep Kp148 all0
          have Fn133_0__148 := Fn133_0__141.keep Kp148
          have Fn133_1__148 := Fn133_1__141.keep Kp148 nin0
          have Fn133_2__148 := Fn133_2__141.keep Kp148 nin0
          have Fn133_3__148 := Fn133_3__141.keep Kp148 nin0
          have Fn133_4__148 := Fn133_4__141.keep Kp148 nin0
          have Fn133_5__148 := Fn133_5__141.keep Kp148 nin0
          have Zs148 : n0 ≤ T148.heap.size := Nat.le_trans Zs141 Kp148.1
          have Zk148 : T104.heap.size ≤ T148.heap.size := Nat.le_trans Zk141 Kp148.1
          have K148 : ∀ t, Steps p.tables e below (T148.setTop (mkF m 203 #[.val (.int p0), .val (.int p1), .val (.int p2), .val (.ref b2), .val (.ref b10), .val (.ref b16_8), .val (.int (w0_m4 p2)), .val (.int (w0_m5 p2)), .val (.int (w0_m6 p2)), .val (.int (w0_m7 p2)), .val (.int (w0_m8 p2)), .val (.ref b100), .val (.ref b106), .unset, .unset, .unset] [(.ref b148_1)])) t → Steps p.tables e below S0 t := fun t k => K_147 t (st148.trans k)
          have K_149 : ∀ t, Steps p.tables e below (T148.setTop (mkF m 203 #[.val (.int p0), .val (.int p1), .val (.int p2), .val (.ref b2), .val (.ref b10), .val (.ref b16_8), .val (.int (w0_m4 p2)), .val (.int (w0_m5 p2)), .val (.int (w0_m6 p2)), .val (.int (w0_m7 p2)), .val (.int (w0_m8 p2)), .val (.ref b100), .val (.ref b106), .unset, .unset, .unset] [(.ref b148_1)])) t → Steps p.tables e below S0 t := K148
          obtain ⟨cq150, kq150, q150a, q150b, q150c⟩ := isOf hZ rfl Fn148_0
          obtain ⟨_, _, ⟨T150, L150, k150, n150⟩, -, X150, ⟨Lc150, hQ150, l150, y150, z150⟩, st150⟩ := X148.virtualBack hx (y := (⟨"biaxial/cli/Forms$Operand", "isSwitch", "()Z"⟩ : MethodName)) (z := (⟨"biaxial/cli/Forms$Operand", "isSwitch", "()Z"⟩ : MethodName)) hown (mvT hZ (hw _ (List.mem_of_getElem? (i := 66) rfl))) (mvT hZ (hw _ (List.mem_of_getElem? (i := 67) rfl))) (notFace_of_selects (args := #[]) (mvT hZ (hw _ (List.mem_of_getElem? (i := 69) rfl)))) (mvT hZ (hw _ (List.mem_of_getElem? (i := 69) rfl))) (mvT hZ (hw _ (List.mem_of_getElem? (i := 68) rfl))) (by decide) (backOf (W := 0) (rmw1 l Z a0 hw [] b148_1 b100 T148.heap n0 Zs148 Fn148_1) hZ (hw _ (List.mem_of_getElem? (i := 70) rfl)) (hw _ (List.mem_of_getElem? (i := 46) rfl)) (by decide) (by decide)) q150a q150c (g := (mkF m 203 #[.val (.int p0), .val (.int p1), .val (.int p2), .val (.ref b2), .val (.ref b10), .val (.ref b16_8), .val (.int (w0_m4 p2)), .val (.int (w0_m5 p2)), .val (.int (w0_m6 p2)), .val (.int (w0_m7 p2)), .val (.int (w0_m8 p2)), .val (.ref b100), .val (.ref b106), .unset, .unset, .unset] [(.ref b148_1)])) rfl (by rw [hml]; rfl) (Steps.refl _) (argsL := []) (rest := []) (lenOf pd0_3 rfl) rfl (by show 2 * 0 + _ ≤ _; exact Nat.le_of_eq rfl) (hb hby at_203) (fun _ _ => ⟨rfl, rfl, (by decide : 12 + 0 ≤ 40), (by decide : 36 + 0 ≤ 1216)⟩)
          dsimp only [Pt.U, Pt.locs, Pt.cells, Pt.slots] at X150 l150 y150 z150 st150 hQ150
          subst l150 y150 z150
          obtain ⟨rfl, N150q, e150⟩ := hQ150
          have N150 := Fr.app N148 N150q
          have K150 : ∀ t, Steps p.tables e below (T150.setTop (mkF m 206 #[.val (.int p0), .val (.int p1), .val (.int p2), .val (.ref b2), .val (.ref b10), .val (.ref b16_8), .val (.int (w0_m4 p2)), .val (.int (w0_m5 p2)), .val (.int (w0_m6 p2)), .val (.int (w0_m7 p2)), .val (.int (w0_m8 p2)), .val (.ref b100), .val (.ref b106), .unset, .unset, .unset] [(.int (0 : Int32))])) t → Steps p.tables e below S0 t := fun t k => K_149 t (st150.trans k)
          have K151 : ∀ t, Steps p.tables e below (T150.setTop (mkF m 208 #[.val (.int p0), .val (.int p1), .val (.int p2), .val (.ref b2), .val (.ref b10), .val (.ref b16_8), .val (.int (w0_m4 p2)), .val (.int (w0_m5 p2)), .val (.int (w0_m6 p2)), .val (.int (w0_m7 p2)), .val (.int (w0_m8 p2)), .val (.ref b100), .val (.ref b106), .unset, .unset, .unset] [(.int (w0_m4 p2)), (.int (0 : Int32))])) t → Steps p.tables e below S0 t := fun t k => K150 t (by
            refine XS.iload X150.here hx rfl (hb hby at_206) rfl ?_
            show Steps p.tables e below (T150.setTop (mkF m 208 #[.val (.int p0), .val (.int p1), .val (.int p2), .val (.ref b2), .val (.ref b10), .val (.ref b16_8), .val (.int (w0_m4 p2)), .val (.int (w0_m5 p2)), .val (.int (w0_m6 p2)), .val (.int (w0_m7 p2)), .val (.int (w0_m8 p2)), .val (.ref b100), .val (.ref b106), .unset, .unset, .unset] [(.int (w0_m4 p2)), (.int (0 : Int32))])) _
            exact k)
          have hf152 : (0 : Int32) = (w0_m4 p2) := hc115_0.symm
          have K153 : ∀ t, Steps p.tables e below (T150.setTop (mkF m 213 #[.val (.int p0), .val (.int p1), .val (.int p2), .val (.ref b2), .val (.ref b10), .val (.ref b16_8), .val (.int (w0_m4 p2)), .val (.int (w0_m5 p2)), .val (.int (w0_m6 p2)), .val (.int (w0_m7 p2)), .val (.int (w0_m8 p2)), .val (.ref b100), .val (.ref b106), .unset, .unset, .unset] [])) t → Steps p.tables e below S0 t := fun t k => K151 t (by
            refine XS.icmpYes X150.here hx rfl (pc0 := 208) (pc' := 213) rfl (hb hby at_208) rfl (XT.ii_eq_t hf152) (by decide) (by decide) ?_
            show Steps p.tables e below (T150.setTop (mkF m 213 #[.val (.int p0), .val (.int p1), .val (.int p2), .val (.ref b2), .val (.ref b10), .val (.ref b16_8), .val (.int (w0_m4 p2)), .val (.int (w0_m5 p2)), .val (.int (w0_m6 p2)), .val (.int (w0_m7 p2)), .val (.int (w0_m8 p2)), .val (.ref b100), .val (.ref b106), .unset, .unset, .unset] [])) _
            exact k)
          exact ⟨T150, T104.vm, T104.heap.size, _, .val (.ref b100), .val (.ref b106), X150, N150, hS104, (by rw [e150]; exact Zk148), (by rw [e150]; exact Zs148), hZ, hown, (by rw [e150]; exact OL148), One.val rfl, One.val rfl, fun t k => K153 t k⟩
    · -- no
      have K154 : ∀ t, Steps p.tables e below (T42.setTop (mkF m 144 #[.val (.int p0), .val (.int p1), .val (.int p2), .val (.ref b2), .val (.ref b10), .val (.ref b16_8), .val (.int (w0_m4 p2)), .val (.int (w0_m5 p2)), .val (.int (w0_m6 p2)), .val (.int (w0_m7 p2)), .val (.int (w0_m8 p2)), .val .null, .unset, .unset, .unset, .unset] [])) t → Steps p.tables e below S0 t := fun t k => K47 t (by
        refine XS.ifNo X42.here hx rfl (hb hby at_115) rfl (XT.i0_eq_f hc115_0) ?_
        show Steps p.tables e below (T42.setTop (mkF m 118 #[.val (.int p0), .val (.int p1), .val (.int p2), .val (.ref b2), .val (.ref b10), .val (.ref b16_8), .val (.int (w0_m4 p2)), .val (.int (w0_m5 p2)), .val (.int (w0_m6 p2)), .val (.int (w0_m7 p2)), .val (.int (w0_m8 p2)), .unset, .unset, .unset, .unset, .unset] [])) _
        refine XS.aconstNull X42.here hx rfl (hb hby at_118) ?_
        show Steps p.tables e below (T42.setTop (mkF m 119 #[.val (.int p0), .val (.int p1), .val (.int p2), .val (.ref b2), .val (.ref b10), .val (.ref b16_8), .val (.int (w0_m4 p2)), .val (.int (w0_m5 p2)), .val (.int (w0_m6 p2)), .val (.int (w0_m7 p2)), .val (.int (w0_m8 p2)), .unset, .unset, .unset, .unset, .unset] [.null])) _
        refine XS.goto X42.here hx rfl (pc0 := 119) (pc' := 142) rfl (hb hby at_119) (by decide) (by decide) ?_
        show Steps p.tables e below (T42.setTop (mkF m 142 #[.val (.int p0), .val (.int p1), .val (.int p2), .val (.ref b2), .val (.ref b10), .val (.ref b16_8), .val (.int (w0_m4 p2)), .val (.int (w0_m5 p2)), .val (.int (w0_m6 p2)), .val (.int (w0_m7 p2)), .val (.int (w0_m8 p2)), .unset, .unset, .unset, .unset, .unset] [.null])) _
        refine XS.astore X42.here hx rfl (hb hby at_142) rfl rfl (l' := #[.val (.int p0), .val (.int p1), .val (.int p2), .val (.ref b2), .val (.ref b10), .val (.ref b16_8), .val (.int (w0_m4 p2)), .val (.int (w0_m5 p2)), .val (.int (w0_m6 p2)), .val (.int (w0_m7 p2)), .val (.int (w0_m8 p2)), .val .null, .unset, .unset, .unset, .unset]) rfl ?_
        show Steps p.tables e below (T42.setTop (mkF m 144 #[.val (.int p0), .val (.int p1), .val (.int p2), .val (.ref b2), .val (.ref b10), .val (.ref b16_8), .val (.int (w0_m4 p2)), .val (.int (w0_m5 p2)), .val (.int (w0_m6 p2)), .val (.int (w0_m7 p2)), .val (.int (w0_m8 p2)), .val .null, .unset, .unset, .unset, .unset] [])) _
        exact k)
      obtain ⟨T155, h155, X155, e155, E155, A155, D155, -, st155⟩ := newO X42 hx hZ hown (hw _ (List.mem_of_getElem? (i := 44) rfl)) (hw _ (List.mem_of_getElem? (i := 45) rfl)) (hw _ (List.mem_of_getElem? (i := 46) rfl)) e42 (g := (mkF m 144 #[.val (.int p0), .val (.int p1), .val (.int p2), .val (.ref b2), .val (.ref b10), .val (.ref b16_8), .val (.int (w0_m4 p2)), .val (.int (w0_m5 p2)), .val (.int (w0_m6 p2)), .val (.int (w0_m7 p2)), .val (.int (w0_m8 p2)), .val .null, .unset, .unset, .unset, .unset] [])) rfl (hb hby at_144) (by decide) (by decide)
      obtain ⟨b155, g155⟩ : ∃ z, z = T16.heap.size := ⟨_, rfl⟩
      rw [← g155] at A155 D155 st155
      have OL155 := OL16.ext E155
      have g_b155 : n0 ≤ b155 := Nat.le_trans Zs16 (Nat.le_of_eq g155.symm)
      have Zs155 : n0 ≤ h155.size := Nat.le_trans Zs16 E155.1
      have F_b155_name : Fld Z h155 b155 "biaxial/cli/Forms$Operand" "name" "Ljava/lang/String;" .null := D155 (Or.inr (hw _ (List.mem_of_getElem? (i := 57) rfl))) (ty := (.object "java/lang/String")) (by decide)
      have F_b155_kind : Fld Z h155 b155 "biaxial/cli/Forms$Operand" "kind" "Lbiaxial/cli/Forms$Kind;" .null := D155 (Or.inr (hw _ (List.mem_of_getElem? (i := 59) rfl))) (ty := (.object "biaxial/cli/Forms$Kind")) (by decide)
      have F_b155_required : Fld Z h155 b155 "biaxial/cli/Forms$Operand" "required" "Z" (.int (0 : Int32)) := D155 (Or.inr (hw _ (List.mem_of_getElem? (i := 61) rfl))) (ty := .boolean) (by decide)
      have F_b155_repeated : Fld Z h155 b155 "biaxial/cli/Forms$Operand" "repeated" "Z" (.int (0 : Int32)) := D155 (Or.inr (hw _ (List.mem_of_getElem? (i := 63) rfl))) (ty := .boolean) (by decide)
      have F_b155_flag : Fld Z h155 b155 "biaxial/cli/Forms$Operand" "flag" "Ljava/lang/String;" .null := D155 (Or.inr (hw _ (List.mem_of_getElem? (i := 65) rfl))) (ty := (.object "java/lang/String")) (by decide)
      have K155 : ∀ t, Steps p.tables e below (T155.setTop (mkF m 147 #[.val (.int p0), .val (.int p1), .val (.int p2), .val (.ref b2), .val (.ref b10), .val (.ref b16_8), .val (.int (w0_m4 p2)), .val (.int (w0_m5 p2)), .val (.int (w0_m6 p2)), .val (.int (w0_m7 p2)), .val (.int (w0_m8 p2)), .val .null, .unset, .unset, .unset, .unset] [(.ref b155)])) t → Steps p.tables e below S0 t := fun t k => K154 t (st155 t k)
      have K156 : ∀ t, Steps p.tables e below (T155.setTop (mkF m 157 #[.val (.int p0), .val (.int p1), .val (.int p2), .val (.ref b2), .val (.ref b10), .val (.ref b16_8), .val (.int (w0_m4 p2)), .val (.int (w0_m5 p2)), .val (.int (w0_m6 p2)), .val (.int (w0_m7 p2)), .val (.int (w0_m8 p2)), .val .null, .unset, .unset, .unset, .unset] [(.int (w0_m7 p2)), (.int (w0_m6 p2)), (.int (w0_m5 p2)), .null, .null, (.ref b155), (.ref b155)])) t → Steps p.tables e below S0 t := fun t k => K155 t (by
        refine XS.dup X155.here hx rfl (hb hby at_147) rfl rfl ?_
        show Steps p.tables e below (T155.setTop (mkF m 148 #[.val (.int p0), .val (.int p1), .val (.int p2), .val (.ref b2), .val (.ref b10), .val (.ref b16_8), .val (.int (w0_m4 p2)), .val (.int (w0_m5 p2)), .val (.int (w0_m6 p2)), .val (.int (w0_m7 p2)), .val (.int (w0_m8 p2)), .val .null, .unset, .unset, .unset, .unset] [(.ref b155), (.ref b155)])) _
        refine XS.aload X155.here hx rfl (hb hby at_148) rfl rfl ?_
        show Steps p.tables e below (T155.setTop (mkF m 150 #[.val (.int p0), .val (.int p1), .val (.int p2), .val (.ref b2), .val (.ref b10), .val (.ref b16_8), .val (.int (w0_m4 p2)), .val (.int (w0_m5 p2)), .val (.int (w0_m6 p2)), .val (.int (w0_m7 p2)), .val (.int (w0_m8 p2)), .val .null, .unset, .unset, .unset, .unset] [.null, (.ref b155), (.ref b155)])) _
        refine XS.aconstNull X155.here hx rfl (hb hby at_150) ?_
        show Steps p.tables e below (T155.setTop (mkF m 151 #[.val (.int p0), .val (.int p1), .val (.int p2), .val (.ref b2), .val (.ref b10), .val (.ref b16_8), .val (.int (w0_m4 p2)), .val (.int (w0_m5 p2)), .val (.int (w0_m6 p2)), .val (.int (w0_m7 p2)), .val (.int (w0_m8 p2)), .val .null, .unset, .unset, .unset, .unset] [.null, .null, (.ref b155), (.ref b155)])) _
        refine XS.iload X155.here hx rfl (hb hby at_151) rfl ?_
        show Steps p.tables e below (T155.setTop (mkF m 153 #[.val (.int p0), .val (.int p1), .val (.int p2), .val (.ref b2), .val (.ref b10), .val (.ref b16_8), .val (.int (w0_m4 p2)), .val (.int (w0_m5 p2)), .val (.int (w0_m6 p2)), .val (.int (w0_m7 p2)), .val (.int (w0_m8 p2)), .val .null, .unset, .unset, .unset, .unset] [(.int (w0_m5 p2)), .null, .null, (.ref b155), (.ref b155)])) _
        refine XS.iload X155.here hx rfl (hb hby at_153) rfl ?_
        show Steps p.tables e below (T155.setTop (mkF m 155 #[.val (.int p0), .val (.int p1), .val (.int p2), .val (.ref b2), .val (.ref b10), .val (.ref b16_8), .val (.int (w0_m4 p2)), .val (.int (w0_m5 p2)), .val (.int (w0_m6 p2)), .val (.int (w0_m7 p2)), .val (.int (w0_m8 p2)), .val .null, .unset, .unset, .unset, .unset] [(.int (w0_m6 p2)), (.int (w0_m5 p2)), .null, .null, (.ref b155), (.ref b155)])) _
        refine XS.iload X155.here hx rfl (hb hby at_155) rfl ?_
        show Steps p.tables e below (T155.setTop (mkF m 157 #[.val (.int p0), .val (.int p1), .val (.int p2), .val (.ref b2), .val (.ref b10), .val (.ref b16_8), .val (.int (w0_m4 p2)), .val (.int (w0_m5 p2)), .val (.int (w0_m6 p2)), .val (.int (w0_m7 p2)), .val (.int (w0_m8 p2)), .val .null, .unset, .unset, .unset, .unset] [(.int (w0_m7 p2)), (.int (w0_m6 p2)), (.int (w0_m5 p2)), .null, .null, (.ref b155), (.ref b155)])) _
        exact k)
      by_cases hc157_1 : (w0_m7 p2) = (0 : Int32)
      · -- yes
        have K157 : ∀ t, Steps p.tables e below (T155.setTop (mkF m 166 #[.val (.int p0), .val (.int p1), .val (.int p2), .val (.ref b2), .val (.ref b10), .val (.ref b16_8), .val (.int (w0_m4 p2)), .val (.int (w0_m5 p2)), .val (.int (w0_m6 p2)), .val (.int (w0_m7 p2)), .val (.int (w0_m8 p2)), .val .null, .unset, .unset, .unset, .unset] [(.ref b16_8), (.int (w0_m6 p2)), (.int (w0_m5 p2)), .null, .null, (.ref b155), (.ref b155)])) t → Steps p.tables e below S0 t := fun t k => K156 t (by
          refine XS.ifYes X155.here hx rfl (pc0 := 157) (pc' := 164) rfl (hb hby at_157) rfl (XT.i0_eq_t hc157_1) (by decide) (by decide) ?_
          show Steps p.tables e below (T155.setTop (mkF m 164 #[.val (.int p0), .val (.int p1), .val (.int p2), .val (.ref b2), .val (.ref b10), .val (.ref b16_8), .val (.int (w0_m4 p2)), .val (.int (w0_m5 p2)), .val (.int (w0_m6 p2)), .val (.int (w0_m7 p2)), .val (.int (w0_m8 p2)), .val .null, .unset, .unset, .unset, .unset] [(.int (w0_m6 p2)), (.int (w0_m5 p2)), .null, .null, (.ref b155), (.ref b155)])) _
          refine XS.aload X155.here hx rfl (hb hby at_164) rfl rfl ?_
          show Steps p.tables e below (T155.setTop (mkF m 166 #[.val (.int p0), .val (.int p1), .val (.int p2), .val (.ref b2), .val (.ref b10), .val (.ref b16_8), .val (.int (w0_m4 p2)), .val (.int (w0_m5 p2)), .val (.int (w0_m6 p2)), .val (.int (w0_m7 p2)), .val (.int (w0_m8 p2)), .val .null, .unset, .unset, .unset, .unset] [(.ref b16_8), (.int (w0_m6 p2)), (.int (w0_m5 p2)), .null, .null, (.ref b155), (.ref b155)])) _
          exact k)
        have K_158 : ∀ t, Steps p.tables e below (T155.setTop (mkF m 166 #[.val (.int p0), .val (.int p1), .val (.int p2), .val (.ref b2), .val (.ref b10), .val (.ref b16_8), .val (.int (w0_m4 p2)), .val (.int (w0_m5 p2)), .val (.int (w0_m6 p2)), .val (.int (w0_m7 p2)), .val (.int (w0_m8 p2)), .val .null, .unset, .unset, .unset, .unset] [(.ref b16_8), (.int (w0_m6 p2)), (.int (w0_m5 p2)), .null, .null, (.ref b155), (.ref b155)])) t → Steps p.tables e below S0 t := K157
        obtain ⟨_, _, ⟨T159, L159, k159, n159⟩, -, X159, ⟨Lc159, hQ159, l159, y159, z159⟩, st159⟩ := X155.specialBack hx (y := (⟨"biaxial/cli/Forms$Operand", "<init>", "(Ljava/lang/String;Lbiaxial/cli/Forms$Kind;ZZLjava/lang/String;)V"⟩ : MethodName)) rfl hown (mvT hZ (hw _ (List.mem_of_getElem? (i := 47) rfl))) (mvT hZ (hw _ (List.mem_of_getElem? (i := 48) rfl))) (mvT hZ (hw _ (List.mem_of_getElem? (i := 49) rfl))) (by decide) (backOf (W := 1) (rmi001 l Z a0 hw [] b155 (w0_m5 p2) (w0_m6 p2) b16_8 h155 n0 Zs155 A155 F_b155_name F_b155_kind F_b155_required F_b155_repeated F_b155_flag g_b155) hZ (hw _ (List.mem_of_getElem? (i := 49) rfl)) (hw _ (List.mem_of_getElem? (i := 46) rfl)) (by decide) (by decide)) (g := (mkF m 166 #[.val (.int p0), .val (.int p1), .val (.int p2), .val (.ref b2), .val (.ref b10), .val (.ref b16_8), .val (.int (w0_m4 p2)), .val (.int (w0_m5 p2)), .val (.int (w0_m6 p2)), .val (.int (w0_m7 p2)), .val (.int (w0_m8 p2)), .val .null, .unset, .unset, .unset, .unset] [(.ref b16_8), (.int (w0_m6 p2)), (.int (w0_m5 p2)), .null, .null, (.ref b155), (.ref b155)])) rfl (by rw [hml]; rfl) (Steps.refl _) (a := b155) (argsL := [.null, .null, (.int (w0_m5 p2)), (.int (w0_m6 p2)), (.ref b16_8)]) (rest := [(.ref b155)]) (lenOf pd0_2 rfl) rfl (by show 2 * 0 + _ ≤ _; exact Nat.le_of_eq rfl) (hb hby at_166) (fun _ _ => ⟨rfl, e155, (by decide : 6 + 0 ≤ 40), (by decide : 18 + 0 ≤ 1216)⟩)
        dsimp only [Pt.U, Pt.locs, Pt.cells, Pt.slots] at X159 l159 y159 z159 st159 hQ159
        subst l159 y159 z159
        obtain ⟨rfl, N159q, Kp159, Fn159_0, Fn159_1, Fn159_2, Fn159_3, Fn159_4, Fn159_5⟩ := hQ159
        have N159 := Fr.app N42 N159q
        have OL159 := OL155.keep Kp159 (allS (P := fun x => n0 ≤ x) g_b155 all0)
        have Zs159 : n0 ≤ T159.heap.size := Nat.le_trans Zs155 Kp159.1
        have K159 : ∀ t, Steps p.tables e below (T159.setTop (mkF m 169 #[.val (.int p0), .val (.int p1), .val (.int p2), .val (.ref b2), .val (.ref b10), .val (.ref b16_8), .val (.int (w0_m4 p2)), .val (.int (w0_m5 p2)), .val (.int (w0_m6 p2)), .val (.int (w0_m7 p2)), .val (.int (w0_m8 p2)), .val .null, .unset, .unset, .unset, .unset] [(.ref b155)])) t → Steps p.tables e below S0 t := fun t k => K_158 t (st159.trans k)
        have K160 : ∀ t, Steps p.tables e below (T159.setTop (mkF m 173 #[.val (.int p0), .val (.int p1), .val (.int p2), .val (.ref b2), .val (.ref b10), .val (.ref b16_8), .val (.int (w0_m4 p2)), .val (.int (w0_m5 p2)), .val (.int (w0_m6 p2)), .val (.int (w0_m7 p2)), .val (.int (w0_m8 p2)), .val .null, .val (.ref b155), .unset, .unset, .unset] [(.ref b155)])) t → Steps p.tables e below S0 t := fun t k => K159 t (by
          refine XS.astore X159.here hx rfl (hb hby at_169) rfl rfl (l' := #[.val (.int p0), .val (.int p1), .val (.int p2), .val (.ref b2), .val (.ref b10), .val (.ref b16_8), .val (.int (w0_m4 p2)), .val (.int (w0_m5 p2)), .val (.int (w0_m6 p2)), .val (.int (w0_m7 p2)), .val (.int (w0_m8 p2)), .val .null, .val (.ref b155), .unset, .unset, .unset]) rfl ?_
          show Steps p.tables e below (T159.setTop (mkF m 171 #[.val (.int p0), .val (.int p1), .val (.int p2), .val (.ref b2), .val (.ref b10), .val (.ref b16_8), .val (.int (w0_m4 p2)), .val (.int (w0_m5 p2)), .val (.int (w0_m6 p2)), .val (.int (w0_m7 p2)), .val (.int (w0_m8 p2)), .val .null, .val (.ref b155), .unset, .unset, .unset] [])) _
          refine XS.aload X159.here hx rfl (hb hby at_171) rfl rfl ?_
          show Steps p.tables e below (T159.setTop (mkF m 173 #[.val (.int p0), .val (.int p1), .val (.int p2), .val (.ref b2), .val (.ref b10), .val (.ref b16_8), .val (.int (w0_m4 p2)), .val (.int (w0_m5 p2)), .val (.int (w0_m6 p2)), .val (.int (w0_m7 p2)), .val (.int (w0_m8 p2)), .val .null, .val (.ref b155), .unset, .unset, .unset] [(.ref b155)])) _
          exact k)
        have K_161 : ∀ t, Steps p.tables e below (T159.setTop (mkF m 173 #[.val (.int p0), .val (.int p1), .val (.int p2), .val (.ref b2), .val (.ref b10), .val (.ref b16_8), .val (.int (w0_m4 p2)), .val (.int (w0_m5 p2)), .val (.int (w0_m6 p2)), .val (.int (w0_m7 p2)), .val (.int (w0_m8 p2)), .val .null, .val (.ref b155), .unset, .unset, .unset] [(.ref b155)])) t → Steps p.tables e below S0 t := K160
        obtain ⟨cq162, kq162, q162a, q162b, q162c⟩ := isOf hZ rfl Fn159_0
        obtain ⟨_, _, ⟨T162, L162, k162, n162⟩, -, X162, ⟨Lc162, hQ162, l162, y162, z162⟩, st162⟩ := X159.virtualBack hx (y := (⟨"biaxial/cli/Forms$Operand", "isSwitch", "()Z"⟩ : MethodName)) (z := (⟨"biaxial/cli/Forms$Operand", "isSwitch", "()Z"⟩ : MethodName)) hown (mvT hZ (hw _ (List.mem_of_getElem? (i := 66) rfl))) (mvT hZ (hw _ (List.mem_of_getElem? (i := 67) rfl))) (notFace_of_selects (args := #[]) (mvT hZ (hw _ (List.mem_of_getElem? (i := 69) rfl)))) (mvT hZ (hw _ (List.mem_of_getElem? (i := 69) rfl))) (mvT hZ (hw _ (List.mem_of_getElem? (i := 68) rfl))) (by decide) (backOf (W := 0) (rmw0 l Z a0 hw [] b155 T159.heap n0 Zs159 Fn159_1) hZ (hw _ (List.mem_of_getElem? (i := 70) rfl)) (hw _ (List.mem_of_getElem? (i := 46) rfl)) (by decide) (by decide)) q162a q162c (g := (mkF m 173 #[.val (.int p0), .val (.int p1), .val (.int p2), .val (.ref b2), .val (.ref b10), .val (.ref b16_8), .val (.int (w0_m4 p2)), .val (.int (w0_m5 p2)), .val (.int (w0_m6 p2)), .val (.int (w0_m7 p2)), .val (.int (w0_m8 p2)), .val .null, .val (.ref b155), .unset, .unset, .unset] [(.ref b155)])) rfl (by rw [hml]; rfl) (Steps.refl _) (argsL := []) (rest := []) (lenOf pd0_3 rfl) rfl (by show 2 * 0 + _ ≤ _; exact Nat.le_of_eq rfl) (hb hby at_173) (fun _ _ => ⟨rfl, rfl, (by decide : 6 + 0 ≤ 40), (by decide : 18 + 0 ≤ 1216)⟩)
        dsimp only [Pt.U, Pt.locs, Pt.cells, Pt.slots] at X162 l162 y162 z162 st162 hQ162
        subst l162 y162 z162
        obtain ⟨rfl, N162q, e162⟩ := hQ162
        have N162 := Fr.app N159 N162q
        have K162 : ∀ t, Steps p.tables e below (T162.setTop (mkF m 176 #[.val (.int p0), .val (.int p1), .val (.int p2), .val (.ref b2), .val (.ref b10), .val (.ref b16_8), .val (.int (w0_m4 p2)), .val (.int (w0_m5 p2)), .val (.int (w0_m6 p2)), .val (.int (w0_m7 p2)), .val (.int (w0_m8 p2)), .val .null, .val (.ref b155), .unset, .unset, .unset] [(.int (1 : Int32))])) t → Steps p.tables e below S0 t := fun t k => K_161 t (st162.trans k)
        have K163 : ∀ t, Steps p.tables e below (T162.setTop (mkF m 178 #[.val (.int p0), .val (.int p1), .val (.int p2), .val (.ref b2), .val (.ref b10), .val (.ref b16_8), .val (.int (w0_m4 p2)), .val (.int (w0_m5 p2)), .val (.int (w0_m6 p2)), .val (.int (w0_m7 p2)), .val (.int (w0_m8 p2)), .val .null, .val (.ref b155), .unset, .unset, .unset] [(.int (w0_m4 p2)), (.int (1 : Int32))])) t → Steps p.tables e below S0 t := fun t k => K162 t (by
          refine XS.iload X162.here hx rfl (hb hby at_176) rfl ?_
          show Steps p.tables e below (T162.setTop (mkF m 178 #[.val (.int p0), .val (.int p1), .val (.int p2), .val (.ref b2), .val (.ref b10), .val (.ref b16_8), .val (.int (w0_m4 p2)), .val (.int (w0_m5 p2)), .val (.int (w0_m6 p2)), .val (.int (w0_m7 p2)), .val (.int (w0_m8 p2)), .val .null, .val (.ref b155), .unset, .unset, .unset] [(.int (w0_m4 p2)), (.int (1 : Int32))])) _
          exact k)
        have hf164 : (1 : Int32) = (w0_m4 p2) := (own_m4 p2 hc115_0)
        have K165 : ∀ t, Steps p.tables e below (T162.setTop (mkF m 185 #[.val (.int p0), .val (.int p1), .val (.int p2), .val (.ref b2), .val (.ref b10), .val (.ref b16_8), .val (.int (w0_m4 p2)), .val (.int (w0_m5 p2)), .val (.int (w0_m6 p2)), .val (.int (w0_m7 p2)), .val (.int (w0_m8 p2)), .val .null, .val (.ref b155), .unset, .unset, .unset] [(.ref b155)])) t → Steps p.tables e below S0 t := fun t k => K163 t (by
          refine XS.icmpYes X162.here hx rfl (pc0 := 178) (pc' := 183) rfl (hb hby at_178) rfl (XT.ii_eq_t hf164) (by decide) (by decide) ?_
          show Steps p.tables e below (T162.setTop (mkF m 183 #[.val (.int p0), .val (.int p1), .val (.int p2), .val (.ref b2), .val (.ref b10), .val (.ref b16_8), .val (.int (w0_m4 p2)), .val (.int (w0_m5 p2)), .val (.int (w0_m6 p2)), .val (.int (w0_m7 p2)), .val (.int (w0_m8 p2)), .val .null, .val (.ref b155), .unset, .unset, .unset] [])) _
          refine XS.aload X162.here hx rfl (hb hby at_183) rfl rfl ?_
          show Steps p.tables e below (T162.setTop (mkF m 185 #[.val (.int p0), .val (.int p1), .val (.int p2), .val (.ref b2), .val (.ref b10), .val (.ref b16_8), .val (.int (w0_m4 p2)), .val (.int (w0_m5 p2)), .val (.int (w0_m6 p2)), .val (.int (w0_m7 p2)), .val (.int (w0_m8 p2)), .val .null, .val (.ref b155), .unset, .unset, .unset] [(.ref b155)])) _
          exact k)
        have K_166 : ∀ t, Steps p.tables e below (T162.setTop (mkF m 185 #[.val (.int p0), .val (.int p1), .val (.int p2), .val (.ref b2), .val (.ref b10), .val (.ref b16_8), .val (.int (w0_m4 p2)), .val (.int (w0_m5 p2)), .val (.int (w0_m6 p2)), .val (.int (w0_m7 p2)), .val (.int (w0_m8 p2)), .val .null, .val (.ref b155), .unset, .unset, .unset] [(.ref b155)])) t → Steps p.tables e below S0 t := K165
        obtain ⟨cq167, kq167, q167a, q167b, q167c⟩ := isOf hZ e162 Fn159_0
        obtain ⟨_, _, ⟨T167, L167, k167, n167⟩, -, X167, ⟨Lc167, hQ167, l167, y167, z167⟩, st167⟩ := X162.virtualBack hx (y := (⟨"biaxial/cli/Forms$Operand", "optional", "()Lbiaxial/cli/Forms$Operand;"⟩ : MethodName)) (z := (⟨"biaxial/cli/Forms$Operand", "optional", "()Lbiaxial/cli/Forms$Operand;"⟩ : MethodName)) hown (mvT hZ (hw _ (List.mem_of_getElem? (i := 71) rfl))) (mvT hZ (hw _ (List.mem_of_getElem? (i := 72) rfl))) (notFace_of_selects (args := #[]) (mvT hZ (hw _ (List.mem_of_getElem? (i := 74) rfl)))) (mvT hZ (hw _ (List.mem_of_getElem? (i := 74) rfl))) (mvT hZ (hw _ (List.mem_of_getElem? (i := 73) rfl))) (by decide) (backOf (W := 0) (rmo01 l Z a0 hw [] b155 b16_8 (nar .boolean (w0_m5 p2)) (nar .boolean (w0_m6 p2)) T159.heap n0 Zs159 Fn159_1 Fn159_2 Fn159_3 Fn159_4 Fn159_5) hZ (hw _ (List.mem_of_getElem? (i := 75) rfl)) (hw _ (List.mem_of_getElem? (i := 46) rfl)) (by decide) (by decide)) q167a q167c (g := (mkF m 185 #[.val (.int p0), .val (.int p1), .val (.int p2), .val (.ref b2), .val (.ref b10), .val (.ref b16_8), .val (.int (w0_m4 p2)), .val (.int (w0_m5 p2)), .val (.int (w0_m6 p2)), .val (.int (w0_m7 p2)), .val (.int (w0_m8 p2)), .val .null, .val (.ref b155), .unset, .unset, .unset] [(.ref b155)])) rfl (by rw [hml]; rfl) (Steps.refl _) (argsL := []) (rest := []) (lenOf pd0_4 rfl) rfl (by show 2 * 0 + _ ≤ _; exact Nat.le_of_eq rfl) (hb hby at_185) (fun _ _ => ⟨rfl, e162, (by decide : 6 + 1 ≤ 40), (by decide : 18 + 5 ≤ 1216)⟩)
        dsimp only [Pt.U, Pt.locs, Pt.cells, Pt.slots] at X167 l167 y167 z167 st167 hQ167
        subst l167 y167 z167
        obtain ⟨b167_1, rfl, N167q, Kp167, lb_b167_1, Fn167_0, Fn167_1, Fn167_2, Fn167_3, Fn167_4, Fn167_5⟩ := hQ167
        have N167 := Fr.app N162 N167q
        have g_b167_1 : n0 ≤ b167_1 := Nat.le_trans Zs159 lb_b167_1
        have ne_b155_b167_1 : b155 ≠ b167_1 := Nat.ne_of_lt (Nat.lt_of_lt_of_le Fn159_0.lt lb_b167_1)
        have OL167 := OL159.keep Kp167 all0
        have Fn159_0__167 := Fn159_0.keep Kp167
        have Fn159_1__167 := Fn159_1.keep Kp167 nin0
        have Fn159_2__167 := Fn159_2.keep Kp167 nin0
        have Fn159_3__167 := Fn159_3.keep Kp167 nin0
        have Fn159_4__167 := Fn159_4.keep Kp167 nin0
        have Fn159_5__167 := Fn159_5.keep Kp167 nin0
        have Zs167 : n0 ≤ T167.heap.size := Nat.le_trans Zs159 Kp167.1
        have K167 : ∀ t, Steps p.tables e below (T167.setTop (mkF m 188 #[.val (.int p0), .val (.int p1), .val (.int p2), .val (.ref b2), .val (.ref b10), .val (.ref b16_8), .val (.int (w0_m4 p2)), .val (.int (w0_m5 p2)), .val (.int (w0_m6 p2)), .val (.int (w0_m7 p2)), .val (.int (w0_m8 p2)), .val .null, .val (.ref b155), .unset, .unset, .unset] [(.ref b167_1)])) t → Steps p.tables e below S0 t := fun t k => K_166 t (st167.trans k)
        have K_168 : ∀ t, Steps p.tables e below (T167.setTop (mkF m 188 #[.val (.int p0), .val (.int p1), .val (.int p2), .val (.ref b2), .val (.ref b10), .val (.ref b16_8), .val (.int (w0_m4 p2)), .val (.int (w0_m5 p2)), .val (.int (w0_m6 p2)), .val (.int (w0_m7 p2)), .val (.int (w0_m8 p2)), .val .null, .val (.ref b155), .unset, .unset, .unset] [(.ref b167_1)])) t → Steps p.tables e below S0 t := K167
        obtain ⟨cq169, kq169, q169a, q169b, q169c⟩ := isOf hZ rfl Fn167_0
        obtain ⟨_, _, ⟨T169, L169, k169, n169⟩, -, X169, ⟨Lc169, hQ169, l169, y169, z169⟩, st169⟩ := X167.virtualBack hx (y := (⟨"biaxial/cli/Forms$Operand", "isSwitch", "()Z"⟩ : MethodName)) (z := (⟨"biaxial/cli/Forms$Operand", "isSwitch", "()Z"⟩ : MethodName)) hown (mvT hZ (hw _ (List.mem_of_getElem? (i := 66) rfl))) (mvT hZ (hw _ (List.mem_of_getElem? (i := 67) rfl))) (notFace_of_selects (args := #[]) (mvT hZ (hw _ (List.mem_of_getElem? (i := 69) rfl)))) (mvT hZ (hw _ (List.mem_of_getElem? (i := 69) rfl))) (mvT hZ (hw _ (List.mem_of_getElem? (i := 68) rfl))) (by decide) (backOf (W := 0) (rmw0 l Z a0 hw [] b167_1 T167.heap n0 Zs167 Fn167_1) hZ (hw _ (List.mem_of_getElem? (i := 70) rfl)) (hw _ (List.mem_of_getElem? (i := 46) rfl)) (by decide) (by decide)) q169a q169c (g := (mkF m 188 #[.val (.int p0), .val (.int p1), .val (.int p2), .val (.ref b2), .val (.ref b10), .val (.ref b16_8), .val (.int (w0_m4 p2)), .val (.int (w0_m5 p2)), .val (.int (w0_m6 p2)), .val (.int (w0_m7 p2)), .val (.int (w0_m8 p2)), .val .null, .val (.ref b155), .unset, .unset, .unset] [(.ref b167_1)])) rfl (by rw [hml]; rfl) (Steps.refl _) (argsL := []) (rest := []) (lenOf pd0_3 rfl) rfl (by show 2 * 0 + _ ≤ _; exact Nat.le_of_eq rfl) (hb hby at_188) (fun _ _ => ⟨rfl, rfl, (by decide : 7 + 0 ≤ 40), (by decide : 23 + 0 ≤ 1216)⟩)
        dsimp only [Pt.U, Pt.locs, Pt.cells, Pt.slots] at X169 l169 y169 z169 st169 hQ169
        subst l169 y169 z169
        obtain ⟨rfl, N169q, e169⟩ := hQ169
        have N169 := Fr.app N167 N169q
        have K169 : ∀ t, Steps p.tables e below (T169.setTop (mkF m 191 #[.val (.int p0), .val (.int p1), .val (.int p2), .val (.ref b2), .val (.ref b10), .val (.ref b16_8), .val (.int (w0_m4 p2)), .val (.int (w0_m5 p2)), .val (.int (w0_m6 p2)), .val (.int (w0_m7 p2)), .val (.int (w0_m8 p2)), .val .null, .val (.ref b155), .unset, .unset, .unset] [(.int (1 : Int32))])) t → Steps p.tables e below S0 t := fun t k => K_168 t (st169.trans k)
        have K170 : ∀ t, Steps p.tables e below (T169.setTop (mkF m 193 #[.val (.int p0), .val (.int p1), .val (.int p2), .val (.ref b2), .val (.ref b10), .val (.ref b16_8), .val (.int (w0_m4 p2)), .val (.int (w0_m5 p2)), .val (.int (w0_m6 p2)), .val (.int (w0_m7 p2)), .val (.int (w0_m8 p2)), .val .null, .val (.ref b155), .unset, .unset, .unset] [(.int (w0_m4 p2)), (.int (1 : Int32))])) t → Steps p.tables e below S0 t := fun t k => K169 t (by
          refine XS.iload X169.here hx rfl (hb hby at_191) rfl ?_
          show Steps p.tables e below (T169.setTop (mkF m 193 #[.val (.int p0), .val (.int p1), .val (.int p2), .val (.ref b2), .val (.ref b10), .val (.ref b16_8), .val (.int (w0_m4 p2)), .val (.int (w0_m5 p2)), .val (.int (w0_m6 p2)), .val (.int (w0_m7 p2)), .val (.int (w0_m8 p2)), .val .null, .val (.ref b155), .unset, .unset, .unset] [(.int (w0_m4 p2)), (.int (1 : Int32))])) _
          exact k)
        have hf171 : (1 : Int32) = (w0_m4 p2) := (own_m4 p2 hc115_0)
        have K172 : ∀ t, Steps p.tables e below (T169.setTop (mkF m 200 #[.val (.int p0), .val (.int p1), .val (.int p2), .val (.ref b2), .val (.ref b10), .val (.ref b16_8), .val (.int (w0_m4 p2)), .val (.int (w0_m5 p2)), .val (.int (w0_m6 p2)), .val (.int (w0_m7 p2)), .val (.int (w0_m8 p2)), .val .null, .val (.ref b155), .unset, .unset, .unset] [(.ref b155)])) t → Steps p.tables e below S0 t := fun t k => K170 t (by
          refine XS.icmpYes X169.here hx rfl (pc0 := 193) (pc' := 198) rfl (hb hby at_193) rfl (XT.ii_eq_t hf171) (by decide) (by decide) ?_
          show Steps p.tables e below (T169.setTop (mkF m 198 #[.val (.int p0), .val (.int p1), .val (.int p2), .val (.ref b2), .val (.ref b10), .val (.ref b16_8), .val (.int (w0_m4 p2)), .val (.int (w0_m5 p2)), .val (.int (w0_m6 p2)), .val (.int (w0_m7 p2)), .val (.int (w0_m8 p2)), .val .null, .val (.ref b155), .unset, .unset, .unset] [])) _
          refine XS.aload X169.here hx rfl (hb hby at_198) rfl rfl ?_
          show Steps p.tables e below (T169.setTop (mkF m 200 #[.val (.int p0), .val (.int p1), .val (.int p2), .val (.ref b2), .val (.ref b10), .val (.ref b16_8), .val (.int (w0_m4 p2)), .val (.int (w0_m5 p2)), .val (.int (w0_m6 p2)), .val (.int (w0_m7 p2)), .val (.int (w0_m8 p2)), .val .null, .val (.ref b155), .unset, .unset, .unset] [(.ref b155)])) _
          exact k)
        have K_173 : ∀ t, Steps p.tables e below (T169.setTop (mkF m 200 #[.val (.int p0), .val (.int p1), .val (.int p2), .val (.ref b2), .val (.ref b10), .val (.ref b16_8), .val (.int (w0_m4 p2)), .val (.int (w0_m5 p2)), .val (.int (w0_m6 p2)), .val (.int (w0_m7 p2)), .val (.int (w0_m8 p2)), .val .null, .val (.ref b155), .unset, .unset, .unset] [(.ref b155)])) t → Steps p.tables e below S0 t := K172
        obtain ⟨cq174, kq174, q174a, q174b, q174c⟩ := isOf hZ e169 Fn159_0__167
        obtain ⟨_, _, ⟨T174, L174, k174, n174⟩, -, X174, ⟨Lc174, hQ174, l174, y174, z174⟩, st174⟩ := X169.virtualBack hx (y := (⟨"biaxial/cli/Forms$Operand", "repeats", "()Lbiaxial/cli/Forms$Operand;"⟩ : MethodName)) (z := (⟨"biaxial/cli/Forms$Operand", "repeats", "()Lbiaxial/cli/Forms$Operand;"⟩ : MethodName)) hown (mvT hZ (hw _ (List.mem_of_getElem? (i := 78) rfl))) (mvT hZ (hw _ (List.mem_of_getElem? (i := 79) rfl))) (notFace_of_selects (args := #[]) (mvT hZ (hw _ (List.mem_of_getElem? (i := 81) rfl)))) (mvT hZ (hw _ (List.mem_of_getElem? (i := 81) rfl))) (mvT hZ (hw _ (List.mem_of_getElem? (i := 80) rfl))) (by decide) (backOf (W := 0) (rmr01 l Z a0 hw [] b155 b16_8 (nar .boolean (w0_m5 p2)) (nar .boolean (w0_m6 p2)) T167.heap n0 Zs167 Fn159_1__167 Fn159_2__167 Fn159_3__167 Fn159_4__167 Fn159_5__167) hZ (hw _ (List.mem_of_getElem? (i := 82) rfl)) (hw _ (List.mem_of_getElem? (i := 46) rfl)) (by decide) (by decide)) q174a q174c (g := (mkF m 200 #[.val (.int p0), .val (.int p1), .val (.int p2), .val (.ref b2), .val (.ref b10), .val (.ref b16_8), .val (.int (w0_m4 p2)), .val (.int (w0_m5 p2)), .val (.int (w0_m6 p2)), .val (.int (w0_m7 p2)), .val (.int (w0_m8 p2)), .val .null, .val (.ref b155), .unset, .unset, .unset] [(.ref b155)])) rfl (by rw [hml]; rfl) (Steps.refl _) (argsL := []) (rest := []) (lenOf pd0_4 rfl) rfl (by show 2 * 0 + _ ≤ _; exact Nat.le_of_eq rfl) (hb hby at_200) (fun _ _ => ⟨rfl, e169, (by decide : 7 + 1 ≤ 40), (by decide : 23 + 5 ≤ 1216)⟩)
        dsimp only [Pt.U, Pt.locs, Pt.cells, Pt.slots] at X174 l174 y174 z174 st174 hQ174
        subst l174 y174 z174
        obtain ⟨b174_1, rfl, N174q, Kp174, lb_b174_1, Fn174_0, Fn174_1, Fn174_2, Fn174_3, Fn174_4, Fn174_5⟩ := hQ174
        have N174 := Fr.app N169 N174q
        have g_b174_1 : n0 ≤ b174_1 := Nat.le_trans Zs167 lb_b174_1
        have ne_b155_b174_1 : b155 ≠ b174_1 := Nat.ne_of_lt (Nat.lt_of_lt_of_le Fn159_0__167.lt lb_b174_1)
        have OL174 := OL167.keep Kp174 all0
        have Fn159_0__174 := Fn159_0__167.keep Kp174
        have Fn159_1__174 := Fn159_1__167.keep Kp174 nin0
        have Fn159_2__174 := Fn159_2__167.keep Kp174 nin0
        have Fn159_3__174 := Fn159_3__167.keep Kp174 nin0
        have Fn159_4__174 := Fn159_4__167.keep Kp174 nin0
        have Fn159_5__174 := Fn159_5__167.keep Kp174 nin0
        have Zs174 : n0 ≤ T174.heap.size := Nat.le_trans Zs167 Kp174.1
        have K174 : ∀ t, Steps p.tables e below (T174.setTop (mkF m 203 #[.val (.int p0), .val (.int p1), .val (.int p2), .val (.ref b2), .val (.ref b10), .val (.ref b16_8), .val (.int (w0_m4 p2)), .val (.int (w0_m5 p2)), .val (.int (w0_m6 p2)), .val (.int (w0_m7 p2)), .val (.int (w0_m8 p2)), .val .null, .val (.ref b155), .unset, .unset, .unset] [(.ref b174_1)])) t → Steps p.tables e below S0 t := fun t k => K_173 t (st174.trans k)
        have K_175 : ∀ t, Steps p.tables e below (T174.setTop (mkF m 203 #[.val (.int p0), .val (.int p1), .val (.int p2), .val (.ref b2), .val (.ref b10), .val (.ref b16_8), .val (.int (w0_m4 p2)), .val (.int (w0_m5 p2)), .val (.int (w0_m6 p2)), .val (.int (w0_m7 p2)), .val (.int (w0_m8 p2)), .val .null, .val (.ref b155), .unset, .unset, .unset] [(.ref b174_1)])) t → Steps p.tables e below S0 t := K174
        obtain ⟨cq176, kq176, q176a, q176b, q176c⟩ := isOf hZ rfl Fn174_0
        obtain ⟨_, _, ⟨T176, L176, k176, n176⟩, -, X176, ⟨Lc176, hQ176, l176, y176, z176⟩, st176⟩ := X174.virtualBack hx (y := (⟨"biaxial/cli/Forms$Operand", "isSwitch", "()Z"⟩ : MethodName)) (z := (⟨"biaxial/cli/Forms$Operand", "isSwitch", "()Z"⟩ : MethodName)) hown (mvT hZ (hw _ (List.mem_of_getElem? (i := 66) rfl))) (mvT hZ (hw _ (List.mem_of_getElem? (i := 67) rfl))) (notFace_of_selects (args := #[]) (mvT hZ (hw _ (List.mem_of_getElem? (i := 69) rfl)))) (mvT hZ (hw _ (List.mem_of_getElem? (i := 69) rfl))) (mvT hZ (hw _ (List.mem_of_getElem? (i := 68) rfl))) (by decide) (backOf (W := 0) (rmw0 l Z a0 hw [] b174_1 T174.heap n0 Zs174 Fn174_1) hZ (hw _ (List.mem_of_getElem? (i := 70) rfl)) (hw _ (List.mem_of_getElem? (i := 46) rfl)) (by decide) (by decide)) q176a q176c (g := (mkF m 203 #[.val (.int p0), .val (.int p1), .val (.int p2), .val (.ref b2), .val (.ref b10), .val (.ref b16_8), .val (.int (w0_m4 p2)), .val (.int (w0_m5 p2)), .val (.int (w0_m6 p2)), .val (.int (w0_m7 p2)), .val (.int (w0_m8 p2)), .val .null, .val (.ref b155), .unset, .unset, .unset] [(.ref b174_1)])) rfl (by rw [hml]; rfl) (Steps.refl _) (argsL := []) (rest := []) (lenOf pd0_3 rfl) rfl (by show 2 * 0 + _ ≤ _; exact Nat.le_of_eq rfl) (hb hby at_203) (fun _ _ => ⟨rfl, rfl, (by decide : 8 + 0 ≤ 40), (by decide : 28 + 0 ≤ 1216)⟩)
        dsimp only [Pt.U, Pt.locs, Pt.cells, Pt.slots] at X176 l176 y176 z176 st176 hQ176
        subst l176 y176 z176
        obtain ⟨rfl, N176q, e176⟩ := hQ176
        have N176 := Fr.app N174 N176q
        have K176 : ∀ t, Steps p.tables e below (T176.setTop (mkF m 206 #[.val (.int p0), .val (.int p1), .val (.int p2), .val (.ref b2), .val (.ref b10), .val (.ref b16_8), .val (.int (w0_m4 p2)), .val (.int (w0_m5 p2)), .val (.int (w0_m6 p2)), .val (.int (w0_m7 p2)), .val (.int (w0_m8 p2)), .val .null, .val (.ref b155), .unset, .unset, .unset] [(.int (1 : Int32))])) t → Steps p.tables e below S0 t := fun t k => K_175 t (st176.trans k)
        have K177 : ∀ t, Steps p.tables e below (T176.setTop (mkF m 208 #[.val (.int p0), .val (.int p1), .val (.int p2), .val (.ref b2), .val (.ref b10), .val (.ref b16_8), .val (.int (w0_m4 p2)), .val (.int (w0_m5 p2)), .val (.int (w0_m6 p2)), .val (.int (w0_m7 p2)), .val (.int (w0_m8 p2)), .val .null, .val (.ref b155), .unset, .unset, .unset] [(.int (w0_m4 p2)), (.int (1 : Int32))])) t → Steps p.tables e below S0 t := fun t k => K176 t (by
          refine XS.iload X176.here hx rfl (hb hby at_206) rfl ?_
          show Steps p.tables e below (T176.setTop (mkF m 208 #[.val (.int p0), .val (.int p1), .val (.int p2), .val (.ref b2), .val (.ref b10), .val (.ref b16_8), .val (.int (w0_m4 p2)), .val (.int (w0_m5 p2)), .val (.int (w0_m6 p2)), .val (.int (w0_m7 p2)), .val (.int (w0_m8 p2)), .val .null, .val (.ref b155), .unset, .unset, .unset] [(.int (w0_m4 p2)), (.int (1 : Int32))])) _
          exact k)
        have hf178 : (1 : Int32) = (w0_m4 p2) := (own_m4 p2 hc115_0)
        have K179 : ∀ t, Steps p.tables e below (T176.setTop (mkF m 213 #[.val (.int p0), .val (.int p1), .val (.int p2), .val (.ref b2), .val (.ref b10), .val (.ref b16_8), .val (.int (w0_m4 p2)), .val (.int (w0_m5 p2)), .val (.int (w0_m6 p2)), .val (.int (w0_m7 p2)), .val (.int (w0_m8 p2)), .val .null, .val (.ref b155), .unset, .unset, .unset] [])) t → Steps p.tables e below S0 t := fun t k => K177 t (by
          refine XS.icmpYes X176.here hx rfl (pc0 := 208) (pc' := 213) rfl (hb hby at_208) rfl (XT.ii_eq_t hf178) (by decide) (by decide) ?_
          show Steps p.tables e below (T176.setTop (mkF m 213 #[.val (.int p0), .val (.int p1), .val (.int p2), .val (.ref b2), .val (.ref b10), .val (.ref b16_8), .val (.int (w0_m4 p2)), .val (.int (w0_m5 p2)), .val (.int (w0_m6 p2)), .val (.int (w0_m7 p2)), .val (.int (w0_m8 p2)), .val .null, .val (.ref b155), .unset, .unset, .unset] [])) _
          exact k)
        exact ⟨T176, s.vm, 0, _, .val .null, .val (.ref b155), { X176 with same := X176.same.mono (by decide) (by decide) }, N176, (State.WarmedH.since (State.WarmedH.refl s) 0), (Nat.zero_le _), (by rw [e176]; exact Zs174), hZ, hown, (by rw [e176]; exact OL174), One.val rfl, One.val rfl, fun t k => K179 t k⟩
      · -- no
        have K180 : ∀ t, Steps p.tables e below (T155.setTop (mkF m 166 #[.val (.int p0), .val (.int p1), .val (.int p2), .val (.ref b2), .val (.ref b10), .val (.ref b16_8), .val (.int (w0_m4 p2)), .val (.int (w0_m5 p2)), .val (.int (w0_m6 p2)), .val (.int (w0_m7 p2)), .val (.int (w0_m8 p2)), .val .null, .unset, .unset, .unset, .unset] [.null, (.int (w0_m6 p2)), (.int (w0_m5 p2)), .null, .null, (.ref b155), (.ref b155)])) t → Steps p.tables e below S0 t := fun t k => K156 t (by
          refine XS.ifNo X155.here hx rfl (hb hby at_157) rfl (XT.i0_eq_f hc157_1) ?_
          show Steps p.tables e below (T155.setTop (mkF m 160 #[.val (.int p0), .val (.int p1), .val (.int p2), .val (.ref b2), .val (.ref b10), .val (.ref b16_8), .val (.int (w0_m4 p2)), .val (.int (w0_m5 p2)), .val (.int (w0_m6 p2)), .val (.int (w0_m7 p2)), .val (.int (w0_m8 p2)), .val .null, .unset, .unset, .unset, .unset] [(.int (w0_m6 p2)), (.int (w0_m5 p2)), .null, .null, (.ref b155), (.ref b155)])) _
          refine XS.aconstNull X155.here hx rfl (hb hby at_160) ?_
          show Steps p.tables e below (T155.setTop (mkF m 161 #[.val (.int p0), .val (.int p1), .val (.int p2), .val (.ref b2), .val (.ref b10), .val (.ref b16_8), .val (.int (w0_m4 p2)), .val (.int (w0_m5 p2)), .val (.int (w0_m6 p2)), .val (.int (w0_m7 p2)), .val (.int (w0_m8 p2)), .val .null, .unset, .unset, .unset, .unset] [.null, (.int (w0_m6 p2)), (.int (w0_m5 p2)), .null, .null, (.ref b155), (.ref b155)])) _
          refine XS.goto X155.here hx rfl (pc0 := 161) (pc' := 166) rfl (hb hby at_161) (by decide) (by decide) ?_
          show Steps p.tables e below (T155.setTop (mkF m 166 #[.val (.int p0), .val (.int p1), .val (.int p2), .val (.ref b2), .val (.ref b10), .val (.ref b16_8), .val (.int (w0_m4 p2)), .val (.int (w0_m5 p2)), .val (.int (w0_m6 p2)), .val (.int (w0_m7 p2)), .val (.int (w0_m8 p2)), .val .null, .unset, .unset, .unset, .unset] [.null, (.int (w0_m6 p2)), (.int (w0_m5 p2)), .null, .null, (.ref b155), (.ref b155)])) _
          exact k)
        have K_181 : ∀ t, Steps p.tables e below (T155.setTop (mkF m 166 #[.val (.int p0), .val (.int p1), .val (.int p2), .val (.ref b2), .val (.ref b10), .val (.ref b16_8), .val (.int (w0_m4 p2)), .val (.int (w0_m5 p2)), .val (.int (w0_m6 p2)), .val (.int (w0_m7 p2)), .val (.int (w0_m8 p2)), .val .null, .unset, .unset, .unset, .unset] [.null, (.int (w0_m6 p2)), (.int (w0_m5 p2)), .null, .null, (.ref b155), (.ref b155)])) t → Steps p.tables e below S0 t := K180
        obtain ⟨_, _, ⟨T182, L182, k182, n182⟩, -, X182, ⟨Lc182, hQ182, l182, y182, z182⟩, st182⟩ := X155.specialBack hx (y := (⟨"biaxial/cli/Forms$Operand", "<init>", "(Ljava/lang/String;Lbiaxial/cli/Forms$Kind;ZZLjava/lang/String;)V"⟩ : MethodName)) rfl hown (mvT hZ (hw _ (List.mem_of_getElem? (i := 47) rfl))) (mvT hZ (hw _ (List.mem_of_getElem? (i := 48) rfl))) (mvT hZ (hw _ (List.mem_of_getElem? (i := 49) rfl))) (by decide) (backOf (W := 1) (rmi000 l Z a0 hw [] b155 (w0_m5 p2) (w0_m6 p2) h155 n0 Zs155 A155 F_b155_name F_b155_kind F_b155_required F_b155_repeated F_b155_flag g_b155) hZ (hw _ (List.mem_of_getElem? (i := 49) rfl)) (hw _ (List.mem_of_getElem? (i := 46) rfl)) (by decide) (by decide)) (g := (mkF m 166 #[.val (.int p0), .val (.int p1), .val (.int p2), .val (.ref b2), .val (.ref b10), .val (.ref b16_8), .val (.int (w0_m4 p2)), .val (.int (w0_m5 p2)), .val (.int (w0_m6 p2)), .val (.int (w0_m7 p2)), .val (.int (w0_m8 p2)), .val .null, .unset, .unset, .unset, .unset] [.null, (.int (w0_m6 p2)), (.int (w0_m5 p2)), .null, .null, (.ref b155), (.ref b155)])) rfl (by rw [hml]; rfl) (Steps.refl _) (a := b155) (argsL := [.null, .null, (.int (w0_m5 p2)), (.int (w0_m6 p2)), .null]) (rest := [(.ref b155)]) (lenOf pd0_2 rfl) rfl (by show 2 * 0 + _ ≤ _; exact Nat.le_of_eq rfl) (hb hby at_166) (fun _ _ => ⟨rfl, e155, (by decide : 6 + 0 ≤ 40), (by decide : 18 + 0 ≤ 1216)⟩)
        dsimp only [Pt.U, Pt.locs, Pt.cells, Pt.slots] at X182 l182 y182 z182 st182 hQ182
        subst l182 y182 z182
        obtain ⟨rfl, N182q, Kp182, Fn182_0, Fn182_1, Fn182_2, Fn182_3, Fn182_4, Fn182_5⟩ := hQ182
        have N182 := Fr.app N42 N182q
        have OL182 := OL155.keep Kp182 (allS (P := fun x => n0 ≤ x) g_b155 all0)
        have Zs182 : n0 ≤ T182.heap.size := Nat.le_trans Zs155 Kp182.1
        have K182 : ∀ t, Steps p.tables e below (T182.setTop (mkF m 169 #[.val (.int p0), .val (.int p1), .val (.int p2), .val (.ref b2), .val (.ref b10), .val (.ref b16_8), .val (.int (w0_m4 p2)), .val (.int (w0_m5 p2)), .val (.int (w0_m6 p2)), .val (.int (w0_m7 p2)), .val (.int (w0_m8 p2)), .val .null, .unset, .unset, .unset, .unset] [(.ref b155)])) t → Steps p.tables e below S0 t := fun t k => K_181 t (st182.trans k)
        have K183 : ∀ t, Steps p.tables e below (T182.setTop (mkF m 173 #[.val (.int p0), .val (.int p1), .val (.int p2), .val (.ref b2), .val (.ref b10), .val (.ref b16_8), .val (.int (w0_m4 p2)), .val (.int (w0_m5 p2)), .val (.int (w0_m6 p2)), .val (.int (w0_m7 p2)), .val (.int (w0_m8 p2)), .val .null, .val (.ref b155), .unset, .unset, .unset] [(.ref b155)])) t → Steps p.tables e below S0 t := fun t k => K182 t (by
          refine XS.astore X182.here hx rfl (hb hby at_169) rfl rfl (l' := #[.val (.int p0), .val (.int p1), .val (.int p2), .val (.ref b2), .val (.ref b10), .val (.ref b16_8), .val (.int (w0_m4 p2)), .val (.int (w0_m5 p2)), .val (.int (w0_m6 p2)), .val (.int (w0_m7 p2)), .val (.int (w0_m8 p2)), .val .null, .val (.ref b155), .unset, .unset, .unset]) rfl ?_
          show Steps p.tables e below (T182.setTop (mkF m 171 #[.val (.int p0), .val (.int p1), .val (.int p2), .val (.ref b2), .val (.ref b10), .val (.ref b16_8), .val (.int (w0_m4 p2)), .val (.int (w0_m5 p2)), .val (.int (w0_m6 p2)), .val (.int (w0_m7 p2)), .val (.int (w0_m8 p2)), .val .null, .val (.ref b155), .unset, .unset, .unset] [])) _
          refine XS.aload X182.here hx rfl (hb hby at_171) rfl rfl ?_
          show Steps p.tables e below (T182.setTop (mkF m 173 #[.val (.int p0), .val (.int p1), .val (.int p2), .val (.ref b2), .val (.ref b10), .val (.ref b16_8), .val (.int (w0_m4 p2)), .val (.int (w0_m5 p2)), .val (.int (w0_m6 p2)), .val (.int (w0_m7 p2)), .val (.int (w0_m8 p2)), .val .null, .val (.ref b155), .unset, .unset, .unset] [(.ref b155)])) _
          exact k)
        have K_184 : ∀ t, Steps p.tables e below (T182.setTop (mkF m 173 #[.val (.int p0), .val (.int p1), .val (.int p2), .val (.ref b2), .val (.ref b10), .val (.ref b16_8), .val (.int (w0_m4 p2)), .val (.int (w0_m5 p2)), .val (.int (w0_m6 p2)), .val (.int (w0_m7 p2)), .val (.int (w0_m8 p2)), .val .null, .val (.ref b155), .unset, .unset, .unset] [(.ref b155)])) t → Steps p.tables e below S0 t := K183
        obtain ⟨cq185, kq185, q185a, q185b, q185c⟩ := isOf hZ rfl Fn182_0
        obtain ⟨_, _, ⟨T185, L185, k185, n185⟩, -, X185, ⟨Lc185, hQ185, l185, y185, z185⟩, st185⟩ := X182.virtualBack hx (y := (⟨"biaxial/cli/Forms$Operand", "isSwitch", "()Z"⟩ : MethodName)) (z := (⟨"biaxial/cli/Forms$Operand", "isSwitch", "()Z"⟩ : MethodName)) hown (mvT hZ (hw _ (List.mem_of_getElem? (i := 66) rfl))) (mvT hZ (hw _ (List.mem_of_getElem? (i := 67) rfl))) (notFace_of_selects (args := #[]) (mvT hZ (hw _ (List.mem_of_getElem? (i := 69) rfl)))) (mvT hZ (hw _ (List.mem_of_getElem? (i := 69) rfl))) (mvT hZ (hw _ (List.mem_of_getElem? (i := 68) rfl))) (by decide) (backOf (W := 0) (rmw0 l Z a0 hw [] b155 T182.heap n0 Zs182 Fn182_1) hZ (hw _ (List.mem_of_getElem? (i := 70) rfl)) (hw _ (List.mem_of_getElem? (i := 46) rfl)) (by decide) (by decide)) q185a q185c (g := (mkF m 173 #[.val (.int p0), .val (.int p1), .val (.int p2), .val (.ref b2), .val (.ref b10), .val (.ref b16_8), .val (.int (w0_m4 p2)), .val (.int (w0_m5 p2)), .val (.int (w0_m6 p2)), .val (.int (w0_m7 p2)), .val (.int (w0_m8 p2)), .val .null, .val (.ref b155), .unset, .unset, .unset] [(.ref b155)])) rfl (by rw [hml]; rfl) (Steps.refl _) (argsL := []) (rest := []) (lenOf pd0_3 rfl) rfl (by show 2 * 0 + _ ≤ _; exact Nat.le_of_eq rfl) (hb hby at_173) (fun _ _ => ⟨rfl, rfl, (by decide : 6 + 0 ≤ 40), (by decide : 18 + 0 ≤ 1216)⟩)
        dsimp only [Pt.U, Pt.locs, Pt.cells, Pt.slots] at X185 l185 y185 z185 st185 hQ185
        subst l185 y185 z185
        obtain ⟨rfl, N185q, e185⟩ := hQ185
        have N185 := Fr.app N182 N185q
        have K185 : ∀ t, Steps p.tables e below (T185.setTop (mkF m 176 #[.val (.int p0), .val (.int p1), .val (.int p2), .val (.ref b2), .val (.ref b10), .val (.ref b16_8), .val (.int (w0_m4 p2)), .val (.int (w0_m5 p2)), .val (.int (w0_m6 p2)), .val (.int (w0_m7 p2)), .val (.int (w0_m8 p2)), .val .null, .val (.ref b155), .unset, .unset, .unset] [(.int (1 : Int32))])) t → Steps p.tables e below S0 t := fun t k => K_184 t (st185.trans k)
        have K186 : ∀ t, Steps p.tables e below (T185.setTop (mkF m 178 #[.val (.int p0), .val (.int p1), .val (.int p2), .val (.ref b2), .val (.ref b10), .val (.ref b16_8), .val (.int (w0_m4 p2)), .val (.int (w0_m5 p2)), .val (.int (w0_m6 p2)), .val (.int (w0_m7 p2)), .val (.int (w0_m8 p2)), .val .null, .val (.ref b155), .unset, .unset, .unset] [(.int (w0_m4 p2)), (.int (1 : Int32))])) t → Steps p.tables e below S0 t := fun t k => K185 t (by
          refine XS.iload X185.here hx rfl (hb hby at_176) rfl ?_
          show Steps p.tables e below (T185.setTop (mkF m 178 #[.val (.int p0), .val (.int p1), .val (.int p2), .val (.ref b2), .val (.ref b10), .val (.ref b16_8), .val (.int (w0_m4 p2)), .val (.int (w0_m5 p2)), .val (.int (w0_m6 p2)), .val (.int (w0_m7 p2)), .val (.int (w0_m8 p2)), .val .null, .val (.ref b155), .unset, .unset, .unset] [(.int (w0_m4 p2)), (.int (1 : Int32))])) _
          exact k)
        have hf187 : (1 : Int32) = (w0_m4 p2) := (own_m4 p2 hc115_0)
        have K188 : ∀ t, Steps p.tables e below (T185.setTop (mkF m 185 #[.val (.int p0), .val (.int p1), .val (.int p2), .val (.ref b2), .val (.ref b10), .val (.ref b16_8), .val (.int (w0_m4 p2)), .val (.int (w0_m5 p2)), .val (.int (w0_m6 p2)), .val (.int (w0_m7 p2)), .val (.int (w0_m8 p2)), .val .null, .val (.ref b155), .unset, .unset, .unset] [(.ref b155)])) t → Steps p.tables e below S0 t := fun t k => K186 t (by
          refine XS.icmpYes X185.here hx rfl (pc0 := 178) (pc' := 183) rfl (hb hby at_178) rfl (XT.ii_eq_t hf187) (by decide) (by decide) ?_
          show Steps p.tables e below (T185.setTop (mkF m 183 #[.val (.int p0), .val (.int p1), .val (.int p2), .val (.ref b2), .val (.ref b10), .val (.ref b16_8), .val (.int (w0_m4 p2)), .val (.int (w0_m5 p2)), .val (.int (w0_m6 p2)), .val (.int (w0_m7 p2)), .val (.int (w0_m8 p2)), .val .null, .val (.ref b155), .unset, .unset, .unset] [])) _
          refine XS.aload X185.here hx rfl (hb hby at_183) rfl rfl ?_
          show Steps p.tables e below (T185.setTop (mkF m 185 #[.val (.int p0), .val (.int p1), .val (.int p2), .val (.ref b2), .val (.ref b10), .val (.ref b16_8), .val (.int (w0_m4 p2)), .val (.int (w0_m5 p2)), .val (.int (w0_m6 p2)), .val (.int (w0_m7 p2)), .val (.int (w0_m8 p2)), .val .null, .val (.ref b155), .unset, .unset, .unset] [(.ref b155)])) _
          exact k)
        have K_189 : ∀ t, Steps p.tables e below (T185.setTop (mkF m 185 #[.val (.int p0), .val (.int p1), .val (.int p2), .val (.ref b2), .val (.ref b10), .val (.ref b16_8), .val (.int (w0_m4 p2)), .val (.int (w0_m5 p2)), .val (.int (w0_m6 p2)), .val (.int (w0_m7 p2)), .val (.int (w0_m8 p2)), .val .null, .val (.ref b155), .unset, .unset, .unset] [(.ref b155)])) t → Steps p.tables e below S0 t := K188
        obtain ⟨cq190, kq190, q190a, q190b, q190c⟩ := isOf hZ e185 Fn182_0
        obtain ⟨_, _, ⟨T190, L190, k190, n190⟩, -, X190, ⟨Lc190, hQ190, l190, y190, z190⟩, st190⟩ := X185.virtualBack hx (y := (⟨"biaxial/cli/Forms$Operand", "optional", "()Lbiaxial/cli/Forms$Operand;"⟩ : MethodName)) (z := (⟨"biaxial/cli/Forms$Operand", "optional", "()Lbiaxial/cli/Forms$Operand;"⟩ : MethodName)) hown (mvT hZ (hw _ (List.mem_of_getElem? (i := 71) rfl))) (mvT hZ (hw _ (List.mem_of_getElem? (i := 72) rfl))) (notFace_of_selects (args := #[]) (mvT hZ (hw _ (List.mem_of_getElem? (i := 74) rfl)))) (mvT hZ (hw _ (List.mem_of_getElem? (i := 74) rfl))) (mvT hZ (hw _ (List.mem_of_getElem? (i := 73) rfl))) (by decide) (backOf (W := 0) (rmo00 l Z a0 hw [] b155 (nar .boolean (w0_m5 p2)) (nar .boolean (w0_m6 p2)) T182.heap n0 Zs182 Fn182_1 Fn182_2 Fn182_3 Fn182_4 Fn182_5) hZ (hw _ (List.mem_of_getElem? (i := 75) rfl)) (hw _ (List.mem_of_getElem? (i := 46) rfl)) (by decide) (by decide)) q190a q190c (g := (mkF m 185 #[.val (.int p0), .val (.int p1), .val (.int p2), .val (.ref b2), .val (.ref b10), .val (.ref b16_8), .val (.int (w0_m4 p2)), .val (.int (w0_m5 p2)), .val (.int (w0_m6 p2)), .val (.int (w0_m7 p2)), .val (.int (w0_m8 p2)), .val .null, .val (.ref b155), .unset, .unset, .unset] [(.ref b155)])) rfl (by rw [hml]; rfl) (Steps.refl _) (argsL := []) (rest := []) (lenOf pd0_4 rfl) rfl (by show 2 * 0 + _ ≤ _; exact Nat.le_of_eq rfl) (hb hby at_185) (fun _ _ => ⟨rfl, e185, (by decide : 6 + 1 ≤ 40), (by decide : 18 + 5 ≤ 1216)⟩)
        dsimp only [Pt.U, Pt.locs, Pt.cells, Pt.slots] at X190 l190 y190 z190 st190 hQ190
        subst l190 y190 z190
        obtain ⟨b190_1, rfl, N190q, Kp190, lb_b190_1, Fn190_0, Fn190_1, Fn190_2, Fn190_3, Fn190_4, Fn190_5⟩ := hQ190
        have N190 := Fr.app N185 N190q
        have g_b190_1 : n0 ≤ b190_1 := Nat.le_trans Zs182 lb_b190_1
        have ne_b155_b190_1 : b155 ≠ b190_1 := Nat.ne_of_lt (Nat.lt_of_lt_of_le Fn182_0.lt lb_b190_1)
        have OL190 := OL182.keep Kp190 all0
        have Fn182_0__190 := Fn182_0.keep Kp190
        have Fn182_1__190 := Fn182_1.keep Kp190 nin0
        have Fn182_2__190 := Fn182_2.keep Kp190 nin0
        have Fn182_3__190 := Fn182_3.keep Kp190 nin0
        have Fn182_4__190 := Fn182_4.keep Kp190 nin0
        have Fn182_5__190 := Fn182_5.keep Kp190 nin0
        have Zs190 : n0 ≤ T190.heap.size := Nat.le_trans Zs182 Kp190.1
        have K190 : ∀ t, Steps p.tables e below (T190.setTop (mkF m 188 #[.val (.int p0), .val (.int p1), .val (.int p2), .val (.ref b2), .val (.ref b10), .val (.ref b16_8), .val (.int (w0_m4 p2)), .val (.int (w0_m5 p2)), .val (.int (w0_m6 p2)), .val (.int (w0_m7 p2)), .val (.int (w0_m8 p2)), .val .null, .val (.ref b155), .unset, .unset, .unset] [(.ref b190_1)])) t → Steps p.tables e below S0 t := fun t k => K_189 t (st190.trans k)
        have K_191 : ∀ t, Steps p.tables e below (T190.setTop (mkF m 188 #[.val (.int p0), .val (.int p1), .val (.int p2), .val (.ref b2), .val (.ref b10), .val (.ref b16_8), .val (.int (w0_m4 p2)), .val (.int (w0_m5 p2)), .val (.int (w0_m6 p2)), .val (.int (w0_m7 p2)), .val (.int (w0_m8 p2)), .val .null, .val (.ref b155), .unset, .unset, .unset] [(.ref b190_1)])) t → Steps p.tables e below S0 t := K190
        obtain ⟨cq192, kq192, q192a, q192b, q192c⟩ := isOf hZ rfl Fn190_0
        obtain ⟨_, _, ⟨T192, L192, k192, n192⟩, -, X192, ⟨Lc192, hQ192, l192, y192, z192⟩, st192⟩ := X190.virtualBack hx (y := (⟨"biaxial/cli/Forms$Operand", "isSwitch", "()Z"⟩ : MethodName)) (z := (⟨"biaxial/cli/Forms$Operand", "isSwitch", "()Z"⟩ : MethodName)) hown (mvT hZ (hw _ (List.mem_of_getElem? (i := 66) rfl))) (mvT hZ (hw _ (List.mem_of_getElem? (i := 67) rfl))) (notFace_of_selects (args := #[]) (mvT hZ (hw _ (List.mem_of_getElem? (i := 69) rfl)))) (mvT hZ (hw _ (List.mem_of_getElem? (i := 69) rfl))) (mvT hZ (hw _ (List.mem_of_getElem? (i := 68) rfl))) (by decide) (backOf (W := 0) (rmw0 l Z a0 hw [] b190_1 T190.heap n0 Zs190 Fn190_1) hZ (hw _ (List.mem_of_getElem? (i := 70) rfl)) (hw _ (List.mem_of_getElem? (i := 46) rfl)) (by decide) (by decide)) q192a q192c (g := (mkF m 188 #[.val (.int p0), .val (.int p1), .val (.int p2), .val (.ref b2), .val (.ref b10), .val (.ref b16_8), .val (.int (w0_m4 p2)), .val (.int (w0_m5 p2)), .val (.int (w0_m6 p2)), .val (.int (w0_m7 p2)), .val (.int (w0_m8 p2)), .val .null, .val (.ref b155), .unset, .unset, .unset] [(.ref b190_1)])) rfl (by rw [hml]; rfl) (Steps.refl _) (argsL := []) (rest := []) (lenOf pd0_3 rfl) rfl (by show 2 * 0 + _ ≤ _; exact Nat.le_of_eq rfl) (hb hby at_188) (fun _ _ => ⟨rfl, rfl, (by decide : 7 + 0 ≤ 40), (by decide : 23 + 0 ≤ 1216)⟩)
        dsimp only [Pt.U, Pt.locs, Pt.cells, Pt.slots] at X192 l192 y192 z192 st192 hQ192
        subst l192 y192 z192
        obtain ⟨rfl, N192q, e192⟩ := hQ192
        have N192 := Fr.app N190 N192q
        have K192 : ∀ t, Steps p.tables e below (T192.setTop (mkF m 191 #[.val (.int p0), .val (.int p1), .val (.int p2), .val (.ref b2), .val (.ref b10), .val (.ref b16_8), .val (.int (w0_m4 p2)), .val (.int (w0_m5 p2)), .val (.int (w0_m6 p2)), .val (.int (w0_m7 p2)), .val (.int (w0_m8 p2)), .val .null, .val (.ref b155), .unset, .unset, .unset] [(.int (1 : Int32))])) t → Steps p.tables e below S0 t := fun t k => K_191 t (st192.trans k)
        have K193 : ∀ t, Steps p.tables e below (T192.setTop (mkF m 193 #[.val (.int p0), .val (.int p1), .val (.int p2), .val (.ref b2), .val (.ref b10), .val (.ref b16_8), .val (.int (w0_m4 p2)), .val (.int (w0_m5 p2)), .val (.int (w0_m6 p2)), .val (.int (w0_m7 p2)), .val (.int (w0_m8 p2)), .val .null, .val (.ref b155), .unset, .unset, .unset] [(.int (w0_m4 p2)), (.int (1 : Int32))])) t → Steps p.tables e below S0 t := fun t k => K192 t (by
          refine XS.iload X192.here hx rfl (hb hby at_191) rfl ?_
          show Steps p.tables e below (T192.setTop (mkF m 193 #[.val (.int p0), .val (.int p1), .val (.int p2), .val (.ref b2), .val (.ref b10), .val (.ref b16_8), .val (.int (w0_m4 p2)), .val (.int (w0_m5 p2)), .val (.int (w0_m6 p2)), .val (.int (w0_m7 p2)), .val (.int (w0_m8 p2)), .val .null, .val (.ref b155), .unset, .unset, .unset] [(.int (w0_m4 p2)), (.int (1 : Int32))])) _
          exact k)
        have hf194 : (1 : Int32) = (w0_m4 p2) := (own_m4 p2 hc115_0)
        have K195 : ∀ t, Steps p.tables e below (T192.setTop (mkF m 200 #[.val (.int p0), .val (.int p1), .val (.int p2), .val (.ref b2), .val (.ref b10), .val (.ref b16_8), .val (.int (w0_m4 p2)), .val (.int (w0_m5 p2)), .val (.int (w0_m6 p2)), .val (.int (w0_m7 p2)), .val (.int (w0_m8 p2)), .val .null, .val (.ref b155), .unset, .unset, .unset] [(.ref b155)])) t → Steps p.tables e below S0 t := fun t k => K193 t (by
          refine XS.icmpYes X192.here hx rfl (pc0 := 193) (pc' := 198) rfl (hb hby at_193) rfl (XT.ii_eq_t hf194) (by decide) (by decide) ?_
          show Steps p.tables e below (T192.setTop (mkF m 198 #[.val (.int p0), .val (.int p1), .val (.int p2), .val (.ref b2), .val (.ref b10), .val (.ref b16_8), .val (.int (w0_m4 p2)), .val (.int (w0_m5 p2)), .val (.int (w0_m6 p2)), .val (.int (w0_m7 p2)), .val (.int (w0_m8 p2)), .val .null, .val (.ref b155), .unset, .unset, .unset] [])) _
          refine XS.aload X192.here hx rfl (hb hby at_198) rfl rfl ?_
          show Steps p.tables e below (T192.setTop (mkF m 200 #[.val (.int p0), .val (.int p1), .val (.int p2), .val (.ref b2), .val (.ref b10), .val (.ref b16_8), .val (.int (w0_m4 p2)), .val (.int (w0_m5 p2)), .val (.int (w0_m6 p2)), .val (.int (w0_m7 p2)), .val (.int (w0_m8 p2)), .val .null, .val (.ref b155), .unset, .unset, .unset] [(.ref b155)])) _
          exact k)
        have K_196 : ∀ t, Steps p.tables e below (T192.setTop (mkF m 200 #[.val (.int p0), .val (.int p1), .val (.int p2), .val (.ref b2), .val (.ref b10), .val (.ref b16_8), .val (.int (w0_m4 p2)), .val (.int (w0_m5 p2)), .val (.int (w0_m6 p2)), .val (.int (w0_m7 p2)), .val (.int (w0_m8 p2)), .val .null, .val (.ref b155), .unset, .unset, .unset] [(.ref b155)])) t → Steps p.tables e below S0 t := K195
        obtain ⟨cq197, kq197, q197a, q197b, q197c⟩ := isOf hZ e192 Fn182_0__190
        obtain ⟨_, _, ⟨T197, L197, k197, n197⟩, -, X197, ⟨Lc197, hQ197, l197, y197, z197⟩, st197⟩ := X192.virtualBack hx (y := (⟨"biaxial/cli/Forms$Operand", "repeats", "()Lbiaxial/cli/Forms$Operand;"⟩ : MethodName)) (z := (⟨"biaxial/cli/Forms$Operand", "repeats", "()Lbiaxial/cli/Forms$Operand;"⟩ : MethodName)) hown (mvT hZ (hw _ (List.mem_of_getElem? (i := 78) rfl))) (mvT hZ (hw _ (List.mem_of_getElem? (i := 79) rfl))) (notFace_of_selects (args := #[]) (mvT hZ (hw _ (List.mem_of_getElem? (i := 81) rfl)))) (mvT hZ (hw _ (List.mem_of_getElem? (i := 81) rfl))) (mvT hZ (hw _ (List.mem_of_getElem? (i := 80) rfl))) (by decide) (backOf (W := 0) (rmr00 l Z a0 hw [] b155 (nar .boolean (w0_m5 p2)) (nar .boolean (w0_m6 p2)) T190.heap n0 Zs190 Fn182_1__190 Fn182_2__190 Fn182_3__190 Fn182_4__190 Fn182_5__190) hZ (hw _ (List.mem_of_getElem? (i := 82) rfl)) (hw _ (List.mem_of_getElem? (i := 46) rfl)) (by decide) (by decide)) q197a q197c (g := (mkF m 200 #[.val (.int p0), .val (.int p1), .val (.int p2), .val (.ref b2), .val (.ref b10), .val (.ref b16_8), .val (.int (w0_m4 p2)), .val (.int (w0_m5 p2)), .val (.int (w0_m6 p2)), .val (.int (w0_m7 p2)), .val (.int (w0_m8 p2)), .val .null, .val (.ref b155), .unset, .unset, .unset] [(.ref b155)])) rfl (by rw [hml]; rfl) (Steps.refl _) (argsL := []) (rest := []) (lenOf pd0_4 rfl) rfl (by show 2 * 0 + _ ≤ _; exact Nat.le_of_eq rfl) (hb hby at_200) (fun _ _ => ⟨rfl, e192, (by decide : 7 + 1 ≤ 40), (by decide : 23 + 5 ≤ 1216)⟩)
        dsimp only [Pt.U, Pt.locs, Pt.cells, Pt.slots] at X197 l197 y197 z197 st197 hQ197
        subst l197 y197 z197
        obtain ⟨b197_1, rfl, N197q, Kp197, lb_b197_1, Fn197_0, Fn197_1, Fn197_2, Fn197_3, Fn197_4, Fn197_5⟩ := hQ197
        have N197 := Fr.app N192 N197q
        have g_b197_1 : n0 ≤ b197_1 := Nat.le_trans Zs190 lb_b197_1
        have ne_b155_b197_1 : b155 ≠ b197_1 := Nat.ne_of_lt (Nat.lt_of_lt_of_le Fn182_0__190.lt lb_b197_1)
        have OL197 := OL190.keep Kp197 all0
        have Fn182_0__197 := Fn182_0__190.keep Kp197
        have Fn182_1__197 := Fn182_1__190.keep Kp197 nin0
        have Fn182_2__197 := Fn182_2__190.keep Kp197 nin0
        have Fn182_3__197 := Fn182_3__190.keep Kp197 nin0
        have Fn182_4__197 := Fn182_4__190.keep Kp197 nin0
        have Fn182_5__197 := Fn182_5__190.keep Kp197 nin0
        have Zs197 : n0 ≤ T197.heap.size := Nat.le_trans Zs190 Kp197.1
        have K197 : ∀ t, Steps p.tables e below (T197.setTop (mkF m 203 #[.val (.int p0), .val (.int p1), .val (.int p2), .val (.ref b2), .val (.ref b10), .val (.ref b16_8), .val (.int (w0_m4 p2)), .val (.int (w0_m5 p2)), .val (.int (w0_m6 p2)), .val (.int (w0_m7 p2)), .val (.int (w0_m8 p2)), .val .null, .val (.ref b155), .unset, .unset, .unset] [(.ref b197_1)])) t → Steps p.tables e below S0 t := fun t k => K_196 t (st197.trans k)
        have K_198 : ∀ t, Steps p.tables e below (T197.setTop (mkF m 203 #[.val (.int p0), .val (.int p1), .val (.int p2), .val (.ref b2), .val (.ref b10), .val (.ref b16_8), .val (.int (w0_m4 p2)), .val (.int (w0_m5 p2)), .val (.int (w0_m6 p2)), .val (.int (w0_m7 p2)), .val (.int (w0_m8 p2)), .val .null, .val (.ref b155), .unset, .unset, .unset] [(.ref b197_1)])) t → Steps p.tables e below S0 t := K197
        obtain ⟨cq199, kq199, q199a, q199b, q199c⟩ := isOf hZ rfl Fn197_0
        obtain ⟨_, _, ⟨T199, L199, k199, n199⟩, -, X199, ⟨Lc199, hQ199, l199, y199, z199⟩, st199⟩ := X197.virtualBack hx (y := (⟨"biaxial/cli/Forms$Operand", "isSwitch", "()Z"⟩ : MethodName)) (z := (⟨"biaxial/cli/Forms$Operand", "isSwitch", "()Z"⟩ : MethodName)) hown (mvT hZ (hw _ (List.mem_of_getElem? (i := 66) rfl))) (mvT hZ (hw _ (List.mem_of_getElem? (i := 67) rfl))) (notFace_of_selects (args := #[]) (mvT hZ (hw _ (List.mem_of_getElem? (i := 69) rfl)))) (mvT hZ (hw _ (List.mem_of_getElem? (i := 69) rfl))) (mvT hZ (hw _ (List.mem_of_getElem? (i := 68) rfl))) (by decide) (backOf (W := 0) (rmw0 l Z a0 hw [] b197_1 T197.heap n0 Zs197 Fn197_1) hZ (hw _ (List.mem_of_getElem? (i := 70) rfl)) (hw _ (List.mem_of_getElem? (i := 46) rfl)) (by decide) (by decide)) q199a q199c (g := (mkF m 203 #[.val (.int p0), .val (.int p1), .val (.int p2), .val (.ref b2), .val (.ref b10), .val (.ref b16_8), .val (.int (w0_m4 p2)), .val (.int (w0_m5 p2)), .val (.int (w0_m6 p2)), .val (.int (w0_m7 p2)), .val (.int (w0_m8 p2)), .val .null, .val (.ref b155), .unset, .unset, .unset] [(.ref b197_1)])) rfl (by rw [hml]; rfl) (Steps.refl _) (argsL := []) (rest := []) (lenOf pd0_3 rfl) rfl (by show 2 * 0 + _ ≤ _; exact Nat.le_of_eq rfl) (hb hby at_203) (fun _ _ => ⟨rfl, rfl, (by decide : 8 + 0 ≤ 40), (by decide : 28 + 0 ≤ 1216)⟩)
        dsimp only [Pt.U, Pt.locs, Pt.cells, Pt.slots] at X199 l199 y199 z199 st199 hQ199
        subst l199 y199 z199
        obtain ⟨rfl, N199q, e199⟩ := hQ199
        have N199 := Fr.app N197 N199q
        have K199 : ∀ t, Steps p.tables e below (T199.setTop (mkF m 206 #[.val (.int p0), .val (.int p1), .val (.int p2), .val (.ref b2), .val (.ref b10), .val (.ref b16_8), .val (.int (w0_m4 p2)), .val (.int (w0_m5 p2)), .val (.int (w0_m6 p2)), .val (.int (w0_m7 p2)), .val (.int (w0_m8 p2)), .val .null, .val (.ref b155), .unset, .unset, .unset] [(.int (1 : Int32))])) t → Steps p.tables e below S0 t := fun t k => K_198 t (st199.trans k)
        have K200 : ∀ t, Steps p.tables e below (T199.setTop (mkF m 208 #[.val (.int p0), .val (.int p1), .val (.int p2), .val (.ref b2), .val (.ref b10), .val (.ref b16_8), .val (.int (w0_m4 p2)), .val (.int (w0_m5 p2)), .val (.int (w0_m6 p2)), .val (.int (w0_m7 p2)), .val (.int (w0_m8 p2)), .val .null, .val (.ref b155), .unset, .unset, .unset] [(.int (w0_m4 p2)), (.int (1 : Int32))])) t → Steps p.tables e below S0 t := fun t k => K199 t (by
          refine XS.iload X199.here hx rfl (hb hby at_206) rfl ?_
          show Steps p.tables e below (T199.setTop (mkF m 208 #[.val (.int p0), .val (.int p1), .val (.int p2), .val (.ref b2), .val (.ref b10), .val (.ref b16_8), .val (.int (w0_m4 p2)), .val (.int (w0_m5 p2)), .val (.int (w0_m6 p2)), .val (.int (w0_m7 p2)), .val (.int (w0_m8 p2)), .val .null, .val (.ref b155), .unset, .unset, .unset] [(.int (w0_m4 p2)), (.int (1 : Int32))])) _
          exact k)
        have hf201 : (1 : Int32) = (w0_m4 p2) := (own_m4 p2 hc115_0)
        have K202 : ∀ t, Steps p.tables e below (T199.setTop (mkF m 213 #[.val (.int p0), .val (.int p1), .val (.int p2), .val (.ref b2), .val (.ref b10), .val (.ref b16_8), .val (.int (w0_m4 p2)), .val (.int (w0_m5 p2)), .val (.int (w0_m6 p2)), .val (.int (w0_m7 p2)), .val (.int (w0_m8 p2)), .val .null, .val (.ref b155), .unset, .unset, .unset] [])) t → Steps p.tables e below S0 t := fun t k => K200 t (by
          refine XS.icmpYes X199.here hx rfl (pc0 := 208) (pc' := 213) rfl (hb hby at_208) rfl (XT.ii_eq_t hf201) (by decide) (by decide) ?_
          show Steps p.tables e below (T199.setTop (mkF m 213 #[.val (.int p0), .val (.int p1), .val (.int p2), .val (.ref b2), .val (.ref b10), .val (.ref b16_8), .val (.int (w0_m4 p2)), .val (.int (w0_m5 p2)), .val (.int (w0_m6 p2)), .val (.int (w0_m7 p2)), .val (.int (w0_m8 p2)), .val .null, .val (.ref b155), .unset, .unset, .unset] [])) _
          exact k)
        exact ⟨T199, s.vm, 0, _, .val .null, .val (.ref b155), { X199 with same := X199.same.mono (by decide) (by decide) }, N199, (State.WarmedH.since (State.WarmedH.refl s) 0), (Nat.zero_le _), (by rw [e199]; exact Zs197), hZ, hown, (by rw [e199]; exact OL197), One.val rfl, One.val rfl, fun t k => K202 t k⟩
  have K203 : ∀ t, Steps p.tables e below (T48.setTop (mkF m 222 #[.val (.int p0), .val (.int p1), .val (.int p2), .val (.ref b2), .val (.ref b10), .val (.ref b16_8), .val (.int (w0_m4 p2)), .val (.int (w0_m5 p2)), .val (.int (w0_m6 p2)), .val (.int (w0_m7 p2)), .val (.int (w0_m8 p2)), s48_l11, s48_l12, .val (.int (w0_9 p2)), .unset, .unset] [(.int (w0_9 p2))])) t → Steps p.tables e below S0 t := fun t k => K48 t (by
    refine XS.iloadN X48.here hx rfl (hb hby at_213) rfl ?_
    show Steps p.tables e below (T48.setTop (mkF m 214 #[.val (.int p0), .val (.int p1), .val (.int p2), .val (.ref b2), .val (.ref b10), .val (.ref b16_8), .val (.int (w0_m4 p2)), .val (.int (w0_m5 p2)), .val (.int (w0_m6 p2)), .val (.int (w0_m7 p2)), .val (.int (w0_m8 p2)), s48_l11, s48_l12, .unset, .unset, .unset] [(.int p2)])) _
    refine XS.iconst X48.here hx rfl (hb hby at_214) ?_
    show Steps p.tables e below (T48.setTop (mkF m 215 #[.val (.int p0), .val (.int p1), .val (.int p2), .val (.ref b2), .val (.ref b10), .val (.ref b16_8), .val (.int (w0_m4 p2)), .val (.int (w0_m5 p2)), .val (.int (w0_m6 p2)), .val (.int (w0_m7 p2)), .val (.int (w0_m8 p2)), s48_l11, s48_l12, .unset, .unset, .unset] [(.int (4 : Int32)), (.int p2)])) _
    refine XS.iushr X48.here hx rfl (hb hby at_215) rfl ?_
    show Steps p.tables e below (T48.setTop (mkF m 216 #[.val (.int p0), .val (.int p1), .val (.int p2), .val (.ref b2), .val (.ref b10), .val (.ref b16_8), .val (.int (w0_m4 p2)), .val (.int (w0_m5 p2)), .val (.int (w0_m6 p2)), .val (.int (w0_m7 p2)), .val (.int (w0_m8 p2)), s48_l11, s48_l12, .unset, .unset, .unset] [(.int ((p2.toUInt32 >>> ((4 : Int32) &&& 31).toUInt32).toInt32))])) _
    refine XS.iconst X48.here hx rfl (hb hby at_216) ?_
    show Steps p.tables e below (T48.setTop (mkF m 217 #[.val (.int p0), .val (.int p1), .val (.int p2), .val (.ref b2), .val (.ref b10), .val (.ref b16_8), .val (.int (w0_m4 p2)), .val (.int (w0_m5 p2)), .val (.int (w0_m6 p2)), .val (.int (w0_m7 p2)), .val (.int (w0_m8 p2)), s48_l11, s48_l12, .unset, .unset, .unset] [(.int (3 : Int32)), (.int ((p2.toUInt32 >>> ((4 : Int32) &&& 31).toUInt32).toInt32))])) _
    refine XS.iand X48.here hx rfl (hb hby at_217) rfl ?_
    show Steps p.tables e below (T48.setTop (mkF m 218 #[.val (.int p0), .val (.int p1), .val (.int p2), .val (.ref b2), .val (.ref b10), .val (.ref b16_8), .val (.int (w0_m4 p2)), .val (.int (w0_m5 p2)), .val (.int (w0_m6 p2)), .val (.int (w0_m7 p2)), .val (.int (w0_m8 p2)), s48_l11, s48_l12, .unset, .unset, .unset] [(.int (((p2.toUInt32 >>> ((4 : Int32) &&& 31).toUInt32).toInt32) &&& (3 : Int32)))])) _
    refine XS.istore X48.here hx rfl (hb hby at_218) rfl (l' := #[.val (.int p0), .val (.int p1), .val (.int p2), .val (.ref b2), .val (.ref b10), .val (.ref b16_8), .val (.int (w0_m4 p2)), .val (.int (w0_m5 p2)), .val (.int (w0_m6 p2)), .val (.int (w0_m7 p2)), .val (.int (w0_m8 p2)), s48_l11, s48_l12, .val (.int (w0_9 p2)), .unset, .unset]) rfl ?_
    show Steps p.tables e below (T48.setTop (mkF m 220 #[.val (.int p0), .val (.int p1), .val (.int p2), .val (.ref b2), .val (.ref b10), .val (.ref b16_8), .val (.int (w0_m4 p2)), .val (.int (w0_m5 p2)), .val (.int (w0_m6 p2)), .val (.int (w0_m7 p2)), .val (.int (w0_m8 p2)), s48_l11, s48_l12, .val (.int (w0_9 p2)), .unset, .unset] [])) _
    refine XS.iload X48.here hx rfl (hb hby at_220) rfl ?_
    show Steps p.tables e below (T48.setTop (mkF m 222 #[.val (.int p0), .val (.int p1), .val (.int p2), .val (.ref b2), .val (.ref b10), .val (.ref b16_8), .val (.int (w0_m4 p2)), .val (.int (w0_m5 p2)), .val (.int (w0_m6 p2)), .val (.int (w0_m7 p2)), .val (.int (w0_m8 p2)), s48_l11, s48_l12, .val (.int (w0_9 p2)), .unset, .unset] [(.int (w0_9 p2))])) _
    exact k)
  by_cases hc222_0 : (w0_9 p2) = (0 : Int32)
  · -- yes
    have K204 : ∀ t, Steps p.tables e below (T48.setTop (mkF m 227 #[.val (.int p0), .val (.int p1), .val (.int p2), .val (.ref b2), .val (.ref b10), .val (.ref b16_8), .val (.int (w0_m4 p2)), .val (.int (w0_m5 p2)), .val (.int (w0_m6 p2)), .val (.int (w0_m7 p2)), .val (.int (w0_m8 p2)), s48_l11, s48_l12, .val (.int (w0_9 p2)), .unset, .unset] [(.ref b10)])) t → Steps p.tables e below S0 t := fun t k => K203 t (by
      refine XS.ifNo X48.here hx rfl (hb hby at_222) rfl (XT.i0_ne_f hc222_0) ?_
      show Steps p.tables e below (T48.setTop (mkF m 225 #[.val (.int p0), .val (.int p1), .val (.int p2), .val (.ref b2), .val (.ref b10), .val (.ref b16_8), .val (.int (w0_m4 p2)), .val (.int (w0_m5 p2)), .val (.int (w0_m6 p2)), .val (.int (w0_m7 p2)), .val (.int (w0_m8 p2)), s48_l11, s48_l12, .val (.int (w0_9 p2)), .unset, .unset] [])) _
      refine XS.aload X48.here hx rfl (hb hby at_225) rfl rfl ?_
      show Steps p.tables e below (T48.setTop (mkF m 227 #[.val (.int p0), .val (.int p1), .val (.int p2), .val (.ref b2), .val (.ref b10), .val (.ref b16_8), .val (.int (w0_m4 p2)), .val (.int (w0_m5 p2)), .val (.int (w0_m6 p2)), .val (.int (w0_m7 p2)), .val (.int (w0_m8 p2)), s48_l11, s48_l12, .val (.int (w0_9 p2)), .unset, .unset] [(.ref b10)])) _
      exact k)
    have K_205 : ∀ t, Steps p.tables e below (T48.setTop (mkF m 227 #[.val (.int p0), .val (.int p1), .val (.int p2), .val (.ref b2), .val (.ref b10), .val (.ref b16_8), .val (.int (w0_m4 p2)), .val (.int (w0_m5 p2)), .val (.int (w0_m6 p2)), .val (.int (w0_m7 p2)), .val (.int (w0_m8 p2)), s48_l11, s48_l12, .val (.int (w0_9 p2)), .unset, .unset] [(.ref b10)])) t → Steps p.tables e below S0 t := K204
    obtain ⟨_, _, ⟨T206, L206, k206, n206⟩, -, X206, ⟨Lc206, hQ206, l206, y206, z206⟩, st206⟩ := Jvm.LawKit.callS X48 hx (y := (⟨"biaxial/cli/Forms", "name", "(Ljava/lang/String;)Lbiaxial/cli/Forms$Operand;"⟩ : MethodName)) hown (mvT hZ (hw _ (List.mem_of_getElem? (i := 83) rfl))) (mvT hZ (hw _ (List.mem_of_getElem? (i := 84) rfl))) (mvT hZ (hw _ (List.mem_of_getElem? (i := 85) rfl))) (mvT hZ (hw _ (List.mem_of_getElem? (i := 86) rfl))) (by decide) (backOf (W := 0) (rmfname l Z a0 hw [] b10 ob1 T48.heap n0 Zs48 (S_Forms_Kind_NAME.ext OL48.2)) hZ (hw _ (List.mem_of_getElem? (i := 86) rfl)) (hw _ (List.mem_of_getElem? (i := 85) rfl)) (by decide) (by decide)) (g := (mkF m 227 #[.val (.int p0), .val (.int p1), .val (.int p2), .val (.ref b2), .val (.ref b10), .val (.ref b16_8), .val (.int (w0_m4 p2)), .val (.int (w0_m5 p2)), .val (.int (w0_m6 p2)), .val (.int (w0_m7 p2)), .val (.int (w0_m8 p2)), s48_l11, s48_l12, .val (.int (w0_9 p2)), .unset, .unset] [(.ref b10)])) rfl (by rw [hml]; rfl) (argsL := [(.ref b10)]) (rest := []) (lenOf pd0_5 rfl) rfl (by show 2 * 0 + _ ≤ _; exact Nat.le_of_eq rfl) (hb hby at_227) (fun _ _ => ⟨rfl, rfl, (by decide : 12 + 1 ≤ 40), (by decide : 36 + 5 ≤ 1216)⟩)
    dsimp only [Pt.U, Pt.locs, Pt.cells, Pt.slots] at X206 l206 y206 z206 st206 hQ206
    subst l206 y206 z206
    obtain ⟨b206_1, rfl, N206q, Kp206, lb_b206_1, Fn206_0, Fn206_1, Fn206_2, Fn206_3, Fn206_4, Fn206_5⟩ := hQ206
    have N206 := Fr.app N48 N206q
    have g_b206_1 : n0 ≤ b206_1 := Nat.le_trans Zs48 lb_b206_1
    have OL206 := OL48.keep Kp206 all0
    have Zs206 : n0 ≤ T206.heap.size := Nat.le_trans Zs48 Kp206.1
    have Zk206 : kk48 ≤ T206.heap.size := Nat.le_trans Zk48 Kp206.1
    have K206 : ∀ t, Steps p.tables e below (T206.setTop (mkF m 230 #[.val (.int p0), .val (.int p1), .val (.int p2), .val (.ref b2), .val (.ref b10), .val (.ref b16_8), .val (.int (w0_m4 p2)), .val (.int (w0_m5 p2)), .val (.int (w0_m6 p2)), .val (.int (w0_m7 p2)), .val (.int (w0_m8 p2)), s48_l11, s48_l12, .val (.int (w0_9 p2)), .unset, .unset] [(.ref b206_1)])) t → Steps p.tables e below S0 t := fun t k => K_205 t (st206 t k)
    have K207 : ∀ t, Steps p.tables e below (T206.setTop (mkF m 271 #[.val (.int p0), .val (.int p1), .val (.int p2), .val (.ref b2), .val (.ref b10), .val (.ref b16_8), .val (.int (w0_m4 p2)), .val (.int (w0_m5 p2)), .val (.int (w0_m6 p2)), .val (.int (w0_m7 p2)), .val (.int (w0_m8 p2)), s48_l11, s48_l12, .val (.int (w0_9 p2)), .val (.ref b206_1), .unset] [(.int (3 : Int32)), (.int (w0_9 p2))])) t → Steps p.tables e below S0 t := fun t k => K206 t (by
      refine XS.goto X206.here hx rfl (pc0 := 230) (pc' := 266) rfl (hb hby at_230) (by decide) (by decide) ?_
      show Steps p.tables e below (T206.setTop (mkF m 266 #[.val (.int p0), .val (.int p1), .val (.int p2), .val (.ref b2), .val (.ref b10), .val (.ref b16_8), .val (.int (w0_m4 p2)), .val (.int (w0_m5 p2)), .val (.int (w0_m6 p2)), .val (.int (w0_m7 p2)), .val (.int (w0_m8 p2)), s48_l11, s48_l12, .val (.int (w0_9 p2)), .unset, .unset] [(.ref b206_1)])) _
      refine XS.astore X206.here hx rfl (hb hby at_266) rfl rfl (l' := #[.val (.int p0), .val (.int p1), .val (.int p2), .val (.ref b2), .val (.ref b10), .val (.ref b16_8), .val (.int (w0_m4 p2)), .val (.int (w0_m5 p2)), .val (.int (w0_m6 p2)), .val (.int (w0_m7 p2)), .val (.int (w0_m8 p2)), s48_l11, s48_l12, .val (.int (w0_9 p2)), .val (.ref b206_1), .unset]) rfl ?_
      show Steps p.tables e below (T206.setTop (mkF m 268 #[.val (.int p0), .val (.int p1), .val (.int p2), .val (.ref b2), .val (.ref b10), .val (.ref b16_8), .val (.int (w0_m4 p2)), .val (.int (w0_m5 p2)), .val (.int (w0_m6 p2)), .val (.int (w0_m7 p2)), .val (.int (w0_m8 p2)), s48_l11, s48_l12, .val (.int (w0_9 p2)), .val (.ref b206_1), .unset] [])) _
      refine XS.iload X206.here hx rfl (hb hby at_268) rfl ?_
      show Steps p.tables e below (T206.setTop (mkF m 270 #[.val (.int p0), .val (.int p1), .val (.int p2), .val (.ref b2), .val (.ref b10), .val (.ref b16_8), .val (.int (w0_m4 p2)), .val (.int (w0_m5 p2)), .val (.int (w0_m6 p2)), .val (.int (w0_m7 p2)), .val (.int (w0_m8 p2)), s48_l11, s48_l12, .val (.int (w0_9 p2)), .val (.ref b206_1), .unset] [(.int (w0_9 p2))])) _
      refine XS.iconst X206.here hx rfl (hb hby at_270) ?_
      show Steps p.tables e below (T206.setTop (mkF m 271 #[.val (.int p0), .val (.int p1), .val (.int p2), .val (.ref b2), .val (.ref b10), .val (.ref b16_8), .val (.int (w0_m4 p2)), .val (.int (w0_m5 p2)), .val (.int (w0_m6 p2)), .val (.int (w0_m7 p2)), .val (.int (w0_m8 p2)), s48_l11, s48_l12, .val (.int (w0_9 p2)), .val (.ref b206_1), .unset] [(.int (3 : Int32)), (.int (w0_9 p2))])) _
      exact k)
    obtain ⟨T208, lo208, X208, N208, e208, K208⟩ : ∃ (T' : State) (locs' : List Loc), Stand p l e room_1 (s.setVm vm48) m #[(.int p0), (.int p1), (.int p2)] below meth c T' locs' 13 41 ∧ Fr n0 locs' ∧ T'.heap = T206.heap ∧ ∀ t, Steps p.tables e below (T'.setTop (mkF m 279 #[.val (.int p0), .val (.int p1), .val (.int p2), .val (.ref b2), .val (.ref b10), .val (.ref b16_8), .val (.int (w0_m4 p2)), .val (.int (w0_m5 p2)), .val (.int (w0_m6 p2)), .val (.int (w0_m7 p2)), .val (.int (w0_m8 p2)), s48_l11, s48_l12, .val (.int (w0_9 p2)), .val (.ref b206_1), .unset] [(.int (w0_m10 p2))])) t → Steps p.tables e below S0 t := by
      by_cases hc271_1 : (w0_9 p2) = (3 : Int32)
      · -- yes
        have K209 : ∀ t, Steps p.tables e below (T206.setTop (mkF m 279 #[.val (.int p0), .val (.int p1), .val (.int p2), .val (.ref b2), .val (.ref b10), .val (.ref b16_8), .val (.int (w0_m4 p2)), .val (.int (w0_m5 p2)), .val (.int (w0_m6 p2)), .val (.int (w0_m7 p2)), .val (.int (w0_m8 p2)), s48_l11, s48_l12, .val (.int (w0_9 p2)), .val (.ref b206_1), .unset] [(.int (1 : Int32))])) t → Steps p.tables e below S0 t := fun t k => K207 t (by
          refine XS.icmpNo X206.here hx rfl (hb hby at_271) rfl (XT.ii_ne_f hc271_1) ?_
          show Steps p.tables e below (T206.setTop (mkF m 274 #[.val (.int p0), .val (.int p1), .val (.int p2), .val (.ref b2), .val (.ref b10), .val (.ref b16_8), .val (.int (w0_m4 p2)), .val (.int (w0_m5 p2)), .val (.int (w0_m6 p2)), .val (.int (w0_m7 p2)), .val (.int (w0_m8 p2)), s48_l11, s48_l12, .val (.int (w0_9 p2)), .val (.ref b206_1), .unset] [])) _
          refine XS.iconst X206.here hx rfl (hb hby at_274) ?_
          show Steps p.tables e below (T206.setTop (mkF m 275 #[.val (.int p0), .val (.int p1), .val (.int p2), .val (.ref b2), .val (.ref b10), .val (.ref b16_8), .val (.int (w0_m4 p2)), .val (.int (w0_m5 p2)), .val (.int (w0_m6 p2)), .val (.int (w0_m7 p2)), .val (.int (w0_m8 p2)), s48_l11, s48_l12, .val (.int (w0_9 p2)), .val (.ref b206_1), .unset] [(.int (1 : Int32))])) _
          refine XS.goto X206.here hx rfl (pc0 := 275) (pc' := 279) rfl (hb hby at_275) (by decide) (by decide) ?_
          show Steps p.tables e below (T206.setTop (mkF m 279 #[.val (.int p0), .val (.int p1), .val (.int p2), .val (.ref b2), .val (.ref b10), .val (.ref b16_8), .val (.int (w0_m4 p2)), .val (.int (w0_m5 p2)), .val (.int (w0_m6 p2)), .val (.int (w0_m7 p2)), .val (.int (w0_m8 p2)), s48_l11, s48_l12, .val (.int (w0_9 p2)), .val (.ref b206_1), .unset] [(.int (1 : Int32))])) _
          exact k)
        have q210 : (w0_m10 p2) = (1 : Int32) := by unfold w0_m10; rw [if_pos hc271_1]
        exact ⟨T206, _, X206, N206, rfl, fun t k => K209 t (by rw [q210] at k; exact k)⟩
      · -- no
        have K211 : ∀ t, Steps p.tables e below (T206.setTop (mkF m 279 #[.val (.int p0), .val (.int p1), .val (.int p2), .val (.ref b2), .val (.ref b10), .val (.ref b16_8), .val (.int (w0_m4 p2)), .val (.int (w0_m5 p2)), .val (.int (w0_m6 p2)), .val (.int (w0_m7 p2)), .val (.int (w0_m8 p2)), s48_l11, s48_l12, .val (.int (w0_9 p2)), .val (.ref b206_1), .unset] [(.int (0 : Int32))])) t → Steps p.tables e below S0 t := fun t k => K207 t (by
          refine XS.icmpYes X206.here hx rfl (pc0 := 271) (pc' := 278) rfl (hb hby at_271) rfl (XT.ii_ne_t hc271_1) (by decide) (by decide) ?_
          show Steps p.tables e below (T206.setTop (mkF m 278 #[.val (.int p0), .val (.int p1), .val (.int p2), .val (.ref b2), .val (.ref b10), .val (.ref b16_8), .val (.int (w0_m4 p2)), .val (.int (w0_m5 p2)), .val (.int (w0_m6 p2)), .val (.int (w0_m7 p2)), .val (.int (w0_m8 p2)), s48_l11, s48_l12, .val (.int (w0_9 p2)), .val (.ref b206_1), .unset] [])) _
          refine XS.iconst X206.here hx rfl (hb hby at_278) ?_
          show Steps p.tables e below (T206.setTop (mkF m 279 #[.val (.int p0), .val (.int p1), .val (.int p2), .val (.ref b2), .val (.ref b10), .val (.ref b16_8), .val (.int (w0_m4 p2)), .val (.int (w0_m5 p2)), .val (.int (w0_m6 p2)), .val (.int (w0_m7 p2)), .val (.int (w0_m8 p2)), s48_l11, s48_l12, .val (.int (w0_9 p2)), .val (.ref b206_1), .unset] [(.int (0 : Int32))])) _
          exact k)
        have q212 : (w0_m10 p2) = (0 : Int32) := by unfold w0_m10; rw [if_neg hc271_1]
        exact ⟨T206, _, X206, N206, rfl, fun t k => K211 t (by rw [q212] at k; exact k)⟩
    have K213 : ∀ t, Steps p.tables e below (T208.setTop (mkF m 283 #[.val (.int p0), .val (.int p1), .val (.int p2), .val (.ref b2), .val (.ref b10), .val (.ref b16_8), .val (.int (w0_m4 p2)), .val (.int (w0_m5 p2)), .val (.int (w0_m6 p2)), .val (.int (w0_m7 p2)), .val (.int (w0_m8 p2)), s48_l11, s48_l12, .val (.int (w0_9 p2)), .val (.ref b206_1), .val (.int (w0_m10 p2))] [(.ref b206_1)])) t → Steps p.tables e below S0 t := fun t k => K208 t (by
      refine XS.istore X208.here hx rfl (hb hby at_279) rfl (l' := #[.val (.int p0), .val (.int p1), .val (.int p2), .val (.ref b2), .val (.ref b10), .val (.ref b16_8), .val (.int (w0_m4 p2)), .val (.int (w0_m5 p2)), .val (.int (w0_m6 p2)), .val (.int (w0_m7 p2)), .val (.int (w0_m8 p2)), s48_l11, s48_l12, .val (.int (w0_9 p2)), .val (.ref b206_1), .val (.int (w0_m10 p2))]) rfl ?_
      show Steps p.tables e below (T208.setTop (mkF m 281 #[.val (.int p0), .val (.int p1), .val (.int p2), .val (.ref b2), .val (.ref b10), .val (.ref b16_8), .val (.int (w0_m4 p2)), .val (.int (w0_m5 p2)), .val (.int (w0_m6 p2)), .val (.int (w0_m7 p2)), .val (.int (w0_m8 p2)), s48_l11, s48_l12, .val (.int (w0_9 p2)), .val (.ref b206_1), .val (.int (w0_m10 p2))] [])) _
      refine XS.aload X208.here hx rfl (hb hby at_281) rfl rfl ?_
      show Steps p.tables e below (T208.setTop (mkF m 283 #[.val (.int p0), .val (.int p1), .val (.int p2), .val (.ref b2), .val (.ref b10), .val (.ref b16_8), .val (.int (w0_m4 p2)), .val (.int (w0_m5 p2)), .val (.int (w0_m6 p2)), .val (.int (w0_m7 p2)), .val (.int (w0_m8 p2)), s48_l11, s48_l12, .val (.int (w0_9 p2)), .val (.ref b206_1), .val (.int (w0_m10 p2))] [(.ref b206_1)])) _
      exact k)
    have K_214 : ∀ t, Steps p.tables e below (T208.setTop (mkF m 283 #[.val (.int p0), .val (.int p1), .val (.int p2), .val (.ref b2), .val (.ref b10), .val (.ref b16_8), .val (.int (w0_m4 p2)), .val (.int (w0_m5 p2)), .val (.int (w0_m6 p2)), .val (.int (w0_m7 p2)), .val (.int (w0_m8 p2)), s48_l11, s48_l12, .val (.int (w0_9 p2)), .val (.ref b206_1), .val (.int (w0_m10 p2))] [(.ref b206_1)])) t → Steps p.tables e below S0 t := K213
    obtain ⟨cq215, kq215, q215a, q215b, q215c⟩ := isOf hZ e208 Fn206_0
    obtain ⟨_, _, ⟨T215, L215, k215, n215⟩, -, X215, ⟨Lc215, hQ215, l215, y215, z215⟩, st215⟩ := X208.virtualBack hx (y := (⟨"biaxial/cli/Forms$Operand", "isSwitch", "()Z"⟩ : MethodName)) (z := (⟨"biaxial/cli/Forms$Operand", "isSwitch", "()Z"⟩ : MethodName)) hown (mvT hZ (hw _ (List.mem_of_getElem? (i := 66) rfl))) (mvT hZ (hw _ (List.mem_of_getElem? (i := 67) rfl))) (notFace_of_selects (args := #[]) (mvT hZ (hw _ (List.mem_of_getElem? (i := 69) rfl)))) (mvT hZ (hw _ (List.mem_of_getElem? (i := 69) rfl))) (mvT hZ (hw _ (List.mem_of_getElem? (i := 68) rfl))) (by decide) (backOf (W := 0) (rmw1 l Z a0 hw [] b206_1 b10 T206.heap n0 Zs206 Fn206_1) hZ (hw _ (List.mem_of_getElem? (i := 70) rfl)) (hw _ (List.mem_of_getElem? (i := 46) rfl)) (by decide) (by decide)) q215a q215c (g := (mkF m 283 #[.val (.int p0), .val (.int p1), .val (.int p2), .val (.ref b2), .val (.ref b10), .val (.ref b16_8), .val (.int (w0_m4 p2)), .val (.int (w0_m5 p2)), .val (.int (w0_m6 p2)), .val (.int (w0_m7 p2)), .val (.int (w0_m8 p2)), s48_l11, s48_l12, .val (.int (w0_9 p2)), .val (.ref b206_1), .val (.int (w0_m10 p2))] [(.ref b206_1)])) rfl (by rw [hml]; rfl) (Steps.refl _) (argsL := []) (rest := []) (lenOf pd0_3 rfl) rfl (by show 2 * 0 + _ ≤ _; exact Nat.le_of_eq rfl) (hb hby at_283) (fun _ _ => ⟨rfl, e208, (by decide : 13 + 0 ≤ 40), (by decide : 41 + 0 ≤ 1216)⟩)
    dsimp only [Pt.U, Pt.locs, Pt.cells, Pt.slots] at X215 l215 y215 z215 st215 hQ215
    subst l215 y215 z215
    obtain ⟨rfl, N215q, e215⟩ := hQ215
    have N215 := Fr.app N208 N215q
    have K215 : ∀ t, Steps p.tables e below (T215.setTop (mkF m 286 #[.val (.int p0), .val (.int p1), .val (.int p2), .val (.ref b2), .val (.ref b10), .val (.ref b16_8), .val (.int (w0_m4 p2)), .val (.int (w0_m5 p2)), .val (.int (w0_m6 p2)), .val (.int (w0_m7 p2)), .val (.int (w0_m8 p2)), s48_l11, s48_l12, .val (.int (w0_9 p2)), .val (.ref b206_1), .val (.int (w0_m10 p2))] [(.int (0 : Int32))])) t → Steps p.tables e below S0 t := fun t k => K_214 t (st215.trans k)
    have K216 : ∀ t, Steps p.tables e below (T215.setTop (mkF m 288 #[.val (.int p0), .val (.int p1), .val (.int p2), .val (.ref b2), .val (.ref b10), .val (.ref b16_8), .val (.int (w0_m4 p2)), .val (.int (w0_m5 p2)), .val (.int (w0_m6 p2)), .val (.int (w0_m7 p2)), .val (.int (w0_m8 p2)), s48_l11, s48_l12, .val (.int (w0_9 p2)), .val (.ref b206_1), .val (.int (w0_m10 p2))] [(.int (w0_m10 p2)), (.int (0 : Int32))])) t → Steps p.tables e below S0 t := fun t k => K215 t (by
      refine XS.iload X215.here hx rfl (hb hby at_286) rfl ?_
      show Steps p.tables e below (T215.setTop (mkF m 288 #[.val (.int p0), .val (.int p1), .val (.int p2), .val (.ref b2), .val (.ref b10), .val (.ref b16_8), .val (.int (w0_m4 p2)), .val (.int (w0_m5 p2)), .val (.int (w0_m6 p2)), .val (.int (w0_m7 p2)), .val (.int (w0_m8 p2)), s48_l11, s48_l12, .val (.int (w0_9 p2)), .val (.ref b206_1), .val (.int (w0_m10 p2))] [(.int (w0_m10 p2)), (.int (0 : Int32))])) _
      exact k)
    by_cases hc288_1 : (0 : Int32) = (w0_m10 p2)
    · -- yes
      have K217 : ∀ t, Steps p.tables e below (T215.setTop (mkF m 297 #[.val (.int p0), .val (.int p1), .val (.int p2), .val (.ref b2), .val (.ref b10), .val (.ref b16_8), .val (.int (w0_m4 p2)), .val (.int (w0_m5 p2)), .val (.int (w0_m6 p2)), .val (.int (w0_m7 p2)), .val (.int (w0_m8 p2)), s48_l11, s48_l12, .val (.int (w0_9 p2)), .val (.ref b206_1), .val (.int (w0_m10 p2))] [(.ref b206_1), (.ref b16_8)])) t → Steps p.tables e below S0 t := fun t k => K216 t (by
        refine XS.icmpYes X215.here hx rfl (pc0 := 288) (pc' := 293) rfl (hb hby at_288) rfl (XT.ii_eq_t hc288_1) (by decide) (by decide) ?_
        show Steps p.tables e below (T215.setTop (mkF m 293 #[.val (.int p0), .val (.int p1), .val (.int p2), .val (.ref b2), .val (.ref b10), .val (.ref b16_8), .val (.int (w0_m4 p2)), .val (.int (w0_m5 p2)), .val (.int (w0_m6 p2)), .val (.int (w0_m7 p2)), .val (.int (w0_m8 p2)), s48_l11, s48_l12, .val (.int (w0_9 p2)), .val (.ref b206_1), .val (.int (w0_m10 p2))] [])) _
        refine XS.aload X215.here hx rfl (hb hby at_293) rfl rfl ?_
        show Steps p.tables e below (T215.setTop (mkF m 295 #[.val (.int p0), .val (.int p1), .val (.int p2), .val (.ref b2), .val (.ref b10), .val (.ref b16_8), .val (.int (w0_m4 p2)), .val (.int (w0_m5 p2)), .val (.int (w0_m6 p2)), .val (.int (w0_m7 p2)), .val (.int (w0_m8 p2)), s48_l11, s48_l12, .val (.int (w0_9 p2)), .val (.ref b206_1), .val (.int (w0_m10 p2))] [(.ref b16_8)])) _
        refine XS.aload X215.here hx rfl (hb hby at_295) rfl rfl ?_
        show Steps p.tables e below (T215.setTop (mkF m 297 #[.val (.int p0), .val (.int p1), .val (.int p2), .val (.ref b2), .val (.ref b10), .val (.ref b16_8), .val (.int (w0_m4 p2)), .val (.int (w0_m5 p2)), .val (.int (w0_m6 p2)), .val (.int (w0_m7 p2)), .val (.int (w0_m8 p2)), s48_l11, s48_l12, .val (.int (w0_9 p2)), .val (.ref b206_1), .val (.int (w0_m10 p2))] [(.ref b206_1), (.ref b16_8)])) _
        exact k)
      have K_218 : ∀ t, Steps p.tables e below (T215.setTop (mkF m 297 #[.val (.int p0), .val (.int p1), .val (.int p2), .val (.ref b2), .val (.ref b10), .val (.ref b16_8), .val (.int (w0_m4 p2)), .val (.int (w0_m5 p2)), .val (.int (w0_m6 p2)), .val (.int (w0_m7 p2)), .val (.int (w0_m8 p2)), s48_l11, s48_l12, .val (.int (w0_9 p2)), .val (.ref b206_1), .val (.int (w0_m10 p2))] [(.ref b206_1), (.ref b16_8)])) t → Steps p.tables e below S0 t := K217
      obtain ⟨_, _, ⟨T219, L219, k219, n219⟩, -, X219, ⟨Lc219, hQ219, l219, y219, z219⟩, st219⟩ := Jvm.LawKit.callS X215 hx (y := (⟨"biaxial/cli/Forms", "option", "(Ljava/lang/String;Lbiaxial/cli/Forms$Operand;)Lbiaxial/cli/Forms$Operand;"⟩ : MethodName)) hown (mvT hZ (hw _ (List.mem_of_getElem? (i := 92) rfl))) (mvT hZ (hw _ (List.mem_of_getElem? (i := 93) rfl))) (mvT hZ (hw _ (List.mem_of_getElem? (i := 85) rfl))) (mvT hZ (hw _ (List.mem_of_getElem? (i := 94) rfl))) (by decide) (backOf (W := 0) (rmp1 l Z a0 hw [] b16_8 b206_1 b10 ob1 (nar .boolean (1 : Int32)) (nar .boolean (0 : Int32)) T206.heap n0 Zs206 Fn206_0 Fn206_1 Fn206_2 Fn206_3 Fn206_4) hZ (hw _ (List.mem_of_getElem? (i := 94) rfl)) (hw _ (List.mem_of_getElem? (i := 85) rfl)) (by decide) (by decide)) (g := (mkF m 297 #[.val (.int p0), .val (.int p1), .val (.int p2), .val (.ref b2), .val (.ref b10), .val (.ref b16_8), .val (.int (w0_m4 p2)), .val (.int (w0_m5 p2)), .val (.int (w0_m6 p2)), .val (.int (w0_m7 p2)), .val (.int (w0_m8 p2)), s48_l11, s48_l12, .val (.int (w0_9 p2)), .val (.ref b206_1), .val (.int (w0_m10 p2))] [(.ref b206_1), (.ref b16_8)])) rfl (by rw [hml]; rfl) (argsL := [(.ref b16_8), (.ref b206_1)]) (rest := []) (lenOf pd0_6 rfl) rfl (by show 2 * 0 + _ ≤ _; exact Nat.le_of_eq rfl) (hb hby at_297) (fun _ _ => ⟨rfl, e215, (by decide : 13 + 1 ≤ 40), (by decide : 41 + 5 ≤ 1216)⟩)
      dsimp only [Pt.U, Pt.locs, Pt.cells, Pt.slots] at X219 l219 y219 z219 st219 hQ219
      subst l219 y219 z219
      obtain ⟨b219_1, rfl, N219q, Kp219, lb_b219_1, Fn219_0, Fn219_1, Fn219_2, Fn219_3, Fn219_4, Fn219_5⟩ := hQ219
      have N219 := Fr.app N215 N219q
      have g_b219_1 : n0 ≤ b219_1 := Nat.le_trans Zs206 lb_b219_1
      have ne_b206_1_b219_1 : b206_1 ≠ b219_1 := Nat.ne_of_lt (Nat.lt_of_lt_of_le Fn206_0.lt lb_b219_1)
      have OL219 := OL206.keep Kp219 all0
      have Fn206_0__219 := Fn206_0.keep Kp219
      have Fn206_1__219 := Fn206_1.keep Kp219 nin0
      have Fn206_2__219 := Fn206_2.keep Kp219 nin0
      have Fn206_3__219 := Fn206_3.keep Kp219 nin0
      have Fn206_4__219 := Fn206_4.keep Kp219 nin0
      have Fn206_5__219 := Fn206_5.keep Kp219 nin0
      have Zs219 : n0 ≤ T219.heap.size := Nat.le_trans Zs206 Kp219.1
      have Zk219 : kk48 ≤ T219.heap.size := Nat.le_trans Zk206 Kp219.1
      have K219 : ∀ t, Steps p.tables e below (T219.setTop (mkF m 300 #[.val (.int p0), .val (.int p1), .val (.int p2), .val (.ref b2), .val (.ref b10), .val (.ref b16_8), .val (.int (w0_m4 p2)), .val (.int (w0_m5 p2)), .val (.int (w0_m6 p2)), .val (.int (w0_m7 p2)), .val (.int (w0_m8 p2)), s48_l11, s48_l12, .val (.int (w0_9 p2)), .val (.ref b206_1), .val (.int (w0_m10 p2))] [(.ref b219_1)])) t → Steps p.tables e below S0 t := fun t k => K_218 t (st219 t k)
      have K_220 : ∀ t, Steps p.tables e below (T219.setTop (mkF m 300 #[.val (.int p0), .val (.int p1), .val (.int p2), .val (.ref b2), .val (.ref b10), .val (.ref b16_8), .val (.int (w0_m4 p2)), .val (.int (w0_m5 p2)), .val (.int (w0_m6 p2)), .val (.int (w0_m7 p2)), .val (.int (w0_m8 p2)), s48_l11, s48_l12, .val (.int (w0_9 p2)), .val (.ref b206_1), .val (.int (w0_m10 p2))] [(.ref b219_1)])) t → Steps p.tables e below S0 t := K219
      obtain ⟨cq221, kq221, q221a, q221b, q221c⟩ := isOf hZ rfl Fn219_0
      obtain ⟨_, _, ⟨T221, L221, k221, n221⟩, -, X221, ⟨Lc221, hQ221, l221, y221, z221⟩, st221⟩ := X219.virtualBack hx (y := (⟨"biaxial/cli/Forms$Operand", "isSwitch", "()Z"⟩ : MethodName)) (z := (⟨"biaxial/cli/Forms$Operand", "isSwitch", "()Z"⟩ : MethodName)) hown (mvT hZ (hw _ (List.mem_of_getElem? (i := 66) rfl))) (mvT hZ (hw _ (List.mem_of_getElem? (i := 67) rfl))) (notFace_of_selects (args := #[]) (mvT hZ (hw _ (List.mem_of_getElem? (i := 69) rfl)))) (mvT hZ (hw _ (List.mem_of_getElem? (i := 69) rfl))) (mvT hZ (hw _ (List.mem_of_getElem? (i := 68) rfl))) (by decide) (backOf (W := 0) (rmw1 l Z a0 hw [] b219_1 b10 T219.heap n0 Zs219 Fn219_1) hZ (hw _ (List.mem_of_getElem? (i := 70) rfl)) (hw _ (List.mem_of_getElem? (i := 46) rfl)) (by decide) (by decide)) q221a q221c (g := (mkF m 300 #[.val (.int p0), .val (.int p1), .val (.int p2), .val (.ref b2), .val (.ref b10), .val (.ref b16_8), .val (.int (w0_m4 p2)), .val (.int (w0_m5 p2)), .val (.int (w0_m6 p2)), .val (.int (w0_m7 p2)), .val (.int (w0_m8 p2)), s48_l11, s48_l12, .val (.int (w0_9 p2)), .val (.ref b206_1), .val (.int (w0_m10 p2))] [(.ref b219_1)])) rfl (by rw [hml]; rfl) (Steps.refl _) (argsL := []) (rest := []) (lenOf pd0_3 rfl) rfl (by show 2 * 0 + _ ≤ _; exact Nat.le_of_eq rfl) (hb hby at_300) (fun _ _ => ⟨rfl, rfl, (by decide : 14 + 0 ≤ 40), (by decide : 46 + 0 ≤ 1216)⟩)
      dsimp only [Pt.U, Pt.locs, Pt.cells, Pt.slots] at X221 l221 y221 z221 st221 hQ221
      subst l221 y221 z221
      obtain ⟨rfl, N221q, e221⟩ := hQ221
      have N221 := Fr.app N219 N221q
      have K221 : ∀ t, Steps p.tables e below (T221.setTop (mkF m 303 #[.val (.int p0), .val (.int p1), .val (.int p2), .val (.ref b2), .val (.ref b10), .val (.ref b16_8), .val (.int (w0_m4 p2)), .val (.int (w0_m5 p2)), .val (.int (w0_m6 p2)), .val (.int (w0_m7 p2)), .val (.int (w0_m8 p2)), s48_l11, s48_l12, .val (.int (w0_9 p2)), .val (.ref b206_1), .val (.int (w0_m10 p2))] [(.int (0 : Int32))])) t → Steps p.tables e below S0 t := fun t k => K_220 t (st221.trans k)
      have K222 : ∀ t, Steps p.tables e below (T221.setTop (mkF m 305 #[.val (.int p0), .val (.int p1), .val (.int p2), .val (.ref b2), .val (.ref b10), .val (.ref b16_8), .val (.int (w0_m4 p2)), .val (.int (w0_m5 p2)), .val (.int (w0_m6 p2)), .val (.int (w0_m7 p2)), .val (.int (w0_m8 p2)), s48_l11, s48_l12, .val (.int (w0_9 p2)), .val (.ref b206_1), .val (.int (w0_m10 p2))] [(.int (w0_m10 p2)), (.int (0 : Int32))])) t → Steps p.tables e below S0 t := fun t k => K221 t (by
        refine XS.iload X221.here hx rfl (hb hby at_303) rfl ?_
        show Steps p.tables e below (T221.setTop (mkF m 305 #[.val (.int p0), .val (.int p1), .val (.int p2), .val (.ref b2), .val (.ref b10), .val (.ref b16_8), .val (.int (w0_m4 p2)), .val (.int (w0_m5 p2)), .val (.int (w0_m6 p2)), .val (.int (w0_m7 p2)), .val (.int (w0_m8 p2)), s48_l11, s48_l12, .val (.int (w0_9 p2)), .val (.ref b206_1), .val (.int (w0_m10 p2))] [(.int (w0_m10 p2)), (.int (0 : Int32))])) _
        exact k)
      have K223 : ∀ t, Steps p.tables e below (T221.setTop (mkF m 313 #[.val (.int p0), .val (.int p1), .val (.int p2), .val (.ref b2), .val (.ref b10), .val (.ref b16_8), .val (.int (w0_m4 p2)), .val (.int (w0_m5 p2)), .val (.int (w0_m6 p2)), .val (.int (w0_m7 p2)), .val (.int (w0_m8 p2)), s48_l11, s48_l12, .val (.int (w0_9 p2)), .val (.ref b206_1), .val (.int (w0_m10 p2))] [(.int (1 : Int32))])) t → Steps p.tables e below S0 t := fun t k => K222 t (by
        refine XS.icmpNo X221.here hx rfl (hb hby at_305) rfl (XT.ii_ne_f hc288_1) ?_
        show Steps p.tables e below (T221.setTop (mkF m 308 #[.val (.int p0), .val (.int p1), .val (.int p2), .val (.ref b2), .val (.ref b10), .val (.ref b16_8), .val (.int (w0_m4 p2)), .val (.int (w0_m5 p2)), .val (.int (w0_m6 p2)), .val (.int (w0_m7 p2)), .val (.int (w0_m8 p2)), s48_l11, s48_l12, .val (.int (w0_9 p2)), .val (.ref b206_1), .val (.int (w0_m10 p2))] [])) _
        refine XS.iconst X221.here hx rfl (hb hby at_308) ?_
        show Steps p.tables e below (T221.setTop (mkF m 309 #[.val (.int p0), .val (.int p1), .val (.int p2), .val (.ref b2), .val (.ref b10), .val (.ref b16_8), .val (.int (w0_m4 p2)), .val (.int (w0_m5 p2)), .val (.int (w0_m6 p2)), .val (.int (w0_m7 p2)), .val (.int (w0_m8 p2)), s48_l11, s48_l12, .val (.int (w0_9 p2)), .val (.ref b206_1), .val (.int (w0_m10 p2))] [(.int (1 : Int32))])) _
        refine XS.goto X221.here hx rfl (pc0 := 309) (pc' := 313) rfl (hb hby at_309) (by decide) (by decide) ?_
        show Steps p.tables e below (T221.setTop (mkF m 313 #[.val (.int p0), .val (.int p1), .val (.int p2), .val (.ref b2), .val (.ref b10), .val (.ref b16_8), .val (.int (w0_m4 p2)), .val (.int (w0_m5 p2)), .val (.int (w0_m6 p2)), .val (.int (w0_m7 p2)), .val (.int (w0_m8 p2)), s48_l11, s48_l12, .val (.int (w0_9 p2)), .val (.ref b206_1), .val (.int (w0_m10 p2))] [(.int (1 : Int32))])) _
        exact k)
      obtain ⟨fs, hr, hrun, hended, hE⟩ := Jvm.Stand.leaveW (s := s) X221 hS48 (by rw [e221]; exact Zk219) (v := some (.int (1 : Int32))) (fun h => by rw [Bd.returns] at h; cases h) hlk
      refine ⟨_, _, ?_, hrun, hended, _, _, rfl, ?_, hE.1, hE.2.1, hE.2.2.1, hE.2.2.2.mono (by decide) (by decide)⟩
      · rw [← hS0]; exact K223 _ (retN X221 hx (t := .boolean) Bd.returns (by simp) (hb hby at_313) hr)
      · show Q0 Z p0 p1 p2 zc ob1 ob2 ob3 h0 n0 _ T221.heap _
        rw [e221]
        have qr : (1 : Int32) = (w0_r11 p2) := by unfold w0_r11; rw [if_pos hc222_0, if_pos hc288_1]
        exact ⟨congrArg (fun z => some (Value.int z)) qr, N221⟩
    · -- no
      have K224 : ∀ t, Steps p.tables e below (T215.setTop (mkF m 292 #[.val (.int p0), .val (.int p1), .val (.int p2), .val (.ref b2), .val (.ref b10), .val (.ref b16_8), .val (.int (w0_m4 p2)), .val (.int (w0_m5 p2)), .val (.int (w0_m6 p2)), .val (.int (w0_m7 p2)), .val (.int (w0_m8 p2)), s48_l11, s48_l12, .val (.int (w0_9 p2)), .val (.ref b206_1), .val (.int (w0_m10 p2))] [(.int (0 : Int32))])) t → Steps p.tables e below S0 t := fun t k => K216 t (by
        refine XS.icmpNo X215.here hx rfl (hb hby at_288) rfl (XT.ii_eq_f hc288_1) ?_
        show Steps p.tables e below (T215.setTop (mkF m 291 #[.val (.int p0), .val (.int p1), .val (.int p2), .val (.ref b2), .val (.ref b10), .val (.ref b16_8), .val (.int (w0_m4 p2)), .val (.int (w0_m5 p2)), .val (.int (w0_m6 p2)), .val (.int (w0_m7 p2)), .val (.int (w0_m8 p2)), s48_l11, s48_l12, .val (.int (w0_9 p2)), .val (.ref b206_1), .val (.int (w0_m10 p2))] [])) _
        refine XS.iconst X215.here hx rfl (hb hby at_291) ?_
        show Steps p.tables e below (T215.setTop (mkF m 292 #[.val (.int p0), .val (.int p1), .val (.int p2), .val (.ref b2), .val (.ref b10), .val (.ref b16_8), .val (.int (w0_m4 p2)), .val (.int (w0_m5 p2)), .val (.int (w0_m6 p2)), .val (.int (w0_m7 p2)), .val (.int (w0_m8 p2)), s48_l11, s48_l12, .val (.int (w0_9 p2)), .val (.ref b206_1), .val (.int (w0_m10 p2))] [(.int (0 : Int32))])) _
        exact k)
      obtain ⟨fs, hr, hrun, hended, hE⟩ := Jvm.Stand.leaveW (s := s) X215 hS48 (by rw [e215]; exact Zk206) (v := some (.int (0 : Int32))) (fun h => by rw [Bd.returns] at h; cases h) hlk
      refine ⟨_, _, ?_, hrun, hended, _, _, rfl, ?_, hE.1, hE.2.1, hE.2.2.1, hE.2.2.2.mono (by decide) (by decide)⟩
      · rw [← hS0]; exact K224 _ (retN X215 hx (t := .boolean) Bd.returns (by simp) (hb hby at_292) hr)
      · show Q0 Z p0 p1 p2 zc ob1 ob2 ob3 h0 n0 _ T215.heap _
        rw [e215]
        have qr : (0 : Int32) = (w0_r11 p2) := by unfold w0_r11; rw [if_pos hc222_0, if_neg hc288_1]
        exact ⟨congrArg (fun z => some (Value.int z)) qr, N215⟩
  · -- no
    have K225 : ∀ t, Steps p.tables e below (T48.setTop (mkF m 236 #[.val (.int p0), .val (.int p1), .val (.int p2), .val (.ref b2), .val (.ref b10), .val (.ref b16_8), .val (.int (w0_m4 p2)), .val (.int (w0_m5 p2)), .val (.int (w0_m6 p2)), .val (.int (w0_m7 p2)), .val (.int (w0_m8 p2)), s48_l11, s48_l12, .val (.int (w0_9 p2)), .unset, .unset] [(.int (1 : Int32)), (.int (w0_9 p2))])) t → Steps p.tables e below S0 t := fun t k => K203 t (by
      refine XS.ifYes X48.here hx rfl (pc0 := 222) (pc' := 233) rfl (hb hby at_222) rfl (XT.i0_ne_t hc222_0) (by decide) (by decide) ?_
      show Steps p.tables e below (T48.setTop (mkF m 233 #[.val (.int p0), .val (.int p1), .val (.int p2), .val (.ref b2), .val (.ref b10), .val (.ref b16_8), .val (.int (w0_m4 p2)), .val (.int (w0_m5 p2)), .val (.int (w0_m6 p2)), .val (.int (w0_m7 p2)), .val (.int (w0_m8 p2)), s48_l11, s48_l12, .val (.int (w0_9 p2)), .unset, .unset] [])) _
      refine XS.iload X48.here hx rfl (hb hby at_233) rfl ?_
      show Steps p.tables e below (T48.setTop (mkF m 235 #[.val (.int p0), .val (.int p1), .val (.int p2), .val (.ref b2), .val (.ref b10), .val (.ref b16_8), .val (.int (w0_m4 p2)), .val (.int (w0_m5 p2)), .val (.int (w0_m6 p2)), .val (.int (w0_m7 p2)), .val (.int (w0_m8 p2)), s48_l11, s48_l12, .val (.int (w0_9 p2)), .unset, .unset] [(.int (w0_9 p2))])) _
      refine XS.iconst X48.here hx rfl (hb hby at_235) ?_
      show Steps p.tables e below (T48.setTop (mkF m 236 #[.val (.int p0), .val (.int p1), .val (.int p2), .val (.ref b2), .val (.ref b10), .val (.ref b16_8), .val (.int (w0_m4 p2)), .val (.int (w0_m5 p2)), .val (.int (w0_m6 p2)), .val (.int (w0_m7 p2)), .val (.int (w0_m8 p2)), s48_l11, s48_l12, .val (.int (w0_9 p2)), .unset, .unset] [(.int (1 : Int32)), (.int (w0_9 p2))])) _
      exact k)
    by_cases hc236_1 : (w0_9 p2) = (1 : Int32)
    · -- yes
      have K226 : ∀ t, Steps p.tables e below (T48.setTop (mkF m 241 #[.val (.int p0), .val (.int p1), .val (.int p2), .val (.ref b2), .val (.ref b10), .val (.ref b16_8), .val (.int (w0_m4 p2)), .val (.int (w0_m5 p2)), .val (.int (w0_m6 p2)), .val (.int (w0_m7 p2)), .val (.int (w0_m8 p2)), s48_l11, s48_l12, .val (.int (w0_9 p2)), .unset, .unset] [(.ref b10)])) t → Steps p.tables e below S0 t := fun t k => K225 t (by
        refine XS.icmpNo X48.here hx rfl (hb hby at_236) rfl (XT.ii_ne_f hc236_1) ?_
        show Steps p.tables e below (T48.setTop (mkF m 239 #[.val (.int p0), .val (.int p1), .val (.int p2), .val (.ref b2), .val (.ref b10), .val (.ref b16_8), .val (.int (w0_m4 p2)), .val (.int (w0_m5 p2)), .val (.int (w0_m6 p2)), .val (.int (w0_m7 p2)), .val (.int (w0_m8 p2)), s48_l11, s48_l12, .val (.int (w0_9 p2)), .unset, .unset] [])) _
        refine XS.aload X48.here hx rfl (hb hby at_239) rfl rfl ?_
        show Steps p.tables e below (T48.setTop (mkF m 241 #[.val (.int p0), .val (.int p1), .val (.int p2), .val (.ref b2), .val (.ref b10), .val (.ref b16_8), .val (.int (w0_m4 p2)), .val (.int (w0_m5 p2)), .val (.int (w0_m6 p2)), .val (.int (w0_m7 p2)), .val (.int (w0_m8 p2)), s48_l11, s48_l12, .val (.int (w0_9 p2)), .unset, .unset] [(.ref b10)])) _
        exact k)
      have K_227 : ∀ t, Steps p.tables e below (T48.setTop (mkF m 241 #[.val (.int p0), .val (.int p1), .val (.int p2), .val (.ref b2), .val (.ref b10), .val (.ref b16_8), .val (.int (w0_m4 p2)), .val (.int (w0_m5 p2)), .val (.int (w0_m6 p2)), .val (.int (w0_m7 p2)), .val (.int (w0_m8 p2)), s48_l11, s48_l12, .val (.int (w0_9 p2)), .unset, .unset] [(.ref b10)])) t → Steps p.tables e below S0 t := K226
      obtain ⟨_, _, ⟨T228, L228, k228, n228⟩, -, X228, ⟨Lc228, hQ228, l228, y228, z228⟩, st228⟩ := Jvm.LawKit.callS X48 hx (y := (⟨"biaxial/cli/Forms", "file", "(Ljava/lang/String;)Lbiaxial/cli/Forms$Operand;"⟩ : MethodName)) hown (mvT hZ (hw _ (List.mem_of_getElem? (i := 123) rfl))) (mvT hZ (hw _ (List.mem_of_getElem? (i := 124) rfl))) (mvT hZ (hw _ (List.mem_of_getElem? (i := 85) rfl))) (mvT hZ (hw _ (List.mem_of_getElem? (i := 125) rfl))) (by decide) (backOf (W := 0) (rmffile l Z a0 hw [] b10 ob3 T48.heap n0 Zs48 (S_Forms_Kind_FILE.ext OL48.2)) hZ (hw _ (List.mem_of_getElem? (i := 125) rfl)) (hw _ (List.mem_of_getElem? (i := 85) rfl)) (by decide) (by decide)) (g := (mkF m 241 #[.val (.int p0), .val (.int p1), .val (.int p2), .val (.ref b2), .val (.ref b10), .val (.ref b16_8), .val (.int (w0_m4 p2)), .val (.int (w0_m5 p2)), .val (.int (w0_m6 p2)), .val (.int (w0_m7 p2)), .val (.int (w0_m8 p2)), s48_l11, s48_l12, .val (.int (w0_9 p2)), .unset, .unset] [(.ref b10)])) rfl (by rw [hml]; rfl) (argsL := [(.ref b10)]) (rest := []) (lenOf pd0_5 rfl) rfl (by show 2 * 0 + _ ≤ _; exact Nat.le_of_eq rfl) (hb hby at_241) (fun _ _ => ⟨rfl, rfl, (by decide : 12 + 1 ≤ 40), (by decide : 36 + 5 ≤ 1216)⟩)
      dsimp only [Pt.U, Pt.locs, Pt.cells, Pt.slots] at X228 l228 y228 z228 st228 hQ228
      subst l228 y228 z228
      obtain ⟨b228_1, rfl, N228q, Kp228, lb_b228_1, Fn228_0, Fn228_1, Fn228_2, Fn228_3, Fn228_4, Fn228_5⟩ := hQ228
      have N228 := Fr.app N48 N228q
      have g_b228_1 : n0 ≤ b228_1 := Nat.le_trans Zs48 lb_b228_1
      have OL228 := OL48.keep Kp228 all0
      have Zs228 : n0 ≤ T228.heap.size := Nat.le_trans Zs48 Kp228.1
      have Zk228 : kk48 ≤ T228.heap.size := Nat.le_trans Zk48 Kp228.1
      have K228 : ∀ t, Steps p.tables e below (T228.setTop (mkF m 244 #[.val (.int p0), .val (.int p1), .val (.int p2), .val (.ref b2), .val (.ref b10), .val (.ref b16_8), .val (.int (w0_m4 p2)), .val (.int (w0_m5 p2)), .val (.int (w0_m6 p2)), .val (.int (w0_m7 p2)), .val (.int (w0_m8 p2)), s48_l11, s48_l12, .val (.int (w0_9 p2)), .unset, .unset] [(.ref b228_1)])) t → Steps p.tables e below S0 t := fun t k => K_227 t (st228 t k)
      have K229 : ∀ t, Steps p.tables e below (T228.setTop (mkF m 271 #[.val (.int p0), .val (.int p1), .val (.int p2), .val (.ref b2), .val (.ref b10), .val (.ref b16_8), .val (.int (w0_m4 p2)), .val (.int (w0_m5 p2)), .val (.int (w0_m6 p2)), .val (.int (w0_m7 p2)), .val (.int (w0_m8 p2)), s48_l11, s48_l12, .val (.int (w0_9 p2)), .val (.ref b228_1), .unset] [(.int (3 : Int32)), (.int (w0_9 p2))])) t → Steps p.tables e below S0 t := fun t k => K228 t (by
        refine XS.goto X228.here hx rfl (pc0 := 244) (pc' := 266) rfl (hb hby at_244) (by decide) (by decide) ?_
        show Steps p.tables e below (T228.setTop (mkF m 266 #[.val (.int p0), .val (.int p1), .val (.int p2), .val (.ref b2), .val (.ref b10), .val (.ref b16_8), .val (.int (w0_m4 p2)), .val (.int (w0_m5 p2)), .val (.int (w0_m6 p2)), .val (.int (w0_m7 p2)), .val (.int (w0_m8 p2)), s48_l11, s48_l12, .val (.int (w0_9 p2)), .unset, .unset] [(.ref b228_1)])) _
        refine XS.astore X228.here hx rfl (hb hby at_266) rfl rfl (l' := #[.val (.int p0), .val (.int p1), .val (.int p2), .val (.ref b2), .val (.ref b10), .val (.ref b16_8), .val (.int (w0_m4 p2)), .val (.int (w0_m5 p2)), .val (.int (w0_m6 p2)), .val (.int (w0_m7 p2)), .val (.int (w0_m8 p2)), s48_l11, s48_l12, .val (.int (w0_9 p2)), .val (.ref b228_1), .unset]) rfl ?_
        show Steps p.tables e below (T228.setTop (mkF m 268 #[.val (.int p0), .val (.int p1), .val (.int p2), .val (.ref b2), .val (.ref b10), .val (.ref b16_8), .val (.int (w0_m4 p2)), .val (.int (w0_m5 p2)), .val (.int (w0_m6 p2)), .val (.int (w0_m7 p2)), .val (.int (w0_m8 p2)), s48_l11, s48_l12, .val (.int (w0_9 p2)), .val (.ref b228_1), .unset] [])) _
        refine XS.iload X228.here hx rfl (hb hby at_268) rfl ?_
        show Steps p.tables e below (T228.setTop (mkF m 270 #[.val (.int p0), .val (.int p1), .val (.int p2), .val (.ref b2), .val (.ref b10), .val (.ref b16_8), .val (.int (w0_m4 p2)), .val (.int (w0_m5 p2)), .val (.int (w0_m6 p2)), .val (.int (w0_m7 p2)), .val (.int (w0_m8 p2)), s48_l11, s48_l12, .val (.int (w0_9 p2)), .val (.ref b228_1), .unset] [(.int (w0_9 p2))])) _
        refine XS.iconst X228.here hx rfl (hb hby at_270) ?_
        show Steps p.tables e below (T228.setTop (mkF m 271 #[.val (.int p0), .val (.int p1), .val (.int p2), .val (.ref b2), .val (.ref b10), .val (.ref b16_8), .val (.int (w0_m4 p2)), .val (.int (w0_m5 p2)), .val (.int (w0_m6 p2)), .val (.int (w0_m7 p2)), .val (.int (w0_m8 p2)), s48_l11, s48_l12, .val (.int (w0_9 p2)), .val (.ref b228_1), .unset] [(.int (3 : Int32)), (.int (w0_9 p2))])) _
        exact k)
      obtain ⟨T230, lo230, X230, N230, e230, K230⟩ : ∃ (T' : State) (locs' : List Loc), Stand p l e room_1 (s.setVm vm48) m #[(.int p0), (.int p1), (.int p2)] below meth c T' locs' 13 41 ∧ Fr n0 locs' ∧ T'.heap = T228.heap ∧ ∀ t, Steps p.tables e below (T'.setTop (mkF m 279 #[.val (.int p0), .val (.int p1), .val (.int p2), .val (.ref b2), .val (.ref b10), .val (.ref b16_8), .val (.int (w0_m4 p2)), .val (.int (w0_m5 p2)), .val (.int (w0_m6 p2)), .val (.int (w0_m7 p2)), .val (.int (w0_m8 p2)), s48_l11, s48_l12, .val (.int (w0_9 p2)), .val (.ref b228_1), .unset] [(.int (w0_m10 p2))])) t → Steps p.tables e below S0 t := by
        by_cases hc271_2 : (w0_9 p2) = (3 : Int32)
        · -- yes
          have K231 : ∀ t, Steps p.tables e below (T228.setTop (mkF m 279 #[.val (.int p0), .val (.int p1), .val (.int p2), .val (.ref b2), .val (.ref b10), .val (.ref b16_8), .val (.int (w0_m4 p2)), .val (.int (w0_m5 p2)), .val (.int (w0_m6 p2)), .val (.int (w0_m7 p2)), .val (.int (w0_m8 p2)), s48_l11, s48_l12, .val (.int (w0_9 p2)), .val (.ref b228_1), .unset] [(.int (1 : Int32))])) t → Steps p.tables e below S0 t := fun t k => K229 t (by
            refine XS.icmpNo X228.here hx rfl (hb hby at_271) rfl (XT.ii_ne_f hc271_2) ?_
            show Steps p.tables e below (T228.setTop (mkF m 274 #[.val (.int p0), .val (.int p1), .val (.int p2), .val (.ref b2), .val (.ref b10), .val (.ref b16_8), .val (.int (w0_m4 p2)), .val (.int (w0_m5 p2)), .val (.int (w0_m6 p2)), .val (.int (w0_m7 p2)), .val (.int (w0_m8 p2)), s48_l11, s48_l12, .val (.int (w0_9 p2)), .val (.ref b228_1), .unset] [])) _
            refine XS.iconst X228.here hx rfl (hb hby at_274) ?_
            show Steps p.tables e below (T228.setTop (mkF m 275 #[.val (.int p0), .val (.int p1), .val (.int p2), .val (.ref b2), .val (.ref b10), .val (.ref b16_8), .val (.int (w0_m4 p2)), .val (.int (w0_m5 p2)), .val (.int (w0_m6 p2)), .val (.int (w0_m7 p2)), .val (.int (w0_m8 p2)), s48_l11, s48_l12, .val (.int (w0_9 p2)), .val (.ref b228_1), .unset] [(.int (1 : Int32))])) _
            refine XS.goto X228.here hx rfl (pc0 := 275) (pc' := 279) rfl (hb hby at_275) (by decide) (by decide) ?_
            show Steps p.tables e below (T228.setTop (mkF m 279 #[.val (.int p0), .val (.int p1), .val (.int p2), .val (.ref b2), .val (.ref b10), .val (.ref b16_8), .val (.int (w0_m4 p2)), .val (.int (w0_m5 p2)), .val (.int (w0_m6 p2)), .val (.int (w0_m7 p2)), .val (.int (w0_m8 p2)), s48_l11, s48_l12, .val (.int (w0_9 p2)), .val (.ref b228_1), .unset] [(.int (1 : Int32))])) _
            exact k)
          have q232 : (w0_m10 p2) = (1 : Int32) := by unfold w0_m10; rw [if_pos hc271_2]
          exact ⟨T228, _, X228, N228, rfl, fun t k => K231 t (by rw [q232] at k; exact k)⟩
        · -- no
          have K233 : ∀ t, Steps p.tables e below (T228.setTop (mkF m 279 #[.val (.int p0), .val (.int p1), .val (.int p2), .val (.ref b2), .val (.ref b10), .val (.ref b16_8), .val (.int (w0_m4 p2)), .val (.int (w0_m5 p2)), .val (.int (w0_m6 p2)), .val (.int (w0_m7 p2)), .val (.int (w0_m8 p2)), s48_l11, s48_l12, .val (.int (w0_9 p2)), .val (.ref b228_1), .unset] [(.int (0 : Int32))])) t → Steps p.tables e below S0 t := fun t k => K229 t (by
            refine XS.icmpYes X228.here hx rfl (pc0 := 271) (pc' := 278) rfl (hb hby at_271) rfl (XT.ii_ne_t hc271_2) (by decide) (by decide) ?_
            show Steps p.tables e below (T228.setTop (mkF m 278 #[.val (.int p0), .val (.int p1), .val (.int p2), .val (.ref b2), .val (.ref b10), .val (.ref b16_8), .val (.int (w0_m4 p2)), .val (.int (w0_m5 p2)), .val (.int (w0_m6 p2)), .val (.int (w0_m7 p2)), .val (.int (w0_m8 p2)), s48_l11, s48_l12, .val (.int (w0_9 p2)), .val (.ref b228_1), .unset] [])) _
            refine XS.iconst X228.here hx rfl (hb hby at_278) ?_
            show Steps p.tables e below (T228.setTop (mkF m 279 #[.val (.int p0), .val (.int p1), .val (.int p2), .val (.ref b2), .val (.ref b10), .val (.ref b16_8), .val (.int (w0_m4 p2)), .val (.int (w0_m5 p2)), .val (.int (w0_m6 p2)), .val (.int (w0_m7 p2)), .val (.int (w0_m8 p2)), s48_l11, s48_l12, .val (.int (w0_9 p2)), .val (.ref b228_1), .unset] [(.int (0 : Int32))])) _
            exact k)
          have q234 : (w0_m10 p2) = (0 : Int32) := by unfold w0_m10; rw [if_neg hc271_2]
          exact ⟨T228, _, X228, N228, rfl, fun t k => K233 t (by rw [q234] at k; exact k)⟩
      have K235 : ∀ t, Steps p.tables e below (T230.setTop (mkF m 283 #[.val (.int p0), .val (.int p1), .val (.int p2), .val (.ref b2), .val (.ref b10), .val (.ref b16_8), .val (.int (w0_m4 p2)), .val (.int (w0_m5 p2)), .val (.int (w0_m6 p2)), .val (.int (w0_m7 p2)), .val (.int (w0_m8 p2)), s48_l11, s48_l12, .val (.int (w0_9 p2)), .val (.ref b228_1), .val (.int (w0_m10 p2))] [(.ref b228_1)])) t → Steps p.tables e below S0 t := fun t k => K230 t (by
        refine XS.istore X230.here hx rfl (hb hby at_279) rfl (l' := #[.val (.int p0), .val (.int p1), .val (.int p2), .val (.ref b2), .val (.ref b10), .val (.ref b16_8), .val (.int (w0_m4 p2)), .val (.int (w0_m5 p2)), .val (.int (w0_m6 p2)), .val (.int (w0_m7 p2)), .val (.int (w0_m8 p2)), s48_l11, s48_l12, .val (.int (w0_9 p2)), .val (.ref b228_1), .val (.int (w0_m10 p2))]) rfl ?_
        show Steps p.tables e below (T230.setTop (mkF m 281 #[.val (.int p0), .val (.int p1), .val (.int p2), .val (.ref b2), .val (.ref b10), .val (.ref b16_8), .val (.int (w0_m4 p2)), .val (.int (w0_m5 p2)), .val (.int (w0_m6 p2)), .val (.int (w0_m7 p2)), .val (.int (w0_m8 p2)), s48_l11, s48_l12, .val (.int (w0_9 p2)), .val (.ref b228_1), .val (.int (w0_m10 p2))] [])) _
        refine XS.aload X230.here hx rfl (hb hby at_281) rfl rfl ?_
        show Steps p.tables e below (T230.setTop (mkF m 283 #[.val (.int p0), .val (.int p1), .val (.int p2), .val (.ref b2), .val (.ref b10), .val (.ref b16_8), .val (.int (w0_m4 p2)), .val (.int (w0_m5 p2)), .val (.int (w0_m6 p2)), .val (.int (w0_m7 p2)), .val (.int (w0_m8 p2)), s48_l11, s48_l12, .val (.int (w0_9 p2)), .val (.ref b228_1), .val (.int (w0_m10 p2))] [(.ref b228_1)])) _
        exact k)
      have K_236 : ∀ t, Steps p.tables e below (T230.setTop (mkF m 283 #[.val (.int p0), .val (.int p1), .val (.int p2), .val (.ref b2), .val (.ref b10), .val (.ref b16_8), .val (.int (w0_m4 p2)), .val (.int (w0_m5 p2)), .val (.int (w0_m6 p2)), .val (.int (w0_m7 p2)), .val (.int (w0_m8 p2)), s48_l11, s48_l12, .val (.int (w0_9 p2)), .val (.ref b228_1), .val (.int (w0_m10 p2))] [(.ref b228_1)])) t → Steps p.tables e below S0 t := K235
      obtain ⟨cq237, kq237, q237a, q237b, q237c⟩ := isOf hZ e230 Fn228_0
      obtain ⟨_, _, ⟨T237, L237, k237, n237⟩, -, X237, ⟨Lc237, hQ237, l237, y237, z237⟩, st237⟩ := X230.virtualBack hx (y := (⟨"biaxial/cli/Forms$Operand", "isSwitch", "()Z"⟩ : MethodName)) (z := (⟨"biaxial/cli/Forms$Operand", "isSwitch", "()Z"⟩ : MethodName)) hown (mvT hZ (hw _ (List.mem_of_getElem? (i := 66) rfl))) (mvT hZ (hw _ (List.mem_of_getElem? (i := 67) rfl))) (notFace_of_selects (args := #[]) (mvT hZ (hw _ (List.mem_of_getElem? (i := 69) rfl)))) (mvT hZ (hw _ (List.mem_of_getElem? (i := 69) rfl))) (mvT hZ (hw _ (List.mem_of_getElem? (i := 68) rfl))) (by decide) (backOf (W := 0) (rmw1 l Z a0 hw [] b228_1 b10 T228.heap n0 Zs228 Fn228_1) hZ (hw _ (List.mem_of_getElem? (i := 70) rfl)) (hw _ (List.mem_of_getElem? (i := 46) rfl)) (by decide) (by decide)) q237a q237c (g := (mkF m 283 #[.val (.int p0), .val (.int p1), .val (.int p2), .val (.ref b2), .val (.ref b10), .val (.ref b16_8), .val (.int (w0_m4 p2)), .val (.int (w0_m5 p2)), .val (.int (w0_m6 p2)), .val (.int (w0_m7 p2)), .val (.int (w0_m8 p2)), s48_l11, s48_l12, .val (.int (w0_9 p2)), .val (.ref b228_1), .val (.int (w0_m10 p2))] [(.ref b228_1)])) rfl (by rw [hml]; rfl) (Steps.refl _) (argsL := []) (rest := []) (lenOf pd0_3 rfl) rfl (by show 2 * 0 + _ ≤ _; exact Nat.le_of_eq rfl) (hb hby at_283) (fun _ _ => ⟨rfl, e230, (by decide : 13 + 0 ≤ 40), (by decide : 41 + 0 ≤ 1216)⟩)
      dsimp only [Pt.U, Pt.locs, Pt.cells, Pt.slots] at X237 l237 y237 z237 st237 hQ237
      subst l237 y237 z237
      obtain ⟨rfl, N237q, e237⟩ := hQ237
      have N237 := Fr.app N230 N237q
      have K237 : ∀ t, Steps p.tables e below (T237.setTop (mkF m 286 #[.val (.int p0), .val (.int p1), .val (.int p2), .val (.ref b2), .val (.ref b10), .val (.ref b16_8), .val (.int (w0_m4 p2)), .val (.int (w0_m5 p2)), .val (.int (w0_m6 p2)), .val (.int (w0_m7 p2)), .val (.int (w0_m8 p2)), s48_l11, s48_l12, .val (.int (w0_9 p2)), .val (.ref b228_1), .val (.int (w0_m10 p2))] [(.int (0 : Int32))])) t → Steps p.tables e below S0 t := fun t k => K_236 t (st237.trans k)
      have K238 : ∀ t, Steps p.tables e below (T237.setTop (mkF m 288 #[.val (.int p0), .val (.int p1), .val (.int p2), .val (.ref b2), .val (.ref b10), .val (.ref b16_8), .val (.int (w0_m4 p2)), .val (.int (w0_m5 p2)), .val (.int (w0_m6 p2)), .val (.int (w0_m7 p2)), .val (.int (w0_m8 p2)), s48_l11, s48_l12, .val (.int (w0_9 p2)), .val (.ref b228_1), .val (.int (w0_m10 p2))] [(.int (w0_m10 p2)), (.int (0 : Int32))])) t → Steps p.tables e below S0 t := fun t k => K237 t (by
        refine XS.iload X237.here hx rfl (hb hby at_286) rfl ?_
        show Steps p.tables e below (T237.setTop (mkF m 288 #[.val (.int p0), .val (.int p1), .val (.int p2), .val (.ref b2), .val (.ref b10), .val (.ref b16_8), .val (.int (w0_m4 p2)), .val (.int (w0_m5 p2)), .val (.int (w0_m6 p2)), .val (.int (w0_m7 p2)), .val (.int (w0_m8 p2)), s48_l11, s48_l12, .val (.int (w0_9 p2)), .val (.ref b228_1), .val (.int (w0_m10 p2))] [(.int (w0_m10 p2)), (.int (0 : Int32))])) _
        exact k)
      by_cases hc288_2 : (0 : Int32) = (w0_m10 p2)
      · -- yes
        have K239 : ∀ t, Steps p.tables e below (T237.setTop (mkF m 297 #[.val (.int p0), .val (.int p1), .val (.int p2), .val (.ref b2), .val (.ref b10), .val (.ref b16_8), .val (.int (w0_m4 p2)), .val (.int (w0_m5 p2)), .val (.int (w0_m6 p2)), .val (.int (w0_m7 p2)), .val (.int (w0_m8 p2)), s48_l11, s48_l12, .val (.int (w0_9 p2)), .val (.ref b228_1), .val (.int (w0_m10 p2))] [(.ref b228_1), (.ref b16_8)])) t → Steps p.tables e below S0 t := fun t k => K238 t (by
          refine XS.icmpYes X237.here hx rfl (pc0 := 288) (pc' := 293) rfl (hb hby at_288) rfl (XT.ii_eq_t hc288_2) (by decide) (by decide) ?_
          show Steps p.tables e below (T237.setTop (mkF m 293 #[.val (.int p0), .val (.int p1), .val (.int p2), .val (.ref b2), .val (.ref b10), .val (.ref b16_8), .val (.int (w0_m4 p2)), .val (.int (w0_m5 p2)), .val (.int (w0_m6 p2)), .val (.int (w0_m7 p2)), .val (.int (w0_m8 p2)), s48_l11, s48_l12, .val (.int (w0_9 p2)), .val (.ref b228_1), .val (.int (w0_m10 p2))] [])) _
          refine XS.aload X237.here hx rfl (hb hby at_293) rfl rfl ?_
          show Steps p.tables e below (T237.setTop (mkF m 295 #[.val (.int p0), .val (.int p1), .val (.int p2), .val (.ref b2), .val (.ref b10), .val (.ref b16_8), .val (.int (w0_m4 p2)), .val (.int (w0_m5 p2)), .val (.int (w0_m6 p2)), .val (.int (w0_m7 p2)), .val (.int (w0_m8 p2)), s48_l11, s48_l12, .val (.int (w0_9 p2)), .val (.ref b228_1), .val (.int (w0_m10 p2))] [(.ref b16_8)])) _
          refine XS.aload X237.here hx rfl (hb hby at_295) rfl rfl ?_
          show Steps p.tables e below (T237.setTop (mkF m 297 #[.val (.int p0), .val (.int p1), .val (.int p2), .val (.ref b2), .val (.ref b10), .val (.ref b16_8), .val (.int (w0_m4 p2)), .val (.int (w0_m5 p2)), .val (.int (w0_m6 p2)), .val (.int (w0_m7 p2)), .val (.int (w0_m8 p2)), s48_l11, s48_l12, .val (.int (w0_9 p2)), .val (.ref b228_1), .val (.int (w0_m10 p2))] [(.ref b228_1), (.ref b16_8)])) _
          exact k)
        have K_240 : ∀ t, Steps p.tables e below (T237.setTop (mkF m 297 #[.val (.int p0), .val (.int p1), .val (.int p2), .val (.ref b2), .val (.ref b10), .val (.ref b16_8), .val (.int (w0_m4 p2)), .val (.int (w0_m5 p2)), .val (.int (w0_m6 p2)), .val (.int (w0_m7 p2)), .val (.int (w0_m8 p2)), s48_l11, s48_l12, .val (.int (w0_9 p2)), .val (.ref b228_1), .val (.int (w0_m10 p2))] [(.ref b228_1), (.ref b16_8)])) t → Steps p.tables e below S0 t := K239
        obtain ⟨_, _, ⟨T241, L241, k241, n241⟩, -, X241, ⟨Lc241, hQ241, l241, y241, z241⟩, st241⟩ := Jvm.LawKit.callS X237 hx (y := (⟨"biaxial/cli/Forms", "option", "(Ljava/lang/String;Lbiaxial/cli/Forms$Operand;)Lbiaxial/cli/Forms$Operand;"⟩ : MethodName)) hown (mvT hZ (hw _ (List.mem_of_getElem? (i := 92) rfl))) (mvT hZ (hw _ (List.mem_of_getElem? (i := 93) rfl))) (mvT hZ (hw _ (List.mem_of_getElem? (i := 85) rfl))) (mvT hZ (hw _ (List.mem_of_getElem? (i := 94) rfl))) (by decide) (backOf (W := 0) (rmp1 l Z a0 hw [] b16_8 b228_1 b10 ob3 (nar .boolean (1 : Int32)) (nar .boolean (0 : Int32)) T228.heap n0 Zs228 Fn228_0 Fn228_1 Fn228_2 Fn228_3 Fn228_4) hZ (hw _ (List.mem_of_getElem? (i := 94) rfl)) (hw _ (List.mem_of_getElem? (i := 85) rfl)) (by decide) (by decide)) (g := (mkF m 297 #[.val (.int p0), .val (.int p1), .val (.int p2), .val (.ref b2), .val (.ref b10), .val (.ref b16_8), .val (.int (w0_m4 p2)), .val (.int (w0_m5 p2)), .val (.int (w0_m6 p2)), .val (.int (w0_m7 p2)), .val (.int (w0_m8 p2)), s48_l11, s48_l12, .val (.int (w0_9 p2)), .val (.ref b228_1), .val (.int (w0_m10 p2))] [(.ref b228_1), (.ref b16_8)])) rfl (by rw [hml]; rfl) (argsL := [(.ref b16_8), (.ref b228_1)]) (rest := []) (lenOf pd0_6 rfl) rfl (by show 2 * 0 + _ ≤ _; exact Nat.le_of_eq rfl) (hb hby at_297) (fun _ _ => ⟨rfl, e237, (by decide : 13 + 1 ≤ 40), (by decide : 41 + 5 ≤ 1216)⟩)
        dsimp only [Pt.U, Pt.locs, Pt.cells, Pt.slots] at X241 l241 y241 z241 st241 hQ241
        subst l241 y241 z241
        obtain ⟨b241_1, rfl, N241q, Kp241, lb_b241_1, Fn241_0, Fn241_1, Fn241_2, Fn241_3, Fn241_4, Fn241_5⟩ := hQ241
        have N241 := Fr.app N237 N241q
        have g_b241_1 : n0 ≤ b241_1 := Nat.le_trans Zs228 lb_b241_1
        have ne_b228_1_b241_1 : b228_1 ≠ b241_1 := Nat.ne_of_lt (Nat.lt_of_lt_of_le Fn228_0.lt lb_b241_1)
        have OL241 := OL228.keep Kp241 all0
        have Fn228_0__241 := Fn228_0.keep Kp241
        have Fn228_1__241 := Fn228_1.keep Kp241 nin0
        have Fn228_2__241 := Fn228_2.keep Kp241 nin0
        have Fn228_3__241 := Fn228_3.keep Kp241 nin0
        have Fn228_4__241 := Fn228_4.keep Kp241 nin0
        have Fn228_5__241 := Fn228_5.keep Kp241 nin0
        have Zs241 : n0 ≤ T241.heap.size := Nat.le_trans Zs228 Kp241.1
        have Zk241 : kk48 ≤ T241.heap.size := Nat.le_trans Zk228 Kp241.1
        have K241 : ∀ t, Steps p.tables e below (T241.setTop (mkF m 300 #[.val (.int p0), .val (.int p1), .val (.int p2), .val (.ref b2), .val (.ref b10), .val (.ref b16_8), .val (.int (w0_m4 p2)), .val (.int (w0_m5 p2)), .val (.int (w0_m6 p2)), .val (.int (w0_m7 p2)), .val (.int (w0_m8 p2)), s48_l11, s48_l12, .val (.int (w0_9 p2)), .val (.ref b228_1), .val (.int (w0_m10 p2))] [(.ref b241_1)])) t → Steps p.tables e below S0 t := fun t k => K_240 t (st241 t k)
        have K_242 : ∀ t, Steps p.tables e below (T241.setTop (mkF m 300 #[.val (.int p0), .val (.int p1), .val (.int p2), .val (.ref b2), .val (.ref b10), .val (.ref b16_8), .val (.int (w0_m4 p2)), .val (.int (w0_m5 p2)), .val (.int (w0_m6 p2)), .val (.int (w0_m7 p2)), .val (.int (w0_m8 p2)), s48_l11, s48_l12, .val (.int (w0_9 p2)), .val (.ref b228_1), .val (.int (w0_m10 p2))] [(.ref b241_1)])) t → Steps p.tables e below S0 t := K241
        obtain ⟨cq243, kq243, q243a, q243b, q243c⟩ := isOf hZ rfl Fn241_0
        obtain ⟨_, _, ⟨T243, L243, k243, n243⟩, -, X243, ⟨Lc243, hQ243, l243, y243, z243⟩, st243⟩ := X241.virtualBack hx (y := (⟨"biaxial/cli/Forms$Operand", "isSwitch", "()Z"⟩ : MethodName)) (z := (⟨"biaxial/cli/Forms$Operand", "isSwitch", "()Z"⟩ : MethodName)) hown (mvT hZ (hw _ (List.mem_of_getElem? (i := 66) rfl))) (mvT hZ (hw _ (List.mem_of_getElem? (i := 67) rfl))) (notFace_of_selects (args := #[]) (mvT hZ (hw _ (List.mem_of_getElem? (i := 69) rfl)))) (mvT hZ (hw _ (List.mem_of_getElem? (i := 69) rfl))) (mvT hZ (hw _ (List.mem_of_getElem? (i := 68) rfl))) (by decide) (backOf (W := 0) (rmw1 l Z a0 hw [] b241_1 b10 T241.heap n0 Zs241 Fn241_1) hZ (hw _ (List.mem_of_getElem? (i := 70) rfl)) (hw _ (List.mem_of_getElem? (i := 46) rfl)) (by decide) (by decide)) q243a q243c (g := (mkF m 300 #[.val (.int p0), .val (.int p1), .val (.int p2), .val (.ref b2), .val (.ref b10), .val (.ref b16_8), .val (.int (w0_m4 p2)), .val (.int (w0_m5 p2)), .val (.int (w0_m6 p2)), .val (.int (w0_m7 p2)), .val (.int (w0_m8 p2)), s48_l11, s48_l12, .val (.int (w0_9 p2)), .val (.ref b228_1), .val (.int (w0_m10 p2))] [(.ref b241_1)])) rfl (by rw [hml]; rfl) (Steps.refl _) (argsL := []) (rest := []) (lenOf pd0_3 rfl) rfl (by show 2 * 0 + _ ≤ _; exact Nat.le_of_eq rfl) (hb hby at_300) (fun _ _ => ⟨rfl, rfl, (by decide : 14 + 0 ≤ 40), (by decide : 46 + 0 ≤ 1216)⟩)
        dsimp only [Pt.U, Pt.locs, Pt.cells, Pt.slots] at X243 l243 y243 z243 st243 hQ243
        subst l243 y243 z243
        obtain ⟨rfl, N243q, e243⟩ := hQ243
        have N243 := Fr.app N241 N243q
        have K243 : ∀ t, Steps p.tables e below (T243.setTop (mkF m 303 #[.val (.int p0), .val (.int p1), .val (.int p2), .val (.ref b2), .val (.ref b10), .val (.ref b16_8), .val (.int (w0_m4 p2)), .val (.int (w0_m5 p2)), .val (.int (w0_m6 p2)), .val (.int (w0_m7 p2)), .val (.int (w0_m8 p2)), s48_l11, s48_l12, .val (.int (w0_9 p2)), .val (.ref b228_1), .val (.int (w0_m10 p2))] [(.int (0 : Int32))])) t → Steps p.tables e below S0 t := fun t k => K_242 t (st243.trans k)
        have K244 : ∀ t, Steps p.tables e below (T243.setTop (mkF m 305 #[.val (.int p0), .val (.int p1), .val (.int p2), .val (.ref b2), .val (.ref b10), .val (.ref b16_8), .val (.int (w0_m4 p2)), .val (.int (w0_m5 p2)), .val (.int (w0_m6 p2)), .val (.int (w0_m7 p2)), .val (.int (w0_m8 p2)), s48_l11, s48_l12, .val (.int (w0_9 p2)), .val (.ref b228_1), .val (.int (w0_m10 p2))] [(.int (w0_m10 p2)), (.int (0 : Int32))])) t → Steps p.tables e below S0 t := fun t k => K243 t (by
          refine XS.iload X243.here hx rfl (hb hby at_303) rfl ?_
          show Steps p.tables e below (T243.setTop (mkF m 305 #[.val (.int p0), .val (.int p1), .val (.int p2), .val (.ref b2), .val (.ref b10), .val (.ref b16_8), .val (.int (w0_m4 p2)), .val (.int (w0_m5 p2)), .val (.int (w0_m6 p2)), .val (.int (w0_m7 p2)), .val (.int (w0_m8 p2)), s48_l11, s48_l12, .val (.int (w0_9 p2)), .val (.ref b228_1), .val (.int (w0_m10 p2))] [(.int (w0_m10 p2)), (.int (0 : Int32))])) _
          exact k)
        have K245 : ∀ t, Steps p.tables e below (T243.setTop (mkF m 313 #[.val (.int p0), .val (.int p1), .val (.int p2), .val (.ref b2), .val (.ref b10), .val (.ref b16_8), .val (.int (w0_m4 p2)), .val (.int (w0_m5 p2)), .val (.int (w0_m6 p2)), .val (.int (w0_m7 p2)), .val (.int (w0_m8 p2)), s48_l11, s48_l12, .val (.int (w0_9 p2)), .val (.ref b228_1), .val (.int (w0_m10 p2))] [(.int (1 : Int32))])) t → Steps p.tables e below S0 t := fun t k => K244 t (by
          refine XS.icmpNo X243.here hx rfl (hb hby at_305) rfl (XT.ii_ne_f hc288_2) ?_
          show Steps p.tables e below (T243.setTop (mkF m 308 #[.val (.int p0), .val (.int p1), .val (.int p2), .val (.ref b2), .val (.ref b10), .val (.ref b16_8), .val (.int (w0_m4 p2)), .val (.int (w0_m5 p2)), .val (.int (w0_m6 p2)), .val (.int (w0_m7 p2)), .val (.int (w0_m8 p2)), s48_l11, s48_l12, .val (.int (w0_9 p2)), .val (.ref b228_1), .val (.int (w0_m10 p2))] [])) _
          refine XS.iconst X243.here hx rfl (hb hby at_308) ?_
          show Steps p.tables e below (T243.setTop (mkF m 309 #[.val (.int p0), .val (.int p1), .val (.int p2), .val (.ref b2), .val (.ref b10), .val (.ref b16_8), .val (.int (w0_m4 p2)), .val (.int (w0_m5 p2)), .val (.int (w0_m6 p2)), .val (.int (w0_m7 p2)), .val (.int (w0_m8 p2)), s48_l11, s48_l12, .val (.int (w0_9 p2)), .val (.ref b228_1), .val (.int (w0_m10 p2))] [(.int (1 : Int32))])) _
          refine XS.goto X243.here hx rfl (pc0 := 309) (pc' := 313) rfl (hb hby at_309) (by decide) (by decide) ?_
          show Steps p.tables e below (T243.setTop (mkF m 313 #[.val (.int p0), .val (.int p1), .val (.int p2), .val (.ref b2), .val (.ref b10), .val (.ref b16_8), .val (.int (w0_m4 p2)), .val (.int (w0_m5 p2)), .val (.int (w0_m6 p2)), .val (.int (w0_m7 p2)), .val (.int (w0_m8 p2)), s48_l11, s48_l12, .val (.int (w0_9 p2)), .val (.ref b228_1), .val (.int (w0_m10 p2))] [(.int (1 : Int32))])) _
          exact k)
        obtain ⟨fs, hr, hrun, hended, hE⟩ := Jvm.Stand.leaveW (s := s) X243 hS48 (by rw [e243]; exact Zk241) (v := some (.int (1 : Int32))) (fun h => by rw [Bd.returns] at h; cases h) hlk
        refine ⟨_, _, ?_, hrun, hended, _, _, rfl, ?_, hE.1, hE.2.1, hE.2.2.1, hE.2.2.2.mono (by decide) (by decide)⟩
        · rw [← hS0]; exact K245 _ (retN X243 hx (t := .boolean) Bd.returns (by simp) (hb hby at_313) hr)
        · show Q0 Z p0 p1 p2 zc ob1 ob2 ob3 h0 n0 _ T243.heap _
          rw [e243]
          have qr : (1 : Int32) = (w0_r11 p2) := by unfold w0_r11; rw [if_neg hc222_0, if_pos hc236_1, if_pos hc288_2]
          exact ⟨congrArg (fun z => some (Value.int z)) qr, N243⟩
      · -- no
        have K246 : ∀ t, Steps p.tables e below (T237.setTop (mkF m 292 #[.val (.int p0), .val (.int p1), .val (.int p2), .val (.ref b2), .val (.ref b10), .val (.ref b16_8), .val (.int (w0_m4 p2)), .val (.int (w0_m5 p2)), .val (.int (w0_m6 p2)), .val (.int (w0_m7 p2)), .val (.int (w0_m8 p2)), s48_l11, s48_l12, .val (.int (w0_9 p2)), .val (.ref b228_1), .val (.int (w0_m10 p2))] [(.int (0 : Int32))])) t → Steps p.tables e below S0 t := fun t k => K238 t (by
          refine XS.icmpNo X237.here hx rfl (hb hby at_288) rfl (XT.ii_eq_f hc288_2) ?_
          show Steps p.tables e below (T237.setTop (mkF m 291 #[.val (.int p0), .val (.int p1), .val (.int p2), .val (.ref b2), .val (.ref b10), .val (.ref b16_8), .val (.int (w0_m4 p2)), .val (.int (w0_m5 p2)), .val (.int (w0_m6 p2)), .val (.int (w0_m7 p2)), .val (.int (w0_m8 p2)), s48_l11, s48_l12, .val (.int (w0_9 p2)), .val (.ref b228_1), .val (.int (w0_m10 p2))] [])) _
          refine XS.iconst X237.here hx rfl (hb hby at_291) ?_
          show Steps p.tables e below (T237.setTop (mkF m 292 #[.val (.int p0), .val (.int p1), .val (.int p2), .val (.ref b2), .val (.ref b10), .val (.ref b16_8), .val (.int (w0_m4 p2)), .val (.int (w0_m5 p2)), .val (.int (w0_m6 p2)), .val (.int (w0_m7 p2)), .val (.int (w0_m8 p2)), s48_l11, s48_l12, .val (.int (w0_9 p2)), .val (.ref b228_1), .val (.int (w0_m10 p2))] [(.int (0 : Int32))])) _
          exact k)
        obtain ⟨fs, hr, hrun, hended, hE⟩ := Jvm.Stand.leaveW (s := s) X237 hS48 (by rw [e237]; exact Zk228) (v := some (.int (0 : Int32))) (fun h => by rw [Bd.returns] at h; cases h) hlk
        refine ⟨_, _, ?_, hrun, hended, _, _, rfl, ?_, hE.1, hE.2.1, hE.2.2.1, hE.2.2.2.mono (by decide) (by decide)⟩
        · rw [← hS0]; exact K246 _ (retN X237 hx (t := .boolean) Bd.returns (by simp) (hb hby at_292) hr)
        · show Q0 Z p0 p1 p2 zc ob1 ob2 ob3 h0 n0 _ T237.heap _
          rw [e237]
          have qr : (0 : Int32) = (w0_r11 p2) := by unfold w0_r11; rw [if_neg hc222_0, if_pos hc236_1, if_neg hc288_2]
          exact ⟨congrArg (fun z => some (Value.int z)) qr, N237⟩
    · -- no
      have K247 : ∀ t, Steps p.tables e below (T48.setTop (mkF m 250 #[.val (.int p0), .val (.int p1), .val (.int p2), .val (.ref b2), .val (.ref b10), .val (.ref b16_8), .val (.int (w0_m4 p2)), .val (.int (w0_m5 p2)), .val (.int (w0_m6 p2)), .val (.int (w0_m7 p2)), .val (.int (w0_m8 p2)), s48_l11, s48_l12, .val (.int (w0_9 p2)), .unset, .unset] [(.int (2 : Int32)), (.int (w0_9 p2))])) t → Steps p.tables e below S0 t := fun t k => K225 t (by
        refine XS.icmpYes X48.here hx rfl (pc0 := 236) (pc' := 247) rfl (hb hby at_236) rfl (XT.ii_ne_t hc236_1) (by decide) (by decide) ?_
        show Steps p.tables e below (T48.setTop (mkF m 247 #[.val (.int p0), .val (.int p1), .val (.int p2), .val (.ref b2), .val (.ref b10), .val (.ref b16_8), .val (.int (w0_m4 p2)), .val (.int (w0_m5 p2)), .val (.int (w0_m6 p2)), .val (.int (w0_m7 p2)), .val (.int (w0_m8 p2)), s48_l11, s48_l12, .val (.int (w0_9 p2)), .unset, .unset] [])) _
        refine XS.iload X48.here hx rfl (hb hby at_247) rfl ?_
        show Steps p.tables e below (T48.setTop (mkF m 249 #[.val (.int p0), .val (.int p1), .val (.int p2), .val (.ref b2), .val (.ref b10), .val (.ref b16_8), .val (.int (w0_m4 p2)), .val (.int (w0_m5 p2)), .val (.int (w0_m6 p2)), .val (.int (w0_m7 p2)), .val (.int (w0_m8 p2)), s48_l11, s48_l12, .val (.int (w0_9 p2)), .unset, .unset] [(.int (w0_9 p2))])) _
        refine XS.iconst X48.here hx rfl (hb hby at_249) ?_
        show Steps p.tables e below (T48.setTop (mkF m 250 #[.val (.int p0), .val (.int p1), .val (.int p2), .val (.ref b2), .val (.ref b10), .val (.ref b16_8), .val (.int (w0_m4 p2)), .val (.int (w0_m5 p2)), .val (.int (w0_m6 p2)), .val (.int (w0_m7 p2)), .val (.int (w0_m8 p2)), s48_l11, s48_l12, .val (.int (w0_9 p2)), .unset, .unset] [(.int (2 : Int32)), (.int (w0_9 p2))])) _
        exact k)
      by_cases hc250_2 : (w0_9 p2) = (2 : Int32)
      · -- yes
        have K248 : ∀ t, Steps p.tables e below (T48.setTop (mkF m 255 #[.val (.int p0), .val (.int p1), .val (.int p2), .val (.ref b2), .val (.ref b10), .val (.ref b16_8), .val (.int (w0_m4 p2)), .val (.int (w0_m5 p2)), .val (.int (w0_m6 p2)), .val (.int (w0_m7 p2)), .val (.int (w0_m8 p2)), s48_l11, s48_l12, .val (.int (w0_9 p2)), .unset, .unset] [(.ref b10)])) t → Steps p.tables e below S0 t := fun t k => K247 t (by
          refine XS.icmpNo X48.here hx rfl (hb hby at_250) rfl (XT.ii_ne_f hc250_2) ?_
          show Steps p.tables e below (T48.setTop (mkF m 253 #[.val (.int p0), .val (.int p1), .val (.int p2), .val (.ref b2), .val (.ref b10), .val (.ref b16_8), .val (.int (w0_m4 p2)), .val (.int (w0_m5 p2)), .val (.int (w0_m6 p2)), .val (.int (w0_m7 p2)), .val (.int (w0_m8 p2)), s48_l11, s48_l12, .val (.int (w0_9 p2)), .unset, .unset] [])) _
          refine XS.aload X48.here hx rfl (hb hby at_253) rfl rfl ?_
          show Steps p.tables e below (T48.setTop (mkF m 255 #[.val (.int p0), .val (.int p1), .val (.int p2), .val (.ref b2), .val (.ref b10), .val (.ref b16_8), .val (.int (w0_m4 p2)), .val (.int (w0_m5 p2)), .val (.int (w0_m6 p2)), .val (.int (w0_m7 p2)), .val (.int (w0_m8 p2)), s48_l11, s48_l12, .val (.int (w0_9 p2)), .unset, .unset] [(.ref b10)])) _
          exact k)
        have K_249 : ∀ t, Steps p.tables e below (T48.setTop (mkF m 255 #[.val (.int p0), .val (.int p1), .val (.int p2), .val (.ref b2), .val (.ref b10), .val (.ref b16_8), .val (.int (w0_m4 p2)), .val (.int (w0_m5 p2)), .val (.int (w0_m6 p2)), .val (.int (w0_m7 p2)), .val (.int (w0_m8 p2)), s48_l11, s48_l12, .val (.int (w0_9 p2)), .unset, .unset] [(.ref b10)])) t → Steps p.tables e below S0 t := K248
        obtain ⟨_, _, ⟨T250, L250, k250, n250⟩, -, X250, ⟨Lc250, hQ250, l250, y250, z250⟩, st250⟩ := Jvm.LawKit.callS X48 hx (y := (⟨"biaxial/cli/Forms", "word", "(Ljava/lang/String;)Lbiaxial/cli/Forms$Operand;"⟩ : MethodName)) hown (mvT hZ (hw _ (List.mem_of_getElem? (i := 118) rfl))) (mvT hZ (hw _ (List.mem_of_getElem? (i := 119) rfl))) (mvT hZ (hw _ (List.mem_of_getElem? (i := 85) rfl))) (mvT hZ (hw _ (List.mem_of_getElem? (i := 120) rfl))) (by decide) (backOf (W := 0) (rmfword l Z a0 hw [] b10 ob2 T48.heap n0 Zs48 (S_Forms_Kind_WORD.ext OL48.2)) hZ (hw _ (List.mem_of_getElem? (i := 120) rfl)) (hw _ (List.mem_of_getElem? (i := 85) rfl)) (by decide) (by decide)) (g := (mkF m 255 #[.val (.int p0), .val (.int p1), .val (.int p2), .val (.ref b2), .val (.ref b10), .val (.ref b16_8), .val (.int (w0_m4 p2)), .val (.int (w0_m5 p2)), .val (.int (w0_m6 p2)), .val (.int (w0_m7 p2)), .val (.int (w0_m8 p2)), s48_l11, s48_l12, .val (.int (w0_9 p2)), .unset, .unset] [(.ref b10)])) rfl (by rw [hml]; rfl) (argsL := [(.ref b10)]) (rest := []) (lenOf pd0_5 rfl) rfl (by show 2 * 0 + _ ≤ _; exact Nat.le_of_eq rfl) (hb hby at_255) (fun _ _ => ⟨rfl, rfl, (by decide : 12 + 1 ≤ 40), (by decide : 36 + 5 ≤ 1216)⟩)
        dsimp only [Pt.U, Pt.locs, Pt.cells, Pt.slots] at X250 l250 y250 z250 st250 hQ250
        subst l250 y250 z250
        obtain ⟨b250_1, rfl, N250q, Kp250, lb_b250_1, Fn250_0, Fn250_1, Fn250_2, Fn250_3, Fn250_4, Fn250_5⟩ := hQ250
        have N250 := Fr.app N48 N250q
        have g_b250_1 : n0 ≤ b250_1 := Nat.le_trans Zs48 lb_b250_1
        have OL250 := OL48.keep Kp250 all0
        have Zs250 : n0 ≤ T250.heap.size := Nat.le_trans Zs48 Kp250.1
        have Zk250 : kk48 ≤ T250.heap.size := Nat.le_trans Zk48 Kp250.1
        have K250 : ∀ t, Steps p.tables e below (T250.setTop (mkF m 258 #[.val (.int p0), .val (.int p1), .val (.int p2), .val (.ref b2), .val (.ref b10), .val (.ref b16_8), .val (.int (w0_m4 p2)), .val (.int (w0_m5 p2)), .val (.int (w0_m6 p2)), .val (.int (w0_m7 p2)), .val (.int (w0_m8 p2)), s48_l11, s48_l12, .val (.int (w0_9 p2)), .unset, .unset] [(.ref b250_1)])) t → Steps p.tables e below S0 t := fun t k => K_249 t (st250 t k)
        have K251 : ∀ t, Steps p.tables e below (T250.setTop (mkF m 271 #[.val (.int p0), .val (.int p1), .val (.int p2), .val (.ref b2), .val (.ref b10), .val (.ref b16_8), .val (.int (w0_m4 p2)), .val (.int (w0_m5 p2)), .val (.int (w0_m6 p2)), .val (.int (w0_m7 p2)), .val (.int (w0_m8 p2)), s48_l11, s48_l12, .val (.int (w0_9 p2)), .val (.ref b250_1), .unset] [(.int (3 : Int32)), (.int (w0_9 p2))])) t → Steps p.tables e below S0 t := fun t k => K250 t (by
          refine XS.goto X250.here hx rfl (pc0 := 258) (pc' := 266) rfl (hb hby at_258) (by decide) (by decide) ?_
          show Steps p.tables e below (T250.setTop (mkF m 266 #[.val (.int p0), .val (.int p1), .val (.int p2), .val (.ref b2), .val (.ref b10), .val (.ref b16_8), .val (.int (w0_m4 p2)), .val (.int (w0_m5 p2)), .val (.int (w0_m6 p2)), .val (.int (w0_m7 p2)), .val (.int (w0_m8 p2)), s48_l11, s48_l12, .val (.int (w0_9 p2)), .unset, .unset] [(.ref b250_1)])) _
          refine XS.astore X250.here hx rfl (hb hby at_266) rfl rfl (l' := #[.val (.int p0), .val (.int p1), .val (.int p2), .val (.ref b2), .val (.ref b10), .val (.ref b16_8), .val (.int (w0_m4 p2)), .val (.int (w0_m5 p2)), .val (.int (w0_m6 p2)), .val (.int (w0_m7 p2)), .val (.int (w0_m8 p2)), s48_l11, s48_l12, .val (.int (w0_9 p2)), .val (.ref b250_1), .unset]) rfl ?_
          show Steps p.tables e below (T250.setTop (mkF m 268 #[.val (.int p0), .val (.int p1), .val (.int p2), .val (.ref b2), .val (.ref b10), .val (.ref b16_8), .val (.int (w0_m4 p2)), .val (.int (w0_m5 p2)), .val (.int (w0_m6 p2)), .val (.int (w0_m7 p2)), .val (.int (w0_m8 p2)), s48_l11, s48_l12, .val (.int (w0_9 p2)), .val (.ref b250_1), .unset] [])) _
          refine XS.iload X250.here hx rfl (hb hby at_268) rfl ?_
          show Steps p.tables e below (T250.setTop (mkF m 270 #[.val (.int p0), .val (.int p1), .val (.int p2), .val (.ref b2), .val (.ref b10), .val (.ref b16_8), .val (.int (w0_m4 p2)), .val (.int (w0_m5 p2)), .val (.int (w0_m6 p2)), .val (.int (w0_m7 p2)), .val (.int (w0_m8 p2)), s48_l11, s48_l12, .val (.int (w0_9 p2)), .val (.ref b250_1), .unset] [(.int (w0_9 p2))])) _
          refine XS.iconst X250.here hx rfl (hb hby at_270) ?_
          show Steps p.tables e below (T250.setTop (mkF m 271 #[.val (.int p0), .val (.int p1), .val (.int p2), .val (.ref b2), .val (.ref b10), .val (.ref b16_8), .val (.int (w0_m4 p2)), .val (.int (w0_m5 p2)), .val (.int (w0_m6 p2)), .val (.int (w0_m7 p2)), .val (.int (w0_m8 p2)), s48_l11, s48_l12, .val (.int (w0_9 p2)), .val (.ref b250_1), .unset] [(.int (3 : Int32)), (.int (w0_9 p2))])) _
          exact k)
        obtain ⟨T252, lo252, X252, N252, e252, K252⟩ : ∃ (T' : State) (locs' : List Loc), Stand p l e room_1 (s.setVm vm48) m #[(.int p0), (.int p1), (.int p2)] below meth c T' locs' 13 41 ∧ Fr n0 locs' ∧ T'.heap = T250.heap ∧ ∀ t, Steps p.tables e below (T'.setTop (mkF m 279 #[.val (.int p0), .val (.int p1), .val (.int p2), .val (.ref b2), .val (.ref b10), .val (.ref b16_8), .val (.int (w0_m4 p2)), .val (.int (w0_m5 p2)), .val (.int (w0_m6 p2)), .val (.int (w0_m7 p2)), .val (.int (w0_m8 p2)), s48_l11, s48_l12, .val (.int (w0_9 p2)), .val (.ref b250_1), .unset] [(.int (w0_m10 p2))])) t → Steps p.tables e below S0 t := by
          by_cases hc271_3 : (w0_9 p2) = (3 : Int32)
          · -- yes
            have K253 : ∀ t, Steps p.tables e below (T250.setTop (mkF m 279 #[.val (.int p0), .val (.int p1), .val (.int p2), .val (.ref b2), .val (.ref b10), .val (.ref b16_8), .val (.int (w0_m4 p2)), .val (.int (w0_m5 p2)), .val (.int (w0_m6 p2)), .val (.int (w0_m7 p2)), .val (.int (w0_m8 p2)), s48_l11, s48_l12, .val (.int (w0_9 p2)), .val (.ref b250_1), .unset] [(.int (1 : Int32))])) t → Steps p.tables e below S0 t := fun t k => K251 t (by
              refine XS.icmpNo X250.here hx rfl (hb hby at_271) rfl (XT.ii_ne_f hc271_3) ?_
              show Steps p.tables e below (T250.setTop (mkF m 274 #[.val (.int p0), .val (.int p1), .val (.int p2), .val (.ref b2), .val (.ref b10), .val (.ref b16_8), .val (.int (w0_m4 p2)), .val (.int (w0_m5 p2)), .val (.int (w0_m6 p2)), .val (.int (w0_m7 p2)), .val (.int (w0_m8 p2)), s48_l11, s48_l12, .val (.int (w0_9 p2)), .val (.ref b250_1), .unset] [])) _
              refine XS.iconst X250.here hx rfl (hb hby at_274) ?_
              show Steps p.tables e below (T250.setTop (mkF m 275 #[.val (.int p0), .val (.int p1), .val (.int p2), .val (.ref b2), .val (.ref b10), .val (.ref b16_8), .val (.int (w0_m4 p2)), .val (.int (w0_m5 p2)), .val (.int (w0_m6 p2)), .val (.int (w0_m7 p2)), .val (.int (w0_m8 p2)), s48_l11, s48_l12, .val (.int (w0_9 p2)), .val (.ref b250_1), .unset] [(.int (1 : Int32))])) _
              refine XS.goto X250.here hx rfl (pc0 := 275) (pc' := 279) rfl (hb hby at_275) (by decide) (by decide) ?_
              show Steps p.tables e below (T250.setTop (mkF m 279 #[.val (.int p0), .val (.int p1), .val (.int p2), .val (.ref b2), .val (.ref b10), .val (.ref b16_8), .val (.int (w0_m4 p2)), .val (.int (w0_m5 p2)), .val (.int (w0_m6 p2)), .val (.int (w0_m7 p2)), .val (.int (w0_m8 p2)), s48_l11, s48_l12, .val (.int (w0_9 p2)), .val (.ref b250_1), .unset] [(.int (1 : Int32))])) _
              exact k)
            have q254 : (w0_m10 p2) = (1 : Int32) := by unfold w0_m10; rw [if_pos hc271_3]
            exact ⟨T250, _, X250, N250, rfl, fun t k => K253 t (by rw [q254] at k; exact k)⟩
          · -- no
            have K255 : ∀ t, Steps p.tables e below (T250.setTop (mkF m 279 #[.val (.int p0), .val (.int p1), .val (.int p2), .val (.ref b2), .val (.ref b10), .val (.ref b16_8), .val (.int (w0_m4 p2)), .val (.int (w0_m5 p2)), .val (.int (w0_m6 p2)), .val (.int (w0_m7 p2)), .val (.int (w0_m8 p2)), s48_l11, s48_l12, .val (.int (w0_9 p2)), .val (.ref b250_1), .unset] [(.int (0 : Int32))])) t → Steps p.tables e below S0 t := fun t k => K251 t (by
              refine XS.icmpYes X250.here hx rfl (pc0 := 271) (pc' := 278) rfl (hb hby at_271) rfl (XT.ii_ne_t hc271_3) (by decide) (by decide) ?_
              show Steps p.tables e below (T250.setTop (mkF m 278 #[.val (.int p0), .val (.int p1), .val (.int p2), .val (.ref b2), .val (.ref b10), .val (.ref b16_8), .val (.int (w0_m4 p2)), .val (.int (w0_m5 p2)), .val (.int (w0_m6 p2)), .val (.int (w0_m7 p2)), .val (.int (w0_m8 p2)), s48_l11, s48_l12, .val (.int (w0_9 p2)), .val (.ref b250_1), .unset] [])) _
              refine XS.iconst X250.here hx rfl (hb hby at_278) ?_
              show Steps p.tables e below (T250.setTop (mkF m 279 #[.val (.int p0), .val (.int p1), .val (.int p2), .val (.ref b2), .val (.ref b10), .val (.ref b16_8), .val (.int (w0_m4 p2)), .val (.int (w0_m5 p2)), .val (.int (w0_m6 p2)), .val (.int (w0_m7 p2)), .val (.int (w0_m8 p2)), s48_l11, s48_l12, .val (.int (w0_9 p2)), .val (.ref b250_1), .unset] [(.int (0 : Int32))])) _
              exact k)
            have q256 : (w0_m10 p2) = (0 : Int32) := by unfold w0_m10; rw [if_neg hc271_3]
            exact ⟨T250, _, X250, N250, rfl, fun t k => K255 t (by rw [q256] at k; exact k)⟩
        have K257 : ∀ t, Steps p.tables e below (T252.setTop (mkF m 283 #[.val (.int p0), .val (.int p1), .val (.int p2), .val (.ref b2), .val (.ref b10), .val (.ref b16_8), .val (.int (w0_m4 p2)), .val (.int (w0_m5 p2)), .val (.int (w0_m6 p2)), .val (.int (w0_m7 p2)), .val (.int (w0_m8 p2)), s48_l11, s48_l12, .val (.int (w0_9 p2)), .val (.ref b250_1), .val (.int (w0_m10 p2))] [(.ref b250_1)])) t → Steps p.tables e below S0 t := fun t k => K252 t (by
          refine XS.istore X252.here hx rfl (hb hby at_279) rfl (l' := #[.val (.int p0), .val (.int p1), .val (.int p2), .val (.ref b2), .val (.ref b10), .val (.ref b16_8), .val (.int (w0_m4 p2)), .val (.int (w0_m5 p2)), .val (.int (w0_m6 p2)), .val (.int (w0_m7 p2)), .val (.int (w0_m8 p2)), s48_l11, s48_l12, .val (.int (w0_9 p2)), .val (.ref b250_1), .val (.int (w0_m10 p2))]) rfl ?_
          show Steps p.tables e below (T252.setTop (mkF m 281 #[.val (.int p0), .val (.int p1), .val (.int p2), .val (.ref b2), .val (.ref b10), .val (.ref b16_8), .val (.int (w0_m4 p2)), .val (.int (w0_m5 p2)), .val (.int (w0_m6 p2)), .val (.int (w0_m7 p2)), .val (.int (w0_m8 p2)), s48_l11, s48_l12, .val (.int (w0_9 p2)), .val (.ref b250_1), .val (.int (w0_m10 p2))] [])) _
          refine XS.aload X252.here hx rfl (hb hby at_281) rfl rfl ?_
          show Steps p.tables e below (T252.setTop (mkF m 283 #[.val (.int p0), .val (.int p1), .val (.int p2), .val (.ref b2), .val (.ref b10), .val (.ref b16_8), .val (.int (w0_m4 p2)), .val (.int (w0_m5 p2)), .val (.int (w0_m6 p2)), .val (.int (w0_m7 p2)), .val (.int (w0_m8 p2)), s48_l11, s48_l12, .val (.int (w0_9 p2)), .val (.ref b250_1), .val (.int (w0_m10 p2))] [(.ref b250_1)])) _
          exact k)
        have K_258 : ∀ t, Steps p.tables e below (T252.setTop (mkF m 283 #[.val (.int p0), .val (.int p1), .val (.int p2), .val (.ref b2), .val (.ref b10), .val (.ref b16_8), .val (.int (w0_m4 p2)), .val (.int (w0_m5 p2)), .val (.int (w0_m6 p2)), .val (.int (w0_m7 p2)), .val (.int (w0_m8 p2)), s48_l11, s48_l12, .val (.int (w0_9 p2)), .val (.ref b250_1), .val (.int (w0_m10 p2))] [(.ref b250_1)])) t → Steps p.tables e below S0 t := K257
        obtain ⟨cq259, kq259, q259a, q259b, q259c⟩ := isOf hZ e252 Fn250_0
        obtain ⟨_, _, ⟨T259, L259, k259, n259⟩, -, X259, ⟨Lc259, hQ259, l259, y259, z259⟩, st259⟩ := X252.virtualBack hx (y := (⟨"biaxial/cli/Forms$Operand", "isSwitch", "()Z"⟩ : MethodName)) (z := (⟨"biaxial/cli/Forms$Operand", "isSwitch", "()Z"⟩ : MethodName)) hown (mvT hZ (hw _ (List.mem_of_getElem? (i := 66) rfl))) (mvT hZ (hw _ (List.mem_of_getElem? (i := 67) rfl))) (notFace_of_selects (args := #[]) (mvT hZ (hw _ (List.mem_of_getElem? (i := 69) rfl)))) (mvT hZ (hw _ (List.mem_of_getElem? (i := 69) rfl))) (mvT hZ (hw _ (List.mem_of_getElem? (i := 68) rfl))) (by decide) (backOf (W := 0) (rmw1 l Z a0 hw [] b250_1 b10 T250.heap n0 Zs250 Fn250_1) hZ (hw _ (List.mem_of_getElem? (i := 70) rfl)) (hw _ (List.mem_of_getElem? (i := 46) rfl)) (by decide) (by decide)) q259a q259c (g := (mkF m 283 #[.val (.int p0), .val (.int p1), .val (.int p2), .val (.ref b2), .val (.ref b10), .val (.ref b16_8), .val (.int (w0_m4 p2)), .val (.int (w0_m5 p2)), .val (.int (w0_m6 p2)), .val (.int (w0_m7 p2)), .val (.int (w0_m8 p2)), s48_l11, s48_l12, .val (.int (w0_9 p2)), .val (.ref b250_1), .val (.int (w0_m10 p2))] [(.ref b250_1)])) rfl (by rw [hml]; rfl) (Steps.refl _) (argsL := []) (rest := []) (lenOf pd0_3 rfl) rfl (by show 2 * 0 + _ ≤ _; exact Nat.le_of_eq rfl) (hb hby at_283) (fun _ _ => ⟨rfl, e252, (by decide : 13 + 0 ≤ 40), (by decide : 41 + 0 ≤ 1216)⟩)
        dsimp only [Pt.U, Pt.locs, Pt.cells, Pt.slots] at X259 l259 y259 z259 st259 hQ259
        subst l259 y259 z259
        obtain ⟨rfl, N259q, e259⟩ := hQ259
        have N259 := Fr.app N252 N259q
        have K259 : ∀ t, Steps p.tables e below (T259.setTop (mkF m 286 #[.val (.int p0), .val (.int p1), .val (.int p2), .val (.ref b2), .val (.ref b10), .val (.ref b16_8), .val (.int (w0_m4 p2)), .val (.int (w0_m5 p2)), .val (.int (w0_m6 p2)), .val (.int (w0_m7 p2)), .val (.int (w0_m8 p2)), s48_l11, s48_l12, .val (.int (w0_9 p2)), .val (.ref b250_1), .val (.int (w0_m10 p2))] [(.int (0 : Int32))])) t → Steps p.tables e below S0 t := fun t k => K_258 t (st259.trans k)
        have K260 : ∀ t, Steps p.tables e below (T259.setTop (mkF m 288 #[.val (.int p0), .val (.int p1), .val (.int p2), .val (.ref b2), .val (.ref b10), .val (.ref b16_8), .val (.int (w0_m4 p2)), .val (.int (w0_m5 p2)), .val (.int (w0_m6 p2)), .val (.int (w0_m7 p2)), .val (.int (w0_m8 p2)), s48_l11, s48_l12, .val (.int (w0_9 p2)), .val (.ref b250_1), .val (.int (w0_m10 p2))] [(.int (w0_m10 p2)), (.int (0 : Int32))])) t → Steps p.tables e below S0 t := fun t k => K259 t (by
          refine XS.iload X259.here hx rfl (hb hby at_286) rfl ?_
          show Steps p.tables e below (T259.setTop (mkF m 288 #[.val (.int p0), .val (.int p1), .val (.int p2), .val (.ref b2), .val (.ref b10), .val (.ref b16_8), .val (.int (w0_m4 p2)), .val (.int (w0_m5 p2)), .val (.int (w0_m6 p2)), .val (.int (w0_m7 p2)), .val (.int (w0_m8 p2)), s48_l11, s48_l12, .val (.int (w0_9 p2)), .val (.ref b250_1), .val (.int (w0_m10 p2))] [(.int (w0_m10 p2)), (.int (0 : Int32))])) _
          exact k)
        by_cases hc288_3 : (0 : Int32) = (w0_m10 p2)
        · -- yes
          have K261 : ∀ t, Steps p.tables e below (T259.setTop (mkF m 297 #[.val (.int p0), .val (.int p1), .val (.int p2), .val (.ref b2), .val (.ref b10), .val (.ref b16_8), .val (.int (w0_m4 p2)), .val (.int (w0_m5 p2)), .val (.int (w0_m6 p2)), .val (.int (w0_m7 p2)), .val (.int (w0_m8 p2)), s48_l11, s48_l12, .val (.int (w0_9 p2)), .val (.ref b250_1), .val (.int (w0_m10 p2))] [(.ref b250_1), (.ref b16_8)])) t → Steps p.tables e below S0 t := fun t k => K260 t (by
            refine XS.icmpYes X259.here hx rfl (pc0 := 288) (pc' := 293) rfl (hb hby at_288) rfl (XT.ii_eq_t hc288_3) (by decide) (by decide) ?_
            show Steps p.tables e below (T259.setTop (mkF m 293 #[.val (.int p0), .val (.int p1), .val (.int p2), .val (.ref b2), .val (.ref b10), .val (.ref b16_8), .val (.int (w0_m4 p2)), .val (.int (w0_m5 p2)), .val (.int (w0_m6 p2)), .val (.int (w0_m7 p2)), .val (.int (w0_m8 p2)), s48_l11, s48_l12, .val (.int (w0_9 p2)), .val (.ref b250_1), .val (.int (w0_m10 p2))] [])) _
            refine XS.aload X259.here hx rfl (hb hby at_293) rfl rfl ?_
            show Steps p.tables e below (T259.setTop (mkF m 295 #[.val (.int p0), .val (.int p1), .val (.int p2), .val (.ref b2), .val (.ref b10), .val (.ref b16_8), .val (.int (w0_m4 p2)), .val (.int (w0_m5 p2)), .val (.int (w0_m6 p2)), .val (.int (w0_m7 p2)), .val (.int (w0_m8 p2)), s48_l11, s48_l12, .val (.int (w0_9 p2)), .val (.ref b250_1), .val (.int (w0_m10 p2))] [(.ref b16_8)])) _
            refine XS.aload X259.here hx rfl (hb hby at_295) rfl rfl ?_
            show Steps p.tables e below (T259.setTop (mkF m 297 #[.val (.int p0), .val (.int p1), .val (.int p2), .val (.ref b2), .val (.ref b10), .val (.ref b16_8), .val (.int (w0_m4 p2)), .val (.int (w0_m5 p2)), .val (.int (w0_m6 p2)), .val (.int (w0_m7 p2)), .val (.int (w0_m8 p2)), s48_l11, s48_l12, .val (.int (w0_9 p2)), .val (.ref b250_1), .val (.int (w0_m10 p2))] [(.ref b250_1), (.ref b16_8)])) _
            exact k)
          have K_262 : ∀ t, Steps p.tables e below (T259.setTop (mkF m 297 #[.val (.int p0), .val (.int p1), .val (.int p2), .val (.ref b2), .val (.ref b10), .val (.ref b16_8), .val (.int (w0_m4 p2)), .val (.int (w0_m5 p2)), .val (.int (w0_m6 p2)), .val (.int (w0_m7 p2)), .val (.int (w0_m8 p2)), s48_l11, s48_l12, .val (.int (w0_9 p2)), .val (.ref b250_1), .val (.int (w0_m10 p2))] [(.ref b250_1), (.ref b16_8)])) t → Steps p.tables e below S0 t := K261
          obtain ⟨_, _, ⟨T263, L263, k263, n263⟩, -, X263, ⟨Lc263, hQ263, l263, y263, z263⟩, st263⟩ := Jvm.LawKit.callS X259 hx (y := (⟨"biaxial/cli/Forms", "option", "(Ljava/lang/String;Lbiaxial/cli/Forms$Operand;)Lbiaxial/cli/Forms$Operand;"⟩ : MethodName)) hown (mvT hZ (hw _ (List.mem_of_getElem? (i := 92) rfl))) (mvT hZ (hw _ (List.mem_of_getElem? (i := 93) rfl))) (mvT hZ (hw _ (List.mem_of_getElem? (i := 85) rfl))) (mvT hZ (hw _ (List.mem_of_getElem? (i := 94) rfl))) (by decide) (backOf (W := 0) (rmp1 l Z a0 hw [] b16_8 b250_1 b10 ob2 (nar .boolean (1 : Int32)) (nar .boolean (0 : Int32)) T250.heap n0 Zs250 Fn250_0 Fn250_1 Fn250_2 Fn250_3 Fn250_4) hZ (hw _ (List.mem_of_getElem? (i := 94) rfl)) (hw _ (List.mem_of_getElem? (i := 85) rfl)) (by decide) (by decide)) (g := (mkF m 297 #[.val (.int p0), .val (.int p1), .val (.int p2), .val (.ref b2), .val (.ref b10), .val (.ref b16_8), .val (.int (w0_m4 p2)), .val (.int (w0_m5 p2)), .val (.int (w0_m6 p2)), .val (.int (w0_m7 p2)), .val (.int (w0_m8 p2)), s48_l11, s48_l12, .val (.int (w0_9 p2)), .val (.ref b250_1), .val (.int (w0_m10 p2))] [(.ref b250_1), (.ref b16_8)])) rfl (by rw [hml]; rfl) (argsL := [(.ref b16_8), (.ref b250_1)]) (rest := []) (lenOf pd0_6 rfl) rfl (by show 2 * 0 + _ ≤ _; exact Nat.le_of_eq rfl) (hb hby at_297) (fun _ _ => ⟨rfl, e259, (by decide : 13 + 1 ≤ 40), (by decide : 41 + 5 ≤ 1216)⟩)
          dsimp only [Pt.U, Pt.locs, Pt.cells, Pt.slots] at X263 l263 y263 z263 st263 hQ263
          subst l263 y263 z263
          obtain ⟨b263_1, rfl, N263q, Kp263, lb_b263_1, Fn263_0, Fn263_1, Fn263_2, Fn263_3, Fn263_4, Fn263_5⟩ := hQ263
          have N263 := Fr.app N259 N263q
          have g_b263_1 : n0 ≤ b263_1 := Nat.le_trans Zs250 lb_b263_1
          have ne_b250_1_b263_1 : b250_1 ≠ b263_1 := Nat.ne_of_lt (Nat.lt_of_lt_of_le Fn250_0.lt lb_b263_1)
          have OL263 := OL250.keep Kp263 all0
          have Fn250_0__263 := Fn250_0.keep Kp263
          have Fn250_1__263 := Fn250_1.keep Kp263 nin0
          have Fn250_2__263 := Fn250_2.keep Kp263 nin0
          have Fn250_3__263 := Fn250_3.keep Kp263 nin0
          have Fn250_4__263 := Fn250_4.keep Kp263 nin0
          have Fn250_5__263 := Fn250_5.keep Kp263 nin0
          have Zs263 : n0 ≤ T263.heap.size := Nat.le_trans Zs250 Kp263.1
          have Zk263 : kk48 ≤ T263.heap.size := Nat.le_trans Zk250 Kp263.1
          have K263 : ∀ t, Steps p.tables e below (T263.setTop (mkF m 300 #[.val (.int p0), .val (.int p1), .val (.int p2), .val (.ref b2), .val (.ref b10), .val (.ref b16_8), .val (.int (w0_m4 p2)), .val (.int (w0_m5 p2)), .val (.int (w0_m6 p2)), .val (.int (w0_m7 p2)), .val (.int (w0_m8 p2)), s48_l11, s48_l12, .val (.int (w0_9 p2)), .val (.ref b250_1), .val (.int (w0_m10 p2))] [(.ref b263_1)])) t → Steps p.tables e below S0 t := fun t k => K_262 t (st263 t k)
          have K_264 : ∀ t, Steps p.tables e below (T263.setTop (mkF m 300 #[.val (.int p0), .val (.int p1), .val (.int p2), .val (.ref b2), .val (.ref b10), .val (.ref b16_8), .val (.int (w0_m4 p2)), .val (.int (w0_m5 p2)), .val (.int (w0_m6 p2)), .val (.int (w0_m7 p2)), .val (.int (w0_m8 p2)), s48_l11, s48_l12, .val (.int (w0_9 p2)), .val (.ref b250_1), .val (.int (w0_m10 p2))] [(.ref b263_1)])) t → Steps p.tables e below S0 t := K263
          obtain ⟨cq265, kq265, q265a, q265b, q265c⟩ := isOf hZ rfl Fn263_0
          obtain ⟨_, _, ⟨T265, L265, k265, n265⟩, -, X265, ⟨Lc265, hQ265, l265, y265, z265⟩, st265⟩ := X263.virtualBack hx (y := (⟨"biaxial/cli/Forms$Operand", "isSwitch", "()Z"⟩ : MethodName)) (z := (⟨"biaxial/cli/Forms$Operand", "isSwitch", "()Z"⟩ : MethodName)) hown (mvT hZ (hw _ (List.mem_of_getElem? (i := 66) rfl))) (mvT hZ (hw _ (List.mem_of_getElem? (i := 67) rfl))) (notFace_of_selects (args := #[]) (mvT hZ (hw _ (List.mem_of_getElem? (i := 69) rfl)))) (mvT hZ (hw _ (List.mem_of_getElem? (i := 69) rfl))) (mvT hZ (hw _ (List.mem_of_getElem? (i := 68) rfl))) (by decide) (backOf (W := 0) (rmw1 l Z a0 hw [] b263_1 b10 T263.heap n0 Zs263 Fn263_1) hZ (hw _ (List.mem_of_getElem? (i := 70) rfl)) (hw _ (List.mem_of_getElem? (i := 46) rfl)) (by decide) (by decide)) q265a q265c (g := (mkF m 300 #[.val (.int p0), .val (.int p1), .val (.int p2), .val (.ref b2), .val (.ref b10), .val (.ref b16_8), .val (.int (w0_m4 p2)), .val (.int (w0_m5 p2)), .val (.int (w0_m6 p2)), .val (.int (w0_m7 p2)), .val (.int (w0_m8 p2)), s48_l11, s48_l12, .val (.int (w0_9 p2)), .val (.ref b250_1), .val (.int (w0_m10 p2))] [(.ref b263_1)])) rfl (by rw [hml]; rfl) (Steps.refl _) (argsL := []) (rest := []) (lenOf pd0_3 rfl) rfl (by show 2 * 0 + _ ≤ _; exact Nat.le_of_eq rfl) (hb hby at_300) (fun _ _ => ⟨rfl, rfl, (by decide : 14 + 0 ≤ 40), (by decide : 46 + 0 ≤ 1216)⟩)
          dsimp only [Pt.U, Pt.locs, Pt.cells, Pt.slots] at X265 l265 y265 z265 st265 hQ265
          subst l265 y265 z265
          obtain ⟨rfl, N265q, e265⟩ := hQ265
          have N265 := Fr.app N263 N265q
          have K265 : ∀ t, Steps p.tables e below (T265.setTop (mkF m 303 #[.val (.int p0), .val (.int p1), .val (.int p2), .val (.ref b2), .val (.ref b10), .val (.ref b16_8), .val (.int (w0_m4 p2)), .val (.int (w0_m5 p2)), .val (.int (w0_m6 p2)), .val (.int (w0_m7 p2)), .val (.int (w0_m8 p2)), s48_l11, s48_l12, .val (.int (w0_9 p2)), .val (.ref b250_1), .val (.int (w0_m10 p2))] [(.int (0 : Int32))])) t → Steps p.tables e below S0 t := fun t k => K_264 t (st265.trans k)
          have K266 : ∀ t, Steps p.tables e below (T265.setTop (mkF m 305 #[.val (.int p0), .val (.int p1), .val (.int p2), .val (.ref b2), .val (.ref b10), .val (.ref b16_8), .val (.int (w0_m4 p2)), .val (.int (w0_m5 p2)), .val (.int (w0_m6 p2)), .val (.int (w0_m7 p2)), .val (.int (w0_m8 p2)), s48_l11, s48_l12, .val (.int (w0_9 p2)), .val (.ref b250_1), .val (.int (w0_m10 p2))] [(.int (w0_m10 p2)), (.int (0 : Int32))])) t → Steps p.tables e below S0 t := fun t k => K265 t (by
            refine XS.iload X265.here hx rfl (hb hby at_303) rfl ?_
            show Steps p.tables e below (T265.setTop (mkF m 305 #[.val (.int p0), .val (.int p1), .val (.int p2), .val (.ref b2), .val (.ref b10), .val (.ref b16_8), .val (.int (w0_m4 p2)), .val (.int (w0_m5 p2)), .val (.int (w0_m6 p2)), .val (.int (w0_m7 p2)), .val (.int (w0_m8 p2)), s48_l11, s48_l12, .val (.int (w0_9 p2)), .val (.ref b250_1), .val (.int (w0_m10 p2))] [(.int (w0_m10 p2)), (.int (0 : Int32))])) _
            exact k)
          have K267 : ∀ t, Steps p.tables e below (T265.setTop (mkF m 313 #[.val (.int p0), .val (.int p1), .val (.int p2), .val (.ref b2), .val (.ref b10), .val (.ref b16_8), .val (.int (w0_m4 p2)), .val (.int (w0_m5 p2)), .val (.int (w0_m6 p2)), .val (.int (w0_m7 p2)), .val (.int (w0_m8 p2)), s48_l11, s48_l12, .val (.int (w0_9 p2)), .val (.ref b250_1), .val (.int (w0_m10 p2))] [(.int (1 : Int32))])) t → Steps p.tables e below S0 t := fun t k => K266 t (by
            refine XS.icmpNo X265.here hx rfl (hb hby at_305) rfl (XT.ii_ne_f hc288_3) ?_
            show Steps p.tables e below (T265.setTop (mkF m 308 #[.val (.int p0), .val (.int p1), .val (.int p2), .val (.ref b2), .val (.ref b10), .val (.ref b16_8), .val (.int (w0_m4 p2)), .val (.int (w0_m5 p2)), .val (.int (w0_m6 p2)), .val (.int (w0_m7 p2)), .val (.int (w0_m8 p2)), s48_l11, s48_l12, .val (.int (w0_9 p2)), .val (.ref b250_1), .val (.int (w0_m10 p2))] [])) _
            refine XS.iconst X265.here hx rfl (hb hby at_308) ?_
            show Steps p.tables e below (T265.setTop (mkF m 309 #[.val (.int p0), .val (.int p1), .val (.int p2), .val (.ref b2), .val (.ref b10), .val (.ref b16_8), .val (.int (w0_m4 p2)), .val (.int (w0_m5 p2)), .val (.int (w0_m6 p2)), .val (.int (w0_m7 p2)), .val (.int (w0_m8 p2)), s48_l11, s48_l12, .val (.int (w0_9 p2)), .val (.ref b250_1), .val (.int (w0_m10 p2))] [(.int (1 : Int32))])) _
            refine XS.goto X265.here hx rfl (pc0 := 309) (pc' := 313) rfl (hb hby at_309) (by decide) (by decide) ?_
            show Steps p.tables e below (T265.setTop (mkF m 313 #[.val (.int p0), .val (.int p1), .val (.int p2), .val (.ref b2), .val (.ref b10), .val (.ref b16_8), .val (.int (w0_m4 p2)), .val (.int (w0_m5 p2)), .val (.int (w0_m6 p2)), .val (.int (w0_m7 p2)), .val (.int (w0_m8 p2)), s48_l11, s48_l12, .val (.int (w0_9 p2)), .val (.ref b250_1), .val (.int (w0_m10 p2))] [(.int (1 : Int32))])) _
            exact k)
          obtain ⟨fs, hr, hrun, hended, hE⟩ := Jvm.Stand.leaveW (s := s) X265 hS48 (by rw [e265]; exact Zk263) (v := some (.int (1 : Int32))) (fun h => by rw [Bd.returns] at h; cases h) hlk
          refine ⟨_, _, ?_, hrun, hended, _, _, rfl, ?_, hE.1, hE.2.1, hE.2.2.1, hE.2.2.2.mono (by decide) (by decide)⟩
          · rw [← hS0]; exact K267 _ (retN X265 hx (t := .boolean) Bd.returns (by simp) (hb hby at_313) hr)
          · show Q0 Z p0 p1 p2 zc ob1 ob2 ob3 h0 n0 _ T265.heap _
            rw [e265]
            have qr : (1 : Int32) = (w0_r11 p2) := by unfold w0_r11; rw [if_neg hc222_0, if_neg hc236_1, if_pos hc250_2, if_pos hc288_3]
            exact ⟨congrArg (fun z => some (Value.int z)) qr, N265⟩
        · -- no
          have K268 : ∀ t, Steps p.tables e below (T259.setTop (mkF m 292 #[.val (.int p0), .val (.int p1), .val (.int p2), .val (.ref b2), .val (.ref b10), .val (.ref b16_8), .val (.int (w0_m4 p2)), .val (.int (w0_m5 p2)), .val (.int (w0_m6 p2)), .val (.int (w0_m7 p2)), .val (.int (w0_m8 p2)), s48_l11, s48_l12, .val (.int (w0_9 p2)), .val (.ref b250_1), .val (.int (w0_m10 p2))] [(.int (0 : Int32))])) t → Steps p.tables e below S0 t := fun t k => K260 t (by
            refine XS.icmpNo X259.here hx rfl (hb hby at_288) rfl (XT.ii_eq_f hc288_3) ?_
            show Steps p.tables e below (T259.setTop (mkF m 291 #[.val (.int p0), .val (.int p1), .val (.int p2), .val (.ref b2), .val (.ref b10), .val (.ref b16_8), .val (.int (w0_m4 p2)), .val (.int (w0_m5 p2)), .val (.int (w0_m6 p2)), .val (.int (w0_m7 p2)), .val (.int (w0_m8 p2)), s48_l11, s48_l12, .val (.int (w0_9 p2)), .val (.ref b250_1), .val (.int (w0_m10 p2))] [])) _
            refine XS.iconst X259.here hx rfl (hb hby at_291) ?_
            show Steps p.tables e below (T259.setTop (mkF m 292 #[.val (.int p0), .val (.int p1), .val (.int p2), .val (.ref b2), .val (.ref b10), .val (.ref b16_8), .val (.int (w0_m4 p2)), .val (.int (w0_m5 p2)), .val (.int (w0_m6 p2)), .val (.int (w0_m7 p2)), .val (.int (w0_m8 p2)), s48_l11, s48_l12, .val (.int (w0_9 p2)), .val (.ref b250_1), .val (.int (w0_m10 p2))] [(.int (0 : Int32))])) _
            exact k)
          obtain ⟨fs, hr, hrun, hended, hE⟩ := Jvm.Stand.leaveW (s := s) X259 hS48 (by rw [e259]; exact Zk250) (v := some (.int (0 : Int32))) (fun h => by rw [Bd.returns] at h; cases h) hlk
          refine ⟨_, _, ?_, hrun, hended, _, _, rfl, ?_, hE.1, hE.2.1, hE.2.2.1, hE.2.2.2.mono (by decide) (by decide)⟩
          · rw [← hS0]; exact K268 _ (retN X259 hx (t := .boolean) Bd.returns (by simp) (hb hby at_292) hr)
          · show Q0 Z p0 p1 p2 zc ob1 ob2 ob3 h0 n0 _ T259.heap _
            rw [e259]
            have qr : (0 : Int32) = (w0_r11 p2) := by unfold w0_r11; rw [if_neg hc222_0, if_neg hc236_1, if_pos hc250_2, if_neg hc288_3]
            exact ⟨congrArg (fun z => some (Value.int z)) qr, N259⟩
      · -- no
        have K269 : ∀ t, Steps p.tables e below (T48.setTop (mkF m 263 #[.val (.int p0), .val (.int p1), .val (.int p2), .val (.ref b2), .val (.ref b10), .val (.ref b16_8), .val (.int (w0_m4 p2)), .val (.int (w0_m5 p2)), .val (.int (w0_m6 p2)), .val (.int (w0_m7 p2)), .val (.int (w0_m8 p2)), s48_l11, s48_l12, .val (.int (w0_9 p2)), .unset, .unset] [(.ref b16_8)])) t → Steps p.tables e below S0 t := fun t k => K247 t (by
          refine XS.icmpYes X48.here hx rfl (pc0 := 250) (pc' := 261) rfl (hb hby at_250) rfl (XT.ii_ne_t hc250_2) (by decide) (by decide) ?_
          show Steps p.tables e below (T48.setTop (mkF m 261 #[.val (.int p0), .val (.int p1), .val (.int p2), .val (.ref b2), .val (.ref b10), .val (.ref b16_8), .val (.int (w0_m4 p2)), .val (.int (w0_m5 p2)), .val (.int (w0_m6 p2)), .val (.int (w0_m7 p2)), .val (.int (w0_m8 p2)), s48_l11, s48_l12, .val (.int (w0_9 p2)), .unset, .unset] [])) _
          refine XS.aload X48.here hx rfl (hb hby at_261) rfl rfl ?_
          show Steps p.tables e below (T48.setTop (mkF m 263 #[.val (.int p0), .val (.int p1), .val (.int p2), .val (.ref b2), .val (.ref b10), .val (.ref b16_8), .val (.int (w0_m4 p2)), .val (.int (w0_m5 p2)), .val (.int (w0_m6 p2)), .val (.int (w0_m7 p2)), .val (.int (w0_m8 p2)), s48_l11, s48_l12, .val (.int (w0_9 p2)), .unset, .unset] [(.ref b16_8)])) _
          exact k)
        have K_270 : ∀ t, Steps p.tables e below (T48.setTop (mkF m 263 #[.val (.int p0), .val (.int p1), .val (.int p2), .val (.ref b2), .val (.ref b10), .val (.ref b16_8), .val (.int (w0_m4 p2)), .val (.int (w0_m5 p2)), .val (.int (w0_m6 p2)), .val (.int (w0_m7 p2)), .val (.int (w0_m8 p2)), s48_l11, s48_l12, .val (.int (w0_9 p2)), .unset, .unset] [(.ref b16_8)])) t → Steps p.tables e below S0 t := K269
        obtain ⟨_, _, ⟨T271, L271, k271, n271⟩, -, X271, ⟨Lc271, hQ271, l271, y271, z271⟩, st271⟩ := Jvm.LawKit.callS X48 hx (y := (⟨"biaxial/cli/Forms", "flag", "(Ljava/lang/String;)Lbiaxial/cli/Forms$Operand;"⟩ : MethodName)) hown (mvT hZ (hw _ (List.mem_of_getElem? (i := 115) rfl))) (mvT hZ (hw _ (List.mem_of_getElem? (i := 116) rfl))) (mvT hZ (hw _ (List.mem_of_getElem? (i := 85) rfl))) (mvT hZ (hw _ (List.mem_of_getElem? (i := 117) rfl))) (by decide) (backOf (W := 0) (rmfflag l Z a0 hw [] b16_8 ob1 T48.heap n0 Zs48 (S_Forms_Kind_NAME.ext OL48.2)) hZ (hw _ (List.mem_of_getElem? (i := 117) rfl)) (hw _ (List.mem_of_getElem? (i := 85) rfl)) (by decide) (by decide)) (g := (mkF m 263 #[.val (.int p0), .val (.int p1), .val (.int p2), .val (.ref b2), .val (.ref b10), .val (.ref b16_8), .val (.int (w0_m4 p2)), .val (.int (w0_m5 p2)), .val (.int (w0_m6 p2)), .val (.int (w0_m7 p2)), .val (.int (w0_m8 p2)), s48_l11, s48_l12, .val (.int (w0_9 p2)), .unset, .unset] [(.ref b16_8)])) rfl (by rw [hml]; rfl) (argsL := [(.ref b16_8)]) (rest := []) (lenOf pd0_5 rfl) rfl (by show 2 * 0 + _ ≤ _; exact Nat.le_of_eq rfl) (hb hby at_263) (fun _ _ => ⟨rfl, rfl, (by decide : 12 + 1 ≤ 40), (by decide : 36 + 5 ≤ 1216)⟩)
        dsimp only [Pt.U, Pt.locs, Pt.cells, Pt.slots] at X271 l271 y271 z271 st271 hQ271
        subst l271 y271 z271
        obtain ⟨b271_1, rfl, N271q, Kp271, lb_b271_1, Fn271_0, Fn271_1, Fn271_2, Fn271_3, Fn271_4, Fn271_5⟩ := hQ271
        have N271 := Fr.app N48 N271q
        have g_b271_1 : n0 ≤ b271_1 := Nat.le_trans Zs48 lb_b271_1
        have OL271 := OL48.keep Kp271 all0
        have Zs271 : n0 ≤ T271.heap.size := Nat.le_trans Zs48 Kp271.1
        have Zk271 : kk48 ≤ T271.heap.size := Nat.le_trans Zk48 Kp271.1
        have K271 : ∀ t, Steps p.tables e below (T271.setTop (mkF m 266 #[.val (.int p0), .val (.int p1), .val (.int p2), .val (.ref b2), .val (.ref b10), .val (.ref b16_8), .val (.int (w0_m4 p2)), .val (.int (w0_m5 p2)), .val (.int (w0_m6 p2)), .val (.int (w0_m7 p2)), .val (.int (w0_m8 p2)), s48_l11, s48_l12, .val (.int (w0_9 p2)), .unset, .unset] [(.ref b271_1)])) t → Steps p.tables e below S0 t := fun t k => K_270 t (st271 t k)
        have K272 : ∀ t, Steps p.tables e below (T271.setTop (mkF m 271 #[.val (.int p0), .val (.int p1), .val (.int p2), .val (.ref b2), .val (.ref b10), .val (.ref b16_8), .val (.int (w0_m4 p2)), .val (.int (w0_m5 p2)), .val (.int (w0_m6 p2)), .val (.int (w0_m7 p2)), .val (.int (w0_m8 p2)), s48_l11, s48_l12, .val (.int (w0_9 p2)), .val (.ref b271_1), .unset] [(.int (3 : Int32)), (.int (w0_9 p2))])) t → Steps p.tables e below S0 t := fun t k => K271 t (by
          refine XS.astore X271.here hx rfl (hb hby at_266) rfl rfl (l' := #[.val (.int p0), .val (.int p1), .val (.int p2), .val (.ref b2), .val (.ref b10), .val (.ref b16_8), .val (.int (w0_m4 p2)), .val (.int (w0_m5 p2)), .val (.int (w0_m6 p2)), .val (.int (w0_m7 p2)), .val (.int (w0_m8 p2)), s48_l11, s48_l12, .val (.int (w0_9 p2)), .val (.ref b271_1), .unset]) rfl ?_
          show Steps p.tables e below (T271.setTop (mkF m 268 #[.val (.int p0), .val (.int p1), .val (.int p2), .val (.ref b2), .val (.ref b10), .val (.ref b16_8), .val (.int (w0_m4 p2)), .val (.int (w0_m5 p2)), .val (.int (w0_m6 p2)), .val (.int (w0_m7 p2)), .val (.int (w0_m8 p2)), s48_l11, s48_l12, .val (.int (w0_9 p2)), .val (.ref b271_1), .unset] [])) _
          refine XS.iload X271.here hx rfl (hb hby at_268) rfl ?_
          show Steps p.tables e below (T271.setTop (mkF m 270 #[.val (.int p0), .val (.int p1), .val (.int p2), .val (.ref b2), .val (.ref b10), .val (.ref b16_8), .val (.int (w0_m4 p2)), .val (.int (w0_m5 p2)), .val (.int (w0_m6 p2)), .val (.int (w0_m7 p2)), .val (.int (w0_m8 p2)), s48_l11, s48_l12, .val (.int (w0_9 p2)), .val (.ref b271_1), .unset] [(.int (w0_9 p2))])) _
          refine XS.iconst X271.here hx rfl (hb hby at_270) ?_
          show Steps p.tables e below (T271.setTop (mkF m 271 #[.val (.int p0), .val (.int p1), .val (.int p2), .val (.ref b2), .val (.ref b10), .val (.ref b16_8), .val (.int (w0_m4 p2)), .val (.int (w0_m5 p2)), .val (.int (w0_m6 p2)), .val (.int (w0_m7 p2)), .val (.int (w0_m8 p2)), s48_l11, s48_l12, .val (.int (w0_9 p2)), .val (.ref b271_1), .unset] [(.int (3 : Int32)), (.int (w0_9 p2))])) _
          exact k)
        obtain ⟨T273, lo273, X273, N273, e273, K273⟩ : ∃ (T' : State) (locs' : List Loc), Stand p l e room_1 (s.setVm vm48) m #[(.int p0), (.int p1), (.int p2)] below meth c T' locs' 13 41 ∧ Fr n0 locs' ∧ T'.heap = T271.heap ∧ ∀ t, Steps p.tables e below (T'.setTop (mkF m 279 #[.val (.int p0), .val (.int p1), .val (.int p2), .val (.ref b2), .val (.ref b10), .val (.ref b16_8), .val (.int (w0_m4 p2)), .val (.int (w0_m5 p2)), .val (.int (w0_m6 p2)), .val (.int (w0_m7 p2)), .val (.int (w0_m8 p2)), s48_l11, s48_l12, .val (.int (w0_9 p2)), .val (.ref b271_1), .unset] [(.int (w0_m10 p2))])) t → Steps p.tables e below S0 t := by
          by_cases hc271_3 : (w0_9 p2) = (3 : Int32)
          · -- yes
            have K274 : ∀ t, Steps p.tables e below (T271.setTop (mkF m 279 #[.val (.int p0), .val (.int p1), .val (.int p2), .val (.ref b2), .val (.ref b10), .val (.ref b16_8), .val (.int (w0_m4 p2)), .val (.int (w0_m5 p2)), .val (.int (w0_m6 p2)), .val (.int (w0_m7 p2)), .val (.int (w0_m8 p2)), s48_l11, s48_l12, .val (.int (w0_9 p2)), .val (.ref b271_1), .unset] [(.int (1 : Int32))])) t → Steps p.tables e below S0 t := fun t k => K272 t (by
              refine XS.icmpNo X271.here hx rfl (hb hby at_271) rfl (XT.ii_ne_f hc271_3) ?_
              show Steps p.tables e below (T271.setTop (mkF m 274 #[.val (.int p0), .val (.int p1), .val (.int p2), .val (.ref b2), .val (.ref b10), .val (.ref b16_8), .val (.int (w0_m4 p2)), .val (.int (w0_m5 p2)), .val (.int (w0_m6 p2)), .val (.int (w0_m7 p2)), .val (.int (w0_m8 p2)), s48_l11, s48_l12, .val (.int (w0_9 p2)), .val (.ref b271_1), .unset] [])) _
              refine XS.iconst X271.here hx rfl (hb hby at_274) ?_
              show Steps p.tables e below (T271.setTop (mkF m 275 #[.val (.int p0), .val (.int p1), .val (.int p2), .val (.ref b2), .val (.ref b10), .val (.ref b16_8), .val (.int (w0_m4 p2)), .val (.int (w0_m5 p2)), .val (.int (w0_m6 p2)), .val (.int (w0_m7 p2)), .val (.int (w0_m8 p2)), s48_l11, s48_l12, .val (.int (w0_9 p2)), .val (.ref b271_1), .unset] [(.int (1 : Int32))])) _
              refine XS.goto X271.here hx rfl (pc0 := 275) (pc' := 279) rfl (hb hby at_275) (by decide) (by decide) ?_
              show Steps p.tables e below (T271.setTop (mkF m 279 #[.val (.int p0), .val (.int p1), .val (.int p2), .val (.ref b2), .val (.ref b10), .val (.ref b16_8), .val (.int (w0_m4 p2)), .val (.int (w0_m5 p2)), .val (.int (w0_m6 p2)), .val (.int (w0_m7 p2)), .val (.int (w0_m8 p2)), s48_l11, s48_l12, .val (.int (w0_9 p2)), .val (.ref b271_1), .unset] [(.int (1 : Int32))])) _
              exact k)
            have q275 : (w0_m10 p2) = (1 : Int32) := by unfold w0_m10; rw [if_pos hc271_3]
            exact ⟨T271, _, X271, N271, rfl, fun t k => K274 t (by rw [q275] at k; exact k)⟩
          · -- no
            have K276 : ∀ t, Steps p.tables e below (T271.setTop (mkF m 279 #[.val (.int p0), .val (.int p1), .val (.int p2), .val (.ref b2), .val (.ref b10), .val (.ref b16_8), .val (.int (w0_m4 p2)), .val (.int (w0_m5 p2)), .val (.int (w0_m6 p2)), .val (.int (w0_m7 p2)), .val (.int (w0_m8 p2)), s48_l11, s48_l12, .val (.int (w0_9 p2)), .val (.ref b271_1), .unset] [(.int (0 : Int32))])) t → Steps p.tables e below S0 t := fun t k => K272 t (by
              refine XS.icmpYes X271.here hx rfl (pc0 := 271) (pc' := 278) rfl (hb hby at_271) rfl (XT.ii_ne_t hc271_3) (by decide) (by decide) ?_
              show Steps p.tables e below (T271.setTop (mkF m 278 #[.val (.int p0), .val (.int p1), .val (.int p2), .val (.ref b2), .val (.ref b10), .val (.ref b16_8), .val (.int (w0_m4 p2)), .val (.int (w0_m5 p2)), .val (.int (w0_m6 p2)), .val (.int (w0_m7 p2)), .val (.int (w0_m8 p2)), s48_l11, s48_l12, .val (.int (w0_9 p2)), .val (.ref b271_1), .unset] [])) _
              refine XS.iconst X271.here hx rfl (hb hby at_278) ?_
              show Steps p.tables e below (T271.setTop (mkF m 279 #[.val (.int p0), .val (.int p1), .val (.int p2), .val (.ref b2), .val (.ref b10), .val (.ref b16_8), .val (.int (w0_m4 p2)), .val (.int (w0_m5 p2)), .val (.int (w0_m6 p2)), .val (.int (w0_m7 p2)), .val (.int (w0_m8 p2)), s48_l11, s48_l12, .val (.int (w0_9 p2)), .val (.ref b271_1), .unset] [(.int (0 : Int32))])) _
              exact k)
            have q277 : (w0_m10 p2) = (0 : Int32) := by unfold w0_m10; rw [if_neg hc271_3]
            exact ⟨T271, _, X271, N271, rfl, fun t k => K276 t (by rw [q277] at k; exact k)⟩
        have K278 : ∀ t, Steps p.tables e below (T273.setTop (mkF m 283 #[.val (.int p0), .val (.int p1), .val (.int p2), .val (.ref b2), .val (.ref b10), .val (.ref b16_8), .val (.int (w0_m4 p2)), .val (.int (w0_m5 p2)), .val (.int (w0_m6 p2)), .val (.int (w0_m7 p2)), .val (.int (w0_m8 p2)), s48_l11, s48_l12, .val (.int (w0_9 p2)), .val (.ref b271_1), .val (.int (w0_m10 p2))] [(.ref b271_1)])) t → Steps p.tables e below S0 t := fun t k => K273 t (by
          refine XS.istore X273.here hx rfl (hb hby at_279) rfl (l' := #[.val (.int p0), .val (.int p1), .val (.int p2), .val (.ref b2), .val (.ref b10), .val (.ref b16_8), .val (.int (w0_m4 p2)), .val (.int (w0_m5 p2)), .val (.int (w0_m6 p2)), .val (.int (w0_m7 p2)), .val (.int (w0_m8 p2)), s48_l11, s48_l12, .val (.int (w0_9 p2)), .val (.ref b271_1), .val (.int (w0_m10 p2))]) rfl ?_
          show Steps p.tables e below (T273.setTop (mkF m 281 #[.val (.int p0), .val (.int p1), .val (.int p2), .val (.ref b2), .val (.ref b10), .val (.ref b16_8), .val (.int (w0_m4 p2)), .val (.int (w0_m5 p2)), .val (.int (w0_m6 p2)), .val (.int (w0_m7 p2)), .val (.int (w0_m8 p2)), s48_l11, s48_l12, .val (.int (w0_9 p2)), .val (.ref b271_1), .val (.int (w0_m10 p2))] [])) _
          refine XS.aload X273.here hx rfl (hb hby at_281) rfl rfl ?_
          show Steps p.tables e below (T273.setTop (mkF m 283 #[.val (.int p0), .val (.int p1), .val (.int p2), .val (.ref b2), .val (.ref b10), .val (.ref b16_8), .val (.int (w0_m4 p2)), .val (.int (w0_m5 p2)), .val (.int (w0_m6 p2)), .val (.int (w0_m7 p2)), .val (.int (w0_m8 p2)), s48_l11, s48_l12, .val (.int (w0_9 p2)), .val (.ref b271_1), .val (.int (w0_m10 p2))] [(.ref b271_1)])) _
          exact k)
        have K_279 : ∀ t, Steps p.tables e below (T273.setTop (mkF m 283 #[.val (.int p0), .val (.int p1), .val (.int p2), .val (.ref b2), .val (.ref b10), .val (.ref b16_8), .val (.int (w0_m4 p2)), .val (.int (w0_m5 p2)), .val (.int (w0_m6 p2)), .val (.int (w0_m7 p2)), .val (.int (w0_m8 p2)), s48_l11, s48_l12, .val (.int (w0_9 p2)), .val (.ref b271_1), .val (.int (w0_m10 p2))] [(.ref b271_1)])) t → Steps p.tables e below S0 t := K278
        obtain ⟨cq280, kq280, q280a, q280b, q280c⟩ := isOf hZ e273 Fn271_0
        obtain ⟨_, _, ⟨T280, L280, k280, n280⟩, -, X280, ⟨Lc280, hQ280, l280, y280, z280⟩, st280⟩ := X273.virtualBack hx (y := (⟨"biaxial/cli/Forms$Operand", "isSwitch", "()Z"⟩ : MethodName)) (z := (⟨"biaxial/cli/Forms$Operand", "isSwitch", "()Z"⟩ : MethodName)) hown (mvT hZ (hw _ (List.mem_of_getElem? (i := 66) rfl))) (mvT hZ (hw _ (List.mem_of_getElem? (i := 67) rfl))) (notFace_of_selects (args := #[]) (mvT hZ (hw _ (List.mem_of_getElem? (i := 69) rfl)))) (mvT hZ (hw _ (List.mem_of_getElem? (i := 69) rfl))) (mvT hZ (hw _ (List.mem_of_getElem? (i := 68) rfl))) (by decide) (backOf (W := 0) (rmw0 l Z a0 hw [] b271_1 T271.heap n0 Zs271 Fn271_1) hZ (hw _ (List.mem_of_getElem? (i := 70) rfl)) (hw _ (List.mem_of_getElem? (i := 46) rfl)) (by decide) (by decide)) q280a q280c (g := (mkF m 283 #[.val (.int p0), .val (.int p1), .val (.int p2), .val (.ref b2), .val (.ref b10), .val (.ref b16_8), .val (.int (w0_m4 p2)), .val (.int (w0_m5 p2)), .val (.int (w0_m6 p2)), .val (.int (w0_m7 p2)), .val (.int (w0_m8 p2)), s48_l11, s48_l12, .val (.int (w0_9 p2)), .val (.ref b271_1), .val (.int (w0_m10 p2))] [(.ref b271_1)])) rfl (by rw [hml]; rfl) (Steps.refl _) (argsL := []) (rest := []) (lenOf pd0_3 rfl) rfl (by show 2 * 0 + _ ≤ _; exact Nat.le_of_eq rfl) (hb hby at_283) (fun _ _ => ⟨rfl, e273, (by decide : 13 + 0 ≤ 40), (by decide : 41 + 0 ≤ 1216)⟩)
        dsimp only [Pt.U, Pt.locs, Pt.cells, Pt.slots] at X280 l280 y280 z280 st280 hQ280
        subst l280 y280 z280
        obtain ⟨rfl, N280q, e280⟩ := hQ280
        have N280 := Fr.app N273 N280q
        have K280 : ∀ t, Steps p.tables e below (T280.setTop (mkF m 286 #[.val (.int p0), .val (.int p1), .val (.int p2), .val (.ref b2), .val (.ref b10), .val (.ref b16_8), .val (.int (w0_m4 p2)), .val (.int (w0_m5 p2)), .val (.int (w0_m6 p2)), .val (.int (w0_m7 p2)), .val (.int (w0_m8 p2)), s48_l11, s48_l12, .val (.int (w0_9 p2)), .val (.ref b271_1), .val (.int (w0_m10 p2))] [(.int (1 : Int32))])) t → Steps p.tables e below S0 t := fun t k => K_279 t (st280.trans k)
        have K281 : ∀ t, Steps p.tables e below (T280.setTop (mkF m 288 #[.val (.int p0), .val (.int p1), .val (.int p2), .val (.ref b2), .val (.ref b10), .val (.ref b16_8), .val (.int (w0_m4 p2)), .val (.int (w0_m5 p2)), .val (.int (w0_m6 p2)), .val (.int (w0_m7 p2)), .val (.int (w0_m8 p2)), s48_l11, s48_l12, .val (.int (w0_9 p2)), .val (.ref b271_1), .val (.int (w0_m10 p2))] [(.int (w0_m10 p2)), (.int (1 : Int32))])) t → Steps p.tables e below S0 t := fun t k => K280 t (by
          refine XS.iload X280.here hx rfl (hb hby at_286) rfl ?_
          show Steps p.tables e below (T280.setTop (mkF m 288 #[.val (.int p0), .val (.int p1), .val (.int p2), .val (.ref b2), .val (.ref b10), .val (.ref b16_8), .val (.int (w0_m4 p2)), .val (.int (w0_m5 p2)), .val (.int (w0_m6 p2)), .val (.int (w0_m7 p2)), .val (.int (w0_m8 p2)), s48_l11, s48_l12, .val (.int (w0_9 p2)), .val (.ref b271_1), .val (.int (w0_m10 p2))] [(.int (w0_m10 p2)), (.int (1 : Int32))])) _
          exact k)
        by_cases hc288_3 : (1 : Int32) = (w0_m10 p2)
        · -- yes
          have K282 : ∀ t, Steps p.tables e below (T280.setTop (mkF m 297 #[.val (.int p0), .val (.int p1), .val (.int p2), .val (.ref b2), .val (.ref b10), .val (.ref b16_8), .val (.int (w0_m4 p2)), .val (.int (w0_m5 p2)), .val (.int (w0_m6 p2)), .val (.int (w0_m7 p2)), .val (.int (w0_m8 p2)), s48_l11, s48_l12, .val (.int (w0_9 p2)), .val (.ref b271_1), .val (.int (w0_m10 p2))] [(.ref b271_1), (.ref b16_8)])) t → Steps p.tables e below S0 t := fun t k => K281 t (by
            refine XS.icmpYes X280.here hx rfl (pc0 := 288) (pc' := 293) rfl (hb hby at_288) rfl (XT.ii_eq_t hc288_3) (by decide) (by decide) ?_
            show Steps p.tables e below (T280.setTop (mkF m 293 #[.val (.int p0), .val (.int p1), .val (.int p2), .val (.ref b2), .val (.ref b10), .val (.ref b16_8), .val (.int (w0_m4 p2)), .val (.int (w0_m5 p2)), .val (.int (w0_m6 p2)), .val (.int (w0_m7 p2)), .val (.int (w0_m8 p2)), s48_l11, s48_l12, .val (.int (w0_9 p2)), .val (.ref b271_1), .val (.int (w0_m10 p2))] [])) _
            refine XS.aload X280.here hx rfl (hb hby at_293) rfl rfl ?_
            show Steps p.tables e below (T280.setTop (mkF m 295 #[.val (.int p0), .val (.int p1), .val (.int p2), .val (.ref b2), .val (.ref b10), .val (.ref b16_8), .val (.int (w0_m4 p2)), .val (.int (w0_m5 p2)), .val (.int (w0_m6 p2)), .val (.int (w0_m7 p2)), .val (.int (w0_m8 p2)), s48_l11, s48_l12, .val (.int (w0_9 p2)), .val (.ref b271_1), .val (.int (w0_m10 p2))] [(.ref b16_8)])) _
            refine XS.aload X280.here hx rfl (hb hby at_295) rfl rfl ?_
            show Steps p.tables e below (T280.setTop (mkF m 297 #[.val (.int p0), .val (.int p1), .val (.int p2), .val (.ref b2), .val (.ref b10), .val (.ref b16_8), .val (.int (w0_m4 p2)), .val (.int (w0_m5 p2)), .val (.int (w0_m6 p2)), .val (.int (w0_m7 p2)), .val (.int (w0_m8 p2)), s48_l11, s48_l12, .val (.int (w0_9 p2)), .val (.ref b271_1), .val (.int (w0_m10 p2))] [(.ref b271_1), (.ref b16_8)])) _
            exact k)
          have K_283 : ∀ t, Steps p.tables e below (T280.setTop (mkF m 297 #[.val (.int p0), .val (.int p1), .val (.int p2), .val (.ref b2), .val (.ref b10), .val (.ref b16_8), .val (.int (w0_m4 p2)), .val (.int (w0_m5 p2)), .val (.int (w0_m6 p2)), .val (.int (w0_m7 p2)), .val (.int (w0_m8 p2)), s48_l11, s48_l12, .val (.int (w0_9 p2)), .val (.ref b271_1), .val (.int (w0_m10 p2))] [(.ref b271_1), (.ref b16_8)])) t → Steps p.tables e below S0 t := K282
          obtain ⟨_, _, ⟨T284, L284, k284, n284⟩, -, X284, ⟨Lc284, hQ284, l284, y284, z284⟩, st284⟩ := Jvm.LawKit.callS X280 hx (y := (⟨"biaxial/cli/Forms", "option", "(Ljava/lang/String;Lbiaxial/cli/Forms$Operand;)Lbiaxial/cli/Forms$Operand;"⟩ : MethodName)) hown (mvT hZ (hw _ (List.mem_of_getElem? (i := 92) rfl))) (mvT hZ (hw _ (List.mem_of_getElem? (i := 93) rfl))) (mvT hZ (hw _ (List.mem_of_getElem? (i := 85) rfl))) (mvT hZ (hw _ (List.mem_of_getElem? (i := 94) rfl))) (by decide) (backOf (W := 0) (rmp0 l Z a0 hw [] b16_8 b271_1 ob1 (nar .boolean (1 : Int32)) (nar .boolean (0 : Int32)) T271.heap n0 Zs271 Fn271_0 Fn271_1 Fn271_2 Fn271_3 Fn271_4) hZ (hw _ (List.mem_of_getElem? (i := 94) rfl)) (hw _ (List.mem_of_getElem? (i := 85) rfl)) (by decide) (by decide)) (g := (mkF m 297 #[.val (.int p0), .val (.int p1), .val (.int p2), .val (.ref b2), .val (.ref b10), .val (.ref b16_8), .val (.int (w0_m4 p2)), .val (.int (w0_m5 p2)), .val (.int (w0_m6 p2)), .val (.int (w0_m7 p2)), .val (.int (w0_m8 p2)), s48_l11, s48_l12, .val (.int (w0_9 p2)), .val (.ref b271_1), .val (.int (w0_m10 p2))] [(.ref b271_1), (.ref b16_8)])) rfl (by rw [hml]; rfl) (argsL := [(.ref b16_8), (.ref b271_1)]) (rest := []) (lenOf pd0_6 rfl) rfl (by show 2 * 0 + _ ≤ _; exact Nat.le_of_eq rfl) (hb hby at_297) (fun _ _ => ⟨rfl, e280, (by decide : 13 + 1 ≤ 40), (by decide : 41 + 5 ≤ 1216)⟩)
          dsimp only [Pt.U, Pt.locs, Pt.cells, Pt.slots] at X284 l284 y284 z284 st284 hQ284
          subst l284 y284 z284
          obtain ⟨b284_1, rfl, N284q, Kp284, lb_b284_1, Fn284_0, Fn284_1, Fn284_2, Fn284_3, Fn284_4, Fn284_5⟩ := hQ284
          have N284 := Fr.app N280 N284q
          have g_b284_1 : n0 ≤ b284_1 := Nat.le_trans Zs271 lb_b284_1
          have ne_b271_1_b284_1 : b271_1 ≠ b284_1 := Nat.ne_of_lt (Nat.lt_of_lt_of_le Fn271_0.lt lb_b284_1)
          have OL284 := OL271.keep Kp284 all0
          have Fn271_0__284 := Fn271_0.keep Kp284
          have Fn271_1__284 := Fn271_1.keep Kp284 nin0
          have Fn271_2__284 := Fn271_2.keep Kp284 nin0
          have Fn271_3__284 := Fn271_3.keep Kp284 nin0
          have Fn271_4__284 := Fn271_4.keep Kp284 nin0
          have Fn271_5__284 := Fn271_5.keep Kp284 nin0
          have Zs284 : n0 ≤ T284.heap.size := Nat.le_trans Zs271 Kp284.1
          have Zk284 : kk48 ≤ T284.heap.size := Nat.le_trans Zk271 Kp284.1
          have K284 : ∀ t, Steps p.tables e below (T284.setTop (mkF m 300 #[.val (.int p0), .val (.int p1), .val (.int p2), .val (.ref b2), .val (.ref b10), .val (.ref b16_8), .val (.int (w0_m4 p2)), .val (.int (w0_m5 p2)), .val (.int (w0_m6 p2)), .val (.int (w0_m7 p2)), .val (.int (w0_m8 p2)), s48_l11, s48_l12, .val (.int (w0_9 p2)), .val (.ref b271_1), .val (.int (w0_m10 p2))] [(.ref b284_1)])) t → Steps p.tables e below S0 t := fun t k => K_283 t (st284 t k)
          have K_285 : ∀ t, Steps p.tables e below (T284.setTop (mkF m 300 #[.val (.int p0), .val (.int p1), .val (.int p2), .val (.ref b2), .val (.ref b10), .val (.ref b16_8), .val (.int (w0_m4 p2)), .val (.int (w0_m5 p2)), .val (.int (w0_m6 p2)), .val (.int (w0_m7 p2)), .val (.int (w0_m8 p2)), s48_l11, s48_l12, .val (.int (w0_9 p2)), .val (.ref b271_1), .val (.int (w0_m10 p2))] [(.ref b284_1)])) t → Steps p.tables e below S0 t := K284
          obtain ⟨cq286, kq286, q286a, q286b, q286c⟩ := isOf hZ rfl Fn284_0
          obtain ⟨_, _, ⟨T286, L286, k286, n286⟩, -, X286, ⟨Lc286, hQ286, l286, y286, z286⟩, st286⟩ := X284.virtualBack hx (y := (⟨"biaxial/cli/Forms$Operand", "isSwitch", "()Z"⟩ : MethodName)) (z := (⟨"biaxial/cli/Forms$Operand", "isSwitch", "()Z"⟩ : MethodName)) hown (mvT hZ (hw _ (List.mem_of_getElem? (i := 66) rfl))) (mvT hZ (hw _ (List.mem_of_getElem? (i := 67) rfl))) (notFace_of_selects (args := #[]) (mvT hZ (hw _ (List.mem_of_getElem? (i := 69) rfl)))) (mvT hZ (hw _ (List.mem_of_getElem? (i := 69) rfl))) (mvT hZ (hw _ (List.mem_of_getElem? (i := 68) rfl))) (by decide) (backOf (W := 0) (rmw0 l Z a0 hw [] b284_1 T284.heap n0 Zs284 Fn284_1) hZ (hw _ (List.mem_of_getElem? (i := 70) rfl)) (hw _ (List.mem_of_getElem? (i := 46) rfl)) (by decide) (by decide)) q286a q286c (g := (mkF m 300 #[.val (.int p0), .val (.int p1), .val (.int p2), .val (.ref b2), .val (.ref b10), .val (.ref b16_8), .val (.int (w0_m4 p2)), .val (.int (w0_m5 p2)), .val (.int (w0_m6 p2)), .val (.int (w0_m7 p2)), .val (.int (w0_m8 p2)), s48_l11, s48_l12, .val (.int (w0_9 p2)), .val (.ref b271_1), .val (.int (w0_m10 p2))] [(.ref b284_1)])) rfl (by rw [hml]; rfl) (Steps.refl _) (argsL := []) (rest := []) (lenOf pd0_3 rfl) rfl (by show 2 * 0 + _ ≤ _; exact Nat.le_of_eq rfl) (hb hby at_300) (fun _ _ => ⟨rfl, rfl, (by decide : 14 + 0 ≤ 40), (by decide : 46 + 0 ≤ 1216)⟩)
          dsimp only [Pt.U, Pt.locs, Pt.cells, Pt.slots] at X286 l286 y286 z286 st286 hQ286
          subst l286 y286 z286
          obtain ⟨rfl, N286q, e286⟩ := hQ286
          have N286 := Fr.app N284 N286q
          have K286 : ∀ t, Steps p.tables e below (T286.setTop (mkF m 303 #[.val (.int p0), .val (.int p1), .val (.int p2), .val (.ref b2), .val (.ref b10), .val (.ref b16_8), .val (.int (w0_m4 p2)), .val (.int (w0_m5 p2)), .val (.int (w0_m6 p2)), .val (.int (w0_m7 p2)), .val (.int (w0_m8 p2)), s48_l11, s48_l12, .val (.int (w0_9 p2)), .val (.ref b271_1), .val (.int (w0_m10 p2))] [(.int (1 : Int32))])) t → Steps p.tables e below S0 t := fun t k => K_285 t (st286.trans k)
          have K287 : ∀ t, Steps p.tables e below (T286.setTop (mkF m 305 #[.val (.int p0), .val (.int p1), .val (.int p2), .val (.ref b2), .val (.ref b10), .val (.ref b16_8), .val (.int (w0_m4 p2)), .val (.int (w0_m5 p2)), .val (.int (w0_m6 p2)), .val (.int (w0_m7 p2)), .val (.int (w0_m8 p2)), s48_l11, s48_l12, .val (.int (w0_9 p2)), .val (.ref b271_1), .val (.int (w0_m10 p2))] [(.int (w0_m10 p2)), (.int (1 : Int32))])) t → Steps p.tables e below S0 t := fun t k => K286 t (by
            refine XS.iload X286.here hx rfl (hb hby at_303) rfl ?_
            show Steps p.tables e below (T286.setTop (mkF m 305 #[.val (.int p0), .val (.int p1), .val (.int p2), .val (.ref b2), .val (.ref b10), .val (.ref b16_8), .val (.int (w0_m4 p2)), .val (.int (w0_m5 p2)), .val (.int (w0_m6 p2)), .val (.int (w0_m7 p2)), .val (.int (w0_m8 p2)), s48_l11, s48_l12, .val (.int (w0_9 p2)), .val (.ref b271_1), .val (.int (w0_m10 p2))] [(.int (w0_m10 p2)), (.int (1 : Int32))])) _
            exact k)
          have K288 : ∀ t, Steps p.tables e below (T286.setTop (mkF m 313 #[.val (.int p0), .val (.int p1), .val (.int p2), .val (.ref b2), .val (.ref b10), .val (.ref b16_8), .val (.int (w0_m4 p2)), .val (.int (w0_m5 p2)), .val (.int (w0_m6 p2)), .val (.int (w0_m7 p2)), .val (.int (w0_m8 p2)), s48_l11, s48_l12, .val (.int (w0_9 p2)), .val (.ref b271_1), .val (.int (w0_m10 p2))] [(.int (1 : Int32))])) t → Steps p.tables e below S0 t := fun t k => K287 t (by
            refine XS.icmpNo X286.here hx rfl (hb hby at_305) rfl (XT.ii_ne_f hc288_3) ?_
            show Steps p.tables e below (T286.setTop (mkF m 308 #[.val (.int p0), .val (.int p1), .val (.int p2), .val (.ref b2), .val (.ref b10), .val (.ref b16_8), .val (.int (w0_m4 p2)), .val (.int (w0_m5 p2)), .val (.int (w0_m6 p2)), .val (.int (w0_m7 p2)), .val (.int (w0_m8 p2)), s48_l11, s48_l12, .val (.int (w0_9 p2)), .val (.ref b271_1), .val (.int (w0_m10 p2))] [])) _
            refine XS.iconst X286.here hx rfl (hb hby at_308) ?_
            show Steps p.tables e below (T286.setTop (mkF m 309 #[.val (.int p0), .val (.int p1), .val (.int p2), .val (.ref b2), .val (.ref b10), .val (.ref b16_8), .val (.int (w0_m4 p2)), .val (.int (w0_m5 p2)), .val (.int (w0_m6 p2)), .val (.int (w0_m7 p2)), .val (.int (w0_m8 p2)), s48_l11, s48_l12, .val (.int (w0_9 p2)), .val (.ref b271_1), .val (.int (w0_m10 p2))] [(.int (1 : Int32))])) _
            refine XS.goto X286.here hx rfl (pc0 := 309) (pc' := 313) rfl (hb hby at_309) (by decide) (by decide) ?_
            show Steps p.tables e below (T286.setTop (mkF m 313 #[.val (.int p0), .val (.int p1), .val (.int p2), .val (.ref b2), .val (.ref b10), .val (.ref b16_8), .val (.int (w0_m4 p2)), .val (.int (w0_m5 p2)), .val (.int (w0_m6 p2)), .val (.int (w0_m7 p2)), .val (.int (w0_m8 p2)), s48_l11, s48_l12, .val (.int (w0_9 p2)), .val (.ref b271_1), .val (.int (w0_m10 p2))] [(.int (1 : Int32))])) _
            exact k)
          obtain ⟨fs, hr, hrun, hended, hE⟩ := Jvm.Stand.leaveW (s := s) X286 hS48 (by rw [e286]; exact Zk284) (v := some (.int (1 : Int32))) (fun h => by rw [Bd.returns] at h; cases h) hlk
          refine ⟨_, _, ?_, hrun, hended, _, _, rfl, ?_, hE.1, hE.2.1, hE.2.2.1, hE.2.2.2.mono (by decide) (by decide)⟩
          · rw [← hS0]; exact K288 _ (retN X286 hx (t := .boolean) Bd.returns (by simp) (hb hby at_313) hr)
          · show Q0 Z p0 p1 p2 zc ob1 ob2 ob3 h0 n0 _ T286.heap _
            rw [e286]
            have qr : (1 : Int32) = (w0_r11 p2) := by unfold w0_r11; rw [if_neg hc222_0, if_neg hc236_1, if_neg hc250_2, if_pos hc288_3]
            exact ⟨congrArg (fun z => some (Value.int z)) qr, N286⟩
        · -- no
          have K289 : ∀ t, Steps p.tables e below (T280.setTop (mkF m 292 #[.val (.int p0), .val (.int p1), .val (.int p2), .val (.ref b2), .val (.ref b10), .val (.ref b16_8), .val (.int (w0_m4 p2)), .val (.int (w0_m5 p2)), .val (.int (w0_m6 p2)), .val (.int (w0_m7 p2)), .val (.int (w0_m8 p2)), s48_l11, s48_l12, .val (.int (w0_9 p2)), .val (.ref b271_1), .val (.int (w0_m10 p2))] [(.int (0 : Int32))])) t → Steps p.tables e below S0 t := fun t k => K281 t (by
            refine XS.icmpNo X280.here hx rfl (hb hby at_288) rfl (XT.ii_eq_f hc288_3) ?_
            show Steps p.tables e below (T280.setTop (mkF m 291 #[.val (.int p0), .val (.int p1), .val (.int p2), .val (.ref b2), .val (.ref b10), .val (.ref b16_8), .val (.int (w0_m4 p2)), .val (.int (w0_m5 p2)), .val (.int (w0_m6 p2)), .val (.int (w0_m7 p2)), .val (.int (w0_m8 p2)), s48_l11, s48_l12, .val (.int (w0_9 p2)), .val (.ref b271_1), .val (.int (w0_m10 p2))] [])) _
            refine XS.iconst X280.here hx rfl (hb hby at_291) ?_
            show Steps p.tables e below (T280.setTop (mkF m 292 #[.val (.int p0), .val (.int p1), .val (.int p2), .val (.ref b2), .val (.ref b10), .val (.ref b16_8), .val (.int (w0_m4 p2)), .val (.int (w0_m5 p2)), .val (.int (w0_m6 p2)), .val (.int (w0_m7 p2)), .val (.int (w0_m8 p2)), s48_l11, s48_l12, .val (.int (w0_9 p2)), .val (.ref b271_1), .val (.int (w0_m10 p2))] [(.int (0 : Int32))])) _
            exact k)
          obtain ⟨fs, hr, hrun, hended, hE⟩ := Jvm.Stand.leaveW (s := s) X280 hS48 (by rw [e280]; exact Zk271) (v := some (.int (0 : Int32))) (fun h => by rw [Bd.returns] at h; cases h) hlk
          refine ⟨_, _, ?_, hrun, hended, _, _, rfl, ?_, hE.1, hE.2.1, hE.2.2.1, hE.2.2.2.mono (by decide) (by decide)⟩
          · rw [← hS0]; exact K289 _ (retN X280 hx (t := .boolean) Bd.returns (by simp) (hb hby at_292) hr)
          · show Q0 Z p0 p1 p2 zc ob1 ob2 ob3 h0 n0 _ T280.heap _
            rw [e280]
            have qr : (0 : Int32) = (w0_r11 p2) := by unfold w0_r11; rw [if_neg hc222_0, if_neg hc236_1, if_neg hc250_2, if_neg hc288_3]
            exact ⟨congrArg (fun z => some (Value.int z)) qr, N280⟩
set_option maxRecDepth 65536 in
set_option maxHeartbeats 40000000 in
theorem comes_1 {Post : Tables → Env → Array Value → State → Outcome → State → Prop} (hpost : ∀ tb e args s v u, (limb_1_1.after args s (.returned v) u = true ∧ limb_1_2.after args s (.returned v) u = true ∧ True) → ReturnedEndW s (.returned v) u (Jvm.fieldLocs frame_1_writes args s ++ Jvm.arrayLocs frame_1_arrays args s ++ Jvm.staticLocs frame_1_statics s) 40 1216 → Post tb e args s (.returned v) u) :
    ArmFor flags0 classFile x code maxLocals ret World_1 tables_1 room_1 Calls_1 rest_1 Pre_1 Post := by
  intro l hfl _ _ p e ha hc hk s m args below hf hA hF happ hP
  obtain ⟨hcalls, hrest, hpre⟩ := hP
  obtain ⟨-, -, -, hnamed, -, -, -, hat⟩ := (Spec.applies_iff hf).mp happ
  obtain ⟨hg, hn⟩ := and_e (Cond.before_iff.mp (show (Jvm.Cond.and given_1 narrow_1).before args s = true from hpre))
  obtain ⟨hcount, hv0⟩ := and_e hg
  obtain ⟨hi0, hv1⟩ := and_e hv0
  obtain ⟨hi1, hv2⟩ := and_e hv1
  have hi2 := hv2
  obtain ⟨w0, w1, w2, rfl⟩ : ∃ w0 w1 w2 : Value, args = #[w0, w1, w2] := by
    have hs : args.size = 3 := by simpa [Cond.value, given_1] using hcount
    obtain ⟨L⟩ := args
    match L, hs with
    | [w0, w1, w2], _ => exact ⟨w0, w1, w2, rfl⟩
  have hw := fun d (hd : d ∈ tables_1) => atoms_spec (ws := Jvm.Cond.code x code maxLocals ret :: tables_1) hat d (List.mem_cons_of_mem _ hd)
  have hfit : Fit s := fun {y c} hc i hi => by
    obtain ⟨ha, rfl⟩ := Array.getElem?_eq_some_iff.mp hc
    have q := List.all_eq_true.mp ((Array.all_eq_true_iff_forall_mem.mp hF) _ (Array.getElem_mem ha)) i (List.mem_range.mpr hi)
    simpa [Array.getElem?_eq_getElem hi] using q
  obtain ⟨i0, ei0⟩ := is_v hi0
  obtain rfl : w0 = (.int i0) := Option.some.inj ei0
  obtain ⟨i1, ei1⟩ := is_v hi1
  obtain rfl : w1 = (.int i1) := Option.some.inj ei1
  obtain ⟨i2, ei2⟩ := is_v hi2
  obtain rfl : w2 = (.int i2) := Option.some.inj ei2
  obtain ⟨hsets, hown0⟩ := atoms_of _ (rest_1_c_eq ▸ (show rest_1_c.before _ s = true from hrest))
  obtain ⟨zc, evc⟩ := is_v (Cond.before_iff.mp (hsets _ (List.mem_of_getElem? (i := 1) rfl)))
  have Sc := Sta.start evc (Or.inl (hsets _ (List.mem_of_getElem? (i := 0) rfl)))
  have hzc : ¬ zc = (0 : Int32) := gotF (Cond.eq_ints evc (Term.int_eval 0)) (not_v (Cond.before_iff.mp (hsets _ (List.mem_of_getElem? (i := 2) rfl))))
  obtain ⟨z1, hz1⟩ := and_e hn
  obtain ⟨z2, z3⟩ := and_e hz1
  obtain ⟨ob1, ev1⟩ := exa_v z1
  have S1 : Sta s s.heap "biaxial/cli/Forms$Kind" "NAME" "Lbiaxial/cli/Forms$Kind;" (.ref ob1) := Sta.start ev1 (Or.inr ⟨(hw _ (List.mem_of_getElem? (i := 89) rfl)), (hw _ (List.mem_of_getElem? (i := 90) rfl))⟩)
  obtain ⟨ob2, ev2⟩ := exa_v z2
  have S2 : Sta s s.heap "biaxial/cli/Forms$Kind" "WORD" "Lbiaxial/cli/Forms$Kind;" (.ref ob2) := Sta.start ev2 (Or.inr ⟨(hw _ (List.mem_of_getElem? (i := 89) rfl)), (hw _ (List.mem_of_getElem? (i := 122) rfl))⟩)
  obtain ⟨ob3, ev3⟩ := exa_v z3
  have S3 : Sta s s.heap "biaxial/cli/Forms$Kind" "FILE" "Lbiaxial/cli/Forms$Kind;" (.ref ob3) := Sta.start ev3 (Or.inr ⟨(hw _ (List.mem_of_getElem? (i := 89) rfl)), (hw _ (List.mem_of_getElem? (i := 127) rfl))⟩)
  have hcs : Jvm.Lit.constHeld s "java/lang/String" 7 := hcalls.1 ("java/lang/String", 7) (List.mem_singleton.mpr rfl)
  obtain ⟨n, o, h1, h2, h3, _, L, rfl, ⟨rfl, N⟩, hq⟩ := rm0 l s _ hw tables_1 i0 i1 i2 zc ob1 ob2 ob3 s.heap s.heap.size (Nat.le_refl _) Sc hzc S1 S2 S3 hcs (hsets _ (List.mem_of_getElem? (i := 2) rfl)) (Old.start s) p e ha hc hk s m _ below hf ((Spec.applies_iff_loose hf).mp happ).1 ⟨rfl, State.Warmed39.refl s, rfl, IB.start⟩ trivial
  refine ⟨n, _, h1, h2, h3, hpost _ _ _ _ _ _ ⟨Cond.after_iff.mpr rfl, Cond.after_iff.mpr (eq_i res_at (Term.int_eval (1)) (congrArg Value.int (plain_law i2))), trivial⟩ ⟨hq.1, hq.2.1, hq.2.2.1, (hq.2.2.2.sift fun y hy => Or.inr (N y hy)).mono (by decide) (by decide)⟩⟩
theorem main_1_1 : Claimed_1_1 := comes_1 fun _ _ _ _ _ _ h hF => ⟨h.1, hF⟩
theorem main_1_2 : Claimed_1_2 := comes_1 fun _ _ _ _ _ _ h hF => ⟨h.2.1, hF⟩
end Jvm.Pilot.@@N@@
namespace Jvm.Pilot.@@N@@
open Jvm Jvm.ClassFile Sem Op Lib Jvm.Free Jvm.Stand Jvm.Pilot.@@N@@.Jvm.D
/-! MADE BY PROGRAM (witnessworld.py) out of the Statement's table words and the real class files: 24 classes; the members and pool entries that the words name. The judged class is class 1, her method 1. -/
namespace start1
open Jvm.ClassFile
def u (s : String) : CpInfo := .utf8 (stringToUtf16 s)
/-- a pool by its gaps: so many unusable entries, then the entry; so many at the end -/
def gap : Nat → List CpInfo → List CpInfo
  | 0, r => r
  | n + 1, r => .unusable :: gap n r
def poolList (es : List (Nat × CpInfo)) (last : Nat) : List CpInfo := es.foldr (fun e r => gap e.1 (e.2 :: r)) (gap last [])
def pool (es : List (Nat × CpInfo)) (last : Nat) : Array CpInfo := ⟨poolList es last⟩
def fileOf (pool : Array CpInfo) (this : Nat) (attrs : Array Attribute := #[]) (ms : Array MethodInfo := #[]) (fl : Nat := 33) (sup : Nat := 0) (ifs : Array Nat := #[]) (fds : Array FieldInfo := #[]) : ClassFile where
  minorVersion := 0
  majorVersion := 65
  constantPool := pool
  accessFlags := fl
  thisClass := this
  superClass := sup
  interfaces := ifs
  fields := fds
  methods := ms
  attributes := attrs
def plain (name : String) (sup : Option ClassId) : Class where
  name := name
  kind := .ordinary
  loader := none
  accessFlags := 33
  super := sup
  interfaces := #[]
  cf := none
  fields := #[]
  methods := #[]
  instanceTypes := #[]
  staticTypes := #[]
  resolved := #[]
  callSites := []
  init := .initialized
  statics := none
  mirror := none

def pool0 : Array CpInfo := pool [(5, u "<init>"), (0, u "()V"), (1, .class_ 10), (1, u "java/lang/Object")] 113

def k0c0 : Code := { maxStack := 0, maxLocals := 1, code := object_method_1_code, exceptionTable := #[], attributes := #[] }
def k0m0 : Method := { name := "<init>", desc := "()V", sig := { parameters := [], returnType := none }, accessFlags := 1, code := some k0c0 }
/-- java/lang/Object -/
def k0 : Class := { plain "java/lang/Object" none with
  accessFlags := 33
  interfaces := #[]
  cf := some (fileOf pool0 8 #[] #[{ accessFlags := 1, nameIndex := 5, descriptorIndex := 6, attributes := #[] }] 33 0 #[] #[])
  fields := #[]
  methods := #[k0m0]
  instanceTypes := #[]
  staticTypes := #[]
  resolved := Array.replicate 124 none
  statics := none }

def pool1 : Array CpInfo := pool [(2, .class_ 4), (1, u "java/lang/Object"), (0, u "<init>"), (0, u "()V"), (0, .class_ 8), (0, u "java/lang/String"), (0, .methodref 7 10), (0, .nameAndType 5 11), (0, u "([C)V"), (0, .methodref 7 13), (0, .nameAndType 14 15), (0, u "valueOf"), (0, u "(C)Ljava/lang/String;"), (0, .class_ 17), (0, u "biaxial/cli/Forms$Operand"), (0, .methodref 16 19), (0, .nameAndType 5 20), (0, u "(Ljava/lang/String;Lbiaxial/cli/Forms$Kind;ZZLjava/lang/String;)V"), (0, .methodref 16 22), (0, .nameAndType 23 24), (0, u "isSwitch"), (0, u "()Z"), (0, .methodref 16 26), (0, .nameAndType 27 28), (0, u "optional"), (0, u "()Lbiaxial/cli/Forms$Operand;"), (0, .methodref 16 30), (0, .nameAndType 31 28), (0, u "repeats"), (0, .methodref 33 34), (0, .class_ 35), (0, .nameAndType 36 37), (0, u "biaxial/cli/Forms"), (0, u "name"), (0, u "(Ljava/lang/String;)Lbiaxial/cli/Forms$Operand;"), (0, .methodref 33 39), (0, .nameAndType 40 37), (0, u "file"), (0, .methodref 33 42), (0, .nameAndType 43 37), (0, u "word"), (0, .methodref 33 45), (0, .nameAndType 46 37), (0, u "flag"), (0, .methodref 33 48), (0, .nameAndType 49 50), (0, u "option"), (0, u "(Ljava/lang/String;Lbiaxial/cli/Forms$Operand;)Lbiaxial/cli/Forms$Operand;"), (0, .class_ 52), (0, u "biaxial/cli/OperandIsSwitchPinLaw"), (2, u "law"), (0, u "(III)Z")] 10

def k1m0 : Method := { name := "<init>", desc := "()V", sig := { parameters := [], returnType := none }, accessFlags := 1, code := none }
def k1c1 : Code := { maxStack := 7, maxLocals := 16, code := code, exceptionTable := #[], attributes := #[] }
def k1m1 : Method := { name := "law", desc := "(III)Z", sig := { parameters := [.int, .int, .int], returnType := some .boolean }, accessFlags := 9, code := some k1c1 }
/-- biaxial/cli/OperandIsSwitchPinLaw -/
def k1 : Class := { plain "biaxial/cli/OperandIsSwitchPinLaw" (some 0) with
  accessFlags := 49
  interfaces := #[]
  cf := some (fileOf pool1 51 #[] #[{ accessFlags := 1, nameIndex := 5, descriptorIndex := 6, attributes := #[] }, { accessFlags := 9, nameIndex := 55, descriptorIndex := 56, attributes := #[] }] 49 2 #[] #[])
  fields := #[]
  methods := #[k1m0, k1m1]
  instanceTypes := #[]
  staticTypes := #[]
  resolved := Array.replicate 67 none
  statics := none }

def pool2 : Array CpInfo := pool [(1, .class_ 2), (0, u "java/io/Serializable"), (0, .class_ 4), (0, u "java/lang/Object")] 2

/-- java/io/Serializable -/
def k2 : Class := { plain "java/io/Serializable" (some 0) with
  accessFlags := 1537
  interfaces := #[]
  cf := some (fileOf pool2 1 #[] #[] 1537 3 #[] #[])
  fields := #[]
  methods := #[]
  instanceTypes := #[]
  staticTypes := #[]
  resolved := Array.replicate 7 none
  statics := none }

def pool3 : Array CpInfo := pool [(1, .class_ 2), (0, u "java/lang/Comparable"), (0, .class_ 4), (0, u "java/lang/Object")] 7

/-- java/lang/Comparable -/
def k3 : Class := { plain "java/lang/Comparable" (some 0) with
  accessFlags := 1537
  interfaces := #[]
  cf := some (fileOf pool3 1 #[] #[] 1537 3 #[] #[])
  fields := #[]
  methods := #[]
  instanceTypes := #[]
  staticTypes := #[]
  resolved := Array.replicate 12 none
  statics := none }

def pool4 : Array CpInfo := pool [(2, .class_ 4), (1, u "java/lang/CharSequence"), (42, .class_ 48), (0, u "java/lang/CharSequence$1CodePointIterator"), (10, .class_ 60), (0, u "java/lang/CharSequence$1CharIterator"), (5, .class_ 67), (0, u "java/lang/Object")] 63

/-- java/lang/CharSequence -/
def k4 : Class := { plain "java/lang/CharSequence" (some 0) with
  accessFlags := 1537
  interfaces := #[]
  cf := some (fileOf pool4 2 #[.nestMembers #[47, 59]] #[] 1537 66 #[] #[])
  fields := #[]
  methods := #[]
  instanceTypes := #[]
  staticTypes := #[]
  resolved := Array.replicate 131 none
  statics := none }

def pool5 : Array CpInfo := pool [(1, .class_ 2), (0, u "java/lang/constant/Constable"), (0, .class_ 4), (0, u "java/lang/Object")] 6

/-- java/lang/constant/Constable -/
def k5 : Class := { plain "java/lang/constant/Constable" (some 0) with
  accessFlags := 1537
  interfaces := #[]
  cf := some (fileOf pool5 1 #[] #[] 1537 3 #[] #[])
  fields := #[]
  methods := #[]
  instanceTypes := #[]
  staticTypes := #[]
  resolved := Array.replicate 11 none
  statics := none }

def pool6 : Array CpInfo := pool [(1, .class_ 2), (0, u "java/lang/constant/ConstantDesc"), (0, .class_ 4), (0, u "java/lang/Object")] 32

/-- java/lang/constant/ConstantDesc -/
def k6 : Class := { plain "java/lang/constant/ConstantDesc" (some 0) with
  accessFlags := 1537
  interfaces := #[]
  cf := some (fileOf pool6 1 #[] #[] 1537 3 #[] #[])
  fields := #[]
  methods := #[]
  instanceTypes := #[]
  staticTypes := #[]
  resolved := Array.replicate 37 none
  statics := none }

def pool7 : Array CpInfo := pool [(1, .methodref 2 3), (0, .class_ 4), (0, .nameAndType 5 6), (0, u "java/lang/Object"), (0, u "<init>"), (0, u "()V"), (0, .string 8), (0, u ""), (0, .fieldref 10 11), (0, .class_ 12), (0, .nameAndType 13 14), (0, u "java/lang/String"), (0, u "value"), (0, u "[B"), (0, .fieldref 10 16), (0, .nameAndType 17 18), (0, u "coder"), (0, u "B"), (2, u "hash"), (0, u "I"), (2, u "hashIsZero"), (0, u "Z"), (0, .methodref 10 28), (0, .nameAndType 5 29), (0, u "([CIILjava/lang/Void;)V"), (8, .fieldref 10 39), (0, .nameAndType 40 26), (0, u "COMPACT_STRINGS"), (1, .class_ 44), (1, u "java/lang/StringUTF16"), (0, u "compress"), (1, .methodref 42 48), (0, .nameAndType 49 50), (0, u "coderFromArrayLen"), (0, u "([BI)B"), (2, u "toBytes"), (53, .class_ 109), (1, u "java/lang/StringLatin1"), (67, .methodref 42 178), (0, .nameAndType 45 179), (0, u "([CII)[B"), (29, .methodref 10 210), (0, .nameAndType 5 211), (0, u "([BB)V"), (157, u "(C)Z"), (205, .class_ 576), (0, u "java/lang/CharSequence"), (22, u "CASE_INSENSITIVE_ORDER"), (0, u "Ljava/util/Comparator;"), (181, u "valueOf"), (0, u "(C)Ljava/lang/String;"), (226, u "([C)V"), (4, .methodref 107 1016), (0, .nameAndType 1017 369), (0, u "canEncode"), (0, .methodref 107 1019), (0, .nameAndType 53 1020), (0, u "(C)[B"), (80, u "serialPersistentFields"), (0, u "[Ljava/io/ObjectStreamField;"), (0, .class_ 1104), (0, u "java/lang/String$CaseInsensitiveComparator"), (1, .class_ 1107), (0, u "java/io/Serializable"), (0, .class_ 1109), (0, u "java/lang/Comparable"), (0, .class_ 1111), (0, u "java/lang/constant/Constable"), (0, .class_ 1113), (0, u "java/lang/constant/ConstantDesc"), (2, u "serialVersionUID"), (0, u "J"), (3, u "REPL"), (0, u "C"), (2, u "LATIN1"), (1, u "UTF16")] 323

def k7m0 : Method := { name := "<init>", desc := "()V", sig := { parameters := [], returnType := none }, accessFlags := 1, code := none }
def k7c1 : Code := { maxStack := 5, maxLocals := 2, code := jdk_42_method_3_code, exceptionTable := #[], attributes := #[] }
def k7m1 : Method := { name := "<init>", desc := "([C)V", sig := { parameters := [(.array .char)], returnType := none }, accessFlags := 1, code := some k7c1 }
def k7c2 : Code := { maxStack := 4, maxLocals := 1, code := jdk_42_method_139_code, exceptionTable := #[], attributes := #[] }
def k7m2 : Method := { name := "valueOf", desc := "(C)Ljava/lang/String;", sig := { parameters := [.char], returnType := some (.object "java/lang/String") }, accessFlags := 9, code := some k7c2 }
def k7c3 : Code := { maxStack := 4, maxLocals := 6, code := jdk_42_method_149_code, exceptionTable := #[], attributes := #[] }
def k7m3 : Method := { name := "<init>", desc := "([CIILjava/lang/Void;)V", sig := { parameters := [(.array .char), .int, .int, (.object "java/lang/Void")], returnType := none }, accessFlags := 2, code := some k7c3 }
def k7c4 : Code := { maxStack := 2, maxLocals := 3, code := jdk_42_method_151_code, exceptionTable := #[], attributes := #[] }
def k7m4 : Method := { name := "<init>", desc := "([BB)V", sig := { parameters := [(.array .byte), .byte], returnType := none }, accessFlags := 0, code := some k7c4 }
/-- java/lang/String -/
def k7 : Class := { plain "java/lang/String" (some 0) with
  accessFlags := 49
  interfaces := #[2, 3, 4, 5, 6]
  cf := some (fileOf pool7 10 #[.nestMembers #[1103]] #[{ accessFlags := 1, nameIndex := 5, descriptorIndex := 6, attributes := #[] }, { accessFlags := 1, nameIndex := 5, descriptorIndex := 1010, attributes := #[] }, { accessFlags := 9, nameIndex := 782, descriptorIndex := 783, attributes := #[] }, { accessFlags := 2, nameIndex := 5, descriptorIndex := 29, attributes := #[] }, { accessFlags := 0, nameIndex := 5, descriptorIndex := 211, attributes := #[] }] 49 2 #[1106, 1108, 575, 1110, 1112] #[{ accessFlags := 18, nameIndex := 13, descriptorIndex := 14, attributes := #[] }, { accessFlags := 18, nameIndex := 17, descriptorIndex := 18, attributes := #[] }, { accessFlags := 2, nameIndex := 21, descriptorIndex := 22, attributes := #[] }, { accessFlags := 2, nameIndex := 25, descriptorIndex := 26, attributes := #[] }, { accessFlags := 26, nameIndex := 1116, descriptorIndex := 1117, attributes := #[] }, { accessFlags := 24, nameIndex := 40, descriptorIndex := 26, attributes := #[] }, { accessFlags := 26, nameIndex := 1101, descriptorIndex := 1102, attributes := #[] }, { accessFlags := 26, nameIndex := 1121, descriptorIndex := 1122, attributes := #[] }, { accessFlags := 25, nameIndex := 599, descriptorIndex := 600, attributes := #[] }, { accessFlags := 24, nameIndex := 1125, descriptorIndex := 18, attributes := #[] }, { accessFlags := 24, nameIndex := 1127, descriptorIndex := 18, attributes := #[] }])
  fields := #[{ name := "value", type := (.array .byte), accessFlags := 18, slot := 0, constantValue := 0 }, { name := "coder", type := .byte, accessFlags := 18, slot := 1, constantValue := 0 }, { name := "hash", type := .int, accessFlags := 2, slot := 2, constantValue := 0 }, { name := "hashIsZero", type := .boolean, accessFlags := 2, slot := 3, constantValue := 0 }, { name := "serialVersionUID", type := .long, accessFlags := 26, slot := 0, constantValue := 0 }, { name := "COMPACT_STRINGS", type := .boolean, accessFlags := 24, slot := 1, constantValue := 0 }, { name := "serialPersistentFields", type := (.array (.object "java/io/ObjectStreamField")), accessFlags := 26, slot := 2, constantValue := 0 }, { name := "REPL", type := .char, accessFlags := 26, slot := 3, constantValue := 0 }, { name := "CASE_INSENSITIVE_ORDER", type := (.object "java/util/Comparator"), accessFlags := 25, slot := 4, constantValue := 0 }, { name := "LATIN1", type := .byte, accessFlags := 24, slot := 5, constantValue := 0 }, { name := "UTF16", type := .byte, accessFlags := 24, slot := 6, constantValue := 0 }]
  methods := #[k7m0, k7m1, k7m2, k7m3, k7m4]
  instanceTypes := #[(.array .byte), .byte, .int, .boolean]
  staticTypes := #[.long, .boolean, (.array (.object "java/io/ObjectStreamField")), .char, (.object "java/util/Comparator"), .byte, .byte]
  resolved := Array.replicate 1451 none
  statics := some 0 }

def pool8 : Array CpInfo := pool [(6, .class_ 8), (1, u "java/lang/Object"), (0, u "<init>"), (0, u "()V"), (1, .class_ 14), (1, u "java/lang/StringUTF16"), (31, u "$assertionsDisabled"), (0, u "Z"), (13, u "HI_BYTE_SHIFT"), (0, u "I"), (2, u "LO_BYTE_SHIFT"), (49, .methodref 12 116), (0, .nameAndType 117 118), (0, u "compress"), (0, u "([CI[BII)I"), (3, u "([CII)[B"), (138, u "coderFromArrayLen"), (0, u "([BI)B"), (106, .class_ 371), (1, u "java/lang/StringUTF16$LinesSpliterator"), (58, u "MAX_LENGTH"), (196, .class_ 628), (0, u "java/lang/StringUTF16$CodePointsSpliterator"), (0, .class_ 630), (0, u "java/lang/StringUTF16$CharsSpliterator")] 4

def k8m0 : Method := { name := "<init>", desc := "()V", sig := { parameters := [], returnType := none }, accessFlags := 0, code := none }
def k8c1 : Code := { maxStack := 2, maxLocals := 2, code := jdk_52_method_15_code, exceptionTable := #[], attributes := #[] }
def k8m1 : Method := { name := "coderFromArrayLen", desc := "([BI)B", sig := { parameters := [(.array .byte), .int], returnType := some .byte }, accessFlags := 8, code := some k8c1 }
def k8c2 : Code := { maxStack := 5, maxLocals := 6, code := jdk_52_method_16_code, exceptionTable := #[], attributes := #[] }
def k8m2 : Method := { name := "compress", desc := "([CII)[B", sig := { parameters := [(.array .char), .int, .int], returnType := some (.array .byte) }, accessFlags := 9, code := some k8c2 }
def k8c3 : Code := { maxStack := 3, maxLocals := 7, code := jdk_52_method_21_code, exceptionTable := #[], attributes := #[] }
def k8m3 : Method := { name := "compress", desc := "([CI[BII)I", sig := { parameters := [(.array .char), .int, (.array .byte), .int, .int], returnType := some .int }, accessFlags := 9, code := some k8c3 }
/-- java/lang/StringUTF16 -/
def k8 : Class := { plain "java/lang/StringUTF16" (some 0) with
  accessFlags := 48
  interfaces := #[]
  cf := some (fileOf pool8 12 #[.nestMembers #[627, 629, 369]] #[{ accessFlags := 0, nameIndex := 9, descriptorIndex := 10, attributes := #[] }, { accessFlags := 8, nameIndex := 261, descriptorIndex := 262, attributes := #[] }, { accessFlags := 9, nameIndex := 117, descriptorIndex := 122, attributes := #[] }, { accessFlags := 9, nameIndex := 117, descriptorIndex := 118, attributes := #[] }] 48 6 #[] #[{ accessFlags := 26, nameIndex := 61, descriptorIndex := 62, attributes := #[] }, { accessFlags := 26, nameIndex := 65, descriptorIndex := 62, attributes := #[] }, { accessFlags := 24, nameIndex := 430, descriptorIndex := 62, attributes := #[] }, { accessFlags := 4120, nameIndex := 46, descriptorIndex := 47, attributes := #[] }])
  fields := #[{ name := "HI_BYTE_SHIFT", type := .int, accessFlags := 26, slot := 0, constantValue := 0 }, { name := "LO_BYTE_SHIFT", type := .int, accessFlags := 26, slot := 1, constantValue := 0 }, { name := "MAX_LENGTH", type := .int, accessFlags := 24, slot := 2, constantValue := 0 }, { name := "$assertionsDisabled", type := .boolean, accessFlags := 4120, slot := 3, constantValue := 0 }]
  methods := #[k8m0, k8m1, k8m2, k8m3]
  instanceTypes := #[]
  staticTypes := #[.int, .int, .int, .boolean]
  resolved := Array.replicate 635 none
  statics := none }

def pool9 : Array CpInfo := pool [(4, .class_ 6), (1, u "java/lang/Object"), (0, u "<init>"), (0, u "()V"), (5, .class_ 16), (1, u "java/lang/StringLatin1"), (73, u "canEncode"), (14, u "(C)Z"), (15, u "$assertionsDisabled"), (0, u "Z"), (98, .class_ 223), (1, u "java/lang/StringLatin1$LinesSpliterator"), (156, u "toBytes"), (1, u "(C)[B"), (7, .class_ 391), (0, u "java/lang/StringLatin1$CharsSpliterator")] 3

def k9m0 : Method := { name := "<init>", desc := "()V", sig := { parameters := [], returnType := none }, accessFlags := 0, code := none }
def k9c1 : Code := { maxStack := 2, maxLocals := 1, code := jdk_43_method_3_code, exceptionTable := #[], attributes := #[] }
def k9m1 : Method := { name := "canEncode", desc := "(C)Z", sig := { parameters := [.char], returnType := some .boolean }, accessFlags := 9, code := some k9c1 }
def k9c2 : Code := { maxStack := 4, maxLocals := 1, code := jdk_43_method_46_code, exceptionTable := #[], attributes := #[] }
def k9m2 : Method := { name := "toBytes", desc := "(C)[B", sig := { parameters := [.char], returnType := some (.array .byte) }, accessFlags := 9, code := some k9c2 }
/-- java/lang/StringLatin1 -/
def k9 : Class := { plain "java/lang/StringLatin1" (some 0) with
  accessFlags := 48
  interfaces := #[]
  cf := some (fileOf pool9 14 #[.nestMembers #[390, 221]] #[{ accessFlags := 0, nameIndex := 7, descriptorIndex := 8, attributes := #[] }, { accessFlags := 9, nameIndex := 90, descriptorIndex := 105, attributes := #[] }, { accessFlags := 9, nameIndex := 380, descriptorIndex := 382, attributes := #[] }] 48 4 #[] #[{ accessFlags := 4120, nameIndex := 121, descriptorIndex := 122, attributes := #[] }])
  fields := #[{ name := "$assertionsDisabled", type := .boolean, accessFlags := 4120, slot := 0, constantValue := 0 }]
  methods := #[k9m0, k9m1, k9m2]
  instanceTypes := #[]
  staticTypes := #[.boolean]
  resolved := Array.replicate 395 none
  statics := none }

def pool10 : Array CpInfo := pool [(1, .methodref 2 3), (0, .class_ 4), (0, .nameAndType 5 6), (0, u "java/lang/Object"), (0, u "<init>"), (0, u "()V"), (0, .class_ 8), (0, u "java/lang/Record")] 13

def k10c0 : Code := { maxStack := 1, maxLocals := 1, code := jdk_30_method_1_code, exceptionTable := #[], attributes := #[] }
def k10m0 : Method := { name := "<init>", desc := "()V", sig := { parameters := [], returnType := none }, accessFlags := 4, code := some k10c0 }
/-- java/lang/Record -/
def k10 : Class := { plain "java/lang/Record" (some 0) with
  accessFlags := 1057
  interfaces := #[]
  cf := some (fileOf pool10 7 #[] #[{ accessFlags := 4, nameIndex := 5, descriptorIndex := 6, attributes := #[] }] 1057 2 #[] #[])
  fields := #[]
  methods := #[k10m0]
  instanceTypes := #[]
  staticTypes := #[]
  resolved := Array.replicate 22 none
  statics := none }

def pool11 : Array CpInfo := pool [(1, .methodref 2 3), (0, .class_ 4), (0, .nameAndType 5 6), (0, u "java/lang/Record"), (0, u "<init>"), (0, u "()V"), (0, .fieldref 8 9), (0, .class_ 10), (0, .nameAndType 11 12), (0, u "biaxial/cli/Forms$Operand"), (0, u "name"), (0, u "Ljava/lang/String;"), (0, .fieldref 8 14), (0, .nameAndType 15 16), (0, u "kind"), (0, u "Lbiaxial/cli/Forms$Kind;"), (0, .fieldref 8 18), (0, .nameAndType 19 20), (0, u "required"), (0, u "Z"), (0, .fieldref 8 22), (0, .nameAndType 23 20), (0, u "repeated"), (0, .fieldref 8 25), (0, .nameAndType 26 12), (0, u "flag"), (0, .methodref 8 28), (0, .nameAndType 5 29), (0, u "(Ljava/lang/String;Lbiaxial/cli/Forms$Kind;ZZLjava/lang/String;)V"), (2, u "isSwitch"), (0, u "()Z"), (32, u "()Ljava/lang/String;"), (20, u "optional"), (0, u "()Lbiaxial/cli/Forms$Operand;"), (0, u "repeats"), (8, u "()Lbiaxial/cli/Forms$Kind;"), (3, .class_ 103), (0, u "biaxial/cli/Forms")] 40

def k11c0 : Code := { maxStack := 2, maxLocals := 6, code := prog_84_method_1_code, exceptionTable := #[], attributes := #[] }
def k11m0 : Method := { name := "<init>", desc := "(Ljava/lang/String;Lbiaxial/cli/Forms$Kind;ZZLjava/lang/String;)V", sig := { parameters := [(.object "java/lang/String"), (.object "biaxial/cli/Forms$Kind"), .boolean, .boolean, (.object "java/lang/String")], returnType := none }, accessFlags := 0, code := some k11c0 }
def k11c1 : Code := { maxStack := 1, maxLocals := 1, code := prog_84_method_2_code, exceptionTable := #[], attributes := #[] }
def k11m1 : Method := { name := "isSwitch", desc := "()Z", sig := { parameters := [], returnType := some .boolean }, accessFlags := 0, code := some k11c1 }
def k11c2 : Code := { maxStack := 7, maxLocals := 1, code := prog_84_method_3_code, exceptionTable := #[], attributes := #[] }
def k11m2 : Method := { name := "optional", desc := "()Lbiaxial/cli/Forms$Operand;", sig := { parameters := [], returnType := some (.object "biaxial/cli/Forms$Operand") }, accessFlags := 0, code := some k11c2 }
def k11c3 : Code := { maxStack := 7, maxLocals := 1, code := prog_84_method_4_code, exceptionTable := #[], attributes := #[] }
def k11m3 : Method := { name := "repeats", desc := "()Lbiaxial/cli/Forms$Operand;", sig := { parameters := [], returnType := some (.object "biaxial/cli/Forms$Operand") }, accessFlags := 0, code := some k11c3 }
def k11c4 : Code := { maxStack := 1, maxLocals := 1, code := prog_84_method_10_code, exceptionTable := #[], attributes := #[] }
def k11m4 : Method := { name := "name", desc := "()Ljava/lang/String;", sig := { parameters := [], returnType := some (.object "java/lang/String") }, accessFlags := 1, code := some k11c4 }
def k11c5 : Code := { maxStack := 1, maxLocals := 1, code := prog_84_method_11_code, exceptionTable := #[], attributes := #[] }
def k11m5 : Method := { name := "kind", desc := "()Lbiaxial/cli/Forms$Kind;", sig := { parameters := [], returnType := some (.object "biaxial/cli/Forms$Kind") }, accessFlags := 1, code := some k11c5 }
def k11c6 : Code := { maxStack := 1, maxLocals := 1, code := prog_84_method_12_code, exceptionTable := #[], attributes := #[] }
def k11m6 : Method := { name := "required", desc := "()Z", sig := { parameters := [], returnType := some .boolean }, accessFlags := 1, code := some k11c6 }
def k11c7 : Code := { maxStack := 1, maxLocals := 1, code := prog_84_method_13_code, exceptionTable := #[], attributes := #[] }
def k11m7 : Method := { name := "repeated", desc := "()Z", sig := { parameters := [], returnType := some .boolean }, accessFlags := 1, code := some k11c7 }
/-- biaxial/cli/Forms$Operand -/
def k11 : Class := { plain "biaxial/cli/Forms$Operand" (some 10) with
  accessFlags := 48
  interfaces := #[]
  cf := some (fileOf pool11 8 #[.nestHost 102] #[{ accessFlags := 0, nameIndex := 5, descriptorIndex := 29, attributes := #[] }, { accessFlags := 0, nameIndex := 32, descriptorIndex := 33, attributes := #[] }, { accessFlags := 0, nameIndex := 87, descriptorIndex := 88, attributes := #[] }, { accessFlags := 0, nameIndex := 89, descriptorIndex := 88, attributes := #[] }, { accessFlags := 1, nameIndex := 11, descriptorIndex := 66, attributes := #[] }, { accessFlags := 1, nameIndex := 15, descriptorIndex := 98, attributes := #[] }, { accessFlags := 1, nameIndex := 19, descriptorIndex := 33, attributes := #[] }, { accessFlags := 1, nameIndex := 23, descriptorIndex := 33, attributes := #[] }] 48 2 #[] #[{ accessFlags := 18, nameIndex := 11, descriptorIndex := 12, attributes := #[] }, { accessFlags := 18, nameIndex := 15, descriptorIndex := 16, attributes := #[] }, { accessFlags := 18, nameIndex := 19, descriptorIndex := 20, attributes := #[] }, { accessFlags := 18, nameIndex := 23, descriptorIndex := 20, attributes := #[] }, { accessFlags := 18, nameIndex := 26, descriptorIndex := 12, attributes := #[] }])
  fields := #[{ name := "name", type := (.object "java/lang/String"), accessFlags := 18, slot := 0, constantValue := 0 }, { name := "kind", type := (.object "biaxial/cli/Forms$Kind"), accessFlags := 18, slot := 1, constantValue := 0 }, { name := "required", type := .boolean, accessFlags := 18, slot := 2, constantValue := 0 }, { name := "repeated", type := .boolean, accessFlags := 18, slot := 3, constantValue := 0 }, { name := "flag", type := (.object "java/lang/String"), accessFlags := 18, slot := 4, constantValue := 0 }]
  methods := #[k11m0, k11m1, k11m2, k11m3, k11m4, k11m5, k11m6, k11m7]
  instanceTypes := #[(.object "java/lang/String"), (.object "biaxial/cli/Forms$Kind"), .boolean, .boolean, (.object "java/lang/String")]
  staticTypes := #[]
  resolved := Array.replicate 144 none
  statics := none }

def pool12 : Array CpInfo := pool [(2, .class_ 4), (1, u "java/lang/Object"), (0, u "<init>"), (8, .class_ 16), (1, u "biaxial/cli/Forms"), (0, u "commands"), (0, u "Ljava/util/List;"), (2, u "usage"), (3, u "Ljava/lang/String;"), (19, .class_ 47), (1, u "biaxial/cli/Forms$Answer"), (16, .class_ 66), (1, u "biaxial/cli/Forms$Command"), (3, .nameAndType 71 72), (0, u "name"), (0, u "()Ljava/lang/String;"), (29, .class_ 103), (0, u "biaxial/cli/Forms$Operand"), (3, u "()Z"), (25, .methodref 102 134), (0, .nameAndType 135 136), (0, u "kind"), (0, u "()Lbiaxial/cli/Forms$Kind;"), (0, .fieldref 138 139), (0, .class_ 140), (0, .nameAndType 141 142), (0, u "biaxial/cli/Forms$Kind"), (0, u "FILE"), (0, u "Lbiaxial/cli/Forms$Kind;"), (0, .class_ 144), (0, u "biaxial/cli/Forms$FileName"), (7, .class_ 153), (0, u "biaxial/cli/Forms$Operands"), (4, .class_ 160), (1, u "biaxial/cli/Forms$Action"), (2, .class_ 164), (0, u "biaxial/cli/Forms$Failure"), (39, .methodref 102 205), (0, .nameAndType 5 206), (0, u "(Ljava/lang/String;Lbiaxial/cli/Forms$Kind;ZZLjava/lang/String;)V"), (0, .fieldref 138 208), (0, .nameAndType 209 142), (0, u "NAME"), (0, .fieldref 138 211), (0, .nameAndType 212 142), (0, u "WORD"), (0, .methodref 102 70), (0, .methodref 102 215), (0, .nameAndType 216 107), (0, u "required"), (0, .methodref 102 218), (0, .nameAndType 219 107), (0, u "repeated"), (8, u "flag"), (72, u "OK"), (0, u "I"), (2, u "DENY"), (1, u "ERROR"), (1, u "COMMAND_LINE"), (10, u "file"), (0, u "(Ljava/lang/String;)Lbiaxial/cli/Forms$Operand;"), (0, u "word"), (0, u "option"), (0, u "(Ljava/lang/String;Lbiaxial/cli/Forms$Operand;)Lbiaxial/cli/Forms$Operand;"), (5, .class_ 331), (0, u "biaxial/cli/Forms$Made")] 26

def k12c0 : Code := { maxStack := 7, maxLocals := 1, code := prog_76_method_5_code, exceptionTable := #[], attributes := #[] }
def k12m0 : Method := { name := "file", desc := "(Ljava/lang/String;)Lbiaxial/cli/Forms$Operand;", sig := { parameters := [(.object "java/lang/String")], returnType := some (.object "biaxial/cli/Forms$Operand") }, accessFlags := 8, code := some k12c0 }
def k12c1 : Code := { maxStack := 7, maxLocals := 1, code := prog_76_method_6_code, exceptionTable := #[], attributes := #[] }
def k12m1 : Method := { name := "name", desc := "(Ljava/lang/String;)Lbiaxial/cli/Forms$Operand;", sig := { parameters := [(.object "java/lang/String")], returnType := some (.object "biaxial/cli/Forms$Operand") }, accessFlags := 8, code := some k12c1 }
def k12c2 : Code := { maxStack := 7, maxLocals := 1, code := prog_76_method_7_code, exceptionTable := #[], attributes := #[] }
def k12m2 : Method := { name := "word", desc := "(Ljava/lang/String;)Lbiaxial/cli/Forms$Operand;", sig := { parameters := [(.object "java/lang/String")], returnType := some (.object "biaxial/cli/Forms$Operand") }, accessFlags := 8, code := some k12c2 }
def k12c3 : Code := { maxStack := 7, maxLocals := 1, code := prog_76_method_8_code, exceptionTable := #[], attributes := #[] }
def k12m3 : Method := { name := "flag", desc := "(Ljava/lang/String;)Lbiaxial/cli/Forms$Operand;", sig := { parameters := [(.object "java/lang/String")], returnType := some (.object "biaxial/cli/Forms$Operand") }, accessFlags := 8, code := some k12c3 }
def k12c4 : Code := { maxStack := 7, maxLocals := 2, code := prog_76_method_9_code, exceptionTable := #[], attributes := #[] }
def k12m4 : Method := { name := "option", desc := "(Ljava/lang/String;Lbiaxial/cli/Forms$Operand;)Lbiaxial/cli/Forms$Operand;", sig := { parameters := [(.object "java/lang/String"), (.object "biaxial/cli/Forms$Operand")], returnType := some (.object "biaxial/cli/Forms$Operand") }, accessFlags := 8, code := some k12c4 }
/-- biaxial/cli/Forms -/
def k12 : Class := { plain "biaxial/cli/Forms" (some 0) with
  accessFlags := 48
  interfaces := #[]
  cf := some (fileOf pool12 14 #[.nestMembers #[163, 102, 138, 64, 330, 45, 143, 152, 158]] #[{ accessFlags := 8, nameIndex := 320, descriptorIndex := 321, attributes := #[] }, { accessFlags := 8, nameIndex := 71, descriptorIndex := 321, attributes := #[] }, { accessFlags := 8, nameIndex := 322, descriptorIndex := 321, attributes := #[] }, { accessFlags := 8, nameIndex := 228, descriptorIndex := 321, attributes := #[] }, { accessFlags := 8, nameIndex := 323, descriptorIndex := 324, attributes := #[] }] 48 2 #[] #[{ accessFlags := 24, nameIndex := 301, descriptorIndex := 302, attributes := #[] }, { accessFlags := 24, nameIndex := 305, descriptorIndex := 302, attributes := #[] }, { accessFlags := 24, nameIndex := 307, descriptorIndex := 302, attributes := #[] }, { accessFlags := 26, nameIndex := 309, descriptorIndex := 25, attributes := #[] }, { accessFlags := 18, nameIndex := 17, descriptorIndex := 18, attributes := #[] }, { accessFlags := 18, nameIndex := 21, descriptorIndex := 25, attributes := #[] }])
  fields := #[{ name := "OK", type := .int, accessFlags := 24, slot := 0, constantValue := 0 }, { name := "DENY", type := .int, accessFlags := 24, slot := 1, constantValue := 0 }, { name := "ERROR", type := .int, accessFlags := 24, slot := 2, constantValue := 0 }, { name := "COMMAND_LINE", type := (.object "java/lang/String"), accessFlags := 26, slot := 3, constantValue := 0 }, { name := "commands", type := (.object "java/util/List"), accessFlags := 18, slot := 0, constantValue := 0 }, { name := "usage", type := (.object "java/lang/String"), accessFlags := 18, slot := 1, constantValue := 0 }]
  methods := #[k12m0, k12m1, k12m2, k12m3, k12m4]
  instanceTypes := #[(.object "java/util/List"), (.object "java/lang/String")]
  staticTypes := #[.int, .int, .int, (.object "java/lang/String")]
  resolved := Array.replicate 358 none
  statics := none }

def pool13 : Array CpInfo := pool [(2, .class_ 4), (1, u "java/lang/Enum"), (0, u "name"), (0, u "Ljava/lang/String;"), (2, u "ordinal"), (0, u "I"), (1, .class_ 14), (1, u "java/lang/Object"), (4, u "hash"), (86, .class_ 108), (1, u "java/lang/Enum$EnumDesc"), (2, .class_ 112), (0, u "java/lang/constant/Constable"), (0, .class_ 114), (0, u "java/lang/Comparable"), (0, .class_ 116), (0, u "java/io/Serializable")] 87

/-- java/lang/Enum -/
def k13 : Class := { plain "java/lang/Enum" (some 0) with
  accessFlags := 1057
  interfaces := #[5, 3, 2]
  cf := some (fileOf pool13 2 #[.nestMembers #[106]] #[] 1057 12 #[111, 113, 115] #[{ accessFlags := 18, nameIndex := 5, descriptorIndex := 6, attributes := #[] }, { accessFlags := 18, nameIndex := 9, descriptorIndex := 10, attributes := #[] }, { accessFlags := 2, nameIndex := 19, descriptorIndex := 10, attributes := #[] }])
  fields := #[{ name := "name", type := (.object "java/lang/String"), accessFlags := 18, slot := 0, constantValue := 0 }, { name := "ordinal", type := .int, accessFlags := 18, slot := 1, constantValue := 0 }, { name := "hash", type := .int, accessFlags := 2, slot := 2, constantValue := 0 }]
  methods := #[]
  instanceTypes := #[(.object "java/lang/String"), .int, .int]
  staticTypes := #[]
  resolved := Array.replicate 204 none
  statics := none }

def pool14 : Array CpInfo := pool [(1, .class_ 2), (0, u "biaxial/cli/Forms$Kind"), (2, u "NAME"), (0, u "Lbiaxial/cli/Forms$Kind;"), (2, u "FILE"), (2, u "WORD"), (2, u "$VALUES"), (0, u "[Lbiaxial/cli/Forms$Kind;"), (6, .class_ 25), (1, u "java/lang/Enum"), (26, .class_ 53), (0, u "biaxial/cli/Forms")] 2

/-- biaxial/cli/Forms$Kind -/
def k14 : Class := { plain "biaxial/cli/Forms$Kind" (some 13) with
  accessFlags := 16432
  interfaces := #[]
  cf := some (fileOf pool14 1 #[.nestHost 52] #[] 16432 23 #[] #[{ accessFlags := 16409, nameIndex := 5, descriptorIndex := 6, attributes := #[] }, { accessFlags := 16409, nameIndex := 9, descriptorIndex := 6, attributes := #[] }, { accessFlags := 16409, nameIndex := 12, descriptorIndex := 6, attributes := #[] }, { accessFlags := 4122, nameIndex := 15, descriptorIndex := 16, attributes := #[] }])
  fields := #[{ name := "NAME", type := (.object "biaxial/cli/Forms$Kind"), accessFlags := 16409, slot := 0, constantValue := 0 }, { name := "FILE", type := (.object "biaxial/cli/Forms$Kind"), accessFlags := 16409, slot := 1, constantValue := 0 }, { name := "WORD", type := (.object "biaxial/cli/Forms$Kind"), accessFlags := 16409, slot := 2, constantValue := 0 }, { name := "$VALUES", type := (.array (.object "biaxial/cli/Forms$Kind")), accessFlags := 4122, slot := 3, constantValue := 0 }]
  methods := #[]
  instanceTypes := #[(.object "java/lang/String"), .int, .int]
  staticTypes := #[(.object "biaxial/cli/Forms$Kind"), (.object "biaxial/cli/Forms$Kind"), (.object "biaxial/cli/Forms$Kind"), (.array (.object "biaxial/cli/Forms$Kind"))]
  resolved := Array.replicate 56 none
  statics := some 1 }

def pool15 : Array CpInfo := pool [(2, .class_ 4), (1, u "java/lang/Object"), (0, u "<init>"), (0, u "()V"), (17, .class_ 26), (1, u "jdk/internal/util/Preconditions"), (28, .class_ 56), (0, u "jdk/internal/util/Preconditions$4"), (57, .class_ 115), (0, u "jdk/internal/util/Preconditions$1"), (7, u "SIOOBE_FORMATTER"), (0, u "Ljava/util/function/BiFunction;"), (0, .class_ 126), (0, u "jdk/internal/util/Preconditions$2"), (3, u "AIOOBE_FORMATTER"), (0, .class_ 132), (0, u "jdk/internal/util/Preconditions$3"), (3, u "IOOBE_FORMATTER")] 57

def k15m0 : Method := { name := "<init>", desc := "()V", sig := { parameters := [], returnType := none }, accessFlags := 1, code := none }
/-- jdk/internal/util/Preconditions -/
def k15 : Class := { plain "jdk/internal/util/Preconditions" (some 0) with
  accessFlags := 33
  interfaces := #[]
  cf := some (fileOf pool15 24 #[.nestMembers #[55, 131, 125, 114]] #[{ accessFlags := 1, nameIndex := 5, descriptorIndex := 6, attributes := #[] }] 33 2 #[] #[{ accessFlags := 25, nameIndex := 123, descriptorIndex := 124, attributes := #[] }, { accessFlags := 25, nameIndex := 130, descriptorIndex := 124, attributes := #[] }, { accessFlags := 25, nameIndex := 136, descriptorIndex := 124, attributes := #[] }])
  fields := #[{ name := "SIOOBE_FORMATTER", type := (.object "java/util/function/BiFunction"), accessFlags := 25, slot := 0, constantValue := 0 }, { name := "AIOOBE_FORMATTER", type := (.object "java/util/function/BiFunction"), accessFlags := 25, slot := 1, constantValue := 0 }, { name := "IOOBE_FORMATTER", type := (.object "java/util/function/BiFunction"), accessFlags := 25, slot := 2, constantValue := 0 }]
  methods := #[k15m0]
  instanceTypes := #[]
  staticTypes := #[(.object "java/util/function/BiFunction"), (.object "java/util/function/BiFunction"), (.object "java/util/function/BiFunction")]
  resolved := Array.replicate 194 none
  statics := some 2 }

def pool16 : Array CpInfo := pool [(9, u "<init>"), (6, .class_ 18), (1, u "java/lang/Object"), (0, u "()V"), (1, .class_ 23), (1, u "jdk/internal/util/ArraysSupport"), (0, u "LOG2_ARRAY_LONG_INDEX_SCALE"), (0, u "I"), (2, u "U"), (0, u "Ljdk/internal/misc/Unsafe;"), (8, u "BIG_ENDIAN"), (0, u "Z"), (8, u "LOG2_BYTE_BIT_SIZE"), (4, u "LOG2_ARRAY_INT_INDEX_SCALE"), (54, u "JLA"), (0, u "Ljdk/internal/access/JavaLangAccess;"), (11, u "LOG2_ARRAY_BOOLEAN_INDEX_SCALE"), (9, u "LOG2_ARRAY_BYTE_INDEX_SCALE"), (5, u "LOG2_ARRAY_CHAR_INDEX_SCALE"), (5, u "LOG2_ARRAY_SHORT_INDEX_SCALE"), (18, u "LOG2_ARRAY_FLOAT_INDEX_SCALE"), (24, u "LOG2_ARRAY_DOUBLE_INDEX_SCALE"), (89, u "T_BOOLEAN"), (2, u "T_CHAR"), (1, u "T_FLOAT"), (1, u "T_DOUBLE"), (1, u "T_BYTE"), (1, u "T_SHORT"), (1, u "T_INT"), (1, u "T_LONG"), (1, u "SOFT_MAX_ARRAY_LENGTH")] 83

def k16m0 : Method := { name := "<init>", desc := "()V", sig := { parameters := [], returnType := none }, accessFlags := 2, code := none }
/-- jdk/internal/util/ArraysSupport -/
def k16 : Class := { plain "jdk/internal/util/ArraysSupport" (some 0) with
  accessFlags := 33
  interfaces := #[]
  cf := some (fileOf pool16 21 #[] #[{ accessFlags := 2, nameIndex := 9, descriptorIndex := 19, attributes := #[] }] 33 16 #[] #[{ accessFlags := 24, nameIndex := 28, descriptorIndex := 29, attributes := #[] }, { accessFlags := 26, nameIndex := 38, descriptorIndex := 39, attributes := #[] }, { accessFlags := 25, nameIndex := 121, descriptorIndex := 25, attributes := #[] }, { accessFlags := 25, nameIndex := 131, descriptorIndex := 25, attributes := #[] }, { accessFlags := 25, nameIndex := 137, descriptorIndex := 25, attributes := #[] }, { accessFlags := 25, nameIndex := 143, descriptorIndex := 25, attributes := #[] }, { accessFlags := 25, nameIndex := 53, descriptorIndex := 25, attributes := #[] }, { accessFlags := 25, nameIndex := 24, descriptorIndex := 25, attributes := #[] }, { accessFlags := 25, nameIndex := 162, descriptorIndex := 25, attributes := #[] }, { accessFlags := 25, nameIndex := 187, descriptorIndex := 25, attributes := #[] }, { accessFlags := 26, nameIndex := 48, descriptorIndex := 25, attributes := #[] }, { accessFlags := 25, nameIndex := 277, descriptorIndex := 25, attributes := #[] }, { accessFlags := 25, nameIndex := 280, descriptorIndex := 25, attributes := #[] }, { accessFlags := 25, nameIndex := 282, descriptorIndex := 25, attributes := #[] }, { accessFlags := 25, nameIndex := 284, descriptorIndex := 25, attributes := #[] }, { accessFlags := 25, nameIndex := 286, descriptorIndex := 25, attributes := #[] }, { accessFlags := 25, nameIndex := 288, descriptorIndex := 25, attributes := #[] }, { accessFlags := 25, nameIndex := 290, descriptorIndex := 25, attributes := #[] }, { accessFlags := 25, nameIndex := 292, descriptorIndex := 25, attributes := #[] }, { accessFlags := 26, nameIndex := 108, descriptorIndex := 109, attributes := #[] }, { accessFlags := 25, nameIndex := 294, descriptorIndex := 25, attributes := #[] }])
  fields := #[{ name := "U", type := (.object "jdk/internal/misc/Unsafe"), accessFlags := 24, slot := 0, constantValue := 0 }, { name := "BIG_ENDIAN", type := .boolean, accessFlags := 26, slot := 1, constantValue := 0 }, { name := "LOG2_ARRAY_BOOLEAN_INDEX_SCALE", type := .int, accessFlags := 25, slot := 2, constantValue := 0 }, { name := "LOG2_ARRAY_BYTE_INDEX_SCALE", type := .int, accessFlags := 25, slot := 3, constantValue := 0 }, { name := "LOG2_ARRAY_CHAR_INDEX_SCALE", type := .int, accessFlags := 25, slot := 4, constantValue := 0 }, { name := "LOG2_ARRAY_SHORT_INDEX_SCALE", type := .int, accessFlags := 25, slot := 5, constantValue := 0 }, { name := "LOG2_ARRAY_INT_INDEX_SCALE", type := .int, accessFlags := 25, slot := 6, constantValue := 0 }, { name := "LOG2_ARRAY_LONG_INDEX_SCALE", type := .int, accessFlags := 25, slot := 7, constantValue := 0 }, { name := "LOG2_ARRAY_FLOAT_INDEX_SCALE", type := .int, accessFlags := 25, slot := 8, constantValue := 0 }, { name := "LOG2_ARRAY_DOUBLE_INDEX_SCALE", type := .int, accessFlags := 25, slot := 9, constantValue := 0 }, { name := "LOG2_BYTE_BIT_SIZE", type := .int, accessFlags := 26, slot := 10, constantValue := 0 }, { name := "T_BOOLEAN", type := .int, accessFlags := 25, slot := 11, constantValue := 0 }, { name := "T_CHAR", type := .int, accessFlags := 25, slot := 12, constantValue := 0 }, { name := "T_FLOAT", type := .int, accessFlags := 25, slot := 13, constantValue := 0 }, { name := "T_DOUBLE", type := .int, accessFlags := 25, slot := 14, constantValue := 0 }, { name := "T_BYTE", type := .int, accessFlags := 25, slot := 15, constantValue := 0 }, { name := "T_SHORT", type := .int, accessFlags := 25, slot := 16, constantValue := 0 }, { name := "T_INT", type := .int, accessFlags := 25, slot := 17, constantValue := 0 }, { name := "T_LONG", type := .int, accessFlags := 25, slot := 18, constantValue := 0 }, { name := "JLA", type := (.object "jdk/internal/access/JavaLangAccess"), accessFlags := 26, slot := 19, constantValue := 0 }, { name := "SOFT_MAX_ARRAY_LENGTH", type := .int, accessFlags := 25, slot := 20, constantValue := 0 }]
  methods := #[k16m0]
  instanceTypes := #[]
  staticTypes := #[(.object "jdk/internal/misc/Unsafe"), .boolean, .int, .int, .int, .int, .int, .int, .int, .int, .int, .int, .int, .int, .int, .int, .int, .int, .int, (.object "jdk/internal/access/JavaLangAccess"), .int]
  resolved := Array.replicate 378 none
  statics := none }

def pool17 : Array CpInfo := pool [(1, u "java/lang/Cloneable"), (0, .class_ 1), (0, u "java/lang/Object"), (0, .class_ 3)] 3

/-- java/lang/Cloneable -/
def k17 : Class := { plain "java/lang/Cloneable" (some 0) with
  accessFlags := 1537
  interfaces := #[]
  cf := some (fileOf pool17 2 #[] #[] 1537 4 #[] #[])
  fields := #[]
  methods := #[]
  instanceTypes := #[]
  staticTypes := #[]
  resolved := Array.replicate 8 none
  statics := none }

/-- the primitive byte -/
def k18 : Class := { plain "byte" none with kind := .primitive 'B', accessFlags := 0x411 }
/-- [B -/
def k19 : Class := { plain "[B" (some 0) with kind := .array 18 .byte, interfaces := #[17, 2], accessFlags := 1041 }

/-- the primitive char -/
def k20 : Class := { plain "char" none with kind := .primitive 'C', accessFlags := 0x411 }
/-- [C -/
def k21 : Class := { plain "[C" (some 0) with kind := .array 20 .char, interfaces := #[17, 2], accessFlags := 1041 }

/-- the primitive int -/
def k22 : Class := { plain "int" none with kind := .primitive 'I', accessFlags := 0x411 }
/-- [I -/
def k23 : Class := { plain "[I" (some 0) with kind := .array 22 .int, interfaces := #[17, 2], accessFlags := 1041 }

def heap : Heap := #[{ cls := 7, slots := #[.long 0, .int 1, .null, .int 0, .null, .int 0, .int 0], vm := .statics 7 },
  { cls := 14, slots := #[.ref 3, .ref 4, .ref 5, .null], vm := .statics 14 },
  { cls := 15, slots := #[.null, .null, .null], vm := .statics 15 },
  { cls := 14, slots := #[.null, .int 0, .int 0], vm := .none },
  { cls := 14, slots := #[.null, .int 1, .int 0], vm := .none },
  { cls := 14, slots := #[.null, .int 2, .int 0], vm := .none }]
def classes : Array Class := #[k0, k1, k2, k3, k4, k5, k6, k7, k8, k9, k10, k11, k12, k13, k14, k15, k16, k17, k18, k19, k20, k21, k22, k23]
def interned : List (Array UInt16 × Addr) := []
def slotsUsed : Nat := 23
def theMethod : MethodId := ⟨1, 1⟩
def args0 : Array Value := #[.int 5, .int 5, .int 5]
def aboutOver (below : List Frame) : State where
  vm := { classes := classes, interned := interned.toArray }
  heap := heap
  slotsUsed := slotsUsed
  threads := #[{ frames := .invoking theMethod args0 :: below }]
def below0 : List Frame := [.native { method := ⟨0, 0⟩, args := #[] }]
def about1 : State := aboutOver below0
def p0 : Program := .bare "" "" ""
def e0 : Env := launch0.env 0 0 0
theorem w_frames : about1.frames = Frame.invoking theMethod args0 :: below0 := rfl
set_option maxRecDepth 65536 in
theorem w_args : argsFit about1.vm theMethod args0 = true := by decide +kernel
set_option maxRecDepth 65536 in
theorem w_heap : heapFits about1 = true := by decide +kernel
set_option maxRecDepth 65536 in
theorem w_runnable : about1.curStatus? = some .runnable := by decide +kernel
set_option maxRecDepth 65536 in
theorem w_alone : about1.alone = true := by decide +kernel
set_option maxRecDepth 65536 in
theorem w_named : about1.methodNamed? x = some theMethod := by decide +kernel
set_option maxRecDepth 65536 in
theorem w_hears : about1.hears theMethod below0 = true := by decide +kernel
set_option maxRecDepth 65536 in
theorem w_ripe : about1.ripe theMethod args0 below0 = true := by decide +kernel
theorem w_running : about1.status = .running := rfl
set_option maxRecDepth 65536 in
theorem w_room : about1.hasRoom e0.platform room_1 = true :=
  launch0.hasRoom_least _ room_1 (by decide +kernel) (by decide +kernel) (by decide +kernel) (by decide +kernel) (by decide +kernel) (by decide +kernel)
theorem allAtoms_all (ts : List Jvm.Cond) (a : Array Jvm.Value) (st : Jvm.State) : (allAtoms ts).before a st = ts.all (fun c => c.before a st) := by
  induction ts with
  | nil => rfl
  | cons c t ih =>
    show (Jvm.Cond.and c (allAtoms t)).before a st = _
    rw [Jvm.Cond.before_and, ih, List.all_cons]
def words1 : List Jvm.Cond := Jvm.Cond.code x code maxLocals ret :: tables_1
/-- a 'code' word, met by the world's own term for the bytes: nothing is compared byte by byte -/
theorem code_word {y : MethodName} {bytes : ByteArray} {mx : Nat} {rt : Option FieldType} {a : Array Value} {s : State} {m : MethodId} {meth : Method} {c : Code} (h1 : s.methodNamed? y = some m) (h2 : s.vm.method? m = some meth) (h3 : meth.code = some c) (h4 : c.code = bytes)
    (h5 : (c.maxLocals == mx && c.exceptionTable.isEmpty && decide (c.maxStack ≤ mostOperands) && decide (meth.sig.returnType = rt) && !meth.locks && decide (parseMethodDescriptor y.desc = some meth.sig)) = true) : (Jvm.Cond.code y bytes mx rt).before a s = true := by
  simp only [Bool.and_eq_true, beq_iff_eq, Bool.not_eq_true', decide_eq_true_eq] at h5
  obtain ⟨⟨⟨⟨⟨g1, g2⟩, g3⟩, g4⟩, g5⟩, g6⟩ := h5
  simp [Cond.before, Cond.holds, Cond.value, h1, h2, h3, h4, g1, g2, g3, g4, g5, g6]
def isCode : Jvm.Cond → Bool
  | .code _ _ _ _ => true
  | _ => false
theorem all_split {L : List Jvm.Cond} {P : Jvm.Cond → Bool} (h1 : L.all (fun c => isCode c || P c) = true) (h2 : ∀ c ∈ L.filter isCode, P c = true) : L.all P = true := by
  refine List.all_eq_true.mpr fun c hc => ?_
  have h := List.all_eq_true.mp h1 c hc
  rcases Bool.eq_false_or_eq_true (isCode c) with hi | hi
  · exact h2 c (List.mem_filter.mpr ⟨hc, hi⟩)
  · simpa [hi] using h
set_option maxRecDepth 65536 in
theorem w_c0 : (Jvm.Cond.code x code maxLocals ret).before args0 about1 = true := code_word (m := ⟨1, 1⟩) (meth := k1m1) (c := k1c1) (by decide +kernel) rfl rfl rfl (by decide +kernel)
set_option maxRecDepth 65536 in
theorem w_c1 : (Jvm.Cond.code ({ cls := "java/lang/String", name := "<init>", desc := "([C)V" } : Jvm.MethodName) jdk_42_method_3_code (2 : Nat) (Option.none : Option Jvm.ClassFile.FieldType)).before args0 about1 = true := code_word (m := ⟨7, 1⟩) (meth := k7m1) (c := k7c1) (by decide +kernel) rfl rfl rfl (by decide +kernel)
set_option maxRecDepth 65536 in
theorem w_c2 : (Jvm.Cond.code ({ cls := "java/lang/String", name := "<init>", desc := "([CIILjava/lang/Void;)V" } : Jvm.MethodName) jdk_42_method_149_code (6 : Nat) (Option.none : Option Jvm.ClassFile.FieldType)).before args0 about1 = true := code_word (m := ⟨7, 3⟩) (meth := k7m3) (c := k7c3) (by decide +kernel) rfl rfl rfl (by decide +kernel)
set_option maxRecDepth 65536 in
theorem w_c3 : (Jvm.Cond.code ({ cls := "java/lang/Object", name := "<init>", desc := "()V" } : Jvm.MethodName) object_method_1_code (1 : Nat) (Option.none : Option Jvm.ClassFile.FieldType)).before args0 about1 = true := code_word (m := ⟨0, 0⟩) (meth := k0m0) (c := k0c0) (by decide +kernel) rfl rfl rfl (by decide +kernel)
set_option maxRecDepth 65536 in
theorem w_c4 : (Jvm.Cond.code ({ cls := "java/lang/StringUTF16", name := "compress", desc := "([CII)[B" } : Jvm.MethodName) jdk_52_method_16_code (6 : Nat) (Option.some (Jvm.ClassFile.FieldType.array Jvm.ClassFile.FieldType.byte))).before args0 about1 = true := code_word (m := ⟨8, 2⟩) (meth := k8m2) (c := k8c2) (by decide +kernel) rfl rfl rfl (by decide +kernel)
set_option maxRecDepth 65536 in
theorem w_c5 : (Jvm.Cond.code ({ cls := "java/lang/StringUTF16", name := "compress", desc := "([CI[BII)I" } : Jvm.MethodName) jdk_52_method_21_code (7 : Nat) (Option.some Jvm.ClassFile.FieldType.int)).before args0 about1 = true := code_word (m := ⟨8, 3⟩) (meth := k8m3) (c := k8c3) (by decide +kernel) rfl rfl rfl (by decide +kernel)
set_option maxRecDepth 65536 in
theorem w_c6 : (Jvm.Cond.code ({ cls := "java/lang/StringUTF16", name := "coderFromArrayLen", desc := "([BI)B" } : Jvm.MethodName) jdk_52_method_15_code (2 : Nat) (Option.some Jvm.ClassFile.FieldType.byte)).before args0 about1 = true := code_word (m := ⟨8, 1⟩) (meth := k8m1) (c := k8c1) (by decide +kernel) rfl rfl rfl (by decide +kernel)
set_option maxRecDepth 65536 in
theorem w_c7 : (Jvm.Cond.code ({ cls := "java/lang/String", name := "valueOf", desc := "(C)Ljava/lang/String;" } : Jvm.MethodName) jdk_42_method_139_code (1 : Nat) (Option.some (Jvm.ClassFile.FieldType.object "java/lang/String"))).before args0 about1 = true := code_word (m := ⟨7, 2⟩) (meth := k7m2) (c := k7c2) (by decide +kernel) rfl rfl rfl (by decide +kernel)
set_option maxRecDepth 65536 in
theorem w_c8 : (Jvm.Cond.code ({ cls := "java/lang/StringLatin1", name := "canEncode", desc := "(C)Z" } : Jvm.MethodName) jdk_43_method_3_code (1 : Nat) (Option.some Jvm.ClassFile.FieldType.boolean)).before args0 about1 = true := code_word (m := ⟨9, 1⟩) (meth := k9m1) (c := k9c1) (by decide +kernel) rfl rfl rfl (by decide +kernel)
set_option maxRecDepth 65536 in
theorem w_c9 : (Jvm.Cond.code ({ cls := "java/lang/StringLatin1", name := "toBytes", desc := "(C)[B" } : Jvm.MethodName) jdk_43_method_46_code (1 : Nat) (Option.some (Jvm.ClassFile.FieldType.array Jvm.ClassFile.FieldType.byte))).before args0 about1 = true := code_word (m := ⟨9, 2⟩) (meth := k9m2) (c := k9c2) (by decide +kernel) rfl rfl rfl (by decide +kernel)
set_option maxRecDepth 65536 in
theorem w_c10 : (Jvm.Cond.code ({ cls := "java/lang/String", name := "<init>", desc := "([BB)V" } : Jvm.MethodName) jdk_42_method_151_code (3 : Nat) (Option.none : Option Jvm.ClassFile.FieldType)).before args0 about1 = true := code_word (m := ⟨7, 4⟩) (meth := k7m4) (c := k7c4) (by decide +kernel) rfl rfl rfl (by decide +kernel)
set_option maxRecDepth 65536 in
theorem w_c11 : (Jvm.Cond.code ({ cls := "biaxial/cli/Forms$Operand", name := "<init>", desc := "(Ljava/lang/String;Lbiaxial/cli/Forms$Kind;ZZLjava/lang/String;)V" } : Jvm.MethodName) prog_84_method_1_code (6 : Nat) (Option.none : Option Jvm.ClassFile.FieldType)).before args0 about1 = true := code_word (m := ⟨11, 0⟩) (meth := k11m0) (c := k11c0) (by decide +kernel) rfl rfl rfl (by decide +kernel)
set_option maxRecDepth 65536 in
theorem w_c12 : (Jvm.Cond.code ({ cls := "java/lang/Record", name := "<init>", desc := "()V" } : Jvm.MethodName) jdk_30_method_1_code (1 : Nat) (Option.none : Option Jvm.ClassFile.FieldType)).before args0 about1 = true := code_word (m := ⟨10, 0⟩) (meth := k10m0) (c := k10c0) (by decide +kernel) rfl rfl rfl (by decide +kernel)
set_option maxRecDepth 65536 in
theorem w_c13 : (Jvm.Cond.code ({ cls := "biaxial/cli/Forms$Operand", name := "isSwitch", desc := "()Z" } : Jvm.MethodName) prog_84_method_2_code (1 : Nat) (Option.some Jvm.ClassFile.FieldType.boolean)).before args0 about1 = true := code_word (m := ⟨11, 1⟩) (meth := k11m1) (c := k11c1) (by decide +kernel) rfl rfl rfl (by decide +kernel)
set_option maxRecDepth 65536 in
theorem w_c14 : (Jvm.Cond.code ({ cls := "biaxial/cli/Forms$Operand", name := "optional", desc := "()Lbiaxial/cli/Forms$Operand;" } : Jvm.MethodName) prog_84_method_3_code (1 : Nat) (Option.some (Jvm.ClassFile.FieldType.object "biaxial/cli/Forms$Operand"))).before args0 about1 = true := code_word (m := ⟨11, 2⟩) (meth := k11m2) (c := k11c2) (by decide +kernel) rfl rfl rfl (by decide +kernel)
set_option maxRecDepth 65536 in
theorem w_c15 : (Jvm.Cond.code ({ cls := "biaxial/cli/Forms$Operand", name := "repeats", desc := "()Lbiaxial/cli/Forms$Operand;" } : Jvm.MethodName) prog_84_method_4_code (1 : Nat) (Option.some (Jvm.ClassFile.FieldType.object "biaxial/cli/Forms$Operand"))).before args0 about1 = true := code_word (m := ⟨11, 3⟩) (meth := k11m3) (c := k11c3) (by decide +kernel) rfl rfl rfl (by decide +kernel)
set_option maxRecDepth 65536 in
theorem w_c16 : (Jvm.Cond.code ({ cls := "biaxial/cli/Forms", name := "name", desc := "(Ljava/lang/String;)Lbiaxial/cli/Forms$Operand;" } : Jvm.MethodName) prog_76_method_6_code (1 : Nat) (Option.some (Jvm.ClassFile.FieldType.object "biaxial/cli/Forms$Operand"))).before args0 about1 = true := code_word (m := ⟨12, 1⟩) (meth := k12m1) (c := k12c1) (by decide +kernel) rfl rfl rfl (by decide +kernel)
set_option maxRecDepth 65536 in
theorem w_c17 : (Jvm.Cond.code ({ cls := "biaxial/cli/Forms", name := "option", desc := "(Ljava/lang/String;Lbiaxial/cli/Forms$Operand;)Lbiaxial/cli/Forms$Operand;" } : Jvm.MethodName) prog_76_method_9_code (2 : Nat) (Option.some (Jvm.ClassFile.FieldType.object "biaxial/cli/Forms$Operand"))).before args0 about1 = true := code_word (m := ⟨12, 4⟩) (meth := k12m4) (c := k12c4) (by decide +kernel) rfl rfl rfl (by decide +kernel)
set_option maxRecDepth 65536 in
theorem w_c18 : (Jvm.Cond.code ({ cls := "biaxial/cli/Forms$Operand", name := "name", desc := "()Ljava/lang/String;" } : Jvm.MethodName) prog_84_method_10_code (1 : Nat) (Option.some (Jvm.ClassFile.FieldType.object "java/lang/String"))).before args0 about1 = true := code_word (m := ⟨11, 4⟩) (meth := k11m4) (c := k11c4) (by decide +kernel) rfl rfl rfl (by decide +kernel)
set_option maxRecDepth 65536 in
theorem w_c19 : (Jvm.Cond.code ({ cls := "biaxial/cli/Forms$Operand", name := "kind", desc := "()Lbiaxial/cli/Forms$Kind;" } : Jvm.MethodName) prog_84_method_11_code (1 : Nat) (Option.some (Jvm.ClassFile.FieldType.object "biaxial/cli/Forms$Kind"))).before args0 about1 = true := code_word (m := ⟨11, 5⟩) (meth := k11m5) (c := k11c5) (by decide +kernel) rfl rfl rfl (by decide +kernel)
set_option maxRecDepth 65536 in
theorem w_c20 : (Jvm.Cond.code ({ cls := "biaxial/cli/Forms$Operand", name := "required", desc := "()Z" } : Jvm.MethodName) prog_84_method_12_code (1 : Nat) (Option.some Jvm.ClassFile.FieldType.boolean)).before args0 about1 = true := code_word (m := ⟨11, 6⟩) (meth := k11m6) (c := k11c6) (by decide +kernel) rfl rfl rfl (by decide +kernel)
set_option maxRecDepth 65536 in
theorem w_c21 : (Jvm.Cond.code ({ cls := "biaxial/cli/Forms$Operand", name := "repeated", desc := "()Z" } : Jvm.MethodName) prog_84_method_13_code (1 : Nat) (Option.some Jvm.ClassFile.FieldType.boolean)).before args0 about1 = true := code_word (m := ⟨11, 7⟩) (meth := k11m7) (c := k11c7) (by decide +kernel) rfl rfl rfl (by decide +kernel)
set_option maxRecDepth 65536 in
theorem w_c22 : (Jvm.Cond.code ({ cls := "biaxial/cli/Forms", name := "flag", desc := "(Ljava/lang/String;)Lbiaxial/cli/Forms$Operand;" } : Jvm.MethodName) prog_76_method_8_code (1 : Nat) (Option.some (Jvm.ClassFile.FieldType.object "biaxial/cli/Forms$Operand"))).before args0 about1 = true := code_word (m := ⟨12, 3⟩) (meth := k12m3) (c := k12c3) (by decide +kernel) rfl rfl rfl (by decide +kernel)
set_option maxRecDepth 65536 in
theorem w_c23 : (Jvm.Cond.code ({ cls := "biaxial/cli/Forms", name := "word", desc := "(Ljava/lang/String;)Lbiaxial/cli/Forms$Operand;" } : Jvm.MethodName) prog_76_method_7_code (1 : Nat) (Option.some (Jvm.ClassFile.FieldType.object "biaxial/cli/Forms$Operand"))).before args0 about1 = true := code_word (m := ⟨12, 2⟩) (meth := k12m2) (c := k12c2) (by decide +kernel) rfl rfl rfl (by decide +kernel)
set_option maxRecDepth 65536 in
theorem w_c24 : (Jvm.Cond.code ({ cls := "biaxial/cli/Forms", name := "file", desc := "(Ljava/lang/String;)Lbiaxial/cli/Forms$Operand;" } : Jvm.MethodName) prog_76_method_5_code (1 : Nat) (Option.some (Jvm.ClassFile.FieldType.object "biaxial/cli/Forms$Operand"))).before args0 about1 = true := code_word (m := ⟨12, 0⟩) (meth := k12m0) (c := k12c0) (by decide +kernel) rfl rfl rfl (by decide +kernel)
def codes1 : List Jvm.Cond := [Jvm.Cond.code x code maxLocals ret, Jvm.Cond.code ({ cls := "java/lang/String", name := "<init>", desc := "([C)V" } : Jvm.MethodName) jdk_42_method_3_code (2 : Nat) (Option.none : Option Jvm.ClassFile.FieldType), Jvm.Cond.code ({ cls := "java/lang/String", name := "<init>", desc := "([CIILjava/lang/Void;)V" } : Jvm.MethodName) jdk_42_method_149_code (6 : Nat) (Option.none : Option Jvm.ClassFile.FieldType), Jvm.Cond.code ({ cls := "java/lang/Object", name := "<init>", desc := "()V" } : Jvm.MethodName) object_method_1_code (1 : Nat) (Option.none : Option Jvm.ClassFile.FieldType), Jvm.Cond.code ({ cls := "java/lang/StringUTF16", name := "compress", desc := "([CII)[B" } : Jvm.MethodName) jdk_52_method_16_code (6 : Nat) (Option.some (Jvm.ClassFile.FieldType.array Jvm.ClassFile.FieldType.byte)), Jvm.Cond.code ({ cls := "java/lang/StringUTF16", name := "compress", desc := "([CI[BII)I" } : Jvm.MethodName) jdk_52_method_21_code (7 : Nat) (Option.some Jvm.ClassFile.FieldType.int), Jvm.Cond.code ({ cls := "java/lang/StringUTF16", name := "coderFromArrayLen", desc := "([BI)B" } : Jvm.MethodName) jdk_52_method_15_code (2 : Nat) (Option.some Jvm.ClassFile.FieldType.byte), Jvm.Cond.code ({ cls := "java/lang/String", name := "valueOf", desc := "(C)Ljava/lang/String;" } : Jvm.MethodName) jdk_42_method_139_code (1 : Nat) (Option.some (Jvm.ClassFile.FieldType.object "java/lang/String")), Jvm.Cond.code ({ cls := "java/lang/StringLatin1", name := "canEncode", desc := "(C)Z" } : Jvm.MethodName) jdk_43_method_3_code (1 : Nat) (Option.some Jvm.ClassFile.FieldType.boolean), Jvm.Cond.code ({ cls := "java/lang/StringLatin1", name := "toBytes", desc := "(C)[B" } : Jvm.MethodName) jdk_43_method_46_code (1 : Nat) (Option.some (Jvm.ClassFile.FieldType.array Jvm.ClassFile.FieldType.byte)), Jvm.Cond.code ({ cls := "java/lang/String", name := "<init>", desc := "([BB)V" } : Jvm.MethodName) jdk_42_method_151_code (3 : Nat) (Option.none : Option Jvm.ClassFile.FieldType), Jvm.Cond.code ({ cls := "biaxial/cli/Forms$Operand", name := "<init>", desc := "(Ljava/lang/String;Lbiaxial/cli/Forms$Kind;ZZLjava/lang/String;)V" } : Jvm.MethodName) prog_84_method_1_code (6 : Nat) (Option.none : Option Jvm.ClassFile.FieldType), Jvm.Cond.code ({ cls := "java/lang/Record", name := "<init>", desc := "()V" } : Jvm.MethodName) jdk_30_method_1_code (1 : Nat) (Option.none : Option Jvm.ClassFile.FieldType), Jvm.Cond.code ({ cls := "biaxial/cli/Forms$Operand", name := "isSwitch", desc := "()Z" } : Jvm.MethodName) prog_84_method_2_code (1 : Nat) (Option.some Jvm.ClassFile.FieldType.boolean), Jvm.Cond.code ({ cls := "biaxial/cli/Forms$Operand", name := "optional", desc := "()Lbiaxial/cli/Forms$Operand;" } : Jvm.MethodName) prog_84_method_3_code (1 : Nat) (Option.some (Jvm.ClassFile.FieldType.object "biaxial/cli/Forms$Operand")), Jvm.Cond.code ({ cls := "biaxial/cli/Forms$Operand", name := "repeats", desc := "()Lbiaxial/cli/Forms$Operand;" } : Jvm.MethodName) prog_84_method_4_code (1 : Nat) (Option.some (Jvm.ClassFile.FieldType.object "biaxial/cli/Forms$Operand")), Jvm.Cond.code ({ cls := "biaxial/cli/Forms", name := "name", desc := "(Ljava/lang/String;)Lbiaxial/cli/Forms$Operand;" } : Jvm.MethodName) prog_76_method_6_code (1 : Nat) (Option.some (Jvm.ClassFile.FieldType.object "biaxial/cli/Forms$Operand")), Jvm.Cond.code ({ cls := "biaxial/cli/Forms", name := "option", desc := "(Ljava/lang/String;Lbiaxial/cli/Forms$Operand;)Lbiaxial/cli/Forms$Operand;" } : Jvm.MethodName) prog_76_method_9_code (2 : Nat) (Option.some (Jvm.ClassFile.FieldType.object "biaxial/cli/Forms$Operand")), Jvm.Cond.code ({ cls := "biaxial/cli/Forms$Operand", name := "name", desc := "()Ljava/lang/String;" } : Jvm.MethodName) prog_84_method_10_code (1 : Nat) (Option.some (Jvm.ClassFile.FieldType.object "java/lang/String")), Jvm.Cond.code ({ cls := "biaxial/cli/Forms$Operand", name := "kind", desc := "()Lbiaxial/cli/Forms$Kind;" } : Jvm.MethodName) prog_84_method_11_code (1 : Nat) (Option.some (Jvm.ClassFile.FieldType.object "biaxial/cli/Forms$Kind")), Jvm.Cond.code ({ cls := "biaxial/cli/Forms$Operand", name := "required", desc := "()Z" } : Jvm.MethodName) prog_84_method_12_code (1 : Nat) (Option.some Jvm.ClassFile.FieldType.boolean), Jvm.Cond.code ({ cls := "biaxial/cli/Forms$Operand", name := "repeated", desc := "()Z" } : Jvm.MethodName) prog_84_method_13_code (1 : Nat) (Option.some Jvm.ClassFile.FieldType.boolean), Jvm.Cond.code ({ cls := "biaxial/cli/Forms", name := "flag", desc := "(Ljava/lang/String;)Lbiaxial/cli/Forms$Operand;" } : Jvm.MethodName) prog_76_method_8_code (1 : Nat) (Option.some (Jvm.ClassFile.FieldType.object "biaxial/cli/Forms$Operand")), Jvm.Cond.code ({ cls := "biaxial/cli/Forms", name := "word", desc := "(Ljava/lang/String;)Lbiaxial/cli/Forms$Operand;" } : Jvm.MethodName) prog_76_method_7_code (1 : Nat) (Option.some (Jvm.ClassFile.FieldType.object "biaxial/cli/Forms$Operand")), Jvm.Cond.code ({ cls := "biaxial/cli/Forms", name := "file", desc := "(Ljava/lang/String;)Lbiaxial/cli/Forms$Operand;" } : Jvm.MethodName) prog_76_method_5_code (1 : Nat) (Option.some (Jvm.ClassFile.FieldType.object "biaxial/cli/Forms$Operand"))]
set_option maxRecDepth 65536 in
theorem codes_eq : words1.filter isCode = codes1 := rfl
theorem w_codes : ∀ c ∈ words1.filter isCode, c.before args0 about1 = true := by
  rw [codes_eq]
  intro c hc
  simp only [codes1, List.mem_cons, List.not_mem_nil, or_false] at hc
  rcases hc with rfl | rfl | rfl | rfl | rfl | rfl | rfl | rfl | rfl | rfl | rfl | rfl | rfl | rfl | rfl | rfl | rfl | rfl | rfl | rfl | rfl | rfl | rfl | rfl | rfl
  · exact w_c0
  · exact w_c1
  · exact w_c2
  · exact w_c3
  · exact w_c4
  · exact w_c5
  · exact w_c6
  · exact w_c7
  · exact w_c8
  · exact w_c9
  · exact w_c10
  · exact w_c11
  · exact w_c12
  · exact w_c13
  · exact w_c14
  · exact w_c15
  · exact w_c16
  · exact w_c17
  · exact w_c18
  · exact w_c19
  · exact w_c20
  · exact w_c21
  · exact w_c22
  · exact w_c23
  · exact w_c24
set_option maxRecDepth 65536 in
theorem w_t1 : (words1.take 24).all (fun c => isCode c || c.before args0 about1) = true := by decide +kernel
set_option maxRecDepth 65536 in
theorem w_t2 : ((words1.drop 24).take 24).all (fun c => isCode c || c.before args0 about1) = true := by decide +kernel
set_option maxRecDepth 65536 in
theorem w_t3 : (((words1.drop 24).drop 24).take 24).all (fun c => isCode c || c.before args0 about1) = true := by decide +kernel
set_option maxRecDepth 65536 in
theorem w_t4 : ((((words1.drop 24).drop 24).drop 24).take 24).all (fun c => isCode c || c.before args0 about1) = true := by decide +kernel
set_option maxRecDepth 65536 in
theorem w_t5 : (((((words1.drop 24).drop 24).drop 24).drop 24).take 24).all (fun c => isCode c || c.before args0 about1) = true := by decide +kernel
set_option maxRecDepth 65536 in
theorem w_t6 : (((((words1.drop 24).drop 24).drop 24).drop 24).drop 24).all (fun c => isCode c || c.before args0 about1) = true := by decide +kernel
theorem w_tables : (allAtoms (Jvm.Cond.code x code maxLocals ret :: tables_1)).before args0 about1 = true := by
  rw [allAtoms_all]
  show words1.all (fun c => c.before args0 about1) = true
  refine all_split ?_ w_codes
  rw [← List.take_append_drop 24 words1, List.all_append, w_t1, ← List.take_append_drop 24 (words1.drop 24), List.all_append, w_t2, ← List.take_append_drop 24 ((words1.drop 24).drop 24), List.all_append, w_t3, ← List.take_append_drop 24 (((words1.drop 24).drop 24).drop 24), List.all_append, w_t4, ← List.take_append_drop 24 ((((words1.drop 24).drop 24).drop 24).drop 24), List.all_append, w_t5, w_t6]
  rfl
set_option maxRecDepth 65536 in
theorem w_rest : rest_1_c.before args0 about1 = true := by decide +kernel
set_option maxRecDepth 65536 in
theorem w_case : (Jvm.Cond.and given_1 narrow_1).before args0 about1 = true := by decide +kernel
set_option maxRecDepth 65536 in
theorem w_consts : constsHeld consts_1 about1 := Jvm.Lit.constsHeldB_iff.mp (by decide +kernel)
theorem w_applies : (headSpec (Jvm.Cond.code x code maxLocals ret :: tables_1) room_1).applies x e0.platform about1 = true :=
  (Spec.applies_iff w_frames).mpr ⟨w_running, w_runnable, w_alone, w_named, w_hears, w_ripe, w_room, w_tables⟩
theorem atStart : AtStart classFile x code maxLocals ret World_1 tables_1 room_1 Calls_1 rest_1 Pre_1 launch0 p0 e0 about1 theMethod args0 below0 :=
  ⟨lists_1, trivial, launch0.admits_env _ _ _, launch0.least_env, fairChoices_fair.cas, fairChoices_fair.clock, w_frames, w_args, w_heap, w_applies, ⟨w_consts, trivial⟩, w_rest, w_case⟩
end start1
theorem witness_1 : WitnessClaimed_1 := ⟨start1.p0, start1.e0, start1.about1, start1.theMethod, start1.args0, start1.below0, start1.atStart⟩
end Jvm.Pilot.@@N@@
