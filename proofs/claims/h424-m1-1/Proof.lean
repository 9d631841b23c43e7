import JvmDerived
import JvmDerived.Pilot.@@N@@Statement
import JvmDerived.Pilot.@@N@@Code
set_option linter.unusedVariables false
set_option linter.unusedSimpArgs false
namespace Jvm.RoadKit
open Sem ClassFile Op Lib Jvm.Stand Jvm.Free Jvm.LawKit
section New
variable {p : Program} {l : Launch} {e : Env} {R : Room} {s : State} {m : MethodId} {args : Array Value} {below : List Frame} {meth : Method} {c : Code} {T : State} {locs : List Loc} {cells slots : Nat}
theorem retI (X : Stand p l e R s m args below meth c T locs cells slots) (hx : p.tables.exec = Jvm.exec) {pc : Nat} {Ls : Array Slot} {z : Int32} {rest : List Value} (hret : meth.sig.returnType = some .int) (hd : decode c.code pc = .ok (.ireturn, 1)) {fs : List Frame}
    (hl : ∀ (f : JFrame) (acts : List Action), f.method = m → f.locked = none → f.entered = [] → (doReturn e (T.setTop f) acts (some (.int z))).1 = T.setFrames fs) : Steps p.tables e below (T.setTop (mkF m pc Ls (.int z :: rest))) (T.setFrames fs) :=
  retOut X hx hret rfl (Or.inl ⟨rfl, Or.inl rfl, _, rfl⟩) hd hl
end New
end Jvm.RoadKit
namespace Jvm.Pilot.@@N@@
open Jvm Jvm.ClassFile Sem Op Lib Jvm.Free Jvm.Stand Jvm.LawKit Jvm.RoadKit Bundle Jvm.Pilot.@@N@@.Jvm.D
def own_get (vs : List Int32) (j : Int32) : Int32 := vs.getD j.toNatClampNeg 0
theorem own_getD (vs : List Int32) (j : Int32) : (vs.map Value.int).getD j.toNatClampNeg (.int 0) = .int (own_get vs j) := by
  unfold own_get
  simp only [List.getD_eq_getElem?_getD, List.getElem?_map]
  cases vs[j.toNatClampNeg]? <;> rfl
def w2_r1 (zp : Int32) (zn : Int32) : Int32 := (if zp = zn then (1 : Int32) else (0 : Int32))
def w3_r1 (zp : Int32) (x0 : Int32) (x1 : Int32) (x2 : Int32) (x3 : Int32) : Int32 := ((own_get [x0, x1, x2, x3] zp) &&& (255 : Int32))
def w4_r1 (p1 : Int32) (p2 : Int32) (zp : Int32) (zn : Int32) (x0 : Int32) (x1 : Int32) (x2 : Int32) (x3 : Int32) : Int32 := (if (w2_r1 zp zn) = p2 then (0 : Int32) else (if p2 = (0 : Int32) then (1 : Int32) else (if (w3_r1 zp x0 x1 x2 x3) = (p1 &&& (255 : Int32)) then (1 : Int32) else (0 : Int32))))
def w4_f2 (p2 : Int32) (zp : Int32) (zn : Int32) : Int32 := (if (w2_r1 zp zn) = p2 then zp else (if p2 = (0 : Int32) then zp else (zp + (1 : Int32))))
def w0_1 (p4 : Int32) : Int32 := ((p4 &&& (2147483647 : Int32)) % (5 : Int32))
def w0_m2 (p4 : Int32) : Int32 := (if (0 : Int32) < (w0_1 p4) then (1 : Int32) else (0 : Int32))
def w0_3 (p0 : Int32) (p1 : Int32) (p2 : Int32) (p3 : Int32) (p4 : Int32) : Int32 := (w4_r1 p0 (w0_m2 p4) (0 : Int32) (w0_1 p4) (nar .byte (p0.toInt8.toInt32)) (nar .byte (p1.toInt8.toInt32)) (nar .byte (p2.toInt8.toInt32)) (nar .byte (p3.toInt8.toInt32)))
def w0_m4 (p4 : Int32) : Int32 := (if (1 : Int32) < (w0_1 p4) then (1 : Int32) else (0 : Int32))
def w0_5 (p0 : Int32) (p1 : Int32) (p2 : Int32) (p3 : Int32) (p4 : Int32) : Int32 := (w4_r1 p1 (w0_m4 p4) (w4_f2 (w0_m2 p4) (0 : Int32) (w0_1 p4)) (w0_1 p4) (nar .byte (p0.toInt8.toInt32)) (nar .byte (p1.toInt8.toInt32)) (nar .byte (p2.toInt8.toInt32)) (nar .byte (p3.toInt8.toInt32)))
def w0_m6 (p4 : Int32) : Int32 := (if (2 : Int32) < (w0_1 p4) then (1 : Int32) else (0 : Int32))
def w0_7 (p0 : Int32) (p1 : Int32) (p2 : Int32) (p3 : Int32) (p4 : Int32) : Int32 := (w4_r1 p2 (w0_m6 p4) (w4_f2 (w0_m4 p4) (w4_f2 (w0_m2 p4) (0 : Int32) (w0_1 p4)) (w0_1 p4)) (w0_1 p4) (nar .byte (p0.toInt8.toInt32)) (nar .byte (p1.toInt8.toInt32)) (nar .byte (p2.toInt8.toInt32)) (nar .byte (p3.toInt8.toInt32)))
def w0_m8 (p4 : Int32) : Int32 := (if (3 : Int32) < (w0_1 p4) then (1 : Int32) else (0 : Int32))
def w0_9 (p0 : Int32) (p1 : Int32) (p2 : Int32) (p3 : Int32) (p4 : Int32) : Int32 := (w4_r1 p3 (w0_m8 p4) (w4_f2 (w0_m6 p4) (w4_f2 (w0_m4 p4) (w4_f2 (w0_m2 p4) (0 : Int32) (w0_1 p4)) (w0_1 p4)) (w0_1 p4)) (w0_1 p4) (nar .byte (p0.toInt8.toInt32)) (nar .byte (p1.toInt8.toInt32)) (nar .byte (p2.toInt8.toInt32)) (nar .byte (p3.toInt8.toInt32)))
def w0_10 (p4 : Int32) : Int32 := (w2_r1 (w4_f2 (w0_m8 p4) (w4_f2 (w0_m6 p4) (w4_f2 (w0_m4 p4) (w4_f2 (w0_m2 p4) (0 : Int32) (w0_1 p4)) (w0_1 p4)) (w0_1 p4)) (w0_1 p4)) (w0_1 p4))
def w0_r11 (p0 : Int32) (p1 : Int32) (p2 : Int32) (p3 : Int32) (p4 : Int32) : Int32 := (if (w0_3 p0 p1 p2 p3 p4) = (0 : Int32) then (0 : Int32) else (if (w0_5 p0 p1 p2 p3 p4) = (0 : Int32) then (0 : Int32) else (if (w0_7 p0 p1 p2 p3 p4) = (0 : Int32) then (0 : Int32) else (if (w0_9 p0 p1 p2 p3 p4) = (0 : Int32) then (0 : Int32) else (nar .boolean (w0_10 p4))))))
theorem own_len (p4 : Int32) : w0_1 p4 = 0 ∨ w0_1 p4 = 1 ∨ w0_1 p4 = 2 ∨ w0_1 p4 = 3 ∨ w0_1 p4 = 4 := by
  have l0 : (0 : Int32).toInt = 0 := rfl
  have l1 : (1 : Int32).toInt = 1 := rfl
  have l2 : (2 : Int32).toInt = 2 := rfl
  have l3 : (3 : Int32).toInt = 3 := rfl
  have l4 : (4 : Int32).toInt = 4 := rfl
  have h := c_mask p4 2147483647 31 (by decide) (by decide)
  have g := (c_irem (p4 &&& 2147483647) 5 5 rfl).1 (by omega)
  simp only [← Int32.toInt_inj, l0, l1, l2, l3, l4]
  unfold w0_1
  omega
theorem own_st (zp zn p2 : Int32) (h01 : p2 = 0 ∨ p2 = 1) (h1 : ¬ (w2_r1 zp zn) = p2) (h2 : ¬ p2 = 0) : ¬ zp = zn := by
  intro e
  apply h1
  unfold w2_r1
  rw [if_pos e]
  rcases h01 with h | h
  · exact absurd h h2
  · exact h.symm
theorem own_b (a : Int32) : (nar .byte (a.toInt8.toInt32)) &&& (255 : Int32) = a &&& (255 : Int32) := by
  show a.toInt8.toInt32.toInt8.toInt32 &&& (255 : Int32) = a &&& (255 : Int32)
  have h := c_mask a 255 8 (by decide) (by decide)
  have g := c_mask a.toInt8.toInt32.toInt8.toInt32 255 8 (by decide) (by decide)
  have i := c_i2b a
  have j := c_i2b a.toInt8.toInt32
  apply Int32.toInt_inj.mp
  omega
theorem own_h1 (p4 : Int32) : w0_m2 p4 = 0 ∨ w0_m2 p4 = 1 := by
  unfold w0_m2
  split
  · exact Or.inr rfl
  · exact Or.inl rfl
theorem own_h2 (p4 : Int32) : w0_m4 p4 = 0 ∨ w0_m4 p4 = 1 := by
  unfold w0_m4
  split
  · exact Or.inr rfl
  · exact Or.inl rfl
theorem own_h3 (p4 : Int32) : w0_m6 p4 = 0 ∨ w0_m6 p4 = 1 := by
  unfold w0_m6
  split
  · exact Or.inr rfl
  · exact Or.inl rfl
theorem own_h4 (p4 : Int32) : w0_m8 p4 = 0 ∨ w0_m8 p4 = 1 := by
  unfold w0_m8
  split
  · exact Or.inr rfl
  · exact Or.inl rfl
theorem own_i1 (p0 p1 p2 p3 p4 : Int32) : ¬ (0 : Int32) = (w0_1 p4) → ¬ (0 : Int32) < 0 ∧ (0 : Int32) < (4 : Int32) := by
  rcases own_len p4 with h | h | h | h | h <;> (rw [h]; decide)
theorem own_i2 (p0 p1 p2 p3 p4 : Int32) : ¬ (w4_f2 (w0_m2 p4) (0 : Int32) (w0_1 p4)) = (w0_1 p4) → ¬ (w4_f2 (w0_m2 p4) (0 : Int32) (w0_1 p4)) < 0 ∧ (w4_f2 (w0_m2 p4) (0 : Int32) (w0_1 p4)) < (4 : Int32) := by
  unfold w0_m2
  rcases own_len p4 with h | h | h | h | h <;> (rw [h]; decide)
theorem own_i3 (p0 p1 p2 p3 p4 : Int32) : ¬ (w4_f2 (w0_m4 p4) (w4_f2 (w0_m2 p4) (0 : Int32) (w0_1 p4)) (w0_1 p4)) = (w0_1 p4) → ¬ (w4_f2 (w0_m4 p4) (w4_f2 (w0_m2 p4) (0 : Int32) (w0_1 p4)) (w0_1 p4)) < 0 ∧ (w4_f2 (w0_m4 p4) (w4_f2 (w0_m2 p4) (0 : Int32) (w0_1 p4)) (w0_1 p4)) < (4 : Int32) := by
  unfold w0_m2 w0_m4
  rcases own_len p4 with h | h | h | h | h <;> (rw [h]; decide)
theorem own_i4 (p0 p1 p2 p3 p4 : Int32) : ¬ (w4_f2 (w0_m6 p4) (w4_f2 (w0_m4 p4) (w4_f2 (w0_m2 p4) (0 : Int32) (w0_1 p4)) (w0_1 p4)) (w0_1 p4)) = (w0_1 p4) → ¬ (w4_f2 (w0_m6 p4) (w4_f2 (w0_m4 p4) (w4_f2 (w0_m2 p4) (0 : Int32) (w0_1 p4)) (w0_1 p4)) (w0_1 p4)) < 0 ∧ (w4_f2 (w0_m6 p4) (w4_f2 (w0_m4 p4) (w4_f2 (w0_m2 p4) (0 : Int32) (w0_1 p4)) (w0_1 p4)) (w0_1 p4)) < (4 : Int32) := by
  unfold w0_m2 w0_m4 w0_m6
  rcases own_len p4 with h | h | h | h | h <;> (rw [h]; decide)
theorem plain_law (p0 p1 p2 p3 p4 : Int32) : w0_r11 p0 p1 p2 p3 p4 = 1 := by
  rcases own_len p4 with h | h | h | h | h
  · -- length 0
    have a0 : w0_m2 p4 = 0 := by unfold w0_m2; rw [h]; decide
    have a1 : w0_m4 p4 = 0 := by unfold w0_m4; rw [h]; decide
    have a2 : w0_m6 p4 = 0 := by unfold w0_m6; rw [h]; decide
    have a3 : w0_m8 p4 = 0 := by unfold w0_m8; rw [h]; decide
    have f0 : w4_f2 (w0_m2 p4) (0 : Int32) (w0_1 p4) = 0 := by rw [a0, h]; decide
    have f1 : w4_f2 (w0_m4 p4) (0 : Int32) (w0_1 p4) = 0 := by rw [a1, h]; decide
    have f2 : w4_f2 (w0_m6 p4) (0 : Int32) (w0_1 p4) = 0 := by rw [a2, h]; decide
    have f3 : w4_f2 (w0_m8 p4) (0 : Int32) (w0_1 p4) = 0 := by rw [a3, h]; decide
    have r0 : w0_3 p0 p1 p2 p3 p4 = 1 := by
      unfold w0_3
      rw [a0, h]
      unfold w4_r1
      rw [if_neg (by decide), if_pos rfl]
    have r1 : w0_5 p0 p1 p2 p3 p4 = 1 := by
      unfold w0_5
      rw [f0, a1, h]
      unfold w4_r1
      rw [if_neg (by decide), if_pos rfl]
    have r2 : w0_7 p0 p1 p2 p3 p4 = 1 := by
      unfold w0_7
      rw [f0, f1, a2, h]
      unfold w4_r1
      rw [if_neg (by decide), if_pos rfl]
    have r3 : w0_9 p0 p1 p2 p3 p4 = 1 := by
      unfold w0_9
      rw [f0, f1, f2, a3, h]
      unfold w4_r1
      rw [if_neg (by decide), if_pos rfl]
    have q : w0_10 p4 = 1 := by unfold w0_10; rw [f0, f1, f2, f3, h]; decide
    unfold w0_r11
    rw [r0, r1, r2, r3, q]
    decide
  · -- length 1
    have a0 : w0_m2 p4 = 1 := by unfold w0_m2; rw [h]; decide
    have a1 : w0_m4 p4 = 0 := by unfold w0_m4; rw [h]; decide
    have a2 : w0_m6 p4 = 0 := by unfold w0_m6; rw [h]; decide
    have a3 : w0_m8 p4 = 0 := by unfold w0_m8; rw [h]; decide
    have f0 : w4_f2 (w0_m2 p4) (0 : Int32) (w0_1 p4) = 1 := by rw [a0, h]; decide
    have f1 : w4_f2 (w0_m4 p4) (1 : Int32) (w0_1 p4) = 1 := by rw [a1, h]; decide
    have f2 : w4_f2 (w0_m6 p4) (1 : Int32) (w0_1 p4) = 1 := by rw [a2, h]; decide
    have f3 : w4_f2 (w0_m8 p4) (1 : Int32) (w0_1 p4) = 1 := by rw [a3, h]; decide
    have r0 : w0_3 p0 p1 p2 p3 p4 = 1 := by
      unfold w0_3
      rw [a0, h]
      unfold w4_r1
      have hb : w3_r1 (0 : Int32) (nar .byte (p0.toInt8.toInt32)) (nar .byte (p1.toInt8.toInt32)) (nar .byte (p2.toInt8.toInt32)) (nar .byte (p3.toInt8.toInt32)) = p0 &&& (255 : Int32) := own_b p0
      rw [if_neg (by decide), if_neg (by decide), if_pos hb]
    have r1 : w0_5 p0 p1 p2 p3 p4 = 1 := by
      unfold w0_5
      rw [f0, a1, h]
      unfold w4_r1
      rw [if_neg (by decide), if_pos rfl]
    have r2 : w0_7 p0 p1 p2 p3 p4 = 1 := by
      unfold w0_7
      rw [f0, f1, a2, h]
      unfold w4_r1
      rw [if_neg (by decide), if_pos rfl]
    have r3 : w0_9 p0 p1 p2 p3 p4 = 1 := by
      unfold w0_9
      rw [f0, f1, f2, a3, h]
      unfold w4_r1
      rw [if_neg (by decide), if_pos rfl]
    have q : w0_10 p4 = 1 := by unfold w0_10; rw [f0, f1, f2, f3, h]; decide
    unfold w0_r11
    rw [r0, r1, r2, r3, q]
    decide
  · -- length 2
    have a0 : w0_m2 p4 = 1 := by unfold w0_m2; rw [h]; decide
    have a1 : w0_m4 p4 = 1 := by unfold w0_m4; rw [h]; decide
    have a2 : w0_m6 p4 = 0 := by unfold w0_m6; rw [h]; decide
    have a3 : w0_m8 p4 = 0 := by unfold w0_m8; rw [h]; decide
    have f0 : w4_f2 (w0_m2 p4) (0 : Int32) (w0_1 p4) = 1 := by rw [a0, h]; decide
    have f1 : w4_f2 (w0_m4 p4) (1 : Int32) (w0_1 p4) = 2 := by rw [a1, h]; decide
    have f2 : w4_f2 (w0_m6 p4) (2 : Int32) (w0_1 p4) = 2 := by rw [a2, h]; decide
    have f3 : w4_f2 (w0_m8 p4) (2 : Int32) (w0_1 p4) = 2 := by rw [a3, h]; decide
    have r0 : w0_3 p0 p1 p2 p3 p4 = 1 := by
      unfold w0_3
      rw [a0, h]
      unfold w4_r1
      have hb : w3_r1 (0 : Int32) (nar .byte (p0.toInt8.toInt32)) (nar .byte (p1.toInt8.toInt32)) (nar .byte (p2.toInt8.toInt32)) (nar .byte (p3.toInt8.toInt32)) = p0 &&& (255 : Int32) := own_b p0
      rw [if_neg (by decide), if_neg (by decide), if_pos hb]
    have r1 : w0_5 p0 p1 p2 p3 p4 = 1 := by
      unfold w0_5
      rw [f0, a1, h]
      unfold w4_r1
      have hb : w3_r1 (1 : Int32) (nar .byte (p0.toInt8.toInt32)) (nar .byte (p1.toInt8.toInt32)) (nar .byte (p2.toInt8.toInt32)) (nar .byte (p3.toInt8.toInt32)) = p1 &&& (255 : Int32) := own_b p1
      rw [if_neg (by decide), if_neg (by decide), if_pos hb]
    have r2 : w0_7 p0 p1 p2 p3 p4 = 1 := by
      unfold w0_7
      rw [f0, f1, a2, h]
      unfold w4_r1
      rw [if_neg (by decide), if_pos rfl]
    have r3 : w0_9 p0 p1 p2 p3 p4 = 1 := by
      unfold w0_9
      rw [f0, f1, f2, a3, h]
      unfold w4_r1
      rw [if_neg (by decide), if_pos rfl]
    have q : w0_10 p4 = 1 := by unfold w0_10; rw [f0, f1, f2, f3, h]; decide
    unfold w0_r11
    rw [r0, r1, r2, r3, q]
    decide
  · -- length 3
    have a0 : w0_m2 p4 = 1 := by unfold w0_m2; rw [h]; decide
    have a1 : w0_m4 p4 = 1 := by unfold w0_m4; rw [h]; decide
    have a2 : w0_m6 p4 = 1 := by unfold w0_m6; rw [h]; decide
    have a3 : w0_m8 p4 = 0 := by unfold w0_m8; rw [h]; decide
    have f0 : w4_f2 (w0_m2 p4) (0 : Int32) (w0_1 p4) = 1 := by rw [a0, h]; decide
    have f1 : w4_f2 (w0_m4 p4) (1 : Int32) (w0_1 p4) = 2 := by rw [a1, h]; decide
    have f2 : w4_f2 (w0_m6 p4) (2 : Int32) (w0_1 p4) = 3 := by rw [a2, h]; decide
    have f3 : w4_f2 (w0_m8 p4) (3 : Int32) (w0_1 p4) = 3 := by rw [a3, h]; decide
    have r0 : w0_3 p0 p1 p2 p3 p4 = 1 := by
      unfold w0_3
      rw [a0, h]
      unfold w4_r1
      have hb : w3_r1 (0 : Int32) (nar .byte (p0.toInt8.toInt32)) (nar .byte (p1.toInt8.toInt32)) (nar .byte (p2.toInt8.toInt32)) (nar .byte (p3.toInt8.toInt32)) = p0 &&& (255 : Int32) := own_b p0
      rw [if_neg (by decide), if_neg (by decide), if_pos hb]
    have r1 : w0_5 p0 p1 p2 p3 p4 = 1 := by
      unfold w0_5
      rw [f0, a1, h]
      unfold w4_r1
      have hb : w3_r1 (1 : Int32) (nar .byte (p0.toInt8.toInt32)) (nar .byte (p1.toInt8.toInt32)) (nar .byte (p2.toInt8.toInt32)) (nar .byte (p3.toInt8.toInt32)) = p1 &&& (255 : Int32) := own_b p1
      rw [if_neg (by decide), if_neg (by decide), if_pos hb]
    have r2 : w0_7 p0 p1 p2 p3 p4 = 1 := by
      unfold w0_7
      rw [f0, f1, a2, h]
      unfold w4_r1
      have hb : w3_r1 (2 : Int32) (nar .byte (p0.toInt8.toInt32)) (nar .byte (p1.toInt8.toInt32)) (nar .byte (p2.toInt8.toInt32)) (nar .byte (p3.toInt8.toInt32)) = p2 &&& (255 : Int32) := own_b p2
      rw [if_neg (by decide), if_neg (by decide), if_pos hb]
    have r3 : w0_9 p0 p1 p2 p3 p4 = 1 := by
      unfold w0_9
      rw [f0, f1, f2, a3, h]
      unfold w4_r1
      rw [if_neg (by decide), if_pos rfl]
    have q : w0_10 p4 = 1 := by unfold w0_10; rw [f0, f1, f2, f3, h]; decide
    unfold w0_r11
    rw [r0, r1, r2, r3, q]
    decide
  · -- length 4
    have a0 : w0_m2 p4 = 1 := by unfold w0_m2; rw [h]; decide
    have a1 : w0_m4 p4 = 1 := by unfold w0_m4; rw [h]; decide
    have a2 : w0_m6 p4 = 1 := by unfold w0_m6; rw [h]; decide
    have a3 : w0_m8 p4 = 1 := by unfold w0_m8; rw [h]; decide
    have f0 : w4_f2 (w0_m2 p4) (0 : Int32) (w0_1 p4) = 1 := by rw [a0, h]; decide
    have f1 : w4_f2 (w0_m4 p4) (1 : Int32) (w0_1 p4) = 2 := by rw [a1, h]; decide
    have f2 : w4_f2 (w0_m6 p4) (2 : Int32) (w0_1 p4) = 3 := by rw [a2, h]; decide
    have f3 : w4_f2 (w0_m8 p4) (3 : Int32) (w0_1 p4) = 4 := by rw [a3, h]; decide
    have r0 : w0_3 p0 p1 p2 p3 p4 = 1 := by
      unfold w0_3
      rw [a0, h]
      unfold w4_r1
      have hb : w3_r1 (0 : Int32) (nar .byte (p0.toInt8.toInt32)) (nar .byte (p1.toInt8.toInt32)) (nar .byte (p2.toInt8.toInt32)) (nar .byte (p3.toInt8.toInt32)) = p0 &&& (255 : Int32) := own_b p0
      rw [if_neg (by decide), if_neg (by decide), if_pos hb]
    have r1 : w0_5 p0 p1 p2 p3 p4 = 1 := by
      unfold w0_5
      rw [f0, a1, h]
      unfold w4_r1
      have hb : w3_r1 (1 : Int32) (nar .byte (p0.toInt8.toInt32)) (nar .byte (p1.toInt8.toInt32)) (nar .byte (p2.toInt8.toInt32)) (nar .byte (p3.toInt8.toInt32)) = p1 &&& (255 : Int32) := own_b p1
      rw [if_neg (by decide), if_neg (by decide), if_pos hb]
    have r2 : w0_7 p0 p1 p2 p3 p4 = 1 := by
      unfold w0_7
      rw [f0, f1, a2, h]
      unfold w4_r1
      have hb : w3_r1 (2 : Int32) (nar .byte (p0.toInt8.toInt32)) (nar .byte (p1.toInt8.toInt32)) (nar .byte (p2.toInt8.toInt32)) (nar .byte (p3.toInt8.toInt32)) = p2 &&& (255 : Int32) := own_b p2
      rw [if_neg (by decide), if_neg (by decide), if_pos hb]
    have r3 : w0_9 p0 p1 p2 p3 p4 = 1 := by
      unfold w0_9
      rw [f0, f1, f2, a3, h]
      unfold w4_r1
      have hb : w3_r1 (3 : Int32) (nar .byte (p0.toInt8.toInt32)) (nar .byte (p1.toInt8.toInt32)) (nar .byte (p2.toInt8.toInt32)) (nar .byte (p3.toInt8.toInt32)) = p3 &&& (255 : Int32) := own_b p3
      rw [if_neg (by decide), if_neg (by decide), if_pos hb]
    have q : w0_10 p4 = 1 := by unfold w0_10; rw [f0, f1, f2, f3, h]; decide
    unfold w0_r11
    rw [r0, r1, r2, r3, q]
    decide

theorem d1_0 : decode prog_77_method_1_code 0 = .ok (.aload_n 0, 1) := by decide +kernel
theorem d1_1 : decode prog_77_method_1_code 1 = .ok (.invokespecial 1, 3) := by decide +kernel
theorem d1_4 : decode prog_77_method_1_code 4 = .ok (.aload_n 0, 1) := by decide +kernel
theorem d1_5 : decode prog_77_method_1_code 5 = .ok (.aload_n 1, 1) := by decide +kernel
theorem d1_6 : decode prog_77_method_1_code 6 = .ok (.putfield 7, 3) := by decide +kernel
theorem d1_9 : decode prog_77_method_1_code 9 = .ok (.aload_n 0, 1) := by decide +kernel
theorem d1_10 : decode prog_77_method_1_code 10 = .ok (.iload_n 2, 1) := by decide +kernel
theorem d1_11 : decode prog_77_method_1_code 11 = .ok (.putfield 13, 3) := by decide +kernel
theorem d1_14 : decode prog_77_method_1_code 14 = .ok (.return_, 1) := by decide +kernel
theorem pn1 : plainName "com/example/acervo/acervo/index/ByteArrayInput" = true := by first | (simp [plainName, overriddenIn]; done) | decide +kernel
theorem ef1 (m : MethodId) (o0 : Addr) (o1 : Addr) (p2 : Int32) : entryFrame m #[(.ref o0), (.ref o1), (.int p2)] 3 = mkF m 0 #[.val (.ref o0), .val (.ref o1), .val (.int p2)] [] := by first | (simp [entryFrame, mkF, argsToLocals, Value.category]; done) | rfl
def Q1 (Z : State) (o0 : Addr) (o1 : Addr) (p2 : Int32) (h0 : Heap) (n0 : Nat) (v : Option Value) (h : Heap) (L : List Loc) : Prop := v = none ∧ Fr n0 L ∧ Keep h0 h [o0] ∧ Exa Z h o0 "com/example/acervo/acervo/index/ByteArrayInput" ∧ Fld Z h o0 "com/example/acervo/acervo/index/ByteArrayInput" "bytes" "[B" (.ref o1) ∧ Fld Z h o0 "com/example/acervo/acervo/index/ByteArrayInput" "length" "I" (.int p2) ∧ Fld Z h o0 "com/example/acervo/acervo/index/ByteArrayInput" "position" "I" (.int (0 : Int32))
set_option maxRecDepth 65536 in
set_option maxHeartbeats 40000000 in
theorem rm1 (l : Launch) (Z : State) (a0 : Array Value) (hw : ∀ d ∈ tables_1, d.before a0 Z = true) (ws : List Jvm.Cond) (o0 : Addr) (o1 : Addr) (p2 : Int32) (h0 : Heap) (n0 : Nat) (Z0 : n0 ≤ h0.size) (E_o0 : Exa Z h0 o0 "com/example/acervo/acervo/index/ByteArrayInput") (F_o0_bytes : Fld Z h0 o0 "com/example/acervo/acervo/index/ByteArrayInput" "bytes" "[B" .null) (F_o0_length : Fld Z h0 o0 "com/example/acervo/acervo/index/ByteArrayInput" "length" "I" (.int (0 : Int32))) (F_o0_position : Fld Z h0 o0 "com/example/acervo/acervo/index/ByteArrayInput" "position" "I" (.int (0 : Int32))) (g_o0 : n0 ≤ o0) :
    MetFree l (⟨"com/example/acervo/acervo/index/ByteArrayInput", "<init>", "([BI)V"⟩ : MethodName) (head1 (Jvm.Cond.code (⟨"com/example/acervo/acervo/index/ByteArrayInput", "<init>", "([BI)V"⟩ : MethodName) prog_77_method_1_code 3 none :: ws) ({ frames := 1, cells := 0, slots := 0, locals := 12 } : Room)) (fun a U => a = #[(.ref o0), (.ref o1), (.int p2)] ∧ Z.Warmed39 U.vm ∧ U.heap = h0) (fun _ _ _ _ _ => True) (fun _ U o U' => ∃ v L, o = .returned v ∧ Q1 Z o0 o1 p2 h0 n0 v U'.heap L ∧ FrameEnd U o U' L ({ frames := 1, cells := 0, slots := 0, locals := 12 } : Room).cells ({ frames := 1, cells := 0, slots := 0, locals := 12 } : Room).slots) := by
  refine MetFree.of_bodySF (plainFor_of_name pn1) hisR ?_
  intro p e s m args below meth c s₁ Bd hml0 hP hK
  obtain ⟨rfl, hZ, hh⟩ := hP
  have hlk : meth.locks = false := BodyLoose.notSynchronized Bd
  have hx := Bd.exec
  have hby := Bd.bytes
  have hml : c.maxLocals = 3 := hml0
  have hown : s.vm.findClass "com/example/acervo/acervo/index/ByteArrayInput" = some m.cls := findClass_of_methodNamed Bd.named
  have hnm := (name_of_methodNamed Bd.named Bd.method).1
  have X0 : Stand p l e ({ frames := 1, cells := 0, slots := 0, locals := 12 } : Room) s m #[(.ref o0), (.ref o1), (.int p2)] below meth c s₁ [] 0 0 := Stand.of_body Bd
  have e0 : s₁.heap = h0 := by rw [← hh, Bd.state]; rfl
  have N0 := Fr.nil n0
  obtain ⟨S0, hS0⟩ : ∃ S0, S0 = s₁.setTop (entryFrame m #[(.ref o0), (.ref o1), (.int p2)] 3) := ⟨_, rfl⟩
  have pre0 : ∀ t, Steps p.tables e below (s₁.setTop (mkF m 0 #[.val (.ref o0), .val (.ref o1), .val (.int p2)] [])) t → Steps p.tables e below S0 t := fun t k => by rw [hS0]; exact castTop (ef1 m o0 o1 p2) k
  have K1 : ∀ t, Steps p.tables e below (s₁.setTop (mkF m 1 #[.val (.ref o0), .val (.ref o1), .val (.int p2)] [(.ref o0)])) t → Steps p.tables e below S0 t := fun t k => pre0 t (by
    refine XS.aloadN X0.here hx rfl (hb hby d1_0) rfl rfl ?_
    show Steps p.tables e below (s₁.setTop (mkF m 1 #[.val (.ref o0), .val (.ref o1), .val (.int p2)] [(.ref o0)])) _
    exact k)
  have K_2 : ∀ t, Steps p.tables e below (s₁.setTop (mkF m 1 #[.val (.ref o0), .val (.ref o1), .val (.int p2)] [(.ref o0)])) t → Steps p.tables e below S0 t := K1
  obtain ⟨T3, X3, e3, st3⟩ := initO X0 hx hZ hown (hw _ (List.mem_of_getElem? (i := 8) rfl)) (hw _ (List.mem_of_getElem? (i := 9) rfl)) (hw _ (List.mem_of_getElem? (i := 10) rfl)) e0 (g := (mkF m 1 #[.val (.ref o0), .val (.ref o1), .val (.int p2)] [(.ref o0)])) rfl (by rw [hml]; rfl) rfl (hb hby d1_1) (by decide) (W := 0) (by show 2 * 0 + _ ≤ _; exact Nat.le_of_eq rfl) (by decide)
  have K3 : ∀ t, Steps p.tables e below (T3.setTop (mkF m 4 #[.val (.ref o0), .val (.ref o1), .val (.int p2)] [])) t → Steps p.tables e below S0 t := fun t k => K_2 t (st3 t k)
  have K4 : ∀ t, Steps p.tables e below (T3.setTop (mkF m 6 #[.val (.ref o0), .val (.ref o1), .val (.int p2)] [(.ref o1), (.ref o0)])) t → Steps p.tables e below S0 t := fun t k => K3 t (by
    refine XS.aloadN X3.here hx rfl (hb hby d1_4) rfl rfl ?_
    show Steps p.tables e below (T3.setTop (mkF m 5 #[.val (.ref o0), .val (.ref o1), .val (.int p2)] [(.ref o0)])) _
    refine XS.aloadN X3.here hx rfl (hb hby d1_5) rfl rfl ?_
    show Steps p.tables e below (T3.setTop (mkF m 6 #[.val (.ref o0), .val (.ref o1), .val (.int p2)] [(.ref o1), (.ref o0)])) _
    exact k)
  obtain ⟨T5, h5, X5, e5, W5, st5⟩ := putF X3 hx hZ hown (host := "") (Or.inl (hw _ (List.mem_of_getElem? (i := 11) rfl))) Via.refl e3 F_o0_bytes E_o0 (Or.inr ⟨(hw _ (List.mem_of_getElem? (i := 12) rfl)), rfl, hnm⟩) (hw _ (List.mem_of_getElem? (i := 3) rfl)) (ty := (.array .byte)) (by decide) rfl rfl (g := (mkF m 6 #[.val (.ref o0), .val (.ref o1), .val (.int p2)] [(.ref o1), (.ref o0)])) rfl rfl (hb hby d1_6)
  have F_o0_bytes__5 := F_o0_bytes.same W5
  have E_o0__5 := E_o0.wr W5
  have F_o0_length__5 := F_o0_length.other W5 (Or.inr (slot_ne (Or.inr (hw _ (List.mem_of_getElem? (i := 14) rfl))) (Or.inr (hw _ (List.mem_of_getElem? (i := 12) rfl))) (by decide) (t := .int) (t' := (.array .byte)) (by decide) (by decide)))
  have F_o0_position__5 := F_o0_position.other W5 (Or.inr (slot_ne (Or.inl (hw _ (List.mem_of_getElem? (i := 25) rfl))) (Or.inr (hw _ (List.mem_of_getElem? (i := 12) rfl))) (by decide) (t := .int) (t' := (.array .byte)) (by decide) (by decide)))
  have N5 := Fr.snoc X5 N0 g_o0
  have Zs5 : n0 ≤ h5.size := Nat.le_trans Z0 (Nat.le_of_eq W5.size.symm)
  have Kc5 : Keep h0 h5 [o0] := (Keep.refl h0 [o0]).wr W5 (Or.inl (List.mem_of_getElem? (i := 0) rfl))
  have K5 : ∀ t, Steps p.tables e below (T5.setTop (mkF m 9 #[.val (.ref o0), .val (.ref o1), .val (.int p2)] [])) t → Steps p.tables e below S0 t := fun t k => K4 t (st5 t k)
  have K6 : ∀ t, Steps p.tables e below (T5.setTop (mkF m 11 #[.val (.ref o0), .val (.ref o1), .val (.int p2)] [(.int p2), (.ref o0)])) t → Steps p.tables e below S0 t := fun t k => K5 t (by
    refine XS.aloadN X5.here hx rfl (hb hby d1_9) rfl rfl ?_
    show Steps p.tables e below (T5.setTop (mkF m 10 #[.val (.ref o0), .val (.ref o1), .val (.int p2)] [(.ref o0)])) _
    refine XS.iloadN X5.here hx rfl (hb hby d1_10) rfl ?_
    show Steps p.tables e below (T5.setTop (mkF m 11 #[.val (.ref o0), .val (.ref o1), .val (.int p2)] [(.int p2), (.ref o0)])) _
    exact k)
  obtain ⟨T7, h7, X7, e7, W7, st7⟩ := putF X5 hx hZ hown (host := "") (Or.inl (hw _ (List.mem_of_getElem? (i := 13) rfl))) Via.refl e5 F_o0_length__5 E_o0__5 (Or.inr ⟨(hw _ (List.mem_of_getElem? (i := 14) rfl)), rfl, hnm⟩) (hw _ (List.mem_of_getElem? (i := 3) rfl)) (ty := .int) (by decide) rfl rfl (g := (mkF m 11 #[.val (.ref o0), .val (.ref o1), .val (.int p2)] [(.int p2), (.ref o0)])) rfl rfl (hb hby d1_11)
  have F_o0_length__7 := F_o0_length__5.same W7
  have E_o0__7 := E_o0__5.wr W7
  have F_o0_bytes__7 := F_o0_bytes__5.other W7 (Or.inr (slot_ne (Or.inr (hw _ (List.mem_of_getElem? (i := 12) rfl))) (Or.inr (hw _ (List.mem_of_getElem? (i := 14) rfl))) (by decide) (t := (.array .byte)) (t' := .int) (by decide) (by decide)))
  have F_o0_position__7 := F_o0_position__5.other W7 (Or.inr (slot_ne (Or.inl (hw _ (List.mem_of_getElem? (i := 25) rfl))) (Or.inr (hw _ (List.mem_of_getElem? (i := 14) rfl))) (by decide) (t := .int) (t' := .int) (by decide) (by decide)))
  have N7 := Fr.snoc X7 N5 g_o0
  have Zs7 : n0 ≤ h7.size := Nat.le_trans Zs5 (Nat.le_of_eq W7.size.symm)
  have Kc7 : Keep h0 h7 [o0] := Kc5.wr W7 (Or.inl (List.mem_of_getElem? (i := 0) rfl))
  have K7 : ∀ t, Steps p.tables e below (T7.setTop (mkF m 14 #[.val (.ref o0), .val (.ref o1), .val (.int p2)] [])) t → Steps p.tables e below S0 t := fun t k => K6 t (st7 t k)
  obtain ⟨fs, hr, hrun, hended, hW, hsame⟩ := X7.leave (v := none) (fun _ => rfl) hlk
  refine ⟨_, _, ?_, hrun, hended, _, _, rfl, ?_, ⟨_, rfl⟩, hW, hsame.mono (by decide) (by decide)⟩
  · rw [← hS0]; exact K7 _ (X7.returnOut hx Bd.returns (hb hby d1_14) hr)
  · show Q1 Z o0 o1 p2 h0 n0 _ T7.heap _
    rw [e7]
    exact ⟨rfl, N7, Kc7, E_o0__7, F_o0_bytes__7, F_o0_length__7, F_o0_position__7⟩
theorem d2_0 : decode prog_77_method_6_code 0 = .ok (.aload_n 0, 1) := by decide +kernel
theorem d2_1 : decode prog_77_method_6_code 1 = .ok (.getfield 17, 3) := by decide +kernel
theorem d2_4 : decode prog_77_method_6_code 4 = .ok (.aload_n 0, 1) := by decide +kernel
theorem d2_5 : decode prog_77_method_6_code 5 = .ok (.getfield 13, 3) := by decide +kernel
theorem d2_8 : decode prog_77_method_6_code 8 = .ok (.if_icmp .ne 7, 3) := by decide +kernel
theorem d2_11 : decode prog_77_method_6_code 11 = .ok (.iconst 1, 1) := by decide +kernel
theorem d2_12 : decode prog_77_method_6_code 12 = .ok (.goto 4, 3) := by decide +kernel
theorem d2_15 : decode prog_77_method_6_code 15 = .ok (.iconst 0, 1) := by decide +kernel
theorem d2_16 : decode prog_77_method_6_code 16 = .ok (.ireturn, 1) := by decide +kernel
theorem pn2 : plainName "com/example/acervo/acervo/index/ByteArrayInput" = true := by first | (simp [plainName, overriddenIn]; done) | decide +kernel
theorem ef2 (m : MethodId) (o0 : Addr) : entryFrame m #[(.ref o0)] 1 = mkF m 0 #[.val (.ref o0)] [] := by first | (simp [entryFrame, mkF, argsToLocals, Value.category]; done) | rfl
def Q2 (Z : State) (o0 : Addr) (zp : Int32) (zn : Int32) (h0 : Heap) (n0 : Nat) (v : Option Value) (h : Heap) (L : List Loc) : Prop := v = some (.int (w2_r1 zp zn)) ∧ Fr n0 L ∧ h = h0
set_option maxRecDepth 65536 in
set_option maxHeartbeats 40000000 in
theorem rm2 (l : Launch) (Z : State) (a0 : Array Value) (hw : ∀ d ∈ tables_1, d.before a0 Z = true) (ws : List Jvm.Cond) (o0 : Addr) (zp : Int32) (zn : Int32) (h0 : Heap) (n0 : Nat) (Z0 : n0 ≤ h0.size) (F_o0_position : Fld Z h0 o0 "com/example/acervo/acervo/index/ByteArrayInput" "position" "I" (.int zp)) (F_o0_length : Fld Z h0 o0 "com/example/acervo/acervo/index/ByteArrayInput" "length" "I" (.int zn)) :
    MetFree l (⟨"com/example/acervo/acervo/index/ByteArrayInput", "atEnd", "()Z"⟩ : MethodName) (head1 (Jvm.Cond.code (⟨"com/example/acervo/acervo/index/ByteArrayInput", "atEnd", "()Z"⟩ : MethodName) prog_77_method_6_code 1 (some .boolean) :: ws) ({ frames := 0, cells := 0, slots := 0, locals := 0 } : Room)) (fun a U => a = #[(.ref o0)] ∧ Z.Warmed39 U.vm ∧ U.heap = h0) (fun _ _ _ _ _ => True) (fun _ U o U' => ∃ v L, o = .returned v ∧ Q2 Z o0 zp zn h0 n0 v U'.heap L ∧ FrameEnd U o U' L ({ frames := 0, cells := 0, slots := 0, locals := 0 } : Room).cells ({ frames := 0, cells := 0, slots := 0, locals := 0 } : Room).slots) := by
  refine MetFree.of_bodySF (plainFor_of_name pn2) hisR ?_
  intro p e s m args below meth c s₁ Bd hml0 hP hK
  obtain ⟨rfl, hZ, hh⟩ := hP
  have hlk : meth.locks = false := BodyLoose.notSynchronized Bd
  have hx := Bd.exec
  have hby := Bd.bytes
  have hml : c.maxLocals = 1 := hml0
  have hown : s.vm.findClass "com/example/acervo/acervo/index/ByteArrayInput" = some m.cls := findClass_of_methodNamed Bd.named
  have hnm := (name_of_methodNamed Bd.named Bd.method).1
  have X0 : Stand p l e ({ frames := 0, cells := 0, slots := 0, locals := 0 } : Room) s m #[(.ref o0)] below meth c s₁ [] 0 0 := Stand.of_body Bd
  have e0 : s₁.heap = h0 := by rw [← hh, Bd.state]; rfl
  have N0 := Fr.nil n0
  obtain ⟨S0, hS0⟩ : ∃ S0, S0 = s₁.setTop (entryFrame m #[(.ref o0)] 1) := ⟨_, rfl⟩
  have pre0 : ∀ t, Steps p.tables e below (s₁.setTop (mkF m 0 #[.val (.ref o0)] [])) t → Steps p.tables e below S0 t := fun t k => by rw [hS0]; exact castTop (ef2 m o0) k
  have K1 : ∀ t, Steps p.tables e below (s₁.setTop (mkF m 1 #[.val (.ref o0)] [(.ref o0)])) t → Steps p.tables e below S0 t := fun t k => pre0 t (by
    refine XS.aloadN X0.here hx rfl (hb hby d2_0) rfl rfl ?_
    show Steps p.tables e below (s₁.setTop (mkF m 1 #[.val (.ref o0)] [(.ref o0)])) _
    exact k)
  obtain ⟨T2, X2, e2, st2⟩ := getF X0 hx hZ hown (host := "") (Or.inl (hw _ (List.mem_of_getElem? (i := 24) rfl))) Via.refl e0 F_o0_position (g := (mkF m 1 #[.val (.ref o0)] [(.ref o0)])) rfl rfl (hb hby d2_1)
  have K2 : ∀ t, Steps p.tables e below (T2.setTop (mkF m 4 #[.val (.ref o0)] [(.int zp)])) t → Steps p.tables e below S0 t := fun t k => K1 t (st2 t k)
  have K3 : ∀ t, Steps p.tables e below (T2.setTop (mkF m 5 #[.val (.ref o0)] [(.ref o0), (.int zp)])) t → Steps p.tables e below S0 t := fun t k => K2 t (by
    refine XS.aloadN X2.here hx rfl (hb hby d2_4) rfl rfl ?_
    show Steps p.tables e below (T2.setTop (mkF m 5 #[.val (.ref o0)] [(.ref o0), (.int zp)])) _
    exact k)
  obtain ⟨T4, X4, e4, st4⟩ := getF X2 hx hZ hown (host := "") (Or.inl (hw _ (List.mem_of_getElem? (i := 13) rfl))) Via.refl e2 F_o0_length (g := (mkF m 5 #[.val (.ref o0)] [(.ref o0), (.int zp)])) rfl rfl (hb hby d2_5)
  have K4 : ∀ t, Steps p.tables e below (T4.setTop (mkF m 8 #[.val (.ref o0)] [(.int zn), (.int zp)])) t → Steps p.tables e below S0 t := fun t k => K3 t (st4 t k)
  by_cases hc8_0 : zp = zn
  · -- yes
    have K5 : ∀ t, Steps p.tables e below (T4.setTop (mkF m 16 #[.val (.ref o0)] [(.int (1 : Int32))])) t → Steps p.tables e below S0 t := fun t k => K4 t (by
      refine XS.icmpNo X4.here hx rfl (hb hby d2_8) rfl (XT.ii_ne_f hc8_0) ?_
      show Steps p.tables e below (T4.setTop (mkF m 11 #[.val (.ref o0)] [])) _
      refine XS.iconst X4.here hx rfl (hb hby d2_11) ?_
      show Steps p.tables e below (T4.setTop (mkF m 12 #[.val (.ref o0)] [(.int (1 : Int32))])) _
      refine XS.goto X4.here hx rfl (pc0 := 12) (pc' := 16) rfl (hb hby d2_12) (by decide) (by decide) ?_
      show Steps p.tables e below (T4.setTop (mkF m 16 #[.val (.ref o0)] [(.int (1 : Int32))])) _
      exact k)
    obtain ⟨fs, hr, hrun, hended, hW, hsame⟩ := X4.leave (v := some (.int (1 : Int32))) (fun h => by rw [Bd.returns] at h; cases h) hlk
    refine ⟨_, _, ?_, hrun, hended, _, _, rfl, ?_, ⟨_, rfl⟩, hW, hsame.mono (by decide) (by decide)⟩
    · rw [← hS0]; exact K5 _ (retN X4 hx (t := .boolean) Bd.returns (by simp) (hb hby d2_16) hr)
    · show Q2 Z o0 zp zn h0 n0 _ T4.heap _
      rw [e4]
      have qr : (1 : Int32) = (w2_r1 zp zn) := by unfold w2_r1; rw [if_pos hc8_0]
      exact ⟨congrArg (fun z => some (Value.int z)) qr, N0, rfl⟩
  · -- no
    have K6 : ∀ t, Steps p.tables e below (T4.setTop (mkF m 16 #[.val (.ref o0)] [(.int (0 : Int32))])) t → Steps p.tables e below S0 t := fun t k => K4 t (by
      refine XS.icmpYes X4.here hx rfl (pc0 := 8) (pc' := 15) rfl (hb hby d2_8) rfl (XT.ii_ne_t hc8_0) (by decide) (by decide) ?_
      show Steps p.tables e below (T4.setTop (mkF m 15 #[.val (.ref o0)] [])) _
      refine XS.iconst X4.here hx rfl (hb hby d2_15) ?_
      show Steps p.tables e below (T4.setTop (mkF m 16 #[.val (.ref o0)] [(.int (0 : Int32))])) _
      exact k)
    obtain ⟨fs, hr, hrun, hended, hW, hsame⟩ := X4.leave (v := some (.int (0 : Int32))) (fun h => by rw [Bd.returns] at h; cases h) hlk
    refine ⟨_, _, ?_, hrun, hended, _, _, rfl, ?_, ⟨_, rfl⟩, hW, hsame.mono (by decide) (by decide)⟩
    · rw [← hS0]; exact K6 _ (retN X4 hx (t := .boolean) Bd.returns (by simp) (hb hby d2_16) hr)
    · show Q2 Z o0 zp zn h0 n0 _ T4.heap _
      rw [e4]
      have qr : (0 : Int32) = (w2_r1 zp zn) := by unfold w2_r1; rw [if_neg hc8_0]
      exact ⟨congrArg (fun z => some (Value.int z)) qr, N0, rfl⟩
theorem d3_0 : decode prog_77_method_2_code 0 = .ok (.aload_n 0, 1) := by decide +kernel
theorem d3_1 : decode prog_77_method_2_code 1 = .ok (.getfield 17, 3) := by decide +kernel
theorem d3_4 : decode prog_77_method_2_code 4 = .ok (.aload_n 0, 1) := by decide +kernel
theorem d3_5 : decode prog_77_method_2_code 5 = .ok (.getfield 13, 3) := by decide +kernel
theorem d3_8 : decode prog_77_method_2_code 8 = .ok (.if_icmp .ne 20, 3) := by decide +kernel
theorem d3_28 : decode prog_77_method_2_code 28 = .ok (.aload_n 0, 1) := by decide +kernel
theorem d3_29 : decode prog_77_method_2_code 29 = .ok (.getfield 7, 3) := by decide +kernel
theorem d3_32 : decode prog_77_method_2_code 32 = .ok (.aload_n 0, 1) := by decide +kernel
theorem d3_33 : decode prog_77_method_2_code 33 = .ok (.dup, 1) := by decide +kernel
theorem d3_34 : decode prog_77_method_2_code 34 = .ok (.getfield 17, 3) := by decide +kernel
theorem d3_37 : decode prog_77_method_2_code 37 = .ok (.dup_x1, 1) := by decide +kernel
theorem d3_38 : decode prog_77_method_2_code 38 = .ok (.iconst 1, 1) := by decide +kernel
theorem d3_39 : decode prog_77_method_2_code 39 = .ok (.iadd, 1) := by decide +kernel
theorem d3_40 : decode prog_77_method_2_code 40 = .ok (.putfield 17, 3) := by decide +kernel
theorem d3_43 : decode prog_77_method_2_code 43 = .ok (.baload, 1) := by decide +kernel
theorem d3_44 : decode prog_77_method_2_code 44 = .ok (.sipush 255, 3) := by decide +kernel
theorem d3_47 : decode prog_77_method_2_code 47 = .ok (.iand, 1) := by decide +kernel
theorem d3_48 : decode prog_77_method_2_code 48 = .ok (.ireturn, 1) := by decide +kernel
theorem pn3 : plainName "com/example/acervo/acervo/index/ByteArrayInput" = true := by first | (simp [plainName, overriddenIn]; done) | decide +kernel
theorem ef3 (m : MethodId) (o0 : Addr) : entryFrame m #[(.ref o0)] 1 = mkF m 0 #[.val (.ref o0)] [] := by first | (simp [entryFrame, mkF, argsToLocals, Value.category]; done) | rfl
def Q3 (Z : State) (o0 : Addr) (zp : Int32) (zn : Int32) (ob : Addr) (kb : ClassId) (x0 : Int32) (x1 : Int32) (x2 : Int32) (x3 : Int32) (h0 : Heap) (n0 : Nat) (v : Option Value) (h : Heap) (L : List Loc) : Prop := v = some (.int (w3_r1 zp x0 x1 x2 x3)) ∧ Fr n0 L ∧ Keep h0 h [o0] ∧ Exa Z h o0 "com/example/acervo/acervo/index/ByteArrayInput" ∧ Fld Z h o0 "com/example/acervo/acervo/index/ByteArrayInput" "position" "I" (.int (zp + (1 : Int32))) ∧ Fld Z h o0 "com/example/acervo/acervo/index/ByteArrayInput" "length" "I" (.int zn) ∧ Fld Z h o0 "com/example/acervo/acervo/index/ByteArrayInput" "bytes" "[B" (.ref ob)
set_option maxRecDepth 65536 in
set_option maxHeartbeats 40000000 in
theorem rm3 (l : Launch) (Z : State) (a0 : Array Value) (hw : ∀ d ∈ tables_1, d.before a0 Z = true) (ws : List Jvm.Cond) (o0 : Addr) (zp : Int32) (zn : Int32) (ob : Addr) (kb : ClassId) (x0 : Int32) (x1 : Int32) (x2 : Int32) (x3 : Int32) (h0 : Heap) (n0 : Nat) (Z0 : n0 ≤ h0.size) (E_o0 : Exa Z h0 o0 "com/example/acervo/acervo/index/ByteArrayInput") (F_o0_position : Fld Z h0 o0 "com/example/acervo/acervo/index/ByteArrayInput" "position" "I" (.int zp)) (F_o0_length : Fld Z h0 o0 "com/example/acervo/acervo/index/ByteArrayInput" "length" "I" (.int zn)) (F_o0_bytes : Fld Z h0 o0 "com/example/acervo/acervo/index/ByteArrayInput" "bytes" "[B" (.ref ob)) (V_ob : Arv Z h0 ob kb .byte (4 : Int32) [(.int x0), (.int x1), (.int x2), (.int x3)] (.int (0 : Int32))) (g_o0 : n0 ≤ o0) (hne : ¬ zp = zn) (hin : ¬ zp < 0 ∧ zp < (4 : Int32)) (ne_o0_ob : o0 ≠ ob) :
    MetFree l (⟨"com/example/acervo/acervo/index/ByteArrayInput", "read", "()I"⟩ : MethodName) (head1 (Jvm.Cond.code (⟨"com/example/acervo/acervo/index/ByteArrayInput", "read", "()I"⟩ : MethodName) prog_77_method_2_code 1 (some .int) :: ws) ({ frames := 0, cells := 0, slots := 0, locals := 0 } : Room)) (fun a U => a = #[(.ref o0)] ∧ Z.Warmed39 U.vm ∧ U.heap = h0) (fun _ _ _ _ _ => True) (fun _ U o U' => ∃ v L, o = .returned v ∧ Q3 Z o0 zp zn ob kb x0 x1 x2 x3 h0 n0 v U'.heap L ∧ FrameEnd U o U' L ({ frames := 0, cells := 0, slots := 0, locals := 0 } : Room).cells ({ frames := 0, cells := 0, slots := 0, locals := 0 } : Room).slots) := by
  refine MetFree.of_bodySF (plainFor_of_name pn3) hisR ?_
  intro p e s m args below meth c s₁ Bd hml0 hP hK
  obtain ⟨rfl, hZ, hh⟩ := hP
  have hlk : meth.locks = false := BodyLoose.notSynchronized Bd
  have hx := Bd.exec
  have hby := Bd.bytes
  have hml : c.maxLocals = 1 := hml0
  have hown : s.vm.findClass "com/example/acervo/acervo/index/ByteArrayInput" = some m.cls := findClass_of_methodNamed Bd.named
  have hnm := (name_of_methodNamed Bd.named Bd.method).1
  have X0 : Stand p l e ({ frames := 0, cells := 0, slots := 0, locals := 0 } : Room) s m #[(.ref o0)] below meth c s₁ [] 0 0 := Stand.of_body Bd
  have e0 : s₁.heap = h0 := by rw [← hh, Bd.state]; rfl
  have N0 := Fr.nil n0
  obtain ⟨S0, hS0⟩ : ∃ S0, S0 = s₁.setTop (entryFrame m #[(.ref o0)] 1) := ⟨_, rfl⟩
  have pre0 : ∀ t, Steps p.tables e below (s₁.setTop (mkF m 0 #[.val (.ref o0)] [])) t → Steps p.tables e below S0 t := fun t k => by rw [hS0]; exact castTop (ef3 m o0) k
  have K1 : ∀ t, Steps p.tables e below (s₁.setTop (mkF m 1 #[.val (.ref o0)] [(.ref o0)])) t → Steps p.tables e below S0 t := fun t k => pre0 t (by
    refine XS.aloadN X0.here hx rfl (hb hby d3_0) rfl rfl ?_
    show Steps p.tables e below (s₁.setTop (mkF m 1 #[.val (.ref o0)] [(.ref o0)])) _
    exact k)
  obtain ⟨T2, X2, e2, st2⟩ := getF X0 hx hZ hown (host := "") (Or.inl (hw _ (List.mem_of_getElem? (i := 24) rfl))) Via.refl e0 F_o0_position (g := (mkF m 1 #[.val (.ref o0)] [(.ref o0)])) rfl rfl (hb hby d3_1)
  have K2 : ∀ t, Steps p.tables e below (T2.setTop (mkF m 4 #[.val (.ref o0)] [(.int zp)])) t → Steps p.tables e below S0 t := fun t k => K1 t (st2 t k)
  have K3 : ∀ t, Steps p.tables e below (T2.setTop (mkF m 5 #[.val (.ref o0)] [(.ref o0), (.int zp)])) t → Steps p.tables e below S0 t := fun t k => K2 t (by
    refine XS.aloadN X2.here hx rfl (hb hby d3_4) rfl rfl ?_
    show Steps p.tables e below (T2.setTop (mkF m 5 #[.val (.ref o0)] [(.ref o0), (.int zp)])) _
    exact k)
  obtain ⟨T4, X4, e4, st4⟩ := getF X2 hx hZ hown (host := "") (Or.inl (hw _ (List.mem_of_getElem? (i := 13) rfl))) Via.refl e2 F_o0_length (g := (mkF m 5 #[.val (.ref o0)] [(.ref o0), (.int zp)])) rfl rfl (hb hby d3_5)
  have K4 : ∀ t, Steps p.tables e below (T4.setTop (mkF m 8 #[.val (.ref o0)] [(.int zn), (.int zp)])) t → Steps p.tables e below S0 t := fun t k => K3 t (st4 t k)
  have hf5 : ¬ (zp = zn) := hne
  have K6 : ∀ t, Steps p.tables e below (T4.setTop (mkF m 29 #[.val (.ref o0)] [(.ref o0)])) t → Steps p.tables e below S0 t := fun t k => K4 t (by
    refine XS.icmpYes X4.here hx rfl (pc0 := 8) (pc' := 28) rfl (hb hby d3_8) rfl (XT.ii_ne_t hf5) (by decide) (by decide) ?_
    show Steps p.tables e below (T4.setTop (mkF m 28 #[.val (.ref o0)] [])) _
    refine XS.aloadN X4.here hx rfl (hb hby d3_28) rfl rfl ?_
    show Steps p.tables e below (T4.setTop (mkF m 29 #[.val (.ref o0)] [(.ref o0)])) _
    exact k)
  obtain ⟨T7, X7, e7, st7⟩ := getF X4 hx hZ hown (host := "") (Or.inl (hw _ (List.mem_of_getElem? (i := 11) rfl))) Via.refl e4 F_o0_bytes (g := (mkF m 29 #[.val (.ref o0)] [(.ref o0)])) rfl rfl (hb hby d3_29)
  have K7 : ∀ t, Steps p.tables e below (T7.setTop (mkF m 32 #[.val (.ref o0)] [(.ref ob)])) t → Steps p.tables e below S0 t := fun t k => K6 t (st7 t k)
  have K8 : ∀ t, Steps p.tables e below (T7.setTop (mkF m 34 #[.val (.ref o0)] [(.ref o0), (.ref o0), (.ref ob)])) t → Steps p.tables e below S0 t := fun t k => K7 t (by
    refine XS.aloadN X7.here hx rfl (hb hby d3_32) rfl rfl ?_
    show Steps p.tables e below (T7.setTop (mkF m 33 #[.val (.ref o0)] [(.ref o0), (.ref ob)])) _
    refine XS.dup X7.here hx rfl (hb hby d3_33) rfl rfl ?_
    show Steps p.tables e below (T7.setTop (mkF m 34 #[.val (.ref o0)] [(.ref o0), (.ref o0), (.ref ob)])) _
    exact k)
  obtain ⟨T9, X9, e9, st9⟩ := getF X7 hx hZ hown (host := "") (Or.inl (hw _ (List.mem_of_getElem? (i := 24) rfl))) Via.refl e7 F_o0_position (g := (mkF m 34 #[.val (.ref o0)] [(.ref o0), (.ref o0), (.ref ob)])) rfl rfl (hb hby d3_34)
  have K9 : ∀ t, Steps p.tables e below (T9.setTop (mkF m 37 #[.val (.ref o0)] [(.int zp), (.ref o0), (.ref ob)])) t → Steps p.tables e below S0 t := fun t k => K8 t (st9 t k)
  have K10 : ∀ t, Steps p.tables e below (T9.setTop (mkF m 40 #[.val (.ref o0)] [(.int (zp + (1 : Int32))), (.ref o0), (.int zp), (.ref ob)])) t → Steps p.tables e below S0 t := fun t k => K9 t (by
    refine XS.dupX1 X9.here hx rfl (hb hby d3_37) rfl rfl rfl ?_
    show Steps p.tables e below (T9.setTop (mkF m 38 #[.val (.ref o0)] [(.int zp), (.ref o0), (.int zp), (.ref ob)])) _
    refine XS.iconst X9.here hx rfl (hb hby d3_38) ?_
    show Steps p.tables e below (T9.setTop (mkF m 39 #[.val (.ref o0)] [(.int (1 : Int32)), (.int zp), (.ref o0), (.int zp), (.ref ob)])) _
    refine XS.iadd X9.here hx rfl (hb hby d3_39) rfl ?_
    show Steps p.tables e below (T9.setTop (mkF m 40 #[.val (.ref o0)] [(.int (zp + (1 : Int32))), (.ref o0), (.int zp), (.ref ob)])) _
    exact k)
  obtain ⟨T11, h11, X11, e11, W11, st11⟩ := putF X9 hx hZ hown (host := "") (Or.inl (hw _ (List.mem_of_getElem? (i := 24) rfl))) Via.refl e9 F_o0_position E_o0 (Or.inl (hw _ (List.mem_of_getElem? (i := 25) rfl))) (hw _ (List.mem_of_getElem? (i := 3) rfl)) (ty := .int) (by decide) rfl rfl (g := (mkF m 40 #[.val (.ref o0)] [(.int (zp + (1 : Int32))), (.ref o0), (.int zp), (.ref ob)])) rfl rfl (hb hby d3_40)
  have F_o0_position__11 := F_o0_position.same W11
  have E_o0__11 := E_o0.wr W11
  have F_o0_length__11 := F_o0_length.other W11 (Or.inr (slot_ne (Or.inr (hw _ (List.mem_of_getElem? (i := 14) rfl))) (Or.inl (hw _ (List.mem_of_getElem? (i := 25) rfl))) (by decide) (t := .int) (t' := .int) (by decide) (by decide)))
  have F_o0_bytes__11 := F_o0_bytes.other W11 (Or.inr (slot_ne (Or.inr (hw _ (List.mem_of_getElem? (i := 12) rfl))) (Or.inl (hw _ (List.mem_of_getElem? (i := 25) rfl))) (by decide) (t := (.array .byte)) (t' := .int) (by decide) (by decide)))
  have V_ob__11 := V_ob.other W11 (Ne.symm ne_o0_ob)
  have N11 := Fr.snoc X11 N0 g_o0
  have Zs11 : n0 ≤ h11.size := Nat.le_trans Z0 (Nat.le_of_eq W11.size.symm)
  have Kc11 : Keep h0 h11 [o0] := (Keep.refl h0 [o0]).wr W11 (Or.inl (List.mem_of_getElem? (i := 0) rfl))
  have K11 : ∀ t, Steps p.tables e below (T11.setTop (mkF m 43 #[.val (.ref o0)] [(.int zp), (.ref ob)])) t → Steps p.tables e below S0 t := fun t k => K10 t (st11 t k)
  have K_12 : ∀ t, Steps p.tables e below (T11.setTop (mkF m 43 #[.val (.ref o0)] [(.int zp), (.ref ob)])) t → Steps p.tables e below S0 t := K11
  obtain ⟨cl13, Ar13, qa13, sa13, na13, ha13, ga13⟩ := id V_ob__11
  have hin13 : ¬ (zp < 0 ∨ cl13.slots.size ≤ (zp).toNatClampNeg) := inb_of sa13 hin
  have hat13 : cl13.slots[(zp).toNatClampNeg]? = some (.int (own_get [x0, x1, x2, x3] zp)) := Has.at ha13 hin13 (own_getD [x0, x1, x2, x3] zp)
  have K13 : ∀ t, Steps p.tables e below (T11.setTop (mkF m 44 #[.val (.ref o0)] [(.int (own_get [x0, x1, x2, x3] zp))])) t → Steps p.tables e below S0 t := fun t k => K_12 t (X11.baloadBytes hx (j := zp) (v := (.int (own_get [x0, x1, x2, x3] zp))) (by rw [e11]; exact Ar13.1) (State.isArrayOf_alike hZ.alike Ar13.2.1) Ar13.2.2 hin13 hat13 (g := (mkF m 43 #[.val (.ref o0)] [(.int zp), (.ref ob)])) rfl rfl (hb hby d3_43) _ k)
  have K14 : ∀ t, Steps p.tables e below (T11.setTop (mkF m 48 #[.val (.ref o0)] [(.int ((own_get [x0, x1, x2, x3] zp) &&& (255 : Int32)))])) t → Steps p.tables e below S0 t := fun t k => K13 t (by
    refine XS.sipush X11.here hx rfl (hb hby d3_44) ?_
    show Steps p.tables e below (T11.setTop (mkF m 47 #[.val (.ref o0)] [(.int (255 : Int32)), (.int (own_get [x0, x1, x2, x3] zp))])) _
    refine XS.iand X11.here hx rfl (hb hby d3_47) rfl ?_
    show Steps p.tables e below (T11.setTop (mkF m 48 #[.val (.ref o0)] [(.int ((own_get [x0, x1, x2, x3] zp) &&& (255 : Int32)))])) _
    exact k)
  obtain ⟨fs, hr, hrun, hended, hW, hsame⟩ := X11.leave (v := some (.int ((own_get [x0, x1, x2, x3] zp) &&& (255 : Int32)))) (fun h => by rw [Bd.returns] at h; cases h) hlk
  refine ⟨_, _, ?_, hrun, hended, _, _, rfl, ?_, ⟨_, rfl⟩, hW, hsame.mono (by decide) (by decide)⟩
  · rw [← hS0]; exact K14 _ (retI X11 hx Bd.returns (hb hby d3_48) hr)
  · show Q3 Z o0 zp zn ob kb x0 x1 x2 x3 h0 n0 _ T11.heap _
    rw [e11]
    have qr : ((own_get [x0, x1, x2, x3] zp) &&& (255 : Int32)) = (w3_r1 zp x0 x1 x2 x3) := rfl
    exact ⟨congrArg (fun z => some (Value.int z)) qr, N11, Kc11, E_o0__11, F_o0_position__11, F_o0_length__11, F_o0_bytes__11⟩
theorem d4_0 : decode method_2_code 0 = .ok (.aload_n 0, 1) := by decide +kernel
theorem d4_1 : decode method_2_code 1 = .ok (.invokevirtual 7, 3) := by decide +kernel
theorem d4_4 : decode method_2_code 4 = .ok (.iload_n 2, 1) := by decide +kernel
theorem d4_5 : decode method_2_code 5 = .ok (.if_icmp .ne 5, 3) := by decide +kernel
theorem d4_8 : decode method_2_code 8 = .ok (.iconst 0, 1) := by decide +kernel
theorem d4_9 : decode method_2_code 9 = .ok (.ireturn, 1) := by decide +kernel
theorem d4_10 : decode method_2_code 10 = .ok (.iload_n 2, 1) := by decide +kernel
theorem d4_11 : decode method_2_code 11 = .ok (.ifCond .ne 5, 3) := by decide +kernel
theorem d4_14 : decode method_2_code 14 = .ok (.iconst 1, 1) := by decide +kernel
theorem d4_15 : decode method_2_code 15 = .ok (.ireturn, 1) := by decide +kernel
theorem d4_16 : decode method_2_code 16 = .ok (.aload_n 0, 1) := by decide +kernel
theorem d4_17 : decode method_2_code 17 = .ok (.invokevirtual 13, 3) := by decide +kernel
theorem d4_20 : decode method_2_code 20 = .ok (.istore_n 3, 1) := by decide +kernel
theorem d4_21 : decode method_2_code 21 = .ok (.iload_n 3, 1) := by decide +kernel
theorem d4_22 : decode method_2_code 22 = .ok (.iload_n 1, 1) := by decide +kernel
theorem d4_23 : decode method_2_code 23 = .ok (.sipush 255, 3) := by decide +kernel
theorem d4_26 : decode method_2_code 26 = .ok (.iand, 1) := by decide +kernel
theorem d4_27 : decode method_2_code 27 = .ok (.if_icmp .ne 7, 3) := by decide +kernel
theorem d4_30 : decode method_2_code 30 = .ok (.iconst 1, 1) := by decide +kernel
theorem d4_31 : decode method_2_code 31 = .ok (.goto 4, 3) := by decide +kernel
theorem d4_34 : decode method_2_code 34 = .ok (.iconst 0, 1) := by decide +kernel
theorem d4_35 : decode method_2_code 35 = .ok (.ireturn, 1) := by decide +kernel
theorem pn4 : plainName "com/example/acervo/acervo/index/ByteArrayInputReadPinLaw" = true := by first | (simp [plainName, overriddenIn]; done) | decide +kernel
theorem pd4_0 : parseMethodDescriptor "()Z" = some ⟨[], some .boolean⟩ := by decide +kernel
theorem pd4_1 : parseMethodDescriptor "()I" = some ⟨[], some .int⟩ := by decide +kernel
theorem ef4 (m : MethodId) (o0 : Addr) (p1 : Int32) (p2 : Int32) : entryFrame m #[(.ref o0), (.int p1), (.int p2)] 4 = mkF m 0 #[.val (.ref o0), .val (.int p1), .val (.int p2), .unset] [] := by first | (simp [entryFrame, mkF, argsToLocals, Value.category]; done) | rfl
def Q4 (Z : State) (o0 : Addr) (p1 : Int32) (p2 : Int32) (zp : Int32) (zn : Int32) (ob : Addr) (kb : ClassId) (x0 : Int32) (x1 : Int32) (x2 : Int32) (x3 : Int32) (h0 : Heap) (n0 : Nat) (v : Option Value) (h : Heap) (L : List Loc) : Prop := v = some (.int (w4_r1 p1 p2 zp zn x0 x1 x2 x3)) ∧ Fr n0 L ∧ Keep h0 h [o0] ∧ Exa Z h o0 "com/example/acervo/acervo/index/ByteArrayInput" ∧ Fld Z h o0 "com/example/acervo/acervo/index/ByteArrayInput" "position" "I" (.int (w4_f2 p2 zp zn)) ∧ Fld Z h o0 "com/example/acervo/acervo/index/ByteArrayInput" "length" "I" (.int zn) ∧ Fld Z h o0 "com/example/acervo/acervo/index/ByteArrayInput" "bytes" "[B" (.ref ob)
set_option maxRecDepth 65536 in
set_option maxHeartbeats 40000000 in
theorem rm4 (l : Launch) (Z : State) (a0 : Array Value) (hw : ∀ d ∈ tables_1, d.before a0 Z = true) (ws : List Jvm.Cond) (o0 : Addr) (p1 : Int32) (p2 : Int32) (zp : Int32) (zn : Int32) (ob : Addr) (kb : ClassId) (x0 : Int32) (x1 : Int32) (x2 : Int32) (x3 : Int32) (h0 : Heap) (n0 : Nat) (Z0 : n0 ≤ h0.size) (E_o0 : Exa Z h0 o0 "com/example/acervo/acervo/index/ByteArrayInput") (F_o0_position : Fld Z h0 o0 "com/example/acervo/acervo/index/ByteArrayInput" "position" "I" (.int zp)) (F_o0_length : Fld Z h0 o0 "com/example/acervo/acervo/index/ByteArrayInput" "length" "I" (.int zn)) (F_o0_bytes : Fld Z h0 o0 "com/example/acervo/acervo/index/ByteArrayInput" "bytes" "[B" (.ref ob)) (V_ob : Arv Z h0 ob kb .byte (4 : Int32) [(.int x0), (.int x1), (.int x2), (.int x3)] (.int (0 : Int32))) (g_o0 : n0 ≤ o0) (h01 : p2 = 0 ∨ p2 = 1) (hin : ¬ zp = zn → ¬ zp < 0 ∧ zp < (4 : Int32)) (ne_o0_ob : o0 ≠ ob) :
    MetFree l (⟨"com/example/acervo/acervo/index/ByteArrayInputReadPinLaw", "step", "(Lcom/example/acervo/acervo/index/ByteArrayInput;IZ)Z"⟩ : MethodName) (head1 (Jvm.Cond.code (⟨"com/example/acervo/acervo/index/ByteArrayInputReadPinLaw", "step", "(Lcom/example/acervo/acervo/index/ByteArrayInput;IZ)Z"⟩ : MethodName) method_2_code 4 (some .boolean) :: ws) ({ frames := 1, cells := 0, slots := 0, locals := 12 } : Room)) (fun a U => a = #[(.ref o0), (.int p1), (.int p2)] ∧ Z.Warmed39 U.vm ∧ U.heap = h0) (fun _ _ _ _ _ => True) (fun _ U o U' => ∃ v L, o = .returned v ∧ Q4 Z o0 p1 p2 zp zn ob kb x0 x1 x2 x3 h0 n0 v U'.heap L ∧ FrameEnd U o U' L ({ frames := 1, cells := 0, slots := 0, locals := 12 } : Room).cells ({ frames := 1, cells := 0, slots := 0, locals := 12 } : Room).slots) := by
  refine MetFree.of_bodySF (plainFor_of_name pn4) hisR ?_
  intro p e s m args below meth c s₁ Bd hml0 hP hK
  obtain ⟨rfl, hZ, hh⟩ := hP
  have hlk : meth.locks = false := BodyLoose.notSynchronized Bd
  have hx := Bd.exec
  have hby := Bd.bytes
  have hml : c.maxLocals = 4 := hml0
  have hown : s.vm.findClass "com/example/acervo/acervo/index/ByteArrayInputReadPinLaw" = some m.cls := findClass_of_methodNamed Bd.named
  have hnm := (name_of_methodNamed Bd.named Bd.method).1
  have X0 : Stand p l e ({ frames := 1, cells := 0, slots := 0, locals := 12 } : Room) s m #[(.ref o0), (.int p1), (.int p2)] below meth c s₁ [] 0 0 := Stand.of_body Bd
  have e0 : s₁.heap = h0 := by rw [← hh, Bd.state]; rfl
  have N0 := Fr.nil n0
  obtain ⟨S0, hS0⟩ : ∃ S0, S0 = s₁.setTop (entryFrame m #[(.ref o0), (.int p1), (.int p2)] 4) := ⟨_, rfl⟩
  have pre0 : ∀ t, Steps p.tables e below (s₁.setTop (mkF m 0 #[.val (.ref o0), .val (.int p1), .val (.int p2), .unset] [])) t → Steps p.tables e below S0 t := fun t k => by rw [hS0]; exact castTop (ef4 m o0 p1 p2) k
  have K1 : ∀ t, Steps p.tables e below (s₁.setTop (mkF m 1 #[.val (.ref o0), .val (.int p1), .val (.int p2), .unset] [(.ref o0)])) t → Steps p.tables e below S0 t := fun t k => pre0 t (by
    refine XS.aloadN X0.here hx rfl (hb hby d4_0) rfl rfl ?_
    show Steps p.tables e below (s₁.setTop (mkF m 1 #[.val (.ref o0), .val (.int p1), .val (.int p2), .unset] [(.ref o0)])) _
    exact k)
  have K_2 : ∀ t, Steps p.tables e below (s₁.setTop (mkF m 1 #[.val (.ref o0), .val (.int p1), .val (.int p2), .unset] [(.ref o0)])) t → Steps p.tables e below S0 t := K1
  obtain ⟨cq3, kq3, q3a, q3b, q3c⟩ := isOf hZ e0 E_o0
  obtain ⟨_, _, ⟨T3, L3, k3, n3⟩, -, X3, ⟨Lc3, hQ3, l3, y3, z3⟩, st3⟩ := X0.virtualBack hx (y := (⟨"com/example/acervo/acervo/index/ByteArrayInput", "atEnd", "()Z"⟩ : MethodName)) (z := (⟨"com/example/acervo/acervo/index/ByteArrayInput", "atEnd", "()Z"⟩ : MethodName)) hown (mvT hZ (hw _ (List.mem_of_getElem? (i := 19) rfl))) (mvT hZ (hw _ (List.mem_of_getElem? (i := 20) rfl))) (notFace_of_selects (args := #[]) (mvT hZ (hw _ (List.mem_of_getElem? (i := 22) rfl)))) (mvT hZ (hw _ (List.mem_of_getElem? (i := 22) rfl))) (mvT hZ (hw _ (List.mem_of_getElem? (i := 21) rfl))) (by decide) (backOf (W := 0) (rm2 l Z a0 hw [] o0 zp zn h0 n0 Z0 F_o0_position F_o0_length) hZ (hw _ (List.mem_of_getElem? (i := 23) rfl)) (hw _ (List.mem_of_getElem? (i := 4) rfl)) (by decide) (by decide)) q3a q3c (g := (mkF m 1 #[.val (.ref o0), .val (.int p1), .val (.int p2), .unset] [(.ref o0)])) rfl (by rw [hml]; rfl) (Steps.refl _) (argsL := []) (rest := []) (lenOf pd4_0 rfl) rfl (by show 2 * 0 + _ ≤ _; exact Nat.le_of_eq rfl) (hb hby d4_1) (fun _ _ => ⟨rfl, e0, (by decide : 0 + 0 ≤ 0), (by decide : 0 + 0 ≤ 0)⟩)
  dsimp only [Pt.U, Pt.locs, Pt.cells, Pt.slots] at X3 l3 y3 z3 st3 hQ3
  subst l3 y3 z3
  obtain ⟨rfl, N3q, e3⟩ := hQ3
  have N3 := Fr.app N0 N3q
  have K3 : ∀ t, Steps p.tables e below (T3.setTop (mkF m 4 #[.val (.ref o0), .val (.int p1), .val (.int p2), .unset] [(.int (w2_r1 zp zn))])) t → Steps p.tables e below S0 t := fun t k => K_2 t (st3.trans k)
  have K4 : ∀ t, Steps p.tables e below (T3.setTop (mkF m 5 #[.val (.ref o0), .val (.int p1), .val (.int p2), .unset] [(.int p2), (.int (w2_r1 zp zn))])) t → Steps p.tables e below S0 t := fun t k => K3 t (by
    refine XS.iloadN X3.here hx rfl (hb hby d4_4) rfl ?_
    show Steps p.tables e below (T3.setTop (mkF m 5 #[.val (.ref o0), .val (.int p1), .val (.int p2), .unset] [(.int p2), (.int (w2_r1 zp zn))])) _
    exact k)
  by_cases hc5_0 : (w2_r1 zp zn) = p2
  · -- yes
    have K5 : ∀ t, Steps p.tables e below (T3.setTop (mkF m 9 #[.val (.ref o0), .val (.int p1), .val (.int p2), .unset] [(.int (0 : Int32))])) t → Steps p.tables e below S0 t := fun t k => K4 t (by
      refine XS.icmpNo X3.here hx rfl (hb hby d4_5) rfl (XT.ii_ne_f hc5_0) ?_
      show Steps p.tables e below (T3.setTop (mkF m 8 #[.val (.ref o0), .val (.int p1), .val (.int p2), .unset] [])) _
      refine XS.iconst X3.here hx rfl (hb hby d4_8) ?_
      show Steps p.tables e below (T3.setTop (mkF m 9 #[.val (.ref o0), .val (.int p1), .val (.int p2), .unset] [(.int (0 : Int32))])) _
      exact k)
    obtain ⟨fs, hr, hrun, hended, hW, hsame⟩ := X3.leave (v := some (.int (0 : Int32))) (fun h => by rw [Bd.returns] at h; cases h) hlk
    refine ⟨_, _, ?_, hrun, hended, _, _, rfl, ?_, ⟨_, rfl⟩, hW, hsame.mono (by decide) (by decide)⟩
    · rw [← hS0]; exact K5 _ (retN X3 hx (t := .boolean) Bd.returns (by simp) (hb hby d4_9) hr)
    · show Q4 Z o0 p1 p2 zp zn ob kb x0 x1 x2 x3 h0 n0 _ T3.heap _
      rw [e3]
      have qr : (0 : Int32) = (w4_r1 p1 p2 zp zn x0 x1 x2 x3) := by unfold w4_r1; rw [if_pos hc5_0]
      have qf6 : (w4_f2 p2 zp zn) = zp := by unfold w4_f2; rw [if_pos hc5_0]
      exact ⟨congrArg (fun z => some (Value.int z)) qr, N3, (Keep.refl h0 [o0]), E_o0, (by rw [qf6]; exact F_o0_position), F_o0_length, F_o0_bytes⟩
  · -- no
    have K7 : ∀ t, Steps p.tables e below (T3.setTop (mkF m 11 #[.val (.ref o0), .val (.int p1), .val (.int p2), .unset] [(.int p2)])) t → Steps p.tables e below S0 t := fun t k => K4 t (by
      refine XS.icmpYes X3.here hx rfl (pc0 := 5) (pc' := 10) rfl (hb hby d4_5) rfl (XT.ii_ne_t hc5_0) (by decide) (by decide) ?_
      show Steps p.tables e below (T3.setTop (mkF m 10 #[.val (.ref o0), .val (.int p1), .val (.int p2), .unset] [])) _
      refine XS.iloadN X3.here hx rfl (hb hby d4_10) rfl ?_
      show Steps p.tables e below (T3.setTop (mkF m 11 #[.val (.ref o0), .val (.int p1), .val (.int p2), .unset] [(.int p2)])) _
      exact k)
    by_cases hc11_1 : p2 = (0 : Int32)
    · -- yes
      have K8 : ∀ t, Steps p.tables e below (T3.setTop (mkF m 15 #[.val (.ref o0), .val (.int p1), .val (.int p2), .unset] [(.int (1 : Int32))])) t → Steps p.tables e below S0 t := fun t k => K7 t (by
        refine XS.ifNo X3.here hx rfl (hb hby d4_11) rfl (XT.i0_ne_f hc11_1) ?_
        show Steps p.tables e below (T3.setTop (mkF m 14 #[.val (.ref o0), .val (.int p1), .val (.int p2), .unset] [])) _
        refine XS.iconst X3.here hx rfl (hb hby d4_14) ?_
        show Steps p.tables e below (T3.setTop (mkF m 15 #[.val (.ref o0), .val (.int p1), .val (.int p2), .unset] [(.int (1 : Int32))])) _
        exact k)
      obtain ⟨fs, hr, hrun, hended, hW, hsame⟩ := X3.leave (v := some (.int (1 : Int32))) (fun h => by rw [Bd.returns] at h; cases h) hlk
      refine ⟨_, _, ?_, hrun, hended, _, _, rfl, ?_, ⟨_, rfl⟩, hW, hsame.mono (by decide) (by decide)⟩
      · rw [← hS0]; exact K8 _ (retN X3 hx (t := .boolean) Bd.returns (by simp) (hb hby d4_15) hr)
      · show Q4 Z o0 p1 p2 zp zn ob kb x0 x1 x2 x3 h0 n0 _ T3.heap _
        rw [e3]
        have qr : (1 : Int32) = (w4_r1 p1 p2 zp zn x0 x1 x2 x3) := by unfold w4_r1; rw [if_neg hc5_0, if_pos hc11_1]
        have qf9 : (w4_f2 p2 zp zn) = zp := by unfold w4_f2; rw [if_neg hc5_0, if_pos hc11_1]
        exact ⟨congrArg (fun z => some (Value.int z)) qr, N3, (Keep.refl h0 [o0]), E_o0, (by rw [qf9]; exact F_o0_position), F_o0_length, F_o0_bytes⟩
    · -- no
      have K10 : ∀ t, Steps p.tables e below (T3.setTop (mkF m 17 #[.val (.ref o0), .val (.int p1), .val (.int p2), .unset] [(.ref o0)])) t → Steps p.tables e below S0 t := fun t k => K7 t (by
        refine XS.ifYes X3.here hx rfl (pc0 := 11) (pc' := 16) rfl (hb hby d4_11) rfl (XT.i0_ne_t hc11_1) (by decide) (by decide) ?_
        show Steps p.tables e below (T3.setTop (mkF m 16 #[.val (.ref o0), .val (.int p1), .val (.int p2), .unset] [])) _
        refine XS.aloadN X3.here hx rfl (hb hby d4_16) rfl rfl ?_
        show Steps p.tables e below (T3.setTop (mkF m 17 #[.val (.ref o0), .val (.int p1), .val (.int p2), .unset] [(.ref o0)])) _
        exact k)
      have K_11 : ∀ t, Steps p.tables e below (T3.setTop (mkF m 17 #[.val (.ref o0), .val (.int p1), .val (.int p2), .unset] [(.ref o0)])) t → Steps p.tables e below S0 t := K10
      obtain ⟨cq12, kq12, q12a, q12b, q12c⟩ := isOf hZ e3 E_o0
      obtain ⟨_, _, ⟨T12, L12, k12, n12⟩, -, X12, ⟨Lc12, hQ12, l12, y12, z12⟩, st12⟩ := X3.virtualBack hx (y := (⟨"com/example/acervo/acervo/index/ByteArrayInput", "read", "()I"⟩ : MethodName)) (z := (⟨"com/example/acervo/acervo/index/ByteArrayInput", "read", "()I"⟩ : MethodName)) hown (mvT hZ (hw _ (List.mem_of_getElem? (i := 26) rfl))) (mvT hZ (hw _ (List.mem_of_getElem? (i := 27) rfl))) (notFace_of_selects (args := #[]) (mvT hZ (hw _ (List.mem_of_getElem? (i := 29) rfl)))) (mvT hZ (hw _ (List.mem_of_getElem? (i := 29) rfl))) (mvT hZ (hw _ (List.mem_of_getElem? (i := 28) rfl))) (by decide) (backOf (W := 0) (rm3 l Z a0 hw [] o0 zp zn ob kb x0 x1 x2 x3 h0 n0 Z0 E_o0 F_o0_position F_o0_length F_o0_bytes V_ob g_o0 (own_st zp zn p2 h01 hc5_0 hc11_1) (hin (own_st zp zn p2 h01 hc5_0 hc11_1)) ne_o0_ob) hZ (hw _ (List.mem_of_getElem? (i := 30) rfl)) (hw _ (List.mem_of_getElem? (i := 4) rfl)) (by decide) (by decide)) q12a q12c (g := (mkF m 17 #[.val (.ref o0), .val (.int p1), .val (.int p2), .unset] [(.ref o0)])) rfl (by rw [hml]; rfl) (Steps.refl _) (argsL := []) (rest := []) (lenOf pd4_1 rfl) rfl (by show 2 * 0 + _ ≤ _; exact Nat.le_of_eq rfl) (hb hby d4_17) (fun _ _ => ⟨rfl, e3, (by decide : 0 + 0 ≤ 0), (by decide : 0 + 0 ≤ 0)⟩)
      dsimp only [Pt.U, Pt.locs, Pt.cells, Pt.slots] at X12 l12 y12 z12 st12 hQ12
      subst l12 y12 z12
      obtain ⟨rfl, N12q, Kp12, Fn12_0, Fn12_1, Fn12_2, Fn12_3⟩ := hQ12
      have N12 := Fr.app N3 N12q
      have V_ob__12 := V_ob.keep Kp12 (ninS (Ne.symm ne_o0_ob) nin0)
      have Zs12 : n0 ≤ T12.heap.size := Nat.le_trans Z0 Kp12.1
      have Kc12 : Keep h0 T12.heap [o0] := (Keep.refl h0 [o0]).trans Kp12 (allS (P := fun x => x ∈ [o0] ∨ h0.size ≤ x) (Or.inl (List.mem_of_getElem? (i := 0) rfl)) all0)
      have K12 : ∀ t, Steps p.tables e below (T12.setTop (mkF m 20 #[.val (.ref o0), .val (.int p1), .val (.int p2), .unset] [(.int (w3_r1 zp x0 x1 x2 x3))])) t → Steps p.tables e below S0 t := fun t k => K_11 t (st12.trans k)
      have K13 : ∀ t, Steps p.tables e below (T12.setTop (mkF m 27 #[.val (.ref o0), .val (.int p1), .val (.int p2), .val (.int (w3_r1 zp x0 x1 x2 x3))] [(.int (p1 &&& (255 : Int32))), (.int (w3_r1 zp x0 x1 x2 x3))])) t → Steps p.tables e below S0 t := fun t k => K12 t (by
        refine XS.istoreN X12.here hx rfl (hb hby d4_20) rfl (l' := #[.val (.ref o0), .val (.int p1), .val (.int p2), .val (.int (w3_r1 zp x0 x1 x2 x3))]) rfl ?_
        show Steps p.tables e below (T12.setTop (mkF m 21 #[.val (.ref o0), .val (.int p1), .val (.int p2), .val (.int (w3_r1 zp x0 x1 x2 x3))] [])) _
        refine XS.iloadN X12.here hx rfl (hb hby d4_21) rfl ?_
        show Steps p.tables e below (T12.setTop (mkF m 22 #[.val (.ref o0), .val (.int p1), .val (.int p2), .val (.int (w3_r1 zp x0 x1 x2 x3))] [(.int (w3_r1 zp x0 x1 x2 x3))])) _
        refine XS.iloadN X12.here hx rfl (hb hby d4_22) rfl ?_
        show Steps p.tables e below (T12.setTop (mkF m 23 #[.val (.ref o0), .val (.int p1), .val (.int p2), .val (.int (w3_r1 zp x0 x1 x2 x3))] [(.int p1), (.int (w3_r1 zp x0 x1 x2 x3))])) _
        refine XS.sipush X12.here hx rfl (hb hby d4_23) ?_
        show Steps p.tables e below (T12.setTop (mkF m 26 #[.val (.ref o0), .val (.int p1), .val (.int p2), .val (.int (w3_r1 zp x0 x1 x2 x3))] [(.int (255 : Int32)), (.int p1), (.int (w3_r1 zp x0 x1 x2 x3))])) _
        refine XS.iand X12.here hx rfl (hb hby d4_26) rfl ?_
        show Steps p.tables e below (T12.setTop (mkF m 27 #[.val (.ref o0), .val (.int p1), .val (.int p2), .val (.int (w3_r1 zp x0 x1 x2 x3))] [(.int (p1 &&& (255 : Int32))), (.int (w3_r1 zp x0 x1 x2 x3))])) _
        exact k)
      by_cases hc27_2 : (w3_r1 zp x0 x1 x2 x3) = (p1 &&& (255 : Int32))
      · -- yes
        have K14 : ∀ t, Steps p.tables e below (T12.setTop (mkF m 35 #[.val (.ref o0), .val (.int p1), .val (.int p2), .val (.int (w3_r1 zp x0 x1 x2 x3))] [(.int (1 : Int32))])) t → Steps p.tables e below S0 t := fun t k => K13 t (by
          refine XS.icmpNo X12.here hx rfl (hb hby d4_27) rfl (XT.ii_ne_f hc27_2) ?_
          show Steps p.tables e below (T12.setTop (mkF m 30 #[.val (.ref o0), .val (.int p1), .val (.int p2), .val (.int (w3_r1 zp x0 x1 x2 x3))] [])) _
          refine XS.iconst X12.here hx rfl (hb hby d4_30) ?_
          show Steps p.tables e below (T12.setTop (mkF m 31 #[.val (.ref o0), .val (.int p1), .val (.int p2), .val (.int (w3_r1 zp x0 x1 x2 x3))] [(.int (1 : Int32))])) _
          refine XS.goto X12.here hx rfl (pc0 := 31) (pc' := 35) rfl (hb hby d4_31) (by decide) (by decide) ?_
          show Steps p.tables e below (T12.setTop (mkF m 35 #[.val (.ref o0), .val (.int p1), .val (.int p2), .val (.int (w3_r1 zp x0 x1 x2 x3))] [(.int (1 : Int32))])) _
          exact k)
        obtain ⟨fs, hr, hrun, hended, hW, hsame⟩ := X12.leave (v := some (.int (1 : Int32))) (fun h => by rw [Bd.returns] at h; cases h) hlk
        refine ⟨_, _, ?_, hrun, hended, _, _, rfl, ?_, ⟨_, rfl⟩, hW, hsame.mono (by decide) (by decide)⟩
        · rw [← hS0]; exact K14 _ (retN X12 hx (t := .boolean) Bd.returns (by simp) (hb hby d4_35) hr)
        · show Q4 Z o0 p1 p2 zp zn ob kb x0 x1 x2 x3 h0 n0 _ T12.heap _
          have qr : (1 : Int32) = (w4_r1 p1 p2 zp zn x0 x1 x2 x3) := by unfold w4_r1; rw [if_neg hc5_0, if_neg hc11_1, if_pos hc27_2]
          have qf15 : (w4_f2 p2 zp zn) = (zp + (1 : Int32)) := by unfold w4_f2; rw [if_neg hc5_0, if_neg hc11_1]
          exact ⟨congrArg (fun z => some (Value.int z)) qr, N12, Kc12, Fn12_0, (by rw [qf15]; exact Fn12_1), Fn12_2, Fn12_3⟩
      · -- no
        have K16 : ∀ t, Steps p.tables e below (T12.setTop (mkF m 35 #[.val (.ref o0), .val (.int p1), .val (.int p2), .val (.int (w3_r1 zp x0 x1 x2 x3))] [(.int (0 : Int32))])) t → Steps p.tables e below S0 t := fun t k => K13 t (by
          refine XS.icmpYes X12.here hx rfl (pc0 := 27) (pc' := 34) rfl (hb hby d4_27) rfl (XT.ii_ne_t hc27_2) (by decide) (by decide) ?_
          show Steps p.tables e below (T12.setTop (mkF m 34 #[.val (.ref o0), .val (.int p1), .val (.int p2), .val (.int (w3_r1 zp x0 x1 x2 x3))] [])) _
          refine XS.iconst X12.here hx rfl (hb hby d4_34) ?_
          show Steps p.tables e below (T12.setTop (mkF m 35 #[.val (.ref o0), .val (.int p1), .val (.int p2), .val (.int (w3_r1 zp x0 x1 x2 x3))] [(.int (0 : Int32))])) _
          exact k)
        obtain ⟨fs, hr, hrun, hended, hW, hsame⟩ := X12.leave (v := some (.int (0 : Int32))) (fun h => by rw [Bd.returns] at h; cases h) hlk
        refine ⟨_, _, ?_, hrun, hended, _, _, rfl, ?_, ⟨_, rfl⟩, hW, hsame.mono (by decide) (by decide)⟩
        · rw [← hS0]; exact K16 _ (retN X12 hx (t := .boolean) Bd.returns (by simp) (hb hby d4_35) hr)
        · show Q4 Z o0 p1 p2 zp zn ob kb x0 x1 x2 x3 h0 n0 _ T12.heap _
          have qr : (0 : Int32) = (w4_r1 p1 p2 zp zn x0 x1 x2 x3) := by unfold w4_r1; rw [if_neg hc5_0, if_neg hc11_1, if_neg hc27_2]
          have qf17 : (w4_f2 p2 zp zn) = (zp + (1 : Int32)) := by unfold w4_f2; rw [if_neg hc5_0, if_neg hc11_1]
          exact ⟨congrArg (fun z => some (Value.int z)) qr, N12, Kc12, Fn12_0, (by rw [qf17]; exact Fn12_1), Fn12_2, Fn12_3⟩
theorem pn0 : plainName "com/example/acervo/acervo/index/ByteArrayInputReadPinLaw" = true := by first | (simp [plainName, overriddenIn]; done) | decide +kernel
theorem pd0_0 : parseMethodDescriptor "([BI)V" = some ⟨[(.array .byte), .int], none⟩ := by decide +kernel
theorem pd0_1 : parseMethodDescriptor "(Lcom/example/acervo/acervo/index/ByteArrayInput;IZ)Z" = some ⟨[(.object "com/example/acervo/acervo/index/ByteArrayInput"), .int, .boolean], some .boolean⟩ := by decide +kernel
theorem pd0_2 : parseMethodDescriptor "()Z" = some ⟨[], some .boolean⟩ := by decide +kernel
theorem ef0 (m : MethodId) (p0 : Int32) (p1 : Int32) (p2 : Int32) (p3 : Int32) (p4 : Int32) : entryFrame m #[(.int p0), (.int p1), (.int p2), (.int p3), (.int p4)] maxLocals = mkF m 0 #[.val (.int p0), .val (.int p1), .val (.int p2), .val (.int p3), .val (.int p4), .unset, .unset, .unset] [] := by first | (simp [entryFrame, mkF, argsToLocals, Value.category, maxLocals]; done) | rfl
def Q0 (Z : State) (p0 : Int32) (p1 : Int32) (p2 : Int32) (p3 : Int32) (p4 : Int32) (h0 : Heap) (n0 : Nat) (v : Option Value) (h : Heap) (L : List Loc) : Prop := v = some (.int (w0_r11 p0 p1 p2 p3 p4)) ∧ Fr n0 L
set_option maxRecDepth 65536 in
set_option maxHeartbeats 40000000 in
theorem rm0 (l : Launch) (Z : State) (a0 : Array Value) (hw : ∀ d ∈ tables_1, d.before a0 Z = true) (ws : List Jvm.Cond) (p0 : Int32) (p1 : Int32) (p2 : Int32) (p3 : Int32) (p4 : Int32) (h0 : Heap) (n0 : Nat) (Z0 : n0 ≤ h0.size) :
    MetFree l x (head1 (Jvm.Cond.code x code maxLocals ret :: ws) room_1) (fun a U => a = #[(.int p0), (.int p1), (.int p2), (.int p3), (.int p4)] ∧ Z.Warmed39 U.vm ∧ U.heap = h0) (fun _ _ _ _ _ => True) (fun _ U o U' => ∃ v L, o = .returned v ∧ Q0 Z p0 p1 p2 p3 p4 h0 n0 v U'.heap L ∧ FrameEnd U o U' L 2 8) := by
  refine MetFree.of_bodySF (plainFor_of_name pn0) hisR ?_
  intro p e s m args below meth c s₁ Bd hml0 hP hK
  obtain ⟨rfl, hZ, hh⟩ := hP
  have hlk : meth.locks = false := BodyLoose.notSynchronized Bd
  have hx := Bd.exec
  have hby := Bd.bytes
  have hml : c.maxLocals = 8 := hml0
  have hown : s.vm.findClass "com/example/acervo/acervo/index/ByteArrayInputReadPinLaw" = some m.cls := findClass_of_methodNamed Bd.named
  have hnm := (name_of_methodNamed Bd.named Bd.method).1
  have X0 : Stand p l e room_1 s m #[(.int p0), (.int p1), (.int p2), (.int p3), (.int p4)] below meth c s₁ [] 0 0 := Stand.of_body Bd
  have e0 : s₁.heap = h0 := by rw [← hh, Bd.state]; rfl
  have N0 := Fr.nil n0
  obtain ⟨S0, hS0⟩ : ∃ S0, S0 = s₁.setTop (entryFrame m #[(.int p0), (.int p1), (.int p2), (.int p3), (.int p4)] maxLocals) := ⟨_, rfl⟩
  have pre0 : ∀ t, Steps p.tables e below (s₁.setTop (mkF m 0 #[.val (.int p0), .val (.int p1), .val (.int p2), .val (.int p3), .val (.int p4), .unset, .unset, .unset] [])) t → Steps p.tables e below S0 t := fun t k => by rw [hS0]; exact castTop (ef0 m p0 p1 p2 p3 p4) k
  have K1 : ∀ t, Steps p.tables e below (s₁.setTop (mkF m 1 #[.val (.int p0), .val (.int p1), .val (.int p2), .val (.int p3), .val (.int p4), .unset, .unset, .unset] [(.int (4 : Int32))])) t → Steps p.tables e below S0 t := fun t k => pre0 t (by
    refine XS.iconst X0.here hx rfl (hb hby at_0) ?_
    show Steps p.tables e below (s₁.setTop (mkF m 1 #[.val (.int p0), .val (.int p1), .val (.int p2), .val (.int p3), .val (.int p4), .unset, .unset, .unset] [(.int (4 : Int32))])) _
    exact k)
  obtain ⟨T2, h2, k2, X2, e2, E2, A2, st2⟩ := newP X0 hx hZ (hw _ (List.mem_of_getElem? (i := 0) rfl)) e0 (g := (mkF m 1 #[.val (.int p0), .val (.int p1), .val (.int p2), .val (.int p3), .val (.int p4), .unset, .unset, .unset] [(.int (4 : Int32))])) rfl (hb hby at_1) rfl (by decide) (cap := 4) (by decide) (by decide) (by decide) (by decide)
  obtain ⟨b2, g2⟩ : ∃ z, z = h0.size := ⟨_, rfl⟩
  rw [← g2] at A2 st2
  have g_b2 : n0 ≤ b2 := Nat.le_trans Z0 (Nat.le_of_eq g2.symm)
  have Zs2 : n0 ≤ h2.size := Nat.le_trans Z0 E2.1
  have V_b2 : Arv Z h2 b2 k2 .byte (4 : Int32) [(.int (0 : Int32)), (.int (0 : Int32)), (.int (0 : Int32)), (.int (0 : Int32))] (.int (0 : Int32)) := (Arv.new A2 (by decide)).pad (pad_rep [] (.int (0 : Int32)) 4)
  have K2 : ∀ t, Steps p.tables e below (T2.setTop (mkF m 3 #[.val (.int p0), .val (.int p1), .val (.int p2), .val (.int p3), .val (.int p4), .unset, .unset, .unset] [(.ref b2)])) t → Steps p.tables e below S0 t := fun t k => K1 t (st2 t k)
  have K3 : ∀ t, Steps p.tables e below (T2.setTop (mkF m 7 #[.val (.int p0), .val (.int p1), .val (.int p2), .val (.int p3), .val (.int p4), .unset, .unset, .unset] [(.int (p0.toInt8.toInt32)), (.int (0 : Int32)), (.ref b2), (.ref b2)])) t → Steps p.tables e below S0 t := fun t k => K2 t (by
    refine XS.dup X2.here hx rfl (hb hby at_3) rfl rfl ?_
    show Steps p.tables e below (T2.setTop (mkF m 4 #[.val (.int p0), .val (.int p1), .val (.int p2), .val (.int p3), .val (.int p4), .unset, .unset, .unset] [(.ref b2), (.ref b2)])) _
    refine XS.iconst X2.here hx rfl (hb hby at_4) ?_
    show Steps p.tables e below (T2.setTop (mkF m 5 #[.val (.int p0), .val (.int p1), .val (.int p2), .val (.int p3), .val (.int p4), .unset, .unset, .unset] [(.int (0 : Int32)), (.ref b2), (.ref b2)])) _
    refine XS.iloadN X2.here hx rfl (hb hby at_5) rfl ?_
    show Steps p.tables e below (T2.setTop (mkF m 6 #[.val (.int p0), .val (.int p1), .val (.int p2), .val (.int p3), .val (.int p4), .unset, .unset, .unset] [(.int p0), (.int (0 : Int32)), (.ref b2), (.ref b2)])) _
    refine XS.i2b X2.here hx rfl (hb hby at_6) rfl ?_
    show Steps p.tables e below (T2.setTop (mkF m 7 #[.val (.int p0), .val (.int p1), .val (.int p2), .val (.int p3), .val (.int p4), .unset, .unset, .unset] [(.int (p0.toInt8.toInt32)), (.int (0 : Int32)), (.ref b2), (.ref b2)])) _
    exact k)
  have K_4 : ∀ t, Steps p.tables e below (T2.setTop (mkF m 7 #[.val (.int p0), .val (.int p1), .val (.int p2), .val (.int p3), .val (.int p4), .unset, .unset, .unset] [(.int (p0.toInt8.toInt32)), (.int (0 : Int32)), (.ref b2), (.ref b2)])) t → Steps p.tables e below S0 t := K3
  obtain ⟨cl5, Ar5, qa5, sa5, na5, ha5, ga5⟩ := id V_b2
  have hin5 : ¬ ((0 : Int32) < 0 ∨ cl5.slots.size ≤ ((0 : Int32)).toNatClampNeg) := inb_of sa5 ⟨by decide, by decide⟩
  obtain ⟨T5, h5, X5, e5, W5, st5⟩ := stB X2 hx hZ e2 Ar5 (j := (0 : Int32)) hin5 (g := (mkF m 7 #[.val (.int p0), .val (.int p1), .val (.int p2), .val (.int p3), .val (.int p4), .unset, .unset, .unset] [(.int (p0.toInt8.toInt32)), (.int (0 : Int32)), (.ref b2), (.ref b2)])) rfl rfl (hb hby at_7)
  have V_b2__5 : Arv Z h5 b2 k2 .byte (4 : Int32) [(.int (nar .byte (p0.toInt8.toInt32))), (.int (0 : Int32)), (.int (0 : Int32)), (.int (0 : Int32))] (.int (0 : Int32)) := Arv.set Ar5 qa5 sa5 na5 ha5 ga5 (fits_nar_byte _) W5 0 rfl (Nat.le_of_ble_eq_true rfl)
  have N5 := Fr.snoc X5 N0 g_b2
  have Zs5 : n0 ≤ h5.size := Nat.le_trans Zs2 (Nat.le_of_eq W5.size.symm)
  have K5 : ∀ t, Steps p.tables e below (T5.setTop (mkF m 8 #[.val (.int p0), .val (.int p1), .val (.int p2), .val (.int p3), .val (.int p4), .unset, .unset, .unset] [(.ref b2)])) t → Steps p.tables e below S0 t := fun t k => K_4 t (st5 t k)
  have K6 : ∀ t, Steps p.tables e below (T5.setTop (mkF m 12 #[.val (.int p0), .val (.int p1), .val (.int p2), .val (.int p3), .val (.int p4), .unset, .unset, .unset] [(.int (p1.toInt8.toInt32)), (.int (1 : Int32)), (.ref b2), (.ref b2)])) t → Steps p.tables e below S0 t := fun t k => K5 t (by
    refine XS.dup X5.here hx rfl (hb hby at_8) rfl rfl ?_
    show Steps p.tables e below (T5.setTop (mkF m 9 #[.val (.int p0), .val (.int p1), .val (.int p2), .val (.int p3), .val (.int p4), .unset, .unset, .unset] [(.ref b2), (.ref b2)])) _
    refine XS.iconst X5.here hx rfl (hb hby at_9) ?_
    show Steps p.tables e below (T5.setTop (mkF m 10 #[.val (.int p0), .val (.int p1), .val (.int p2), .val (.int p3), .val (.int p4), .unset, .unset, .unset] [(.int (1 : Int32)), (.ref b2), (.ref b2)])) _
    refine XS.iloadN X5.here hx rfl (hb hby at_10) rfl ?_
    show Steps p.tables e below (T5.setTop (mkF m 11 #[.val (.int p0), .val (.int p1), .val (.int p2), .val (.int p3), .val (.int p4), .unset, .unset, .unset] [(.int p1), (.int (1 : Int32)), (.ref b2), (.ref b2)])) _
    refine XS.i2b X5.here hx rfl (hb hby at_11) rfl ?_
    show Steps p.tables e below (T5.setTop (mkF m 12 #[.val (.int p0), .val (.int p1), .val (.int p2), .val (.int p3), .val (.int p4), .unset, .unset, .unset] [(.int (p1.toInt8.toInt32)), (.int (1 : Int32)), (.ref b2), (.ref b2)])) _
    exact k)
  have K_7 : ∀ t, Steps p.tables e below (T5.setTop (mkF m 12 #[.val (.int p0), .val (.int p1), .val (.int p2), .val (.int p3), .val (.int p4), .unset, .unset, .unset] [(.int (p1.toInt8.toInt32)), (.int (1 : Int32)), (.ref b2), (.ref b2)])) t → Steps p.tables e below S0 t := K6
  obtain ⟨cl8, Ar8, qa8, sa8, na8, ha8, ga8⟩ := id V_b2__5
  have hin8 : ¬ ((1 : Int32) < 0 ∨ cl8.slots.size ≤ ((1 : Int32)).toNatClampNeg) := inb_of sa8 ⟨by decide, by decide⟩
  obtain ⟨T8, h8, X8, e8, W8, st8⟩ := stB X5 hx hZ e5 Ar8 (j := (1 : Int32)) hin8 (g := (mkF m 12 #[.val (.int p0), .val (.int p1), .val (.int p2), .val (.int p3), .val (.int p4), .unset, .unset, .unset] [(.int (p1.toInt8.toInt32)), (.int (1 : Int32)), (.ref b2), (.ref b2)])) rfl rfl (hb hby at_12)
  have V_b2__8 : Arv Z h8 b2 k2 .byte (4 : Int32) [(.int (nar .byte (p0.toInt8.toInt32))), (.int (nar .byte (p1.toInt8.toInt32))), (.int (0 : Int32)), (.int (0 : Int32))] (.int (0 : Int32)) := Arv.set Ar8 qa8 sa8 na8 ha8 ga8 (fits_nar_byte _) W8 1 rfl (Nat.le_of_ble_eq_true rfl)
  have N8 := Fr.snoc X8 N5 g_b2
  have Zs8 : n0 ≤ h8.size := Nat.le_trans Zs5 (Nat.le_of_eq W8.size.symm)
  have K8 : ∀ t, Steps p.tables e below (T8.setTop (mkF m 13 #[.val (.int p0), .val (.int p1), .val (.int p2), .val (.int p3), .val (.int p4), .unset, .unset, .unset] [(.ref b2)])) t → Steps p.tables e below S0 t := fun t k => K_7 t (st8 t k)
  have K9 : ∀ t, Steps p.tables e below (T8.setTop (mkF m 17 #[.val (.int p0), .val (.int p1), .val (.int p2), .val (.int p3), .val (.int p4), .unset, .unset, .unset] [(.int (p2.toInt8.toInt32)), (.int (2 : Int32)), (.ref b2), (.ref b2)])) t → Steps p.tables e below S0 t := fun t k => K8 t (by
    refine XS.dup X8.here hx rfl (hb hby at_13) rfl rfl ?_
    show Steps p.tables e below (T8.setTop (mkF m 14 #[.val (.int p0), .val (.int p1), .val (.int p2), .val (.int p3), .val (.int p4), .unset, .unset, .unset] [(.ref b2), (.ref b2)])) _
    refine XS.iconst X8.here hx rfl (hb hby at_14) ?_
    show Steps p.tables e below (T8.setTop (mkF m 15 #[.val (.int p0), .val (.int p1), .val (.int p2), .val (.int p3), .val (.int p4), .unset, .unset, .unset] [(.int (2 : Int32)), (.ref b2), (.ref b2)])) _
    refine XS.iloadN X8.here hx rfl (hb hby at_15) rfl ?_
    show Steps p.tables e below (T8.setTop (mkF m 16 #[.val (.int p0), .val (.int p1), .val (.int p2), .val (.int p3), .val (.int p4), .unset, .unset, .unset] [(.int p2), (.int (2 : Int32)), (.ref b2), (.ref b2)])) _
    refine XS.i2b X8.here hx rfl (hb hby at_16) rfl ?_
    show Steps p.tables e below (T8.setTop (mkF m 17 #[.val (.int p0), .val (.int p1), .val (.int p2), .val (.int p3), .val (.int p4), .unset, .unset, .unset] [(.int (p2.toInt8.toInt32)), (.int (2 : Int32)), (.ref b2), (.ref b2)])) _
    exact k)
  have K_10 : ∀ t, Steps p.tables e below (T8.setTop (mkF m 17 #[.val (.int p0), .val (.int p1), .val (.int p2), .val (.int p3), .val (.int p4), .unset, .unset, .unset] [(.int (p2.toInt8.toInt32)), (.int (2 : Int32)), (.ref b2), (.ref b2)])) t → Steps p.tables e below S0 t := K9
  obtain ⟨cl11, Ar11, qa11, sa11, na11, ha11, ga11⟩ := id V_b2__8
  have hin11 : ¬ ((2 : Int32) < 0 ∨ cl11.slots.size ≤ ((2 : Int32)).toNatClampNeg) := inb_of sa11 ⟨by decide, by decide⟩
  obtain ⟨T11, h11, X11, e11, W11, st11⟩ := stB X8 hx hZ e8 Ar11 (j := (2 : Int32)) hin11 (g := (mkF m 17 #[.val (.int p0), .val (.int p1), .val (.int p2), .val (.int p3), .val (.int p4), .unset, .unset, .unset] [(.int (p2.toInt8.toInt32)), (.int (2 : Int32)), (.ref b2), (.ref b2)])) rfl rfl (hb hby at_17)
  have V_b2__11 : Arv Z h11 b2 k2 .byte (4 : Int32) [(.int (nar .byte (p0.toInt8.toInt32))), (.int (nar .byte (p1.toInt8.toInt32))), (.int (nar .byte (p2.toInt8.toInt32))), (.int (0 : Int32))] (.int (0 : Int32)) := Arv.set Ar11 qa11 sa11 na11 ha11 ga11 (fits_nar_byte _) W11 2 rfl (Nat.le_of_ble_eq_true rfl)
  have N11 := Fr.snoc X11 N8 g_b2
  have Zs11 : n0 ≤ h11.size := Nat.le_trans Zs8 (Nat.le_of_eq W11.size.symm)
  have K11 : ∀ t, Steps p.tables e below (T11.setTop (mkF m 18 #[.val (.int p0), .val (.int p1), .val (.int p2), .val (.int p3), .val (.int p4), .unset, .unset, .unset] [(.ref b2)])) t → Steps p.tables e below S0 t := fun t k => K_10 t (st11 t k)
  have K12 : ∀ t, Steps p.tables e below (T11.setTop (mkF m 22 #[.val (.int p0), .val (.int p1), .val (.int p2), .val (.int p3), .val (.int p4), .unset, .unset, .unset] [(.int (p3.toInt8.toInt32)), (.int (3 : Int32)), (.ref b2), (.ref b2)])) t → Steps p.tables e below S0 t := fun t k => K11 t (by
    refine XS.dup X11.here hx rfl (hb hby at_18) rfl rfl ?_
    show Steps p.tables e below (T11.setTop (mkF m 19 #[.val (.int p0), .val (.int p1), .val (.int p2), .val (.int p3), .val (.int p4), .unset, .unset, .unset] [(.ref b2), (.ref b2)])) _
    refine XS.iconst X11.here hx rfl (hb hby at_19) ?_
    show Steps p.tables e below (T11.setTop (mkF m 20 #[.val (.int p0), .val (.int p1), .val (.int p2), .val (.int p3), .val (.int p4), .unset, .unset, .unset] [(.int (3 : Int32)), (.ref b2), (.ref b2)])) _
    refine XS.iloadN X11.here hx rfl (hb hby at_20) rfl ?_
    show Steps p.tables e below (T11.setTop (mkF m 21 #[.val (.int p0), .val (.int p1), .val (.int p2), .val (.int p3), .val (.int p4), .unset, .unset, .unset] [(.int p3), (.int (3 : Int32)), (.ref b2), (.ref b2)])) _
    refine XS.i2b X11.here hx rfl (hb hby at_21) rfl ?_
    show Steps p.tables e below (T11.setTop (mkF m 22 #[.val (.int p0), .val (.int p1), .val (.int p2), .val (.int p3), .val (.int p4), .unset, .unset, .unset] [(.int (p3.toInt8.toInt32)), (.int (3 : Int32)), (.ref b2), (.ref b2)])) _
    exact k)
  have K_13 : ∀ t, Steps p.tables e below (T11.setTop (mkF m 22 #[.val (.int p0), .val (.int p1), .val (.int p2), .val (.int p3), .val (.int p4), .unset, .unset, .unset] [(.int (p3.toInt8.toInt32)), (.int (3 : Int32)), (.ref b2), (.ref b2)])) t → Steps p.tables e below S0 t := K12
  obtain ⟨cl14, Ar14, qa14, sa14, na14, ha14, ga14⟩ := id V_b2__11
  have hin14 : ¬ ((3 : Int32) < 0 ∨ cl14.slots.size ≤ ((3 : Int32)).toNatClampNeg) := inb_of sa14 ⟨by decide, by decide⟩
  obtain ⟨T14, h14, X14, e14, W14, st14⟩ := stB X11 hx hZ e11 Ar14 (j := (3 : Int32)) hin14 (g := (mkF m 22 #[.val (.int p0), .val (.int p1), .val (.int p2), .val (.int p3), .val (.int p4), .unset, .unset, .unset] [(.int (p3.toInt8.toInt32)), (.int (3 : Int32)), (.ref b2), (.ref b2)])) rfl rfl (hb hby at_22)
  have V_b2__14 : Arv Z h14 b2 k2 .byte (4 : Int32) [(.int (nar .byte (p0.toInt8.toInt32))), (.int (nar .byte (p1.toInt8.toInt32))), (.int (nar .byte (p2.toInt8.toInt32))), (.int (nar .byte (p3.toInt8.toInt32)))] (.int (0 : Int32)) := Arv.set Ar14 qa14 sa14 na14 ha14 ga14 (fits_nar_byte _) W14 3 rfl (Nat.le_of_ble_eq_true rfl)
  have N14 := Fr.snoc X14 N11 g_b2
  have Zs14 : n0 ≤ h14.size := Nat.le_trans Zs11 (Nat.le_of_eq W14.size.symm)
  have K14 : ∀ t, Steps p.tables e below (T14.setTop (mkF m 23 #[.val (.int p0), .val (.int p1), .val (.int p2), .val (.int p3), .val (.int p4), .unset, .unset, .unset] [(.ref b2)])) t → Steps p.tables e below S0 t := fun t k => K_13 t (st14 t k)
  have K15 : ∀ t, Steps p.tables e below (T14.setTop (mkF m 34 #[.val (.int p0), .val (.int p1), .val (.int p2), .val (.int p3), .val (.int p4), .val (.ref b2), .val (.int (w0_1 p4)), .unset] [])) t → Steps p.tables e below S0 t := fun t k => K14 t (by
    refine XS.astore X14.here hx rfl (hb hby at_23) rfl rfl (l' := #[.val (.int p0), .val (.int p1), .val (.int p2), .val (.int p3), .val (.int p4), .val (.ref b2), .unset, .unset]) rfl ?_
    show Steps p.tables e below (T14.setTop (mkF m 25 #[.val (.int p0), .val (.int p1), .val (.int p2), .val (.int p3), .val (.int p4), .val (.ref b2), .unset, .unset] [])) _
    refine XS.iload X14.here hx rfl (hb hby at_25) rfl ?_
    show Steps p.tables e below (T14.setTop (mkF m 27 #[.val (.int p0), .val (.int p1), .val (.int p2), .val (.int p3), .val (.int p4), .val (.ref b2), .unset, .unset] [(.int p4)])) _
    refine X14.ldcInt hx hown (mvT hZ (hw _ (List.mem_of_getElem? (i := 1) rfl))) (g := (mkF m 27 #[.val (.int p0), .val (.int p1), .val (.int p2), .val (.int p3), .val (.int p4), .val (.ref b2), .unset, .unset] [(.int p4)])) rfl (hb hby at_27) _ ?_
    show Steps p.tables e below (T14.setTop (mkF m 29 #[.val (.int p0), .val (.int p1), .val (.int p2), .val (.int p3), .val (.int p4), .val (.ref b2), .unset, .unset] [(.int (2147483647 : Int32)), (.int p4)])) _
    refine XS.iand X14.here hx rfl (hb hby at_29) rfl ?_
    show Steps p.tables e below (T14.setTop (mkF m 30 #[.val (.int p0), .val (.int p1), .val (.int p2), .val (.int p3), .val (.int p4), .val (.ref b2), .unset, .unset] [(.int (p4 &&& (2147483647 : Int32)))])) _
    refine XS.iconst X14.here hx rfl (hb hby at_30) ?_
    show Steps p.tables e below (T14.setTop (mkF m 31 #[.val (.int p0), .val (.int p1), .val (.int p2), .val (.int p3), .val (.int p4), .val (.ref b2), .unset, .unset] [(.int (5 : Int32)), (.int (p4 &&& (2147483647 : Int32)))])) _
    refine iremM X14 hx rfl (hb hby at_31) rfl (by decide) ?_
    show Steps p.tables e below (T14.setTop (mkF m 32 #[.val (.int p0), .val (.int p1), .val (.int p2), .val (.int p3), .val (.int p4), .val (.ref b2), .unset, .unset] [(.int ((p4 &&& (2147483647 : Int32)) % (5 : Int32)))])) _
    refine XS.istore X14.here hx rfl (hb hby at_32) rfl (l' := #[.val (.int p0), .val (.int p1), .val (.int p2), .val (.int p3), .val (.int p4), .val (.ref b2), .val (.int (w0_1 p4)), .unset]) rfl ?_
    show Steps p.tables e below (T14.setTop (mkF m 34 #[.val (.int p0), .val (.int p1), .val (.int p2), .val (.int p3), .val (.int p4), .val (.ref b2), .val (.int (w0_1 p4)), .unset] [])) _
    exact k)
  obtain ⟨T16, h16, X16, e16, E16, A16, D16, -, st16⟩ := newO X14 hx hZ hown (hw _ (List.mem_of_getElem? (i := 2) rfl)) (hw _ (List.mem_of_getElem? (i := 3) rfl)) (hw _ (List.mem_of_getElem? (i := 4) rfl)) e14 (g := (mkF m 34 #[.val (.int p0), .val (.int p1), .val (.int p2), .val (.int p3), .val (.int p4), .val (.ref b2), .val (.int (w0_1 p4)), .unset] [])) rfl (hb hby at_34) (by decide) (by decide)
  obtain ⟨b16, g16⟩ : ∃ z, z = h14.size := ⟨_, rfl⟩
  rw [← g16] at A16 D16 st16
  have ne_b2_b16 : b2 ≠ b16 := Nat.ne_of_lt (Nat.lt_of_lt_of_le V_b2__14.lt (Nat.le_of_eq g16.symm))
  have V_b2__16 := V_b2__14.ext E16
  have g_b16 : n0 ≤ b16 := Nat.le_trans Zs14 (Nat.le_of_eq g16.symm)
  have Zs16 : n0 ≤ h16.size := Nat.le_trans Zs14 E16.1
  have F_b16_bytes : Fld Z h16 b16 "com/example/acervo/acervo/index/ByteArrayInput" "bytes" "[B" .null := D16 (Or.inr (hw _ (List.mem_of_getElem? (i := 12) rfl))) (ty := (.array .byte)) (by decide)
  have F_b16_length : Fld Z h16 b16 "com/example/acervo/acervo/index/ByteArrayInput" "length" "I" (.int (0 : Int32)) := D16 (Or.inr (hw _ (List.mem_of_getElem? (i := 14) rfl))) (ty := .int) (by decide)
  have F_b16_position : Fld Z h16 b16 "com/example/acervo/acervo/index/ByteArrayInput" "position" "I" (.int (0 : Int32)) := D16 (Or.inl (hw _ (List.mem_of_getElem? (i := 25) rfl))) (ty := .int) (by decide)
  have K16 : ∀ t, Steps p.tables e below (T16.setTop (mkF m 37 #[.val (.int p0), .val (.int p1), .val (.int p2), .val (.int p3), .val (.int p4), .val (.ref b2), .val (.int (w0_1 p4)), .unset] [(.ref b16)])) t → Steps p.tables e below S0 t := fun t k => K15 t (st16 t k)
  have K17 : ∀ t, Steps p.tables e below (T16.setTop (mkF m 42 #[.val (.int p0), .val (.int p1), .val (.int p2), .val (.int p3), .val (.int p4), .val (.ref b2), .val (.int (w0_1 p4)), .unset] [(.int (w0_1 p4)), (.ref b2), (.ref b16), (.ref b16)])) t → Steps p.tables e below S0 t := fun t k => K16 t (by
    refine XS.dup X16.here hx rfl (hb hby at_37) rfl rfl ?_
    show Steps p.tables e below (T16.setTop (mkF m 38 #[.val (.int p0), .val (.int p1), .val (.int p2), .val (.int p3), .val (.int p4), .val (.ref b2), .val (.int (w0_1 p4)), .unset] [(.ref b16), (.ref b16)])) _
    refine XS.aload X16.here hx rfl (hb hby at_38) rfl rfl ?_
    show Steps p.tables e below (T16.setTop (mkF m 40 #[.val (.int p0), .val (.int p1), .val (.int p2), .val (.int p3), .val (.int p4), .val (.ref b2), .val (.int (w0_1 p4)), .unset] [(.ref b2), (.ref b16), (.ref b16)])) _
    refine XS.iload X16.here hx rfl (hb hby at_40) rfl ?_
    show Steps p.tables e below (T16.setTop (mkF m 42 #[.val (.int p0), .val (.int p1), .val (.int p2), .val (.int p3), .val (.int p4), .val (.ref b2), .val (.int (w0_1 p4)), .unset] [(.int (w0_1 p4)), (.ref b2), (.ref b16), (.ref b16)])) _
    exact k)
  have K_18 : ∀ t, Steps p.tables e below (T16.setTop (mkF m 42 #[.val (.int p0), .val (.int p1), .val (.int p2), .val (.int p3), .val (.int p4), .val (.ref b2), .val (.int (w0_1 p4)), .unset] [(.int (w0_1 p4)), (.ref b2), (.ref b16), (.ref b16)])) t → Steps p.tables e below S0 t := K17
  obtain ⟨_, _, ⟨T19, L19, k19, n19⟩, -, X19, ⟨Lc19, hQ19, l19, y19, z19⟩, st19⟩ := X16.specialBack hx (y := (⟨"com/example/acervo/acervo/index/ByteArrayInput", "<init>", "([BI)V"⟩ : MethodName)) rfl hown (mvT hZ (hw _ (List.mem_of_getElem? (i := 5) rfl))) (mvT hZ (hw _ (List.mem_of_getElem? (i := 6) rfl))) (mvT hZ (hw _ (List.mem_of_getElem? (i := 7) rfl))) (by decide) (backOf (W := 1) (rm1 l Z a0 hw [] b16 b2 (w0_1 p4) h16 n0 Zs16 A16 F_b16_bytes F_b16_length F_b16_position g_b16) hZ (hw _ (List.mem_of_getElem? (i := 7) rfl)) (hw _ (List.mem_of_getElem? (i := 4) rfl)) (by decide) (by decide)) (g := (mkF m 42 #[.val (.int p0), .val (.int p1), .val (.int p2), .val (.int p3), .val (.int p4), .val (.ref b2), .val (.int (w0_1 p4)), .unset] [(.int (w0_1 p4)), (.ref b2), (.ref b16), (.ref b16)])) rfl (by rw [hml]; rfl) (Steps.refl _) (a := b16) (argsL := [(.ref b2), (.int (w0_1 p4))]) (rest := [(.ref b16)]) (lenOf pd0_0 rfl) rfl (by show 2 * 0 + _ ≤ _; exact Nat.le_of_eq rfl) (hb hby at_42) (fun _ _ => ⟨rfl, e16, (by decide : 2 + 0 ≤ 16), (by decide : 8 + 0 ≤ 128)⟩)
  dsimp only [Pt.U, Pt.locs, Pt.cells, Pt.slots] at X19 l19 y19 z19 st19 hQ19
  subst l19 y19 z19
  obtain ⟨rfl, N19q, Kp19, Fn19_0, Fn19_1, Fn19_2, Fn19_3⟩ := hQ19
  have N19 := Fr.app N14 N19q
  have V_b2__19 := V_b2__16.keep Kp19 (ninS ne_b2_b16 nin0)
  have Zs19 : n0 ≤ T19.heap.size := Nat.le_trans Zs16 Kp19.1
  have K19 : ∀ t, Steps p.tables e below (T19.setTop (mkF m 45 #[.val (.int p0), .val (.int p1), .val (.int p2), .val (.int p3), .val (.int p4), .val (.ref b2), .val (.int (w0_1 p4)), .unset] [(.ref b16)])) t → Steps p.tables e below S0 t := fun t k => K_18 t (st19.trans k)
  have K20 : ∀ t, Steps p.tables e below (T19.setTop (mkF m 52 #[.val (.int p0), .val (.int p1), .val (.int p2), .val (.int p3), .val (.int p4), .val (.ref b2), .val (.int (w0_1 p4)), .val (.ref b16)] [(.int (w0_1 p4)), (.int p0), (.ref b16)])) t → Steps p.tables e below S0 t := fun t k => K19 t (by
    refine XS.astore X19.here hx rfl (hb hby at_45) rfl rfl (l' := #[.val (.int p0), .val (.int p1), .val (.int p2), .val (.int p3), .val (.int p4), .val (.ref b2), .val (.int (w0_1 p4)), .val (.ref b16)]) rfl ?_
    show Steps p.tables e below (T19.setTop (mkF m 47 #[.val (.int p0), .val (.int p1), .val (.int p2), .val (.int p3), .val (.int p4), .val (.ref b2), .val (.int (w0_1 p4)), .val (.ref b16)] [])) _
    refine XS.aload X19.here hx rfl (hb hby at_47) rfl rfl ?_
    show Steps p.tables e below (T19.setTop (mkF m 49 #[.val (.int p0), .val (.int p1), .val (.int p2), .val (.int p3), .val (.int p4), .val (.ref b2), .val (.int (w0_1 p4)), .val (.ref b16)] [(.ref b16)])) _
    refine XS.iloadN X19.here hx rfl (hb hby at_49) rfl ?_
    show Steps p.tables e below (T19.setTop (mkF m 50 #[.val (.int p0), .val (.int p1), .val (.int p2), .val (.int p3), .val (.int p4), .val (.ref b2), .val (.int (w0_1 p4)), .val (.ref b16)] [(.int p0), (.ref b16)])) _
    refine XS.iload X19.here hx rfl (hb hby at_50) rfl ?_
    show Steps p.tables e below (T19.setTop (mkF m 52 #[.val (.int p0), .val (.int p1), .val (.int p2), .val (.int p3), .val (.int p4), .val (.ref b2), .val (.int (w0_1 p4)), .val (.ref b16)] [(.int (w0_1 p4)), (.int p0), (.ref b16)])) _
    exact k)
  obtain ⟨T21, lo21, X21, N21, e21, K21⟩ : ∃ (T' : State) (locs' : List Loc), Stand p l e room_1 s m #[(.int p0), (.int p1), (.int p2), (.int p3), (.int p4)] below meth c T' locs' 2 8 ∧ Fr n0 locs' ∧ T'.heap = T19.heap ∧ ∀ t, Steps p.tables e below (T'.setTop (mkF m 60 #[.val (.int p0), .val (.int p1), .val (.int p2), .val (.int p3), .val (.int p4), .val (.ref b2), .val (.int (w0_1 p4)), .val (.ref b16)] [(.int (w0_m2 p4)), (.int p0), (.ref b16)])) t → Steps p.tables e below S0 t := by
    by_cases hc52_0 : (0 : Int32) < (w0_1 p4)
    · -- yes
      have K22 : ∀ t, Steps p.tables e below (T19.setTop (mkF m 60 #[.val (.int p0), .val (.int p1), .val (.int p2), .val (.int p3), .val (.int p4), .val (.ref b2), .val (.int (w0_1 p4)), .val (.ref b16)] [(.int (1 : Int32)), (.int p0), (.ref b16)])) t → Steps p.tables e below S0 t := fun t k => K20 t (by
        refine XS.ifNo X19.here hx rfl (hb hby at_52) rfl (XT.i0_le_f hc52_0) ?_
        show Steps p.tables e below (T19.setTop (mkF m 55 #[.val (.int p0), .val (.int p1), .val (.int p2), .val (.int p3), .val (.int p4), .val (.ref b2), .val (.int (w0_1 p4)), .val (.ref b16)] [(.int p0), (.ref b16)])) _
        refine XS.iconst X19.here hx rfl (hb hby at_55) ?_
        show Steps p.tables e below (T19.setTop (mkF m 56 #[.val (.int p0), .val (.int p1), .val (.int p2), .val (.int p3), .val (.int p4), .val (.ref b2), .val (.int (w0_1 p4)), .val (.ref b16)] [(.int (1 : Int32)), (.int p0), (.ref b16)])) _
        refine XS.goto X19.here hx rfl (pc0 := 56) (pc' := 60) rfl (hb hby at_56) (by decide) (by decide) ?_
        show Steps p.tables e below (T19.setTop (mkF m 60 #[.val (.int p0), .val (.int p1), .val (.int p2), .val (.int p3), .val (.int p4), .val (.ref b2), .val (.int (w0_1 p4)), .val (.ref b16)] [(.int (1 : Int32)), (.int p0), (.ref b16)])) _
        exact k)
      have q23 : (w0_m2 p4) = (1 : Int32) := by unfold w0_m2; rw [if_pos hc52_0]
      exact ⟨T19, _, X19, N19, rfl, fun t k => K22 t (by rw [q23] at k; exact k)⟩
    · -- no
      have K24 : ∀ t, Steps p.tables e below (T19.setTop (mkF m 60 #[.val (.int p0), .val (.int p1), .val (.int p2), .val (.int p3), .val (.int p4), .val (.ref b2), .val (.int (w0_1 p4)), .val (.ref b16)] [(.int (0 : Int32)), (.int p0), (.ref b16)])) t → Steps p.tables e below S0 t := fun t k => K20 t (by
        refine XS.ifYes X19.here hx rfl (pc0 := 52) (pc' := 59) rfl (hb hby at_52) rfl (XT.i0_le_t hc52_0) (by decide) (by decide) ?_
        show Steps p.tables e below (T19.setTop (mkF m 59 #[.val (.int p0), .val (.int p1), .val (.int p2), .val (.int p3), .val (.int p4), .val (.ref b2), .val (.int (w0_1 p4)), .val (.ref b16)] [(.int p0), (.ref b16)])) _
        refine XS.iconst X19.here hx rfl (hb hby at_59) ?_
        show Steps p.tables e below (T19.setTop (mkF m 60 #[.val (.int p0), .val (.int p1), .val (.int p2), .val (.int p3), .val (.int p4), .val (.ref b2), .val (.int (w0_1 p4)), .val (.ref b16)] [(.int (0 : Int32)), (.int p0), (.ref b16)])) _
        exact k)
      have q25 : (w0_m2 p4) = (0 : Int32) := by unfold w0_m2; rw [if_neg hc52_0]
      exact ⟨T19, _, X19, N19, rfl, fun t k => K24 t (by rw [q25] at k; exact k)⟩
  have K_26 : ∀ t, Steps p.tables e below (T21.setTop (mkF m 60 #[.val (.int p0), .val (.int p1), .val (.int p2), .val (.int p3), .val (.int p4), .val (.ref b2), .val (.int (w0_1 p4)), .val (.ref b16)] [(.int (w0_m2 p4)), (.int p0), (.ref b16)])) t → Steps p.tables e below S0 t := K21
  obtain ⟨_, _, ⟨T27, L27, k27, n27⟩, -, X27, ⟨Lc27, hQ27, l27, y27, z27⟩, st27⟩ := Jvm.LawKit.callS X21 hx (y := (⟨"com/example/acervo/acervo/index/ByteArrayInputReadPinLaw", "step", "(Lcom/example/acervo/acervo/index/ByteArrayInput;IZ)Z"⟩ : MethodName)) hown (mvT hZ (hw _ (List.mem_of_getElem? (i := 15) rfl))) (mvT hZ (hw _ (List.mem_of_getElem? (i := 16) rfl))) (mvT hZ (hw _ (List.mem_of_getElem? (i := 17) rfl))) (mvT hZ (hw _ (List.mem_of_getElem? (i := 18) rfl))) (by decide) (backOf (W := 0) (rm4 l Z a0 hw [] b16 p0 (w0_m2 p4) (0 : Int32) (w0_1 p4) b2 k2 (nar .byte (p0.toInt8.toInt32)) (nar .byte (p1.toInt8.toInt32)) (nar .byte (p2.toInt8.toInt32)) (nar .byte (p3.toInt8.toInt32)) T19.heap n0 Zs19 Fn19_0 Fn19_3 Fn19_2 Fn19_1 V_b2__19 g_b16 (own_h1 p4) (own_i1 p0 p1 p2 p3 p4) (Ne.symm ne_b2_b16)) hZ (hw _ (List.mem_of_getElem? (i := 18) rfl)) (hw _ (List.mem_of_getElem? (i := 17) rfl)) (by decide) (by decide)) (g := (mkF m 60 #[.val (.int p0), .val (.int p1), .val (.int p2), .val (.int p3), .val (.int p4), .val (.ref b2), .val (.int (w0_1 p4)), .val (.ref b16)] [(.int (w0_m2 p4)), (.int p0), (.ref b16)])) rfl (by rw [hml]; rfl) (argsL := [(.ref b16), (.int p0), (.int (w0_m2 p4))]) (rest := []) (lenOf pd0_1 rfl) rfl (by show 2 * 0 + _ ≤ _; exact Nat.le_of_eq rfl) (hb hby at_60) (fun _ _ => ⟨rfl, e21, (by decide : 2 + 0 ≤ 16), (by decide : 8 + 0 ≤ 128)⟩)
  dsimp only [Pt.U, Pt.locs, Pt.cells, Pt.slots] at X27 l27 y27 z27 st27 hQ27
  subst l27 y27 z27
  obtain ⟨rfl, N27q, Kp27, Fn27_0, Fn27_1, Fn27_2, Fn27_3⟩ := hQ27
  have N27 := Fr.app N21 N27q
  have V_b2__27 := V_b2__19.keep Kp27 (ninS ne_b2_b16 nin0)
  have Zs27 : n0 ≤ T27.heap.size := Nat.le_trans Zs19 Kp27.1
  have K27 : ∀ t, Steps p.tables e below (T27.setTop (mkF m 63 #[.val (.int p0), .val (.int p1), .val (.int p2), .val (.int p3), .val (.int p4), .val (.ref b2), .val (.int (w0_1 p4)), .val (.ref b16)] [(.int (w0_3 p0 p1 p2 p3 p4))])) t → Steps p.tables e below S0 t := fun t k => K_26 t (st27 t k)
  by_cases hc63_0 : (w0_3 p0 p1 p2 p3 p4) = (0 : Int32)
  · -- yes
    have K28 : ∀ t, Steps p.tables e below (T27.setTop (mkF m 67 #[.val (.int p0), .val (.int p1), .val (.int p2), .val (.int p3), .val (.int p4), .val (.ref b2), .val (.int (w0_1 p4)), .val (.ref b16)] [(.int (0 : Int32))])) t → Steps p.tables e below S0 t := fun t k => K27 t (by
      refine XS.ifNo X27.here hx rfl (hb hby at_63) rfl (XT.i0_ne_f hc63_0) ?_
      show Steps p.tables e below (T27.setTop (mkF m 66 #[.val (.int p0), .val (.int p1), .val (.int p2), .val (.int p3), .val (.int p4), .val (.ref b2), .val (.int (w0_1 p4)), .val (.ref b16)] [])) _
      refine XS.iconst X27.here hx rfl (hb hby at_66) ?_
      show Steps p.tables e below (T27.setTop (mkF m 67 #[.val (.int p0), .val (.int p1), .val (.int p2), .val (.int p3), .val (.int p4), .val (.ref b2), .val (.int (w0_1 p4)), .val (.ref b16)] [(.int (0 : Int32))])) _
      exact k)
    obtain ⟨fs, hr, hrun, hended, hW, hsame⟩ := X27.leave (v := some (.int (0 : Int32))) (fun h => by rw [Bd.returns] at h; cases h) hlk
    refine ⟨_, _, ?_, hrun, hended, _, _, rfl, ?_, ⟨_, rfl⟩, hW, hsame.mono (by decide) (by decide)⟩
    · rw [← hS0]; exact K28 _ (retN X27 hx (t := .boolean) Bd.returns (by simp) (hb hby at_67) hr)
    · show Q0 Z p0 p1 p2 p3 p4 h0 n0 _ T27.heap _
      have qr : (0 : Int32) = (w0_r11 p0 p1 p2 p3 p4) := by unfold w0_r11; rw [if_pos hc63_0]
      exact ⟨congrArg (fun z => some (Value.int z)) qr, N27⟩
  · -- no
    have K29 : ∀ t, Steps p.tables e below (T27.setTop (mkF m 74 #[.val (.int p0), .val (.int p1), .val (.int p2), .val (.int p3), .val (.int p4), .val (.ref b2), .val (.int (w0_1 p4)), .val (.ref b16)] [(.int (1 : Int32)), (.int (w0_1 p4)), (.int p1), (.ref b16)])) t → Steps p.tables e below S0 t := fun t k => K27 t (by
      refine XS.ifYes X27.here hx rfl (pc0 := 63) (pc' := 68) rfl (hb hby at_63) rfl (XT.i0_ne_t hc63_0) (by decide) (by decide) ?_
      show Steps p.tables e below (T27.setTop (mkF m 68 #[.val (.int p0), .val (.int p1), .val (.int p2), .val (.int p3), .val (.int p4), .val (.ref b2), .val (.int (w0_1 p4)), .val (.ref b16)] [])) _
      refine XS.aload X27.here hx rfl (hb hby at_68) rfl rfl ?_
      show Steps p.tables e below (T27.setTop (mkF m 70 #[.val (.int p0), .val (.int p1), .val (.int p2), .val (.int p3), .val (.int p4), .val (.ref b2), .val (.int (w0_1 p4)), .val (.ref b16)] [(.ref b16)])) _
      refine XS.iloadN X27.here hx rfl (hb hby at_70) rfl ?_
      show Steps p.tables e below (T27.setTop (mkF m 71 #[.val (.int p0), .val (.int p1), .val (.int p2), .val (.int p3), .val (.int p4), .val (.ref b2), .val (.int (w0_1 p4)), .val (.ref b16)] [(.int p1), (.ref b16)])) _
      refine XS.iload X27.here hx rfl (hb hby at_71) rfl ?_
      show Steps p.tables e below (T27.setTop (mkF m 73 #[.val (.int p0), .val (.int p1), .val (.int p2), .val (.int p3), .val (.int p4), .val (.ref b2), .val (.int (w0_1 p4)), .val (.ref b16)] [(.int (w0_1 p4)), (.int p1), (.ref b16)])) _
      refine XS.iconst X27.here hx rfl (hb hby at_73) ?_
      show Steps p.tables e below (T27.setTop (mkF m 74 #[.val (.int p0), .val (.int p1), .val (.int p2), .val (.int p3), .val (.int p4), .val (.ref b2), .val (.int (w0_1 p4)), .val (.ref b16)] [(.int (1 : Int32)), (.int (w0_1 p4)), (.int p1), (.ref b16)])) _
      exact k)
    obtain ⟨T30, lo30, X30, N30, e30, K30⟩ : ∃ (T' : State) (locs' : List Loc), Stand p l e room_1 s m #[(.int p0), (.int p1), (.int p2), (.int p3), (.int p4)] below meth c T' locs' 2 8 ∧ Fr n0 locs' ∧ T'.heap = T27.heap ∧ ∀ t, Steps p.tables e below (T'.setTop (mkF m 82 #[.val (.int p0), .val (.int p1), .val (.int p2), .val (.int p3), .val (.int p4), .val (.ref b2), .val (.int (w0_1 p4)), .val (.ref b16)] [(.int (w0_m4 p4)), (.int p1), (.ref b16)])) t → Steps p.tables e below S0 t := by
      by_cases hc74_1 : (1 : Int32) < (w0_1 p4)
      · -- yes
        have K31 : ∀ t, Steps p.tables e below (T27.setTop (mkF m 82 #[.val (.int p0), .val (.int p1), .val (.int p2), .val (.int p3), .val (.int p4), .val (.ref b2), .val (.int (w0_1 p4)), .val (.ref b16)] [(.int (1 : Int32)), (.int p1), (.ref b16)])) t → Steps p.tables e below S0 t := fun t k => K29 t (by
          refine XS.icmpNo X27.here hx rfl (hb hby at_74) rfl (XT.ii_le_f hc74_1) ?_
          show Steps p.tables e below (T27.setTop (mkF m 77 #[.val (.int p0), .val (.int p1), .val (.int p2), .val (.int p3), .val (.int p4), .val (.ref b2), .val (.int (w0_1 p4)), .val (.ref b16)] [(.int p1), (.ref b16)])) _
          refine XS.iconst X27.here hx rfl (hb hby at_77) ?_
          show Steps p.tables e below (T27.setTop (mkF m 78 #[.val (.int p0), .val (.int p1), .val (.int p2), .val (.int p3), .val (.int p4), .val (.ref b2), .val (.int (w0_1 p4)), .val (.ref b16)] [(.int (1 : Int32)), (.int p1), (.ref b16)])) _
          refine XS.goto X27.here hx rfl (pc0 := 78) (pc' := 82) rfl (hb hby at_78) (by decide) (by decide) ?_
          show Steps p.tables e below (T27.setTop (mkF m 82 #[.val (.int p0), .val (.int p1), .val (.int p2), .val (.int p3), .val (.int p4), .val (.ref b2), .val (.int (w0_1 p4)), .val (.ref b16)] [(.int (1 : Int32)), (.int p1), (.ref b16)])) _
          exact k)
        have q32 : (w0_m4 p4) = (1 : Int32) := by unfold w0_m4; rw [if_pos hc74_1]
        exact ⟨T27, _, X27, N27, rfl, fun t k => K31 t (by rw [q32] at k; exact k)⟩
      · -- no
        have K33 : ∀ t, Steps p.tables e below (T27.setTop (mkF m 82 #[.val (.int p0), .val (.int p1), .val (.int p2), .val (.int p3), .val (.int p4), .val (.ref b2), .val (.int (w0_1 p4)), .val (.ref b16)] [(.int (0 : Int32)), (.int p1), (.ref b16)])) t → Steps p.tables e below S0 t := fun t k => K29 t (by
          refine XS.icmpYes X27.here hx rfl (pc0 := 74) (pc' := 81) rfl (hb hby at_74) rfl (XT.ii_le_t hc74_1) (by decide) (by decide) ?_
          show Steps p.tables e below (T27.setTop (mkF m 81 #[.val (.int p0), .val (.int p1), .val (.int p2), .val (.int p3), .val (.int p4), .val (.ref b2), .val (.int (w0_1 p4)), .val (.ref b16)] [(.int p1), (.ref b16)])) _
          refine XS.iconst X27.here hx rfl (hb hby at_81) ?_
          show Steps p.tables e below (T27.setTop (mkF m 82 #[.val (.int p0), .val (.int p1), .val (.int p2), .val (.int p3), .val (.int p4), .val (.ref b2), .val (.int (w0_1 p4)), .val (.ref b16)] [(.int (0 : Int32)), (.int p1), (.ref b16)])) _
          exact k)
        have q34 : (w0_m4 p4) = (0 : Int32) := by unfold w0_m4; rw [if_neg hc74_1]
        exact ⟨T27, _, X27, N27, rfl, fun t k => K33 t (by rw [q34] at k; exact k)⟩
    have K_35 : ∀ t, Steps p.tables e below (T30.setTop (mkF m 82 #[.val (.int p0), .val (.int p1), .val (.int p2), .val (.int p3), .val (.int p4), .val (.ref b2), .val (.int (w0_1 p4)), .val (.ref b16)] [(.int (w0_m4 p4)), (.int p1), (.ref b16)])) t → Steps p.tables e below S0 t := K30
    obtain ⟨_, _, ⟨T36, L36, k36, n36⟩, -, X36, ⟨Lc36, hQ36, l36, y36, z36⟩, st36⟩ := Jvm.LawKit.callS X30 hx (y := (⟨"com/example/acervo/acervo/index/ByteArrayInputReadPinLaw", "step", "(Lcom/example/acervo/acervo/index/ByteArrayInput;IZ)Z"⟩ : MethodName)) hown (mvT hZ (hw _ (List.mem_of_getElem? (i := 15) rfl))) (mvT hZ (hw _ (List.mem_of_getElem? (i := 16) rfl))) (mvT hZ (hw _ (List.mem_of_getElem? (i := 17) rfl))) (mvT hZ (hw _ (List.mem_of_getElem? (i := 18) rfl))) (by decide) (backOf (W := 0) (rm4 l Z a0 hw [] b16 p1 (w0_m4 p4) (w4_f2 (w0_m2 p4) (0 : Int32) (w0_1 p4)) (w0_1 p4) b2 k2 (nar .byte (p0.toInt8.toInt32)) (nar .byte (p1.toInt8.toInt32)) (nar .byte (p2.toInt8.toInt32)) (nar .byte (p3.toInt8.toInt32)) T27.heap n0 Zs27 Fn27_0 Fn27_1 Fn27_2 Fn27_3 V_b2__27 g_b16 (own_h2 p4) (own_i2 p0 p1 p2 p3 p4) (Ne.symm ne_b2_b16)) hZ (hw _ (List.mem_of_getElem? (i := 18) rfl)) (hw _ (List.mem_of_getElem? (i := 17) rfl)) (by decide) (by decide)) (g := (mkF m 82 #[.val (.int p0), .val (.int p1), .val (.int p2), .val (.int p3), .val (.int p4), .val (.ref b2), .val (.int (w0_1 p4)), .val (.ref b16)] [(.int (w0_m4 p4)), (.int p1), (.ref b16)])) rfl (by rw [hml]; rfl) (argsL := [(.ref b16), (.int p1), (.int (w0_m4 p4))]) (rest := []) (lenOf pd0_1 rfl) rfl (by show 2 * 0 + _ ≤ _; exact Nat.le_of_eq rfl) (hb hby at_82) (fun _ _ => ⟨rfl, e30, (by decide : 2 + 0 ≤ 16), (by decide : 8 + 0 ≤ 128)⟩)
    dsimp only [Pt.U, Pt.locs, Pt.cells, Pt.slots] at X36 l36 y36 z36 st36 hQ36
    subst l36 y36 z36
    obtain ⟨rfl, N36q, Kp36, Fn36_0, Fn36_1, Fn36_2, Fn36_3⟩ := hQ36
    have N36 := Fr.app N30 N36q
    have V_b2__36 := V_b2__27.keep Kp36 (ninS ne_b2_b16 nin0)
    have Zs36 : n0 ≤ T36.heap.size := Nat.le_trans Zs27 Kp36.1
    have K36 : ∀ t, Steps p.tables e below (T36.setTop (mkF m 85 #[.val (.int p0), .val (.int p1), .val (.int p2), .val (.int p3), .val (.int p4), .val (.ref b2), .val (.int (w0_1 p4)), .val (.ref b16)] [(.int (w0_5 p0 p1 p2 p3 p4))])) t → Steps p.tables e below S0 t := fun t k => K_35 t (st36 t k)
    by_cases hc85_1 : (w0_5 p0 p1 p2 p3 p4) = (0 : Int32)
    · -- yes
      have K37 : ∀ t, Steps p.tables e below (T36.setTop (mkF m 89 #[.val (.int p0), .val (.int p1), .val (.int p2), .val (.int p3), .val (.int p4), .val (.ref b2), .val (.int (w0_1 p4)), .val (.ref b16)] [(.int (0 : Int32))])) t → Steps p.tables e below S0 t := fun t k => K36 t (by
        refine XS.ifNo X36.here hx rfl (hb hby at_85) rfl (XT.i0_ne_f hc85_1) ?_
        show Steps p.tables e below (T36.setTop (mkF m 88 #[.val (.int p0), .val (.int p1), .val (.int p2), .val (.int p3), .val (.int p4), .val (.ref b2), .val (.int (w0_1 p4)), .val (.ref b16)] [])) _
        refine XS.iconst X36.here hx rfl (hb hby at_88) ?_
        show Steps p.tables e below (T36.setTop (mkF m 89 #[.val (.int p0), .val (.int p1), .val (.int p2), .val (.int p3), .val (.int p4), .val (.ref b2), .val (.int (w0_1 p4)), .val (.ref b16)] [(.int (0 : Int32))])) _
        exact k)
      obtain ⟨fs, hr, hrun, hended, hW, hsame⟩ := X36.leave (v := some (.int (0 : Int32))) (fun h => by rw [Bd.returns] at h; cases h) hlk
      refine ⟨_, _, ?_, hrun, hended, _, _, rfl, ?_, ⟨_, rfl⟩, hW, hsame.mono (by decide) (by decide)⟩
      · rw [← hS0]; exact K37 _ (retN X36 hx (t := .boolean) Bd.returns (by simp) (hb hby at_89) hr)
      · show Q0 Z p0 p1 p2 p3 p4 h0 n0 _ T36.heap _
        have qr : (0 : Int32) = (w0_r11 p0 p1 p2 p3 p4) := by unfold w0_r11; rw [if_neg hc63_0, if_pos hc85_1]
        exact ⟨congrArg (fun z => some (Value.int z)) qr, N36⟩
    · -- no
      have K38 : ∀ t, Steps p.tables e below (T36.setTop (mkF m 96 #[.val (.int p0), .val (.int p1), .val (.int p2), .val (.int p3), .val (.int p4), .val (.ref b2), .val (.int (w0_1 p4)), .val (.ref b16)] [(.int (2 : Int32)), (.int (w0_1 p4)), (.int p2), (.ref b16)])) t → Steps p.tables e below S0 t := fun t k => K36 t (by
        refine XS.ifYes X36.here hx rfl (pc0 := 85) (pc' := 90) rfl (hb hby at_85) rfl (XT.i0_ne_t hc85_1) (by decide) (by decide) ?_
        show Steps p.tables e below (T36.setTop (mkF m 90 #[.val (.int p0), .val (.int p1), .val (.int p2), .val (.int p3), .val (.int p4), .val (.ref b2), .val (.int (w0_1 p4)), .val (.ref b16)] [])) _
        refine XS.aload X36.here hx rfl (hb hby at_90) rfl rfl ?_
        show Steps p.tables e below (T36.setTop (mkF m 92 #[.val (.int p0), .val (.int p1), .val (.int p2), .val (.int p3), .val (.int p4), .val (.ref b2), .val (.int (w0_1 p4)), .val (.ref b16)] [(.ref b16)])) _
        refine XS.iloadN X36.here hx rfl (hb hby at_92) rfl ?_
        show Steps p.tables e below (T36.setTop (mkF m 93 #[.val (.int p0), .val (.int p1), .val (.int p2), .val (.int p3), .val (.int p4), .val (.ref b2), .val (.int (w0_1 p4)), .val (.ref b16)] [(.int p2), (.ref b16)])) _
        refine XS.iload X36.here hx rfl (hb hby at_93) rfl ?_
        show Steps p.tables e below (T36.setTop (mkF m 95 #[.val (.int p0), .val (.int p1), .val (.int p2), .val (.int p3), .val (.int p4), .val (.ref b2), .val (.int (w0_1 p4)), .val (.ref b16)] [(.int (w0_1 p4)), (.int p2), (.ref b16)])) _
        refine XS.iconst X36.here hx rfl (hb hby at_95) ?_
        show Steps p.tables e below (T36.setTop (mkF m 96 #[.val (.int p0), .val (.int p1), .val (.int p2), .val (.int p3), .val (.int p4), .val (.ref b2), .val (.int (w0_1 p4)), .val (.ref b16)] [(.int (2 : Int32)), (.int (w0_1 p4)), (.int p2), (.ref b16)])) _
        exact k)
      obtain ⟨T39, lo39, X39, N39, e39, K39⟩ : ∃ (T' : State) (locs' : List Loc), Stand p l e room_1 s m #[(.int p0), (.int p1), (.int p2), (.int p3), (.int p4)] below meth c T' locs' 2 8 ∧ Fr n0 locs' ∧ T'.heap = T36.heap ∧ ∀ t, Steps p.tables e below (T'.setTop (mkF m 104 #[.val (.int p0), .val (.int p1), .val (.int p2), .val (.int p3), .val (.int p4), .val (.ref b2), .val (.int (w0_1 p4)), .val (.ref b16)] [(.int (w0_m6 p4)), (.int p2), (.ref b16)])) t → Steps p.tables e below S0 t := by
        by_cases hc96_2 : (2 : Int32) < (w0_1 p4)
        · -- yes
          have K40 : ∀ t, Steps p.tables e below (T36.setTop (mkF m 104 #[.val (.int p0), .val (.int p1), .val (.int p2), .val (.int p3), .val (.int p4), .val (.ref b2), .val (.int (w0_1 p4)), .val (.ref b16)] [(.int (1 : Int32)), (.int p2), (.ref b16)])) t → Steps p.tables e below S0 t := fun t k => K38 t (by
            refine XS.icmpNo X36.here hx rfl (hb hby at_96) rfl (XT.ii_le_f hc96_2) ?_
            show Steps p.tables e below (T36.setTop (mkF m 99 #[.val (.int p0), .val (.int p1), .val (.int p2), .val (.int p3), .val (.int p4), .val (.ref b2), .val (.int (w0_1 p4)), .val (.ref b16)] [(.int p2), (.ref b16)])) _
            refine XS.iconst X36.here hx rfl (hb hby at_99) ?_
            show Steps p.tables e below (T36.setTop (mkF m 100 #[.val (.int p0), .val (.int p1), .val (.int p2), .val (.int p3), .val (.int p4), .val (.ref b2), .val (.int (w0_1 p4)), .val (.ref b16)] [(.int (1 : Int32)), (.int p2), (.ref b16)])) _
            refine XS.goto X36.here hx rfl (pc0 := 100) (pc' := 104) rfl (hb hby at_100) (by decide) (by decide) ?_
            show Steps p.tables e below (T36.setTop (mkF m 104 #[.val (.int p0), .val (.int p1), .val (.int p2), .val (.int p3), .val (.int p4), .val (.ref b2), .val (.int (w0_1 p4)), .val (.ref b16)] [(.int (1 : Int32)), (.int p2), (.ref b16)])) _
            exact k)
          have q41 : (w0_m6 p4) = (1 : Int32) := by unfold w0_m6; rw [if_pos hc96_2]
          exact ⟨T36, _, X36, N36, rfl, fun t k => K40 t (by rw [q41] at k; exact k)⟩
        · -- no
          have K42 : ∀ t, Steps p.tables e below (T36.setTop (mkF m 104 #[.val (.int p0), .val (.int p1), .val (.int p2), .val (.int p3), .val (.int p4), .val (.ref b2), .val (.int (w0_1 p4)), .val (.ref b16)] [(.int (0 : Int32)), (.int p2), (.ref b16)])) t → Steps p.tables e below S0 t := fun t k => K38 t (by
            refine XS.icmpYes X36.here hx rfl (pc0 := 96) (pc' := 103) rfl (hb hby at_96) rfl (XT.ii_le_t hc96_2) (by decide) (by decide) ?_
            show Steps p.tables e below (T36.setTop (mkF m 103 #[.val (.int p0), .val (.int p1), .val (.int p2), .val (.int p3), .val (.int p4), .val (.ref b2), .val (.int (w0_1 p4)), .val (.ref b16)] [(.int p2), (.ref b16)])) _
            refine XS.iconst X36.here hx rfl (hb hby at_103) ?_
            show Steps p.tables e below (T36.setTop (mkF m 104 #[.val (.int p0), .val (.int p1), .val (.int p2), .val (.int p3), .val (.int p4), .val (.ref b2), .val (.int (w0_1 p4)), .val (.ref b16)] [(.int (0 : Int32)), (.int p2), (.ref b16)])) _
            exact k)
          have q43 : (w0_m6 p4) = (0 : Int32) := by unfold w0_m6; rw [if_neg hc96_2]
          exact ⟨T36, _, X36, N36, rfl, fun t k => K42 t (by rw [q43] at k; exact k)⟩
      have K_44 : ∀ t, Steps p.tables e below (T39.setTop (mkF m 104 #[.val (.int p0), .val (.int p1), .val (.int p2), .val (.int p3), .val (.int p4), .val (.ref b2), .val (.int (w0_1 p4)), .val (.ref b16)] [(.int (w0_m6 p4)), (.int p2), (.ref b16)])) t → Steps p.tables e below S0 t := K39
      obtain ⟨_, _, ⟨T45, L45, k45, n45⟩, -, X45, ⟨Lc45, hQ45, l45, y45, z45⟩, st45⟩ := Jvm.LawKit.callS X39 hx (y := (⟨"com/example/acervo/acervo/index/ByteArrayInputReadPinLaw", "step", "(Lcom/example/acervo/acervo/index/ByteArrayInput;IZ)Z"⟩ : MethodName)) hown (mvT hZ (hw _ (List.mem_of_getElem? (i := 15) rfl))) (mvT hZ (hw _ (List.mem_of_getElem? (i := 16) rfl))) (mvT hZ (hw _ (List.mem_of_getElem? (i := 17) rfl))) (mvT hZ (hw _ (List.mem_of_getElem? (i := 18) rfl))) (by decide) (backOf (W := 0) (rm4 l Z a0 hw [] b16 p2 (w0_m6 p4) (w4_f2 (w0_m4 p4) (w4_f2 (w0_m2 p4) (0 : Int32) (w0_1 p4)) (w0_1 p4)) (w0_1 p4) b2 k2 (nar .byte (p0.toInt8.toInt32)) (nar .byte (p1.toInt8.toInt32)) (nar .byte (p2.toInt8.toInt32)) (nar .byte (p3.toInt8.toInt32)) T36.heap n0 Zs36 Fn36_0 Fn36_1 Fn36_2 Fn36_3 V_b2__36 g_b16 (own_h3 p4) (own_i3 p0 p1 p2 p3 p4) (Ne.symm ne_b2_b16)) hZ (hw _ (List.mem_of_getElem? (i := 18) rfl)) (hw _ (List.mem_of_getElem? (i := 17) rfl)) (by decide) (by decide)) (g := (mkF m 104 #[.val (.int p0), .val (.int p1), .val (.int p2), .val (.int p3), .val (.int p4), .val (.ref b2), .val (.int (w0_1 p4)), .val (.ref b16)] [(.int (w0_m6 p4)), (.int p2), (.ref b16)])) rfl (by rw [hml]; rfl) (argsL := [(.ref b16), (.int p2), (.int (w0_m6 p4))]) (rest := []) (lenOf pd0_1 rfl) rfl (by show 2 * 0 + _ ≤ _; exact Nat.le_of_eq rfl) (hb hby at_104) (fun _ _ => ⟨rfl, e39, (by decide : 2 + 0 ≤ 16), (by decide : 8 + 0 ≤ 128)⟩)
      dsimp only [Pt.U, Pt.locs, Pt.cells, Pt.slots] at X45 l45 y45 z45 st45 hQ45
      subst l45 y45 z45
      obtain ⟨rfl, N45q, Kp45, Fn45_0, Fn45_1, Fn45_2, Fn45_3⟩ := hQ45
      have N45 := Fr.app N39 N45q
      have V_b2__45 := V_b2__36.keep Kp45 (ninS ne_b2_b16 nin0)
      have Zs45 : n0 ≤ T45.heap.size := Nat.le_trans Zs36 Kp45.1
      have K45 : ∀ t, Steps p.tables e below (T45.setTop (mkF m 107 #[.val (.int p0), .val (.int p1), .val (.int p2), .val (.int p3), .val (.int p4), .val (.ref b2), .val (.int (w0_1 p4)), .val (.ref b16)] [(.int (w0_7 p0 p1 p2 p3 p4))])) t → Steps p.tables e below S0 t := fun t k => K_44 t (st45 t k)
      by_cases hc107_2 : (w0_7 p0 p1 p2 p3 p4) = (0 : Int32)
      · -- yes
        have K46 : ∀ t, Steps p.tables e below (T45.setTop (mkF m 111 #[.val (.int p0), .val (.int p1), .val (.int p2), .val (.int p3), .val (.int p4), .val (.ref b2), .val (.int (w0_1 p4)), .val (.ref b16)] [(.int (0 : Int32))])) t → Steps p.tables e below S0 t := fun t k => K45 t (by
          refine XS.ifNo X45.here hx rfl (hb hby at_107) rfl (XT.i0_ne_f hc107_2) ?_
          show Steps p.tables e below (T45.setTop (mkF m 110 #[.val (.int p0), .val (.int p1), .val (.int p2), .val (.int p3), .val (.int p4), .val (.ref b2), .val (.int (w0_1 p4)), .val (.ref b16)] [])) _
          refine XS.iconst X45.here hx rfl (hb hby at_110) ?_
          show Steps p.tables e below (T45.setTop (mkF m 111 #[.val (.int p0), .val (.int p1), .val (.int p2), .val (.int p3), .val (.int p4), .val (.ref b2), .val (.int (w0_1 p4)), .val (.ref b16)] [(.int (0 : Int32))])) _
          exact k)
        obtain ⟨fs, hr, hrun, hended, hW, hsame⟩ := X45.leave (v := some (.int (0 : Int32))) (fun h => by rw [Bd.returns] at h; cases h) hlk
        refine ⟨_, _, ?_, hrun, hended, _, _, rfl, ?_, ⟨_, rfl⟩, hW, hsame.mono (by decide) (by decide)⟩
        · rw [← hS0]; exact K46 _ (retN X45 hx (t := .boolean) Bd.returns (by simp) (hb hby at_111) hr)
        · show Q0 Z p0 p1 p2 p3 p4 h0 n0 _ T45.heap _
          have qr : (0 : Int32) = (w0_r11 p0 p1 p2 p3 p4) := by unfold w0_r11; rw [if_neg hc63_0, if_neg hc85_1, if_pos hc107_2]
          exact ⟨congrArg (fun z => some (Value.int z)) qr, N45⟩
      · -- no
        have K47 : ∀ t, Steps p.tables e below (T45.setTop (mkF m 118 #[.val (.int p0), .val (.int p1), .val (.int p2), .val (.int p3), .val (.int p4), .val (.ref b2), .val (.int (w0_1 p4)), .val (.ref b16)] [(.int (3 : Int32)), (.int (w0_1 p4)), (.int p3), (.ref b16)])) t → Steps p.tables e below S0 t := fun t k => K45 t (by
          refine XS.ifYes X45.here hx rfl (pc0 := 107) (pc' := 112) rfl (hb hby at_107) rfl (XT.i0_ne_t hc107_2) (by decide) (by decide) ?_
          show Steps p.tables e below (T45.setTop (mkF m 112 #[.val (.int p0), .val (.int p1), .val (.int p2), .val (.int p3), .val (.int p4), .val (.ref b2), .val (.int (w0_1 p4)), .val (.ref b16)] [])) _
          refine XS.aload X45.here hx rfl (hb hby at_112) rfl rfl ?_
          show Steps p.tables e below (T45.setTop (mkF m 114 #[.val (.int p0), .val (.int p1), .val (.int p2), .val (.int p3), .val (.int p4), .val (.ref b2), .val (.int (w0_1 p4)), .val (.ref b16)] [(.ref b16)])) _
          refine XS.iloadN X45.here hx rfl (hb hby at_114) rfl ?_
          show Steps p.tables e below (T45.setTop (mkF m 115 #[.val (.int p0), .val (.int p1), .val (.int p2), .val (.int p3), .val (.int p4), .val (.ref b2), .val (.int (w0_1 p4)), .val (.ref b16)] [(.int p3), (.ref b16)])) _
          refine XS.iload X45.here hx rfl (hb hby at_115) rfl ?_
          show Steps p.tables e below (T45.setTop (mkF m 117 #[.val (.int p0), .val (.int p1), .val (.int p2), .val (.int p3), .val (.int p4), .val (.ref b2), .val (.int (w0_1 p4)), .val (.ref b16)] [(.int (w0_1 p4)), (.int p3), (.ref b16)])) _
          refine XS.iconst X45.here hx rfl (hb hby at_117) ?_
          show Steps p.tables e below (T45.setTop (mkF m 118 #[.val (.int p0), .val (.int p1), .val (.int p2), .val (.int p3), .val (.int p4), .val (.ref b2), .val (.int (w0_1 p4)), .val (.ref b16)] [(.int (3 : Int32)), (.int (w0_1 p4)), (.int p3), (.ref b16)])) _
          exact k)
        obtain ⟨T48, lo48, X48, N48, e48, K48⟩ : ∃ (T' : State) (locs' : List Loc), Stand p l e room_1 s m #[(.int p0), (.int p1), (.int p2), (.int p3), (.int p4)] below meth c T' locs' 2 8 ∧ Fr n0 locs' ∧ T'.heap = T45.heap ∧ ∀ t, Steps p.tables e below (T'.setTop (mkF m 126 #[.val (.int p0), .val (.int p1), .val (.int p2), .val (.int p3), .val (.int p4), .val (.ref b2), .val (.int (w0_1 p4)), .val (.ref b16)] [(.int (w0_m8 p4)), (.int p3), (.ref b16)])) t → Steps p.tables e below S0 t := by
          by_cases hc118_3 : (3 : Int32) < (w0_1 p4)
          · -- yes
            have K49 : ∀ t, Steps p.tables e below (T45.setTop (mkF m 126 #[.val (.int p0), .val (.int p1), .val (.int p2), .val (.int p3), .val (.int p4), .val (.ref b2), .val (.int (w0_1 p4)), .val (.ref b16)] [(.int (1 : Int32)), (.int p3), (.ref b16)])) t → Steps p.tables e below S0 t := fun t k => K47 t (by
              refine XS.icmpNo X45.here hx rfl (hb hby at_118) rfl (XT.ii_le_f hc118_3) ?_
              show Steps p.tables e below (T45.setTop (mkF m 121 #[.val (.int p0), .val (.int p1), .val (.int p2), .val (.int p3), .val (.int p4), .val (.ref b2), .val (.int (w0_1 p4)), .val (.ref b16)] [(.int p3), (.ref b16)])) _
              refine XS.iconst X45.here hx rfl (hb hby at_121) ?_
              show Steps p.tables e below (T45.setTop (mkF m 122 #[.val (.int p0), .val (.int p1), .val (.int p2), .val (.int p3), .val (.int p4), .val (.ref b2), .val (.int (w0_1 p4)), .val (.ref b16)] [(.int (1 : Int32)), (.int p3), (.ref b16)])) _
              refine XS.goto X45.here hx rfl (pc0 := 122) (pc' := 126) rfl (hb hby at_122) (by decide) (by decide) ?_
              show Steps p.tables e below (T45.setTop (mkF m 126 #[.val (.int p0), .val (.int p1), .val (.int p2), .val (.int p3), .val (.int p4), .val (.ref b2), .val (.int (w0_1 p4)), .val (.ref b16)] [(.int (1 : Int32)), (.int p3), (.ref b16)])) _
              exact k)
            have q50 : (w0_m8 p4) = (1 : Int32) := by unfold w0_m8; rw [if_pos hc118_3]
            exact ⟨T45, _, X45, N45, rfl, fun t k => K49 t (by rw [q50] at k; exact k)⟩
          · -- no
            have K51 : ∀ t, Steps p.tables e below (T45.setTop (mkF m 126 #[.val (.int p0), .val (.int p1), .val (.int p2), .val (.int p3), .val (.int p4), .val (.ref b2), .val (.int (w0_1 p4)), .val (.ref b16)] [(.int (0 : Int32)), (.int p3), (.ref b16)])) t → Steps p.tables e below S0 t := fun t k => K47 t (by
              refine XS.icmpYes X45.here hx rfl (pc0 := 118) (pc' := 125) rfl (hb hby at_118) rfl (XT.ii_le_t hc118_3) (by decide) (by decide) ?_
              show Steps p.tables e below (T45.setTop (mkF m 125 #[.val (.int p0), .val (.int p1), .val (.int p2), .val (.int p3), .val (.int p4), .val (.ref b2), .val (.int (w0_1 p4)), .val (.ref b16)] [(.int p3), (.ref b16)])) _
              refine XS.iconst X45.here hx rfl (hb hby at_125) ?_
              show Steps p.tables e below (T45.setTop (mkF m 126 #[.val (.int p0), .val (.int p1), .val (.int p2), .val (.int p3), .val (.int p4), .val (.ref b2), .val (.int (w0_1 p4)), .val (.ref b16)] [(.int (0 : Int32)), (.int p3), (.ref b16)])) _
              exact k)
            have q52 : (w0_m8 p4) = (0 : Int32) := by unfold w0_m8; rw [if_neg hc118_3]
            exact ⟨T45, _, X45, N45, rfl, fun t k => K51 t (by rw [q52] at k; exact k)⟩
        have K_53 : ∀ t, Steps p.tables e below (T48.setTop (mkF m 126 #[.val (.int p0), .val (.int p1), .val (.int p2), .val (.int p3), .val (.int p4), .val (.ref b2), .val (.int (w0_1 p4)), .val (.ref b16)] [(.int (w0_m8 p4)), (.int p3), (.ref b16)])) t → Steps p.tables e below S0 t := K48
        obtain ⟨_, _, ⟨T54, L54, k54, n54⟩, -, X54, ⟨Lc54, hQ54, l54, y54, z54⟩, st54⟩ := Jvm.LawKit.callS X48 hx (y := (⟨"com/example/acervo/acervo/index/ByteArrayInputReadPinLaw", "step", "(Lcom/example/acervo/acervo/index/ByteArrayInput;IZ)Z"⟩ : MethodName)) hown (mvT hZ (hw _ (List.mem_of_getElem? (i := 15) rfl))) (mvT hZ (hw _ (List.mem_of_getElem? (i := 16) rfl))) (mvT hZ (hw _ (List.mem_of_getElem? (i := 17) rfl))) (mvT hZ (hw _ (List.mem_of_getElem? (i := 18) rfl))) (by decide) (backOf (W := 0) (rm4 l Z a0 hw [] b16 p3 (w0_m8 p4) (w4_f2 (w0_m6 p4) (w4_f2 (w0_m4 p4) (w4_f2 (w0_m2 p4) (0 : Int32) (w0_1 p4)) (w0_1 p4)) (w0_1 p4)) (w0_1 p4) b2 k2 (nar .byte (p0.toInt8.toInt32)) (nar .byte (p1.toInt8.toInt32)) (nar .byte (p2.toInt8.toInt32)) (nar .byte (p3.toInt8.toInt32)) T45.heap n0 Zs45 Fn45_0 Fn45_1 Fn45_2 Fn45_3 V_b2__45 g_b16 (own_h4 p4) (own_i4 p0 p1 p2 p3 p4) (Ne.symm ne_b2_b16)) hZ (hw _ (List.mem_of_getElem? (i := 18) rfl)) (hw _ (List.mem_of_getElem? (i := 17) rfl)) (by decide) (by decide)) (g := (mkF m 126 #[.val (.int p0), .val (.int p1), .val (.int p2), .val (.int p3), .val (.int p4), .val (.ref b2), .val (.int (w0_1 p4)), .val (.ref b16)] [(.int (w0_m8 p4)), (.int p3), (.ref b16)])) rfl (by rw [hml]; rfl) (argsL := [(.ref b16), (.int p3), (.int (w0_m8 p4))]) (rest := []) (lenOf pd0_1 rfl) rfl (by show 2 * 0 + _ ≤ _; exact Nat.le_of_eq rfl) (hb hby at_126) (fun _ _ => ⟨rfl, e48, (by decide : 2 + 0 ≤ 16), (by decide : 8 + 0 ≤ 128)⟩)
        dsimp only [Pt.U, Pt.locs, Pt.cells, Pt.slots] at X54 l54 y54 z54 st54 hQ54
        subst l54 y54 z54
        obtain ⟨rfl, N54q, Kp54, Fn54_0, Fn54_1, Fn54_2, Fn54_3⟩ := hQ54
        have N54 := Fr.app N48 N54q
        have V_b2__54 := V_b2__45.keep Kp54 (ninS ne_b2_b16 nin0)
        have Zs54 : n0 ≤ T54.heap.size := Nat.le_trans Zs45 Kp54.1
        have K54 : ∀ t, Steps p.tables e below (T54.setTop (mkF m 129 #[.val (.int p0), .val (.int p1), .val (.int p2), .val (.int p3), .val (.int p4), .val (.ref b2), .val (.int (w0_1 p4)), .val (.ref b16)] [(.int (w0_9 p0 p1 p2 p3 p4))])) t → Steps p.tables e below S0 t := fun t k => K_53 t (st54 t k)
        by_cases hc129_3 : (w0_9 p0 p1 p2 p3 p4) = (0 : Int32)
        · -- yes
          have K55 : ∀ t, Steps p.tables e below (T54.setTop (mkF m 133 #[.val (.int p0), .val (.int p1), .val (.int p2), .val (.int p3), .val (.int p4), .val (.ref b2), .val (.int (w0_1 p4)), .val (.ref b16)] [(.int (0 : Int32))])) t → Steps p.tables e below S0 t := fun t k => K54 t (by
            refine XS.ifNo X54.here hx rfl (hb hby at_129) rfl (XT.i0_ne_f hc129_3) ?_
            show Steps p.tables e below (T54.setTop (mkF m 132 #[.val (.int p0), .val (.int p1), .val (.int p2), .val (.int p3), .val (.int p4), .val (.ref b2), .val (.int (w0_1 p4)), .val (.ref b16)] [])) _
            refine XS.iconst X54.here hx rfl (hb hby at_132) ?_
            show Steps p.tables e below (T54.setTop (mkF m 133 #[.val (.int p0), .val (.int p1), .val (.int p2), .val (.int p3), .val (.int p4), .val (.ref b2), .val (.int (w0_1 p4)), .val (.ref b16)] [(.int (0 : Int32))])) _
            exact k)
          obtain ⟨fs, hr, hrun, hended, hW, hsame⟩ := X54.leave (v := some (.int (0 : Int32))) (fun h => by rw [Bd.returns] at h; cases h) hlk
          refine ⟨_, _, ?_, hrun, hended, _, _, rfl, ?_, ⟨_, rfl⟩, hW, hsame.mono (by decide) (by decide)⟩
          · rw [← hS0]; exact K55 _ (retN X54 hx (t := .boolean) Bd.returns (by simp) (hb hby at_133) hr)
          · show Q0 Z p0 p1 p2 p3 p4 h0 n0 _ T54.heap _
            have qr : (0 : Int32) = (w0_r11 p0 p1 p2 p3 p4) := by unfold w0_r11; rw [if_neg hc63_0, if_neg hc85_1, if_neg hc107_2, if_pos hc129_3]
            exact ⟨congrArg (fun z => some (Value.int z)) qr, N54⟩
        · -- no
          have K56 : ∀ t, Steps p.tables e below (T54.setTop (mkF m 136 #[.val (.int p0), .val (.int p1), .val (.int p2), .val (.int p3), .val (.int p4), .val (.ref b2), .val (.int (w0_1 p4)), .val (.ref b16)] [(.ref b16)])) t → Steps p.tables e below S0 t := fun t k => K54 t (by
            refine XS.ifYes X54.here hx rfl (pc0 := 129) (pc' := 134) rfl (hb hby at_129) rfl (XT.i0_ne_t hc129_3) (by decide) (by decide) ?_
            show Steps p.tables e below (T54.setTop (mkF m 134 #[.val (.int p0), .val (.int p1), .val (.int p2), .val (.int p3), .val (.int p4), .val (.ref b2), .val (.int (w0_1 p4)), .val (.ref b16)] [])) _
            refine XS.aload X54.here hx rfl (hb hby at_134) rfl rfl ?_
            show Steps p.tables e below (T54.setTop (mkF m 136 #[.val (.int p0), .val (.int p1), .val (.int p2), .val (.int p3), .val (.int p4), .val (.ref b2), .val (.int (w0_1 p4)), .val (.ref b16)] [(.ref b16)])) _
            exact k)
          have K_57 : ∀ t, Steps p.tables e below (T54.setTop (mkF m 136 #[.val (.int p0), .val (.int p1), .val (.int p2), .val (.int p3), .val (.int p4), .val (.ref b2), .val (.int (w0_1 p4)), .val (.ref b16)] [(.ref b16)])) t → Steps p.tables e below S0 t := K56
          obtain ⟨cq58, kq58, q58a, q58b, q58c⟩ := isOf hZ rfl Fn54_0
          obtain ⟨_, _, ⟨T58, L58, k58, n58⟩, -, X58, ⟨Lc58, hQ58, l58, y58, z58⟩, st58⟩ := X54.virtualBack hx (y := (⟨"com/example/acervo/acervo/index/ByteArrayInput", "atEnd", "()Z"⟩ : MethodName)) (z := (⟨"com/example/acervo/acervo/index/ByteArrayInput", "atEnd", "()Z"⟩ : MethodName)) hown (mvT hZ (hw _ (List.mem_of_getElem? (i := 19) rfl))) (mvT hZ (hw _ (List.mem_of_getElem? (i := 20) rfl))) (notFace_of_selects (args := #[]) (mvT hZ (hw _ (List.mem_of_getElem? (i := 22) rfl)))) (mvT hZ (hw _ (List.mem_of_getElem? (i := 22) rfl))) (mvT hZ (hw _ (List.mem_of_getElem? (i := 21) rfl))) (by decide) (backOf (W := 0) (rm2 l Z a0 hw [] b16 (w4_f2 (w0_m8 p4) (w4_f2 (w0_m6 p4) (w4_f2 (w0_m4 p4) (w4_f2 (w0_m2 p4) (0 : Int32) (w0_1 p4)) (w0_1 p4)) (w0_1 p4)) (w0_1 p4)) (w0_1 p4) T54.heap n0 Zs54 Fn54_1 Fn54_2) hZ (hw _ (List.mem_of_getElem? (i := 23) rfl)) (hw _ (List.mem_of_getElem? (i := 4) rfl)) (by decide) (by decide)) q58a q58c (g := (mkF m 136 #[.val (.int p0), .val (.int p1), .val (.int p2), .val (.int p3), .val (.int p4), .val (.ref b2), .val (.int (w0_1 p4)), .val (.ref b16)] [(.ref b16)])) rfl (by rw [hml]; rfl) (Steps.refl _) (argsL := []) (rest := []) (lenOf pd0_2 rfl) rfl (by show 2 * 0 + _ ≤ _; exact Nat.le_of_eq rfl) (hb hby at_136) (fun _ _ => ⟨rfl, rfl, (by decide : 2 + 0 ≤ 16), (by decide : 8 + 0 ≤ 128)⟩)
          dsimp only [Pt.U, Pt.locs, Pt.cells, Pt.slots] at X58 l58 y58 z58 st58 hQ58
          subst l58 y58 z58
          obtain ⟨rfl, N58q, e58⟩ := hQ58
          have N58 := Fr.app N54 N58q
          have K58 : ∀ t, Steps p.tables e below (T58.setTop (mkF m 139 #[.val (.int p0), .val (.int p1), .val (.int p2), .val (.int p3), .val (.int p4), .val (.ref b2), .val (.int (w0_1 p4)), .val (.ref b16)] [(.int (w0_10 p4))])) t → Steps p.tables e below S0 t := fun t k => K_57 t (st58.trans k)
          obtain ⟨fs, hr, hrun, hended, hW, hsame⟩ := X58.leave (v := some (.int (nar .boolean (w0_10 p4)))) (fun h => by rw [Bd.returns] at h; cases h) hlk
          refine ⟨_, _, ?_, hrun, hended, _, _, rfl, ?_, ⟨_, rfl⟩, hW, hsame.mono (by decide) (by decide)⟩
          · rw [← hS0]; exact K58 _ (retN X58 hx (t := .boolean) Bd.returns (by simp) (hb hby at_139) hr)
          · show Q0 Z p0 p1 p2 p3 p4 h0 n0 _ T58.heap _
            rw [e58]
            have qr : (nar .boolean (w0_10 p4)) = (w0_r11 p0 p1 p2 p3 p4) := by unfold w0_r11; rw [if_neg hc63_0, if_neg hc85_1, if_neg hc107_2, if_neg hc129_3]
            exact ⟨congrArg (fun z => some (Value.int z)) qr, N58⟩
set_option maxRecDepth 65536 in
set_option maxHeartbeats 40000000 in
theorem comes_1 {Post : Tables → Env → Array Value → State → Outcome → State → Prop} (hpost : ∀ tb e args s v u, (limb_1_1.after args s (.returned v) u = true ∧ limb_1_2.after args s (.returned v) u = true ∧ True) → FrameEnd s (.returned v) u (Jvm.fieldLocs frame_1_writes args s ++ Jvm.arrayLocs frame_1_arrays args s ++ Jvm.staticLocs frame_1_statics s) 16 128 → Post tb e args s (.returned v) u) :
    ArmFor flags0 classFile x code maxLocals ret World_1 tables_1 room_1 Calls_1 rest_1 Pre_1 Post := by
  intro l hfl _ _ p e ha hc hk s m args below hf hA hF happ hP
  obtain ⟨hcalls, hrest, hpre⟩ := hP
  obtain ⟨-, -, -, hnamed, -, -, -, hat⟩ := (Spec.applies_iff hf).mp happ
  obtain ⟨hg, hn⟩ := and_e (Cond.before_iff.mp (show (Jvm.Cond.and given_1 narrow_1).before args s = true from hpre))
  obtain ⟨hcount, hv0⟩ := and_e hg
  obtain ⟨hi0, hv1⟩ := and_e hv0
  obtain ⟨hi1, hv2⟩ := and_e hv1
  obtain ⟨hi2, hv3⟩ := and_e hv2
  obtain ⟨hi3, hv4⟩ := and_e hv3
  have hi4 := hv4
  obtain ⟨w0, w1, w2, w3, w4, rfl⟩ : ∃ w0 w1 w2 w3 w4 : Value, args = #[w0, w1, w2, w3, w4] := by
    have hs : args.size = 5 := by simpa [Cond.value, given_1] using hcount
    obtain ⟨L⟩ := args
    match L, hs with
    | [w0, w1, w2, w3, w4], _ => exact ⟨w0, w1, w2, w3, w4, rfl⟩
  have hw := fun d (hd : d ∈ tables_1) => atoms_spec (ws := Jvm.Cond.code x code maxLocals ret :: tables_1) hat d (List.mem_cons_of_mem _ hd)
  have hfit : Fit s := fun {y c} hc i hi => by
    obtain ⟨ha, rfl⟩ := Array.getElem?_eq_some_iff.mp hc
    have q := List.all_eq_true.mp ((Array.all_eq_true_iff_forall_mem.mp hF) _ (Array.getElem_mem ha)) i (List.mem_range.mpr hi)
    simpa [Array.getElem?_eq_getElem hi] using q
  obtain ⟨i0, ei0⟩ := is_v hi0
  obtain rfl : w0 = (.int i0) := Option.some.inj ei0
  obtain ⟨i1, ei1⟩ := is_v hi1
  obtain rfl : w1 = (.int i1) := Option.some.inj ei1
  obtain ⟨i2, ei2⟩ := is_v hi2
  obtain rfl : w2 = (.int i2) := Option.some.inj ei2
  obtain ⟨i3, ei3⟩ := is_v hi3
  obtain rfl : w3 = (.int i3) := Option.some.inj ei3
  obtain ⟨i4, ei4⟩ := is_v hi4
  obtain rfl : w4 = (.int i4) := Option.some.inj ei4
  obtain ⟨n, o, h1, h2, h3, _, L, rfl, ⟨rfl, N⟩, hq⟩ := rm0 l s _ hw tables_1 i0 i1 i2 i3 i4  s.heap s.heap.size (Nat.le_refl _)  p e ha hc hk s m _ below hf ((Spec.applies_iff_loose hf).mp happ).1 ⟨rfl, State.Warmed39.refl s, rfl⟩ trivial
  refine ⟨n, _, h1, h2, h3, hpost _ _ _ _ _ _ ⟨Cond.after_iff.mpr rfl, Cond.after_iff.mpr (eq_i res_at (Term.int_eval (1)) (congrArg Value.int (plain_law i0 i1 i2 i3 i4))), trivial⟩ ⟨hq.1, hq.2.1, (hq.2.2.sift fun y hy => Or.inr (N y hy)).mono (by decide) (by decide)⟩⟩
theorem main_1_1 : Claimed_1_1 := comes_1 fun _ _ _ _ _ _ h hF => ⟨h.1, hF⟩
theorem main_1_2 : Claimed_1_2 := comes_1 fun _ _ _ _ _ _ h hF => ⟨h.2.1, hF⟩
end Jvm.Pilot.@@N@@
namespace Jvm.Pilot.@@N@@
open Jvm Jvm.ClassFile Sem Op Lib Jvm.Free Jvm.Stand Jvm.Pilot.@@N@@.Jvm.D
/-! MADE BY PROGRAM (witnessworld.py) out of the Statement's table words and the real class files: 10 classes; the members and pool entries that the words name. The judged class is class 1, her method 2. -/
namespace start1
open Jvm.ClassFile
def u (s : String) : CpInfo := .utf8 (stringToUtf16 s)
/-- a pool by its gaps: so many unusable entries, then the entry; so many at the end -/
def gap : Nat → List CpInfo → List CpInfo
  | 0, r => r
  | n + 1, r => .unusable :: gap n r
def poolList (es : List (Nat × CpInfo)) (last : Nat) : List CpInfo := es.foldr (fun e r => gap e.1 (e.2 :: r)) (gap last [])
def pool (es : List (Nat × CpInfo)) (last : Nat) : Array CpInfo := ⟨poolList es last⟩
def fileOf (pool : Array CpInfo) (this : Nat) (attrs : Array Attribute := #[]) (ms : Array MethodInfo := #[]) (fl : Nat := 33) (sup : Nat := 0) (ifs : Array Nat := #[]) (fds : Array FieldInfo := #[]) : ClassFile where
  minorVersion := 0
  majorVersion := 65
  constantPool := pool
  accessFlags := fl
  thisClass := this
  superClass := sup
  interfaces := ifs
  fields := fds
  methods := ms
  attributes := attrs
def plain (name : String) (sup : Option ClassId) : Class where
  name := name
  kind := .ordinary
  loader := none
  accessFlags := 33
  super := sup
  interfaces := #[]
  cf := none
  fields := #[]
  methods := #[]
  instanceTypes := #[]
  staticTypes := #[]
  resolved := #[]
  callSites := []
  init := .initialized
  statics := none
  mirror := none

def pool0 : Array CpInfo := pool [(5, u "<init>"), (0, u "()V"), (1, .class_ 10), (1, u "java/lang/Object")] 113

def k0c0 : Code := { maxStack := 0, maxLocals := 1, code := object_method_1_code, exceptionTable := #[], attributes := #[] }
def k0m0 : Method := { name := "<init>", desc := "()V", sig := { parameters := [], returnType := none }, accessFlags := 1, code := some k0c0 }
/-- java/lang/Object -/
def k0 : Class := { plain "java/lang/Object" none with
  accessFlags := 33
  interfaces := #[]
  cf := some (fileOf pool0 8 #[] #[{ accessFlags := 1, nameIndex := 5, descriptorIndex := 6, attributes := #[] }] 33 0 #[] #[])
  fields := #[]
  methods := #[k0m0]
  instanceTypes := #[]
  staticTypes := #[]
  resolved := Array.replicate 124 none
  statics := none }

def pool1 : Array CpInfo := pool [(2, .class_ 4), (1, u "java/lang/Object"), (0, u "<init>"), (0, u "()V"), (0, .methodref 8 9), (0, .class_ 10), (0, .nameAndType 11 12), (0, u "com/example/acervo/acervo/index/ByteArrayInput"), (0, u "atEnd"), (0, u "()Z"), (0, .methodref 8 14), (0, .nameAndType 15 16), (0, u "read"), (0, u "()I"), (0, .integer 2147483647), (0, .methodref 8 19), (0, .nameAndType 5 20), (0, u "([BI)V"), (0, .methodref 22 23), (0, .class_ 24), (0, .nameAndType 25 26), (0, u "com/example/acervo/acervo/index/ByteArrayInputReadPinLaw"), (0, u "step"), (0, u "(Lcom/example/acervo/acervo/index/ByteArrayInput;IZ)Z"), (6, u "law"), (0, u "(IIIII)Z")] 4

def k1m0 : Method := { name := "<init>", desc := "()V", sig := { parameters := [], returnType := none }, accessFlags := 2, code := none }
def k1c1 : Code := { maxStack := 3, maxLocals := 4, code := method_2_code, exceptionTable := #[], attributes := #[] }
def k1m1 : Method := { name := "step", desc := "(Lcom/example/acervo/acervo/index/ByteArrayInput;IZ)Z", sig := { parameters := [(.object "com/example/acervo/acervo/index/ByteArrayInput"), .int, .boolean], returnType := some .boolean }, accessFlags := 10, code := some k1c1 }
def k1c2 : Code := { maxStack := 4, maxLocals := 8, code := code, exceptionTable := #[], attributes := #[] }
def k1m2 : Method := { name := "law", desc := "(IIIII)Z", sig := { parameters := [.int, .int, .int, .int, .int], returnType := some .boolean }, accessFlags := 9, code := some k1c2 }
/-- com/example/acervo/acervo/index/ByteArrayInputReadPinLaw -/
def k1 : Class := { plain "com/example/acervo/acervo/index/ByteArrayInputReadPinLaw" (some 0) with
  accessFlags := 49
  interfaces := #[]
  cf := some (fileOf pool1 22 #[] #[{ accessFlags := 2, nameIndex := 5, descriptorIndex := 6, attributes := #[] }, { accessFlags := 10, nameIndex := 25, descriptorIndex := 26, attributes := #[] }, { accessFlags := 9, nameIndex := 33, descriptorIndex := 34, attributes := #[] }] 49 2 #[] #[])
  fields := #[]
  methods := #[k1m0, k1m1, k1m2]
  instanceTypes := #[]
  staticTypes := #[]
  resolved := Array.replicate 39 none
  statics := none }

def pool2 : Array CpInfo := pool [(2, .class_ 4), (1, u "com/example/acervo/acervo/index/ByteSource"), (18, .class_ 24), (0, u "java/lang/Object")] 31

/-- com/example/acervo/acervo/index/ByteSource -/
def k2 : Class := { plain "com/example/acervo/acervo/index/ByteSource" (some 0) with
  accessFlags := 1536
  interfaces := #[]
  cf := some (fileOf pool2 2 #[] #[] 1536 23 #[] #[])
  fields := #[]
  methods := #[]
  instanceTypes := #[]
  staticTypes := #[]
  resolved := Array.replicate 56 none
  statics := none }

def pool3 : Array CpInfo := pool [(1, .methodref 2 3), (0, .class_ 4), (0, .nameAndType 5 6), (0, u "java/lang/Object"), (0, u "<init>"), (0, u "()V"), (0, .fieldref 8 9), (0, .class_ 10), (0, .nameAndType 11 12), (0, u "com/example/acervo/acervo/index/ByteArrayInput"), (0, u "bytes"), (0, u "[B"), (0, .fieldref 8 14), (0, .nameAndType 15 16), (0, u "length"), (0, u "I"), (0, .fieldref 8 18), (0, .nameAndType 19 16), (0, u "position"), (20, u "held"), (0, u "Lcom/example/acervo/acervo/index/HeldBytes;"), (9, .class_ 52), (0, u "com/example/acervo/acervo/index/ByteSource"), (0, u "([BI)V"), (2, u "read"), (0, u "()I"), (6, u "atEnd"), (0, u "()Z")] 19

def k3c0 : Code := { maxStack := 2, maxLocals := 3, code := prog_77_method_1_code, exceptionTable := #[], attributes := #[] }
def k3m0 : Method := { name := "<init>", desc := "([BI)V", sig := { parameters := [(.array .byte), .int], returnType := none }, accessFlags := 0, code := some k3c0 }
def k3c1 : Code := { maxStack := 5, maxLocals := 1, code := prog_77_method_2_code, exceptionTable := #[], attributes := #[] }
def k3m1 : Method := { name := "read", desc := "()I", sig := { parameters := [], returnType := some .int }, accessFlags := 1, code := some k3c1 }
def k3c2 : Code := { maxStack := 2, maxLocals := 1, code := prog_77_method_6_code, exceptionTable := #[], attributes := #[] }
def k3m2 : Method := { name := "atEnd", desc := "()Z", sig := { parameters := [], returnType := some .boolean }, accessFlags := 0, code := some k3c2 }
/-- com/example/acervo/acervo/index/ByteArrayInput -/
def k3 : Class := { plain "com/example/acervo/acervo/index/ByteArrayInput" (some 0) with
  accessFlags := 48
  interfaces := #[2]
  cf := some (fileOf pool3 8 #[] #[{ accessFlags := 0, nameIndex := 5, descriptorIndex := 53, attributes := #[] }, { accessFlags := 1, nameIndex := 56, descriptorIndex := 57, attributes := #[] }, { accessFlags := 0, nameIndex := 64, descriptorIndex := 65, attributes := #[] }] 48 2 #[51] #[{ accessFlags := 18, nameIndex := 11, descriptorIndex := 12, attributes := #[] }, { accessFlags := 18, nameIndex := 15, descriptorIndex := 16, attributes := #[] }, { accessFlags := 2, nameIndex := 19, descriptorIndex := 16, attributes := #[] }, { accessFlags := 2, nameIndex := 40, descriptorIndex := 41, attributes := #[] }])
  fields := #[{ name := "bytes", type := (.array .byte), accessFlags := 18, slot := 0, constantValue := 0 }, { name := "length", type := .int, accessFlags := 18, slot := 1, constantValue := 0 }, { name := "position", type := .int, accessFlags := 2, slot := 2, constantValue := 0 }, { name := "held", type := (.object "com/example/acervo/acervo/index/HeldBytes"), accessFlags := 2, slot := 3, constantValue := 0 }]
  methods := #[k3m0, k3m1, k3m2]
  instanceTypes := #[(.array .byte), .int, .int, (.object "com/example/acervo/acervo/index/HeldBytes")]
  staticTypes := #[]
  resolved := Array.replicate 85 none
  statics := none }

def pool4 : Array CpInfo := pool [(1, u "java/lang/Cloneable"), (0, .class_ 1), (0, u "java/lang/Object"), (0, .class_ 3)] 3

/-- java/lang/Cloneable -/
def k4 : Class := { plain "java/lang/Cloneable" (some 0) with
  accessFlags := 1537
  interfaces := #[]
  cf := some (fileOf pool4 2 #[] #[] 1537 4 #[] #[])
  fields := #[]
  methods := #[]
  instanceTypes := #[]
  staticTypes := #[]
  resolved := Array.replicate 8 none
  statics := none }

def pool5 : Array CpInfo := pool [(1, u "java/io/Serializable"), (0, .class_ 1), (0, u "java/lang/Object"), (0, .class_ 3)] 3

/-- java/io/Serializable -/
def k5 : Class := { plain "java/io/Serializable" (some 0) with
  accessFlags := 1537
  interfaces := #[]
  cf := some (fileOf pool5 2 #[] #[] 1537 4 #[] #[])
  fields := #[]
  methods := #[]
  instanceTypes := #[]
  staticTypes := #[]
  resolved := Array.replicate 8 none
  statics := none }

/-- the primitive byte -/
def k6 : Class := { plain "byte" none with kind := .primitive 'B', accessFlags := 0x411 }
/-- [B -/
def k7 : Class := { plain "[B" (some 0) with kind := .array 6 .byte, interfaces := #[4, 5], accessFlags := 1041 }

/-- the primitive int -/
def k8 : Class := { plain "int" none with kind := .primitive 'I', accessFlags := 0x411 }
/-- [I -/
def k9 : Class := { plain "[I" (some 0) with kind := .array 8 .int, interfaces := #[4, 5], accessFlags := 1041 }

def heap : Heap := #[]
def classes : Array Class := #[k0, k1, k2, k3, k4, k5, k6, k7, k8, k9]
def interned : List (Array UInt16 × Addr) := []
def slotsUsed : Nat := 0
def theMethod : MethodId := ⟨1, 2⟩
def args0 : Array Value := #[.int 5, .int 5, .int 5, .int 5, .int 5]
def aboutOver (below : List Frame) : State where
  vm := { classes := classes, interned := interned.toArray }
  heap := heap
  slotsUsed := slotsUsed
  threads := #[{ frames := .invoking theMethod args0 :: below }]
def below0 : List Frame := [.native { method := ⟨0, 0⟩, args := #[] }]
def about1 : State := aboutOver below0
def p0 : Program := .bare "" "" ""
def e0 : Env := launch0.env 0 0 0
theorem w_frames : about1.frames = Frame.invoking theMethod args0 :: below0 := rfl
set_option maxRecDepth 65536 in
theorem w_args : argsFit about1.vm theMethod args0 = true := by decide +kernel
set_option maxRecDepth 65536 in
theorem w_heap : heapFits about1 = true := by decide +kernel
set_option maxRecDepth 65536 in
theorem w_runnable : about1.curStatus? = some .runnable := by decide +kernel
set_option maxRecDepth 65536 in
theorem w_alone : about1.alone = true := by decide +kernel
set_option maxRecDepth 65536 in
theorem w_named : about1.methodNamed? x = some theMethod := by decide +kernel
set_option maxRecDepth 65536 in
theorem w_hears : about1.hears theMethod below0 = true := by decide +kernel
set_option maxRecDepth 65536 in
theorem w_ripe : about1.ripe theMethod args0 below0 = true := by decide +kernel
theorem w_running : about1.status = .running := rfl
set_option maxRecDepth 65536 in
theorem w_room : about1.hasRoom e0.platform room_1 = true :=
  launch0.hasRoom_least _ room_1 (by decide +kernel) (by decide +kernel) (by decide +kernel) (by decide +kernel) (by decide +kernel) (by decide +kernel)
theorem allAtoms_all (ts : List Jvm.Cond) (a : Array Jvm.Value) (st : Jvm.State) : (allAtoms ts).before a st = ts.all (fun c => c.before a st) := by
  induction ts with
  | nil => rfl
  | cons c t ih =>
    show (Jvm.Cond.and c (allAtoms t)).before a st = _
    rw [Jvm.Cond.before_and, ih, List.all_cons]
def words1 : List Jvm.Cond := Jvm.Cond.code x code maxLocals ret :: tables_1
/-- a 'code' word, met by the world's own term for the bytes: nothing is compared byte by byte -/
theorem code_word {y : MethodName} {bytes : ByteArray} {mx : Nat} {rt : Option FieldType} {a : Array Value} {s : State} {m : MethodId} {meth : Method} {c : Code} (h1 : s.methodNamed? y = some m) (h2 : s.vm.method? m = some meth) (h3 : meth.code = some c) (h4 : c.code = bytes)
    (h5 : (c.maxLocals == mx && c.exceptionTable.isEmpty && decide (c.maxStack ≤ mostOperands) && decide (meth.sig.returnType = rt) && !meth.locks && decide (parseMethodDescriptor y.desc = some meth.sig)) = true) : (Jvm.Cond.code y bytes mx rt).before a s = true := by
  simp only [Bool.and_eq_true, beq_iff_eq, Bool.not_eq_true', decide_eq_true_eq] at h5
  obtain ⟨⟨⟨⟨⟨g1, g2⟩, g3⟩, g4⟩, g5⟩, g6⟩ := h5
  simp [Cond.before, Cond.holds, Cond.value, h1, h2, h3, h4, g1, g2, g3, g4, g5, g6]
def isCode : Jvm.Cond → Bool
  | .code _ _ _ _ => true
  | _ => false
theorem all_split {L : List Jvm.Cond} {P : Jvm.Cond → Bool} (h1 : L.all (fun c => isCode c || P c) = true) (h2 : ∀ c ∈ L.filter isCode, P c = true) : L.all P = true := by
  refine List.all_eq_true.mpr fun c hc => ?_
  have h := List.all_eq_true.mp h1 c hc
  rcases Bool.eq_false_or_eq_true (isCode c) with hi | hi
  · exact h2 c (List.mem_filter.mpr ⟨hc, hi⟩)
  · simpa [hi] using h
set_option maxRecDepth 65536 in
theorem w_c0 : (Jvm.Cond.code x code maxLocals ret).before args0 about1 = true := code_word (m := ⟨1, 2⟩) (meth := k1m2) (c := k1c2) (by decide +kernel) rfl rfl rfl (by decide +kernel)
set_option maxRecDepth 65536 in
theorem w_c1 : (Jvm.Cond.code ({ cls := "com/example/acervo/acervo/index/ByteArrayInput", name := "<init>", desc := "([BI)V" } : Jvm.MethodName) prog_77_method_1_code (3 : Nat) (Option.none : Option Jvm.ClassFile.FieldType)).before args0 about1 = true := code_word (m := ⟨3, 0⟩) (meth := k3m0) (c := k3c0) (by decide +kernel) rfl rfl rfl (by decide +kernel)
set_option maxRecDepth 65536 in
theorem w_c2 : (Jvm.Cond.code ({ cls := "java/lang/Object", name := "<init>", desc := "()V" } : Jvm.MethodName) object_method_1_code (1 : Nat) (Option.none : Option Jvm.ClassFile.FieldType)).before args0 about1 = true := code_word (m := ⟨0, 0⟩) (meth := k0m0) (c := k0c0) (by decide +kernel) rfl rfl rfl (by decide +kernel)
set_option maxRecDepth 65536 in
theorem w_c3 : (Jvm.Cond.code ({ cls := "com/example/acervo/acervo/index/ByteArrayInputReadPinLaw", name := "step", desc := "(Lcom/example/acervo/acervo/index/ByteArrayInput;IZ)Z" } : Jvm.MethodName) method_2_code (4 : Nat) (Option.some Jvm.ClassFile.FieldType.boolean)).before args0 about1 = true := code_word (m := ⟨1, 1⟩) (meth := k1m1) (c := k1c1) (by decide +kernel) rfl rfl rfl (by decide +kernel)
set_option maxRecDepth 65536 in
theorem w_c4 : (Jvm.Cond.code ({ cls := "com/example/acervo/acervo/index/ByteArrayInput", name := "atEnd", desc := "()Z" } : Jvm.MethodName) prog_77_method_6_code (1 : Nat) (Option.some Jvm.ClassFile.FieldType.boolean)).before args0 about1 = true := code_word (m := ⟨3, 2⟩) (meth := k3m2) (c := k3c2) (by decide +kernel) rfl rfl rfl (by decide +kernel)
set_option maxRecDepth 65536 in
theorem w_c5 : (Jvm.Cond.code ({ cls := "com/example/acervo/acervo/index/ByteArrayInput", name := "read", desc := "()I" } : Jvm.MethodName) prog_77_method_2_code (1 : Nat) (Option.some Jvm.ClassFile.FieldType.int)).before args0 about1 = true := code_word (m := ⟨3, 1⟩) (meth := k3m1) (c := k3c1) (by decide +kernel) rfl rfl rfl (by decide +kernel)
def codes1 : List Jvm.Cond := [Jvm.Cond.code x code maxLocals ret, Jvm.Cond.code ({ cls := "com/example/acervo/acervo/index/ByteArrayInput", name := "<init>", desc := "([BI)V" } : Jvm.MethodName) prog_77_method_1_code (3 : Nat) (Option.none : Option Jvm.ClassFile.FieldType), Jvm.Cond.code ({ cls := "java/lang/Object", name := "<init>", desc := "()V" } : Jvm.MethodName) object_method_1_code (1 : Nat) (Option.none : Option Jvm.ClassFile.FieldType), Jvm.Cond.code ({ cls := "com/example/acervo/acervo/index/ByteArrayInputReadPinLaw", name := "step", desc := "(Lcom/example/acervo/acervo/index/ByteArrayInput;IZ)Z" } : Jvm.MethodName) method_2_code (4 : Nat) (Option.some Jvm.ClassFile.FieldType.boolean), Jvm.Cond.code ({ cls := "com/example/acervo/acervo/index/ByteArrayInput", name := "atEnd", desc := "()Z" } : Jvm.MethodName) prog_77_method_6_code (1 : Nat) (Option.some Jvm.ClassFile.FieldType.boolean), Jvm.Cond.code ({ cls := "com/example/acervo/acervo/index/ByteArrayInput", name := "read", desc := "()I" } : Jvm.MethodName) prog_77_method_2_code (1 : Nat) (Option.some Jvm.ClassFile.FieldType.int)]
set_option maxRecDepth 65536 in
theorem codes_eq : words1.filter isCode = codes1 := rfl
theorem w_codes : ∀ c ∈ words1.filter isCode, c.before args0 about1 = true := by
  rw [codes_eq]
  intro c hc
  simp only [codes1, List.mem_cons, List.not_mem_nil, or_false] at hc
  rcases hc with rfl | rfl | rfl | rfl | rfl | rfl
  · exact w_c0
  · exact w_c1
  · exact w_c2
  · exact w_c3
  · exact w_c4
  · exact w_c5
set_option maxRecDepth 65536 in
theorem w_t1 : (words1.take 24).all (fun c => isCode c || c.before args0 about1) = true := by decide +kernel
set_option maxRecDepth 65536 in
theorem w_t2 : (words1.drop 24).all (fun c => isCode c || c.before args0 about1) = true := by decide +kernel
theorem w_tables : (allAtoms (Jvm.Cond.code x code maxLocals ret :: tables_1)).before args0 about1 = true := by
  rw [allAtoms_all]
  show words1.all (fun c => c.before args0 about1) = true
  refine all_split ?_ w_codes
  rw [← List.take_append_drop 24 words1, List.all_append, w_t1, w_t2]
  rfl
set_option maxRecDepth 65536 in
theorem w_case : (Jvm.Cond.and given_1 narrow_1).before args0 about1 = true := by decide +kernel
theorem w_applies : (headSpec (Jvm.Cond.code x code maxLocals ret :: tables_1) room_1).applies x e0.platform about1 = true :=
  (Spec.applies_iff w_frames).mpr ⟨w_running, w_runnable, w_alone, w_named, w_hears, w_ripe, w_room, w_tables⟩
theorem atStart : AtStart classFile x code maxLocals ret World_1 tables_1 room_1 Calls_1 rest_1 Pre_1 launch0 p0 e0 about1 theMethod args0 below0 :=
  ⟨lists_1, trivial, launch0.admits_env _ _ _, launch0.least_env, fairChoices_fair.cas, fairChoices_fair.clock, w_frames, w_args, w_heap, w_applies, trivial, trivial, w_case⟩
end start1
theorem witness_1 : WitnessClaimed_1 := ⟨start1.p0, start1.e0, start1.about1, start1.theMethod, start1.args0, start1.below0, start1.atStart⟩
end Jvm.Pilot.@@N@@
