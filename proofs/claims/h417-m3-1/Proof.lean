import JvmDerived
import JvmDerived.Pilot.@@N@@Statement
import JvmDerived.Pilot.@@N@@Code
set_option linter.unusedVariables false
set_option linter.unusedSimpArgs false
namespace Jvm.RoadKit
open Sem ClassFile Op Lib Jvm.Stand Jvm.Free Jvm.LawKit
section New
variable {p : Program} {l : Launch} {e : Env} {R : Room} {s : State} {m : MethodId} {args : Array Value} {below : List Frame} {meth : Method} {c : Code} {T : State} {locs : List Loc} {cells slots : Nat}
theorem retI (X : Stand p l e R s m args below meth c T locs cells slots) (hx : p.tables.exec = Jvm.exec) {pc : Nat} {Ls : Array Slot} {z : Int32} {rest : List Value} (hret : meth.sig.returnType = some .int) (hd : decode c.code pc = .ok (.ireturn, 1)) {fs : List Frame}
    (hl : ∀ (f : JFrame) (acts : List Action), f.method = m → f.locked = none → f.entered = [] → (doReturn e (T.setTop f) acts (some (.int z))).1 = T.setFrames fs) : Steps p.tables e below (T.setTop (mkF m pc Ls (.int z :: rest))) (T.setFrames fs) :=
  retOut X hx hret rfl (Or.inl ⟨rfl, Or.inl rfl, _, rfl⟩) hd hl
end New
end Jvm.RoadKit
namespace Jvm.Pilot.@@N@@
open Jvm Jvm.ClassFile Sem Op Lib Jvm.Free Jvm.Stand Jvm.LawKit Jvm.RoadKit Bundle Jvm.Pilot.@@N@@.Jvm.D
def own_get (vs : List Int32) (j : Int32) : Int32 := vs.getD j.toNatClampNeg 0
theorem own_getD (vs : List Int32) (j : Int32) : (vs.map Value.int).getD j.toNatClampNeg (.int 0) = .int (own_get vs j) := by
  unfold own_get
  simp only [List.getD_eq_getElem?_getD, List.getElem?_map]
  cases vs[j.toNatClampNeg]? <;> rfl
def wb1_m1 (x0 : Int32) (x1 : Int32) : Int32 := (if x0 = x1 then (0 : Int32) else (-1 : Int32))
def we1_r1 (x0 : Int32) (x1 : Int32) : Int64 := (if (wb1_m1 x0 x1) < (0 : Int32) then (1 : Int64) else ((5 : Int64) + ((wb1_m1 x0 x1).toInt64)))
def wb2_m1 (x0 : Int32) (x2 : Int32) : Int32 := (if x0 = x2 then (0 : Int32) else (-1 : Int32))
def wb2_m2 (x0 : Int32) (x1 : Int32) (x2 : Int32) : Int32 := (if x1 = x2 then (1 : Int32) else (wb2_m1 x0 x2))
def we2_r1 (x0 : Int32) (x1 : Int32) (x2 : Int32) : Int64 := (if (wb2_m2 x0 x1 x2) < (0 : Int32) then (2 : Int64) else ((5 : Int64) + ((wb2_m2 x0 x1 x2).toInt64)))
def wb3_m1 (x0 : Int32) (x3 : Int32) : Int32 := (if x0 = x3 then (0 : Int32) else (-1 : Int32))
def wb3_m2 (x0 : Int32) (x1 : Int32) (x3 : Int32) : Int32 := (if x1 = x3 then (1 : Int32) else (wb3_m1 x0 x3))
def wb3_m3 (x0 : Int32) (x1 : Int32) (x2 : Int32) (x3 : Int32) : Int32 := (if x2 = x3 then (2 : Int32) else (wb3_m2 x0 x1 x3))
def we3_r1 (x0 : Int32) (x1 : Int32) (x2 : Int32) (x3 : Int32) : Int64 := (if (wb3_m3 x0 x1 x2 x3) < (0 : Int32) then (3 : Int64) else ((5 : Int64) + ((wb3_m3 x0 x1 x2 x3).toInt64)))
def wb4_m1 (x0 : Int32) (x4 : Int32) : Int32 := (if x0 = x4 then (0 : Int32) else (-1 : Int32))
def wb4_m2 (x0 : Int32) (x1 : Int32) (x4 : Int32) : Int32 := (if x1 = x4 then (1 : Int32) else (wb4_m1 x0 x4))
def wb4_m3 (x0 : Int32) (x1 : Int32) (x2 : Int32) (x4 : Int32) : Int32 := (if x2 = x4 then (2 : Int32) else (wb4_m2 x0 x1 x4))
def wb4_m4 (x0 : Int32) (x1 : Int32) (x2 : Int32) (x3 : Int32) (x4 : Int32) : Int32 := (if x3 = x4 then (3 : Int32) else (wb4_m3 x0 x1 x2 x4))
def we4_r1 (x0 : Int32) (x1 : Int32) (x2 : Int32) (x3 : Int32) (x4 : Int32) : Int64 := (if (wb4_m4 x0 x1 x2 x3 x4) < (0 : Int32) then (4 : Int64) else ((5 : Int64) + ((wb4_m4 x0 x1 x2 x3 x4).toInt64)))
def wrk0_1 (x0 : Int32) (l0 : Int32) (l1 : Int32) (l2 : Int32) (l3 : Int32) (l4 : Int32) : Int32 := (own_get [l0, l1, l2, l3, l4] x0)
def wrk0_2 (x0 : Int32) (l0 : Int32) : Int32 := (if x0 = (0 : Int32) then (0 : Int32) else l0)
def wrk0_3 (x0 : Int32) (l1 : Int32) : Int32 := (if x0 = (1 : Int32) then (0 : Int32) else l1)
def wrk0_4 (x0 : Int32) (l2 : Int32) : Int32 := (if x0 = (2 : Int32) then (0 : Int32) else l2)
def wrk0_5 (x0 : Int32) (l3 : Int32) : Int32 := (if x0 = (3 : Int32) then (0 : Int32) else l3)
def wrk0_6 (x0 : Int32) (l4 : Int32) : Int32 := (if x0 = (4 : Int32) then (0 : Int32) else l4)
def wrk0_7 (x0 : Int32) (l0 : Int32) (l1 : Int32) (l2 : Int32) (l3 : Int32) (l4 : Int32) : Int64 := ((5 : Int64) + ((wrk0_1 x0 l0 l1 l2 l3 l4).toInt64))
def wrk0_r8 (x0 : Int32) (l0 : Int32) (l1 : Int32) (l2 : Int32) (l3 : Int32) (l4 : Int32) : Int64 := (if (wrk0_1 x0 l0 l1 l2 l3 l4) < (0 : Int32) then (0 : Int64) else (wrk0_7 x0 l0 l1 l2 l3 l4))
def wrk1_1 (x1 : Int32) (l0 : Int32) (l1 : Int32) (l2 : Int32) (l3 : Int32) (l4 : Int32) : Int32 := (own_get [l0, l1, l2, l3, l4] x1)
def wrk1_2 (x1 : Int32) (l0 : Int32) : Int32 := (if x1 = (0 : Int32) then (1 : Int32) else l0)
def wrk1_3 (x1 : Int32) (l1 : Int32) : Int32 := (if x1 = (1 : Int32) then (1 : Int32) else l1)
def wrk1_4 (x1 : Int32) (l2 : Int32) : Int32 := (if x1 = (2 : Int32) then (1 : Int32) else l2)
def wrk1_5 (x1 : Int32) (l3 : Int32) : Int32 := (if x1 = (3 : Int32) then (1 : Int32) else l3)
def wrk1_6 (x1 : Int32) (l4 : Int32) : Int32 := (if x1 = (4 : Int32) then (1 : Int32) else l4)
def wrk1_7 (x1 : Int32) (l0 : Int32) (l1 : Int32) (l2 : Int32) (l3 : Int32) (l4 : Int32) : Int64 := ((5 : Int64) + ((wrk1_1 x1 l0 l1 l2 l3 l4).toInt64))
def wrk1_r8 (x1 : Int32) (l0 : Int32) (l1 : Int32) (l2 : Int32) (l3 : Int32) (l4 : Int32) : Int64 := (if (wrk1_1 x1 l0 l1 l2 l3 l4) < (0 : Int32) then (1 : Int64) else (wrk1_7 x1 l0 l1 l2 l3 l4))
def wrk2_1 (x2 : Int32) (l0 : Int32) (l1 : Int32) (l2 : Int32) (l3 : Int32) (l4 : Int32) : Int32 := (own_get [l0, l1, l2, l3, l4] x2)
def wrk2_2 (x2 : Int32) (l0 : Int32) : Int32 := (if x2 = (0 : Int32) then (2 : Int32) else l0)
def wrk2_3 (x2 : Int32) (l1 : Int32) : Int32 := (if x2 = (1 : Int32) then (2 : Int32) else l1)
def wrk2_4 (x2 : Int32) (l2 : Int32) : Int32 := (if x2 = (2 : Int32) then (2 : Int32) else l2)
def wrk2_5 (x2 : Int32) (l3 : Int32) : Int32 := (if x2 = (3 : Int32) then (2 : Int32) else l3)
def wrk2_6 (x2 : Int32) (l4 : Int32) : Int32 := (if x2 = (4 : Int32) then (2 : Int32) else l4)
def wrk2_7 (x2 : Int32) (l0 : Int32) (l1 : Int32) (l2 : Int32) (l3 : Int32) (l4 : Int32) : Int64 := ((5 : Int64) + ((wrk2_1 x2 l0 l1 l2 l3 l4).toInt64))
def wrk2_r8 (x2 : Int32) (l0 : Int32) (l1 : Int32) (l2 : Int32) (l3 : Int32) (l4 : Int32) : Int64 := (if (wrk2_1 x2 l0 l1 l2 l3 l4) < (0 : Int32) then (2 : Int64) else (wrk2_7 x2 l0 l1 l2 l3 l4))
def wrk3_1 (x3 : Int32) (l0 : Int32) (l1 : Int32) (l2 : Int32) (l3 : Int32) (l4 : Int32) : Int32 := (own_get [l0, l1, l2, l3, l4] x3)
def wrk3_2 (x3 : Int32) (l0 : Int32) : Int32 := (if x3 = (0 : Int32) then (3 : Int32) else l0)
def wrk3_3 (x3 : Int32) (l1 : Int32) : Int32 := (if x3 = (1 : Int32) then (3 : Int32) else l1)
def wrk3_4 (x3 : Int32) (l2 : Int32) : Int32 := (if x3 = (2 : Int32) then (3 : Int32) else l2)
def wrk3_5 (x3 : Int32) (l3 : Int32) : Int32 := (if x3 = (3 : Int32) then (3 : Int32) else l3)
def wrk3_6 (x3 : Int32) (l4 : Int32) : Int32 := (if x3 = (4 : Int32) then (3 : Int32) else l4)
def wrk3_7 (x3 : Int32) (l0 : Int32) (l1 : Int32) (l2 : Int32) (l3 : Int32) (l4 : Int32) : Int64 := ((5 : Int64) + ((wrk3_1 x3 l0 l1 l2 l3 l4).toInt64))
def wrk3_r8 (x3 : Int32) (l0 : Int32) (l1 : Int32) (l2 : Int32) (l3 : Int32) (l4 : Int32) : Int64 := (if (wrk3_1 x3 l0 l1 l2 l3 l4) < (0 : Int32) then (3 : Int64) else (wrk3_7 x3 l0 l1 l2 l3 l4))
def wrk4_1 (x4 : Int32) (l0 : Int32) (l1 : Int32) (l2 : Int32) (l3 : Int32) (l4 : Int32) : Int32 := (own_get [l0, l1, l2, l3, l4] x4)
def wrk4_2 (x4 : Int32) (l0 : Int32) : Int32 := (if x4 = (0 : Int32) then (4 : Int32) else l0)
def wrk4_3 (x4 : Int32) (l1 : Int32) : Int32 := (if x4 = (1 : Int32) then (4 : Int32) else l1)
def wrk4_4 (x4 : Int32) (l2 : Int32) : Int32 := (if x4 = (2 : Int32) then (4 : Int32) else l2)
def wrk4_5 (x4 : Int32) (l3 : Int32) : Int32 := (if x4 = (3 : Int32) then (4 : Int32) else l3)
def wrk4_6 (x4 : Int32) (l4 : Int32) : Int32 := (if x4 = (4 : Int32) then (4 : Int32) else l4)
def wrk4_7 (x4 : Int32) (l0 : Int32) (l1 : Int32) (l2 : Int32) (l3 : Int32) (l4 : Int32) : Int64 := ((5 : Int64) + ((wrk4_1 x4 l0 l1 l2 l3 l4).toInt64))
def wrk4_r8 (x4 : Int32) (l0 : Int32) (l1 : Int32) (l2 : Int32) (l3 : Int32) (l4 : Int32) : Int64 := (if (wrk4_1 x4 l0 l1 l2 l3 l4) < (0 : Int32) then (4 : Int64) else (wrk4_7 x4 l0 l1 l2 l3 l4))
def w0_1 (p0 : Int32) : Int32 := ((p0 &&& (7 : Int32)) % (2 : Int32))
def w0_m2 (p0 : Int32) : Int32 := (if (w0_1 p0) = (1 : Int32) then (2 : Int32) else (1 : Int32))
def w0_3 (p0 : Int32) : Int32 := (((p0.toUInt32 >>> ((3 : Int32) &&& 31).toUInt32).toInt32) &&& (7 : Int32))
def w0_4 (p0 : Int32) : Int32 := ((w0_3 p0) % ((w0_m2 p0) + (1 : Int32)))
def w0_m5 (p0 : Int32) : Int32 := (if (w0_4 p0) = (w0_m2 p0) then ((w0_m2 p0) + (1 : Int32)) else (w0_m2 p0))
def w0_6 (p0 : Int32) : Int32 := (((p0.toUInt32 >>> ((6 : Int32) &&& 31).toUInt32).toInt32) &&& (7 : Int32))
def w0_7 (p0 : Int32) : Int32 := ((w0_6 p0) % ((w0_m5 p0) + (1 : Int32)))
def w0_m8 (p0 : Int32) : Int32 := (if (w0_7 p0) = (w0_m5 p0) then ((w0_m5 p0) + (1 : Int32)) else (w0_m5 p0))
def w0_9 (p0 : Int32) : Int32 := (((p0.toUInt32 >>> ((9 : Int32) &&& 31).toUInt32).toInt32) &&& (7 : Int32))
def w0_10 (p0 : Int32) : Int32 := ((w0_9 p0) % ((w0_m8 p0) + (1 : Int32)))
def w0_m11 (p0 : Int32) : Int32 := (if (w0_10 p0) = (w0_m8 p0) then ((w0_m8 p0) + (1 : Int32)) else (w0_m8 p0))
def w0_12 (p0 : Int32) : Int64 := (we2_r1 (0 : Int32) (w0_1 p0) (w0_4 p0))
def w0_13 (p0 : Int32) : Int64 := (we3_r1 (0 : Int32) (w0_1 p0) (w0_4 p0) (w0_7 p0))
def w0_14 (p0 : Int32) : Int64 := (we4_r1 (0 : Int32) (w0_1 p0) (w0_4 p0) (w0_7 p0) (w0_10 p0))
def w0_m15 (p1 : Int32) : Int32 := (if (p1 &&& (1 : Int32)) = (0 : Int32) then (0 : Int32) else (1 : Int32))
def w0_16  : Int64 := (wrk0_r8 (0 : Int32) (-1 : Int32) (-1 : Int32) (-1 : Int32) (-1 : Int32) (-1 : Int32))
def w0_m17 (p1 : Int32) : Int32 := (if (p1 &&& (2 : Int32)) = (0 : Int32) then (0 : Int32) else (1 : Int32))
def w0_18 (p0 : Int32) : Int64 := (wrk1_r8 (w0_1 p0) (wrk0_2 (0 : Int32) (-1 : Int32)) (wrk0_3 (0 : Int32) (-1 : Int32)) (wrk0_4 (0 : Int32) (-1 : Int32)) (wrk0_5 (0 : Int32) (-1 : Int32)) (wrk0_6 (0 : Int32) (-1 : Int32)))
def w0_m19 (p1 : Int32) : Int32 := (if (p1 &&& (4 : Int32)) = (0 : Int32) then (0 : Int32) else (1 : Int32))
def w0_20 (p0 : Int32) : Int64 := (wrk2_r8 (w0_4 p0) (wrk1_2 (w0_1 p0) (wrk0_2 (0 : Int32) (-1 : Int32))) (wrk1_3 (w0_1 p0) (wrk0_3 (0 : Int32) (-1 : Int32))) (wrk1_4 (w0_1 p0) (wrk0_4 (0 : Int32) (-1 : Int32))) (wrk1_5 (w0_1 p0) (wrk0_5 (0 : Int32) (-1 : Int32))) (wrk1_6 (w0_1 p0) (wrk0_6 (0 : Int32) (-1 : Int32))))
def w0_m21 (p1 : Int32) : Int32 := (if (p1 &&& (8 : Int32)) = (0 : Int32) then (0 : Int32) else (1 : Int32))
def w0_22 (p0 : Int32) : Int64 := (wrk3_r8 (w0_7 p0) (wrk2_2 (w0_4 p0) (wrk1_2 (w0_1 p0) (wrk0_2 (0 : Int32) (-1 : Int32)))) (wrk2_3 (w0_4 p0) (wrk1_3 (w0_1 p0) (wrk0_3 (0 : Int32) (-1 : Int32)))) (wrk2_4 (w0_4 p0) (wrk1_4 (w0_1 p0) (wrk0_4 (0 : Int32) (-1 : Int32)))) (wrk2_5 (w0_4 p0) (wrk1_5 (w0_1 p0) (wrk0_5 (0 : Int32) (-1 : Int32)))) (wrk2_6 (w0_4 p0) (wrk1_6 (w0_1 p0) (wrk0_6 (0 : Int32) (-1 : Int32)))))
def w0_m23 (p1 : Int32) : Int32 := (if (p1 &&& (16 : Int32)) = (0 : Int32) then (0 : Int32) else (1 : Int32))
def w0_24 (p0 : Int32) : Int64 := (wrk4_r8 (w0_10 p0) (wrk3_2 (w0_7 p0) (wrk2_2 (w0_4 p0) (wrk1_2 (w0_1 p0) (wrk0_2 (0 : Int32) (-1 : Int32))))) (wrk3_3 (w0_7 p0) (wrk2_3 (w0_4 p0) (wrk1_3 (w0_1 p0) (wrk0_3 (0 : Int32) (-1 : Int32))))) (wrk3_4 (w0_7 p0) (wrk2_4 (w0_4 p0) (wrk1_4 (w0_1 p0) (wrk0_4 (0 : Int32) (-1 : Int32))))) (wrk3_5 (w0_7 p0) (wrk2_5 (w0_4 p0) (wrk1_5 (w0_1 p0) (wrk0_5 (0 : Int32) (-1 : Int32))))) (wrk3_6 (w0_7 p0) (wrk2_6 (w0_4 p0) (wrk1_6 (w0_1 p0) (wrk0_6 (0 : Int32) (-1 : Int32))))))
def w0_r25 (p0 : Int32) : Int32 := (if w0_16 = (0 : Int64) then (if (w0_18 p0) = (we1_r1 (0 : Int32) (w0_1 p0)) then (if (w0_20 p0) = (w0_12 p0) then (if (w0_22 p0) = (w0_13 p0) then (if (w0_24 p0) = (w0_14 p0) then (1 : Int32) else (0 : Int32)) else (0 : Int32)) else (0 : Int32)) else (0 : Int32)) else (0 : Int32))
theorem own_upd5 (x0 x1 x2 x3 x4 j v : Int32) (h : ¬ j < 0) : ∀ i, [Value.int (if j = (0 : Int32) then v else x0), Value.int (if j = (1 : Int32) then v else x1), Value.int (if j = (2 : Int32) then v else x2), Value.int (if j = (3 : Int32) then v else x3), Value.int (if j = (4 : Int32) then v else x4)].getD i (.int (0 : Int32)) = ([Value.int x0, Value.int x1, Value.int x2, Value.int x3, Value.int x4].set j.toNatClampNeg (.int v)).getD i (.int (0 : Int32)) := by
  have key : ∀ (k : Nat), k < 5 → ((j = Int32.ofNat k) ↔ j.toNatClampNeg = k) := by
    intro k hk
    have a := nat_of h
    have b : (Int32.ofNat k).toInt = k := by
      have : k = 0 ∨ k = 1 ∨ k = 2 ∨ k = 3 ∨ k = 4 := by omega
      rcases this with rfl | rfl | rfl | rfl | rfl <;> rfl
    rw [← Int32.toInt_inj, b]
    omega
  have k0 : (j = (0 : Int32)) ↔ j.toNatClampNeg = 0 := key 0 (by decide)
  have k1 : (j = (1 : Int32)) ↔ j.toNatClampNeg = 1 := key 1 (by decide)
  have k2 : (j = (2 : Int32)) ↔ j.toNatClampNeg = 2 := key 2 (by decide)
  have k3 : (j = (3 : Int32)) ↔ j.toNatClampNeg = 3 := key 3 (by decide)
  have k4 : (j = (4 : Int32)) ↔ j.toNatClampNeg = 4 := key 4 (by decide)
  intro i
  simp only [k0, k1, k2, k3, k4]
  generalize j.toNatClampNeg = n
  match n with
  | 0 => match i with
    | 0 => rfl
    | 1 => rfl
    | 2 => rfl
    | 3 => rfl
    | 4 => rfl
    | _ + 5 => rfl
  | 1 => match i with
    | 0 => rfl
    | 1 => rfl
    | 2 => rfl
    | 3 => rfl
    | 4 => rfl
    | _ + 5 => rfl
  | 2 => match i with
    | 0 => rfl
    | 1 => rfl
    | 2 => rfl
    | 3 => rfl
    | 4 => rfl
    | _ + 5 => rfl
  | 3 => match i with
    | 0 => rfl
    | 1 => rfl
    | 2 => rfl
    | 3 => rfl
    | 4 => rfl
    | _ + 5 => rfl
  | 4 => match i with
    | 0 => rfl
    | 1 => rfl
    | 2 => rfl
    | 3 => rfl
    | 4 => rfl
    | _ + 5 => rfl
  | m + 5 =>
    rw [if_neg (by omega), if_neg (by omega), if_neg (by omega), if_neg (by omega), if_neg (by omega)]
    rfl
theorem own_lt5 {x z : Int32} (h : ¬ x < 0 ∧ x < z) (hz : ¬ (5 : Int32) < z) : x.toNatClampNeg < 5 := by
  have a := nat_of h.1
  have l5 : (5 : Int32).toInt = 5 := rfl
  have h2 := h.2
  rw [Int32.lt_iff_toInt_lt] at h2 hz
  omega
theorem own_cap5 {z : Int32} (h : ¬ z < 0) (hz : ¬ (5 : Int32) < z) : z.toNatClampNeg ≤ 5 := by
  have a := nat_of h
  have l5 : (5 : Int32).toInt = 5 := rfl
  rw [Int32.lt_iff_toInt_lt] at hz
  omega
theorem own_full {Z : State} {h : Heap} {a : Addr} {k : ClassId} {z v : Int32} {vs : List Value} (V : Arv Z h a k .int z vs (.int (0 : Int32))) (hv : ∀ j, j < z.toInt.toNat → vs.getD j (.int (0 : Int32)) = .int v) (hz : ¬ (5 : Int32) < z) : Arv Z h a k .int z [(.int v), (.int v), (.int v), (.int v), (.int v)] (.int (0 : Int32)) := by
  obtain ⟨c, A, q, S, n, H, G⟩ := V
  have a1 := nat_of n
  have l5 : (5 : Int32).toInt = 5 := rfl
  rw [Int32.lt_iff_toInt_lt] at hz
  have e : ∀ i, i < c.slots.size → [Value.int v, Value.int v, Value.int v, Value.int v, Value.int v].getD i (.int (0 : Int32)) = vs.getD i (.int (0 : Int32)) := by
    intro i hi
    rw [hv i (by omega)]
    have : i = 0 ∨ i = 1 ∨ i = 2 ∨ i = 3 ∨ i = 4 := by omega
    rcases this with rfl | rfl | rfl | rfl | rfl <;> rfl
  exact ⟨c, A, q, S, n, fun i hi => by rw [e i hi]; exact H i hi, fun i hi => by rw [e i hi]; exact G i hi⟩
theorem own_setv {vs : List Value} {i : Int32} {n : Nat} {v : Int32} (hv : ∀ j, j < i.toInt.toNat → vs.getD j (.int (0 : Int32)) = .int v) (hn : (n : Int) = i.toInt) (hp : 0 ≤ i.toInt) (hl : n < vs.length) (ei : (i + 1).toInt = i.toInt + 1) : ∀ j, j < (i + 1).toInt.toNat → (vs.set n (.int v)).getD j (.int (0 : Int32)) = .int v := by
  intro j hj
  rw [List.getD_eq_getElem?_getD, List.getElem?_set]
  by_cases e : n = j
  · subst e
    rw [if_pos rfl, if_pos hl]
    rfl
  · rw [if_neg e, ← List.getD_eq_getElem?_getD]
    exact hv j (by omega)
theorem own_ms (x m : Int32) (h0 : 0 ≤ x.toInt) (h1 : x.toInt ≤ m.toInt) (h2 : m.toInt ≤ 4) : m.toInt ≤ (if x = m then m + 1 else m).toInt ∧ (if x = m then m + 1 else m).toInt ≤ m.toInt + 1 ∧ x.toInt < (if x = m then m + 1 else m).toInt := by
  have a := c_iadd m 1
  have l1 : (1 : Int32).toInt = 1 := rfl
  have r := rng32 (m + 1)
  by_cases e : x = m
  · rw [if_pos e]
    omega
  · rw [if_neg e]
    rw [← Int32.toInt_inj] at e
    omega
theorem own_mod (y m : Int32) (hy : 0 ≤ y.toInt) (h1 : 1 ≤ m.toInt) (h2 : m.toInt ≤ 4) : 0 ≤ (y % (m + 1)).toInt ∧ (y % (m + 1)).toInt ≤ m.toInt := by
  have a := c_iadd m 1
  have l1 : (1 : Int32).toInt = 1 := rfl
  have r := rng32 (m + 1)
  have b := (c_iremV y (m + 1)).1 hy (by omega)
  omega
theorem own_rng (p0 : Int32) : (0 ≤ (w0_1 p0).toInt ∧ (w0_1 p0).toInt < (w0_m2 p0).toInt ∧ 1 ≤ (w0_m2 p0).toInt ∧ (w0_m2 p0).toInt ≤ 2) ∧ (0 ≤ (w0_4 p0).toInt ∧ (w0_4 p0).toInt < (w0_m5 p0).toInt ∧ (w0_m2 p0).toInt ≤ (w0_m5 p0).toInt ∧ (w0_m5 p0).toInt ≤ 3) ∧ (0 ≤ (w0_7 p0).toInt ∧ (w0_7 p0).toInt < (w0_m8 p0).toInt ∧ (w0_m5 p0).toInt ≤ (w0_m8 p0).toInt ∧ (w0_m8 p0).toInt ≤ 4) ∧ (0 ≤ (w0_10 p0).toInt ∧ (w0_10 p0).toInt < (w0_m11 p0).toInt ∧ (w0_m8 p0).toInt ≤ (w0_m11 p0).toInt ∧ (w0_m11 p0).toInt ≤ 5) := by
  have l1 : (1 : Int32).toInt = 1 := rfl
  have l2 : (2 : Int32).toInt = 2 := rfl
  have k1 := c_mask p0 7 3 (by decide) (by decide)
  have a1 := (c_irem (p0 &&& 7) 2 2 rfl).1 (by omega)
  have e1 : (w0_1 p0).toInt = (p0 &&& 7).toInt % 2 := a1
  have s1 := own_ms (w0_1 p0) 1 (by omega) (by omega) (by omega)
  have e2 : (w0_m2 p0).toInt = (if w0_1 p0 = 1 then (1 : Int32) + 1 else 1).toInt := rfl
  have k3 := c_mask ((p0.toUInt32 >>> ((3 : Int32) &&& 31).toUInt32).toInt32) 7 3 (by decide) (by decide)
  have e3 : (w0_3 p0).toInt = (((p0.toUInt32 >>> ((3 : Int32) &&& 31).toUInt32).toInt32) &&& 7).toInt := rfl
  have s2 := own_mod (w0_3 p0) (w0_m2 p0) (by omega) (by omega) (by omega)
  have e4 : (w0_4 p0).toInt = (w0_3 p0 % (w0_m2 p0 + 1)).toInt := rfl
  have s3 := own_ms (w0_4 p0) (w0_m2 p0) (by omega) (by omega) (by omega)
  have e5 : (w0_m5 p0).toInt = (if w0_4 p0 = w0_m2 p0 then w0_m2 p0 + 1 else w0_m2 p0).toInt := rfl
  have k6 := c_mask ((p0.toUInt32 >>> ((6 : Int32) &&& 31).toUInt32).toInt32) 7 3 (by decide) (by decide)
  have e6 : (w0_6 p0).toInt = (((p0.toUInt32 >>> ((6 : Int32) &&& 31).toUInt32).toInt32) &&& 7).toInt := rfl
  have s4 := own_mod (w0_6 p0) (w0_m5 p0) (by omega) (by omega) (by omega)
  have e7 : (w0_7 p0).toInt = (w0_6 p0 % (w0_m5 p0 + 1)).toInt := rfl
  have s5 := own_ms (w0_7 p0) (w0_m5 p0) (by omega) (by omega) (by omega)
  have e8 : (w0_m8 p0).toInt = (if w0_7 p0 = w0_m5 p0 then w0_m5 p0 + 1 else w0_m5 p0).toInt := rfl
  have k9 := c_mask ((p0.toUInt32 >>> ((9 : Int32) &&& 31).toUInt32).toInt32) 7 3 (by decide) (by decide)
  have e9 : (w0_9 p0).toInt = (((p0.toUInt32 >>> ((9 : Int32) &&& 31).toUInt32).toInt32) &&& 7).toInt := rfl
  have s6 := own_mod (w0_9 p0) (w0_m8 p0) (by omega) (by omega) (by omega)
  have e10 : (w0_10 p0).toInt = (w0_9 p0 % (w0_m8 p0 + 1)).toInt := rfl
  have s7 := own_ms (w0_10 p0) (w0_m8 p0) (by omega) (by omega) (by omega)
  have e11 : (w0_m11 p0).toInt = (if w0_10 p0 = w0_m8 p0 then w0_m8 p0 + 1 else w0_m8 p0).toInt := rfl
  refine ⟨⟨?_, ?_, ?_, ?_⟩, ⟨?_, ?_, ?_, ?_⟩, ⟨?_, ?_, ?_, ?_⟩, ⟨?_, ?_, ?_, ?_⟩⟩ <;> omega
theorem own_nz (m : Int32) (h : 1 ≤ m.toInt) (h2 : m.toInt ≤ 5) : m + (1 : Int32) ≠ 0 := by
  have a := c_iadd m 1
  have l1 : (1 : Int32).toInt = 1 := rfl
  have l0 : (0 : Int32).toInt = 0 := rfl
  have r := rng32 (m + 1)
  intro e
  rw [← Int32.toInt_inj] at e
  omega
theorem own_nz2 (p0 : Int32) : (w0_m2 p0) + (1 : Int32) ≠ 0 := by have r := own_rng p0; exact own_nz _ (by omega) (by omega)
theorem own_nz3 (p0 : Int32) : (w0_m5 p0) + (1 : Int32) ≠ 0 := by have r := own_rng p0; exact own_nz _ (by omega) (by omega)
theorem own_nz4 (p0 : Int32) : (w0_m8 p0) + (1 : Int32) ≠ 0 := by have r := own_rng p0; exact own_nz _ (by omega) (by omega)
theorem own_m0 (p0 : Int32) : ¬ (w0_m11 p0) < 0 := by
  have r := own_rng p0
  have l0 : (0 : Int32).toInt = 0 := rfl
  rw [Int32.lt_iff_toInt_lt]
  omega
theorem own_m5 (p0 : Int32) : ¬ (5 : Int32) < (w0_m11 p0) := by
  have r := own_rng p0
  have l5 : (5 : Int32).toInt = 5 := rfl
  rw [Int32.lt_iff_toInt_lt]
  omega
theorem own_ini (x m : Int32) (h0 : 0 ≤ x.toInt) (h1 : x.toInt < m.toInt) : ¬ x < 0 ∧ x < m := by
  have l0 : (0 : Int32).toInt = 0 := rfl
  rw [Int32.lt_iff_toInt_lt, Int32.lt_iff_toInt_lt]
  omega
theorem own_in0 (p0 : Int32) : ¬ (0 : Int32) < 0 ∧ (0 : Int32) < (w0_m11 p0) := by
  have r := own_rng p0
  have l0 : (0 : Int32).toInt = 0 := rfl
  exact own_ini _ _ (by omega) (by omega)
theorem own_in1 (p0 : Int32) : ¬ (w0_1 p0) < 0 ∧ (w0_1 p0) < (w0_m11 p0) := by have r := own_rng p0; exact own_ini _ _ (by omega) (by omega)
theorem own_in2 (p0 : Int32) : ¬ (w0_4 p0) < 0 ∧ (w0_4 p0) < (w0_m11 p0) := by have r := own_rng p0; exact own_ini _ _ (by omega) (by omega)
theorem own_in3 (p0 : Int32) : ¬ (w0_7 p0) < 0 ∧ (w0_7 p0) < (w0_m11 p0) := by have r := own_rng p0; exact own_ini _ _ (by omega) (by omega)
theorem own_in4 (p0 : Int32) : ¬ (w0_10 p0) < 0 ∧ (w0_10 p0) < (w0_m11 p0) := by have r := own_rng p0; exact own_ini _ _ (by omega) (by omega)
theorem own_small (x : Int32) (h0 : 0 ≤ x.toInt) (h1 : x.toInt < 5) : x = 0 ∨ x = 1 ∨ x = 2 ∨ x = 3 ∨ x = 4 := by
  have l0 : (0 : Int32).toInt = 0 := rfl
  have l1 : (1 : Int32).toInt = 1 := rfl
  have l2 : (2 : Int32).toInt = 2 := rfl
  have l3 : (3 : Int32).toInt = 3 := rfl
  have l4 : (4 : Int32).toInt = 4 := rfl
  simp only [← Int32.toInt_inj, l0, l1, l2, l3, l4]
  omega
theorem own_gu (y x v a b c d e : Int32) (h : x = 0 ∨ x = 1 ∨ x = 2 ∨ x = 3 ∨ x = 4) : own_get [(if y = (0 : Int32) then v else a), (if y = (1 : Int32) then v else b), (if y = (2 : Int32) then v else c), (if y = (3 : Int32) then v else d), (if y = (4 : Int32) then v else e)] x = if y = x then v else own_get [a, b, c, d, e] x := by
  rcases h with rfl | rfl | rfl | rfl | rfl <;> rfl
theorem own_g1 (x : Int32) (h : x = 0 ∨ x = 1 ∨ x = 2 ∨ x = 3 ∨ x = 4) : own_get [(-1 : Int32), (-1 : Int32), (-1 : Int32), (-1 : Int32), (-1 : Int32)] x = -1 := by
  rcases h with rfl | rfl | rfl | rfl | rfl <;> rfl
theorem plain_law (p0 p1 : Int32) (q2 : Int64) : w0_r25 p0 = 1 := by
  have r := own_rng p0
  have h1 := own_small (w0_1 p0) (by omega) (by omega)
  have h2 := own_small (w0_4 p0) (by omega) (by omega)
  have h3 := own_small (w0_7 p0) (by omega) (by omega)
  have h4 := own_small (w0_10 p0) (by omega) (by omega)
  have a0 : w0_16 = 0 := by decide
  have a1 : w0_18 p0 = we1_r1 (0 : Int32) (w0_1 p0) := by
    unfold w0_18 wrk1_r8 wrk1_7 wrk1_1 wrk0_2 wrk0_3 wrk0_4 wrk0_5 wrk0_6 we1_r1 wb1_m1
    rw [own_gu _ _ _ _ _ _ _ _ h1, own_g1 _ h1]
  have a2 : w0_20 p0 = w0_12 p0 := by
    unfold w0_20 wrk2_r8 wrk2_7 wrk2_1 wrk1_2 wrk1_3 wrk1_4 wrk1_5 wrk1_6 wrk0_2 wrk0_3 wrk0_4 wrk0_5 wrk0_6 w0_12 we2_r1 wb2_m2 wb2_m1
    rw [own_gu _ _ _ _ _ _ _ _ h2, own_gu _ _ _ _ _ _ _ _ h2, own_g1 _ h2]
  have a3 : w0_22 p0 = w0_13 p0 := by
    unfold w0_22 wrk3_r8 wrk3_7 wrk3_1 wrk2_2 wrk2_3 wrk2_4 wrk2_5 wrk2_6 wrk1_2 wrk1_3 wrk1_4 wrk1_5 wrk1_6 wrk0_2 wrk0_3 wrk0_4 wrk0_5 wrk0_6 w0_13 we3_r1 wb3_m3 wb3_m2 wb3_m1
    rw [own_gu _ _ _ _ _ _ _ _ h3, own_gu _ _ _ _ _ _ _ _ h3, own_gu _ _ _ _ _ _ _ _ h3, own_g1 _ h3]
  have a4 : w0_24 p0 = w0_14 p0 := by
    unfold w0_24 wrk4_r8 wrk4_7 wrk4_1 wrk3_2 wrk3_3 wrk3_4 wrk3_5 wrk3_6 wrk2_2 wrk2_3 wrk2_4 wrk2_5 wrk2_6 wrk1_2 wrk1_3 wrk1_4 wrk1_5 wrk1_6 wrk0_2 wrk0_3 wrk0_4 wrk0_5 wrk0_6 w0_14 we4_r1 wb4_m4 wb4_m3 wb4_m2 wb4_m1
    rw [own_gu _ _ _ _ _ _ _ _ h4, own_gu _ _ _ _ _ _ _ _ h4, own_gu _ _ _ _ _ _ _ _ h4, own_gu _ _ _ _ _ _ _ _ h4, own_g1 _ h4]
  unfold w0_r25
  rw [if_pos a0, if_pos a1, if_pos a2, if_pos a3, if_pos a4]

theorem db0_0 : decode method_3_code 0 = .ok (.iconst (-1), 1) := by decide +kernel
theorem db0_1 : decode method_3_code 1 = .ok (.istore_n 2, 1) := by decide +kernel
theorem db0_2 : decode method_3_code 2 = .ok (.iload_n 1, 1) := by decide +kernel
theorem db0_3 : decode method_3_code 3 = .ok (.ifCond .le 14, 3) := by decide +kernel
theorem db0_17 : decode method_3_code 17 = .ok (.iload_n 1, 1) := by decide +kernel
theorem db0_18 : decode method_3_code 18 = .ok (.iconst 1, 1) := by decide +kernel
theorem db0_19 : decode method_3_code 19 = .ok (.if_icmp .le 14, 3) := by decide +kernel
theorem db0_33 : decode method_3_code 33 = .ok (.iload_n 1, 1) := by decide +kernel
theorem db0_34 : decode method_3_code 34 = .ok (.iconst 2, 1) := by decide +kernel
theorem db0_35 : decode method_3_code 35 = .ok (.if_icmp .le 14, 3) := by decide +kernel
theorem db0_49 : decode method_3_code 49 = .ok (.iload_n 1, 1) := by decide +kernel
theorem db0_50 : decode method_3_code 50 = .ok (.iconst 3, 1) := by decide +kernel
theorem db0_51 : decode method_3_code 51 = .ok (.if_icmp .le 14, 3) := by decide +kernel
theorem db0_65 : decode method_3_code 65 = .ok (.iload_n 2, 1) := by decide +kernel
theorem db0_66 : decode method_3_code 66 = .ok (.ireturn, 1) := by decide +kernel
theorem pnb0 : plainName "com/example/nearmark/nearmark/paging/LeastRecentlyUsed2RankPinLaw" = true := by first | (simp [plainName, overriddenIn]; done) | decide +kernel
theorem efb0 (m : MethodId) (o0 : Addr) : entryFrame m #[(.ref o0), (.int (0 : Int32))] 3 = mkF m 0 #[.val (.ref o0), .val (.int (0 : Int32)), .unset] [] := by first | (simp [entryFrame, mkF, argsToLocals, Value.category]; done) | rfl
def Qb0 (Z : State) (o0 : Addr) (ka : ClassId) (x0 : Int32) (x1 : Int32) (x2 : Int32) (x3 : Int32) (x4 : Int32) (h0 : Heap) (n0 : Nat) (v : Option Value) (h : Heap) (L : List Loc) : Prop := v = some (.int (-1 : Int32)) ∧ Fr n0 L ∧ h = h0
set_option maxRecDepth 65536 in
set_option maxHeartbeats 40000000 in
theorem rmb0 (l : Launch) (Z : State) (a0 : Array Value) (hw : ∀ d ∈ tables_1, d.before a0 Z = true) (ws : List Jvm.Cond) (o0 : Addr) (ka : ClassId) (x0 : Int32) (x1 : Int32) (x2 : Int32) (x3 : Int32) (x4 : Int32) (h0 : Heap) (n0 : Nat) (Z0 : n0 ≤ h0.size) (V_o0 : Arv Z h0 o0 ka .int (5 : Int32) [(.int x0), (.int x1), (.int x2), (.int x3), (.int x4)] (.int (0 : Int32))) :
    MetFree l (⟨"com/example/nearmark/nearmark/paging/LeastRecentlyUsed2RankPinLaw", "lastBefore", "([II)I"⟩ : MethodName) (head1 (Jvm.Cond.code (⟨"com/example/nearmark/nearmark/paging/LeastRecentlyUsed2RankPinLaw", "lastBefore", "([II)I"⟩ : MethodName) method_3_code 3 (some .int) :: ws) ({ frames := 0, cells := 0, slots := 0, locals := 0 } : Room)) (fun a U => a = #[(.ref o0), (.int (0 : Int32))] ∧ Z.Warmed39 U.vm ∧ U.heap = h0) (fun _ _ _ _ _ => True) (fun _ U o U' => ∃ v L, o = .returned v ∧ Qb0 Z o0 ka x0 x1 x2 x3 x4 h0 n0 v U'.heap L ∧ FrameEnd U o U' L ({ frames := 0, cells := 0, slots := 0, locals := 0 } : Room).cells ({ frames := 0, cells := 0, slots := 0, locals := 0 } : Room).slots) := by
  refine MetFree.of_bodySF (plainFor_of_name pnb0) hisR ?_
  intro p e s m args below meth c s₁ Bd hml0 hP hK
  obtain ⟨rfl, hZ, hh⟩ := hP
  have hlk : meth.locks = false := BodyLoose.notSynchronized Bd
  have hx := Bd.exec
  have hby := Bd.bytes
  have hml : c.maxLocals = 3 := hml0
  have hown : s.vm.findClass "com/example/nearmark/nearmark/paging/LeastRecentlyUsed2RankPinLaw" = some m.cls := findClass_of_methodNamed Bd.named
  have hnm := (name_of_methodNamed Bd.named Bd.method).1
  have X0 : Stand p l e ({ frames := 0, cells := 0, slots := 0, locals := 0 } : Room) s m #[(.ref o0), (.int (0 : Int32))] below meth c s₁ [] 0 0 := Stand.of_body Bd
  have e0 : s₁.heap = h0 := by rw [← hh, Bd.state]; rfl
  have N0 := Fr.nil n0
  obtain ⟨S0, hS0⟩ : ∃ S0, S0 = s₁.setTop (entryFrame m #[(.ref o0), (.int (0 : Int32))] 3) := ⟨_, rfl⟩
  have pre0 : ∀ t, Steps p.tables e below (s₁.setTop (mkF m 0 #[.val (.ref o0), .val (.int (0 : Int32)), .unset] [])) t → Steps p.tables e below S0 t := fun t k => by rw [hS0]; exact castTop (efb0 m o0) k
  have K1 : ∀ t, Steps p.tables e below (s₁.setTop (mkF m 3 #[.val (.ref o0), .val (.int (0 : Int32)), .val (.int (-1 : Int32))] [(.int (0 : Int32))])) t → Steps p.tables e below S0 t := fun t k => pre0 t (by
    refine XS.iconst X0.here hx rfl (hb hby db0_0) ?_
    show Steps p.tables e below (s₁.setTop (mkF m 1 #[.val (.ref o0), .val (.int (0 : Int32)), .unset] [(.int (-1 : Int32))])) _
    refine XS.istoreN X0.here hx rfl (hb hby db0_1) rfl (l' := #[.val (.ref o0), .val (.int (0 : Int32)), .val (.int (-1 : Int32))]) rfl ?_
    show Steps p.tables e below (s₁.setTop (mkF m 2 #[.val (.ref o0), .val (.int (0 : Int32)), .val (.int (-1 : Int32))] [])) _
    refine XS.iloadN X0.here hx rfl (hb hby db0_2) rfl ?_
    show Steps p.tables e below (s₁.setTop (mkF m 3 #[.val (.ref o0), .val (.int (0 : Int32)), .val (.int (-1 : Int32))] [(.int (0 : Int32))])) _
    exact k)
  have K2 : ∀ t, Steps p.tables e below (s₁.setTop (mkF m 19 #[.val (.ref o0), .val (.int (0 : Int32)), .val (.int (-1 : Int32))] [(.int (1 : Int32)), (.int (0 : Int32))])) t → Steps p.tables e below S0 t := fun t k => K1 t (by
    refine XS.ifYes X0.here hx rfl (pc0 := 3) (pc' := 17) rfl (hb hby db0_3) rfl (XT.i0_le_t (by decide)) (by decide) (by decide) ?_
    show Steps p.tables e below (s₁.setTop (mkF m 17 #[.val (.ref o0), .val (.int (0 : Int32)), .val (.int (-1 : Int32))] [])) _
    refine XS.iloadN X0.here hx rfl (hb hby db0_17) rfl ?_
    show Steps p.tables e below (s₁.setTop (mkF m 18 #[.val (.ref o0), .val (.int (0 : Int32)), .val (.int (-1 : Int32))] [(.int (0 : Int32))])) _
    refine XS.iconst X0.here hx rfl (hb hby db0_18) ?_
    show Steps p.tables e below (s₁.setTop (mkF m 19 #[.val (.ref o0), .val (.int (0 : Int32)), .val (.int (-1 : Int32))] [(.int (1 : Int32)), (.int (0 : Int32))])) _
    exact k)
  have K3 : ∀ t, Steps p.tables e below (s₁.setTop (mkF m 35 #[.val (.ref o0), .val (.int (0 : Int32)), .val (.int (-1 : Int32))] [(.int (2 : Int32)), (.int (0 : Int32))])) t → Steps p.tables e below S0 t := fun t k => K2 t (by
    refine XS.icmpYes X0.here hx rfl (pc0 := 19) (pc' := 33) rfl (hb hby db0_19) rfl (XT.ii_le_t (by decide)) (by decide) (by decide) ?_
    show Steps p.tables e below (s₁.setTop (mkF m 33 #[.val (.ref o0), .val (.int (0 : Int32)), .val (.int (-1 : Int32))] [])) _
    refine XS.iloadN X0.here hx rfl (hb hby db0_33) rfl ?_
    show Steps p.tables e below (s₁.setTop (mkF m 34 #[.val (.ref o0), .val (.int (0 : Int32)), .val (.int (-1 : Int32))] [(.int (0 : Int32))])) _
    refine XS.iconst X0.here hx rfl (hb hby db0_34) ?_
    show Steps p.tables e below (s₁.setTop (mkF m 35 #[.val (.ref o0), .val (.int (0 : Int32)), .val (.int (-1 : Int32))] [(.int (2 : Int32)), (.int (0 : Int32))])) _
    exact k)
  have K4 : ∀ t, Steps p.tables e below (s₁.setTop (mkF m 51 #[.val (.ref o0), .val (.int (0 : Int32)), .val (.int (-1 : Int32))] [(.int (3 : Int32)), (.int (0 : Int32))])) t → Steps p.tables e below S0 t := fun t k => K3 t (by
    refine XS.icmpYes X0.here hx rfl (pc0 := 35) (pc' := 49) rfl (hb hby db0_35) rfl (XT.ii_le_t (by decide)) (by decide) (by decide) ?_
    show Steps p.tables e below (s₁.setTop (mkF m 49 #[.val (.ref o0), .val (.int (0 : Int32)), .val (.int (-1 : Int32))] [])) _
    refine XS.iloadN X0.here hx rfl (hb hby db0_49) rfl ?_
    show Steps p.tables e below (s₁.setTop (mkF m 50 #[.val (.ref o0), .val (.int (0 : Int32)), .val (.int (-1 : Int32))] [(.int (0 : Int32))])) _
    refine XS.iconst X0.here hx rfl (hb hby db0_50) ?_
    show Steps p.tables e below (s₁.setTop (mkF m 51 #[.val (.ref o0), .val (.int (0 : Int32)), .val (.int (-1 : Int32))] [(.int (3 : Int32)), (.int (0 : Int32))])) _
    exact k)
  have K5 : ∀ t, Steps p.tables e below (s₁.setTop (mkF m 66 #[.val (.ref o0), .val (.int (0 : Int32)), .val (.int (-1 : Int32))] [(.int (-1 : Int32))])) t → Steps p.tables e below S0 t := fun t k => K4 t (by
    refine XS.icmpYes X0.here hx rfl (pc0 := 51) (pc' := 65) rfl (hb hby db0_51) rfl (XT.ii_le_t (by decide)) (by decide) (by decide) ?_
    show Steps p.tables e below (s₁.setTop (mkF m 65 #[.val (.ref o0), .val (.int (0 : Int32)), .val (.int (-1 : Int32))] [])) _
    refine XS.iloadN X0.here hx rfl (hb hby db0_65) rfl ?_
    show Steps p.tables e below (s₁.setTop (mkF m 66 #[.val (.ref o0), .val (.int (0 : Int32)), .val (.int (-1 : Int32))] [(.int (-1 : Int32))])) _
    exact k)
  obtain ⟨fs, hr, hrun, hended, hW, hsame⟩ := X0.leave (v := some (.int (-1 : Int32))) (fun h => by rw [Bd.returns] at h; cases h) hlk
  refine ⟨_, _, ?_, hrun, hended, _, _, rfl, ?_, ⟨_, rfl⟩, hW, hsame.mono (by decide) (by decide)⟩
  · rw [← hS0]; exact K5 _ (retI X0 hx Bd.returns (hb hby db0_66) hr)
  · show Qb0 Z o0 ka x0 x1 x2 x3 x4 h0 n0 _ s₁.heap _
    rw [e0]
    exact ⟨rfl, N0, rfl⟩
theorem de0_0 : decode method_4_code 0 = .ok (.aload_n 0, 1) := by decide +kernel
theorem de0_1 : decode method_4_code 1 = .ok (.iload_n 1, 1) := by decide +kernel
theorem de0_2 : decode method_4_code 2 = .ok (.invokestatic 29, 3) := by decide +kernel
theorem de0_5 : decode method_4_code 5 = .ok (.istore_n 2, 1) := by decide +kernel
theorem de0_6 : decode method_4_code 6 = .ok (.iload_n 2, 1) := by decide +kernel
theorem de0_7 : decode method_4_code 7 = .ok (.ifCond .ge 6, 3) := by decide +kernel
theorem de0_10 : decode method_4_code 10 = .ok (.iload_n 1, 1) := by decide +kernel
theorem de0_11 : decode method_4_code 11 = .ok (.i2l, 1) := by decide +kernel
theorem de0_12 : decode method_4_code 12 = .ok (.lreturn, 1) := by decide +kernel
theorem pne0 : plainName "com/example/nearmark/nearmark/paging/LeastRecentlyUsed2RankPinLaw" = true := by first | (simp [plainName, overriddenIn]; done) | decide +kernel
theorem pde0_0 : parseMethodDescriptor "([II)I" = some ⟨[(.array .int), .int], some .int⟩ := by decide +kernel
theorem efe0 (m : MethodId) (o0 : Addr) : entryFrame m #[(.ref o0), (.int (0 : Int32))] 3 = mkF m 0 #[.val (.ref o0), .val (.int (0 : Int32)), .unset] [] := by first | (simp [entryFrame, mkF, argsToLocals, Value.category]; done) | rfl
def Qe0 (Z : State) (o0 : Addr) (ka : ClassId) (x0 : Int32) (x1 : Int32) (x2 : Int32) (x3 : Int32) (x4 : Int32) (h0 : Heap) (n0 : Nat) (v : Option Value) (h : Heap) (L : List Loc) : Prop := v = some (.long (0 : Int64)) ∧ Fr n0 L ∧ h = h0
set_option maxRecDepth 65536 in
set_option maxHeartbeats 40000000 in
theorem rme0 (l : Launch) (Z : State) (a0 : Array Value) (hw : ∀ d ∈ tables_1, d.before a0 Z = true) (ws : List Jvm.Cond) (o0 : Addr) (ka : ClassId) (x0 : Int32) (x1 : Int32) (x2 : Int32) (x3 : Int32) (x4 : Int32) (h0 : Heap) (n0 : Nat) (Z0 : n0 ≤ h0.size) (V_o0 : Arv Z h0 o0 ka .int (5 : Int32) [(.int x0), (.int x1), (.int x2), (.int x3), (.int x4)] (.int (0 : Int32))) :
    MetFree l (⟨"com/example/nearmark/nearmark/paging/LeastRecentlyUsed2RankPinLaw", "expected", "([II)J"⟩ : MethodName) (head1 (Jvm.Cond.code (⟨"com/example/nearmark/nearmark/paging/LeastRecentlyUsed2RankPinLaw", "expected", "([II)J"⟩ : MethodName) method_4_code 3 (some .long) :: ws) ({ frames := 1, cells := 0, slots := 0, locals := 14 } : Room)) (fun a U => a = #[(.ref o0), (.int (0 : Int32))] ∧ Z.Warmed39 U.vm ∧ U.heap = h0) (fun _ _ _ _ _ => True) (fun _ U o U' => ∃ v L, o = .returned v ∧ Qe0 Z o0 ka x0 x1 x2 x3 x4 h0 n0 v U'.heap L ∧ FrameEnd U o U' L ({ frames := 1, cells := 0, slots := 0, locals := 14 } : Room).cells ({ frames := 1, cells := 0, slots := 0, locals := 14 } : Room).slots) := by
  refine MetFree.of_bodySF (plainFor_of_name pne0) hisR ?_
  intro p e s m args below meth c s₁ Bd hml0 hP hK
  obtain ⟨rfl, hZ, hh⟩ := hP
  have hlk : meth.locks = false := BodyLoose.notSynchronized Bd
  have hx := Bd.exec
  have hby := Bd.bytes
  have hml : c.maxLocals = 3 := hml0
  have hown : s.vm.findClass "com/example/nearmark/nearmark/paging/LeastRecentlyUsed2RankPinLaw" = some m.cls := findClass_of_methodNamed Bd.named
  have hnm := (name_of_methodNamed Bd.named Bd.method).1
  have X0 : Stand p l e ({ frames := 1, cells := 0, slots := 0, locals := 14 } : Room) s m #[(.ref o0), (.int (0 : Int32))] below meth c s₁ [] 0 0 := Stand.of_body Bd
  have e0 : s₁.heap = h0 := by rw [← hh, Bd.state]; rfl
  have N0 := Fr.nil n0
  obtain ⟨S0, hS0⟩ : ∃ S0, S0 = s₁.setTop (entryFrame m #[(.ref o0), (.int (0 : Int32))] 3) := ⟨_, rfl⟩
  have pre0 : ∀ t, Steps p.tables e below (s₁.setTop (mkF m 0 #[.val (.ref o0), .val (.int (0 : Int32)), .unset] [])) t → Steps p.tables e below S0 t := fun t k => by rw [hS0]; exact castTop (efe0 m o0) k
  have K1 : ∀ t, Steps p.tables e below (s₁.setTop (mkF m 2 #[.val (.ref o0), .val (.int (0 : Int32)), .unset] [(.int (0 : Int32)), (.ref o0)])) t → Steps p.tables e below S0 t := fun t k => pre0 t (by
    refine XS.aloadN X0.here hx rfl (hb hby de0_0) rfl rfl ?_
    show Steps p.tables e below (s₁.setTop (mkF m 1 #[.val (.ref o0), .val (.int (0 : Int32)), .unset] [(.ref o0)])) _
    refine XS.iloadN X0.here hx rfl (hb hby de0_1) rfl ?_
    show Steps p.tables e below (s₁.setTop (mkF m 2 #[.val (.ref o0), .val (.int (0 : Int32)), .unset] [(.int (0 : Int32)), (.ref o0)])) _
    exact k)
  have K_2 : ∀ t, Steps p.tables e below (s₁.setTop (mkF m 2 #[.val (.ref o0), .val (.int (0 : Int32)), .unset] [(.int (0 : Int32)), (.ref o0)])) t → Steps p.tables e below S0 t := K1
  obtain ⟨_, _, ⟨T3, L3, k3, n3⟩, -, X3, ⟨Lc3, hQ3, l3, y3, z3⟩, st3⟩ := Jvm.LawKit.callS X0 hx (y := (⟨"com/example/nearmark/nearmark/paging/LeastRecentlyUsed2RankPinLaw", "lastBefore", "([II)I"⟩ : MethodName)) hown (mvT hZ (hw _ (List.mem_of_getElem? (i := 5) rfl))) (mvT hZ (hw _ (List.mem_of_getElem? (i := 6) rfl))) (mvT hZ (hw _ (List.mem_of_getElem? (i := 3) rfl))) (mvT hZ (hw _ (List.mem_of_getElem? (i := 7) rfl))) (by decide) (backOf (W := 0) (rmb0 l Z a0 hw [] o0 ka x0 x1 x2 x3 x4 h0 n0 Z0 V_o0) hZ (hw _ (List.mem_of_getElem? (i := 7) rfl)) (hw _ (List.mem_of_getElem? (i := 3) rfl)) (by decide) (by decide)) (g := (mkF m 2 #[.val (.ref o0), .val (.int (0 : Int32)), .unset] [(.int (0 : Int32)), (.ref o0)])) rfl (by rw [hml]; rfl) (argsL := [(.ref o0), (.int (0 : Int32))]) (rest := []) (lenOf pde0_0 rfl) rfl (by show 2 * 0 + _ ≤ _; exact Nat.le_of_eq rfl) (hb hby de0_2) (fun _ _ => ⟨rfl, e0, (by decide : 0 + 0 ≤ 0), (by decide : 0 + 0 ≤ 0)⟩)
  dsimp only [Pt.U, Pt.locs, Pt.cells, Pt.slots] at X3 l3 y3 z3 st3 hQ3
  subst l3 y3 z3
  obtain ⟨rfl, N3q, e3⟩ := hQ3
  have N3 := Fr.app N0 N3q
  have K3 : ∀ t, Steps p.tables e below (T3.setTop (mkF m 5 #[.val (.ref o0), .val (.int (0 : Int32)), .unset] [(.int (-1 : Int32))])) t → Steps p.tables e below S0 t := fun t k => K_2 t (st3 t k)
  have K4 : ∀ t, Steps p.tables e below (T3.setTop (mkF m 7 #[.val (.ref o0), .val (.int (0 : Int32)), .val (.int (-1 : Int32))] [(.int (-1 : Int32))])) t → Steps p.tables e below S0 t := fun t k => K3 t (by
    refine XS.istoreN X3.here hx rfl (hb hby de0_5) rfl (l' := #[.val (.ref o0), .val (.int (0 : Int32)), .val (.int (-1 : Int32))]) rfl ?_
    show Steps p.tables e below (T3.setTop (mkF m 6 #[.val (.ref o0), .val (.int (0 : Int32)), .val (.int (-1 : Int32))] [])) _
    refine XS.iloadN X3.here hx rfl (hb hby de0_6) rfl ?_
    show Steps p.tables e below (T3.setTop (mkF m 7 #[.val (.ref o0), .val (.int (0 : Int32)), .val (.int (-1 : Int32))] [(.int (-1 : Int32))])) _
    exact k)
  have K5 : ∀ t, Steps p.tables e below (T3.setTop (mkF m 12 #[.val (.ref o0), .val (.int (0 : Int32)), .val (.int (-1 : Int32))] [(.long (0 : Int64))])) t → Steps p.tables e below S0 t := fun t k => K4 t (by
    refine XS.ifNo X3.here hx rfl (hb hby de0_7) rfl (XT.i0_ge_f (by decide)) ?_
    show Steps p.tables e below (T3.setTop (mkF m 10 #[.val (.ref o0), .val (.int (0 : Int32)), .val (.int (-1 : Int32))] [])) _
    refine XS.iloadN X3.here hx rfl (hb hby de0_10) rfl ?_
    show Steps p.tables e below (T3.setTop (mkF m 11 #[.val (.ref o0), .val (.int (0 : Int32)), .val (.int (-1 : Int32))] [(.int (0 : Int32))])) _
    refine XS.i2l X3.here hx rfl (hb hby de0_11) rfl ?_
    show Steps p.tables e below (T3.setTop (mkF m 12 #[.val (.ref o0), .val (.int (0 : Int32)), .val (.int (-1 : Int32))] [(.long (0 : Int64))])) _
    exact k)
  obtain ⟨fs, hr, hrun, hended, hW, hsame⟩ := X3.leave (v := some (.long (0 : Int64))) (fun h => by rw [Bd.returns] at h; cases h) hlk
  refine ⟨_, _, ?_, hrun, hended, _, _, rfl, ?_, ⟨_, rfl⟩, hW, hsame.mono (by decide) (by decide)⟩
  · rw [← hS0]; exact K5 _ (retOut X3 hx Bd.returns rfl (Or.inr (Or.inl ⟨rfl, rfl, _, rfl⟩)) (hb hby de0_12) hr)
  · show Qe0 Z o0 ka x0 x1 x2 x3 x4 h0 n0 _ T3.heap _
    rw [e3]
    exact ⟨rfl, N3, rfl⟩
theorem db1_0 : decode method_3_code 0 = .ok (.iconst (-1), 1) := by decide +kernel
theorem db1_1 : decode method_3_code 1 = .ok (.istore_n 2, 1) := by decide +kernel
theorem db1_2 : decode method_3_code 2 = .ok (.iload_n 1, 1) := by decide +kernel
theorem db1_3 : decode method_3_code 3 = .ok (.ifCond .le 14, 3) := by decide +kernel
theorem db1_6 : decode method_3_code 6 = .ok (.aload_n 0, 1) := by decide +kernel
theorem db1_7 : decode method_3_code 7 = .ok (.iconst 0, 1) := by decide +kernel
theorem db1_8 : decode method_3_code 8 = .ok (.iaload, 1) := by decide +kernel
theorem db1_9 : decode method_3_code 9 = .ok (.aload_n 0, 1) := by decide +kernel
theorem db1_10 : decode method_3_code 10 = .ok (.iload_n 1, 1) := by decide +kernel
theorem db1_11 : decode method_3_code 11 = .ok (.iaload, 1) := by decide +kernel
theorem db1_12 : decode method_3_code 12 = .ok (.if_icmp .ne 5, 3) := by decide +kernel
theorem db1_15 : decode method_3_code 15 = .ok (.iconst 0, 1) := by decide +kernel
theorem db1_16 : decode method_3_code 16 = .ok (.istore_n 2, 1) := by decide +kernel
theorem db1_17 : decode method_3_code 17 = .ok (.iload_n 1, 1) := by decide +kernel
theorem db1_18 : decode method_3_code 18 = .ok (.iconst 1, 1) := by decide +kernel
theorem db1_19 : decode method_3_code 19 = .ok (.if_icmp .le 14, 3) := by decide +kernel
theorem db1_33 : decode method_3_code 33 = .ok (.iload_n 1, 1) := by decide +kernel
theorem db1_34 : decode method_3_code 34 = .ok (.iconst 2, 1) := by decide +kernel
theorem db1_35 : decode method_3_code 35 = .ok (.if_icmp .le 14, 3) := by decide +kernel
theorem db1_49 : decode method_3_code 49 = .ok (.iload_n 1, 1) := by decide +kernel
theorem db1_50 : decode method_3_code 50 = .ok (.iconst 3, 1) := by decide +kernel
theorem db1_51 : decode method_3_code 51 = .ok (.if_icmp .le 14, 3) := by decide +kernel
theorem db1_65 : decode method_3_code 65 = .ok (.iload_n 2, 1) := by decide +kernel
theorem db1_66 : decode method_3_code 66 = .ok (.ireturn, 1) := by decide +kernel
theorem pnb1 : plainName "com/example/nearmark/nearmark/paging/LeastRecentlyUsed2RankPinLaw" = true := by first | (simp [plainName, overriddenIn]; done) | decide +kernel
theorem efb1 (m : MethodId) (o0 : Addr) : entryFrame m #[(.ref o0), (.int (1 : Int32))] 3 = mkF m 0 #[.val (.ref o0), .val (.int (1 : Int32)), .unset] [] := by first | (simp [entryFrame, mkF, argsToLocals, Value.category]; done) | rfl
def Qb1 (Z : State) (o0 : Addr) (ka : ClassId) (x0 : Int32) (x1 : Int32) (x2 : Int32) (x3 : Int32) (x4 : Int32) (h0 : Heap) (n0 : Nat) (v : Option Value) (h : Heap) (L : List Loc) : Prop := v = some (.int (wb1_m1 x0 x1)) ∧ Fr n0 L ∧ h = h0
set_option maxRecDepth 65536 in
set_option maxHeartbeats 40000000 in
theorem rmb1 (l : Launch) (Z : State) (a0 : Array Value) (hw : ∀ d ∈ tables_1, d.before a0 Z = true) (ws : List Jvm.Cond) (o0 : Addr) (ka : ClassId) (x0 : Int32) (x1 : Int32) (x2 : Int32) (x3 : Int32) (x4 : Int32) (h0 : Heap) (n0 : Nat) (Z0 : n0 ≤ h0.size) (V_o0 : Arv Z h0 o0 ka .int (5 : Int32) [(.int x0), (.int x1), (.int x2), (.int x3), (.int x4)] (.int (0 : Int32))) :
    MetFree l (⟨"com/example/nearmark/nearmark/paging/LeastRecentlyUsed2RankPinLaw", "lastBefore", "([II)I"⟩ : MethodName) (head1 (Jvm.Cond.code (⟨"com/example/nearmark/nearmark/paging/LeastRecentlyUsed2RankPinLaw", "lastBefore", "([II)I"⟩ : MethodName) method_3_code 3 (some .int) :: ws) ({ frames := 0, cells := 0, slots := 0, locals := 0 } : Room)) (fun a U => a = #[(.ref o0), (.int (1 : Int32))] ∧ Z.Warmed39 U.vm ∧ U.heap = h0) (fun _ _ _ _ _ => True) (fun _ U o U' => ∃ v L, o = .returned v ∧ Qb1 Z o0 ka x0 x1 x2 x3 x4 h0 n0 v U'.heap L ∧ FrameEnd U o U' L ({ frames := 0, cells := 0, slots := 0, locals := 0 } : Room).cells ({ frames := 0, cells := 0, slots := 0, locals := 0 } : Room).slots) := by
  refine MetFree.of_bodySF (plainFor_of_name pnb1) hisR ?_
  intro p e s m args below meth c s₁ Bd hml0 hP hK
  obtain ⟨rfl, hZ, hh⟩ := hP
  have hlk : meth.locks = false := BodyLoose.notSynchronized Bd
  have hx := Bd.exec
  have hby := Bd.bytes
  have hml : c.maxLocals = 3 := hml0
  have hown : s.vm.findClass "com/example/nearmark/nearmark/paging/LeastRecentlyUsed2RankPinLaw" = some m.cls := findClass_of_methodNamed Bd.named
  have hnm := (name_of_methodNamed Bd.named Bd.method).1
  have X0 : Stand p l e ({ frames := 0, cells := 0, slots := 0, locals := 0 } : Room) s m #[(.ref o0), (.int (1 : Int32))] below meth c s₁ [] 0 0 := Stand.of_body Bd
  have e0 : s₁.heap = h0 := by rw [← hh, Bd.state]; rfl
  have N0 := Fr.nil n0
  obtain ⟨S0, hS0⟩ : ∃ S0, S0 = s₁.setTop (entryFrame m #[(.ref o0), (.int (1 : Int32))] 3) := ⟨_, rfl⟩
  have pre0 : ∀ t, Steps p.tables e below (s₁.setTop (mkF m 0 #[.val (.ref o0), .val (.int (1 : Int32)), .unset] [])) t → Steps p.tables e below S0 t := fun t k => by rw [hS0]; exact castTop (efb1 m o0) k
  have K1 : ∀ t, Steps p.tables e below (s₁.setTop (mkF m 3 #[.val (.ref o0), .val (.int (1 : Int32)), .val (.int (-1 : Int32))] [(.int (1 : Int32))])) t → Steps p.tables e below S0 t := fun t k => pre0 t (by
    refine XS.iconst X0.here hx rfl (hb hby db1_0) ?_
    show Steps p.tables e below (s₁.setTop (mkF m 1 #[.val (.ref o0), .val (.int (1 : Int32)), .unset] [(.int (-1 : Int32))])) _
    refine XS.istoreN X0.here hx rfl (hb hby db1_1) rfl (l' := #[.val (.ref o0), .val (.int (1 : Int32)), .val (.int (-1 : Int32))]) rfl ?_
    show Steps p.tables e below (s₁.setTop (mkF m 2 #[.val (.ref o0), .val (.int (1 : Int32)), .val (.int (-1 : Int32))] [])) _
    refine XS.iloadN X0.here hx rfl (hb hby db1_2) rfl ?_
    show Steps p.tables e below (s₁.setTop (mkF m 3 #[.val (.ref o0), .val (.int (1 : Int32)), .val (.int (-1 : Int32))] [(.int (1 : Int32))])) _
    exact k)
  have K2 : ∀ t, Steps p.tables e below (s₁.setTop (mkF m 8 #[.val (.ref o0), .val (.int (1 : Int32)), .val (.int (-1 : Int32))] [(.int (0 : Int32)), (.ref o0)])) t → Steps p.tables e below S0 t := fun t k => K1 t (by
    refine XS.ifNo X0.here hx rfl (hb hby db1_3) rfl (XT.i0_le_f (by decide)) ?_
    show Steps p.tables e below (s₁.setTop (mkF m 6 #[.val (.ref o0), .val (.int (1 : Int32)), .val (.int (-1 : Int32))] [])) _
    refine XS.aloadN X0.here hx rfl (hb hby db1_6) rfl rfl ?_
    show Steps p.tables e below (s₁.setTop (mkF m 7 #[.val (.ref o0), .val (.int (1 : Int32)), .val (.int (-1 : Int32))] [(.ref o0)])) _
    refine XS.iconst X0.here hx rfl (hb hby db1_7) ?_
    show Steps p.tables e below (s₁.setTop (mkF m 8 #[.val (.ref o0), .val (.int (1 : Int32)), .val (.int (-1 : Int32))] [(.int (0 : Int32)), (.ref o0)])) _
    exact k)
  have K_3 : ∀ t, Steps p.tables e below (s₁.setTop (mkF m 8 #[.val (.ref o0), .val (.int (1 : Int32)), .val (.int (-1 : Int32))] [(.int (0 : Int32)), (.ref o0)])) t → Steps p.tables e below S0 t := K2
  obtain ⟨cl4, Ar4, qa4, sa4, na4, ha4, ga4⟩ := id V_o0
  have hin4 : ¬ ((0 : Int32) < 0 ∨ cl4.slots.size ≤ ((0 : Int32)).toNatClampNeg) := inb_of sa4 ⟨by decide, by decide⟩
  have hat4 : cl4.slots[((0 : Int32)).toNatClampNeg]? = some (.int x0) := Has.at ha4 hin4 rfl
  have K4 : ∀ t, Steps p.tables e below (s₁.setTop (mkF m 9 #[.val (.ref o0), .val (.int (1 : Int32)), .val (.int (-1 : Int32))] [(.int x0)])) t → Steps p.tables e below S0 t := fun t k => K_3 t (X0.iaload hx (j := (0 : Int32)) (v := (.int x0)) (by rw [e0]; exact Ar4.1) (State.isArrayOf_alike hZ.alike Ar4.2.1) Ar4.2.2 hin4 hat4 (g := (mkF m 8 #[.val (.ref o0), .val (.int (1 : Int32)), .val (.int (-1 : Int32))] [(.int (0 : Int32)), (.ref o0)])) rfl rfl (hb hby db1_8) _ k)
  have K5 : ∀ t, Steps p.tables e below (s₁.setTop (mkF m 11 #[.val (.ref o0), .val (.int (1 : Int32)), .val (.int (-1 : Int32))] [(.int (1 : Int32)), (.ref o0), (.int x0)])) t → Steps p.tables e below S0 t := fun t k => K4 t (by
    refine XS.aloadN X0.here hx rfl (hb hby db1_9) rfl rfl ?_
    show Steps p.tables e below (s₁.setTop (mkF m 10 #[.val (.ref o0), .val (.int (1 : Int32)), .val (.int (-1 : Int32))] [(.ref o0), (.int x0)])) _
    refine XS.iloadN X0.here hx rfl (hb hby db1_10) rfl ?_
    show Steps p.tables e below (s₁.setTop (mkF m 11 #[.val (.ref o0), .val (.int (1 : Int32)), .val (.int (-1 : Int32))] [(.int (1 : Int32)), (.ref o0), (.int x0)])) _
    exact k)
  have K_6 : ∀ t, Steps p.tables e below (s₁.setTop (mkF m 11 #[.val (.ref o0), .val (.int (1 : Int32)), .val (.int (-1 : Int32))] [(.int (1 : Int32)), (.ref o0), (.int x0)])) t → Steps p.tables e below S0 t := K5
  obtain ⟨cl7, Ar7, qa7, sa7, na7, ha7, ga7⟩ := id V_o0
  have hin7 : ¬ ((1 : Int32) < 0 ∨ cl7.slots.size ≤ ((1 : Int32)).toNatClampNeg) := inb_of sa7 ⟨by decide, by decide⟩
  have hat7 : cl7.slots[((1 : Int32)).toNatClampNeg]? = some (.int x1) := Has.at ha7 hin7 rfl
  have K7 : ∀ t, Steps p.tables e below (s₁.setTop (mkF m 12 #[.val (.ref o0), .val (.int (1 : Int32)), .val (.int (-1 : Int32))] [(.int x1), (.int x0)])) t → Steps p.tables e below S0 t := fun t k => K_6 t (X0.iaload hx (j := (1 : Int32)) (v := (.int x1)) (by rw [e0]; exact Ar7.1) (State.isArrayOf_alike hZ.alike Ar7.2.1) Ar7.2.2 hin7 hat7 (g := (mkF m 11 #[.val (.ref o0), .val (.int (1 : Int32)), .val (.int (-1 : Int32))] [(.int (1 : Int32)), (.ref o0), (.int x0)])) rfl rfl (hb hby db1_11) _ k)
  obtain ⟨T8, lo8, X8, N8, e8, K8⟩ : ∃ (T' : State) (locs' : List Loc), Stand p l e ({ frames := 0, cells := 0, slots := 0, locals := 0 } : Room) s m #[(.ref o0), (.int (1 : Int32))] below meth c T' locs' 0 0 ∧ Fr n0 locs' ∧ T'.heap = h0 ∧ ∀ t, Steps p.tables e below (T'.setTop (mkF m 17 #[.val (.ref o0), .val (.int (1 : Int32)), .val (.int (wb1_m1 x0 x1))] [])) t → Steps p.tables e below S0 t := by
    by_cases hc12_0 : x0 = x1
    · -- yes
      have K9 : ∀ t, Steps p.tables e below (s₁.setTop (mkF m 17 #[.val (.ref o0), .val (.int (1 : Int32)), .val (.int (0 : Int32))] [])) t → Steps p.tables e below S0 t := fun t k => K7 t (by
        refine XS.icmpNo X0.here hx rfl (hb hby db1_12) rfl (XT.ii_ne_f hc12_0) ?_
        show Steps p.tables e below (s₁.setTop (mkF m 15 #[.val (.ref o0), .val (.int (1 : Int32)), .val (.int (-1 : Int32))] [])) _
        refine XS.iconst X0.here hx rfl (hb hby db1_15) ?_
        show Steps p.tables e below (s₁.setTop (mkF m 16 #[.val (.ref o0), .val (.int (1 : Int32)), .val (.int (-1 : Int32))] [(.int (0 : Int32))])) _
        refine XS.istoreN X0.here hx rfl (hb hby db1_16) rfl (l' := #[.val (.ref o0), .val (.int (1 : Int32)), .val (.int (0 : Int32))]) rfl ?_
        show Steps p.tables e below (s₁.setTop (mkF m 17 #[.val (.ref o0), .val (.int (1 : Int32)), .val (.int (0 : Int32))] [])) _
        exact k)
      have q10 : (wb1_m1 x0 x1) = (0 : Int32) := by unfold wb1_m1; rw [if_pos hc12_0]
      exact ⟨s₁, _, X0, N0, e0, fun t k => K9 t (by rw [q10] at k; exact k)⟩
    · -- no
      have K11 : ∀ t, Steps p.tables e below (s₁.setTop (mkF m 17 #[.val (.ref o0), .val (.int (1 : Int32)), .val (.int (-1 : Int32))] [])) t → Steps p.tables e below S0 t := fun t k => K7 t (by
        refine XS.icmpYes X0.here hx rfl (pc0 := 12) (pc' := 17) rfl (hb hby db1_12) rfl (XT.ii_ne_t hc12_0) (by decide) (by decide) ?_
        show Steps p.tables e below (s₁.setTop (mkF m 17 #[.val (.ref o0), .val (.int (1 : Int32)), .val (.int (-1 : Int32))] [])) _
        exact k)
      have q12 : (wb1_m1 x0 x1) = (-1 : Int32) := by unfold wb1_m1; rw [if_neg hc12_0]
      exact ⟨s₁, _, X0, N0, e0, fun t k => K11 t (by rw [q12] at k; exact k)⟩
  have K13 : ∀ t, Steps p.tables e below (T8.setTop (mkF m 19 #[.val (.ref o0), .val (.int (1 : Int32)), .val (.int (wb1_m1 x0 x1))] [(.int (1 : Int32)), (.int (1 : Int32))])) t → Steps p.tables e below S0 t := fun t k => K8 t (by
    refine XS.iloadN X8.here hx rfl (hb hby db1_17) rfl ?_
    show Steps p.tables e below (T8.setTop (mkF m 18 #[.val (.ref o0), .val (.int (1 : Int32)), .val (.int (wb1_m1 x0 x1))] [(.int (1 : Int32))])) _
    refine XS.iconst X8.here hx rfl (hb hby db1_18) ?_
    show Steps p.tables e below (T8.setTop (mkF m 19 #[.val (.ref o0), .val (.int (1 : Int32)), .val (.int (wb1_m1 x0 x1))] [(.int (1 : Int32)), (.int (1 : Int32))])) _
    exact k)
  have K14 : ∀ t, Steps p.tables e below (T8.setTop (mkF m 35 #[.val (.ref o0), .val (.int (1 : Int32)), .val (.int (wb1_m1 x0 x1))] [(.int (2 : Int32)), (.int (1 : Int32))])) t → Steps p.tables e below S0 t := fun t k => K13 t (by
    refine XS.icmpYes X8.here hx rfl (pc0 := 19) (pc' := 33) rfl (hb hby db1_19) rfl (XT.ii_le_t (by decide)) (by decide) (by decide) ?_
    show Steps p.tables e below (T8.setTop (mkF m 33 #[.val (.ref o0), .val (.int (1 : Int32)), .val (.int (wb1_m1 x0 x1))] [])) _
    refine XS.iloadN X8.here hx rfl (hb hby db1_33) rfl ?_
    show Steps p.tables e below (T8.setTop (mkF m 34 #[.val (.ref o0), .val (.int (1 : Int32)), .val (.int (wb1_m1 x0 x1))] [(.int (1 : Int32))])) _
    refine XS.iconst X8.here hx rfl (hb hby db1_34) ?_
    show Steps p.tables e below (T8.setTop (mkF m 35 #[.val (.ref o0), .val (.int (1 : Int32)), .val (.int (wb1_m1 x0 x1))] [(.int (2 : Int32)), (.int (1 : Int32))])) _
    exact k)
  have K15 : ∀ t, Steps p.tables e below (T8.setTop (mkF m 51 #[.val (.ref o0), .val (.int (1 : Int32)), .val (.int (wb1_m1 x0 x1))] [(.int (3 : Int32)), (.int (1 : Int32))])) t → Steps p.tables e below S0 t := fun t k => K14 t (by
    refine XS.icmpYes X8.here hx rfl (pc0 := 35) (pc' := 49) rfl (hb hby db1_35) rfl (XT.ii_le_t (by decide)) (by decide) (by decide) ?_
    show Steps p.tables e below (T8.setTop (mkF m 49 #[.val (.ref o0), .val (.int (1 : Int32)), .val (.int (wb1_m1 x0 x1))] [])) _
    refine XS.iloadN X8.here hx rfl (hb hby db1_49) rfl ?_
    show Steps p.tables e below (T8.setTop (mkF m 50 #[.val (.ref o0), .val (.int (1 : Int32)), .val (.int (wb1_m1 x0 x1))] [(.int (1 : Int32))])) _
    refine XS.iconst X8.here hx rfl (hb hby db1_50) ?_
    show Steps p.tables e below (T8.setTop (mkF m 51 #[.val (.ref o0), .val (.int (1 : Int32)), .val (.int (wb1_m1 x0 x1))] [(.int (3 : Int32)), (.int (1 : Int32))])) _
    exact k)
  have K16 : ∀ t, Steps p.tables e below (T8.setTop (mkF m 66 #[.val (.ref o0), .val (.int (1 : Int32)), .val (.int (wb1_m1 x0 x1))] [(.int (wb1_m1 x0 x1))])) t → Steps p.tables e below S0 t := fun t k => K15 t (by
    refine XS.icmpYes X8.here hx rfl (pc0 := 51) (pc' := 65) rfl (hb hby db1_51) rfl (XT.ii_le_t (by decide)) (by decide) (by decide) ?_
    show Steps p.tables e below (T8.setTop (mkF m 65 #[.val (.ref o0), .val (.int (1 : Int32)), .val (.int (wb1_m1 x0 x1))] [])) _
    refine XS.iloadN X8.here hx rfl (hb hby db1_65) rfl ?_
    show Steps p.tables e below (T8.setTop (mkF m 66 #[.val (.ref o0), .val (.int (1 : Int32)), .val (.int (wb1_m1 x0 x1))] [(.int (wb1_m1 x0 x1))])) _
    exact k)
  obtain ⟨fs, hr, hrun, hended, hW, hsame⟩ := X8.leave (v := some (.int (wb1_m1 x0 x1))) (fun h => by rw [Bd.returns] at h; cases h) hlk
  refine ⟨_, _, ?_, hrun, hended, _, _, rfl, ?_, ⟨_, rfl⟩, hW, hsame.mono (by decide) (by decide)⟩
  · rw [← hS0]; exact K16 _ (retI X8 hx Bd.returns (hb hby db1_66) hr)
  · show Qb1 Z o0 ka x0 x1 x2 x3 x4 h0 n0 _ T8.heap _
    rw [e8]
    exact ⟨rfl, N8, rfl⟩
theorem de1_0 : decode method_4_code 0 = .ok (.aload_n 0, 1) := by decide +kernel
theorem de1_1 : decode method_4_code 1 = .ok (.iload_n 1, 1) := by decide +kernel
theorem de1_2 : decode method_4_code 2 = .ok (.invokestatic 29, 3) := by decide +kernel
theorem de1_5 : decode method_4_code 5 = .ok (.istore_n 2, 1) := by decide +kernel
theorem de1_6 : decode method_4_code 6 = .ok (.iload_n 2, 1) := by decide +kernel
theorem de1_7 : decode method_4_code 7 = .ok (.ifCond .ge 6, 3) := by decide +kernel
theorem de1_10 : decode method_4_code 10 = .ok (.iload_n 1, 1) := by decide +kernel
theorem de1_11 : decode method_4_code 11 = .ok (.i2l, 1) := by decide +kernel
theorem de1_12 : decode method_4_code 12 = .ok (.lreturn, 1) := by decide +kernel
theorem de1_13 : decode method_4_code 13 = .ok (.ldc2_w 33, 3) := by decide +kernel
theorem de1_16 : decode method_4_code 16 = .ok (.iload_n 2, 1) := by decide +kernel
theorem de1_17 : decode method_4_code 17 = .ok (.i2l, 1) := by decide +kernel
theorem de1_18 : decode method_4_code 18 = .ok (.ladd, 1) := by decide +kernel
theorem de1_19 : decode method_4_code 19 = .ok (.lreturn, 1) := by decide +kernel
theorem pne1 : plainName "com/example/nearmark/nearmark/paging/LeastRecentlyUsed2RankPinLaw" = true := by first | (simp [plainName, overriddenIn]; done) | decide +kernel
theorem pde1_0 : parseMethodDescriptor "([II)I" = some ⟨[(.array .int), .int], some .int⟩ := by decide +kernel
theorem efe1 (m : MethodId) (o0 : Addr) : entryFrame m #[(.ref o0), (.int (1 : Int32))] 3 = mkF m 0 #[.val (.ref o0), .val (.int (1 : Int32)), .unset] [] := by first | (simp [entryFrame, mkF, argsToLocals, Value.category]; done) | rfl
def Qe1 (Z : State) (o0 : Addr) (ka : ClassId) (x0 : Int32) (x1 : Int32) (x2 : Int32) (x3 : Int32) (x4 : Int32) (h0 : Heap) (n0 : Nat) (v : Option Value) (h : Heap) (L : List Loc) : Prop := v = some (.long (we1_r1 x0 x1)) ∧ Fr n0 L ∧ h = h0
set_option maxRecDepth 65536 in
set_option maxHeartbeats 40000000 in
theorem rme1 (l : Launch) (Z : State) (a0 : Array Value) (hw : ∀ d ∈ tables_1, d.before a0 Z = true) (ws : List Jvm.Cond) (o0 : Addr) (ka : ClassId) (x0 : Int32) (x1 : Int32) (x2 : Int32) (x3 : Int32) (x4 : Int32) (h0 : Heap) (n0 : Nat) (Z0 : n0 ≤ h0.size) (V_o0 : Arv Z h0 o0 ka .int (5 : Int32) [(.int x0), (.int x1), (.int x2), (.int x3), (.int x4)] (.int (0 : Int32))) :
    MetFree l (⟨"com/example/nearmark/nearmark/paging/LeastRecentlyUsed2RankPinLaw", "expected", "([II)J"⟩ : MethodName) (head1 (Jvm.Cond.code (⟨"com/example/nearmark/nearmark/paging/LeastRecentlyUsed2RankPinLaw", "expected", "([II)J"⟩ : MethodName) method_4_code 3 (some .long) :: ws) ({ frames := 1, cells := 0, slots := 0, locals := 14 } : Room)) (fun a U => a = #[(.ref o0), (.int (1 : Int32))] ∧ Z.Warmed39 U.vm ∧ U.heap = h0) (fun _ _ _ _ _ => True) (fun _ U o U' => ∃ v L, o = .returned v ∧ Qe1 Z o0 ka x0 x1 x2 x3 x4 h0 n0 v U'.heap L ∧ FrameEnd U o U' L ({ frames := 1, cells := 0, slots := 0, locals := 14 } : Room).cells ({ frames := 1, cells := 0, slots := 0, locals := 14 } : Room).slots) := by
  refine MetFree.of_bodySF (plainFor_of_name pne1) hisR ?_
  intro p e s m args below meth c s₁ Bd hml0 hP hK
  obtain ⟨rfl, hZ, hh⟩ := hP
  have hlk : meth.locks = false := BodyLoose.notSynchronized Bd
  have hx := Bd.exec
  have hby := Bd.bytes
  have hml : c.maxLocals = 3 := hml0
  have hown : s.vm.findClass "com/example/nearmark/nearmark/paging/LeastRecentlyUsed2RankPinLaw" = some m.cls := findClass_of_methodNamed Bd.named
  have hnm := (name_of_methodNamed Bd.named Bd.method).1
  have X0 : Stand p l e ({ frames := 1, cells := 0, slots := 0, locals := 14 } : Room) s m #[(.ref o0), (.int (1 : Int32))] below meth c s₁ [] 0 0 := Stand.of_body Bd
  have e0 : s₁.heap = h0 := by rw [← hh, Bd.state]; rfl
  have N0 := Fr.nil n0
  obtain ⟨S0, hS0⟩ : ∃ S0, S0 = s₁.setTop (entryFrame m #[(.ref o0), (.int (1 : Int32))] 3) := ⟨_, rfl⟩
  have pre0 : ∀ t, Steps p.tables e below (s₁.setTop (mkF m 0 #[.val (.ref o0), .val (.int (1 : Int32)), .unset] [])) t → Steps p.tables e below S0 t := fun t k => by rw [hS0]; exact castTop (efe1 m o0) k
  have K1 : ∀ t, Steps p.tables e below (s₁.setTop (mkF m 2 #[.val (.ref o0), .val (.int (1 : Int32)), .unset] [(.int (1 : Int32)), (.ref o0)])) t → Steps p.tables e below S0 t := fun t k => pre0 t (by
    refine XS.aloadN X0.here hx rfl (hb hby de1_0) rfl rfl ?_
    show Steps p.tables e below (s₁.setTop (mkF m 1 #[.val (.ref o0), .val (.int (1 : Int32)), .unset] [(.ref o0)])) _
    refine XS.iloadN X0.here hx rfl (hb hby de1_1) rfl ?_
    show Steps p.tables e below (s₁.setTop (mkF m 2 #[.val (.ref o0), .val (.int (1 : Int32)), .unset] [(.int (1 : Int32)), (.ref o0)])) _
    exact k)
  have K_2 : ∀ t, Steps p.tables e below (s₁.setTop (mkF m 2 #[.val (.ref o0), .val (.int (1 : Int32)), .unset] [(.int (1 : Int32)), (.ref o0)])) t → Steps p.tables e below S0 t := K1
  obtain ⟨_, _, ⟨T3, L3, k3, n3⟩, -, X3, ⟨Lc3, hQ3, l3, y3, z3⟩, st3⟩ := Jvm.LawKit.callS X0 hx (y := (⟨"com/example/nearmark/nearmark/paging/LeastRecentlyUsed2RankPinLaw", "lastBefore", "([II)I"⟩ : MethodName)) hown (mvT hZ (hw _ (List.mem_of_getElem? (i := 5) rfl))) (mvT hZ (hw _ (List.mem_of_getElem? (i := 6) rfl))) (mvT hZ (hw _ (List.mem_of_getElem? (i := 3) rfl))) (mvT hZ (hw _ (List.mem_of_getElem? (i := 7) rfl))) (by decide) (backOf (W := 0) (rmb1 l Z a0 hw [] o0 ka x0 x1 x2 x3 x4 h0 n0 Z0 V_o0) hZ (hw _ (List.mem_of_getElem? (i := 7) rfl)) (hw _ (List.mem_of_getElem? (i := 3) rfl)) (by decide) (by decide)) (g := (mkF m 2 #[.val (.ref o0), .val (.int (1 : Int32)), .unset] [(.int (1 : Int32)), (.ref o0)])) rfl (by rw [hml]; rfl) (argsL := [(.ref o0), (.int (1 : Int32))]) (rest := []) (lenOf pde1_0 rfl) rfl (by show 2 * 0 + _ ≤ _; exact Nat.le_of_eq rfl) (hb hby de1_2) (fun _ _ => ⟨rfl, e0, (by decide : 0 + 0 ≤ 0), (by decide : 0 + 0 ≤ 0)⟩)
  dsimp only [Pt.U, Pt.locs, Pt.cells, Pt.slots] at X3 l3 y3 z3 st3 hQ3
  subst l3 y3 z3
  obtain ⟨rfl, N3q, e3⟩ := hQ3
  have N3 := Fr.app N0 N3q
  have K3 : ∀ t, Steps p.tables e below (T3.setTop (mkF m 5 #[.val (.ref o0), .val (.int (1 : Int32)), .unset] [(.int (wb1_m1 x0 x1))])) t → Steps p.tables e below S0 t := fun t k => K_2 t (st3 t k)
  have K4 : ∀ t, Steps p.tables e below (T3.setTop (mkF m 7 #[.val (.ref o0), .val (.int (1 : Int32)), .val (.int (wb1_m1 x0 x1))] [(.int (wb1_m1 x0 x1))])) t → Steps p.tables e below S0 t := fun t k => K3 t (by
    refine XS.istoreN X3.here hx rfl (hb hby de1_5) rfl (l' := #[.val (.ref o0), .val (.int (1 : Int32)), .val (.int (wb1_m1 x0 x1))]) rfl ?_
    show Steps p.tables e below (T3.setTop (mkF m 6 #[.val (.ref o0), .val (.int (1 : Int32)), .val (.int (wb1_m1 x0 x1))] [])) _
    refine XS.iloadN X3.here hx rfl (hb hby de1_6) rfl ?_
    show Steps p.tables e below (T3.setTop (mkF m 7 #[.val (.ref o0), .val (.int (1 : Int32)), .val (.int (wb1_m1 x0 x1))] [(.int (wb1_m1 x0 x1))])) _
    exact k)
  by_cases hc7_0 : (wb1_m1 x0 x1) < (0 : Int32)
  · -- yes
    have K5 : ∀ t, Steps p.tables e below (T3.setTop (mkF m 12 #[.val (.ref o0), .val (.int (1 : Int32)), .val (.int (wb1_m1 x0 x1))] [(.long (1 : Int64))])) t → Steps p.tables e below S0 t := fun t k => K4 t (by
      refine XS.ifNo X3.here hx rfl (hb hby de1_7) rfl (XT.i0_ge_f hc7_0) ?_
      show Steps p.tables e below (T3.setTop (mkF m 10 #[.val (.ref o0), .val (.int (1 : Int32)), .val (.int (wb1_m1 x0 x1))] [])) _
      refine XS.iloadN X3.here hx rfl (hb hby de1_10) rfl ?_
      show Steps p.tables e below (T3.setTop (mkF m 11 #[.val (.ref o0), .val (.int (1 : Int32)), .val (.int (wb1_m1 x0 x1))] [(.int (1 : Int32))])) _
      refine XS.i2l X3.here hx rfl (hb hby de1_11) rfl ?_
      show Steps p.tables e below (T3.setTop (mkF m 12 #[.val (.ref o0), .val (.int (1 : Int32)), .val (.int (wb1_m1 x0 x1))] [(.long (1 : Int64))])) _
      exact k)
    obtain ⟨fs, hr, hrun, hended, hW, hsame⟩ := X3.leave (v := some (.long (1 : Int64))) (fun h => by rw [Bd.returns] at h; cases h) hlk
    refine ⟨_, _, ?_, hrun, hended, _, _, rfl, ?_, ⟨_, rfl⟩, hW, hsame.mono (by decide) (by decide)⟩
    · rw [← hS0]; exact K5 _ (retOut X3 hx Bd.returns rfl (Or.inr (Or.inl ⟨rfl, rfl, _, rfl⟩)) (hb hby de1_12) hr)
    · show Qe1 Z o0 ka x0 x1 x2 x3 x4 h0 n0 _ T3.heap _
      rw [e3]
      have qr : (1 : Int64) = (we1_r1 x0 x1) := by unfold we1_r1; rw [if_pos hc7_0]
      exact ⟨congrArg (fun z => some (Value.long z)) qr, N3, rfl⟩
  · -- no
    have K6 : ∀ t, Steps p.tables e below (T3.setTop (mkF m 19 #[.val (.ref o0), .val (.int (1 : Int32)), .val (.int (wb1_m1 x0 x1))] [(.long ((5 : Int64) + ((wb1_m1 x0 x1).toInt64)))])) t → Steps p.tables e below S0 t := fun t k => K4 t (by
      refine XS.ifYes X3.here hx rfl (pc0 := 7) (pc' := 13) rfl (hb hby de1_7) rfl (XT.i0_ge_t hc7_0) (by decide) (by decide) ?_
      show Steps p.tables e below (T3.setTop (mkF m 13 #[.val (.ref o0), .val (.int (1 : Int32)), .val (.int (wb1_m1 x0 x1))] [])) _
      refine X3.ldc2Long hx hown (mvT hZ (hw _ (List.mem_of_getElem? (i := 8) rfl))) (g := (mkF m 13 #[.val (.ref o0), .val (.int (1 : Int32)), .val (.int (wb1_m1 x0 x1))] [])) rfl (hb hby de1_13) _ ?_
      show Steps p.tables e below (T3.setTop (mkF m 16 #[.val (.ref o0), .val (.int (1 : Int32)), .val (.int (wb1_m1 x0 x1))] [(.long (5 : Int64))])) _
      refine XS.iloadN X3.here hx rfl (hb hby de1_16) rfl ?_
      show Steps p.tables e below (T3.setTop (mkF m 17 #[.val (.ref o0), .val (.int (1 : Int32)), .val (.int (wb1_m1 x0 x1))] [(.int (wb1_m1 x0 x1)), (.long (5 : Int64))])) _
      refine XS.i2l X3.here hx rfl (hb hby de1_17) rfl ?_
      show Steps p.tables e below (T3.setTop (mkF m 18 #[.val (.ref o0), .val (.int (1 : Int32)), .val (.int (wb1_m1 x0 x1))] [(.long ((wb1_m1 x0 x1).toInt64)), (.long (5 : Int64))])) _
      refine XS.ladd X3.here hx rfl (hb hby de1_18) rfl ?_
      show Steps p.tables e below (T3.setTop (mkF m 19 #[.val (.ref o0), .val (.int (1 : Int32)), .val (.int (wb1_m1 x0 x1))] [(.long ((5 : Int64) + ((wb1_m1 x0 x1).toInt64)))])) _
      exact k)
    obtain ⟨fs, hr, hrun, hended, hW, hsame⟩ := X3.leave (v := some (.long ((5 : Int64) + ((wb1_m1 x0 x1).toInt64)))) (fun h => by rw [Bd.returns] at h; cases h) hlk
    refine ⟨_, _, ?_, hrun, hended, _, _, rfl, ?_, ⟨_, rfl⟩, hW, hsame.mono (by decide) (by decide)⟩
    · rw [← hS0]; exact K6 _ (retOut X3 hx Bd.returns rfl (Or.inr (Or.inl ⟨rfl, rfl, _, rfl⟩)) (hb hby de1_19) hr)
    · show Qe1 Z o0 ka x0 x1 x2 x3 x4 h0 n0 _ T3.heap _
      rw [e3]
      have qr : ((5 : Int64) + ((wb1_m1 x0 x1).toInt64)) = (we1_r1 x0 x1) := by unfold we1_r1; rw [if_neg hc7_0]
      exact ⟨congrArg (fun z => some (Value.long z)) qr, N3, rfl⟩
theorem db2_0 : decode method_3_code 0 = .ok (.iconst (-1), 1) := by decide +kernel
theorem db2_1 : decode method_3_code 1 = .ok (.istore_n 2, 1) := by decide +kernel
theorem db2_2 : decode method_3_code 2 = .ok (.iload_n 1, 1) := by decide +kernel
theorem db2_3 : decode method_3_code 3 = .ok (.ifCond .le 14, 3) := by decide +kernel
theorem db2_6 : decode method_3_code 6 = .ok (.aload_n 0, 1) := by decide +kernel
theorem db2_7 : decode method_3_code 7 = .ok (.iconst 0, 1) := by decide +kernel
theorem db2_8 : decode method_3_code 8 = .ok (.iaload, 1) := by decide +kernel
theorem db2_9 : decode method_3_code 9 = .ok (.aload_n 0, 1) := by decide +kernel
theorem db2_10 : decode method_3_code 10 = .ok (.iload_n 1, 1) := by decide +kernel
theorem db2_11 : decode method_3_code 11 = .ok (.iaload, 1) := by decide +kernel
theorem db2_12 : decode method_3_code 12 = .ok (.if_icmp .ne 5, 3) := by decide +kernel
theorem db2_15 : decode method_3_code 15 = .ok (.iconst 0, 1) := by decide +kernel
theorem db2_16 : decode method_3_code 16 = .ok (.istore_n 2, 1) := by decide +kernel
theorem db2_17 : decode method_3_code 17 = .ok (.iload_n 1, 1) := by decide +kernel
theorem db2_18 : decode method_3_code 18 = .ok (.iconst 1, 1) := by decide +kernel
theorem db2_19 : decode method_3_code 19 = .ok (.if_icmp .le 14, 3) := by decide +kernel
theorem db2_22 : decode method_3_code 22 = .ok (.aload_n 0, 1) := by decide +kernel
theorem db2_23 : decode method_3_code 23 = .ok (.iconst 1, 1) := by decide +kernel
theorem db2_24 : decode method_3_code 24 = .ok (.iaload, 1) := by decide +kernel
theorem db2_25 : decode method_3_code 25 = .ok (.aload_n 0, 1) := by decide +kernel
theorem db2_26 : decode method_3_code 26 = .ok (.iload_n 1, 1) := by decide +kernel
theorem db2_27 : decode method_3_code 27 = .ok (.iaload, 1) := by decide +kernel
theorem db2_28 : decode method_3_code 28 = .ok (.if_icmp .ne 5, 3) := by decide +kernel
theorem db2_31 : decode method_3_code 31 = .ok (.iconst 1, 1) := by decide +kernel
theorem db2_32 : decode method_3_code 32 = .ok (.istore_n 2, 1) := by decide +kernel
theorem db2_33 : decode method_3_code 33 = .ok (.iload_n 1, 1) := by decide +kernel
theorem db2_34 : decode method_3_code 34 = .ok (.iconst 2, 1) := by decide +kernel
theorem db2_35 : decode method_3_code 35 = .ok (.if_icmp .le 14, 3) := by decide +kernel
theorem db2_49 : decode method_3_code 49 = .ok (.iload_n 1, 1) := by decide +kernel
theorem db2_50 : decode method_3_code 50 = .ok (.iconst 3, 1) := by decide +kernel
theorem db2_51 : decode method_3_code 51 = .ok (.if_icmp .le 14, 3) := by decide +kernel
theorem db2_65 : decode method_3_code 65 = .ok (.iload_n 2, 1) := by decide +kernel
theorem db2_66 : decode method_3_code 66 = .ok (.ireturn, 1) := by decide +kernel
theorem pnb2 : plainName "com/example/nearmark/nearmark/paging/LeastRecentlyUsed2RankPinLaw" = true := by first | (simp [plainName, overriddenIn]; done) | decide +kernel
theorem efb2 (m : MethodId) (o0 : Addr) : entryFrame m #[(.ref o0), (.int (2 : Int32))] 3 = mkF m 0 #[.val (.ref o0), .val (.int (2 : Int32)), .unset] [] := by first | (simp [entryFrame, mkF, argsToLocals, Value.category]; done) | rfl
def Qb2 (Z : State) (o0 : Addr) (ka : ClassId) (x0 : Int32) (x1 : Int32) (x2 : Int32) (x3 : Int32) (x4 : Int32) (h0 : Heap) (n0 : Nat) (v : Option Value) (h : Heap) (L : List Loc) : Prop := v = some (.int (wb2_m2 x0 x1 x2)) ∧ Fr n0 L ∧ h = h0
set_option maxRecDepth 65536 in
set_option maxHeartbeats 40000000 in
theorem rmb2 (l : Launch) (Z : State) (a0 : Array Value) (hw : ∀ d ∈ tables_1, d.before a0 Z = true) (ws : List Jvm.Cond) (o0 : Addr) (ka : ClassId) (x0 : Int32) (x1 : Int32) (x2 : Int32) (x3 : Int32) (x4 : Int32) (h0 : Heap) (n0 : Nat) (Z0 : n0 ≤ h0.size) (V_o0 : Arv Z h0 o0 ka .int (5 : Int32) [(.int x0), (.int x1), (.int x2), (.int x3), (.int x4)] (.int (0 : Int32))) :
    MetFree l (⟨"com/example/nearmark/nearmark/paging/LeastRecentlyUsed2RankPinLaw", "lastBefore", "([II)I"⟩ : MethodName) (head1 (Jvm.Cond.code (⟨"com/example/nearmark/nearmark/paging/LeastRecentlyUsed2RankPinLaw", "lastBefore", "([II)I"⟩ : MethodName) method_3_code 3 (some .int) :: ws) ({ frames := 0, cells := 0, slots := 0, locals := 0 } : Room)) (fun a U => a = #[(.ref o0), (.int (2 : Int32))] ∧ Z.Warmed39 U.vm ∧ U.heap = h0) (fun _ _ _ _ _ => True) (fun _ U o U' => ∃ v L, o = .returned v ∧ Qb2 Z o0 ka x0 x1 x2 x3 x4 h0 n0 v U'.heap L ∧ FrameEnd U o U' L ({ frames := 0, cells := 0, slots := 0, locals := 0 } : Room).cells ({ frames := 0, cells := 0, slots := 0, locals := 0 } : Room).slots) := by
  refine MetFree.of_bodySF (plainFor_of_name pnb2) hisR ?_
  intro p e s m args below meth c s₁ Bd hml0 hP hK
  obtain ⟨rfl, hZ, hh⟩ := hP
  have hlk : meth.locks = false := BodyLoose.notSynchronized Bd
  have hx := Bd.exec
  have hby := Bd.bytes
  have hml : c.maxLocals = 3 := hml0
  have hown : s.vm.findClass "com/example/nearmark/nearmark/paging/LeastRecentlyUsed2RankPinLaw" = some m.cls := findClass_of_methodNamed Bd.named
  have hnm := (name_of_methodNamed Bd.named Bd.method).1
  have X0 : Stand p l e ({ frames := 0, cells := 0, slots := 0, locals := 0 } : Room) s m #[(.ref o0), (.int (2 : Int32))] below meth c s₁ [] 0 0 := Stand.of_body Bd
  have e0 : s₁.heap = h0 := by rw [← hh, Bd.state]; rfl
  have N0 := Fr.nil n0
  obtain ⟨S0, hS0⟩ : ∃ S0, S0 = s₁.setTop (entryFrame m #[(.ref o0), (.int (2 : Int32))] 3) := ⟨_, rfl⟩
  have pre0 : ∀ t, Steps p.tables e below (s₁.setTop (mkF m 0 #[.val (.ref o0), .val (.int (2 : Int32)), .unset] [])) t → Steps p.tables e below S0 t := fun t k => by rw [hS0]; exact castTop (efb2 m o0) k
  have K1 : ∀ t, Steps p.tables e below (s₁.setTop (mkF m 3 #[.val (.ref o0), .val (.int (2 : Int32)), .val (.int (-1 : Int32))] [(.int (2 : Int32))])) t → Steps p.tables e below S0 t := fun t k => pre0 t (by
    refine XS.iconst X0.here hx rfl (hb hby db2_0) ?_
    show Steps p.tables e below (s₁.setTop (mkF m 1 #[.val (.ref o0), .val (.int (2 : Int32)), .unset] [(.int (-1 : Int32))])) _
    refine XS.istoreN X0.here hx rfl (hb hby db2_1) rfl (l' := #[.val (.ref o0), .val (.int (2 : Int32)), .val (.int (-1 : Int32))]) rfl ?_
    show Steps p.tables e below (s₁.setTop (mkF m 2 #[.val (.ref o0), .val (.int (2 : Int32)), .val (.int (-1 : Int32))] [])) _
    refine XS.iloadN X0.here hx rfl (hb hby db2_2) rfl ?_
    show Steps p.tables e below (s₁.setTop (mkF m 3 #[.val (.ref o0), .val (.int (2 : Int32)), .val (.int (-1 : Int32))] [(.int (2 : Int32))])) _
    exact k)
  have K2 : ∀ t, Steps p.tables e below (s₁.setTop (mkF m 8 #[.val (.ref o0), .val (.int (2 : Int32)), .val (.int (-1 : Int32))] [(.int (0 : Int32)), (.ref o0)])) t → Steps p.tables e below S0 t := fun t k => K1 t (by
    refine XS.ifNo X0.here hx rfl (hb hby db2_3) rfl (XT.i0_le_f (by decide)) ?_
    show Steps p.tables e below (s₁.setTop (mkF m 6 #[.val (.ref o0), .val (.int (2 : Int32)), .val (.int (-1 : Int32))] [])) _
    refine XS.aloadN X0.here hx rfl (hb hby db2_6) rfl rfl ?_
    show Steps p.tables e below (s₁.setTop (mkF m 7 #[.val (.ref o0), .val (.int (2 : Int32)), .val (.int (-1 : Int32))] [(.ref o0)])) _
    refine XS.iconst X0.here hx rfl (hb hby db2_7) ?_
    show Steps p.tables e below (s₁.setTop (mkF m 8 #[.val (.ref o0), .val (.int (2 : Int32)), .val (.int (-1 : Int32))] [(.int (0 : Int32)), (.ref o0)])) _
    exact k)
  have K_3 : ∀ t, Steps p.tables e below (s₁.setTop (mkF m 8 #[.val (.ref o0), .val (.int (2 : Int32)), .val (.int (-1 : Int32))] [(.int (0 : Int32)), (.ref o0)])) t → Steps p.tables e below S0 t := K2
  obtain ⟨cl4, Ar4, qa4, sa4, na4, ha4, ga4⟩ := id V_o0
  have hin4 : ¬ ((0 : Int32) < 0 ∨ cl4.slots.size ≤ ((0 : Int32)).toNatClampNeg) := inb_of sa4 ⟨by decide, by decide⟩
  have hat4 : cl4.slots[((0 : Int32)).toNatClampNeg]? = some (.int x0) := Has.at ha4 hin4 rfl
  have K4 : ∀ t, Steps p.tables e below (s₁.setTop (mkF m 9 #[.val (.ref o0), .val (.int (2 : Int32)), .val (.int (-1 : Int32))] [(.int x0)])) t → Steps p.tables e below S0 t := fun t k => K_3 t (X0.iaload hx (j := (0 : Int32)) (v := (.int x0)) (by rw [e0]; exact Ar4.1) (State.isArrayOf_alike hZ.alike Ar4.2.1) Ar4.2.2 hin4 hat4 (g := (mkF m 8 #[.val (.ref o0), .val (.int (2 : Int32)), .val (.int (-1 : Int32))] [(.int (0 : Int32)), (.ref o0)])) rfl rfl (hb hby db2_8) _ k)
  have K5 : ∀ t, Steps p.tables e below (s₁.setTop (mkF m 11 #[.val (.ref o0), .val (.int (2 : Int32)), .val (.int (-1 : Int32))] [(.int (2 : Int32)), (.ref o0), (.int x0)])) t → Steps p.tables e below S0 t := fun t k => K4 t (by
    refine XS.aloadN X0.here hx rfl (hb hby db2_9) rfl rfl ?_
    show Steps p.tables e below (s₁.setTop (mkF m 10 #[.val (.ref o0), .val (.int (2 : Int32)), .val (.int (-1 : Int32))] [(.ref o0), (.int x0)])) _
    refine XS.iloadN X0.here hx rfl (hb hby db2_10) rfl ?_
    show Steps p.tables e below (s₁.setTop (mkF m 11 #[.val (.ref o0), .val (.int (2 : Int32)), .val (.int (-1 : Int32))] [(.int (2 : Int32)), (.ref o0), (.int x0)])) _
    exact k)
  have K_6 : ∀ t, Steps p.tables e below (s₁.setTop (mkF m 11 #[.val (.ref o0), .val (.int (2 : Int32)), .val (.int (-1 : Int32))] [(.int (2 : Int32)), (.ref o0), (.int x0)])) t → Steps p.tables e below S0 t := K5
  obtain ⟨cl7, Ar7, qa7, sa7, na7, ha7, ga7⟩ := id V_o0
  have hin7 : ¬ ((2 : Int32) < 0 ∨ cl7.slots.size ≤ ((2 : Int32)).toNatClampNeg) := inb_of sa7 ⟨by decide, by decide⟩
  have hat7 : cl7.slots[((2 : Int32)).toNatClampNeg]? = some (.int x2) := Has.at ha7 hin7 rfl
  have K7 : ∀ t, Steps p.tables e below (s₁.setTop (mkF m 12 #[.val (.ref o0), .val (.int (2 : Int32)), .val (.int (-1 : Int32))] [(.int x2), (.int x0)])) t → Steps p.tables e below S0 t := fun t k => K_6 t (X0.iaload hx (j := (2 : Int32)) (v := (.int x2)) (by rw [e0]; exact Ar7.1) (State.isArrayOf_alike hZ.alike Ar7.2.1) Ar7.2.2 hin7 hat7 (g := (mkF m 11 #[.val (.ref o0), .val (.int (2 : Int32)), .val (.int (-1 : Int32))] [(.int (2 : Int32)), (.ref o0), (.int x0)])) rfl rfl (hb hby db2_11) _ k)
  obtain ⟨T8, lo8, X8, N8, e8, K8⟩ : ∃ (T' : State) (locs' : List Loc), Stand p l e ({ frames := 0, cells := 0, slots := 0, locals := 0 } : Room) s m #[(.ref o0), (.int (2 : Int32))] below meth c T' locs' 0 0 ∧ Fr n0 locs' ∧ T'.heap = h0 ∧ ∀ t, Steps p.tables e below (T'.setTop (mkF m 17 #[.val (.ref o0), .val (.int (2 : Int32)), .val (.int (wb2_m1 x0 x2))] [])) t → Steps p.tables e below S0 t := by
    by_cases hc12_0 : x0 = x2
    · -- yes
      have K9 : ∀ t, Steps p.tables e below (s₁.setTop (mkF m 17 #[.val (.ref o0), .val (.int (2 : Int32)), .val (.int (0 : Int32))] [])) t → Steps p.tables e below S0 t := fun t k => K7 t (by
        refine XS.icmpNo X0.here hx rfl (hb hby db2_12) rfl (XT.ii_ne_f hc12_0) ?_
        show Steps p.tables e below (s₁.setTop (mkF m 15 #[.val (.ref o0), .val (.int (2 : Int32)), .val (.int (-1 : Int32))] [])) _
        refine XS.iconst X0.here hx rfl (hb hby db2_15) ?_
        show Steps p.tables e below (s₁.setTop (mkF m 16 #[.val (.ref o0), .val (.int (2 : Int32)), .val (.int (-1 : Int32))] [(.int (0 : Int32))])) _
        refine XS.istoreN X0.here hx rfl (hb hby db2_16) rfl (l' := #[.val (.ref o0), .val (.int (2 : Int32)), .val (.int (0 : Int32))]) rfl ?_
        show Steps p.tables e below (s₁.setTop (mkF m 17 #[.val (.ref o0), .val (.int (2 : Int32)), .val (.int (0 : Int32))] [])) _
        exact k)
      have q10 : (wb2_m1 x0 x2) = (0 : Int32) := by unfold wb2_m1; rw [if_pos hc12_0]
      exact ⟨s₁, _, X0, N0, e0, fun t k => K9 t (by rw [q10] at k; exact k)⟩
    · -- no
      have K11 : ∀ t, Steps p.tables e below (s₁.setTop (mkF m 17 #[.val (.ref o0), .val (.int (2 : Int32)), .val (.int (-1 : Int32))] [])) t → Steps p.tables e below S0 t := fun t k => K7 t (by
        refine XS.icmpYes X0.here hx rfl (pc0 := 12) (pc' := 17) rfl (hb hby db2_12) rfl (XT.ii_ne_t hc12_0) (by decide) (by decide) ?_
        show Steps p.tables e below (s₁.setTop (mkF m 17 #[.val (.ref o0), .val (.int (2 : Int32)), .val (.int (-1 : Int32))] [])) _
        exact k)
      have q12 : (wb2_m1 x0 x2) = (-1 : Int32) := by unfold wb2_m1; rw [if_neg hc12_0]
      exact ⟨s₁, _, X0, N0, e0, fun t k => K11 t (by rw [q12] at k; exact k)⟩
  have K13 : ∀ t, Steps p.tables e below (T8.setTop (mkF m 19 #[.val (.ref o0), .val (.int (2 : Int32)), .val (.int (wb2_m1 x0 x2))] [(.int (1 : Int32)), (.int (2 : Int32))])) t → Steps p.tables e below S0 t := fun t k => K8 t (by
    refine XS.iloadN X8.here hx rfl (hb hby db2_17) rfl ?_
    show Steps p.tables e below (T8.setTop (mkF m 18 #[.val (.ref o0), .val (.int (2 : Int32)), .val (.int (wb2_m1 x0 x2))] [(.int (2 : Int32))])) _
    refine XS.iconst X8.here hx rfl (hb hby db2_18) ?_
    show Steps p.tables e below (T8.setTop (mkF m 19 #[.val (.ref o0), .val (.int (2 : Int32)), .val (.int (wb2_m1 x0 x2))] [(.int (1 : Int32)), (.int (2 : Int32))])) _
    exact k)
  have K14 : ∀ t, Steps p.tables e below (T8.setTop (mkF m 24 #[.val (.ref o0), .val (.int (2 : Int32)), .val (.int (wb2_m1 x0 x2))] [(.int (1 : Int32)), (.ref o0)])) t → Steps p.tables e below S0 t := fun t k => K13 t (by
    refine XS.icmpNo X8.here hx rfl (hb hby db2_19) rfl (XT.ii_le_f (by decide)) ?_
    show Steps p.tables e below (T8.setTop (mkF m 22 #[.val (.ref o0), .val (.int (2 : Int32)), .val (.int (wb2_m1 x0 x2))] [])) _
    refine XS.aloadN X8.here hx rfl (hb hby db2_22) rfl rfl ?_
    show Steps p.tables e below (T8.setTop (mkF m 23 #[.val (.ref o0), .val (.int (2 : Int32)), .val (.int (wb2_m1 x0 x2))] [(.ref o0)])) _
    refine XS.iconst X8.here hx rfl (hb hby db2_23) ?_
    show Steps p.tables e below (T8.setTop (mkF m 24 #[.val (.ref o0), .val (.int (2 : Int32)), .val (.int (wb2_m1 x0 x2))] [(.int (1 : Int32)), (.ref o0)])) _
    exact k)
  have K_15 : ∀ t, Steps p.tables e below (T8.setTop (mkF m 24 #[.val (.ref o0), .val (.int (2 : Int32)), .val (.int (wb2_m1 x0 x2))] [(.int (1 : Int32)), (.ref o0)])) t → Steps p.tables e below S0 t := K14
  obtain ⟨cl16, Ar16, qa16, sa16, na16, ha16, ga16⟩ := id V_o0
  have hin16 : ¬ ((1 : Int32) < 0 ∨ cl16.slots.size ≤ ((1 : Int32)).toNatClampNeg) := inb_of sa16 ⟨by decide, by decide⟩
  have hat16 : cl16.slots[((1 : Int32)).toNatClampNeg]? = some (.int x1) := Has.at ha16 hin16 rfl
  have K16 : ∀ t, Steps p.tables e below (T8.setTop (mkF m 25 #[.val (.ref o0), .val (.int (2 : Int32)), .val (.int (wb2_m1 x0 x2))] [(.int x1)])) t → Steps p.tables e below S0 t := fun t k => K_15 t (X8.iaload hx (j := (1 : Int32)) (v := (.int x1)) (by rw [e8]; exact Ar16.1) (State.isArrayOf_alike hZ.alike Ar16.2.1) Ar16.2.2 hin16 hat16 (g := (mkF m 24 #[.val (.ref o0), .val (.int (2 : Int32)), .val (.int (wb2_m1 x0 x2))] [(.int (1 : Int32)), (.ref o0)])) rfl rfl (hb hby db2_24) _ k)
  have K17 : ∀ t, Steps p.tables e below (T8.setTop (mkF m 27 #[.val (.ref o0), .val (.int (2 : Int32)), .val (.int (wb2_m1 x0 x2))] [(.int (2 : Int32)), (.ref o0), (.int x1)])) t → Steps p.tables e below S0 t := fun t k => K16 t (by
    refine XS.aloadN X8.here hx rfl (hb hby db2_25) rfl rfl ?_
    show Steps p.tables e below (T8.setTop (mkF m 26 #[.val (.ref o0), .val (.int (2 : Int32)), .val (.int (wb2_m1 x0 x2))] [(.ref o0), (.int x1)])) _
    refine XS.iloadN X8.here hx rfl (hb hby db2_26) rfl ?_
    show Steps p.tables e below (T8.setTop (mkF m 27 #[.val (.ref o0), .val (.int (2 : Int32)), .val (.int (wb2_m1 x0 x2))] [(.int (2 : Int32)), (.ref o0), (.int x1)])) _
    exact k)
  have K_18 : ∀ t, Steps p.tables e below (T8.setTop (mkF m 27 #[.val (.ref o0), .val (.int (2 : Int32)), .val (.int (wb2_m1 x0 x2))] [(.int (2 : Int32)), (.ref o0), (.int x1)])) t → Steps p.tables e below S0 t := K17
  obtain ⟨cl19, Ar19, qa19, sa19, na19, ha19, ga19⟩ := id V_o0
  have hin19 : ¬ ((2 : Int32) < 0 ∨ cl19.slots.size ≤ ((2 : Int32)).toNatClampNeg) := inb_of sa19 ⟨by decide, by decide⟩
  have hat19 : cl19.slots[((2 : Int32)).toNatClampNeg]? = some (.int x2) := Has.at ha19 hin19 rfl
  have K19 : ∀ t, Steps p.tables e below (T8.setTop (mkF m 28 #[.val (.ref o0), .val (.int (2 : Int32)), .val (.int (wb2_m1 x0 x2))] [(.int x2), (.int x1)])) t → Steps p.tables e below S0 t := fun t k => K_18 t (X8.iaload hx (j := (2 : Int32)) (v := (.int x2)) (by rw [e8]; exact Ar19.1) (State.isArrayOf_alike hZ.alike Ar19.2.1) Ar19.2.2 hin19 hat19 (g := (mkF m 27 #[.val (.ref o0), .val (.int (2 : Int32)), .val (.int (wb2_m1 x0 x2))] [(.int (2 : Int32)), (.ref o0), (.int x1)])) rfl rfl (hb hby db2_27) _ k)
  obtain ⟨T20, lo20, X20, N20, e20, K20⟩ : ∃ (T' : State) (locs' : List Loc), Stand p l e ({ frames := 0, cells := 0, slots := 0, locals := 0 } : Room) s m #[(.ref o0), (.int (2 : Int32))] below meth c T' locs' 0 0 ∧ Fr n0 locs' ∧ T'.heap = h0 ∧ ∀ t, Steps p.tables e below (T'.setTop (mkF m 33 #[.val (.ref o0), .val (.int (2 : Int32)), .val (.int (wb2_m2 x0 x1 x2))] [])) t → Steps p.tables e below S0 t := by
    by_cases hc28_0 : x1 = x2
    · -- yes
      have K21 : ∀ t, Steps p.tables e below (T8.setTop (mkF m 33 #[.val (.ref o0), .val (.int (2 : Int32)), .val (.int (1 : Int32))] [])) t → Steps p.tables e below S0 t := fun t k => K19 t (by
        refine XS.icmpNo X8.here hx rfl (hb hby db2_28) rfl (XT.ii_ne_f hc28_0) ?_
        show Steps p.tables e below (T8.setTop (mkF m 31 #[.val (.ref o0), .val (.int (2 : Int32)), .val (.int (wb2_m1 x0 x2))] [])) _
        refine XS.iconst X8.here hx rfl (hb hby db2_31) ?_
        show Steps p.tables e below (T8.setTop (mkF m 32 #[.val (.ref o0), .val (.int (2 : Int32)), .val (.int (wb2_m1 x0 x2))] [(.int (1 : Int32))])) _
        refine XS.istoreN X8.here hx rfl (hb hby db2_32) rfl (l' := #[.val (.ref o0), .val (.int (2 : Int32)), .val (.int (1 : Int32))]) rfl ?_
        show Steps p.tables e below (T8.setTop (mkF m 33 #[.val (.ref o0), .val (.int (2 : Int32)), .val (.int (1 : Int32))] [])) _
        exact k)
      have q22 : (wb2_m2 x0 x1 x2) = (1 : Int32) := by unfold wb2_m2; rw [if_pos hc28_0]
      exact ⟨T8, _, X8, N8, e8, fun t k => K21 t (by rw [q22] at k; exact k)⟩
    · -- no
      have K23 : ∀ t, Steps p.tables e below (T8.setTop (mkF m 33 #[.val (.ref o0), .val (.int (2 : Int32)), .val (.int (wb2_m1 x0 x2))] [])) t → Steps p.tables e below S0 t := fun t k => K19 t (by
        refine XS.icmpYes X8.here hx rfl (pc0 := 28) (pc' := 33) rfl (hb hby db2_28) rfl (XT.ii_ne_t hc28_0) (by decide) (by decide) ?_
        show Steps p.tables e below (T8.setTop (mkF m 33 #[.val (.ref o0), .val (.int (2 : Int32)), .val (.int (wb2_m1 x0 x2))] [])) _
        exact k)
      have q24 : (wb2_m2 x0 x1 x2) = (wb2_m1 x0 x2) := by unfold wb2_m2; rw [if_neg hc28_0]
      exact ⟨T8, _, X8, N8, e8, fun t k => K23 t (by rw [q24] at k; exact k)⟩
  have K25 : ∀ t, Steps p.tables e below (T20.setTop (mkF m 35 #[.val (.ref o0), .val (.int (2 : Int32)), .val (.int (wb2_m2 x0 x1 x2))] [(.int (2 : Int32)), (.int (2 : Int32))])) t → Steps p.tables e below S0 t := fun t k => K20 t (by
    refine XS.iloadN X20.here hx rfl (hb hby db2_33) rfl ?_
    show Steps p.tables e below (T20.setTop (mkF m 34 #[.val (.ref o0), .val (.int (2 : Int32)), .val (.int (wb2_m2 x0 x1 x2))] [(.int (2 : Int32))])) _
    refine XS.iconst X20.here hx rfl (hb hby db2_34) ?_
    show Steps p.tables e below (T20.setTop (mkF m 35 #[.val (.ref o0), .val (.int (2 : Int32)), .val (.int (wb2_m2 x0 x1 x2))] [(.int (2 : Int32)), (.int (2 : Int32))])) _
    exact k)
  have K26 : ∀ t, Steps p.tables e below (T20.setTop (mkF m 51 #[.val (.ref o0), .val (.int (2 : Int32)), .val (.int (wb2_m2 x0 x1 x2))] [(.int (3 : Int32)), (.int (2 : Int32))])) t → Steps p.tables e below S0 t := fun t k => K25 t (by
    refine XS.icmpYes X20.here hx rfl (pc0 := 35) (pc' := 49) rfl (hb hby db2_35) rfl (XT.ii_le_t (by decide)) (by decide) (by decide) ?_
    show Steps p.tables e below (T20.setTop (mkF m 49 #[.val (.ref o0), .val (.int (2 : Int32)), .val (.int (wb2_m2 x0 x1 x2))] [])) _
    refine XS.iloadN X20.here hx rfl (hb hby db2_49) rfl ?_
    show Steps p.tables e below (T20.setTop (mkF m 50 #[.val (.ref o0), .val (.int (2 : Int32)), .val (.int (wb2_m2 x0 x1 x2))] [(.int (2 : Int32))])) _
    refine XS.iconst X20.here hx rfl (hb hby db2_50) ?_
    show Steps p.tables e below (T20.setTop (mkF m 51 #[.val (.ref o0), .val (.int (2 : Int32)), .val (.int (wb2_m2 x0 x1 x2))] [(.int (3 : Int32)), (.int (2 : Int32))])) _
    exact k)
  have K27 : ∀ t, Steps p.tables e below (T20.setTop (mkF m 66 #[.val (.ref o0), .val (.int (2 : Int32)), .val (.int (wb2_m2 x0 x1 x2))] [(.int (wb2_m2 x0 x1 x2))])) t → Steps p.tables e below S0 t := fun t k => K26 t (by
    refine XS.icmpYes X20.here hx rfl (pc0 := 51) (pc' := 65) rfl (hb hby db2_51) rfl (XT.ii_le_t (by decide)) (by decide) (by decide) ?_
    show Steps p.tables e below (T20.setTop (mkF m 65 #[.val (.ref o0), .val (.int (2 : Int32)), .val (.int (wb2_m2 x0 x1 x2))] [])) _
    refine XS.iloadN X20.here hx rfl (hb hby db2_65) rfl ?_
    show Steps p.tables e below (T20.setTop (mkF m 66 #[.val (.ref o0), .val (.int (2 : Int32)), .val (.int (wb2_m2 x0 x1 x2))] [(.int (wb2_m2 x0 x1 x2))])) _
    exact k)
  obtain ⟨fs, hr, hrun, hended, hW, hsame⟩ := X20.leave (v := some (.int (wb2_m2 x0 x1 x2))) (fun h => by rw [Bd.returns] at h; cases h) hlk
  refine ⟨_, _, ?_, hrun, hended, _, _, rfl, ?_, ⟨_, rfl⟩, hW, hsame.mono (by decide) (by decide)⟩
  · rw [← hS0]; exact K27 _ (retI X20 hx Bd.returns (hb hby db2_66) hr)
  · show Qb2 Z o0 ka x0 x1 x2 x3 x4 h0 n0 _ T20.heap _
    rw [e20]
    exact ⟨rfl, N20, rfl⟩
theorem de2_0 : decode method_4_code 0 = .ok (.aload_n 0, 1) := by decide +kernel
theorem de2_1 : decode method_4_code 1 = .ok (.iload_n 1, 1) := by decide +kernel
theorem de2_2 : decode method_4_code 2 = .ok (.invokestatic 29, 3) := by decide +kernel
theorem de2_5 : decode method_4_code 5 = .ok (.istore_n 2, 1) := by decide +kernel
theorem de2_6 : decode method_4_code 6 = .ok (.iload_n 2, 1) := by decide +kernel
theorem de2_7 : decode method_4_code 7 = .ok (.ifCond .ge 6, 3) := by decide +kernel
theorem de2_10 : decode method_4_code 10 = .ok (.iload_n 1, 1) := by decide +kernel
theorem de2_11 : decode method_4_code 11 = .ok (.i2l, 1) := by decide +kernel
theorem de2_12 : decode method_4_code 12 = .ok (.lreturn, 1) := by decide +kernel
theorem de2_13 : decode method_4_code 13 = .ok (.ldc2_w 33, 3) := by decide +kernel
theorem de2_16 : decode method_4_code 16 = .ok (.iload_n 2, 1) := by decide +kernel
theorem de2_17 : decode method_4_code 17 = .ok (.i2l, 1) := by decide +kernel
theorem de2_18 : decode method_4_code 18 = .ok (.ladd, 1) := by decide +kernel
theorem de2_19 : decode method_4_code 19 = .ok (.lreturn, 1) := by decide +kernel
theorem pne2 : plainName "com/example/nearmark/nearmark/paging/LeastRecentlyUsed2RankPinLaw" = true := by first | (simp [plainName, overriddenIn]; done) | decide +kernel
theorem pde2_0 : parseMethodDescriptor "([II)I" = some ⟨[(.array .int), .int], some .int⟩ := by decide +kernel
theorem efe2 (m : MethodId) (o0 : Addr) : entryFrame m #[(.ref o0), (.int (2 : Int32))] 3 = mkF m 0 #[.val (.ref o0), .val (.int (2 : Int32)), .unset] [] := by first | (simp [entryFrame, mkF, argsToLocals, Value.category]; done) | rfl
def Qe2 (Z : State) (o0 : Addr) (ka : ClassId) (x0 : Int32) (x1 : Int32) (x2 : Int32) (x3 : Int32) (x4 : Int32) (h0 : Heap) (n0 : Nat) (v : Option Value) (h : Heap) (L : List Loc) : Prop := v = some (.long (we2_r1 x0 x1 x2)) ∧ Fr n0 L ∧ h = h0
set_option maxRecDepth 65536 in
set_option maxHeartbeats 40000000 in
theorem rme2 (l : Launch) (Z : State) (a0 : Array Value) (hw : ∀ d ∈ tables_1, d.before a0 Z = true) (ws : List Jvm.Cond) (o0 : Addr) (ka : ClassId) (x0 : Int32) (x1 : Int32) (x2 : Int32) (x3 : Int32) (x4 : Int32) (h0 : Heap) (n0 : Nat) (Z0 : n0 ≤ h0.size) (V_o0 : Arv Z h0 o0 ka .int (5 : Int32) [(.int x0), (.int x1), (.int x2), (.int x3), (.int x4)] (.int (0 : Int32))) :
    MetFree l (⟨"com/example/nearmark/nearmark/paging/LeastRecentlyUsed2RankPinLaw", "expected", "([II)J"⟩ : MethodName) (head1 (Jvm.Cond.code (⟨"com/example/nearmark/nearmark/paging/LeastRecentlyUsed2RankPinLaw", "expected", "([II)J"⟩ : MethodName) method_4_code 3 (some .long) :: ws) ({ frames := 1, cells := 0, slots := 0, locals := 14 } : Room)) (fun a U => a = #[(.ref o0), (.int (2 : Int32))] ∧ Z.Warmed39 U.vm ∧ U.heap = h0) (fun _ _ _ _ _ => True) (fun _ U o U' => ∃ v L, o = .returned v ∧ Qe2 Z o0 ka x0 x1 x2 x3 x4 h0 n0 v U'.heap L ∧ FrameEnd U o U' L ({ frames := 1, cells := 0, slots := 0, locals := 14 } : Room).cells ({ frames := 1, cells := 0, slots := 0, locals := 14 } : Room).slots) := by
  refine MetFree.of_bodySF (plainFor_of_name pne2) hisR ?_
  intro p e s m args below meth c s₁ Bd hml0 hP hK
  obtain ⟨rfl, hZ, hh⟩ := hP
  have hlk : meth.locks = false := BodyLoose.notSynchronized Bd
  have hx := Bd.exec
  have hby := Bd.bytes
  have hml : c.maxLocals = 3 := hml0
  have hown : s.vm.findClass "com/example/nearmark/nearmark/paging/LeastRecentlyUsed2RankPinLaw" = some m.cls := findClass_of_methodNamed Bd.named
  have hnm := (name_of_methodNamed Bd.named Bd.method).1
  have X0 : Stand p l e ({ frames := 1, cells := 0, slots := 0, locals := 14 } : Room) s m #[(.ref o0), (.int (2 : Int32))] below meth c s₁ [] 0 0 := Stand.of_body Bd
  have e0 : s₁.heap = h0 := by rw [← hh, Bd.state]; rfl
  have N0 := Fr.nil n0
  obtain ⟨S0, hS0⟩ : ∃ S0, S0 = s₁.setTop (entryFrame m #[(.ref o0), (.int (2 : Int32))] 3) := ⟨_, rfl⟩
  have pre0 : ∀ t, Steps p.tables e below (s₁.setTop (mkF m 0 #[.val (.ref o0), .val (.int (2 : Int32)), .unset] [])) t → Steps p.tables e below S0 t := fun t k => by rw [hS0]; exact castTop (efe2 m o0) k
  have K1 : ∀ t, Steps p.tables e below (s₁.setTop (mkF m 2 #[.val (.ref o0), .val (.int (2 : Int32)), .unset] [(.int (2 : Int32)), (.ref o0)])) t → Steps p.tables e below S0 t := fun t k => pre0 t (by
    refine XS.aloadN X0.here hx rfl (hb hby de2_0) rfl rfl ?_
    show Steps p.tables e below (s₁.setTop (mkF m 1 #[.val (.ref o0), .val (.int (2 : Int32)), .unset] [(.ref o0)])) _
    refine XS.iloadN X0.here hx rfl (hb hby de2_1) rfl ?_
    show Steps p.tables e below (s₁.setTop (mkF m 2 #[.val (.ref o0), .val (.int (2 : Int32)), .unset] [(.int (2 : Int32)), (.ref o0)])) _
    exact k)
  have K_2 : ∀ t, Steps p.tables e below (s₁.setTop (mkF m 2 #[.val (.ref o0), .val (.int (2 : Int32)), .unset] [(.int (2 : Int32)), (.ref o0)])) t → Steps p.tables e below S0 t := K1
  obtain ⟨_, _, ⟨T3, L3, k3, n3⟩, -, X3, ⟨Lc3, hQ3, l3, y3, z3⟩, st3⟩ := Jvm.LawKit.callS X0 hx (y := (⟨"com/example/nearmark/nearmark/paging/LeastRecentlyUsed2RankPinLaw", "lastBefore", "([II)I"⟩ : MethodName)) hown (mvT hZ (hw _ (List.mem_of_getElem? (i := 5) rfl))) (mvT hZ (hw _ (List.mem_of_getElem? (i := 6) rfl))) (mvT hZ (hw _ (List.mem_of_getElem? (i := 3) rfl))) (mvT hZ (hw _ (List.mem_of_getElem? (i := 7) rfl))) (by decide) (backOf (W := 0) (rmb2 l Z a0 hw [] o0 ka x0 x1 x2 x3 x4 h0 n0 Z0 V_o0) hZ (hw _ (List.mem_of_getElem? (i := 7) rfl)) (hw _ (List.mem_of_getElem? (i := 3) rfl)) (by decide) (by decide)) (g := (mkF m 2 #[.val (.ref o0), .val (.int (2 : Int32)), .unset] [(.int (2 : Int32)), (.ref o0)])) rfl (by rw [hml]; rfl) (argsL := [(.ref o0), (.int (2 : Int32))]) (rest := []) (lenOf pde2_0 rfl) rfl (by show 2 * 0 + _ ≤ _; exact Nat.le_of_eq rfl) (hb hby de2_2) (fun _ _ => ⟨rfl, e0, (by decide : 0 + 0 ≤ 0), (by decide : 0 + 0 ≤ 0)⟩)
  dsimp only [Pt.U, Pt.locs, Pt.cells, Pt.slots] at X3 l3 y3 z3 st3 hQ3
  subst l3 y3 z3
  obtain ⟨rfl, N3q, e3⟩ := hQ3
  have N3 := Fr.app N0 N3q
  have K3 : ∀ t, Steps p.tables e below (T3.setTop (mkF m 5 #[.val (.ref o0), .val (.int (2 : Int32)), .unset] [(.int (wb2_m2 x0 x1 x2))])) t → Steps p.tables e below S0 t := fun t k => K_2 t (st3 t k)
  have K4 : ∀ t, Steps p.tables e below (T3.setTop (mkF m 7 #[.val (.ref o0), .val (.int (2 : Int32)), .val (.int (wb2_m2 x0 x1 x2))] [(.int (wb2_m2 x0 x1 x2))])) t → Steps p.tables e below S0 t := fun t k => K3 t (by
    refine XS.istoreN X3.here hx rfl (hb hby de2_5) rfl (l' := #[.val (.ref o0), .val (.int (2 : Int32)), .val (.int (wb2_m2 x0 x1 x2))]) rfl ?_
    show Steps p.tables e below (T3.setTop (mkF m 6 #[.val (.ref o0), .val (.int (2 : Int32)), .val (.int (wb2_m2 x0 x1 x2))] [])) _
    refine XS.iloadN X3.here hx rfl (hb hby de2_6) rfl ?_
    show Steps p.tables e below (T3.setTop (mkF m 7 #[.val (.ref o0), .val (.int (2 : Int32)), .val (.int (wb2_m2 x0 x1 x2))] [(.int (wb2_m2 x0 x1 x2))])) _
    exact k)
  by_cases hc7_0 : (wb2_m2 x0 x1 x2) < (0 : Int32)
  · -- yes
    have K5 : ∀ t, Steps p.tables e below (T3.setTop (mkF m 12 #[.val (.ref o0), .val (.int (2 : Int32)), .val (.int (wb2_m2 x0 x1 x2))] [(.long (2 : Int64))])) t → Steps p.tables e below S0 t := fun t k => K4 t (by
      refine XS.ifNo X3.here hx rfl (hb hby de2_7) rfl (XT.i0_ge_f hc7_0) ?_
      show Steps p.tables e below (T3.setTop (mkF m 10 #[.val (.ref o0), .val (.int (2 : Int32)), .val (.int (wb2_m2 x0 x1 x2))] [])) _
      refine XS.iloadN X3.here hx rfl (hb hby de2_10) rfl ?_
      show Steps p.tables e below (T3.setTop (mkF m 11 #[.val (.ref o0), .val (.int (2 : Int32)), .val (.int (wb2_m2 x0 x1 x2))] [(.int (2 : Int32))])) _
      refine XS.i2l X3.here hx rfl (hb hby de2_11) rfl ?_
      show Steps p.tables e below (T3.setTop (mkF m 12 #[.val (.ref o0), .val (.int (2 : Int32)), .val (.int (wb2_m2 x0 x1 x2))] [(.long (2 : Int64))])) _
      exact k)
    obtain ⟨fs, hr, hrun, hended, hW, hsame⟩ := X3.leave (v := some (.long (2 : Int64))) (fun h => by rw [Bd.returns] at h; cases h) hlk
    refine ⟨_, _, ?_, hrun, hended, _, _, rfl, ?_, ⟨_, rfl⟩, hW, hsame.mono (by decide) (by decide)⟩
    · rw [← hS0]; exact K5 _ (retOut X3 hx Bd.returns rfl (Or.inr (Or.inl ⟨rfl, rfl, _, rfl⟩)) (hb hby de2_12) hr)
    · show Qe2 Z o0 ka x0 x1 x2 x3 x4 h0 n0 _ T3.heap _
      rw [e3]
      have qr : (2 : Int64) = (we2_r1 x0 x1 x2) := by unfold we2_r1; rw [if_pos hc7_0]
      exact ⟨congrArg (fun z => some (Value.long z)) qr, N3, rfl⟩
  · -- no
    have K6 : ∀ t, Steps p.tables e below (T3.setTop (mkF m 19 #[.val (.ref o0), .val (.int (2 : Int32)), .val (.int (wb2_m2 x0 x1 x2))] [(.long ((5 : Int64) + ((wb2_m2 x0 x1 x2).toInt64)))])) t → Steps p.tables e below S0 t := fun t k => K4 t (by
      refine XS.ifYes X3.here hx rfl (pc0 := 7) (pc' := 13) rfl (hb hby de2_7) rfl (XT.i0_ge_t hc7_0) (by decide) (by decide) ?_
      show Steps p.tables e below (T3.setTop (mkF m 13 #[.val (.ref o0), .val (.int (2 : Int32)), .val (.int (wb2_m2 x0 x1 x2))] [])) _
      refine X3.ldc2Long hx hown (mvT hZ (hw _ (List.mem_of_getElem? (i := 8) rfl))) (g := (mkF m 13 #[.val (.ref o0), .val (.int (2 : Int32)), .val (.int (wb2_m2 x0 x1 x2))] [])) rfl (hb hby de2_13) _ ?_
      show Steps p.tables e below (T3.setTop (mkF m 16 #[.val (.ref o0), .val (.int (2 : Int32)), .val (.int (wb2_m2 x0 x1 x2))] [(.long (5 : Int64))])) _
      refine XS.iloadN X3.here hx rfl (hb hby de2_16) rfl ?_
      show Steps p.tables e below (T3.setTop (mkF m 17 #[.val (.ref o0), .val (.int (2 : Int32)), .val (.int (wb2_m2 x0 x1 x2))] [(.int (wb2_m2 x0 x1 x2)), (.long (5 : Int64))])) _
      refine XS.i2l X3.here hx rfl (hb hby de2_17) rfl ?_
      show Steps p.tables e below (T3.setTop (mkF m 18 #[.val (.ref o0), .val (.int (2 : Int32)), .val (.int (wb2_m2 x0 x1 x2))] [(.long ((wb2_m2 x0 x1 x2).toInt64)), (.long (5 : Int64))])) _
      refine XS.ladd X3.here hx rfl (hb hby de2_18) rfl ?_
      show Steps p.tables e below (T3.setTop (mkF m 19 #[.val (.ref o0), .val (.int (2 : Int32)), .val (.int (wb2_m2 x0 x1 x2))] [(.long ((5 : Int64) + ((wb2_m2 x0 x1 x2).toInt64)))])) _
      exact k)
    obtain ⟨fs, hr, hrun, hended, hW, hsame⟩ := X3.leave (v := some (.long ((5 : Int64) + ((wb2_m2 x0 x1 x2).toInt64)))) (fun h => by rw [Bd.returns] at h; cases h) hlk
    refine ⟨_, _, ?_, hrun, hended, _, _, rfl, ?_, ⟨_, rfl⟩, hW, hsame.mono (by decide) (by decide)⟩
    · rw [← hS0]; exact K6 _ (retOut X3 hx Bd.returns rfl (Or.inr (Or.inl ⟨rfl, rfl, _, rfl⟩)) (hb hby de2_19) hr)
    · show Qe2 Z o0 ka x0 x1 x2 x3 x4 h0 n0 _ T3.heap _
      rw [e3]
      have qr : ((5 : Int64) + ((wb2_m2 x0 x1 x2).toInt64)) = (we2_r1 x0 x1 x2) := by unfold we2_r1; rw [if_neg hc7_0]
      exact ⟨congrArg (fun z => some (Value.long z)) qr, N3, rfl⟩
theorem db3_0 : decode method_3_code 0 = .ok (.iconst (-1), 1) := by decide +kernel
theorem db3_1 : decode method_3_code 1 = .ok (.istore_n 2, 1) := by decide +kernel
theorem db3_2 : decode method_3_code 2 = .ok (.iload_n 1, 1) := by decide +kernel
theorem db3_3 : decode method_3_code 3 = .ok (.ifCond .le 14, 3) := by decide +kernel
theorem db3_6 : decode method_3_code 6 = .ok (.aload_n 0, 1) := by decide +kernel
theorem db3_7 : decode method_3_code 7 = .ok (.iconst 0, 1) := by decide +kernel
theorem db3_8 : decode method_3_code 8 = .ok (.iaload, 1) := by decide +kernel
theorem db3_9 : decode method_3_code 9 = .ok (.aload_n 0, 1) := by decide +kernel
theorem db3_10 : decode method_3_code 10 = .ok (.iload_n 1, 1) := by decide +kernel
theorem db3_11 : decode method_3_code 11 = .ok (.iaload, 1) := by decide +kernel
theorem db3_12 : decode method_3_code 12 = .ok (.if_icmp .ne 5, 3) := by decide +kernel
theorem db3_15 : decode method_3_code 15 = .ok (.iconst 0, 1) := by decide +kernel
theorem db3_16 : decode method_3_code 16 = .ok (.istore_n 2, 1) := by decide +kernel
theorem db3_17 : decode method_3_code 17 = .ok (.iload_n 1, 1) := by decide +kernel
theorem db3_18 : decode method_3_code 18 = .ok (.iconst 1, 1) := by decide +kernel
theorem db3_19 : decode method_3_code 19 = .ok (.if_icmp .le 14, 3) := by decide +kernel
theorem db3_22 : decode method_3_code 22 = .ok (.aload_n 0, 1) := by decide +kernel
theorem db3_23 : decode method_3_code 23 = .ok (.iconst 1, 1) := by decide +kernel
theorem db3_24 : decode method_3_code 24 = .ok (.iaload, 1) := by decide +kernel
theorem db3_25 : decode method_3_code 25 = .ok (.aload_n 0, 1) := by decide +kernel
theorem db3_26 : decode method_3_code 26 = .ok (.iload_n 1, 1) := by decide +kernel
theorem db3_27 : decode method_3_code 27 = .ok (.iaload, 1) := by decide +kernel
theorem db3_28 : decode method_3_code 28 = .ok (.if_icmp .ne 5, 3) := by decide +kernel
theorem db3_31 : decode method_3_code 31 = .ok (.iconst 1, 1) := by decide +kernel
theorem db3_32 : decode method_3_code 32 = .ok (.istore_n 2, 1) := by decide +kernel
theorem db3_33 : decode method_3_code 33 = .ok (.iload_n 1, 1) := by decide +kernel
theorem db3_34 : decode method_3_code 34 = .ok (.iconst 2, 1) := by decide +kernel
theorem db3_35 : decode method_3_code 35 = .ok (.if_icmp .le 14, 3) := by decide +kernel
theorem db3_38 : decode method_3_code 38 = .ok (.aload_n 0, 1) := by decide +kernel
theorem db3_39 : decode method_3_code 39 = .ok (.iconst 2, 1) := by decide +kernel
theorem db3_40 : decode method_3_code 40 = .ok (.iaload, 1) := by decide +kernel
theorem db3_41 : decode method_3_code 41 = .ok (.aload_n 0, 1) := by decide +kernel
theorem db3_42 : decode method_3_code 42 = .ok (.iload_n 1, 1) := by decide +kernel
theorem db3_43 : decode method_3_code 43 = .ok (.iaload, 1) := by decide +kernel
theorem db3_44 : decode method_3_code 44 = .ok (.if_icmp .ne 5, 3) := by decide +kernel
theorem db3_47 : decode method_3_code 47 = .ok (.iconst 2, 1) := by decide +kernel
theorem db3_48 : decode method_3_code 48 = .ok (.istore_n 2, 1) := by decide +kernel
theorem db3_49 : decode method_3_code 49 = .ok (.iload_n 1, 1) := by decide +kernel
theorem db3_50 : decode method_3_code 50 = .ok (.iconst 3, 1) := by decide +kernel
theorem db3_51 : decode method_3_code 51 = .ok (.if_icmp .le 14, 3) := by decide +kernel
theorem db3_65 : decode method_3_code 65 = .ok (.iload_n 2, 1) := by decide +kernel
theorem db3_66 : decode method_3_code 66 = .ok (.ireturn, 1) := by decide +kernel
theorem pnb3 : plainName "com/example/nearmark/nearmark/paging/LeastRecentlyUsed2RankPinLaw" = true := by first | (simp [plainName, overriddenIn]; done) | decide +kernel
theorem efb3 (m : MethodId) (o0 : Addr) : entryFrame m #[(.ref o0), (.int (3 : Int32))] 3 = mkF m 0 #[.val (.ref o0), .val (.int (3 : Int32)), .unset] [] := by first | (simp [entryFrame, mkF, argsToLocals, Value.category]; done) | rfl
def Qb3 (Z : State) (o0 : Addr) (ka : ClassId) (x0 : Int32) (x1 : Int32) (x2 : Int32) (x3 : Int32) (x4 : Int32) (h0 : Heap) (n0 : Nat) (v : Option Value) (h : Heap) (L : List Loc) : Prop := v = some (.int (wb3_m3 x0 x1 x2 x3)) ∧ Fr n0 L ∧ h = h0
set_option maxRecDepth 65536 in
set_option maxHeartbeats 40000000 in
theorem rmb3 (l : Launch) (Z : State) (a0 : Array Value) (hw : ∀ d ∈ tables_1, d.before a0 Z = true) (ws : List Jvm.Cond) (o0 : Addr) (ka : ClassId) (x0 : Int32) (x1 : Int32) (x2 : Int32) (x3 : Int32) (x4 : Int32) (h0 : Heap) (n0 : Nat) (Z0 : n0 ≤ h0.size) (V_o0 : Arv Z h0 o0 ka .int (5 : Int32) [(.int x0), (.int x1), (.int x2), (.int x3), (.int x4)] (.int (0 : Int32))) :
    MetFree l (⟨"com/example/nearmark/nearmark/paging/LeastRecentlyUsed2RankPinLaw", "lastBefore", "([II)I"⟩ : MethodName) (head1 (Jvm.Cond.code (⟨"com/example/nearmark/nearmark/paging/LeastRecentlyUsed2RankPinLaw", "lastBefore", "([II)I"⟩ : MethodName) method_3_code 3 (some .int) :: ws) ({ frames := 0, cells := 0, slots := 0, locals := 0 } : Room)) (fun a U => a = #[(.ref o0), (.int (3 : Int32))] ∧ Z.Warmed39 U.vm ∧ U.heap = h0) (fun _ _ _ _ _ => True) (fun _ U o U' => ∃ v L, o = .returned v ∧ Qb3 Z o0 ka x0 x1 x2 x3 x4 h0 n0 v U'.heap L ∧ FrameEnd U o U' L ({ frames := 0, cells := 0, slots := 0, locals := 0 } : Room).cells ({ frames := 0, cells := 0, slots := 0, locals := 0 } : Room).slots) := by
  refine MetFree.of_bodySF (plainFor_of_name pnb3) hisR ?_
  intro p e s m args below meth c s₁ Bd hml0 hP hK
  obtain ⟨rfl, hZ, hh⟩ := hP
  have hlk : meth.locks = false := BodyLoose.notSynchronized Bd
  have hx := Bd.exec
  have hby := Bd.bytes
  have hml : c.maxLocals = 3 := hml0
  have hown : s.vm.findClass "com/example/nearmark/nearmark/paging/LeastRecentlyUsed2RankPinLaw" = some m.cls := findClass_of_methodNamed Bd.named
  have hnm := (name_of_methodNamed Bd.named Bd.method).1
  have X0 : Stand p l e ({ frames := 0, cells := 0, slots := 0, locals := 0 } : Room) s m #[(.ref o0), (.int (3 : Int32))] below meth c s₁ [] 0 0 := Stand.of_body Bd
  have e0 : s₁.heap = h0 := by rw [← hh, Bd.state]; rfl
  have N0 := Fr.nil n0
  obtain ⟨S0, hS0⟩ : ∃ S0, S0 = s₁.setTop (entryFrame m #[(.ref o0), (.int (3 : Int32))] 3) := ⟨_, rfl⟩
  have pre0 : ∀ t, Steps p.tables e below (s₁.setTop (mkF m 0 #[.val (.ref o0), .val (.int (3 : Int32)), .unset] [])) t → Steps p.tables e below S0 t := fun t k => by rw [hS0]; exact castTop (efb3 m o0) k
  have K1 : ∀ t, Steps p.tables e below (s₁.setTop (mkF m 3 #[.val (.ref o0), .val (.int (3 : Int32)), .val (.int (-1 : Int32))] [(.int (3 : Int32))])) t → Steps p.tables e below S0 t := fun t k => pre0 t (by
    refine XS.iconst X0.here hx rfl (hb hby db3_0) ?_
    show Steps p.tables e below (s₁.setTop (mkF m 1 #[.val (.ref o0), .val (.int (3 : Int32)), .unset] [(.int (-1 : Int32))])) _
    refine XS.istoreN X0.here hx rfl (hb hby db3_1) rfl (l' := #[.val (.ref o0), .val (.int (3 : Int32)), .val (.int (-1 : Int32))]) rfl ?_
    show Steps p.tables e below (s₁.setTop (mkF m 2 #[.val (.ref o0), .val (.int (3 : Int32)), .val (.int (-1 : Int32))] [])) _
    refine XS.iloadN X0.here hx rfl (hb hby db3_2) rfl ?_
    show Steps p.tables e below (s₁.setTop (mkF m 3 #[.val (.ref o0), .val (.int (3 : Int32)), .val (.int (-1 : Int32))] [(.int (3 : Int32))])) _
    exact k)
  have K2 : ∀ t, Steps p.tables e below (s₁.setTop (mkF m 8 #[.val (.ref o0), .val (.int (3 : Int32)), .val (.int (-1 : Int32))] [(.int (0 : Int32)), (.ref o0)])) t → Steps p.tables e below S0 t := fun t k => K1 t (by
    refine XS.ifNo X0.here hx rfl (hb hby db3_3) rfl (XT.i0_le_f (by decide)) ?_
    show Steps p.tables e below (s₁.setTop (mkF m 6 #[.val (.ref o0), .val (.int (3 : Int32)), .val (.int (-1 : Int32))] [])) _
    refine XS.aloadN X0.here hx rfl (hb hby db3_6) rfl rfl ?_
    show Steps p.tables e below (s₁.setTop (mkF m 7 #[.val (.ref o0), .val (.int (3 : Int32)), .val (.int (-1 : Int32))] [(.ref o0)])) _
    refine XS.iconst X0.here hx rfl (hb hby db3_7) ?_
    show Steps p.tables e below (s₁.setTop (mkF m 8 #[.val (.ref o0), .val (.int (3 : Int32)), .val (.int (-1 : Int32))] [(.int (0 : Int32)), (.ref o0)])) _
    exact k)
  have K_3 : ∀ t, Steps p.tables e below (s₁.setTop (mkF m 8 #[.val (.ref o0), .val (.int (3 : Int32)), .val (.int (-1 : Int32))] [(.int (0 : Int32)), (.ref o0)])) t → Steps p.tables e below S0 t := K2
  obtain ⟨cl4, Ar4, qa4, sa4, na4, ha4, ga4⟩ := id V_o0
  have hin4 : ¬ ((0 : Int32) < 0 ∨ cl4.slots.size ≤ ((0 : Int32)).toNatClampNeg) := inb_of sa4 ⟨by decide, by decide⟩
  have hat4 : cl4.slots[((0 : Int32)).toNatClampNeg]? = some (.int x0) := Has.at ha4 hin4 rfl
  have K4 : ∀ t, Steps p.tables e below (s₁.setTop (mkF m 9 #[.val (.ref o0), .val (.int (3 : Int32)), .val (.int (-1 : Int32))] [(.int x0)])) t → Steps p.tables e below S0 t := fun t k => K_3 t (X0.iaload hx (j := (0 : Int32)) (v := (.int x0)) (by rw [e0]; exact Ar4.1) (State.isArrayOf_alike hZ.alike Ar4.2.1) Ar4.2.2 hin4 hat4 (g := (mkF m 8 #[.val (.ref o0), .val (.int (3 : Int32)), .val (.int (-1 : Int32))] [(.int (0 : Int32)), (.ref o0)])) rfl rfl (hb hby db3_8) _ k)
  have K5 : ∀ t, Steps p.tables e below (s₁.setTop (mkF m 11 #[.val (.ref o0), .val (.int (3 : Int32)), .val (.int (-1 : Int32))] [(.int (3 : Int32)), (.ref o0), (.int x0)])) t → Steps p.tables e below S0 t := fun t k => K4 t (by
    refine XS.aloadN X0.here hx rfl (hb hby db3_9) rfl rfl ?_
    show Steps p.tables e below (s₁.setTop (mkF m 10 #[.val (.ref o0), .val (.int (3 : Int32)), .val (.int (-1 : Int32))] [(.ref o0), (.int x0)])) _
    refine XS.iloadN X0.here hx rfl (hb hby db3_10) rfl ?_
    show Steps p.tables e below (s₁.setTop (mkF m 11 #[.val (.ref o0), .val (.int (3 : Int32)), .val (.int (-1 : Int32))] [(.int (3 : Int32)), (.ref o0), (.int x0)])) _
    exact k)
  have K_6 : ∀ t, Steps p.tables e below (s₁.setTop (mkF m 11 #[.val (.ref o0), .val (.int (3 : Int32)), .val (.int (-1 : Int32))] [(.int (3 : Int32)), (.ref o0), (.int x0)])) t → Steps p.tables e below S0 t := K5
  obtain ⟨cl7, Ar7, qa7, sa7, na7, ha7, ga7⟩ := id V_o0
  have hin7 : ¬ ((3 : Int32) < 0 ∨ cl7.slots.size ≤ ((3 : Int32)).toNatClampNeg) := inb_of sa7 ⟨by decide, by decide⟩
  have hat7 : cl7.slots[((3 : Int32)).toNatClampNeg]? = some (.int x3) := Has.at ha7 hin7 rfl
  have K7 : ∀ t, Steps p.tables e below (s₁.setTop (mkF m 12 #[.val (.ref o0), .val (.int (3 : Int32)), .val (.int (-1 : Int32))] [(.int x3), (.int x0)])) t → Steps p.tables e below S0 t := fun t k => K_6 t (X0.iaload hx (j := (3 : Int32)) (v := (.int x3)) (by rw [e0]; exact Ar7.1) (State.isArrayOf_alike hZ.alike Ar7.2.1) Ar7.2.2 hin7 hat7 (g := (mkF m 11 #[.val (.ref o0), .val (.int (3 : Int32)), .val (.int (-1 : Int32))] [(.int (3 : Int32)), (.ref o0), (.int x0)])) rfl rfl (hb hby db3_11) _ k)
  obtain ⟨T8, lo8, X8, N8, e8, K8⟩ : ∃ (T' : State) (locs' : List Loc), Stand p l e ({ frames := 0, cells := 0, slots := 0, locals := 0 } : Room) s m #[(.ref o0), (.int (3 : Int32))] below meth c T' locs' 0 0 ∧ Fr n0 locs' ∧ T'.heap = h0 ∧ ∀ t, Steps p.tables e below (T'.setTop (mkF m 17 #[.val (.ref o0), .val (.int (3 : Int32)), .val (.int (wb3_m1 x0 x3))] [])) t → Steps p.tables e below S0 t := by
    by_cases hc12_0 : x0 = x3
    · -- yes
      have K9 : ∀ t, Steps p.tables e below (s₁.setTop (mkF m 17 #[.val (.ref o0), .val (.int (3 : Int32)), .val (.int (0 : Int32))] [])) t → Steps p.tables e below S0 t := fun t k => K7 t (by
        refine XS.icmpNo X0.here hx rfl (hb hby db3_12) rfl (XT.ii_ne_f hc12_0) ?_
        show Steps p.tables e below (s₁.setTop (mkF m 15 #[.val (.ref o0), .val (.int (3 : Int32)), .val (.int (-1 : Int32))] [])) _
        refine XS.iconst X0.here hx rfl (hb hby db3_15) ?_
        show Steps p.tables e below (s₁.setTop (mkF m 16 #[.val (.ref o0), .val (.int (3 : Int32)), .val (.int (-1 : Int32))] [(.int (0 : Int32))])) _
        refine XS.istoreN X0.here hx rfl (hb hby db3_16) rfl (l' := #[.val (.ref o0), .val (.int (3 : Int32)), .val (.int (0 : Int32))]) rfl ?_
        show Steps p.tables e below (s₁.setTop (mkF m 17 #[.val (.ref o0), .val (.int (3 : Int32)), .val (.int (0 : Int32))] [])) _
        exact k)
      have q10 : (wb3_m1 x0 x3) = (0 : Int32) := by unfold wb3_m1; rw [if_pos hc12_0]
      exact ⟨s₁, _, X0, N0, e0, fun t k => K9 t (by rw [q10] at k; exact k)⟩
    · -- no
      have K11 : ∀ t, Steps p.tables e below (s₁.setTop (mkF m 17 #[.val (.ref o0), .val (.int (3 : Int32)), .val (.int (-1 : Int32))] [])) t → Steps p.tables e below S0 t := fun t k => K7 t (by
        refine XS.icmpYes X0.here hx rfl (pc0 := 12) (pc' := 17) rfl (hb hby db3_12) rfl (XT.ii_ne_t hc12_0) (by decide) (by decide) ?_
        show Steps p.tables e below (s₁.setTop (mkF m 17 #[.val (.ref o0), .val (.int (3 : Int32)), .val (.int (-1 : Int32))] [])) _
        exact k)
      have q12 : (wb3_m1 x0 x3) = (-1 : Int32) := by unfold wb3_m1; rw [if_neg hc12_0]
      exact ⟨s₁, _, X0, N0, e0, fun t k => K11 t (by rw [q12] at k; exact k)⟩
  have K13 : ∀ t, Steps p.tables e below (T8.setTop (mkF m 19 #[.val (.ref o0), .val (.int (3 : Int32)), .val (.int (wb3_m1 x0 x3))] [(.int (1 : Int32)), (.int (3 : Int32))])) t → Steps p.tables e below S0 t := fun t k => K8 t (by
    refine XS.iloadN X8.here hx rfl (hb hby db3_17) rfl ?_
    show Steps p.tables e below (T8.setTop (mkF m 18 #[.val (.ref o0), .val (.int (3 : Int32)), .val (.int (wb3_m1 x0 x3))] [(.int (3 : Int32))])) _
    refine XS.iconst X8.here hx rfl (hb hby db3_18) ?_
    show Steps p.tables e below (T8.setTop (mkF m 19 #[.val (.ref o0), .val (.int (3 : Int32)), .val (.int (wb3_m1 x0 x3))] [(.int (1 : Int32)), (.int (3 : Int32))])) _
    exact k)
  have K14 : ∀ t, Steps p.tables e below (T8.setTop (mkF m 24 #[.val (.ref o0), .val (.int (3 : Int32)), .val (.int (wb3_m1 x0 x3))] [(.int (1 : Int32)), (.ref o0)])) t → Steps p.tables e below S0 t := fun t k => K13 t (by
    refine XS.icmpNo X8.here hx rfl (hb hby db3_19) rfl (XT.ii_le_f (by decide)) ?_
    show Steps p.tables e below (T8.setTop (mkF m 22 #[.val (.ref o0), .val (.int (3 : Int32)), .val (.int (wb3_m1 x0 x3))] [])) _
    refine XS.aloadN X8.here hx rfl (hb hby db3_22) rfl rfl ?_
    show Steps p.tables e below (T8.setTop (mkF m 23 #[.val (.ref o0), .val (.int (3 : Int32)), .val (.int (wb3_m1 x0 x3))] [(.ref o0)])) _
    refine XS.iconst X8.here hx rfl (hb hby db3_23) ?_
    show Steps p.tables e below (T8.setTop (mkF m 24 #[.val (.ref o0), .val (.int (3 : Int32)), .val (.int (wb3_m1 x0 x3))] [(.int (1 : Int32)), (.ref o0)])) _
    exact k)
  have K_15 : ∀ t, Steps p.tables e below (T8.setTop (mkF m 24 #[.val (.ref o0), .val (.int (3 : Int32)), .val (.int (wb3_m1 x0 x3))] [(.int (1 : Int32)), (.ref o0)])) t → Steps p.tables e below S0 t := K14
  obtain ⟨cl16, Ar16, qa16, sa16, na16, ha16, ga16⟩ := id V_o0
  have hin16 : ¬ ((1 : Int32) < 0 ∨ cl16.slots.size ≤ ((1 : Int32)).toNatClampNeg) := inb_of sa16 ⟨by decide, by decide⟩
  have hat16 : cl16.slots[((1 : Int32)).toNatClampNeg]? = some (.int x1) := Has.at ha16 hin16 rfl
  have K16 : ∀ t, Steps p.tables e below (T8.setTop (mkF m 25 #[.val (.ref o0), .val (.int (3 : Int32)), .val (.int (wb3_m1 x0 x3))] [(.int x1)])) t → Steps p.tables e below S0 t := fun t k => K_15 t (X8.iaload hx (j := (1 : Int32)) (v := (.int x1)) (by rw [e8]; exact Ar16.1) (State.isArrayOf_alike hZ.alike Ar16.2.1) Ar16.2.2 hin16 hat16 (g := (mkF m 24 #[.val (.ref o0), .val (.int (3 : Int32)), .val (.int (wb3_m1 x0 x3))] [(.int (1 : Int32)), (.ref o0)])) rfl rfl (hb hby db3_24) _ k)
  have K17 : ∀ t, Steps p.tables e below (T8.setTop (mkF m 27 #[.val (.ref o0), .val (.int (3 : Int32)), .val (.int (wb3_m1 x0 x3))] [(.int (3 : Int32)), (.ref o0), (.int x1)])) t → Steps p.tables e below S0 t := fun t k => K16 t (by
    refine XS.aloadN X8.here hx rfl (hb hby db3_25) rfl rfl ?_
    show Steps p.tables e below (T8.setTop (mkF m 26 #[.val (.ref o0), .val (.int (3 : Int32)), .val (.int (wb3_m1 x0 x3))] [(.ref o0), (.int x1)])) _
    refine XS.iloadN X8.here hx rfl (hb hby db3_26) rfl ?_
    show Steps p.tables e below (T8.setTop (mkF m 27 #[.val (.ref o0), .val (.int (3 : Int32)), .val (.int (wb3_m1 x0 x3))] [(.int (3 : Int32)), (.ref o0), (.int x1)])) _
    exact k)
  have K_18 : ∀ t, Steps p.tables e below (T8.setTop (mkF m 27 #[.val (.ref o0), .val (.int (3 : Int32)), .val (.int (wb3_m1 x0 x3))] [(.int (3 : Int32)), (.ref o0), (.int x1)])) t → Steps p.tables e below S0 t := K17
  obtain ⟨cl19, Ar19, qa19, sa19, na19, ha19, ga19⟩ := id V_o0
  have hin19 : ¬ ((3 : Int32) < 0 ∨ cl19.slots.size ≤ ((3 : Int32)).toNatClampNeg) := inb_of sa19 ⟨by decide, by decide⟩
  have hat19 : cl19.slots[((3 : Int32)).toNatClampNeg]? = some (.int x3) := Has.at ha19 hin19 rfl
  have K19 : ∀ t, Steps p.tables e below (T8.setTop (mkF m 28 #[.val (.ref o0), .val (.int (3 : Int32)), .val (.int (wb3_m1 x0 x3))] [(.int x3), (.int x1)])) t → Steps p.tables e below S0 t := fun t k => K_18 t (X8.iaload hx (j := (3 : Int32)) (v := (.int x3)) (by rw [e8]; exact Ar19.1) (State.isArrayOf_alike hZ.alike Ar19.2.1) Ar19.2.2 hin19 hat19 (g := (mkF m 27 #[.val (.ref o0), .val (.int (3 : Int32)), .val (.int (wb3_m1 x0 x3))] [(.int (3 : Int32)), (.ref o0), (.int x1)])) rfl rfl (hb hby db3_27) _ k)
  obtain ⟨T20, lo20, X20, N20, e20, K20⟩ : ∃ (T' : State) (locs' : List Loc), Stand p l e ({ frames := 0, cells := 0, slots := 0, locals := 0 } : Room) s m #[(.ref o0), (.int (3 : Int32))] below meth c T' locs' 0 0 ∧ Fr n0 locs' ∧ T'.heap = h0 ∧ ∀ t, Steps p.tables e below (T'.setTop (mkF m 33 #[.val (.ref o0), .val (.int (3 : Int32)), .val (.int (wb3_m2 x0 x1 x3))] [])) t → Steps p.tables e below S0 t := by
    by_cases hc28_0 : x1 = x3
    · -- yes
      have K21 : ∀ t, Steps p.tables e below (T8.setTop (mkF m 33 #[.val (.ref o0), .val (.int (3 : Int32)), .val (.int (1 : Int32))] [])) t → Steps p.tables e below S0 t := fun t k => K19 t (by
        refine XS.icmpNo X8.here hx rfl (hb hby db3_28) rfl (XT.ii_ne_f hc28_0) ?_
        show Steps p.tables e below (T8.setTop (mkF m 31 #[.val (.ref o0), .val (.int (3 : Int32)), .val (.int (wb3_m1 x0 x3))] [])) _
        refine XS.iconst X8.here hx rfl (hb hby db3_31) ?_
        show Steps p.tables e below (T8.setTop (mkF m 32 #[.val (.ref o0), .val (.int (3 : Int32)), .val (.int (wb3_m1 x0 x3))] [(.int (1 : Int32))])) _
        refine XS.istoreN X8.here hx rfl (hb hby db3_32) rfl (l' := #[.val (.ref o0), .val (.int (3 : Int32)), .val (.int (1 : Int32))]) rfl ?_
        show Steps p.tables e below (T8.setTop (mkF m 33 #[.val (.ref o0), .val (.int (3 : Int32)), .val (.int (1 : Int32))] [])) _
        exact k)
      have q22 : (wb3_m2 x0 x1 x3) = (1 : Int32) := by unfold wb3_m2; rw [if_pos hc28_0]
      exact ⟨T8, _, X8, N8, e8, fun t k => K21 t (by rw [q22] at k; exact k)⟩
    · -- no
      have K23 : ∀ t, Steps p.tables e below (T8.setTop (mkF m 33 #[.val (.ref o0), .val (.int (3 : Int32)), .val (.int (wb3_m1 x0 x3))] [])) t → Steps p.tables e below S0 t := fun t k => K19 t (by
        refine XS.icmpYes X8.here hx rfl (pc0 := 28) (pc' := 33) rfl (hb hby db3_28) rfl (XT.ii_ne_t hc28_0) (by decide) (by decide) ?_
        show Steps p.tables e below (T8.setTop (mkF m 33 #[.val (.ref o0), .val (.int (3 : Int32)), .val (.int (wb3_m1 x0 x3))] [])) _
        exact k)
      have q24 : (wb3_m2 x0 x1 x3) = (wb3_m1 x0 x3) := by unfold wb3_m2; rw [if_neg hc28_0]
      exact ⟨T8, _, X8, N8, e8, fun t k => K23 t (by rw [q24] at k; exact k)⟩
  have K25 : ∀ t, Steps p.tables e below (T20.setTop (mkF m 35 #[.val (.ref o0), .val (.int (3 : Int32)), .val (.int (wb3_m2 x0 x1 x3))] [(.int (2 : Int32)), (.int (3 : Int32))])) t → Steps p.tables e below S0 t := fun t k => K20 t (by
    refine XS.iloadN X20.here hx rfl (hb hby db3_33) rfl ?_
    show Steps p.tables e below (T20.setTop (mkF m 34 #[.val (.ref o0), .val (.int (3 : Int32)), .val (.int (wb3_m2 x0 x1 x3))] [(.int (3 : Int32))])) _
    refine XS.iconst X20.here hx rfl (hb hby db3_34) ?_
    show Steps p.tables e below (T20.setTop (mkF m 35 #[.val (.ref o0), .val (.int (3 : Int32)), .val (.int (wb3_m2 x0 x1 x3))] [(.int (2 : Int32)), (.int (3 : Int32))])) _
    exact k)
  have K26 : ∀ t, Steps p.tables e below (T20.setTop (mkF m 40 #[.val (.ref o0), .val (.int (3 : Int32)), .val (.int (wb3_m2 x0 x1 x3))] [(.int (2 : Int32)), (.ref o0)])) t → Steps p.tables e below S0 t := fun t k => K25 t (by
    refine XS.icmpNo X20.here hx rfl (hb hby db3_35) rfl (XT.ii_le_f (by decide)) ?_
    show Steps p.tables e below (T20.setTop (mkF m 38 #[.val (.ref o0), .val (.int (3 : Int32)), .val (.int (wb3_m2 x0 x1 x3))] [])) _
    refine XS.aloadN X20.here hx rfl (hb hby db3_38) rfl rfl ?_
    show Steps p.tables e below (T20.setTop (mkF m 39 #[.val (.ref o0), .val (.int (3 : Int32)), .val (.int (wb3_m2 x0 x1 x3))] [(.ref o0)])) _
    refine XS.iconst X20.here hx rfl (hb hby db3_39) ?_
    show Steps p.tables e below (T20.setTop (mkF m 40 #[.val (.ref o0), .val (.int (3 : Int32)), .val (.int (wb3_m2 x0 x1 x3))] [(.int (2 : Int32)), (.ref o0)])) _
    exact k)
  have K_27 : ∀ t, Steps p.tables e below (T20.setTop (mkF m 40 #[.val (.ref o0), .val (.int (3 : Int32)), .val (.int (wb3_m2 x0 x1 x3))] [(.int (2 : Int32)), (.ref o0)])) t → Steps p.tables e below S0 t := K26
  obtain ⟨cl28, Ar28, qa28, sa28, na28, ha28, ga28⟩ := id V_o0
  have hin28 : ¬ ((2 : Int32) < 0 ∨ cl28.slots.size ≤ ((2 : Int32)).toNatClampNeg) := inb_of sa28 ⟨by decide, by decide⟩
  have hat28 : cl28.slots[((2 : Int32)).toNatClampNeg]? = some (.int x2) := Has.at ha28 hin28 rfl
  have K28 : ∀ t, Steps p.tables e below (T20.setTop (mkF m 41 #[.val (.ref o0), .val (.int (3 : Int32)), .val (.int (wb3_m2 x0 x1 x3))] [(.int x2)])) t → Steps p.tables e below S0 t := fun t k => K_27 t (X20.iaload hx (j := (2 : Int32)) (v := (.int x2)) (by rw [e20]; exact Ar28.1) (State.isArrayOf_alike hZ.alike Ar28.2.1) Ar28.2.2 hin28 hat28 (g := (mkF m 40 #[.val (.ref o0), .val (.int (3 : Int32)), .val (.int (wb3_m2 x0 x1 x3))] [(.int (2 : Int32)), (.ref o0)])) rfl rfl (hb hby db3_40) _ k)
  have K29 : ∀ t, Steps p.tables e below (T20.setTop (mkF m 43 #[.val (.ref o0), .val (.int (3 : Int32)), .val (.int (wb3_m2 x0 x1 x3))] [(.int (3 : Int32)), (.ref o0), (.int x2)])) t → Steps p.tables e below S0 t := fun t k => K28 t (by
    refine XS.aloadN X20.here hx rfl (hb hby db3_41) rfl rfl ?_
    show Steps p.tables e below (T20.setTop (mkF m 42 #[.val (.ref o0), .val (.int (3 : Int32)), .val (.int (wb3_m2 x0 x1 x3))] [(.ref o0), (.int x2)])) _
    refine XS.iloadN X20.here hx rfl (hb hby db3_42) rfl ?_
    show Steps p.tables e below (T20.setTop (mkF m 43 #[.val (.ref o0), .val (.int (3 : Int32)), .val (.int (wb3_m2 x0 x1 x3))] [(.int (3 : Int32)), (.ref o0), (.int x2)])) _
    exact k)
  have K_30 : ∀ t, Steps p.tables e below (T20.setTop (mkF m 43 #[.val (.ref o0), .val (.int (3 : Int32)), .val (.int (wb3_m2 x0 x1 x3))] [(.int (3 : Int32)), (.ref o0), (.int x2)])) t → Steps p.tables e below S0 t := K29
  obtain ⟨cl31, Ar31, qa31, sa31, na31, ha31, ga31⟩ := id V_o0
  have hin31 : ¬ ((3 : Int32) < 0 ∨ cl31.slots.size ≤ ((3 : Int32)).toNatClampNeg) := inb_of sa31 ⟨by decide, by decide⟩
  have hat31 : cl31.slots[((3 : Int32)).toNatClampNeg]? = some (.int x3) := Has.at ha31 hin31 rfl
  have K31 : ∀ t, Steps p.tables e below (T20.setTop (mkF m 44 #[.val (.ref o0), .val (.int (3 : Int32)), .val (.int (wb3_m2 x0 x1 x3))] [(.int x3), (.int x2)])) t → Steps p.tables e below S0 t := fun t k => K_30 t (X20.iaload hx (j := (3 : Int32)) (v := (.int x3)) (by rw [e20]; exact Ar31.1) (State.isArrayOf_alike hZ.alike Ar31.2.1) Ar31.2.2 hin31 hat31 (g := (mkF m 43 #[.val (.ref o0), .val (.int (3 : Int32)), .val (.int (wb3_m2 x0 x1 x3))] [(.int (3 : Int32)), (.ref o0), (.int x2)])) rfl rfl (hb hby db3_43) _ k)
  obtain ⟨T32, lo32, X32, N32, e32, K32⟩ : ∃ (T' : State) (locs' : List Loc), Stand p l e ({ frames := 0, cells := 0, slots := 0, locals := 0 } : Room) s m #[(.ref o0), (.int (3 : Int32))] below meth c T' locs' 0 0 ∧ Fr n0 locs' ∧ T'.heap = h0 ∧ ∀ t, Steps p.tables e below (T'.setTop (mkF m 49 #[.val (.ref o0), .val (.int (3 : Int32)), .val (.int (wb3_m3 x0 x1 x2 x3))] [])) t → Steps p.tables e below S0 t := by
    by_cases hc44_0 : x2 = x3
    · -- yes
      have K33 : ∀ t, Steps p.tables e below (T20.setTop (mkF m 49 #[.val (.ref o0), .val (.int (3 : Int32)), .val (.int (2 : Int32))] [])) t → Steps p.tables e below S0 t := fun t k => K31 t (by
        refine XS.icmpNo X20.here hx rfl (hb hby db3_44) rfl (XT.ii_ne_f hc44_0) ?_
        show Steps p.tables e below (T20.setTop (mkF m 47 #[.val (.ref o0), .val (.int (3 : Int32)), .val (.int (wb3_m2 x0 x1 x3))] [])) _
        refine XS.iconst X20.here hx rfl (hb hby db3_47) ?_
        show Steps p.tables e below (T20.setTop (mkF m 48 #[.val (.ref o0), .val (.int (3 : Int32)), .val (.int (wb3_m2 x0 x1 x3))] [(.int (2 : Int32))])) _
        refine XS.istoreN X20.here hx rfl (hb hby db3_48) rfl (l' := #[.val (.ref o0), .val (.int (3 : Int32)), .val (.int (2 : Int32))]) rfl ?_
        show Steps p.tables e below (T20.setTop (mkF m 49 #[.val (.ref o0), .val (.int (3 : Int32)), .val (.int (2 : Int32))] [])) _
        exact k)
      have q34 : (wb3_m3 x0 x1 x2 x3) = (2 : Int32) := by unfold wb3_m3; rw [if_pos hc44_0]
      exact ⟨T20, _, X20, N20, e20, fun t k => K33 t (by rw [q34] at k; exact k)⟩
    · -- no
      have K35 : ∀ t, Steps p.tables e below (T20.setTop (mkF m 49 #[.val (.ref o0), .val (.int (3 : Int32)), .val (.int (wb3_m2 x0 x1 x3))] [])) t → Steps p.tables e below S0 t := fun t k => K31 t (by
        refine XS.icmpYes X20.here hx rfl (pc0 := 44) (pc' := 49) rfl (hb hby db3_44) rfl (XT.ii_ne_t hc44_0) (by decide) (by decide) ?_
        show Steps p.tables e below (T20.setTop (mkF m 49 #[.val (.ref o0), .val (.int (3 : Int32)), .val (.int (wb3_m2 x0 x1 x3))] [])) _
        exact k)
      have q36 : (wb3_m3 x0 x1 x2 x3) = (wb3_m2 x0 x1 x3) := by unfold wb3_m3; rw [if_neg hc44_0]
      exact ⟨T20, _, X20, N20, e20, fun t k => K35 t (by rw [q36] at k; exact k)⟩
  have K37 : ∀ t, Steps p.tables e below (T32.setTop (mkF m 51 #[.val (.ref o0), .val (.int (3 : Int32)), .val (.int (wb3_m3 x0 x1 x2 x3))] [(.int (3 : Int32)), (.int (3 : Int32))])) t → Steps p.tables e below S0 t := fun t k => K32 t (by
    refine XS.iloadN X32.here hx rfl (hb hby db3_49) rfl ?_
    show Steps p.tables e below (T32.setTop (mkF m 50 #[.val (.ref o0), .val (.int (3 : Int32)), .val (.int (wb3_m3 x0 x1 x2 x3))] [(.int (3 : Int32))])) _
    refine XS.iconst X32.here hx rfl (hb hby db3_50) ?_
    show Steps p.tables e below (T32.setTop (mkF m 51 #[.val (.ref o0), .val (.int (3 : Int32)), .val (.int (wb3_m3 x0 x1 x2 x3))] [(.int (3 : Int32)), (.int (3 : Int32))])) _
    exact k)
  have K38 : ∀ t, Steps p.tables e below (T32.setTop (mkF m 66 #[.val (.ref o0), .val (.int (3 : Int32)), .val (.int (wb3_m3 x0 x1 x2 x3))] [(.int (wb3_m3 x0 x1 x2 x3))])) t → Steps p.tables e below S0 t := fun t k => K37 t (by
    refine XS.icmpYes X32.here hx rfl (pc0 := 51) (pc' := 65) rfl (hb hby db3_51) rfl (XT.ii_le_t (by decide)) (by decide) (by decide) ?_
    show Steps p.tables e below (T32.setTop (mkF m 65 #[.val (.ref o0), .val (.int (3 : Int32)), .val (.int (wb3_m3 x0 x1 x2 x3))] [])) _
    refine XS.iloadN X32.here hx rfl (hb hby db3_65) rfl ?_
    show Steps p.tables e below (T32.setTop (mkF m 66 #[.val (.ref o0), .val (.int (3 : Int32)), .val (.int (wb3_m3 x0 x1 x2 x3))] [(.int (wb3_m3 x0 x1 x2 x3))])) _
    exact k)
  obtain ⟨fs, hr, hrun, hended, hW, hsame⟩ := X32.leave (v := some (.int (wb3_m3 x0 x1 x2 x3))) (fun h => by rw [Bd.returns] at h; cases h) hlk
  refine ⟨_, _, ?_, hrun, hended, _, _, rfl, ?_, ⟨_, rfl⟩, hW, hsame.mono (by decide) (by decide)⟩
  · rw [← hS0]; exact K38 _ (retI X32 hx Bd.returns (hb hby db3_66) hr)
  · show Qb3 Z o0 ka x0 x1 x2 x3 x4 h0 n0 _ T32.heap _
    rw [e32]
    exact ⟨rfl, N32, rfl⟩
theorem de3_0 : decode method_4_code 0 = .ok (.aload_n 0, 1) := by decide +kernel
theorem de3_1 : decode method_4_code 1 = .ok (.iload_n 1, 1) := by decide +kernel
theorem de3_2 : decode method_4_code 2 = .ok (.invokestatic 29, 3) := by decide +kernel
theorem de3_5 : decode method_4_code 5 = .ok (.istore_n 2, 1) := by decide +kernel
theorem de3_6 : decode method_4_code 6 = .ok (.iload_n 2, 1) := by decide +kernel
theorem de3_7 : decode method_4_code 7 = .ok (.ifCond .ge 6, 3) := by decide +kernel
theorem de3_10 : decode method_4_code 10 = .ok (.iload_n 1, 1) := by decide +kernel
theorem de3_11 : decode method_4_code 11 = .ok (.i2l, 1) := by decide +kernel
theorem de3_12 : decode method_4_code 12 = .ok (.lreturn, 1) := by decide +kernel
theorem de3_13 : decode method_4_code 13 = .ok (.ldc2_w 33, 3) := by decide +kernel
theorem de3_16 : decode method_4_code 16 = .ok (.iload_n 2, 1) := by decide +kernel
theorem de3_17 : decode method_4_code 17 = .ok (.i2l, 1) := by decide +kernel
theorem de3_18 : decode method_4_code 18 = .ok (.ladd, 1) := by decide +kernel
theorem de3_19 : decode method_4_code 19 = .ok (.lreturn, 1) := by decide +kernel
theorem pne3 : plainName "com/example/nearmark/nearmark/paging/LeastRecentlyUsed2RankPinLaw" = true := by first | (simp [plainName, overriddenIn]; done) | decide +kernel
theorem pde3_0 : parseMethodDescriptor "([II)I" = some ⟨[(.array .int), .int], some .int⟩ := by decide +kernel
theorem efe3 (m : MethodId) (o0 : Addr) : entryFrame m #[(.ref o0), (.int (3 : Int32))] 3 = mkF m 0 #[.val (.ref o0), .val (.int (3 : Int32)), .unset] [] := by first | (simp [entryFrame, mkF, argsToLocals, Value.category]; done) | rfl
def Qe3 (Z : State) (o0 : Addr) (ka : ClassId) (x0 : Int32) (x1 : Int32) (x2 : Int32) (x3 : Int32) (x4 : Int32) (h0 : Heap) (n0 : Nat) (v : Option Value) (h : Heap) (L : List Loc) : Prop := v = some (.long (we3_r1 x0 x1 x2 x3)) ∧ Fr n0 L ∧ h = h0
set_option maxRecDepth 65536 in
set_option maxHeartbeats 40000000 in
theorem rme3 (l : Launch) (Z : State) (a0 : Array Value) (hw : ∀ d ∈ tables_1, d.before a0 Z = true) (ws : List Jvm.Cond) (o0 : Addr) (ka : ClassId) (x0 : Int32) (x1 : Int32) (x2 : Int32) (x3 : Int32) (x4 : Int32) (h0 : Heap) (n0 : Nat) (Z0 : n0 ≤ h0.size) (V_o0 : Arv Z h0 o0 ka .int (5 : Int32) [(.int x0), (.int x1), (.int x2), (.int x3), (.int x4)] (.int (0 : Int32))) :
    MetFree l (⟨"com/example/nearmark/nearmark/paging/LeastRecentlyUsed2RankPinLaw", "expected", "([II)J"⟩ : MethodName) (head1 (Jvm.Cond.code (⟨"com/example/nearmark/nearmark/paging/LeastRecentlyUsed2RankPinLaw", "expected", "([II)J"⟩ : MethodName) method_4_code 3 (some .long) :: ws) ({ frames := 1, cells := 0, slots := 0, locals := 14 } : Room)) (fun a U => a = #[(.ref o0), (.int (3 : Int32))] ∧ Z.Warmed39 U.vm ∧ U.heap = h0) (fun _ _ _ _ _ => True) (fun _ U o U' => ∃ v L, o = .returned v ∧ Qe3 Z o0 ka x0 x1 x2 x3 x4 h0 n0 v U'.heap L ∧ FrameEnd U o U' L ({ frames := 1, cells := 0, slots := 0, locals := 14 } : Room).cells ({ frames := 1, cells := 0, slots := 0, locals := 14 } : Room).slots) := by
  refine MetFree.of_bodySF (plainFor_of_name pne3) hisR ?_
  intro p e s m args below meth c s₁ Bd hml0 hP hK
  obtain ⟨rfl, hZ, hh⟩ := hP
  have hlk : meth.locks = false := BodyLoose.notSynchronized Bd
  have hx := Bd.exec
  have hby := Bd.bytes
  have hml : c.maxLocals = 3 := hml0
  have hown : s.vm.findClass "com/example/nearmark/nearmark/paging/LeastRecentlyUsed2RankPinLaw" = some m.cls := findClass_of_methodNamed Bd.named
  have hnm := (name_of_methodNamed Bd.named Bd.method).1
  have X0 : Stand p l e ({ frames := 1, cells := 0, slots := 0, locals := 14 } : Room) s m #[(.ref o0), (.int (3 : Int32))] below meth c s₁ [] 0 0 := Stand.of_body Bd
  have e0 : s₁.heap = h0 := by rw [← hh, Bd.state]; rfl
  have N0 := Fr.nil n0
  obtain ⟨S0, hS0⟩ : ∃ S0, S0 = s₁.setTop (entryFrame m #[(.ref o0), (.int (3 : Int32))] 3) := ⟨_, rfl⟩
  have pre0 : ∀ t, Steps p.tables e below (s₁.setTop (mkF m 0 #[.val (.ref o0), .val (.int (3 : Int32)), .unset] [])) t → Steps p.tables e below S0 t := fun t k => by rw [hS0]; exact castTop (efe3 m o0) k
  have K1 : ∀ t, Steps p.tables e below (s₁.setTop (mkF m 2 #[.val (.ref o0), .val (.int (3 : Int32)), .unset] [(.int (3 : Int32)), (.ref o0)])) t → Steps p.tables e below S0 t := fun t k => pre0 t (by
    refine XS.aloadN X0.here hx rfl (hb hby de3_0) rfl rfl ?_
    show Steps p.tables e below (s₁.setTop (mkF m 1 #[.val (.ref o0), .val (.int (3 : Int32)), .unset] [(.ref o0)])) _
    refine XS.iloadN X0.here hx rfl (hb hby de3_1) rfl ?_
    show Steps p.tables e below (s₁.setTop (mkF m 2 #[.val (.ref o0), .val (.int (3 : Int32)), .unset] [(.int (3 : Int32)), (.ref o0)])) _
    exact k)
  have K_2 : ∀ t, Steps p.tables e below (s₁.setTop (mkF m 2 #[.val (.ref o0), .val (.int (3 : Int32)), .unset] [(.int (3 : Int32)), (.ref o0)])) t → Steps p.tables e below S0 t := K1
  obtain ⟨_, _, ⟨T3, L3, k3, n3⟩, -, X3, ⟨Lc3, hQ3, l3, y3, z3⟩, st3⟩ := Jvm.LawKit.callS X0 hx (y := (⟨"com/example/nearmark/nearmark/paging/LeastRecentlyUsed2RankPinLaw", "lastBefore", "([II)I"⟩ : MethodName)) hown (mvT hZ (hw _ (List.mem_of_getElem? (i := 5) rfl))) (mvT hZ (hw _ (List.mem_of_getElem? (i := 6) rfl))) (mvT hZ (hw _ (List.mem_of_getElem? (i := 3) rfl))) (mvT hZ (hw _ (List.mem_of_getElem? (i := 7) rfl))) (by decide) (backOf (W := 0) (rmb3 l Z a0 hw [] o0 ka x0 x1 x2 x3 x4 h0 n0 Z0 V_o0) hZ (hw _ (List.mem_of_getElem? (i := 7) rfl)) (hw _ (List.mem_of_getElem? (i := 3) rfl)) (by decide) (by decide)) (g := (mkF m 2 #[.val (.ref o0), .val (.int (3 : Int32)), .unset] [(.int (3 : Int32)), (.ref o0)])) rfl (by rw [hml]; rfl) (argsL := [(.ref o0), (.int (3 : Int32))]) (rest := []) (lenOf pde3_0 rfl) rfl (by show 2 * 0 + _ ≤ _; exact Nat.le_of_eq rfl) (hb hby de3_2) (fun _ _ => ⟨rfl, e0, (by decide : 0 + 0 ≤ 0), (by decide : 0 + 0 ≤ 0)⟩)
  dsimp only [Pt.U, Pt.locs, Pt.cells, Pt.slots] at X3 l3 y3 z3 st3 hQ3
  subst l3 y3 z3
  obtain ⟨rfl, N3q, e3⟩ := hQ3
  have N3 := Fr.app N0 N3q
  have K3 : ∀ t, Steps p.tables e below (T3.setTop (mkF m 5 #[.val (.ref o0), .val (.int (3 : Int32)), .unset] [(.int (wb3_m3 x0 x1 x2 x3))])) t → Steps p.tables e below S0 t := fun t k => K_2 t (st3 t k)
  have K4 : ∀ t, Steps p.tables e below (T3.setTop (mkF m 7 #[.val (.ref o0), .val (.int (3 : Int32)), .val (.int (wb3_m3 x0 x1 x2 x3))] [(.int (wb3_m3 x0 x1 x2 x3))])) t → Steps p.tables e below S0 t := fun t k => K3 t (by
    refine XS.istoreN X3.here hx rfl (hb hby de3_5) rfl (l' := #[.val (.ref o0), .val (.int (3 : Int32)), .val (.int (wb3_m3 x0 x1 x2 x3))]) rfl ?_
    show Steps p.tables e below (T3.setTop (mkF m 6 #[.val (.ref o0), .val (.int (3 : Int32)), .val (.int (wb3_m3 x0 x1 x2 x3))] [])) _
    refine XS.iloadN X3.here hx rfl (hb hby de3_6) rfl ?_
    show Steps p.tables e below (T3.setTop (mkF m 7 #[.val (.ref o0), .val (.int (3 : Int32)), .val (.int (wb3_m3 x0 x1 x2 x3))] [(.int (wb3_m3 x0 x1 x2 x3))])) _
    exact k)
  by_cases hc7_0 : (wb3_m3 x0 x1 x2 x3) < (0 : Int32)
  · -- yes
    have K5 : ∀ t, Steps p.tables e below (T3.setTop (mkF m 12 #[.val (.ref o0), .val (.int (3 : Int32)), .val (.int (wb3_m3 x0 x1 x2 x3))] [(.long (3 : Int64))])) t → Steps p.tables e below S0 t := fun t k => K4 t (by
      refine XS.ifNo X3.here hx rfl (hb hby de3_7) rfl (XT.i0_ge_f hc7_0) ?_
      show Steps p.tables e below (T3.setTop (mkF m 10 #[.val (.ref o0), .val (.int (3 : Int32)), .val (.int (wb3_m3 x0 x1 x2 x3))] [])) _
      refine XS.iloadN X3.here hx rfl (hb hby de3_10) rfl ?_
      show Steps p.tables e below (T3.setTop (mkF m 11 #[.val (.ref o0), .val (.int (3 : Int32)), .val (.int (wb3_m3 x0 x1 x2 x3))] [(.int (3 : Int32))])) _
      refine XS.i2l X3.here hx rfl (hb hby de3_11) rfl ?_
      show Steps p.tables e below (T3.setTop (mkF m 12 #[.val (.ref o0), .val (.int (3 : Int32)), .val (.int (wb3_m3 x0 x1 x2 x3))] [(.long (3 : Int64))])) _
      exact k)
    obtain ⟨fs, hr, hrun, hended, hW, hsame⟩ := X3.leave (v := some (.long (3 : Int64))) (fun h => by rw [Bd.returns] at h; cases h) hlk
    refine ⟨_, _, ?_, hrun, hended, _, _, rfl, ?_, ⟨_, rfl⟩, hW, hsame.mono (by decide) (by decide)⟩
    · rw [← hS0]; exact K5 _ (retOut X3 hx Bd.returns rfl (Or.inr (Or.inl ⟨rfl, rfl, _, rfl⟩)) (hb hby de3_12) hr)
    · show Qe3 Z o0 ka x0 x1 x2 x3 x4 h0 n0 _ T3.heap _
      rw [e3]
      have qr : (3 : Int64) = (we3_r1 x0 x1 x2 x3) := by unfold we3_r1; rw [if_pos hc7_0]
      exact ⟨congrArg (fun z => some (Value.long z)) qr, N3, rfl⟩
  · -- no
    have K6 : ∀ t, Steps p.tables e below (T3.setTop (mkF m 19 #[.val (.ref o0), .val (.int (3 : Int32)), .val (.int (wb3_m3 x0 x1 x2 x3))] [(.long ((5 : Int64) + ((wb3_m3 x0 x1 x2 x3).toInt64)))])) t → Steps p.tables e below S0 t := fun t k => K4 t (by
      refine XS.ifYes X3.here hx rfl (pc0 := 7) (pc' := 13) rfl (hb hby de3_7) rfl (XT.i0_ge_t hc7_0) (by decide) (by decide) ?_
      show Steps p.tables e below (T3.setTop (mkF m 13 #[.val (.ref o0), .val (.int (3 : Int32)), .val (.int (wb3_m3 x0 x1 x2 x3))] [])) _
      refine X3.ldc2Long hx hown (mvT hZ (hw _ (List.mem_of_getElem? (i := 8) rfl))) (g := (mkF m 13 #[.val (.ref o0), .val (.int (3 : Int32)), .val (.int (wb3_m3 x0 x1 x2 x3))] [])) rfl (hb hby de3_13) _ ?_
      show Steps p.tables e below (T3.setTop (mkF m 16 #[.val (.ref o0), .val (.int (3 : Int32)), .val (.int (wb3_m3 x0 x1 x2 x3))] [(.long (5 : Int64))])) _
      refine XS.iloadN X3.here hx rfl (hb hby de3_16) rfl ?_
      show Steps p.tables e below (T3.setTop (mkF m 17 #[.val (.ref o0), .val (.int (3 : Int32)), .val (.int (wb3_m3 x0 x1 x2 x3))] [(.int (wb3_m3 x0 x1 x2 x3)), (.long (5 : Int64))])) _
      refine XS.i2l X3.here hx rfl (hb hby de3_17) rfl ?_
      show Steps p.tables e below (T3.setTop (mkF m 18 #[.val (.ref o0), .val (.int (3 : Int32)), .val (.int (wb3_m3 x0 x1 x2 x3))] [(.long ((wb3_m3 x0 x1 x2 x3).toInt64)), (.long (5 : Int64))])) _
      refine XS.ladd X3.here hx rfl (hb hby de3_18) rfl ?_
      show Steps p.tables e below (T3.setTop (mkF m 19 #[.val (.ref o0), .val (.int (3 : Int32)), .val (.int (wb3_m3 x0 x1 x2 x3))] [(.long ((5 : Int64) + ((wb3_m3 x0 x1 x2 x3).toInt64)))])) _
      exact k)
    obtain ⟨fs, hr, hrun, hended, hW, hsame⟩ := X3.leave (v := some (.long ((5 : Int64) + ((wb3_m3 x0 x1 x2 x3).toInt64)))) (fun h => by rw [Bd.returns] at h; cases h) hlk
    refine ⟨_, _, ?_, hrun, hended, _, _, rfl, ?_, ⟨_, rfl⟩, hW, hsame.mono (by decide) (by decide)⟩
    · rw [← hS0]; exact K6 _ (retOut X3 hx Bd.returns rfl (Or.inr (Or.inl ⟨rfl, rfl, _, rfl⟩)) (hb hby de3_19) hr)
    · show Qe3 Z o0 ka x0 x1 x2 x3 x4 h0 n0 _ T3.heap _
      rw [e3]
      have qr : ((5 : Int64) + ((wb3_m3 x0 x1 x2 x3).toInt64)) = (we3_r1 x0 x1 x2 x3) := by unfold we3_r1; rw [if_neg hc7_0]
      exact ⟨congrArg (fun z => some (Value.long z)) qr, N3, rfl⟩
theorem db4_0 : decode method_3_code 0 = .ok (.iconst (-1), 1) := by decide +kernel
theorem db4_1 : decode method_3_code 1 = .ok (.istore_n 2, 1) := by decide +kernel
theorem db4_2 : decode method_3_code 2 = .ok (.iload_n 1, 1) := by decide +kernel
theorem db4_3 : decode method_3_code 3 = .ok (.ifCond .le 14, 3) := by decide +kernel
theorem db4_6 : decode method_3_code 6 = .ok (.aload_n 0, 1) := by decide +kernel
theorem db4_7 : decode method_3_code 7 = .ok (.iconst 0, 1) := by decide +kernel
theorem db4_8 : decode method_3_code 8 = .ok (.iaload, 1) := by decide +kernel
theorem db4_9 : decode method_3_code 9 = .ok (.aload_n 0, 1) := by decide +kernel
theorem db4_10 : decode method_3_code 10 = .ok (.iload_n 1, 1) := by decide +kernel
theorem db4_11 : decode method_3_code 11 = .ok (.iaload, 1) := by decide +kernel
theorem db4_12 : decode method_3_code 12 = .ok (.if_icmp .ne 5, 3) := by decide +kernel
theorem db4_15 : decode method_3_code 15 = .ok (.iconst 0, 1) := by decide +kernel
theorem db4_16 : decode method_3_code 16 = .ok (.istore_n 2, 1) := by decide +kernel
theorem db4_17 : decode method_3_code 17 = .ok (.iload_n 1, 1) := by decide +kernel
theorem db4_18 : decode method_3_code 18 = .ok (.iconst 1, 1) := by decide +kernel
theorem db4_19 : decode method_3_code 19 = .ok (.if_icmp .le 14, 3) := by decide +kernel
theorem db4_22 : decode method_3_code 22 = .ok (.aload_n 0, 1) := by decide +kernel
theorem db4_23 : decode method_3_code 23 = .ok (.iconst 1, 1) := by decide +kernel
theorem db4_24 : decode method_3_code 24 = .ok (.iaload, 1) := by decide +kernel
theorem db4_25 : decode method_3_code 25 = .ok (.aload_n 0, 1) := by decide +kernel
theorem db4_26 : decode method_3_code 26 = .ok (.iload_n 1, 1) := by decide +kernel
theorem db4_27 : decode method_3_code 27 = .ok (.iaload, 1) := by decide +kernel
theorem db4_28 : decode method_3_code 28 = .ok (.if_icmp .ne 5, 3) := by decide +kernel
theorem db4_31 : decode method_3_code 31 = .ok (.iconst 1, 1) := by decide +kernel
theorem db4_32 : decode method_3_code 32 = .ok (.istore_n 2, 1) := by decide +kernel
theorem db4_33 : decode method_3_code 33 = .ok (.iload_n 1, 1) := by decide +kernel
theorem db4_34 : decode method_3_code 34 = .ok (.iconst 2, 1) := by decide +kernel
theorem db4_35 : decode method_3_code 35 = .ok (.if_icmp .le 14, 3) := by decide +kernel
theorem db4_38 : decode method_3_code 38 = .ok (.aload_n 0, 1) := by decide +kernel
theorem db4_39 : decode method_3_code 39 = .ok (.iconst 2, 1) := by decide +kernel
theorem db4_40 : decode method_3_code 40 = .ok (.iaload, 1) := by decide +kernel
theorem db4_41 : decode method_3_code 41 = .ok (.aload_n 0, 1) := by decide +kernel
theorem db4_42 : decode method_3_code 42 = .ok (.iload_n 1, 1) := by decide +kernel
theorem db4_43 : decode method_3_code 43 = .ok (.iaload, 1) := by decide +kernel
theorem db4_44 : decode method_3_code 44 = .ok (.if_icmp .ne 5, 3) := by decide +kernel
theorem db4_47 : decode method_3_code 47 = .ok (.iconst 2, 1) := by decide +kernel
theorem db4_48 : decode method_3_code 48 = .ok (.istore_n 2, 1) := by decide +kernel
theorem db4_49 : decode method_3_code 49 = .ok (.iload_n 1, 1) := by decide +kernel
theorem db4_50 : decode method_3_code 50 = .ok (.iconst 3, 1) := by decide +kernel
theorem db4_51 : decode method_3_code 51 = .ok (.if_icmp .le 14, 3) := by decide +kernel
theorem db4_54 : decode method_3_code 54 = .ok (.aload_n 0, 1) := by decide +kernel
theorem db4_55 : decode method_3_code 55 = .ok (.iconst 3, 1) := by decide +kernel
theorem db4_56 : decode method_3_code 56 = .ok (.iaload, 1) := by decide +kernel
theorem db4_57 : decode method_3_code 57 = .ok (.aload_n 0, 1) := by decide +kernel
theorem db4_58 : decode method_3_code 58 = .ok (.iload_n 1, 1) := by decide +kernel
theorem db4_59 : decode method_3_code 59 = .ok (.iaload, 1) := by decide +kernel
theorem db4_60 : decode method_3_code 60 = .ok (.if_icmp .ne 5, 3) := by decide +kernel
theorem db4_63 : decode method_3_code 63 = .ok (.iconst 3, 1) := by decide +kernel
theorem db4_64 : decode method_3_code 64 = .ok (.istore_n 2, 1) := by decide +kernel
theorem db4_65 : decode method_3_code 65 = .ok (.iload_n 2, 1) := by decide +kernel
theorem db4_66 : decode method_3_code 66 = .ok (.ireturn, 1) := by decide +kernel
theorem pnb4 : plainName "com/example/nearmark/nearmark/paging/LeastRecentlyUsed2RankPinLaw" = true := by first | (simp [plainName, overriddenIn]; done) | decide +kernel
theorem efb4 (m : MethodId) (o0 : Addr) : entryFrame m #[(.ref o0), (.int (4 : Int32))] 3 = mkF m 0 #[.val (.ref o0), .val (.int (4 : Int32)), .unset] [] := by first | (simp [entryFrame, mkF, argsToLocals, Value.category]; done) | rfl
def Qb4 (Z : State) (o0 : Addr) (ka : ClassId) (x0 : Int32) (x1 : Int32) (x2 : Int32) (x3 : Int32) (x4 : Int32) (h0 : Heap) (n0 : Nat) (v : Option Value) (h : Heap) (L : List Loc) : Prop := v = some (.int (wb4_m4 x0 x1 x2 x3 x4)) ∧ Fr n0 L ∧ h = h0
set_option maxRecDepth 65536 in
set_option maxHeartbeats 40000000 in
theorem rmb4 (l : Launch) (Z : State) (a0 : Array Value) (hw : ∀ d ∈ tables_1, d.before a0 Z = true) (ws : List Jvm.Cond) (o0 : Addr) (ka : ClassId) (x0 : Int32) (x1 : Int32) (x2 : Int32) (x3 : Int32) (x4 : Int32) (h0 : Heap) (n0 : Nat) (Z0 : n0 ≤ h0.size) (V_o0 : Arv Z h0 o0 ka .int (5 : Int32) [(.int x0), (.int x1), (.int x2), (.int x3), (.int x4)] (.int (0 : Int32))) :
    MetFree l (⟨"com/example/nearmark/nearmark/paging/LeastRecentlyUsed2RankPinLaw", "lastBefore", "([II)I"⟩ : MethodName) (head1 (Jvm.Cond.code (⟨"com/example/nearmark/nearmark/paging/LeastRecentlyUsed2RankPinLaw", "lastBefore", "([II)I"⟩ : MethodName) method_3_code 3 (some .int) :: ws) ({ frames := 0, cells := 0, slots := 0, locals := 0 } : Room)) (fun a U => a = #[(.ref o0), (.int (4 : Int32))] ∧ Z.Warmed39 U.vm ∧ U.heap = h0) (fun _ _ _ _ _ => True) (fun _ U o U' => ∃ v L, o = .returned v ∧ Qb4 Z o0 ka x0 x1 x2 x3 x4 h0 n0 v U'.heap L ∧ FrameEnd U o U' L ({ frames := 0, cells := 0, slots := 0, locals := 0 } : Room).cells ({ frames := 0, cells := 0, slots := 0, locals := 0 } : Room).slots) := by
  refine MetFree.of_bodySF (plainFor_of_name pnb4) hisR ?_
  intro p e s m args below meth c s₁ Bd hml0 hP hK
  obtain ⟨rfl, hZ, hh⟩ := hP
  have hlk : meth.locks = false := BodyLoose.notSynchronized Bd
  have hx := Bd.exec
  have hby := Bd.bytes
  have hml : c.maxLocals = 3 := hml0
  have hown : s.vm.findClass "com/example/nearmark/nearmark/paging/LeastRecentlyUsed2RankPinLaw" = some m.cls := findClass_of_methodNamed Bd.named
  have hnm := (name_of_methodNamed Bd.named Bd.method).1
  have X0 : Stand p l e ({ frames := 0, cells := 0, slots := 0, locals := 0 } : Room) s m #[(.ref o0), (.int (4 : Int32))] below meth c s₁ [] 0 0 := Stand.of_body Bd
  have e0 : s₁.heap = h0 := by rw [← hh, Bd.state]; rfl
  have N0 := Fr.nil n0
  obtain ⟨S0, hS0⟩ : ∃ S0, S0 = s₁.setTop (entryFrame m #[(.ref o0), (.int (4 : Int32))] 3) := ⟨_, rfl⟩
  have pre0 : ∀ t, Steps p.tables e below (s₁.setTop (mkF m 0 #[.val (.ref o0), .val (.int (4 : Int32)), .unset] [])) t → Steps p.tables e below S0 t := fun t k => by rw [hS0]; exact castTop (efb4 m o0) k
  have K1 : ∀ t, Steps p.tables e below (s₁.setTop (mkF m 3 #[.val (.ref o0), .val (.int (4 : Int32)), .val (.int (-1 : Int32))] [(.int (4 : Int32))])) t → Steps p.tables e below S0 t := fun t k => pre0 t (by
    refine XS.iconst X0.here hx rfl (hb hby db4_0) ?_
    show Steps p.tables e below (s₁.setTop (mkF m 1 #[.val (.ref o0), .val (.int (4 : Int32)), .unset] [(.int (-1 : Int32))])) _
    refine XS.istoreN X0.here hx rfl (hb hby db4_1) rfl (l' := #[.val (.ref o0), .val (.int (4 : Int32)), .val (.int (-1 : Int32))]) rfl ?_
    show Steps p.tables e below (s₁.setTop (mkF m 2 #[.val (.ref o0), .val (.int (4 : Int32)), .val (.int (-1 : Int32))] [])) _
    refine XS.iloadN X0.here hx rfl (hb hby db4_2) rfl ?_
    show Steps p.tables e below (s₁.setTop (mkF m 3 #[.val (.ref o0), .val (.int (4 : Int32)), .val (.int (-1 : Int32))] [(.int (4 : Int32))])) _
    exact k)
  have K2 : ∀ t, Steps p.tables e below (s₁.setTop (mkF m 8 #[.val (.ref o0), .val (.int (4 : Int32)), .val (.int (-1 : Int32))] [(.int (0 : Int32)), (.ref o0)])) t → Steps p.tables e below S0 t := fun t k => K1 t (by
    refine XS.ifNo X0.here hx rfl (hb hby db4_3) rfl (XT.i0_le_f (by decide)) ?_
    show Steps p.tables e below (s₁.setTop (mkF m 6 #[.val (.ref o0), .val (.int (4 : Int32)), .val (.int (-1 : Int32))] [])) _
    refine XS.aloadN X0.here hx rfl (hb hby db4_6) rfl rfl ?_
    show Steps p.tables e below (s₁.setTop (mkF m 7 #[.val (.ref o0), .val (.int (4 : Int32)), .val (.int (-1 : Int32))] [(.ref o0)])) _
    refine XS.iconst X0.here hx rfl (hb hby db4_7) ?_
    show Steps p.tables e below (s₁.setTop (mkF m 8 #[.val (.ref o0), .val (.int (4 : Int32)), .val (.int (-1 : Int32))] [(.int (0 : Int32)), (.ref o0)])) _
    exact k)
  have K_3 : ∀ t, Steps p.tables e below (s₁.setTop (mkF m 8 #[.val (.ref o0), .val (.int (4 : Int32)), .val (.int (-1 : Int32))] [(.int (0 : Int32)), (.ref o0)])) t → Steps p.tables e below S0 t := K2
  obtain ⟨cl4, Ar4, qa4, sa4, na4, ha4, ga4⟩ := id V_o0
  have hin4 : ¬ ((0 : Int32) < 0 ∨ cl4.slots.size ≤ ((0 : Int32)).toNatClampNeg) := inb_of sa4 ⟨by decide, by decide⟩
  have hat4 : cl4.slots[((0 : Int32)).toNatClampNeg]? = some (.int x0) := Has.at ha4 hin4 rfl
  have K4 : ∀ t, Steps p.tables e below (s₁.setTop (mkF m 9 #[.val (.ref o0), .val (.int (4 : Int32)), .val (.int (-1 : Int32))] [(.int x0)])) t → Steps p.tables e below S0 t := fun t k => K_3 t (X0.iaload hx (j := (0 : Int32)) (v := (.int x0)) (by rw [e0]; exact Ar4.1) (State.isArrayOf_alike hZ.alike Ar4.2.1) Ar4.2.2 hin4 hat4 (g := (mkF m 8 #[.val (.ref o0), .val (.int (4 : Int32)), .val (.int (-1 : Int32))] [(.int (0 : Int32)), (.ref o0)])) rfl rfl (hb hby db4_8) _ k)
  have K5 : ∀ t, Steps p.tables e below (s₁.setTop (mkF m 11 #[.val (.ref o0), .val (.int (4 : Int32)), .val (.int (-1 : Int32))] [(.int (4 : Int32)), (.ref o0), (.int x0)])) t → Steps p.tables e below S0 t := fun t k => K4 t (by
    refine XS.aloadN X0.here hx rfl (hb hby db4_9) rfl rfl ?_
    show Steps p.tables e below (s₁.setTop (mkF m 10 #[.val (.ref o0), .val (.int (4 : Int32)), .val (.int (-1 : Int32))] [(.ref o0), (.int x0)])) _
    refine XS.iloadN X0.here hx rfl (hb hby db4_10) rfl ?_
    show Steps p.tables e below (s₁.setTop (mkF m 11 #[.val (.ref o0), .val (.int (4 : Int32)), .val (.int (-1 : Int32))] [(.int (4 : Int32)), (.ref o0), (.int x0)])) _
    exact k)
  have K_6 : ∀ t, Steps p.tables e below (s₁.setTop (mkF m 11 #[.val (.ref o0), .val (.int (4 : Int32)), .val (.int (-1 : Int32))] [(.int (4 : Int32)), (.ref o0), (.int x0)])) t → Steps p.tables e below S0 t := K5
  obtain ⟨cl7, Ar7, qa7, sa7, na7, ha7, ga7⟩ := id V_o0
  have hin7 : ¬ ((4 : Int32) < 0 ∨ cl7.slots.size ≤ ((4 : Int32)).toNatClampNeg) := inb_of sa7 ⟨by decide, by decide⟩
  have hat7 : cl7.slots[((4 : Int32)).toNatClampNeg]? = some (.int x4) := Has.at ha7 hin7 rfl
  have K7 : ∀ t, Steps p.tables e below (s₁.setTop (mkF m 12 #[.val (.ref o0), .val (.int (4 : Int32)), .val (.int (-1 : Int32))] [(.int x4), (.int x0)])) t → Steps p.tables e below S0 t := fun t k => K_6 t (X0.iaload hx (j := (4 : Int32)) (v := (.int x4)) (by rw [e0]; exact Ar7.1) (State.isArrayOf_alike hZ.alike Ar7.2.1) Ar7.2.2 hin7 hat7 (g := (mkF m 11 #[.val (.ref o0), .val (.int (4 : Int32)), .val (.int (-1 : Int32))] [(.int (4 : Int32)), (.ref o0), (.int x0)])) rfl rfl (hb hby db4_11) _ k)
  obtain ⟨T8, lo8, X8, N8, e8, K8⟩ : ∃ (T' : State) (locs' : List Loc), Stand p l e ({ frames := 0, cells := 0, slots := 0, locals := 0 } : Room) s m #[(.ref o0), (.int (4 : Int32))] below meth c T' locs' 0 0 ∧ Fr n0 locs' ∧ T'.heap = h0 ∧ ∀ t, Steps p.tables e below (T'.setTop (mkF m 17 #[.val (.ref o0), .val (.int (4 : Int32)), .val (.int (wb4_m1 x0 x4))] [])) t → Steps p.tables e below S0 t := by
    by_cases hc12_0 : x0 = x4
    · -- yes
      have K9 : ∀ t, Steps p.tables e below (s₁.setTop (mkF m 17 #[.val (.ref o0), .val (.int (4 : Int32)), .val (.int (0 : Int32))] [])) t → Steps p.tables e below S0 t := fun t k => K7 t (by
        refine XS.icmpNo X0.here hx rfl (hb hby db4_12) rfl (XT.ii_ne_f hc12_0) ?_
        show Steps p.tables e below (s₁.setTop (mkF m 15 #[.val (.ref o0), .val (.int (4 : Int32)), .val (.int (-1 : Int32))] [])) _
        refine XS.iconst X0.here hx rfl (hb hby db4_15) ?_
        show Steps p.tables e below (s₁.setTop (mkF m 16 #[.val (.ref o0), .val (.int (4 : Int32)), .val (.int (-1 : Int32))] [(.int (0 : Int32))])) _
        refine XS.istoreN X0.here hx rfl (hb hby db4_16) rfl (l' := #[.val (.ref o0), .val (.int (4 : Int32)), .val (.int (0 : Int32))]) rfl ?_
        show Steps p.tables e below (s₁.setTop (mkF m 17 #[.val (.ref o0), .val (.int (4 : Int32)), .val (.int (0 : Int32))] [])) _
        exact k)
      have q10 : (wb4_m1 x0 x4) = (0 : Int32) := by unfold wb4_m1; rw [if_pos hc12_0]
      exact ⟨s₁, _, X0, N0, e0, fun t k => K9 t (by rw [q10] at k; exact k)⟩
    · -- no
      have K11 : ∀ t, Steps p.tables e below (s₁.setTop (mkF m 17 #[.val (.ref o0), .val (.int (4 : Int32)), .val (.int (-1 : Int32))] [])) t → Steps p.tables e below S0 t := fun t k => K7 t (by
        refine XS.icmpYes X0.here hx rfl (pc0 := 12) (pc' := 17) rfl (hb hby db4_12) rfl (XT.ii_ne_t hc12_0) (by decide) (by decide) ?_
        show Steps p.tables e below (s₁.setTop (mkF m 17 #[.val (.ref o0), .val (.int (4 : Int32)), .val (.int (-1 : Int32))] [])) _
        exact k)
      have q12 : (wb4_m1 x0 x4) = (-1 : Int32) := by unfold wb4_m1; rw [if_neg hc12_0]
      exact ⟨s₁, _, X0, N0, e0, fun t k => K11 t (by rw [q12] at k; exact k)⟩
  have K13 : ∀ t, Steps p.tables e below (T8.setTop (mkF m 19 #[.val (.ref o0), .val (.int (4 : Int32)), .val (.int (wb4_m1 x0 x4))] [(.int (1 : Int32)), (.int (4 : Int32))])) t → Steps p.tables e below S0 t := fun t k => K8 t (by
    refine XS.iloadN X8.here hx rfl (hb hby db4_17) rfl ?_
    show Steps p.tables e below (T8.setTop (mkF m 18 #[.val (.ref o0), .val (.int (4 : Int32)), .val (.int (wb4_m1 x0 x4))] [(.int (4 : Int32))])) _
    refine XS.iconst X8.here hx rfl (hb hby db4_18) ?_
    show Steps p.tables e below (T8.setTop (mkF m 19 #[.val (.ref o0), .val (.int (4 : Int32)), .val (.int (wb4_m1 x0 x4))] [(.int (1 : Int32)), (.int (4 : Int32))])) _
    exact k)
  have K14 : ∀ t, Steps p.tables e below (T8.setTop (mkF m 24 #[.val (.ref o0), .val (.int (4 : Int32)), .val (.int (wb4_m1 x0 x4))] [(.int (1 : Int32)), (.ref o0)])) t → Steps p.tables e below S0 t := fun t k => K13 t (by
    refine XS.icmpNo X8.here hx rfl (hb hby db4_19) rfl (XT.ii_le_f (by decide)) ?_
    show Steps p.tables e below (T8.setTop (mkF m 22 #[.val (.ref o0), .val (.int (4 : Int32)), .val (.int (wb4_m1 x0 x4))] [])) _
    refine XS.aloadN X8.here hx rfl (hb hby db4_22) rfl rfl ?_
    show Steps p.tables e below (T8.setTop (mkF m 23 #[.val (.ref o0), .val (.int (4 : Int32)), .val (.int (wb4_m1 x0 x4))] [(.ref o0)])) _
    refine XS.iconst X8.here hx rfl (hb hby db4_23) ?_
    show Steps p.tables e below (T8.setTop (mkF m 24 #[.val (.ref o0), .val (.int (4 : Int32)), .val (.int (wb4_m1 x0 x4))] [(.int (1 : Int32)), (.ref o0)])) _
    exact k)
  have K_15 : ∀ t, Steps p.tables e below (T8.setTop (mkF m 24 #[.val (.ref o0), .val (.int (4 : Int32)), .val (.int (wb4_m1 x0 x4))] [(.int (1 : Int32)), (.ref o0)])) t → Steps p.tables e below S0 t := K14
  obtain ⟨cl16, Ar16, qa16, sa16, na16, ha16, ga16⟩ := id V_o0
  have hin16 : ¬ ((1 : Int32) < 0 ∨ cl16.slots.size ≤ ((1 : Int32)).toNatClampNeg) := inb_of sa16 ⟨by decide, by decide⟩
  have hat16 : cl16.slots[((1 : Int32)).toNatClampNeg]? = some (.int x1) := Has.at ha16 hin16 rfl
  have K16 : ∀ t, Steps p.tables e below (T8.setTop (mkF m 25 #[.val (.ref o0), .val (.int (4 : Int32)), .val (.int (wb4_m1 x0 x4))] [(.int x1)])) t → Steps p.tables e below S0 t := fun t k => K_15 t (X8.iaload hx (j := (1 : Int32)) (v := (.int x1)) (by rw [e8]; exact Ar16.1) (State.isArrayOf_alike hZ.alike Ar16.2.1) Ar16.2.2 hin16 hat16 (g := (mkF m 24 #[.val (.ref o0), .val (.int (4 : Int32)), .val (.int (wb4_m1 x0 x4))] [(.int (1 : Int32)), (.ref o0)])) rfl rfl (hb hby db4_24) _ k)
  have K17 : ∀ t, Steps p.tables e below (T8.setTop (mkF m 27 #[.val (.ref o0), .val (.int (4 : Int32)), .val (.int (wb4_m1 x0 x4))] [(.int (4 : Int32)), (.ref o0), (.int x1)])) t → Steps p.tables e below S0 t := fun t k => K16 t (by
    refine XS.aloadN X8.here hx rfl (hb hby db4_25) rfl rfl ?_
    show Steps p.tables e below (T8.setTop (mkF m 26 #[.val (.ref o0), .val (.int (4 : Int32)), .val (.int (wb4_m1 x0 x4))] [(.ref o0), (.int x1)])) _
    refine XS.iloadN X8.here hx rfl (hb hby db4_26) rfl ?_
    show Steps p.tables e below (T8.setTop (mkF m 27 #[.val (.ref o0), .val (.int (4 : Int32)), .val (.int (wb4_m1 x0 x4))] [(.int (4 : Int32)), (.ref o0), (.int x1)])) _
    exact k)
  have K_18 : ∀ t, Steps p.tables e below (T8.setTop (mkF m 27 #[.val (.ref o0), .val (.int (4 : Int32)), .val (.int (wb4_m1 x0 x4))] [(.int (4 : Int32)), (.ref o0), (.int x1)])) t → Steps p.tables e below S0 t := K17
  obtain ⟨cl19, Ar19, qa19, sa19, na19, ha19, ga19⟩ := id V_o0
  have hin19 : ¬ ((4 : Int32) < 0 ∨ cl19.slots.size ≤ ((4 : Int32)).toNatClampNeg) := inb_of sa19 ⟨by decide, by decide⟩
  have hat19 : cl19.slots[((4 : Int32)).toNatClampNeg]? = some (.int x4) := Has.at ha19 hin19 rfl
  have K19 : ∀ t, Steps p.tables e below (T8.setTop (mkF m 28 #[.val (.ref o0), .val (.int (4 : Int32)), .val (.int (wb4_m1 x0 x4))] [(.int x4), (.int x1)])) t → Steps p.tables e below S0 t := fun t k => K_18 t (X8.iaload hx (j := (4 : Int32)) (v := (.int x4)) (by rw [e8]; exact Ar19.1) (State.isArrayOf_alike hZ.alike Ar19.2.1) Ar19.2.2 hin19 hat19 (g := (mkF m 27 #[.val (.ref o0), .val (.int (4 : Int32)), .val (.int (wb4_m1 x0 x4))] [(.int (4 : Int32)), (.ref o0), (.int x1)])) rfl rfl (hb hby db4_27) _ k)
  obtain ⟨T20, lo20, X20, N20, e20, K20⟩ : ∃ (T' : State) (locs' : List Loc), Stand p l e ({ frames := 0, cells := 0, slots := 0, locals := 0 } : Room) s m #[(.ref o0), (.int (4 : Int32))] below meth c T' locs' 0 0 ∧ Fr n0 locs' ∧ T'.heap = h0 ∧ ∀ t, Steps p.tables e below (T'.setTop (mkF m 33 #[.val (.ref o0), .val (.int (4 : Int32)), .val (.int (wb4_m2 x0 x1 x4))] [])) t → Steps p.tables e below S0 t := by
    by_cases hc28_0 : x1 = x4
    · -- yes
      have K21 : ∀ t, Steps p.tables e below (T8.setTop (mkF m 33 #[.val (.ref o0), .val (.int (4 : Int32)), .val (.int (1 : Int32))] [])) t → Steps p.tables e below S0 t := fun t k => K19 t (by
        refine XS.icmpNo X8.here hx rfl (hb hby db4_28) rfl (XT.ii_ne_f hc28_0) ?_
        show Steps p.tables e below (T8.setTop (mkF m 31 #[.val (.ref o0), .val (.int (4 : Int32)), .val (.int (wb4_m1 x0 x4))] [])) _
        refine XS.iconst X8.here hx rfl (hb hby db4_31) ?_
        show Steps p.tables e below (T8.setTop (mkF m 32 #[.val (.ref o0), .val (.int (4 : Int32)), .val (.int (wb4_m1 x0 x4))] [(.int (1 : Int32))])) _
        refine XS.istoreN X8.here hx rfl (hb hby db4_32) rfl (l' := #[.val (.ref o0), .val (.int (4 : Int32)), .val (.int (1 : Int32))]) rfl ?_
        show Steps p.tables e below (T8.setTop (mkF m 33 #[.val (.ref o0), .val (.int (4 : Int32)), .val (.int (1 : Int32))] [])) _
        exact k)
      have q22 : (wb4_m2 x0 x1 x4) = (1 : Int32) := by unfold wb4_m2; rw [if_pos hc28_0]
      exact ⟨T8, _, X8, N8, e8, fun t k => K21 t (by rw [q22] at k; exact k)⟩
    · -- no
      have K23 : ∀ t, Steps p.tables e below (T8.setTop (mkF m 33 #[.val (.ref o0), .val (.int (4 : Int32)), .val (.int (wb4_m1 x0 x4))] [])) t → Steps p.tables e below S0 t := fun t k => K19 t (by
        refine XS.icmpYes X8.here hx rfl (pc0 := 28) (pc' := 33) rfl (hb hby db4_28) rfl (XT.ii_ne_t hc28_0) (by decide) (by decide) ?_
        show Steps p.tables e below (T8.setTop (mkF m 33 #[.val (.ref o0), .val (.int (4 : Int32)), .val (.int (wb4_m1 x0 x4))] [])) _
        exact k)
      have q24 : (wb4_m2 x0 x1 x4) = (wb4_m1 x0 x4) := by unfold wb4_m2; rw [if_neg hc28_0]
      exact ⟨T8, _, X8, N8, e8, fun t k => K23 t (by rw [q24] at k; exact k)⟩
  have K25 : ∀ t, Steps p.tables e below (T20.setTop (mkF m 35 #[.val (.ref o0), .val (.int (4 : Int32)), .val (.int (wb4_m2 x0 x1 x4))] [(.int (2 : Int32)), (.int (4 : Int32))])) t → Steps p.tables e below S0 t := fun t k => K20 t (by
    refine XS.iloadN X20.here hx rfl (hb hby db4_33) rfl ?_
    show Steps p.tables e below (T20.setTop (mkF m 34 #[.val (.ref o0), .val (.int (4 : Int32)), .val (.int (wb4_m2 x0 x1 x4))] [(.int (4 : Int32))])) _
    refine XS.iconst X20.here hx rfl (hb hby db4_34) ?_
    show Steps p.tables e below (T20.setTop (mkF m 35 #[.val (.ref o0), .val (.int (4 : Int32)), .val (.int (wb4_m2 x0 x1 x4))] [(.int (2 : Int32)), (.int (4 : Int32))])) _
    exact k)
  have K26 : ∀ t, Steps p.tables e below (T20.setTop (mkF m 40 #[.val (.ref o0), .val (.int (4 : Int32)), .val (.int (wb4_m2 x0 x1 x4))] [(.int (2 : Int32)), (.ref o0)])) t → Steps p.tables e below S0 t := fun t k => K25 t (by
    refine XS.icmpNo X20.here hx rfl (hb hby db4_35) rfl (XT.ii_le_f (by decide)) ?_
    show Steps p.tables e below (T20.setTop (mkF m 38 #[.val (.ref o0), .val (.int (4 : Int32)), .val (.int (wb4_m2 x0 x1 x4))] [])) _
    refine XS.aloadN X20.here hx rfl (hb hby db4_38) rfl rfl ?_
    show Steps p.tables e below (T20.setTop (mkF m 39 #[.val (.ref o0), .val (.int (4 : Int32)), .val (.int (wb4_m2 x0 x1 x4))] [(.ref o0)])) _
    refine XS.iconst X20.here hx rfl (hb hby db4_39) ?_
    show Steps p.tables e below (T20.setTop (mkF m 40 #[.val (.ref o0), .val (.int (4 : Int32)), .val (.int (wb4_m2 x0 x1 x4))] [(.int (2 : Int32)), (.ref o0)])) _
    exact k)
  have K_27 : ∀ t, Steps p.tables e below (T20.setTop (mkF m 40 #[.val (.ref o0), .val (.int (4 : Int32)), .val (.int (wb4_m2 x0 x1 x4))] [(.int (2 : Int32)), (.ref o0)])) t → Steps p.tables e below S0 t := K26
  obtain ⟨cl28, Ar28, qa28, sa28, na28, ha28, ga28⟩ := id V_o0
  have hin28 : ¬ ((2 : Int32) < 0 ∨ cl28.slots.size ≤ ((2 : Int32)).toNatClampNeg) := inb_of sa28 ⟨by decide, by decide⟩
  have hat28 : cl28.slots[((2 : Int32)).toNatClampNeg]? = some (.int x2) := Has.at ha28 hin28 rfl
  have K28 : ∀ t, Steps p.tables e below (T20.setTop (mkF m 41 #[.val (.ref o0), .val (.int (4 : Int32)), .val (.int (wb4_m2 x0 x1 x4))] [(.int x2)])) t → Steps p.tables e below S0 t := fun t k => K_27 t (X20.iaload hx (j := (2 : Int32)) (v := (.int x2)) (by rw [e20]; exact Ar28.1) (State.isArrayOf_alike hZ.alike Ar28.2.1) Ar28.2.2 hin28 hat28 (g := (mkF m 40 #[.val (.ref o0), .val (.int (4 : Int32)), .val (.int (wb4_m2 x0 x1 x4))] [(.int (2 : Int32)), (.ref o0)])) rfl rfl (hb hby db4_40) _ k)
  have K29 : ∀ t, Steps p.tables e below (T20.setTop (mkF m 43 #[.val (.ref o0), .val (.int (4 : Int32)), .val (.int (wb4_m2 x0 x1 x4))] [(.int (4 : Int32)), (.ref o0), (.int x2)])) t → Steps p.tables e below S0 t := fun t k => K28 t (by
    refine XS.aloadN X20.here hx rfl (hb hby db4_41) rfl rfl ?_
    show Steps p.tables e below (T20.setTop (mkF m 42 #[.val (.ref o0), .val (.int (4 : Int32)), .val (.int (wb4_m2 x0 x1 x4))] [(.ref o0), (.int x2)])) _
    refine XS.iloadN X20.here hx rfl (hb hby db4_42) rfl ?_
    show Steps p.tables e below (T20.setTop (mkF m 43 #[.val (.ref o0), .val (.int (4 : Int32)), .val (.int (wb4_m2 x0 x1 x4))] [(.int (4 : Int32)), (.ref o0), (.int x2)])) _
    exact k)
  have K_30 : ∀ t, Steps p.tables e below (T20.setTop (mkF m 43 #[.val (.ref o0), .val (.int (4 : Int32)), .val (.int (wb4_m2 x0 x1 x4))] [(.int (4 : Int32)), (.ref o0), (.int x2)])) t → Steps p.tables e below S0 t := K29
  obtain ⟨cl31, Ar31, qa31, sa31, na31, ha31, ga31⟩ := id V_o0
  have hin31 : ¬ ((4 : Int32) < 0 ∨ cl31.slots.size ≤ ((4 : Int32)).toNatClampNeg) := inb_of sa31 ⟨by decide, by decide⟩
  have hat31 : cl31.slots[((4 : Int32)).toNatClampNeg]? = some (.int x4) := Has.at ha31 hin31 rfl
  have K31 : ∀ t, Steps p.tables e below (T20.setTop (mkF m 44 #[.val (.ref o0), .val (.int (4 : Int32)), .val (.int (wb4_m2 x0 x1 x4))] [(.int x4), (.int x2)])) t → Steps p.tables e below S0 t := fun t k => K_30 t (X20.iaload hx (j := (4 : Int32)) (v := (.int x4)) (by rw [e20]; exact Ar31.1) (State.isArrayOf_alike hZ.alike Ar31.2.1) Ar31.2.2 hin31 hat31 (g := (mkF m 43 #[.val (.ref o0), .val (.int (4 : Int32)), .val (.int (wb4_m2 x0 x1 x4))] [(.int (4 : Int32)), (.ref o0), (.int x2)])) rfl rfl (hb hby db4_43) _ k)
  obtain ⟨T32, lo32, X32, N32, e32, K32⟩ : ∃ (T' : State) (locs' : List Loc), Stand p l e ({ frames := 0, cells := 0, slots := 0, locals := 0 } : Room) s m #[(.ref o0), (.int (4 : Int32))] below meth c T' locs' 0 0 ∧ Fr n0 locs' ∧ T'.heap = h0 ∧ ∀ t, Steps p.tables e below (T'.setTop (mkF m 49 #[.val (.ref o0), .val (.int (4 : Int32)), .val (.int (wb4_m3 x0 x1 x2 x4))] [])) t → Steps p.tables e below S0 t := by
    by_cases hc44_0 : x2 = x4
    · -- yes
      have K33 : ∀ t, Steps p.tables e below (T20.setTop (mkF m 49 #[.val (.ref o0), .val (.int (4 : Int32)), .val (.int (2 : Int32))] [])) t → Steps p.tables e below S0 t := fun t k => K31 t (by
        refine XS.icmpNo X20.here hx rfl (hb hby db4_44) rfl (XT.ii_ne_f hc44_0) ?_
        show Steps p.tables e below (T20.setTop (mkF m 47 #[.val (.ref o0), .val (.int (4 : Int32)), .val (.int (wb4_m2 x0 x1 x4))] [])) _
        refine XS.iconst X20.here hx rfl (hb hby db4_47) ?_
        show Steps p.tables e below (T20.setTop (mkF m 48 #[.val (.ref o0), .val (.int (4 : Int32)), .val (.int (wb4_m2 x0 x1 x4))] [(.int (2 : Int32))])) _
        refine XS.istoreN X20.here hx rfl (hb hby db4_48) rfl (l' := #[.val (.ref o0), .val (.int (4 : Int32)), .val (.int (2 : Int32))]) rfl ?_
        show Steps p.tables e below (T20.setTop (mkF m 49 #[.val (.ref o0), .val (.int (4 : Int32)), .val (.int (2 : Int32))] [])) _
        exact k)
      have q34 : (wb4_m3 x0 x1 x2 x4) = (2 : Int32) := by unfold wb4_m3; rw [if_pos hc44_0]
      exact ⟨T20, _, X20, N20, e20, fun t k => K33 t (by rw [q34] at k; exact k)⟩
    · -- no
      have K35 : ∀ t, Steps p.tables e below (T20.setTop (mkF m 49 #[.val (.ref o0), .val (.int (4 : Int32)), .val (.int (wb4_m2 x0 x1 x4))] [])) t → Steps p.tables e below S0 t := fun t k => K31 t (by
        refine XS.icmpYes X20.here hx rfl (pc0 := 44) (pc' := 49) rfl (hb hby db4_44) rfl (XT.ii_ne_t hc44_0) (by decide) (by decide) ?_
        show Steps p.tables e below (T20.setTop (mkF m 49 #[.val (.ref o0), .val (.int (4 : Int32)), .val (.int (wb4_m2 x0 x1 x4))] [])) _
        exact k)
      have q36 : (wb4_m3 x0 x1 x2 x4) = (wb4_m2 x0 x1 x4) := by unfold wb4_m3; rw [if_neg hc44_0]
      exact ⟨T20, _, X20, N20, e20, fun t k => K35 t (by rw [q36] at k; exact k)⟩
  have K37 : ∀ t, Steps p.tables e below (T32.setTop (mkF m 51 #[.val (.ref o0), .val (.int (4 : Int32)), .val (.int (wb4_m3 x0 x1 x2 x4))] [(.int (3 : Int32)), (.int (4 : Int32))])) t → Steps p.tables e below S0 t := fun t k => K32 t (by
    refine XS.iloadN X32.here hx rfl (hb hby db4_49) rfl ?_
    show Steps p.tables e below (T32.setTop (mkF m 50 #[.val (.ref o0), .val (.int (4 : Int32)), .val (.int (wb4_m3 x0 x1 x2 x4))] [(.int (4 : Int32))])) _
    refine XS.iconst X32.here hx rfl (hb hby db4_50) ?_
    show Steps p.tables e below (T32.setTop (mkF m 51 #[.val (.ref o0), .val (.int (4 : Int32)), .val (.int (wb4_m3 x0 x1 x2 x4))] [(.int (3 : Int32)), (.int (4 : Int32))])) _
    exact k)
  have K38 : ∀ t, Steps p.tables e below (T32.setTop (mkF m 56 #[.val (.ref o0), .val (.int (4 : Int32)), .val (.int (wb4_m3 x0 x1 x2 x4))] [(.int (3 : Int32)), (.ref o0)])) t → Steps p.tables e below S0 t := fun t k => K37 t (by
    refine XS.icmpNo X32.here hx rfl (hb hby db4_51) rfl (XT.ii_le_f (by decide)) ?_
    show Steps p.tables e below (T32.setTop (mkF m 54 #[.val (.ref o0), .val (.int (4 : Int32)), .val (.int (wb4_m3 x0 x1 x2 x4))] [])) _
    refine XS.aloadN X32.here hx rfl (hb hby db4_54) rfl rfl ?_
    show Steps p.tables e below (T32.setTop (mkF m 55 #[.val (.ref o0), .val (.int (4 : Int32)), .val (.int (wb4_m3 x0 x1 x2 x4))] [(.ref o0)])) _
    refine XS.iconst X32.here hx rfl (hb hby db4_55) ?_
    show Steps p.tables e below (T32.setTop (mkF m 56 #[.val (.ref o0), .val (.int (4 : Int32)), .val (.int (wb4_m3 x0 x1 x2 x4))] [(.int (3 : Int32)), (.ref o0)])) _
    exact k)
  have K_39 : ∀ t, Steps p.tables e below (T32.setTop (mkF m 56 #[.val (.ref o0), .val (.int (4 : Int32)), .val (.int (wb4_m3 x0 x1 x2 x4))] [(.int (3 : Int32)), (.ref o0)])) t → Steps p.tables e below S0 t := K38
  obtain ⟨cl40, Ar40, qa40, sa40, na40, ha40, ga40⟩ := id V_o0
  have hin40 : ¬ ((3 : Int32) < 0 ∨ cl40.slots.size ≤ ((3 : Int32)).toNatClampNeg) := inb_of sa40 ⟨by decide, by decide⟩
  have hat40 : cl40.slots[((3 : Int32)).toNatClampNeg]? = some (.int x3) := Has.at ha40 hin40 rfl
  have K40 : ∀ t, Steps p.tables e below (T32.setTop (mkF m 57 #[.val (.ref o0), .val (.int (4 : Int32)), .val (.int (wb4_m3 x0 x1 x2 x4))] [(.int x3)])) t → Steps p.tables e below S0 t := fun t k => K_39 t (X32.iaload hx (j := (3 : Int32)) (v := (.int x3)) (by rw [e32]; exact Ar40.1) (State.isArrayOf_alike hZ.alike Ar40.2.1) Ar40.2.2 hin40 hat40 (g := (mkF m 56 #[.val (.ref o0), .val (.int (4 : Int32)), .val (.int (wb4_m3 x0 x1 x2 x4))] [(.int (3 : Int32)), (.ref o0)])) rfl rfl (hb hby db4_56) _ k)
  have K41 : ∀ t, Steps p.tables e below (T32.setTop (mkF m 59 #[.val (.ref o0), .val (.int (4 : Int32)), .val (.int (wb4_m3 x0 x1 x2 x4))] [(.int (4 : Int32)), (.ref o0), (.int x3)])) t → Steps p.tables e below S0 t := fun t k => K40 t (by
    refine XS.aloadN X32.here hx rfl (hb hby db4_57) rfl rfl ?_
    show Steps p.tables e below (T32.setTop (mkF m 58 #[.val (.ref o0), .val (.int (4 : Int32)), .val (.int (wb4_m3 x0 x1 x2 x4))] [(.ref o0), (.int x3)])) _
    refine XS.iloadN X32.here hx rfl (hb hby db4_58) rfl ?_
    show Steps p.tables e below (T32.setTop (mkF m 59 #[.val (.ref o0), .val (.int (4 : Int32)), .val (.int (wb4_m3 x0 x1 x2 x4))] [(.int (4 : Int32)), (.ref o0), (.int x3)])) _
    exact k)
  have K_42 : ∀ t, Steps p.tables e below (T32.setTop (mkF m 59 #[.val (.ref o0), .val (.int (4 : Int32)), .val (.int (wb4_m3 x0 x1 x2 x4))] [(.int (4 : Int32)), (.ref o0), (.int x3)])) t → Steps p.tables e below S0 t := K41
  obtain ⟨cl43, Ar43, qa43, sa43, na43, ha43, ga43⟩ := id V_o0
  have hin43 : ¬ ((4 : Int32) < 0 ∨ cl43.slots.size ≤ ((4 : Int32)).toNatClampNeg) := inb_of sa43 ⟨by decide, by decide⟩
  have hat43 : cl43.slots[((4 : Int32)).toNatClampNeg]? = some (.int x4) := Has.at ha43 hin43 rfl
  have K43 : ∀ t, Steps p.tables e below (T32.setTop (mkF m 60 #[.val (.ref o0), .val (.int (4 : Int32)), .val (.int (wb4_m3 x0 x1 x2 x4))] [(.int x4), (.int x3)])) t → Steps p.tables e below S0 t := fun t k => K_42 t (X32.iaload hx (j := (4 : Int32)) (v := (.int x4)) (by rw [e32]; exact Ar43.1) (State.isArrayOf_alike hZ.alike Ar43.2.1) Ar43.2.2 hin43 hat43 (g := (mkF m 59 #[.val (.ref o0), .val (.int (4 : Int32)), .val (.int (wb4_m3 x0 x1 x2 x4))] [(.int (4 : Int32)), (.ref o0), (.int x3)])) rfl rfl (hb hby db4_59) _ k)
  obtain ⟨T44, lo44, X44, N44, e44, K44⟩ : ∃ (T' : State) (locs' : List Loc), Stand p l e ({ frames := 0, cells := 0, slots := 0, locals := 0 } : Room) s m #[(.ref o0), (.int (4 : Int32))] below meth c T' locs' 0 0 ∧ Fr n0 locs' ∧ T'.heap = h0 ∧ ∀ t, Steps p.tables e below (T'.setTop (mkF m 65 #[.val (.ref o0), .val (.int (4 : Int32)), .val (.int (wb4_m4 x0 x1 x2 x3 x4))] [])) t → Steps p.tables e below S0 t := by
    by_cases hc60_0 : x3 = x4
    · -- yes
      have K45 : ∀ t, Steps p.tables e below (T32.setTop (mkF m 65 #[.val (.ref o0), .val (.int (4 : Int32)), .val (.int (3 : Int32))] [])) t → Steps p.tables e below S0 t := fun t k => K43 t (by
        refine XS.icmpNo X32.here hx rfl (hb hby db4_60) rfl (XT.ii_ne_f hc60_0) ?_
        show Steps p.tables e below (T32.setTop (mkF m 63 #[.val (.ref o0), .val (.int (4 : Int32)), .val (.int (wb4_m3 x0 x1 x2 x4))] [])) _
        refine XS.iconst X32.here hx rfl (hb hby db4_63) ?_
        show Steps p.tables e below (T32.setTop (mkF m 64 #[.val (.ref o0), .val (.int (4 : Int32)), .val (.int (wb4_m3 x0 x1 x2 x4))] [(.int (3 : Int32))])) _
        refine XS.istoreN X32.here hx rfl (hb hby db4_64) rfl (l' := #[.val (.ref o0), .val (.int (4 : Int32)), .val (.int (3 : Int32))]) rfl ?_
        show Steps p.tables e below (T32.setTop (mkF m 65 #[.val (.ref o0), .val (.int (4 : Int32)), .val (.int (3 : Int32))] [])) _
        exact k)
      have q46 : (wb4_m4 x0 x1 x2 x3 x4) = (3 : Int32) := by unfold wb4_m4; rw [if_pos hc60_0]
      exact ⟨T32, _, X32, N32, e32, fun t k => K45 t (by rw [q46] at k; exact k)⟩
    · -- no
      have K47 : ∀ t, Steps p.tables e below (T32.setTop (mkF m 65 #[.val (.ref o0), .val (.int (4 : Int32)), .val (.int (wb4_m3 x0 x1 x2 x4))] [])) t → Steps p.tables e below S0 t := fun t k => K43 t (by
        refine XS.icmpYes X32.here hx rfl (pc0 := 60) (pc' := 65) rfl (hb hby db4_60) rfl (XT.ii_ne_t hc60_0) (by decide) (by decide) ?_
        show Steps p.tables e below (T32.setTop (mkF m 65 #[.val (.ref o0), .val (.int (4 : Int32)), .val (.int (wb4_m3 x0 x1 x2 x4))] [])) _
        exact k)
      have q48 : (wb4_m4 x0 x1 x2 x3 x4) = (wb4_m3 x0 x1 x2 x4) := by unfold wb4_m4; rw [if_neg hc60_0]
      exact ⟨T32, _, X32, N32, e32, fun t k => K47 t (by rw [q48] at k; exact k)⟩
  have K49 : ∀ t, Steps p.tables e below (T44.setTop (mkF m 66 #[.val (.ref o0), .val (.int (4 : Int32)), .val (.int (wb4_m4 x0 x1 x2 x3 x4))] [(.int (wb4_m4 x0 x1 x2 x3 x4))])) t → Steps p.tables e below S0 t := fun t k => K44 t (by
    refine XS.iloadN X44.here hx rfl (hb hby db4_65) rfl ?_
    show Steps p.tables e below (T44.setTop (mkF m 66 #[.val (.ref o0), .val (.int (4 : Int32)), .val (.int (wb4_m4 x0 x1 x2 x3 x4))] [(.int (wb4_m4 x0 x1 x2 x3 x4))])) _
    exact k)
  obtain ⟨fs, hr, hrun, hended, hW, hsame⟩ := X44.leave (v := some (.int (wb4_m4 x0 x1 x2 x3 x4))) (fun h => by rw [Bd.returns] at h; cases h) hlk
  refine ⟨_, _, ?_, hrun, hended, _, _, rfl, ?_, ⟨_, rfl⟩, hW, hsame.mono (by decide) (by decide)⟩
  · rw [← hS0]; exact K49 _ (retI X44 hx Bd.returns (hb hby db4_66) hr)
  · show Qb4 Z o0 ka x0 x1 x2 x3 x4 h0 n0 _ T44.heap _
    rw [e44]
    exact ⟨rfl, N44, rfl⟩
theorem de4_0 : decode method_4_code 0 = .ok (.aload_n 0, 1) := by decide +kernel
theorem de4_1 : decode method_4_code 1 = .ok (.iload_n 1, 1) := by decide +kernel
theorem de4_2 : decode method_4_code 2 = .ok (.invokestatic 29, 3) := by decide +kernel
theorem de4_5 : decode method_4_code 5 = .ok (.istore_n 2, 1) := by decide +kernel
theorem de4_6 : decode method_4_code 6 = .ok (.iload_n 2, 1) := by decide +kernel
theorem de4_7 : decode method_4_code 7 = .ok (.ifCond .ge 6, 3) := by decide +kernel
theorem de4_10 : decode method_4_code 10 = .ok (.iload_n 1, 1) := by decide +kernel
theorem de4_11 : decode method_4_code 11 = .ok (.i2l, 1) := by decide +kernel
theorem de4_12 : decode method_4_code 12 = .ok (.lreturn, 1) := by decide +kernel
theorem de4_13 : decode method_4_code 13 = .ok (.ldc2_w 33, 3) := by decide +kernel
theorem de4_16 : decode method_4_code 16 = .ok (.iload_n 2, 1) := by decide +kernel
theorem de4_17 : decode method_4_code 17 = .ok (.i2l, 1) := by decide +kernel
theorem de4_18 : decode method_4_code 18 = .ok (.ladd, 1) := by decide +kernel
theorem de4_19 : decode method_4_code 19 = .ok (.lreturn, 1) := by decide +kernel
theorem pne4 : plainName "com/example/nearmark/nearmark/paging/LeastRecentlyUsed2RankPinLaw" = true := by first | (simp [plainName, overriddenIn]; done) | decide +kernel
theorem pde4_0 : parseMethodDescriptor "([II)I" = some ⟨[(.array .int), .int], some .int⟩ := by decide +kernel
theorem efe4 (m : MethodId) (o0 : Addr) : entryFrame m #[(.ref o0), (.int (4 : Int32))] 3 = mkF m 0 #[.val (.ref o0), .val (.int (4 : Int32)), .unset] [] := by first | (simp [entryFrame, mkF, argsToLocals, Value.category]; done) | rfl
def Qe4 (Z : State) (o0 : Addr) (ka : ClassId) (x0 : Int32) (x1 : Int32) (x2 : Int32) (x3 : Int32) (x4 : Int32) (h0 : Heap) (n0 : Nat) (v : Option Value) (h : Heap) (L : List Loc) : Prop := v = some (.long (we4_r1 x0 x1 x2 x3 x4)) ∧ Fr n0 L ∧ h = h0
set_option maxRecDepth 65536 in
set_option maxHeartbeats 40000000 in
theorem rme4 (l : Launch) (Z : State) (a0 : Array Value) (hw : ∀ d ∈ tables_1, d.before a0 Z = true) (ws : List Jvm.Cond) (o0 : Addr) (ka : ClassId) (x0 : Int32) (x1 : Int32) (x2 : Int32) (x3 : Int32) (x4 : Int32) (h0 : Heap) (n0 : Nat) (Z0 : n0 ≤ h0.size) (V_o0 : Arv Z h0 o0 ka .int (5 : Int32) [(.int x0), (.int x1), (.int x2), (.int x3), (.int x4)] (.int (0 : Int32))) :
    MetFree l (⟨"com/example/nearmark/nearmark/paging/LeastRecentlyUsed2RankPinLaw", "expected", "([II)J"⟩ : MethodName) (head1 (Jvm.Cond.code (⟨"com/example/nearmark/nearmark/paging/LeastRecentlyUsed2RankPinLaw", "expected", "([II)J"⟩ : MethodName) method_4_code 3 (some .long) :: ws) ({ frames := 1, cells := 0, slots := 0, locals := 14 } : Room)) (fun a U => a = #[(.ref o0), (.int (4 : Int32))] ∧ Z.Warmed39 U.vm ∧ U.heap = h0) (fun _ _ _ _ _ => True) (fun _ U o U' => ∃ v L, o = .returned v ∧ Qe4 Z o0 ka x0 x1 x2 x3 x4 h0 n0 v U'.heap L ∧ FrameEnd U o U' L ({ frames := 1, cells := 0, slots := 0, locals := 14 } : Room).cells ({ frames := 1, cells := 0, slots := 0, locals := 14 } : Room).slots) := by
  refine MetFree.of_bodySF (plainFor_of_name pne4) hisR ?_
  intro p e s m args below meth c s₁ Bd hml0 hP hK
  obtain ⟨rfl, hZ, hh⟩ := hP
  have hlk : meth.locks = false := BodyLoose.notSynchronized Bd
  have hx := Bd.exec
  have hby := Bd.bytes
  have hml : c.maxLocals = 3 := hml0
  have hown : s.vm.findClass "com/example/nearmark/nearmark/paging/LeastRecentlyUsed2RankPinLaw" = some m.cls := findClass_of_methodNamed Bd.named
  have hnm := (name_of_methodNamed Bd.named Bd.method).1
  have X0 : Stand p l e ({ frames := 1, cells := 0, slots := 0, locals := 14 } : Room) s m #[(.ref o0), (.int (4 : Int32))] below meth c s₁ [] 0 0 := Stand.of_body Bd
  have e0 : s₁.heap = h0 := by rw [← hh, Bd.state]; rfl
  have N0 := Fr.nil n0
  obtain ⟨S0, hS0⟩ : ∃ S0, S0 = s₁.setTop (entryFrame m #[(.ref o0), (.int (4 : Int32))] 3) := ⟨_, rfl⟩
  have pre0 : ∀ t, Steps p.tables e below (s₁.setTop (mkF m 0 #[.val (.ref o0), .val (.int (4 : Int32)), .unset] [])) t → Steps p.tables e below S0 t := fun t k => by rw [hS0]; exact castTop (efe4 m o0) k
  have K1 : ∀ t, Steps p.tables e below (s₁.setTop (mkF m 2 #[.val (.ref o0), .val (.int (4 : Int32)), .unset] [(.int (4 : Int32)), (.ref o0)])) t → Steps p.tables e below S0 t := fun t k => pre0 t (by
    refine XS.aloadN X0.here hx rfl (hb hby de4_0) rfl rfl ?_
    show Steps p.tables e below (s₁.setTop (mkF m 1 #[.val (.ref o0), .val (.int (4 : Int32)), .unset] [(.ref o0)])) _
    refine XS.iloadN X0.here hx rfl (hb hby de4_1) rfl ?_
    show Steps p.tables e below (s₁.setTop (mkF m 2 #[.val (.ref o0), .val (.int (4 : Int32)), .unset] [(.int (4 : Int32)), (.ref o0)])) _
    exact k)
  have K_2 : ∀ t, Steps p.tables e below (s₁.setTop (mkF m 2 #[.val (.ref o0), .val (.int (4 : Int32)), .unset] [(.int (4 : Int32)), (.ref o0)])) t → Steps p.tables e below S0 t := K1
  obtain ⟨_, _, ⟨T3, L3, k3, n3⟩, -, X3, ⟨Lc3, hQ3, l3, y3, z3⟩, st3⟩ := Jvm.LawKit.callS X0 hx (y := (⟨"com/example/nearmark/nearmark/paging/LeastRecentlyUsed2RankPinLaw", "lastBefore", "([II)I"⟩ : MethodName)) hown (mvT hZ (hw _ (List.mem_of_getElem? (i := 5) rfl))) (mvT hZ (hw _ (List.mem_of_getElem? (i := 6) rfl))) (mvT hZ (hw _ (List.mem_of_getElem? (i := 3) rfl))) (mvT hZ (hw _ (List.mem_of_getElem? (i := 7) rfl))) (by decide) (backOf (W := 0) (rmb4 l Z a0 hw [] o0 ka x0 x1 x2 x3 x4 h0 n0 Z0 V_o0) hZ (hw _ (List.mem_of_getElem? (i := 7) rfl)) (hw _ (List.mem_of_getElem? (i := 3) rfl)) (by decide) (by decide)) (g := (mkF m 2 #[.val (.ref o0), .val (.int (4 : Int32)), .unset] [(.int (4 : Int32)), (.ref o0)])) rfl (by rw [hml]; rfl) (argsL := [(.ref o0), (.int (4 : Int32))]) (rest := []) (lenOf pde4_0 rfl) rfl (by show 2 * 0 + _ ≤ _; exact Nat.le_of_eq rfl) (hb hby de4_2) (fun _ _ => ⟨rfl, e0, (by decide : 0 + 0 ≤ 0), (by decide : 0 + 0 ≤ 0)⟩)
  dsimp only [Pt.U, Pt.locs, Pt.cells, Pt.slots] at X3 l3 y3 z3 st3 hQ3
  subst l3 y3 z3
  obtain ⟨rfl, N3q, e3⟩ := hQ3
  have N3 := Fr.app N0 N3q
  have K3 : ∀ t, Steps p.tables e below (T3.setTop (mkF m 5 #[.val (.ref o0), .val (.int (4 : Int32)), .unset] [(.int (wb4_m4 x0 x1 x2 x3 x4))])) t → Steps p.tables e below S0 t := fun t k => K_2 t (st3 t k)
  have K4 : ∀ t, Steps p.tables e below (T3.setTop (mkF m 7 #[.val (.ref o0), .val (.int (4 : Int32)), .val (.int (wb4_m4 x0 x1 x2 x3 x4))] [(.int (wb4_m4 x0 x1 x2 x3 x4))])) t → Steps p.tables e below S0 t := fun t k => K3 t (by
    refine XS.istoreN X3.here hx rfl (hb hby de4_5) rfl (l' := #[.val (.ref o0), .val (.int (4 : Int32)), .val (.int (wb4_m4 x0 x1 x2 x3 x4))]) rfl ?_
    show Steps p.tables e below (T3.setTop (mkF m 6 #[.val (.ref o0), .val (.int (4 : Int32)), .val (.int (wb4_m4 x0 x1 x2 x3 x4))] [])) _
    refine XS.iloadN X3.here hx rfl (hb hby de4_6) rfl ?_
    show Steps p.tables e below (T3.setTop (mkF m 7 #[.val (.ref o0), .val (.int (4 : Int32)), .val (.int (wb4_m4 x0 x1 x2 x3 x4))] [(.int (wb4_m4 x0 x1 x2 x3 x4))])) _
    exact k)
  by_cases hc7_0 : (wb4_m4 x0 x1 x2 x3 x4) < (0 : Int32)
  · -- yes
    have K5 : ∀ t, Steps p.tables e below (T3.setTop (mkF m 12 #[.val (.ref o0), .val (.int (4 : Int32)), .val (.int (wb4_m4 x0 x1 x2 x3 x4))] [(.long (4 : Int64))])) t → Steps p.tables e below S0 t := fun t k => K4 t (by
      refine XS.ifNo X3.here hx rfl (hb hby de4_7) rfl (XT.i0_ge_f hc7_0) ?_
      show Steps p.tables e below (T3.setTop (mkF m 10 #[.val (.ref o0), .val (.int (4 : Int32)), .val (.int (wb4_m4 x0 x1 x2 x3 x4))] [])) _
      refine XS.iloadN X3.here hx rfl (hb hby de4_10) rfl ?_
      show Steps p.tables e below (T3.setTop (mkF m 11 #[.val (.ref o0), .val (.int (4 : Int32)), .val (.int (wb4_m4 x0 x1 x2 x3 x4))] [(.int (4 : Int32))])) _
      refine XS.i2l X3.here hx rfl (hb hby de4_11) rfl ?_
      show Steps p.tables e below (T3.setTop (mkF m 12 #[.val (.ref o0), .val (.int (4 : Int32)), .val (.int (wb4_m4 x0 x1 x2 x3 x4))] [(.long (4 : Int64))])) _
      exact k)
    obtain ⟨fs, hr, hrun, hended, hW, hsame⟩ := X3.leave (v := some (.long (4 : Int64))) (fun h => by rw [Bd.returns] at h; cases h) hlk
    refine ⟨_, _, ?_, hrun, hended, _, _, rfl, ?_, ⟨_, rfl⟩, hW, hsame.mono (by decide) (by decide)⟩
    · rw [← hS0]; exact K5 _ (retOut X3 hx Bd.returns rfl (Or.inr (Or.inl ⟨rfl, rfl, _, rfl⟩)) (hb hby de4_12) hr)
    · show Qe4 Z o0 ka x0 x1 x2 x3 x4 h0 n0 _ T3.heap _
      rw [e3]
      have qr : (4 : Int64) = (we4_r1 x0 x1 x2 x3 x4) := by unfold we4_r1; rw [if_pos hc7_0]
      exact ⟨congrArg (fun z => some (Value.long z)) qr, N3, rfl⟩
  · -- no
    have K6 : ∀ t, Steps p.tables e below (T3.setTop (mkF m 19 #[.val (.ref o0), .val (.int (4 : Int32)), .val (.int (wb4_m4 x0 x1 x2 x3 x4))] [(.long ((5 : Int64) + ((wb4_m4 x0 x1 x2 x3 x4).toInt64)))])) t → Steps p.tables e below S0 t := fun t k => K4 t (by
      refine XS.ifYes X3.here hx rfl (pc0 := 7) (pc' := 13) rfl (hb hby de4_7) rfl (XT.i0_ge_t hc7_0) (by decide) (by decide) ?_
      show Steps p.tables e below (T3.setTop (mkF m 13 #[.val (.ref o0), .val (.int (4 : Int32)), .val (.int (wb4_m4 x0 x1 x2 x3 x4))] [])) _
      refine X3.ldc2Long hx hown (mvT hZ (hw _ (List.mem_of_getElem? (i := 8) rfl))) (g := (mkF m 13 #[.val (.ref o0), .val (.int (4 : Int32)), .val (.int (wb4_m4 x0 x1 x2 x3 x4))] [])) rfl (hb hby de4_13) _ ?_
      show Steps p.tables e below (T3.setTop (mkF m 16 #[.val (.ref o0), .val (.int (4 : Int32)), .val (.int (wb4_m4 x0 x1 x2 x3 x4))] [(.long (5 : Int64))])) _
      refine XS.iloadN X3.here hx rfl (hb hby de4_16) rfl ?_
      show Steps p.tables e below (T3.setTop (mkF m 17 #[.val (.ref o0), .val (.int (4 : Int32)), .val (.int (wb4_m4 x0 x1 x2 x3 x4))] [(.int (wb4_m4 x0 x1 x2 x3 x4)), (.long (5 : Int64))])) _
      refine XS.i2l X3.here hx rfl (hb hby de4_17) rfl ?_
      show Steps p.tables e below (T3.setTop (mkF m 18 #[.val (.ref o0), .val (.int (4 : Int32)), .val (.int (wb4_m4 x0 x1 x2 x3 x4))] [(.long ((wb4_m4 x0 x1 x2 x3 x4).toInt64)), (.long (5 : Int64))])) _
      refine XS.ladd X3.here hx rfl (hb hby de4_18) rfl ?_
      show Steps p.tables e below (T3.setTop (mkF m 19 #[.val (.ref o0), .val (.int (4 : Int32)), .val (.int (wb4_m4 x0 x1 x2 x3 x4))] [(.long ((5 : Int64) + ((wb4_m4 x0 x1 x2 x3 x4).toInt64)))])) _
      exact k)
    obtain ⟨fs, hr, hrun, hended, hW, hsame⟩ := X3.leave (v := some (.long ((5 : Int64) + ((wb4_m4 x0 x1 x2 x3 x4).toInt64)))) (fun h => by rw [Bd.returns] at h; cases h) hlk
    refine ⟨_, _, ?_, hrun, hended, _, _, rfl, ?_, ⟨_, rfl⟩, hW, hsame.mono (by decide) (by decide)⟩
    · rw [← hS0]; exact K6 _ (retOut X3 hx Bd.returns rfl (Or.inr (Or.inl ⟨rfl, rfl, _, rfl⟩)) (hb hby de4_19) hr)
    · show Qe4 Z o0 ka x0 x1 x2 x3 x4 h0 n0 _ T3.heap _
      rw [e3]
      have qr : ((5 : Int64) + ((wb4_m4 x0 x1 x2 x3 x4).toInt64)) = (we4_r1 x0 x1 x2 x3 x4) := by unfold we4_r1; rw [if_neg hc7_0]
      exact ⟨congrArg (fun z => some (Value.long z)) qr, N3, rfl⟩
theorem dri_0 : decode prog_42_method_1_code 0 = .ok (.aload_n 0, 1) := by decide +kernel
theorem dri_1 : decode prog_42_method_1_code 1 = .ok (.invokespecial 1, 3) := by decide +kernel
theorem dri_4 : decode prog_42_method_1_code 4 = .ok (.aload_n 0, 1) := by decide +kernel
theorem dri_5 : decode prog_42_method_1_code 5 = .ok (.aload_n 1, 1) := by decide +kernel
theorem dri_6 : decode prog_42_method_1_code 6 = .ok (.putfield 7, 3) := by decide +kernel
theorem dri_9 : decode prog_42_method_1_code 9 = .ok (.aload_n 0, 1) := by decide +kernel
theorem dri_10 : decode prog_42_method_1_code 10 = .ok (.iload_n 2, 1) := by decide +kernel
theorem dri_11 : decode prog_42_method_1_code 11 = .ok (.putfield 13, 3) := by decide +kernel
theorem dri_14 : decode prog_42_method_1_code 14 = .ok (.return_, 1) := by decide +kernel
theorem pnri : plainName "com/example/nearmark/nearmark/paging/Requests" = true := by first | (simp [plainName, overriddenIn]; done) | decide +kernel
theorem efri (m : MethodId) (o0 : Addr) (o1 : Addr) (p2 : Int32) : entryFrame m #[(.ref o0), (.ref o1), (.int p2)] 3 = mkF m 0 #[.val (.ref o0), .val (.ref o1), .val (.int p2)] [] := by first | (simp [entryFrame, mkF, argsToLocals, Value.category]; done) | rfl
def Qri (Z : State) (o0 : Addr) (o1 : Addr) (p2 : Int32) (h0 : Heap) (n0 : Nat) (v : Option Value) (h : Heap) (L : List Loc) : Prop := v = none ∧ Fr n0 L ∧ Keep h0 h [o0] ∧ Exa Z h o0 "com/example/nearmark/nearmark/paging/Requests" ∧ Fld Z h o0 "com/example/nearmark/nearmark/paging/Requests" "pages" "[I" (.ref o1) ∧ Fld Z h o0 "com/example/nearmark/nearmark/paging/Requests" "pageCount" "I" (.int p2)
set_option maxRecDepth 65536 in
set_option maxHeartbeats 40000000 in
theorem rmri (l : Launch) (Z : State) (a0 : Array Value) (hw : ∀ d ∈ tables_1, d.before a0 Z = true) (ws : List Jvm.Cond) (o0 : Addr) (o1 : Addr) (p2 : Int32) (h0 : Heap) (n0 : Nat) (Z0 : n0 ≤ h0.size) (E_o0 : Exa Z h0 o0 "com/example/nearmark/nearmark/paging/Requests") (F_o0_pages : Fld Z h0 o0 "com/example/nearmark/nearmark/paging/Requests" "pages" "[I" .null) (F_o0_pageCount : Fld Z h0 o0 "com/example/nearmark/nearmark/paging/Requests" "pageCount" "I" (.int (0 : Int32))) (g_o0 : n0 ≤ o0) :
    MetFree l (⟨"com/example/nearmark/nearmark/paging/Requests", "<init>", "([II)V"⟩ : MethodName) (head1 (Jvm.Cond.code (⟨"com/example/nearmark/nearmark/paging/Requests", "<init>", "([II)V"⟩ : MethodName) prog_42_method_1_code 3 none :: ws) ({ frames := 1, cells := 0, slots := 0, locals := 12 } : Room)) (fun a U => a = #[(.ref o0), (.ref o1), (.int p2)] ∧ Z.Warmed39 U.vm ∧ U.heap = h0) (fun _ _ _ _ _ => True) (fun _ U o U' => ∃ v L, o = .returned v ∧ Qri Z o0 o1 p2 h0 n0 v U'.heap L ∧ FrameEnd U o U' L ({ frames := 1, cells := 0, slots := 0, locals := 12 } : Room).cells ({ frames := 1, cells := 0, slots := 0, locals := 12 } : Room).slots) := by
  refine MetFree.of_bodySF (plainFor_of_name pnri) hisR ?_
  intro p e s m args below meth c s₁ Bd hml0 hP hK
  obtain ⟨rfl, hZ, hh⟩ := hP
  have hlk : meth.locks = false := BodyLoose.notSynchronized Bd
  have hx := Bd.exec
  have hby := Bd.bytes
  have hml : c.maxLocals = 3 := hml0
  have hown : s.vm.findClass "com/example/nearmark/nearmark/paging/Requests" = some m.cls := findClass_of_methodNamed Bd.named
  have hnm := (name_of_methodNamed Bd.named Bd.method).1
  have X0 : Stand p l e ({ frames := 1, cells := 0, slots := 0, locals := 12 } : Room) s m #[(.ref o0), (.ref o1), (.int p2)] below meth c s₁ [] 0 0 := Stand.of_body Bd
  have e0 : s₁.heap = h0 := by rw [← hh, Bd.state]; rfl
  have N0 := Fr.nil n0
  obtain ⟨S0, hS0⟩ : ∃ S0, S0 = s₁.setTop (entryFrame m #[(.ref o0), (.ref o1), (.int p2)] 3) := ⟨_, rfl⟩
  have pre0 : ∀ t, Steps p.tables e below (s₁.setTop (mkF m 0 #[.val (.ref o0), .val (.ref o1), .val (.int p2)] [])) t → Steps p.tables e below S0 t := fun t k => by rw [hS0]; exact castTop (efri m o0 o1 p2) k
  have K1 : ∀ t, Steps p.tables e below (s₁.setTop (mkF m 1 #[.val (.ref o0), .val (.ref o1), .val (.int p2)] [(.ref o0)])) t → Steps p.tables e below S0 t := fun t k => pre0 t (by
    refine XS.aloadN X0.here hx rfl (hb hby dri_0) rfl rfl ?_
    show Steps p.tables e below (s₁.setTop (mkF m 1 #[.val (.ref o0), .val (.ref o1), .val (.int p2)] [(.ref o0)])) _
    exact k)
  have K_2 : ∀ t, Steps p.tables e below (s₁.setTop (mkF m 1 #[.val (.ref o0), .val (.ref o1), .val (.int p2)] [(.ref o0)])) t → Steps p.tables e below S0 t := K1
  obtain ⟨T3, X3, e3, st3⟩ := initO X0 hx hZ hown (hw _ (List.mem_of_getElem? (i := 15) rfl)) (hw _ (List.mem_of_getElem? (i := 16) rfl)) (hw _ (List.mem_of_getElem? (i := 17) rfl)) e0 (g := (mkF m 1 #[.val (.ref o0), .val (.ref o1), .val (.int p2)] [(.ref o0)])) rfl (by rw [hml]; rfl) rfl (hb hby dri_1) (by decide) (W := 0) (by show 2 * 0 + _ ≤ _; exact Nat.le_of_eq rfl) (by decide)
  have K3 : ∀ t, Steps p.tables e below (T3.setTop (mkF m 4 #[.val (.ref o0), .val (.ref o1), .val (.int p2)] [])) t → Steps p.tables e below S0 t := fun t k => K_2 t (st3 t k)
  have K4 : ∀ t, Steps p.tables e below (T3.setTop (mkF m 6 #[.val (.ref o0), .val (.ref o1), .val (.int p2)] [(.ref o1), (.ref o0)])) t → Steps p.tables e below S0 t := fun t k => K3 t (by
    refine XS.aloadN X3.here hx rfl (hb hby dri_4) rfl rfl ?_
    show Steps p.tables e below (T3.setTop (mkF m 5 #[.val (.ref o0), .val (.ref o1), .val (.int p2)] [(.ref o0)])) _
    refine XS.aloadN X3.here hx rfl (hb hby dri_5) rfl rfl ?_
    show Steps p.tables e below (T3.setTop (mkF m 6 #[.val (.ref o0), .val (.ref o1), .val (.int p2)] [(.ref o1), (.ref o0)])) _
    exact k)
  obtain ⟨T5, h5, X5, e5, W5, st5⟩ := putF X3 hx hZ hown (host := "") (Or.inl (hw _ (List.mem_of_getElem? (i := 18) rfl))) Via.refl e3 F_o0_pages E_o0 (Or.inr ⟨(hw _ (List.mem_of_getElem? (i := 19) rfl)), rfl, hnm⟩) (hw _ (List.mem_of_getElem? (i := 10) rfl)) (ty := (.array .int)) (by decide) rfl rfl (g := (mkF m 6 #[.val (.ref o0), .val (.ref o1), .val (.int p2)] [(.ref o1), (.ref o0)])) rfl rfl (hb hby dri_6)
  have F_o0_pages__5 := F_o0_pages.same W5
  have E_o0__5 := E_o0.wr W5
  have F_o0_pageCount__5 := F_o0_pageCount.other W5 (Or.inr (slot_ne (Or.inr (hw _ (List.mem_of_getElem? (i := 21) rfl))) (Or.inr (hw _ (List.mem_of_getElem? (i := 19) rfl))) (by decide) (t := .int) (t' := (.array .int)) (by decide) (by decide)))
  have N5 := Fr.snoc X5 N0 g_o0
  have Zs5 : n0 ≤ h5.size := Nat.le_trans Z0 (Nat.le_of_eq W5.size.symm)
  have Kc5 : Keep h0 h5 [o0] := (Keep.refl h0 [o0]).wr W5 (Or.inl (List.mem_of_getElem? (i := 0) rfl))
  have K5 : ∀ t, Steps p.tables e below (T5.setTop (mkF m 9 #[.val (.ref o0), .val (.ref o1), .val (.int p2)] [])) t → Steps p.tables e below S0 t := fun t k => K4 t (st5 t k)
  have K6 : ∀ t, Steps p.tables e below (T5.setTop (mkF m 11 #[.val (.ref o0), .val (.ref o1), .val (.int p2)] [(.int p2), (.ref o0)])) t → Steps p.tables e below S0 t := fun t k => K5 t (by
    refine XS.aloadN X5.here hx rfl (hb hby dri_9) rfl rfl ?_
    show Steps p.tables e below (T5.setTop (mkF m 10 #[.val (.ref o0), .val (.ref o1), .val (.int p2)] [(.ref o0)])) _
    refine XS.iloadN X5.here hx rfl (hb hby dri_10) rfl ?_
    show Steps p.tables e below (T5.setTop (mkF m 11 #[.val (.ref o0), .val (.ref o1), .val (.int p2)] [(.int p2), (.ref o0)])) _
    exact k)
  obtain ⟨T7, h7, X7, e7, W7, st7⟩ := putF X5 hx hZ hown (host := "") (Or.inl (hw _ (List.mem_of_getElem? (i := 20) rfl))) Via.refl e5 F_o0_pageCount__5 E_o0__5 (Or.inr ⟨(hw _ (List.mem_of_getElem? (i := 21) rfl)), rfl, hnm⟩) (hw _ (List.mem_of_getElem? (i := 10) rfl)) (ty := .int) (by decide) rfl rfl (g := (mkF m 11 #[.val (.ref o0), .val (.ref o1), .val (.int p2)] [(.int p2), (.ref o0)])) rfl rfl (hb hby dri_11)
  have F_o0_pageCount__7 := F_o0_pageCount__5.same W7
  have E_o0__7 := E_o0__5.wr W7
  have F_o0_pages__7 := F_o0_pages__5.other W7 (Or.inr (slot_ne (Or.inr (hw _ (List.mem_of_getElem? (i := 19) rfl))) (Or.inr (hw _ (List.mem_of_getElem? (i := 21) rfl))) (by decide) (t := (.array .int)) (t' := .int) (by decide) (by decide)))
  have N7 := Fr.snoc X7 N5 g_o0
  have Zs7 : n0 ≤ h7.size := Nat.le_trans Zs5 (Nat.le_of_eq W7.size.symm)
  have Kc7 : Keep h0 h7 [o0] := Kc5.wr W7 (Or.inl (List.mem_of_getElem? (i := 0) rfl))
  have K7 : ∀ t, Steps p.tables e below (T7.setTop (mkF m 14 #[.val (.ref o0), .val (.ref o1), .val (.int p2)] [])) t → Steps p.tables e below S0 t := fun t k => K6 t (st7 t k)
  obtain ⟨fs, hr, hrun, hended, hW, hsame⟩ := X7.leave (v := none) (fun _ => rfl) hlk
  refine ⟨_, _, ?_, hrun, hended, _, _, rfl, ?_, ⟨_, rfl⟩, hW, hsame.mono (by decide) (by decide)⟩
  · rw [← hS0]; exact K7 _ (X7.returnOut hx Bd.returns (hb hby dri_14) hr)
  · show Qri Z o0 o1 p2 h0 n0 _ T7.heap _
    rw [e7]
    exact ⟨rfl, N7, Kc7, E_o0__7, F_o0_pages__7, F_o0_pageCount__7⟩
theorem dpc_0 : decode prog_42_method_4_code 0 = .ok (.aload_n 0, 1) := by decide +kernel
theorem dpc_1 : decode prog_42_method_4_code 1 = .ok (.getfield 13, 3) := by decide +kernel
theorem dpc_4 : decode prog_42_method_4_code 4 = .ok (.ireturn, 1) := by decide +kernel
theorem pnpc : plainName "com/example/nearmark/nearmark/paging/Requests" = true := by first | (simp [plainName, overriddenIn]; done) | decide +kernel
theorem efpc (m : MethodId) (o0 : Addr) : entryFrame m #[(.ref o0)] 1 = mkF m 0 #[.val (.ref o0)] [] := by first | (simp [entryFrame, mkF, argsToLocals, Value.category]; done) | rfl
def Qpc (Z : State) (o0 : Addr) (zm : Int32) (h0 : Heap) (n0 : Nat) (v : Option Value) (h : Heap) (L : List Loc) : Prop := v = some (.int zm) ∧ Fr n0 L ∧ h = h0
set_option maxRecDepth 65536 in
set_option maxHeartbeats 40000000 in
theorem rmpc (l : Launch) (Z : State) (a0 : Array Value) (hw : ∀ d ∈ tables_1, d.before a0 Z = true) (ws : List Jvm.Cond) (o0 : Addr) (zm : Int32) (h0 : Heap) (n0 : Nat) (Z0 : n0 ≤ h0.size) (F_o0_pageCount : Fld Z h0 o0 "com/example/nearmark/nearmark/paging/Requests" "pageCount" "I" (.int zm)) :
    MetFree l (⟨"com/example/nearmark/nearmark/paging/Requests", "pageCount", "()I"⟩ : MethodName) (head1 (Jvm.Cond.code (⟨"com/example/nearmark/nearmark/paging/Requests", "pageCount", "()I"⟩ : MethodName) prog_42_method_4_code 1 (some .int) :: ws) ({ frames := 0, cells := 0, slots := 0, locals := 0 } : Room)) (fun a U => a = #[(.ref o0)] ∧ Z.Warmed39 U.vm ∧ U.heap = h0) (fun _ _ _ _ _ => True) (fun _ U o U' => ∃ v L, o = .returned v ∧ Qpc Z o0 zm h0 n0 v U'.heap L ∧ FrameEnd U o U' L ({ frames := 0, cells := 0, slots := 0, locals := 0 } : Room).cells ({ frames := 0, cells := 0, slots := 0, locals := 0 } : Room).slots) := by
  refine MetFree.of_bodySF (plainFor_of_name pnpc) hisR ?_
  intro p e s m args below meth c s₁ Bd hml0 hP hK
  obtain ⟨rfl, hZ, hh⟩ := hP
  have hlk : meth.locks = false := BodyLoose.notSynchronized Bd
  have hx := Bd.exec
  have hby := Bd.bytes
  have hml : c.maxLocals = 1 := hml0
  have hown : s.vm.findClass "com/example/nearmark/nearmark/paging/Requests" = some m.cls := findClass_of_methodNamed Bd.named
  have hnm := (name_of_methodNamed Bd.named Bd.method).1
  have X0 : Stand p l e ({ frames := 0, cells := 0, slots := 0, locals := 0 } : Room) s m #[(.ref o0)] below meth c s₁ [] 0 0 := Stand.of_body Bd
  have e0 : s₁.heap = h0 := by rw [← hh, Bd.state]; rfl
  have N0 := Fr.nil n0
  obtain ⟨S0, hS0⟩ : ∃ S0, S0 = s₁.setTop (entryFrame m #[(.ref o0)] 1) := ⟨_, rfl⟩
  have pre0 : ∀ t, Steps p.tables e below (s₁.setTop (mkF m 0 #[.val (.ref o0)] [])) t → Steps p.tables e below S0 t := fun t k => by rw [hS0]; exact castTop (efpc m o0) k
  have K1 : ∀ t, Steps p.tables e below (s₁.setTop (mkF m 1 #[.val (.ref o0)] [(.ref o0)])) t → Steps p.tables e below S0 t := fun t k => pre0 t (by
    refine XS.aloadN X0.here hx rfl (hb hby dpc_0) rfl rfl ?_
    show Steps p.tables e below (s₁.setTop (mkF m 1 #[.val (.ref o0)] [(.ref o0)])) _
    exact k)
  obtain ⟨T2, X2, e2, st2⟩ := getF X0 hx hZ hown (host := "") (Or.inl (hw _ (List.mem_of_getElem? (i := 20) rfl))) Via.refl e0 F_o0_pageCount (g := (mkF m 1 #[.val (.ref o0)] [(.ref o0)])) rfl rfl (hb hby dpc_1)
  have K2 : ∀ t, Steps p.tables e below (T2.setTop (mkF m 4 #[.val (.ref o0)] [(.int zm)])) t → Steps p.tables e below S0 t := fun t k => K1 t (st2 t k)
  obtain ⟨fs, hr, hrun, hended, hW, hsame⟩ := X2.leave (v := some (.int zm)) (fun h => by rw [Bd.returns] at h; cases h) hlk
  refine ⟨_, _, ?_, hrun, hended, _, _, rfl, ?_, ⟨_, rfl⟩, hW, hsame.mono (by decide) (by decide)⟩
  · rw [← hS0]; exact K2 _ (retI X2 hx Bd.returns (hb hby dpc_4) hr)
  · show Qpc Z o0 zm h0 n0 _ T2.heap _
    rw [e2]
    exact ⟨rfl, N0, rfl⟩
theorem dpg0_0 : decode prog_42_method_3_code 0 = .ok (.aload_n 0, 1) := by decide +kernel
theorem dpg0_1 : decode prog_42_method_3_code 1 = .ok (.getfield 7, 3) := by decide +kernel
theorem dpg0_4 : decode prog_42_method_3_code 4 = .ok (.iload_n 1, 1) := by decide +kernel
theorem dpg0_5 : decode prog_42_method_3_code 5 = .ok (.iaload, 1) := by decide +kernel
theorem dpg0_6 : decode prog_42_method_3_code 6 = .ok (.ireturn, 1) := by decide +kernel
theorem pnpg0 : plainName "com/example/nearmark/nearmark/paging/Requests" = true := by first | (simp [plainName, overriddenIn]; done) | decide +kernel
theorem efpg0 (m : MethodId) (o0 : Addr) : entryFrame m #[(.ref o0), (.int (0 : Int32))] 2 = mkF m 0 #[.val (.ref o0), .val (.int (0 : Int32))] [] := by first | (simp [entryFrame, mkF, argsToLocals, Value.category]; done) | rfl
def Qpg0 (Z : State) (o0 : Addr) (op : Addr) (ka : ClassId) (x0 : Int32) (x1 : Int32) (x2 : Int32) (x3 : Int32) (x4 : Int32) (h0 : Heap) (n0 : Nat) (v : Option Value) (h : Heap) (L : List Loc) : Prop := v = some (.int x0) ∧ Fr n0 L ∧ h = h0
set_option maxRecDepth 65536 in
set_option maxHeartbeats 40000000 in
theorem rmpg0 (l : Launch) (Z : State) (a0 : Array Value) (hw : ∀ d ∈ tables_1, d.before a0 Z = true) (ws : List Jvm.Cond) (o0 : Addr) (op : Addr) (ka : ClassId) (x0 : Int32) (x1 : Int32) (x2 : Int32) (x3 : Int32) (x4 : Int32) (h0 : Heap) (n0 : Nat) (Z0 : n0 ≤ h0.size) (F_o0_pages : Fld Z h0 o0 "com/example/nearmark/nearmark/paging/Requests" "pages" "[I" (.ref op)) (V_op : Arv Z h0 op ka .int (5 : Int32) [(.int x0), (.int x1), (.int x2), (.int x3), (.int x4)] (.int (0 : Int32))) :
    MetFree l (⟨"com/example/nearmark/nearmark/paging/Requests", "page", "(I)I"⟩ : MethodName) (head1 (Jvm.Cond.code (⟨"com/example/nearmark/nearmark/paging/Requests", "page", "(I)I"⟩ : MethodName) prog_42_method_3_code 2 (some .int) :: ws) ({ frames := 0, cells := 0, slots := 0, locals := 0 } : Room)) (fun a U => a = #[(.ref o0), (.int (0 : Int32))] ∧ Z.Warmed39 U.vm ∧ U.heap = h0) (fun _ _ _ _ _ => True) (fun _ U o U' => ∃ v L, o = .returned v ∧ Qpg0 Z o0 op ka x0 x1 x2 x3 x4 h0 n0 v U'.heap L ∧ FrameEnd U o U' L ({ frames := 0, cells := 0, slots := 0, locals := 0 } : Room).cells ({ frames := 0, cells := 0, slots := 0, locals := 0 } : Room).slots) := by
  refine MetFree.of_bodySF (plainFor_of_name pnpg0) hisR ?_
  intro p e s m args below meth c s₁ Bd hml0 hP hK
  obtain ⟨rfl, hZ, hh⟩ := hP
  have hlk : meth.locks = false := BodyLoose.notSynchronized Bd
  have hx := Bd.exec
  have hby := Bd.bytes
  have hml : c.maxLocals = 2 := hml0
  have hown : s.vm.findClass "com/example/nearmark/nearmark/paging/Requests" = some m.cls := findClass_of_methodNamed Bd.named
  have hnm := (name_of_methodNamed Bd.named Bd.method).1
  have X0 : Stand p l e ({ frames := 0, cells := 0, slots := 0, locals := 0 } : Room) s m #[(.ref o0), (.int (0 : Int32))] below meth c s₁ [] 0 0 := Stand.of_body Bd
  have e0 : s₁.heap = h0 := by rw [← hh, Bd.state]; rfl
  have N0 := Fr.nil n0
  obtain ⟨S0, hS0⟩ : ∃ S0, S0 = s₁.setTop (entryFrame m #[(.ref o0), (.int (0 : Int32))] 2) := ⟨_, rfl⟩
  have pre0 : ∀ t, Steps p.tables e below (s₁.setTop (mkF m 0 #[.val (.ref o0), .val (.int (0 : Int32))] [])) t → Steps p.tables e below S0 t := fun t k => by rw [hS0]; exact castTop (efpg0 m o0) k
  have K1 : ∀ t, Steps p.tables e below (s₁.setTop (mkF m 1 #[.val (.ref o0), .val (.int (0 : Int32))] [(.ref o0)])) t → Steps p.tables e below S0 t := fun t k => pre0 t (by
    refine XS.aloadN X0.here hx rfl (hb hby dpg0_0) rfl rfl ?_
    show Steps p.tables e below (s₁.setTop (mkF m 1 #[.val (.ref o0), .val (.int (0 : Int32))] [(.ref o0)])) _
    exact k)
  obtain ⟨T2, X2, e2, st2⟩ := getF X0 hx hZ hown (host := "") (Or.inl (hw _ (List.mem_of_getElem? (i := 18) rfl))) Via.refl e0 F_o0_pages (g := (mkF m 1 #[.val (.ref o0), .val (.int (0 : Int32))] [(.ref o0)])) rfl rfl (hb hby dpg0_1)
  have K2 : ∀ t, Steps p.tables e below (T2.setTop (mkF m 4 #[.val (.ref o0), .val (.int (0 : Int32))] [(.ref op)])) t → Steps p.tables e below S0 t := fun t k => K1 t (st2 t k)
  have K3 : ∀ t, Steps p.tables e below (T2.setTop (mkF m 5 #[.val (.ref o0), .val (.int (0 : Int32))] [(.int (0 : Int32)), (.ref op)])) t → Steps p.tables e below S0 t := fun t k => K2 t (by
    refine XS.iloadN X2.here hx rfl (hb hby dpg0_4) rfl ?_
    show Steps p.tables e below (T2.setTop (mkF m 5 #[.val (.ref o0), .val (.int (0 : Int32))] [(.int (0 : Int32)), (.ref op)])) _
    exact k)
  have K_4 : ∀ t, Steps p.tables e below (T2.setTop (mkF m 5 #[.val (.ref o0), .val (.int (0 : Int32))] [(.int (0 : Int32)), (.ref op)])) t → Steps p.tables e below S0 t := K3
  obtain ⟨cl5, Ar5, qa5, sa5, na5, ha5, ga5⟩ := id V_op
  have hin5 : ¬ ((0 : Int32) < 0 ∨ cl5.slots.size ≤ ((0 : Int32)).toNatClampNeg) := inb_of sa5 ⟨by decide, by decide⟩
  have hat5 : cl5.slots[((0 : Int32)).toNatClampNeg]? = some (.int x0) := Has.at ha5 hin5 rfl
  have K5 : ∀ t, Steps p.tables e below (T2.setTop (mkF m 6 #[.val (.ref o0), .val (.int (0 : Int32))] [(.int x0)])) t → Steps p.tables e below S0 t := fun t k => K_4 t (X2.iaload hx (j := (0 : Int32)) (v := (.int x0)) (by rw [e2]; exact Ar5.1) (State.isArrayOf_alike hZ.alike Ar5.2.1) Ar5.2.2 hin5 hat5 (g := (mkF m 5 #[.val (.ref o0), .val (.int (0 : Int32))] [(.int (0 : Int32)), (.ref op)])) rfl rfl (hb hby dpg0_5) _ k)
  obtain ⟨fs, hr, hrun, hended, hW, hsame⟩ := X2.leave (v := some (.int x0)) (fun h => by rw [Bd.returns] at h; cases h) hlk
  refine ⟨_, _, ?_, hrun, hended, _, _, rfl, ?_, ⟨_, rfl⟩, hW, hsame.mono (by decide) (by decide)⟩
  · rw [← hS0]; exact K5 _ (retI X2 hx Bd.returns (hb hby dpg0_6) hr)
  · show Qpg0 Z o0 op ka x0 x1 x2 x3 x4 h0 n0 _ T2.heap _
    rw [e2]
    exact ⟨rfl, N0, rfl⟩
theorem dpg1_0 : decode prog_42_method_3_code 0 = .ok (.aload_n 0, 1) := by decide +kernel
theorem dpg1_1 : decode prog_42_method_3_code 1 = .ok (.getfield 7, 3) := by decide +kernel
theorem dpg1_4 : decode prog_42_method_3_code 4 = .ok (.iload_n 1, 1) := by decide +kernel
theorem dpg1_5 : decode prog_42_method_3_code 5 = .ok (.iaload, 1) := by decide +kernel
theorem dpg1_6 : decode prog_42_method_3_code 6 = .ok (.ireturn, 1) := by decide +kernel
theorem pnpg1 : plainName "com/example/nearmark/nearmark/paging/Requests" = true := by first | (simp [plainName, overriddenIn]; done) | decide +kernel
theorem efpg1 (m : MethodId) (o0 : Addr) : entryFrame m #[(.ref o0), (.int (1 : Int32))] 2 = mkF m 0 #[.val (.ref o0), .val (.int (1 : Int32))] [] := by first | (simp [entryFrame, mkF, argsToLocals, Value.category]; done) | rfl
def Qpg1 (Z : State) (o0 : Addr) (op : Addr) (ka : ClassId) (x0 : Int32) (x1 : Int32) (x2 : Int32) (x3 : Int32) (x4 : Int32) (h0 : Heap) (n0 : Nat) (v : Option Value) (h : Heap) (L : List Loc) : Prop := v = some (.int x1) ∧ Fr n0 L ∧ h = h0
set_option maxRecDepth 65536 in
set_option maxHeartbeats 40000000 in
theorem rmpg1 (l : Launch) (Z : State) (a0 : Array Value) (hw : ∀ d ∈ tables_1, d.before a0 Z = true) (ws : List Jvm.Cond) (o0 : Addr) (op : Addr) (ka : ClassId) (x0 : Int32) (x1 : Int32) (x2 : Int32) (x3 : Int32) (x4 : Int32) (h0 : Heap) (n0 : Nat) (Z0 : n0 ≤ h0.size) (F_o0_pages : Fld Z h0 o0 "com/example/nearmark/nearmark/paging/Requests" "pages" "[I" (.ref op)) (V_op : Arv Z h0 op ka .int (5 : Int32) [(.int x0), (.int x1), (.int x2), (.int x3), (.int x4)] (.int (0 : Int32))) :
    MetFree l (⟨"com/example/nearmark/nearmark/paging/Requests", "page", "(I)I"⟩ : MethodName) (head1 (Jvm.Cond.code (⟨"com/example/nearmark/nearmark/paging/Requests", "page", "(I)I"⟩ : MethodName) prog_42_method_3_code 2 (some .int) :: ws) ({ frames := 0, cells := 0, slots := 0, locals := 0 } : Room)) (fun a U => a = #[(.ref o0), (.int (1 : Int32))] ∧ Z.Warmed39 U.vm ∧ U.heap = h0) (fun _ _ _ _ _ => True) (fun _ U o U' => ∃ v L, o = .returned v ∧ Qpg1 Z o0 op ka x0 x1 x2 x3 x4 h0 n0 v U'.heap L ∧ FrameEnd U o U' L ({ frames := 0, cells := 0, slots := 0, locals := 0 } : Room).cells ({ frames := 0, cells := 0, slots := 0, locals := 0 } : Room).slots) := by
  refine MetFree.of_bodySF (plainFor_of_name pnpg1) hisR ?_
  intro p e s m args below meth c s₁ Bd hml0 hP hK
  obtain ⟨rfl, hZ, hh⟩ := hP
  have hlk : meth.locks = false := BodyLoose.notSynchronized Bd
  have hx := Bd.exec
  have hby := Bd.bytes
  have hml : c.maxLocals = 2 := hml0
  have hown : s.vm.findClass "com/example/nearmark/nearmark/paging/Requests" = some m.cls := findClass_of_methodNamed Bd.named
  have hnm := (name_of_methodNamed Bd.named Bd.method).1
  have X0 : Stand p l e ({ frames := 0, cells := 0, slots := 0, locals := 0 } : Room) s m #[(.ref o0), (.int (1 : Int32))] below meth c s₁ [] 0 0 := Stand.of_body Bd
  have e0 : s₁.heap = h0 := by rw [← hh, Bd.state]; rfl
  have N0 := Fr.nil n0
  obtain ⟨S0, hS0⟩ : ∃ S0, S0 = s₁.setTop (entryFrame m #[(.ref o0), (.int (1 : Int32))] 2) := ⟨_, rfl⟩
  have pre0 : ∀ t, Steps p.tables e below (s₁.setTop (mkF m 0 #[.val (.ref o0), .val (.int (1 : Int32))] [])) t → Steps p.tables e below S0 t := fun t k => by rw [hS0]; exact castTop (efpg1 m o0) k
  have K1 : ∀ t, Steps p.tables e below (s₁.setTop (mkF m 1 #[.val (.ref o0), .val (.int (1 : Int32))] [(.ref o0)])) t → Steps p.tables e below S0 t := fun t k => pre0 t (by
    refine XS.aloadN X0.here hx rfl (hb hby dpg1_0) rfl rfl ?_
    show Steps p.tables e below (s₁.setTop (mkF m 1 #[.val (.ref o0), .val (.int (1 : Int32))] [(.ref o0)])) _
    exact k)
  obtain ⟨T2, X2, e2, st2⟩ := getF X0 hx hZ hown (host := "") (Or.inl (hw _ (List.mem_of_getElem? (i := 18) rfl))) Via.refl e0 F_o0_pages (g := (mkF m 1 #[.val (.ref o0), .val (.int (1 : Int32))] [(.ref o0)])) rfl rfl (hb hby dpg1_1)
  have K2 : ∀ t, Steps p.tables e below (T2.setTop (mkF m 4 #[.val (.ref o0), .val (.int (1 : Int32))] [(.ref op)])) t → Steps p.tables e below S0 t := fun t k => K1 t (st2 t k)
  have K3 : ∀ t, Steps p.tables e below (T2.setTop (mkF m 5 #[.val (.ref o0), .val (.int (1 : Int32))] [(.int (1 : Int32)), (.ref op)])) t → Steps p.tables e below S0 t := fun t k => K2 t (by
    refine XS.iloadN X2.here hx rfl (hb hby dpg1_4) rfl ?_
    show Steps p.tables e below (T2.setTop (mkF m 5 #[.val (.ref o0), .val (.int (1 : Int32))] [(.int (1 : Int32)), (.ref op)])) _
    exact k)
  have K_4 : ∀ t, Steps p.tables e below (T2.setTop (mkF m 5 #[.val (.ref o0), .val (.int (1 : Int32))] [(.int (1 : Int32)), (.ref op)])) t → Steps p.tables e below S0 t := K3
  obtain ⟨cl5, Ar5, qa5, sa5, na5, ha5, ga5⟩ := id V_op
  have hin5 : ¬ ((1 : Int32) < 0 ∨ cl5.slots.size ≤ ((1 : Int32)).toNatClampNeg) := inb_of sa5 ⟨by decide, by decide⟩
  have hat5 : cl5.slots[((1 : Int32)).toNatClampNeg]? = some (.int x1) := Has.at ha5 hin5 rfl
  have K5 : ∀ t, Steps p.tables e below (T2.setTop (mkF m 6 #[.val (.ref o0), .val (.int (1 : Int32))] [(.int x1)])) t → Steps p.tables e below S0 t := fun t k => K_4 t (X2.iaload hx (j := (1 : Int32)) (v := (.int x1)) (by rw [e2]; exact Ar5.1) (State.isArrayOf_alike hZ.alike Ar5.2.1) Ar5.2.2 hin5 hat5 (g := (mkF m 5 #[.val (.ref o0), .val (.int (1 : Int32))] [(.int (1 : Int32)), (.ref op)])) rfl rfl (hb hby dpg1_5) _ k)
  obtain ⟨fs, hr, hrun, hended, hW, hsame⟩ := X2.leave (v := some (.int x1)) (fun h => by rw [Bd.returns] at h; cases h) hlk
  refine ⟨_, _, ?_, hrun, hended, _, _, rfl, ?_, ⟨_, rfl⟩, hW, hsame.mono (by decide) (by decide)⟩
  · rw [← hS0]; exact K5 _ (retI X2 hx Bd.returns (hb hby dpg1_6) hr)
  · show Qpg1 Z o0 op ka x0 x1 x2 x3 x4 h0 n0 _ T2.heap _
    rw [e2]
    exact ⟨rfl, N0, rfl⟩
theorem dpg2_0 : decode prog_42_method_3_code 0 = .ok (.aload_n 0, 1) := by decide +kernel
theorem dpg2_1 : decode prog_42_method_3_code 1 = .ok (.getfield 7, 3) := by decide +kernel
theorem dpg2_4 : decode prog_42_method_3_code 4 = .ok (.iload_n 1, 1) := by decide +kernel
theorem dpg2_5 : decode prog_42_method_3_code 5 = .ok (.iaload, 1) := by decide +kernel
theorem dpg2_6 : decode prog_42_method_3_code 6 = .ok (.ireturn, 1) := by decide +kernel
theorem pnpg2 : plainName "com/example/nearmark/nearmark/paging/Requests" = true := by first | (simp [plainName, overriddenIn]; done) | decide +kernel
theorem efpg2 (m : MethodId) (o0 : Addr) : entryFrame m #[(.ref o0), (.int (2 : Int32))] 2 = mkF m 0 #[.val (.ref o0), .val (.int (2 : Int32))] [] := by first | (simp [entryFrame, mkF, argsToLocals, Value.category]; done) | rfl
def Qpg2 (Z : State) (o0 : Addr) (op : Addr) (ka : ClassId) (x0 : Int32) (x1 : Int32) (x2 : Int32) (x3 : Int32) (x4 : Int32) (h0 : Heap) (n0 : Nat) (v : Option Value) (h : Heap) (L : List Loc) : Prop := v = some (.int x2) ∧ Fr n0 L ∧ h = h0
set_option maxRecDepth 65536 in
set_option maxHeartbeats 40000000 in
theorem rmpg2 (l : Launch) (Z : State) (a0 : Array Value) (hw : ∀ d ∈ tables_1, d.before a0 Z = true) (ws : List Jvm.Cond) (o0 : Addr) (op : Addr) (ka : ClassId) (x0 : Int32) (x1 : Int32) (x2 : Int32) (x3 : Int32) (x4 : Int32) (h0 : Heap) (n0 : Nat) (Z0 : n0 ≤ h0.size) (F_o0_pages : Fld Z h0 o0 "com/example/nearmark/nearmark/paging/Requests" "pages" "[I" (.ref op)) (V_op : Arv Z h0 op ka .int (5 : Int32) [(.int x0), (.int x1), (.int x2), (.int x3), (.int x4)] (.int (0 : Int32))) :
    MetFree l (⟨"com/example/nearmark/nearmark/paging/Requests", "page", "(I)I"⟩ : MethodName) (head1 (Jvm.Cond.code (⟨"com/example/nearmark/nearmark/paging/Requests", "page", "(I)I"⟩ : MethodName) prog_42_method_3_code 2 (some .int) :: ws) ({ frames := 0, cells := 0, slots := 0, locals := 0 } : Room)) (fun a U => a = #[(.ref o0), (.int (2 : Int32))] ∧ Z.Warmed39 U.vm ∧ U.heap = h0) (fun _ _ _ _ _ => True) (fun _ U o U' => ∃ v L, o = .returned v ∧ Qpg2 Z o0 op ka x0 x1 x2 x3 x4 h0 n0 v U'.heap L ∧ FrameEnd U o U' L ({ frames := 0, cells := 0, slots := 0, locals := 0 } : Room).cells ({ frames := 0, cells := 0, slots := 0, locals := 0 } : Room).slots) := by
  refine MetFree.of_bodySF (plainFor_of_name pnpg2) hisR ?_
  intro p e s m args below meth c s₁ Bd hml0 hP hK
  obtain ⟨rfl, hZ, hh⟩ := hP
  have hlk : meth.locks = false := BodyLoose.notSynchronized Bd
  have hx := Bd.exec
  have hby := Bd.bytes
  have hml : c.maxLocals = 2 := hml0
  have hown : s.vm.findClass "com/example/nearmark/nearmark/paging/Requests" = some m.cls := findClass_of_methodNamed Bd.named
  have hnm := (name_of_methodNamed Bd.named Bd.method).1
  have X0 : Stand p l e ({ frames := 0, cells := 0, slots := 0, locals := 0 } : Room) s m #[(.ref o0), (.int (2 : Int32))] below meth c s₁ [] 0 0 := Stand.of_body Bd
  have e0 : s₁.heap = h0 := by rw [← hh, Bd.state]; rfl
  have N0 := Fr.nil n0
  obtain ⟨S0, hS0⟩ : ∃ S0, S0 = s₁.setTop (entryFrame m #[(.ref o0), (.int (2 : Int32))] 2) := ⟨_, rfl⟩
  have pre0 : ∀ t, Steps p.tables e below (s₁.setTop (mkF m 0 #[.val (.ref o0), .val (.int (2 : Int32))] [])) t → Steps p.tables e below S0 t := fun t k => by rw [hS0]; exact castTop (efpg2 m o0) k
  have K1 : ∀ t, Steps p.tables e below (s₁.setTop (mkF m 1 #[.val (.ref o0), .val (.int (2 : Int32))] [(.ref o0)])) t → Steps p.tables e below S0 t := fun t k => pre0 t (by
    refine XS.aloadN X0.here hx rfl (hb hby dpg2_0) rfl rfl ?_
    show Steps p.tables e below (s₁.setTop (mkF m 1 #[.val (.ref o0), .val (.int (2 : Int32))] [(.ref o0)])) _
    exact k)
  obtain ⟨T2, X2, e2, st2⟩ := getF X0 hx hZ hown (host := "") (Or.inl (hw _ (List.mem_of_getElem? (i := 18) rfl))) Via.refl e0 F_o0_pages (g := (mkF m 1 #[.val (.ref o0), .val (.int (2 : Int32))] [(.ref o0)])) rfl rfl (hb hby dpg2_1)
  have K2 : ∀ t, Steps p.tables e below (T2.setTop (mkF m 4 #[.val (.ref o0), .val (.int (2 : Int32))] [(.ref op)])) t → Steps p.tables e below S0 t := fun t k => K1 t (st2 t k)
  have K3 : ∀ t, Steps p.tables e below (T2.setTop (mkF m 5 #[.val (.ref o0), .val (.int (2 : Int32))] [(.int (2 : Int32)), (.ref op)])) t → Steps p.tables e below S0 t := fun t k => K2 t (by
    refine XS.iloadN X2.here hx rfl (hb hby dpg2_4) rfl ?_
    show Steps p.tables e below (T2.setTop (mkF m 5 #[.val (.ref o0), .val (.int (2 : Int32))] [(.int (2 : Int32)), (.ref op)])) _
    exact k)
  have K_4 : ∀ t, Steps p.tables e below (T2.setTop (mkF m 5 #[.val (.ref o0), .val (.int (2 : Int32))] [(.int (2 : Int32)), (.ref op)])) t → Steps p.tables e below S0 t := K3
  obtain ⟨cl5, Ar5, qa5, sa5, na5, ha5, ga5⟩ := id V_op
  have hin5 : ¬ ((2 : Int32) < 0 ∨ cl5.slots.size ≤ ((2 : Int32)).toNatClampNeg) := inb_of sa5 ⟨by decide, by decide⟩
  have hat5 : cl5.slots[((2 : Int32)).toNatClampNeg]? = some (.int x2) := Has.at ha5 hin5 rfl
  have K5 : ∀ t, Steps p.tables e below (T2.setTop (mkF m 6 #[.val (.ref o0), .val (.int (2 : Int32))] [(.int x2)])) t → Steps p.tables e below S0 t := fun t k => K_4 t (X2.iaload hx (j := (2 : Int32)) (v := (.int x2)) (by rw [e2]; exact Ar5.1) (State.isArrayOf_alike hZ.alike Ar5.2.1) Ar5.2.2 hin5 hat5 (g := (mkF m 5 #[.val (.ref o0), .val (.int (2 : Int32))] [(.int (2 : Int32)), (.ref op)])) rfl rfl (hb hby dpg2_5) _ k)
  obtain ⟨fs, hr, hrun, hended, hW, hsame⟩ := X2.leave (v := some (.int x2)) (fun h => by rw [Bd.returns] at h; cases h) hlk
  refine ⟨_, _, ?_, hrun, hended, _, _, rfl, ?_, ⟨_, rfl⟩, hW, hsame.mono (by decide) (by decide)⟩
  · rw [← hS0]; exact K5 _ (retI X2 hx Bd.returns (hb hby dpg2_6) hr)
  · show Qpg2 Z o0 op ka x0 x1 x2 x3 x4 h0 n0 _ T2.heap _
    rw [e2]
    exact ⟨rfl, N0, rfl⟩
theorem dpg3_0 : decode prog_42_method_3_code 0 = .ok (.aload_n 0, 1) := by decide +kernel
theorem dpg3_1 : decode prog_42_method_3_code 1 = .ok (.getfield 7, 3) := by decide +kernel
theorem dpg3_4 : decode prog_42_method_3_code 4 = .ok (.iload_n 1, 1) := by decide +kernel
theorem dpg3_5 : decode prog_42_method_3_code 5 = .ok (.iaload, 1) := by decide +kernel
theorem dpg3_6 : decode prog_42_method_3_code 6 = .ok (.ireturn, 1) := by decide +kernel
theorem pnpg3 : plainName "com/example/nearmark/nearmark/paging/Requests" = true := by first | (simp [plainName, overriddenIn]; done) | decide +kernel
theorem efpg3 (m : MethodId) (o0 : Addr) : entryFrame m #[(.ref o0), (.int (3 : Int32))] 2 = mkF m 0 #[.val (.ref o0), .val (.int (3 : Int32))] [] := by first | (simp [entryFrame, mkF, argsToLocals, Value.category]; done) | rfl
def Qpg3 (Z : State) (o0 : Addr) (op : Addr) (ka : ClassId) (x0 : Int32) (x1 : Int32) (x2 : Int32) (x3 : Int32) (x4 : Int32) (h0 : Heap) (n0 : Nat) (v : Option Value) (h : Heap) (L : List Loc) : Prop := v = some (.int x3) ∧ Fr n0 L ∧ h = h0
set_option maxRecDepth 65536 in
set_option maxHeartbeats 40000000 in
theorem rmpg3 (l : Launch) (Z : State) (a0 : Array Value) (hw : ∀ d ∈ tables_1, d.before a0 Z = true) (ws : List Jvm.Cond) (o0 : Addr) (op : Addr) (ka : ClassId) (x0 : Int32) (x1 : Int32) (x2 : Int32) (x3 : Int32) (x4 : Int32) (h0 : Heap) (n0 : Nat) (Z0 : n0 ≤ h0.size) (F_o0_pages : Fld Z h0 o0 "com/example/nearmark/nearmark/paging/Requests" "pages" "[I" (.ref op)) (V_op : Arv Z h0 op ka .int (5 : Int32) [(.int x0), (.int x1), (.int x2), (.int x3), (.int x4)] (.int (0 : Int32))) :
    MetFree l (⟨"com/example/nearmark/nearmark/paging/Requests", "page", "(I)I"⟩ : MethodName) (head1 (Jvm.Cond.code (⟨"com/example/nearmark/nearmark/paging/Requests", "page", "(I)I"⟩ : MethodName) prog_42_method_3_code 2 (some .int) :: ws) ({ frames := 0, cells := 0, slots := 0, locals := 0 } : Room)) (fun a U => a = #[(.ref o0), (.int (3 : Int32))] ∧ Z.Warmed39 U.vm ∧ U.heap = h0) (fun _ _ _ _ _ => True) (fun _ U o U' => ∃ v L, o = .returned v ∧ Qpg3 Z o0 op ka x0 x1 x2 x3 x4 h0 n0 v U'.heap L ∧ FrameEnd U o U' L ({ frames := 0, cells := 0, slots := 0, locals := 0 } : Room).cells ({ frames := 0, cells := 0, slots := 0, locals := 0 } : Room).slots) := by
  refine MetFree.of_bodySF (plainFor_of_name pnpg3) hisR ?_
  intro p e s m args below meth c s₁ Bd hml0 hP hK
  obtain ⟨rfl, hZ, hh⟩ := hP
  have hlk : meth.locks = false := BodyLoose.notSynchronized Bd
  have hx := Bd.exec
  have hby := Bd.bytes
  have hml : c.maxLocals = 2 := hml0
  have hown : s.vm.findClass "com/example/nearmark/nearmark/paging/Requests" = some m.cls := findClass_of_methodNamed Bd.named
  have hnm := (name_of_methodNamed Bd.named Bd.method).1
  have X0 : Stand p l e ({ frames := 0, cells := 0, slots := 0, locals := 0 } : Room) s m #[(.ref o0), (.int (3 : Int32))] below meth c s₁ [] 0 0 := Stand.of_body Bd
  have e0 : s₁.heap = h0 := by rw [← hh, Bd.state]; rfl
  have N0 := Fr.nil n0
  obtain ⟨S0, hS0⟩ : ∃ S0, S0 = s₁.setTop (entryFrame m #[(.ref o0), (.int (3 : Int32))] 2) := ⟨_, rfl⟩
  have pre0 : ∀ t, Steps p.tables e below (s₁.setTop (mkF m 0 #[.val (.ref o0), .val (.int (3 : Int32))] [])) t → Steps p.tables e below S0 t := fun t k => by rw [hS0]; exact castTop (efpg3 m o0) k
  have K1 : ∀ t, Steps p.tables e below (s₁.setTop (mkF m 1 #[.val (.ref o0), .val (.int (3 : Int32))] [(.ref o0)])) t → Steps p.tables e below S0 t := fun t k => pre0 t (by
    refine XS.aloadN X0.here hx rfl (hb hby dpg3_0) rfl rfl ?_
    show Steps p.tables e below (s₁.setTop (mkF m 1 #[.val (.ref o0), .val (.int (3 : Int32))] [(.ref o0)])) _
    exact k)
  obtain ⟨T2, X2, e2, st2⟩ := getF X0 hx hZ hown (host := "") (Or.inl (hw _ (List.mem_of_getElem? (i := 18) rfl))) Via.refl e0 F_o0_pages (g := (mkF m 1 #[.val (.ref o0), .val (.int (3 : Int32))] [(.ref o0)])) rfl rfl (hb hby dpg3_1)
  have K2 : ∀ t, Steps p.tables e below (T2.setTop (mkF m 4 #[.val (.ref o0), .val (.int (3 : Int32))] [(.ref op)])) t → Steps p.tables e below S0 t := fun t k => K1 t (st2 t k)
  have K3 : ∀ t, Steps p.tables e below (T2.setTop (mkF m 5 #[.val (.ref o0), .val (.int (3 : Int32))] [(.int (3 : Int32)), (.ref op)])) t → Steps p.tables e below S0 t := fun t k => K2 t (by
    refine XS.iloadN X2.here hx rfl (hb hby dpg3_4) rfl ?_
    show Steps p.tables e below (T2.setTop (mkF m 5 #[.val (.ref o0), .val (.int (3 : Int32))] [(.int (3 : Int32)), (.ref op)])) _
    exact k)
  have K_4 : ∀ t, Steps p.tables e below (T2.setTop (mkF m 5 #[.val (.ref o0), .val (.int (3 : Int32))] [(.int (3 : Int32)), (.ref op)])) t → Steps p.tables e below S0 t := K3
  obtain ⟨cl5, Ar5, qa5, sa5, na5, ha5, ga5⟩ := id V_op
  have hin5 : ¬ ((3 : Int32) < 0 ∨ cl5.slots.size ≤ ((3 : Int32)).toNatClampNeg) := inb_of sa5 ⟨by decide, by decide⟩
  have hat5 : cl5.slots[((3 : Int32)).toNatClampNeg]? = some (.int x3) := Has.at ha5 hin5 rfl
  have K5 : ∀ t, Steps p.tables e below (T2.setTop (mkF m 6 #[.val (.ref o0), .val (.int (3 : Int32))] [(.int x3)])) t → Steps p.tables e below S0 t := fun t k => K_4 t (X2.iaload hx (j := (3 : Int32)) (v := (.int x3)) (by rw [e2]; exact Ar5.1) (State.isArrayOf_alike hZ.alike Ar5.2.1) Ar5.2.2 hin5 hat5 (g := (mkF m 5 #[.val (.ref o0), .val (.int (3 : Int32))] [(.int (3 : Int32)), (.ref op)])) rfl rfl (hb hby dpg3_5) _ k)
  obtain ⟨fs, hr, hrun, hended, hW, hsame⟩ := X2.leave (v := some (.int x3)) (fun h => by rw [Bd.returns] at h; cases h) hlk
  refine ⟨_, _, ?_, hrun, hended, _, _, rfl, ?_, ⟨_, rfl⟩, hW, hsame.mono (by decide) (by decide)⟩
  · rw [← hS0]; exact K5 _ (retI X2 hx Bd.returns (hb hby dpg3_6) hr)
  · show Qpg3 Z o0 op ka x0 x1 x2 x3 x4 h0 n0 _ T2.heap _
    rw [e2]
    exact ⟨rfl, N0, rfl⟩
theorem dpg4_0 : decode prog_42_method_3_code 0 = .ok (.aload_n 0, 1) := by decide +kernel
theorem dpg4_1 : decode prog_42_method_3_code 1 = .ok (.getfield 7, 3) := by decide +kernel
theorem dpg4_4 : decode prog_42_method_3_code 4 = .ok (.iload_n 1, 1) := by decide +kernel
theorem dpg4_5 : decode prog_42_method_3_code 5 = .ok (.iaload, 1) := by decide +kernel
theorem dpg4_6 : decode prog_42_method_3_code 6 = .ok (.ireturn, 1) := by decide +kernel
theorem pnpg4 : plainName "com/example/nearmark/nearmark/paging/Requests" = true := by first | (simp [plainName, overriddenIn]; done) | decide +kernel
theorem efpg4 (m : MethodId) (o0 : Addr) : entryFrame m #[(.ref o0), (.int (4 : Int32))] 2 = mkF m 0 #[.val (.ref o0), .val (.int (4 : Int32))] [] := by first | (simp [entryFrame, mkF, argsToLocals, Value.category]; done) | rfl
def Qpg4 (Z : State) (o0 : Addr) (op : Addr) (ka : ClassId) (x0 : Int32) (x1 : Int32) (x2 : Int32) (x3 : Int32) (x4 : Int32) (h0 : Heap) (n0 : Nat) (v : Option Value) (h : Heap) (L : List Loc) : Prop := v = some (.int x4) ∧ Fr n0 L ∧ h = h0
set_option maxRecDepth 65536 in
set_option maxHeartbeats 40000000 in
theorem rmpg4 (l : Launch) (Z : State) (a0 : Array Value) (hw : ∀ d ∈ tables_1, d.before a0 Z = true) (ws : List Jvm.Cond) (o0 : Addr) (op : Addr) (ka : ClassId) (x0 : Int32) (x1 : Int32) (x2 : Int32) (x3 : Int32) (x4 : Int32) (h0 : Heap) (n0 : Nat) (Z0 : n0 ≤ h0.size) (F_o0_pages : Fld Z h0 o0 "com/example/nearmark/nearmark/paging/Requests" "pages" "[I" (.ref op)) (V_op : Arv Z h0 op ka .int (5 : Int32) [(.int x0), (.int x1), (.int x2), (.int x3), (.int x4)] (.int (0 : Int32))) :
    MetFree l (⟨"com/example/nearmark/nearmark/paging/Requests", "page", "(I)I"⟩ : MethodName) (head1 (Jvm.Cond.code (⟨"com/example/nearmark/nearmark/paging/Requests", "page", "(I)I"⟩ : MethodName) prog_42_method_3_code 2 (some .int) :: ws) ({ frames := 0, cells := 0, slots := 0, locals := 0 } : Room)) (fun a U => a = #[(.ref o0), (.int (4 : Int32))] ∧ Z.Warmed39 U.vm ∧ U.heap = h0) (fun _ _ _ _ _ => True) (fun _ U o U' => ∃ v L, o = .returned v ∧ Qpg4 Z o0 op ka x0 x1 x2 x3 x4 h0 n0 v U'.heap L ∧ FrameEnd U o U' L ({ frames := 0, cells := 0, slots := 0, locals := 0 } : Room).cells ({ frames := 0, cells := 0, slots := 0, locals := 0 } : Room).slots) := by
  refine MetFree.of_bodySF (plainFor_of_name pnpg4) hisR ?_
  intro p e s m args below meth c s₁ Bd hml0 hP hK
  obtain ⟨rfl, hZ, hh⟩ := hP
  have hlk : meth.locks = false := BodyLoose.notSynchronized Bd
  have hx := Bd.exec
  have hby := Bd.bytes
  have hml : c.maxLocals = 2 := hml0
  have hown : s.vm.findClass "com/example/nearmark/nearmark/paging/Requests" = some m.cls := findClass_of_methodNamed Bd.named
  have hnm := (name_of_methodNamed Bd.named Bd.method).1
  have X0 : Stand p l e ({ frames := 0, cells := 0, slots := 0, locals := 0 } : Room) s m #[(.ref o0), (.int (4 : Int32))] below meth c s₁ [] 0 0 := Stand.of_body Bd
  have e0 : s₁.heap = h0 := by rw [← hh, Bd.state]; rfl
  have N0 := Fr.nil n0
  obtain ⟨S0, hS0⟩ : ∃ S0, S0 = s₁.setTop (entryFrame m #[(.ref o0), (.int (4 : Int32))] 2) := ⟨_, rfl⟩
  have pre0 : ∀ t, Steps p.tables e below (s₁.setTop (mkF m 0 #[.val (.ref o0), .val (.int (4 : Int32))] [])) t → Steps p.tables e below S0 t := fun t k => by rw [hS0]; exact castTop (efpg4 m o0) k
  have K1 : ∀ t, Steps p.tables e below (s₁.setTop (mkF m 1 #[.val (.ref o0), .val (.int (4 : Int32))] [(.ref o0)])) t → Steps p.tables e below S0 t := fun t k => pre0 t (by
    refine XS.aloadN X0.here hx rfl (hb hby dpg4_0) rfl rfl ?_
    show Steps p.tables e below (s₁.setTop (mkF m 1 #[.val (.ref o0), .val (.int (4 : Int32))] [(.ref o0)])) _
    exact k)
  obtain ⟨T2, X2, e2, st2⟩ := getF X0 hx hZ hown (host := "") (Or.inl (hw _ (List.mem_of_getElem? (i := 18) rfl))) Via.refl e0 F_o0_pages (g := (mkF m 1 #[.val (.ref o0), .val (.int (4 : Int32))] [(.ref o0)])) rfl rfl (hb hby dpg4_1)
  have K2 : ∀ t, Steps p.tables e below (T2.setTop (mkF m 4 #[.val (.ref o0), .val (.int (4 : Int32))] [(.ref op)])) t → Steps p.tables e below S0 t := fun t k => K1 t (st2 t k)
  have K3 : ∀ t, Steps p.tables e below (T2.setTop (mkF m 5 #[.val (.ref o0), .val (.int (4 : Int32))] [(.int (4 : Int32)), (.ref op)])) t → Steps p.tables e below S0 t := fun t k => K2 t (by
    refine XS.iloadN X2.here hx rfl (hb hby dpg4_4) rfl ?_
    show Steps p.tables e below (T2.setTop (mkF m 5 #[.val (.ref o0), .val (.int (4 : Int32))] [(.int (4 : Int32)), (.ref op)])) _
    exact k)
  have K_4 : ∀ t, Steps p.tables e below (T2.setTop (mkF m 5 #[.val (.ref o0), .val (.int (4 : Int32))] [(.int (4 : Int32)), (.ref op)])) t → Steps p.tables e below S0 t := K3
  obtain ⟨cl5, Ar5, qa5, sa5, na5, ha5, ga5⟩ := id V_op
  have hin5 : ¬ ((4 : Int32) < 0 ∨ cl5.slots.size ≤ ((4 : Int32)).toNatClampNeg) := inb_of sa5 ⟨by decide, by decide⟩
  have hat5 : cl5.slots[((4 : Int32)).toNatClampNeg]? = some (.int x4) := Has.at ha5 hin5 rfl
  have K5 : ∀ t, Steps p.tables e below (T2.setTop (mkF m 6 #[.val (.ref o0), .val (.int (4 : Int32))] [(.int x4)])) t → Steps p.tables e below S0 t := fun t k => K_4 t (X2.iaload hx (j := (4 : Int32)) (v := (.int x4)) (by rw [e2]; exact Ar5.1) (State.isArrayOf_alike hZ.alike Ar5.2.1) Ar5.2.2 hin5 hat5 (g := (mkF m 5 #[.val (.ref o0), .val (.int (4 : Int32))] [(.int (4 : Int32)), (.ref op)])) rfl rfl (hb hby dpg4_5) _ k)
  obtain ⟨fs, hr, hrun, hended, hW, hsame⟩ := X2.leave (v := some (.int x4)) (fun h => by rw [Bd.returns] at h; cases h) hlk
  refine ⟨_, _, ?_, hrun, hended, _, _, rfl, ?_, ⟨_, rfl⟩, hW, hsame.mono (by decide) (by decide)⟩
  · rw [← hS0]; exact K5 _ (retI X2 hx Bd.returns (hb hby dpg4_6) hr)
  · show Qpg4 Z o0 op ka x0 x1 x2 x3 x4 h0 n0 _ T2.heap _
    rw [e2]
    exact ⟨rfl, N0, rfl⟩
theorem dct_0 : decode prog_42_method_2_code 0 = .ok (.aload_n 0, 1) := by decide +kernel
theorem dct_1 : decode prog_42_method_2_code 1 = .ok (.getfield 7, 3) := by decide +kernel
theorem dct_4 : decode prog_42_method_2_code 4 = .ok (.arraylength, 1) := by decide +kernel
theorem dct_5 : decode prog_42_method_2_code 5 = .ok (.ireturn, 1) := by decide +kernel
theorem pnct : plainName "com/example/nearmark/nearmark/paging/Requests" = true := by first | (simp [plainName, overriddenIn]; done) | decide +kernel
theorem efct (m : MethodId) (o0 : Addr) : entryFrame m #[(.ref o0)] 1 = mkF m 0 #[.val (.ref o0)] [] := by first | (simp [entryFrame, mkF, argsToLocals, Value.category]; done) | rfl
def Qct (Z : State) (o0 : Addr) (op : Addr) (ka : ClassId) (x0 : Int32) (x1 : Int32) (x2 : Int32) (x3 : Int32) (x4 : Int32) (h0 : Heap) (n0 : Nat) (v : Option Value) (h : Heap) (L : List Loc) : Prop := v = some (.int (5 : Int32)) ∧ Fr n0 L ∧ h = h0
set_option maxRecDepth 65536 in
set_option maxHeartbeats 40000000 in
theorem rmct (l : Launch) (Z : State) (a0 : Array Value) (hw : ∀ d ∈ tables_1, d.before a0 Z = true) (ws : List Jvm.Cond) (o0 : Addr) (op : Addr) (ka : ClassId) (x0 : Int32) (x1 : Int32) (x2 : Int32) (x3 : Int32) (x4 : Int32) (h0 : Heap) (n0 : Nat) (Z0 : n0 ≤ h0.size) (F_o0_pages : Fld Z h0 o0 "com/example/nearmark/nearmark/paging/Requests" "pages" "[I" (.ref op)) (V_op : Arv Z h0 op ka .int (5 : Int32) [(.int x0), (.int x1), (.int x2), (.int x3), (.int x4)] (.int (0 : Int32))) :
    MetFree l (⟨"com/example/nearmark/nearmark/paging/Requests", "count", "()I"⟩ : MethodName) (head1 (Jvm.Cond.code (⟨"com/example/nearmark/nearmark/paging/Requests", "count", "()I"⟩ : MethodName) prog_42_method_2_code 1 (some .int) :: ws) ({ frames := 0, cells := 0, slots := 0, locals := 0 } : Room)) (fun a U => a = #[(.ref o0)] ∧ Z.Warmed39 U.vm ∧ U.heap = h0) (fun _ _ _ _ _ => True) (fun _ U o U' => ∃ v L, o = .returned v ∧ Qct Z o0 op ka x0 x1 x2 x3 x4 h0 n0 v U'.heap L ∧ FrameEnd U o U' L ({ frames := 0, cells := 0, slots := 0, locals := 0 } : Room).cells ({ frames := 0, cells := 0, slots := 0, locals := 0 } : Room).slots) := by
  refine MetFree.of_bodySF (plainFor_of_name pnct) hisR ?_
  intro p e s m args below meth c s₁ Bd hml0 hP hK
  obtain ⟨rfl, hZ, hh⟩ := hP
  have hlk : meth.locks = false := BodyLoose.notSynchronized Bd
  have hx := Bd.exec
  have hby := Bd.bytes
  have hml : c.maxLocals = 1 := hml0
  have hown : s.vm.findClass "com/example/nearmark/nearmark/paging/Requests" = some m.cls := findClass_of_methodNamed Bd.named
  have hnm := (name_of_methodNamed Bd.named Bd.method).1
  have X0 : Stand p l e ({ frames := 0, cells := 0, slots := 0, locals := 0 } : Room) s m #[(.ref o0)] below meth c s₁ [] 0 0 := Stand.of_body Bd
  have e0 : s₁.heap = h0 := by rw [← hh, Bd.state]; rfl
  have N0 := Fr.nil n0
  obtain ⟨S0, hS0⟩ : ∃ S0, S0 = s₁.setTop (entryFrame m #[(.ref o0)] 1) := ⟨_, rfl⟩
  have pre0 : ∀ t, Steps p.tables e below (s₁.setTop (mkF m 0 #[.val (.ref o0)] [])) t → Steps p.tables e below S0 t := fun t k => by rw [hS0]; exact castTop (efct m o0) k
  have K1 : ∀ t, Steps p.tables e below (s₁.setTop (mkF m 1 #[.val (.ref o0)] [(.ref o0)])) t → Steps p.tables e below S0 t := fun t k => pre0 t (by
    refine XS.aloadN X0.here hx rfl (hb hby dct_0) rfl rfl ?_
    show Steps p.tables e below (s₁.setTop (mkF m 1 #[.val (.ref o0)] [(.ref o0)])) _
    exact k)
  obtain ⟨T2, X2, e2, st2⟩ := getF X0 hx hZ hown (host := "") (Or.inl (hw _ (List.mem_of_getElem? (i := 18) rfl))) Via.refl e0 F_o0_pages (g := (mkF m 1 #[.val (.ref o0)] [(.ref o0)])) rfl rfl (hb hby dct_1)
  have K2 : ∀ t, Steps p.tables e below (T2.setTop (mkF m 4 #[.val (.ref o0)] [(.ref op)])) t → Steps p.tables e below S0 t := fun t k => K1 t (st2 t k)
  obtain ⟨cl3, Ar3, qa3, sa3, na3, ha3, ga3⟩ := id V_op
  have K3 : ∀ t, Steps p.tables e below (T2.setTop (mkF m 5 #[.val (.ref o0)] [(.int (5 : Int32))])) t → Steps p.tables e below S0 t := fun t k => K2 t (X2.arraylength hx (by rw [e2]; exact Ar3.1) (State.isArrayOf_alike hZ.alike Ar3.2.1) (g := (mkF m 4 #[.val (.ref o0)] [(.ref op)])) rfl rfl (hb hby dct_4) _ (by rw [len_of sa3 na3]; exact k))
  obtain ⟨fs, hr, hrun, hended, hW, hsame⟩ := X2.leave (v := some (.int (5 : Int32))) (fun h => by rw [Bd.returns] at h; cases h) hlk
  refine ⟨_, _, ?_, hrun, hended, _, _, rfl, ?_, ⟨_, rfl⟩, hW, hsame.mono (by decide) (by decide)⟩
  · rw [← hS0]; exact K3 _ (retI X2 hx Bd.returns (hb hby dct_5) hr)
  · show Qct Z o0 op ka x0 x1 x2 x3 x4 h0 n0 _ T2.heap _
    rw [e2]
    exact ⟨rfl, N0, rfl⟩
theorem drk0_0 : decode prog_38_method_2_code 0 = .ok (.aload_n 0, 1) := by decide +kernel
theorem drk0_1 : decode prog_38_method_2_code 1 = .ok (.getfield 7, 3) := by decide +kernel
theorem drk0_4 : decode prog_38_method_2_code 4 = .ok (.iload_n 1, 1) := by decide +kernel
theorem drk0_5 : decode prog_38_method_2_code 5 = .ok (.invokevirtual 29, 3) := by decide +kernel
theorem drk0_8 : decode prog_38_method_2_code 8 = .ok (.istore 5, 2) := by decide +kernel
theorem drk0_10 : decode prog_38_method_2_code 10 = .ok (.aload_n 0, 1) := by decide +kernel
theorem drk0_11 : decode prog_38_method_2_code 11 = .ok (.getfield 19, 3) := by decide +kernel
theorem drk0_14 : decode prog_38_method_2_code 14 = .ok (.iload 5, 2) := by decide +kernel
theorem drk0_16 : decode prog_38_method_2_code 16 = .ok (.iaload, 1) := by decide +kernel
theorem drk0_17 : decode prog_38_method_2_code 17 = .ok (.istore 6, 2) := by decide +kernel
theorem drk0_19 : decode prog_38_method_2_code 19 = .ok (.aload_n 0, 1) := by decide +kernel
theorem drk0_20 : decode prog_38_method_2_code 20 = .ok (.getfield 19, 3) := by decide +kernel
theorem drk0_23 : decode prog_38_method_2_code 23 = .ok (.iload 5, 2) := by decide +kernel
theorem drk0_25 : decode prog_38_method_2_code 25 = .ok (.iload_n 1, 1) := by decide +kernel
theorem drk0_26 : decode prog_38_method_2_code 26 = .ok (.iastore, 1) := by decide +kernel
theorem drk0_27 : decode prog_38_method_2_code 27 = .ok (.iload 6, 2) := by decide +kernel
theorem drk0_29 : decode prog_38_method_2_code 29 = .ok (.ifCond .ge 10, 3) := by decide +kernel
theorem drk0_32 : decode prog_38_method_2_code 32 = .ok (.iload_n 1, 1) := by decide +kernel
theorem drk0_33 : decode prog_38_method_2_code 33 = .ok (.i2l, 1) := by decide +kernel
theorem drk0_34 : decode prog_38_method_2_code 34 = .ok (.lstore 7, 2) := by decide +kernel
theorem drk0_36 : decode prog_38_method_2_code 36 = .ok (.goto 17, 3) := by decide +kernel
theorem drk0_39 : decode prog_38_method_2_code 39 = .ok (.aload_n 0, 1) := by decide +kernel
theorem drk0_40 : decode prog_38_method_2_code 40 = .ok (.getfield 7, 3) := by decide +kernel
theorem drk0_43 : decode prog_38_method_2_code 43 = .ok (.invokevirtual 33, 3) := by decide +kernel
theorem drk0_46 : decode prog_38_method_2_code 46 = .ok (.i2l, 1) := by decide +kernel
theorem drk0_47 : decode prog_38_method_2_code 47 = .ok (.iload 6, 2) := by decide +kernel
theorem drk0_49 : decode prog_38_method_2_code 49 = .ok (.i2l, 1) := by decide +kernel
theorem drk0_50 : decode prog_38_method_2_code 50 = .ok (.ladd, 1) := by decide +kernel
theorem drk0_51 : decode prog_38_method_2_code 51 = .ok (.lstore 7, 2) := by decide +kernel
theorem drk0_53 : decode prog_38_method_2_code 53 = .ok (.lload 7, 2) := by decide +kernel
theorem drk0_55 : decode prog_38_method_2_code 55 = .ok (.lreturn, 1) := by decide +kernel
theorem pnrk0 : plainName "com/example/nearmark/nearmark/paging/LeastRecentlyUsed2" = true := by first | (simp [plainName, overriddenIn]; done) | decide +kernel
theorem pdrk0_0 : parseMethodDescriptor "(I)I" = some ⟨[.int], some .int⟩ := by decide +kernel
theorem pdrk0_1 : parseMethodDescriptor "()I" = some ⟨[], some .int⟩ := by decide +kernel
theorem efrk0 (m : MethodId) (o0 : Addr) (p2 : Int32) (q3 : Int64) : entryFrame m #[(.ref o0), (.int (0 : Int32)), (.int p2), (.long q3)] 9 = mkF m 0 #[.val (.ref o0), .val (.int (0 : Int32)), .val (.int p2), .val (.long q3), .second, .unset, .unset, .unset, .unset] [] := by first | (simp [entryFrame, mkF, argsToLocals, Value.category]; done) | rfl
def Qrk0 (Z : State) (o0 : Addr) (p2 : Int32) (q3 : Int64) (orq : Addr) (op : Addr) (ol : Addr) (ka : ClassId) (kl : ClassId) (zm : Int32) (x0 : Int32) (x1 : Int32) (x2 : Int32) (x3 : Int32) (x4 : Int32) (l0 : Int32) (l1 : Int32) (l2 : Int32) (l3 : Int32) (l4 : Int32) (h0 : Heap) (n0 : Nat) (v : Option Value) (h : Heap) (L : List Loc) : Prop := v = some (.long (wrk0_r8 x0 l0 l1 l2 l3 l4)) ∧ Fr n0 L ∧ Keep h0 h [ol] ∧ Arv Z h ol kl .int zm [(.int (wrk0_2 x0 l0)), (.int (wrk0_3 x0 l1)), (.int (wrk0_4 x0 l2)), (.int (wrk0_5 x0 l3)), (.int (wrk0_6 x0 l4))] (.int (0 : Int32))
set_option maxRecDepth 65536 in
set_option maxHeartbeats 40000000 in
theorem rmrk0 (l : Launch) (Z : State) (a0 : Array Value) (hw : ∀ d ∈ tables_1, d.before a0 Z = true) (ws : List Jvm.Cond) (o0 : Addr) (p2 : Int32) (q3 : Int64) (orq : Addr) (op : Addr) (ol : Addr) (ka : ClassId) (kl : ClassId) (zm : Int32) (x0 : Int32) (x1 : Int32) (x2 : Int32) (x3 : Int32) (x4 : Int32) (l0 : Int32) (l1 : Int32) (l2 : Int32) (l3 : Int32) (l4 : Int32) (h0 : Heap) (n0 : Nat) (Z0 : n0 ≤ h0.size) (F_o0_requests : Fld Z h0 o0 "com/example/nearmark/nearmark/paging/LeastRecentlyUsed2" "requests" "Lcom/example/nearmark/nearmark/paging/Requests;" (.ref orq)) (F_o0_lastRequest : Fld Z h0 o0 "com/example/nearmark/nearmark/paging/LeastRecentlyUsed2" "lastRequest" "[I" (.ref ol)) (E_orq : Exa Z h0 orq "com/example/nearmark/nearmark/paging/Requests") (F_orq_pages : Fld Z h0 orq "com/example/nearmark/nearmark/paging/Requests" "pages" "[I" (.ref op)) (V_op : Arv Z h0 op ka .int (5 : Int32) [(.int x0), (.int x1), (.int x2), (.int x3), (.int x4)] (.int (0 : Int32))) (V_ol : Arv Z h0 ol kl .int zm [(.int l0), (.int l1), (.int l2), (.int l3), (.int l4)] (.int (0 : Int32))) (g_ol : n0 ≤ ol) (hin : ¬ x0 < 0 ∧ x0 < zm) (hz : ¬ (5 : Int32) < zm) (ne_o0_ol : o0 ≠ ol) (ne_orq_ol : orq ≠ ol) (ne_op_ol : op ≠ ol) :
    MetFree l (⟨"com/example/nearmark/nearmark/paging/LeastRecentlyUsed2", "rank", "(IZJ)J"⟩ : MethodName) (head1 (Jvm.Cond.code (⟨"com/example/nearmark/nearmark/paging/LeastRecentlyUsed2", "rank", "(IZJ)J"⟩ : MethodName) prog_38_method_2_code 9 (some .long) :: ws) ({ frames := 1, cells := 0, slots := 0, locals := 13 } : Room)) (fun a U => a = #[(.ref o0), (.int (0 : Int32)), (.int p2), (.long q3)] ∧ Z.Warmed39 U.vm ∧ U.heap = h0) (fun _ _ _ _ _ => True) (fun _ U o U' => ∃ v L, o = .returned v ∧ Qrk0 Z o0 p2 q3 orq op ol ka kl zm x0 x1 x2 x3 x4 l0 l1 l2 l3 l4 h0 n0 v U'.heap L ∧ FrameEnd U o U' L ({ frames := 1, cells := 0, slots := 0, locals := 13 } : Room).cells ({ frames := 1, cells := 0, slots := 0, locals := 13 } : Room).slots) := by
  refine MetFree.of_bodySF (plainFor_of_name pnrk0) hisR ?_
  intro p e s m args below meth c s₁ Bd hml0 hP hK
  obtain ⟨rfl, hZ, hh⟩ := hP
  have hlk : meth.locks = false := BodyLoose.notSynchronized Bd
  have hx := Bd.exec
  have hby := Bd.bytes
  have hml : c.maxLocals = 9 := hml0
  have hown : s.vm.findClass "com/example/nearmark/nearmark/paging/LeastRecentlyUsed2" = some m.cls := findClass_of_methodNamed Bd.named
  have hnm := (name_of_methodNamed Bd.named Bd.method).1
  have X0 : Stand p l e ({ frames := 1, cells := 0, slots := 0, locals := 13 } : Room) s m #[(.ref o0), (.int (0 : Int32)), (.int p2), (.long q3)] below meth c s₁ [] 0 0 := Stand.of_body Bd
  have e0 : s₁.heap = h0 := by rw [← hh, Bd.state]; rfl
  have N0 := Fr.nil n0
  obtain ⟨S0, hS0⟩ : ∃ S0, S0 = s₁.setTop (entryFrame m #[(.ref o0), (.int (0 : Int32)), (.int p2), (.long q3)] 9) := ⟨_, rfl⟩
  have pre0 : ∀ t, Steps p.tables e below (s₁.setTop (mkF m 0 #[.val (.ref o0), .val (.int (0 : Int32)), .val (.int p2), .val (.long q3), .second, .unset, .unset, .unset, .unset] [])) t → Steps p.tables e below S0 t := fun t k => by rw [hS0]; exact castTop (efrk0 m o0 p2 q3) k
  have K1 : ∀ t, Steps p.tables e below (s₁.setTop (mkF m 1 #[.val (.ref o0), .val (.int (0 : Int32)), .val (.int p2), .val (.long q3), .second, .unset, .unset, .unset, .unset] [(.ref o0)])) t → Steps p.tables e below S0 t := fun t k => pre0 t (by
    refine XS.aloadN X0.here hx rfl (hb hby drk0_0) rfl rfl ?_
    show Steps p.tables e below (s₁.setTop (mkF m 1 #[.val (.ref o0), .val (.int (0 : Int32)), .val (.int p2), .val (.long q3), .second, .unset, .unset, .unset, .unset] [(.ref o0)])) _
    exact k)
  obtain ⟨T2, X2, e2, st2⟩ := getF X0 hx hZ hown (host := "") (Or.inl (hw _ (List.mem_of_getElem? (i := 29) rfl))) Via.refl e0 F_o0_requests (g := (mkF m 1 #[.val (.ref o0), .val (.int (0 : Int32)), .val (.int p2), .val (.long q3), .second, .unset, .unset, .unset, .unset] [(.ref o0)])) rfl rfl (hb hby drk0_1)
  have K2 : ∀ t, Steps p.tables e below (T2.setTop (mkF m 4 #[.val (.ref o0), .val (.int (0 : Int32)), .val (.int p2), .val (.long q3), .second, .unset, .unset, .unset, .unset] [(.ref orq)])) t → Steps p.tables e below S0 t := fun t k => K1 t (st2 t k)
  have K3 : ∀ t, Steps p.tables e below (T2.setTop (mkF m 5 #[.val (.ref o0), .val (.int (0 : Int32)), .val (.int p2), .val (.long q3), .second, .unset, .unset, .unset, .unset] [(.int (0 : Int32)), (.ref orq)])) t → Steps p.tables e below S0 t := fun t k => K2 t (by
    refine XS.iloadN X2.here hx rfl (hb hby drk0_4) rfl ?_
    show Steps p.tables e below (T2.setTop (mkF m 5 #[.val (.ref o0), .val (.int (0 : Int32)), .val (.int p2), .val (.long q3), .second, .unset, .unset, .unset, .unset] [(.int (0 : Int32)), (.ref orq)])) _
    exact k)
  have K_4 : ∀ t, Steps p.tables e below (T2.setTop (mkF m 5 #[.val (.ref o0), .val (.int (0 : Int32)), .val (.int p2), .val (.long q3), .second, .unset, .unset, .unset, .unset] [(.int (0 : Int32)), (.ref orq)])) t → Steps p.tables e below S0 t := K3
  obtain ⟨cq5, kq5, q5a, q5b, q5c⟩ := isOf hZ e2 E_orq
  obtain ⟨_, _, ⟨T5, L5, k5, n5⟩, -, X5, ⟨Lc5, hQ5, l5, y5, z5⟩, st5⟩ := X2.virtualBack hx (y := (⟨"com/example/nearmark/nearmark/paging/Requests", "page", "(I)I"⟩ : MethodName)) (z := (⟨"com/example/nearmark/nearmark/paging/Requests", "page", "(I)I"⟩ : MethodName)) hown (mvT hZ (hw _ (List.mem_of_getElem? (i := 47) rfl))) (mvT hZ (hw _ (List.mem_of_getElem? (i := 48) rfl))) (notFace_of_selects (args := #[]) (mvT hZ (hw _ (List.mem_of_getElem? (i := 50) rfl)))) (mvT hZ (hw _ (List.mem_of_getElem? (i := 50) rfl))) (mvT hZ (hw _ (List.mem_of_getElem? (i := 49) rfl))) (by decide) (backOf (W := 0) (rmpg0 l Z a0 hw [] orq op ka x0 x1 x2 x3 x4 h0 n0 Z0 F_orq_pages V_op) hZ (hw _ (List.mem_of_getElem? (i := 51) rfl)) (hw _ (List.mem_of_getElem? (i := 11) rfl)) (by decide) (by decide)) q5a q5c (g := (mkF m 5 #[.val (.ref o0), .val (.int (0 : Int32)), .val (.int p2), .val (.long q3), .second, .unset, .unset, .unset, .unset] [(.int (0 : Int32)), (.ref orq)])) rfl (by rw [hml]; rfl) (Steps.refl _) (argsL := [(.int (0 : Int32))]) (rest := []) (lenOf pdrk0_0 rfl) rfl (by show 2 * 0 + _ ≤ _; exact Nat.le_of_eq rfl) (hb hby drk0_5) (fun _ _ => ⟨rfl, e2, (by decide : 0 + 0 ≤ 0), (by decide : 0 + 0 ≤ 0)⟩)
  dsimp only [Pt.U, Pt.locs, Pt.cells, Pt.slots] at X5 l5 y5 z5 st5 hQ5
  subst l5 y5 z5
  obtain ⟨rfl, N5q, e5⟩ := hQ5
  have N5 := Fr.app N0 N5q
  have K5 : ∀ t, Steps p.tables e below (T5.setTop (mkF m 8 #[.val (.ref o0), .val (.int (0 : Int32)), .val (.int p2), .val (.long q3), .second, .unset, .unset, .unset, .unset] [(.int x0)])) t → Steps p.tables e below S0 t := fun t k => K_4 t (st5.trans k)
  have K6 : ∀ t, Steps p.tables e below (T5.setTop (mkF m 11 #[.val (.ref o0), .val (.int (0 : Int32)), .val (.int p2), .val (.long q3), .second, .val (.int x0), .unset, .unset, .unset] [(.ref o0)])) t → Steps p.tables e below S0 t := fun t k => K5 t (by
    refine XS.istore X5.here hx rfl (hb hby drk0_8) rfl (l' := #[.val (.ref o0), .val (.int (0 : Int32)), .val (.int p2), .val (.long q3), .second, .val (.int x0), .unset, .unset, .unset]) rfl ?_
    show Steps p.tables e below (T5.setTop (mkF m 10 #[.val (.ref o0), .val (.int (0 : Int32)), .val (.int p2), .val (.long q3), .second, .val (.int x0), .unset, .unset, .unset] [])) _
    refine XS.aloadN X5.here hx rfl (hb hby drk0_10) rfl rfl ?_
    show Steps p.tables e below (T5.setTop (mkF m 11 #[.val (.ref o0), .val (.int (0 : Int32)), .val (.int p2), .val (.long q3), .second, .val (.int x0), .unset, .unset, .unset] [(.ref o0)])) _
    exact k)
  obtain ⟨T7, X7, e7, st7⟩ := getF X5 hx hZ hown (host := "") (Or.inl (hw _ (List.mem_of_getElem? (i := 36) rfl))) Via.refl e5 F_o0_lastRequest (g := (mkF m 11 #[.val (.ref o0), .val (.int (0 : Int32)), .val (.int p2), .val (.long q3), .second, .val (.int x0), .unset, .unset, .unset] [(.ref o0)])) rfl rfl (hb hby drk0_11)
  have K7 : ∀ t, Steps p.tables e below (T7.setTop (mkF m 14 #[.val (.ref o0), .val (.int (0 : Int32)), .val (.int p2), .val (.long q3), .second, .val (.int x0), .unset, .unset, .unset] [(.ref ol)])) t → Steps p.tables e below S0 t := fun t k => K6 t (st7 t k)
  have K8 : ∀ t, Steps p.tables e below (T7.setTop (mkF m 16 #[.val (.ref o0), .val (.int (0 : Int32)), .val (.int p2), .val (.long q3), .second, .val (.int x0), .unset, .unset, .unset] [(.int x0), (.ref ol)])) t → Steps p.tables e below S0 t := fun t k => K7 t (by
    refine XS.iload X7.here hx rfl (hb hby drk0_14) rfl ?_
    show Steps p.tables e below (T7.setTop (mkF m 16 #[.val (.ref o0), .val (.int (0 : Int32)), .val (.int p2), .val (.long q3), .second, .val (.int x0), .unset, .unset, .unset] [(.int x0), (.ref ol)])) _
    exact k)
  have K_9 : ∀ t, Steps p.tables e below (T7.setTop (mkF m 16 #[.val (.ref o0), .val (.int (0 : Int32)), .val (.int p2), .val (.long q3), .second, .val (.int x0), .unset, .unset, .unset] [(.int x0), (.ref ol)])) t → Steps p.tables e below S0 t := K8
  obtain ⟨cl10, Ar10, qa10, sa10, na10, ha10, ga10⟩ := id V_ol
  have hin10 : ¬ (x0 < 0 ∨ cl10.slots.size ≤ (x0).toNatClampNeg) := inb_of sa10 hin
  have hat10 : cl10.slots[(x0).toNatClampNeg]? = some (.int (own_get [l0, l1, l2, l3, l4] x0)) := Has.at ha10 hin10 (own_getD [l0, l1, l2, l3, l4] x0)
  have K10 : ∀ t, Steps p.tables e below (T7.setTop (mkF m 17 #[.val (.ref o0), .val (.int (0 : Int32)), .val (.int p2), .val (.long q3), .second, .val (.int x0), .unset, .unset, .unset] [(.int (own_get [l0, l1, l2, l3, l4] x0))])) t → Steps p.tables e below S0 t := fun t k => K_9 t (X7.iaload hx (j := x0) (v := (.int (own_get [l0, l1, l2, l3, l4] x0))) (by rw [e7]; exact Ar10.1) (State.isArrayOf_alike hZ.alike Ar10.2.1) Ar10.2.2 hin10 hat10 (g := (mkF m 16 #[.val (.ref o0), .val (.int (0 : Int32)), .val (.int p2), .val (.long q3), .second, .val (.int x0), .unset, .unset, .unset] [(.int x0), (.ref ol)])) rfl rfl (hb hby drk0_16) _ k)
  have K11 : ∀ t, Steps p.tables e below (T7.setTop (mkF m 20 #[.val (.ref o0), .val (.int (0 : Int32)), .val (.int p2), .val (.long q3), .second, .val (.int x0), .val (.int (wrk0_1 x0 l0 l1 l2 l3 l4)), .unset, .unset] [(.ref o0)])) t → Steps p.tables e below S0 t := fun t k => K10 t (by
    refine XS.istore X7.here hx rfl (hb hby drk0_17) rfl (l' := #[.val (.ref o0), .val (.int (0 : Int32)), .val (.int p2), .val (.long q3), .second, .val (.int x0), .val (.int (wrk0_1 x0 l0 l1 l2 l3 l4)), .unset, .unset]) rfl ?_
    show Steps p.tables e below (T7.setTop (mkF m 19 #[.val (.ref o0), .val (.int (0 : Int32)), .val (.int p2), .val (.long q3), .second, .val (.int x0), .val (.int (wrk0_1 x0 l0 l1 l2 l3 l4)), .unset, .unset] [])) _
    refine XS.aloadN X7.here hx rfl (hb hby drk0_19) rfl rfl ?_
    show Steps p.tables e below (T7.setTop (mkF m 20 #[.val (.ref o0), .val (.int (0 : Int32)), .val (.int p2), .val (.long q3), .second, .val (.int x0), .val (.int (wrk0_1 x0 l0 l1 l2 l3 l4)), .unset, .unset] [(.ref o0)])) _
    exact k)
  obtain ⟨T12, X12, e12, st12⟩ := getF X7 hx hZ hown (host := "") (Or.inl (hw _ (List.mem_of_getElem? (i := 36) rfl))) Via.refl e7 F_o0_lastRequest (g := (mkF m 20 #[.val (.ref o0), .val (.int (0 : Int32)), .val (.int p2), .val (.long q3), .second, .val (.int x0), .val (.int (wrk0_1 x0 l0 l1 l2 l3 l4)), .unset, .unset] [(.ref o0)])) rfl rfl (hb hby drk0_20)
  have K12 : ∀ t, Steps p.tables e below (T12.setTop (mkF m 23 #[.val (.ref o0), .val (.int (0 : Int32)), .val (.int p2), .val (.long q3), .second, .val (.int x0), .val (.int (wrk0_1 x0 l0 l1 l2 l3 l4)), .unset, .unset] [(.ref ol)])) t → Steps p.tables e below S0 t := fun t k => K11 t (st12 t k)
  have K13 : ∀ t, Steps p.tables e below (T12.setTop (mkF m 26 #[.val (.ref o0), .val (.int (0 : Int32)), .val (.int p2), .val (.long q3), .second, .val (.int x0), .val (.int (wrk0_1 x0 l0 l1 l2 l3 l4)), .unset, .unset] [(.int (0 : Int32)), (.int x0), (.ref ol)])) t → Steps p.tables e below S0 t := fun t k => K12 t (by
    refine XS.iload X12.here hx rfl (hb hby drk0_23) rfl ?_
    show Steps p.tables e below (T12.setTop (mkF m 25 #[.val (.ref o0), .val (.int (0 : Int32)), .val (.int p2), .val (.long q3), .second, .val (.int x0), .val (.int (wrk0_1 x0 l0 l1 l2 l3 l4)), .unset, .unset] [(.int x0), (.ref ol)])) _
    refine XS.iloadN X12.here hx rfl (hb hby drk0_25) rfl ?_
    show Steps p.tables e below (T12.setTop (mkF m 26 #[.val (.ref o0), .val (.int (0 : Int32)), .val (.int p2), .val (.long q3), .second, .val (.int x0), .val (.int (wrk0_1 x0 l0 l1 l2 l3 l4)), .unset, .unset] [(.int (0 : Int32)), (.int x0), (.ref ol)])) _
    exact k)
  have K_14 : ∀ t, Steps p.tables e below (T12.setTop (mkF m 26 #[.val (.ref o0), .val (.int (0 : Int32)), .val (.int p2), .val (.long q3), .second, .val (.int x0), .val (.int (wrk0_1 x0 l0 l1 l2 l3 l4)), .unset, .unset] [(.int (0 : Int32)), (.int x0), (.ref ol)])) t → Steps p.tables e below S0 t := K13
  obtain ⟨cl15, Ar15, qa15, sa15, na15, ha15, ga15⟩ := id V_ol
  have hin15 : ¬ (x0 < 0 ∨ cl15.slots.size ≤ (x0).toNatClampNeg) := inb_of sa15 hin
  obtain ⟨T15, h15, X15, e15, W15, st15⟩ := stI X12 hx hZ e12 Ar15 (j := x0) hin15 (g := (mkF m 26 #[.val (.ref o0), .val (.int (0 : Int32)), .val (.int p2), .val (.long q3), .second, .val (.int x0), .val (.int (wrk0_1 x0 l0 l1 l2 l3 l4)), .unset, .unset] [(.int (0 : Int32)), (.int x0), (.ref ol)])) rfl rfl (hb hby drk0_26)
  have V_ol__15 : Arv Z h15 ol kl .int zm [(.int (wrk0_2 x0 l0)), (.int (wrk0_3 x0 l1)), (.int (wrk0_4 x0 l2)), (.int (wrk0_5 x0 l3)), (.int (wrk0_6 x0 l4))] (.int (0 : Int32)) := (Arv.set Ar15 qa15 sa15 na15 ha15 ga15 rfl W15 (x0).toNatClampNeg rfl (own_lt5 hin hz)).pad (own_upd5 l0 l1 l2 l3 l4 x0 (0 : Int32) (hin).1)
  have F_o0_requests__15 := F_o0_requests.other W15 (Or.inl ne_o0_ol)
  have F_o0_lastRequest__15 := F_o0_lastRequest.other W15 (Or.inl ne_o0_ol)
  have E_orq__15 := E_orq.wr W15
  have F_orq_pages__15 := F_orq_pages.other W15 (Or.inl ne_orq_ol)
  have V_op__15 := V_op.other W15 ne_op_ol
  have N15 := Fr.snoc X15 N5 g_ol
  have Zs15 : n0 ≤ h15.size := Nat.le_trans Z0 (Nat.le_of_eq W15.size.symm)
  have Kc15 : Keep h0 h15 [ol] := (Keep.refl h0 [ol]).wr W15 (Or.inl (List.mem_of_getElem? (i := 0) rfl))
  have K15 : ∀ t, Steps p.tables e below (T15.setTop (mkF m 27 #[.val (.ref o0), .val (.int (0 : Int32)), .val (.int p2), .val (.long q3), .second, .val (.int x0), .val (.int (wrk0_1 x0 l0 l1 l2 l3 l4)), .unset, .unset] [])) t → Steps p.tables e below S0 t := fun t k => K_14 t (st15 t k)
  have K16 : ∀ t, Steps p.tables e below (T15.setTop (mkF m 29 #[.val (.ref o0), .val (.int (0 : Int32)), .val (.int p2), .val (.long q3), .second, .val (.int x0), .val (.int (wrk0_1 x0 l0 l1 l2 l3 l4)), .unset, .unset] [(.int (wrk0_1 x0 l0 l1 l2 l3 l4))])) t → Steps p.tables e below S0 t := fun t k => K15 t (by
    refine XS.iload X15.here hx rfl (hb hby drk0_27) rfl ?_
    show Steps p.tables e below (T15.setTop (mkF m 29 #[.val (.ref o0), .val (.int (0 : Int32)), .val (.int p2), .val (.long q3), .second, .val (.int x0), .val (.int (wrk0_1 x0 l0 l1 l2 l3 l4)), .unset, .unset] [(.int (wrk0_1 x0 l0 l1 l2 l3 l4))])) _
    exact k)
  by_cases hc29_0 : (wrk0_1 x0 l0 l1 l2 l3 l4) < (0 : Int32)
  · -- yes
    have K17 : ∀ t, Steps p.tables e below (T15.setTop (mkF m 55 #[.val (.ref o0), .val (.int (0 : Int32)), .val (.int p2), .val (.long q3), .second, .val (.int x0), .val (.int (wrk0_1 x0 l0 l1 l2 l3 l4)), .val (.long (0 : Int64)), .second] [(.long (0 : Int64))])) t → Steps p.tables e below S0 t := fun t k => K16 t (by
      refine XS.ifNo X15.here hx rfl (hb hby drk0_29) rfl (XT.i0_ge_f hc29_0) ?_
      show Steps p.tables e below (T15.setTop (mkF m 32 #[.val (.ref o0), .val (.int (0 : Int32)), .val (.int p2), .val (.long q3), .second, .val (.int x0), .val (.int (wrk0_1 x0 l0 l1 l2 l3 l4)), .unset, .unset] [])) _
      refine XS.iloadN X15.here hx rfl (hb hby drk0_32) rfl ?_
      show Steps p.tables e below (T15.setTop (mkF m 33 #[.val (.ref o0), .val (.int (0 : Int32)), .val (.int p2), .val (.long q3), .second, .val (.int x0), .val (.int (wrk0_1 x0 l0 l1 l2 l3 l4)), .unset, .unset] [(.int (0 : Int32))])) _
      refine XS.i2l X15.here hx rfl (hb hby drk0_33) rfl ?_
      show Steps p.tables e below (T15.setTop (mkF m 34 #[.val (.ref o0), .val (.int (0 : Int32)), .val (.int p2), .val (.long q3), .second, .val (.int x0), .val (.int (wrk0_1 x0 l0 l1 l2 l3 l4)), .unset, .unset] [(.long (0 : Int64))])) _
      refine XS.lstore X15.here hx rfl (hb hby drk0_34) rfl (l' := #[.val (.ref o0), .val (.int (0 : Int32)), .val (.int p2), .val (.long q3), .second, .val (.int x0), .val (.int (wrk0_1 x0 l0 l1 l2 l3 l4)), .val (.long (0 : Int64)), .second]) rfl ?_
      show Steps p.tables e below (T15.setTop (mkF m 36 #[.val (.ref o0), .val (.int (0 : Int32)), .val (.int p2), .val (.long q3), .second, .val (.int x0), .val (.int (wrk0_1 x0 l0 l1 l2 l3 l4)), .val (.long (0 : Int64)), .second] [])) _
      refine XS.goto X15.here hx rfl (pc0 := 36) (pc' := 53) rfl (hb hby drk0_36) (by decide) (by decide) ?_
      show Steps p.tables e below (T15.setTop (mkF m 53 #[.val (.ref o0), .val (.int (0 : Int32)), .val (.int p2), .val (.long q3), .second, .val (.int x0), .val (.int (wrk0_1 x0 l0 l1 l2 l3 l4)), .val (.long (0 : Int64)), .second] [])) _
      refine XS.lload X15.here hx rfl (hb hby drk0_53) rfl ?_
      show Steps p.tables e below (T15.setTop (mkF m 55 #[.val (.ref o0), .val (.int (0 : Int32)), .val (.int p2), .val (.long q3), .second, .val (.int x0), .val (.int (wrk0_1 x0 l0 l1 l2 l3 l4)), .val (.long (0 : Int64)), .second] [(.long (0 : Int64))])) _
      exact k)
    obtain ⟨fs, hr, hrun, hended, hW, hsame⟩ := X15.leave (v := some (.long (0 : Int64))) (fun h => by rw [Bd.returns] at h; cases h) hlk
    refine ⟨_, _, ?_, hrun, hended, _, _, rfl, ?_, ⟨_, rfl⟩, hW, hsame.mono (by decide) (by decide)⟩
    · rw [← hS0]; exact K17 _ (retOut X15 hx Bd.returns rfl (Or.inr (Or.inl ⟨rfl, rfl, _, rfl⟩)) (hb hby drk0_55) hr)
    · show Qrk0 Z o0 p2 q3 orq op ol ka kl zm x0 x1 x2 x3 x4 l0 l1 l2 l3 l4 h0 n0 _ T15.heap _
      rw [e15]
      have qr : (0 : Int64) = (wrk0_r8 x0 l0 l1 l2 l3 l4) := by unfold wrk0_r8; rw [if_pos hc29_0]
      exact ⟨congrArg (fun z => some (Value.long z)) qr, N15, Kc15, V_ol__15⟩
  · -- no
    have K18 : ∀ t, Steps p.tables e below (T15.setTop (mkF m 40 #[.val (.ref o0), .val (.int (0 : Int32)), .val (.int p2), .val (.long q3), .second, .val (.int x0), .val (.int (wrk0_1 x0 l0 l1 l2 l3 l4)), .unset, .unset] [(.ref o0)])) t → Steps p.tables e below S0 t := fun t k => K16 t (by
      refine XS.ifYes X15.here hx rfl (pc0 := 29) (pc' := 39) rfl (hb hby drk0_29) rfl (XT.i0_ge_t hc29_0) (by decide) (by decide) ?_
      show Steps p.tables e below (T15.setTop (mkF m 39 #[.val (.ref o0), .val (.int (0 : Int32)), .val (.int p2), .val (.long q3), .second, .val (.int x0), .val (.int (wrk0_1 x0 l0 l1 l2 l3 l4)), .unset, .unset] [])) _
      refine XS.aloadN X15.here hx rfl (hb hby drk0_39) rfl rfl ?_
      show Steps p.tables e below (T15.setTop (mkF m 40 #[.val (.ref o0), .val (.int (0 : Int32)), .val (.int p2), .val (.long q3), .second, .val (.int x0), .val (.int (wrk0_1 x0 l0 l1 l2 l3 l4)), .unset, .unset] [(.ref o0)])) _
      exact k)
    obtain ⟨T19, X19, e19, st19⟩ := getF X15 hx hZ hown (host := "") (Or.inl (hw _ (List.mem_of_getElem? (i := 29) rfl))) Via.refl e15 F_o0_requests__15 (g := (mkF m 40 #[.val (.ref o0), .val (.int (0 : Int32)), .val (.int p2), .val (.long q3), .second, .val (.int x0), .val (.int (wrk0_1 x0 l0 l1 l2 l3 l4)), .unset, .unset] [(.ref o0)])) rfl rfl (hb hby drk0_40)
    have K19 : ∀ t, Steps p.tables e below (T19.setTop (mkF m 43 #[.val (.ref o0), .val (.int (0 : Int32)), .val (.int p2), .val (.long q3), .second, .val (.int x0), .val (.int (wrk0_1 x0 l0 l1 l2 l3 l4)), .unset, .unset] [(.ref orq)])) t → Steps p.tables e below S0 t := fun t k => K18 t (st19 t k)
    have K_20 : ∀ t, Steps p.tables e below (T19.setTop (mkF m 43 #[.val (.ref o0), .val (.int (0 : Int32)), .val (.int p2), .val (.long q3), .second, .val (.int x0), .val (.int (wrk0_1 x0 l0 l1 l2 l3 l4)), .unset, .unset] [(.ref orq)])) t → Steps p.tables e below S0 t := K19
    obtain ⟨cq21, kq21, q21a, q21b, q21c⟩ := isOf hZ e19 E_orq__15
    obtain ⟨_, _, ⟨T21, L21, k21, n21⟩, -, X21, ⟨Lc21, hQ21, l21, y21, z21⟩, st21⟩ := X19.virtualBack hx (y := (⟨"com/example/nearmark/nearmark/paging/Requests", "count", "()I"⟩ : MethodName)) (z := (⟨"com/example/nearmark/nearmark/paging/Requests", "count", "()I"⟩ : MethodName)) hown (mvT hZ (hw _ (List.mem_of_getElem? (i := 53) rfl))) (mvT hZ (hw _ (List.mem_of_getElem? (i := 54) rfl))) (notFace_of_selects (args := #[]) (mvT hZ (hw _ (List.mem_of_getElem? (i := 56) rfl)))) (mvT hZ (hw _ (List.mem_of_getElem? (i := 56) rfl))) (mvT hZ (hw _ (List.mem_of_getElem? (i := 55) rfl))) (by decide) (backOf (W := 0) (rmct l Z a0 hw [] orq op ka x0 x1 x2 x3 x4 h15 n0 Zs15 F_orq_pages__15 V_op__15) hZ (hw _ (List.mem_of_getElem? (i := 57) rfl)) (hw _ (List.mem_of_getElem? (i := 11) rfl)) (by decide) (by decide)) q21a q21c (g := (mkF m 43 #[.val (.ref o0), .val (.int (0 : Int32)), .val (.int p2), .val (.long q3), .second, .val (.int x0), .val (.int (wrk0_1 x0 l0 l1 l2 l3 l4)), .unset, .unset] [(.ref orq)])) rfl (by rw [hml]; rfl) (Steps.refl _) (argsL := []) (rest := []) (lenOf pdrk0_1 rfl) rfl (by show 2 * 0 + _ ≤ _; exact Nat.le_of_eq rfl) (hb hby drk0_43) (fun _ _ => ⟨rfl, e19, (by decide : 0 + 0 ≤ 0), (by decide : 0 + 0 ≤ 0)⟩)
    dsimp only [Pt.U, Pt.locs, Pt.cells, Pt.slots] at X21 l21 y21 z21 st21 hQ21
    subst l21 y21 z21
    obtain ⟨rfl, N21q, e21⟩ := hQ21
    have N21 := Fr.app N15 N21q
    have K21 : ∀ t, Steps p.tables e below (T21.setTop (mkF m 46 #[.val (.ref o0), .val (.int (0 : Int32)), .val (.int p2), .val (.long q3), .second, .val (.int x0), .val (.int (wrk0_1 x0 l0 l1 l2 l3 l4)), .unset, .unset] [(.int (5 : Int32))])) t → Steps p.tables e below S0 t := fun t k => K_20 t (st21.trans k)
    have K22 : ∀ t, Steps p.tables e below (T21.setTop (mkF m 55 #[.val (.ref o0), .val (.int (0 : Int32)), .val (.int p2), .val (.long q3), .second, .val (.int x0), .val (.int (wrk0_1 x0 l0 l1 l2 l3 l4)), .val (.long (wrk0_7 x0 l0 l1 l2 l3 l4)), .second] [(.long (wrk0_7 x0 l0 l1 l2 l3 l4))])) t → Steps p.tables e below S0 t := fun t k => K21 t (by
      refine XS.i2l X21.here hx rfl (hb hby drk0_46) rfl ?_
      show Steps p.tables e below (T21.setTop (mkF m 47 #[.val (.ref o0), .val (.int (0 : Int32)), .val (.int p2), .val (.long q3), .second, .val (.int x0), .val (.int (wrk0_1 x0 l0 l1 l2 l3 l4)), .unset, .unset] [(.long (5 : Int64))])) _
      refine XS.iload X21.here hx rfl (hb hby drk0_47) rfl ?_
      show Steps p.tables e below (T21.setTop (mkF m 49 #[.val (.ref o0), .val (.int (0 : Int32)), .val (.int p2), .val (.long q3), .second, .val (.int x0), .val (.int (wrk0_1 x0 l0 l1 l2 l3 l4)), .unset, .unset] [(.int (wrk0_1 x0 l0 l1 l2 l3 l4)), (.long (5 : Int64))])) _
      refine XS.i2l X21.here hx rfl (hb hby drk0_49) rfl ?_
      show Steps p.tables e below (T21.setTop (mkF m 50 #[.val (.ref o0), .val (.int (0 : Int32)), .val (.int p2), .val (.long q3), .second, .val (.int x0), .val (.int (wrk0_1 x0 l0 l1 l2 l3 l4)), .unset, .unset] [(.long ((wrk0_1 x0 l0 l1 l2 l3 l4).toInt64)), (.long (5 : Int64))])) _
      refine XS.ladd X21.here hx rfl (hb hby drk0_50) rfl ?_
      show Steps p.tables e below (T21.setTop (mkF m 51 #[.val (.ref o0), .val (.int (0 : Int32)), .val (.int p2), .val (.long q3), .second, .val (.int x0), .val (.int (wrk0_1 x0 l0 l1 l2 l3 l4)), .unset, .unset] [(.long ((5 : Int64) + ((wrk0_1 x0 l0 l1 l2 l3 l4).toInt64)))])) _
      refine XS.lstore X21.here hx rfl (hb hby drk0_51) rfl (l' := #[.val (.ref o0), .val (.int (0 : Int32)), .val (.int p2), .val (.long q3), .second, .val (.int x0), .val (.int (wrk0_1 x0 l0 l1 l2 l3 l4)), .val (.long (wrk0_7 x0 l0 l1 l2 l3 l4)), .second]) rfl ?_
      show Steps p.tables e below (T21.setTop (mkF m 53 #[.val (.ref o0), .val (.int (0 : Int32)), .val (.int p2), .val (.long q3), .second, .val (.int x0), .val (.int (wrk0_1 x0 l0 l1 l2 l3 l4)), .val (.long (wrk0_7 x0 l0 l1 l2 l3 l4)), .second] [])) _
      refine XS.lload X21.here hx rfl (hb hby drk0_53) rfl ?_
      show Steps p.tables e below (T21.setTop (mkF m 55 #[.val (.ref o0), .val (.int (0 : Int32)), .val (.int p2), .val (.long q3), .second, .val (.int x0), .val (.int (wrk0_1 x0 l0 l1 l2 l3 l4)), .val (.long (wrk0_7 x0 l0 l1 l2 l3 l4)), .second] [(.long (wrk0_7 x0 l0 l1 l2 l3 l4))])) _
      exact k)
    obtain ⟨fs, hr, hrun, hended, hW, hsame⟩ := X21.leave (v := some (.long (wrk0_7 x0 l0 l1 l2 l3 l4))) (fun h => by rw [Bd.returns] at h; cases h) hlk
    refine ⟨_, _, ?_, hrun, hended, _, _, rfl, ?_, ⟨_, rfl⟩, hW, hsame.mono (by decide) (by decide)⟩
    · rw [← hS0]; exact K22 _ (retOut X21 hx Bd.returns rfl (Or.inr (Or.inl ⟨rfl, rfl, _, rfl⟩)) (hb hby drk0_55) hr)
    · show Qrk0 Z o0 p2 q3 orq op ol ka kl zm x0 x1 x2 x3 x4 l0 l1 l2 l3 l4 h0 n0 _ T21.heap _
      rw [e21]
      have qr : (wrk0_7 x0 l0 l1 l2 l3 l4) = (wrk0_r8 x0 l0 l1 l2 l3 l4) := by unfold wrk0_r8; rw [if_neg hc29_0]
      exact ⟨congrArg (fun z => some (Value.long z)) qr, N21, Kc15, V_ol__15⟩
theorem drk1_0 : decode prog_38_method_2_code 0 = .ok (.aload_n 0, 1) := by decide +kernel
theorem drk1_1 : decode prog_38_method_2_code 1 = .ok (.getfield 7, 3) := by decide +kernel
theorem drk1_4 : decode prog_38_method_2_code 4 = .ok (.iload_n 1, 1) := by decide +kernel
theorem drk1_5 : decode prog_38_method_2_code 5 = .ok (.invokevirtual 29, 3) := by decide +kernel
theorem drk1_8 : decode prog_38_method_2_code 8 = .ok (.istore 5, 2) := by decide +kernel
theorem drk1_10 : decode prog_38_method_2_code 10 = .ok (.aload_n 0, 1) := by decide +kernel
theorem drk1_11 : decode prog_38_method_2_code 11 = .ok (.getfield 19, 3) := by decide +kernel
theorem drk1_14 : decode prog_38_method_2_code 14 = .ok (.iload 5, 2) := by decide +kernel
theorem drk1_16 : decode prog_38_method_2_code 16 = .ok (.iaload, 1) := by decide +kernel
theorem drk1_17 : decode prog_38_method_2_code 17 = .ok (.istore 6, 2) := by decide +kernel
theorem drk1_19 : decode prog_38_method_2_code 19 = .ok (.aload_n 0, 1) := by decide +kernel
theorem drk1_20 : decode prog_38_method_2_code 20 = .ok (.getfield 19, 3) := by decide +kernel
theorem drk1_23 : decode prog_38_method_2_code 23 = .ok (.iload 5, 2) := by decide +kernel
theorem drk1_25 : decode prog_38_method_2_code 25 = .ok (.iload_n 1, 1) := by decide +kernel
theorem drk1_26 : decode prog_38_method_2_code 26 = .ok (.iastore, 1) := by decide +kernel
theorem drk1_27 : decode prog_38_method_2_code 27 = .ok (.iload 6, 2) := by decide +kernel
theorem drk1_29 : decode prog_38_method_2_code 29 = .ok (.ifCond .ge 10, 3) := by decide +kernel
theorem drk1_32 : decode prog_38_method_2_code 32 = .ok (.iload_n 1, 1) := by decide +kernel
theorem drk1_33 : decode prog_38_method_2_code 33 = .ok (.i2l, 1) := by decide +kernel
theorem drk1_34 : decode prog_38_method_2_code 34 = .ok (.lstore 7, 2) := by decide +kernel
theorem drk1_36 : decode prog_38_method_2_code 36 = .ok (.goto 17, 3) := by decide +kernel
theorem drk1_39 : decode prog_38_method_2_code 39 = .ok (.aload_n 0, 1) := by decide +kernel
theorem drk1_40 : decode prog_38_method_2_code 40 = .ok (.getfield 7, 3) := by decide +kernel
theorem drk1_43 : decode prog_38_method_2_code 43 = .ok (.invokevirtual 33, 3) := by decide +kernel
theorem drk1_46 : decode prog_38_method_2_code 46 = .ok (.i2l, 1) := by decide +kernel
theorem drk1_47 : decode prog_38_method_2_code 47 = .ok (.iload 6, 2) := by decide +kernel
theorem drk1_49 : decode prog_38_method_2_code 49 = .ok (.i2l, 1) := by decide +kernel
theorem drk1_50 : decode prog_38_method_2_code 50 = .ok (.ladd, 1) := by decide +kernel
theorem drk1_51 : decode prog_38_method_2_code 51 = .ok (.lstore 7, 2) := by decide +kernel
theorem drk1_53 : decode prog_38_method_2_code 53 = .ok (.lload 7, 2) := by decide +kernel
theorem drk1_55 : decode prog_38_method_2_code 55 = .ok (.lreturn, 1) := by decide +kernel
theorem pnrk1 : plainName "com/example/nearmark/nearmark/paging/LeastRecentlyUsed2" = true := by first | (simp [plainName, overriddenIn]; done) | decide +kernel
theorem pdrk1_0 : parseMethodDescriptor "(I)I" = some ⟨[.int], some .int⟩ := by decide +kernel
theorem pdrk1_1 : parseMethodDescriptor "()I" = some ⟨[], some .int⟩ := by decide +kernel
theorem efrk1 (m : MethodId) (o0 : Addr) (p2 : Int32) (q3 : Int64) : entryFrame m #[(.ref o0), (.int (1 : Int32)), (.int p2), (.long q3)] 9 = mkF m 0 #[.val (.ref o0), .val (.int (1 : Int32)), .val (.int p2), .val (.long q3), .second, .unset, .unset, .unset, .unset] [] := by first | (simp [entryFrame, mkF, argsToLocals, Value.category]; done) | rfl
def Qrk1 (Z : State) (o0 : Addr) (p2 : Int32) (q3 : Int64) (orq : Addr) (op : Addr) (ol : Addr) (ka : ClassId) (kl : ClassId) (zm : Int32) (x0 : Int32) (x1 : Int32) (x2 : Int32) (x3 : Int32) (x4 : Int32) (l0 : Int32) (l1 : Int32) (l2 : Int32) (l3 : Int32) (l4 : Int32) (h0 : Heap) (n0 : Nat) (v : Option Value) (h : Heap) (L : List Loc) : Prop := v = some (.long (wrk1_r8 x1 l0 l1 l2 l3 l4)) ∧ Fr n0 L ∧ Keep h0 h [ol] ∧ Arv Z h ol kl .int zm [(.int (wrk1_2 x1 l0)), (.int (wrk1_3 x1 l1)), (.int (wrk1_4 x1 l2)), (.int (wrk1_5 x1 l3)), (.int (wrk1_6 x1 l4))] (.int (0 : Int32))
set_option maxRecDepth 65536 in
set_option maxHeartbeats 40000000 in
theorem rmrk1 (l : Launch) (Z : State) (a0 : Array Value) (hw : ∀ d ∈ tables_1, d.before a0 Z = true) (ws : List Jvm.Cond) (o0 : Addr) (p2 : Int32) (q3 : Int64) (orq : Addr) (op : Addr) (ol : Addr) (ka : ClassId) (kl : ClassId) (zm : Int32) (x0 : Int32) (x1 : Int32) (x2 : Int32) (x3 : Int32) (x4 : Int32) (l0 : Int32) (l1 : Int32) (l2 : Int32) (l3 : Int32) (l4 : Int32) (h0 : Heap) (n0 : Nat) (Z0 : n0 ≤ h0.size) (F_o0_requests : Fld Z h0 o0 "com/example/nearmark/nearmark/paging/LeastRecentlyUsed2" "requests" "Lcom/example/nearmark/nearmark/paging/Requests;" (.ref orq)) (F_o0_lastRequest : Fld Z h0 o0 "com/example/nearmark/nearmark/paging/LeastRecentlyUsed2" "lastRequest" "[I" (.ref ol)) (E_orq : Exa Z h0 orq "com/example/nearmark/nearmark/paging/Requests") (F_orq_pages : Fld Z h0 orq "com/example/nearmark/nearmark/paging/Requests" "pages" "[I" (.ref op)) (V_op : Arv Z h0 op ka .int (5 : Int32) [(.int x0), (.int x1), (.int x2), (.int x3), (.int x4)] (.int (0 : Int32))) (V_ol : Arv Z h0 ol kl .int zm [(.int l0), (.int l1), (.int l2), (.int l3), (.int l4)] (.int (0 : Int32))) (g_ol : n0 ≤ ol) (hin : ¬ x1 < 0 ∧ x1 < zm) (hz : ¬ (5 : Int32) < zm) (ne_o0_ol : o0 ≠ ol) (ne_orq_ol : orq ≠ ol) (ne_op_ol : op ≠ ol) :
    MetFree l (⟨"com/example/nearmark/nearmark/paging/LeastRecentlyUsed2", "rank", "(IZJ)J"⟩ : MethodName) (head1 (Jvm.Cond.code (⟨"com/example/nearmark/nearmark/paging/LeastRecentlyUsed2", "rank", "(IZJ)J"⟩ : MethodName) prog_38_method_2_code 9 (some .long) :: ws) ({ frames := 1, cells := 0, slots := 0, locals := 13 } : Room)) (fun a U => a = #[(.ref o0), (.int (1 : Int32)), (.int p2), (.long q3)] ∧ Z.Warmed39 U.vm ∧ U.heap = h0) (fun _ _ _ _ _ => True) (fun _ U o U' => ∃ v L, o = .returned v ∧ Qrk1 Z o0 p2 q3 orq op ol ka kl zm x0 x1 x2 x3 x4 l0 l1 l2 l3 l4 h0 n0 v U'.heap L ∧ FrameEnd U o U' L ({ frames := 1, cells := 0, slots := 0, locals := 13 } : Room).cells ({ frames := 1, cells := 0, slots := 0, locals := 13 } : Room).slots) := by
  refine MetFree.of_bodySF (plainFor_of_name pnrk1) hisR ?_
  intro p e s m args below meth c s₁ Bd hml0 hP hK
  obtain ⟨rfl, hZ, hh⟩ := hP
  have hlk : meth.locks = false := BodyLoose.notSynchronized Bd
  have hx := Bd.exec
  have hby := Bd.bytes
  have hml : c.maxLocals = 9 := hml0
  have hown : s.vm.findClass "com/example/nearmark/nearmark/paging/LeastRecentlyUsed2" = some m.cls := findClass_of_methodNamed Bd.named
  have hnm := (name_of_methodNamed Bd.named Bd.method).1
  have X0 : Stand p l e ({ frames := 1, cells := 0, slots := 0, locals := 13 } : Room) s m #[(.ref o0), (.int (1 : Int32)), (.int p2), (.long q3)] below meth c s₁ [] 0 0 := Stand.of_body Bd
  have e0 : s₁.heap = h0 := by rw [← hh, Bd.state]; rfl
  have N0 := Fr.nil n0
  obtain ⟨S0, hS0⟩ : ∃ S0, S0 = s₁.setTop (entryFrame m #[(.ref o0), (.int (1 : Int32)), (.int p2), (.long q3)] 9) := ⟨_, rfl⟩
  have pre0 : ∀ t, Steps p.tables e below (s₁.setTop (mkF m 0 #[.val (.ref o0), .val (.int (1 : Int32)), .val (.int p2), .val (.long q3), .second, .unset, .unset, .unset, .unset] [])) t → Steps p.tables e below S0 t := fun t k => by rw [hS0]; exact castTop (efrk1 m o0 p2 q3) k
  have K1 : ∀ t, Steps p.tables e below (s₁.setTop (mkF m 1 #[.val (.ref o0), .val (.int (1 : Int32)), .val (.int p2), .val (.long q3), .second, .unset, .unset, .unset, .unset] [(.ref o0)])) t → Steps p.tables e below S0 t := fun t k => pre0 t (by
    refine XS.aloadN X0.here hx rfl (hb hby drk1_0) rfl rfl ?_
    show Steps p.tables e below (s₁.setTop (mkF m 1 #[.val (.ref o0), .val (.int (1 : Int32)), .val (.int p2), .val (.long q3), .second, .unset, .unset, .unset, .unset] [(.ref o0)])) _
    exact k)
  obtain ⟨T2, X2, e2, st2⟩ := getF X0 hx hZ hown (host := "") (Or.inl (hw _ (List.mem_of_getElem? (i := 29) rfl))) Via.refl e0 F_o0_requests (g := (mkF m 1 #[.val (.ref o0), .val (.int (1 : Int32)), .val (.int p2), .val (.long q3), .second, .unset, .unset, .unset, .unset] [(.ref o0)])) rfl rfl (hb hby drk1_1)
  have K2 : ∀ t, Steps p.tables e below (T2.setTop (mkF m 4 #[.val (.ref o0), .val (.int (1 : Int32)), .val (.int p2), .val (.long q3), .second, .unset, .unset, .unset, .unset] [(.ref orq)])) t → Steps p.tables e below S0 t := fun t k => K1 t (st2 t k)
  have K3 : ∀ t, Steps p.tables e below (T2.setTop (mkF m 5 #[.val (.ref o0), .val (.int (1 : Int32)), .val (.int p2), .val (.long q3), .second, .unset, .unset, .unset, .unset] [(.int (1 : Int32)), (.ref orq)])) t → Steps p.tables e below S0 t := fun t k => K2 t (by
    refine XS.iloadN X2.here hx rfl (hb hby drk1_4) rfl ?_
    show Steps p.tables e below (T2.setTop (mkF m 5 #[.val (.ref o0), .val (.int (1 : Int32)), .val (.int p2), .val (.long q3), .second, .unset, .unset, .unset, .unset] [(.int (1 : Int32)), (.ref orq)])) _
    exact k)
  have K_4 : ∀ t, Steps p.tables e below (T2.setTop (mkF m 5 #[.val (.ref o0), .val (.int (1 : Int32)), .val (.int p2), .val (.long q3), .second, .unset, .unset, .unset, .unset] [(.int (1 : Int32)), (.ref orq)])) t → Steps p.tables e below S0 t := K3
  obtain ⟨cq5, kq5, q5a, q5b, q5c⟩ := isOf hZ e2 E_orq
  obtain ⟨_, _, ⟨T5, L5, k5, n5⟩, -, X5, ⟨Lc5, hQ5, l5, y5, z5⟩, st5⟩ := X2.virtualBack hx (y := (⟨"com/example/nearmark/nearmark/paging/Requests", "page", "(I)I"⟩ : MethodName)) (z := (⟨"com/example/nearmark/nearmark/paging/Requests", "page", "(I)I"⟩ : MethodName)) hown (mvT hZ (hw _ (List.mem_of_getElem? (i := 47) rfl))) (mvT hZ (hw _ (List.mem_of_getElem? (i := 48) rfl))) (notFace_of_selects (args := #[]) (mvT hZ (hw _ (List.mem_of_getElem? (i := 50) rfl)))) (mvT hZ (hw _ (List.mem_of_getElem? (i := 50) rfl))) (mvT hZ (hw _ (List.mem_of_getElem? (i := 49) rfl))) (by decide) (backOf (W := 0) (rmpg1 l Z a0 hw [] orq op ka x0 x1 x2 x3 x4 h0 n0 Z0 F_orq_pages V_op) hZ (hw _ (List.mem_of_getElem? (i := 51) rfl)) (hw _ (List.mem_of_getElem? (i := 11) rfl)) (by decide) (by decide)) q5a q5c (g := (mkF m 5 #[.val (.ref o0), .val (.int (1 : Int32)), .val (.int p2), .val (.long q3), .second, .unset, .unset, .unset, .unset] [(.int (1 : Int32)), (.ref orq)])) rfl (by rw [hml]; rfl) (Steps.refl _) (argsL := [(.int (1 : Int32))]) (rest := []) (lenOf pdrk1_0 rfl) rfl (by show 2 * 0 + _ ≤ _; exact Nat.le_of_eq rfl) (hb hby drk1_5) (fun _ _ => ⟨rfl, e2, (by decide : 0 + 0 ≤ 0), (by decide : 0 + 0 ≤ 0)⟩)
  dsimp only [Pt.U, Pt.locs, Pt.cells, Pt.slots] at X5 l5 y5 z5 st5 hQ5
  subst l5 y5 z5
  obtain ⟨rfl, N5q, e5⟩ := hQ5
  have N5 := Fr.app N0 N5q
  have K5 : ∀ t, Steps p.tables e below (T5.setTop (mkF m 8 #[.val (.ref o0), .val (.int (1 : Int32)), .val (.int p2), .val (.long q3), .second, .unset, .unset, .unset, .unset] [(.int x1)])) t → Steps p.tables e below S0 t := fun t k => K_4 t (st5.trans k)
  have K6 : ∀ t, Steps p.tables e below (T5.setTop (mkF m 11 #[.val (.ref o0), .val (.int (1 : Int32)), .val (.int p2), .val (.long q3), .second, .val (.int x1), .unset, .unset, .unset] [(.ref o0)])) t → Steps p.tables e below S0 t := fun t k => K5 t (by
    refine XS.istore X5.here hx rfl (hb hby drk1_8) rfl (l' := #[.val (.ref o0), .val (.int (1 : Int32)), .val (.int p2), .val (.long q3), .second, .val (.int x1), .unset, .unset, .unset]) rfl ?_
    show Steps p.tables e below (T5.setTop (mkF m 10 #[.val (.ref o0), .val (.int (1 : Int32)), .val (.int p2), .val (.long q3), .second, .val (.int x1), .unset, .unset, .unset] [])) _
    refine XS.aloadN X5.here hx rfl (hb hby drk1_10) rfl rfl ?_
    show Steps p.tables e below (T5.setTop (mkF m 11 #[.val (.ref o0), .val (.int (1 : Int32)), .val (.int p2), .val (.long q3), .second, .val (.int x1), .unset, .unset, .unset] [(.ref o0)])) _
    exact k)
  obtain ⟨T7, X7, e7, st7⟩ := getF X5 hx hZ hown (host := "") (Or.inl (hw _ (List.mem_of_getElem? (i := 36) rfl))) Via.refl e5 F_o0_lastRequest (g := (mkF m 11 #[.val (.ref o0), .val (.int (1 : Int32)), .val (.int p2), .val (.long q3), .second, .val (.int x1), .unset, .unset, .unset] [(.ref o0)])) rfl rfl (hb hby drk1_11)
  have K7 : ∀ t, Steps p.tables e below (T7.setTop (mkF m 14 #[.val (.ref o0), .val (.int (1 : Int32)), .val (.int p2), .val (.long q3), .second, .val (.int x1), .unset, .unset, .unset] [(.ref ol)])) t → Steps p.tables e below S0 t := fun t k => K6 t (st7 t k)
  have K8 : ∀ t, Steps p.tables e below (T7.setTop (mkF m 16 #[.val (.ref o0), .val (.int (1 : Int32)), .val (.int p2), .val (.long q3), .second, .val (.int x1), .unset, .unset, .unset] [(.int x1), (.ref ol)])) t → Steps p.tables e below S0 t := fun t k => K7 t (by
    refine XS.iload X7.here hx rfl (hb hby drk1_14) rfl ?_
    show Steps p.tables e below (T7.setTop (mkF m 16 #[.val (.ref o0), .val (.int (1 : Int32)), .val (.int p2), .val (.long q3), .second, .val (.int x1), .unset, .unset, .unset] [(.int x1), (.ref ol)])) _
    exact k)
  have K_9 : ∀ t, Steps p.tables e below (T7.setTop (mkF m 16 #[.val (.ref o0), .val (.int (1 : Int32)), .val (.int p2), .val (.long q3), .second, .val (.int x1), .unset, .unset, .unset] [(.int x1), (.ref ol)])) t → Steps p.tables e below S0 t := K8
  obtain ⟨cl10, Ar10, qa10, sa10, na10, ha10, ga10⟩ := id V_ol
  have hin10 : ¬ (x1 < 0 ∨ cl10.slots.size ≤ (x1).toNatClampNeg) := inb_of sa10 hin
  have hat10 : cl10.slots[(x1).toNatClampNeg]? = some (.int (own_get [l0, l1, l2, l3, l4] x1)) := Has.at ha10 hin10 (own_getD [l0, l1, l2, l3, l4] x1)
  have K10 : ∀ t, Steps p.tables e below (T7.setTop (mkF m 17 #[.val (.ref o0), .val (.int (1 : Int32)), .val (.int p2), .val (.long q3), .second, .val (.int x1), .unset, .unset, .unset] [(.int (own_get [l0, l1, l2, l3, l4] x1))])) t → Steps p.tables e below S0 t := fun t k => K_9 t (X7.iaload hx (j := x1) (v := (.int (own_get [l0, l1, l2, l3, l4] x1))) (by rw [e7]; exact Ar10.1) (State.isArrayOf_alike hZ.alike Ar10.2.1) Ar10.2.2 hin10 hat10 (g := (mkF m 16 #[.val (.ref o0), .val (.int (1 : Int32)), .val (.int p2), .val (.long q3), .second, .val (.int x1), .unset, .unset, .unset] [(.int x1), (.ref ol)])) rfl rfl (hb hby drk1_16) _ k)
  have K11 : ∀ t, Steps p.tables e below (T7.setTop (mkF m 20 #[.val (.ref o0), .val (.int (1 : Int32)), .val (.int p2), .val (.long q3), .second, .val (.int x1), .val (.int (wrk1_1 x1 l0 l1 l2 l3 l4)), .unset, .unset] [(.ref o0)])) t → Steps p.tables e below S0 t := fun t k => K10 t (by
    refine XS.istore X7.here hx rfl (hb hby drk1_17) rfl (l' := #[.val (.ref o0), .val (.int (1 : Int32)), .val (.int p2), .val (.long q3), .second, .val (.int x1), .val (.int (wrk1_1 x1 l0 l1 l2 l3 l4)), .unset, .unset]) rfl ?_
    show Steps p.tables e below (T7.setTop (mkF m 19 #[.val (.ref o0), .val (.int (1 : Int32)), .val (.int p2), .val (.long q3), .second, .val (.int x1), .val (.int (wrk1_1 x1 l0 l1 l2 l3 l4)), .unset, .unset] [])) _
    refine XS.aloadN X7.here hx rfl (hb hby drk1_19) rfl rfl ?_
    show Steps p.tables e below (T7.setTop (mkF m 20 #[.val (.ref o0), .val (.int (1 : Int32)), .val (.int p2), .val (.long q3), .second, .val (.int x1), .val (.int (wrk1_1 x1 l0 l1 l2 l3 l4)), .unset, .unset] [(.ref o0)])) _
    exact k)
  obtain ⟨T12, X12, e12, st12⟩ := getF X7 hx hZ hown (host := "") (Or.inl (hw _ (List.mem_of_getElem? (i := 36) rfl))) Via.refl e7 F_o0_lastRequest (g := (mkF m 20 #[.val (.ref o0), .val (.int (1 : Int32)), .val (.int p2), .val (.long q3), .second, .val (.int x1), .val (.int (wrk1_1 x1 l0 l1 l2 l3 l4)), .unset, .unset] [(.ref o0)])) rfl rfl (hb hby drk1_20)
  have K12 : ∀ t, Steps p.tables e below (T12.setTop (mkF m 23 #[.val (.ref o0), .val (.int (1 : Int32)), .val (.int p2), .val (.long q3), .second, .val (.int x1), .val (.int (wrk1_1 x1 l0 l1 l2 l3 l4)), .unset, .unset] [(.ref ol)])) t → Steps p.tables e below S0 t := fun t k => K11 t (st12 t k)
  have K13 : ∀ t, Steps p.tables e below (T12.setTop (mkF m 26 #[.val (.ref o0), .val (.int (1 : Int32)), .val (.int p2), .val (.long q3), .second, .val (.int x1), .val (.int (wrk1_1 x1 l0 l1 l2 l3 l4)), .unset, .unset] [(.int (1 : Int32)), (.int x1), (.ref ol)])) t → Steps p.tables e below S0 t := fun t k => K12 t (by
    refine XS.iload X12.here hx rfl (hb hby drk1_23) rfl ?_
    show Steps p.tables e below (T12.setTop (mkF m 25 #[.val (.ref o0), .val (.int (1 : Int32)), .val (.int p2), .val (.long q3), .second, .val (.int x1), .val (.int (wrk1_1 x1 l0 l1 l2 l3 l4)), .unset, .unset] [(.int x1), (.ref ol)])) _
    refine XS.iloadN X12.here hx rfl (hb hby drk1_25) rfl ?_
    show Steps p.tables e below (T12.setTop (mkF m 26 #[.val (.ref o0), .val (.int (1 : Int32)), .val (.int p2), .val (.long q3), .second, .val (.int x1), .val (.int (wrk1_1 x1 l0 l1 l2 l3 l4)), .unset, .unset] [(.int (1 : Int32)), (.int x1), (.ref ol)])) _
    exact k)
  have K_14 : ∀ t, Steps p.tables e below (T12.setTop (mkF m 26 #[.val (.ref o0), .val (.int (1 : Int32)), .val (.int p2), .val (.long q3), .second, .val (.int x1), .val (.int (wrk1_1 x1 l0 l1 l2 l3 l4)), .unset, .unset] [(.int (1 : Int32)), (.int x1), (.ref ol)])) t → Steps p.tables e below S0 t := K13
  obtain ⟨cl15, Ar15, qa15, sa15, na15, ha15, ga15⟩ := id V_ol
  have hin15 : ¬ (x1 < 0 ∨ cl15.slots.size ≤ (x1).toNatClampNeg) := inb_of sa15 hin
  obtain ⟨T15, h15, X15, e15, W15, st15⟩ := stI X12 hx hZ e12 Ar15 (j := x1) hin15 (g := (mkF m 26 #[.val (.ref o0), .val (.int (1 : Int32)), .val (.int p2), .val (.long q3), .second, .val (.int x1), .val (.int (wrk1_1 x1 l0 l1 l2 l3 l4)), .unset, .unset] [(.int (1 : Int32)), (.int x1), (.ref ol)])) rfl rfl (hb hby drk1_26)
  have V_ol__15 : Arv Z h15 ol kl .int zm [(.int (wrk1_2 x1 l0)), (.int (wrk1_3 x1 l1)), (.int (wrk1_4 x1 l2)), (.int (wrk1_5 x1 l3)), (.int (wrk1_6 x1 l4))] (.int (0 : Int32)) := (Arv.set Ar15 qa15 sa15 na15 ha15 ga15 rfl W15 (x1).toNatClampNeg rfl (own_lt5 hin hz)).pad (own_upd5 l0 l1 l2 l3 l4 x1 (1 : Int32) (hin).1)
  have F_o0_requests__15 := F_o0_requests.other W15 (Or.inl ne_o0_ol)
  have F_o0_lastRequest__15 := F_o0_lastRequest.other W15 (Or.inl ne_o0_ol)
  have E_orq__15 := E_orq.wr W15
  have F_orq_pages__15 := F_orq_pages.other W15 (Or.inl ne_orq_ol)
  have V_op__15 := V_op.other W15 ne_op_ol
  have N15 := Fr.snoc X15 N5 g_ol
  have Zs15 : n0 ≤ h15.size := Nat.le_trans Z0 (Nat.le_of_eq W15.size.symm)
  have Kc15 : Keep h0 h15 [ol] := (Keep.refl h0 [ol]).wr W15 (Or.inl (List.mem_of_getElem? (i := 0) rfl))
  have K15 : ∀ t, Steps p.tables e below (T15.setTop (mkF m 27 #[.val (.ref o0), .val (.int (1 : Int32)), .val (.int p2), .val (.long q3), .second, .val (.int x1), .val (.int (wrk1_1 x1 l0 l1 l2 l3 l4)), .unset, .unset] [])) t → Steps p.tables e below S0 t := fun t k => K_14 t (st15 t k)
  have K16 : ∀ t, Steps p.tables e below (T15.setTop (mkF m 29 #[.val (.ref o0), .val (.int (1 : Int32)), .val (.int p2), .val (.long q3), .second, .val (.int x1), .val (.int (wrk1_1 x1 l0 l1 l2 l3 l4)), .unset, .unset] [(.int (wrk1_1 x1 l0 l1 l2 l3 l4))])) t → Steps p.tables e below S0 t := fun t k => K15 t (by
    refine XS.iload X15.here hx rfl (hb hby drk1_27) rfl ?_
    show Steps p.tables e below (T15.setTop (mkF m 29 #[.val (.ref o0), .val (.int (1 : Int32)), .val (.int p2), .val (.long q3), .second, .val (.int x1), .val (.int (wrk1_1 x1 l0 l1 l2 l3 l4)), .unset, .unset] [(.int (wrk1_1 x1 l0 l1 l2 l3 l4))])) _
    exact k)
  by_cases hc29_0 : (wrk1_1 x1 l0 l1 l2 l3 l4) < (0 : Int32)
  · -- yes
    have K17 : ∀ t, Steps p.tables e below (T15.setTop (mkF m 55 #[.val (.ref o0), .val (.int (1 : Int32)), .val (.int p2), .val (.long q3), .second, .val (.int x1), .val (.int (wrk1_1 x1 l0 l1 l2 l3 l4)), .val (.long (1 : Int64)), .second] [(.long (1 : Int64))])) t → Steps p.tables e below S0 t := fun t k => K16 t (by
      refine XS.ifNo X15.here hx rfl (hb hby drk1_29) rfl (XT.i0_ge_f hc29_0) ?_
      show Steps p.tables e below (T15.setTop (mkF m 32 #[.val (.ref o0), .val (.int (1 : Int32)), .val (.int p2), .val (.long q3), .second, .val (.int x1), .val (.int (wrk1_1 x1 l0 l1 l2 l3 l4)), .unset, .unset] [])) _
      refine XS.iloadN X15.here hx rfl (hb hby drk1_32) rfl ?_
      show Steps p.tables e below (T15.setTop (mkF m 33 #[.val (.ref o0), .val (.int (1 : Int32)), .val (.int p2), .val (.long q3), .second, .val (.int x1), .val (.int (wrk1_1 x1 l0 l1 l2 l3 l4)), .unset, .unset] [(.int (1 : Int32))])) _
      refine XS.i2l X15.here hx rfl (hb hby drk1_33) rfl ?_
      show Steps p.tables e below (T15.setTop (mkF m 34 #[.val (.ref o0), .val (.int (1 : Int32)), .val (.int p2), .val (.long q3), .second, .val (.int x1), .val (.int (wrk1_1 x1 l0 l1 l2 l3 l4)), .unset, .unset] [(.long (1 : Int64))])) _
      refine XS.lstore X15.here hx rfl (hb hby drk1_34) rfl (l' := #[.val (.ref o0), .val (.int (1 : Int32)), .val (.int p2), .val (.long q3), .second, .val (.int x1), .val (.int (wrk1_1 x1 l0 l1 l2 l3 l4)), .val (.long (1 : Int64)), .second]) rfl ?_
      show Steps p.tables e below (T15.setTop (mkF m 36 #[.val (.ref o0), .val (.int (1 : Int32)), .val (.int p2), .val (.long q3), .second, .val (.int x1), .val (.int (wrk1_1 x1 l0 l1 l2 l3 l4)), .val (.long (1 : Int64)), .second] [])) _
      refine XS.goto X15.here hx rfl (pc0 := 36) (pc' := 53) rfl (hb hby drk1_36) (by decide) (by decide) ?_
      show Steps p.tables e below (T15.setTop (mkF m 53 #[.val (.ref o0), .val (.int (1 : Int32)), .val (.int p2), .val (.long q3), .second, .val (.int x1), .val (.int (wrk1_1 x1 l0 l1 l2 l3 l4)), .val (.long (1 : Int64)), .second] [])) _
      refine XS.lload X15.here hx rfl (hb hby drk1_53) rfl ?_
      show Steps p.tables e below (T15.setTop (mkF m 55 #[.val (.ref o0), .val (.int (1 : Int32)), .val (.int p2), .val (.long q3), .second, .val (.int x1), .val (.int (wrk1_1 x1 l0 l1 l2 l3 l4)), .val (.long (1 : Int64)), .second] [(.long (1 : Int64))])) _
      exact k)
    obtain ⟨fs, hr, hrun, hended, hW, hsame⟩ := X15.leave (v := some (.long (1 : Int64))) (fun h => by rw [Bd.returns] at h; cases h) hlk
    refine ⟨_, _, ?_, hrun, hended, _, _, rfl, ?_, ⟨_, rfl⟩, hW, hsame.mono (by decide) (by decide)⟩
    · rw [← hS0]; exact K17 _ (retOut X15 hx Bd.returns rfl (Or.inr (Or.inl ⟨rfl, rfl, _, rfl⟩)) (hb hby drk1_55) hr)
    · show Qrk1 Z o0 p2 q3 orq op ol ka kl zm x0 x1 x2 x3 x4 l0 l1 l2 l3 l4 h0 n0 _ T15.heap _
      rw [e15]
      have qr : (1 : Int64) = (wrk1_r8 x1 l0 l1 l2 l3 l4) := by unfold wrk1_r8; rw [if_pos hc29_0]
      exact ⟨congrArg (fun z => some (Value.long z)) qr, N15, Kc15, V_ol__15⟩
  · -- no
    have K18 : ∀ t, Steps p.tables e below (T15.setTop (mkF m 40 #[.val (.ref o0), .val (.int (1 : Int32)), .val (.int p2), .val (.long q3), .second, .val (.int x1), .val (.int (wrk1_1 x1 l0 l1 l2 l3 l4)), .unset, .unset] [(.ref o0)])) t → Steps p.tables e below S0 t := fun t k => K16 t (by
      refine XS.ifYes X15.here hx rfl (pc0 := 29) (pc' := 39) rfl (hb hby drk1_29) rfl (XT.i0_ge_t hc29_0) (by decide) (by decide) ?_
      show Steps p.tables e below (T15.setTop (mkF m 39 #[.val (.ref o0), .val (.int (1 : Int32)), .val (.int p2), .val (.long q3), .second, .val (.int x1), .val (.int (wrk1_1 x1 l0 l1 l2 l3 l4)), .unset, .unset] [])) _
      refine XS.aloadN X15.here hx rfl (hb hby drk1_39) rfl rfl ?_
      show Steps p.tables e below (T15.setTop (mkF m 40 #[.val (.ref o0), .val (.int (1 : Int32)), .val (.int p2), .val (.long q3), .second, .val (.int x1), .val (.int (wrk1_1 x1 l0 l1 l2 l3 l4)), .unset, .unset] [(.ref o0)])) _
      exact k)
    obtain ⟨T19, X19, e19, st19⟩ := getF X15 hx hZ hown (host := "") (Or.inl (hw _ (List.mem_of_getElem? (i := 29) rfl))) Via.refl e15 F_o0_requests__15 (g := (mkF m 40 #[.val (.ref o0), .val (.int (1 : Int32)), .val (.int p2), .val (.long q3), .second, .val (.int x1), .val (.int (wrk1_1 x1 l0 l1 l2 l3 l4)), .unset, .unset] [(.ref o0)])) rfl rfl (hb hby drk1_40)
    have K19 : ∀ t, Steps p.tables e below (T19.setTop (mkF m 43 #[.val (.ref o0), .val (.int (1 : Int32)), .val (.int p2), .val (.long q3), .second, .val (.int x1), .val (.int (wrk1_1 x1 l0 l1 l2 l3 l4)), .unset, .unset] [(.ref orq)])) t → Steps p.tables e below S0 t := fun t k => K18 t (st19 t k)
    have K_20 : ∀ t, Steps p.tables e below (T19.setTop (mkF m 43 #[.val (.ref o0), .val (.int (1 : Int32)), .val (.int p2), .val (.long q3), .second, .val (.int x1), .val (.int (wrk1_1 x1 l0 l1 l2 l3 l4)), .unset, .unset] [(.ref orq)])) t → Steps p.tables e below S0 t := K19
    obtain ⟨cq21, kq21, q21a, q21b, q21c⟩ := isOf hZ e19 E_orq__15
    obtain ⟨_, _, ⟨T21, L21, k21, n21⟩, -, X21, ⟨Lc21, hQ21, l21, y21, z21⟩, st21⟩ := X19.virtualBack hx (y := (⟨"com/example/nearmark/nearmark/paging/Requests", "count", "()I"⟩ : MethodName)) (z := (⟨"com/example/nearmark/nearmark/paging/Requests", "count", "()I"⟩ : MethodName)) hown (mvT hZ (hw _ (List.mem_of_getElem? (i := 53) rfl))) (mvT hZ (hw _ (List.mem_of_getElem? (i := 54) rfl))) (notFace_of_selects (args := #[]) (mvT hZ (hw _ (List.mem_of_getElem? (i := 56) rfl)))) (mvT hZ (hw _ (List.mem_of_getElem? (i := 56) rfl))) (mvT hZ (hw _ (List.mem_of_getElem? (i := 55) rfl))) (by decide) (backOf (W := 0) (rmct l Z a0 hw [] orq op ka x0 x1 x2 x3 x4 h15 n0 Zs15 F_orq_pages__15 V_op__15) hZ (hw _ (List.mem_of_getElem? (i := 57) rfl)) (hw _ (List.mem_of_getElem? (i := 11) rfl)) (by decide) (by decide)) q21a q21c (g := (mkF m 43 #[.val (.ref o0), .val (.int (1 : Int32)), .val (.int p2), .val (.long q3), .second, .val (.int x1), .val (.int (wrk1_1 x1 l0 l1 l2 l3 l4)), .unset, .unset] [(.ref orq)])) rfl (by rw [hml]; rfl) (Steps.refl _) (argsL := []) (rest := []) (lenOf pdrk1_1 rfl) rfl (by show 2 * 0 + _ ≤ _; exact Nat.le_of_eq rfl) (hb hby drk1_43) (fun _ _ => ⟨rfl, e19, (by decide : 0 + 0 ≤ 0), (by decide : 0 + 0 ≤ 0)⟩)
    dsimp only [Pt.U, Pt.locs, Pt.cells, Pt.slots] at X21 l21 y21 z21 st21 hQ21
    subst l21 y21 z21
    obtain ⟨rfl, N21q, e21⟩ := hQ21
    have N21 := Fr.app N15 N21q
    have K21 : ∀ t, Steps p.tables e below (T21.setTop (mkF m 46 #[.val (.ref o0), .val (.int (1 : Int32)), .val (.int p2), .val (.long q3), .second, .val (.int x1), .val (.int (wrk1_1 x1 l0 l1 l2 l3 l4)), .unset, .unset] [(.int (5 : Int32))])) t → Steps p.tables e below S0 t := fun t k => K_20 t (st21.trans k)
    have K22 : ∀ t, Steps p.tables e below (T21.setTop (mkF m 55 #[.val (.ref o0), .val (.int (1 : Int32)), .val (.int p2), .val (.long q3), .second, .val (.int x1), .val (.int (wrk1_1 x1 l0 l1 l2 l3 l4)), .val (.long (wrk1_7 x1 l0 l1 l2 l3 l4)), .second] [(.long (wrk1_7 x1 l0 l1 l2 l3 l4))])) t → Steps p.tables e below S0 t := fun t k => K21 t (by
      refine XS.i2l X21.here hx rfl (hb hby drk1_46) rfl ?_
      show Steps p.tables e below (T21.setTop (mkF m 47 #[.val (.ref o0), .val (.int (1 : Int32)), .val (.int p2), .val (.long q3), .second, .val (.int x1), .val (.int (wrk1_1 x1 l0 l1 l2 l3 l4)), .unset, .unset] [(.long (5 : Int64))])) _
      refine XS.iload X21.here hx rfl (hb hby drk1_47) rfl ?_
      show Steps p.tables e below (T21.setTop (mkF m 49 #[.val (.ref o0), .val (.int (1 : Int32)), .val (.int p2), .val (.long q3), .second, .val (.int x1), .val (.int (wrk1_1 x1 l0 l1 l2 l3 l4)), .unset, .unset] [(.int (wrk1_1 x1 l0 l1 l2 l3 l4)), (.long (5 : Int64))])) _
      refine XS.i2l X21.here hx rfl (hb hby drk1_49) rfl ?_
      show Steps p.tables e below (T21.setTop (mkF m 50 #[.val (.ref o0), .val (.int (1 : Int32)), .val (.int p2), .val (.long q3), .second, .val (.int x1), .val (.int (wrk1_1 x1 l0 l1 l2 l3 l4)), .unset, .unset] [(.long ((wrk1_1 x1 l0 l1 l2 l3 l4).toInt64)), (.long (5 : Int64))])) _
      refine XS.ladd X21.here hx rfl (hb hby drk1_50) rfl ?_
      show Steps p.tables e below (T21.setTop (mkF m 51 #[.val (.ref o0), .val (.int (1 : Int32)), .val (.int p2), .val (.long q3), .second, .val (.int x1), .val (.int (wrk1_1 x1 l0 l1 l2 l3 l4)), .unset, .unset] [(.long ((5 : Int64) + ((wrk1_1 x1 l0 l1 l2 l3 l4).toInt64)))])) _
      refine XS.lstore X21.here hx rfl (hb hby drk1_51) rfl (l' := #[.val (.ref o0), .val (.int (1 : Int32)), .val (.int p2), .val (.long q3), .second, .val (.int x1), .val (.int (wrk1_1 x1 l0 l1 l2 l3 l4)), .val (.long (wrk1_7 x1 l0 l1 l2 l3 l4)), .second]) rfl ?_
      show Steps p.tables e below (T21.setTop (mkF m 53 #[.val (.ref o0), .val (.int (1 : Int32)), .val (.int p2), .val (.long q3), .second, .val (.int x1), .val (.int (wrk1_1 x1 l0 l1 l2 l3 l4)), .val (.long (wrk1_7 x1 l0 l1 l2 l3 l4)), .second] [])) _
      refine XS.lload X21.here hx rfl (hb hby drk1_53) rfl ?_
      show Steps p.tables e below (T21.setTop (mkF m 55 #[.val (.ref o0), .val (.int (1 : Int32)), .val (.int p2), .val (.long q3), .second, .val (.int x1), .val (.int (wrk1_1 x1 l0 l1 l2 l3 l4)), .val (.long (wrk1_7 x1 l0 l1 l2 l3 l4)), .second] [(.long (wrk1_7 x1 l0 l1 l2 l3 l4))])) _
      exact k)
    obtain ⟨fs, hr, hrun, hended, hW, hsame⟩ := X21.leave (v := some (.long (wrk1_7 x1 l0 l1 l2 l3 l4))) (fun h => by rw [Bd.returns] at h; cases h) hlk
    refine ⟨_, _, ?_, hrun, hended, _, _, rfl, ?_, ⟨_, rfl⟩, hW, hsame.mono (by decide) (by decide)⟩
    · rw [← hS0]; exact K22 _ (retOut X21 hx Bd.returns rfl (Or.inr (Or.inl ⟨rfl, rfl, _, rfl⟩)) (hb hby drk1_55) hr)
    · show Qrk1 Z o0 p2 q3 orq op ol ka kl zm x0 x1 x2 x3 x4 l0 l1 l2 l3 l4 h0 n0 _ T21.heap _
      rw [e21]
      have qr : (wrk1_7 x1 l0 l1 l2 l3 l4) = (wrk1_r8 x1 l0 l1 l2 l3 l4) := by unfold wrk1_r8; rw [if_neg hc29_0]
      exact ⟨congrArg (fun z => some (Value.long z)) qr, N21, Kc15, V_ol__15⟩
theorem drk2_0 : decode prog_38_method_2_code 0 = .ok (.aload_n 0, 1) := by decide +kernel
theorem drk2_1 : decode prog_38_method_2_code 1 = .ok (.getfield 7, 3) := by decide +kernel
theorem drk2_4 : decode prog_38_method_2_code 4 = .ok (.iload_n 1, 1) := by decide +kernel
theorem drk2_5 : decode prog_38_method_2_code 5 = .ok (.invokevirtual 29, 3) := by decide +kernel
theorem drk2_8 : decode prog_38_method_2_code 8 = .ok (.istore 5, 2) := by decide +kernel
theorem drk2_10 : decode prog_38_method_2_code 10 = .ok (.aload_n 0, 1) := by decide +kernel
theorem drk2_11 : decode prog_38_method_2_code 11 = .ok (.getfield 19, 3) := by decide +kernel
theorem drk2_14 : decode prog_38_method_2_code 14 = .ok (.iload 5, 2) := by decide +kernel
theorem drk2_16 : decode prog_38_method_2_code 16 = .ok (.iaload, 1) := by decide +kernel
theorem drk2_17 : decode prog_38_method_2_code 17 = .ok (.istore 6, 2) := by decide +kernel
theorem drk2_19 : decode prog_38_method_2_code 19 = .ok (.aload_n 0, 1) := by decide +kernel
theorem drk2_20 : decode prog_38_method_2_code 20 = .ok (.getfield 19, 3) := by decide +kernel
theorem drk2_23 : decode prog_38_method_2_code 23 = .ok (.iload 5, 2) := by decide +kernel
theorem drk2_25 : decode prog_38_method_2_code 25 = .ok (.iload_n 1, 1) := by decide +kernel
theorem drk2_26 : decode prog_38_method_2_code 26 = .ok (.iastore, 1) := by decide +kernel
theorem drk2_27 : decode prog_38_method_2_code 27 = .ok (.iload 6, 2) := by decide +kernel
theorem drk2_29 : decode prog_38_method_2_code 29 = .ok (.ifCond .ge 10, 3) := by decide +kernel
theorem drk2_32 : decode prog_38_method_2_code 32 = .ok (.iload_n 1, 1) := by decide +kernel
theorem drk2_33 : decode prog_38_method_2_code 33 = .ok (.i2l, 1) := by decide +kernel
theorem drk2_34 : decode prog_38_method_2_code 34 = .ok (.lstore 7, 2) := by decide +kernel
theorem drk2_36 : decode prog_38_method_2_code 36 = .ok (.goto 17, 3) := by decide +kernel
theorem drk2_39 : decode prog_38_method_2_code 39 = .ok (.aload_n 0, 1) := by decide +kernel
theorem drk2_40 : decode prog_38_method_2_code 40 = .ok (.getfield 7, 3) := by decide +kernel
theorem drk2_43 : decode prog_38_method_2_code 43 = .ok (.invokevirtual 33, 3) := by decide +kernel
theorem drk2_46 : decode prog_38_method_2_code 46 = .ok (.i2l, 1) := by decide +kernel
theorem drk2_47 : decode prog_38_method_2_code 47 = .ok (.iload 6, 2) := by decide +kernel
theorem drk2_49 : decode prog_38_method_2_code 49 = .ok (.i2l, 1) := by decide +kernel
theorem drk2_50 : decode prog_38_method_2_code 50 = .ok (.ladd, 1) := by decide +kernel
theorem drk2_51 : decode prog_38_method_2_code 51 = .ok (.lstore 7, 2) := by decide +kernel
theorem drk2_53 : decode prog_38_method_2_code 53 = .ok (.lload 7, 2) := by decide +kernel
theorem drk2_55 : decode prog_38_method_2_code 55 = .ok (.lreturn, 1) := by decide +kernel
theorem pnrk2 : plainName "com/example/nearmark/nearmark/paging/LeastRecentlyUsed2" = true := by first | (simp [plainName, overriddenIn]; done) | decide +kernel
theorem pdrk2_0 : parseMethodDescriptor "(I)I" = some ⟨[.int], some .int⟩ := by decide +kernel
theorem pdrk2_1 : parseMethodDescriptor "()I" = some ⟨[], some .int⟩ := by decide +kernel
theorem efrk2 (m : MethodId) (o0 : Addr) (p2 : Int32) (q3 : Int64) : entryFrame m #[(.ref o0), (.int (2 : Int32)), (.int p2), (.long q3)] 9 = mkF m 0 #[.val (.ref o0), .val (.int (2 : Int32)), .val (.int p2), .val (.long q3), .second, .unset, .unset, .unset, .unset] [] := by first | (simp [entryFrame, mkF, argsToLocals, Value.category]; done) | rfl
def Qrk2 (Z : State) (o0 : Addr) (p2 : Int32) (q3 : Int64) (orq : Addr) (op : Addr) (ol : Addr) (ka : ClassId) (kl : ClassId) (zm : Int32) (x0 : Int32) (x1 : Int32) (x2 : Int32) (x3 : Int32) (x4 : Int32) (l0 : Int32) (l1 : Int32) (l2 : Int32) (l3 : Int32) (l4 : Int32) (h0 : Heap) (n0 : Nat) (v : Option Value) (h : Heap) (L : List Loc) : Prop := v = some (.long (wrk2_r8 x2 l0 l1 l2 l3 l4)) ∧ Fr n0 L ∧ Keep h0 h [ol] ∧ Arv Z h ol kl .int zm [(.int (wrk2_2 x2 l0)), (.int (wrk2_3 x2 l1)), (.int (wrk2_4 x2 l2)), (.int (wrk2_5 x2 l3)), (.int (wrk2_6 x2 l4))] (.int (0 : Int32))
set_option maxRecDepth 65536 in
set_option maxHeartbeats 40000000 in
theorem rmrk2 (l : Launch) (Z : State) (a0 : Array Value) (hw : ∀ d ∈ tables_1, d.before a0 Z = true) (ws : List Jvm.Cond) (o0 : Addr) (p2 : Int32) (q3 : Int64) (orq : Addr) (op : Addr) (ol : Addr) (ka : ClassId) (kl : ClassId) (zm : Int32) (x0 : Int32) (x1 : Int32) (x2 : Int32) (x3 : Int32) (x4 : Int32) (l0 : Int32) (l1 : Int32) (l2 : Int32) (l3 : Int32) (l4 : Int32) (h0 : Heap) (n0 : Nat) (Z0 : n0 ≤ h0.size) (F_o0_requests : Fld Z h0 o0 "com/example/nearmark/nearmark/paging/LeastRecentlyUsed2" "requests" "Lcom/example/nearmark/nearmark/paging/Requests;" (.ref orq)) (F_o0_lastRequest : Fld Z h0 o0 "com/example/nearmark/nearmark/paging/LeastRecentlyUsed2" "lastRequest" "[I" (.ref ol)) (E_orq : Exa Z h0 orq "com/example/nearmark/nearmark/paging/Requests") (F_orq_pages : Fld Z h0 orq "com/example/nearmark/nearmark/paging/Requests" "pages" "[I" (.ref op)) (V_op : Arv Z h0 op ka .int (5 : Int32) [(.int x0), (.int x1), (.int x2), (.int x3), (.int x4)] (.int (0 : Int32))) (V_ol : Arv Z h0 ol kl .int zm [(.int l0), (.int l1), (.int l2), (.int l3), (.int l4)] (.int (0 : Int32))) (g_ol : n0 ≤ ol) (hin : ¬ x2 < 0 ∧ x2 < zm) (hz : ¬ (5 : Int32) < zm) (ne_o0_ol : o0 ≠ ol) (ne_orq_ol : orq ≠ ol) (ne_op_ol : op ≠ ol) :
    MetFree l (⟨"com/example/nearmark/nearmark/paging/LeastRecentlyUsed2", "rank", "(IZJ)J"⟩ : MethodName) (head1 (Jvm.Cond.code (⟨"com/example/nearmark/nearmark/paging/LeastRecentlyUsed2", "rank", "(IZJ)J"⟩ : MethodName) prog_38_method_2_code 9 (some .long) :: ws) ({ frames := 1, cells := 0, slots := 0, locals := 13 } : Room)) (fun a U => a = #[(.ref o0), (.int (2 : Int32)), (.int p2), (.long q3)] ∧ Z.Warmed39 U.vm ∧ U.heap = h0) (fun _ _ _ _ _ => True) (fun _ U o U' => ∃ v L, o = .returned v ∧ Qrk2 Z o0 p2 q3 orq op ol ka kl zm x0 x1 x2 x3 x4 l0 l1 l2 l3 l4 h0 n0 v U'.heap L ∧ FrameEnd U o U' L ({ frames := 1, cells := 0, slots := 0, locals := 13 } : Room).cells ({ frames := 1, cells := 0, slots := 0, locals := 13 } : Room).slots) := by
  refine MetFree.of_bodySF (plainFor_of_name pnrk2) hisR ?_
  intro p e s m args below meth c s₁ Bd hml0 hP hK
  obtain ⟨rfl, hZ, hh⟩ := hP
  have hlk : meth.locks = false := BodyLoose.notSynchronized Bd
  have hx := Bd.exec
  have hby := Bd.bytes
  have hml : c.maxLocals = 9 := hml0
  have hown : s.vm.findClass "com/example/nearmark/nearmark/paging/LeastRecentlyUsed2" = some m.cls := findClass_of_methodNamed Bd.named
  have hnm := (name_of_methodNamed Bd.named Bd.method).1
  have X0 : Stand p l e ({ frames := 1, cells := 0, slots := 0, locals := 13 } : Room) s m #[(.ref o0), (.int (2 : Int32)), (.int p2), (.long q3)] below meth c s₁ [] 0 0 := Stand.of_body Bd
  have e0 : s₁.heap = h0 := by rw [← hh, Bd.state]; rfl
  have N0 := Fr.nil n0
  obtain ⟨S0, hS0⟩ : ∃ S0, S0 = s₁.setTop (entryFrame m #[(.ref o0), (.int (2 : Int32)), (.int p2), (.long q3)] 9) := ⟨_, rfl⟩
  have pre0 : ∀ t, Steps p.tables e below (s₁.setTop (mkF m 0 #[.val (.ref o0), .val (.int (2 : Int32)), .val (.int p2), .val (.long q3), .second, .unset, .unset, .unset, .unset] [])) t → Steps p.tables e below S0 t := fun t k => by rw [hS0]; exact castTop (efrk2 m o0 p2 q3) k
  have K1 : ∀ t, Steps p.tables e below (s₁.setTop (mkF m 1 #[.val (.ref o0), .val (.int (2 : Int32)), .val (.int p2), .val (.long q3), .second, .unset, .unset, .unset, .unset] [(.ref o0)])) t → Steps p.tables e below S0 t := fun t k => pre0 t (by
    refine XS.aloadN X0.here hx rfl (hb hby drk2_0) rfl rfl ?_
    show Steps p.tables e below (s₁.setTop (mkF m 1 #[.val (.ref o0), .val (.int (2 : Int32)), .val (.int p2), .val (.long q3), .second, .unset, .unset, .unset, .unset] [(.ref o0)])) _
    exact k)
  obtain ⟨T2, X2, e2, st2⟩ := getF X0 hx hZ hown (host := "") (Or.inl (hw _ (List.mem_of_getElem? (i := 29) rfl))) Via.refl e0 F_o0_requests (g := (mkF m 1 #[.val (.ref o0), .val (.int (2 : Int32)), .val (.int p2), .val (.long q3), .second, .unset, .unset, .unset, .unset] [(.ref o0)])) rfl rfl (hb hby drk2_1)
  have K2 : ∀ t, Steps p.tables e below (T2.setTop (mkF m 4 #[.val (.ref o0), .val (.int (2 : Int32)), .val (.int p2), .val (.long q3), .second, .unset, .unset, .unset, .unset] [(.ref orq)])) t → Steps p.tables e below S0 t := fun t k => K1 t (st2 t k)
  have K3 : ∀ t, Steps p.tables e below (T2.setTop (mkF m 5 #[.val (.ref o0), .val (.int (2 : Int32)), .val (.int p2), .val (.long q3), .second, .unset, .unset, .unset, .unset] [(.int (2 : Int32)), (.ref orq)])) t → Steps p.tables e below S0 t := fun t k => K2 t (by
    refine XS.iloadN X2.here hx rfl (hb hby drk2_4) rfl ?_
    show Steps p.tables e below (T2.setTop (mkF m 5 #[.val (.ref o0), .val (.int (2 : Int32)), .val (.int p2), .val (.long q3), .second, .unset, .unset, .unset, .unset] [(.int (2 : Int32)), (.ref orq)])) _
    exact k)
  have K_4 : ∀ t, Steps p.tables e below (T2.setTop (mkF m 5 #[.val (.ref o0), .val (.int (2 : Int32)), .val (.int p2), .val (.long q3), .second, .unset, .unset, .unset, .unset] [(.int (2 : Int32)), (.ref orq)])) t → Steps p.tables e below S0 t := K3
  obtain ⟨cq5, kq5, q5a, q5b, q5c⟩ := isOf hZ e2 E_orq
  obtain ⟨_, _, ⟨T5, L5, k5, n5⟩, -, X5, ⟨Lc5, hQ5, l5, y5, z5⟩, st5⟩ := X2.virtualBack hx (y := (⟨"com/example/nearmark/nearmark/paging/Requests", "page", "(I)I"⟩ : MethodName)) (z := (⟨"com/example/nearmark/nearmark/paging/Requests", "page", "(I)I"⟩ : MethodName)) hown (mvT hZ (hw _ (List.mem_of_getElem? (i := 47) rfl))) (mvT hZ (hw _ (List.mem_of_getElem? (i := 48) rfl))) (notFace_of_selects (args := #[]) (mvT hZ (hw _ (List.mem_of_getElem? (i := 50) rfl)))) (mvT hZ (hw _ (List.mem_of_getElem? (i := 50) rfl))) (mvT hZ (hw _ (List.mem_of_getElem? (i := 49) rfl))) (by decide) (backOf (W := 0) (rmpg2 l Z a0 hw [] orq op ka x0 x1 x2 x3 x4 h0 n0 Z0 F_orq_pages V_op) hZ (hw _ (List.mem_of_getElem? (i := 51) rfl)) (hw _ (List.mem_of_getElem? (i := 11) rfl)) (by decide) (by decide)) q5a q5c (g := (mkF m 5 #[.val (.ref o0), .val (.int (2 : Int32)), .val (.int p2), .val (.long q3), .second, .unset, .unset, .unset, .unset] [(.int (2 : Int32)), (.ref orq)])) rfl (by rw [hml]; rfl) (Steps.refl _) (argsL := [(.int (2 : Int32))]) (rest := []) (lenOf pdrk2_0 rfl) rfl (by show 2 * 0 + _ ≤ _; exact Nat.le_of_eq rfl) (hb hby drk2_5) (fun _ _ => ⟨rfl, e2, (by decide : 0 + 0 ≤ 0), (by decide : 0 + 0 ≤ 0)⟩)
  dsimp only [Pt.U, Pt.locs, Pt.cells, Pt.slots] at X5 l5 y5 z5 st5 hQ5
  subst l5 y5 z5
  obtain ⟨rfl, N5q, e5⟩ := hQ5
  have N5 := Fr.app N0 N5q
  have K5 : ∀ t, Steps p.tables e below (T5.setTop (mkF m 8 #[.val (.ref o0), .val (.int (2 : Int32)), .val (.int p2), .val (.long q3), .second, .unset, .unset, .unset, .unset] [(.int x2)])) t → Steps p.tables e below S0 t := fun t k => K_4 t (st5.trans k)
  have K6 : ∀ t, Steps p.tables e below (T5.setTop (mkF m 11 #[.val (.ref o0), .val (.int (2 : Int32)), .val (.int p2), .val (.long q3), .second, .val (.int x2), .unset, .unset, .unset] [(.ref o0)])) t → Steps p.tables e below S0 t := fun t k => K5 t (by
    refine XS.istore X5.here hx rfl (hb hby drk2_8) rfl (l' := #[.val (.ref o0), .val (.int (2 : Int32)), .val (.int p2), .val (.long q3), .second, .val (.int x2), .unset, .unset, .unset]) rfl ?_
    show Steps p.tables e below (T5.setTop (mkF m 10 #[.val (.ref o0), .val (.int (2 : Int32)), .val (.int p2), .val (.long q3), .second, .val (.int x2), .unset, .unset, .unset] [])) _
    refine XS.aloadN X5.here hx rfl (hb hby drk2_10) rfl rfl ?_
    show Steps p.tables e below (T5.setTop (mkF m 11 #[.val (.ref o0), .val (.int (2 : Int32)), .val (.int p2), .val (.long q3), .second, .val (.int x2), .unset, .unset, .unset] [(.ref o0)])) _
    exact k)
  obtain ⟨T7, X7, e7, st7⟩ := getF X5 hx hZ hown (host := "") (Or.inl (hw _ (List.mem_of_getElem? (i := 36) rfl))) Via.refl e5 F_o0_lastRequest (g := (mkF m 11 #[.val (.ref o0), .val (.int (2 : Int32)), .val (.int p2), .val (.long q3), .second, .val (.int x2), .unset, .unset, .unset] [(.ref o0)])) rfl rfl (hb hby drk2_11)
  have K7 : ∀ t, Steps p.tables e below (T7.setTop (mkF m 14 #[.val (.ref o0), .val (.int (2 : Int32)), .val (.int p2), .val (.long q3), .second, .val (.int x2), .unset, .unset, .unset] [(.ref ol)])) t → Steps p.tables e below S0 t := fun t k => K6 t (st7 t k)
  have K8 : ∀ t, Steps p.tables e below (T7.setTop (mkF m 16 #[.val (.ref o0), .val (.int (2 : Int32)), .val (.int p2), .val (.long q3), .second, .val (.int x2), .unset, .unset, .unset] [(.int x2), (.ref ol)])) t → Steps p.tables e below S0 t := fun t k => K7 t (by
    refine XS.iload X7.here hx rfl (hb hby drk2_14) rfl ?_
    show Steps p.tables e below (T7.setTop (mkF m 16 #[.val (.ref o0), .val (.int (2 : Int32)), .val (.int p2), .val (.long q3), .second, .val (.int x2), .unset, .unset, .unset] [(.int x2), (.ref ol)])) _
    exact k)
  have K_9 : ∀ t, Steps p.tables e below (T7.setTop (mkF m 16 #[.val (.ref o0), .val (.int (2 : Int32)), .val (.int p2), .val (.long q3), .second, .val (.int x2), .unset, .unset, .unset] [(.int x2), (.ref ol)])) t → Steps p.tables e below S0 t := K8
  obtain ⟨cl10, Ar10, qa10, sa10, na10, ha10, ga10⟩ := id V_ol
  have hin10 : ¬ (x2 < 0 ∨ cl10.slots.size ≤ (x2).toNatClampNeg) := inb_of sa10 hin
  have hat10 : cl10.slots[(x2).toNatClampNeg]? = some (.int (own_get [l0, l1, l2, l3, l4] x2)) := Has.at ha10 hin10 (own_getD [l0, l1, l2, l3, l4] x2)
  have K10 : ∀ t, Steps p.tables e below (T7.setTop (mkF m 17 #[.val (.ref o0), .val (.int (2 : Int32)), .val (.int p2), .val (.long q3), .second, .val (.int x2), .unset, .unset, .unset] [(.int (own_get [l0, l1, l2, l3, l4] x2))])) t → Steps p.tables e below S0 t := fun t k => K_9 t (X7.iaload hx (j := x2) (v := (.int (own_get [l0, l1, l2, l3, l4] x2))) (by rw [e7]; exact Ar10.1) (State.isArrayOf_alike hZ.alike Ar10.2.1) Ar10.2.2 hin10 hat10 (g := (mkF m 16 #[.val (.ref o0), .val (.int (2 : Int32)), .val (.int p2), .val (.long q3), .second, .val (.int x2), .unset, .unset, .unset] [(.int x2), (.ref ol)])) rfl rfl (hb hby drk2_16) _ k)
  have K11 : ∀ t, Steps p.tables e below (T7.setTop (mkF m 20 #[.val (.ref o0), .val (.int (2 : Int32)), .val (.int p2), .val (.long q3), .second, .val (.int x2), .val (.int (wrk2_1 x2 l0 l1 l2 l3 l4)), .unset, .unset] [(.ref o0)])) t → Steps p.tables e below S0 t := fun t k => K10 t (by
    refine XS.istore X7.here hx rfl (hb hby drk2_17) rfl (l' := #[.val (.ref o0), .val (.int (2 : Int32)), .val (.int p2), .val (.long q3), .second, .val (.int x2), .val (.int (wrk2_1 x2 l0 l1 l2 l3 l4)), .unset, .unset]) rfl ?_
    show Steps p.tables e below (T7.setTop (mkF m 19 #[.val (.ref o0), .val (.int (2 : Int32)), .val (.int p2), .val (.long q3), .second, .val (.int x2), .val (.int (wrk2_1 x2 l0 l1 l2 l3 l4)), .unset, .unset] [])) _
    refine XS.aloadN X7.here hx rfl (hb hby drk2_19) rfl rfl ?_
    show Steps p.tables e below (T7.setTop (mkF m 20 #[.val (.ref o0), .val (.int (2 : Int32)), .val (.int p2), .val (.long q3), .second, .val (.int x2), .val (.int (wrk2_1 x2 l0 l1 l2 l3 l4)), .unset, .unset] [(.ref o0)])) _
    exact k)
  obtain ⟨T12, X12, e12, st12⟩ := getF X7 hx hZ hown (host := "") (Or.inl (hw _ (List.mem_of_getElem? (i := 36) rfl))) Via.refl e7 F_o0_lastRequest (g := (mkF m 20 #[.val (.ref o0), .val (.int (2 : Int32)), .val (.int p2), .val (.long q3), .second, .val (.int x2), .val (.int (wrk2_1 x2 l0 l1 l2 l3 l4)), .unset, .unset] [(.ref o0)])) rfl rfl (hb hby drk2_20)
  have K12 : ∀ t, Steps p.tables e below (T12.setTop (mkF m 23 #[.val (.ref o0), .val (.int (2 : Int32)), .val (.int p2), .val (.long q3), .second, .val (.int x2), .val (.int (wrk2_1 x2 l0 l1 l2 l3 l4)), .unset, .unset] [(.ref ol)])) t → Steps p.tables e below S0 t := fun t k => K11 t (st12 t k)
  have K13 : ∀ t, Steps p.tables e below (T12.setTop (mkF m 26 #[.val (.ref o0), .val (.int (2 : Int32)), .val (.int p2), .val (.long q3), .second, .val (.int x2), .val (.int (wrk2_1 x2 l0 l1 l2 l3 l4)), .unset, .unset] [(.int (2 : Int32)), (.int x2), (.ref ol)])) t → Steps p.tables e below S0 t := fun t k => K12 t (by
    refine XS.iload X12.here hx rfl (hb hby drk2_23) rfl ?_
    show Steps p.tables e below (T12.setTop (mkF m 25 #[.val (.ref o0), .val (.int (2 : Int32)), .val (.int p2), .val (.long q3), .second, .val (.int x2), .val (.int (wrk2_1 x2 l0 l1 l2 l3 l4)), .unset, .unset] [(.int x2), (.ref ol)])) _
    refine XS.iloadN X12.here hx rfl (hb hby drk2_25) rfl ?_
    show Steps p.tables e below (T12.setTop (mkF m 26 #[.val (.ref o0), .val (.int (2 : Int32)), .val (.int p2), .val (.long q3), .second, .val (.int x2), .val (.int (wrk2_1 x2 l0 l1 l2 l3 l4)), .unset, .unset] [(.int (2 : Int32)), (.int x2), (.ref ol)])) _
    exact k)
  have K_14 : ∀ t, Steps p.tables e below (T12.setTop (mkF m 26 #[.val (.ref o0), .val (.int (2 : Int32)), .val (.int p2), .val (.long q3), .second, .val (.int x2), .val (.int (wrk2_1 x2 l0 l1 l2 l3 l4)), .unset, .unset] [(.int (2 : Int32)), (.int x2), (.ref ol)])) t → Steps p.tables e below S0 t := K13
  obtain ⟨cl15, Ar15, qa15, sa15, na15, ha15, ga15⟩ := id V_ol
  have hin15 : ¬ (x2 < 0 ∨ cl15.slots.size ≤ (x2).toNatClampNeg) := inb_of sa15 hin
  obtain ⟨T15, h15, X15, e15, W15, st15⟩ := stI X12 hx hZ e12 Ar15 (j := x2) hin15 (g := (mkF m 26 #[.val (.ref o0), .val (.int (2 : Int32)), .val (.int p2), .val (.long q3), .second, .val (.int x2), .val (.int (wrk2_1 x2 l0 l1 l2 l3 l4)), .unset, .unset] [(.int (2 : Int32)), (.int x2), (.ref ol)])) rfl rfl (hb hby drk2_26)
  have V_ol__15 : Arv Z h15 ol kl .int zm [(.int (wrk2_2 x2 l0)), (.int (wrk2_3 x2 l1)), (.int (wrk2_4 x2 l2)), (.int (wrk2_5 x2 l3)), (.int (wrk2_6 x2 l4))] (.int (0 : Int32)) := (Arv.set Ar15 qa15 sa15 na15 ha15 ga15 rfl W15 (x2).toNatClampNeg rfl (own_lt5 hin hz)).pad (own_upd5 l0 l1 l2 l3 l4 x2 (2 : Int32) (hin).1)
  have F_o0_requests__15 := F_o0_requests.other W15 (Or.inl ne_o0_ol)
  have F_o0_lastRequest__15 := F_o0_lastRequest.other W15 (Or.inl ne_o0_ol)
  have E_orq__15 := E_orq.wr W15
  have F_orq_pages__15 := F_orq_pages.other W15 (Or.inl ne_orq_ol)
  have V_op__15 := V_op.other W15 ne_op_ol
  have N15 := Fr.snoc X15 N5 g_ol
  have Zs15 : n0 ≤ h15.size := Nat.le_trans Z0 (Nat.le_of_eq W15.size.symm)
  have Kc15 : Keep h0 h15 [ol] := (Keep.refl h0 [ol]).wr W15 (Or.inl (List.mem_of_getElem? (i := 0) rfl))
  have K15 : ∀ t, Steps p.tables e below (T15.setTop (mkF m 27 #[.val (.ref o0), .val (.int (2 : Int32)), .val (.int p2), .val (.long q3), .second, .val (.int x2), .val (.int (wrk2_1 x2 l0 l1 l2 l3 l4)), .unset, .unset] [])) t → Steps p.tables e below S0 t := fun t k => K_14 t (st15 t k)
  have K16 : ∀ t, Steps p.tables e below (T15.setTop (mkF m 29 #[.val (.ref o0), .val (.int (2 : Int32)), .val (.int p2), .val (.long q3), .second, .val (.int x2), .val (.int (wrk2_1 x2 l0 l1 l2 l3 l4)), .unset, .unset] [(.int (wrk2_1 x2 l0 l1 l2 l3 l4))])) t → Steps p.tables e below S0 t := fun t k => K15 t (by
    refine XS.iload X15.here hx rfl (hb hby drk2_27) rfl ?_
    show Steps p.tables e below (T15.setTop (mkF m 29 #[.val (.ref o0), .val (.int (2 : Int32)), .val (.int p2), .val (.long q3), .second, .val (.int x2), .val (.int (wrk2_1 x2 l0 l1 l2 l3 l4)), .unset, .unset] [(.int (wrk2_1 x2 l0 l1 l2 l3 l4))])) _
    exact k)
  by_cases hc29_0 : (wrk2_1 x2 l0 l1 l2 l3 l4) < (0 : Int32)
  · -- yes
    have K17 : ∀ t, Steps p.tables e below (T15.setTop (mkF m 55 #[.val (.ref o0), .val (.int (2 : Int32)), .val (.int p2), .val (.long q3), .second, .val (.int x2), .val (.int (wrk2_1 x2 l0 l1 l2 l3 l4)), .val (.long (2 : Int64)), .second] [(.long (2 : Int64))])) t → Steps p.tables e below S0 t := fun t k => K16 t (by
      refine XS.ifNo X15.here hx rfl (hb hby drk2_29) rfl (XT.i0_ge_f hc29_0) ?_
      show Steps p.tables e below (T15.setTop (mkF m 32 #[.val (.ref o0), .val (.int (2 : Int32)), .val (.int p2), .val (.long q3), .second, .val (.int x2), .val (.int (wrk2_1 x2 l0 l1 l2 l3 l4)), .unset, .unset] [])) _
      refine XS.iloadN X15.here hx rfl (hb hby drk2_32) rfl ?_
      show Steps p.tables e below (T15.setTop (mkF m 33 #[.val (.ref o0), .val (.int (2 : Int32)), .val (.int p2), .val (.long q3), .second, .val (.int x2), .val (.int (wrk2_1 x2 l0 l1 l2 l3 l4)), .unset, .unset] [(.int (2 : Int32))])) _
      refine XS.i2l X15.here hx rfl (hb hby drk2_33) rfl ?_
      show Steps p.tables e below (T15.setTop (mkF m 34 #[.val (.ref o0), .val (.int (2 : Int32)), .val (.int p2), .val (.long q3), .second, .val (.int x2), .val (.int (wrk2_1 x2 l0 l1 l2 l3 l4)), .unset, .unset] [(.long (2 : Int64))])) _
      refine XS.lstore X15.here hx rfl (hb hby drk2_34) rfl (l' := #[.val (.ref o0), .val (.int (2 : Int32)), .val (.int p2), .val (.long q3), .second, .val (.int x2), .val (.int (wrk2_1 x2 l0 l1 l2 l3 l4)), .val (.long (2 : Int64)), .second]) rfl ?_
      show Steps p.tables e below (T15.setTop (mkF m 36 #[.val (.ref o0), .val (.int (2 : Int32)), .val (.int p2), .val (.long q3), .second, .val (.int x2), .val (.int (wrk2_1 x2 l0 l1 l2 l3 l4)), .val (.long (2 : Int64)), .second] [])) _
      refine XS.goto X15.here hx rfl (pc0 := 36) (pc' := 53) rfl (hb hby drk2_36) (by decide) (by decide) ?_
      show Steps p.tables e below (T15.setTop (mkF m 53 #[.val (.ref o0), .val (.int (2 : Int32)), .val (.int p2), .val (.long q3), .second, .val (.int x2), .val (.int (wrk2_1 x2 l0 l1 l2 l3 l4)), .val (.long (2 : Int64)), .second] [])) _
      refine XS.lload X15.here hx rfl (hb hby drk2_53) rfl ?_
      show Steps p.tables e below (T15.setTop (mkF m 55 #[.val (.ref o0), .val (.int (2 : Int32)), .val (.int p2), .val (.long q3), .second, .val (.int x2), .val (.int (wrk2_1 x2 l0 l1 l2 l3 l4)), .val (.long (2 : Int64)), .second] [(.long (2 : Int64))])) _
      exact k)
    obtain ⟨fs, hr, hrun, hended, hW, hsame⟩ := X15.leave (v := some (.long (2 : Int64))) (fun h => by rw [Bd.returns] at h; cases h) hlk
    refine ⟨_, _, ?_, hrun, hended, _, _, rfl, ?_, ⟨_, rfl⟩, hW, hsame.mono (by decide) (by decide)⟩
    · rw [← hS0]; exact K17 _ (retOut X15 hx Bd.returns rfl (Or.inr (Or.inl ⟨rfl, rfl, _, rfl⟩)) (hb hby drk2_55) hr)
    · show Qrk2 Z o0 p2 q3 orq op ol ka kl zm x0 x1 x2 x3 x4 l0 l1 l2 l3 l4 h0 n0 _ T15.heap _
      rw [e15]
      have qr : (2 : Int64) = (wrk2_r8 x2 l0 l1 l2 l3 l4) := by unfold wrk2_r8; rw [if_pos hc29_0]
      exact ⟨congrArg (fun z => some (Value.long z)) qr, N15, Kc15, V_ol__15⟩
  · -- no
    have K18 : ∀ t, Steps p.tables e below (T15.setTop (mkF m 40 #[.val (.ref o0), .val (.int (2 : Int32)), .val (.int p2), .val (.long q3), .second, .val (.int x2), .val (.int (wrk2_1 x2 l0 l1 l2 l3 l4)), .unset, .unset] [(.ref o0)])) t → Steps p.tables e below S0 t := fun t k => K16 t (by
      refine XS.ifYes X15.here hx rfl (pc0 := 29) (pc' := 39) rfl (hb hby drk2_29) rfl (XT.i0_ge_t hc29_0) (by decide) (by decide) ?_
      show Steps p.tables e below (T15.setTop (mkF m 39 #[.val (.ref o0), .val (.int (2 : Int32)), .val (.int p2), .val (.long q3), .second, .val (.int x2), .val (.int (wrk2_1 x2 l0 l1 l2 l3 l4)), .unset, .unset] [])) _
      refine XS.aloadN X15.here hx rfl (hb hby drk2_39) rfl rfl ?_
      show Steps p.tables e below (T15.setTop (mkF m 40 #[.val (.ref o0), .val (.int (2 : Int32)), .val (.int p2), .val (.long q3), .second, .val (.int x2), .val (.int (wrk2_1 x2 l0 l1 l2 l3 l4)), .unset, .unset] [(.ref o0)])) _
      exact k)
    obtain ⟨T19, X19, e19, st19⟩ := getF X15 hx hZ hown (host := "") (Or.inl (hw _ (List.mem_of_getElem? (i := 29) rfl))) Via.refl e15 F_o0_requests__15 (g := (mkF m 40 #[.val (.ref o0), .val (.int (2 : Int32)), .val (.int p2), .val (.long q3), .second, .val (.int x2), .val (.int (wrk2_1 x2 l0 l1 l2 l3 l4)), .unset, .unset] [(.ref o0)])) rfl rfl (hb hby drk2_40)
    have K19 : ∀ t, Steps p.tables e below (T19.setTop (mkF m 43 #[.val (.ref o0), .val (.int (2 : Int32)), .val (.int p2), .val (.long q3), .second, .val (.int x2), .val (.int (wrk2_1 x2 l0 l1 l2 l3 l4)), .unset, .unset] [(.ref orq)])) t → Steps p.tables e below S0 t := fun t k => K18 t (st19 t k)
    have K_20 : ∀ t, Steps p.tables e below (T19.setTop (mkF m 43 #[.val (.ref o0), .val (.int (2 : Int32)), .val (.int p2), .val (.long q3), .second, .val (.int x2), .val (.int (wrk2_1 x2 l0 l1 l2 l3 l4)), .unset, .unset] [(.ref orq)])) t → Steps p.tables e below S0 t := K19
    obtain ⟨cq21, kq21, q21a, q21b, q21c⟩ := isOf hZ e19 E_orq__15
    obtain ⟨_, _, ⟨T21, L21, k21, n21⟩, -, X21, ⟨Lc21, hQ21, l21, y21, z21⟩, st21⟩ := X19.virtualBack hx (y := (⟨"com/example/nearmark/nearmark/paging/Requests", "count", "()I"⟩ : MethodName)) (z := (⟨"com/example/nearmark/nearmark/paging/Requests", "count", "()I"⟩ : MethodName)) hown (mvT hZ (hw _ (List.mem_of_getElem? (i := 53) rfl))) (mvT hZ (hw _ (List.mem_of_getElem? (i := 54) rfl))) (notFace_of_selects (args := #[]) (mvT hZ (hw _ (List.mem_of_getElem? (i := 56) rfl)))) (mvT hZ (hw _ (List.mem_of_getElem? (i := 56) rfl))) (mvT hZ (hw _ (List.mem_of_getElem? (i := 55) rfl))) (by decide) (backOf (W := 0) (rmct l Z a0 hw [] orq op ka x0 x1 x2 x3 x4 h15 n0 Zs15 F_orq_pages__15 V_op__15) hZ (hw _ (List.mem_of_getElem? (i := 57) rfl)) (hw _ (List.mem_of_getElem? (i := 11) rfl)) (by decide) (by decide)) q21a q21c (g := (mkF m 43 #[.val (.ref o0), .val (.int (2 : Int32)), .val (.int p2), .val (.long q3), .second, .val (.int x2), .val (.int (wrk2_1 x2 l0 l1 l2 l3 l4)), .unset, .unset] [(.ref orq)])) rfl (by rw [hml]; rfl) (Steps.refl _) (argsL := []) (rest := []) (lenOf pdrk2_1 rfl) rfl (by show 2 * 0 + _ ≤ _; exact Nat.le_of_eq rfl) (hb hby drk2_43) (fun _ _ => ⟨rfl, e19, (by decide : 0 + 0 ≤ 0), (by decide : 0 + 0 ≤ 0)⟩)
    dsimp only [Pt.U, Pt.locs, Pt.cells, Pt.slots] at X21 l21 y21 z21 st21 hQ21
    subst l21 y21 z21
    obtain ⟨rfl, N21q, e21⟩ := hQ21
    have N21 := Fr.app N15 N21q
    have K21 : ∀ t, Steps p.tables e below (T21.setTop (mkF m 46 #[.val (.ref o0), .val (.int (2 : Int32)), .val (.int p2), .val (.long q3), .second, .val (.int x2), .val (.int (wrk2_1 x2 l0 l1 l2 l3 l4)), .unset, .unset] [(.int (5 : Int32))])) t → Steps p.tables e below S0 t := fun t k => K_20 t (st21.trans k)
    have K22 : ∀ t, Steps p.tables e below (T21.setTop (mkF m 55 #[.val (.ref o0), .val (.int (2 : Int32)), .val (.int p2), .val (.long q3), .second, .val (.int x2), .val (.int (wrk2_1 x2 l0 l1 l2 l3 l4)), .val (.long (wrk2_7 x2 l0 l1 l2 l3 l4)), .second] [(.long (wrk2_7 x2 l0 l1 l2 l3 l4))])) t → Steps p.tables e below S0 t := fun t k => K21 t (by
      refine XS.i2l X21.here hx rfl (hb hby drk2_46) rfl ?_
      show Steps p.tables e below (T21.setTop (mkF m 47 #[.val (.ref o0), .val (.int (2 : Int32)), .val (.int p2), .val (.long q3), .second, .val (.int x2), .val (.int (wrk2_1 x2 l0 l1 l2 l3 l4)), .unset, .unset] [(.long (5 : Int64))])) _
      refine XS.iload X21.here hx rfl (hb hby drk2_47) rfl ?_
      show Steps p.tables e below (T21.setTop (mkF m 49 #[.val (.ref o0), .val (.int (2 : Int32)), .val (.int p2), .val (.long q3), .second, .val (.int x2), .val (.int (wrk2_1 x2 l0 l1 l2 l3 l4)), .unset, .unset] [(.int (wrk2_1 x2 l0 l1 l2 l3 l4)), (.long (5 : Int64))])) _
      refine XS.i2l X21.here hx rfl (hb hby drk2_49) rfl ?_
      show Steps p.tables e below (T21.setTop (mkF m 50 #[.val (.ref o0), .val (.int (2 : Int32)), .val (.int p2), .val (.long q3), .second, .val (.int x2), .val (.int (wrk2_1 x2 l0 l1 l2 l3 l4)), .unset, .unset] [(.long ((wrk2_1 x2 l0 l1 l2 l3 l4).toInt64)), (.long (5 : Int64))])) _
      refine XS.ladd X21.here hx rfl (hb hby drk2_50) rfl ?_
      show Steps p.tables e below (T21.setTop (mkF m 51 #[.val (.ref o0), .val (.int (2 : Int32)), .val (.int p2), .val (.long q3), .second, .val (.int x2), .val (.int (wrk2_1 x2 l0 l1 l2 l3 l4)), .unset, .unset] [(.long ((5 : Int64) + ((wrk2_1 x2 l0 l1 l2 l3 l4).toInt64)))])) _
      refine XS.lstore X21.here hx rfl (hb hby drk2_51) rfl (l' := #[.val (.ref o0), .val (.int (2 : Int32)), .val (.int p2), .val (.long q3), .second, .val (.int x2), .val (.int (wrk2_1 x2 l0 l1 l2 l3 l4)), .val (.long (wrk2_7 x2 l0 l1 l2 l3 l4)), .second]) rfl ?_
      show Steps p.tables e below (T21.setTop (mkF m 53 #[.val (.ref o0), .val (.int (2 : Int32)), .val (.int p2), .val (.long q3), .second, .val (.int x2), .val (.int (wrk2_1 x2 l0 l1 l2 l3 l4)), .val (.long (wrk2_7 x2 l0 l1 l2 l3 l4)), .second] [])) _
      refine XS.lload X21.here hx rfl (hb hby drk2_53) rfl ?_
      show Steps p.tables e below (T21.setTop (mkF m 55 #[.val (.ref o0), .val (.int (2 : Int32)), .val (.int p2), .val (.long q3), .second, .val (.int x2), .val (.int (wrk2_1 x2 l0 l1 l2 l3 l4)), .val (.long (wrk2_7 x2 l0 l1 l2 l3 l4)), .second] [(.long (wrk2_7 x2 l0 l1 l2 l3 l4))])) _
      exact k)
    obtain ⟨fs, hr, hrun, hended, hW, hsame⟩ := X21.leave (v := some (.long (wrk2_7 x2 l0 l1 l2 l3 l4))) (fun h => by rw [Bd.returns] at h; cases h) hlk
    refine ⟨_, _, ?_, hrun, hended, _, _, rfl, ?_, ⟨_, rfl⟩, hW, hsame.mono (by decide) (by decide)⟩
    · rw [← hS0]; exact K22 _ (retOut X21 hx Bd.returns rfl (Or.inr (Or.inl ⟨rfl, rfl, _, rfl⟩)) (hb hby drk2_55) hr)
    · show Qrk2 Z o0 p2 q3 orq op ol ka kl zm x0 x1 x2 x3 x4 l0 l1 l2 l3 l4 h0 n0 _ T21.heap _
      rw [e21]
      have qr : (wrk2_7 x2 l0 l1 l2 l3 l4) = (wrk2_r8 x2 l0 l1 l2 l3 l4) := by unfold wrk2_r8; rw [if_neg hc29_0]
      exact ⟨congrArg (fun z => some (Value.long z)) qr, N21, Kc15, V_ol__15⟩
theorem drk3_0 : decode prog_38_method_2_code 0 = .ok (.aload_n 0, 1) := by decide +kernel
theorem drk3_1 : decode prog_38_method_2_code 1 = .ok (.getfield 7, 3) := by decide +kernel
theorem drk3_4 : decode prog_38_method_2_code 4 = .ok (.iload_n 1, 1) := by decide +kernel
theorem drk3_5 : decode prog_38_method_2_code 5 = .ok (.invokevirtual 29, 3) := by decide +kernel
theorem drk3_8 : decode prog_38_method_2_code 8 = .ok (.istore 5, 2) := by decide +kernel
theorem drk3_10 : decode prog_38_method_2_code 10 = .ok (.aload_n 0, 1) := by decide +kernel
theorem drk3_11 : decode prog_38_method_2_code 11 = .ok (.getfield 19, 3) := by decide +kernel
theorem drk3_14 : decode prog_38_method_2_code 14 = .ok (.iload 5, 2) := by decide +kernel
theorem drk3_16 : decode prog_38_method_2_code 16 = .ok (.iaload, 1) := by decide +kernel
theorem drk3_17 : decode prog_38_method_2_code 17 = .ok (.istore 6, 2) := by decide +kernel
theorem drk3_19 : decode prog_38_method_2_code 19 = .ok (.aload_n 0, 1) := by decide +kernel
theorem drk3_20 : decode prog_38_method_2_code 20 = .ok (.getfield 19, 3) := by decide +kernel
theorem drk3_23 : decode prog_38_method_2_code 23 = .ok (.iload 5, 2) := by decide +kernel
theorem drk3_25 : decode prog_38_method_2_code 25 = .ok (.iload_n 1, 1) := by decide +kernel
theorem drk3_26 : decode prog_38_method_2_code 26 = .ok (.iastore, 1) := by decide +kernel
theorem drk3_27 : decode prog_38_method_2_code 27 = .ok (.iload 6, 2) := by decide +kernel
theorem drk3_29 : decode prog_38_method_2_code 29 = .ok (.ifCond .ge 10, 3) := by decide +kernel
theorem drk3_32 : decode prog_38_method_2_code 32 = .ok (.iload_n 1, 1) := by decide +kernel
theorem drk3_33 : decode prog_38_method_2_code 33 = .ok (.i2l, 1) := by decide +kernel
theorem drk3_34 : decode prog_38_method_2_code 34 = .ok (.lstore 7, 2) := by decide +kernel
theorem drk3_36 : decode prog_38_method_2_code 36 = .ok (.goto 17, 3) := by decide +kernel
theorem drk3_39 : decode prog_38_method_2_code 39 = .ok (.aload_n 0, 1) := by decide +kernel
theorem drk3_40 : decode prog_38_method_2_code 40 = .ok (.getfield 7, 3) := by decide +kernel
theorem drk3_43 : decode prog_38_method_2_code 43 = .ok (.invokevirtual 33, 3) := by decide +kernel
theorem drk3_46 : decode prog_38_method_2_code 46 = .ok (.i2l, 1) := by decide +kernel
theorem drk3_47 : decode prog_38_method_2_code 47 = .ok (.iload 6, 2) := by decide +kernel
theorem drk3_49 : decode prog_38_method_2_code 49 = .ok (.i2l, 1) := by decide +kernel
theorem drk3_50 : decode prog_38_method_2_code 50 = .ok (.ladd, 1) := by decide +kernel
theorem drk3_51 : decode prog_38_method_2_code 51 = .ok (.lstore 7, 2) := by decide +kernel
theorem drk3_53 : decode prog_38_method_2_code 53 = .ok (.lload 7, 2) := by decide +kernel
theorem drk3_55 : decode prog_38_method_2_code 55 = .ok (.lreturn, 1) := by decide +kernel
theorem pnrk3 : plainName "com/example/nearmark/nearmark/paging/LeastRecentlyUsed2" = true := by first | (simp [plainName, overriddenIn]; done) | decide +kernel
theorem pdrk3_0 : parseMethodDescriptor "(I)I" = some ⟨[.int], some .int⟩ := by decide +kernel
theorem pdrk3_1 : parseMethodDescriptor "()I" = some ⟨[], some .int⟩ := by decide +kernel
theorem efrk3 (m : MethodId) (o0 : Addr) (p2 : Int32) (q3 : Int64) : entryFrame m #[(.ref o0), (.int (3 : Int32)), (.int p2), (.long q3)] 9 = mkF m 0 #[.val (.ref o0), .val (.int (3 : Int32)), .val (.int p2), .val (.long q3), .second, .unset, .unset, .unset, .unset] [] := by first | (simp [entryFrame, mkF, argsToLocals, Value.category]; done) | rfl
def Qrk3 (Z : State) (o0 : Addr) (p2 : Int32) (q3 : Int64) (orq : Addr) (op : Addr) (ol : Addr) (ka : ClassId) (kl : ClassId) (zm : Int32) (x0 : Int32) (x1 : Int32) (x2 : Int32) (x3 : Int32) (x4 : Int32) (l0 : Int32) (l1 : Int32) (l2 : Int32) (l3 : Int32) (l4 : Int32) (h0 : Heap) (n0 : Nat) (v : Option Value) (h : Heap) (L : List Loc) : Prop := v = some (.long (wrk3_r8 x3 l0 l1 l2 l3 l4)) ∧ Fr n0 L ∧ Keep h0 h [ol] ∧ Arv Z h ol kl .int zm [(.int (wrk3_2 x3 l0)), (.int (wrk3_3 x3 l1)), (.int (wrk3_4 x3 l2)), (.int (wrk3_5 x3 l3)), (.int (wrk3_6 x3 l4))] (.int (0 : Int32))
set_option maxRecDepth 65536 in
set_option maxHeartbeats 40000000 in
theorem rmrk3 (l : Launch) (Z : State) (a0 : Array Value) (hw : ∀ d ∈ tables_1, d.before a0 Z = true) (ws : List Jvm.Cond) (o0 : Addr) (p2 : Int32) (q3 : Int64) (orq : Addr) (op : Addr) (ol : Addr) (ka : ClassId) (kl : ClassId) (zm : Int32) (x0 : Int32) (x1 : Int32) (x2 : Int32) (x3 : Int32) (x4 : Int32) (l0 : Int32) (l1 : Int32) (l2 : Int32) (l3 : Int32) (l4 : Int32) (h0 : Heap) (n0 : Nat) (Z0 : n0 ≤ h0.size) (F_o0_requests : Fld Z h0 o0 "com/example/nearmark/nearmark/paging/LeastRecentlyUsed2" "requests" "Lcom/example/nearmark/nearmark/paging/Requests;" (.ref orq)) (F_o0_lastRequest : Fld Z h0 o0 "com/example/nearmark/nearmark/paging/LeastRecentlyUsed2" "lastRequest" "[I" (.ref ol)) (E_orq : Exa Z h0 orq "com/example/nearmark/nearmark/paging/Requests") (F_orq_pages : Fld Z h0 orq "com/example/nearmark/nearmark/paging/Requests" "pages" "[I" (.ref op)) (V_op : Arv Z h0 op ka .int (5 : Int32) [(.int x0), (.int x1), (.int x2), (.int x3), (.int x4)] (.int (0 : Int32))) (V_ol : Arv Z h0 ol kl .int zm [(.int l0), (.int l1), (.int l2), (.int l3), (.int l4)] (.int (0 : Int32))) (g_ol : n0 ≤ ol) (hin : ¬ x3 < 0 ∧ x3 < zm) (hz : ¬ (5 : Int32) < zm) (ne_o0_ol : o0 ≠ ol) (ne_orq_ol : orq ≠ ol) (ne_op_ol : op ≠ ol) :
    MetFree l (⟨"com/example/nearmark/nearmark/paging/LeastRecentlyUsed2", "rank", "(IZJ)J"⟩ : MethodName) (head1 (Jvm.Cond.code (⟨"com/example/nearmark/nearmark/paging/LeastRecentlyUsed2", "rank", "(IZJ)J"⟩ : MethodName) prog_38_method_2_code 9 (some .long) :: ws) ({ frames := 1, cells := 0, slots := 0, locals := 13 } : Room)) (fun a U => a = #[(.ref o0), (.int (3 : Int32)), (.int p2), (.long q3)] ∧ Z.Warmed39 U.vm ∧ U.heap = h0) (fun _ _ _ _ _ => True) (fun _ U o U' => ∃ v L, o = .returned v ∧ Qrk3 Z o0 p2 q3 orq op ol ka kl zm x0 x1 x2 x3 x4 l0 l1 l2 l3 l4 h0 n0 v U'.heap L ∧ FrameEnd U o U' L ({ frames := 1, cells := 0, slots := 0, locals := 13 } : Room).cells ({ frames := 1, cells := 0, slots := 0, locals := 13 } : Room).slots) := by
  refine MetFree.of_bodySF (plainFor_of_name pnrk3) hisR ?_
  intro p e s m args below meth c s₁ Bd hml0 hP hK
  obtain ⟨rfl, hZ, hh⟩ := hP
  have hlk : meth.locks = false := BodyLoose.notSynchronized Bd
  have hx := Bd.exec
  have hby := Bd.bytes
  have hml : c.maxLocals = 9 := hml0
  have hown : s.vm.findClass "com/example/nearmark/nearmark/paging/LeastRecentlyUsed2" = some m.cls := findClass_of_methodNamed Bd.named
  have hnm := (name_of_methodNamed Bd.named Bd.method).1
  have X0 : Stand p l e ({ frames := 1, cells := 0, slots := 0, locals := 13 } : Room) s m #[(.ref o0), (.int (3 : Int32)), (.int p2), (.long q3)] below meth c s₁ [] 0 0 := Stand.of_body Bd
  have e0 : s₁.heap = h0 := by rw [← hh, Bd.state]; rfl
  have N0 := Fr.nil n0
  obtain ⟨S0, hS0⟩ : ∃ S0, S0 = s₁.setTop (entryFrame m #[(.ref o0), (.int (3 : Int32)), (.int p2), (.long q3)] 9) := ⟨_, rfl⟩
  have pre0 : ∀ t, Steps p.tables e below (s₁.setTop (mkF m 0 #[.val (.ref o0), .val (.int (3 : Int32)), .val (.int p2), .val (.long q3), .second, .unset, .unset, .unset, .unset] [])) t → Steps p.tables e below S0 t := fun t k => by rw [hS0]; exact castTop (efrk3 m o0 p2 q3) k
  have K1 : ∀ t, Steps p.tables e below (s₁.setTop (mkF m 1 #[.val (.ref o0), .val (.int (3 : Int32)), .val (.int p2), .val (.long q3), .second, .unset, .unset, .unset, .unset] [(.ref o0)])) t → Steps p.tables e below S0 t := fun t k => pre0 t (by
    refine XS.aloadN X0.here hx rfl (hb hby drk3_0) rfl rfl ?_
    show Steps p.tables e below (s₁.setTop (mkF m 1 #[.val (.ref o0), .val (.int (3 : Int32)), .val (.int p2), .val (.long q3), .second, .unset, .unset, .unset, .unset] [(.ref o0)])) _
    exact k)
  obtain ⟨T2, X2, e2, st2⟩ := getF X0 hx hZ hown (host := "") (Or.inl (hw _ (List.mem_of_getElem? (i := 29) rfl))) Via.refl e0 F_o0_requests (g := (mkF m 1 #[.val (.ref o0), .val (.int (3 : Int32)), .val (.int p2), .val (.long q3), .second, .unset, .unset, .unset, .unset] [(.ref o0)])) rfl rfl (hb hby drk3_1)
  have K2 : ∀ t, Steps p.tables e below (T2.setTop (mkF m 4 #[.val (.ref o0), .val (.int (3 : Int32)), .val (.int p2), .val (.long q3), .second, .unset, .unset, .unset, .unset] [(.ref orq)])) t → Steps p.tables e below S0 t := fun t k => K1 t (st2 t k)
  have K3 : ∀ t, Steps p.tables e below (T2.setTop (mkF m 5 #[.val (.ref o0), .val (.int (3 : Int32)), .val (.int p2), .val (.long q3), .second, .unset, .unset, .unset, .unset] [(.int (3 : Int32)), (.ref orq)])) t → Steps p.tables e below S0 t := fun t k => K2 t (by
    refine XS.iloadN X2.here hx rfl (hb hby drk3_4) rfl ?_
    show Steps p.tables e below (T2.setTop (mkF m 5 #[.val (.ref o0), .val (.int (3 : Int32)), .val (.int p2), .val (.long q3), .second, .unset, .unset, .unset, .unset] [(.int (3 : Int32)), (.ref orq)])) _
    exact k)
  have K_4 : ∀ t, Steps p.tables e below (T2.setTop (mkF m 5 #[.val (.ref o0), .val (.int (3 : Int32)), .val (.int p2), .val (.long q3), .second, .unset, .unset, .unset, .unset] [(.int (3 : Int32)), (.ref orq)])) t → Steps p.tables e below S0 t := K3
  obtain ⟨cq5, kq5, q5a, q5b, q5c⟩ := isOf hZ e2 E_orq
  obtain ⟨_, _, ⟨T5, L5, k5, n5⟩, -, X5, ⟨Lc5, hQ5, l5, y5, z5⟩, st5⟩ := X2.virtualBack hx (y := (⟨"com/example/nearmark/nearmark/paging/Requests", "page", "(I)I"⟩ : MethodName)) (z := (⟨"com/example/nearmark/nearmark/paging/Requests", "page", "(I)I"⟩ : MethodName)) hown (mvT hZ (hw _ (List.mem_of_getElem? (i := 47) rfl))) (mvT hZ (hw _ (List.mem_of_getElem? (i := 48) rfl))) (notFace_of_selects (args := #[]) (mvT hZ (hw _ (List.mem_of_getElem? (i := 50) rfl)))) (mvT hZ (hw _ (List.mem_of_getElem? (i := 50) rfl))) (mvT hZ (hw _ (List.mem_of_getElem? (i := 49) rfl))) (by decide) (backOf (W := 0) (rmpg3 l Z a0 hw [] orq op ka x0 x1 x2 x3 x4 h0 n0 Z0 F_orq_pages V_op) hZ (hw _ (List.mem_of_getElem? (i := 51) rfl)) (hw _ (List.mem_of_getElem? (i := 11) rfl)) (by decide) (by decide)) q5a q5c (g := (mkF m 5 #[.val (.ref o0), .val (.int (3 : Int32)), .val (.int p2), .val (.long q3), .second, .unset, .unset, .unset, .unset] [(.int (3 : Int32)), (.ref orq)])) rfl (by rw [hml]; rfl) (Steps.refl _) (argsL := [(.int (3 : Int32))]) (rest := []) (lenOf pdrk3_0 rfl) rfl (by show 2 * 0 + _ ≤ _; exact Nat.le_of_eq rfl) (hb hby drk3_5) (fun _ _ => ⟨rfl, e2, (by decide : 0 + 0 ≤ 0), (by decide : 0 + 0 ≤ 0)⟩)
  dsimp only [Pt.U, Pt.locs, Pt.cells, Pt.slots] at X5 l5 y5 z5 st5 hQ5
  subst l5 y5 z5
  obtain ⟨rfl, N5q, e5⟩ := hQ5
  have N5 := Fr.app N0 N5q
  have K5 : ∀ t, Steps p.tables e below (T5.setTop (mkF m 8 #[.val (.ref o0), .val (.int (3 : Int32)), .val (.int p2), .val (.long q3), .second, .unset, .unset, .unset, .unset] [(.int x3)])) t → Steps p.tables e below S0 t := fun t k => K_4 t (st5.trans k)
  have K6 : ∀ t, Steps p.tables e below (T5.setTop (mkF m 11 #[.val (.ref o0), .val (.int (3 : Int32)), .val (.int p2), .val (.long q3), .second, .val (.int x3), .unset, .unset, .unset] [(.ref o0)])) t → Steps p.tables e below S0 t := fun t k => K5 t (by
    refine XS.istore X5.here hx rfl (hb hby drk3_8) rfl (l' := #[.val (.ref o0), .val (.int (3 : Int32)), .val (.int p2), .val (.long q3), .second, .val (.int x3), .unset, .unset, .unset]) rfl ?_
    show Steps p.tables e below (T5.setTop (mkF m 10 #[.val (.ref o0), .val (.int (3 : Int32)), .val (.int p2), .val (.long q3), .second, .val (.int x3), .unset, .unset, .unset] [])) _
    refine XS.aloadN X5.here hx rfl (hb hby drk3_10) rfl rfl ?_
    show Steps p.tables e below (T5.setTop (mkF m 11 #[.val (.ref o0), .val (.int (3 : Int32)), .val (.int p2), .val (.long q3), .second, .val (.int x3), .unset, .unset, .unset] [(.ref o0)])) _
    exact k)
  obtain ⟨T7, X7, e7, st7⟩ := getF X5 hx hZ hown (host := "") (Or.inl (hw _ (List.mem_of_getElem? (i := 36) rfl))) Via.refl e5 F_o0_lastRequest (g := (mkF m 11 #[.val (.ref o0), .val (.int (3 : Int32)), .val (.int p2), .val (.long q3), .second, .val (.int x3), .unset, .unset, .unset] [(.ref o0)])) rfl rfl (hb hby drk3_11)
  have K7 : ∀ t, Steps p.tables e below (T7.setTop (mkF m 14 #[.val (.ref o0), .val (.int (3 : Int32)), .val (.int p2), .val (.long q3), .second, .val (.int x3), .unset, .unset, .unset] [(.ref ol)])) t → Steps p.tables e below S0 t := fun t k => K6 t (st7 t k)
  have K8 : ∀ t, Steps p.tables e below (T7.setTop (mkF m 16 #[.val (.ref o0), .val (.int (3 : Int32)), .val (.int p2), .val (.long q3), .second, .val (.int x3), .unset, .unset, .unset] [(.int x3), (.ref ol)])) t → Steps p.tables e below S0 t := fun t k => K7 t (by
    refine XS.iload X7.here hx rfl (hb hby drk3_14) rfl ?_
    show Steps p.tables e below (T7.setTop (mkF m 16 #[.val (.ref o0), .val (.int (3 : Int32)), .val (.int p2), .val (.long q3), .second, .val (.int x3), .unset, .unset, .unset] [(.int x3), (.ref ol)])) _
    exact k)
  have K_9 : ∀ t, Steps p.tables e below (T7.setTop (mkF m 16 #[.val (.ref o0), .val (.int (3 : Int32)), .val (.int p2), .val (.long q3), .second, .val (.int x3), .unset, .unset, .unset] [(.int x3), (.ref ol)])) t → Steps p.tables e below S0 t := K8
  obtain ⟨cl10, Ar10, qa10, sa10, na10, ha10, ga10⟩ := id V_ol
  have hin10 : ¬ (x3 < 0 ∨ cl10.slots.size ≤ (x3).toNatClampNeg) := inb_of sa10 hin
  have hat10 : cl10.slots[(x3).toNatClampNeg]? = some (.int (own_get [l0, l1, l2, l3, l4] x3)) := Has.at ha10 hin10 (own_getD [l0, l1, l2, l3, l4] x3)
  have K10 : ∀ t, Steps p.tables e below (T7.setTop (mkF m 17 #[.val (.ref o0), .val (.int (3 : Int32)), .val (.int p2), .val (.long q3), .second, .val (.int x3), .unset, .unset, .unset] [(.int (own_get [l0, l1, l2, l3, l4] x3))])) t → Steps p.tables e below S0 t := fun t k => K_9 t (X7.iaload hx (j := x3) (v := (.int (own_get [l0, l1, l2, l3, l4] x3))) (by rw [e7]; exact Ar10.1) (State.isArrayOf_alike hZ.alike Ar10.2.1) Ar10.2.2 hin10 hat10 (g := (mkF m 16 #[.val (.ref o0), .val (.int (3 : Int32)), .val (.int p2), .val (.long q3), .second, .val (.int x3), .unset, .unset, .unset] [(.int x3), (.ref ol)])) rfl rfl (hb hby drk3_16) _ k)
  have K11 : ∀ t, Steps p.tables e below (T7.setTop (mkF m 20 #[.val (.ref o0), .val (.int (3 : Int32)), .val (.int p2), .val (.long q3), .second, .val (.int x3), .val (.int (wrk3_1 x3 l0 l1 l2 l3 l4)), .unset, .unset] [(.ref o0)])) t → Steps p.tables e below S0 t := fun t k => K10 t (by
    refine XS.istore X7.here hx rfl (hb hby drk3_17) rfl (l' := #[.val (.ref o0), .val (.int (3 : Int32)), .val (.int p2), .val (.long q3), .second, .val (.int x3), .val (.int (wrk3_1 x3 l0 l1 l2 l3 l4)), .unset, .unset]) rfl ?_
    show Steps p.tables e below (T7.setTop (mkF m 19 #[.val (.ref o0), .val (.int (3 : Int32)), .val (.int p2), .val (.long q3), .second, .val (.int x3), .val (.int (wrk3_1 x3 l0 l1 l2 l3 l4)), .unset, .unset] [])) _
    refine XS.aloadN X7.here hx rfl (hb hby drk3_19) rfl rfl ?_
    show Steps p.tables e below (T7.setTop (mkF m 20 #[.val (.ref o0), .val (.int (3 : Int32)), .val (.int p2), .val (.long q3), .second, .val (.int x3), .val (.int (wrk3_1 x3 l0 l1 l2 l3 l4)), .unset, .unset] [(.ref o0)])) _
    exact k)
  obtain ⟨T12, X12, e12, st12⟩ := getF X7 hx hZ hown (host := "") (Or.inl (hw _ (List.mem_of_getElem? (i := 36) rfl))) Via.refl e7 F_o0_lastRequest (g := (mkF m 20 #[.val (.ref o0), .val (.int (3 : Int32)), .val (.int p2), .val (.long q3), .second, .val (.int x3), .val (.int (wrk3_1 x3 l0 l1 l2 l3 l4)), .unset, .unset] [(.ref o0)])) rfl rfl (hb hby drk3_20)
  have K12 : ∀ t, Steps p.tables e below (T12.setTop (mkF m 23 #[.val (.ref o0), .val (.int (3 : Int32)), .val (.int p2), .val (.long q3), .second, .val (.int x3), .val (.int (wrk3_1 x3 l0 l1 l2 l3 l4)), .unset, .unset] [(.ref ol)])) t → Steps p.tables e below S0 t := fun t k => K11 t (st12 t k)
  have K13 : ∀ t, Steps p.tables e below (T12.setTop (mkF m 26 #[.val (.ref o0), .val (.int (3 : Int32)), .val (.int p2), .val (.long q3), .second, .val (.int x3), .val (.int (wrk3_1 x3 l0 l1 l2 l3 l4)), .unset, .unset] [(.int (3 : Int32)), (.int x3), (.ref ol)])) t → Steps p.tables e below S0 t := fun t k => K12 t (by
    refine XS.iload X12.here hx rfl (hb hby drk3_23) rfl ?_
    show Steps p.tables e below (T12.setTop (mkF m 25 #[.val (.ref o0), .val (.int (3 : Int32)), .val (.int p2), .val (.long q3), .second, .val (.int x3), .val (.int (wrk3_1 x3 l0 l1 l2 l3 l4)), .unset, .unset] [(.int x3), (.ref ol)])) _
    refine XS.iloadN X12.here hx rfl (hb hby drk3_25) rfl ?_
    show Steps p.tables e below (T12.setTop (mkF m 26 #[.val (.ref o0), .val (.int (3 : Int32)), .val (.int p2), .val (.long q3), .second, .val (.int x3), .val (.int (wrk3_1 x3 l0 l1 l2 l3 l4)), .unset, .unset] [(.int (3 : Int32)), (.int x3), (.ref ol)])) _
    exact k)
  have K_14 : ∀ t, Steps p.tables e below (T12.setTop (mkF m 26 #[.val (.ref o0), .val (.int (3 : Int32)), .val (.int p2), .val (.long q3), .second, .val (.int x3), .val (.int (wrk3_1 x3 l0 l1 l2 l3 l4)), .unset, .unset] [(.int (3 : Int32)), (.int x3), (.ref ol)])) t → Steps p.tables e below S0 t := K13
  obtain ⟨cl15, Ar15, qa15, sa15, na15, ha15, ga15⟩ := id V_ol
  have hin15 : ¬ (x3 < 0 ∨ cl15.slots.size ≤ (x3).toNatClampNeg) := inb_of sa15 hin
  obtain ⟨T15, h15, X15, e15, W15, st15⟩ := stI X12 hx hZ e12 Ar15 (j := x3) hin15 (g := (mkF m 26 #[.val (.ref o0), .val (.int (3 : Int32)), .val (.int p2), .val (.long q3), .second, .val (.int x3), .val (.int (wrk3_1 x3 l0 l1 l2 l3 l4)), .unset, .unset] [(.int (3 : Int32)), (.int x3), (.ref ol)])) rfl rfl (hb hby drk3_26)
  have V_ol__15 : Arv Z h15 ol kl .int zm [(.int (wrk3_2 x3 l0)), (.int (wrk3_3 x3 l1)), (.int (wrk3_4 x3 l2)), (.int (wrk3_5 x3 l3)), (.int (wrk3_6 x3 l4))] (.int (0 : Int32)) := (Arv.set Ar15 qa15 sa15 na15 ha15 ga15 rfl W15 (x3).toNatClampNeg rfl (own_lt5 hin hz)).pad (own_upd5 l0 l1 l2 l3 l4 x3 (3 : Int32) (hin).1)
  have F_o0_requests__15 := F_o0_requests.other W15 (Or.inl ne_o0_ol)
  have F_o0_lastRequest__15 := F_o0_lastRequest.other W15 (Or.inl ne_o0_ol)
  have E_orq__15 := E_orq.wr W15
  have F_orq_pages__15 := F_orq_pages.other W15 (Or.inl ne_orq_ol)
  have V_op__15 := V_op.other W15 ne_op_ol
  have N15 := Fr.snoc X15 N5 g_ol
  have Zs15 : n0 ≤ h15.size := Nat.le_trans Z0 (Nat.le_of_eq W15.size.symm)
  have Kc15 : Keep h0 h15 [ol] := (Keep.refl h0 [ol]).wr W15 (Or.inl (List.mem_of_getElem? (i := 0) rfl))
  have K15 : ∀ t, Steps p.tables e below (T15.setTop (mkF m 27 #[.val (.ref o0), .val (.int (3 : Int32)), .val (.int p2), .val (.long q3), .second, .val (.int x3), .val (.int (wrk3_1 x3 l0 l1 l2 l3 l4)), .unset, .unset] [])) t → Steps p.tables e below S0 t := fun t k => K_14 t (st15 t k)
  have K16 : ∀ t, Steps p.tables e below (T15.setTop (mkF m 29 #[.val (.ref o0), .val (.int (3 : Int32)), .val (.int p2), .val (.long q3), .second, .val (.int x3), .val (.int (wrk3_1 x3 l0 l1 l2 l3 l4)), .unset, .unset] [(.int (wrk3_1 x3 l0 l1 l2 l3 l4))])) t → Steps p.tables e below S0 t := fun t k => K15 t (by
    refine XS.iload X15.here hx rfl (hb hby drk3_27) rfl ?_
    show Steps p.tables e below (T15.setTop (mkF m 29 #[.val (.ref o0), .val (.int (3 : Int32)), .val (.int p2), .val (.long q3), .second, .val (.int x3), .val (.int (wrk3_1 x3 l0 l1 l2 l3 l4)), .unset, .unset] [(.int (wrk3_1 x3 l0 l1 l2 l3 l4))])) _
    exact k)
  by_cases hc29_0 : (wrk3_1 x3 l0 l1 l2 l3 l4) < (0 : Int32)
  · -- yes
    have K17 : ∀ t, Steps p.tables e below (T15.setTop (mkF m 55 #[.val (.ref o0), .val (.int (3 : Int32)), .val (.int p2), .val (.long q3), .second, .val (.int x3), .val (.int (wrk3_1 x3 l0 l1 l2 l3 l4)), .val (.long (3 : Int64)), .second] [(.long (3 : Int64))])) t → Steps p.tables e below S0 t := fun t k => K16 t (by
      refine XS.ifNo X15.here hx rfl (hb hby drk3_29) rfl (XT.i0_ge_f hc29_0) ?_
      show Steps p.tables e below (T15.setTop (mkF m 32 #[.val (.ref o0), .val (.int (3 : Int32)), .val (.int p2), .val (.long q3), .second, .val (.int x3), .val (.int (wrk3_1 x3 l0 l1 l2 l3 l4)), .unset, .unset] [])) _
      refine XS.iloadN X15.here hx rfl (hb hby drk3_32) rfl ?_
      show Steps p.tables e below (T15.setTop (mkF m 33 #[.val (.ref o0), .val (.int (3 : Int32)), .val (.int p2), .val (.long q3), .second, .val (.int x3), .val (.int (wrk3_1 x3 l0 l1 l2 l3 l4)), .unset, .unset] [(.int (3 : Int32))])) _
      refine XS.i2l X15.here hx rfl (hb hby drk3_33) rfl ?_
      show Steps p.tables e below (T15.setTop (mkF m 34 #[.val (.ref o0), .val (.int (3 : Int32)), .val (.int p2), .val (.long q3), .second, .val (.int x3), .val (.int (wrk3_1 x3 l0 l1 l2 l3 l4)), .unset, .unset] [(.long (3 : Int64))])) _
      refine XS.lstore X15.here hx rfl (hb hby drk3_34) rfl (l' := #[.val (.ref o0), .val (.int (3 : Int32)), .val (.int p2), .val (.long q3), .second, .val (.int x3), .val (.int (wrk3_1 x3 l0 l1 l2 l3 l4)), .val (.long (3 : Int64)), .second]) rfl ?_
      show Steps p.tables e below (T15.setTop (mkF m 36 #[.val (.ref o0), .val (.int (3 : Int32)), .val (.int p2), .val (.long q3), .second, .val (.int x3), .val (.int (wrk3_1 x3 l0 l1 l2 l3 l4)), .val (.long (3 : Int64)), .second] [])) _
      refine XS.goto X15.here hx rfl (pc0 := 36) (pc' := 53) rfl (hb hby drk3_36) (by decide) (by decide) ?_
      show Steps p.tables e below (T15.setTop (mkF m 53 #[.val (.ref o0), .val (.int (3 : Int32)), .val (.int p2), .val (.long q3), .second, .val (.int x3), .val (.int (wrk3_1 x3 l0 l1 l2 l3 l4)), .val (.long (3 : Int64)), .second] [])) _
      refine XS.lload X15.here hx rfl (hb hby drk3_53) rfl ?_
      show Steps p.tables e below (T15.setTop (mkF m 55 #[.val (.ref o0), .val (.int (3 : Int32)), .val (.int p2), .val (.long q3), .second, .val (.int x3), .val (.int (wrk3_1 x3 l0 l1 l2 l3 l4)), .val (.long (3 : Int64)), .second] [(.long (3 : Int64))])) _
      exact k)
    obtain ⟨fs, hr, hrun, hended, hW, hsame⟩ := X15.leave (v := some (.long (3 : Int64))) (fun h => by rw [Bd.returns] at h; cases h) hlk
    refine ⟨_, _, ?_, hrun, hended, _, _, rfl, ?_, ⟨_, rfl⟩, hW, hsame.mono (by decide) (by decide)⟩
    · rw [← hS0]; exact K17 _ (retOut X15 hx Bd.returns rfl (Or.inr (Or.inl ⟨rfl, rfl, _, rfl⟩)) (hb hby drk3_55) hr)
    · show Qrk3 Z o0 p2 q3 orq op ol ka kl zm x0 x1 x2 x3 x4 l0 l1 l2 l3 l4 h0 n0 _ T15.heap _
      rw [e15]
      have qr : (3 : Int64) = (wrk3_r8 x3 l0 l1 l2 l3 l4) := by unfold wrk3_r8; rw [if_pos hc29_0]
      exact ⟨congrArg (fun z => some (Value.long z)) qr, N15, Kc15, V_ol__15⟩
  · -- no
    have K18 : ∀ t, Steps p.tables e below (T15.setTop (mkF m 40 #[.val (.ref o0), .val (.int (3 : Int32)), .val (.int p2), .val (.long q3), .second, .val (.int x3), .val (.int (wrk3_1 x3 l0 l1 l2 l3 l4)), .unset, .unset] [(.ref o0)])) t → Steps p.tables e below S0 t := fun t k => K16 t (by
      refine XS.ifYes X15.here hx rfl (pc0 := 29) (pc' := 39) rfl (hb hby drk3_29) rfl (XT.i0_ge_t hc29_0) (by decide) (by decide) ?_
      show Steps p.tables e below (T15.setTop (mkF m 39 #[.val (.ref o0), .val (.int (3 : Int32)), .val (.int p2), .val (.long q3), .second, .val (.int x3), .val (.int (wrk3_1 x3 l0 l1 l2 l3 l4)), .unset, .unset] [])) _
      refine XS.aloadN X15.here hx rfl (hb hby drk3_39) rfl rfl ?_
      show Steps p.tables e below (T15.setTop (mkF m 40 #[.val (.ref o0), .val (.int (3 : Int32)), .val (.int p2), .val (.long q3), .second, .val (.int x3), .val (.int (wrk3_1 x3 l0 l1 l2 l3 l4)), .unset, .unset] [(.ref o0)])) _
      exact k)
    obtain ⟨T19, X19, e19, st19⟩ := getF X15 hx hZ hown (host := "") (Or.inl (hw _ (List.mem_of_getElem? (i := 29) rfl))) Via.refl e15 F_o0_requests__15 (g := (mkF m 40 #[.val (.ref o0), .val (.int (3 : Int32)), .val (.int p2), .val (.long q3), .second, .val (.int x3), .val (.int (wrk3_1 x3 l0 l1 l2 l3 l4)), .unset, .unset] [(.ref o0)])) rfl rfl (hb hby drk3_40)
    have K19 : ∀ t, Steps p.tables e below (T19.setTop (mkF m 43 #[.val (.ref o0), .val (.int (3 : Int32)), .val (.int p2), .val (.long q3), .second, .val (.int x3), .val (.int (wrk3_1 x3 l0 l1 l2 l3 l4)), .unset, .unset] [(.ref orq)])) t → Steps p.tables e below S0 t := fun t k => K18 t (st19 t k)
    have K_20 : ∀ t, Steps p.tables e below (T19.setTop (mkF m 43 #[.val (.ref o0), .val (.int (3 : Int32)), .val (.int p2), .val (.long q3), .second, .val (.int x3), .val (.int (wrk3_1 x3 l0 l1 l2 l3 l4)), .unset, .unset] [(.ref orq)])) t → Steps p.tables e below S0 t := K19
    obtain ⟨cq21, kq21, q21a, q21b, q21c⟩ := isOf hZ e19 E_orq__15
    obtain ⟨_, _, ⟨T21, L21, k21, n21⟩, -, X21, ⟨Lc21, hQ21, l21, y21, z21⟩, st21⟩ := X19.virtualBack hx (y := (⟨"com/example/nearmark/nearmark/paging/Requests", "count", "()I"⟩ : MethodName)) (z := (⟨"com/example/nearmark/nearmark/paging/Requests", "count", "()I"⟩ : MethodName)) hown (mvT hZ (hw _ (List.mem_of_getElem? (i := 53) rfl))) (mvT hZ (hw _ (List.mem_of_getElem? (i := 54) rfl))) (notFace_of_selects (args := #[]) (mvT hZ (hw _ (List.mem_of_getElem? (i := 56) rfl)))) (mvT hZ (hw _ (List.mem_of_getElem? (i := 56) rfl))) (mvT hZ (hw _ (List.mem_of_getElem? (i := 55) rfl))) (by decide) (backOf (W := 0) (rmct l Z a0 hw [] orq op ka x0 x1 x2 x3 x4 h15 n0 Zs15 F_orq_pages__15 V_op__15) hZ (hw _ (List.mem_of_getElem? (i := 57) rfl)) (hw _ (List.mem_of_getElem? (i := 11) rfl)) (by decide) (by decide)) q21a q21c (g := (mkF m 43 #[.val (.ref o0), .val (.int (3 : Int32)), .val (.int p2), .val (.long q3), .second, .val (.int x3), .val (.int (wrk3_1 x3 l0 l1 l2 l3 l4)), .unset, .unset] [(.ref orq)])) rfl (by rw [hml]; rfl) (Steps.refl _) (argsL := []) (rest := []) (lenOf pdrk3_1 rfl) rfl (by show 2 * 0 + _ ≤ _; exact Nat.le_of_eq rfl) (hb hby drk3_43) (fun _ _ => ⟨rfl, e19, (by decide : 0 + 0 ≤ 0), (by decide : 0 + 0 ≤ 0)⟩)
    dsimp only [Pt.U, Pt.locs, Pt.cells, Pt.slots] at X21 l21 y21 z21 st21 hQ21
    subst l21 y21 z21
    obtain ⟨rfl, N21q, e21⟩ := hQ21
    have N21 := Fr.app N15 N21q
    have K21 : ∀ t, Steps p.tables e below (T21.setTop (mkF m 46 #[.val (.ref o0), .val (.int (3 : Int32)), .val (.int p2), .val (.long q3), .second, .val (.int x3), .val (.int (wrk3_1 x3 l0 l1 l2 l3 l4)), .unset, .unset] [(.int (5 : Int32))])) t → Steps p.tables e below S0 t := fun t k => K_20 t (st21.trans k)
    have K22 : ∀ t, Steps p.tables e below (T21.setTop (mkF m 55 #[.val (.ref o0), .val (.int (3 : Int32)), .val (.int p2), .val (.long q3), .second, .val (.int x3), .val (.int (wrk3_1 x3 l0 l1 l2 l3 l4)), .val (.long (wrk3_7 x3 l0 l1 l2 l3 l4)), .second] [(.long (wrk3_7 x3 l0 l1 l2 l3 l4))])) t → Steps p.tables e below S0 t := fun t k => K21 t (by
      refine XS.i2l X21.here hx rfl (hb hby drk3_46) rfl ?_
      show Steps p.tables e below (T21.setTop (mkF m 47 #[.val (.ref o0), .val (.int (3 : Int32)), .val (.int p2), .val (.long q3), .second, .val (.int x3), .val (.int (wrk3_1 x3 l0 l1 l2 l3 l4)), .unset, .unset] [(.long (5 : Int64))])) _
      refine XS.iload X21.here hx rfl (hb hby drk3_47) rfl ?_
      show Steps p.tables e below (T21.setTop (mkF m 49 #[.val (.ref o0), .val (.int (3 : Int32)), .val (.int p2), .val (.long q3), .second, .val (.int x3), .val (.int (wrk3_1 x3 l0 l1 l2 l3 l4)), .unset, .unset] [(.int (wrk3_1 x3 l0 l1 l2 l3 l4)), (.long (5 : Int64))])) _
      refine XS.i2l X21.here hx rfl (hb hby drk3_49) rfl ?_
      show Steps p.tables e below (T21.setTop (mkF m 50 #[.val (.ref o0), .val (.int (3 : Int32)), .val (.int p2), .val (.long q3), .second, .val (.int x3), .val (.int (wrk3_1 x3 l0 l1 l2 l3 l4)), .unset, .unset] [(.long ((wrk3_1 x3 l0 l1 l2 l3 l4).toInt64)), (.long (5 : Int64))])) _
      refine XS.ladd X21.here hx rfl (hb hby drk3_50) rfl ?_
      show Steps p.tables e below (T21.setTop (mkF m 51 #[.val (.ref o0), .val (.int (3 : Int32)), .val (.int p2), .val (.long q3), .second, .val (.int x3), .val (.int (wrk3_1 x3 l0 l1 l2 l3 l4)), .unset, .unset] [(.long ((5 : Int64) + ((wrk3_1 x3 l0 l1 l2 l3 l4).toInt64)))])) _
      refine XS.lstore X21.here hx rfl (hb hby drk3_51) rfl (l' := #[.val (.ref o0), .val (.int (3 : Int32)), .val (.int p2), .val (.long q3), .second, .val (.int x3), .val (.int (wrk3_1 x3 l0 l1 l2 l3 l4)), .val (.long (wrk3_7 x3 l0 l1 l2 l3 l4)), .second]) rfl ?_
      show Steps p.tables e below (T21.setTop (mkF m 53 #[.val (.ref o0), .val (.int (3 : Int32)), .val (.int p2), .val (.long q3), .second, .val (.int x3), .val (.int (wrk3_1 x3 l0 l1 l2 l3 l4)), .val (.long (wrk3_7 x3 l0 l1 l2 l3 l4)), .second] [])) _
      refine XS.lload X21.here hx rfl (hb hby drk3_53) rfl ?_
      show Steps p.tables e below (T21.setTop (mkF m 55 #[.val (.ref o0), .val (.int (3 : Int32)), .val (.int p2), .val (.long q3), .second, .val (.int x3), .val (.int (wrk3_1 x3 l0 l1 l2 l3 l4)), .val (.long (wrk3_7 x3 l0 l1 l2 l3 l4)), .second] [(.long (wrk3_7 x3 l0 l1 l2 l3 l4))])) _
      exact k)
    obtain ⟨fs, hr, hrun, hended, hW, hsame⟩ := X21.leave (v := some (.long (wrk3_7 x3 l0 l1 l2 l3 l4))) (fun h => by rw [Bd.returns] at h; cases h) hlk
    refine ⟨_, _, ?_, hrun, hended, _, _, rfl, ?_, ⟨_, rfl⟩, hW, hsame.mono (by decide) (by decide)⟩
    · rw [← hS0]; exact K22 _ (retOut X21 hx Bd.returns rfl (Or.inr (Or.inl ⟨rfl, rfl, _, rfl⟩)) (hb hby drk3_55) hr)
    · show Qrk3 Z o0 p2 q3 orq op ol ka kl zm x0 x1 x2 x3 x4 l0 l1 l2 l3 l4 h0 n0 _ T21.heap _
      rw [e21]
      have qr : (wrk3_7 x3 l0 l1 l2 l3 l4) = (wrk3_r8 x3 l0 l1 l2 l3 l4) := by unfold wrk3_r8; rw [if_neg hc29_0]
      exact ⟨congrArg (fun z => some (Value.long z)) qr, N21, Kc15, V_ol__15⟩
theorem drk4_0 : decode prog_38_method_2_code 0 = .ok (.aload_n 0, 1) := by decide +kernel
theorem drk4_1 : decode prog_38_method_2_code 1 = .ok (.getfield 7, 3) := by decide +kernel
theorem drk4_4 : decode prog_38_method_2_code 4 = .ok (.iload_n 1, 1) := by decide +kernel
theorem drk4_5 : decode prog_38_method_2_code 5 = .ok (.invokevirtual 29, 3) := by decide +kernel
theorem drk4_8 : decode prog_38_method_2_code 8 = .ok (.istore 5, 2) := by decide +kernel
theorem drk4_10 : decode prog_38_method_2_code 10 = .ok (.aload_n 0, 1) := by decide +kernel
theorem drk4_11 : decode prog_38_method_2_code 11 = .ok (.getfield 19, 3) := by decide +kernel
theorem drk4_14 : decode prog_38_method_2_code 14 = .ok (.iload 5, 2) := by decide +kernel
theorem drk4_16 : decode prog_38_method_2_code 16 = .ok (.iaload, 1) := by decide +kernel
theorem drk4_17 : decode prog_38_method_2_code 17 = .ok (.istore 6, 2) := by decide +kernel
theorem drk4_19 : decode prog_38_method_2_code 19 = .ok (.aload_n 0, 1) := by decide +kernel
theorem drk4_20 : decode prog_38_method_2_code 20 = .ok (.getfield 19, 3) := by decide +kernel
theorem drk4_23 : decode prog_38_method_2_code 23 = .ok (.iload 5, 2) := by decide +kernel
theorem drk4_25 : decode prog_38_method_2_code 25 = .ok (.iload_n 1, 1) := by decide +kernel
theorem drk4_26 : decode prog_38_method_2_code 26 = .ok (.iastore, 1) := by decide +kernel
theorem drk4_27 : decode prog_38_method_2_code 27 = .ok (.iload 6, 2) := by decide +kernel
theorem drk4_29 : decode prog_38_method_2_code 29 = .ok (.ifCond .ge 10, 3) := by decide +kernel
theorem drk4_32 : decode prog_38_method_2_code 32 = .ok (.iload_n 1, 1) := by decide +kernel
theorem drk4_33 : decode prog_38_method_2_code 33 = .ok (.i2l, 1) := by decide +kernel
theorem drk4_34 : decode prog_38_method_2_code 34 = .ok (.lstore 7, 2) := by decide +kernel
theorem drk4_36 : decode prog_38_method_2_code 36 = .ok (.goto 17, 3) := by decide +kernel
theorem drk4_39 : decode prog_38_method_2_code 39 = .ok (.aload_n 0, 1) := by decide +kernel
theorem drk4_40 : decode prog_38_method_2_code 40 = .ok (.getfield 7, 3) := by decide +kernel
theorem drk4_43 : decode prog_38_method_2_code 43 = .ok (.invokevirtual 33, 3) := by decide +kernel
theorem drk4_46 : decode prog_38_method_2_code 46 = .ok (.i2l, 1) := by decide +kernel
theorem drk4_47 : decode prog_38_method_2_code 47 = .ok (.iload 6, 2) := by decide +kernel
theorem drk4_49 : decode prog_38_method_2_code 49 = .ok (.i2l, 1) := by decide +kernel
theorem drk4_50 : decode prog_38_method_2_code 50 = .ok (.ladd, 1) := by decide +kernel
theorem drk4_51 : decode prog_38_method_2_code 51 = .ok (.lstore 7, 2) := by decide +kernel
theorem drk4_53 : decode prog_38_method_2_code 53 = .ok (.lload 7, 2) := by decide +kernel
theorem drk4_55 : decode prog_38_method_2_code 55 = .ok (.lreturn, 1) := by decide +kernel
theorem pnrk4 : plainName "com/example/nearmark/nearmark/paging/LeastRecentlyUsed2" = true := by first | (simp [plainName, overriddenIn]; done) | decide +kernel
theorem pdrk4_0 : parseMethodDescriptor "(I)I" = some ⟨[.int], some .int⟩ := by decide +kernel
theorem pdrk4_1 : parseMethodDescriptor "()I" = some ⟨[], some .int⟩ := by decide +kernel
theorem efrk4 (m : MethodId) (o0 : Addr) (p2 : Int32) (q3 : Int64) : entryFrame m #[(.ref o0), (.int (4 : Int32)), (.int p2), (.long q3)] 9 = mkF m 0 #[.val (.ref o0), .val (.int (4 : Int32)), .val (.int p2), .val (.long q3), .second, .unset, .unset, .unset, .unset] [] := by first | (simp [entryFrame, mkF, argsToLocals, Value.category]; done) | rfl
def Qrk4 (Z : State) (o0 : Addr) (p2 : Int32) (q3 : Int64) (orq : Addr) (op : Addr) (ol : Addr) (ka : ClassId) (kl : ClassId) (zm : Int32) (x0 : Int32) (x1 : Int32) (x2 : Int32) (x3 : Int32) (x4 : Int32) (l0 : Int32) (l1 : Int32) (l2 : Int32) (l3 : Int32) (l4 : Int32) (h0 : Heap) (n0 : Nat) (v : Option Value) (h : Heap) (L : List Loc) : Prop := v = some (.long (wrk4_r8 x4 l0 l1 l2 l3 l4)) ∧ Fr n0 L ∧ Keep h0 h [ol] ∧ Arv Z h ol kl .int zm [(.int (wrk4_2 x4 l0)), (.int (wrk4_3 x4 l1)), (.int (wrk4_4 x4 l2)), (.int (wrk4_5 x4 l3)), (.int (wrk4_6 x4 l4))] (.int (0 : Int32))
set_option maxRecDepth 65536 in
set_option maxHeartbeats 40000000 in
theorem rmrk4 (l : Launch) (Z : State) (a0 : Array Value) (hw : ∀ d ∈ tables_1, d.before a0 Z = true) (ws : List Jvm.Cond) (o0 : Addr) (p2 : Int32) (q3 : Int64) (orq : Addr) (op : Addr) (ol : Addr) (ka : ClassId) (kl : ClassId) (zm : Int32) (x0 : Int32) (x1 : Int32) (x2 : Int32) (x3 : Int32) (x4 : Int32) (l0 : Int32) (l1 : Int32) (l2 : Int32) (l3 : Int32) (l4 : Int32) (h0 : Heap) (n0 : Nat) (Z0 : n0 ≤ h0.size) (F_o0_requests : Fld Z h0 o0 "com/example/nearmark/nearmark/paging/LeastRecentlyUsed2" "requests" "Lcom/example/nearmark/nearmark/paging/Requests;" (.ref orq)) (F_o0_lastRequest : Fld Z h0 o0 "com/example/nearmark/nearmark/paging/LeastRecentlyUsed2" "lastRequest" "[I" (.ref ol)) (E_orq : Exa Z h0 orq "com/example/nearmark/nearmark/paging/Requests") (F_orq_pages : Fld Z h0 orq "com/example/nearmark/nearmark/paging/Requests" "pages" "[I" (.ref op)) (V_op : Arv Z h0 op ka .int (5 : Int32) [(.int x0), (.int x1), (.int x2), (.int x3), (.int x4)] (.int (0 : Int32))) (V_ol : Arv Z h0 ol kl .int zm [(.int l0), (.int l1), (.int l2), (.int l3), (.int l4)] (.int (0 : Int32))) (g_ol : n0 ≤ ol) (hin : ¬ x4 < 0 ∧ x4 < zm) (hz : ¬ (5 : Int32) < zm) (ne_o0_ol : o0 ≠ ol) (ne_orq_ol : orq ≠ ol) (ne_op_ol : op ≠ ol) :
    MetFree l (⟨"com/example/nearmark/nearmark/paging/LeastRecentlyUsed2", "rank", "(IZJ)J"⟩ : MethodName) (head1 (Jvm.Cond.code (⟨"com/example/nearmark/nearmark/paging/LeastRecentlyUsed2", "rank", "(IZJ)J"⟩ : MethodName) prog_38_method_2_code 9 (some .long) :: ws) ({ frames := 1, cells := 0, slots := 0, locals := 13 } : Room)) (fun a U => a = #[(.ref o0), (.int (4 : Int32)), (.int p2), (.long q3)] ∧ Z.Warmed39 U.vm ∧ U.heap = h0) (fun _ _ _ _ _ => True) (fun _ U o U' => ∃ v L, o = .returned v ∧ Qrk4 Z o0 p2 q3 orq op ol ka kl zm x0 x1 x2 x3 x4 l0 l1 l2 l3 l4 h0 n0 v U'.heap L ∧ FrameEnd U o U' L ({ frames := 1, cells := 0, slots := 0, locals := 13 } : Room).cells ({ frames := 1, cells := 0, slots := 0, locals := 13 } : Room).slots) := by
  refine MetFree.of_bodySF (plainFor_of_name pnrk4) hisR ?_
  intro p e s m args below meth c s₁ Bd hml0 hP hK
  obtain ⟨rfl, hZ, hh⟩ := hP
  have hlk : meth.locks = false := BodyLoose.notSynchronized Bd
  have hx := Bd.exec
  have hby := Bd.bytes
  have hml : c.maxLocals = 9 := hml0
  have hown : s.vm.findClass "com/example/nearmark/nearmark/paging/LeastRecentlyUsed2" = some m.cls := findClass_of_methodNamed Bd.named
  have hnm := (name_of_methodNamed Bd.named Bd.method).1
  have X0 : Stand p l e ({ frames := 1, cells := 0, slots := 0, locals := 13 } : Room) s m #[(.ref o0), (.int (4 : Int32)), (.int p2), (.long q3)] below meth c s₁ [] 0 0 := Stand.of_body Bd
  have e0 : s₁.heap = h0 := by rw [← hh, Bd.state]; rfl
  have N0 := Fr.nil n0
  obtain ⟨S0, hS0⟩ : ∃ S0, S0 = s₁.setTop (entryFrame m #[(.ref o0), (.int (4 : Int32)), (.int p2), (.long q3)] 9) := ⟨_, rfl⟩
  have pre0 : ∀ t, Steps p.tables e below (s₁.setTop (mkF m 0 #[.val (.ref o0), .val (.int (4 : Int32)), .val (.int p2), .val (.long q3), .second, .unset, .unset, .unset, .unset] [])) t → Steps p.tables e below S0 t := fun t k => by rw [hS0]; exact castTop (efrk4 m o0 p2 q3) k
  have K1 : ∀ t, Steps p.tables e below (s₁.setTop (mkF m 1 #[.val (.ref o0), .val (.int (4 : Int32)), .val (.int p2), .val (.long q3), .second, .unset, .unset, .unset, .unset] [(.ref o0)])) t → Steps p.tables e below S0 t := fun t k => pre0 t (by
    refine XS.aloadN X0.here hx rfl (hb hby drk4_0) rfl rfl ?_
    show Steps p.tables e below (s₁.setTop (mkF m 1 #[.val (.ref o0), .val (.int (4 : Int32)), .val (.int p2), .val (.long q3), .second, .unset, .unset, .unset, .unset] [(.ref o0)])) _
    exact k)
  obtain ⟨T2, X2, e2, st2⟩ := getF X0 hx hZ hown (host := "") (Or.inl (hw _ (List.mem_of_getElem? (i := 29) rfl))) Via.refl e0 F_o0_requests (g := (mkF m 1 #[.val (.ref o0), .val (.int (4 : Int32)), .val (.int p2), .val (.long q3), .second, .unset, .unset, .unset, .unset] [(.ref o0)])) rfl rfl (hb hby drk4_1)
  have K2 : ∀ t, Steps p.tables e below (T2.setTop (mkF m 4 #[.val (.ref o0), .val (.int (4 : Int32)), .val (.int p2), .val (.long q3), .second, .unset, .unset, .unset, .unset] [(.ref orq)])) t → Steps p.tables e below S0 t := fun t k => K1 t (st2 t k)
  have K3 : ∀ t, Steps p.tables e below (T2.setTop (mkF m 5 #[.val (.ref o0), .val (.int (4 : Int32)), .val (.int p2), .val (.long q3), .second, .unset, .unset, .unset, .unset] [(.int (4 : Int32)), (.ref orq)])) t → Steps p.tables e below S0 t := fun t k => K2 t (by
    refine XS.iloadN X2.here hx rfl (hb hby drk4_4) rfl ?_
    show Steps p.tables e below (T2.setTop (mkF m 5 #[.val (.ref o0), .val (.int (4 : Int32)), .val (.int p2), .val (.long q3), .second, .unset, .unset, .unset, .unset] [(.int (4 : Int32)), (.ref orq)])) _
    exact k)
  have K_4 : ∀ t, Steps p.tables e below (T2.setTop (mkF m 5 #[.val (.ref o0), .val (.int (4 : Int32)), .val (.int p2), .val (.long q3), .second, .unset, .unset, .unset, .unset] [(.int (4 : Int32)), (.ref orq)])) t → Steps p.tables e below S0 t := K3
  obtain ⟨cq5, kq5, q5a, q5b, q5c⟩ := isOf hZ e2 E_orq
  obtain ⟨_, _, ⟨T5, L5, k5, n5⟩, -, X5, ⟨Lc5, hQ5, l5, y5, z5⟩, st5⟩ := X2.virtualBack hx (y := (⟨"com/example/nearmark/nearmark/paging/Requests", "page", "(I)I"⟩ : MethodName)) (z := (⟨"com/example/nearmark/nearmark/paging/Requests", "page", "(I)I"⟩ : MethodName)) hown (mvT hZ (hw _ (List.mem_of_getElem? (i := 47) rfl))) (mvT hZ (hw _ (List.mem_of_getElem? (i := 48) rfl))) (notFace_of_selects (args := #[]) (mvT hZ (hw _ (List.mem_of_getElem? (i := 50) rfl)))) (mvT hZ (hw _ (List.mem_of_getElem? (i := 50) rfl))) (mvT hZ (hw _ (List.mem_of_getElem? (i := 49) rfl))) (by decide) (backOf (W := 0) (rmpg4 l Z a0 hw [] orq op ka x0 x1 x2 x3 x4 h0 n0 Z0 F_orq_pages V_op) hZ (hw _ (List.mem_of_getElem? (i := 51) rfl)) (hw _ (List.mem_of_getElem? (i := 11) rfl)) (by decide) (by decide)) q5a q5c (g := (mkF m 5 #[.val (.ref o0), .val (.int (4 : Int32)), .val (.int p2), .val (.long q3), .second, .unset, .unset, .unset, .unset] [(.int (4 : Int32)), (.ref orq)])) rfl (by rw [hml]; rfl) (Steps.refl _) (argsL := [(.int (4 : Int32))]) (rest := []) (lenOf pdrk4_0 rfl) rfl (by show 2 * 0 + _ ≤ _; exact Nat.le_of_eq rfl) (hb hby drk4_5) (fun _ _ => ⟨rfl, e2, (by decide : 0 + 0 ≤ 0), (by decide : 0 + 0 ≤ 0)⟩)
  dsimp only [Pt.U, Pt.locs, Pt.cells, Pt.slots] at X5 l5 y5 z5 st5 hQ5
  subst l5 y5 z5
  obtain ⟨rfl, N5q, e5⟩ := hQ5
  have N5 := Fr.app N0 N5q
  have K5 : ∀ t, Steps p.tables e below (T5.setTop (mkF m 8 #[.val (.ref o0), .val (.int (4 : Int32)), .val (.int p2), .val (.long q3), .second, .unset, .unset, .unset, .unset] [(.int x4)])) t → Steps p.tables e below S0 t := fun t k => K_4 t (st5.trans k)
  have K6 : ∀ t, Steps p.tables e below (T5.setTop (mkF m 11 #[.val (.ref o0), .val (.int (4 : Int32)), .val (.int p2), .val (.long q3), .second, .val (.int x4), .unset, .unset, .unset] [(.ref o0)])) t → Steps p.tables e below S0 t := fun t k => K5 t (by
    refine XS.istore X5.here hx rfl (hb hby drk4_8) rfl (l' := #[.val (.ref o0), .val (.int (4 : Int32)), .val (.int p2), .val (.long q3), .second, .val (.int x4), .unset, .unset, .unset]) rfl ?_
    show Steps p.tables e below (T5.setTop (mkF m 10 #[.val (.ref o0), .val (.int (4 : Int32)), .val (.int p2), .val (.long q3), .second, .val (.int x4), .unset, .unset, .unset] [])) _
    refine XS.aloadN X5.here hx rfl (hb hby drk4_10) rfl rfl ?_
    show Steps p.tables e below (T5.setTop (mkF m 11 #[.val (.ref o0), .val (.int (4 : Int32)), .val (.int p2), .val (.long q3), .second, .val (.int x4), .unset, .unset, .unset] [(.ref o0)])) _
    exact k)
  obtain ⟨T7, X7, e7, st7⟩ := getF X5 hx hZ hown (host := "") (Or.inl (hw _ (List.mem_of_getElem? (i := 36) rfl))) Via.refl e5 F_o0_lastRequest (g := (mkF m 11 #[.val (.ref o0), .val (.int (4 : Int32)), .val (.int p2), .val (.long q3), .second, .val (.int x4), .unset, .unset, .unset] [(.ref o0)])) rfl rfl (hb hby drk4_11)
  have K7 : ∀ t, Steps p.tables e below (T7.setTop (mkF m 14 #[.val (.ref o0), .val (.int (4 : Int32)), .val (.int p2), .val (.long q3), .second, .val (.int x4), .unset, .unset, .unset] [(.ref ol)])) t → Steps p.tables e below S0 t := fun t k => K6 t (st7 t k)
  have K8 : ∀ t, Steps p.tables e below (T7.setTop (mkF m 16 #[.val (.ref o0), .val (.int (4 : Int32)), .val (.int p2), .val (.long q3), .second, .val (.int x4), .unset, .unset, .unset] [(.int x4), (.ref ol)])) t → Steps p.tables e below S0 t := fun t k => K7 t (by
    refine XS.iload X7.here hx rfl (hb hby drk4_14) rfl ?_
    show Steps p.tables e below (T7.setTop (mkF m 16 #[.val (.ref o0), .val (.int (4 : Int32)), .val (.int p2), .val (.long q3), .second, .val (.int x4), .unset, .unset, .unset] [(.int x4), (.ref ol)])) _
    exact k)
  have K_9 : ∀ t, Steps p.tables e below (T7.setTop (mkF m 16 #[.val (.ref o0), .val (.int (4 : Int32)), .val (.int p2), .val (.long q3), .second, .val (.int x4), .unset, .unset, .unset] [(.int x4), (.ref ol)])) t → Steps p.tables e below S0 t := K8
  obtain ⟨cl10, Ar10, qa10, sa10, na10, ha10, ga10⟩ := id V_ol
  have hin10 : ¬ (x4 < 0 ∨ cl10.slots.size ≤ (x4).toNatClampNeg) := inb_of sa10 hin
  have hat10 : cl10.slots[(x4).toNatClampNeg]? = some (.int (own_get [l0, l1, l2, l3, l4] x4)) := Has.at ha10 hin10 (own_getD [l0, l1, l2, l3, l4] x4)
  have K10 : ∀ t, Steps p.tables e below (T7.setTop (mkF m 17 #[.val (.ref o0), .val (.int (4 : Int32)), .val (.int p2), .val (.long q3), .second, .val (.int x4), .unset, .unset, .unset] [(.int (own_get [l0, l1, l2, l3, l4] x4))])) t → Steps p.tables e below S0 t := fun t k => K_9 t (X7.iaload hx (j := x4) (v := (.int (own_get [l0, l1, l2, l3, l4] x4))) (by rw [e7]; exact Ar10.1) (State.isArrayOf_alike hZ.alike Ar10.2.1) Ar10.2.2 hin10 hat10 (g := (mkF m 16 #[.val (.ref o0), .val (.int (4 : Int32)), .val (.int p2), .val (.long q3), .second, .val (.int x4), .unset, .unset, .unset] [(.int x4), (.ref ol)])) rfl rfl (hb hby drk4_16) _ k)
  have K11 : ∀ t, Steps p.tables e below (T7.setTop (mkF m 20 #[.val (.ref o0), .val (.int (4 : Int32)), .val (.int p2), .val (.long q3), .second, .val (.int x4), .val (.int (wrk4_1 x4 l0 l1 l2 l3 l4)), .unset, .unset] [(.ref o0)])) t → Steps p.tables e below S0 t := fun t k => K10 t (by
    refine XS.istore X7.here hx rfl (hb hby drk4_17) rfl (l' := #[.val (.ref o0), .val (.int (4 : Int32)), .val (.int p2), .val (.long q3), .second, .val (.int x4), .val (.int (wrk4_1 x4 l0 l1 l2 l3 l4)), .unset, .unset]) rfl ?_
    show Steps p.tables e below (T7.setTop (mkF m 19 #[.val (.ref o0), .val (.int (4 : Int32)), .val (.int p2), .val (.long q3), .second, .val (.int x4), .val (.int (wrk4_1 x4 l0 l1 l2 l3 l4)), .unset, .unset] [])) _
    refine XS.aloadN X7.here hx rfl (hb hby drk4_19) rfl rfl ?_
    show Steps p.tables e below (T7.setTop (mkF m 20 #[.val (.ref o0), .val (.int (4 : Int32)), .val (.int p2), .val (.long q3), .second, .val (.int x4), .val (.int (wrk4_1 x4 l0 l1 l2 l3 l4)), .unset, .unset] [(.ref o0)])) _
    exact k)
  obtain ⟨T12, X12, e12, st12⟩ := getF X7 hx hZ hown (host := "") (Or.inl (hw _ (List.mem_of_getElem? (i := 36) rfl))) Via.refl e7 F_o0_lastRequest (g := (mkF m 20 #[.val (.ref o0), .val (.int (4 : Int32)), .val (.int p2), .val (.long q3), .second, .val (.int x4), .val (.int (wrk4_1 x4 l0 l1 l2 l3 l4)), .unset, .unset] [(.ref o0)])) rfl rfl (hb hby drk4_20)
  have K12 : ∀ t, Steps p.tables e below (T12.setTop (mkF m 23 #[.val (.ref o0), .val (.int (4 : Int32)), .val (.int p2), .val (.long q3), .second, .val (.int x4), .val (.int (wrk4_1 x4 l0 l1 l2 l3 l4)), .unset, .unset] [(.ref ol)])) t → Steps p.tables e below S0 t := fun t k => K11 t (st12 t k)
  have K13 : ∀ t, Steps p.tables e below (T12.setTop (mkF m 26 #[.val (.ref o0), .val (.int (4 : Int32)), .val (.int p2), .val (.long q3), .second, .val (.int x4), .val (.int (wrk4_1 x4 l0 l1 l2 l3 l4)), .unset, .unset] [(.int (4 : Int32)), (.int x4), (.ref ol)])) t → Steps p.tables e below S0 t := fun t k => K12 t (by
    refine XS.iload X12.here hx rfl (hb hby drk4_23) rfl ?_
    show Steps p.tables e below (T12.setTop (mkF m 25 #[.val (.ref o0), .val (.int (4 : Int32)), .val (.int p2), .val (.long q3), .second, .val (.int x4), .val (.int (wrk4_1 x4 l0 l1 l2 l3 l4)), .unset, .unset] [(.int x4), (.ref ol)])) _
    refine XS.iloadN X12.here hx rfl (hb hby drk4_25) rfl ?_
    show Steps p.tables e below (T12.setTop (mkF m 26 #[.val (.ref o0), .val (.int (4 : Int32)), .val (.int p2), .val (.long q3), .second, .val (.int x4), .val (.int (wrk4_1 x4 l0 l1 l2 l3 l4)), .unset, .unset] [(.int (4 : Int32)), (.int x4), (.ref ol)])) _
    exact k)
  have K_14 : ∀ t, Steps p.tables e below (T12.setTop (mkF m 26 #[.val (.ref o0), .val (.int (4 : Int32)), .val (.int p2), .val (.long q3), .second, .val (.int x4), .val (.int (wrk4_1 x4 l0 l1 l2 l3 l4)), .unset, .unset] [(.int (4 : Int32)), (.int x4), (.ref ol)])) t → Steps p.tables e below S0 t := K13
  obtain ⟨cl15, Ar15, qa15, sa15, na15, ha15, ga15⟩ := id V_ol
  have hin15 : ¬ (x4 < 0 ∨ cl15.slots.size ≤ (x4).toNatClampNeg) := inb_of sa15 hin
  obtain ⟨T15, h15, X15, e15, W15, st15⟩ := stI X12 hx hZ e12 Ar15 (j := x4) hin15 (g := (mkF m 26 #[.val (.ref o0), .val (.int (4 : Int32)), .val (.int p2), .val (.long q3), .second, .val (.int x4), .val (.int (wrk4_1 x4 l0 l1 l2 l3 l4)), .unset, .unset] [(.int (4 : Int32)), (.int x4), (.ref ol)])) rfl rfl (hb hby drk4_26)
  have V_ol__15 : Arv Z h15 ol kl .int zm [(.int (wrk4_2 x4 l0)), (.int (wrk4_3 x4 l1)), (.int (wrk4_4 x4 l2)), (.int (wrk4_5 x4 l3)), (.int (wrk4_6 x4 l4))] (.int (0 : Int32)) := (Arv.set Ar15 qa15 sa15 na15 ha15 ga15 rfl W15 (x4).toNatClampNeg rfl (own_lt5 hin hz)).pad (own_upd5 l0 l1 l2 l3 l4 x4 (4 : Int32) (hin).1)
  have F_o0_requests__15 := F_o0_requests.other W15 (Or.inl ne_o0_ol)
  have F_o0_lastRequest__15 := F_o0_lastRequest.other W15 (Or.inl ne_o0_ol)
  have E_orq__15 := E_orq.wr W15
  have F_orq_pages__15 := F_orq_pages.other W15 (Or.inl ne_orq_ol)
  have V_op__15 := V_op.other W15 ne_op_ol
  have N15 := Fr.snoc X15 N5 g_ol
  have Zs15 : n0 ≤ h15.size := Nat.le_trans Z0 (Nat.le_of_eq W15.size.symm)
  have Kc15 : Keep h0 h15 [ol] := (Keep.refl h0 [ol]).wr W15 (Or.inl (List.mem_of_getElem? (i := 0) rfl))
  have K15 : ∀ t, Steps p.tables e below (T15.setTop (mkF m 27 #[.val (.ref o0), .val (.int (4 : Int32)), .val (.int p2), .val (.long q3), .second, .val (.int x4), .val (.int (wrk4_1 x4 l0 l1 l2 l3 l4)), .unset, .unset] [])) t → Steps p.tables e below S0 t := fun t k => K_14 t (st15 t k)
  have K16 : ∀ t, Steps p.tables e below (T15.setTop (mkF m 29 #[.val (.ref o0), .val (.int (4 : Int32)), .val (.int p2), .val (.long q3), .second, .val (.int x4), .val (.int (wrk4_1 x4 l0 l1 l2 l3 l4)), .unset, .unset] [(.int (wrk4_1 x4 l0 l1 l2 l3 l4))])) t → Steps p.tables e below S0 t := fun t k => K15 t (by
    refine XS.iload X15.here hx rfl (hb hby drk4_27) rfl ?_
    show Steps p.tables e below (T15.setTop (mkF m 29 #[.val (.ref o0), .val (.int (4 : Int32)), .val (.int p2), .val (.long q3), .second, .val (.int x4), .val (.int (wrk4_1 x4 l0 l1 l2 l3 l4)), .unset, .unset] [(.int (wrk4_1 x4 l0 l1 l2 l3 l4))])) _
    exact k)
  by_cases hc29_0 : (wrk4_1 x4 l0 l1 l2 l3 l4) < (0 : Int32)
  · -- yes
    have K17 : ∀ t, Steps p.tables e below (T15.setTop (mkF m 55 #[.val (.ref o0), .val (.int (4 : Int32)), .val (.int p2), .val (.long q3), .second, .val (.int x4), .val (.int (wrk4_1 x4 l0 l1 l2 l3 l4)), .val (.long (4 : Int64)), .second] [(.long (4 : Int64))])) t → Steps p.tables e below S0 t := fun t k => K16 t (by
      refine XS.ifNo X15.here hx rfl (hb hby drk4_29) rfl (XT.i0_ge_f hc29_0) ?_
      show Steps p.tables e below (T15.setTop (mkF m 32 #[.val (.ref o0), .val (.int (4 : Int32)), .val (.int p2), .val (.long q3), .second, .val (.int x4), .val (.int (wrk4_1 x4 l0 l1 l2 l3 l4)), .unset, .unset] [])) _
      refine XS.iloadN X15.here hx rfl (hb hby drk4_32) rfl ?_
      show Steps p.tables e below (T15.setTop (mkF m 33 #[.val (.ref o0), .val (.int (4 : Int32)), .val (.int p2), .val (.long q3), .second, .val (.int x4), .val (.int (wrk4_1 x4 l0 l1 l2 l3 l4)), .unset, .unset] [(.int (4 : Int32))])) _
      refine XS.i2l X15.here hx rfl (hb hby drk4_33) rfl ?_
      show Steps p.tables e below (T15.setTop (mkF m 34 #[.val (.ref o0), .val (.int (4 : Int32)), .val (.int p2), .val (.long q3), .second, .val (.int x4), .val (.int (wrk4_1 x4 l0 l1 l2 l3 l4)), .unset, .unset] [(.long (4 : Int64))])) _
      refine XS.lstore X15.here hx rfl (hb hby drk4_34) rfl (l' := #[.val (.ref o0), .val (.int (4 : Int32)), .val (.int p2), .val (.long q3), .second, .val (.int x4), .val (.int (wrk4_1 x4 l0 l1 l2 l3 l4)), .val (.long (4 : Int64)), .second]) rfl ?_
      show Steps p.tables e below (T15.setTop (mkF m 36 #[.val (.ref o0), .val (.int (4 : Int32)), .val (.int p2), .val (.long q3), .second, .val (.int x4), .val (.int (wrk4_1 x4 l0 l1 l2 l3 l4)), .val (.long (4 : Int64)), .second] [])) _
      refine XS.goto X15.here hx rfl (pc0 := 36) (pc' := 53) rfl (hb hby drk4_36) (by decide) (by decide) ?_
      show Steps p.tables e below (T15.setTop (mkF m 53 #[.val (.ref o0), .val (.int (4 : Int32)), .val (.int p2), .val (.long q3), .second, .val (.int x4), .val (.int (wrk4_1 x4 l0 l1 l2 l3 l4)), .val (.long (4 : Int64)), .second] [])) _
      refine XS.lload X15.here hx rfl (hb hby drk4_53) rfl ?_
      show Steps p.tables e below (T15.setTop (mkF m 55 #[.val (.ref o0), .val (.int (4 : Int32)), .val (.int p2), .val (.long q3), .second, .val (.int x4), .val (.int (wrk4_1 x4 l0 l1 l2 l3 l4)), .val (.long (4 : Int64)), .second] [(.long (4 : Int64))])) _
      exact k)
    obtain ⟨fs, hr, hrun, hended, hW, hsame⟩ := X15.leave (v := some (.long (4 : Int64))) (fun h => by rw [Bd.returns] at h; cases h) hlk
    refine ⟨_, _, ?_, hrun, hended, _, _, rfl, ?_, ⟨_, rfl⟩, hW, hsame.mono (by decide) (by decide)⟩
    · rw [← hS0]; exact K17 _ (retOut X15 hx Bd.returns rfl (Or.inr (Or.inl ⟨rfl, rfl, _, rfl⟩)) (hb hby drk4_55) hr)
    · show Qrk4 Z o0 p2 q3 orq op ol ka kl zm x0 x1 x2 x3 x4 l0 l1 l2 l3 l4 h0 n0 _ T15.heap _
      rw [e15]
      have qr : (4 : Int64) = (wrk4_r8 x4 l0 l1 l2 l3 l4) := by unfold wrk4_r8; rw [if_pos hc29_0]
      exact ⟨congrArg (fun z => some (Value.long z)) qr, N15, Kc15, V_ol__15⟩
  · -- no
    have K18 : ∀ t, Steps p.tables e below (T15.setTop (mkF m 40 #[.val (.ref o0), .val (.int (4 : Int32)), .val (.int p2), .val (.long q3), .second, .val (.int x4), .val (.int (wrk4_1 x4 l0 l1 l2 l3 l4)), .unset, .unset] [(.ref o0)])) t → Steps p.tables e below S0 t := fun t k => K16 t (by
      refine XS.ifYes X15.here hx rfl (pc0 := 29) (pc' := 39) rfl (hb hby drk4_29) rfl (XT.i0_ge_t hc29_0) (by decide) (by decide) ?_
      show Steps p.tables e below (T15.setTop (mkF m 39 #[.val (.ref o0), .val (.int (4 : Int32)), .val (.int p2), .val (.long q3), .second, .val (.int x4), .val (.int (wrk4_1 x4 l0 l1 l2 l3 l4)), .unset, .unset] [])) _
      refine XS.aloadN X15.here hx rfl (hb hby drk4_39) rfl rfl ?_
      show Steps p.tables e below (T15.setTop (mkF m 40 #[.val (.ref o0), .val (.int (4 : Int32)), .val (.int p2), .val (.long q3), .second, .val (.int x4), .val (.int (wrk4_1 x4 l0 l1 l2 l3 l4)), .unset, .unset] [(.ref o0)])) _
      exact k)
    obtain ⟨T19, X19, e19, st19⟩ := getF X15 hx hZ hown (host := "") (Or.inl (hw _ (List.mem_of_getElem? (i := 29) rfl))) Via.refl e15 F_o0_requests__15 (g := (mkF m 40 #[.val (.ref o0), .val (.int (4 : Int32)), .val (.int p2), .val (.long q3), .second, .val (.int x4), .val (.int (wrk4_1 x4 l0 l1 l2 l3 l4)), .unset, .unset] [(.ref o0)])) rfl rfl (hb hby drk4_40)
    have K19 : ∀ t, Steps p.tables e below (T19.setTop (mkF m 43 #[.val (.ref o0), .val (.int (4 : Int32)), .val (.int p2), .val (.long q3), .second, .val (.int x4), .val (.int (wrk4_1 x4 l0 l1 l2 l3 l4)), .unset, .unset] [(.ref orq)])) t → Steps p.tables e below S0 t := fun t k => K18 t (st19 t k)
    have K_20 : ∀ t, Steps p.tables e below (T19.setTop (mkF m 43 #[.val (.ref o0), .val (.int (4 : Int32)), .val (.int p2), .val (.long q3), .second, .val (.int x4), .val (.int (wrk4_1 x4 l0 l1 l2 l3 l4)), .unset, .unset] [(.ref orq)])) t → Steps p.tables e below S0 t := K19
    obtain ⟨cq21, kq21, q21a, q21b, q21c⟩ := isOf hZ e19 E_orq__15
    obtain ⟨_, _, ⟨T21, L21, k21, n21⟩, -, X21, ⟨Lc21, hQ21, l21, y21, z21⟩, st21⟩ := X19.virtualBack hx (y := (⟨"com/example/nearmark/nearmark/paging/Requests", "count", "()I"⟩ : MethodName)) (z := (⟨"com/example/nearmark/nearmark/paging/Requests", "count", "()I"⟩ : MethodName)) hown (mvT hZ (hw _ (List.mem_of_getElem? (i := 53) rfl))) (mvT hZ (hw _ (List.mem_of_getElem? (i := 54) rfl))) (notFace_of_selects (args := #[]) (mvT hZ (hw _ (List.mem_of_getElem? (i := 56) rfl)))) (mvT hZ (hw _ (List.mem_of_getElem? (i := 56) rfl))) (mvT hZ (hw _ (List.mem_of_getElem? (i := 55) rfl))) (by decide) (backOf (W := 0) (rmct l Z a0 hw [] orq op ka x0 x1 x2 x3 x4 h15 n0 Zs15 F_orq_pages__15 V_op__15) hZ (hw _ (List.mem_of_getElem? (i := 57) rfl)) (hw _ (List.mem_of_getElem? (i := 11) rfl)) (by decide) (by decide)) q21a q21c (g := (mkF m 43 #[.val (.ref o0), .val (.int (4 : Int32)), .val (.int p2), .val (.long q3), .second, .val (.int x4), .val (.int (wrk4_1 x4 l0 l1 l2 l3 l4)), .unset, .unset] [(.ref orq)])) rfl (by rw [hml]; rfl) (Steps.refl _) (argsL := []) (rest := []) (lenOf pdrk4_1 rfl) rfl (by show 2 * 0 + _ ≤ _; exact Nat.le_of_eq rfl) (hb hby drk4_43) (fun _ _ => ⟨rfl, e19, (by decide : 0 + 0 ≤ 0), (by decide : 0 + 0 ≤ 0)⟩)
    dsimp only [Pt.U, Pt.locs, Pt.cells, Pt.slots] at X21 l21 y21 z21 st21 hQ21
    subst l21 y21 z21
    obtain ⟨rfl, N21q, e21⟩ := hQ21
    have N21 := Fr.app N15 N21q
    have K21 : ∀ t, Steps p.tables e below (T21.setTop (mkF m 46 #[.val (.ref o0), .val (.int (4 : Int32)), .val (.int p2), .val (.long q3), .second, .val (.int x4), .val (.int (wrk4_1 x4 l0 l1 l2 l3 l4)), .unset, .unset] [(.int (5 : Int32))])) t → Steps p.tables e below S0 t := fun t k => K_20 t (st21.trans k)
    have K22 : ∀ t, Steps p.tables e below (T21.setTop (mkF m 55 #[.val (.ref o0), .val (.int (4 : Int32)), .val (.int p2), .val (.long q3), .second, .val (.int x4), .val (.int (wrk4_1 x4 l0 l1 l2 l3 l4)), .val (.long (wrk4_7 x4 l0 l1 l2 l3 l4)), .second] [(.long (wrk4_7 x4 l0 l1 l2 l3 l4))])) t → Steps p.tables e below S0 t := fun t k => K21 t (by
      refine XS.i2l X21.here hx rfl (hb hby drk4_46) rfl ?_
      show Steps p.tables e below (T21.setTop (mkF m 47 #[.val (.ref o0), .val (.int (4 : Int32)), .val (.int p2), .val (.long q3), .second, .val (.int x4), .val (.int (wrk4_1 x4 l0 l1 l2 l3 l4)), .unset, .unset] [(.long (5 : Int64))])) _
      refine XS.iload X21.here hx rfl (hb hby drk4_47) rfl ?_
      show Steps p.tables e below (T21.setTop (mkF m 49 #[.val (.ref o0), .val (.int (4 : Int32)), .val (.int p2), .val (.long q3), .second, .val (.int x4), .val (.int (wrk4_1 x4 l0 l1 l2 l3 l4)), .unset, .unset] [(.int (wrk4_1 x4 l0 l1 l2 l3 l4)), (.long (5 : Int64))])) _
      refine XS.i2l X21.here hx rfl (hb hby drk4_49) rfl ?_
      show Steps p.tables e below (T21.setTop (mkF m 50 #[.val (.ref o0), .val (.int (4 : Int32)), .val (.int p2), .val (.long q3), .second, .val (.int x4), .val (.int (wrk4_1 x4 l0 l1 l2 l3 l4)), .unset, .unset] [(.long ((wrk4_1 x4 l0 l1 l2 l3 l4).toInt64)), (.long (5 : Int64))])) _
      refine XS.ladd X21.here hx rfl (hb hby drk4_50) rfl ?_
      show Steps p.tables e below (T21.setTop (mkF m 51 #[.val (.ref o0), .val (.int (4 : Int32)), .val (.int p2), .val (.long q3), .second, .val (.int x4), .val (.int (wrk4_1 x4 l0 l1 l2 l3 l4)), .unset, .unset] [(.long ((5 : Int64) + ((wrk4_1 x4 l0 l1 l2 l3 l4).toInt64)))])) _
      refine XS.lstore X21.here hx rfl (hb hby drk4_51) rfl (l' := #[.val (.ref o0), .val (.int (4 : Int32)), .val (.int p2), .val (.long q3), .second, .val (.int x4), .val (.int (wrk4_1 x4 l0 l1 l2 l3 l4)), .val (.long (wrk4_7 x4 l0 l1 l2 l3 l4)), .second]) rfl ?_
      show Steps p.tables e below (T21.setTop (mkF m 53 #[.val (.ref o0), .val (.int (4 : Int32)), .val (.int p2), .val (.long q3), .second, .val (.int x4), .val (.int (wrk4_1 x4 l0 l1 l2 l3 l4)), .val (.long (wrk4_7 x4 l0 l1 l2 l3 l4)), .second] [])) _
      refine XS.lload X21.here hx rfl (hb hby drk4_53) rfl ?_
      show Steps p.tables e below (T21.setTop (mkF m 55 #[.val (.ref o0), .val (.int (4 : Int32)), .val (.int p2), .val (.long q3), .second, .val (.int x4), .val (.int (wrk4_1 x4 l0 l1 l2 l3 l4)), .val (.long (wrk4_7 x4 l0 l1 l2 l3 l4)), .second] [(.long (wrk4_7 x4 l0 l1 l2 l3 l4))])) _
      exact k)
    obtain ⟨fs, hr, hrun, hended, hW, hsame⟩ := X21.leave (v := some (.long (wrk4_7 x4 l0 l1 l2 l3 l4))) (fun h => by rw [Bd.returns] at h; cases h) hlk
    refine ⟨_, _, ?_, hrun, hended, _, _, rfl, ?_, ⟨_, rfl⟩, hW, hsame.mono (by decide) (by decide)⟩
    · rw [← hS0]; exact K22 _ (retOut X21 hx Bd.returns rfl (Or.inr (Or.inl ⟨rfl, rfl, _, rfl⟩)) (hb hby drk4_55) hr)
    · show Qrk4 Z o0 p2 q3 orq op ol ka kl zm x0 x1 x2 x3 x4 l0 l1 l2 l3 l4 h0 n0 _ T21.heap _
      rw [e21]
      have qr : (wrk4_7 x4 l0 l1 l2 l3 l4) = (wrk4_r8 x4 l0 l1 l2 l3 l4) := by unfold wrk4_r8; rw [if_neg hc29_0]
      exact ⟨congrArg (fun z => some (Value.long z)) qr, N21, Kc15, V_ol__15⟩
theorem dfl_0 : decode jdk_65_method_103_code 0 = .ok (.iconst 0, 1) := by decide +kernel
theorem dfl_1 : decode jdk_65_method_103_code 1 = .ok (.istore_n 2, 1) := by decide +kernel
theorem dfl_2 : decode jdk_65_method_103_code 2 = .ok (.aload_n 0, 1) := by decide +kernel
theorem dfl_3 : decode jdk_65_method_103_code 3 = .ok (.arraylength, 1) := by decide +kernel
theorem dfl_4 : decode jdk_65_method_103_code 4 = .ok (.istore_n 3, 1) := by decide +kernel
theorem dfl_5 : decode jdk_65_method_103_code 5 = .ok (.iload_n 2, 1) := by decide +kernel
theorem dfl_6 : decode jdk_65_method_103_code 6 = .ok (.iload_n 3, 1) := by decide +kernel
theorem dfl_7 : decode jdk_65_method_103_code 7 = .ok (.if_icmp .ge 13, 3) := by decide +kernel
theorem dfl_10 : decode jdk_65_method_103_code 10 = .ok (.aload_n 0, 1) := by decide +kernel
theorem dfl_11 : decode jdk_65_method_103_code 11 = .ok (.iload_n 2, 1) := by decide +kernel
theorem dfl_12 : decode jdk_65_method_103_code 12 = .ok (.iload_n 1, 1) := by decide +kernel
theorem dfl_13 : decode jdk_65_method_103_code 13 = .ok (.iastore, 1) := by decide +kernel
theorem dfl_14 : decode jdk_65_method_103_code 14 = .ok (.iinc 2 1, 3) := by decide +kernel
theorem dfl_17 : decode jdk_65_method_103_code 17 = .ok (.goto (-12), 3) := by decide +kernel
theorem dfl_20 : decode jdk_65_method_103_code 20 = .ok (.return_, 1) := by decide +kernel
theorem pnfl : plainName "java/util/Arrays" = true := by first | (simp [plainName, overriddenIn]; done) | decide +kernel
theorem effl (m : MethodId) (o0 : Addr) (p1 : Int32) : entryFrame m #[(.ref o0), (.int p1)] 4 = mkF m 0 #[.val (.ref o0), .val (.int p1), .unset, .unset] [] := by first | (simp [entryFrame, mkF, argsToLocals, Value.category]; done) | rfl
def Qfl (Z : State) (o0 : Addr) (p1 : Int32) (kl : ClassId) (zm : Int32) (f0 : Int32) (f1 : Int32) (f2 : Int32) (f3 : Int32) (f4 : Int32) (h0 : Heap) (n0 : Nat) (v : Option Value) (h : Heap) (L : List Loc) : Prop := v = none ∧ Fr n0 L ∧ Keep h0 h [o0] ∧ Arv Z h o0 kl .int zm [(.int p1), (.int p1), (.int p1), (.int p1), (.int p1)] (.int (0 : Int32))
set_option maxRecDepth 65536 in
set_option maxHeartbeats 40000000 in
theorem rmfl (l : Launch) (Z : State) (a0 : Array Value) (hw : ∀ d ∈ tables_1, d.before a0 Z = true) (ws : List Jvm.Cond) (o0 : Addr) (p1 : Int32) (kl : ClassId) (zm : Int32) (f0 : Int32) (f1 : Int32) (f2 : Int32) (f3 : Int32) (f4 : Int32) (h0 : Heap) (n0 : Nat) (Z0 : n0 ≤ h0.size) (V_o0 : Arv Z h0 o0 kl .int zm [(.int f0), (.int f1), (.int f2), (.int f3), (.int f4)] (.int (0 : Int32))) (g_o0 : n0 ≤ o0) (hz : ¬ (5 : Int32) < zm) :
    MetFree l (⟨"java/util/Arrays", "fill", "([II)V"⟩ : MethodName) (head1 (Jvm.Cond.code (⟨"java/util/Arrays", "fill", "([II)V"⟩ : MethodName) jdk_65_method_103_code 4 none :: ws) ({ frames := 0, cells := 0, slots := 0, locals := 0 } : Room)) (fun a U => a = #[(.ref o0), (.int p1)] ∧ Z.Warmed39 U.vm ∧ U.heap = h0) (fun _ _ _ _ _ => True) (fun _ U o U' => ∃ v L, o = .returned v ∧ Qfl Z o0 p1 kl zm f0 f1 f2 f3 f4 h0 n0 v U'.heap L ∧ FrameEnd U o U' L ({ frames := 0, cells := 0, slots := 0, locals := 0 } : Room).cells ({ frames := 0, cells := 0, slots := 0, locals := 0 } : Room).slots) := by
  refine MetFree.of_bodySF (plainFor_of_name pnfl) hisR ?_
  intro p e s m args below meth c s₁ Bd hml0 hP hK
  obtain ⟨rfl, hZ, hh⟩ := hP
  have hlk : meth.locks = false := BodyLoose.notSynchronized Bd
  have hx := Bd.exec
  have hby := Bd.bytes
  have hml : c.maxLocals = 4 := hml0
  have hown : s.vm.findClass "java/util/Arrays" = some m.cls := findClass_of_methodNamed Bd.named
  have hnm := (name_of_methodNamed Bd.named Bd.method).1
  have X0 : Stand p l e ({ frames := 0, cells := 0, slots := 0, locals := 0 } : Room) s m #[(.ref o0), (.int p1)] below meth c s₁ [] 0 0 := Stand.of_body Bd
  have e0 : s₁.heap = h0 := by rw [← hh, Bd.state]; rfl
  have N0 := Fr.nil n0
  obtain ⟨S0, hS0⟩ : ∃ S0, S0 = s₁.setTop (entryFrame m #[(.ref o0), (.int p1)] 4) := ⟨_, rfl⟩
  have pre0 : ∀ t, Steps p.tables e below (s₁.setTop (mkF m 0 #[.val (.ref o0), .val (.int p1), .unset, .unset] [])) t → Steps p.tables e below S0 t := fun t k => by rw [hS0]; exact castTop (effl m o0 p1) k
  have K1 : ∀ t, Steps p.tables e below (s₁.setTop (mkF m 3 #[.val (.ref o0), .val (.int p1), .val (.int (0 : Int32)), .unset] [(.ref o0)])) t → Steps p.tables e below S0 t := fun t k => pre0 t (by
    refine XS.iconst X0.here hx rfl (hb hby dfl_0) ?_
    show Steps p.tables e below (s₁.setTop (mkF m 1 #[.val (.ref o0), .val (.int p1), .unset, .unset] [(.int (0 : Int32))])) _
    refine XS.istoreN X0.here hx rfl (hb hby dfl_1) rfl (l' := #[.val (.ref o0), .val (.int p1), .val (.int (0 : Int32)), .unset]) rfl ?_
    show Steps p.tables e below (s₁.setTop (mkF m 2 #[.val (.ref o0), .val (.int p1), .val (.int (0 : Int32)), .unset] [])) _
    refine XS.aloadN X0.here hx rfl (hb hby dfl_2) rfl rfl ?_
    show Steps p.tables e below (s₁.setTop (mkF m 3 #[.val (.ref o0), .val (.int p1), .val (.int (0 : Int32)), .unset] [(.ref o0)])) _
    exact k)
  obtain ⟨cl2, Ar2, qa2, sa2, na2, ha2, ga2⟩ := id V_o0
  have K2 : ∀ t, Steps p.tables e below (s₁.setTop (mkF m 4 #[.val (.ref o0), .val (.int p1), .val (.int (0 : Int32)), .unset] [(.int zm)])) t → Steps p.tables e below S0 t := fun t k => K1 t (X0.arraylength hx (by rw [e0]; exact Ar2.1) (State.isArrayOf_alike hZ.alike Ar2.2.1) (g := (mkF m 3 #[.val (.ref o0), .val (.int p1), .val (.int (0 : Int32)), .unset] [(.ref o0)])) rfl rfl (hb hby dfl_3) _ (by rw [len_of sa2 na2]; exact k))
  have K3 : ∀ t, Steps p.tables e below (s₁.setTop (mkF m 5 #[.val (.ref o0), .val (.int p1), .val (.int (0 : Int32)), .val (.int zm)] [])) t → Steps p.tables e below S0 t := fun t k => K2 t (by
    refine XS.istoreN X0.here hx rfl (hb hby dfl_4) rfl (l' := #[.val (.ref o0), .val (.int p1), .val (.int (0 : Int32)), .val (.int zm)]) rfl ?_
    show Steps p.tables e below (s₁.setTop (mkF m 5 #[.val (.ref o0), .val (.int p1), .val (.int (0 : Int32)), .val (.int zm)] [])) _
    exact k)
  have loop : ∀ (k : Nat) (i : Int32) (T : State) (h : Heap) (locs : List Loc) (vs : List Value), i.toInt + k = zm.toInt → 0 ≤ i.toInt → Stand p l e ({ frames := 0, cells := 0, slots := 0, locals := 0 } : Room) s m #[(.ref o0), (.int p1)] below meth c T locs 0 0 → Fr n0 locs → T.heap = h → Keep h0 h [o0] → Arv Z h o0 kl .int zm vs (.int (0 : Int32)) → vs.length = 5 → (∀ j, j < i.toInt.toNat → vs.getD j (.int (0 : Int32)) = .int p1) → (∀ t, Steps p.tables e below (T.setTop (mkF m 5 #[.val (.ref o0), .val (.int p1), .val (.int i), .val (.int zm)] [])) t → Steps p.tables e below S0 t) → ∃ (T' : State) (h' : Heap) (locs' : List Loc), Stand p l e ({ frames := 0, cells := 0, slots := 0, locals := 0 } : Room) s m #[(.ref o0), (.int p1)] below meth c T' locs' 0 0 ∧ Fr n0 locs' ∧ T'.heap = h' ∧ Keep h0 h' [o0] ∧ Arv Z h' o0 kl .int zm [(.int p1), (.int p1), (.int p1), (.int p1), (.int p1)] (.int (0 : Int32)) ∧ ∀ t, Steps p.tables e below (T'.setTop (mkF m 20 #[.val (.ref o0), .val (.int p1), .val (.int zm), .val (.int zm)] [])) t → Steps p.tables e below S0 t := by
    intro k
    induction k with
    | zero =>
      intro i T h locs vs hi hp X N eT Kp V hl hv K
      have hiz : i = zm := Int32.toInt_inj.mp (by omega)
      refine ⟨T, h, locs, X, N, eT, Kp, own_full V (hiz ▸ hv) hz, fun t k => K t ?_⟩
      show Steps p.tables e below (T.setTop (mkF m 5 #[.val (.ref o0), .val (.int p1), .val (.int i), .val (.int zm)] [])) _
      refine XS.iloadN X.here hx rfl (hb hby dfl_5) rfl ?_
      show Steps p.tables e below (T.setTop (mkF m 6 #[.val (.ref o0), .val (.int p1), .val (.int i), .val (.int zm)] [(.int i)])) _
      refine XS.iloadN X.here hx rfl (hb hby dfl_6) rfl ?_
      show Steps p.tables e below (T.setTop (mkF m 7 #[.val (.ref o0), .val (.int p1), .val (.int i), .val (.int zm)] [(.int zm), (.int i)])) _
      refine XS.icmpYes X.here hx rfl (pc0 := 7) (pc' := 20) rfl (hb hby dfl_7) rfl (XT.ii_ge_t (by rw [hiz]; exact Int32.lt_irrefl)) (by decide) (by decide) ?_
      rw [hiz]
      exact k
    | succ k ih =>
      intro i T h locs vs hi hp X N eT Kp V hl hv K
      have l0 : (0 : Int32).toInt = 0 := rfl
      have l1 : (1 : Int32).toInt = 1 := rfl
      have l5 : (5 : Int32).toInt = 5 := rfl
      have hz' : zm.toInt ≤ 5 := by have q := hz; rw [Int32.lt_iff_toInt_lt, l5] at q; omega
      have hlt : i < zm := by rw [Int32.lt_iff_toInt_lt]; omega
      have hnn : ¬ i < 0 := by rw [Int32.lt_iff_toInt_lt, l0]; omega
      have hin' : (i.toNatClampNeg : Int) = i.toInt := (nat_of hnn).symm
      obtain ⟨cl1, Ar1, qa1, sa1, na1, ha1, ga1⟩ := id V
      have hin1 : ¬ (i < 0 ∨ cl1.slots.size ≤ i.toNatClampNeg) := inb_of sa1 ⟨hnn, hlt⟩
      obtain ⟨T1, h1, X1, e1, W1, st1⟩ := stI X hx hZ eT Ar1 (j := i) hin1 (g := (mkF m 13 #[.val (.ref o0), .val (.int p1), .val (.int i), .val (.int zm)] [(.int p1), (.int i), (.ref o0)])) rfl rfl (hb hby dfl_13)
      have V1 := Arv.set Ar1 qa1 sa1 na1 ha1 ga1 rfl W1 i.toNatClampNeg rfl (by omega)
      have ei : (i + 1).toInt = i.toInt + 1 := by have a := c_iadd i 1; have b := rng32 (i + 1); omega
      refine ih (i + 1) T1 h1 _ _ (by omega) (by omega) X1 (Fr.snoc X1 N g_o0) e1 (Kp.wr W1 (Or.inl (List.mem_of_getElem? (i := 0) rfl))) V1 (by rw [List.length_set]; exact hl) ?_ (fun t k => K t ?_)
      · exact own_setv hv hin' hp (by omega) (by omega)
      · show Steps p.tables e below (T.setTop (mkF m 5 #[.val (.ref o0), .val (.int p1), .val (.int i), .val (.int zm)] [])) _
        refine XS.iloadN X.here hx rfl (hb hby dfl_5) rfl ?_
        show Steps p.tables e below (T.setTop (mkF m 6 #[.val (.ref o0), .val (.int p1), .val (.int i), .val (.int zm)] [(.int i)])) _
        refine XS.iloadN X.here hx rfl (hb hby dfl_6) rfl ?_
        show Steps p.tables e below (T.setTop (mkF m 7 #[.val (.ref o0), .val (.int p1), .val (.int i), .val (.int zm)] [(.int zm), (.int i)])) _
        refine XS.icmpNo X.here hx rfl (hb hby dfl_7) rfl (XT.ii_ge_f hlt) ?_
        show Steps p.tables e below (T.setTop (mkF m 10 #[.val (.ref o0), .val (.int p1), .val (.int i), .val (.int zm)] [])) _
        refine XS.aloadN X.here hx rfl (hb hby dfl_10) rfl rfl ?_
        show Steps p.tables e below (T.setTop (mkF m 11 #[.val (.ref o0), .val (.int p1), .val (.int i), .val (.int zm)] [(.ref o0)])) _
        refine XS.iloadN X.here hx rfl (hb hby dfl_11) rfl ?_
        show Steps p.tables e below (T.setTop (mkF m 12 #[.val (.ref o0), .val (.int p1), .val (.int i), .val (.int zm)] [(.int i), (.ref o0)])) _
        refine XS.iloadN X.here hx rfl (hb hby dfl_12) rfl ?_
        show Steps p.tables e below (T.setTop (mkF m 13 #[.val (.ref o0), .val (.int p1), .val (.int i), .val (.int zm)] [(.int p1), (.int i), (.ref o0)])) _
        refine st1 _ ?_
        show Steps p.tables e below (T1.setTop (mkF m 14 #[.val (.ref o0), .val (.int p1), .val (.int i), .val (.int zm)] [])) _
        refine XS.iinc X1.here hx rfl (hb hby dfl_14) rfl (l' := #[.val (.ref o0), .val (.int p1), .val (.int (i + (1 : Int32))), .val (.int zm)]) rfl ?_
        show Steps p.tables e below (T1.setTop (mkF m 17 #[.val (.ref o0), .val (.int p1), .val (.int (i + (1 : Int32))), .val (.int zm)] [])) _
        refine XS.goto X1.here hx rfl (pc0 := 17) (pc' := 5) rfl (hb hby dfl_17) (by decide) (by decide) ?_
        exact k
  have hz0 : ¬ zm < 0 := (id V_o0).choose_spec.2.2.2.1
  have l0 : (0 : Int32).toInt = 0 := rfl
  have hz1 : 0 ≤ zm.toInt := by have q := hz0; rw [Int32.lt_iff_toInt_lt, l0] at q; omega
  obtain ⟨T4, h4, lo4, X4, N4, e4, Kc4, V_o0__4, K4⟩ := loop zm.toInt.toNat (0 : Int32) s₁ _ _ _ (by omega) (by omega) X0 N0 e0 (Keep.refl h0 [o0]) V_o0 rfl (fun j hj => absurd hj (by rw [l0]; exact Nat.not_lt_zero j)) K3
  have Zs4 : n0 ≤ h4.size := Nat.le_trans Z0 Kc4.1
  obtain ⟨fs, hr, hrun, hended, hW, hsame⟩ := X4.leave (v := none) (fun _ => rfl) hlk
  refine ⟨_, _, ?_, hrun, hended, _, _, rfl, ?_, ⟨_, rfl⟩, hW, hsame.mono (by decide) (by decide)⟩
  · rw [← hS0]; exact K4 _ (X4.returnOut hx Bd.returns (hb hby dfl_20) hr)
  · show Qfl Z o0 p1 kl zm f0 f1 f2 f3 f4 h0 n0 _ T4.heap _
    rw [e4]
    exact ⟨rfl, N4, Kc4, V_o0__4⟩
theorem dli_0 : decode prog_38_method_1_code 0 = .ok (.aload_n 0, 1) := by decide +kernel
theorem dli_1 : decode prog_38_method_1_code 1 = .ok (.invokespecial 1, 3) := by decide +kernel
theorem dli_4 : decode prog_38_method_1_code 4 = .ok (.aload_n 0, 1) := by decide +kernel
theorem dli_5 : decode prog_38_method_1_code 5 = .ok (.aload_n 1, 1) := by decide +kernel
theorem dli_6 : decode prog_38_method_1_code 6 = .ok (.putfield 7, 3) := by decide +kernel
theorem dli_9 : decode prog_38_method_1_code 9 = .ok (.aload_n 0, 1) := by decide +kernel
theorem dli_10 : decode prog_38_method_1_code 10 = .ok (.aload_n 1, 1) := by decide +kernel
theorem dli_11 : decode prog_38_method_1_code 11 = .ok (.invokevirtual 13, 3) := by decide +kernel
theorem dli_14 : decode prog_38_method_1_code 14 = .ok (.newarray .int, 2) := by decide +kernel
theorem dli_16 : decode prog_38_method_1_code 16 = .ok (.putfield 19, 3) := by decide +kernel
theorem dli_19 : decode prog_38_method_1_code 19 = .ok (.aload_n 0, 1) := by decide +kernel
theorem dli_20 : decode prog_38_method_1_code 20 = .ok (.getfield 19, 3) := by decide +kernel
theorem dli_23 : decode prog_38_method_1_code 23 = .ok (.iconst (-1), 1) := by decide +kernel
theorem dli_24 : decode prog_38_method_1_code 24 = .ok (.invokestatic 23, 3) := by decide +kernel
theorem dli_27 : decode prog_38_method_1_code 27 = .ok (.return_, 1) := by decide +kernel
theorem pnli : plainName "com/example/nearmark/nearmark/paging/LeastRecentlyUsed2" = true := by first | (simp [plainName, overriddenIn]; done) | decide +kernel
theorem pdli_0 : parseMethodDescriptor "()I" = some ⟨[], some .int⟩ := by decide +kernel
theorem pdli_1 : parseMethodDescriptor "([II)V" = some ⟨[(.array .int), .int], none⟩ := by decide +kernel
theorem efli (m : MethodId) (o0 : Addr) (o1 : Addr) : entryFrame m #[(.ref o0), (.ref o1)] 2 = mkF m 0 #[.val (.ref o0), .val (.ref o1)] [] := by first | (simp [entryFrame, mkF, argsToLocals, Value.category]; done) | rfl
def Qli (Z : State) (o0 : Addr) (o1 : Addr) (zm : Int32) (h0 : Heap) (n0 : Nat) (v : Option Value) (h : Heap) (L : List Loc) : Prop := ∃ (b9 : Addr) (k9 : ClassId), v = none ∧ Fr n0 L ∧ Keep h0 h [o0] ∧ h0.size ≤ b9 ∧ Exa Z h o0 "com/example/nearmark/nearmark/paging/LeastRecentlyUsed2" ∧ Fld Z h o0 "com/example/nearmark/nearmark/paging/LeastRecentlyUsed2" "requests" "Lcom/example/nearmark/nearmark/paging/Requests;" (.ref o1) ∧ Fld Z h o0 "com/example/nearmark/nearmark/paging/LeastRecentlyUsed2" "lastRequest" "[I" (.ref b9) ∧ Arv Z h b9 k9 .int zm [(.int (-1 : Int32)), (.int (-1 : Int32)), (.int (-1 : Int32)), (.int (-1 : Int32)), (.int (-1 : Int32))] (.int (0 : Int32))
set_option maxRecDepth 65536 in
set_option maxHeartbeats 40000000 in
theorem rmli (l : Launch) (Z : State) (a0 : Array Value) (hw : ∀ d ∈ tables_1, d.before a0 Z = true) (ws : List Jvm.Cond) (o0 : Addr) (o1 : Addr) (zm : Int32) (h0 : Heap) (n0 : Nat) (Z0 : n0 ≤ h0.size) (E_o0 : Exa Z h0 o0 "com/example/nearmark/nearmark/paging/LeastRecentlyUsed2") (F_o0_requests : Fld Z h0 o0 "com/example/nearmark/nearmark/paging/LeastRecentlyUsed2" "requests" "Lcom/example/nearmark/nearmark/paging/Requests;" .null) (F_o0_lastRequest : Fld Z h0 o0 "com/example/nearmark/nearmark/paging/LeastRecentlyUsed2" "lastRequest" "[I" .null) (g_o0 : n0 ≤ o0) (E_o1 : Exa Z h0 o1 "com/example/nearmark/nearmark/paging/Requests") (F_o1_pageCount : Fld Z h0 o1 "com/example/nearmark/nearmark/paging/Requests" "pageCount" "I" (.int zm)) (hm : ¬ zm < 0) (hz : ¬ (5 : Int32) < zm) (ne_o0_o1 : o0 ≠ o1) :
    MetFree l (⟨"com/example/nearmark/nearmark/paging/LeastRecentlyUsed2", "<init>", "(Lcom/example/nearmark/nearmark/paging/Requests;)V"⟩ : MethodName) (head1 (Jvm.Cond.code (⟨"com/example/nearmark/nearmark/paging/LeastRecentlyUsed2", "<init>", "(Lcom/example/nearmark/nearmark/paging/Requests;)V"⟩ : MethodName) prog_38_method_1_code 2 none :: ws) ({ frames := 1, cells := 1, slots := 5, locals := 15 } : Room)) (fun a U => a = #[(.ref o0), (.ref o1)] ∧ Z.Warmed39 U.vm ∧ U.heap = h0) (fun _ _ _ _ _ => True) (fun _ U o U' => ∃ v L, o = .returned v ∧ Qli Z o0 o1 zm h0 n0 v U'.heap L ∧ FrameEnd U o U' L ({ frames := 1, cells := 1, slots := 5, locals := 15 } : Room).cells ({ frames := 1, cells := 1, slots := 5, locals := 15 } : Room).slots) := by
  refine MetFree.of_bodySF (plainFor_of_name pnli) hisR ?_
  intro p e s m args below meth c s₁ Bd hml0 hP hK
  obtain ⟨rfl, hZ, hh⟩ := hP
  have hlk : meth.locks = false := BodyLoose.notSynchronized Bd
  have hx := Bd.exec
  have hby := Bd.bytes
  have hml : c.maxLocals = 2 := hml0
  have hown : s.vm.findClass "com/example/nearmark/nearmark/paging/LeastRecentlyUsed2" = some m.cls := findClass_of_methodNamed Bd.named
  have hnm := (name_of_methodNamed Bd.named Bd.method).1
  have X0 : Stand p l e ({ frames := 1, cells := 1, slots := 5, locals := 15 } : Room) s m #[(.ref o0), (.ref o1)] below meth c s₁ [] 0 0 := Stand.of_body Bd
  have e0 : s₁.heap = h0 := by rw [← hh, Bd.state]; rfl
  have N0 := Fr.nil n0
  obtain ⟨S0, hS0⟩ : ∃ S0, S0 = s₁.setTop (entryFrame m #[(.ref o0), (.ref o1)] 2) := ⟨_, rfl⟩
  have pre0 : ∀ t, Steps p.tables e below (s₁.setTop (mkF m 0 #[.val (.ref o0), .val (.ref o1)] [])) t → Steps p.tables e below S0 t := fun t k => by rw [hS0]; exact castTop (efli m o0 o1) k
  have K1 : ∀ t, Steps p.tables e below (s₁.setTop (mkF m 1 #[.val (.ref o0), .val (.ref o1)] [(.ref o0)])) t → Steps p.tables e below S0 t := fun t k => pre0 t (by
    refine XS.aloadN X0.here hx rfl (hb hby dli_0) rfl rfl ?_
    show Steps p.tables e below (s₁.setTop (mkF m 1 #[.val (.ref o0), .val (.ref o1)] [(.ref o0)])) _
    exact k)
  have K_2 : ∀ t, Steps p.tables e below (s₁.setTop (mkF m 1 #[.val (.ref o0), .val (.ref o1)] [(.ref o0)])) t → Steps p.tables e below S0 t := K1
  obtain ⟨T3, X3, e3, st3⟩ := initO X0 hx hZ hown (hw _ (List.mem_of_getElem? (i := 28) rfl)) (hw _ (List.mem_of_getElem? (i := 16) rfl)) (hw _ (List.mem_of_getElem? (i := 17) rfl)) e0 (g := (mkF m 1 #[.val (.ref o0), .val (.ref o1)] [(.ref o0)])) rfl (by rw [hml]; rfl) rfl (hb hby dli_1) (by decide) (W := 0) (by show 2 * 0 + _ ≤ _; exact Nat.le_of_eq rfl) (by decide)
  have K3 : ∀ t, Steps p.tables e below (T3.setTop (mkF m 4 #[.val (.ref o0), .val (.ref o1)] [])) t → Steps p.tables e below S0 t := fun t k => K_2 t (st3 t k)
  have K4 : ∀ t, Steps p.tables e below (T3.setTop (mkF m 6 #[.val (.ref o0), .val (.ref o1)] [(.ref o1), (.ref o0)])) t → Steps p.tables e below S0 t := fun t k => K3 t (by
    refine XS.aloadN X3.here hx rfl (hb hby dli_4) rfl rfl ?_
    show Steps p.tables e below (T3.setTop (mkF m 5 #[.val (.ref o0), .val (.ref o1)] [(.ref o0)])) _
    refine XS.aloadN X3.here hx rfl (hb hby dli_5) rfl rfl ?_
    show Steps p.tables e below (T3.setTop (mkF m 6 #[.val (.ref o0), .val (.ref o1)] [(.ref o1), (.ref o0)])) _
    exact k)
  obtain ⟨T5, h5, X5, e5, W5, st5⟩ := putF X3 hx hZ hown (host := "") (Or.inl (hw _ (List.mem_of_getElem? (i := 29) rfl))) Via.refl e3 F_o0_requests E_o0 (Or.inr ⟨(hw _ (List.mem_of_getElem? (i := 30) rfl)), rfl, hnm⟩) (hw _ (List.mem_of_getElem? (i := 23) rfl)) (ty := (.object "com/example/nearmark/nearmark/paging/Requests")) (by decide) rfl rfl (g := (mkF m 6 #[.val (.ref o0), .val (.ref o1)] [(.ref o1), (.ref o0)])) rfl rfl (hb hby dli_6)
  have F_o0_requests__5 := F_o0_requests.same W5
  have E_o0__5 := E_o0.wr W5
  have F_o0_lastRequest__5 := F_o0_lastRequest.other W5 (Or.inr (slot_ne (Or.inr (hw _ (List.mem_of_getElem? (i := 37) rfl))) (Or.inr (hw _ (List.mem_of_getElem? (i := 30) rfl))) (by decide) (t := (.array .int)) (t' := (.object "com/example/nearmark/nearmark/paging/Requests")) (by decide) (by decide)))
  have E_o1__5 := E_o1.wr W5
  have F_o1_pageCount__5 := F_o1_pageCount.other W5 (Or.inl (Ne.symm ne_o0_o1))
  have N5 := Fr.snoc X5 N0 g_o0
  have Zs5 : n0 ≤ h5.size := Nat.le_trans Z0 (Nat.le_of_eq W5.size.symm)
  have Kc5 : Keep h0 h5 [o0] := (Keep.refl h0 [o0]).wr W5 (Or.inl (List.mem_of_getElem? (i := 0) rfl))
  have K5 : ∀ t, Steps p.tables e below (T5.setTop (mkF m 9 #[.val (.ref o0), .val (.ref o1)] [])) t → Steps p.tables e below S0 t := fun t k => K4 t (st5 t k)
  have K6 : ∀ t, Steps p.tables e below (T5.setTop (mkF m 11 #[.val (.ref o0), .val (.ref o1)] [(.ref o1), (.ref o0)])) t → Steps p.tables e below S0 t := fun t k => K5 t (by
    refine XS.aloadN X5.here hx rfl (hb hby dli_9) rfl rfl ?_
    show Steps p.tables e below (T5.setTop (mkF m 10 #[.val (.ref o0), .val (.ref o1)] [(.ref o0)])) _
    refine XS.aloadN X5.here hx rfl (hb hby dli_10) rfl rfl ?_
    show Steps p.tables e below (T5.setTop (mkF m 11 #[.val (.ref o0), .val (.ref o1)] [(.ref o1), (.ref o0)])) _
    exact k)
  have K_7 : ∀ t, Steps p.tables e below (T5.setTop (mkF m 11 #[.val (.ref o0), .val (.ref o1)] [(.ref o1), (.ref o0)])) t → Steps p.tables e below S0 t := K6
  obtain ⟨cq8, kq8, q8a, q8b, q8c⟩ := isOf hZ e5 E_o1__5
  obtain ⟨_, _, ⟨T8, L8, k8, n8⟩, -, X8, ⟨Lc8, hQ8, l8, y8, z8⟩, st8⟩ := X5.virtualBack hx (y := (⟨"com/example/nearmark/nearmark/paging/Requests", "pageCount", "()I"⟩ : MethodName)) (z := (⟨"com/example/nearmark/nearmark/paging/Requests", "pageCount", "()I"⟩ : MethodName)) hown (mvT hZ (hw _ (List.mem_of_getElem? (i := 31) rfl))) (mvT hZ (hw _ (List.mem_of_getElem? (i := 32) rfl))) (notFace_of_selects (args := #[]) (mvT hZ (hw _ (List.mem_of_getElem? (i := 34) rfl)))) (mvT hZ (hw _ (List.mem_of_getElem? (i := 34) rfl))) (mvT hZ (hw _ (List.mem_of_getElem? (i := 33) rfl))) (by decide) (backOf (W := 1) (rmpc l Z a0 hw [] o1 zm h5 n0 Zs5 F_o1_pageCount__5) hZ (hw _ (List.mem_of_getElem? (i := 35) rfl)) (hw _ (List.mem_of_getElem? (i := 11) rfl)) (by decide) (by decide)) q8a q8c (g := (mkF m 11 #[.val (.ref o0), .val (.ref o1)] [(.ref o1), (.ref o0)])) rfl (by rw [hml]; rfl) (Steps.refl _) (argsL := []) (rest := [(.ref o0)]) (lenOf pdli_0 rfl) rfl (by show 2 * 0 + _ ≤ _; exact Nat.le_of_eq rfl) (hb hby dli_11) (fun _ _ => ⟨rfl, e5, (by decide : 0 + 0 ≤ 1), (by decide : 0 + 0 ≤ 5)⟩)
  dsimp only [Pt.U, Pt.locs, Pt.cells, Pt.slots] at X8 l8 y8 z8 st8 hQ8
  subst l8 y8 z8
  obtain ⟨rfl, N8q, e8⟩ := hQ8
  have N8 := Fr.app N5 N8q
  have K8 : ∀ t, Steps p.tables e below (T8.setTop (mkF m 14 #[.val (.ref o0), .val (.ref o1)] [(.int zm), (.ref o0)])) t → Steps p.tables e below S0 t := fun t k => K_7 t (st8.trans k)
  obtain ⟨T9, h9, k9, X9, e9, E9, A9, st9⟩ := newP X8 hx hZ (hw _ (List.mem_of_getElem? (i := 0) rfl)) e8 (g := (mkF m 14 #[.val (.ref o0), .val (.ref o1)] [(.int zm), (.ref o0)])) rfl (hb hby dli_14) rfl hm (cap := 5) (own_cap5 hm hz) (by decide) (by decide) (by decide)
  obtain ⟨b9, g9⟩ : ∃ z, z = h5.size := ⟨_, rfl⟩
  rw [← g9] at A9 st9
  have ne_o0_b9 : o0 ≠ b9 := Nat.ne_of_lt (Nat.lt_of_lt_of_le E_o0__5.lt (Nat.le_of_eq g9.symm))
  have ne_o1_b9 : o1 ≠ b9 := Nat.ne_of_lt (Nat.lt_of_lt_of_le E_o1__5.lt (Nat.le_of_eq g9.symm))
  have E_o0__9 := E_o0__5.ext E9
  have F_o0_requests__9 := F_o0_requests__5.ext E9
  have F_o0_lastRequest__9 := F_o0_lastRequest__5.ext E9
  have E_o1__9 := E_o1__5.ext E9
  have F_o1_pageCount__9 := F_o1_pageCount__5.ext E9
  have g_b9 : n0 ≤ b9 := Nat.le_trans Zs5 (Nat.le_of_eq g9.symm)
  have Zs9 : n0 ≤ h9.size := Nat.le_trans Zs5 E9.1
  have sz_b9 : h0.size ≤ b9 := Nat.le_trans Kc5.1 (Nat.le_of_eq g9.symm)
  have Kc9 : Keep h0 h9 [o0] := Kc5.ext E9
  have V_b9 : Arv Z h9 b9 k9 .int zm [(.int (0 : Int32)), (.int (0 : Int32)), (.int (0 : Int32)), (.int (0 : Int32)), (.int (0 : Int32))] (.int (0 : Int32)) := (Arv.new A9 hm).pad (pad_rep [] (.int (0 : Int32)) 5)
  have K9 : ∀ t, Steps p.tables e below (T9.setTop (mkF m 16 #[.val (.ref o0), .val (.ref o1)] [(.ref b9), (.ref o0)])) t → Steps p.tables e below S0 t := fun t k => K8 t (st9 t k)
  obtain ⟨T10, h10, X10, e10, W10, st10⟩ := putF X9 hx hZ hown (host := "") (Or.inl (hw _ (List.mem_of_getElem? (i := 36) rfl))) Via.refl e9 F_o0_lastRequest__9 E_o0__9 (Or.inr ⟨(hw _ (List.mem_of_getElem? (i := 37) rfl)), rfl, hnm⟩) (hw _ (List.mem_of_getElem? (i := 23) rfl)) (ty := (.array .int)) (by decide) rfl rfl (g := (mkF m 16 #[.val (.ref o0), .val (.ref o1)] [(.ref b9), (.ref o0)])) rfl rfl (hb hby dli_16)
  have F_o0_lastRequest__10 := F_o0_lastRequest__9.same W10
  have E_o0__10 := E_o0__9.wr W10
  have F_o0_requests__10 := F_o0_requests__9.other W10 (Or.inr (slot_ne (Or.inr (hw _ (List.mem_of_getElem? (i := 30) rfl))) (Or.inr (hw _ (List.mem_of_getElem? (i := 37) rfl))) (by decide) (t := (.object "com/example/nearmark/nearmark/paging/Requests")) (t' := (.array .int)) (by decide) (by decide)))
  have E_o1__10 := E_o1__9.wr W10
  have F_o1_pageCount__10 := F_o1_pageCount__9.other W10 (Or.inl (Ne.symm ne_o0_o1))
  have V_b9__10 := V_b9.other W10 (Ne.symm ne_o0_b9)
  have N10 := Fr.snoc X10 N8 g_o0
  have Zs10 : n0 ≤ h10.size := Nat.le_trans Zs9 (Nat.le_of_eq W10.size.symm)
  have Kc10 : Keep h0 h10 [o0] := Kc9.wr W10 (Or.inl (List.mem_of_getElem? (i := 0) rfl))
  have K10 : ∀ t, Steps p.tables e below (T10.setTop (mkF m 19 #[.val (.ref o0), .val (.ref o1)] [])) t → Steps p.tables e below S0 t := fun t k => K9 t (st10 t k)
  have K11 : ∀ t, Steps p.tables e below (T10.setTop (mkF m 20 #[.val (.ref o0), .val (.ref o1)] [(.ref o0)])) t → Steps p.tables e below S0 t := fun t k => K10 t (by
    refine XS.aloadN X10.here hx rfl (hb hby dli_19) rfl rfl ?_
    show Steps p.tables e below (T10.setTop (mkF m 20 #[.val (.ref o0), .val (.ref o1)] [(.ref o0)])) _
    exact k)
  obtain ⟨T12, X12, e12, st12⟩ := getF X10 hx hZ hown (host := "") (Or.inl (hw _ (List.mem_of_getElem? (i := 36) rfl))) Via.refl e10 F_o0_lastRequest__10 (g := (mkF m 20 #[.val (.ref o0), .val (.ref o1)] [(.ref o0)])) rfl rfl (hb hby dli_20)
  have K12 : ∀ t, Steps p.tables e below (T12.setTop (mkF m 23 #[.val (.ref o0), .val (.ref o1)] [(.ref b9)])) t → Steps p.tables e below S0 t := fun t k => K11 t (st12 t k)
  have K13 : ∀ t, Steps p.tables e below (T12.setTop (mkF m 24 #[.val (.ref o0), .val (.ref o1)] [(.int (-1 : Int32)), (.ref b9)])) t → Steps p.tables e below S0 t := fun t k => K12 t (by
    refine XS.iconst X12.here hx rfl (hb hby dli_23) ?_
    show Steps p.tables e below (T12.setTop (mkF m 24 #[.val (.ref o0), .val (.ref o1)] [(.int (-1 : Int32)), (.ref b9)])) _
    exact k)
  have K_14 : ∀ t, Steps p.tables e below (T12.setTop (mkF m 24 #[.val (.ref o0), .val (.ref o1)] [(.int (-1 : Int32)), (.ref b9)])) t → Steps p.tables e below S0 t := K13
  obtain ⟨_, _, ⟨T15, L15, k15, n15⟩, -, X15, ⟨Lc15, hQ15, l15, y15, z15⟩, st15⟩ := Jvm.LawKit.callS X12 hx (y := (⟨"java/util/Arrays", "fill", "([II)V"⟩ : MethodName)) hown (mvT hZ (hw _ (List.mem_of_getElem? (i := 38) rfl))) (mvT hZ (hw _ (List.mem_of_getElem? (i := 39) rfl))) (mvT hZ (hw _ (List.mem_of_getElem? (i := 40) rfl))) (mvT hZ (hw _ (List.mem_of_getElem? (i := 41) rfl))) (by decide) (backOf (W := 0) (rmfl l Z a0 hw [] b9 (-1 : Int32) k9 zm (0 : Int32) (0 : Int32) (0 : Int32) (0 : Int32) (0 : Int32) h10 n0 Zs10 V_b9__10 g_b9 hz) hZ (hw _ (List.mem_of_getElem? (i := 41) rfl)) (hw _ (List.mem_of_getElem? (i := 40) rfl)) (by decide) (by decide)) (g := (mkF m 24 #[.val (.ref o0), .val (.ref o1)] [(.int (-1 : Int32)), (.ref b9)])) rfl (by rw [hml]; rfl) (argsL := [(.ref b9), (.int (-1 : Int32))]) (rest := []) (lenOf pdli_1 rfl) rfl (by show 2 * 0 + _ ≤ _; exact Nat.le_of_eq rfl) (hb hby dli_24) (fun _ _ => ⟨rfl, e12, (by decide : 1 + 0 ≤ 1), (by decide : 5 + 0 ≤ 5)⟩)
  dsimp only [Pt.U, Pt.locs, Pt.cells, Pt.slots] at X15 l15 y15 z15 st15 hQ15
  subst l15 y15 z15
  obtain ⟨rfl, N15q, Kp15, Fn15_0⟩ := hQ15
  have N15 := Fr.app N10 N15q
  have E_o0__15 := E_o0__10.keep Kp15
  have F_o0_requests__15 := F_o0_requests__10.keep Kp15 (ninS ne_o0_b9 nin0)
  have F_o0_lastRequest__15 := F_o0_lastRequest__10.keep Kp15 (ninS ne_o0_b9 nin0)
  have E_o1__15 := E_o1__10.keep Kp15
  have F_o1_pageCount__15 := F_o1_pageCount__10.keep Kp15 (ninS ne_o1_b9 nin0)
  have Zs15 : n0 ≤ T15.heap.size := Nat.le_trans Zs10 Kp15.1
  have Kc15 : Keep h0 T15.heap [o0] := Kc10.trans Kp15 (allS (P := fun x => x ∈ [o0] ∨ h0.size ≤ x) (Or.inr sz_b9) all0)
  have K15 : ∀ t, Steps p.tables e below (T15.setTop (mkF m 27 #[.val (.ref o0), .val (.ref o1)] [])) t → Steps p.tables e below S0 t := fun t k => K_14 t (st15 t k)
  obtain ⟨fs, hr, hrun, hended, hW, hsame⟩ := X15.leave (v := none) (fun _ => rfl) hlk
  refine ⟨_, _, ?_, hrun, hended, _, _, rfl, ?_, ⟨_, rfl⟩, hW, hsame.mono (by decide) (by decide)⟩
  · rw [← hS0]; exact K15 _ (X15.returnOut hx Bd.returns (hb hby dli_27) hr)
  · show Qli Z o0 o1 zm h0 n0 _ T15.heap _
    exact ⟨b9, k9, rfl, N15, Kc15, sz_b9, E_o0__15, F_o0_requests__15, F_o0_lastRequest__15, Fn15_0⟩
theorem pn0 : plainName "com/example/nearmark/nearmark/paging/LeastRecentlyUsed2RankPinLaw" = true := by first | (simp [plainName, overriddenIn]; done) | decide +kernel
theorem pd0_0 : parseMethodDescriptor "([II)J" = some ⟨[(.array .int), .int], some .long⟩ := by decide +kernel
theorem pd0_1 : parseMethodDescriptor "([II)V" = some ⟨[(.array .int), .int], none⟩ := by decide +kernel
theorem pd0_2 : parseMethodDescriptor "(Lcom/example/nearmark/nearmark/paging/Requests;)V" = some ⟨[(.object "com/example/nearmark/nearmark/paging/Requests")], none⟩ := by decide +kernel
theorem pd0_3 : parseMethodDescriptor "(IZJ)J" = some ⟨[.int, .boolean, .long], some .long⟩ := by decide +kernel
theorem ef0 (m : MethodId) (p0 : Int32) (p1 : Int32) (q2 : Int64) : entryFrame m #[(.int p0), (.int p1), (.long q2)] maxLocals = mkF m 0 #[.val (.int p0), .val (.int p1), .val (.long q2), .second, .unset, .unset, .unset, .unset, .unset, .unset, .unset, .unset, .unset, .unset, .unset, .unset, .unset, .unset, .unset, .unset, .unset, .unset, .unset, .unset, .unset, .unset, .unset, .unset] [] := by first | (simp [entryFrame, mkF, argsToLocals, Value.category, maxLocals]; done) | rfl
def Q0 (Z : State) (p0 : Int32) (p1 : Int32) (q2 : Int64) (h0 : Heap) (n0 : Nat) (v : Option Value) (h : Heap) (L : List Loc) : Prop := v = some (.int (w0_r25 p0)) ∧ Fr n0 L
set_option maxRecDepth 65536 in
set_option maxHeartbeats 40000000 in
theorem rm0 (l : Launch) (Z : State) (a0 : Array Value) (hw : ∀ d ∈ tables_1, d.before a0 Z = true) (ws : List Jvm.Cond) (p0 : Int32) (p1 : Int32) (q2 : Int64) (h0 : Heap) (n0 : Nat) (Z0 : n0 ≤ h0.size) :
    MetFree l x (head1 (Jvm.Cond.code x code maxLocals ret :: ws) room_1) (fun a U => a = #[(.int p0), (.int p1), (.long q2)] ∧ Z.Warmed39 U.vm ∧ U.heap = h0) (fun _ _ _ _ _ => True) (fun _ U o U' => ∃ v L, o = .returned v ∧ Q0 Z p0 p1 q2 h0 n0 v U'.heap L ∧ FrameEnd U o U' L 4 14) := by
  refine MetFree.of_bodySF (plainFor_of_name pn0) hisR ?_
  intro p e s m args below meth c s₁ Bd hml0 hP hK
  obtain ⟨rfl, hZ, hh⟩ := hP
  have hlk : meth.locks = false := BodyLoose.notSynchronized Bd
  have hx := Bd.exec
  have hby := Bd.bytes
  have hml : c.maxLocals = 28 := hml0
  have hown : s.vm.findClass "com/example/nearmark/nearmark/paging/LeastRecentlyUsed2RankPinLaw" = some m.cls := findClass_of_methodNamed Bd.named
  have hnm := (name_of_methodNamed Bd.named Bd.method).1
  have X0 : Stand p l e room_1 s m #[(.int p0), (.int p1), (.long q2)] below meth c s₁ [] 0 0 := Stand.of_body Bd
  have e0 : s₁.heap = h0 := by rw [← hh, Bd.state]; rfl
  have N0 := Fr.nil n0
  obtain ⟨S0, hS0⟩ : ∃ S0, S0 = s₁.setTop (entryFrame m #[(.int p0), (.int p1), (.long q2)] maxLocals) := ⟨_, rfl⟩
  have pre0 : ∀ t, Steps p.tables e below (s₁.setTop (mkF m 0 #[.val (.int p0), .val (.int p1), .val (.long q2), .second, .unset, .unset, .unset, .unset, .unset, .unset, .unset, .unset, .unset, .unset, .unset, .unset, .unset, .unset, .unset, .unset, .unset, .unset, .unset, .unset, .unset, .unset, .unset, .unset] [])) t → Steps p.tables e below S0 t := fun t k => by rw [hS0]; exact castTop (ef0 m p0 p1 q2) k
  have K1 : ∀ t, Steps p.tables e below (s₁.setTop (mkF m 1 #[.val (.int p0), .val (.int p1), .val (.long q2), .second, .unset, .unset, .unset, .unset, .unset, .unset, .unset, .unset, .unset, .unset, .unset, .unset, .unset, .unset, .unset, .unset, .unset, .unset, .unset, .unset, .unset, .unset, .unset, .unset] [(.int (5 : Int32))])) t → Steps p.tables e below S0 t := fun t k => pre0 t (by
    refine XS.iconst X0.here hx rfl (hb hby at_0) ?_
    show Steps p.tables e below (s₁.setTop (mkF m 1 #[.val (.int p0), .val (.int p1), .val (.long q2), .second, .unset, .unset, .unset, .unset, .unset, .unset, .unset, .unset, .unset, .unset, .unset, .unset, .unset, .unset, .unset, .unset, .unset, .unset, .unset, .unset, .unset, .unset, .unset, .unset] [(.int (5 : Int32))])) _
    exact k)
  obtain ⟨T2, h2, k2, X2, e2, E2, A2, st2⟩ := newP X0 hx hZ (hw _ (List.mem_of_getElem? (i := 0) rfl)) e0 (g := (mkF m 1 #[.val (.int p0), .val (.int p1), .val (.long q2), .second, .unset, .unset, .unset, .unset, .unset, .unset, .unset, .unset, .unset, .unset, .unset, .unset, .unset, .unset, .unset, .unset, .unset, .unset, .unset, .unset, .unset, .unset, .unset, .unset] [(.int (5 : Int32))])) rfl (hb hby at_1) rfl (by decide) (cap := 5) (by decide) (by decide) (by decide) (by decide)
  obtain ⟨b2, g2⟩ : ∃ z, z = h0.size := ⟨_, rfl⟩
  rw [← g2] at A2 st2
  have g_b2 : n0 ≤ b2 := Nat.le_trans Z0 (Nat.le_of_eq g2.symm)
  have Zs2 : n0 ≤ h2.size := Nat.le_trans Z0 E2.1
  have V_b2 : Arv Z h2 b2 k2 .int (5 : Int32) [(.int (0 : Int32)), (.int (0 : Int32)), (.int (0 : Int32)), (.int (0 : Int32)), (.int (0 : Int32))] (.int (0 : Int32)) := (Arv.new A2 (by decide)).pad (pad_rep [] (.int (0 : Int32)) 5)
  have K2 : ∀ t, Steps p.tables e below (T2.setTop (mkF m 3 #[.val (.int p0), .val (.int p1), .val (.long q2), .second, .unset, .unset, .unset, .unset, .unset, .unset, .unset, .unset, .unset, .unset, .unset, .unset, .unset, .unset, .unset, .unset, .unset, .unset, .unset, .unset, .unset, .unset, .unset, .unset] [(.ref b2)])) t → Steps p.tables e below S0 t := fun t k => K1 t (st2 t k)
  have K3 : ∀ t, Steps p.tables e below (T2.setTop (mkF m 9 #[.val (.int p0), .val (.int p1), .val (.long q2), .second, .val (.ref b2), .unset, .unset, .unset, .unset, .unset, .unset, .unset, .unset, .unset, .unset, .unset, .unset, .unset, .unset, .unset, .unset, .unset, .unset, .unset, .unset, .unset, .unset, .unset] [(.int (0 : Int32)), (.int (0 : Int32)), (.ref b2)])) t → Steps p.tables e below S0 t := fun t k => K2 t (by
    refine XS.astore X2.here hx rfl (hb hby at_3) rfl rfl (l' := #[.val (.int p0), .val (.int p1), .val (.long q2), .second, .val (.ref b2), .unset, .unset, .unset, .unset, .unset, .unset, .unset, .unset, .unset, .unset, .unset, .unset, .unset, .unset, .unset, .unset, .unset, .unset, .unset, .unset, .unset, .unset, .unset]) rfl ?_
    show Steps p.tables e below (T2.setTop (mkF m 5 #[.val (.int p0), .val (.int p1), .val (.long q2), .second, .val (.ref b2), .unset, .unset, .unset, .unset, .unset, .unset, .unset, .unset, .unset, .unset, .unset, .unset, .unset, .unset, .unset, .unset, .unset, .unset, .unset, .unset, .unset, .unset, .unset] [])) _
    refine XS.aload X2.here hx rfl (hb hby at_5) rfl rfl ?_
    show Steps p.tables e below (T2.setTop (mkF m 7 #[.val (.int p0), .val (.int p1), .val (.long q2), .second, .val (.ref b2), .unset, .unset, .unset, .unset, .unset, .unset, .unset, .unset, .unset, .unset, .unset, .unset, .unset, .unset, .unset, .unset, .unset, .unset, .unset, .unset, .unset, .unset, .unset] [(.ref b2)])) _
    refine XS.iconst X2.here hx rfl (hb hby at_7) ?_
    show Steps p.tables e below (T2.setTop (mkF m 8 #[.val (.int p0), .val (.int p1), .val (.long q2), .second, .val (.ref b2), .unset, .unset, .unset, .unset, .unset, .unset, .unset, .unset, .unset, .unset, .unset, .unset, .unset, .unset, .unset, .unset, .unset, .unset, .unset, .unset, .unset, .unset, .unset] [(.int (0 : Int32)), (.ref b2)])) _
    refine XS.iconst X2.here hx rfl (hb hby at_8) ?_
    show Steps p.tables e below (T2.setTop (mkF m 9 #[.val (.int p0), .val (.int p1), .val (.long q2), .second, .val (.ref b2), .unset, .unset, .unset, .unset, .unset, .unset, .unset, .unset, .unset, .unset, .unset, .unset, .unset, .unset, .unset, .unset, .unset, .unset, .unset, .unset, .unset, .unset, .unset] [(.int (0 : Int32)), (.int (0 : Int32)), (.ref b2)])) _
    exact k)
  have K_4 : ∀ t, Steps p.tables e below (T2.setTop (mkF m 9 #[.val (.int p0), .val (.int p1), .val (.long q2), .second, .val (.ref b2), .unset, .unset, .unset, .unset, .unset, .unset, .unset, .unset, .unset, .unset, .unset, .unset, .unset, .unset, .unset, .unset, .unset, .unset, .unset, .unset, .unset, .unset, .unset] [(.int (0 : Int32)), (.int (0 : Int32)), (.ref b2)])) t → Steps p.tables e below S0 t := K3
  obtain ⟨cl5, Ar5, qa5, sa5, na5, ha5, ga5⟩ := id V_b2
  have hin5 : ¬ ((0 : Int32) < 0 ∨ cl5.slots.size ≤ ((0 : Int32)).toNatClampNeg) := inb_of sa5 ⟨by decide, by decide⟩
  obtain ⟨T5, h5, X5, e5, W5, st5⟩ := stI X2 hx hZ e2 Ar5 (j := (0 : Int32)) hin5 (g := (mkF m 9 #[.val (.int p0), .val (.int p1), .val (.long q2), .second, .val (.ref b2), .unset, .unset, .unset, .unset, .unset, .unset, .unset, .unset, .unset, .unset, .unset, .unset, .unset, .unset, .unset, .unset, .unset, .unset, .unset, .unset, .unset, .unset, .unset] [(.int (0 : Int32)), (.int (0 : Int32)), (.ref b2)])) rfl rfl (hb hby at_9)
  have V_b2__5 : Arv Z h5 b2 k2 .int (5 : Int32) [(.int (0 : Int32)), (.int (0 : Int32)), (.int (0 : Int32)), (.int (0 : Int32)), (.int (0 : Int32))] (.int (0 : Int32)) := Arv.set Ar5 qa5 sa5 na5 ha5 ga5 rfl W5 0 rfl (Nat.le_of_ble_eq_true rfl)
  have N5 := Fr.snoc X5 N0 g_b2
  have Zs5 : n0 ≤ h5.size := Nat.le_trans Zs2 (Nat.le_of_eq W5.size.symm)
  have K5 : ∀ t, Steps p.tables e below (T5.setTop (mkF m 10 #[.val (.int p0), .val (.int p1), .val (.long q2), .second, .val (.ref b2), .unset, .unset, .unset, .unset, .unset, .unset, .unset, .unset, .unset, .unset, .unset, .unset, .unset, .unset, .unset, .unset, .unset, .unset, .unset, .unset, .unset, .unset, .unset] [])) t → Steps p.tables e below S0 t := fun t k => K_4 t (st5 t k)
  have K6 : ∀ t, Steps p.tables e below (T5.setTop (mkF m 25 #[.val (.int p0), .val (.int p1), .val (.long q2), .second, .val (.ref b2), .val (.int (1 : Int32)), .unset, .unset, .unset, .unset, .unset, .unset, .unset, .unset, .unset, .unset, .unset, .unset, .unset, .unset, .unset, .unset, .unset, .unset, .unset, .unset, .unset, .unset] [(.int ((p0 &&& (7 : Int32)) % (2 : Int32))), (.int (1 : Int32)), (.ref b2)])) t → Steps p.tables e below S0 t := fun t k => K5 t (by
    refine XS.iconst X5.here hx rfl (hb hby at_10) ?_
    show Steps p.tables e below (T5.setTop (mkF m 11 #[.val (.int p0), .val (.int p1), .val (.long q2), .second, .val (.ref b2), .unset, .unset, .unset, .unset, .unset, .unset, .unset, .unset, .unset, .unset, .unset, .unset, .unset, .unset, .unset, .unset, .unset, .unset, .unset, .unset, .unset, .unset, .unset] [(.int (1 : Int32))])) _
    refine XS.istore X5.here hx rfl (hb hby at_11) rfl (l' := #[.val (.int p0), .val (.int p1), .val (.long q2), .second, .val (.ref b2), .val (.int (1 : Int32)), .unset, .unset, .unset, .unset, .unset, .unset, .unset, .unset, .unset, .unset, .unset, .unset, .unset, .unset, .unset, .unset, .unset, .unset, .unset, .unset, .unset, .unset]) rfl ?_
    show Steps p.tables e below (T5.setTop (mkF m 13 #[.val (.int p0), .val (.int p1), .val (.long q2), .second, .val (.ref b2), .val (.int (1 : Int32)), .unset, .unset, .unset, .unset, .unset, .unset, .unset, .unset, .unset, .unset, .unset, .unset, .unset, .unset, .unset, .unset, .unset, .unset, .unset, .unset, .unset, .unset] [])) _
    refine XS.aload X5.here hx rfl (hb hby at_13) rfl rfl ?_
    show Steps p.tables e below (T5.setTop (mkF m 15 #[.val (.int p0), .val (.int p1), .val (.long q2), .second, .val (.ref b2), .val (.int (1 : Int32)), .unset, .unset, .unset, .unset, .unset, .unset, .unset, .unset, .unset, .unset, .unset, .unset, .unset, .unset, .unset, .unset, .unset, .unset, .unset, .unset, .unset, .unset] [(.ref b2)])) _
    refine XS.iconst X5.here hx rfl (hb hby at_15) ?_
    show Steps p.tables e below (T5.setTop (mkF m 16 #[.val (.int p0), .val (.int p1), .val (.long q2), .second, .val (.ref b2), .val (.int (1 : Int32)), .unset, .unset, .unset, .unset, .unset, .unset, .unset, .unset, .unset, .unset, .unset, .unset, .unset, .unset, .unset, .unset, .unset, .unset, .unset, .unset, .unset, .unset] [(.int (1 : Int32)), (.ref b2)])) _
    refine XS.iloadN X5.here hx rfl (hb hby at_16) rfl ?_
    show Steps p.tables e below (T5.setTop (mkF m 17 #[.val (.int p0), .val (.int p1), .val (.long q2), .second, .val (.ref b2), .val (.int (1 : Int32)), .unset, .unset, .unset, .unset, .unset, .unset, .unset, .unset, .unset, .unset, .unset, .unset, .unset, .unset, .unset, .unset, .unset, .unset, .unset, .unset, .unset, .unset] [(.int p0), (.int (1 : Int32)), (.ref b2)])) _
    refine XS.bipush X5.here hx rfl (hb hby at_17) ?_
    show Steps p.tables e below (T5.setTop (mkF m 19 #[.val (.int p0), .val (.int p1), .val (.long q2), .second, .val (.ref b2), .val (.int (1 : Int32)), .unset, .unset, .unset, .unset, .unset, .unset, .unset, .unset, .unset, .unset, .unset, .unset, .unset, .unset, .unset, .unset, .unset, .unset, .unset, .unset, .unset, .unset] [(.int (7 : Int32)), (.int p0), (.int (1 : Int32)), (.ref b2)])) _
    refine XS.iand X5.here hx rfl (hb hby at_19) rfl ?_
    show Steps p.tables e below (T5.setTop (mkF m 20 #[.val (.int p0), .val (.int p1), .val (.long q2), .second, .val (.ref b2), .val (.int (1 : Int32)), .unset, .unset, .unset, .unset, .unset, .unset, .unset, .unset, .unset, .unset, .unset, .unset, .unset, .unset, .unset, .unset, .unset, .unset, .unset, .unset, .unset, .unset] [(.int (p0 &&& (7 : Int32))), (.int (1 : Int32)), (.ref b2)])) _
    refine XS.iload X5.here hx rfl (hb hby at_20) rfl ?_
    show Steps p.tables e below (T5.setTop (mkF m 22 #[.val (.int p0), .val (.int p1), .val (.long q2), .second, .val (.ref b2), .val (.int (1 : Int32)), .unset, .unset, .unset, .unset, .unset, .unset, .unset, .unset, .unset, .unset, .unset, .unset, .unset, .unset, .unset, .unset, .unset, .unset, .unset, .unset, .unset, .unset] [(.int (1 : Int32)), (.int (p0 &&& (7 : Int32))), (.int (1 : Int32)), (.ref b2)])) _
    refine XS.iconst X5.here hx rfl (hb hby at_22) ?_
    show Steps p.tables e below (T5.setTop (mkF m 23 #[.val (.int p0), .val (.int p1), .val (.long q2), .second, .val (.ref b2), .val (.int (1 : Int32)), .unset, .unset, .unset, .unset, .unset, .unset, .unset, .unset, .unset, .unset, .unset, .unset, .unset, .unset, .unset, .unset, .unset, .unset, .unset, .unset, .unset, .unset] [(.int (1 : Int32)), (.int (1 : Int32)), (.int (p0 &&& (7 : Int32))), (.int (1 : Int32)), (.ref b2)])) _
    refine XS.iadd X5.here hx rfl (hb hby at_23) rfl ?_
    show Steps p.tables e below (T5.setTop (mkF m 24 #[.val (.int p0), .val (.int p1), .val (.long q2), .second, .val (.ref b2), .val (.int (1 : Int32)), .unset, .unset, .unset, .unset, .unset, .unset, .unset, .unset, .unset, .unset, .unset, .unset, .unset, .unset, .unset, .unset, .unset, .unset, .unset, .unset, .unset, .unset] [(.int (2 : Int32)), (.int (p0 &&& (7 : Int32))), (.int (1 : Int32)), (.ref b2)])) _
    refine iremM X5 hx rfl (hb hby at_24) rfl (by decide) ?_
    show Steps p.tables e below (T5.setTop (mkF m 25 #[.val (.int p0), .val (.int p1), .val (.long q2), .second, .val (.ref b2), .val (.int (1 : Int32)), .unset, .unset, .unset, .unset, .unset, .unset, .unset, .unset, .unset, .unset, .unset, .unset, .unset, .unset, .unset, .unset, .unset, .unset, .unset, .unset, .unset, .unset] [(.int ((p0 &&& (7 : Int32)) % (2 : Int32))), (.int (1 : Int32)), (.ref b2)])) _
    exact k)
  have K_7 : ∀ t, Steps p.tables e below (T5.setTop (mkF m 25 #[.val (.int p0), .val (.int p1), .val (.long q2), .second, .val (.ref b2), .val (.int (1 : Int32)), .unset, .unset, .unset, .unset, .unset, .unset, .unset, .unset, .unset, .unset, .unset, .unset, .unset, .unset, .unset, .unset, .unset, .unset, .unset, .unset, .unset, .unset] [(.int (w0_1 p0)), (.int (1 : Int32)), (.ref b2)])) t → Steps p.tables e below S0 t := K6
  obtain ⟨cl8, Ar8, qa8, sa8, na8, ha8, ga8⟩ := id V_b2__5
  have hin8 : ¬ ((1 : Int32) < 0 ∨ cl8.slots.size ≤ ((1 : Int32)).toNatClampNeg) := inb_of sa8 ⟨by decide, by decide⟩
  obtain ⟨T8, h8, X8, e8, W8, st8⟩ := stI X5 hx hZ e5 Ar8 (j := (1 : Int32)) hin8 (g := (mkF m 25 #[.val (.int p0), .val (.int p1), .val (.long q2), .second, .val (.ref b2), .val (.int (1 : Int32)), .unset, .unset, .unset, .unset, .unset, .unset, .unset, .unset, .unset, .unset, .unset, .unset, .unset, .unset, .unset, .unset, .unset, .unset, .unset, .unset, .unset, .unset] [(.int (w0_1 p0)), (.int (1 : Int32)), (.ref b2)])) rfl rfl (hb hby at_25)
  have V_b2__8 : Arv Z h8 b2 k2 .int (5 : Int32) [(.int (0 : Int32)), (.int (w0_1 p0)), (.int (0 : Int32)), (.int (0 : Int32)), (.int (0 : Int32))] (.int (0 : Int32)) := Arv.set Ar8 qa8 sa8 na8 ha8 ga8 rfl W8 1 rfl (Nat.le_of_ble_eq_true rfl)
  have N8 := Fr.snoc X8 N5 g_b2
  have Zs8 : n0 ≤ h8.size := Nat.le_trans Zs5 (Nat.le_of_eq W8.size.symm)
  have K8 : ∀ t, Steps p.tables e below (T8.setTop (mkF m 26 #[.val (.int p0), .val (.int p1), .val (.long q2), .second, .val (.ref b2), .val (.int (1 : Int32)), .unset, .unset, .unset, .unset, .unset, .unset, .unset, .unset, .unset, .unset, .unset, .unset, .unset, .unset, .unset, .unset, .unset, .unset, .unset, .unset, .unset, .unset] [])) t → Steps p.tables e below S0 t := fun t k => K_7 t (st8 t k)
  have K9 : ∀ t, Steps p.tables e below (T8.setTop (mkF m 29 #[.val (.int p0), .val (.int p1), .val (.long q2), .second, .val (.ref b2), .val (.int (1 : Int32)), .unset, .unset, .unset, .unset, .unset, .unset, .unset, .unset, .unset, .unset, .unset, .unset, .unset, .unset, .unset, .unset, .unset, .unset, .unset, .unset, .unset, .unset] [(.int (1 : Int32)), (.ref b2)])) t → Steps p.tables e below S0 t := fun t k => K8 t (by
    refine XS.aload X8.here hx rfl (hb hby at_26) rfl rfl ?_
    show Steps p.tables e below (T8.setTop (mkF m 28 #[.val (.int p0), .val (.int p1), .val (.long q2), .second, .val (.ref b2), .val (.int (1 : Int32)), .unset, .unset, .unset, .unset, .unset, .unset, .unset, .unset, .unset, .unset, .unset, .unset, .unset, .unset, .unset, .unset, .unset, .unset, .unset, .unset, .unset, .unset] [(.ref b2)])) _
    refine XS.iconst X8.here hx rfl (hb hby at_28) ?_
    show Steps p.tables e below (T8.setTop (mkF m 29 #[.val (.int p0), .val (.int p1), .val (.long q2), .second, .val (.ref b2), .val (.int (1 : Int32)), .unset, .unset, .unset, .unset, .unset, .unset, .unset, .unset, .unset, .unset, .unset, .unset, .unset, .unset, .unset, .unset, .unset, .unset, .unset, .unset, .unset, .unset] [(.int (1 : Int32)), (.ref b2)])) _
    exact k)
  have K_10 : ∀ t, Steps p.tables e below (T8.setTop (mkF m 29 #[.val (.int p0), .val (.int p1), .val (.long q2), .second, .val (.ref b2), .val (.int (1 : Int32)), .unset, .unset, .unset, .unset, .unset, .unset, .unset, .unset, .unset, .unset, .unset, .unset, .unset, .unset, .unset, .unset, .unset, .unset, .unset, .unset, .unset, .unset] [(.int (1 : Int32)), (.ref b2)])) t → Steps p.tables e below S0 t := K9
  obtain ⟨cl11, Ar11, qa11, sa11, na11, ha11, ga11⟩ := id V_b2__8
  have hin11 : ¬ ((1 : Int32) < 0 ∨ cl11.slots.size ≤ ((1 : Int32)).toNatClampNeg) := inb_of sa11 ⟨by decide, by decide⟩
  have hat11 : cl11.slots[((1 : Int32)).toNatClampNeg]? = some (.int (w0_1 p0)) := Has.at ha11 hin11 rfl
  have K11 : ∀ t, Steps p.tables e below (T8.setTop (mkF m 30 #[.val (.int p0), .val (.int p1), .val (.long q2), .second, .val (.ref b2), .val (.int (1 : Int32)), .unset, .unset, .unset, .unset, .unset, .unset, .unset, .unset, .unset, .unset, .unset, .unset, .unset, .unset, .unset, .unset, .unset, .unset, .unset, .unset, .unset, .unset] [(.int (w0_1 p0))])) t → Steps p.tables e below S0 t := fun t k => K_10 t (X8.iaload hx (j := (1 : Int32)) (v := (.int (w0_1 p0))) (by rw [e8]; exact Ar11.1) (State.isArrayOf_alike hZ.alike Ar11.2.1) Ar11.2.2 hin11 hat11 (g := (mkF m 29 #[.val (.int p0), .val (.int p1), .val (.long q2), .second, .val (.ref b2), .val (.int (1 : Int32)), .unset, .unset, .unset, .unset, .unset, .unset, .unset, .unset, .unset, .unset, .unset, .unset, .unset, .unset, .unset, .unset, .unset, .unset, .unset, .unset, .unset, .unset] [(.int (1 : Int32)), (.ref b2)])) rfl rfl (hb hby at_29) _ k)
  have K12 : ∀ t, Steps p.tables e below (T8.setTop (mkF m 32 #[.val (.int p0), .val (.int p1), .val (.long q2), .second, .val (.ref b2), .val (.int (1 : Int32)), .unset, .unset, .unset, .unset, .unset, .unset, .unset, .unset, .unset, .unset, .unset, .unset, .unset, .unset, .unset, .unset, .unset, .unset, .unset, .unset, .unset, .unset] [(.int (1 : Int32)), (.int (w0_1 p0))])) t → Steps p.tables e below S0 t := fun t k => K11 t (by
    refine XS.iload X8.here hx rfl (hb hby at_30) rfl ?_
    show Steps p.tables e below (T8.setTop (mkF m 32 #[.val (.int p0), .val (.int p1), .val (.long q2), .second, .val (.ref b2), .val (.int (1 : Int32)), .unset, .unset, .unset, .unset, .unset, .unset, .unset, .unset, .unset, .unset, .unset, .unset, .unset, .unset, .unset, .unset, .unset, .unset, .unset, .unset, .unset, .unset] [(.int (1 : Int32)), (.int (w0_1 p0))])) _
    exact k)
  obtain ⟨T13, lo13, X13, N13, e13, K13⟩ : ∃ (T' : State) (locs' : List Loc), Stand p l e room_1 s m #[(.int p0), (.int p1), (.long q2)] below meth c T' locs' 1 5 ∧ Fr n0 locs' ∧ T'.heap = h8 ∧ ∀ t, Steps p.tables e below (T'.setTop (mkF m 41 #[.val (.int p0), .val (.int p1), .val (.long q2), .second, .val (.ref b2), .val (.int (w0_m2 p0)), .unset, .unset, .unset, .unset, .unset, .unset, .unset, .unset, .unset, .unset, .unset, .unset, .unset, .unset, .unset, .unset, .unset, .unset, .unset, .unset, .unset, .unset] [])) t → Steps p.tables e below S0 t := by
    by_cases hc32_0 : (w0_1 p0) = (1 : Int32)
    · -- yes
      have K14 : ∀ t, Steps p.tables e below (T8.setTop (mkF m 41 #[.val (.int p0), .val (.int p1), .val (.long q2), .second, .val (.ref b2), .val (.int (2 : Int32)), .unset, .unset, .unset, .unset, .unset, .unset, .unset, .unset, .unset, .unset, .unset, .unset, .unset, .unset, .unset, .unset, .unset, .unset, .unset, .unset, .unset, .unset] [])) t → Steps p.tables e below S0 t := fun t k => K12 t (by
        refine XS.icmpNo X8.here hx rfl (hb hby at_32) rfl (XT.ii_ne_f hc32_0) ?_
        show Steps p.tables e below (T8.setTop (mkF m 35 #[.val (.int p0), .val (.int p1), .val (.long q2), .second, .val (.ref b2), .val (.int (1 : Int32)), .unset, .unset, .unset, .unset, .unset, .unset, .unset, .unset, .unset, .unset, .unset, .unset, .unset, .unset, .unset, .unset, .unset, .unset, .unset, .unset, .unset, .unset] [])) _
        refine XS.iload X8.here hx rfl (hb hby at_35) rfl ?_
        show Steps p.tables e below (T8.setTop (mkF m 37 #[.val (.int p0), .val (.int p1), .val (.long q2), .second, .val (.ref b2), .val (.int (1 : Int32)), .unset, .unset, .unset, .unset, .unset, .unset, .unset, .unset, .unset, .unset, .unset, .unset, .unset, .unset, .unset, .unset, .unset, .unset, .unset, .unset, .unset, .unset] [(.int (1 : Int32))])) _
        refine XS.iconst X8.here hx rfl (hb hby at_37) ?_
        show Steps p.tables e below (T8.setTop (mkF m 38 #[.val (.int p0), .val (.int p1), .val (.long q2), .second, .val (.ref b2), .val (.int (1 : Int32)), .unset, .unset, .unset, .unset, .unset, .unset, .unset, .unset, .unset, .unset, .unset, .unset, .unset, .unset, .unset, .unset, .unset, .unset, .unset, .unset, .unset, .unset] [(.int (1 : Int32)), (.int (1 : Int32))])) _
        refine XS.iadd X8.here hx rfl (hb hby at_38) rfl ?_
        show Steps p.tables e below (T8.setTop (mkF m 39 #[.val (.int p0), .val (.int p1), .val (.long q2), .second, .val (.ref b2), .val (.int (1 : Int32)), .unset, .unset, .unset, .unset, .unset, .unset, .unset, .unset, .unset, .unset, .unset, .unset, .unset, .unset, .unset, .unset, .unset, .unset, .unset, .unset, .unset, .unset] [(.int (2 : Int32))])) _
        refine XS.istore X8.here hx rfl (hb hby at_39) rfl (l' := #[.val (.int p0), .val (.int p1), .val (.long q2), .second, .val (.ref b2), .val (.int (2 : Int32)), .unset, .unset, .unset, .unset, .unset, .unset, .unset, .unset, .unset, .unset, .unset, .unset, .unset, .unset, .unset, .unset, .unset, .unset, .unset, .unset, .unset, .unset]) rfl ?_
        show Steps p.tables e below (T8.setTop (mkF m 41 #[.val (.int p0), .val (.int p1), .val (.long q2), .second, .val (.ref b2), .val (.int (2 : Int32)), .unset, .unset, .unset, .unset, .unset, .unset, .unset, .unset, .unset, .unset, .unset, .unset, .unset, .unset, .unset, .unset, .unset, .unset, .unset, .unset, .unset, .unset] [])) _
        exact k)
      have q15 : (w0_m2 p0) = (2 : Int32) := by unfold w0_m2; rw [if_pos hc32_0]
      exact ⟨T8, _, X8, N8, e8, fun t k => K14 t (by rw [q15] at k; exact k)⟩
    · -- no
      have K16 : ∀ t, Steps p.tables e below (T8.setTop (mkF m 41 #[.val (.int p0), .val (.int p1), .val (.long q2), .second, .val (.ref b2), .val (.int (1 : Int32)), .unset, .unset, .unset, .unset, .unset, .unset, .unset, .unset, .unset, .unset, .unset, .unset, .unset, .unset, .unset, .unset, .unset, .unset, .unset, .unset, .unset, .unset] [])) t → Steps p.tables e below S0 t := fun t k => K12 t (by
        refine XS.icmpYes X8.here hx rfl (pc0 := 32) (pc' := 41) rfl (hb hby at_32) rfl (XT.ii_ne_t hc32_0) (by decide) (by decide) ?_
        show Steps p.tables e below (T8.setTop (mkF m 41 #[.val (.int p0), .val (.int p1), .val (.long q2), .second, .val (.ref b2), .val (.int (1 : Int32)), .unset, .unset, .unset, .unset, .unset, .unset, .unset, .unset, .unset, .unset, .unset, .unset, .unset, .unset, .unset, .unset, .unset, .unset, .unset, .unset, .unset, .unset] [])) _
        exact k)
      have q17 : (w0_m2 p0) = (1 : Int32) := by unfold w0_m2; rw [if_neg hc32_0]
      exact ⟨T8, _, X8, N8, e8, fun t k => K16 t (by rw [q17] at k; exact k)⟩
  have K18 : ∀ t, Steps p.tables e below (T13.setTop (mkF m 55 #[.val (.int p0), .val (.int p1), .val (.long q2), .second, .val (.ref b2), .val (.int (w0_m2 p0)), .unset, .unset, .unset, .unset, .unset, .unset, .unset, .unset, .unset, .unset, .unset, .unset, .unset, .unset, .unset, .unset, .unset, .unset, .unset, .unset, .unset, .unset] [(.int ((w0_3 p0) % ((w0_m2 p0) + (1 : Int32)))), (.int (2 : Int32)), (.ref b2)])) t → Steps p.tables e below S0 t := fun t k => K13 t (by
    refine XS.aload X13.here hx rfl (hb hby at_41) rfl rfl ?_
    show Steps p.tables e below (T13.setTop (mkF m 43 #[.val (.int p0), .val (.int p1), .val (.long q2), .second, .val (.ref b2), .val (.int (w0_m2 p0)), .unset, .unset, .unset, .unset, .unset, .unset, .unset, .unset, .unset, .unset, .unset, .unset, .unset, .unset, .unset, .unset, .unset, .unset, .unset, .unset, .unset, .unset] [(.ref b2)])) _
    refine XS.iconst X13.here hx rfl (hb hby at_43) ?_
    show Steps p.tables e below (T13.setTop (mkF m 44 #[.val (.int p0), .val (.int p1), .val (.long q2), .second, .val (.ref b2), .val (.int (w0_m2 p0)), .unset, .unset, .unset, .unset, .unset, .unset, .unset, .unset, .unset, .unset, .unset, .unset, .unset, .unset, .unset, .unset, .unset, .unset, .unset, .unset, .unset, .unset] [(.int (2 : Int32)), (.ref b2)])) _
    refine XS.iloadN X13.here hx rfl (hb hby at_44) rfl ?_
    show Steps p.tables e below (T13.setTop (mkF m 45 #[.val (.int p0), .val (.int p1), .val (.long q2), .second, .val (.ref b2), .val (.int (w0_m2 p0)), .unset, .unset, .unset, .unset, .unset, .unset, .unset, .unset, .unset, .unset, .unset, .unset, .unset, .unset, .unset, .unset, .unset, .unset, .unset, .unset, .unset, .unset] [(.int p0), (.int (2 : Int32)), (.ref b2)])) _
    refine XS.iconst X13.here hx rfl (hb hby at_45) ?_
    show Steps p.tables e below (T13.setTop (mkF m 46 #[.val (.int p0), .val (.int p1), .val (.long q2), .second, .val (.ref b2), .val (.int (w0_m2 p0)), .unset, .unset, .unset, .unset, .unset, .unset, .unset, .unset, .unset, .unset, .unset, .unset, .unset, .unset, .unset, .unset, .unset, .unset, .unset, .unset, .unset, .unset] [(.int (3 : Int32)), (.int p0), (.int (2 : Int32)), (.ref b2)])) _
    refine XS.iushr X13.here hx rfl (hb hby at_46) rfl ?_
    show Steps p.tables e below (T13.setTop (mkF m 47 #[.val (.int p0), .val (.int p1), .val (.long q2), .second, .val (.ref b2), .val (.int (w0_m2 p0)), .unset, .unset, .unset, .unset, .unset, .unset, .unset, .unset, .unset, .unset, .unset, .unset, .unset, .unset, .unset, .unset, .unset, .unset, .unset, .unset, .unset, .unset] [(.int ((p0.toUInt32 >>> ((3 : Int32) &&& 31).toUInt32).toInt32)), (.int (2 : Int32)), (.ref b2)])) _
    refine XS.bipush X13.here hx rfl (hb hby at_47) ?_
    show Steps p.tables e below (T13.setTop (mkF m 49 #[.val (.int p0), .val (.int p1), .val (.long q2), .second, .val (.ref b2), .val (.int (w0_m2 p0)), .unset, .unset, .unset, .unset, .unset, .unset, .unset, .unset, .unset, .unset, .unset, .unset, .unset, .unset, .unset, .unset, .unset, .unset, .unset, .unset, .unset, .unset] [(.int (7 : Int32)), (.int ((p0.toUInt32 >>> ((3 : Int32) &&& 31).toUInt32).toInt32)), (.int (2 : Int32)), (.ref b2)])) _
    refine XS.iand X13.here hx rfl (hb hby at_49) rfl ?_
    show Steps p.tables e below (T13.setTop (mkF m 50 #[.val (.int p0), .val (.int p1), .val (.long q2), .second, .val (.ref b2), .val (.int (w0_m2 p0)), .unset, .unset, .unset, .unset, .unset, .unset, .unset, .unset, .unset, .unset, .unset, .unset, .unset, .unset, .unset, .unset, .unset, .unset, .unset, .unset, .unset, .unset] [(.int (((p0.toUInt32 >>> ((3 : Int32) &&& 31).toUInt32).toInt32) &&& (7 : Int32))), (.int (2 : Int32)), (.ref b2)])) _
    refine XS.iload X13.here hx rfl (hb hby at_50) rfl ?_
    show Steps p.tables e below (T13.setTop (mkF m 52 #[.val (.int p0), .val (.int p1), .val (.long q2), .second, .val (.ref b2), .val (.int (w0_m2 p0)), .unset, .unset, .unset, .unset, .unset, .unset, .unset, .unset, .unset, .unset, .unset, .unset, .unset, .unset, .unset, .unset, .unset, .unset, .unset, .unset, .unset, .unset] [(.int (w0_m2 p0)), (.int (((p0.toUInt32 >>> ((3 : Int32) &&& 31).toUInt32).toInt32) &&& (7 : Int32))), (.int (2 : Int32)), (.ref b2)])) _
    refine XS.iconst X13.here hx rfl (hb hby at_52) ?_
    show Steps p.tables e below (T13.setTop (mkF m 53 #[.val (.int p0), .val (.int p1), .val (.long q2), .second, .val (.ref b2), .val (.int (w0_m2 p0)), .unset, .unset, .unset, .unset, .unset, .unset, .unset, .unset, .unset, .unset, .unset, .unset, .unset, .unset, .unset, .unset, .unset, .unset, .unset, .unset, .unset, .unset] [(.int (1 : Int32)), (.int (w0_m2 p0)), (.int (((p0.toUInt32 >>> ((3 : Int32) &&& 31).toUInt32).toInt32) &&& (7 : Int32))), (.int (2 : Int32)), (.ref b2)])) _
    refine XS.iadd X13.here hx rfl (hb hby at_53) rfl ?_
    show Steps p.tables e below (T13.setTop (mkF m 54 #[.val (.int p0), .val (.int p1), .val (.long q2), .second, .val (.ref b2), .val (.int (w0_m2 p0)), .unset, .unset, .unset, .unset, .unset, .unset, .unset, .unset, .unset, .unset, .unset, .unset, .unset, .unset, .unset, .unset, .unset, .unset, .unset, .unset, .unset, .unset] [(.int ((w0_m2 p0) + (1 : Int32))), (.int (((p0.toUInt32 >>> ((3 : Int32) &&& 31).toUInt32).toInt32) &&& (7 : Int32))), (.int (2 : Int32)), (.ref b2)])) _
    refine iremM X13 hx rfl (hb hby at_54) rfl (own_nz2 p0) ?_
    show Steps p.tables e below (T13.setTop (mkF m 55 #[.val (.int p0), .val (.int p1), .val (.long q2), .second, .val (.ref b2), .val (.int (w0_m2 p0)), .unset, .unset, .unset, .unset, .unset, .unset, .unset, .unset, .unset, .unset, .unset, .unset, .unset, .unset, .unset, .unset, .unset, .unset, .unset, .unset, .unset, .unset] [(.int ((w0_3 p0) % ((w0_m2 p0) + (1 : Int32)))), (.int (2 : Int32)), (.ref b2)])) _
    exact k)
  have K_19 : ∀ t, Steps p.tables e below (T13.setTop (mkF m 55 #[.val (.int p0), .val (.int p1), .val (.long q2), .second, .val (.ref b2), .val (.int (w0_m2 p0)), .unset, .unset, .unset, .unset, .unset, .unset, .unset, .unset, .unset, .unset, .unset, .unset, .unset, .unset, .unset, .unset, .unset, .unset, .unset, .unset, .unset, .unset] [(.int (w0_4 p0)), (.int (2 : Int32)), (.ref b2)])) t → Steps p.tables e below S0 t := K18
  obtain ⟨cl20, Ar20, qa20, sa20, na20, ha20, ga20⟩ := id V_b2__8
  have hin20 : ¬ ((2 : Int32) < 0 ∨ cl20.slots.size ≤ ((2 : Int32)).toNatClampNeg) := inb_of sa20 ⟨by decide, by decide⟩
  obtain ⟨T20, h20, X20, e20, W20, st20⟩ := stI X13 hx hZ e13 Ar20 (j := (2 : Int32)) hin20 (g := (mkF m 55 #[.val (.int p0), .val (.int p1), .val (.long q2), .second, .val (.ref b2), .val (.int (w0_m2 p0)), .unset, .unset, .unset, .unset, .unset, .unset, .unset, .unset, .unset, .unset, .unset, .unset, .unset, .unset, .unset, .unset, .unset, .unset, .unset, .unset, .unset, .unset] [(.int (w0_4 p0)), (.int (2 : Int32)), (.ref b2)])) rfl rfl (hb hby at_55)
  have V_b2__20 : Arv Z h20 b2 k2 .int (5 : Int32) [(.int (0 : Int32)), (.int (w0_1 p0)), (.int (w0_4 p0)), (.int (0 : Int32)), (.int (0 : Int32))] (.int (0 : Int32)) := Arv.set Ar20 qa20 sa20 na20 ha20 ga20 rfl W20 2 rfl (Nat.le_of_ble_eq_true rfl)
  have N20 := Fr.snoc X20 N13 g_b2
  have Zs20 : n0 ≤ h20.size := Nat.le_trans Zs8 (Nat.le_of_eq W20.size.symm)
  have K20 : ∀ t, Steps p.tables e below (T20.setTop (mkF m 56 #[.val (.int p0), .val (.int p1), .val (.long q2), .second, .val (.ref b2), .val (.int (w0_m2 p0)), .unset, .unset, .unset, .unset, .unset, .unset, .unset, .unset, .unset, .unset, .unset, .unset, .unset, .unset, .unset, .unset, .unset, .unset, .unset, .unset, .unset, .unset] [])) t → Steps p.tables e below S0 t := fun t k => K_19 t (st20 t k)
  have K21 : ∀ t, Steps p.tables e below (T20.setTop (mkF m 59 #[.val (.int p0), .val (.int p1), .val (.long q2), .second, .val (.ref b2), .val (.int (w0_m2 p0)), .unset, .unset, .unset, .unset, .unset, .unset, .unset, .unset, .unset, .unset, .unset, .unset, .unset, .unset, .unset, .unset, .unset, .unset, .unset, .unset, .unset, .unset] [(.int (2 : Int32)), (.ref b2)])) t → Steps p.tables e below S0 t := fun t k => K20 t (by
    refine XS.aload X20.here hx rfl (hb hby at_56) rfl rfl ?_
    show Steps p.tables e below (T20.setTop (mkF m 58 #[.val (.int p0), .val (.int p1), .val (.long q2), .second, .val (.ref b2), .val (.int (w0_m2 p0)), .unset, .unset, .unset, .unset, .unset, .unset, .unset, .unset, .unset, .unset, .unset, .unset, .unset, .unset, .unset, .unset, .unset, .unset, .unset, .unset, .unset, .unset] [(.ref b2)])) _
    refine XS.iconst X20.here hx rfl (hb hby at_58) ?_
    show Steps p.tables e below (T20.setTop (mkF m 59 #[.val (.int p0), .val (.int p1), .val (.long q2), .second, .val (.ref b2), .val (.int (w0_m2 p0)), .unset, .unset, .unset, .unset, .unset, .unset, .unset, .unset, .unset, .unset, .unset, .unset, .unset, .unset, .unset, .unset, .unset, .unset, .unset, .unset, .unset, .unset] [(.int (2 : Int32)), (.ref b2)])) _
    exact k)
  have K_22 : ∀ t, Steps p.tables e below (T20.setTop (mkF m 59 #[.val (.int p0), .val (.int p1), .val (.long q2), .second, .val (.ref b2), .val (.int (w0_m2 p0)), .unset, .unset, .unset, .unset, .unset, .unset, .unset, .unset, .unset, .unset, .unset, .unset, .unset, .unset, .unset, .unset, .unset, .unset, .unset, .unset, .unset, .unset] [(.int (2 : Int32)), (.ref b2)])) t → Steps p.tables e below S0 t := K21
  obtain ⟨cl23, Ar23, qa23, sa23, na23, ha23, ga23⟩ := id V_b2__20
  have hin23 : ¬ ((2 : Int32) < 0 ∨ cl23.slots.size ≤ ((2 : Int32)).toNatClampNeg) := inb_of sa23 ⟨by decide, by decide⟩
  have hat23 : cl23.slots[((2 : Int32)).toNatClampNeg]? = some (.int (w0_4 p0)) := Has.at ha23 hin23 rfl
  have K23 : ∀ t, Steps p.tables e below (T20.setTop (mkF m 60 #[.val (.int p0), .val (.int p1), .val (.long q2), .second, .val (.ref b2), .val (.int (w0_m2 p0)), .unset, .unset, .unset, .unset, .unset, .unset, .unset, .unset, .unset, .unset, .unset, .unset, .unset, .unset, .unset, .unset, .unset, .unset, .unset, .unset, .unset, .unset] [(.int (w0_4 p0))])) t → Steps p.tables e below S0 t := fun t k => K_22 t (X20.iaload hx (j := (2 : Int32)) (v := (.int (w0_4 p0))) (by rw [e20]; exact Ar23.1) (State.isArrayOf_alike hZ.alike Ar23.2.1) Ar23.2.2 hin23 hat23 (g := (mkF m 59 #[.val (.int p0), .val (.int p1), .val (.long q2), .second, .val (.ref b2), .val (.int (w0_m2 p0)), .unset, .unset, .unset, .unset, .unset, .unset, .unset, .unset, .unset, .unset, .unset, .unset, .unset, .unset, .unset, .unset, .unset, .unset, .unset, .unset, .unset, .unset] [(.int (2 : Int32)), (.ref b2)])) rfl rfl (hb hby at_59) _ k)
  have K24 : ∀ t, Steps p.tables e below (T20.setTop (mkF m 62 #[.val (.int p0), .val (.int p1), .val (.long q2), .second, .val (.ref b2), .val (.int (w0_m2 p0)), .unset, .unset, .unset, .unset, .unset, .unset, .unset, .unset, .unset, .unset, .unset, .unset, .unset, .unset, .unset, .unset, .unset, .unset, .unset, .unset, .unset, .unset] [(.int (w0_m2 p0)), (.int (w0_4 p0))])) t → Steps p.tables e below S0 t := fun t k => K23 t (by
    refine XS.iload X20.here hx rfl (hb hby at_60) rfl ?_
    show Steps p.tables e below (T20.setTop (mkF m 62 #[.val (.int p0), .val (.int p1), .val (.long q2), .second, .val (.ref b2), .val (.int (w0_m2 p0)), .unset, .unset, .unset, .unset, .unset, .unset, .unset, .unset, .unset, .unset, .unset, .unset, .unset, .unset, .unset, .unset, .unset, .unset, .unset, .unset, .unset, .unset] [(.int (w0_m2 p0)), (.int (w0_4 p0))])) _
    exact k)
  obtain ⟨T25, lo25, X25, N25, e25, K25⟩ : ∃ (T' : State) (locs' : List Loc), Stand p l e room_1 s m #[(.int p0), (.int p1), (.long q2)] below meth c T' locs' 1 5 ∧ Fr n0 locs' ∧ T'.heap = h20 ∧ ∀ t, Steps p.tables e below (T'.setTop (mkF m 71 #[.val (.int p0), .val (.int p1), .val (.long q2), .second, .val (.ref b2), .val (.int (w0_m5 p0)), .unset, .unset, .unset, .unset, .unset, .unset, .unset, .unset, .unset, .unset, .unset, .unset, .unset, .unset, .unset, .unset, .unset, .unset, .unset, .unset, .unset, .unset] [])) t → Steps p.tables e below S0 t := by
    by_cases hc62_0 : (w0_4 p0) = (w0_m2 p0)
    · -- yes
      have K26 : ∀ t, Steps p.tables e below (T20.setTop (mkF m 71 #[.val (.int p0), .val (.int p1), .val (.long q2), .second, .val (.ref b2), .val (.int ((w0_m2 p0) + (1 : Int32))), .unset, .unset, .unset, .unset, .unset, .unset, .unset, .unset, .unset, .unset, .unset, .unset, .unset, .unset, .unset, .unset, .unset, .unset, .unset, .unset, .unset, .unset] [])) t → Steps p.tables e below S0 t := fun t k => K24 t (by
        refine XS.icmpNo X20.here hx rfl (hb hby at_62) rfl (XT.ii_ne_f hc62_0) ?_
        show Steps p.tables e below (T20.setTop (mkF m 65 #[.val (.int p0), .val (.int p1), .val (.long q2), .second, .val (.ref b2), .val (.int (w0_m2 p0)), .unset, .unset, .unset, .unset, .unset, .unset, .unset, .unset, .unset, .unset, .unset, .unset, .unset, .unset, .unset, .unset, .unset, .unset, .unset, .unset, .unset, .unset] [])) _
        refine XS.iload X20.here hx rfl (hb hby at_65) rfl ?_
        show Steps p.tables e below (T20.setTop (mkF m 67 #[.val (.int p0), .val (.int p1), .val (.long q2), .second, .val (.ref b2), .val (.int (w0_m2 p0)), .unset, .unset, .unset, .unset, .unset, .unset, .unset, .unset, .unset, .unset, .unset, .unset, .unset, .unset, .unset, .unset, .unset, .unset, .unset, .unset, .unset, .unset] [(.int (w0_m2 p0))])) _
        refine XS.iconst X20.here hx rfl (hb hby at_67) ?_
        show Steps p.tables e below (T20.setTop (mkF m 68 #[.val (.int p0), .val (.int p1), .val (.long q2), .second, .val (.ref b2), .val (.int (w0_m2 p0)), .unset, .unset, .unset, .unset, .unset, .unset, .unset, .unset, .unset, .unset, .unset, .unset, .unset, .unset, .unset, .unset, .unset, .unset, .unset, .unset, .unset, .unset] [(.int (1 : Int32)), (.int (w0_m2 p0))])) _
        refine XS.iadd X20.here hx rfl (hb hby at_68) rfl ?_
        show Steps p.tables e below (T20.setTop (mkF m 69 #[.val (.int p0), .val (.int p1), .val (.long q2), .second, .val (.ref b2), .val (.int (w0_m2 p0)), .unset, .unset, .unset, .unset, .unset, .unset, .unset, .unset, .unset, .unset, .unset, .unset, .unset, .unset, .unset, .unset, .unset, .unset, .unset, .unset, .unset, .unset] [(.int ((w0_m2 p0) + (1 : Int32)))])) _
        refine XS.istore X20.here hx rfl (hb hby at_69) rfl (l' := #[.val (.int p0), .val (.int p1), .val (.long q2), .second, .val (.ref b2), .val (.int ((w0_m2 p0) + (1 : Int32))), .unset, .unset, .unset, .unset, .unset, .unset, .unset, .unset, .unset, .unset, .unset, .unset, .unset, .unset, .unset, .unset, .unset, .unset, .unset, .unset, .unset, .unset]) rfl ?_
        show Steps p.tables e below (T20.setTop (mkF m 71 #[.val (.int p0), .val (.int p1), .val (.long q2), .second, .val (.ref b2), .val (.int ((w0_m2 p0) + (1 : Int32))), .unset, .unset, .unset, .unset, .unset, .unset, .unset, .unset, .unset, .unset, .unset, .unset, .unset, .unset, .unset, .unset, .unset, .unset, .unset, .unset, .unset, .unset] [])) _
        exact k)
      have q27 : (w0_m5 p0) = ((w0_m2 p0) + (1 : Int32)) := by unfold w0_m5; rw [if_pos hc62_0]
      exact ⟨T20, _, X20, N20, e20, fun t k => K26 t (by rw [q27] at k; exact k)⟩
    · -- no
      have K28 : ∀ t, Steps p.tables e below (T20.setTop (mkF m 71 #[.val (.int p0), .val (.int p1), .val (.long q2), .second, .val (.ref b2), .val (.int (w0_m2 p0)), .unset, .unset, .unset, .unset, .unset, .unset, .unset, .unset, .unset, .unset, .unset, .unset, .unset, .unset, .unset, .unset, .unset, .unset, .unset, .unset, .unset, .unset] [])) t → Steps p.tables e below S0 t := fun t k => K24 t (by
        refine XS.icmpYes X20.here hx rfl (pc0 := 62) (pc' := 71) rfl (hb hby at_62) rfl (XT.ii_ne_t hc62_0) (by decide) (by decide) ?_
        show Steps p.tables e below (T20.setTop (mkF m 71 #[.val (.int p0), .val (.int p1), .val (.long q2), .second, .val (.ref b2), .val (.int (w0_m2 p0)), .unset, .unset, .unset, .unset, .unset, .unset, .unset, .unset, .unset, .unset, .unset, .unset, .unset, .unset, .unset, .unset, .unset, .unset, .unset, .unset, .unset, .unset] [])) _
        exact k)
      have q29 : (w0_m5 p0) = (w0_m2 p0) := by unfold w0_m5; rw [if_neg hc62_0]
      exact ⟨T20, _, X20, N20, e20, fun t k => K28 t (by rw [q29] at k; exact k)⟩
  have K30 : ∀ t, Steps p.tables e below (T25.setTop (mkF m 86 #[.val (.int p0), .val (.int p1), .val (.long q2), .second, .val (.ref b2), .val (.int (w0_m5 p0)), .unset, .unset, .unset, .unset, .unset, .unset, .unset, .unset, .unset, .unset, .unset, .unset, .unset, .unset, .unset, .unset, .unset, .unset, .unset, .unset, .unset, .unset] [(.int ((w0_6 p0) % ((w0_m5 p0) + (1 : Int32)))), (.int (3 : Int32)), (.ref b2)])) t → Steps p.tables e below S0 t := fun t k => K25 t (by
    refine XS.aload X25.here hx rfl (hb hby at_71) rfl rfl ?_
    show Steps p.tables e below (T25.setTop (mkF m 73 #[.val (.int p0), .val (.int p1), .val (.long q2), .second, .val (.ref b2), .val (.int (w0_m5 p0)), .unset, .unset, .unset, .unset, .unset, .unset, .unset, .unset, .unset, .unset, .unset, .unset, .unset, .unset, .unset, .unset, .unset, .unset, .unset, .unset, .unset, .unset] [(.ref b2)])) _
    refine XS.iconst X25.here hx rfl (hb hby at_73) ?_
    show Steps p.tables e below (T25.setTop (mkF m 74 #[.val (.int p0), .val (.int p1), .val (.long q2), .second, .val (.ref b2), .val (.int (w0_m5 p0)), .unset, .unset, .unset, .unset, .unset, .unset, .unset, .unset, .unset, .unset, .unset, .unset, .unset, .unset, .unset, .unset, .unset, .unset, .unset, .unset, .unset, .unset] [(.int (3 : Int32)), (.ref b2)])) _
    refine XS.iloadN X25.here hx rfl (hb hby at_74) rfl ?_
    show Steps p.tables e below (T25.setTop (mkF m 75 #[.val (.int p0), .val (.int p1), .val (.long q2), .second, .val (.ref b2), .val (.int (w0_m5 p0)), .unset, .unset, .unset, .unset, .unset, .unset, .unset, .unset, .unset, .unset, .unset, .unset, .unset, .unset, .unset, .unset, .unset, .unset, .unset, .unset, .unset, .unset] [(.int p0), (.int (3 : Int32)), (.ref b2)])) _
    refine XS.bipush X25.here hx rfl (hb hby at_75) ?_
    show Steps p.tables e below (T25.setTop (mkF m 77 #[.val (.int p0), .val (.int p1), .val (.long q2), .second, .val (.ref b2), .val (.int (w0_m5 p0)), .unset, .unset, .unset, .unset, .unset, .unset, .unset, .unset, .unset, .unset, .unset, .unset, .unset, .unset, .unset, .unset, .unset, .unset, .unset, .unset, .unset, .unset] [(.int (6 : Int32)), (.int p0), (.int (3 : Int32)), (.ref b2)])) _
    refine XS.iushr X25.here hx rfl (hb hby at_77) rfl ?_
    show Steps p.tables e below (T25.setTop (mkF m 78 #[.val (.int p0), .val (.int p1), .val (.long q2), .second, .val (.ref b2), .val (.int (w0_m5 p0)), .unset, .unset, .unset, .unset, .unset, .unset, .unset, .unset, .unset, .unset, .unset, .unset, .unset, .unset, .unset, .unset, .unset, .unset, .unset, .unset, .unset, .unset] [(.int ((p0.toUInt32 >>> ((6 : Int32) &&& 31).toUInt32).toInt32)), (.int (3 : Int32)), (.ref b2)])) _
    refine XS.bipush X25.here hx rfl (hb hby at_78) ?_
    show Steps p.tables e below (T25.setTop (mkF m 80 #[.val (.int p0), .val (.int p1), .val (.long q2), .second, .val (.ref b2), .val (.int (w0_m5 p0)), .unset, .unset, .unset, .unset, .unset, .unset, .unset, .unset, .unset, .unset, .unset, .unset, .unset, .unset, .unset, .unset, .unset, .unset, .unset, .unset, .unset, .unset] [(.int (7 : Int32)), (.int ((p0.toUInt32 >>> ((6 : Int32) &&& 31).toUInt32).toInt32)), (.int (3 : Int32)), (.ref b2)])) _
    refine XS.iand X25.here hx rfl (hb hby at_80) rfl ?_
    show Steps p.tables e below (T25.setTop (mkF m 81 #[.val (.int p0), .val (.int p1), .val (.long q2), .second, .val (.ref b2), .val (.int (w0_m5 p0)), .unset, .unset, .unset, .unset, .unset, .unset, .unset, .unset, .unset, .unset, .unset, .unset, .unset, .unset, .unset, .unset, .unset, .unset, .unset, .unset, .unset, .unset] [(.int (((p0.toUInt32 >>> ((6 : Int32) &&& 31).toUInt32).toInt32) &&& (7 : Int32))), (.int (3 : Int32)), (.ref b2)])) _
    refine XS.iload X25.here hx rfl (hb hby at_81) rfl ?_
    show Steps p.tables e below (T25.setTop (mkF m 83 #[.val (.int p0), .val (.int p1), .val (.long q2), .second, .val (.ref b2), .val (.int (w0_m5 p0)), .unset, .unset, .unset, .unset, .unset, .unset, .unset, .unset, .unset, .unset, .unset, .unset, .unset, .unset, .unset, .unset, .unset, .unset, .unset, .unset, .unset, .unset] [(.int (w0_m5 p0)), (.int (((p0.toUInt32 >>> ((6 : Int32) &&& 31).toUInt32).toInt32) &&& (7 : Int32))), (.int (3 : Int32)), (.ref b2)])) _
    refine XS.iconst X25.here hx rfl (hb hby at_83) ?_
    show Steps p.tables e below (T25.setTop (mkF m 84 #[.val (.int p0), .val (.int p1), .val (.long q2), .second, .val (.ref b2), .val (.int (w0_m5 p0)), .unset, .unset, .unset, .unset, .unset, .unset, .unset, .unset, .unset, .unset, .unset, .unset, .unset, .unset, .unset, .unset, .unset, .unset, .unset, .unset, .unset, .unset] [(.int (1 : Int32)), (.int (w0_m5 p0)), (.int (((p0.toUInt32 >>> ((6 : Int32) &&& 31).toUInt32).toInt32) &&& (7 : Int32))), (.int (3 : Int32)), (.ref b2)])) _
    refine XS.iadd X25.here hx rfl (hb hby at_84) rfl ?_
    show Steps p.tables e below (T25.setTop (mkF m 85 #[.val (.int p0), .val (.int p1), .val (.long q2), .second, .val (.ref b2), .val (.int (w0_m5 p0)), .unset, .unset, .unset, .unset, .unset, .unset, .unset, .unset, .unset, .unset, .unset, .unset, .unset, .unset, .unset, .unset, .unset, .unset, .unset, .unset, .unset, .unset] [(.int ((w0_m5 p0) + (1 : Int32))), (.int (((p0.toUInt32 >>> ((6 : Int32) &&& 31).toUInt32).toInt32) &&& (7 : Int32))), (.int (3 : Int32)), (.ref b2)])) _
    refine iremM X25 hx rfl (hb hby at_85) rfl (own_nz3 p0) ?_
    show Steps p.tables e below (T25.setTop (mkF m 86 #[.val (.int p0), .val (.int p1), .val (.long q2), .second, .val (.ref b2), .val (.int (w0_m5 p0)), .unset, .unset, .unset, .unset, .unset, .unset, .unset, .unset, .unset, .unset, .unset, .unset, .unset, .unset, .unset, .unset, .unset, .unset, .unset, .unset, .unset, .unset] [(.int ((w0_6 p0) % ((w0_m5 p0) + (1 : Int32)))), (.int (3 : Int32)), (.ref b2)])) _
    exact k)
  have K_31 : ∀ t, Steps p.tables e below (T25.setTop (mkF m 86 #[.val (.int p0), .val (.int p1), .val (.long q2), .second, .val (.ref b2), .val (.int (w0_m5 p0)), .unset, .unset, .unset, .unset, .unset, .unset, .unset, .unset, .unset, .unset, .unset, .unset, .unset, .unset, .unset, .unset, .unset, .unset, .unset, .unset, .unset, .unset] [(.int (w0_7 p0)), (.int (3 : Int32)), (.ref b2)])) t → Steps p.tables e below S0 t := K30
  obtain ⟨cl32, Ar32, qa32, sa32, na32, ha32, ga32⟩ := id V_b2__20
  have hin32 : ¬ ((3 : Int32) < 0 ∨ cl32.slots.size ≤ ((3 : Int32)).toNatClampNeg) := inb_of sa32 ⟨by decide, by decide⟩
  obtain ⟨T32, h32, X32, e32, W32, st32⟩ := stI X25 hx hZ e25 Ar32 (j := (3 : Int32)) hin32 (g := (mkF m 86 #[.val (.int p0), .val (.int p1), .val (.long q2), .second, .val (.ref b2), .val (.int (w0_m5 p0)), .unset, .unset, .unset, .unset, .unset, .unset, .unset, .unset, .unset, .unset, .unset, .unset, .unset, .unset, .unset, .unset, .unset, .unset, .unset, .unset, .unset, .unset] [(.int (w0_7 p0)), (.int (3 : Int32)), (.ref b2)])) rfl rfl (hb hby at_86)
  have V_b2__32 : Arv Z h32 b2 k2 .int (5 : Int32) [(.int (0 : Int32)), (.int (w0_1 p0)), (.int (w0_4 p0)), (.int (w0_7 p0)), (.int (0 : Int32))] (.int (0 : Int32)) := Arv.set Ar32 qa32 sa32 na32 ha32 ga32 rfl W32 3 rfl (Nat.le_of_ble_eq_true rfl)
  have N32 := Fr.snoc X32 N25 g_b2
  have Zs32 : n0 ≤ h32.size := Nat.le_trans Zs20 (Nat.le_of_eq W32.size.symm)
  have K32 : ∀ t, Steps p.tables e below (T32.setTop (mkF m 87 #[.val (.int p0), .val (.int p1), .val (.long q2), .second, .val (.ref b2), .val (.int (w0_m5 p0)), .unset, .unset, .unset, .unset, .unset, .unset, .unset, .unset, .unset, .unset, .unset, .unset, .unset, .unset, .unset, .unset, .unset, .unset, .unset, .unset, .unset, .unset] [])) t → Steps p.tables e below S0 t := fun t k => K_31 t (st32 t k)
  have K33 : ∀ t, Steps p.tables e below (T32.setTop (mkF m 90 #[.val (.int p0), .val (.int p1), .val (.long q2), .second, .val (.ref b2), .val (.int (w0_m5 p0)), .unset, .unset, .unset, .unset, .unset, .unset, .unset, .unset, .unset, .unset, .unset, .unset, .unset, .unset, .unset, .unset, .unset, .unset, .unset, .unset, .unset, .unset] [(.int (3 : Int32)), (.ref b2)])) t → Steps p.tables e below S0 t := fun t k => K32 t (by
    refine XS.aload X32.here hx rfl (hb hby at_87) rfl rfl ?_
    show Steps p.tables e below (T32.setTop (mkF m 89 #[.val (.int p0), .val (.int p1), .val (.long q2), .second, .val (.ref b2), .val (.int (w0_m5 p0)), .unset, .unset, .unset, .unset, .unset, .unset, .unset, .unset, .unset, .unset, .unset, .unset, .unset, .unset, .unset, .unset, .unset, .unset, .unset, .unset, .unset, .unset] [(.ref b2)])) _
    refine XS.iconst X32.here hx rfl (hb hby at_89) ?_
    show Steps p.tables e below (T32.setTop (mkF m 90 #[.val (.int p0), .val (.int p1), .val (.long q2), .second, .val (.ref b2), .val (.int (w0_m5 p0)), .unset, .unset, .unset, .unset, .unset, .unset, .unset, .unset, .unset, .unset, .unset, .unset, .unset, .unset, .unset, .unset, .unset, .unset, .unset, .unset, .unset, .unset] [(.int (3 : Int32)), (.ref b2)])) _
    exact k)
  have K_34 : ∀ t, Steps p.tables e below (T32.setTop (mkF m 90 #[.val (.int p0), .val (.int p1), .val (.long q2), .second, .val (.ref b2), .val (.int (w0_m5 p0)), .unset, .unset, .unset, .unset, .unset, .unset, .unset, .unset, .unset, .unset, .unset, .unset, .unset, .unset, .unset, .unset, .unset, .unset, .unset, .unset, .unset, .unset] [(.int (3 : Int32)), (.ref b2)])) t → Steps p.tables e below S0 t := K33
  obtain ⟨cl35, Ar35, qa35, sa35, na35, ha35, ga35⟩ := id V_b2__32
  have hin35 : ¬ ((3 : Int32) < 0 ∨ cl35.slots.size ≤ ((3 : Int32)).toNatClampNeg) := inb_of sa35 ⟨by decide, by decide⟩
  have hat35 : cl35.slots[((3 : Int32)).toNatClampNeg]? = some (.int (w0_7 p0)) := Has.at ha35 hin35 rfl
  have K35 : ∀ t, Steps p.tables e below (T32.setTop (mkF m 91 #[.val (.int p0), .val (.int p1), .val (.long q2), .second, .val (.ref b2), .val (.int (w0_m5 p0)), .unset, .unset, .unset, .unset, .unset, .unset, .unset, .unset, .unset, .unset, .unset, .unset, .unset, .unset, .unset, .unset, .unset, .unset, .unset, .unset, .unset, .unset] [(.int (w0_7 p0))])) t → Steps p.tables e below S0 t := fun t k => K_34 t (X32.iaload hx (j := (3 : Int32)) (v := (.int (w0_7 p0))) (by rw [e32]; exact Ar35.1) (State.isArrayOf_alike hZ.alike Ar35.2.1) Ar35.2.2 hin35 hat35 (g := (mkF m 90 #[.val (.int p0), .val (.int p1), .val (.long q2), .second, .val (.ref b2), .val (.int (w0_m5 p0)), .unset, .unset, .unset, .unset, .unset, .unset, .unset, .unset, .unset, .unset, .unset, .unset, .unset, .unset, .unset, .unset, .unset, .unset, .unset, .unset, .unset, .unset] [(.int (3 : Int32)), (.ref b2)])) rfl rfl (hb hby at_90) _ k)
  have K36 : ∀ t, Steps p.tables e below (T32.setTop (mkF m 93 #[.val (.int p0), .val (.int p1), .val (.long q2), .second, .val (.ref b2), .val (.int (w0_m5 p0)), .unset, .unset, .unset, .unset, .unset, .unset, .unset, .unset, .unset, .unset, .unset, .unset, .unset, .unset, .unset, .unset, .unset, .unset, .unset, .unset, .unset, .unset] [(.int (w0_m5 p0)), (.int (w0_7 p0))])) t → Steps p.tables e below S0 t := fun t k => K35 t (by
    refine XS.iload X32.here hx rfl (hb hby at_91) rfl ?_
    show Steps p.tables e below (T32.setTop (mkF m 93 #[.val (.int p0), .val (.int p1), .val (.long q2), .second, .val (.ref b2), .val (.int (w0_m5 p0)), .unset, .unset, .unset, .unset, .unset, .unset, .unset, .unset, .unset, .unset, .unset, .unset, .unset, .unset, .unset, .unset, .unset, .unset, .unset, .unset, .unset, .unset] [(.int (w0_m5 p0)), (.int (w0_7 p0))])) _
    exact k)
  obtain ⟨T37, lo37, X37, N37, e37, K37⟩ : ∃ (T' : State) (locs' : List Loc), Stand p l e room_1 s m #[(.int p0), (.int p1), (.long q2)] below meth c T' locs' 1 5 ∧ Fr n0 locs' ∧ T'.heap = h32 ∧ ∀ t, Steps p.tables e below (T'.setTop (mkF m 102 #[.val (.int p0), .val (.int p1), .val (.long q2), .second, .val (.ref b2), .val (.int (w0_m8 p0)), .unset, .unset, .unset, .unset, .unset, .unset, .unset, .unset, .unset, .unset, .unset, .unset, .unset, .unset, .unset, .unset, .unset, .unset, .unset, .unset, .unset, .unset] [])) t → Steps p.tables e below S0 t := by
    by_cases hc93_0 : (w0_7 p0) = (w0_m5 p0)
    · -- yes
      have K38 : ∀ t, Steps p.tables e below (T32.setTop (mkF m 102 #[.val (.int p0), .val (.int p1), .val (.long q2), .second, .val (.ref b2), .val (.int ((w0_m5 p0) + (1 : Int32))), .unset, .unset, .unset, .unset, .unset, .unset, .unset, .unset, .unset, .unset, .unset, .unset, .unset, .unset, .unset, .unset, .unset, .unset, .unset, .unset, .unset, .unset] [])) t → Steps p.tables e below S0 t := fun t k => K36 t (by
        refine XS.icmpNo X32.here hx rfl (hb hby at_93) rfl (XT.ii_ne_f hc93_0) ?_
        show Steps p.tables e below (T32.setTop (mkF m 96 #[.val (.int p0), .val (.int p1), .val (.long q2), .second, .val (.ref b2), .val (.int (w0_m5 p0)), .unset, .unset, .unset, .unset, .unset, .unset, .unset, .unset, .unset, .unset, .unset, .unset, .unset, .unset, .unset, .unset, .unset, .unset, .unset, .unset, .unset, .unset] [])) _
        refine XS.iload X32.here hx rfl (hb hby at_96) rfl ?_
        show Steps p.tables e below (T32.setTop (mkF m 98 #[.val (.int p0), .val (.int p1), .val (.long q2), .second, .val (.ref b2), .val (.int (w0_m5 p0)), .unset, .unset, .unset, .unset, .unset, .unset, .unset, .unset, .unset, .unset, .unset, .unset, .unset, .unset, .unset, .unset, .unset, .unset, .unset, .unset, .unset, .unset] [(.int (w0_m5 p0))])) _
        refine XS.iconst X32.here hx rfl (hb hby at_98) ?_
        show Steps p.tables e below (T32.setTop (mkF m 99 #[.val (.int p0), .val (.int p1), .val (.long q2), .second, .val (.ref b2), .val (.int (w0_m5 p0)), .unset, .unset, .unset, .unset, .unset, .unset, .unset, .unset, .unset, .unset, .unset, .unset, .unset, .unset, .unset, .unset, .unset, .unset, .unset, .unset, .unset, .unset] [(.int (1 : Int32)), (.int (w0_m5 p0))])) _
        refine XS.iadd X32.here hx rfl (hb hby at_99) rfl ?_
        show Steps p.tables e below (T32.setTop (mkF m 100 #[.val (.int p0), .val (.int p1), .val (.long q2), .second, .val (.ref b2), .val (.int (w0_m5 p0)), .unset, .unset, .unset, .unset, .unset, .unset, .unset, .unset, .unset, .unset, .unset, .unset, .unset, .unset, .unset, .unset, .unset, .unset, .unset, .unset, .unset, .unset] [(.int ((w0_m5 p0) + (1 : Int32)))])) _
        refine XS.istore X32.here hx rfl (hb hby at_100) rfl (l' := #[.val (.int p0), .val (.int p1), .val (.long q2), .second, .val (.ref b2), .val (.int ((w0_m5 p0) + (1 : Int32))), .unset, .unset, .unset, .unset, .unset, .unset, .unset, .unset, .unset, .unset, .unset, .unset, .unset, .unset, .unset, .unset, .unset, .unset, .unset, .unset, .unset, .unset]) rfl ?_
        show Steps p.tables e below (T32.setTop (mkF m 102 #[.val (.int p0), .val (.int p1), .val (.long q2), .second, .val (.ref b2), .val (.int ((w0_m5 p0) + (1 : Int32))), .unset, .unset, .unset, .unset, .unset, .unset, .unset, .unset, .unset, .unset, .unset, .unset, .unset, .unset, .unset, .unset, .unset, .unset, .unset, .unset, .unset, .unset] [])) _
        exact k)
      have q39 : (w0_m8 p0) = ((w0_m5 p0) + (1 : Int32)) := by unfold w0_m8; rw [if_pos hc93_0]
      exact ⟨T32, _, X32, N32, e32, fun t k => K38 t (by rw [q39] at k; exact k)⟩
    · -- no
      have K40 : ∀ t, Steps p.tables e below (T32.setTop (mkF m 102 #[.val (.int p0), .val (.int p1), .val (.long q2), .second, .val (.ref b2), .val (.int (w0_m5 p0)), .unset, .unset, .unset, .unset, .unset, .unset, .unset, .unset, .unset, .unset, .unset, .unset, .unset, .unset, .unset, .unset, .unset, .unset, .unset, .unset, .unset, .unset] [])) t → Steps p.tables e below S0 t := fun t k => K36 t (by
        refine XS.icmpYes X32.here hx rfl (pc0 := 93) (pc' := 102) rfl (hb hby at_93) rfl (XT.ii_ne_t hc93_0) (by decide) (by decide) ?_
        show Steps p.tables e below (T32.setTop (mkF m 102 #[.val (.int p0), .val (.int p1), .val (.long q2), .second, .val (.ref b2), .val (.int (w0_m5 p0)), .unset, .unset, .unset, .unset, .unset, .unset, .unset, .unset, .unset, .unset, .unset, .unset, .unset, .unset, .unset, .unset, .unset, .unset, .unset, .unset, .unset, .unset] [])) _
        exact k)
      have q41 : (w0_m8 p0) = (w0_m5 p0) := by unfold w0_m8; rw [if_neg hc93_0]
      exact ⟨T32, _, X32, N32, e32, fun t k => K40 t (by rw [q41] at k; exact k)⟩
  have K42 : ∀ t, Steps p.tables e below (T37.setTop (mkF m 117 #[.val (.int p0), .val (.int p1), .val (.long q2), .second, .val (.ref b2), .val (.int (w0_m8 p0)), .unset, .unset, .unset, .unset, .unset, .unset, .unset, .unset, .unset, .unset, .unset, .unset, .unset, .unset, .unset, .unset, .unset, .unset, .unset, .unset, .unset, .unset] [(.int ((w0_9 p0) % ((w0_m8 p0) + (1 : Int32)))), (.int (4 : Int32)), (.ref b2)])) t → Steps p.tables e below S0 t := fun t k => K37 t (by
    refine XS.aload X37.here hx rfl (hb hby at_102) rfl rfl ?_
    show Steps p.tables e below (T37.setTop (mkF m 104 #[.val (.int p0), .val (.int p1), .val (.long q2), .second, .val (.ref b2), .val (.int (w0_m8 p0)), .unset, .unset, .unset, .unset, .unset, .unset, .unset, .unset, .unset, .unset, .unset, .unset, .unset, .unset, .unset, .unset, .unset, .unset, .unset, .unset, .unset, .unset] [(.ref b2)])) _
    refine XS.iconst X37.here hx rfl (hb hby at_104) ?_
    show Steps p.tables e below (T37.setTop (mkF m 105 #[.val (.int p0), .val (.int p1), .val (.long q2), .second, .val (.ref b2), .val (.int (w0_m8 p0)), .unset, .unset, .unset, .unset, .unset, .unset, .unset, .unset, .unset, .unset, .unset, .unset, .unset, .unset, .unset, .unset, .unset, .unset, .unset, .unset, .unset, .unset] [(.int (4 : Int32)), (.ref b2)])) _
    refine XS.iloadN X37.here hx rfl (hb hby at_105) rfl ?_
    show Steps p.tables e below (T37.setTop (mkF m 106 #[.val (.int p0), .val (.int p1), .val (.long q2), .second, .val (.ref b2), .val (.int (w0_m8 p0)), .unset, .unset, .unset, .unset, .unset, .unset, .unset, .unset, .unset, .unset, .unset, .unset, .unset, .unset, .unset, .unset, .unset, .unset, .unset, .unset, .unset, .unset] [(.int p0), (.int (4 : Int32)), (.ref b2)])) _
    refine XS.bipush X37.here hx rfl (hb hby at_106) ?_
    show Steps p.tables e below (T37.setTop (mkF m 108 #[.val (.int p0), .val (.int p1), .val (.long q2), .second, .val (.ref b2), .val (.int (w0_m8 p0)), .unset, .unset, .unset, .unset, .unset, .unset, .unset, .unset, .unset, .unset, .unset, .unset, .unset, .unset, .unset, .unset, .unset, .unset, .unset, .unset, .unset, .unset] [(.int (9 : Int32)), (.int p0), (.int (4 : Int32)), (.ref b2)])) _
    refine XS.iushr X37.here hx rfl (hb hby at_108) rfl ?_
    show Steps p.tables e below (T37.setTop (mkF m 109 #[.val (.int p0), .val (.int p1), .val (.long q2), .second, .val (.ref b2), .val (.int (w0_m8 p0)), .unset, .unset, .unset, .unset, .unset, .unset, .unset, .unset, .unset, .unset, .unset, .unset, .unset, .unset, .unset, .unset, .unset, .unset, .unset, .unset, .unset, .unset] [(.int ((p0.toUInt32 >>> ((9 : Int32) &&& 31).toUInt32).toInt32)), (.int (4 : Int32)), (.ref b2)])) _
    refine XS.bipush X37.here hx rfl (hb hby at_109) ?_
    show Steps p.tables e below (T37.setTop (mkF m 111 #[.val (.int p0), .val (.int p1), .val (.long q2), .second, .val (.ref b2), .val (.int (w0_m8 p0)), .unset, .unset, .unset, .unset, .unset, .unset, .unset, .unset, .unset, .unset, .unset, .unset, .unset, .unset, .unset, .unset, .unset, .unset, .unset, .unset, .unset, .unset] [(.int (7 : Int32)), (.int ((p0.toUInt32 >>> ((9 : Int32) &&& 31).toUInt32).toInt32)), (.int (4 : Int32)), (.ref b2)])) _
    refine XS.iand X37.here hx rfl (hb hby at_111) rfl ?_
    show Steps p.tables e below (T37.setTop (mkF m 112 #[.val (.int p0), .val (.int p1), .val (.long q2), .second, .val (.ref b2), .val (.int (w0_m8 p0)), .unset, .unset, .unset, .unset, .unset, .unset, .unset, .unset, .unset, .unset, .unset, .unset, .unset, .unset, .unset, .unset, .unset, .unset, .unset, .unset, .unset, .unset] [(.int (((p0.toUInt32 >>> ((9 : Int32) &&& 31).toUInt32).toInt32) &&& (7 : Int32))), (.int (4 : Int32)), (.ref b2)])) _
    refine XS.iload X37.here hx rfl (hb hby at_112) rfl ?_
    show Steps p.tables e below (T37.setTop (mkF m 114 #[.val (.int p0), .val (.int p1), .val (.long q2), .second, .val (.ref b2), .val (.int (w0_m8 p0)), .unset, .unset, .unset, .unset, .unset, .unset, .unset, .unset, .unset, .unset, .unset, .unset, .unset, .unset, .unset, .unset, .unset, .unset, .unset, .unset, .unset, .unset] [(.int (w0_m8 p0)), (.int (((p0.toUInt32 >>> ((9 : Int32) &&& 31).toUInt32).toInt32) &&& (7 : Int32))), (.int (4 : Int32)), (.ref b2)])) _
    refine XS.iconst X37.here hx rfl (hb hby at_114) ?_
    show Steps p.tables e below (T37.setTop (mkF m 115 #[.val (.int p0), .val (.int p1), .val (.long q2), .second, .val (.ref b2), .val (.int (w0_m8 p0)), .unset, .unset, .unset, .unset, .unset, .unset, .unset, .unset, .unset, .unset, .unset, .unset, .unset, .unset, .unset, .unset, .unset, .unset, .unset, .unset, .unset, .unset] [(.int (1 : Int32)), (.int (w0_m8 p0)), (.int (((p0.toUInt32 >>> ((9 : Int32) &&& 31).toUInt32).toInt32) &&& (7 : Int32))), (.int (4 : Int32)), (.ref b2)])) _
    refine XS.iadd X37.here hx rfl (hb hby at_115) rfl ?_
    show Steps p.tables e below (T37.setTop (mkF m 116 #[.val (.int p0), .val (.int p1), .val (.long q2), .second, .val (.ref b2), .val (.int (w0_m8 p0)), .unset, .unset, .unset, .unset, .unset, .unset, .unset, .unset, .unset, .unset, .unset, .unset, .unset, .unset, .unset, .unset, .unset, .unset, .unset, .unset, .unset, .unset] [(.int ((w0_m8 p0) + (1 : Int32))), (.int (((p0.toUInt32 >>> ((9 : Int32) &&& 31).toUInt32).toInt32) &&& (7 : Int32))), (.int (4 : Int32)), (.ref b2)])) _
    refine iremM X37 hx rfl (hb hby at_116) rfl (own_nz4 p0) ?_
    show Steps p.tables e below (T37.setTop (mkF m 117 #[.val (.int p0), .val (.int p1), .val (.long q2), .second, .val (.ref b2), .val (.int (w0_m8 p0)), .unset, .unset, .unset, .unset, .unset, .unset, .unset, .unset, .unset, .unset, .unset, .unset, .unset, .unset, .unset, .unset, .unset, .unset, .unset, .unset, .unset, .unset] [(.int ((w0_9 p0) % ((w0_m8 p0) + (1 : Int32)))), (.int (4 : Int32)), (.ref b2)])) _
    exact k)
  have K_43 : ∀ t, Steps p.tables e below (T37.setTop (mkF m 117 #[.val (.int p0), .val (.int p1), .val (.long q2), .second, .val (.ref b2), .val (.int (w0_m8 p0)), .unset, .unset, .unset, .unset, .unset, .unset, .unset, .unset, .unset, .unset, .unset, .unset, .unset, .unset, .unset, .unset, .unset, .unset, .unset, .unset, .unset, .unset] [(.int (w0_10 p0)), (.int (4 : Int32)), (.ref b2)])) t → Steps p.tables e below S0 t := K42
  obtain ⟨cl44, Ar44, qa44, sa44, na44, ha44, ga44⟩ := id V_b2__32
  have hin44 : ¬ ((4 : Int32) < 0 ∨ cl44.slots.size ≤ ((4 : Int32)).toNatClampNeg) := inb_of sa44 ⟨by decide, by decide⟩
  obtain ⟨T44, h44, X44, e44, W44, st44⟩ := stI X37 hx hZ e37 Ar44 (j := (4 : Int32)) hin44 (g := (mkF m 117 #[.val (.int p0), .val (.int p1), .val (.long q2), .second, .val (.ref b2), .val (.int (w0_m8 p0)), .unset, .unset, .unset, .unset, .unset, .unset, .unset, .unset, .unset, .unset, .unset, .unset, .unset, .unset, .unset, .unset, .unset, .unset, .unset, .unset, .unset, .unset] [(.int (w0_10 p0)), (.int (4 : Int32)), (.ref b2)])) rfl rfl (hb hby at_117)
  have V_b2__44 : Arv Z h44 b2 k2 .int (5 : Int32) [(.int (0 : Int32)), (.int (w0_1 p0)), (.int (w0_4 p0)), (.int (w0_7 p0)), (.int (w0_10 p0))] (.int (0 : Int32)) := Arv.set Ar44 qa44 sa44 na44 ha44 ga44 rfl W44 4 rfl (Nat.le_of_ble_eq_true rfl)
  have N44 := Fr.snoc X44 N37 g_b2
  have Zs44 : n0 ≤ h44.size := Nat.le_trans Zs32 (Nat.le_of_eq W44.size.symm)
  have K44 : ∀ t, Steps p.tables e below (T44.setTop (mkF m 118 #[.val (.int p0), .val (.int p1), .val (.long q2), .second, .val (.ref b2), .val (.int (w0_m8 p0)), .unset, .unset, .unset, .unset, .unset, .unset, .unset, .unset, .unset, .unset, .unset, .unset, .unset, .unset, .unset, .unset, .unset, .unset, .unset, .unset, .unset, .unset] [])) t → Steps p.tables e below S0 t := fun t k => K_43 t (st44 t k)
  have K45 : ∀ t, Steps p.tables e below (T44.setTop (mkF m 121 #[.val (.int p0), .val (.int p1), .val (.long q2), .second, .val (.ref b2), .val (.int (w0_m8 p0)), .unset, .unset, .unset, .unset, .unset, .unset, .unset, .unset, .unset, .unset, .unset, .unset, .unset, .unset, .unset, .unset, .unset, .unset, .unset, .unset, .unset, .unset] [(.int (4 : Int32)), (.ref b2)])) t → Steps p.tables e below S0 t := fun t k => K44 t (by
    refine XS.aload X44.here hx rfl (hb hby at_118) rfl rfl ?_
    show Steps p.tables e below (T44.setTop (mkF m 120 #[.val (.int p0), .val (.int p1), .val (.long q2), .second, .val (.ref b2), .val (.int (w0_m8 p0)), .unset, .unset, .unset, .unset, .unset, .unset, .unset, .unset, .unset, .unset, .unset, .unset, .unset, .unset, .unset, .unset, .unset, .unset, .unset, .unset, .unset, .unset] [(.ref b2)])) _
    refine XS.iconst X44.here hx rfl (hb hby at_120) ?_
    show Steps p.tables e below (T44.setTop (mkF m 121 #[.val (.int p0), .val (.int p1), .val (.long q2), .second, .val (.ref b2), .val (.int (w0_m8 p0)), .unset, .unset, .unset, .unset, .unset, .unset, .unset, .unset, .unset, .unset, .unset, .unset, .unset, .unset, .unset, .unset, .unset, .unset, .unset, .unset, .unset, .unset] [(.int (4 : Int32)), (.ref b2)])) _
    exact k)
  have K_46 : ∀ t, Steps p.tables e below (T44.setTop (mkF m 121 #[.val (.int p0), .val (.int p1), .val (.long q2), .second, .val (.ref b2), .val (.int (w0_m8 p0)), .unset, .unset, .unset, .unset, .unset, .unset, .unset, .unset, .unset, .unset, .unset, .unset, .unset, .unset, .unset, .unset, .unset, .unset, .unset, .unset, .unset, .unset] [(.int (4 : Int32)), (.ref b2)])) t → Steps p.tables e below S0 t := K45
  obtain ⟨cl47, Ar47, qa47, sa47, na47, ha47, ga47⟩ := id V_b2__44
  have hin47 : ¬ ((4 : Int32) < 0 ∨ cl47.slots.size ≤ ((4 : Int32)).toNatClampNeg) := inb_of sa47 ⟨by decide, by decide⟩
  have hat47 : cl47.slots[((4 : Int32)).toNatClampNeg]? = some (.int (w0_10 p0)) := Has.at ha47 hin47 rfl
  have K47 : ∀ t, Steps p.tables e below (T44.setTop (mkF m 122 #[.val (.int p0), .val (.int p1), .val (.long q2), .second, .val (.ref b2), .val (.int (w0_m8 p0)), .unset, .unset, .unset, .unset, .unset, .unset, .unset, .unset, .unset, .unset, .unset, .unset, .unset, .unset, .unset, .unset, .unset, .unset, .unset, .unset, .unset, .unset] [(.int (w0_10 p0))])) t → Steps p.tables e below S0 t := fun t k => K_46 t (X44.iaload hx (j := (4 : Int32)) (v := (.int (w0_10 p0))) (by rw [e44]; exact Ar47.1) (State.isArrayOf_alike hZ.alike Ar47.2.1) Ar47.2.2 hin47 hat47 (g := (mkF m 121 #[.val (.int p0), .val (.int p1), .val (.long q2), .second, .val (.ref b2), .val (.int (w0_m8 p0)), .unset, .unset, .unset, .unset, .unset, .unset, .unset, .unset, .unset, .unset, .unset, .unset, .unset, .unset, .unset, .unset, .unset, .unset, .unset, .unset, .unset, .unset] [(.int (4 : Int32)), (.ref b2)])) rfl rfl (hb hby at_121) _ k)
  have K48 : ∀ t, Steps p.tables e below (T44.setTop (mkF m 124 #[.val (.int p0), .val (.int p1), .val (.long q2), .second, .val (.ref b2), .val (.int (w0_m8 p0)), .unset, .unset, .unset, .unset, .unset, .unset, .unset, .unset, .unset, .unset, .unset, .unset, .unset, .unset, .unset, .unset, .unset, .unset, .unset, .unset, .unset, .unset] [(.int (w0_m8 p0)), (.int (w0_10 p0))])) t → Steps p.tables e below S0 t := fun t k => K47 t (by
    refine XS.iload X44.here hx rfl (hb hby at_122) rfl ?_
    show Steps p.tables e below (T44.setTop (mkF m 124 #[.val (.int p0), .val (.int p1), .val (.long q2), .second, .val (.ref b2), .val (.int (w0_m8 p0)), .unset, .unset, .unset, .unset, .unset, .unset, .unset, .unset, .unset, .unset, .unset, .unset, .unset, .unset, .unset, .unset, .unset, .unset, .unset, .unset, .unset, .unset] [(.int (w0_m8 p0)), (.int (w0_10 p0))])) _
    exact k)
  obtain ⟨T49, lo49, X49, N49, e49, K49⟩ : ∃ (T' : State) (locs' : List Loc), Stand p l e room_1 s m #[(.int p0), (.int p1), (.long q2)] below meth c T' locs' 1 5 ∧ Fr n0 locs' ∧ T'.heap = h44 ∧ ∀ t, Steps p.tables e below (T'.setTop (mkF m 133 #[.val (.int p0), .val (.int p1), .val (.long q2), .second, .val (.ref b2), .val (.int (w0_m11 p0)), .unset, .unset, .unset, .unset, .unset, .unset, .unset, .unset, .unset, .unset, .unset, .unset, .unset, .unset, .unset, .unset, .unset, .unset, .unset, .unset, .unset, .unset] [])) t → Steps p.tables e below S0 t := by
    by_cases hc124_0 : (w0_10 p0) = (w0_m8 p0)
    · -- yes
      have K50 : ∀ t, Steps p.tables e below (T44.setTop (mkF m 133 #[.val (.int p0), .val (.int p1), .val (.long q2), .second, .val (.ref b2), .val (.int ((w0_m8 p0) + (1 : Int32))), .unset, .unset, .unset, .unset, .unset, .unset, .unset, .unset, .unset, .unset, .unset, .unset, .unset, .unset, .unset, .unset, .unset, .unset, .unset, .unset, .unset, .unset] [])) t → Steps p.tables e below S0 t := fun t k => K48 t (by
        refine XS.icmpNo X44.here hx rfl (hb hby at_124) rfl (XT.ii_ne_f hc124_0) ?_
        show Steps p.tables e below (T44.setTop (mkF m 127 #[.val (.int p0), .val (.int p1), .val (.long q2), .second, .val (.ref b2), .val (.int (w0_m8 p0)), .unset, .unset, .unset, .unset, .unset, .unset, .unset, .unset, .unset, .unset, .unset, .unset, .unset, .unset, .unset, .unset, .unset, .unset, .unset, .unset, .unset, .unset] [])) _
        refine XS.iload X44.here hx rfl (hb hby at_127) rfl ?_
        show Steps p.tables e below (T44.setTop (mkF m 129 #[.val (.int p0), .val (.int p1), .val (.long q2), .second, .val (.ref b2), .val (.int (w0_m8 p0)), .unset, .unset, .unset, .unset, .unset, .unset, .unset, .unset, .unset, .unset, .unset, .unset, .unset, .unset, .unset, .unset, .unset, .unset, .unset, .unset, .unset, .unset] [(.int (w0_m8 p0))])) _
        refine XS.iconst X44.here hx rfl (hb hby at_129) ?_
        show Steps p.tables e below (T44.setTop (mkF m 130 #[.val (.int p0), .val (.int p1), .val (.long q2), .second, .val (.ref b2), .val (.int (w0_m8 p0)), .unset, .unset, .unset, .unset, .unset, .unset, .unset, .unset, .unset, .unset, .unset, .unset, .unset, .unset, .unset, .unset, .unset, .unset, .unset, .unset, .unset, .unset] [(.int (1 : Int32)), (.int (w0_m8 p0))])) _
        refine XS.iadd X44.here hx rfl (hb hby at_130) rfl ?_
        show Steps p.tables e below (T44.setTop (mkF m 131 #[.val (.int p0), .val (.int p1), .val (.long q2), .second, .val (.ref b2), .val (.int (w0_m8 p0)), .unset, .unset, .unset, .unset, .unset, .unset, .unset, .unset, .unset, .unset, .unset, .unset, .unset, .unset, .unset, .unset, .unset, .unset, .unset, .unset, .unset, .unset] [(.int ((w0_m8 p0) + (1 : Int32)))])) _
        refine XS.istore X44.here hx rfl (hb hby at_131) rfl (l' := #[.val (.int p0), .val (.int p1), .val (.long q2), .second, .val (.ref b2), .val (.int ((w0_m8 p0) + (1 : Int32))), .unset, .unset, .unset, .unset, .unset, .unset, .unset, .unset, .unset, .unset, .unset, .unset, .unset, .unset, .unset, .unset, .unset, .unset, .unset, .unset, .unset, .unset]) rfl ?_
        show Steps p.tables e below (T44.setTop (mkF m 133 #[.val (.int p0), .val (.int p1), .val (.long q2), .second, .val (.ref b2), .val (.int ((w0_m8 p0) + (1 : Int32))), .unset, .unset, .unset, .unset, .unset, .unset, .unset, .unset, .unset, .unset, .unset, .unset, .unset, .unset, .unset, .unset, .unset, .unset, .unset, .unset, .unset, .unset] [])) _
        exact k)
      have q51 : (w0_m11 p0) = ((w0_m8 p0) + (1 : Int32)) := by unfold w0_m11; rw [if_pos hc124_0]
      exact ⟨T44, _, X44, N44, e44, fun t k => K50 t (by rw [q51] at k; exact k)⟩
    · -- no
      have K52 : ∀ t, Steps p.tables e below (T44.setTop (mkF m 133 #[.val (.int p0), .val (.int p1), .val (.long q2), .second, .val (.ref b2), .val (.int (w0_m8 p0)), .unset, .unset, .unset, .unset, .unset, .unset, .unset, .unset, .unset, .unset, .unset, .unset, .unset, .unset, .unset, .unset, .unset, .unset, .unset, .unset, .unset, .unset] [])) t → Steps p.tables e below S0 t := fun t k => K48 t (by
        refine XS.icmpYes X44.here hx rfl (pc0 := 124) (pc' := 133) rfl (hb hby at_124) rfl (XT.ii_ne_t hc124_0) (by decide) (by decide) ?_
        show Steps p.tables e below (T44.setTop (mkF m 133 #[.val (.int p0), .val (.int p1), .val (.long q2), .second, .val (.ref b2), .val (.int (w0_m8 p0)), .unset, .unset, .unset, .unset, .unset, .unset, .unset, .unset, .unset, .unset, .unset, .unset, .unset, .unset, .unset, .unset, .unset, .unset, .unset, .unset, .unset, .unset] [])) _
        exact k)
      have q53 : (w0_m11 p0) = (w0_m8 p0) := by unfold w0_m11; rw [if_neg hc124_0]
      exact ⟨T44, _, X44, N44, e44, fun t k => K52 t (by rw [q53] at k; exact k)⟩
  have K54 : ∀ t, Steps p.tables e below (T49.setTop (mkF m 136 #[.val (.int p0), .val (.int p1), .val (.long q2), .second, .val (.ref b2), .val (.int (w0_m11 p0)), .unset, .unset, .unset, .unset, .unset, .unset, .unset, .unset, .unset, .unset, .unset, .unset, .unset, .unset, .unset, .unset, .unset, .unset, .unset, .unset, .unset, .unset] [(.int (0 : Int32)), (.ref b2)])) t → Steps p.tables e below S0 t := fun t k => K49 t (by
    refine XS.aload X49.here hx rfl (hb hby at_133) rfl rfl ?_
    show Steps p.tables e below (T49.setTop (mkF m 135 #[.val (.int p0), .val (.int p1), .val (.long q2), .second, .val (.ref b2), .val (.int (w0_m11 p0)), .unset, .unset, .unset, .unset, .unset, .unset, .unset, .unset, .unset, .unset, .unset, .unset, .unset, .unset, .unset, .unset, .unset, .unset, .unset, .unset, .unset, .unset] [(.ref b2)])) _
    refine XS.iconst X49.here hx rfl (hb hby at_135) ?_
    show Steps p.tables e below (T49.setTop (mkF m 136 #[.val (.int p0), .val (.int p1), .val (.long q2), .second, .val (.ref b2), .val (.int (w0_m11 p0)), .unset, .unset, .unset, .unset, .unset, .unset, .unset, .unset, .unset, .unset, .unset, .unset, .unset, .unset, .unset, .unset, .unset, .unset, .unset, .unset, .unset, .unset] [(.int (0 : Int32)), (.ref b2)])) _
    exact k)
  have K_55 : ∀ t, Steps p.tables e below (T49.setTop (mkF m 136 #[.val (.int p0), .val (.int p1), .val (.long q2), .second, .val (.ref b2), .val (.int (w0_m11 p0)), .unset, .unset, .unset, .unset, .unset, .unset, .unset, .unset, .unset, .unset, .unset, .unset, .unset, .unset, .unset, .unset, .unset, .unset, .unset, .unset, .unset, .unset] [(.int (0 : Int32)), (.ref b2)])) t → Steps p.tables e below S0 t := K54
  obtain ⟨_, _, ⟨T56, L56, k56, n56⟩, -, X56, ⟨Lc56, hQ56, l56, y56, z56⟩, st56⟩ := Jvm.LawKit.callS X49 hx (y := (⟨"com/example/nearmark/nearmark/paging/LeastRecentlyUsed2RankPinLaw", "expected", "([II)J"⟩ : MethodName)) hown (mvT hZ (hw _ (List.mem_of_getElem? (i := 1) rfl))) (mvT hZ (hw _ (List.mem_of_getElem? (i := 2) rfl))) (mvT hZ (hw _ (List.mem_of_getElem? (i := 3) rfl))) (mvT hZ (hw _ (List.mem_of_getElem? (i := 4) rfl))) (by decide) (backOf (W := 0) (rme0 l Z a0 hw [] b2 k2 (0 : Int32) (w0_1 p0) (w0_4 p0) (w0_7 p0) (w0_10 p0) h44 n0 Zs44 V_b2__44) hZ (hw _ (List.mem_of_getElem? (i := 4) rfl)) (hw _ (List.mem_of_getElem? (i := 3) rfl)) (by decide) (by decide)) (g := (mkF m 136 #[.val (.int p0), .val (.int p1), .val (.long q2), .second, .val (.ref b2), .val (.int (w0_m11 p0)), .unset, .unset, .unset, .unset, .unset, .unset, .unset, .unset, .unset, .unset, .unset, .unset, .unset, .unset, .unset, .unset, .unset, .unset, .unset, .unset, .unset, .unset] [(.int (0 : Int32)), (.ref b2)])) rfl (by rw [hml]; rfl) (argsL := [(.ref b2), (.int (0 : Int32))]) (rest := []) (lenOf pd0_0 rfl) rfl (by show 2 * 0 + _ ≤ _; exact Nat.le_of_eq rfl) (hb hby at_136) (fun _ _ => ⟨rfl, e49, (by decide : 1 + 0 ≤ 16), (by decide : 5 + 0 ≤ 128)⟩)
  dsimp only [Pt.U, Pt.locs, Pt.cells, Pt.slots] at X56 l56 y56 z56 st56 hQ56
  subst l56 y56 z56
  obtain ⟨rfl, N56q, e56⟩ := hQ56
  have N56 := Fr.app N49 N56q
  have K56 : ∀ t, Steps p.tables e below (T56.setTop (mkF m 139 #[.val (.int p0), .val (.int p1), .val (.long q2), .second, .val (.ref b2), .val (.int (w0_m11 p0)), .unset, .unset, .unset, .unset, .unset, .unset, .unset, .unset, .unset, .unset, .unset, .unset, .unset, .unset, .unset, .unset, .unset, .unset, .unset, .unset, .unset, .unset] [(.long (0 : Int64))])) t → Steps p.tables e below S0 t := fun t k => K_55 t (st56 t k)
  have K57 : ∀ t, Steps p.tables e below (T56.setTop (mkF m 144 #[.val (.int p0), .val (.int p1), .val (.long q2), .second, .val (.ref b2), .val (.int (w0_m11 p0)), .val (.long (0 : Int64)), .second, .unset, .unset, .unset, .unset, .unset, .unset, .unset, .unset, .unset, .unset, .unset, .unset, .unset, .unset, .unset, .unset, .unset, .unset, .unset, .unset] [(.int (1 : Int32)), (.ref b2)])) t → Steps p.tables e below S0 t := fun t k => K56 t (by
    refine XS.lstore X56.here hx rfl (hb hby at_139) rfl (l' := #[.val (.int p0), .val (.int p1), .val (.long q2), .second, .val (.ref b2), .val (.int (w0_m11 p0)), .val (.long (0 : Int64)), .second, .unset, .unset, .unset, .unset, .unset, .unset, .unset, .unset, .unset, .unset, .unset, .unset, .unset, .unset, .unset, .unset, .unset, .unset, .unset, .unset]) rfl ?_
    show Steps p.tables e below (T56.setTop (mkF m 141 #[.val (.int p0), .val (.int p1), .val (.long q2), .second, .val (.ref b2), .val (.int (w0_m11 p0)), .val (.long (0 : Int64)), .second, .unset, .unset, .unset, .unset, .unset, .unset, .unset, .unset, .unset, .unset, .unset, .unset, .unset, .unset, .unset, .unset, .unset, .unset, .unset, .unset] [])) _
    refine XS.aload X56.here hx rfl (hb hby at_141) rfl rfl ?_
    show Steps p.tables e below (T56.setTop (mkF m 143 #[.val (.int p0), .val (.int p1), .val (.long q2), .second, .val (.ref b2), .val (.int (w0_m11 p0)), .val (.long (0 : Int64)), .second, .unset, .unset, .unset, .unset, .unset, .unset, .unset, .unset, .unset, .unset, .unset, .unset, .unset, .unset, .unset, .unset, .unset, .unset, .unset, .unset] [(.ref b2)])) _
    refine XS.iconst X56.here hx rfl (hb hby at_143) ?_
    show Steps p.tables e below (T56.setTop (mkF m 144 #[.val (.int p0), .val (.int p1), .val (.long q2), .second, .val (.ref b2), .val (.int (w0_m11 p0)), .val (.long (0 : Int64)), .second, .unset, .unset, .unset, .unset, .unset, .unset, .unset, .unset, .unset, .unset, .unset, .unset, .unset, .unset, .unset, .unset, .unset, .unset, .unset, .unset] [(.int (1 : Int32)), (.ref b2)])) _
    exact k)
  have K_58 : ∀ t, Steps p.tables e below (T56.setTop (mkF m 144 #[.val (.int p0), .val (.int p1), .val (.long q2), .second, .val (.ref b2), .val (.int (w0_m11 p0)), .val (.long (0 : Int64)), .second, .unset, .unset, .unset, .unset, .unset, .unset, .unset, .unset, .unset, .unset, .unset, .unset, .unset, .unset, .unset, .unset, .unset, .unset, .unset, .unset] [(.int (1 : Int32)), (.ref b2)])) t → Steps p.tables e below S0 t := K57
  obtain ⟨_, _, ⟨T59, L59, k59, n59⟩, -, X59, ⟨Lc59, hQ59, l59, y59, z59⟩, st59⟩ := Jvm.LawKit.callS X56 hx (y := (⟨"com/example/nearmark/nearmark/paging/LeastRecentlyUsed2RankPinLaw", "expected", "([II)J"⟩ : MethodName)) hown (mvT hZ (hw _ (List.mem_of_getElem? (i := 1) rfl))) (mvT hZ (hw _ (List.mem_of_getElem? (i := 2) rfl))) (mvT hZ (hw _ (List.mem_of_getElem? (i := 3) rfl))) (mvT hZ (hw _ (List.mem_of_getElem? (i := 4) rfl))) (by decide) (backOf (W := 0) (rme1 l Z a0 hw [] b2 k2 (0 : Int32) (w0_1 p0) (w0_4 p0) (w0_7 p0) (w0_10 p0) h44 n0 Zs44 V_b2__44) hZ (hw _ (List.mem_of_getElem? (i := 4) rfl)) (hw _ (List.mem_of_getElem? (i := 3) rfl)) (by decide) (by decide)) (g := (mkF m 144 #[.val (.int p0), .val (.int p1), .val (.long q2), .second, .val (.ref b2), .val (.int (w0_m11 p0)), .val (.long (0 : Int64)), .second, .unset, .unset, .unset, .unset, .unset, .unset, .unset, .unset, .unset, .unset, .unset, .unset, .unset, .unset, .unset, .unset, .unset, .unset, .unset, .unset] [(.int (1 : Int32)), (.ref b2)])) rfl (by rw [hml]; rfl) (argsL := [(.ref b2), (.int (1 : Int32))]) (rest := []) (lenOf pd0_0 rfl) rfl (by show 2 * 0 + _ ≤ _; exact Nat.le_of_eq rfl) (hb hby at_144) (fun _ _ => ⟨rfl, e56, (by decide : 1 + 0 ≤ 16), (by decide : 5 + 0 ≤ 128)⟩)
  dsimp only [Pt.U, Pt.locs, Pt.cells, Pt.slots] at X59 l59 y59 z59 st59 hQ59
  subst l59 y59 z59
  obtain ⟨rfl, N59q, e59⟩ := hQ59
  have N59 := Fr.app N56 N59q
  have K59 : ∀ t, Steps p.tables e below (T59.setTop (mkF m 147 #[.val (.int p0), .val (.int p1), .val (.long q2), .second, .val (.ref b2), .val (.int (w0_m11 p0)), .val (.long (0 : Int64)), .second, .unset, .unset, .unset, .unset, .unset, .unset, .unset, .unset, .unset, .unset, .unset, .unset, .unset, .unset, .unset, .unset, .unset, .unset, .unset, .unset] [(.long (we1_r1 (0 : Int32) (w0_1 p0)))])) t → Steps p.tables e below S0 t := fun t k => K_58 t (st59 t k)
  have K60 : ∀ t, Steps p.tables e below (T59.setTop (mkF m 152 #[.val (.int p0), .val (.int p1), .val (.long q2), .second, .val (.ref b2), .val (.int (w0_m11 p0)), .val (.long (0 : Int64)), .second, .val (.long (we1_r1 (0 : Int32) (w0_1 p0))), .second, .unset, .unset, .unset, .unset, .unset, .unset, .unset, .unset, .unset, .unset, .unset, .unset, .unset, .unset, .unset, .unset, .unset, .unset] [(.int (2 : Int32)), (.ref b2)])) t → Steps p.tables e below S0 t := fun t k => K59 t (by
    refine XS.lstore X59.here hx rfl (hb hby at_147) rfl (l' := #[.val (.int p0), .val (.int p1), .val (.long q2), .second, .val (.ref b2), .val (.int (w0_m11 p0)), .val (.long (0 : Int64)), .second, .val (.long (we1_r1 (0 : Int32) (w0_1 p0))), .second, .unset, .unset, .unset, .unset, .unset, .unset, .unset, .unset, .unset, .unset, .unset, .unset, .unset, .unset, .unset, .unset, .unset, .unset]) rfl ?_
    show Steps p.tables e below (T59.setTop (mkF m 149 #[.val (.int p0), .val (.int p1), .val (.long q2), .second, .val (.ref b2), .val (.int (w0_m11 p0)), .val (.long (0 : Int64)), .second, .val (.long (we1_r1 (0 : Int32) (w0_1 p0))), .second, .unset, .unset, .unset, .unset, .unset, .unset, .unset, .unset, .unset, .unset, .unset, .unset, .unset, .unset, .unset, .unset, .unset, .unset] [])) _
    refine XS.aload X59.here hx rfl (hb hby at_149) rfl rfl ?_
    show Steps p.tables e below (T59.setTop (mkF m 151 #[.val (.int p0), .val (.int p1), .val (.long q2), .second, .val (.ref b2), .val (.int (w0_m11 p0)), .val (.long (0 : Int64)), .second, .val (.long (we1_r1 (0 : Int32) (w0_1 p0))), .second, .unset, .unset, .unset, .unset, .unset, .unset, .unset, .unset, .unset, .unset, .unset, .unset, .unset, .unset, .unset, .unset, .unset, .unset] [(.ref b2)])) _
    refine XS.iconst X59.here hx rfl (hb hby at_151) ?_
    show Steps p.tables e below (T59.setTop (mkF m 152 #[.val (.int p0), .val (.int p1), .val (.long q2), .second, .val (.ref b2), .val (.int (w0_m11 p0)), .val (.long (0 : Int64)), .second, .val (.long (we1_r1 (0 : Int32) (w0_1 p0))), .second, .unset, .unset, .unset, .unset, .unset, .unset, .unset, .unset, .unset, .unset, .unset, .unset, .unset, .unset, .unset, .unset, .unset, .unset] [(.int (2 : Int32)), (.ref b2)])) _
    exact k)
  have K_61 : ∀ t, Steps p.tables e below (T59.setTop (mkF m 152 #[.val (.int p0), .val (.int p1), .val (.long q2), .second, .val (.ref b2), .val (.int (w0_m11 p0)), .val (.long (0 : Int64)), .second, .val (.long (we1_r1 (0 : Int32) (w0_1 p0))), .second, .unset, .unset, .unset, .unset, .unset, .unset, .unset, .unset, .unset, .unset, .unset, .unset, .unset, .unset, .unset, .unset, .unset, .unset] [(.int (2 : Int32)), (.ref b2)])) t → Steps p.tables e below S0 t := K60
  obtain ⟨_, _, ⟨T62, L62, k62, n62⟩, -, X62, ⟨Lc62, hQ62, l62, y62, z62⟩, st62⟩ := Jvm.LawKit.callS X59 hx (y := (⟨"com/example/nearmark/nearmark/paging/LeastRecentlyUsed2RankPinLaw", "expected", "([II)J"⟩ : MethodName)) hown (mvT hZ (hw _ (List.mem_of_getElem? (i := 1) rfl))) (mvT hZ (hw _ (List.mem_of_getElem? (i := 2) rfl))) (mvT hZ (hw _ (List.mem_of_getElem? (i := 3) rfl))) (mvT hZ (hw _ (List.mem_of_getElem? (i := 4) rfl))) (by decide) (backOf (W := 0) (rme2 l Z a0 hw [] b2 k2 (0 : Int32) (w0_1 p0) (w0_4 p0) (w0_7 p0) (w0_10 p0) h44 n0 Zs44 V_b2__44) hZ (hw _ (List.mem_of_getElem? (i := 4) rfl)) (hw _ (List.mem_of_getElem? (i := 3) rfl)) (by decide) (by decide)) (g := (mkF m 152 #[.val (.int p0), .val (.int p1), .val (.long q2), .second, .val (.ref b2), .val (.int (w0_m11 p0)), .val (.long (0 : Int64)), .second, .val (.long (we1_r1 (0 : Int32) (w0_1 p0))), .second, .unset, .unset, .unset, .unset, .unset, .unset, .unset, .unset, .unset, .unset, .unset, .unset, .unset, .unset, .unset, .unset, .unset, .unset] [(.int (2 : Int32)), (.ref b2)])) rfl (by rw [hml]; rfl) (argsL := [(.ref b2), (.int (2 : Int32))]) (rest := []) (lenOf pd0_0 rfl) rfl (by show 2 * 0 + _ ≤ _; exact Nat.le_of_eq rfl) (hb hby at_152) (fun _ _ => ⟨rfl, e59, (by decide : 1 + 0 ≤ 16), (by decide : 5 + 0 ≤ 128)⟩)
  dsimp only [Pt.U, Pt.locs, Pt.cells, Pt.slots] at X62 l62 y62 z62 st62 hQ62
  subst l62 y62 z62
  obtain ⟨rfl, N62q, e62⟩ := hQ62
  have N62 := Fr.app N59 N62q
  have K62 : ∀ t, Steps p.tables e below (T62.setTop (mkF m 155 #[.val (.int p0), .val (.int p1), .val (.long q2), .second, .val (.ref b2), .val (.int (w0_m11 p0)), .val (.long (0 : Int64)), .second, .val (.long (we1_r1 (0 : Int32) (w0_1 p0))), .second, .unset, .unset, .unset, .unset, .unset, .unset, .unset, .unset, .unset, .unset, .unset, .unset, .unset, .unset, .unset, .unset, .unset, .unset] [(.long (w0_12 p0))])) t → Steps p.tables e below S0 t := fun t k => K_61 t (st62 t k)
  have K63 : ∀ t, Steps p.tables e below (T62.setTop (mkF m 160 #[.val (.int p0), .val (.int p1), .val (.long q2), .second, .val (.ref b2), .val (.int (w0_m11 p0)), .val (.long (0 : Int64)), .second, .val (.long (we1_r1 (0 : Int32) (w0_1 p0))), .second, .val (.long (w0_12 p0)), .second, .unset, .unset, .unset, .unset, .unset, .unset, .unset, .unset, .unset, .unset, .unset, .unset, .unset, .unset, .unset, .unset] [(.int (3 : Int32)), (.ref b2)])) t → Steps p.tables e below S0 t := fun t k => K62 t (by
    refine XS.lstore X62.here hx rfl (hb hby at_155) rfl (l' := #[.val (.int p0), .val (.int p1), .val (.long q2), .second, .val (.ref b2), .val (.int (w0_m11 p0)), .val (.long (0 : Int64)), .second, .val (.long (we1_r1 (0 : Int32) (w0_1 p0))), .second, .val (.long (w0_12 p0)), .second, .unset, .unset, .unset, .unset, .unset, .unset, .unset, .unset, .unset, .unset, .unset, .unset, .unset, .unset, .unset, .unset]) rfl ?_
    show Steps p.tables e below (T62.setTop (mkF m 157 #[.val (.int p0), .val (.int p1), .val (.long q2), .second, .val (.ref b2), .val (.int (w0_m11 p0)), .val (.long (0 : Int64)), .second, .val (.long (we1_r1 (0 : Int32) (w0_1 p0))), .second, .val (.long (w0_12 p0)), .second, .unset, .unset, .unset, .unset, .unset, .unset, .unset, .unset, .unset, .unset, .unset, .unset, .unset, .unset, .unset, .unset] [])) _
    refine XS.aload X62.here hx rfl (hb hby at_157) rfl rfl ?_
    show Steps p.tables e below (T62.setTop (mkF m 159 #[.val (.int p0), .val (.int p1), .val (.long q2), .second, .val (.ref b2), .val (.int (w0_m11 p0)), .val (.long (0 : Int64)), .second, .val (.long (we1_r1 (0 : Int32) (w0_1 p0))), .second, .val (.long (w0_12 p0)), .second, .unset, .unset, .unset, .unset, .unset, .unset, .unset, .unset, .unset, .unset, .unset, .unset, .unset, .unset, .unset, .unset] [(.ref b2)])) _
    refine XS.iconst X62.here hx rfl (hb hby at_159) ?_
    show Steps p.tables e below (T62.setTop (mkF m 160 #[.val (.int p0), .val (.int p1), .val (.long q2), .second, .val (.ref b2), .val (.int (w0_m11 p0)), .val (.long (0 : Int64)), .second, .val (.long (we1_r1 (0 : Int32) (w0_1 p0))), .second, .val (.long (w0_12 p0)), .second, .unset, .unset, .unset, .unset, .unset, .unset, .unset, .unset, .unset, .unset, .unset, .unset, .unset, .unset, .unset, .unset] [(.int (3 : Int32)), (.ref b2)])) _
    exact k)
  have K_64 : ∀ t, Steps p.tables e below (T62.setTop (mkF m 160 #[.val (.int p0), .val (.int p1), .val (.long q2), .second, .val (.ref b2), .val (.int (w0_m11 p0)), .val (.long (0 : Int64)), .second, .val (.long (we1_r1 (0 : Int32) (w0_1 p0))), .second, .val (.long (w0_12 p0)), .second, .unset, .unset, .unset, .unset, .unset, .unset, .unset, .unset, .unset, .unset, .unset, .unset, .unset, .unset, .unset, .unset] [(.int (3 : Int32)), (.ref b2)])) t → Steps p.tables e below S0 t := K63
  obtain ⟨_, _, ⟨T65, L65, k65, n65⟩, -, X65, ⟨Lc65, hQ65, l65, y65, z65⟩, st65⟩ := Jvm.LawKit.callS X62 hx (y := (⟨"com/example/nearmark/nearmark/paging/LeastRecentlyUsed2RankPinLaw", "expected", "([II)J"⟩ : MethodName)) hown (mvT hZ (hw _ (List.mem_of_getElem? (i := 1) rfl))) (mvT hZ (hw _ (List.mem_of_getElem? (i := 2) rfl))) (mvT hZ (hw _ (List.mem_of_getElem? (i := 3) rfl))) (mvT hZ (hw _ (List.mem_of_getElem? (i := 4) rfl))) (by decide) (backOf (W := 0) (rme3 l Z a0 hw [] b2 k2 (0 : Int32) (w0_1 p0) (w0_4 p0) (w0_7 p0) (w0_10 p0) h44 n0 Zs44 V_b2__44) hZ (hw _ (List.mem_of_getElem? (i := 4) rfl)) (hw _ (List.mem_of_getElem? (i := 3) rfl)) (by decide) (by decide)) (g := (mkF m 160 #[.val (.int p0), .val (.int p1), .val (.long q2), .second, .val (.ref b2), .val (.int (w0_m11 p0)), .val (.long (0 : Int64)), .second, .val (.long (we1_r1 (0 : Int32) (w0_1 p0))), .second, .val (.long (w0_12 p0)), .second, .unset, .unset, .unset, .unset, .unset, .unset, .unset, .unset, .unset, .unset, .unset, .unset, .unset, .unset, .unset, .unset] [(.int (3 : Int32)), (.ref b2)])) rfl (by rw [hml]; rfl) (argsL := [(.ref b2), (.int (3 : Int32))]) (rest := []) (lenOf pd0_0 rfl) rfl (by show 2 * 0 + _ ≤ _; exact Nat.le_of_eq rfl) (hb hby at_160) (fun _ _ => ⟨rfl, e62, (by decide : 1 + 0 ≤ 16), (by decide : 5 + 0 ≤ 128)⟩)
  dsimp only [Pt.U, Pt.locs, Pt.cells, Pt.slots] at X65 l65 y65 z65 st65 hQ65
  subst l65 y65 z65
  obtain ⟨rfl, N65q, e65⟩ := hQ65
  have N65 := Fr.app N62 N65q
  have K65 : ∀ t, Steps p.tables e below (T65.setTop (mkF m 163 #[.val (.int p0), .val (.int p1), .val (.long q2), .second, .val (.ref b2), .val (.int (w0_m11 p0)), .val (.long (0 : Int64)), .second, .val (.long (we1_r1 (0 : Int32) (w0_1 p0))), .second, .val (.long (w0_12 p0)), .second, .unset, .unset, .unset, .unset, .unset, .unset, .unset, .unset, .unset, .unset, .unset, .unset, .unset, .unset, .unset, .unset] [(.long (w0_13 p0))])) t → Steps p.tables e below S0 t := fun t k => K_64 t (st65 t k)
  have K66 : ∀ t, Steps p.tables e below (T65.setTop (mkF m 168 #[.val (.int p0), .val (.int p1), .val (.long q2), .second, .val (.ref b2), .val (.int (w0_m11 p0)), .val (.long (0 : Int64)), .second, .val (.long (we1_r1 (0 : Int32) (w0_1 p0))), .second, .val (.long (w0_12 p0)), .second, .val (.long (w0_13 p0)), .second, .unset, .unset, .unset, .unset, .unset, .unset, .unset, .unset, .unset, .unset, .unset, .unset, .unset, .unset] [(.int (4 : Int32)), (.ref b2)])) t → Steps p.tables e below S0 t := fun t k => K65 t (by
    refine XS.lstore X65.here hx rfl (hb hby at_163) rfl (l' := #[.val (.int p0), .val (.int p1), .val (.long q2), .second, .val (.ref b2), .val (.int (w0_m11 p0)), .val (.long (0 : Int64)), .second, .val (.long (we1_r1 (0 : Int32) (w0_1 p0))), .second, .val (.long (w0_12 p0)), .second, .val (.long (w0_13 p0)), .second, .unset, .unset, .unset, .unset, .unset, .unset, .unset, .unset, .unset, .unset, .unset, .unset, .unset, .unset]) rfl ?_
    show Steps p.tables e below (T65.setTop (mkF m 165 #[.val (.int p0), .val (.int p1), .val (.long q2), .second, .val (.ref b2), .val (.int (w0_m11 p0)), .val (.long (0 : Int64)), .second, .val (.long (we1_r1 (0 : Int32) (w0_1 p0))), .second, .val (.long (w0_12 p0)), .second, .val (.long (w0_13 p0)), .second, .unset, .unset, .unset, .unset, .unset, .unset, .unset, .unset, .unset, .unset, .unset, .unset, .unset, .unset] [])) _
    refine XS.aload X65.here hx rfl (hb hby at_165) rfl rfl ?_
    show Steps p.tables e below (T65.setTop (mkF m 167 #[.val (.int p0), .val (.int p1), .val (.long q2), .second, .val (.ref b2), .val (.int (w0_m11 p0)), .val (.long (0 : Int64)), .second, .val (.long (we1_r1 (0 : Int32) (w0_1 p0))), .second, .val (.long (w0_12 p0)), .second, .val (.long (w0_13 p0)), .second, .unset, .unset, .unset, .unset, .unset, .unset, .unset, .unset, .unset, .unset, .unset, .unset, .unset, .unset] [(.ref b2)])) _
    refine XS.iconst X65.here hx rfl (hb hby at_167) ?_
    show Steps p.tables e below (T65.setTop (mkF m 168 #[.val (.int p0), .val (.int p1), .val (.long q2), .second, .val (.ref b2), .val (.int (w0_m11 p0)), .val (.long (0 : Int64)), .second, .val (.long (we1_r1 (0 : Int32) (w0_1 p0))), .second, .val (.long (w0_12 p0)), .second, .val (.long (w0_13 p0)), .second, .unset, .unset, .unset, .unset, .unset, .unset, .unset, .unset, .unset, .unset, .unset, .unset, .unset, .unset] [(.int (4 : Int32)), (.ref b2)])) _
    exact k)
  have K_67 : ∀ t, Steps p.tables e below (T65.setTop (mkF m 168 #[.val (.int p0), .val (.int p1), .val (.long q2), .second, .val (.ref b2), .val (.int (w0_m11 p0)), .val (.long (0 : Int64)), .second, .val (.long (we1_r1 (0 : Int32) (w0_1 p0))), .second, .val (.long (w0_12 p0)), .second, .val (.long (w0_13 p0)), .second, .unset, .unset, .unset, .unset, .unset, .unset, .unset, .unset, .unset, .unset, .unset, .unset, .unset, .unset] [(.int (4 : Int32)), (.ref b2)])) t → Steps p.tables e below S0 t := K66
  obtain ⟨_, _, ⟨T68, L68, k68, n68⟩, -, X68, ⟨Lc68, hQ68, l68, y68, z68⟩, st68⟩ := Jvm.LawKit.callS X65 hx (y := (⟨"com/example/nearmark/nearmark/paging/LeastRecentlyUsed2RankPinLaw", "expected", "([II)J"⟩ : MethodName)) hown (mvT hZ (hw _ (List.mem_of_getElem? (i := 1) rfl))) (mvT hZ (hw _ (List.mem_of_getElem? (i := 2) rfl))) (mvT hZ (hw _ (List.mem_of_getElem? (i := 3) rfl))) (mvT hZ (hw _ (List.mem_of_getElem? (i := 4) rfl))) (by decide) (backOf (W := 0) (rme4 l Z a0 hw [] b2 k2 (0 : Int32) (w0_1 p0) (w0_4 p0) (w0_7 p0) (w0_10 p0) h44 n0 Zs44 V_b2__44) hZ (hw _ (List.mem_of_getElem? (i := 4) rfl)) (hw _ (List.mem_of_getElem? (i := 3) rfl)) (by decide) (by decide)) (g := (mkF m 168 #[.val (.int p0), .val (.int p1), .val (.long q2), .second, .val (.ref b2), .val (.int (w0_m11 p0)), .val (.long (0 : Int64)), .second, .val (.long (we1_r1 (0 : Int32) (w0_1 p0))), .second, .val (.long (w0_12 p0)), .second, .val (.long (w0_13 p0)), .second, .unset, .unset, .unset, .unset, .unset, .unset, .unset, .unset, .unset, .unset, .unset, .unset, .unset, .unset] [(.int (4 : Int32)), (.ref b2)])) rfl (by rw [hml]; rfl) (argsL := [(.ref b2), (.int (4 : Int32))]) (rest := []) (lenOf pd0_0 rfl) rfl (by show 2 * 0 + _ ≤ _; exact Nat.le_of_eq rfl) (hb hby at_168) (fun _ _ => ⟨rfl, e65, (by decide : 1 + 0 ≤ 16), (by decide : 5 + 0 ≤ 128)⟩)
  dsimp only [Pt.U, Pt.locs, Pt.cells, Pt.slots] at X68 l68 y68 z68 st68 hQ68
  subst l68 y68 z68
  obtain ⟨rfl, N68q, e68⟩ := hQ68
  have N68 := Fr.app N65 N68q
  have K68 : ∀ t, Steps p.tables e below (T68.setTop (mkF m 171 #[.val (.int p0), .val (.int p1), .val (.long q2), .second, .val (.ref b2), .val (.int (w0_m11 p0)), .val (.long (0 : Int64)), .second, .val (.long (we1_r1 (0 : Int32) (w0_1 p0))), .second, .val (.long (w0_12 p0)), .second, .val (.long (w0_13 p0)), .second, .unset, .unset, .unset, .unset, .unset, .unset, .unset, .unset, .unset, .unset, .unset, .unset, .unset, .unset] [(.long (w0_14 p0))])) t → Steps p.tables e below S0 t := fun t k => K_67 t (st68 t k)
  have K69 : ∀ t, Steps p.tables e below (T68.setTop (mkF m 173 #[.val (.int p0), .val (.int p1), .val (.long q2), .second, .val (.ref b2), .val (.int (w0_m11 p0)), .val (.long (0 : Int64)), .second, .val (.long (we1_r1 (0 : Int32) (w0_1 p0))), .second, .val (.long (w0_12 p0)), .second, .val (.long (w0_13 p0)), .second, .val (.long (w0_14 p0)), .second, .unset, .unset, .unset, .unset, .unset, .unset, .unset, .unset, .unset, .unset, .unset, .unset] [])) t → Steps p.tables e below S0 t := fun t k => K68 t (by
    refine XS.lstore X68.here hx rfl (hb hby at_171) rfl (l' := #[.val (.int p0), .val (.int p1), .val (.long q2), .second, .val (.ref b2), .val (.int (w0_m11 p0)), .val (.long (0 : Int64)), .second, .val (.long (we1_r1 (0 : Int32) (w0_1 p0))), .second, .val (.long (w0_12 p0)), .second, .val (.long (w0_13 p0)), .second, .val (.long (w0_14 p0)), .second, .unset, .unset, .unset, .unset, .unset, .unset, .unset, .unset, .unset, .unset, .unset, .unset]) rfl ?_
    show Steps p.tables e below (T68.setTop (mkF m 173 #[.val (.int p0), .val (.int p1), .val (.long q2), .second, .val (.ref b2), .val (.int (w0_m11 p0)), .val (.long (0 : Int64)), .second, .val (.long (we1_r1 (0 : Int32) (w0_1 p0))), .second, .val (.long (w0_12 p0)), .second, .val (.long (w0_13 p0)), .second, .val (.long (w0_14 p0)), .second, .unset, .unset, .unset, .unset, .unset, .unset, .unset, .unset, .unset, .unset, .unset, .unset] [])) _
    exact k)
  obtain ⟨T70, h70, X70, e70, E70, A70, D70, -, st70⟩ := newO X68 hx hZ hown (hw _ (List.mem_of_getElem? (i := 9) rfl)) (hw _ (List.mem_of_getElem? (i := 10) rfl)) (hw _ (List.mem_of_getElem? (i := 11) rfl)) e68 (g := (mkF m 173 #[.val (.int p0), .val (.int p1), .val (.long q2), .second, .val (.ref b2), .val (.int (w0_m11 p0)), .val (.long (0 : Int64)), .second, .val (.long (we1_r1 (0 : Int32) (w0_1 p0))), .second, .val (.long (w0_12 p0)), .second, .val (.long (w0_13 p0)), .second, .val (.long (w0_14 p0)), .second, .unset, .unset, .unset, .unset, .unset, .unset, .unset, .unset, .unset, .unset, .unset, .unset] [])) rfl (hb hby at_173) (by decide) (by decide)
  obtain ⟨b70, g70⟩ : ∃ z, z = h44.size := ⟨_, rfl⟩
  rw [← g70] at A70 D70 st70
  have ne_b2_b70 : b2 ≠ b70 := Nat.ne_of_lt (Nat.lt_of_lt_of_le V_b2__44.lt (Nat.le_of_eq g70.symm))
  have V_b2__70 := V_b2__44.ext E70
  have g_b70 : n0 ≤ b70 := Nat.le_trans Zs44 (Nat.le_of_eq g70.symm)
  have Zs70 : n0 ≤ h70.size := Nat.le_trans Zs44 E70.1
  have F_b70_pages : Fld Z h70 b70 "com/example/nearmark/nearmark/paging/Requests" "pages" "[I" .null := D70 (Or.inr (hw _ (List.mem_of_getElem? (i := 19) rfl))) (ty := (.array .int)) (by decide)
  have F_b70_pageCount : Fld Z h70 b70 "com/example/nearmark/nearmark/paging/Requests" "pageCount" "I" (.int (0 : Int32)) := D70 (Or.inr (hw _ (List.mem_of_getElem? (i := 21) rfl))) (ty := .int) (by decide)
  have K70 : ∀ t, Steps p.tables e below (T70.setTop (mkF m 176 #[.val (.int p0), .val (.int p1), .val (.long q2), .second, .val (.ref b2), .val (.int (w0_m11 p0)), .val (.long (0 : Int64)), .second, .val (.long (we1_r1 (0 : Int32) (w0_1 p0))), .second, .val (.long (w0_12 p0)), .second, .val (.long (w0_13 p0)), .second, .val (.long (w0_14 p0)), .second, .unset, .unset, .unset, .unset, .unset, .unset, .unset, .unset, .unset, .unset, .unset, .unset] [(.ref b70)])) t → Steps p.tables e below S0 t := fun t k => K69 t (st70 t k)
  have K71 : ∀ t, Steps p.tables e below (T70.setTop (mkF m 181 #[.val (.int p0), .val (.int p1), .val (.long q2), .second, .val (.ref b2), .val (.int (w0_m11 p0)), .val (.long (0 : Int64)), .second, .val (.long (we1_r1 (0 : Int32) (w0_1 p0))), .second, .val (.long (w0_12 p0)), .second, .val (.long (w0_13 p0)), .second, .val (.long (w0_14 p0)), .second, .unset, .unset, .unset, .unset, .unset, .unset, .unset, .unset, .unset, .unset, .unset, .unset] [(.int (w0_m11 p0)), (.ref b2), (.ref b70), (.ref b70)])) t → Steps p.tables e below S0 t := fun t k => K70 t (by
    refine XS.dup X70.here hx rfl (hb hby at_176) rfl rfl ?_
    show Steps p.tables e below (T70.setTop (mkF m 177 #[.val (.int p0), .val (.int p1), .val (.long q2), .second, .val (.ref b2), .val (.int (w0_m11 p0)), .val (.long (0 : Int64)), .second, .val (.long (we1_r1 (0 : Int32) (w0_1 p0))), .second, .val (.long (w0_12 p0)), .second, .val (.long (w0_13 p0)), .second, .val (.long (w0_14 p0)), .second, .unset, .unset, .unset, .unset, .unset, .unset, .unset, .unset, .unset, .unset, .unset, .unset] [(.ref b70), (.ref b70)])) _
    refine XS.aload X70.here hx rfl (hb hby at_177) rfl rfl ?_
    show Steps p.tables e below (T70.setTop (mkF m 179 #[.val (.int p0), .val (.int p1), .val (.long q2), .second, .val (.ref b2), .val (.int (w0_m11 p0)), .val (.long (0 : Int64)), .second, .val (.long (we1_r1 (0 : Int32) (w0_1 p0))), .second, .val (.long (w0_12 p0)), .second, .val (.long (w0_13 p0)), .second, .val (.long (w0_14 p0)), .second, .unset, .unset, .unset, .unset, .unset, .unset, .unset, .unset, .unset, .unset, .unset, .unset] [(.ref b2), (.ref b70), (.ref b70)])) _
    refine XS.iload X70.here hx rfl (hb hby at_179) rfl ?_
    show Steps p.tables e below (T70.setTop (mkF m 181 #[.val (.int p0), .val (.int p1), .val (.long q2), .second, .val (.ref b2), .val (.int (w0_m11 p0)), .val (.long (0 : Int64)), .second, .val (.long (we1_r1 (0 : Int32) (w0_1 p0))), .second, .val (.long (w0_12 p0)), .second, .val (.long (w0_13 p0)), .second, .val (.long (w0_14 p0)), .second, .unset, .unset, .unset, .unset, .unset, .unset, .unset, .unset, .unset, .unset, .unset, .unset] [(.int (w0_m11 p0)), (.ref b2), (.ref b70), (.ref b70)])) _
    exact k)
  have K_72 : ∀ t, Steps p.tables e below (T70.setTop (mkF m 181 #[.val (.int p0), .val (.int p1), .val (.long q2), .second, .val (.ref b2), .val (.int (w0_m11 p0)), .val (.long (0 : Int64)), .second, .val (.long (we1_r1 (0 : Int32) (w0_1 p0))), .second, .val (.long (w0_12 p0)), .second, .val (.long (w0_13 p0)), .second, .val (.long (w0_14 p0)), .second, .unset, .unset, .unset, .unset, .unset, .unset, .unset, .unset, .unset, .unset, .unset, .unset] [(.int (w0_m11 p0)), (.ref b2), (.ref b70), (.ref b70)])) t → Steps p.tables e below S0 t := K71
  obtain ⟨_, _, ⟨T73, L73, k73, n73⟩, -, X73, ⟨Lc73, hQ73, l73, y73, z73⟩, st73⟩ := X70.specialBack hx (y := (⟨"com/example/nearmark/nearmark/paging/Requests", "<init>", "([II)V"⟩ : MethodName)) rfl hown (mvT hZ (hw _ (List.mem_of_getElem? (i := 12) rfl))) (mvT hZ (hw _ (List.mem_of_getElem? (i := 13) rfl))) (mvT hZ (hw _ (List.mem_of_getElem? (i := 14) rfl))) (by decide) (backOf (W := 1) (rmri l Z a0 hw [] b70 b2 (w0_m11 p0) h70 n0 Zs70 A70 F_b70_pages F_b70_pageCount g_b70) hZ (hw _ (List.mem_of_getElem? (i := 14) rfl)) (hw _ (List.mem_of_getElem? (i := 11) rfl)) (by decide) (by decide)) (g := (mkF m 181 #[.val (.int p0), .val (.int p1), .val (.long q2), .second, .val (.ref b2), .val (.int (w0_m11 p0)), .val (.long (0 : Int64)), .second, .val (.long (we1_r1 (0 : Int32) (w0_1 p0))), .second, .val (.long (w0_12 p0)), .second, .val (.long (w0_13 p0)), .second, .val (.long (w0_14 p0)), .second, .unset, .unset, .unset, .unset, .unset, .unset, .unset, .unset, .unset, .unset, .unset, .unset] [(.int (w0_m11 p0)), (.ref b2), (.ref b70), (.ref b70)])) rfl (by rw [hml]; rfl) (Steps.refl _) (a := b70) (argsL := [(.ref b2), (.int (w0_m11 p0))]) (rest := [(.ref b70)]) (lenOf pd0_1 rfl) rfl (by show 2 * 0 + _ ≤ _; exact Nat.le_of_eq rfl) (hb hby at_181) (fun _ _ => ⟨rfl, e70, (by decide : 2 + 0 ≤ 16), (by decide : 7 + 0 ≤ 128)⟩)
  dsimp only [Pt.U, Pt.locs, Pt.cells, Pt.slots] at X73 l73 y73 z73 st73 hQ73
  subst l73 y73 z73
  obtain ⟨rfl, N73q, Kp73, Fn73_0, Fn73_1, Fn73_2⟩ := hQ73
  have N73 := Fr.app N68 N73q
  have V_b2__73 := V_b2__70.keep Kp73 (ninS ne_b2_b70 nin0)
  have Zs73 : n0 ≤ T73.heap.size := Nat.le_trans Zs70 Kp73.1
  have K73 : ∀ t, Steps p.tables e below (T73.setTop (mkF m 184 #[.val (.int p0), .val (.int p1), .val (.long q2), .second, .val (.ref b2), .val (.int (w0_m11 p0)), .val (.long (0 : Int64)), .second, .val (.long (we1_r1 (0 : Int32) (w0_1 p0))), .second, .val (.long (w0_12 p0)), .second, .val (.long (w0_13 p0)), .second, .val (.long (w0_14 p0)), .second, .unset, .unset, .unset, .unset, .unset, .unset, .unset, .unset, .unset, .unset, .unset, .unset] [(.ref b70)])) t → Steps p.tables e below S0 t := fun t k => K_72 t (st73.trans k)
  have K74 : ∀ t, Steps p.tables e below (T73.setTop (mkF m 186 #[.val (.int p0), .val (.int p1), .val (.long q2), .second, .val (.ref b2), .val (.int (w0_m11 p0)), .val (.long (0 : Int64)), .second, .val (.long (we1_r1 (0 : Int32) (w0_1 p0))), .second, .val (.long (w0_12 p0)), .second, .val (.long (w0_13 p0)), .second, .val (.long (w0_14 p0)), .second, .val (.ref b70), .unset, .unset, .unset, .unset, .unset, .unset, .unset, .unset, .unset, .unset, .unset] [])) t → Steps p.tables e below S0 t := fun t k => K73 t (by
    refine XS.astore X73.here hx rfl (hb hby at_184) rfl rfl (l' := #[.val (.int p0), .val (.int p1), .val (.long q2), .second, .val (.ref b2), .val (.int (w0_m11 p0)), .val (.long (0 : Int64)), .second, .val (.long (we1_r1 (0 : Int32) (w0_1 p0))), .second, .val (.long (w0_12 p0)), .second, .val (.long (w0_13 p0)), .second, .val (.long (w0_14 p0)), .second, .val (.ref b70), .unset, .unset, .unset, .unset, .unset, .unset, .unset, .unset, .unset, .unset, .unset]) rfl ?_
    show Steps p.tables e below (T73.setTop (mkF m 186 #[.val (.int p0), .val (.int p1), .val (.long q2), .second, .val (.ref b2), .val (.int (w0_m11 p0)), .val (.long (0 : Int64)), .second, .val (.long (we1_r1 (0 : Int32) (w0_1 p0))), .second, .val (.long (w0_12 p0)), .second, .val (.long (w0_13 p0)), .second, .val (.long (w0_14 p0)), .second, .val (.ref b70), .unset, .unset, .unset, .unset, .unset, .unset, .unset, .unset, .unset, .unset, .unset] [])) _
    exact k)
  obtain ⟨T75, h75, X75, e75, E75, A75, D75, -, st75⟩ := newO X73 hx hZ hown (hw _ (List.mem_of_getElem? (i := 22) rfl)) (hw _ (List.mem_of_getElem? (i := 23) rfl)) (hw _ (List.mem_of_getElem? (i := 24) rfl)) rfl (g := (mkF m 186 #[.val (.int p0), .val (.int p1), .val (.long q2), .second, .val (.ref b2), .val (.int (w0_m11 p0)), .val (.long (0 : Int64)), .second, .val (.long (we1_r1 (0 : Int32) (w0_1 p0))), .second, .val (.long (w0_12 p0)), .second, .val (.long (w0_13 p0)), .second, .val (.long (w0_14 p0)), .second, .val (.ref b70), .unset, .unset, .unset, .unset, .unset, .unset, .unset, .unset, .unset, .unset, .unset] [])) rfl (hb hby at_186) (by decide) (by decide)
  obtain ⟨b75, g75⟩ : ∃ z, z = T73.heap.size := ⟨_, rfl⟩
  rw [← g75] at A75 D75 st75
  have ne_b2_b75 : b2 ≠ b75 := Nat.ne_of_lt (Nat.lt_of_lt_of_le V_b2__73.lt (Nat.le_of_eq g75.symm))
  have ne_b70_b75 : b70 ≠ b75 := Nat.ne_of_lt (Nat.lt_of_lt_of_le Fn73_0.lt (Nat.le_of_eq g75.symm))
  have V_b2__75 := V_b2__73.ext E75
  have Fn73_0__75 := Fn73_0.ext E75
  have Fn73_1__75 := Fn73_1.ext E75
  have Fn73_2__75 := Fn73_2.ext E75
  have g_b75 : n0 ≤ b75 := Nat.le_trans Zs73 (Nat.le_of_eq g75.symm)
  have Zs75 : n0 ≤ h75.size := Nat.le_trans Zs73 E75.1
  have F_b75_requests : Fld Z h75 b75 "com/example/nearmark/nearmark/paging/LeastRecentlyUsed2" "requests" "Lcom/example/nearmark/nearmark/paging/Requests;" .null := D75 (Or.inr (hw _ (List.mem_of_getElem? (i := 30) rfl))) (ty := (.object "com/example/nearmark/nearmark/paging/Requests")) (by decide)
  have F_b75_lastRequest : Fld Z h75 b75 "com/example/nearmark/nearmark/paging/LeastRecentlyUsed2" "lastRequest" "[I" .null := D75 (Or.inr (hw _ (List.mem_of_getElem? (i := 37) rfl))) (ty := (.array .int)) (by decide)
  have K75 : ∀ t, Steps p.tables e below (T75.setTop (mkF m 189 #[.val (.int p0), .val (.int p1), .val (.long q2), .second, .val (.ref b2), .val (.int (w0_m11 p0)), .val (.long (0 : Int64)), .second, .val (.long (we1_r1 (0 : Int32) (w0_1 p0))), .second, .val (.long (w0_12 p0)), .second, .val (.long (w0_13 p0)), .second, .val (.long (w0_14 p0)), .second, .val (.ref b70), .unset, .unset, .unset, .unset, .unset, .unset, .unset, .unset, .unset, .unset, .unset] [(.ref b75)])) t → Steps p.tables e below S0 t := fun t k => K74 t (st75 t k)
  have K76 : ∀ t, Steps p.tables e below (T75.setTop (mkF m 192 #[.val (.int p0), .val (.int p1), .val (.long q2), .second, .val (.ref b2), .val (.int (w0_m11 p0)), .val (.long (0 : Int64)), .second, .val (.long (we1_r1 (0 : Int32) (w0_1 p0))), .second, .val (.long (w0_12 p0)), .second, .val (.long (w0_13 p0)), .second, .val (.long (w0_14 p0)), .second, .val (.ref b70), .unset, .unset, .unset, .unset, .unset, .unset, .unset, .unset, .unset, .unset, .unset] [(.ref b70), (.ref b75), (.ref b75)])) t → Steps p.tables e below S0 t := fun t k => K75 t (by
    refine XS.dup X75.here hx rfl (hb hby at_189) rfl rfl ?_
    show Steps p.tables e below (T75.setTop (mkF m 190 #[.val (.int p0), .val (.int p1), .val (.long q2), .second, .val (.ref b2), .val (.int (w0_m11 p0)), .val (.long (0 : Int64)), .second, .val (.long (we1_r1 (0 : Int32) (w0_1 p0))), .second, .val (.long (w0_12 p0)), .second, .val (.long (w0_13 p0)), .second, .val (.long (w0_14 p0)), .second, .val (.ref b70), .unset, .unset, .unset, .unset, .unset, .unset, .unset, .unset, .unset, .unset, .unset] [(.ref b75), (.ref b75)])) _
    refine XS.aload X75.here hx rfl (hb hby at_190) rfl rfl ?_
    show Steps p.tables e below (T75.setTop (mkF m 192 #[.val (.int p0), .val (.int p1), .val (.long q2), .second, .val (.ref b2), .val (.int (w0_m11 p0)), .val (.long (0 : Int64)), .second, .val (.long (we1_r1 (0 : Int32) (w0_1 p0))), .second, .val (.long (w0_12 p0)), .second, .val (.long (w0_13 p0)), .second, .val (.long (w0_14 p0)), .second, .val (.ref b70), .unset, .unset, .unset, .unset, .unset, .unset, .unset, .unset, .unset, .unset, .unset] [(.ref b70), (.ref b75), (.ref b75)])) _
    exact k)
  have K_77 : ∀ t, Steps p.tables e below (T75.setTop (mkF m 192 #[.val (.int p0), .val (.int p1), .val (.long q2), .second, .val (.ref b2), .val (.int (w0_m11 p0)), .val (.long (0 : Int64)), .second, .val (.long (we1_r1 (0 : Int32) (w0_1 p0))), .second, .val (.long (w0_12 p0)), .second, .val (.long (w0_13 p0)), .second, .val (.long (w0_14 p0)), .second, .val (.ref b70), .unset, .unset, .unset, .unset, .unset, .unset, .unset, .unset, .unset, .unset, .unset] [(.ref b70), (.ref b75), (.ref b75)])) t → Steps p.tables e below S0 t := K76
  obtain ⟨_, _, ⟨T78, L78, k78, n78⟩, -, X78, ⟨Lc78, hQ78, l78, y78, z78⟩, st78⟩ := X75.specialBack hx (y := (⟨"com/example/nearmark/nearmark/paging/LeastRecentlyUsed2", "<init>", "(Lcom/example/nearmark/nearmark/paging/Requests;)V"⟩ : MethodName)) rfl hown (mvT hZ (hw _ (List.mem_of_getElem? (i := 25) rfl))) (mvT hZ (hw _ (List.mem_of_getElem? (i := 26) rfl))) (mvT hZ (hw _ (List.mem_of_getElem? (i := 27) rfl))) (by decide) (backOf (W := 1) (rmli l Z a0 hw [] b75 b70 (w0_m11 p0) h75 n0 Zs75 A75 F_b75_requests F_b75_lastRequest g_b75 Fn73_0__75 Fn73_2__75 (own_m0 p0) (own_m5 p0) (Ne.symm ne_b70_b75)) hZ (hw _ (List.mem_of_getElem? (i := 27) rfl)) (hw _ (List.mem_of_getElem? (i := 24) rfl)) (by decide) (by decide)) (g := (mkF m 192 #[.val (.int p0), .val (.int p1), .val (.long q2), .second, .val (.ref b2), .val (.int (w0_m11 p0)), .val (.long (0 : Int64)), .second, .val (.long (we1_r1 (0 : Int32) (w0_1 p0))), .second, .val (.long (w0_12 p0)), .second, .val (.long (w0_13 p0)), .second, .val (.long (w0_14 p0)), .second, .val (.ref b70), .unset, .unset, .unset, .unset, .unset, .unset, .unset, .unset, .unset, .unset, .unset] [(.ref b70), (.ref b75), (.ref b75)])) rfl (by rw [hml]; rfl) (Steps.refl _) (a := b75) (argsL := [(.ref b70)]) (rest := [(.ref b75)]) (lenOf pd0_2 rfl) rfl (by show 2 * 0 + _ ≤ _; exact Nat.le_of_eq rfl) (hb hby at_192) (fun _ _ => ⟨rfl, e75, (by decide : 3 + 1 ≤ 16), (by decide : 9 + 5 ≤ 128)⟩)
  dsimp only [Pt.U, Pt.locs, Pt.cells, Pt.slots] at X78 l78 y78 z78 st78 hQ78
  subst l78 y78 z78
  obtain ⟨b78_9, kn78_0, rfl, N78q, Kp78, lb_b78_9, Fn78_0, Fn78_1, Fn78_2, Fn78_3⟩ := hQ78
  have N78 := Fr.app N73 N78q
  have g_b78_9 : n0 ≤ b78_9 := Nat.le_trans Zs75 lb_b78_9
  have ne_b2_b78_9 : b2 ≠ b78_9 := Nat.ne_of_lt (Nat.lt_of_lt_of_le V_b2__75.lt lb_b78_9)
  have ne_b70_b78_9 : b70 ≠ b78_9 := Nat.ne_of_lt (Nat.lt_of_lt_of_le Fn73_0__75.lt lb_b78_9)
  have ne_b75_b78_9 : b75 ≠ b78_9 := Nat.ne_of_lt (Nat.lt_of_lt_of_le A75.lt lb_b78_9)
  have V_b2__78 := V_b2__75.keep Kp78 (ninS ne_b2_b75 nin0)
  have Fn73_0__78 := Fn73_0__75.keep Kp78
  have Fn73_1__78 := Fn73_1__75.keep Kp78 (ninS ne_b70_b75 nin0)
  have Fn73_2__78 := Fn73_2__75.keep Kp78 (ninS ne_b70_b75 nin0)
  have Zs78 : n0 ≤ T78.heap.size := Nat.le_trans Zs75 Kp78.1
  have K78 : ∀ t, Steps p.tables e below (T78.setTop (mkF m 195 #[.val (.int p0), .val (.int p1), .val (.long q2), .second, .val (.ref b2), .val (.int (w0_m11 p0)), .val (.long (0 : Int64)), .second, .val (.long (we1_r1 (0 : Int32) (w0_1 p0))), .second, .val (.long (w0_12 p0)), .second, .val (.long (w0_13 p0)), .second, .val (.long (w0_14 p0)), .second, .val (.ref b70), .unset, .unset, .unset, .unset, .unset, .unset, .unset, .unset, .unset, .unset, .unset] [(.ref b75)])) t → Steps p.tables e below S0 t := fun t k => K_77 t (st78.trans k)
  have K79 : ∀ t, Steps p.tables e below (T78.setTop (mkF m 203 #[.val (.int p0), .val (.int p1), .val (.long q2), .second, .val (.ref b2), .val (.int (w0_m11 p0)), .val (.long (0 : Int64)), .second, .val (.long (we1_r1 (0 : Int32) (w0_1 p0))), .second, .val (.long (w0_12 p0)), .second, .val (.long (w0_13 p0)), .second, .val (.long (w0_14 p0)), .second, .val (.ref b70), .val (.ref b75), .unset, .unset, .unset, .unset, .unset, .unset, .unset, .unset, .unset, .unset] [(.int (p1 &&& (1 : Int32))), (.int (0 : Int32)), (.ref b75)])) t → Steps p.tables e below S0 t := fun t k => K78 t (by
    refine XS.astore X78.here hx rfl (hb hby at_195) rfl rfl (l' := #[.val (.int p0), .val (.int p1), .val (.long q2), .second, .val (.ref b2), .val (.int (w0_m11 p0)), .val (.long (0 : Int64)), .second, .val (.long (we1_r1 (0 : Int32) (w0_1 p0))), .second, .val (.long (w0_12 p0)), .second, .val (.long (w0_13 p0)), .second, .val (.long (w0_14 p0)), .second, .val (.ref b70), .val (.ref b75), .unset, .unset, .unset, .unset, .unset, .unset, .unset, .unset, .unset, .unset]) rfl ?_
    show Steps p.tables e below (T78.setTop (mkF m 197 #[.val (.int p0), .val (.int p1), .val (.long q2), .second, .val (.ref b2), .val (.int (w0_m11 p0)), .val (.long (0 : Int64)), .second, .val (.long (we1_r1 (0 : Int32) (w0_1 p0))), .second, .val (.long (w0_12 p0)), .second, .val (.long (w0_13 p0)), .second, .val (.long (w0_14 p0)), .second, .val (.ref b70), .val (.ref b75), .unset, .unset, .unset, .unset, .unset, .unset, .unset, .unset, .unset, .unset] [])) _
    refine XS.aload X78.here hx rfl (hb hby at_197) rfl rfl ?_
    show Steps p.tables e below (T78.setTop (mkF m 199 #[.val (.int p0), .val (.int p1), .val (.long q2), .second, .val (.ref b2), .val (.int (w0_m11 p0)), .val (.long (0 : Int64)), .second, .val (.long (we1_r1 (0 : Int32) (w0_1 p0))), .second, .val (.long (w0_12 p0)), .second, .val (.long (w0_13 p0)), .second, .val (.long (w0_14 p0)), .second, .val (.ref b70), .val (.ref b75), .unset, .unset, .unset, .unset, .unset, .unset, .unset, .unset, .unset, .unset] [(.ref b75)])) _
    refine XS.iconst X78.here hx rfl (hb hby at_199) ?_
    show Steps p.tables e below (T78.setTop (mkF m 200 #[.val (.int p0), .val (.int p1), .val (.long q2), .second, .val (.ref b2), .val (.int (w0_m11 p0)), .val (.long (0 : Int64)), .second, .val (.long (we1_r1 (0 : Int32) (w0_1 p0))), .second, .val (.long (w0_12 p0)), .second, .val (.long (w0_13 p0)), .second, .val (.long (w0_14 p0)), .second, .val (.ref b70), .val (.ref b75), .unset, .unset, .unset, .unset, .unset, .unset, .unset, .unset, .unset, .unset] [(.int (0 : Int32)), (.ref b75)])) _
    refine XS.iloadN X78.here hx rfl (hb hby at_200) rfl ?_
    show Steps p.tables e below (T78.setTop (mkF m 201 #[.val (.int p0), .val (.int p1), .val (.long q2), .second, .val (.ref b2), .val (.int (w0_m11 p0)), .val (.long (0 : Int64)), .second, .val (.long (we1_r1 (0 : Int32) (w0_1 p0))), .second, .val (.long (w0_12 p0)), .second, .val (.long (w0_13 p0)), .second, .val (.long (w0_14 p0)), .second, .val (.ref b70), .val (.ref b75), .unset, .unset, .unset, .unset, .unset, .unset, .unset, .unset, .unset, .unset] [(.int p1), (.int (0 : Int32)), (.ref b75)])) _
    refine XS.iconst X78.here hx rfl (hb hby at_201) ?_
    show Steps p.tables e below (T78.setTop (mkF m 202 #[.val (.int p0), .val (.int p1), .val (.long q2), .second, .val (.ref b2), .val (.int (w0_m11 p0)), .val (.long (0 : Int64)), .second, .val (.long (we1_r1 (0 : Int32) (w0_1 p0))), .second, .val (.long (w0_12 p0)), .second, .val (.long (w0_13 p0)), .second, .val (.long (w0_14 p0)), .second, .val (.ref b70), .val (.ref b75), .unset, .unset, .unset, .unset, .unset, .unset, .unset, .unset, .unset, .unset] [(.int (1 : Int32)), (.int p1), (.int (0 : Int32)), (.ref b75)])) _
    refine XS.iand X78.here hx rfl (hb hby at_202) rfl ?_
    show Steps p.tables e below (T78.setTop (mkF m 203 #[.val (.int p0), .val (.int p1), .val (.long q2), .second, .val (.ref b2), .val (.int (w0_m11 p0)), .val (.long (0 : Int64)), .second, .val (.long (we1_r1 (0 : Int32) (w0_1 p0))), .second, .val (.long (w0_12 p0)), .second, .val (.long (w0_13 p0)), .second, .val (.long (w0_14 p0)), .second, .val (.ref b70), .val (.ref b75), .unset, .unset, .unset, .unset, .unset, .unset, .unset, .unset, .unset, .unset] [(.int (p1 &&& (1 : Int32))), (.int (0 : Int32)), (.ref b75)])) _
    exact k)
  obtain ⟨T80, lo80, X80, N80, e80, K80⟩ : ∃ (T' : State) (locs' : List Loc), Stand p l e room_1 s m #[(.int p0), (.int p1), (.long q2)] below meth c T' locs' 4 14 ∧ Fr n0 locs' ∧ T'.heap = T78.heap ∧ ∀ t, Steps p.tables e below (T'.setTop (mkF m 211 #[.val (.int p0), .val (.int p1), .val (.long q2), .second, .val (.ref b2), .val (.int (w0_m11 p0)), .val (.long (0 : Int64)), .second, .val (.long (we1_r1 (0 : Int32) (w0_1 p0))), .second, .val (.long (w0_12 p0)), .second, .val (.long (w0_13 p0)), .second, .val (.long (w0_14 p0)), .second, .val (.ref b70), .val (.ref b75), .unset, .unset, .unset, .unset, .unset, .unset, .unset, .unset, .unset, .unset] [(.int (w0_m15 p1)), (.int (0 : Int32)), (.ref b75)])) t → Steps p.tables e below S0 t := by
    by_cases hc203_0 : (p1 &&& (1 : Int32)) = (0 : Int32)
    · -- yes
      have K81 : ∀ t, Steps p.tables e below (T78.setTop (mkF m 211 #[.val (.int p0), .val (.int p1), .val (.long q2), .second, .val (.ref b2), .val (.int (w0_m11 p0)), .val (.long (0 : Int64)), .second, .val (.long (we1_r1 (0 : Int32) (w0_1 p0))), .second, .val (.long (w0_12 p0)), .second, .val (.long (w0_13 p0)), .second, .val (.long (w0_14 p0)), .second, .val (.ref b70), .val (.ref b75), .unset, .unset, .unset, .unset, .unset, .unset, .unset, .unset, .unset, .unset] [(.int (0 : Int32)), (.int (0 : Int32)), (.ref b75)])) t → Steps p.tables e below S0 t := fun t k => K79 t (by
        refine XS.ifYes X78.here hx rfl (pc0 := 203) (pc' := 210) rfl (hb hby at_203) rfl (XT.i0_eq_t hc203_0) (by decide) (by decide) ?_
        show Steps p.tables e below (T78.setTop (mkF m 210 #[.val (.int p0), .val (.int p1), .val (.long q2), .second, .val (.ref b2), .val (.int (w0_m11 p0)), .val (.long (0 : Int64)), .second, .val (.long (we1_r1 (0 : Int32) (w0_1 p0))), .second, .val (.long (w0_12 p0)), .second, .val (.long (w0_13 p0)), .second, .val (.long (w0_14 p0)), .second, .val (.ref b70), .val (.ref b75), .unset, .unset, .unset, .unset, .unset, .unset, .unset, .unset, .unset, .unset] [(.int (0 : Int32)), (.ref b75)])) _
        refine XS.iconst X78.here hx rfl (hb hby at_210) ?_
        show Steps p.tables e below (T78.setTop (mkF m 211 #[.val (.int p0), .val (.int p1), .val (.long q2), .second, .val (.ref b2), .val (.int (w0_m11 p0)), .val (.long (0 : Int64)), .second, .val (.long (we1_r1 (0 : Int32) (w0_1 p0))), .second, .val (.long (w0_12 p0)), .second, .val (.long (w0_13 p0)), .second, .val (.long (w0_14 p0)), .second, .val (.ref b70), .val (.ref b75), .unset, .unset, .unset, .unset, .unset, .unset, .unset, .unset, .unset, .unset] [(.int (0 : Int32)), (.int (0 : Int32)), (.ref b75)])) _
        exact k)
      have q82 : (w0_m15 p1) = (0 : Int32) := by unfold w0_m15; rw [if_pos hc203_0]
      exact ⟨T78, _, X78, N78, rfl, fun t k => K81 t (by rw [q82] at k; exact k)⟩
    · -- no
      have K83 : ∀ t, Steps p.tables e below (T78.setTop (mkF m 211 #[.val (.int p0), .val (.int p1), .val (.long q2), .second, .val (.ref b2), .val (.int (w0_m11 p0)), .val (.long (0 : Int64)), .second, .val (.long (we1_r1 (0 : Int32) (w0_1 p0))), .second, .val (.long (w0_12 p0)), .second, .val (.long (w0_13 p0)), .second, .val (.long (w0_14 p0)), .second, .val (.ref b70), .val (.ref b75), .unset, .unset, .unset, .unset, .unset, .unset, .unset, .unset, .unset, .unset] [(.int (1 : Int32)), (.int (0 : Int32)), (.ref b75)])) t → Steps p.tables e below S0 t := fun t k => K79 t (by
        refine XS.ifNo X78.here hx rfl (hb hby at_203) rfl (XT.i0_eq_f hc203_0) ?_
        show Steps p.tables e below (T78.setTop (mkF m 206 #[.val (.int p0), .val (.int p1), .val (.long q2), .second, .val (.ref b2), .val (.int (w0_m11 p0)), .val (.long (0 : Int64)), .second, .val (.long (we1_r1 (0 : Int32) (w0_1 p0))), .second, .val (.long (w0_12 p0)), .second, .val (.long (w0_13 p0)), .second, .val (.long (w0_14 p0)), .second, .val (.ref b70), .val (.ref b75), .unset, .unset, .unset, .unset, .unset, .unset, .unset, .unset, .unset, .unset] [(.int (0 : Int32)), (.ref b75)])) _
        refine XS.iconst X78.here hx rfl (hb hby at_206) ?_
        show Steps p.tables e below (T78.setTop (mkF m 207 #[.val (.int p0), .val (.int p1), .val (.long q2), .second, .val (.ref b2), .val (.int (w0_m11 p0)), .val (.long (0 : Int64)), .second, .val (.long (we1_r1 (0 : Int32) (w0_1 p0))), .second, .val (.long (w0_12 p0)), .second, .val (.long (w0_13 p0)), .second, .val (.long (w0_14 p0)), .second, .val (.ref b70), .val (.ref b75), .unset, .unset, .unset, .unset, .unset, .unset, .unset, .unset, .unset, .unset] [(.int (1 : Int32)), (.int (0 : Int32)), (.ref b75)])) _
        refine XS.goto X78.here hx rfl (pc0 := 207) (pc' := 211) rfl (hb hby at_207) (by decide) (by decide) ?_
        show Steps p.tables e below (T78.setTop (mkF m 211 #[.val (.int p0), .val (.int p1), .val (.long q2), .second, .val (.ref b2), .val (.int (w0_m11 p0)), .val (.long (0 : Int64)), .second, .val (.long (we1_r1 (0 : Int32) (w0_1 p0))), .second, .val (.long (w0_12 p0)), .second, .val (.long (w0_13 p0)), .second, .val (.long (w0_14 p0)), .second, .val (.ref b70), .val (.ref b75), .unset, .unset, .unset, .unset, .unset, .unset, .unset, .unset, .unset, .unset] [(.int (1 : Int32)), (.int (0 : Int32)), (.ref b75)])) _
        exact k)
      have q84 : (w0_m15 p1) = (1 : Int32) := by unfold w0_m15; rw [if_neg hc203_0]
      exact ⟨T78, _, X78, N78, rfl, fun t k => K83 t (by rw [q84] at k; exact k)⟩
  have K85 : ∀ t, Steps p.tables e below (T80.setTop (mkF m 212 #[.val (.int p0), .val (.int p1), .val (.long q2), .second, .val (.ref b2), .val (.int (w0_m11 p0)), .val (.long (0 : Int64)), .second, .val (.long (we1_r1 (0 : Int32) (w0_1 p0))), .second, .val (.long (w0_12 p0)), .second, .val (.long (w0_13 p0)), .second, .val (.long (w0_14 p0)), .second, .val (.ref b70), .val (.ref b75), .unset, .unset, .unset, .unset, .unset, .unset, .unset, .unset, .unset, .unset] [(.long q2), (.int (w0_m15 p1)), (.int (0 : Int32)), (.ref b75)])) t → Steps p.tables e below S0 t := fun t k => K80 t (by
    refine XS.lloadN X80.here hx rfl (hb hby at_211) rfl ?_
    show Steps p.tables e below (T80.setTop (mkF m 212 #[.val (.int p0), .val (.int p1), .val (.long q2), .second, .val (.ref b2), .val (.int (w0_m11 p0)), .val (.long (0 : Int64)), .second, .val (.long (we1_r1 (0 : Int32) (w0_1 p0))), .second, .val (.long (w0_12 p0)), .second, .val (.long (w0_13 p0)), .second, .val (.long (w0_14 p0)), .second, .val (.ref b70), .val (.ref b75), .unset, .unset, .unset, .unset, .unset, .unset, .unset, .unset, .unset, .unset] [(.long q2), (.int (w0_m15 p1)), (.int (0 : Int32)), (.ref b75)])) _
    exact k)
  have K_86 : ∀ t, Steps p.tables e below (T80.setTop (mkF m 212 #[.val (.int p0), .val (.int p1), .val (.long q2), .second, .val (.ref b2), .val (.int (w0_m11 p0)), .val (.long (0 : Int64)), .second, .val (.long (we1_r1 (0 : Int32) (w0_1 p0))), .second, .val (.long (w0_12 p0)), .second, .val (.long (w0_13 p0)), .second, .val (.long (w0_14 p0)), .second, .val (.ref b70), .val (.ref b75), .unset, .unset, .unset, .unset, .unset, .unset, .unset, .unset, .unset, .unset] [(.long q2), (.int (w0_m15 p1)), (.int (0 : Int32)), (.ref b75)])) t → Steps p.tables e below S0 t := K85
  obtain ⟨cq87, kq87, q87a, q87b, q87c⟩ := isOf hZ e80 Fn78_0
  obtain ⟨_, _, ⟨T87, L87, k87, n87⟩, -, X87, ⟨Lc87, hQ87, l87, y87, z87⟩, st87⟩ := X80.virtualBack hx (y := (⟨"com/example/nearmark/nearmark/paging/LeastRecentlyUsed2", "rank", "(IZJ)J"⟩ : MethodName)) (z := (⟨"com/example/nearmark/nearmark/paging/LeastRecentlyUsed2", "rank", "(IZJ)J"⟩ : MethodName)) hown (mvT hZ (hw _ (List.mem_of_getElem? (i := 42) rfl))) (mvT hZ (hw _ (List.mem_of_getElem? (i := 43) rfl))) (notFace_of_selects (args := #[]) (mvT hZ (hw _ (List.mem_of_getElem? (i := 45) rfl)))) (mvT hZ (hw _ (List.mem_of_getElem? (i := 45) rfl))) (mvT hZ (hw _ (List.mem_of_getElem? (i := 44) rfl))) (by decide) (backOf (W := 0) (rmrk0 l Z a0 hw [] b75 (w0_m15 p1) q2 b70 b2 b78_9 k2 kn78_0 (w0_m11 p0) (0 : Int32) (w0_1 p0) (w0_4 p0) (w0_7 p0) (w0_10 p0) (-1 : Int32) (-1 : Int32) (-1 : Int32) (-1 : Int32) (-1 : Int32) T78.heap n0 Zs78 Fn78_1 Fn78_2 Fn73_0__78 Fn73_1__78 V_b2__78 Fn78_3 g_b78_9 (own_in0 p0) (own_m5 p0) ne_b75_b78_9 ne_b70_b78_9 ne_b2_b78_9) hZ (hw _ (List.mem_of_getElem? (i := 46) rfl)) (hw _ (List.mem_of_getElem? (i := 24) rfl)) (by decide) (by decide)) q87a q87c (g := (mkF m 212 #[.val (.int p0), .val (.int p1), .val (.long q2), .second, .val (.ref b2), .val (.int (w0_m11 p0)), .val (.long (0 : Int64)), .second, .val (.long (we1_r1 (0 : Int32) (w0_1 p0))), .second, .val (.long (w0_12 p0)), .second, .val (.long (w0_13 p0)), .second, .val (.long (w0_14 p0)), .second, .val (.ref b70), .val (.ref b75), .unset, .unset, .unset, .unset, .unset, .unset, .unset, .unset, .unset, .unset] [(.long q2), (.int (w0_m15 p1)), (.int (0 : Int32)), (.ref b75)])) rfl (by rw [hml]; rfl) (Steps.refl _) (argsL := [(.int (0 : Int32)), (.int (w0_m15 p1)), (.long q2)]) (rest := []) (lenOf pd0_3 rfl) rfl (by show 2 * 0 + _ ≤ _; exact Nat.le_of_eq rfl) (hb hby at_212) (fun _ _ => ⟨rfl, e80, (by decide : 4 + 0 ≤ 16), (by decide : 14 + 0 ≤ 128)⟩)
  dsimp only [Pt.U, Pt.locs, Pt.cells, Pt.slots] at X87 l87 y87 z87 st87 hQ87
  subst l87 y87 z87
  obtain ⟨rfl, N87q, Kp87, Fn87_0⟩ := hQ87
  have N87 := Fr.app N80 N87q
  have V_b2__87 := V_b2__78.keep Kp87 (ninS ne_b2_b78_9 nin0)
  have Fn73_0__87 := Fn73_0__78.keep Kp87
  have Fn73_1__87 := Fn73_1__78.keep Kp87 (ninS ne_b70_b78_9 nin0)
  have Fn73_2__87 := Fn73_2__78.keep Kp87 (ninS ne_b70_b78_9 nin0)
  have Fn78_0__87 := Fn78_0.keep Kp87
  have Fn78_1__87 := Fn78_1.keep Kp87 (ninS ne_b75_b78_9 nin0)
  have Fn78_2__87 := Fn78_2.keep Kp87 (ninS ne_b75_b78_9 nin0)
  have Zs87 : n0 ≤ T87.heap.size := Nat.le_trans Zs78 Kp87.1
  have K87 : ∀ t, Steps p.tables e below (T87.setTop (mkF m 215 #[.val (.int p0), .val (.int p1), .val (.long q2), .second, .val (.ref b2), .val (.int (w0_m11 p0)), .val (.long (0 : Int64)), .second, .val (.long (we1_r1 (0 : Int32) (w0_1 p0))), .second, .val (.long (w0_12 p0)), .second, .val (.long (w0_13 p0)), .second, .val (.long (w0_14 p0)), .second, .val (.ref b70), .val (.ref b75), .unset, .unset, .unset, .unset, .unset, .unset, .unset, .unset, .unset, .unset] [(.long w0_16)])) t → Steps p.tables e below S0 t := fun t k => K_86 t (st87.trans k)
  have K88 : ∀ t, Steps p.tables e below (T87.setTop (mkF m 223 #[.val (.int p0), .val (.int p1), .val (.long q2), .second, .val (.ref b2), .val (.int (w0_m11 p0)), .val (.long (0 : Int64)), .second, .val (.long (we1_r1 (0 : Int32) (w0_1 p0))), .second, .val (.long (w0_12 p0)), .second, .val (.long (w0_13 p0)), .second, .val (.long (w0_14 p0)), .second, .val (.ref b70), .val (.ref b75), .val (.long w0_16), .second, .unset, .unset, .unset, .unset, .unset, .unset, .unset, .unset] [(.int (p1 &&& (2 : Int32))), (.int (1 : Int32)), (.ref b75)])) t → Steps p.tables e below S0 t := fun t k => K87 t (by
    refine XS.lstore X87.here hx rfl (hb hby at_215) rfl (l' := #[.val (.int p0), .val (.int p1), .val (.long q2), .second, .val (.ref b2), .val (.int (w0_m11 p0)), .val (.long (0 : Int64)), .second, .val (.long (we1_r1 (0 : Int32) (w0_1 p0))), .second, .val (.long (w0_12 p0)), .second, .val (.long (w0_13 p0)), .second, .val (.long (w0_14 p0)), .second, .val (.ref b70), .val (.ref b75), .val (.long w0_16), .second, .unset, .unset, .unset, .unset, .unset, .unset, .unset, .unset]) rfl ?_
    show Steps p.tables e below (T87.setTop (mkF m 217 #[.val (.int p0), .val (.int p1), .val (.long q2), .second, .val (.ref b2), .val (.int (w0_m11 p0)), .val (.long (0 : Int64)), .second, .val (.long (we1_r1 (0 : Int32) (w0_1 p0))), .second, .val (.long (w0_12 p0)), .second, .val (.long (w0_13 p0)), .second, .val (.long (w0_14 p0)), .second, .val (.ref b70), .val (.ref b75), .val (.long w0_16), .second, .unset, .unset, .unset, .unset, .unset, .unset, .unset, .unset] [])) _
    refine XS.aload X87.here hx rfl (hb hby at_217) rfl rfl ?_
    show Steps p.tables e below (T87.setTop (mkF m 219 #[.val (.int p0), .val (.int p1), .val (.long q2), .second, .val (.ref b2), .val (.int (w0_m11 p0)), .val (.long (0 : Int64)), .second, .val (.long (we1_r1 (0 : Int32) (w0_1 p0))), .second, .val (.long (w0_12 p0)), .second, .val (.long (w0_13 p0)), .second, .val (.long (w0_14 p0)), .second, .val (.ref b70), .val (.ref b75), .val (.long w0_16), .second, .unset, .unset, .unset, .unset, .unset, .unset, .unset, .unset] [(.ref b75)])) _
    refine XS.iconst X87.here hx rfl (hb hby at_219) ?_
    show Steps p.tables e below (T87.setTop (mkF m 220 #[.val (.int p0), .val (.int p1), .val (.long q2), .second, .val (.ref b2), .val (.int (w0_m11 p0)), .val (.long (0 : Int64)), .second, .val (.long (we1_r1 (0 : Int32) (w0_1 p0))), .second, .val (.long (w0_12 p0)), .second, .val (.long (w0_13 p0)), .second, .val (.long (w0_14 p0)), .second, .val (.ref b70), .val (.ref b75), .val (.long w0_16), .second, .unset, .unset, .unset, .unset, .unset, .unset, .unset, .unset] [(.int (1 : Int32)), (.ref b75)])) _
    refine XS.iloadN X87.here hx rfl (hb hby at_220) rfl ?_
    show Steps p.tables e below (T87.setTop (mkF m 221 #[.val (.int p0), .val (.int p1), .val (.long q2), .second, .val (.ref b2), .val (.int (w0_m11 p0)), .val (.long (0 : Int64)), .second, .val (.long (we1_r1 (0 : Int32) (w0_1 p0))), .second, .val (.long (w0_12 p0)), .second, .val (.long (w0_13 p0)), .second, .val (.long (w0_14 p0)), .second, .val (.ref b70), .val (.ref b75), .val (.long w0_16), .second, .unset, .unset, .unset, .unset, .unset, .unset, .unset, .unset] [(.int p1), (.int (1 : Int32)), (.ref b75)])) _
    refine XS.iconst X87.here hx rfl (hb hby at_221) ?_
    show Steps p.tables e below (T87.setTop (mkF m 222 #[.val (.int p0), .val (.int p1), .val (.long q2), .second, .val (.ref b2), .val (.int (w0_m11 p0)), .val (.long (0 : Int64)), .second, .val (.long (we1_r1 (0 : Int32) (w0_1 p0))), .second, .val (.long (w0_12 p0)), .second, .val (.long (w0_13 p0)), .second, .val (.long (w0_14 p0)), .second, .val (.ref b70), .val (.ref b75), .val (.long w0_16), .second, .unset, .unset, .unset, .unset, .unset, .unset, .unset, .unset] [(.int (2 : Int32)), (.int p1), (.int (1 : Int32)), (.ref b75)])) _
    refine XS.iand X87.here hx rfl (hb hby at_222) rfl ?_
    show Steps p.tables e below (T87.setTop (mkF m 223 #[.val (.int p0), .val (.int p1), .val (.long q2), .second, .val (.ref b2), .val (.int (w0_m11 p0)), .val (.long (0 : Int64)), .second, .val (.long (we1_r1 (0 : Int32) (w0_1 p0))), .second, .val (.long (w0_12 p0)), .second, .val (.long (w0_13 p0)), .second, .val (.long (w0_14 p0)), .second, .val (.ref b70), .val (.ref b75), .val (.long w0_16), .second, .unset, .unset, .unset, .unset, .unset, .unset, .unset, .unset] [(.int (p1 &&& (2 : Int32))), (.int (1 : Int32)), (.ref b75)])) _
    exact k)
  obtain ⟨T89, lo89, X89, N89, e89, K89⟩ : ∃ (T' : State) (locs' : List Loc), Stand p l e room_1 s m #[(.int p0), (.int p1), (.long q2)] below meth c T' locs' 4 14 ∧ Fr n0 locs' ∧ T'.heap = T87.heap ∧ ∀ t, Steps p.tables e below (T'.setTop (mkF m 231 #[.val (.int p0), .val (.int p1), .val (.long q2), .second, .val (.ref b2), .val (.int (w0_m11 p0)), .val (.long (0 : Int64)), .second, .val (.long (we1_r1 (0 : Int32) (w0_1 p0))), .second, .val (.long (w0_12 p0)), .second, .val (.long (w0_13 p0)), .second, .val (.long (w0_14 p0)), .second, .val (.ref b70), .val (.ref b75), .val (.long w0_16), .second, .unset, .unset, .unset, .unset, .unset, .unset, .unset, .unset] [(.int (w0_m17 p1)), (.int (1 : Int32)), (.ref b75)])) t → Steps p.tables e below S0 t := by
    by_cases hc223_0 : (p1 &&& (2 : Int32)) = (0 : Int32)
    · -- yes
      have K90 : ∀ t, Steps p.tables e below (T87.setTop (mkF m 231 #[.val (.int p0), .val (.int p1), .val (.long q2), .second, .val (.ref b2), .val (.int (w0_m11 p0)), .val (.long (0 : Int64)), .second, .val (.long (we1_r1 (0 : Int32) (w0_1 p0))), .second, .val (.long (w0_12 p0)), .second, .val (.long (w0_13 p0)), .second, .val (.long (w0_14 p0)), .second, .val (.ref b70), .val (.ref b75), .val (.long w0_16), .second, .unset, .unset, .unset, .unset, .unset, .unset, .unset, .unset] [(.int (0 : Int32)), (.int (1 : Int32)), (.ref b75)])) t → Steps p.tables e below S0 t := fun t k => K88 t (by
        refine XS.ifYes X87.here hx rfl (pc0 := 223) (pc' := 230) rfl (hb hby at_223) rfl (XT.i0_eq_t hc223_0) (by decide) (by decide) ?_
        show Steps p.tables e below (T87.setTop (mkF m 230 #[.val (.int p0), .val (.int p1), .val (.long q2), .second, .val (.ref b2), .val (.int (w0_m11 p0)), .val (.long (0 : Int64)), .second, .val (.long (we1_r1 (0 : Int32) (w0_1 p0))), .second, .val (.long (w0_12 p0)), .second, .val (.long (w0_13 p0)), .second, .val (.long (w0_14 p0)), .second, .val (.ref b70), .val (.ref b75), .val (.long w0_16), .second, .unset, .unset, .unset, .unset, .unset, .unset, .unset, .unset] [(.int (1 : Int32)), (.ref b75)])) _
        refine XS.iconst X87.here hx rfl (hb hby at_230) ?_
        show Steps p.tables e below (T87.setTop (mkF m 231 #[.val (.int p0), .val (.int p1), .val (.long q2), .second, .val (.ref b2), .val (.int (w0_m11 p0)), .val (.long (0 : Int64)), .second, .val (.long (we1_r1 (0 : Int32) (w0_1 p0))), .second, .val (.long (w0_12 p0)), .second, .val (.long (w0_13 p0)), .second, .val (.long (w0_14 p0)), .second, .val (.ref b70), .val (.ref b75), .val (.long w0_16), .second, .unset, .unset, .unset, .unset, .unset, .unset, .unset, .unset] [(.int (0 : Int32)), (.int (1 : Int32)), (.ref b75)])) _
        exact k)
      have q91 : (w0_m17 p1) = (0 : Int32) := by unfold w0_m17; rw [if_pos hc223_0]
      exact ⟨T87, _, X87, N87, rfl, fun t k => K90 t (by rw [q91] at k; exact k)⟩
    · -- no
      have K92 : ∀ t, Steps p.tables e below (T87.setTop (mkF m 231 #[.val (.int p0), .val (.int p1), .val (.long q2), .second, .val (.ref b2), .val (.int (w0_m11 p0)), .val (.long (0 : Int64)), .second, .val (.long (we1_r1 (0 : Int32) (w0_1 p0))), .second, .val (.long (w0_12 p0)), .second, .val (.long (w0_13 p0)), .second, .val (.long (w0_14 p0)), .second, .val (.ref b70), .val (.ref b75), .val (.long w0_16), .second, .unset, .unset, .unset, .unset, .unset, .unset, .unset, .unset] [(.int (1 : Int32)), (.int (1 : Int32)), (.ref b75)])) t → Steps p.tables e below S0 t := fun t k => K88 t (by
        refine XS.ifNo X87.here hx rfl (hb hby at_223) rfl (XT.i0_eq_f hc223_0) ?_
        show Steps p.tables e below (T87.setTop (mkF m 226 #[.val (.int p0), .val (.int p1), .val (.long q2), .second, .val (.ref b2), .val (.int (w0_m11 p0)), .val (.long (0 : Int64)), .second, .val (.long (we1_r1 (0 : Int32) (w0_1 p0))), .second, .val (.long (w0_12 p0)), .second, .val (.long (w0_13 p0)), .second, .val (.long (w0_14 p0)), .second, .val (.ref b70), .val (.ref b75), .val (.long w0_16), .second, .unset, .unset, .unset, .unset, .unset, .unset, .unset, .unset] [(.int (1 : Int32)), (.ref b75)])) _
        refine XS.iconst X87.here hx rfl (hb hby at_226) ?_
        show Steps p.tables e below (T87.setTop (mkF m 227 #[.val (.int p0), .val (.int p1), .val (.long q2), .second, .val (.ref b2), .val (.int (w0_m11 p0)), .val (.long (0 : Int64)), .second, .val (.long (we1_r1 (0 : Int32) (w0_1 p0))), .second, .val (.long (w0_12 p0)), .second, .val (.long (w0_13 p0)), .second, .val (.long (w0_14 p0)), .second, .val (.ref b70), .val (.ref b75), .val (.long w0_16), .second, .unset, .unset, .unset, .unset, .unset, .unset, .unset, .unset] [(.int (1 : Int32)), (.int (1 : Int32)), (.ref b75)])) _
        refine XS.goto X87.here hx rfl (pc0 := 227) (pc' := 231) rfl (hb hby at_227) (by decide) (by decide) ?_
        show Steps p.tables e below (T87.setTop (mkF m 231 #[.val (.int p0), .val (.int p1), .val (.long q2), .second, .val (.ref b2), .val (.int (w0_m11 p0)), .val (.long (0 : Int64)), .second, .val (.long (we1_r1 (0 : Int32) (w0_1 p0))), .second, .val (.long (w0_12 p0)), .second, .val (.long (w0_13 p0)), .second, .val (.long (w0_14 p0)), .second, .val (.ref b70), .val (.ref b75), .val (.long w0_16), .second, .unset, .unset, .unset, .unset, .unset, .unset, .unset, .unset] [(.int (1 : Int32)), (.int (1 : Int32)), (.ref b75)])) _
        exact k)
      have q93 : (w0_m17 p1) = (1 : Int32) := by unfold w0_m17; rw [if_neg hc223_0]
      exact ⟨T87, _, X87, N87, rfl, fun t k => K92 t (by rw [q93] at k; exact k)⟩
  have K94 : ∀ t, Steps p.tables e below (T89.setTop (mkF m 236 #[.val (.int p0), .val (.int p1), .val (.long q2), .second, .val (.ref b2), .val (.int (w0_m11 p0)), .val (.long (0 : Int64)), .second, .val (.long (we1_r1 (0 : Int32) (w0_1 p0))), .second, .val (.long (w0_12 p0)), .second, .val (.long (w0_13 p0)), .second, .val (.long (w0_14 p0)), .second, .val (.ref b70), .val (.ref b75), .val (.long w0_16), .second, .unset, .unset, .unset, .unset, .unset, .unset, .unset, .unset] [(.long (q2 ^^^ (-1 : Int64))), (.int (w0_m17 p1)), (.int (1 : Int32)), (.ref b75)])) t → Steps p.tables e below S0 t := fun t k => K89 t (by
    refine XS.lloadN X89.here hx rfl (hb hby at_231) rfl ?_
    show Steps p.tables e below (T89.setTop (mkF m 232 #[.val (.int p0), .val (.int p1), .val (.long q2), .second, .val (.ref b2), .val (.int (w0_m11 p0)), .val (.long (0 : Int64)), .second, .val (.long (we1_r1 (0 : Int32) (w0_1 p0))), .second, .val (.long (w0_12 p0)), .second, .val (.long (w0_13 p0)), .second, .val (.long (w0_14 p0)), .second, .val (.ref b70), .val (.ref b75), .val (.long w0_16), .second, .unset, .unset, .unset, .unset, .unset, .unset, .unset, .unset] [(.long q2), (.int (w0_m17 p1)), (.int (1 : Int32)), (.ref b75)])) _
    refine X89.ldc2Long hx hown (mvT hZ (hw _ (List.mem_of_getElem? (i := 52) rfl))) (g := (mkF m 232 #[.val (.int p0), .val (.int p1), .val (.long q2), .second, .val (.ref b2), .val (.int (w0_m11 p0)), .val (.long (0 : Int64)), .second, .val (.long (we1_r1 (0 : Int32) (w0_1 p0))), .second, .val (.long (w0_12 p0)), .second, .val (.long (w0_13 p0)), .second, .val (.long (w0_14 p0)), .second, .val (.ref b70), .val (.ref b75), .val (.long w0_16), .second, .unset, .unset, .unset, .unset, .unset, .unset, .unset, .unset] [(.long q2), (.int (w0_m17 p1)), (.int (1 : Int32)), (.ref b75)])) rfl (hb hby at_232) _ ?_
    show Steps p.tables e below (T89.setTop (mkF m 235 #[.val (.int p0), .val (.int p1), .val (.long q2), .second, .val (.ref b2), .val (.int (w0_m11 p0)), .val (.long (0 : Int64)), .second, .val (.long (we1_r1 (0 : Int32) (w0_1 p0))), .second, .val (.long (w0_12 p0)), .second, .val (.long (w0_13 p0)), .second, .val (.long (w0_14 p0)), .second, .val (.ref b70), .val (.ref b75), .val (.long w0_16), .second, .unset, .unset, .unset, .unset, .unset, .unset, .unset, .unset] [(.long (-1 : Int64)), (.long q2), (.int (w0_m17 p1)), (.int (1 : Int32)), (.ref b75)])) _
    refine XS.lxor X89.here hx rfl (hb hby at_235) rfl ?_
    show Steps p.tables e below (T89.setTop (mkF m 236 #[.val (.int p0), .val (.int p1), .val (.long q2), .second, .val (.ref b2), .val (.int (w0_m11 p0)), .val (.long (0 : Int64)), .second, .val (.long (we1_r1 (0 : Int32) (w0_1 p0))), .second, .val (.long (w0_12 p0)), .second, .val (.long (w0_13 p0)), .second, .val (.long (w0_14 p0)), .second, .val (.ref b70), .val (.ref b75), .val (.long w0_16), .second, .unset, .unset, .unset, .unset, .unset, .unset, .unset, .unset] [(.long (q2 ^^^ (-1 : Int64))), (.int (w0_m17 p1)), (.int (1 : Int32)), (.ref b75)])) _
    exact k)
  have K_95 : ∀ t, Steps p.tables e below (T89.setTop (mkF m 236 #[.val (.int p0), .val (.int p1), .val (.long q2), .second, .val (.ref b2), .val (.int (w0_m11 p0)), .val (.long (0 : Int64)), .second, .val (.long (we1_r1 (0 : Int32) (w0_1 p0))), .second, .val (.long (w0_12 p0)), .second, .val (.long (w0_13 p0)), .second, .val (.long (w0_14 p0)), .second, .val (.ref b70), .val (.ref b75), .val (.long w0_16), .second, .unset, .unset, .unset, .unset, .unset, .unset, .unset, .unset] [(.long (q2 ^^^ (-1 : Int64))), (.int (w0_m17 p1)), (.int (1 : Int32)), (.ref b75)])) t → Steps p.tables e below S0 t := K94
  obtain ⟨cq96, kq96, q96a, q96b, q96c⟩ := isOf hZ e89 Fn78_0__87
  obtain ⟨_, _, ⟨T96, L96, k96, n96⟩, -, X96, ⟨Lc96, hQ96, l96, y96, z96⟩, st96⟩ := X89.virtualBack hx (y := (⟨"com/example/nearmark/nearmark/paging/LeastRecentlyUsed2", "rank", "(IZJ)J"⟩ : MethodName)) (z := (⟨"com/example/nearmark/nearmark/paging/LeastRecentlyUsed2", "rank", "(IZJ)J"⟩ : MethodName)) hown (mvT hZ (hw _ (List.mem_of_getElem? (i := 42) rfl))) (mvT hZ (hw _ (List.mem_of_getElem? (i := 43) rfl))) (notFace_of_selects (args := #[]) (mvT hZ (hw _ (List.mem_of_getElem? (i := 45) rfl)))) (mvT hZ (hw _ (List.mem_of_getElem? (i := 45) rfl))) (mvT hZ (hw _ (List.mem_of_getElem? (i := 44) rfl))) (by decide) (backOf (W := 0) (rmrk1 l Z a0 hw [] b75 (w0_m17 p1) (q2 ^^^ (-1 : Int64)) b70 b2 b78_9 k2 kn78_0 (w0_m11 p0) (0 : Int32) (w0_1 p0) (w0_4 p0) (w0_7 p0) (w0_10 p0) (wrk0_2 (0 : Int32) (-1 : Int32)) (wrk0_3 (0 : Int32) (-1 : Int32)) (wrk0_4 (0 : Int32) (-1 : Int32)) (wrk0_5 (0 : Int32) (-1 : Int32)) (wrk0_6 (0 : Int32) (-1 : Int32)) T87.heap n0 Zs87 Fn78_1__87 Fn78_2__87 Fn73_0__87 Fn73_1__87 V_b2__87 Fn87_0 g_b78_9 (own_in1 p0) (own_m5 p0) ne_b75_b78_9 ne_b70_b78_9 ne_b2_b78_9) hZ (hw _ (List.mem_of_getElem? (i := 46) rfl)) (hw _ (List.mem_of_getElem? (i := 24) rfl)) (by decide) (by decide)) q96a q96c (g := (mkF m 236 #[.val (.int p0), .val (.int p1), .val (.long q2), .second, .val (.ref b2), .val (.int (w0_m11 p0)), .val (.long (0 : Int64)), .second, .val (.long (we1_r1 (0 : Int32) (w0_1 p0))), .second, .val (.long (w0_12 p0)), .second, .val (.long (w0_13 p0)), .second, .val (.long (w0_14 p0)), .second, .val (.ref b70), .val (.ref b75), .val (.long w0_16), .second, .unset, .unset, .unset, .unset, .unset, .unset, .unset, .unset] [(.long (q2 ^^^ (-1 : Int64))), (.int (w0_m17 p1)), (.int (1 : Int32)), (.ref b75)])) rfl (by rw [hml]; rfl) (Steps.refl _) (argsL := [(.int (1 : Int32)), (.int (w0_m17 p1)), (.long (q2 ^^^ (-1 : Int64)))]) (rest := []) (lenOf pd0_3 rfl) rfl (by show 2 * 0 + _ ≤ _; exact Nat.le_of_eq rfl) (hb hby at_236) (fun _ _ => ⟨rfl, e89, (by decide : 4 + 0 ≤ 16), (by decide : 14 + 0 ≤ 128)⟩)
  dsimp only [Pt.U, Pt.locs, Pt.cells, Pt.slots] at X96 l96 y96 z96 st96 hQ96
  subst l96 y96 z96
  obtain ⟨rfl, N96q, Kp96, Fn96_0⟩ := hQ96
  have N96 := Fr.app N89 N96q
  have V_b2__96 := V_b2__87.keep Kp96 (ninS ne_b2_b78_9 nin0)
  have Fn73_0__96 := Fn73_0__87.keep Kp96
  have Fn73_1__96 := Fn73_1__87.keep Kp96 (ninS ne_b70_b78_9 nin0)
  have Fn73_2__96 := Fn73_2__87.keep Kp96 (ninS ne_b70_b78_9 nin0)
  have Fn78_0__96 := Fn78_0__87.keep Kp96
  have Fn78_1__96 := Fn78_1__87.keep Kp96 (ninS ne_b75_b78_9 nin0)
  have Fn78_2__96 := Fn78_2__87.keep Kp96 (ninS ne_b75_b78_9 nin0)
  have Zs96 : n0 ≤ T96.heap.size := Nat.le_trans Zs87 Kp96.1
  have K96 : ∀ t, Steps p.tables e below (T96.setTop (mkF m 239 #[.val (.int p0), .val (.int p1), .val (.long q2), .second, .val (.ref b2), .val (.int (w0_m11 p0)), .val (.long (0 : Int64)), .second, .val (.long (we1_r1 (0 : Int32) (w0_1 p0))), .second, .val (.long (w0_12 p0)), .second, .val (.long (w0_13 p0)), .second, .val (.long (w0_14 p0)), .second, .val (.ref b70), .val (.ref b75), .val (.long w0_16), .second, .unset, .unset, .unset, .unset, .unset, .unset, .unset, .unset] [(.long (w0_18 p0))])) t → Steps p.tables e below S0 t := fun t k => K_95 t (st96.trans k)
  have K97 : ∀ t, Steps p.tables e below (T96.setTop (mkF m 247 #[.val (.int p0), .val (.int p1), .val (.long q2), .second, .val (.ref b2), .val (.int (w0_m11 p0)), .val (.long (0 : Int64)), .second, .val (.long (we1_r1 (0 : Int32) (w0_1 p0))), .second, .val (.long (w0_12 p0)), .second, .val (.long (w0_13 p0)), .second, .val (.long (w0_14 p0)), .second, .val (.ref b70), .val (.ref b75), .val (.long w0_16), .second, .val (.long (w0_18 p0)), .second, .unset, .unset, .unset, .unset, .unset, .unset] [(.int (p1 &&& (4 : Int32))), (.int (2 : Int32)), (.ref b75)])) t → Steps p.tables e below S0 t := fun t k => K96 t (by
    refine XS.lstore X96.here hx rfl (hb hby at_239) rfl (l' := #[.val (.int p0), .val (.int p1), .val (.long q2), .second, .val (.ref b2), .val (.int (w0_m11 p0)), .val (.long (0 : Int64)), .second, .val (.long (we1_r1 (0 : Int32) (w0_1 p0))), .second, .val (.long (w0_12 p0)), .second, .val (.long (w0_13 p0)), .second, .val (.long (w0_14 p0)), .second, .val (.ref b70), .val (.ref b75), .val (.long w0_16), .second, .val (.long (w0_18 p0)), .second, .unset, .unset, .unset, .unset, .unset, .unset]) rfl ?_
    show Steps p.tables e below (T96.setTop (mkF m 241 #[.val (.int p0), .val (.int p1), .val (.long q2), .second, .val (.ref b2), .val (.int (w0_m11 p0)), .val (.long (0 : Int64)), .second, .val (.long (we1_r1 (0 : Int32) (w0_1 p0))), .second, .val (.long (w0_12 p0)), .second, .val (.long (w0_13 p0)), .second, .val (.long (w0_14 p0)), .second, .val (.ref b70), .val (.ref b75), .val (.long w0_16), .second, .val (.long (w0_18 p0)), .second, .unset, .unset, .unset, .unset, .unset, .unset] [])) _
    refine XS.aload X96.here hx rfl (hb hby at_241) rfl rfl ?_
    show Steps p.tables e below (T96.setTop (mkF m 243 #[.val (.int p0), .val (.int p1), .val (.long q2), .second, .val (.ref b2), .val (.int (w0_m11 p0)), .val (.long (0 : Int64)), .second, .val (.long (we1_r1 (0 : Int32) (w0_1 p0))), .second, .val (.long (w0_12 p0)), .second, .val (.long (w0_13 p0)), .second, .val (.long (w0_14 p0)), .second, .val (.ref b70), .val (.ref b75), .val (.long w0_16), .second, .val (.long (w0_18 p0)), .second, .unset, .unset, .unset, .unset, .unset, .unset] [(.ref b75)])) _
    refine XS.iconst X96.here hx rfl (hb hby at_243) ?_
    show Steps p.tables e below (T96.setTop (mkF m 244 #[.val (.int p0), .val (.int p1), .val (.long q2), .second, .val (.ref b2), .val (.int (w0_m11 p0)), .val (.long (0 : Int64)), .second, .val (.long (we1_r1 (0 : Int32) (w0_1 p0))), .second, .val (.long (w0_12 p0)), .second, .val (.long (w0_13 p0)), .second, .val (.long (w0_14 p0)), .second, .val (.ref b70), .val (.ref b75), .val (.long w0_16), .second, .val (.long (w0_18 p0)), .second, .unset, .unset, .unset, .unset, .unset, .unset] [(.int (2 : Int32)), (.ref b75)])) _
    refine XS.iloadN X96.here hx rfl (hb hby at_244) rfl ?_
    show Steps p.tables e below (T96.setTop (mkF m 245 #[.val (.int p0), .val (.int p1), .val (.long q2), .second, .val (.ref b2), .val (.int (w0_m11 p0)), .val (.long (0 : Int64)), .second, .val (.long (we1_r1 (0 : Int32) (w0_1 p0))), .second, .val (.long (w0_12 p0)), .second, .val (.long (w0_13 p0)), .second, .val (.long (w0_14 p0)), .second, .val (.ref b70), .val (.ref b75), .val (.long w0_16), .second, .val (.long (w0_18 p0)), .second, .unset, .unset, .unset, .unset, .unset, .unset] [(.int p1), (.int (2 : Int32)), (.ref b75)])) _
    refine XS.iconst X96.here hx rfl (hb hby at_245) ?_
    show Steps p.tables e below (T96.setTop (mkF m 246 #[.val (.int p0), .val (.int p1), .val (.long q2), .second, .val (.ref b2), .val (.int (w0_m11 p0)), .val (.long (0 : Int64)), .second, .val (.long (we1_r1 (0 : Int32) (w0_1 p0))), .second, .val (.long (w0_12 p0)), .second, .val (.long (w0_13 p0)), .second, .val (.long (w0_14 p0)), .second, .val (.ref b70), .val (.ref b75), .val (.long w0_16), .second, .val (.long (w0_18 p0)), .second, .unset, .unset, .unset, .unset, .unset, .unset] [(.int (4 : Int32)), (.int p1), (.int (2 : Int32)), (.ref b75)])) _
    refine XS.iand X96.here hx rfl (hb hby at_246) rfl ?_
    show Steps p.tables e below (T96.setTop (mkF m 247 #[.val (.int p0), .val (.int p1), .val (.long q2), .second, .val (.ref b2), .val (.int (w0_m11 p0)), .val (.long (0 : Int64)), .second, .val (.long (we1_r1 (0 : Int32) (w0_1 p0))), .second, .val (.long (w0_12 p0)), .second, .val (.long (w0_13 p0)), .second, .val (.long (w0_14 p0)), .second, .val (.ref b70), .val (.ref b75), .val (.long w0_16), .second, .val (.long (w0_18 p0)), .second, .unset, .unset, .unset, .unset, .unset, .unset] [(.int (p1 &&& (4 : Int32))), (.int (2 : Int32)), (.ref b75)])) _
    exact k)
  obtain ⟨T98, lo98, X98, N98, e98, K98⟩ : ∃ (T' : State) (locs' : List Loc), Stand p l e room_1 s m #[(.int p0), (.int p1), (.long q2)] below meth c T' locs' 4 14 ∧ Fr n0 locs' ∧ T'.heap = T96.heap ∧ ∀ t, Steps p.tables e below (T'.setTop (mkF m 255 #[.val (.int p0), .val (.int p1), .val (.long q2), .second, .val (.ref b2), .val (.int (w0_m11 p0)), .val (.long (0 : Int64)), .second, .val (.long (we1_r1 (0 : Int32) (w0_1 p0))), .second, .val (.long (w0_12 p0)), .second, .val (.long (w0_13 p0)), .second, .val (.long (w0_14 p0)), .second, .val (.ref b70), .val (.ref b75), .val (.long w0_16), .second, .val (.long (w0_18 p0)), .second, .unset, .unset, .unset, .unset, .unset, .unset] [(.int (w0_m19 p1)), (.int (2 : Int32)), (.ref b75)])) t → Steps p.tables e below S0 t := by
    by_cases hc247_0 : (p1 &&& (4 : Int32)) = (0 : Int32)
    · -- yes
      have K99 : ∀ t, Steps p.tables e below (T96.setTop (mkF m 255 #[.val (.int p0), .val (.int p1), .val (.long q2), .second, .val (.ref b2), .val (.int (w0_m11 p0)), .val (.long (0 : Int64)), .second, .val (.long (we1_r1 (0 : Int32) (w0_1 p0))), .second, .val (.long (w0_12 p0)), .second, .val (.long (w0_13 p0)), .second, .val (.long (w0_14 p0)), .second, .val (.ref b70), .val (.ref b75), .val (.long w0_16), .second, .val (.long (w0_18 p0)), .second, .unset, .unset, .unset, .unset, .unset, .unset] [(.int (0 : Int32)), (.int (2 : Int32)), (.ref b75)])) t → Steps p.tables e below S0 t := fun t k => K97 t (by
        refine XS.ifYes X96.here hx rfl (pc0 := 247) (pc' := 254) rfl (hb hby at_247) rfl (XT.i0_eq_t hc247_0) (by decide) (by decide) ?_
        show Steps p.tables e below (T96.setTop (mkF m 254 #[.val (.int p0), .val (.int p1), .val (.long q2), .second, .val (.ref b2), .val (.int (w0_m11 p0)), .val (.long (0 : Int64)), .second, .val (.long (we1_r1 (0 : Int32) (w0_1 p0))), .second, .val (.long (w0_12 p0)), .second, .val (.long (w0_13 p0)), .second, .val (.long (w0_14 p0)), .second, .val (.ref b70), .val (.ref b75), .val (.long w0_16), .second, .val (.long (w0_18 p0)), .second, .unset, .unset, .unset, .unset, .unset, .unset] [(.int (2 : Int32)), (.ref b75)])) _
        refine XS.iconst X96.here hx rfl (hb hby at_254) ?_
        show Steps p.tables e below (T96.setTop (mkF m 255 #[.val (.int p0), .val (.int p1), .val (.long q2), .second, .val (.ref b2), .val (.int (w0_m11 p0)), .val (.long (0 : Int64)), .second, .val (.long (we1_r1 (0 : Int32) (w0_1 p0))), .second, .val (.long (w0_12 p0)), .second, .val (.long (w0_13 p0)), .second, .val (.long (w0_14 p0)), .second, .val (.ref b70), .val (.ref b75), .val (.long w0_16), .second, .val (.long (w0_18 p0)), .second, .unset, .unset, .unset, .unset, .unset, .unset] [(.int (0 : Int32)), (.int (2 : Int32)), (.ref b75)])) _
        exact k)
      have q100 : (w0_m19 p1) = (0 : Int32) := by unfold w0_m19; rw [if_pos hc247_0]
      exact ⟨T96, _, X96, N96, rfl, fun t k => K99 t (by rw [q100] at k; exact k)⟩
    · -- no
      have K101 : ∀ t, Steps p.tables e below (T96.setTop (mkF m 255 #[.val (.int p0), .val (.int p1), .val (.long q2), .second, .val (.ref b2), .val (.int (w0_m11 p0)), .val (.long (0 : Int64)), .second, .val (.long (we1_r1 (0 : Int32) (w0_1 p0))), .second, .val (.long (w0_12 p0)), .second, .val (.long (w0_13 p0)), .second, .val (.long (w0_14 p0)), .second, .val (.ref b70), .val (.ref b75), .val (.long w0_16), .second, .val (.long (w0_18 p0)), .second, .unset, .unset, .unset, .unset, .unset, .unset] [(.int (1 : Int32)), (.int (2 : Int32)), (.ref b75)])) t → Steps p.tables e below S0 t := fun t k => K97 t (by
        refine XS.ifNo X96.here hx rfl (hb hby at_247) rfl (XT.i0_eq_f hc247_0) ?_
        show Steps p.tables e below (T96.setTop (mkF m 250 #[.val (.int p0), .val (.int p1), .val (.long q2), .second, .val (.ref b2), .val (.int (w0_m11 p0)), .val (.long (0 : Int64)), .second, .val (.long (we1_r1 (0 : Int32) (w0_1 p0))), .second, .val (.long (w0_12 p0)), .second, .val (.long (w0_13 p0)), .second, .val (.long (w0_14 p0)), .second, .val (.ref b70), .val (.ref b75), .val (.long w0_16), .second, .val (.long (w0_18 p0)), .second, .unset, .unset, .unset, .unset, .unset, .unset] [(.int (2 : Int32)), (.ref b75)])) _
        refine XS.iconst X96.here hx rfl (hb hby at_250) ?_
        show Steps p.tables e below (T96.setTop (mkF m 251 #[.val (.int p0), .val (.int p1), .val (.long q2), .second, .val (.ref b2), .val (.int (w0_m11 p0)), .val (.long (0 : Int64)), .second, .val (.long (we1_r1 (0 : Int32) (w0_1 p0))), .second, .val (.long (w0_12 p0)), .second, .val (.long (w0_13 p0)), .second, .val (.long (w0_14 p0)), .second, .val (.ref b70), .val (.ref b75), .val (.long w0_16), .second, .val (.long (w0_18 p0)), .second, .unset, .unset, .unset, .unset, .unset, .unset] [(.int (1 : Int32)), (.int (2 : Int32)), (.ref b75)])) _
        refine XS.goto X96.here hx rfl (pc0 := 251) (pc' := 255) rfl (hb hby at_251) (by decide) (by decide) ?_
        show Steps p.tables e below (T96.setTop (mkF m 255 #[.val (.int p0), .val (.int p1), .val (.long q2), .second, .val (.ref b2), .val (.int (w0_m11 p0)), .val (.long (0 : Int64)), .second, .val (.long (we1_r1 (0 : Int32) (w0_1 p0))), .second, .val (.long (w0_12 p0)), .second, .val (.long (w0_13 p0)), .second, .val (.long (w0_14 p0)), .second, .val (.ref b70), .val (.ref b75), .val (.long w0_16), .second, .val (.long (w0_18 p0)), .second, .unset, .unset, .unset, .unset, .unset, .unset] [(.int (1 : Int32)), (.int (2 : Int32)), (.ref b75)])) _
        exact k)
      have q102 : (w0_m19 p1) = (1 : Int32) := by unfold w0_m19; rw [if_neg hc247_0]
      exact ⟨T96, _, X96, N96, rfl, fun t k => K101 t (by rw [q102] at k; exact k)⟩
  have K103 : ∀ t, Steps p.tables e below (T98.setTop (mkF m 259 #[.val (.int p0), .val (.int p1), .val (.long q2), .second, .val (.ref b2), .val (.int (w0_m11 p0)), .val (.long (0 : Int64)), .second, .val (.long (we1_r1 (0 : Int32) (w0_1 p0))), .second, .val (.long (w0_12 p0)), .second, .val (.long (w0_13 p0)), .second, .val (.long (w0_14 p0)), .second, .val (.ref b70), .val (.ref b75), .val (.long w0_16), .second, .val (.long (w0_18 p0)), .second, .unset, .unset, .unset, .unset, .unset, .unset] [(.long (q2 ^^^ (p1.toInt64))), (.int (w0_m19 p1)), (.int (2 : Int32)), (.ref b75)])) t → Steps p.tables e below S0 t := fun t k => K98 t (by
    refine XS.lloadN X98.here hx rfl (hb hby at_255) rfl ?_
    show Steps p.tables e below (T98.setTop (mkF m 256 #[.val (.int p0), .val (.int p1), .val (.long q2), .second, .val (.ref b2), .val (.int (w0_m11 p0)), .val (.long (0 : Int64)), .second, .val (.long (we1_r1 (0 : Int32) (w0_1 p0))), .second, .val (.long (w0_12 p0)), .second, .val (.long (w0_13 p0)), .second, .val (.long (w0_14 p0)), .second, .val (.ref b70), .val (.ref b75), .val (.long w0_16), .second, .val (.long (w0_18 p0)), .second, .unset, .unset, .unset, .unset, .unset, .unset] [(.long q2), (.int (w0_m19 p1)), (.int (2 : Int32)), (.ref b75)])) _
    refine XS.iloadN X98.here hx rfl (hb hby at_256) rfl ?_
    show Steps p.tables e below (T98.setTop (mkF m 257 #[.val (.int p0), .val (.int p1), .val (.long q2), .second, .val (.ref b2), .val (.int (w0_m11 p0)), .val (.long (0 : Int64)), .second, .val (.long (we1_r1 (0 : Int32) (w0_1 p0))), .second, .val (.long (w0_12 p0)), .second, .val (.long (w0_13 p0)), .second, .val (.long (w0_14 p0)), .second, .val (.ref b70), .val (.ref b75), .val (.long w0_16), .second, .val (.long (w0_18 p0)), .second, .unset, .unset, .unset, .unset, .unset, .unset] [(.int p1), (.long q2), (.int (w0_m19 p1)), (.int (2 : Int32)), (.ref b75)])) _
    refine XS.i2l X98.here hx rfl (hb hby at_257) rfl ?_
    show Steps p.tables e below (T98.setTop (mkF m 258 #[.val (.int p0), .val (.int p1), .val (.long q2), .second, .val (.ref b2), .val (.int (w0_m11 p0)), .val (.long (0 : Int64)), .second, .val (.long (we1_r1 (0 : Int32) (w0_1 p0))), .second, .val (.long (w0_12 p0)), .second, .val (.long (w0_13 p0)), .second, .val (.long (w0_14 p0)), .second, .val (.ref b70), .val (.ref b75), .val (.long w0_16), .second, .val (.long (w0_18 p0)), .second, .unset, .unset, .unset, .unset, .unset, .unset] [(.long (p1.toInt64)), (.long q2), (.int (w0_m19 p1)), (.int (2 : Int32)), (.ref b75)])) _
    refine XS.lxor X98.here hx rfl (hb hby at_258) rfl ?_
    show Steps p.tables e below (T98.setTop (mkF m 259 #[.val (.int p0), .val (.int p1), .val (.long q2), .second, .val (.ref b2), .val (.int (w0_m11 p0)), .val (.long (0 : Int64)), .second, .val (.long (we1_r1 (0 : Int32) (w0_1 p0))), .second, .val (.long (w0_12 p0)), .second, .val (.long (w0_13 p0)), .second, .val (.long (w0_14 p0)), .second, .val (.ref b70), .val (.ref b75), .val (.long w0_16), .second, .val (.long (w0_18 p0)), .second, .unset, .unset, .unset, .unset, .unset, .unset] [(.long (q2 ^^^ (p1.toInt64))), (.int (w0_m19 p1)), (.int (2 : Int32)), (.ref b75)])) _
    exact k)
  have K_104 : ∀ t, Steps p.tables e below (T98.setTop (mkF m 259 #[.val (.int p0), .val (.int p1), .val (.long q2), .second, .val (.ref b2), .val (.int (w0_m11 p0)), .val (.long (0 : Int64)), .second, .val (.long (we1_r1 (0 : Int32) (w0_1 p0))), .second, .val (.long (w0_12 p0)), .second, .val (.long (w0_13 p0)), .second, .val (.long (w0_14 p0)), .second, .val (.ref b70), .val (.ref b75), .val (.long w0_16), .second, .val (.long (w0_18 p0)), .second, .unset, .unset, .unset, .unset, .unset, .unset] [(.long (q2 ^^^ (p1.toInt64))), (.int (w0_m19 p1)), (.int (2 : Int32)), (.ref b75)])) t → Steps p.tables e below S0 t := K103
  obtain ⟨cq105, kq105, q105a, q105b, q105c⟩ := isOf hZ e98 Fn78_0__96
  obtain ⟨_, _, ⟨T105, L105, k105, n105⟩, -, X105, ⟨Lc105, hQ105, l105, y105, z105⟩, st105⟩ := X98.virtualBack hx (y := (⟨"com/example/nearmark/nearmark/paging/LeastRecentlyUsed2", "rank", "(IZJ)J"⟩ : MethodName)) (z := (⟨"com/example/nearmark/nearmark/paging/LeastRecentlyUsed2", "rank", "(IZJ)J"⟩ : MethodName)) hown (mvT hZ (hw _ (List.mem_of_getElem? (i := 42) rfl))) (mvT hZ (hw _ (List.mem_of_getElem? (i := 43) rfl))) (notFace_of_selects (args := #[]) (mvT hZ (hw _ (List.mem_of_getElem? (i := 45) rfl)))) (mvT hZ (hw _ (List.mem_of_getElem? (i := 45) rfl))) (mvT hZ (hw _ (List.mem_of_getElem? (i := 44) rfl))) (by decide) (backOf (W := 0) (rmrk2 l Z a0 hw [] b75 (w0_m19 p1) (q2 ^^^ (p1.toInt64)) b70 b2 b78_9 k2 kn78_0 (w0_m11 p0) (0 : Int32) (w0_1 p0) (w0_4 p0) (w0_7 p0) (w0_10 p0) (wrk1_2 (w0_1 p0) (wrk0_2 (0 : Int32) (-1 : Int32))) (wrk1_3 (w0_1 p0) (wrk0_3 (0 : Int32) (-1 : Int32))) (wrk1_4 (w0_1 p0) (wrk0_4 (0 : Int32) (-1 : Int32))) (wrk1_5 (w0_1 p0) (wrk0_5 (0 : Int32) (-1 : Int32))) (wrk1_6 (w0_1 p0) (wrk0_6 (0 : Int32) (-1 : Int32))) T96.heap n0 Zs96 Fn78_1__96 Fn78_2__96 Fn73_0__96 Fn73_1__96 V_b2__96 Fn96_0 g_b78_9 (own_in2 p0) (own_m5 p0) ne_b75_b78_9 ne_b70_b78_9 ne_b2_b78_9) hZ (hw _ (List.mem_of_getElem? (i := 46) rfl)) (hw _ (List.mem_of_getElem? (i := 24) rfl)) (by decide) (by decide)) q105a q105c (g := (mkF m 259 #[.val (.int p0), .val (.int p1), .val (.long q2), .second, .val (.ref b2), .val (.int (w0_m11 p0)), .val (.long (0 : Int64)), .second, .val (.long (we1_r1 (0 : Int32) (w0_1 p0))), .second, .val (.long (w0_12 p0)), .second, .val (.long (w0_13 p0)), .second, .val (.long (w0_14 p0)), .second, .val (.ref b70), .val (.ref b75), .val (.long w0_16), .second, .val (.long (w0_18 p0)), .second, .unset, .unset, .unset, .unset, .unset, .unset] [(.long (q2 ^^^ (p1.toInt64))), (.int (w0_m19 p1)), (.int (2 : Int32)), (.ref b75)])) rfl (by rw [hml]; rfl) (Steps.refl _) (argsL := [(.int (2 : Int32)), (.int (w0_m19 p1)), (.long (q2 ^^^ (p1.toInt64)))]) (rest := []) (lenOf pd0_3 rfl) rfl (by show 2 * 0 + _ ≤ _; exact Nat.le_of_eq rfl) (hb hby at_259) (fun _ _ => ⟨rfl, e98, (by decide : 4 + 0 ≤ 16), (by decide : 14 + 0 ≤ 128)⟩)
  dsimp only [Pt.U, Pt.locs, Pt.cells, Pt.slots] at X105 l105 y105 z105 st105 hQ105
  subst l105 y105 z105
  obtain ⟨rfl, N105q, Kp105, Fn105_0⟩ := hQ105
  have N105 := Fr.app N98 N105q
  have V_b2__105 := V_b2__96.keep Kp105 (ninS ne_b2_b78_9 nin0)
  have Fn73_0__105 := Fn73_0__96.keep Kp105
  have Fn73_1__105 := Fn73_1__96.keep Kp105 (ninS ne_b70_b78_9 nin0)
  have Fn73_2__105 := Fn73_2__96.keep Kp105 (ninS ne_b70_b78_9 nin0)
  have Fn78_0__105 := Fn78_0__96.keep Kp105
  have Fn78_1__105 := Fn78_1__96.keep Kp105 (ninS ne_b75_b78_9 nin0)
  have Fn78_2__105 := Fn78_2__96.keep Kp105 (ninS ne_b75_b78_9 nin0)
  have Zs105 : n0 ≤ T105.heap.size := Nat.le_trans Zs96 Kp105.1
  have K105 : ∀ t, Steps p.tables e below (T105.setTop (mkF m 262 #[.val (.int p0), .val (.int p1), .val (.long q2), .second, .val (.ref b2), .val (.int (w0_m11 p0)), .val (.long (0 : Int64)), .second, .val (.long (we1_r1 (0 : Int32) (w0_1 p0))), .second, .val (.long (w0_12 p0)), .second, .val (.long (w0_13 p0)), .second, .val (.long (w0_14 p0)), .second, .val (.ref b70), .val (.ref b75), .val (.long w0_16), .second, .val (.long (w0_18 p0)), .second, .unset, .unset, .unset, .unset, .unset, .unset] [(.long (w0_20 p0))])) t → Steps p.tables e below S0 t := fun t k => K_104 t (st105.trans k)
  have K106 : ∀ t, Steps p.tables e below (T105.setTop (mkF m 271 #[.val (.int p0), .val (.int p1), .val (.long q2), .second, .val (.ref b2), .val (.int (w0_m11 p0)), .val (.long (0 : Int64)), .second, .val (.long (we1_r1 (0 : Int32) (w0_1 p0))), .second, .val (.long (w0_12 p0)), .second, .val (.long (w0_13 p0)), .second, .val (.long (w0_14 p0)), .second, .val (.ref b70), .val (.ref b75), .val (.long w0_16), .second, .val (.long (w0_18 p0)), .second, .val (.long (w0_20 p0)), .second, .unset, .unset, .unset, .unset] [(.int (p1 &&& (8 : Int32))), (.int (3 : Int32)), (.ref b75)])) t → Steps p.tables e below S0 t := fun t k => K105 t (by
    refine XS.lstore X105.here hx rfl (hb hby at_262) rfl (l' := #[.val (.int p0), .val (.int p1), .val (.long q2), .second, .val (.ref b2), .val (.int (w0_m11 p0)), .val (.long (0 : Int64)), .second, .val (.long (we1_r1 (0 : Int32) (w0_1 p0))), .second, .val (.long (w0_12 p0)), .second, .val (.long (w0_13 p0)), .second, .val (.long (w0_14 p0)), .second, .val (.ref b70), .val (.ref b75), .val (.long w0_16), .second, .val (.long (w0_18 p0)), .second, .val (.long (w0_20 p0)), .second, .unset, .unset, .unset, .unset]) rfl ?_
    show Steps p.tables e below (T105.setTop (mkF m 264 #[.val (.int p0), .val (.int p1), .val (.long q2), .second, .val (.ref b2), .val (.int (w0_m11 p0)), .val (.long (0 : Int64)), .second, .val (.long (we1_r1 (0 : Int32) (w0_1 p0))), .second, .val (.long (w0_12 p0)), .second, .val (.long (w0_13 p0)), .second, .val (.long (w0_14 p0)), .second, .val (.ref b70), .val (.ref b75), .val (.long w0_16), .second, .val (.long (w0_18 p0)), .second, .val (.long (w0_20 p0)), .second, .unset, .unset, .unset, .unset] [])) _
    refine XS.aload X105.here hx rfl (hb hby at_264) rfl rfl ?_
    show Steps p.tables e below (T105.setTop (mkF m 266 #[.val (.int p0), .val (.int p1), .val (.long q2), .second, .val (.ref b2), .val (.int (w0_m11 p0)), .val (.long (0 : Int64)), .second, .val (.long (we1_r1 (0 : Int32) (w0_1 p0))), .second, .val (.long (w0_12 p0)), .second, .val (.long (w0_13 p0)), .second, .val (.long (w0_14 p0)), .second, .val (.ref b70), .val (.ref b75), .val (.long w0_16), .second, .val (.long (w0_18 p0)), .second, .val (.long (w0_20 p0)), .second, .unset, .unset, .unset, .unset] [(.ref b75)])) _
    refine XS.iconst X105.here hx rfl (hb hby at_266) ?_
    show Steps p.tables e below (T105.setTop (mkF m 267 #[.val (.int p0), .val (.int p1), .val (.long q2), .second, .val (.ref b2), .val (.int (w0_m11 p0)), .val (.long (0 : Int64)), .second, .val (.long (we1_r1 (0 : Int32) (w0_1 p0))), .second, .val (.long (w0_12 p0)), .second, .val (.long (w0_13 p0)), .second, .val (.long (w0_14 p0)), .second, .val (.ref b70), .val (.ref b75), .val (.long w0_16), .second, .val (.long (w0_18 p0)), .second, .val (.long (w0_20 p0)), .second, .unset, .unset, .unset, .unset] [(.int (3 : Int32)), (.ref b75)])) _
    refine XS.iloadN X105.here hx rfl (hb hby at_267) rfl ?_
    show Steps p.tables e below (T105.setTop (mkF m 268 #[.val (.int p0), .val (.int p1), .val (.long q2), .second, .val (.ref b2), .val (.int (w0_m11 p0)), .val (.long (0 : Int64)), .second, .val (.long (we1_r1 (0 : Int32) (w0_1 p0))), .second, .val (.long (w0_12 p0)), .second, .val (.long (w0_13 p0)), .second, .val (.long (w0_14 p0)), .second, .val (.ref b70), .val (.ref b75), .val (.long w0_16), .second, .val (.long (w0_18 p0)), .second, .val (.long (w0_20 p0)), .second, .unset, .unset, .unset, .unset] [(.int p1), (.int (3 : Int32)), (.ref b75)])) _
    refine XS.bipush X105.here hx rfl (hb hby at_268) ?_
    show Steps p.tables e below (T105.setTop (mkF m 270 #[.val (.int p0), .val (.int p1), .val (.long q2), .second, .val (.ref b2), .val (.int (w0_m11 p0)), .val (.long (0 : Int64)), .second, .val (.long (we1_r1 (0 : Int32) (w0_1 p0))), .second, .val (.long (w0_12 p0)), .second, .val (.long (w0_13 p0)), .second, .val (.long (w0_14 p0)), .second, .val (.ref b70), .val (.ref b75), .val (.long w0_16), .second, .val (.long (w0_18 p0)), .second, .val (.long (w0_20 p0)), .second, .unset, .unset, .unset, .unset] [(.int (8 : Int32)), (.int p1), (.int (3 : Int32)), (.ref b75)])) _
    refine XS.iand X105.here hx rfl (hb hby at_270) rfl ?_
    show Steps p.tables e below (T105.setTop (mkF m 271 #[.val (.int p0), .val (.int p1), .val (.long q2), .second, .val (.ref b2), .val (.int (w0_m11 p0)), .val (.long (0 : Int64)), .second, .val (.long (we1_r1 (0 : Int32) (w0_1 p0))), .second, .val (.long (w0_12 p0)), .second, .val (.long (w0_13 p0)), .second, .val (.long (w0_14 p0)), .second, .val (.ref b70), .val (.ref b75), .val (.long w0_16), .second, .val (.long (w0_18 p0)), .second, .val (.long (w0_20 p0)), .second, .unset, .unset, .unset, .unset] [(.int (p1 &&& (8 : Int32))), (.int (3 : Int32)), (.ref b75)])) _
    exact k)
  obtain ⟨T107, lo107, X107, N107, e107, K107⟩ : ∃ (T' : State) (locs' : List Loc), Stand p l e room_1 s m #[(.int p0), (.int p1), (.long q2)] below meth c T' locs' 4 14 ∧ Fr n0 locs' ∧ T'.heap = T105.heap ∧ ∀ t, Steps p.tables e below (T'.setTop (mkF m 279 #[.val (.int p0), .val (.int p1), .val (.long q2), .second, .val (.ref b2), .val (.int (w0_m11 p0)), .val (.long (0 : Int64)), .second, .val (.long (we1_r1 (0 : Int32) (w0_1 p0))), .second, .val (.long (w0_12 p0)), .second, .val (.long (w0_13 p0)), .second, .val (.long (w0_14 p0)), .second, .val (.ref b70), .val (.ref b75), .val (.long w0_16), .second, .val (.long (w0_18 p0)), .second, .val (.long (w0_20 p0)), .second, .unset, .unset, .unset, .unset] [(.int (w0_m21 p1)), (.int (3 : Int32)), (.ref b75)])) t → Steps p.tables e below S0 t := by
    by_cases hc271_0 : (p1 &&& (8 : Int32)) = (0 : Int32)
    · -- yes
      have K108 : ∀ t, Steps p.tables e below (T105.setTop (mkF m 279 #[.val (.int p0), .val (.int p1), .val (.long q2), .second, .val (.ref b2), .val (.int (w0_m11 p0)), .val (.long (0 : Int64)), .second, .val (.long (we1_r1 (0 : Int32) (w0_1 p0))), .second, .val (.long (w0_12 p0)), .second, .val (.long (w0_13 p0)), .second, .val (.long (w0_14 p0)), .second, .val (.ref b70), .val (.ref b75), .val (.long w0_16), .second, .val (.long (w0_18 p0)), .second, .val (.long (w0_20 p0)), .second, .unset, .unset, .unset, .unset] [(.int (0 : Int32)), (.int (3 : Int32)), (.ref b75)])) t → Steps p.tables e below S0 t := fun t k => K106 t (by
        refine XS.ifYes X105.here hx rfl (pc0 := 271) (pc' := 278) rfl (hb hby at_271) rfl (XT.i0_eq_t hc271_0) (by decide) (by decide) ?_
        show Steps p.tables e below (T105.setTop (mkF m 278 #[.val (.int p0), .val (.int p1), .val (.long q2), .second, .val (.ref b2), .val (.int (w0_m11 p0)), .val (.long (0 : Int64)), .second, .val (.long (we1_r1 (0 : Int32) (w0_1 p0))), .second, .val (.long (w0_12 p0)), .second, .val (.long (w0_13 p0)), .second, .val (.long (w0_14 p0)), .second, .val (.ref b70), .val (.ref b75), .val (.long w0_16), .second, .val (.long (w0_18 p0)), .second, .val (.long (w0_20 p0)), .second, .unset, .unset, .unset, .unset] [(.int (3 : Int32)), (.ref b75)])) _
        refine XS.iconst X105.here hx rfl (hb hby at_278) ?_
        show Steps p.tables e below (T105.setTop (mkF m 279 #[.val (.int p0), .val (.int p1), .val (.long q2), .second, .val (.ref b2), .val (.int (w0_m11 p0)), .val (.long (0 : Int64)), .second, .val (.long (we1_r1 (0 : Int32) (w0_1 p0))), .second, .val (.long (w0_12 p0)), .second, .val (.long (w0_13 p0)), .second, .val (.long (w0_14 p0)), .second, .val (.ref b70), .val (.ref b75), .val (.long w0_16), .second, .val (.long (w0_18 p0)), .second, .val (.long (w0_20 p0)), .second, .unset, .unset, .unset, .unset] [(.int (0 : Int32)), (.int (3 : Int32)), (.ref b75)])) _
        exact k)
      have q109 : (w0_m21 p1) = (0 : Int32) := by unfold w0_m21; rw [if_pos hc271_0]
      exact ⟨T105, _, X105, N105, rfl, fun t k => K108 t (by rw [q109] at k; exact k)⟩
    · -- no
      have K110 : ∀ t, Steps p.tables e below (T105.setTop (mkF m 279 #[.val (.int p0), .val (.int p1), .val (.long q2), .second, .val (.ref b2), .val (.int (w0_m11 p0)), .val (.long (0 : Int64)), .second, .val (.long (we1_r1 (0 : Int32) (w0_1 p0))), .second, .val (.long (w0_12 p0)), .second, .val (.long (w0_13 p0)), .second, .val (.long (w0_14 p0)), .second, .val (.ref b70), .val (.ref b75), .val (.long w0_16), .second, .val (.long (w0_18 p0)), .second, .val (.long (w0_20 p0)), .second, .unset, .unset, .unset, .unset] [(.int (1 : Int32)), (.int (3 : Int32)), (.ref b75)])) t → Steps p.tables e below S0 t := fun t k => K106 t (by
        refine XS.ifNo X105.here hx rfl (hb hby at_271) rfl (XT.i0_eq_f hc271_0) ?_
        show Steps p.tables e below (T105.setTop (mkF m 274 #[.val (.int p0), .val (.int p1), .val (.long q2), .second, .val (.ref b2), .val (.int (w0_m11 p0)), .val (.long (0 : Int64)), .second, .val (.long (we1_r1 (0 : Int32) (w0_1 p0))), .second, .val (.long (w0_12 p0)), .second, .val (.long (w0_13 p0)), .second, .val (.long (w0_14 p0)), .second, .val (.ref b70), .val (.ref b75), .val (.long w0_16), .second, .val (.long (w0_18 p0)), .second, .val (.long (w0_20 p0)), .second, .unset, .unset, .unset, .unset] [(.int (3 : Int32)), (.ref b75)])) _
        refine XS.iconst X105.here hx rfl (hb hby at_274) ?_
        show Steps p.tables e below (T105.setTop (mkF m 275 #[.val (.int p0), .val (.int p1), .val (.long q2), .second, .val (.ref b2), .val (.int (w0_m11 p0)), .val (.long (0 : Int64)), .second, .val (.long (we1_r1 (0 : Int32) (w0_1 p0))), .second, .val (.long (w0_12 p0)), .second, .val (.long (w0_13 p0)), .second, .val (.long (w0_14 p0)), .second, .val (.ref b70), .val (.ref b75), .val (.long w0_16), .second, .val (.long (w0_18 p0)), .second, .val (.long (w0_20 p0)), .second, .unset, .unset, .unset, .unset] [(.int (1 : Int32)), (.int (3 : Int32)), (.ref b75)])) _
        refine XS.goto X105.here hx rfl (pc0 := 275) (pc' := 279) rfl (hb hby at_275) (by decide) (by decide) ?_
        show Steps p.tables e below (T105.setTop (mkF m 279 #[.val (.int p0), .val (.int p1), .val (.long q2), .second, .val (.ref b2), .val (.int (w0_m11 p0)), .val (.long (0 : Int64)), .second, .val (.long (we1_r1 (0 : Int32) (w0_1 p0))), .second, .val (.long (w0_12 p0)), .second, .val (.long (w0_13 p0)), .second, .val (.long (w0_14 p0)), .second, .val (.ref b70), .val (.ref b75), .val (.long w0_16), .second, .val (.long (w0_18 p0)), .second, .val (.long (w0_20 p0)), .second, .unset, .unset, .unset, .unset] [(.int (1 : Int32)), (.int (3 : Int32)), (.ref b75)])) _
        exact k)
      have q111 : (w0_m21 p1) = (1 : Int32) := by unfold w0_m21; rw [if_neg hc271_0]
      exact ⟨T105, _, X105, N105, rfl, fun t k => K110 t (by rw [q111] at k; exact k)⟩
  have K112 : ∀ t, Steps p.tables e below (T107.setTop (mkF m 283 #[.val (.int p0), .val (.int p1), .val (.long q2), .second, .val (.ref b2), .val (.int (w0_m11 p0)), .val (.long (0 : Int64)), .second, .val (.long (we1_r1 (0 : Int32) (w0_1 p0))), .second, .val (.long (w0_12 p0)), .second, .val (.long (w0_13 p0)), .second, .val (.long (w0_14 p0)), .second, .val (.ref b70), .val (.ref b75), .val (.long w0_16), .second, .val (.long (w0_18 p0)), .second, .val (.long (w0_20 p0)), .second, .unset, .unset, .unset, .unset] [(.long (q2 + (p0.toInt64))), (.int (w0_m21 p1)), (.int (3 : Int32)), (.ref b75)])) t → Steps p.tables e below S0 t := fun t k => K107 t (by
    refine XS.lloadN X107.here hx rfl (hb hby at_279) rfl ?_
    show Steps p.tables e below (T107.setTop (mkF m 280 #[.val (.int p0), .val (.int p1), .val (.long q2), .second, .val (.ref b2), .val (.int (w0_m11 p0)), .val (.long (0 : Int64)), .second, .val (.long (we1_r1 (0 : Int32) (w0_1 p0))), .second, .val (.long (w0_12 p0)), .second, .val (.long (w0_13 p0)), .second, .val (.long (w0_14 p0)), .second, .val (.ref b70), .val (.ref b75), .val (.long w0_16), .second, .val (.long (w0_18 p0)), .second, .val (.long (w0_20 p0)), .second, .unset, .unset, .unset, .unset] [(.long q2), (.int (w0_m21 p1)), (.int (3 : Int32)), (.ref b75)])) _
    refine XS.iloadN X107.here hx rfl (hb hby at_280) rfl ?_
    show Steps p.tables e below (T107.setTop (mkF m 281 #[.val (.int p0), .val (.int p1), .val (.long q2), .second, .val (.ref b2), .val (.int (w0_m11 p0)), .val (.long (0 : Int64)), .second, .val (.long (we1_r1 (0 : Int32) (w0_1 p0))), .second, .val (.long (w0_12 p0)), .second, .val (.long (w0_13 p0)), .second, .val (.long (w0_14 p0)), .second, .val (.ref b70), .val (.ref b75), .val (.long w0_16), .second, .val (.long (w0_18 p0)), .second, .val (.long (w0_20 p0)), .second, .unset, .unset, .unset, .unset] [(.int p0), (.long q2), (.int (w0_m21 p1)), (.int (3 : Int32)), (.ref b75)])) _
    refine XS.i2l X107.here hx rfl (hb hby at_281) rfl ?_
    show Steps p.tables e below (T107.setTop (mkF m 282 #[.val (.int p0), .val (.int p1), .val (.long q2), .second, .val (.ref b2), .val (.int (w0_m11 p0)), .val (.long (0 : Int64)), .second, .val (.long (we1_r1 (0 : Int32) (w0_1 p0))), .second, .val (.long (w0_12 p0)), .second, .val (.long (w0_13 p0)), .second, .val (.long (w0_14 p0)), .second, .val (.ref b70), .val (.ref b75), .val (.long w0_16), .second, .val (.long (w0_18 p0)), .second, .val (.long (w0_20 p0)), .second, .unset, .unset, .unset, .unset] [(.long (p0.toInt64)), (.long q2), (.int (w0_m21 p1)), (.int (3 : Int32)), (.ref b75)])) _
    refine XS.ladd X107.here hx rfl (hb hby at_282) rfl ?_
    show Steps p.tables e below (T107.setTop (mkF m 283 #[.val (.int p0), .val (.int p1), .val (.long q2), .second, .val (.ref b2), .val (.int (w0_m11 p0)), .val (.long (0 : Int64)), .second, .val (.long (we1_r1 (0 : Int32) (w0_1 p0))), .second, .val (.long (w0_12 p0)), .second, .val (.long (w0_13 p0)), .second, .val (.long (w0_14 p0)), .second, .val (.ref b70), .val (.ref b75), .val (.long w0_16), .second, .val (.long (w0_18 p0)), .second, .val (.long (w0_20 p0)), .second, .unset, .unset, .unset, .unset] [(.long (q2 + (p0.toInt64))), (.int (w0_m21 p1)), (.int (3 : Int32)), (.ref b75)])) _
    exact k)
  have K_113 : ∀ t, Steps p.tables e below (T107.setTop (mkF m 283 #[.val (.int p0), .val (.int p1), .val (.long q2), .second, .val (.ref b2), .val (.int (w0_m11 p0)), .val (.long (0 : Int64)), .second, .val (.long (we1_r1 (0 : Int32) (w0_1 p0))), .second, .val (.long (w0_12 p0)), .second, .val (.long (w0_13 p0)), .second, .val (.long (w0_14 p0)), .second, .val (.ref b70), .val (.ref b75), .val (.long w0_16), .second, .val (.long (w0_18 p0)), .second, .val (.long (w0_20 p0)), .second, .unset, .unset, .unset, .unset] [(.long (q2 + (p0.toInt64))), (.int (w0_m21 p1)), (.int (3 : Int32)), (.ref b75)])) t → Steps p.tables e below S0 t := K112
  obtain ⟨cq114, kq114, q114a, q114b, q114c⟩ := isOf hZ e107 Fn78_0__105
  obtain ⟨_, _, ⟨T114, L114, k114, n114⟩, -, X114, ⟨Lc114, hQ114, l114, y114, z114⟩, st114⟩ := X107.virtualBack hx (y := (⟨"com/example/nearmark/nearmark/paging/LeastRecentlyUsed2", "rank", "(IZJ)J"⟩ : MethodName)) (z := (⟨"com/example/nearmark/nearmark/paging/LeastRecentlyUsed2", "rank", "(IZJ)J"⟩ : MethodName)) hown (mvT hZ (hw _ (List.mem_of_getElem? (i := 42) rfl))) (mvT hZ (hw _ (List.mem_of_getElem? (i := 43) rfl))) (notFace_of_selects (args := #[]) (mvT hZ (hw _ (List.mem_of_getElem? (i := 45) rfl)))) (mvT hZ (hw _ (List.mem_of_getElem? (i := 45) rfl))) (mvT hZ (hw _ (List.mem_of_getElem? (i := 44) rfl))) (by decide) (backOf (W := 0) (rmrk3 l Z a0 hw [] b75 (w0_m21 p1) (q2 + (p0.toInt64)) b70 b2 b78_9 k2 kn78_0 (w0_m11 p0) (0 : Int32) (w0_1 p0) (w0_4 p0) (w0_7 p0) (w0_10 p0) (wrk2_2 (w0_4 p0) (wrk1_2 (w0_1 p0) (wrk0_2 (0 : Int32) (-1 : Int32)))) (wrk2_3 (w0_4 p0) (wrk1_3 (w0_1 p0) (wrk0_3 (0 : Int32) (-1 : Int32)))) (wrk2_4 (w0_4 p0) (wrk1_4 (w0_1 p0) (wrk0_4 (0 : Int32) (-1 : Int32)))) (wrk2_5 (w0_4 p0) (wrk1_5 (w0_1 p0) (wrk0_5 (0 : Int32) (-1 : Int32)))) (wrk2_6 (w0_4 p0) (wrk1_6 (w0_1 p0) (wrk0_6 (0 : Int32) (-1 : Int32)))) T105.heap n0 Zs105 Fn78_1__105 Fn78_2__105 Fn73_0__105 Fn73_1__105 V_b2__105 Fn105_0 g_b78_9 (own_in3 p0) (own_m5 p0) ne_b75_b78_9 ne_b70_b78_9 ne_b2_b78_9) hZ (hw _ (List.mem_of_getElem? (i := 46) rfl)) (hw _ (List.mem_of_getElem? (i := 24) rfl)) (by decide) (by decide)) q114a q114c (g := (mkF m 283 #[.val (.int p0), .val (.int p1), .val (.long q2), .second, .val (.ref b2), .val (.int (w0_m11 p0)), .val (.long (0 : Int64)), .second, .val (.long (we1_r1 (0 : Int32) (w0_1 p0))), .second, .val (.long (w0_12 p0)), .second, .val (.long (w0_13 p0)), .second, .val (.long (w0_14 p0)), .second, .val (.ref b70), .val (.ref b75), .val (.long w0_16), .second, .val (.long (w0_18 p0)), .second, .val (.long (w0_20 p0)), .second, .unset, .unset, .unset, .unset] [(.long (q2 + (p0.toInt64))), (.int (w0_m21 p1)), (.int (3 : Int32)), (.ref b75)])) rfl (by rw [hml]; rfl) (Steps.refl _) (argsL := [(.int (3 : Int32)), (.int (w0_m21 p1)), (.long (q2 + (p0.toInt64)))]) (rest := []) (lenOf pd0_3 rfl) rfl (by show 2 * 0 + _ ≤ _; exact Nat.le_of_eq rfl) (hb hby at_283) (fun _ _ => ⟨rfl, e107, (by decide : 4 + 0 ≤ 16), (by decide : 14 + 0 ≤ 128)⟩)
  dsimp only [Pt.U, Pt.locs, Pt.cells, Pt.slots] at X114 l114 y114 z114 st114 hQ114
  subst l114 y114 z114
  obtain ⟨rfl, N114q, Kp114, Fn114_0⟩ := hQ114
  have N114 := Fr.app N107 N114q
  have V_b2__114 := V_b2__105.keep Kp114 (ninS ne_b2_b78_9 nin0)
  have Fn73_0__114 := Fn73_0__105.keep Kp114
  have Fn73_1__114 := Fn73_1__105.keep Kp114 (ninS ne_b70_b78_9 nin0)
  have Fn73_2__114 := Fn73_2__105.keep Kp114 (ninS ne_b70_b78_9 nin0)
  have Fn78_0__114 := Fn78_0__105.keep Kp114
  have Fn78_1__114 := Fn78_1__105.keep Kp114 (ninS ne_b75_b78_9 nin0)
  have Fn78_2__114 := Fn78_2__105.keep Kp114 (ninS ne_b75_b78_9 nin0)
  have Zs114 : n0 ≤ T114.heap.size := Nat.le_trans Zs105 Kp114.1
  have K114 : ∀ t, Steps p.tables e below (T114.setTop (mkF m 286 #[.val (.int p0), .val (.int p1), .val (.long q2), .second, .val (.ref b2), .val (.int (w0_m11 p0)), .val (.long (0 : Int64)), .second, .val (.long (we1_r1 (0 : Int32) (w0_1 p0))), .second, .val (.long (w0_12 p0)), .second, .val (.long (w0_13 p0)), .second, .val (.long (w0_14 p0)), .second, .val (.ref b70), .val (.ref b75), .val (.long w0_16), .second, .val (.long (w0_18 p0)), .second, .val (.long (w0_20 p0)), .second, .unset, .unset, .unset, .unset] [(.long (w0_22 p0))])) t → Steps p.tables e below S0 t := fun t k => K_113 t (st114.trans k)
  have K115 : ∀ t, Steps p.tables e below (T114.setTop (mkF m 295 #[.val (.int p0), .val (.int p1), .val (.long q2), .second, .val (.ref b2), .val (.int (w0_m11 p0)), .val (.long (0 : Int64)), .second, .val (.long (we1_r1 (0 : Int32) (w0_1 p0))), .second, .val (.long (w0_12 p0)), .second, .val (.long (w0_13 p0)), .second, .val (.long (w0_14 p0)), .second, .val (.ref b70), .val (.ref b75), .val (.long w0_16), .second, .val (.long (w0_18 p0)), .second, .val (.long (w0_20 p0)), .second, .val (.long (w0_22 p0)), .second, .unset, .unset] [(.int (p1 &&& (16 : Int32))), (.int (4 : Int32)), (.ref b75)])) t → Steps p.tables e below S0 t := fun t k => K114 t (by
    refine XS.lstore X114.here hx rfl (hb hby at_286) rfl (l' := #[.val (.int p0), .val (.int p1), .val (.long q2), .second, .val (.ref b2), .val (.int (w0_m11 p0)), .val (.long (0 : Int64)), .second, .val (.long (we1_r1 (0 : Int32) (w0_1 p0))), .second, .val (.long (w0_12 p0)), .second, .val (.long (w0_13 p0)), .second, .val (.long (w0_14 p0)), .second, .val (.ref b70), .val (.ref b75), .val (.long w0_16), .second, .val (.long (w0_18 p0)), .second, .val (.long (w0_20 p0)), .second, .val (.long (w0_22 p0)), .second, .unset, .unset]) rfl ?_
    show Steps p.tables e below (T114.setTop (mkF m 288 #[.val (.int p0), .val (.int p1), .val (.long q2), .second, .val (.ref b2), .val (.int (w0_m11 p0)), .val (.long (0 : Int64)), .second, .val (.long (we1_r1 (0 : Int32) (w0_1 p0))), .second, .val (.long (w0_12 p0)), .second, .val (.long (w0_13 p0)), .second, .val (.long (w0_14 p0)), .second, .val (.ref b70), .val (.ref b75), .val (.long w0_16), .second, .val (.long (w0_18 p0)), .second, .val (.long (w0_20 p0)), .second, .val (.long (w0_22 p0)), .second, .unset, .unset] [])) _
    refine XS.aload X114.here hx rfl (hb hby at_288) rfl rfl ?_
    show Steps p.tables e below (T114.setTop (mkF m 290 #[.val (.int p0), .val (.int p1), .val (.long q2), .second, .val (.ref b2), .val (.int (w0_m11 p0)), .val (.long (0 : Int64)), .second, .val (.long (we1_r1 (0 : Int32) (w0_1 p0))), .second, .val (.long (w0_12 p0)), .second, .val (.long (w0_13 p0)), .second, .val (.long (w0_14 p0)), .second, .val (.ref b70), .val (.ref b75), .val (.long w0_16), .second, .val (.long (w0_18 p0)), .second, .val (.long (w0_20 p0)), .second, .val (.long (w0_22 p0)), .second, .unset, .unset] [(.ref b75)])) _
    refine XS.iconst X114.here hx rfl (hb hby at_290) ?_
    show Steps p.tables e below (T114.setTop (mkF m 291 #[.val (.int p0), .val (.int p1), .val (.long q2), .second, .val (.ref b2), .val (.int (w0_m11 p0)), .val (.long (0 : Int64)), .second, .val (.long (we1_r1 (0 : Int32) (w0_1 p0))), .second, .val (.long (w0_12 p0)), .second, .val (.long (w0_13 p0)), .second, .val (.long (w0_14 p0)), .second, .val (.ref b70), .val (.ref b75), .val (.long w0_16), .second, .val (.long (w0_18 p0)), .second, .val (.long (w0_20 p0)), .second, .val (.long (w0_22 p0)), .second, .unset, .unset] [(.int (4 : Int32)), (.ref b75)])) _
    refine XS.iloadN X114.here hx rfl (hb hby at_291) rfl ?_
    show Steps p.tables e below (T114.setTop (mkF m 292 #[.val (.int p0), .val (.int p1), .val (.long q2), .second, .val (.ref b2), .val (.int (w0_m11 p0)), .val (.long (0 : Int64)), .second, .val (.long (we1_r1 (0 : Int32) (w0_1 p0))), .second, .val (.long (w0_12 p0)), .second, .val (.long (w0_13 p0)), .second, .val (.long (w0_14 p0)), .second, .val (.ref b70), .val (.ref b75), .val (.long w0_16), .second, .val (.long (w0_18 p0)), .second, .val (.long (w0_20 p0)), .second, .val (.long (w0_22 p0)), .second, .unset, .unset] [(.int p1), (.int (4 : Int32)), (.ref b75)])) _
    refine XS.bipush X114.here hx rfl (hb hby at_292) ?_
    show Steps p.tables e below (T114.setTop (mkF m 294 #[.val (.int p0), .val (.int p1), .val (.long q2), .second, .val (.ref b2), .val (.int (w0_m11 p0)), .val (.long (0 : Int64)), .second, .val (.long (we1_r1 (0 : Int32) (w0_1 p0))), .second, .val (.long (w0_12 p0)), .second, .val (.long (w0_13 p0)), .second, .val (.long (w0_14 p0)), .second, .val (.ref b70), .val (.ref b75), .val (.long w0_16), .second, .val (.long (w0_18 p0)), .second, .val (.long (w0_20 p0)), .second, .val (.long (w0_22 p0)), .second, .unset, .unset] [(.int (16 : Int32)), (.int p1), (.int (4 : Int32)), (.ref b75)])) _
    refine XS.iand X114.here hx rfl (hb hby at_294) rfl ?_
    show Steps p.tables e below (T114.setTop (mkF m 295 #[.val (.int p0), .val (.int p1), .val (.long q2), .second, .val (.ref b2), .val (.int (w0_m11 p0)), .val (.long (0 : Int64)), .second, .val (.long (we1_r1 (0 : Int32) (w0_1 p0))), .second, .val (.long (w0_12 p0)), .second, .val (.long (w0_13 p0)), .second, .val (.long (w0_14 p0)), .second, .val (.ref b70), .val (.ref b75), .val (.long w0_16), .second, .val (.long (w0_18 p0)), .second, .val (.long (w0_20 p0)), .second, .val (.long (w0_22 p0)), .second, .unset, .unset] [(.int (p1 &&& (16 : Int32))), (.int (4 : Int32)), (.ref b75)])) _
    exact k)
  obtain ⟨T116, lo116, X116, N116, e116, K116⟩ : ∃ (T' : State) (locs' : List Loc), Stand p l e room_1 s m #[(.int p0), (.int p1), (.long q2)] below meth c T' locs' 4 14 ∧ Fr n0 locs' ∧ T'.heap = T114.heap ∧ ∀ t, Steps p.tables e below (T'.setTop (mkF m 303 #[.val (.int p0), .val (.int p1), .val (.long q2), .second, .val (.ref b2), .val (.int (w0_m11 p0)), .val (.long (0 : Int64)), .second, .val (.long (we1_r1 (0 : Int32) (w0_1 p0))), .second, .val (.long (w0_12 p0)), .second, .val (.long (w0_13 p0)), .second, .val (.long (w0_14 p0)), .second, .val (.ref b70), .val (.ref b75), .val (.long w0_16), .second, .val (.long (w0_18 p0)), .second, .val (.long (w0_20 p0)), .second, .val (.long (w0_22 p0)), .second, .unset, .unset] [(.int (w0_m23 p1)), (.int (4 : Int32)), (.ref b75)])) t → Steps p.tables e below S0 t := by
    by_cases hc295_0 : (p1 &&& (16 : Int32)) = (0 : Int32)
    · -- yes
      have K117 : ∀ t, Steps p.tables e below (T114.setTop (mkF m 303 #[.val (.int p0), .val (.int p1), .val (.long q2), .second, .val (.ref b2), .val (.int (w0_m11 p0)), .val (.long (0 : Int64)), .second, .val (.long (we1_r1 (0 : Int32) (w0_1 p0))), .second, .val (.long (w0_12 p0)), .second, .val (.long (w0_13 p0)), .second, .val (.long (w0_14 p0)), .second, .val (.ref b70), .val (.ref b75), .val (.long w0_16), .second, .val (.long (w0_18 p0)), .second, .val (.long (w0_20 p0)), .second, .val (.long (w0_22 p0)), .second, .unset, .unset] [(.int (0 : Int32)), (.int (4 : Int32)), (.ref b75)])) t → Steps p.tables e below S0 t := fun t k => K115 t (by
        refine XS.ifYes X114.here hx rfl (pc0 := 295) (pc' := 302) rfl (hb hby at_295) rfl (XT.i0_eq_t hc295_0) (by decide) (by decide) ?_
        show Steps p.tables e below (T114.setTop (mkF m 302 #[.val (.int p0), .val (.int p1), .val (.long q2), .second, .val (.ref b2), .val (.int (w0_m11 p0)), .val (.long (0 : Int64)), .second, .val (.long (we1_r1 (0 : Int32) (w0_1 p0))), .second, .val (.long (w0_12 p0)), .second, .val (.long (w0_13 p0)), .second, .val (.long (w0_14 p0)), .second, .val (.ref b70), .val (.ref b75), .val (.long w0_16), .second, .val (.long (w0_18 p0)), .second, .val (.long (w0_20 p0)), .second, .val (.long (w0_22 p0)), .second, .unset, .unset] [(.int (4 : Int32)), (.ref b75)])) _
        refine XS.iconst X114.here hx rfl (hb hby at_302) ?_
        show Steps p.tables e below (T114.setTop (mkF m 303 #[.val (.int p0), .val (.int p1), .val (.long q2), .second, .val (.ref b2), .val (.int (w0_m11 p0)), .val (.long (0 : Int64)), .second, .val (.long (we1_r1 (0 : Int32) (w0_1 p0))), .second, .val (.long (w0_12 p0)), .second, .val (.long (w0_13 p0)), .second, .val (.long (w0_14 p0)), .second, .val (.ref b70), .val (.ref b75), .val (.long w0_16), .second, .val (.long (w0_18 p0)), .second, .val (.long (w0_20 p0)), .second, .val (.long (w0_22 p0)), .second, .unset, .unset] [(.int (0 : Int32)), (.int (4 : Int32)), (.ref b75)])) _
        exact k)
      have q118 : (w0_m23 p1) = (0 : Int32) := by unfold w0_m23; rw [if_pos hc295_0]
      exact ⟨T114, _, X114, N114, rfl, fun t k => K117 t (by rw [q118] at k; exact k)⟩
    · -- no
      have K119 : ∀ t, Steps p.tables e below (T114.setTop (mkF m 303 #[.val (.int p0), .val (.int p1), .val (.long q2), .second, .val (.ref b2), .val (.int (w0_m11 p0)), .val (.long (0 : Int64)), .second, .val (.long (we1_r1 (0 : Int32) (w0_1 p0))), .second, .val (.long (w0_12 p0)), .second, .val (.long (w0_13 p0)), .second, .val (.long (w0_14 p0)), .second, .val (.ref b70), .val (.ref b75), .val (.long w0_16), .second, .val (.long (w0_18 p0)), .second, .val (.long (w0_20 p0)), .second, .val (.long (w0_22 p0)), .second, .unset, .unset] [(.int (1 : Int32)), (.int (4 : Int32)), (.ref b75)])) t → Steps p.tables e below S0 t := fun t k => K115 t (by
        refine XS.ifNo X114.here hx rfl (hb hby at_295) rfl (XT.i0_eq_f hc295_0) ?_
        show Steps p.tables e below (T114.setTop (mkF m 298 #[.val (.int p0), .val (.int p1), .val (.long q2), .second, .val (.ref b2), .val (.int (w0_m11 p0)), .val (.long (0 : Int64)), .second, .val (.long (we1_r1 (0 : Int32) (w0_1 p0))), .second, .val (.long (w0_12 p0)), .second, .val (.long (w0_13 p0)), .second, .val (.long (w0_14 p0)), .second, .val (.ref b70), .val (.ref b75), .val (.long w0_16), .second, .val (.long (w0_18 p0)), .second, .val (.long (w0_20 p0)), .second, .val (.long (w0_22 p0)), .second, .unset, .unset] [(.int (4 : Int32)), (.ref b75)])) _
        refine XS.iconst X114.here hx rfl (hb hby at_298) ?_
        show Steps p.tables e below (T114.setTop (mkF m 299 #[.val (.int p0), .val (.int p1), .val (.long q2), .second, .val (.ref b2), .val (.int (w0_m11 p0)), .val (.long (0 : Int64)), .second, .val (.long (we1_r1 (0 : Int32) (w0_1 p0))), .second, .val (.long (w0_12 p0)), .second, .val (.long (w0_13 p0)), .second, .val (.long (w0_14 p0)), .second, .val (.ref b70), .val (.ref b75), .val (.long w0_16), .second, .val (.long (w0_18 p0)), .second, .val (.long (w0_20 p0)), .second, .val (.long (w0_22 p0)), .second, .unset, .unset] [(.int (1 : Int32)), (.int (4 : Int32)), (.ref b75)])) _
        refine XS.goto X114.here hx rfl (pc0 := 299) (pc' := 303) rfl (hb hby at_299) (by decide) (by decide) ?_
        show Steps p.tables e below (T114.setTop (mkF m 303 #[.val (.int p0), .val (.int p1), .val (.long q2), .second, .val (.ref b2), .val (.int (w0_m11 p0)), .val (.long (0 : Int64)), .second, .val (.long (we1_r1 (0 : Int32) (w0_1 p0))), .second, .val (.long (w0_12 p0)), .second, .val (.long (w0_13 p0)), .second, .val (.long (w0_14 p0)), .second, .val (.ref b70), .val (.ref b75), .val (.long w0_16), .second, .val (.long (w0_18 p0)), .second, .val (.long (w0_20 p0)), .second, .val (.long (w0_22 p0)), .second, .unset, .unset] [(.int (1 : Int32)), (.int (4 : Int32)), (.ref b75)])) _
        exact k)
      have q120 : (w0_m23 p1) = (1 : Int32) := by unfold w0_m23; rw [if_neg hc295_0]
      exact ⟨T114, _, X114, N114, rfl, fun t k => K119 t (by rw [q120] at k; exact k)⟩
  have K121 : ∀ t, Steps p.tables e below (T116.setTop (mkF m 305 #[.val (.int p0), .val (.int p1), .val (.long q2), .second, .val (.ref b2), .val (.int (w0_m11 p0)), .val (.long (0 : Int64)), .second, .val (.long (we1_r1 (0 : Int32) (w0_1 p0))), .second, .val (.long (w0_12 p0)), .second, .val (.long (w0_13 p0)), .second, .val (.long (w0_14 p0)), .second, .val (.ref b70), .val (.ref b75), .val (.long w0_16), .second, .val (.long (w0_18 p0)), .second, .val (.long (w0_20 p0)), .second, .val (.long (w0_22 p0)), .second, .unset, .unset] [(.long (-q2)), (.int (w0_m23 p1)), (.int (4 : Int32)), (.ref b75)])) t → Steps p.tables e below S0 t := fun t k => K116 t (by
    refine XS.lloadN X116.here hx rfl (hb hby at_303) rfl ?_
    show Steps p.tables e below (T116.setTop (mkF m 304 #[.val (.int p0), .val (.int p1), .val (.long q2), .second, .val (.ref b2), .val (.int (w0_m11 p0)), .val (.long (0 : Int64)), .second, .val (.long (we1_r1 (0 : Int32) (w0_1 p0))), .second, .val (.long (w0_12 p0)), .second, .val (.long (w0_13 p0)), .second, .val (.long (w0_14 p0)), .second, .val (.ref b70), .val (.ref b75), .val (.long w0_16), .second, .val (.long (w0_18 p0)), .second, .val (.long (w0_20 p0)), .second, .val (.long (w0_22 p0)), .second, .unset, .unset] [(.long q2), (.int (w0_m23 p1)), (.int (4 : Int32)), (.ref b75)])) _
    refine XS.lneg X116.here hx rfl (hb hby at_304) rfl ?_
    show Steps p.tables e below (T116.setTop (mkF m 305 #[.val (.int p0), .val (.int p1), .val (.long q2), .second, .val (.ref b2), .val (.int (w0_m11 p0)), .val (.long (0 : Int64)), .second, .val (.long (we1_r1 (0 : Int32) (w0_1 p0))), .second, .val (.long (w0_12 p0)), .second, .val (.long (w0_13 p0)), .second, .val (.long (w0_14 p0)), .second, .val (.ref b70), .val (.ref b75), .val (.long w0_16), .second, .val (.long (w0_18 p0)), .second, .val (.long (w0_20 p0)), .second, .val (.long (w0_22 p0)), .second, .unset, .unset] [(.long (-q2)), (.int (w0_m23 p1)), (.int (4 : Int32)), (.ref b75)])) _
    exact k)
  have K_122 : ∀ t, Steps p.tables e below (T116.setTop (mkF m 305 #[.val (.int p0), .val (.int p1), .val (.long q2), .second, .val (.ref b2), .val (.int (w0_m11 p0)), .val (.long (0 : Int64)), .second, .val (.long (we1_r1 (0 : Int32) (w0_1 p0))), .second, .val (.long (w0_12 p0)), .second, .val (.long (w0_13 p0)), .second, .val (.long (w0_14 p0)), .second, .val (.ref b70), .val (.ref b75), .val (.long w0_16), .second, .val (.long (w0_18 p0)), .second, .val (.long (w0_20 p0)), .second, .val (.long (w0_22 p0)), .second, .unset, .unset] [(.long (-q2)), (.int (w0_m23 p1)), (.int (4 : Int32)), (.ref b75)])) t → Steps p.tables e below S0 t := K121
  obtain ⟨cq123, kq123, q123a, q123b, q123c⟩ := isOf hZ e116 Fn78_0__114
  obtain ⟨_, _, ⟨T123, L123, k123, n123⟩, -, X123, ⟨Lc123, hQ123, l123, y123, z123⟩, st123⟩ := X116.virtualBack hx (y := (⟨"com/example/nearmark/nearmark/paging/LeastRecentlyUsed2", "rank", "(IZJ)J"⟩ : MethodName)) (z := (⟨"com/example/nearmark/nearmark/paging/LeastRecentlyUsed2", "rank", "(IZJ)J"⟩ : MethodName)) hown (mvT hZ (hw _ (List.mem_of_getElem? (i := 42) rfl))) (mvT hZ (hw _ (List.mem_of_getElem? (i := 43) rfl))) (notFace_of_selects (args := #[]) (mvT hZ (hw _ (List.mem_of_getElem? (i := 45) rfl)))) (mvT hZ (hw _ (List.mem_of_getElem? (i := 45) rfl))) (mvT hZ (hw _ (List.mem_of_getElem? (i := 44) rfl))) (by decide) (backOf (W := 0) (rmrk4 l Z a0 hw [] b75 (w0_m23 p1) (-q2) b70 b2 b78_9 k2 kn78_0 (w0_m11 p0) (0 : Int32) (w0_1 p0) (w0_4 p0) (w0_7 p0) (w0_10 p0) (wrk3_2 (w0_7 p0) (wrk2_2 (w0_4 p0) (wrk1_2 (w0_1 p0) (wrk0_2 (0 : Int32) (-1 : Int32))))) (wrk3_3 (w0_7 p0) (wrk2_3 (w0_4 p0) (wrk1_3 (w0_1 p0) (wrk0_3 (0 : Int32) (-1 : Int32))))) (wrk3_4 (w0_7 p0) (wrk2_4 (w0_4 p0) (wrk1_4 (w0_1 p0) (wrk0_4 (0 : Int32) (-1 : Int32))))) (wrk3_5 (w0_7 p0) (wrk2_5 (w0_4 p0) (wrk1_5 (w0_1 p0) (wrk0_5 (0 : Int32) (-1 : Int32))))) (wrk3_6 (w0_7 p0) (wrk2_6 (w0_4 p0) (wrk1_6 (w0_1 p0) (wrk0_6 (0 : Int32) (-1 : Int32))))) T114.heap n0 Zs114 Fn78_1__114 Fn78_2__114 Fn73_0__114 Fn73_1__114 V_b2__114 Fn114_0 g_b78_9 (own_in4 p0) (own_m5 p0) ne_b75_b78_9 ne_b70_b78_9 ne_b2_b78_9) hZ (hw _ (List.mem_of_getElem? (i := 46) rfl)) (hw _ (List.mem_of_getElem? (i := 24) rfl)) (by decide) (by decide)) q123a q123c (g := (mkF m 305 #[.val (.int p0), .val (.int p1), .val (.long q2), .second, .val (.ref b2), .val (.int (w0_m11 p0)), .val (.long (0 : Int64)), .second, .val (.long (we1_r1 (0 : Int32) (w0_1 p0))), .second, .val (.long (w0_12 p0)), .second, .val (.long (w0_13 p0)), .second, .val (.long (w0_14 p0)), .second, .val (.ref b70), .val (.ref b75), .val (.long w0_16), .second, .val (.long (w0_18 p0)), .second, .val (.long (w0_20 p0)), .second, .val (.long (w0_22 p0)), .second, .unset, .unset] [(.long (-q2)), (.int (w0_m23 p1)), (.int (4 : Int32)), (.ref b75)])) rfl (by rw [hml]; rfl) (Steps.refl _) (argsL := [(.int (4 : Int32)), (.int (w0_m23 p1)), (.long (-q2))]) (rest := []) (lenOf pd0_3 rfl) rfl (by show 2 * 0 + _ ≤ _; exact Nat.le_of_eq rfl) (hb hby at_305) (fun _ _ => ⟨rfl, e116, (by decide : 4 + 0 ≤ 16), (by decide : 14 + 0 ≤ 128)⟩)
  dsimp only [Pt.U, Pt.locs, Pt.cells, Pt.slots] at X123 l123 y123 z123 st123 hQ123
  subst l123 y123 z123
  obtain ⟨rfl, N123q, Kp123, Fn123_0⟩ := hQ123
  have N123 := Fr.app N116 N123q
  have V_b2__123 := V_b2__114.keep Kp123 (ninS ne_b2_b78_9 nin0)
  have Fn73_0__123 := Fn73_0__114.keep Kp123
  have Fn73_1__123 := Fn73_1__114.keep Kp123 (ninS ne_b70_b78_9 nin0)
  have Fn73_2__123 := Fn73_2__114.keep Kp123 (ninS ne_b70_b78_9 nin0)
  have Fn78_0__123 := Fn78_0__114.keep Kp123
  have Fn78_1__123 := Fn78_1__114.keep Kp123 (ninS ne_b75_b78_9 nin0)
  have Fn78_2__123 := Fn78_2__114.keep Kp123 (ninS ne_b75_b78_9 nin0)
  have Zs123 : n0 ≤ T123.heap.size := Nat.le_trans Zs114 Kp123.1
  have K123 : ∀ t, Steps p.tables e below (T123.setTop (mkF m 308 #[.val (.int p0), .val (.int p1), .val (.long q2), .second, .val (.ref b2), .val (.int (w0_m11 p0)), .val (.long (0 : Int64)), .second, .val (.long (we1_r1 (0 : Int32) (w0_1 p0))), .second, .val (.long (w0_12 p0)), .second, .val (.long (w0_13 p0)), .second, .val (.long (w0_14 p0)), .second, .val (.ref b70), .val (.ref b75), .val (.long w0_16), .second, .val (.long (w0_18 p0)), .second, .val (.long (w0_20 p0)), .second, .val (.long (w0_22 p0)), .second, .unset, .unset] [(.long (w0_24 p0))])) t → Steps p.tables e below S0 t := fun t k => K_122 t (st123.trans k)
  have K124 : ∀ t, Steps p.tables e below (T123.setTop (mkF m 315 #[.val (.int p0), .val (.int p1), .val (.long q2), .second, .val (.ref b2), .val (.int (w0_m11 p0)), .val (.long (0 : Int64)), .second, .val (.long (we1_r1 (0 : Int32) (w0_1 p0))), .second, .val (.long (w0_12 p0)), .second, .val (.long (w0_13 p0)), .second, .val (.long (w0_14 p0)), .second, .val (.ref b70), .val (.ref b75), .val (.long w0_16), .second, .val (.long (w0_18 p0)), .second, .val (.long (w0_20 p0)), .second, .val (.long (w0_22 p0)), .second, .val (.long (w0_24 p0)), .second] [(.int (lcmpW w0_16 (0 : Int64)))])) t → Steps p.tables e below S0 t := fun t k => K123 t (by
    refine XS.lstore X123.here hx rfl (hb hby at_308) rfl (l' := #[.val (.int p0), .val (.int p1), .val (.long q2), .second, .val (.ref b2), .val (.int (w0_m11 p0)), .val (.long (0 : Int64)), .second, .val (.long (we1_r1 (0 : Int32) (w0_1 p0))), .second, .val (.long (w0_12 p0)), .second, .val (.long (w0_13 p0)), .second, .val (.long (w0_14 p0)), .second, .val (.ref b70), .val (.ref b75), .val (.long w0_16), .second, .val (.long (w0_18 p0)), .second, .val (.long (w0_20 p0)), .second, .val (.long (w0_22 p0)), .second, .val (.long (w0_24 p0)), .second]) rfl ?_
    show Steps p.tables e below (T123.setTop (mkF m 310 #[.val (.int p0), .val (.int p1), .val (.long q2), .second, .val (.ref b2), .val (.int (w0_m11 p0)), .val (.long (0 : Int64)), .second, .val (.long (we1_r1 (0 : Int32) (w0_1 p0))), .second, .val (.long (w0_12 p0)), .second, .val (.long (w0_13 p0)), .second, .val (.long (w0_14 p0)), .second, .val (.ref b70), .val (.ref b75), .val (.long w0_16), .second, .val (.long (w0_18 p0)), .second, .val (.long (w0_20 p0)), .second, .val (.long (w0_22 p0)), .second, .val (.long (w0_24 p0)), .second] [])) _
    refine XS.lload X123.here hx rfl (hb hby at_310) rfl ?_
    show Steps p.tables e below (T123.setTop (mkF m 312 #[.val (.int p0), .val (.int p1), .val (.long q2), .second, .val (.ref b2), .val (.int (w0_m11 p0)), .val (.long (0 : Int64)), .second, .val (.long (we1_r1 (0 : Int32) (w0_1 p0))), .second, .val (.long (w0_12 p0)), .second, .val (.long (w0_13 p0)), .second, .val (.long (w0_14 p0)), .second, .val (.ref b70), .val (.ref b75), .val (.long w0_16), .second, .val (.long (w0_18 p0)), .second, .val (.long (w0_20 p0)), .second, .val (.long (w0_22 p0)), .second, .val (.long (w0_24 p0)), .second] [(.long w0_16)])) _
    refine XS.lload X123.here hx rfl (hb hby at_312) rfl ?_
    show Steps p.tables e below (T123.setTop (mkF m 314 #[.val (.int p0), .val (.int p1), .val (.long q2), .second, .val (.ref b2), .val (.int (w0_m11 p0)), .val (.long (0 : Int64)), .second, .val (.long (we1_r1 (0 : Int32) (w0_1 p0))), .second, .val (.long (w0_12 p0)), .second, .val (.long (w0_13 p0)), .second, .val (.long (w0_14 p0)), .second, .val (.ref b70), .val (.ref b75), .val (.long w0_16), .second, .val (.long (w0_18 p0)), .second, .val (.long (w0_20 p0)), .second, .val (.long (w0_22 p0)), .second, .val (.long (w0_24 p0)), .second] [(.long (0 : Int64)), (.long w0_16)])) _
    refine XS.lcmp X123.here hx rfl (hb hby at_314) rfl ?_
    show Steps p.tables e below (T123.setTop (mkF m 315 #[.val (.int p0), .val (.int p1), .val (.long q2), .second, .val (.ref b2), .val (.int (w0_m11 p0)), .val (.long (0 : Int64)), .second, .val (.long (we1_r1 (0 : Int32) (w0_1 p0))), .second, .val (.long (w0_12 p0)), .second, .val (.long (w0_13 p0)), .second, .val (.long (w0_14 p0)), .second, .val (.ref b70), .val (.ref b75), .val (.long w0_16), .second, .val (.long (w0_18 p0)), .second, .val (.long (w0_20 p0)), .second, .val (.long (w0_22 p0)), .second, .val (.long (w0_24 p0)), .second] [(.int (lcmpW w0_16 (0 : Int64)))])) _
    exact k)
  by_cases hc315_0 : w0_16 = (0 : Int64)
  · -- yes
    have K125 : ∀ t, Steps p.tables e below (T123.setTop (mkF m 323 #[.val (.int p0), .val (.int p1), .val (.long q2), .second, .val (.ref b2), .val (.int (w0_m11 p0)), .val (.long (0 : Int64)), .second, .val (.long (we1_r1 (0 : Int32) (w0_1 p0))), .second, .val (.long (w0_12 p0)), .second, .val (.long (w0_13 p0)), .second, .val (.long (w0_14 p0)), .second, .val (.ref b70), .val (.ref b75), .val (.long w0_16), .second, .val (.long (w0_18 p0)), .second, .val (.long (w0_20 p0)), .second, .val (.long (w0_22 p0)), .second, .val (.long (w0_24 p0)), .second] [(.int (lcmpW (w0_18 p0) (we1_r1 (0 : Int32) (w0_1 p0))))])) t → Steps p.tables e below S0 t := fun t k => K124 t (by
      refine XS.ifNo X123.here hx rfl (hb hby at_315) rfl (XT.ll_ne_f hc315_0) ?_
      show Steps p.tables e below (T123.setTop (mkF m 318 #[.val (.int p0), .val (.int p1), .val (.long q2), .second, .val (.ref b2), .val (.int (w0_m11 p0)), .val (.long (0 : Int64)), .second, .val (.long (we1_r1 (0 : Int32) (w0_1 p0))), .second, .val (.long (w0_12 p0)), .second, .val (.long (w0_13 p0)), .second, .val (.long (w0_14 p0)), .second, .val (.ref b70), .val (.ref b75), .val (.long w0_16), .second, .val (.long (w0_18 p0)), .second, .val (.long (w0_20 p0)), .second, .val (.long (w0_22 p0)), .second, .val (.long (w0_24 p0)), .second] [])) _
      refine XS.lload X123.here hx rfl (hb hby at_318) rfl ?_
      show Steps p.tables e below (T123.setTop (mkF m 320 #[.val (.int p0), .val (.int p1), .val (.long q2), .second, .val (.ref b2), .val (.int (w0_m11 p0)), .val (.long (0 : Int64)), .second, .val (.long (we1_r1 (0 : Int32) (w0_1 p0))), .second, .val (.long (w0_12 p0)), .second, .val (.long (w0_13 p0)), .second, .val (.long (w0_14 p0)), .second, .val (.ref b70), .val (.ref b75), .val (.long w0_16), .second, .val (.long (w0_18 p0)), .second, .val (.long (w0_20 p0)), .second, .val (.long (w0_22 p0)), .second, .val (.long (w0_24 p0)), .second] [(.long (w0_18 p0))])) _
      refine XS.lload X123.here hx rfl (hb hby at_320) rfl ?_
      show Steps p.tables e below (T123.setTop (mkF m 322 #[.val (.int p0), .val (.int p1), .val (.long q2), .second, .val (.ref b2), .val (.int (w0_m11 p0)), .val (.long (0 : Int64)), .second, .val (.long (we1_r1 (0 : Int32) (w0_1 p0))), .second, .val (.long (w0_12 p0)), .second, .val (.long (w0_13 p0)), .second, .val (.long (w0_14 p0)), .second, .val (.ref b70), .val (.ref b75), .val (.long w0_16), .second, .val (.long (w0_18 p0)), .second, .val (.long (w0_20 p0)), .second, .val (.long (w0_22 p0)), .second, .val (.long (w0_24 p0)), .second] [(.long (we1_r1 (0 : Int32) (w0_1 p0))), (.long (w0_18 p0))])) _
      refine XS.lcmp X123.here hx rfl (hb hby at_322) rfl ?_
      show Steps p.tables e below (T123.setTop (mkF m 323 #[.val (.int p0), .val (.int p1), .val (.long q2), .second, .val (.ref b2), .val (.int (w0_m11 p0)), .val (.long (0 : Int64)), .second, .val (.long (we1_r1 (0 : Int32) (w0_1 p0))), .second, .val (.long (w0_12 p0)), .second, .val (.long (w0_13 p0)), .second, .val (.long (w0_14 p0)), .second, .val (.ref b70), .val (.ref b75), .val (.long w0_16), .second, .val (.long (w0_18 p0)), .second, .val (.long (w0_20 p0)), .second, .val (.long (w0_22 p0)), .second, .val (.long (w0_24 p0)), .second] [(.int (lcmpW (w0_18 p0) (we1_r1 (0 : Int32) (w0_1 p0))))])) _
      exact k)
    by_cases hc323_1 : (w0_18 p0) = (we1_r1 (0 : Int32) (w0_1 p0))
    · -- yes
      have K126 : ∀ t, Steps p.tables e below (T123.setTop (mkF m 331 #[.val (.int p0), .val (.int p1), .val (.long q2), .second, .val (.ref b2), .val (.int (w0_m11 p0)), .val (.long (0 : Int64)), .second, .val (.long (we1_r1 (0 : Int32) (w0_1 p0))), .second, .val (.long (w0_12 p0)), .second, .val (.long (w0_13 p0)), .second, .val (.long (w0_14 p0)), .second, .val (.ref b70), .val (.ref b75), .val (.long w0_16), .second, .val (.long (w0_18 p0)), .second, .val (.long (w0_20 p0)), .second, .val (.long (w0_22 p0)), .second, .val (.long (w0_24 p0)), .second] [(.int (lcmpW (w0_20 p0) (w0_12 p0)))])) t → Steps p.tables e below S0 t := fun t k => K125 t (by
        refine XS.ifNo X123.here hx rfl (hb hby at_323) rfl (XT.ll_ne_f hc323_1) ?_
        show Steps p.tables e below (T123.setTop (mkF m 326 #[.val (.int p0), .val (.int p1), .val (.long q2), .second, .val (.ref b2), .val (.int (w0_m11 p0)), .val (.long (0 : Int64)), .second, .val (.long (we1_r1 (0 : Int32) (w0_1 p0))), .second, .val (.long (w0_12 p0)), .second, .val (.long (w0_13 p0)), .second, .val (.long (w0_14 p0)), .second, .val (.ref b70), .val (.ref b75), .val (.long w0_16), .second, .val (.long (w0_18 p0)), .second, .val (.long (w0_20 p0)), .second, .val (.long (w0_22 p0)), .second, .val (.long (w0_24 p0)), .second] [])) _
        refine XS.lload X123.here hx rfl (hb hby at_326) rfl ?_
        show Steps p.tables e below (T123.setTop (mkF m 328 #[.val (.int p0), .val (.int p1), .val (.long q2), .second, .val (.ref b2), .val (.int (w0_m11 p0)), .val (.long (0 : Int64)), .second, .val (.long (we1_r1 (0 : Int32) (w0_1 p0))), .second, .val (.long (w0_12 p0)), .second, .val (.long (w0_13 p0)), .second, .val (.long (w0_14 p0)), .second, .val (.ref b70), .val (.ref b75), .val (.long w0_16), .second, .val (.long (w0_18 p0)), .second, .val (.long (w0_20 p0)), .second, .val (.long (w0_22 p0)), .second, .val (.long (w0_24 p0)), .second] [(.long (w0_20 p0))])) _
        refine XS.lload X123.here hx rfl (hb hby at_328) rfl ?_
        show Steps p.tables e below (T123.setTop (mkF m 330 #[.val (.int p0), .val (.int p1), .val (.long q2), .second, .val (.ref b2), .val (.int (w0_m11 p0)), .val (.long (0 : Int64)), .second, .val (.long (we1_r1 (0 : Int32) (w0_1 p0))), .second, .val (.long (w0_12 p0)), .second, .val (.long (w0_13 p0)), .second, .val (.long (w0_14 p0)), .second, .val (.ref b70), .val (.ref b75), .val (.long w0_16), .second, .val (.long (w0_18 p0)), .second, .val (.long (w0_20 p0)), .second, .val (.long (w0_22 p0)), .second, .val (.long (w0_24 p0)), .second] [(.long (w0_12 p0)), (.long (w0_20 p0))])) _
        refine XS.lcmp X123.here hx rfl (hb hby at_330) rfl ?_
        show Steps p.tables e below (T123.setTop (mkF m 331 #[.val (.int p0), .val (.int p1), .val (.long q2), .second, .val (.ref b2), .val (.int (w0_m11 p0)), .val (.long (0 : Int64)), .second, .val (.long (we1_r1 (0 : Int32) (w0_1 p0))), .second, .val (.long (w0_12 p0)), .second, .val (.long (w0_13 p0)), .second, .val (.long (w0_14 p0)), .second, .val (.ref b70), .val (.ref b75), .val (.long w0_16), .second, .val (.long (w0_18 p0)), .second, .val (.long (w0_20 p0)), .second, .val (.long (w0_22 p0)), .second, .val (.long (w0_24 p0)), .second] [(.int (lcmpW (w0_20 p0) (w0_12 p0)))])) _
        exact k)
      by_cases hc331_2 : (w0_20 p0) = (w0_12 p0)
      · -- yes
        have K127 : ∀ t, Steps p.tables e below (T123.setTop (mkF m 339 #[.val (.int p0), .val (.int p1), .val (.long q2), .second, .val (.ref b2), .val (.int (w0_m11 p0)), .val (.long (0 : Int64)), .second, .val (.long (we1_r1 (0 : Int32) (w0_1 p0))), .second, .val (.long (w0_12 p0)), .second, .val (.long (w0_13 p0)), .second, .val (.long (w0_14 p0)), .second, .val (.ref b70), .val (.ref b75), .val (.long w0_16), .second, .val (.long (w0_18 p0)), .second, .val (.long (w0_20 p0)), .second, .val (.long (w0_22 p0)), .second, .val (.long (w0_24 p0)), .second] [(.int (lcmpW (w0_22 p0) (w0_13 p0)))])) t → Steps p.tables e below S0 t := fun t k => K126 t (by
          refine XS.ifNo X123.here hx rfl (hb hby at_331) rfl (XT.ll_ne_f hc331_2) ?_
          show Steps p.tables e below (T123.setTop (mkF m 334 #[.val (.int p0), .val (.int p1), .val (.long q2), .second, .val (.ref b2), .val (.int (w0_m11 p0)), .val (.long (0 : Int64)), .second, .val (.long (we1_r1 (0 : Int32) (w0_1 p0))), .second, .val (.long (w0_12 p0)), .second, .val (.long (w0_13 p0)), .second, .val (.long (w0_14 p0)), .second, .val (.ref b70), .val (.ref b75), .val (.long w0_16), .second, .val (.long (w0_18 p0)), .second, .val (.long (w0_20 p0)), .second, .val (.long (w0_22 p0)), .second, .val (.long (w0_24 p0)), .second] [])) _
          refine XS.lload X123.here hx rfl (hb hby at_334) rfl ?_
          show Steps p.tables e below (T123.setTop (mkF m 336 #[.val (.int p0), .val (.int p1), .val (.long q2), .second, .val (.ref b2), .val (.int (w0_m11 p0)), .val (.long (0 : Int64)), .second, .val (.long (we1_r1 (0 : Int32) (w0_1 p0))), .second, .val (.long (w0_12 p0)), .second, .val (.long (w0_13 p0)), .second, .val (.long (w0_14 p0)), .second, .val (.ref b70), .val (.ref b75), .val (.long w0_16), .second, .val (.long (w0_18 p0)), .second, .val (.long (w0_20 p0)), .second, .val (.long (w0_22 p0)), .second, .val (.long (w0_24 p0)), .second] [(.long (w0_22 p0))])) _
          refine XS.lload X123.here hx rfl (hb hby at_336) rfl ?_
          show Steps p.tables e below (T123.setTop (mkF m 338 #[.val (.int p0), .val (.int p1), .val (.long q2), .second, .val (.ref b2), .val (.int (w0_m11 p0)), .val (.long (0 : Int64)), .second, .val (.long (we1_r1 (0 : Int32) (w0_1 p0))), .second, .val (.long (w0_12 p0)), .second, .val (.long (w0_13 p0)), .second, .val (.long (w0_14 p0)), .second, .val (.ref b70), .val (.ref b75), .val (.long w0_16), .second, .val (.long (w0_18 p0)), .second, .val (.long (w0_20 p0)), .second, .val (.long (w0_22 p0)), .second, .val (.long (w0_24 p0)), .second] [(.long (w0_13 p0)), (.long (w0_22 p0))])) _
          refine XS.lcmp X123.here hx rfl (hb hby at_338) rfl ?_
          show Steps p.tables e below (T123.setTop (mkF m 339 #[.val (.int p0), .val (.int p1), .val (.long q2), .second, .val (.ref b2), .val (.int (w0_m11 p0)), .val (.long (0 : Int64)), .second, .val (.long (we1_r1 (0 : Int32) (w0_1 p0))), .second, .val (.long (w0_12 p0)), .second, .val (.long (w0_13 p0)), .second, .val (.long (w0_14 p0)), .second, .val (.ref b70), .val (.ref b75), .val (.long w0_16), .second, .val (.long (w0_18 p0)), .second, .val (.long (w0_20 p0)), .second, .val (.long (w0_22 p0)), .second, .val (.long (w0_24 p0)), .second] [(.int (lcmpW (w0_22 p0) (w0_13 p0)))])) _
          exact k)
        by_cases hc339_3 : (w0_22 p0) = (w0_13 p0)
        · -- yes
          have K128 : ∀ t, Steps p.tables e below (T123.setTop (mkF m 347 #[.val (.int p0), .val (.int p1), .val (.long q2), .second, .val (.ref b2), .val (.int (w0_m11 p0)), .val (.long (0 : Int64)), .second, .val (.long (we1_r1 (0 : Int32) (w0_1 p0))), .second, .val (.long (w0_12 p0)), .second, .val (.long (w0_13 p0)), .second, .val (.long (w0_14 p0)), .second, .val (.ref b70), .val (.ref b75), .val (.long w0_16), .second, .val (.long (w0_18 p0)), .second, .val (.long (w0_20 p0)), .second, .val (.long (w0_22 p0)), .second, .val (.long (w0_24 p0)), .second] [(.int (lcmpW (w0_24 p0) (w0_14 p0)))])) t → Steps p.tables e below S0 t := fun t k => K127 t (by
            refine XS.ifNo X123.here hx rfl (hb hby at_339) rfl (XT.ll_ne_f hc339_3) ?_
            show Steps p.tables e below (T123.setTop (mkF m 342 #[.val (.int p0), .val (.int p1), .val (.long q2), .second, .val (.ref b2), .val (.int (w0_m11 p0)), .val (.long (0 : Int64)), .second, .val (.long (we1_r1 (0 : Int32) (w0_1 p0))), .second, .val (.long (w0_12 p0)), .second, .val (.long (w0_13 p0)), .second, .val (.long (w0_14 p0)), .second, .val (.ref b70), .val (.ref b75), .val (.long w0_16), .second, .val (.long (w0_18 p0)), .second, .val (.long (w0_20 p0)), .second, .val (.long (w0_22 p0)), .second, .val (.long (w0_24 p0)), .second] [])) _
            refine XS.lload X123.here hx rfl (hb hby at_342) rfl ?_
            show Steps p.tables e below (T123.setTop (mkF m 344 #[.val (.int p0), .val (.int p1), .val (.long q2), .second, .val (.ref b2), .val (.int (w0_m11 p0)), .val (.long (0 : Int64)), .second, .val (.long (we1_r1 (0 : Int32) (w0_1 p0))), .second, .val (.long (w0_12 p0)), .second, .val (.long (w0_13 p0)), .second, .val (.long (w0_14 p0)), .second, .val (.ref b70), .val (.ref b75), .val (.long w0_16), .second, .val (.long (w0_18 p0)), .second, .val (.long (w0_20 p0)), .second, .val (.long (w0_22 p0)), .second, .val (.long (w0_24 p0)), .second] [(.long (w0_24 p0))])) _
            refine XS.lload X123.here hx rfl (hb hby at_344) rfl ?_
            show Steps p.tables e below (T123.setTop (mkF m 346 #[.val (.int p0), .val (.int p1), .val (.long q2), .second, .val (.ref b2), .val (.int (w0_m11 p0)), .val (.long (0 : Int64)), .second, .val (.long (we1_r1 (0 : Int32) (w0_1 p0))), .second, .val (.long (w0_12 p0)), .second, .val (.long (w0_13 p0)), .second, .val (.long (w0_14 p0)), .second, .val (.ref b70), .val (.ref b75), .val (.long w0_16), .second, .val (.long (w0_18 p0)), .second, .val (.long (w0_20 p0)), .second, .val (.long (w0_22 p0)), .second, .val (.long (w0_24 p0)), .second] [(.long (w0_14 p0)), (.long (w0_24 p0))])) _
            refine XS.lcmp X123.here hx rfl (hb hby at_346) rfl ?_
            show Steps p.tables e below (T123.setTop (mkF m 347 #[.val (.int p0), .val (.int p1), .val (.long q2), .second, .val (.ref b2), .val (.int (w0_m11 p0)), .val (.long (0 : Int64)), .second, .val (.long (we1_r1 (0 : Int32) (w0_1 p0))), .second, .val (.long (w0_12 p0)), .second, .val (.long (w0_13 p0)), .second, .val (.long (w0_14 p0)), .second, .val (.ref b70), .val (.ref b75), .val (.long w0_16), .second, .val (.long (w0_18 p0)), .second, .val (.long (w0_20 p0)), .second, .val (.long (w0_22 p0)), .second, .val (.long (w0_24 p0)), .second] [(.int (lcmpW (w0_24 p0) (w0_14 p0)))])) _
            exact k)
          by_cases hc347_4 : (w0_24 p0) = (w0_14 p0)
          · -- yes
            have K129 : ∀ t, Steps p.tables e below (T123.setTop (mkF m 355 #[.val (.int p0), .val (.int p1), .val (.long q2), .second, .val (.ref b2), .val (.int (w0_m11 p0)), .val (.long (0 : Int64)), .second, .val (.long (we1_r1 (0 : Int32) (w0_1 p0))), .second, .val (.long (w0_12 p0)), .second, .val (.long (w0_13 p0)), .second, .val (.long (w0_14 p0)), .second, .val (.ref b70), .val (.ref b75), .val (.long w0_16), .second, .val (.long (w0_18 p0)), .second, .val (.long (w0_20 p0)), .second, .val (.long (w0_22 p0)), .second, .val (.long (w0_24 p0)), .second] [(.int (1 : Int32))])) t → Steps p.tables e below S0 t := fun t k => K128 t (by
              refine XS.ifNo X123.here hx rfl (hb hby at_347) rfl (XT.ll_ne_f hc347_4) ?_
              show Steps p.tables e below (T123.setTop (mkF m 350 #[.val (.int p0), .val (.int p1), .val (.long q2), .second, .val (.ref b2), .val (.int (w0_m11 p0)), .val (.long (0 : Int64)), .second, .val (.long (we1_r1 (0 : Int32) (w0_1 p0))), .second, .val (.long (w0_12 p0)), .second, .val (.long (w0_13 p0)), .second, .val (.long (w0_14 p0)), .second, .val (.ref b70), .val (.ref b75), .val (.long w0_16), .second, .val (.long (w0_18 p0)), .second, .val (.long (w0_20 p0)), .second, .val (.long (w0_22 p0)), .second, .val (.long (w0_24 p0)), .second] [])) _
              refine XS.iconst X123.here hx rfl (hb hby at_350) ?_
              show Steps p.tables e below (T123.setTop (mkF m 351 #[.val (.int p0), .val (.int p1), .val (.long q2), .second, .val (.ref b2), .val (.int (w0_m11 p0)), .val (.long (0 : Int64)), .second, .val (.long (we1_r1 (0 : Int32) (w0_1 p0))), .second, .val (.long (w0_12 p0)), .second, .val (.long (w0_13 p0)), .second, .val (.long (w0_14 p0)), .second, .val (.ref b70), .val (.ref b75), .val (.long w0_16), .second, .val (.long (w0_18 p0)), .second, .val (.long (w0_20 p0)), .second, .val (.long (w0_22 p0)), .second, .val (.long (w0_24 p0)), .second] [(.int (1 : Int32))])) _
              refine XS.goto X123.here hx rfl (pc0 := 351) (pc' := 355) rfl (hb hby at_351) (by decide) (by decide) ?_
              show Steps p.tables e below (T123.setTop (mkF m 355 #[.val (.int p0), .val (.int p1), .val (.long q2), .second, .val (.ref b2), .val (.int (w0_m11 p0)), .val (.long (0 : Int64)), .second, .val (.long (we1_r1 (0 : Int32) (w0_1 p0))), .second, .val (.long (w0_12 p0)), .second, .val (.long (w0_13 p0)), .second, .val (.long (w0_14 p0)), .second, .val (.ref b70), .val (.ref b75), .val (.long w0_16), .second, .val (.long (w0_18 p0)), .second, .val (.long (w0_20 p0)), .second, .val (.long (w0_22 p0)), .second, .val (.long (w0_24 p0)), .second] [(.int (1 : Int32))])) _
              exact k)
            obtain ⟨fs, hr, hrun, hended, hW, hsame⟩ := X123.leave (v := some (.int (1 : Int32))) (fun h => by rw [Bd.returns] at h; cases h) hlk
            refine ⟨_, _, ?_, hrun, hended, _, _, rfl, ?_, ⟨_, rfl⟩, hW, hsame.mono (by decide) (by decide)⟩
            · rw [← hS0]; exact K129 _ (retN X123 hx (t := .boolean) Bd.returns (by simp) (hb hby at_355) hr)
            · show Q0 Z p0 p1 q2 h0 n0 _ T123.heap _
              have qr : (1 : Int32) = (w0_r25 p0) := by unfold w0_r25; rw [if_pos hc315_0, if_pos hc323_1, if_pos hc331_2, if_pos hc339_3, if_pos hc347_4]
              exact ⟨congrArg (fun z => some (Value.int z)) qr, N123⟩
          · -- no
            have K130 : ∀ t, Steps p.tables e below (T123.setTop (mkF m 355 #[.val (.int p0), .val (.int p1), .val (.long q2), .second, .val (.ref b2), .val (.int (w0_m11 p0)), .val (.long (0 : Int64)), .second, .val (.long (we1_r1 (0 : Int32) (w0_1 p0))), .second, .val (.long (w0_12 p0)), .second, .val (.long (w0_13 p0)), .second, .val (.long (w0_14 p0)), .second, .val (.ref b70), .val (.ref b75), .val (.long w0_16), .second, .val (.long (w0_18 p0)), .second, .val (.long (w0_20 p0)), .second, .val (.long (w0_22 p0)), .second, .val (.long (w0_24 p0)), .second] [(.int (0 : Int32))])) t → Steps p.tables e below S0 t := fun t k => K128 t (by
              refine XS.ifYes X123.here hx rfl (pc0 := 347) (pc' := 354) rfl (hb hby at_347) rfl (XT.ll_ne_t hc347_4) (by decide) (by decide) ?_
              show Steps p.tables e below (T123.setTop (mkF m 354 #[.val (.int p0), .val (.int p1), .val (.long q2), .second, .val (.ref b2), .val (.int (w0_m11 p0)), .val (.long (0 : Int64)), .second, .val (.long (we1_r1 (0 : Int32) (w0_1 p0))), .second, .val (.long (w0_12 p0)), .second, .val (.long (w0_13 p0)), .second, .val (.long (w0_14 p0)), .second, .val (.ref b70), .val (.ref b75), .val (.long w0_16), .second, .val (.long (w0_18 p0)), .second, .val (.long (w0_20 p0)), .second, .val (.long (w0_22 p0)), .second, .val (.long (w0_24 p0)), .second] [])) _
              refine XS.iconst X123.here hx rfl (hb hby at_354) ?_
              show Steps p.tables e below (T123.setTop (mkF m 355 #[.val (.int p0), .val (.int p1), .val (.long q2), .second, .val (.ref b2), .val (.int (w0_m11 p0)), .val (.long (0 : Int64)), .second, .val (.long (we1_r1 (0 : Int32) (w0_1 p0))), .second, .val (.long (w0_12 p0)), .second, .val (.long (w0_13 p0)), .second, .val (.long (w0_14 p0)), .second, .val (.ref b70), .val (.ref b75), .val (.long w0_16), .second, .val (.long (w0_18 p0)), .second, .val (.long (w0_20 p0)), .second, .val (.long (w0_22 p0)), .second, .val (.long (w0_24 p0)), .second] [(.int (0 : Int32))])) _
              exact k)
            obtain ⟨fs, hr, hrun, hended, hW, hsame⟩ := X123.leave (v := some (.int (0 : Int32))) (fun h => by rw [Bd.returns] at h; cases h) hlk
            refine ⟨_, _, ?_, hrun, hended, _, _, rfl, ?_, ⟨_, rfl⟩, hW, hsame.mono (by decide) (by decide)⟩
            · rw [← hS0]; exact K130 _ (retN X123 hx (t := .boolean) Bd.returns (by simp) (hb hby at_355) hr)
            · show Q0 Z p0 p1 q2 h0 n0 _ T123.heap _
              have qr : (0 : Int32) = (w0_r25 p0) := by unfold w0_r25; rw [if_pos hc315_0, if_pos hc323_1, if_pos hc331_2, if_pos hc339_3, if_neg hc347_4]
              exact ⟨congrArg (fun z => some (Value.int z)) qr, N123⟩
        · -- no
          have K131 : ∀ t, Steps p.tables e below (T123.setTop (mkF m 355 #[.val (.int p0), .val (.int p1), .val (.long q2), .second, .val (.ref b2), .val (.int (w0_m11 p0)), .val (.long (0 : Int64)), .second, .val (.long (we1_r1 (0 : Int32) (w0_1 p0))), .second, .val (.long (w0_12 p0)), .second, .val (.long (w0_13 p0)), .second, .val (.long (w0_14 p0)), .second, .val (.ref b70), .val (.ref b75), .val (.long w0_16), .second, .val (.long (w0_18 p0)), .second, .val (.long (w0_20 p0)), .second, .val (.long (w0_22 p0)), .second, .val (.long (w0_24 p0)), .second] [(.int (0 : Int32))])) t → Steps p.tables e below S0 t := fun t k => K127 t (by
            refine XS.ifYes X123.here hx rfl (pc0 := 339) (pc' := 354) rfl (hb hby at_339) rfl (XT.ll_ne_t hc339_3) (by decide) (by decide) ?_
            show Steps p.tables e below (T123.setTop (mkF m 354 #[.val (.int p0), .val (.int p1), .val (.long q2), .second, .val (.ref b2), .val (.int (w0_m11 p0)), .val (.long (0 : Int64)), .second, .val (.long (we1_r1 (0 : Int32) (w0_1 p0))), .second, .val (.long (w0_12 p0)), .second, .val (.long (w0_13 p0)), .second, .val (.long (w0_14 p0)), .second, .val (.ref b70), .val (.ref b75), .val (.long w0_16), .second, .val (.long (w0_18 p0)), .second, .val (.long (w0_20 p0)), .second, .val (.long (w0_22 p0)), .second, .val (.long (w0_24 p0)), .second] [])) _
            refine XS.iconst X123.here hx rfl (hb hby at_354) ?_
            show Steps p.tables e below (T123.setTop (mkF m 355 #[.val (.int p0), .val (.int p1), .val (.long q2), .second, .val (.ref b2), .val (.int (w0_m11 p0)), .val (.long (0 : Int64)), .second, .val (.long (we1_r1 (0 : Int32) (w0_1 p0))), .second, .val (.long (w0_12 p0)), .second, .val (.long (w0_13 p0)), .second, .val (.long (w0_14 p0)), .second, .val (.ref b70), .val (.ref b75), .val (.long w0_16), .second, .val (.long (w0_18 p0)), .second, .val (.long (w0_20 p0)), .second, .val (.long (w0_22 p0)), .second, .val (.long (w0_24 p0)), .second] [(.int (0 : Int32))])) _
            exact k)
          obtain ⟨fs, hr, hrun, hended, hW, hsame⟩ := X123.leave (v := some (.int (0 : Int32))) (fun h => by rw [Bd.returns] at h; cases h) hlk
          refine ⟨_, _, ?_, hrun, hended, _, _, rfl, ?_, ⟨_, rfl⟩, hW, hsame.mono (by decide) (by decide)⟩
          · rw [← hS0]; exact K131 _ (retN X123 hx (t := .boolean) Bd.returns (by simp) (hb hby at_355) hr)
          · show Q0 Z p0 p1 q2 h0 n0 _ T123.heap _
            have qr : (0 : Int32) = (w0_r25 p0) := by unfold w0_r25; rw [if_pos hc315_0, if_pos hc323_1, if_pos hc331_2, if_neg hc339_3]
            exact ⟨congrArg (fun z => some (Value.int z)) qr, N123⟩
      · -- no
        have K132 : ∀ t, Steps p.tables e below (T123.setTop (mkF m 355 #[.val (.int p0), .val (.int p1), .val (.long q2), .second, .val (.ref b2), .val (.int (w0_m11 p0)), .val (.long (0 : Int64)), .second, .val (.long (we1_r1 (0 : Int32) (w0_1 p0))), .second, .val (.long (w0_12 p0)), .second, .val (.long (w0_13 p0)), .second, .val (.long (w0_14 p0)), .second, .val (.ref b70), .val (.ref b75), .val (.long w0_16), .second, .val (.long (w0_18 p0)), .second, .val (.long (w0_20 p0)), .second, .val (.long (w0_22 p0)), .second, .val (.long (w0_24 p0)), .second] [(.int (0 : Int32))])) t → Steps p.tables e below S0 t := fun t k => K126 t (by
          refine XS.ifYes X123.here hx rfl (pc0 := 331) (pc' := 354) rfl (hb hby at_331) rfl (XT.ll_ne_t hc331_2) (by decide) (by decide) ?_
          show Steps p.tables e below (T123.setTop (mkF m 354 #[.val (.int p0), .val (.int p1), .val (.long q2), .second, .val (.ref b2), .val (.int (w0_m11 p0)), .val (.long (0 : Int64)), .second, .val (.long (we1_r1 (0 : Int32) (w0_1 p0))), .second, .val (.long (w0_12 p0)), .second, .val (.long (w0_13 p0)), .second, .val (.long (w0_14 p0)), .second, .val (.ref b70), .val (.ref b75), .val (.long w0_16), .second, .val (.long (w0_18 p0)), .second, .val (.long (w0_20 p0)), .second, .val (.long (w0_22 p0)), .second, .val (.long (w0_24 p0)), .second] [])) _
          refine XS.iconst X123.here hx rfl (hb hby at_354) ?_
          show Steps p.tables e below (T123.setTop (mkF m 355 #[.val (.int p0), .val (.int p1), .val (.long q2), .second, .val (.ref b2), .val (.int (w0_m11 p0)), .val (.long (0 : Int64)), .second, .val (.long (we1_r1 (0 : Int32) (w0_1 p0))), .second, .val (.long (w0_12 p0)), .second, .val (.long (w0_13 p0)), .second, .val (.long (w0_14 p0)), .second, .val (.ref b70), .val (.ref b75), .val (.long w0_16), .second, .val (.long (w0_18 p0)), .second, .val (.long (w0_20 p0)), .second, .val (.long (w0_22 p0)), .second, .val (.long (w0_24 p0)), .second] [(.int (0 : Int32))])) _
          exact k)
        obtain ⟨fs, hr, hrun, hended, hW, hsame⟩ := X123.leave (v := some (.int (0 : Int32))) (fun h => by rw [Bd.returns] at h; cases h) hlk
        refine ⟨_, _, ?_, hrun, hended, _, _, rfl, ?_, ⟨_, rfl⟩, hW, hsame.mono (by decide) (by decide)⟩
        · rw [← hS0]; exact K132 _ (retN X123 hx (t := .boolean) Bd.returns (by simp) (hb hby at_355) hr)
        · show Q0 Z p0 p1 q2 h0 n0 _ T123.heap _
          have qr : (0 : Int32) = (w0_r25 p0) := by unfold w0_r25; rw [if_pos hc315_0, if_pos hc323_1, if_neg hc331_2]
          exact ⟨congrArg (fun z => some (Value.int z)) qr, N123⟩
    · -- no
      have K133 : ∀ t, Steps p.tables e below (T123.setTop (mkF m 355 #[.val (.int p0), .val (.int p1), .val (.long q2), .second, .val (.ref b2), .val (.int (w0_m11 p0)), .val (.long (0 : Int64)), .second, .val (.long (we1_r1 (0 : Int32) (w0_1 p0))), .second, .val (.long (w0_12 p0)), .second, .val (.long (w0_13 p0)), .second, .val (.long (w0_14 p0)), .second, .val (.ref b70), .val (.ref b75), .val (.long w0_16), .second, .val (.long (w0_18 p0)), .second, .val (.long (w0_20 p0)), .second, .val (.long (w0_22 p0)), .second, .val (.long (w0_24 p0)), .second] [(.int (0 : Int32))])) t → Steps p.tables e below S0 t := fun t k => K125 t (by
        refine XS.ifYes X123.here hx rfl (pc0 := 323) (pc' := 354) rfl (hb hby at_323) rfl (XT.ll_ne_t hc323_1) (by decide) (by decide) ?_
        show Steps p.tables e below (T123.setTop (mkF m 354 #[.val (.int p0), .val (.int p1), .val (.long q2), .second, .val (.ref b2), .val (.int (w0_m11 p0)), .val (.long (0 : Int64)), .second, .val (.long (we1_r1 (0 : Int32) (w0_1 p0))), .second, .val (.long (w0_12 p0)), .second, .val (.long (w0_13 p0)), .second, .val (.long (w0_14 p0)), .second, .val (.ref b70), .val (.ref b75), .val (.long w0_16), .second, .val (.long (w0_18 p0)), .second, .val (.long (w0_20 p0)), .second, .val (.long (w0_22 p0)), .second, .val (.long (w0_24 p0)), .second] [])) _
        refine XS.iconst X123.here hx rfl (hb hby at_354) ?_
        show Steps p.tables e below (T123.setTop (mkF m 355 #[.val (.int p0), .val (.int p1), .val (.long q2), .second, .val (.ref b2), .val (.int (w0_m11 p0)), .val (.long (0 : Int64)), .second, .val (.long (we1_r1 (0 : Int32) (w0_1 p0))), .second, .val (.long (w0_12 p0)), .second, .val (.long (w0_13 p0)), .second, .val (.long (w0_14 p0)), .second, .val (.ref b70), .val (.ref b75), .val (.long w0_16), .second, .val (.long (w0_18 p0)), .second, .val (.long (w0_20 p0)), .second, .val (.long (w0_22 p0)), .second, .val (.long (w0_24 p0)), .second] [(.int (0 : Int32))])) _
        exact k)
      obtain ⟨fs, hr, hrun, hended, hW, hsame⟩ := X123.leave (v := some (.int (0 : Int32))) (fun h => by rw [Bd.returns] at h; cases h) hlk
      refine ⟨_, _, ?_, hrun, hended, _, _, rfl, ?_, ⟨_, rfl⟩, hW, hsame.mono (by decide) (by decide)⟩
      · rw [← hS0]; exact K133 _ (retN X123 hx (t := .boolean) Bd.returns (by simp) (hb hby at_355) hr)
      · show Q0 Z p0 p1 q2 h0 n0 _ T123.heap _
        have qr : (0 : Int32) = (w0_r25 p0) := by unfold w0_r25; rw [if_pos hc315_0, if_neg hc323_1]
        exact ⟨congrArg (fun z => some (Value.int z)) qr, N123⟩
  · -- no
    have K134 : ∀ t, Steps p.tables e below (T123.setTop (mkF m 355 #[.val (.int p0), .val (.int p1), .val (.long q2), .second, .val (.ref b2), .val (.int (w0_m11 p0)), .val (.long (0 : Int64)), .second, .val (.long (we1_r1 (0 : Int32) (w0_1 p0))), .second, .val (.long (w0_12 p0)), .second, .val (.long (w0_13 p0)), .second, .val (.long (w0_14 p0)), .second, .val (.ref b70), .val (.ref b75), .val (.long w0_16), .second, .val (.long (w0_18 p0)), .second, .val (.long (w0_20 p0)), .second, .val (.long (w0_22 p0)), .second, .val (.long (w0_24 p0)), .second] [(.int (0 : Int32))])) t → Steps p.tables e below S0 t := fun t k => K124 t (by
      refine XS.ifYes X123.here hx rfl (pc0 := 315) (pc' := 354) rfl (hb hby at_315) rfl (XT.ll_ne_t hc315_0) (by decide) (by decide) ?_
      show Steps p.tables e below (T123.setTop (mkF m 354 #[.val (.int p0), .val (.int p1), .val (.long q2), .second, .val (.ref b2), .val (.int (w0_m11 p0)), .val (.long (0 : Int64)), .second, .val (.long (we1_r1 (0 : Int32) (w0_1 p0))), .second, .val (.long (w0_12 p0)), .second, .val (.long (w0_13 p0)), .second, .val (.long (w0_14 p0)), .second, .val (.ref b70), .val (.ref b75), .val (.long w0_16), .second, .val (.long (w0_18 p0)), .second, .val (.long (w0_20 p0)), .second, .val (.long (w0_22 p0)), .second, .val (.long (w0_24 p0)), .second] [])) _
      refine XS.iconst X123.here hx rfl (hb hby at_354) ?_
      show Steps p.tables e below (T123.setTop (mkF m 355 #[.val (.int p0), .val (.int p1), .val (.long q2), .second, .val (.ref b2), .val (.int (w0_m11 p0)), .val (.long (0 : Int64)), .second, .val (.long (we1_r1 (0 : Int32) (w0_1 p0))), .second, .val (.long (w0_12 p0)), .second, .val (.long (w0_13 p0)), .second, .val (.long (w0_14 p0)), .second, .val (.ref b70), .val (.ref b75), .val (.long w0_16), .second, .val (.long (w0_18 p0)), .second, .val (.long (w0_20 p0)), .second, .val (.long (w0_22 p0)), .second, .val (.long (w0_24 p0)), .second] [(.int (0 : Int32))])) _
      exact k)
    obtain ⟨fs, hr, hrun, hended, hW, hsame⟩ := X123.leave (v := some (.int (0 : Int32))) (fun h => by rw [Bd.returns] at h; cases h) hlk
    refine ⟨_, _, ?_, hrun, hended, _, _, rfl, ?_, ⟨_, rfl⟩, hW, hsame.mono (by decide) (by decide)⟩
    · rw [← hS0]; exact K134 _ (retN X123 hx (t := .boolean) Bd.returns (by simp) (hb hby at_355) hr)
    · show Q0 Z p0 p1 q2 h0 n0 _ T123.heap _
      have qr : (0 : Int32) = (w0_r25 p0) := by unfold w0_r25; rw [if_neg hc315_0]
      exact ⟨congrArg (fun z => some (Value.int z)) qr, N123⟩
set_option maxRecDepth 65536 in
set_option maxHeartbeats 40000000 in
theorem comes_1 {Post : Tables → Env → Array Value → State → Outcome → State → Prop} (hpost : ∀ tb e args s v u, (limb_1_1.after args s (.returned v) u = true ∧ limb_1_2.after args s (.returned v) u = true ∧ True) → FrameEnd s (.returned v) u (Jvm.fieldLocs frame_1_writes args s ++ Jvm.arrayLocs frame_1_arrays args s ++ Jvm.staticLocs frame_1_statics s) 16 128 → Post tb e args s (.returned v) u) :
    ArmFor flags0 classFile x code maxLocals ret World_1 tables_1 room_1 Calls_1 rest_1 Pre_1 Post := by
  intro l hfl _ _ p e ha hc hk s m args below hf hA hF happ hP
  obtain ⟨hcalls, hrest, hpre⟩ := hP
  obtain ⟨-, -, -, hnamed, -, -, -, hat⟩ := (Spec.applies_iff hf).mp happ
  obtain ⟨hg, hn⟩ := and_e (Cond.before_iff.mp (show (Jvm.Cond.and given_1 narrow_1).before args s = true from hpre))
  obtain ⟨hcount, hv0⟩ := and_e hg
  obtain ⟨hi0, hv1⟩ := and_e hv0
  obtain ⟨hi1, hv2⟩ := and_e hv1
  have hi2 := hv2
  obtain ⟨w0, w1, w2, rfl⟩ : ∃ w0 w1 w2 : Value, args = #[w0, w1, w2] := by
    have hs : args.size = 3 := by simpa [Cond.value, given_1] using hcount
    obtain ⟨L⟩ := args
    match L, hs with
    | [w0, w1, w2], _ => exact ⟨w0, w1, w2, rfl⟩
  have hw := fun d (hd : d ∈ tables_1) => atoms_spec (ws := Jvm.Cond.code x code maxLocals ret :: tables_1) hat d (List.mem_cons_of_mem _ hd)
  have hfit : Fit s := fun {y c} hc i hi => by
    obtain ⟨ha, rfl⟩ := Array.getElem?_eq_some_iff.mp hc
    have q := List.all_eq_true.mp ((Array.all_eq_true_iff_forall_mem.mp hF) _ (Array.getElem_mem ha)) i (List.mem_range.mpr hi)
    simpa [Array.getElem?_eq_getElem hi] using q
  obtain ⟨i0, ei0⟩ := is_v hi0
  obtain rfl : w0 = (.int i0) := Option.some.inj ei0
  obtain ⟨i1, ei1⟩ := is_v hi1
  obtain rfl : w1 = (.int i1) := Option.some.inj ei1
  obtain ⟨i2, ei2⟩ := isL_v hi2
  obtain rfl : w2 = (.long i2) := Option.some.inj ei2
  obtain ⟨n, o, h1, h2, h3, _, L, rfl, ⟨rfl, N⟩, hq⟩ := rm0 l s _ hw tables_1 i0 i1 i2  s.heap s.heap.size (Nat.le_refl _)  p e ha hc hk s m _ below hf ((Spec.applies_iff_loose hf).mp happ).1 ⟨rfl, State.Warmed39.refl s, rfl⟩ trivial
  refine ⟨n, _, h1, h2, h3, hpost _ _ _ _ _ _ ⟨Cond.after_iff.mpr rfl, Cond.after_iff.mpr (eq_i res_at (Term.int_eval (1)) (congrArg Value.int (plain_law i0 i1 i2))), trivial⟩ ⟨hq.1, hq.2.1, (hq.2.2.sift fun y hy => Or.inr (N y hy)).mono (by decide) (by decide)⟩⟩
theorem main_1_1 : Claimed_1_1 := comes_1 fun _ _ _ _ _ _ h hF => ⟨h.1, hF⟩
theorem main_1_2 : Claimed_1_2 := comes_1 fun _ _ _ _ _ _ h hF => ⟨h.2.1, hF⟩
end Jvm.Pilot.@@N@@
namespace Jvm.Pilot.@@N@@
open Jvm Jvm.ClassFile Sem Op Lib Jvm.Free Jvm.Stand Jvm.Pilot.@@N@@.Jvm.D
/-! MADE BY PROGRAM (witnessworld.py) out of the Statement's table words and the real class files: 12 classes; the members and pool entries that the words name. The judged class is class 1, her method 1. -/
namespace start1
open Jvm.ClassFile
def u (s : String) : CpInfo := .utf8 (stringToUtf16 s)
/-- a pool by its gaps: so many unusable entries, then the entry; so many at the end -/
def gap : Nat → List CpInfo → List CpInfo
  | 0, r => r
  | n + 1, r => .unusable :: gap n r
def poolList (es : List (Nat × CpInfo)) (last : Nat) : List CpInfo := es.foldr (fun e r => gap e.1 (e.2 :: r)) (gap last [])
def pool (es : List (Nat × CpInfo)) (last : Nat) : Array CpInfo := ⟨poolList es last⟩
def fileOf (pool : Array CpInfo) (this : Nat) (attrs : Array Attribute := #[]) (ms : Array MethodInfo := #[]) (fl : Nat := 33) (sup : Nat := 0) (ifs : Array Nat := #[]) (fds : Array FieldInfo := #[]) : ClassFile where
  minorVersion := 0
  majorVersion := 65
  constantPool := pool
  accessFlags := fl
  thisClass := this
  superClass := sup
  interfaces := ifs
  fields := fds
  methods := ms
  attributes := attrs
def plain (name : String) (sup : Option ClassId) : Class where
  name := name
  kind := .ordinary
  loader := none
  accessFlags := 33
  super := sup
  interfaces := #[]
  cf := none
  fields := #[]
  methods := #[]
  instanceTypes := #[]
  staticTypes := #[]
  resolved := #[]
  callSites := []
  init := .initialized
  statics := none
  mirror := none

def pool0 : Array CpInfo := pool [(5, u "<init>"), (0, u "()V"), (1, .class_ 10), (1, u "java/lang/Object")] 113

def k0c0 : Code := { maxStack := 0, maxLocals := 1, code := object_method_1_code, exceptionTable := #[], attributes := #[] }
def k0m0 : Method := { name := "<init>", desc := "()V", sig := { parameters := [], returnType := none }, accessFlags := 1, code := some k0c0 }
/-- java/lang/Object -/
def k0 : Class := { plain "java/lang/Object" none with
  accessFlags := 33
  interfaces := #[]
  cf := some (fileOf pool0 8 #[] #[{ accessFlags := 1, nameIndex := 5, descriptorIndex := 6, attributes := #[] }] 33 0 #[] #[])
  fields := #[]
  methods := #[k0m0]
  instanceTypes := #[]
  staticTypes := #[]
  resolved := Array.replicate 124 none
  statics := none }

def pool1 : Array CpInfo := pool [(2, .class_ 4), (1, u "java/lang/Object"), (0, u "<init>"), (0, u "()V"), (0, .methodref 8 9), (0, .class_ 10), (0, .nameAndType 11 12), (0, u "com/example/nearmark/nearmark/paging/LeastRecentlyUsed2RankPinLaw"), (0, u "expected"), (0, u "([II)J"), (0, .class_ 14), (0, u "com/example/nearmark/nearmark/paging/Requests"), (0, .methodref 13 16), (0, .nameAndType 5 17), (0, u "([II)V"), (0, .class_ 19), (0, u "com/example/nearmark/nearmark/paging/LeastRecentlyUsed2"), (0, .methodref 18 21), (0, .nameAndType 5 22), (0, u "(Lcom/example/nearmark/nearmark/paging/Requests;)V"), (0, .methodref 18 24), (0, .nameAndType 25 26), (0, u "rank"), (0, u "(IZJ)J"), (0, .long 18446744073709551615), (1, .methodref 8 30), (0, .nameAndType 31 32), (0, u "lastBefore"), (0, u "([II)I"), (0, .long 5), (3, u "law"), (0, u "(IIJ)Z")] 5

def k1m0 : Method := { name := "<init>", desc := "()V", sig := { parameters := [], returnType := none }, accessFlags := 1, code := none }
def k1c1 : Code := { maxStack := 7, maxLocals := 28, code := code, exceptionTable := #[], attributes := #[] }
def k1m1 : Method := { name := "law", desc := "(IIJ)Z", sig := { parameters := [.int, .int, .long], returnType := some .boolean }, accessFlags := 9, code := some k1c1 }
def k1c2 : Code := { maxStack := 3, maxLocals := 3, code := method_3_code, exceptionTable := #[], attributes := #[] }
def k1m2 : Method := { name := "lastBefore", desc := "([II)I", sig := { parameters := [(.array .int), .int], returnType := some .int }, accessFlags := 10, code := some k1c2 }
def k1c3 : Code := { maxStack := 4, maxLocals := 3, code := method_4_code, exceptionTable := #[], attributes := #[] }
def k1m3 : Method := { name := "expected", desc := "([II)J", sig := { parameters := [(.array .int), .int], returnType := some .long }, accessFlags := 10, code := some k1c3 }
/-- com/example/nearmark/nearmark/paging/LeastRecentlyUsed2RankPinLaw -/
def k1 : Class := { plain "com/example/nearmark/nearmark/paging/LeastRecentlyUsed2RankPinLaw" (some 0) with
  accessFlags := 49
  interfaces := #[]
  cf := some (fileOf pool1 8 #[] #[{ accessFlags := 1, nameIndex := 5, descriptorIndex := 6, attributes := #[] }, { accessFlags := 9, nameIndex := 37, descriptorIndex := 38, attributes := #[] }, { accessFlags := 10, nameIndex := 31, descriptorIndex := 32, attributes := #[] }, { accessFlags := 10, nameIndex := 11, descriptorIndex := 12, attributes := #[] }] 49 2 #[] #[])
  fields := #[]
  methods := #[k1m0, k1m1, k1m2, k1m3]
  instanceTypes := #[]
  staticTypes := #[]
  resolved := Array.replicate 44 none
  statics := none }

def pool2 : Array CpInfo := pool [(1, .methodref 2 3), (0, .class_ 4), (0, .nameAndType 5 6), (0, u "java/lang/Object"), (0, u "<init>"), (0, u "()V"), (0, .fieldref 8 9), (0, .class_ 10), (0, .nameAndType 11 12), (0, u "com/example/nearmark/nearmark/paging/Requests"), (0, u "pages"), (0, u "[I"), (0, .fieldref 8 14), (0, .nameAndType 15 16), (0, u "pageCount"), (0, u "I"), (0, u "([II)V"), (2, u "count"), (0, u "()I"), (0, u "page"), (0, u "(I)I")] 2

def k2c0 : Code := { maxStack := 2, maxLocals := 3, code := prog_42_method_1_code, exceptionTable := #[], attributes := #[] }
def k2m0 : Method := { name := "<init>", desc := "([II)V", sig := { parameters := [(.array .int), .int], returnType := none }, accessFlags := 0, code := some k2c0 }
def k2c1 : Code := { maxStack := 1, maxLocals := 1, code := prog_42_method_2_code, exceptionTable := #[], attributes := #[] }
def k2m1 : Method := { name := "count", desc := "()I", sig := { parameters := [], returnType := some .int }, accessFlags := 1, code := some k2c1 }
def k2c2 : Code := { maxStack := 2, maxLocals := 2, code := prog_42_method_3_code, exceptionTable := #[], attributes := #[] }
def k2m2 : Method := { name := "page", desc := "(I)I", sig := { parameters := [.int], returnType := some .int }, accessFlags := 1, code := some k2c2 }
def k2c3 : Code := { maxStack := 1, maxLocals := 1, code := prog_42_method_4_code, exceptionTable := #[], attributes := #[] }
def k2m3 : Method := { name := "pageCount", desc := "()I", sig := { parameters := [], returnType := some .int }, accessFlags := 1, code := some k2c3 }
/-- com/example/nearmark/nearmark/paging/Requests -/
def k2 : Class := { plain "com/example/nearmark/nearmark/paging/Requests" (some 0) with
  accessFlags := 49
  interfaces := #[]
  cf := some (fileOf pool2 8 #[] #[{ accessFlags := 0, nameIndex := 5, descriptorIndex := 17, attributes := #[] }, { accessFlags := 1, nameIndex := 20, descriptorIndex := 21, attributes := #[] }, { accessFlags := 1, nameIndex := 22, descriptorIndex := 23, attributes := #[] }, { accessFlags := 1, nameIndex := 15, descriptorIndex := 21, attributes := #[] }] 49 2 #[] #[{ accessFlags := 18, nameIndex := 11, descriptorIndex := 12, attributes := #[] }, { accessFlags := 18, nameIndex := 15, descriptorIndex := 16, attributes := #[] }])
  fields := #[{ name := "pages", type := (.array .int), accessFlags := 18, slot := 0, constantValue := 0 }, { name := "pageCount", type := .int, accessFlags := 18, slot := 1, constantValue := 0 }]
  methods := #[k2m0, k2m1, k2m2, k2m3]
  instanceTypes := #[(.array .int), .int]
  staticTypes := #[]
  resolved := Array.replicate 26 none
  statics := none }

def pool3 : Array CpInfo := pool [(1, .class_ 2), (0, u "com/example/nearmark/nearmark/paging/Ranking"), (0, .class_ 4), (0, u "java/lang/Object")] 6

/-- com/example/nearmark/nearmark/paging/Ranking -/
def k3 : Class := { plain "com/example/nearmark/nearmark/paging/Ranking" (some 0) with
  accessFlags := 1536
  interfaces := #[]
  cf := some (fileOf pool3 1 #[] #[] 1536 3 #[] #[])
  fields := #[]
  methods := #[]
  instanceTypes := #[]
  staticTypes := #[]
  resolved := Array.replicate 11 none
  statics := none }

def pool4 : Array CpInfo := pool [(1, .methodref 2 3), (0, .class_ 4), (0, .nameAndType 5 6), (0, u "java/lang/Object"), (0, u "<init>"), (0, u "()V"), (0, .fieldref 8 9), (0, .class_ 10), (0, .nameAndType 11 12), (0, u "com/example/nearmark/nearmark/paging/LeastRecentlyUsed2"), (0, u "requests"), (0, u "Lcom/example/nearmark/nearmark/paging/Requests;"), (0, .methodref 14 15), (0, .class_ 16), (0, .nameAndType 17 18), (0, u "com/example/nearmark/nearmark/paging/Requests"), (0, u "pageCount"), (0, u "()I"), (0, .fieldref 8 20), (0, .nameAndType 21 22), (0, u "lastRequest"), (0, u "[I"), (0, .methodref 24 25), (0, .class_ 26), (0, .nameAndType 27 28), (0, u "java/util/Arrays"), (0, u "fill"), (0, u "([II)V"), (0, .methodref 14 30), (0, .nameAndType 31 32), (0, u "page"), (0, u "(I)I"), (0, .methodref 14 34), (0, .nameAndType 35 18), (0, u "count"), (0, .class_ 37), (0, u "com/example/nearmark/nearmark/paging/Ranking"), (0, u "(Lcom/example/nearmark/nearmark/paging/Requests;)V"), (2, u "rank"), (0, u "(IZJ)J")] 3

def k4c0 : Code := { maxStack := 2, maxLocals := 2, code := prog_38_method_1_code, exceptionTable := #[], attributes := #[] }
def k4m0 : Method := { name := "<init>", desc := "(Lcom/example/nearmark/nearmark/paging/Requests;)V", sig := { parameters := [(.object "com/example/nearmark/nearmark/paging/Requests")], returnType := none }, accessFlags := 0, code := some k4c0 }
def k4c1 : Code := { maxStack := 4, maxLocals := 9, code := prog_38_method_2_code, exceptionTable := #[], attributes := #[] }
def k4m1 : Method := { name := "rank", desc := "(IZJ)J", sig := { parameters := [.int, .boolean, .long], returnType := some .long }, accessFlags := 1, code := some k4c1 }
/-- com/example/nearmark/nearmark/paging/LeastRecentlyUsed2 -/
def k4 : Class := { plain "com/example/nearmark/nearmark/paging/LeastRecentlyUsed2" (some 0) with
  accessFlags := 48
  interfaces := #[3]
  cf := some (fileOf pool4 8 #[] #[{ accessFlags := 0, nameIndex := 5, descriptorIndex := 38, attributes := #[] }, { accessFlags := 1, nameIndex := 41, descriptorIndex := 42, attributes := #[] }] 48 2 #[36] #[{ accessFlags := 18, nameIndex := 11, descriptorIndex := 12, attributes := #[] }, { accessFlags := 18, nameIndex := 21, descriptorIndex := 22, attributes := #[] }])
  fields := #[{ name := "requests", type := (.object "com/example/nearmark/nearmark/paging/Requests"), accessFlags := 18, slot := 0, constantValue := 0 }, { name := "lastRequest", type := (.array .int), accessFlags := 18, slot := 1, constantValue := 0 }]
  methods := #[k4m0, k4m1]
  instanceTypes := #[(.object "com/example/nearmark/nearmark/paging/Requests"), (.array .int)]
  staticTypes := #[]
  resolved := Array.replicate 46 none
  statics := none }

def pool5 : Array CpInfo := pool [(2, .class_ 4), (1, u "java/lang/Object"), (0, u "<init>"), (0, u "()V"), (7, .class_ 16), (1, u "java/util/Arrays"), (57, .class_ 76), (1, u "java/util/Arrays$NaturalOrder"), (36, .class_ 115), (1, u "java/util/Arrays$LegacyMergeSort"), (1, u "Z"), (257, .class_ 376), (0, u "java/util/Arrays$ArrayList"), (68, u "$assertionsDisabled"), (269, u "MIN_ARRAY_SORT_GRAN"), (0, u "I"), (2, u "INSERTIONSORT_THRESHOLD"), (120, u "fill"), (4, u "([II)V"), (129, .class_ 976), (0, u "java/util/Arrays$ArrayItr")] 52

def k5m0 : Method := { name := "<init>", desc := "()V", sig := { parameters := [], returnType := none }, accessFlags := 2, code := none }
def k5c1 : Code := { maxStack := 3, maxLocals := 4, code := jdk_65_method_103_code, exceptionTable := #[], attributes := #[] }
def k5m1 : Method := { name := "fill", desc := "([II)V", sig := { parameters := [(.array .int), .int], returnType := none }, accessFlags := 9, code := some k5c1 }
/-- java/util/Arrays -/
def k5 : Class := { plain "java/util/Arrays" (some 0) with
  accessFlags := 49
  interfaces := #[]
  cf := some (fileOf pool5 14 #[.nestMembers #[975, 375, 113, 74]] #[{ accessFlags := 2, nameIndex := 5, descriptorIndex := 6, attributes := #[] }, { accessFlags := 9, nameIndex := 840, descriptorIndex := 845, attributes := #[] }] 49 2 #[] #[{ accessFlags := 26, nameIndex := 715, descriptorIndex := 716, attributes := #[] }, { accessFlags := 26, nameIndex := 719, descriptorIndex := 716, attributes := #[] }, { accessFlags := 4120, nameIndex := 445, descriptorIndex := 117, attributes := #[] }])
  fields := #[{ name := "MIN_ARRAY_SORT_GRAN", type := .int, accessFlags := 26, slot := 0, constantValue := 0 }, { name := "INSERTIONSORT_THRESHOLD", type := .int, accessFlags := 26, slot := 1, constantValue := 0 }, { name := "$assertionsDisabled", type := .boolean, accessFlags := 4120, slot := 2, constantValue := 0 }]
  methods := #[k5m0, k5m1]
  instanceTypes := #[]
  staticTypes := #[.int, .int, .boolean]
  resolved := Array.replicate 1029 none
  statics := none }

def pool6 : Array CpInfo := pool [(1, u "java/lang/Cloneable"), (0, .class_ 1), (0, u "java/lang/Object"), (0, .class_ 3)] 3

/-- java/lang/Cloneable -/
def k6 : Class := { plain "java/lang/Cloneable" (some 0) with
  accessFlags := 1537
  interfaces := #[]
  cf := some (fileOf pool6 2 #[] #[] 1537 4 #[] #[])
  fields := #[]
  methods := #[]
  instanceTypes := #[]
  staticTypes := #[]
  resolved := Array.replicate 8 none
  statics := none }

def pool7 : Array CpInfo := pool [(1, u "java/io/Serializable"), (0, .class_ 1), (0, u "java/lang/Object"), (0, .class_ 3)] 3

/-- java/io/Serializable -/
def k7 : Class := { plain "java/io/Serializable" (some 0) with
  accessFlags := 1537
  interfaces := #[]
  cf := some (fileOf pool7 2 #[] #[] 1537 4 #[] #[])
  fields := #[]
  methods := #[]
  instanceTypes := #[]
  staticTypes := #[]
  resolved := Array.replicate 8 none
  statics := none }

/-- the primitive byte -/
def k8 : Class := { plain "byte" none with kind := .primitive 'B', accessFlags := 0x411 }
/-- [B -/
def k9 : Class := { plain "[B" (some 0) with kind := .array 8 .byte, interfaces := #[6, 7], accessFlags := 1041 }

/-- the primitive int -/
def k10 : Class := { plain "int" none with kind := .primitive 'I', accessFlags := 0x411 }
/-- [I -/
def k11 : Class := { plain "[I" (some 0) with kind := .array 10 .int, interfaces := #[6, 7], accessFlags := 1041 }

def heap : Heap := #[]
def classes : Array Class := #[k0, k1, k2, k3, k4, k5, k6, k7, k8, k9, k10, k11]
def interned : List (Array UInt16 × Addr) := []
def slotsUsed : Nat := 0
def theMethod : MethodId := ⟨1, 1⟩
def args0 : Array Value := #[.int 5, .int 3, .long 9]
def aboutOver (below : List Frame) : State where
  vm := { classes := classes, interned := interned.toArray }
  heap := heap
  slotsUsed := slotsUsed
  threads := #[{ frames := .invoking theMethod args0 :: below }]
def below0 : List Frame := [.native { method := ⟨0, 0⟩, args := #[] }]
def about1 : State := aboutOver below0
def p0 : Program := .bare "" "" ""
def e0 : Env := launch0.env 0 0 0
theorem w_frames : about1.frames = Frame.invoking theMethod args0 :: below0 := rfl
set_option maxRecDepth 65536 in
theorem w_args : argsFit about1.vm theMethod args0 = true := by decide +kernel
set_option maxRecDepth 65536 in
theorem w_heap : heapFits about1 = true := by decide +kernel
set_option maxRecDepth 65536 in
theorem w_runnable : about1.curStatus? = some .runnable := by decide +kernel
set_option maxRecDepth 65536 in
theorem w_alone : about1.alone = true := by decide +kernel
set_option maxRecDepth 65536 in
theorem w_named : about1.methodNamed? x = some theMethod := by decide +kernel
set_option maxRecDepth 65536 in
theorem w_hears : about1.hears theMethod below0 = true := by decide +kernel
set_option maxRecDepth 65536 in
theorem w_ripe : about1.ripe theMethod args0 below0 = true := by decide +kernel
theorem w_running : about1.status = .running := rfl
set_option maxRecDepth 65536 in
theorem w_room : about1.hasRoom e0.platform room_1 = true :=
  launch0.hasRoom_least _ room_1 (by decide +kernel) (by decide +kernel) (by decide +kernel) (by decide +kernel) (by decide +kernel) (by decide +kernel)
theorem allAtoms_all (ts : List Jvm.Cond) (a : Array Jvm.Value) (st : Jvm.State) : (allAtoms ts).before a st = ts.all (fun c => c.before a st) := by
  induction ts with
  | nil => rfl
  | cons c t ih =>
    show (Jvm.Cond.and c (allAtoms t)).before a st = _
    rw [Jvm.Cond.before_and, ih, List.all_cons]
def words1 : List Jvm.Cond := Jvm.Cond.code x code maxLocals ret :: tables_1
/-- a 'code' word, met by the world's own term for the bytes: nothing is compared byte by byte -/
theorem code_word {y : MethodName} {bytes : ByteArray} {mx : Nat} {rt : Option FieldType} {a : Array Value} {s : State} {m : MethodId} {meth : Method} {c : Code} (h1 : s.methodNamed? y = some m) (h2 : s.vm.method? m = some meth) (h3 : meth.code = some c) (h4 : c.code = bytes)
    (h5 : (c.maxLocals == mx && c.exceptionTable.isEmpty && decide (c.maxStack ≤ mostOperands) && decide (meth.sig.returnType = rt) && !meth.locks && decide (parseMethodDescriptor y.desc = some meth.sig)) = true) : (Jvm.Cond.code y bytes mx rt).before a s = true := by
  simp only [Bool.and_eq_true, beq_iff_eq, Bool.not_eq_true', decide_eq_true_eq] at h5
  obtain ⟨⟨⟨⟨⟨g1, g2⟩, g3⟩, g4⟩, g5⟩, g6⟩ := h5
  simp [Cond.before, Cond.holds, Cond.value, h1, h2, h3, h4, g1, g2, g3, g4, g5, g6]
def isCode : Jvm.Cond → Bool
  | .code _ _ _ _ => true
  | _ => false
theorem all_split {L : List Jvm.Cond} {P : Jvm.Cond → Bool} (h1 : L.all (fun c => isCode c || P c) = true) (h2 : ∀ c ∈ L.filter isCode, P c = true) : L.all P = true := by
  refine List.all_eq_true.mpr fun c hc => ?_
  have h := List.all_eq_true.mp h1 c hc
  rcases Bool.eq_false_or_eq_true (isCode c) with hi | hi
  · exact h2 c (List.mem_filter.mpr ⟨hc, hi⟩)
  · simpa [hi] using h
set_option maxRecDepth 65536 in
theorem w_c0 : (Jvm.Cond.code x code maxLocals ret).before args0 about1 = true := code_word (m := ⟨1, 1⟩) (meth := k1m1) (c := k1c1) (by decide +kernel) rfl rfl rfl (by decide +kernel)
set_option maxRecDepth 65536 in
theorem w_c1 : (Jvm.Cond.code ({ cls := "com/example/nearmark/nearmark/paging/LeastRecentlyUsed2RankPinLaw", name := "expected", desc := "([II)J" } : Jvm.MethodName) method_4_code (3 : Nat) (Option.some Jvm.ClassFile.FieldType.long)).before args0 about1 = true := code_word (m := ⟨1, 3⟩) (meth := k1m3) (c := k1c3) (by decide +kernel) rfl rfl rfl (by decide +kernel)
set_option maxRecDepth 65536 in
theorem w_c2 : (Jvm.Cond.code ({ cls := "com/example/nearmark/nearmark/paging/LeastRecentlyUsed2RankPinLaw", name := "lastBefore", desc := "([II)I" } : Jvm.MethodName) method_3_code (3 : Nat) (Option.some Jvm.ClassFile.FieldType.int)).before args0 about1 = true := code_word (m := ⟨1, 2⟩) (meth := k1m2) (c := k1c2) (by decide +kernel) rfl rfl rfl (by decide +kernel)
set_option maxRecDepth 65536 in
theorem w_c3 : (Jvm.Cond.code ({ cls := "com/example/nearmark/nearmark/paging/Requests", name := "<init>", desc := "([II)V" } : Jvm.MethodName) prog_42_method_1_code (3 : Nat) (Option.none : Option Jvm.ClassFile.FieldType)).before args0 about1 = true := code_word (m := ⟨2, 0⟩) (meth := k2m0) (c := k2c0) (by decide +kernel) rfl rfl rfl (by decide +kernel)
set_option maxRecDepth 65536 in
theorem w_c4 : (Jvm.Cond.code ({ cls := "java/lang/Object", name := "<init>", desc := "()V" } : Jvm.MethodName) object_method_1_code (1 : Nat) (Option.none : Option Jvm.ClassFile.FieldType)).before args0 about1 = true := code_word (m := ⟨0, 0⟩) (meth := k0m0) (c := k0c0) (by decide +kernel) rfl rfl rfl (by decide +kernel)
set_option maxRecDepth 65536 in
theorem w_c5 : (Jvm.Cond.code ({ cls := "com/example/nearmark/nearmark/paging/LeastRecentlyUsed2", name := "<init>", desc := "(Lcom/example/nearmark/nearmark/paging/Requests;)V" } : Jvm.MethodName) prog_38_method_1_code (2 : Nat) (Option.none : Option Jvm.ClassFile.FieldType)).before args0 about1 = true := code_word (m := ⟨4, 0⟩) (meth := k4m0) (c := k4c0) (by decide +kernel) rfl rfl rfl (by decide +kernel)
set_option maxRecDepth 65536 in
theorem w_c6 : (Jvm.Cond.code ({ cls := "com/example/nearmark/nearmark/paging/Requests", name := "pageCount", desc := "()I" } : Jvm.MethodName) prog_42_method_4_code (1 : Nat) (Option.some Jvm.ClassFile.FieldType.int)).before args0 about1 = true := code_word (m := ⟨2, 3⟩) (meth := k2m3) (c := k2c3) (by decide +kernel) rfl rfl rfl (by decide +kernel)
set_option maxRecDepth 65536 in
theorem w_c7 : (Jvm.Cond.code ({ cls := "java/util/Arrays", name := "fill", desc := "([II)V" } : Jvm.MethodName) jdk_65_method_103_code (4 : Nat) (Option.none : Option Jvm.ClassFile.FieldType)).before args0 about1 = true := code_word (m := ⟨5, 1⟩) (meth := k5m1) (c := k5c1) (by decide +kernel) rfl rfl rfl (by decide +kernel)
set_option maxRecDepth 65536 in
theorem w_c8 : (Jvm.Cond.code ({ cls := "com/example/nearmark/nearmark/paging/LeastRecentlyUsed2", name := "rank", desc := "(IZJ)J" } : Jvm.MethodName) prog_38_method_2_code (9 : Nat) (Option.some Jvm.ClassFile.FieldType.long)).before args0 about1 = true := code_word (m := ⟨4, 1⟩) (meth := k4m1) (c := k4c1) (by decide +kernel) rfl rfl rfl (by decide +kernel)
set_option maxRecDepth 65536 in
theorem w_c9 : (Jvm.Cond.code ({ cls := "com/example/nearmark/nearmark/paging/Requests", name := "page", desc := "(I)I" } : Jvm.MethodName) prog_42_method_3_code (2 : Nat) (Option.some Jvm.ClassFile.FieldType.int)).before args0 about1 = true := code_word (m := ⟨2, 2⟩) (meth := k2m2) (c := k2c2) (by decide +kernel) rfl rfl rfl (by decide +kernel)
set_option maxRecDepth 65536 in
theorem w_c10 : (Jvm.Cond.code ({ cls := "com/example/nearmark/nearmark/paging/Requests", name := "count", desc := "()I" } : Jvm.MethodName) prog_42_method_2_code (1 : Nat) (Option.some Jvm.ClassFile.FieldType.int)).before args0 about1 = true := code_word (m := ⟨2, 1⟩) (meth := k2m1) (c := k2c1) (by decide +kernel) rfl rfl rfl (by decide +kernel)
def codes1 : List Jvm.Cond := [Jvm.Cond.code x code maxLocals ret, Jvm.Cond.code ({ cls := "com/example/nearmark/nearmark/paging/LeastRecentlyUsed2RankPinLaw", name := "expected", desc := "([II)J" } : Jvm.MethodName) method_4_code (3 : Nat) (Option.some Jvm.ClassFile.FieldType.long), Jvm.Cond.code ({ cls := "com/example/nearmark/nearmark/paging/LeastRecentlyUsed2RankPinLaw", name := "lastBefore", desc := "([II)I" } : Jvm.MethodName) method_3_code (3 : Nat) (Option.some Jvm.ClassFile.FieldType.int), Jvm.Cond.code ({ cls := "com/example/nearmark/nearmark/paging/Requests", name := "<init>", desc := "([II)V" } : Jvm.MethodName) prog_42_method_1_code (3 : Nat) (Option.none : Option Jvm.ClassFile.FieldType), Jvm.Cond.code ({ cls := "java/lang/Object", name := "<init>", desc := "()V" } : Jvm.MethodName) object_method_1_code (1 : Nat) (Option.none : Option Jvm.ClassFile.FieldType), Jvm.Cond.code ({ cls := "com/example/nearmark/nearmark/paging/LeastRecentlyUsed2", name := "<init>", desc := "(Lcom/example/nearmark/nearmark/paging/Requests;)V" } : Jvm.MethodName) prog_38_method_1_code (2 : Nat) (Option.none : Option Jvm.ClassFile.FieldType), Jvm.Cond.code ({ cls := "com/example/nearmark/nearmark/paging/Requests", name := "pageCount", desc := "()I" } : Jvm.MethodName) prog_42_method_4_code (1 : Nat) (Option.some Jvm.ClassFile.FieldType.int), Jvm.Cond.code ({ cls := "java/util/Arrays", name := "fill", desc := "([II)V" } : Jvm.MethodName) jdk_65_method_103_code (4 : Nat) (Option.none : Option Jvm.ClassFile.FieldType), Jvm.Cond.code ({ cls := "com/example/nearmark/nearmark/paging/LeastRecentlyUsed2", name := "rank", desc := "(IZJ)J" } : Jvm.MethodName) prog_38_method_2_code (9 : Nat) (Option.some Jvm.ClassFile.FieldType.long), Jvm.Cond.code ({ cls := "com/example/nearmark/nearmark/paging/Requests", name := "page", desc := "(I)I" } : Jvm.MethodName) prog_42_method_3_code (2 : Nat) (Option.some Jvm.ClassFile.FieldType.int), Jvm.Cond.code ({ cls := "com/example/nearmark/nearmark/paging/Requests", name := "count", desc := "()I" } : Jvm.MethodName) prog_42_method_2_code (1 : Nat) (Option.some Jvm.ClassFile.FieldType.int)]
set_option maxRecDepth 65536 in
theorem codes_eq : words1.filter isCode = codes1 := rfl
theorem w_codes : ∀ c ∈ words1.filter isCode, c.before args0 about1 = true := by
  rw [codes_eq]
  intro c hc
  simp only [codes1, List.mem_cons, List.not_mem_nil, or_false] at hc
  rcases hc with rfl | rfl | rfl | rfl | rfl | rfl | rfl | rfl | rfl | rfl | rfl
  · exact w_c0
  · exact w_c1
  · exact w_c2
  · exact w_c3
  · exact w_c4
  · exact w_c5
  · exact w_c6
  · exact w_c7
  · exact w_c8
  · exact w_c9
  · exact w_c10
set_option maxRecDepth 65536 in
theorem w_t1 : (words1.take 24).all (fun c => isCode c || c.before args0 about1) = true := by decide +kernel
set_option maxRecDepth 65536 in
theorem w_t2 : ((words1.drop 24).take 24).all (fun c => isCode c || c.before args0 about1) = true := by decide +kernel
set_option maxRecDepth 65536 in
theorem w_t3 : ((words1.drop 24).drop 24).all (fun c => isCode c || c.before args0 about1) = true := by decide +kernel
theorem w_tables : (allAtoms (Jvm.Cond.code x code maxLocals ret :: tables_1)).before args0 about1 = true := by
  rw [allAtoms_all]
  show words1.all (fun c => c.before args0 about1) = true
  refine all_split ?_ w_codes
  rw [← List.take_append_drop 24 words1, List.all_append, w_t1, ← List.take_append_drop 24 (words1.drop 24), List.all_append, w_t2, w_t3]
  rfl
set_option maxRecDepth 65536 in
theorem w_case : (Jvm.Cond.and given_1 narrow_1).before args0 about1 = true := by decide +kernel
theorem w_applies : (headSpec (Jvm.Cond.code x code maxLocals ret :: tables_1) room_1).applies x e0.platform about1 = true :=
  (Spec.applies_iff w_frames).mpr ⟨w_running, w_runnable, w_alone, w_named, w_hears, w_ripe, w_room, w_tables⟩
theorem atStart : AtStart classFile x code maxLocals ret World_1 tables_1 room_1 Calls_1 rest_1 Pre_1 launch0 p0 e0 about1 theMethod args0 below0 :=
  ⟨lists_1, trivial, launch0.admits_env _ _ _, launch0.least_env, fairChoices_fair.cas, fairChoices_fair.clock, w_frames, w_args, w_heap, w_applies, trivial, trivial, w_case⟩
end start1
theorem witness_1 : WitnessClaimed_1 := ⟨start1.p0, start1.e0, start1.about1, start1.theMethod, start1.args0, start1.below0, start1.atStart⟩
end Jvm.Pilot.@@N@@
