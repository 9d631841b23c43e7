import JvmDerived
import JvmDerived.Pilot.@@N@@Statement
import JvmDerived.Pilot.@@N@@Code
set_option linter.unusedVariables false
set_option linter.unusedSimpArgs false
namespace Jvm.RoadKit
open Sem ClassFile Op Lib Jvm.Stand Jvm.Free Jvm.LawKit
section New
variable {p : Program} {l : Launch} {e : Env} {R : Room} {s : State} {m : MethodId} {args : Array Value} {below : List Frame} {meth : Method} {c : Code} {T : State} {locs : List Loc} {cells slots : Nat}
theorem retI (X : Stand p l e R s m args below meth c T locs cells slots) (hx : p.tables.exec = Jvm.exec) {pc : Nat} {Ls : Array Slot} {z : Int32} {rest : List Value} (hret : meth.sig.returnType = some .int) (hd : decode c.code pc = .ok (.ireturn, 1)) {fs : List Frame}
    (hl : ∀ (f : JFrame) (acts : List Action), f.method = m → f.locked = none → f.entered = [] → (doReturn e (T.setTop f) acts (some (.int z))).1 = T.setFrames fs) : Steps p.tables e below (T.setTop (mkF m pc Ls (.int z :: rest))) (T.setFrames fs) :=
  retOut X hx hret rfl (Or.inl ⟨rfl, Or.inl rfl, _, rfl⟩) hd hl
end New
end Jvm.RoadKit
namespace Jvm.Pilot.@@N@@
open Jvm Jvm.ClassFile Sem Op Lib Jvm.Free Jvm.Stand Jvm.LawKit Jvm.RoadKit Bundle Jvm.Pilot.@@N@@.Jvm.D
def w1_1 (p1 : Int32) (p3 : Int32) : Int32 := (((p3.toUInt32 >>> (p1 &&& 31).toUInt32).toInt32) &&& (1 : Int32))
def w1_r2 (q0 : Int64) (p1 : Int32) (p2 : Int32) (p3 : Int32) : Int64 := (if (w1_1 p1 p3) = (0 : Int32) then q0 else ((q0 &&& (((255 : Int64) <<< (((8 : Int32) * p1) &&& 0x3f).toInt64) ^^^ (-1 : Int64))) ||| ((p2.toInt64) <<< (((8 : Int32) * p1) &&& 0x3f).toInt64)))
def w2_r1 (q0 : Int64) (q1 : Int64) : Int64 := ((((q0 ^^^ q1) - (72340172838076673 : Int64)) &&& ((q0 ^^^ q1) ^^^ (-1 : Int64))) &&& (-9187201950435737472 : Int64))
def w3_1 (q0 : Int64) (p1 : Int32) : Int32 := ((((q0.toUInt64 >>> (((8 : Int32) * p1) &&& 0x3f).toInt64.toUInt64).toInt64) &&& (255 : Int64)).toInt32)
def w3_r2 (q0 : Int64) (p1 : Int32) (p2 : Int32) : Int32 := (if (w3_1 q0 p1) = p2 then (1 : Int32) else (0 : Int32))
def w4_r1 (q0 : Int64) (p1 : Int32) : Int32 := (if (w3_r2 q0 (0 : Int32) p1) = (0 : Int32) then (if (w3_r2 q0 (1 : Int32) p1) = (0 : Int32) then (if (w3_r2 q0 (2 : Int32) p1) = (0 : Int32) then (if (w3_r2 q0 (3 : Int32) p1) = (0 : Int32) then (if (w3_r2 q0 (4 : Int32) p1) = (0 : Int32) then (if (w3_r2 q0 (5 : Int32) p1) = (0 : Int32) then (if (w3_r2 q0 (6 : Int32) p1) = (0 : Int32) then (if (w3_r2 q0 (7 : Int32) p1) = (0 : Int32) then (8 : Int32) else (7 : Int32)) else (6 : Int32)) else (5 : Int32)) else (4 : Int32)) else (3 : Int32)) else (2 : Int32)) else (1 : Int32)) else (0 : Int32))
def w5_1 (q0 : Int64) (p1 : Int32) : Int64 := (((q0.toUInt64 >>> ((((8 : Int32) * p1) + (7 : Int32)) &&& 0x3f).toInt64.toUInt64).toInt64) &&& (1 : Int64))
def w5_r2 (q0 : Int64) (p1 : Int32) : Int32 := (if (w5_1 q0 p1) = (0 : Int64) then (0 : Int32) else (1 : Int32))
def w6_r1 (q0 : Int64) (q1 : Int64) (p2 : Int32) (p3 : Int32) (p4 : Int32) : Int32 := (if p4 < p3 then (if (w3_r2 q0 p3 p2) = (0 : Int32) then (1 : Int32) else (if (w5_r2 q1 p3) = (0 : Int32) then (0 : Int32) else (1 : Int32))) else (if (w3_r2 q0 p3 p2) = (w5_r2 q1 p3) then (1 : Int32) else (0 : Int32)))
def w0_1 (q0 : Int64) (p1 : Int32) (p2 : Int32) : Int64 := (w1_r2 q0 (0 : Int32) (p1 &&& (255 : Int32)) p2)
def w0_2 (q0 : Int64) (p1 : Int32) (p2 : Int32) : Int64 := (w1_r2 (w0_1 q0 p1 p2) (1 : Int32) (p1 &&& (255 : Int32)) p2)
def w0_3 (q0 : Int64) (p1 : Int32) (p2 : Int32) : Int64 := (w1_r2 (w0_2 q0 p1 p2) (2 : Int32) (p1 &&& (255 : Int32)) p2)
def w0_4 (q0 : Int64) (p1 : Int32) (p2 : Int32) : Int64 := (w1_r2 (w0_3 q0 p1 p2) (3 : Int32) (p1 &&& (255 : Int32)) p2)
def w0_5 (q0 : Int64) (p1 : Int32) (p2 : Int32) : Int64 := (w1_r2 (w0_4 q0 p1 p2) (4 : Int32) (p1 &&& (255 : Int32)) p2)
def w0_6 (q0 : Int64) (p1 : Int32) (p2 : Int32) : Int64 := (w1_r2 (w0_5 q0 p1 p2) (5 : Int32) (p1 &&& (255 : Int32)) p2)
def w0_7 (q0 : Int64) (p1 : Int32) (p2 : Int32) : Int64 := (w1_r2 (w0_6 q0 p1 p2) (6 : Int32) (p1 &&& (255 : Int32)) p2)
def w0_8 (q0 : Int64) (p1 : Int32) (p2 : Int32) : Int64 := (w1_r2 (w0_7 q0 p1 p2) (7 : Int32) (p1 &&& (255 : Int32)) p2)
def w0_9 (p1 : Int32) : Int64 := ((72340172838076673 : Int64) * ((p1 &&& (255 : Int32)).toInt64))
def w0_10 (q0 : Int64) (p1 : Int32) (p2 : Int32) : Int64 := (w2_r1 (w0_8 q0 p1 p2) (w0_9 p1))
def w0_11 (q0 : Int64) (p1 : Int32) (p2 : Int32) : Int64 := ((w0_10 q0 p1 p2) &&& (9187201950435737471 : Int64))
def w0_12 (q0 : Int64) (p1 : Int32) (p2 : Int32) : Int32 := (w4_r1 (w0_8 q0 p1 p2) (p1 &&& (255 : Int32)))
def w0_13 (q0 : Int64) (p1 : Int32) (p2 : Int32) : Int32 := (w6_r1 (w0_8 q0 p1 p2) (w0_10 q0 p1 p2) (p1 &&& (255 : Int32)) (0 : Int32) (w0_12 q0 p1 p2))
def w0_14 (q0 : Int64) (p1 : Int32) (p2 : Int32) : Int32 := (w6_r1 (w0_8 q0 p1 p2) (w0_10 q0 p1 p2) (p1 &&& (255 : Int32)) (1 : Int32) (w0_12 q0 p1 p2))
def w0_15 (q0 : Int64) (p1 : Int32) (p2 : Int32) : Int32 := (w6_r1 (w0_8 q0 p1 p2) (w0_10 q0 p1 p2) (p1 &&& (255 : Int32)) (2 : Int32) (w0_12 q0 p1 p2))
def w0_16 (q0 : Int64) (p1 : Int32) (p2 : Int32) : Int32 := (w6_r1 (w0_8 q0 p1 p2) (w0_10 q0 p1 p2) (p1 &&& (255 : Int32)) (3 : Int32) (w0_12 q0 p1 p2))
def w0_17 (q0 : Int64) (p1 : Int32) (p2 : Int32) : Int32 := (w6_r1 (w0_8 q0 p1 p2) (w0_10 q0 p1 p2) (p1 &&& (255 : Int32)) (4 : Int32) (w0_12 q0 p1 p2))
def w0_18 (q0 : Int64) (p1 : Int32) (p2 : Int32) : Int32 := (w6_r1 (w0_8 q0 p1 p2) (w0_10 q0 p1 p2) (p1 &&& (255 : Int32)) (5 : Int32) (w0_12 q0 p1 p2))
def w0_19 (q0 : Int64) (p1 : Int32) (p2 : Int32) : Int32 := (w6_r1 (w0_8 q0 p1 p2) (w0_10 q0 p1 p2) (p1 &&& (255 : Int32)) (6 : Int32) (w0_12 q0 p1 p2))
def w0_20 (q0 : Int64) (p1 : Int32) (p2 : Int32) : Int32 := (w6_r1 (w0_8 q0 p1 p2) (w0_10 q0 p1 p2) (p1 &&& (255 : Int32)) (7 : Int32) (w0_12 q0 p1 p2))
def w0_r21 (q0 : Int64) (p1 : Int32) (p2 : Int32) : Int32 := (if (w0_11 q0 p1 p2) = (0 : Int64) then (if (w0_13 q0 p1 p2) = (0 : Int32) then (0 : Int32) else (if (w0_14 q0 p1 p2) = (0 : Int32) then (0 : Int32) else (if (w0_15 q0 p1 p2) = (0 : Int32) then (0 : Int32) else (if (w0_16 q0 p1 p2) = (0 : Int32) then (0 : Int32) else (if (w0_17 q0 p1 p2) = (0 : Int32) then (0 : Int32) else (if (w0_18 q0 p1 p2) = (0 : Int32) then (0 : Int32) else (if (w0_19 q0 p1 p2) = (0 : Int32) then (0 : Int32) else (if (w0_20 q0 p1 p2) = (0 : Int32) then (0 : Int32) else (1 : Int32))))))))) else (0 : Int32))
def own_n (x : Int64) : Nat := x.toBitVec.toNat
theorem own_nlt (x : Int64) : own_n x < 18446744073709551616 := x.toBitVec.isLt
theorem own_nint (x : Int64) : x.toInt % 18446744073709551616 = (own_n x : Int) := by
  have h : x.toInt = Int.bmod (own_n x : Int) (2 ^ 64) := BitVec.toInt_eq_toNat_bmod x.toBitVec
  have b := bm64 (own_n x : Int)
  have l := own_nlt x
  omega
theorem own_nand (a b : Int64) : own_n (a &&& b) = own_n a &&& own_n b := by unfold own_n; rw [Int64.toBitVec_and, BitVec.toNat_and]
theorem own_nxor (a b : Int64) : own_n (a ^^^ b) = own_n a ^^^ own_n b := by unfold own_n; rw [Int64.toBitVec_xor, BitVec.toNat_xor]
theorem own_nsub (a b : Int64) : own_n (a - b) = (18446744073709551616 - own_n b + own_n a) % 18446744073709551616 := by unfold own_n; rw [Int64.toBitVec_sub, BitVec.toNat_sub]
theorem own_nmul (a b : Int64) : own_n (a * b) = own_n a * own_n b % 18446744073709551616 := by unfold own_n; rw [Int64.toBitVec_mul, BitVec.toNat_mul]
theorem own_bit (n j : Nat) : n.testBit j = decide (n / 2 ^ j % 2 = 1) := Nat.testBit_eq_decide_div_mod_eq
/-- a byte of the word, as eqAt reads it -/
theorem own_low8 (y : Int64) (n : Nat) (h : y.toInt % 256 = (n : Int) % 256) : ((y &&& (255 : Int64)).toInt32).toInt = ((n % 256 : Nat) : Int) := by
  have a := c_maskL y 255 8 (by decide) (by decide)
  have b := c_l2i (y &&& 255)
  have r := rng32 (y &&& 255).toInt32
  omega
theorem own_byte0 (q : Int64) : (w3_1 q (0 : Int32)).toInt = ((own_n q / 2 ^ 0 % 256 : Nat) : Int) := by
  unfold w3_1
  refine own_low8 _ (own_n q / 2 ^ 0) ?_
  have e : (q.toUInt64 >>> (((8 : Int32) * (0 : Int32)) &&& 0x3f).toInt64.toUInt64).toInt64 = q := by
    show (q.toUInt64 >>> (0 : UInt64)).toInt64 = q
    rw [UInt64.shiftRight_zero]
    exact Int64.toInt64_toUInt64 q
  rw [e]
  have n := own_nint q
  omega
theorem own_flag0 (q : Int64) : (w5_1 q (0 : Int32)).toInt = ((own_n q / 2 ^ 7 % 2 : Nat) : Int) := by
  unfold w5_1
  have h := c_lushr q (((8 : Int32) * (0 : Int32)) + (7 : Int32)) 7 (by decide) (by decide)
  have m := c_maskL ((q.toUInt64 >>> ((((8 : Int32) * (0 : Int32)) + (7 : Int32)) &&& 0x3f).toInt64.toUInt64).toInt64) 1 1 (by decide) (by decide)
  have n := own_nint q
  omega
theorem own_A0 (n : Nat) (hn : n < 18446744073709551616) (h : n / 2 ^ 0 % 256 = 0) : (18446744073709551616 - 72340172838076673 + n) % 18446744073709551616 / 2 ^ 7 % 2 = 1 ∧ n / 2 ^ 7 % 2 = 0 := by omega
theorem own_B0 (n : Nat) (hn : n < 18446744073709551616)  (f : (18446744073709551616 - 72340172838076673 + n) % 18446744073709551616 / 2 ^ 7 % 2 = 1) (g : n / 2 ^ 7 % 2 = 0) : n / 2 ^ 0 % 256 = 0 := by omega
theorem own_rep0 : ∀ v : Nat, v < 256 → 72340172838076673 * v / 2 ^ 0 % 256 = v := by decide +kernel
theorem own_byte1 (q : Int64) : (w3_1 q (1 : Int32)).toInt = ((own_n q / 2 ^ 8 % 256 : Nat) : Int) := by
  unfold w3_1
  refine own_low8 _ (own_n q / 2 ^ 8) ?_
  have h := c_lushr q ((8 : Int32) * (1 : Int32)) 8 (by decide) (by decide)
  have n := own_nint q
  omega
theorem own_flag1 (q : Int64) : (w5_1 q (1 : Int32)).toInt = ((own_n q / 2 ^ 15 % 2 : Nat) : Int) := by
  unfold w5_1
  have h := c_lushr q (((8 : Int32) * (1 : Int32)) + (7 : Int32)) 15 (by decide) (by decide)
  have m := c_maskL ((q.toUInt64 >>> ((((8 : Int32) * (1 : Int32)) + (7 : Int32)) &&& 0x3f).toInt64.toUInt64).toInt64) 1 1 (by decide) (by decide)
  have n := own_nint q
  omega
theorem own_A1 (n : Nat) (hn : n < 18446744073709551616) (h : n / 2 ^ 8 % 256 = 0) : (18446744073709551616 - 72340172838076673 + n) % 18446744073709551616 / 2 ^ 15 % 2 = 1 ∧ n / 2 ^ 15 % 2 = 0 := by omega
theorem own_B1 (n : Nat) (hn : n < 18446744073709551616) (h0 : ¬ n / 2 ^ 0 % 256 = 0) (f : (18446744073709551616 - 72340172838076673 + n) % 18446744073709551616 / 2 ^ 15 % 2 = 1) (g : n / 2 ^ 15 % 2 = 0) : n / 2 ^ 8 % 256 = 0 := by omega
theorem own_rep1 : ∀ v : Nat, v < 256 → 72340172838076673 * v / 2 ^ 8 % 256 = v := by decide +kernel
theorem own_byte2 (q : Int64) : (w3_1 q (2 : Int32)).toInt = ((own_n q / 2 ^ 16 % 256 : Nat) : Int) := by
  unfold w3_1
  refine own_low8 _ (own_n q / 2 ^ 16) ?_
  have h := c_lushr q ((8 : Int32) * (2 : Int32)) 16 (by decide) (by decide)
  have n := own_nint q
  omega
theorem own_flag2 (q : Int64) : (w5_1 q (2 : Int32)).toInt = ((own_n q / 2 ^ 23 % 2 : Nat) : Int) := by
  unfold w5_1
  have h := c_lushr q (((8 : Int32) * (2 : Int32)) + (7 : Int32)) 23 (by decide) (by decide)
  have m := c_maskL ((q.toUInt64 >>> ((((8 : Int32) * (2 : Int32)) + (7 : Int32)) &&& 0x3f).toInt64.toUInt64).toInt64) 1 1 (by decide) (by decide)
  have n := own_nint q
  omega
theorem own_A2 (n : Nat) (hn : n < 18446744073709551616) (h : n / 2 ^ 16 % 256 = 0) : (18446744073709551616 - 72340172838076673 + n) % 18446744073709551616 / 2 ^ 23 % 2 = 1 ∧ n / 2 ^ 23 % 2 = 0 := by omega
theorem own_B2 (n : Nat) (hn : n < 18446744073709551616) (h0 : ¬ n / 2 ^ 0 % 256 = 0) (h1 : ¬ n / 2 ^ 8 % 256 = 0) (f : (18446744073709551616 - 72340172838076673 + n) % 18446744073709551616 / 2 ^ 23 % 2 = 1) (g : n / 2 ^ 23 % 2 = 0) : n / 2 ^ 16 % 256 = 0 := by omega
theorem own_rep2 : ∀ v : Nat, v < 256 → 72340172838076673 * v / 2 ^ 16 % 256 = v := by decide +kernel
theorem own_byte3 (q : Int64) : (w3_1 q (3 : Int32)).toInt = ((own_n q / 2 ^ 24 % 256 : Nat) : Int) := by
  unfold w3_1
  refine own_low8 _ (own_n q / 2 ^ 24) ?_
  have h := c_lushr q ((8 : Int32) * (3 : Int32)) 24 (by decide) (by decide)
  have n := own_nint q
  omega
theorem own_flag3 (q : Int64) : (w5_1 q (3 : Int32)).toInt = ((own_n q / 2 ^ 31 % 2 : Nat) : Int) := by
  unfold w5_1
  have h := c_lushr q (((8 : Int32) * (3 : Int32)) + (7 : Int32)) 31 (by decide) (by decide)
  have m := c_maskL ((q.toUInt64 >>> ((((8 : Int32) * (3 : Int32)) + (7 : Int32)) &&& 0x3f).toInt64.toUInt64).toInt64) 1 1 (by decide) (by decide)
  have n := own_nint q
  omega
theorem own_A3 (n : Nat) (hn : n < 18446744073709551616) (h : n / 2 ^ 24 % 256 = 0) : (18446744073709551616 - 72340172838076673 + n) % 18446744073709551616 / 2 ^ 31 % 2 = 1 ∧ n / 2 ^ 31 % 2 = 0 := by omega
theorem own_B3 (n : Nat) (hn : n < 18446744073709551616) (h0 : ¬ n / 2 ^ 0 % 256 = 0) (h1 : ¬ n / 2 ^ 8 % 256 = 0) (h2 : ¬ n / 2 ^ 16 % 256 = 0) (f : (18446744073709551616 - 72340172838076673 + n) % 18446744073709551616 / 2 ^ 31 % 2 = 1) (g : n / 2 ^ 31 % 2 = 0) : n / 2 ^ 24 % 256 = 0 := by omega
theorem own_rep3 : ∀ v : Nat, v < 256 → 72340172838076673 * v / 2 ^ 24 % 256 = v := by decide +kernel
theorem own_byte4 (q : Int64) : (w3_1 q (4 : Int32)).toInt = ((own_n q / 2 ^ 32 % 256 : Nat) : Int) := by
  unfold w3_1
  refine own_low8 _ (own_n q / 2 ^ 32) ?_
  have h := c_lushr q ((8 : Int32) * (4 : Int32)) 32 (by decide) (by decide)
  have n := own_nint q
  omega
theorem own_flag4 (q : Int64) : (w5_1 q (4 : Int32)).toInt = ((own_n q / 2 ^ 39 % 2 : Nat) : Int) := by
  unfold w5_1
  have h := c_lushr q (((8 : Int32) * (4 : Int32)) + (7 : Int32)) 39 (by decide) (by decide)
  have m := c_maskL ((q.toUInt64 >>> ((((8 : Int32) * (4 : Int32)) + (7 : Int32)) &&& 0x3f).toInt64.toUInt64).toInt64) 1 1 (by decide) (by decide)
  have n := own_nint q
  omega
theorem own_A4 (n : Nat) (hn : n < 18446744073709551616) (h : n / 2 ^ 32 % 256 = 0) : (18446744073709551616 - 72340172838076673 + n) % 18446744073709551616 / 2 ^ 39 % 2 = 1 ∧ n / 2 ^ 39 % 2 = 0 := by omega
theorem own_B4 (n : Nat) (hn : n < 18446744073709551616) (h0 : ¬ n / 2 ^ 0 % 256 = 0) (h1 : ¬ n / 2 ^ 8 % 256 = 0) (h2 : ¬ n / 2 ^ 16 % 256 = 0) (h3 : ¬ n / 2 ^ 24 % 256 = 0) (f : (18446744073709551616 - 72340172838076673 + n) % 18446744073709551616 / 2 ^ 39 % 2 = 1) (g : n / 2 ^ 39 % 2 = 0) : n / 2 ^ 32 % 256 = 0 := by omega
theorem own_rep4 : ∀ v : Nat, v < 256 → 72340172838076673 * v / 2 ^ 32 % 256 = v := by decide +kernel
theorem own_byte5 (q : Int64) : (w3_1 q (5 : Int32)).toInt = ((own_n q / 2 ^ 40 % 256 : Nat) : Int) := by
  unfold w3_1
  refine own_low8 _ (own_n q / 2 ^ 40) ?_
  have h := c_lushr q ((8 : Int32) * (5 : Int32)) 40 (by decide) (by decide)
  have n := own_nint q
  omega
theorem own_flag5 (q : Int64) : (w5_1 q (5 : Int32)).toInt = ((own_n q / 2 ^ 47 % 2 : Nat) : Int) := by
  unfold w5_1
  have h := c_lushr q (((8 : Int32) * (5 : Int32)) + (7 : Int32)) 47 (by decide) (by decide)
  have m := c_maskL ((q.toUInt64 >>> ((((8 : Int32) * (5 : Int32)) + (7 : Int32)) &&& 0x3f).toInt64.toUInt64).toInt64) 1 1 (by decide) (by decide)
  have n := own_nint q
  omega
theorem own_A5 (n : Nat) (hn : n < 18446744073709551616) (h : n / 2 ^ 40 % 256 = 0) : (18446744073709551616 - 72340172838076673 + n) % 18446744073709551616 / 2 ^ 47 % 2 = 1 ∧ n / 2 ^ 47 % 2 = 0 := by omega
theorem own_B5 (n : Nat) (hn : n < 18446744073709551616) (h0 : ¬ n / 2 ^ 0 % 256 = 0) (h1 : ¬ n / 2 ^ 8 % 256 = 0) (h2 : ¬ n / 2 ^ 16 % 256 = 0) (h3 : ¬ n / 2 ^ 24 % 256 = 0) (h4 : ¬ n / 2 ^ 32 % 256 = 0) (f : (18446744073709551616 - 72340172838076673 + n) % 18446744073709551616 / 2 ^ 47 % 2 = 1) (g : n / 2 ^ 47 % 2 = 0) : n / 2 ^ 40 % 256 = 0 := by omega
theorem own_rep5 : ∀ v : Nat, v < 256 → 72340172838076673 * v / 2 ^ 40 % 256 = v := by decide +kernel
theorem own_byte6 (q : Int64) : (w3_1 q (6 : Int32)).toInt = ((own_n q / 2 ^ 48 % 256 : Nat) : Int) := by
  unfold w3_1
  refine own_low8 _ (own_n q / 2 ^ 48) ?_
  have h := c_lushr q ((8 : Int32) * (6 : Int32)) 48 (by decide) (by decide)
  have n := own_nint q
  omega
theorem own_flag6 (q : Int64) : (w5_1 q (6 : Int32)).toInt = ((own_n q / 2 ^ 55 % 2 : Nat) : Int) := by
  unfold w5_1
  have h := c_lushr q (((8 : Int32) * (6 : Int32)) + (7 : Int32)) 55 (by decide) (by decide)
  have m := c_maskL ((q.toUInt64 >>> ((((8 : Int32) * (6 : Int32)) + (7 : Int32)) &&& 0x3f).toInt64.toUInt64).toInt64) 1 1 (by decide) (by decide)
  have n := own_nint q
  omega
theorem own_A6 (n : Nat) (hn : n < 18446744073709551616) (h : n / 2 ^ 48 % 256 = 0) : (18446744073709551616 - 72340172838076673 + n) % 18446744073709551616 / 2 ^ 55 % 2 = 1 ∧ n / 2 ^ 55 % 2 = 0 := by omega
theorem own_B6 (n : Nat) (hn : n < 18446744073709551616) (h0 : ¬ n / 2 ^ 0 % 256 = 0) (h1 : ¬ n / 2 ^ 8 % 256 = 0) (h2 : ¬ n / 2 ^ 16 % 256 = 0) (h3 : ¬ n / 2 ^ 24 % 256 = 0) (h4 : ¬ n / 2 ^ 32 % 256 = 0) (h5 : ¬ n / 2 ^ 40 % 256 = 0) (f : (18446744073709551616 - 72340172838076673 + n) % 18446744073709551616 / 2 ^ 55 % 2 = 1) (g : n / 2 ^ 55 % 2 = 0) : n / 2 ^ 48 % 256 = 0 := by omega
theorem own_rep6 : ∀ v : Nat, v < 256 → 72340172838076673 * v / 2 ^ 48 % 256 = v := by decide +kernel
theorem own_byte7 (q : Int64) : (w3_1 q (7 : Int32)).toInt = ((own_n q / 2 ^ 56 % 256 : Nat) : Int) := by
  unfold w3_1
  refine own_low8 _ (own_n q / 2 ^ 56) ?_
  have h := c_lushr q ((8 : Int32) * (7 : Int32)) 56 (by decide) (by decide)
  have n := own_nint q
  omega
theorem own_flag7 (q : Int64) : (w5_1 q (7 : Int32)).toInt = ((own_n q / 2 ^ 63 % 2 : Nat) : Int) := by
  unfold w5_1
  have h := c_lushr q (((8 : Int32) * (7 : Int32)) + (7 : Int32)) 63 (by decide) (by decide)
  have m := c_maskL ((q.toUInt64 >>> ((((8 : Int32) * (7 : Int32)) + (7 : Int32)) &&& 0x3f).toInt64.toUInt64).toInt64) 1 1 (by decide) (by decide)
  have n := own_nint q
  omega
theorem own_A7 (n : Nat) (hn : n < 18446744073709551616) (h : n / 2 ^ 56 % 256 = 0) : (18446744073709551616 - 72340172838076673 + n) % 18446744073709551616 / 2 ^ 63 % 2 = 1 ∧ n / 2 ^ 63 % 2 = 0 := by omega
theorem own_B7 (n : Nat) (hn : n < 18446744073709551616) (h0 : ¬ n / 2 ^ 0 % 256 = 0) (h1 : ¬ n / 2 ^ 8 % 256 = 0) (h2 : ¬ n / 2 ^ 16 % 256 = 0) (h3 : ¬ n / 2 ^ 24 % 256 = 0) (h4 : ¬ n / 2 ^ 32 % 256 = 0) (h5 : ¬ n / 2 ^ 40 % 256 = 0) (h6 : ¬ n / 2 ^ 48 % 256 = 0) (f : (18446744073709551616 - 72340172838076673 + n) % 18446744073709551616 / 2 ^ 63 % 2 = 1) (g : n / 2 ^ 63 % 2 = 0) : n / 2 ^ 56 % 256 = 0 := by omega
theorem own_rep7 : ∀ v : Nat, v < 256 → 72340172838076673 * v / 2 ^ 56 % 256 = v := by decide +kernel
theorem own_xor0 (a b : Nat) : a ^^^ b = 0 ↔ a = b := by
  constructor
  · intro h
    have e : (a ^^^ b) ^^^ b = a := by rw [Nat.xor_assoc, Nat.xor_self, Nat.xor_zero]
    rw [h, Nat.zero_xor] at e
    exact e.symm
  · rintro rfl
    exact Nat.xor_self a
theorem own_xor8 (a b k : Nat) : (a ^^^ b) / 2 ^ k % 256 = 0 ↔ a / 2 ^ k % 256 = b / 2 ^ k % 256 := by
  have e : (a ^^^ b) / 2 ^ k % 256 = (a / 2 ^ k % 256) ^^^ (b / 2 ^ k % 256) := by
    rw [Nat.xor_div_two_pow, show (256 : Nat) = 2 ^ 8 from rfl, Nat.xor_mod_two_pow]
  rw [e, own_xor0]
/-- a flag of what ByteWords.equal answers -/
theorem own_rbit (x : Int64) (j : Nat) (hj : j < 64) (hH : (own_n (-9187201950435737472 : Int64)).testBit j = true) : (own_n (((x - (72340172838076673 : Int64)) &&& (x ^^^ (-1 : Int64))) &&& (-9187201950435737472 : Int64)) / 2 ^ j % 2 = 1) ↔ ((18446744073709551616 - 72340172838076673 + own_n x) % 18446744073709551616 / 2 ^ j % 2 = 1 ∧ own_n x / 2 ^ j % 2 = 0) := by
  have m1 : own_n (-1 : Int64) = 2 ^ 64 - 1 := rfl
  have k1 : own_n (72340172838076673 : Int64) = 72340172838076673 := rfl
  have h : (own_n (((x - (72340172838076673 : Int64)) &&& (x ^^^ (-1 : Int64))) &&& (-9187201950435737472 : Int64))).testBit j = ((((18446744073709551616 - 72340172838076673 + own_n x) % 18446744073709551616).testBit j) && !((own_n x).testBit j)) := by
    rw [own_nand, own_nand, own_nxor, own_nsub, m1, k1, Nat.testBit_and, Nat.testBit_and, Nat.testBit_xor, Nat.testBit_two_pow_sub_one, hH]
    simp [hj]
  rw [own_bit, own_bit, own_bit] at h
  have p := own_n x / 2 ^ j % 2
  have q : own_n x / 2 ^ j % 2 = 0 ∨ own_n x / 2 ^ j % 2 = 1 := by omega
  constructor
  · intro g
    rw [decide_eq_true g] at h
    have h' := Bool.and_eq_true_iff.mp h.symm
    refine ⟨of_decide_eq_true h'.1, ?_⟩
    rcases q with q | q
    · exact q
    · rw [decide_eq_true q] at h'
      exact absurd h'.2 (by decide)
  · rintro ⟨g1, g2⟩
    rw [decide_eq_true g1, decide_eq_false (show ¬ own_n x / 2 ^ j % 2 = 1 by omega)] at h
    exact of_decide_eq_true h
theorem own_main (q : Int64) (v : Int32) (h0 : 0 ≤ v.toInt) (h1 : v.toInt < 256) :
    ((w3_1 q (0 : Int32)) = v → ¬ (w5_1 (w2_r1 q ((72340172838076673 : Int64) * v.toInt64)) (0 : Int32)) = (0 : Int64)) ∧ (¬ (w5_1 (w2_r1 q ((72340172838076673 : Int64) * v.toInt64)) (0 : Int32)) = (0 : Int64) → (w3_1 q (0 : Int32)) = v) ∧ ((w3_1 q (1 : Int32)) = v → ¬ (w5_1 (w2_r1 q ((72340172838076673 : Int64) * v.toInt64)) (1 : Int32)) = (0 : Int64)) ∧ (¬ (w3_1 q (0 : Int32)) = v → ¬ (w5_1 (w2_r1 q ((72340172838076673 : Int64) * v.toInt64)) (1 : Int32)) = (0 : Int64) → (w3_1 q (1 : Int32)) = v) ∧ ((w3_1 q (2 : Int32)) = v → ¬ (w5_1 (w2_r1 q ((72340172838076673 : Int64) * v.toInt64)) (2 : Int32)) = (0 : Int64)) ∧ (¬ (w3_1 q (0 : Int32)) = v → ¬ (w3_1 q (1 : Int32)) = v → ¬ (w5_1 (w2_r1 q ((72340172838076673 : Int64) * v.toInt64)) (2 : Int32)) = (0 : Int64) → (w3_1 q (2 : Int32)) = v) ∧ ((w3_1 q (3 : Int32)) = v → ¬ (w5_1 (w2_r1 q ((72340172838076673 : Int64) * v.toInt64)) (3 : Int32)) = (0 : Int64)) ∧ (¬ (w3_1 q (0 : Int32)) = v → ¬ (w3_1 q (1 : Int32)) = v → ¬ (w3_1 q (2 : Int32)) = v → ¬ (w5_1 (w2_r1 q ((72340172838076673 : Int64) * v.toInt64)) (3 : Int32)) = (0 : Int64) → (w3_1 q (3 : Int32)) = v) ∧ ((w3_1 q (4 : Int32)) = v → ¬ (w5_1 (w2_r1 q ((72340172838076673 : Int64) * v.toInt64)) (4 : Int32)) = (0 : Int64)) ∧ (¬ (w3_1 q (0 : Int32)) = v → ¬ (w3_1 q (1 : Int32)) = v → ¬ (w3_1 q (2 : Int32)) = v → ¬ (w3_1 q (3 : Int32)) = v → ¬ (w5_1 (w2_r1 q ((72340172838076673 : Int64) * v.toInt64)) (4 : Int32)) = (0 : Int64) → (w3_1 q (4 : Int32)) = v) ∧ ((w3_1 q (5 : Int32)) = v → ¬ (w5_1 (w2_r1 q ((72340172838076673 : Int64) * v.toInt64)) (5 : Int32)) = (0 : Int64)) ∧ (¬ (w3_1 q (0 : Int32)) = v → ¬ (w3_1 q (1 : Int32)) = v → ¬ (w3_1 q (2 : Int32)) = v → ¬ (w3_1 q (3 : Int32)) = v → ¬ (w3_1 q (4 : Int32)) = v → ¬ (w5_1 (w2_r1 q ((72340172838076673 : Int64) * v.toInt64)) (5 : Int32)) = (0 : Int64) → (w3_1 q (5 : Int32)) = v) ∧ ((w3_1 q (6 : Int32)) = v → ¬ (w5_1 (w2_r1 q ((72340172838076673 : Int64) * v.toInt64)) (6 : Int32)) = (0 : Int64)) ∧ (¬ (w3_1 q (0 : Int32)) = v → ¬ (w3_1 q (1 : Int32)) = v → ¬ (w3_1 q (2 : Int32)) = v → ¬ (w3_1 q (3 : Int32)) = v → ¬ (w3_1 q (4 : Int32)) = v → ¬ (w3_1 q (5 : Int32)) = v → ¬ (w5_1 (w2_r1 q ((72340172838076673 : Int64) * v.toInt64)) (6 : Int32)) = (0 : Int64) → (w3_1 q (6 : Int32)) = v) ∧ ((w3_1 q (7 : Int32)) = v → ¬ (w5_1 (w2_r1 q ((72340172838076673 : Int64) * v.toInt64)) (7 : Int32)) = (0 : Int64)) ∧ (¬ (w3_1 q (0 : Int32)) = v → ¬ (w3_1 q (1 : Int32)) = v → ¬ (w3_1 q (2 : Int32)) = v → ¬ (w3_1 q (3 : Int32)) = v → ¬ (w3_1 q (4 : Int32)) = v → ¬ (w3_1 q (5 : Int32)) = v → ¬ (w3_1 q (6 : Int32)) = v → ¬ (w5_1 (w2_r1 q ((72340172838076673 : Int64) * v.toInt64)) (7 : Int32)) = (0 : Int64) → (w3_1 q (7 : Int32)) = v) := by
  have l0 : (0 : Int64).toInt = 0 := rfl
  obtain ⟨x, hx⟩ : ∃ x, x = q ^^^ ((72340172838076673 : Int64) * v.toInt64) := ⟨_, rfl⟩
  have er : w2_r1 q ((72340172838076673 : Int64) * v.toInt64) = (((x - (72340172838076673 : Int64)) &&& (x ^^^ (-1 : Int64))) &&& (-9187201950435737472 : Int64)) := by unfold w2_r1; rw [hx]
  obtain ⟨r, hr⟩ : ∃ r, r = w2_r1 q ((72340172838076673 : Int64) * v.toInt64) := ⟨_, rfl⟩
  rw [← hr] at er ⊢
  obtain ⟨u, hu⟩ : ∃ u : Nat, (u : Int) = v.toInt := ⟨v.toInt.toNat, by omega⟩
  have hul : u < 256 := by omega
  have nv : own_n v.toInt64 = u := by
    have a := own_nint v.toInt64
    have b := c_i2l v
    omega
  have nr : own_n ((72340172838076673 : Int64) * v.toInt64) = 72340172838076673 * u := by
    rw [own_nmul, nv, show own_n (72340172838076673 : Int64) = 72340172838076673 from rfl]
    omega
  have nx : own_n x = own_n q ^^^ (72340172838076673 * u) := by rw [hx, own_nxor, nr]
  have lx := own_nlt x
  have e0 : (w3_1 q (0 : Int32)) = v ↔ own_n x / 2 ^ 0 % 256 = 0 := by
    rw [nx, own_xor8, own_rep0 u hul, ← Int32.toInt_inj, own_byte0, ← hu]
    omega
  have f0 : (¬ (w5_1 r (0 : Int32)) = (0 : Int64)) ↔ ((18446744073709551616 - 72340172838076673 + own_n x) % 18446744073709551616 / 2 ^ 7 % 2 = 1 ∧ own_n x / 2 ^ 7 % 2 = 0) := by
    rw [← own_rbit x 7 (by decide) (by decide), ← er, ← Int64.toInt_inj, own_flag0, l0]
    omega
  have e1 : (w3_1 q (1 : Int32)) = v ↔ own_n x / 2 ^ 8 % 256 = 0 := by
    rw [nx, own_xor8, own_rep1 u hul, ← Int32.toInt_inj, own_byte1, ← hu]
    omega
  have f1 : (¬ (w5_1 r (1 : Int32)) = (0 : Int64)) ↔ ((18446744073709551616 - 72340172838076673 + own_n x) % 18446744073709551616 / 2 ^ 15 % 2 = 1 ∧ own_n x / 2 ^ 15 % 2 = 0) := by
    rw [← own_rbit x 15 (by decide) (by decide), ← er, ← Int64.toInt_inj, own_flag1, l0]
    omega
  have e2 : (w3_1 q (2 : Int32)) = v ↔ own_n x / 2 ^ 16 % 256 = 0 := by
    rw [nx, own_xor8, own_rep2 u hul, ← Int32.toInt_inj, own_byte2, ← hu]
    omega
  have f2 : (¬ (w5_1 r (2 : Int32)) = (0 : Int64)) ↔ ((18446744073709551616 - 72340172838076673 + own_n x) % 18446744073709551616 / 2 ^ 23 % 2 = 1 ∧ own_n x / 2 ^ 23 % 2 = 0) := by
    rw [← own_rbit x 23 (by decide) (by decide), ← er, ← Int64.toInt_inj, own_flag2, l0]
    omega
  have e3 : (w3_1 q (3 : Int32)) = v ↔ own_n x / 2 ^ 24 % 256 = 0 := by
    rw [nx, own_xor8, own_rep3 u hul, ← Int32.toInt_inj, own_byte3, ← hu]
    omega
  have f3 : (¬ (w5_1 r (3 : Int32)) = (0 : Int64)) ↔ ((18446744073709551616 - 72340172838076673 + own_n x) % 18446744073709551616 / 2 ^ 31 % 2 = 1 ∧ own_n x / 2 ^ 31 % 2 = 0) := by
    rw [← own_rbit x 31 (by decide) (by decide), ← er, ← Int64.toInt_inj, own_flag3, l0]
    omega
  have e4 : (w3_1 q (4 : Int32)) = v ↔ own_n x / 2 ^ 32 % 256 = 0 := by
    rw [nx, own_xor8, own_rep4 u hul, ← Int32.toInt_inj, own_byte4, ← hu]
    omega
  have f4 : (¬ (w5_1 r (4 : Int32)) = (0 : Int64)) ↔ ((18446744073709551616 - 72340172838076673 + own_n x) % 18446744073709551616 / 2 ^ 39 % 2 = 1 ∧ own_n x / 2 ^ 39 % 2 = 0) := by
    rw [← own_rbit x 39 (by decide) (by decide), ← er, ← Int64.toInt_inj, own_flag4, l0]
    omega
  have e5 : (w3_1 q (5 : Int32)) = v ↔ own_n x / 2 ^ 40 % 256 = 0 := by
    rw [nx, own_xor8, own_rep5 u hul, ← Int32.toInt_inj, own_byte5, ← hu]
    omega
  have f5 : (¬ (w5_1 r (5 : Int32)) = (0 : Int64)) ↔ ((18446744073709551616 - 72340172838076673 + own_n x) % 18446744073709551616 / 2 ^ 47 % 2 = 1 ∧ own_n x / 2 ^ 47 % 2 = 0) := by
    rw [← own_rbit x 47 (by decide) (by decide), ← er, ← Int64.toInt_inj, own_flag5, l0]
    omega
  have e6 : (w3_1 q (6 : Int32)) = v ↔ own_n x / 2 ^ 48 % 256 = 0 := by
    rw [nx, own_xor8, own_rep6 u hul, ← Int32.toInt_inj, own_byte6, ← hu]
    omega
  have f6 : (¬ (w5_1 r (6 : Int32)) = (0 : Int64)) ↔ ((18446744073709551616 - 72340172838076673 + own_n x) % 18446744073709551616 / 2 ^ 55 % 2 = 1 ∧ own_n x / 2 ^ 55 % 2 = 0) := by
    rw [← own_rbit x 55 (by decide) (by decide), ← er, ← Int64.toInt_inj, own_flag6, l0]
    omega
  have e7 : (w3_1 q (7 : Int32)) = v ↔ own_n x / 2 ^ 56 % 256 = 0 := by
    rw [nx, own_xor8, own_rep7 u hul, ← Int32.toInt_inj, own_byte7, ← hu]
    omega
  have f7 : (¬ (w5_1 r (7 : Int32)) = (0 : Int64)) ↔ ((18446744073709551616 - 72340172838076673 + own_n x) % 18446744073709551616 / 2 ^ 63 % 2 = 1 ∧ own_n x / 2 ^ 63 % 2 = 0) := by
    rw [← own_rbit x 63 (by decide) (by decide), ← er, ← Int64.toInt_inj, own_flag7, l0]
    omega
  exact ⟨fun a => f0.mpr (own_A0 _ lx (e0.mp a)), fun  g => e0.mpr (own_B0 _ lx  (f0.mp g).1 (f0.mp g).2), fun a => f1.mpr (own_A1 _ lx (e1.mp a)), fun a0 g => e1.mpr (own_B1 _ lx (fun z => a0 (e0.mpr z)) (f1.mp g).1 (f1.mp g).2), fun a => f2.mpr (own_A2 _ lx (e2.mp a)), fun a0 a1 g => e2.mpr (own_B2 _ lx (fun z => a0 (e0.mpr z)) (fun z => a1 (e1.mpr z)) (f2.mp g).1 (f2.mp g).2), fun a => f3.mpr (own_A3 _ lx (e3.mp a)), fun a0 a1 a2 g => e3.mpr (own_B3 _ lx (fun z => a0 (e0.mpr z)) (fun z => a1 (e1.mpr z)) (fun z => a2 (e2.mpr z)) (f3.mp g).1 (f3.mp g).2), fun a => f4.mpr (own_A4 _ lx (e4.mp a)), fun a0 a1 a2 a3 g => e4.mpr (own_B4 _ lx (fun z => a0 (e0.mpr z)) (fun z => a1 (e1.mpr z)) (fun z => a2 (e2.mpr z)) (fun z => a3 (e3.mpr z)) (f4.mp g).1 (f4.mp g).2), fun a => f5.mpr (own_A5 _ lx (e5.mp a)), fun a0 a1 a2 a3 a4 g => e5.mpr (own_B5 _ lx (fun z => a0 (e0.mpr z)) (fun z => a1 (e1.mpr z)) (fun z => a2 (e2.mpr z)) (fun z => a3 (e3.mpr z)) (fun z => a4 (e4.mpr z)) (f5.mp g).1 (f5.mp g).2), fun a => f6.mpr (own_A6 _ lx (e6.mp a)), fun a0 a1 a2 a3 a4 a5 g => e6.mpr (own_B6 _ lx (fun z => a0 (e0.mpr z)) (fun z => a1 (e1.mpr z)) (fun z => a2 (e2.mpr z)) (fun z => a3 (e3.mpr z)) (fun z => a4 (e4.mpr z)) (fun z => a5 (e5.mpr z)) (f6.mp g).1 (f6.mp g).2), fun a => f7.mpr (own_A7 _ lx (e7.mp a)), fun a0 a1 a2 a3 a4 a5 a6 g => e7.mpr (own_B7 _ lx (fun z => a0 (e0.mpr z)) (fun z => a1 (e1.mpr z)) (fun z => a2 (e2.mpr z)) (fun z => a3 (e3.mpr z)) (fun z => a4 (e4.mpr z)) (fun z => a5 (e5.mpr z)) (fun z => a6 (e6.mpr z)) (f7.mp g).1 (f7.mp g).2)⟩
theorem own_ok (q r : Int64) (v i first : Int32) (hA : (w3_1 q i) = v → ¬ (w5_1 r i) = 0) (hB : ¬ first < i → ¬ (w5_1 r i) = 0 → (w3_1 q i) = v) : w6_r1 q r v i first = 1 := by
  unfold w6_r1 w3_r2 w5_r2
  by_cases a : (w3_1 q i) = v
  · have b := hA a
    rw [if_pos a, if_neg b]
    by_cases c : first < i
    · rw [if_pos c]; decide
    · rw [if_neg c]; decide
  · rw [if_neg a]
    by_cases c : first < i
    · rw [if_pos c]; exact if_pos rfl
    · rw [if_neg c]
      by_cases b : (w5_1 r i) = 0
      · rw [if_pos b]; decide
      · exact absurd (hB c b) a
theorem own_first0 (q : Int64) (v : Int32) (h : ¬ (w4_r1 q v) < (0 : Int32)) : True := by
  trivial
theorem own_first1 (q : Int64) (v : Int32) (h : ¬ (w4_r1 q v) < (1 : Int32)) : True ∧ ¬ (w3_1 q (0 : Int32)) = v := by
  refine ⟨trivial, fun a0 => ?_⟩
  · have e : w3_r2 q (0 : Int32) v = 1 := by unfold w3_r2; exact if_pos a0
    apply h
    unfold w4_r1
    rw [e, if_neg (by decide : ¬ (1 : Int32) = 0)]
    repeat' split
    all_goals decide
theorem own_first2 (q : Int64) (v : Int32) (h : ¬ (w4_r1 q v) < (2 : Int32)) : True ∧ ¬ (w3_1 q (0 : Int32)) = v ∧ ¬ (w3_1 q (1 : Int32)) = v := by
  refine ⟨trivial, fun a0 => ?_, fun a1 => ?_⟩
  · have e : w3_r2 q (0 : Int32) v = 1 := by unfold w3_r2; exact if_pos a0
    apply h
    unfold w4_r1
    rw [e, if_neg (by decide : ¬ (1 : Int32) = 0)]
    repeat' split
    all_goals decide
  · have e : w3_r2 q (1 : Int32) v = 1 := by unfold w3_r2; exact if_pos a1
    apply h
    unfold w4_r1
    rw [e, if_neg (by decide : ¬ (1 : Int32) = 0)]
    repeat' split
    all_goals decide
theorem own_first3 (q : Int64) (v : Int32) (h : ¬ (w4_r1 q v) < (3 : Int32)) : True ∧ ¬ (w3_1 q (0 : Int32)) = v ∧ ¬ (w3_1 q (1 : Int32)) = v ∧ ¬ (w3_1 q (2 : Int32)) = v := by
  refine ⟨trivial, fun a0 => ?_, fun a1 => ?_, fun a2 => ?_⟩
  · have e : w3_r2 q (0 : Int32) v = 1 := by unfold w3_r2; exact if_pos a0
    apply h
    unfold w4_r1
    rw [e, if_neg (by decide : ¬ (1 : Int32) = 0)]
    repeat' split
    all_goals decide
  · have e : w3_r2 q (1 : Int32) v = 1 := by unfold w3_r2; exact if_pos a1
    apply h
    unfold w4_r1
    rw [e, if_neg (by decide : ¬ (1 : Int32) = 0)]
    repeat' split
    all_goals decide
  · have e : w3_r2 q (2 : Int32) v = 1 := by unfold w3_r2; exact if_pos a2
    apply h
    unfold w4_r1
    rw [e, if_neg (by decide : ¬ (1 : Int32) = 0)]
    repeat' split
    all_goals decide
theorem own_first4 (q : Int64) (v : Int32) (h : ¬ (w4_r1 q v) < (4 : Int32)) : True ∧ ¬ (w3_1 q (0 : Int32)) = v ∧ ¬ (w3_1 q (1 : Int32)) = v ∧ ¬ (w3_1 q (2 : Int32)) = v ∧ ¬ (w3_1 q (3 : Int32)) = v := by
  refine ⟨trivial, fun a0 => ?_, fun a1 => ?_, fun a2 => ?_, fun a3 => ?_⟩
  · have e : w3_r2 q (0 : Int32) v = 1 := by unfold w3_r2; exact if_pos a0
    apply h
    unfold w4_r1
    rw [e, if_neg (by decide : ¬ (1 : Int32) = 0)]
    repeat' split
    all_goals decide
  · have e : w3_r2 q (1 : Int32) v = 1 := by unfold w3_r2; exact if_pos a1
    apply h
    unfold w4_r1
    rw [e, if_neg (by decide : ¬ (1 : Int32) = 0)]
    repeat' split
    all_goals decide
  · have e : w3_r2 q (2 : Int32) v = 1 := by unfold w3_r2; exact if_pos a2
    apply h
    unfold w4_r1
    rw [e, if_neg (by decide : ¬ (1 : Int32) = 0)]
    repeat' split
    all_goals decide
  · have e : w3_r2 q (3 : Int32) v = 1 := by unfold w3_r2; exact if_pos a3
    apply h
    unfold w4_r1
    rw [e, if_neg (by decide : ¬ (1 : Int32) = 0)]
    repeat' split
    all_goals decide
theorem own_first5 (q : Int64) (v : Int32) (h : ¬ (w4_r1 q v) < (5 : Int32)) : True ∧ ¬ (w3_1 q (0 : Int32)) = v ∧ ¬ (w3_1 q (1 : Int32)) = v ∧ ¬ (w3_1 q (2 : Int32)) = v ∧ ¬ (w3_1 q (3 : Int32)) = v ∧ ¬ (w3_1 q (4 : Int32)) = v := by
  refine ⟨trivial, fun a0 => ?_, fun a1 => ?_, fun a2 => ?_, fun a3 => ?_, fun a4 => ?_⟩
  · have e : w3_r2 q (0 : Int32) v = 1 := by unfold w3_r2; exact if_pos a0
    apply h
    unfold w4_r1
    rw [e, if_neg (by decide : ¬ (1 : Int32) = 0)]
    repeat' split
    all_goals decide
  · have e : w3_r2 q (1 : Int32) v = 1 := by unfold w3_r2; exact if_pos a1
    apply h
    unfold w4_r1
    rw [e, if_neg (by decide : ¬ (1 : Int32) = 0)]
    repeat' split
    all_goals decide
  · have e : w3_r2 q (2 : Int32) v = 1 := by unfold w3_r2; exact if_pos a2
    apply h
    unfold w4_r1
    rw [e, if_neg (by decide : ¬ (1 : Int32) = 0)]
    repeat' split
    all_goals decide
  · have e : w3_r2 q (3 : Int32) v = 1 := by unfold w3_r2; exact if_pos a3
    apply h
    unfold w4_r1
    rw [e, if_neg (by decide : ¬ (1 : Int32) = 0)]
    repeat' split
    all_goals decide
  · have e : w3_r2 q (4 : Int32) v = 1 := by unfold w3_r2; exact if_pos a4
    apply h
    unfold w4_r1
    rw [e, if_neg (by decide : ¬ (1 : Int32) = 0)]
    repeat' split
    all_goals decide
theorem own_first6 (q : Int64) (v : Int32) (h : ¬ (w4_r1 q v) < (6 : Int32)) : True ∧ ¬ (w3_1 q (0 : Int32)) = v ∧ ¬ (w3_1 q (1 : Int32)) = v ∧ ¬ (w3_1 q (2 : Int32)) = v ∧ ¬ (w3_1 q (3 : Int32)) = v ∧ ¬ (w3_1 q (4 : Int32)) = v ∧ ¬ (w3_1 q (5 : Int32)) = v := by
  refine ⟨trivial, fun a0 => ?_, fun a1 => ?_, fun a2 => ?_, fun a3 => ?_, fun a4 => ?_, fun a5 => ?_⟩
  · have e : w3_r2 q (0 : Int32) v = 1 := by unfold w3_r2; exact if_pos a0
    apply h
    unfold w4_r1
    rw [e, if_neg (by decide : ¬ (1 : Int32) = 0)]
    repeat' split
    all_goals decide
  · have e : w3_r2 q (1 : Int32) v = 1 := by unfold w3_r2; exact if_pos a1
    apply h
    unfold w4_r1
    rw [e, if_neg (by decide : ¬ (1 : Int32) = 0)]
    repeat' split
    all_goals decide
  · have e : w3_r2 q (2 : Int32) v = 1 := by unfold w3_r2; exact if_pos a2
    apply h
    unfold w4_r1
    rw [e, if_neg (by decide : ¬ (1 : Int32) = 0)]
    repeat' split
    all_goals decide
  · have e : w3_r2 q (3 : Int32) v = 1 := by unfold w3_r2; exact if_pos a3
    apply h
    unfold w4_r1
    rw [e, if_neg (by decide : ¬ (1 : Int32) = 0)]
    repeat' split
    all_goals decide
  · have e : w3_r2 q (4 : Int32) v = 1 := by unfold w3_r2; exact if_pos a4
    apply h
    unfold w4_r1
    rw [e, if_neg (by decide : ¬ (1 : Int32) = 0)]
    repeat' split
    all_goals decide
  · have e : w3_r2 q (5 : Int32) v = 1 := by unfold w3_r2; exact if_pos a5
    apply h
    unfold w4_r1
    rw [e, if_neg (by decide : ¬ (1 : Int32) = 0)]
    repeat' split
    all_goals decide
theorem own_first7 (q : Int64) (v : Int32) (h : ¬ (w4_r1 q v) < (7 : Int32)) : True ∧ ¬ (w3_1 q (0 : Int32)) = v ∧ ¬ (w3_1 q (1 : Int32)) = v ∧ ¬ (w3_1 q (2 : Int32)) = v ∧ ¬ (w3_1 q (3 : Int32)) = v ∧ ¬ (w3_1 q (4 : Int32)) = v ∧ ¬ (w3_1 q (5 : Int32)) = v ∧ ¬ (w3_1 q (6 : Int32)) = v := by
  refine ⟨trivial, fun a0 => ?_, fun a1 => ?_, fun a2 => ?_, fun a3 => ?_, fun a4 => ?_, fun a5 => ?_, fun a6 => ?_⟩
  · have e : w3_r2 q (0 : Int32) v = 1 := by unfold w3_r2; exact if_pos a0
    apply h
    unfold w4_r1
    rw [e, if_neg (by decide : ¬ (1 : Int32) = 0)]
    repeat' split
    all_goals decide
  · have e : w3_r2 q (1 : Int32) v = 1 := by unfold w3_r2; exact if_pos a1
    apply h
    unfold w4_r1
    rw [e, if_neg (by decide : ¬ (1 : Int32) = 0)]
    repeat' split
    all_goals decide
  · have e : w3_r2 q (2 : Int32) v = 1 := by unfold w3_r2; exact if_pos a2
    apply h
    unfold w4_r1
    rw [e, if_neg (by decide : ¬ (1 : Int32) = 0)]
    repeat' split
    all_goals decide
  · have e : w3_r2 q (3 : Int32) v = 1 := by unfold w3_r2; exact if_pos a3
    apply h
    unfold w4_r1
    rw [e, if_neg (by decide : ¬ (1 : Int32) = 0)]
    repeat' split
    all_goals decide
  · have e : w3_r2 q (4 : Int32) v = 1 := by unfold w3_r2; exact if_pos a4
    apply h
    unfold w4_r1
    rw [e, if_neg (by decide : ¬ (1 : Int32) = 0)]
    repeat' split
    all_goals decide
  · have e : w3_r2 q (5 : Int32) v = 1 := by unfold w3_r2; exact if_pos a5
    apply h
    unfold w4_r1
    rw [e, if_neg (by decide : ¬ (1 : Int32) = 0)]
    repeat' split
    all_goals decide
  · have e : w3_r2 q (6 : Int32) v = 1 := by unfold w3_r2; exact if_pos a6
    apply h
    unfold w4_r1
    rw [e, if_neg (by decide : ¬ (1 : Int32) = 0)]
    repeat' split
    all_goals decide
theorem own_r7 (a b : Int64) : (w2_r1 a b) &&& (9187201950435737471 : Int64) = 0 := by
  unfold w2_r1
  rw [Int64.and_assoc, show (-9187201950435737472 : Int64) &&& (9187201950435737471 : Int64) = 0 from by decide, Int64.and_zero]
theorem plain_law (q0 : Int64) (p1 p2 : Int32) : w0_r21 q0 p1 p2 = 1 := by
  have hm := c_mask p1 255 8 (by decide) (by decide)
  have M := own_main (w0_8 q0 p1 p2) (p1 &&& 255) (by omega) (by omega)
  obtain ⟨a0, b0, a1, b1, a2, b2, a3, b3, a4, b4, a5, b5, a6, b6, a7, b7⟩ := M
  have z : w0_11 q0 p1 p2 = 0 := by unfold w0_11 w0_10; exact own_r7 _ _
  have r0 : w0_13 q0 p1 p2 = 1 := by unfold w0_13 w0_10 w0_12 w0_9; exact own_ok _ _ _ _ _ a0 (fun c g => b0  g)
  have r1 : w0_14 q0 p1 p2 = 1 := by unfold w0_14 w0_10 w0_12 w0_9; exact own_ok _ _ _ _ _ a1 (fun c g => b1 (own_first1 _ _ c).2 g)
  have r2 : w0_15 q0 p1 p2 = 1 := by unfold w0_15 w0_10 w0_12 w0_9; exact own_ok _ _ _ _ _ a2 (fun c g => b2 (own_first2 _ _ c).2.1 (own_first2 _ _ c).2.2 g)
  have r3 : w0_16 q0 p1 p2 = 1 := by unfold w0_16 w0_10 w0_12 w0_9; exact own_ok _ _ _ _ _ a3 (fun c g => b3 (own_first3 _ _ c).2.1 (own_first3 _ _ c).2.2.1 (own_first3 _ _ c).2.2.2 g)
  have r4 : w0_17 q0 p1 p2 = 1 := by unfold w0_17 w0_10 w0_12 w0_9; exact own_ok _ _ _ _ _ a4 (fun c g => b4 (own_first4 _ _ c).2.1 (own_first4 _ _ c).2.2.1 (own_first4 _ _ c).2.2.2.1 (own_first4 _ _ c).2.2.2.2 g)
  have r5 : w0_18 q0 p1 p2 = 1 := by unfold w0_18 w0_10 w0_12 w0_9; exact own_ok _ _ _ _ _ a5 (fun c g => b5 (own_first5 _ _ c).2.1 (own_first5 _ _ c).2.2.1 (own_first5 _ _ c).2.2.2.1 (own_first5 _ _ c).2.2.2.2.1 (own_first5 _ _ c).2.2.2.2.2 g)
  have r6 : w0_19 q0 p1 p2 = 1 := by unfold w0_19 w0_10 w0_12 w0_9; exact own_ok _ _ _ _ _ a6 (fun c g => b6 (own_first6 _ _ c).2.1 (own_first6 _ _ c).2.2.1 (own_first6 _ _ c).2.2.2.1 (own_first6 _ _ c).2.2.2.2.1 (own_first6 _ _ c).2.2.2.2.2.1 (own_first6 _ _ c).2.2.2.2.2.2 g)
  have r7 : w0_20 q0 p1 p2 = 1 := by unfold w0_20 w0_10 w0_12 w0_9; exact own_ok _ _ _ _ _ a7 (fun c g => b7 (own_first7 _ _ c).2.1 (own_first7 _ _ c).2.2.1 (own_first7 _ _ c).2.2.2.1 (own_first7 _ _ c).2.2.2.2.1 (own_first7 _ _ c).2.2.2.2.2.1 (own_first7 _ _ c).2.2.2.2.2.2.1 (own_first7 _ _ c).2.2.2.2.2.2.2 g)
  unfold w0_r21
  rw [z, r0, r1, r2, r3, r4, r5, r6, r7]
  decide

theorem d1_0 : decode method_3_code 0 = .ok (.iload 4, 2) := by decide +kernel
theorem d1_2 : decode method_3_code 2 = .ok (.iload_n 2, 1) := by decide +kernel
theorem d1_3 : decode method_3_code 3 = .ok (.iushr, 1) := by decide +kernel
theorem d1_4 : decode method_3_code 4 = .ok (.iconst 1, 1) := by decide +kernel
theorem d1_5 : decode method_3_code 5 = .ok (.iand, 1) := by decide +kernel
theorem d1_6 : decode method_3_code 6 = .ok (.ifCond .ne 5, 3) := by decide +kernel
theorem d1_9 : decode method_3_code 9 = .ok (.lload_n 0, 1) := by decide +kernel
theorem d1_10 : decode method_3_code 10 = .ok (.lreturn, 1) := by decide +kernel
theorem d1_11 : decode method_3_code 11 = .ok (.bipush 8, 2) := by decide +kernel
theorem d1_13 : decode method_3_code 13 = .ok (.iload_n 2, 1) := by decide +kernel
theorem d1_14 : decode method_3_code 14 = .ok (.imul, 1) := by decide +kernel
theorem d1_15 : decode method_3_code 15 = .ok (.istore 5, 2) := by decide +kernel
theorem d1_17 : decode method_3_code 17 = .ok (.lload_n 0, 1) := by decide +kernel
theorem d1_18 : decode method_3_code 18 = .ok (.ldc2_w 31, 3) := by decide +kernel
theorem d1_21 : decode method_3_code 21 = .ok (.iload 5, 2) := by decide +kernel
theorem d1_23 : decode method_3_code 23 = .ok (.lshl, 1) := by decide +kernel
theorem d1_24 : decode method_3_code 24 = .ok (.ldc2_w 33, 3) := by decide +kernel
theorem d1_27 : decode method_3_code 27 = .ok (.lxor, 1) := by decide +kernel
theorem d1_28 : decode method_3_code 28 = .ok (.land, 1) := by decide +kernel
theorem d1_29 : decode method_3_code 29 = .ok (.iload_n 3, 1) := by decide +kernel
theorem d1_30 : decode method_3_code 30 = .ok (.i2l, 1) := by decide +kernel
theorem d1_31 : decode method_3_code 31 = .ok (.iload 5, 2) := by decide +kernel
theorem d1_33 : decode method_3_code 33 = .ok (.lshl, 1) := by decide +kernel
theorem d1_34 : decode method_3_code 34 = .ok (.lor, 1) := by decide +kernel
theorem d1_35 : decode method_3_code 35 = .ok (.lreturn, 1) := by decide +kernel
theorem pn1 : plainName "com/example/rota/rota/process/ByteWordsEqualPinLaw" = true := by first | (simp [plainName, overriddenIn]; done) | decide +kernel
theorem ef1 (m : MethodId) (q0 : Int64) (p1 : Int32) (p2 : Int32) (p3 : Int32) : entryFrame m #[(.long q0), (.int p1), (.int p2), (.int p3)] 6 = mkF m 0 #[.val (.long q0), .second, .val (.int p1), .val (.int p2), .val (.int p3), .unset] [] := by first | (simp [entryFrame, mkF, argsToLocals, Value.category]; done) | rfl
def Q1 (Z : State) (q0 : Int64) (p1 : Int32) (p2 : Int32) (p3 : Int32) (h0 : Heap) (n0 : Nat) (v : Option Value) (h : Heap) (L : List Loc) : Prop := v = some (.long (w1_r2 q0 p1 p2 p3)) ∧ Fr n0 L ∧ h = h0
set_option maxRecDepth 65536 in
set_option maxHeartbeats 40000000 in
theorem rm1 (l : Launch) (Z : State) (a0 : Array Value) (hw : ∀ d ∈ tables_1, d.before a0 Z = true) (ws : List Jvm.Cond) (q0 : Int64) (p1 : Int32) (p2 : Int32) (p3 : Int32) (h0 : Heap) (n0 : Nat) (Z0 : n0 ≤ h0.size) :
    MetFree l (⟨"com/example/rota/rota/process/ByteWordsEqualPinLaw", "place", "(JIII)J"⟩ : MethodName) (head1 (Jvm.Cond.code (⟨"com/example/rota/rota/process/ByteWordsEqualPinLaw", "place", "(JIII)J"⟩ : MethodName) method_3_code 6 (some .long) :: ws) ({ frames := 0, cells := 0, slots := 0, locals := 0 } : Room)) (fun a U => a = #[(.long q0), (.int p1), (.int p2), (.int p3)] ∧ Z.Warmed39 U.vm ∧ U.heap = h0) (fun _ _ _ _ _ => True) (fun _ U o U' => ∃ v L, o = .returned v ∧ Q1 Z q0 p1 p2 p3 h0 n0 v U'.heap L ∧ FrameEnd U o U' L ({ frames := 0, cells := 0, slots := 0, locals := 0 } : Room).cells ({ frames := 0, cells := 0, slots := 0, locals := 0 } : Room).slots) := by
  refine MetFree.of_bodySF (plainFor_of_name pn1) hisR ?_
  intro p e s m args below meth c s₁ Bd hml0 hP hK
  obtain ⟨rfl, hZ, hh⟩ := hP
  have hx := Bd.exec
  have hby := Bd.bytes
  have hml : c.maxLocals = 6 := hml0
  have hown : s.vm.findClass "com/example/rota/rota/process/ByteWordsEqualPinLaw" = some m.cls := findClass_of_methodNamed Bd.named
  have hnm := (name_of_methodNamed Bd.named Bd.method).1
  have X0 : Stand p l e ({ frames := 0, cells := 0, slots := 0, locals := 0 } : Room) s m #[(.long q0), (.int p1), (.int p2), (.int p3)] below meth c s₁ [] 0 0 := Stand.of_body Bd
  have e0 : s₁.heap = h0 := by rw [← hh, Bd.state]; rfl
  have N0 := Fr.nil n0
  obtain ⟨S0, hS0⟩ : ∃ S0, S0 = s₁.setTop (entryFrame m #[(.long q0), (.int p1), (.int p2), (.int p3)] 6) := ⟨_, rfl⟩
  have pre0 : ∀ t, Steps p.tables e below (s₁.setTop (mkF m 0 #[.val (.long q0), .second, .val (.int p1), .val (.int p2), .val (.int p3), .unset] [])) t → Steps p.tables e below S0 t := fun t k => by rw [hS0]; exact castTop (ef1 m q0 p1 p2 p3) k
  have K1 : ∀ t, Steps p.tables e below (s₁.setTop (mkF m 6 #[.val (.long q0), .second, .val (.int p1), .val (.int p2), .val (.int p3), .unset] [(.int (((p3.toUInt32 >>> (p1 &&& 31).toUInt32).toInt32) &&& (1 : Int32)))])) t → Steps p.tables e below S0 t := fun t k => pre0 t (by
    refine XS.iload X0.here hx rfl (hb hby d1_0) rfl ?_
    show Steps p.tables e below (s₁.setTop (mkF m 2 #[.val (.long q0), .second, .val (.int p1), .val (.int p2), .val (.int p3), .unset] [(.int p3)])) _
    refine XS.iloadN X0.here hx rfl (hb hby d1_2) rfl ?_
    show Steps p.tables e below (s₁.setTop (mkF m 3 #[.val (.long q0), .second, .val (.int p1), .val (.int p2), .val (.int p3), .unset] [(.int p1), (.int p3)])) _
    refine XS.iushr X0.here hx rfl (hb hby d1_3) rfl ?_
    show Steps p.tables e below (s₁.setTop (mkF m 4 #[.val (.long q0), .second, .val (.int p1), .val (.int p2), .val (.int p3), .unset] [(.int ((p3.toUInt32 >>> (p1 &&& 31).toUInt32).toInt32))])) _
    refine XS.iconst X0.here hx rfl (hb hby d1_4) ?_
    show Steps p.tables e below (s₁.setTop (mkF m 5 #[.val (.long q0), .second, .val (.int p1), .val (.int p2), .val (.int p3), .unset] [(.int (1 : Int32)), (.int ((p3.toUInt32 >>> (p1 &&& 31).toUInt32).toInt32))])) _
    refine XS.iand X0.here hx rfl (hb hby d1_5) rfl ?_
    show Steps p.tables e below (s₁.setTop (mkF m 6 #[.val (.long q0), .second, .val (.int p1), .val (.int p2), .val (.int p3), .unset] [(.int (((p3.toUInt32 >>> (p1 &&& 31).toUInt32).toInt32) &&& (1 : Int32)))])) _
    exact k)
  by_cases hc6_0 : (w1_1 p1 p3) = (0 : Int32)
  · -- yes
    have K2 : ∀ t, Steps p.tables e below (s₁.setTop (mkF m 10 #[.val (.long q0), .second, .val (.int p1), .val (.int p2), .val (.int p3), .unset] [(.long q0)])) t → Steps p.tables e below S0 t := fun t k => K1 t (by
      refine XS.ifNo X0.here hx rfl (hb hby d1_6) rfl (XT.i0_ne_f hc6_0) ?_
      show Steps p.tables e below (s₁.setTop (mkF m 9 #[.val (.long q0), .second, .val (.int p1), .val (.int p2), .val (.int p3), .unset] [])) _
      refine XS.lloadN X0.here hx rfl (hb hby d1_9) rfl ?_
      show Steps p.tables e below (s₁.setTop (mkF m 10 #[.val (.long q0), .second, .val (.int p1), .val (.int p2), .val (.int p3), .unset] [(.long q0)])) _
      exact k)
    obtain ⟨fs, hr, hrun, hended, hW, hsame⟩ := X0.leave (v := some (.long q0)) (fun h => by rw [Bd.returns] at h; cases h)
    refine ⟨_, _, ?_, hrun, hended, _, _, rfl, ?_, ⟨_, rfl⟩, hW, hsame.mono (by decide) (by decide)⟩
    · rw [← hS0]; exact K2 _ (retOut X0 hx Bd.returns rfl (Or.inr (Or.inl ⟨rfl, rfl, _, rfl⟩)) (hb hby d1_10) hr)
    · show Q1 Z q0 p1 p2 p3 h0 n0 _ s₁.heap _
      rw [e0]
      have qr : q0 = (w1_r2 q0 p1 p2 p3) := by unfold w1_r2; rw [if_pos hc6_0]
      exact ⟨congrArg (fun z => some (Value.long z)) qr, N0, rfl⟩
  · -- no
    have K3 : ∀ t, Steps p.tables e below (s₁.setTop (mkF m 35 #[.val (.long q0), .second, .val (.int p1), .val (.int p2), .val (.int p3), .val (.int ((8 : Int32) * p1))] [(.long ((q0 &&& (((255 : Int64) <<< (((8 : Int32) * p1) &&& 0x3f).toInt64) ^^^ (-1 : Int64))) ||| ((p2.toInt64) <<< (((8 : Int32) * p1) &&& 0x3f).toInt64)))])) t → Steps p.tables e below S0 t := fun t k => K1 t (by
      refine XS.ifYes X0.here hx rfl (pc0 := 6) (pc' := 11) rfl (hb hby d1_6) rfl (XT.i0_ne_t hc6_0) (by decide) (by decide) ?_
      show Steps p.tables e below (s₁.setTop (mkF m 11 #[.val (.long q0), .second, .val (.int p1), .val (.int p2), .val (.int p3), .unset] [])) _
      refine XS.bipush X0.here hx rfl (hb hby d1_11) ?_
      show Steps p.tables e below (s₁.setTop (mkF m 13 #[.val (.long q0), .second, .val (.int p1), .val (.int p2), .val (.int p3), .unset] [(.int (8 : Int32))])) _
      refine XS.iloadN X0.here hx rfl (hb hby d1_13) rfl ?_
      show Steps p.tables e below (s₁.setTop (mkF m 14 #[.val (.long q0), .second, .val (.int p1), .val (.int p2), .val (.int p3), .unset] [(.int p1), (.int (8 : Int32))])) _
      refine XS.imul X0.here hx rfl (hb hby d1_14) rfl ?_
      show Steps p.tables e below (s₁.setTop (mkF m 15 #[.val (.long q0), .second, .val (.int p1), .val (.int p2), .val (.int p3), .unset] [(.int ((8 : Int32) * p1))])) _
      refine XS.istore X0.here hx rfl (hb hby d1_15) rfl (l' := #[.val (.long q0), .second, .val (.int p1), .val (.int p2), .val (.int p3), .val (.int ((8 : Int32) * p1))]) rfl ?_
      show Steps p.tables e below (s₁.setTop (mkF m 17 #[.val (.long q0), .second, .val (.int p1), .val (.int p2), .val (.int p3), .val (.int ((8 : Int32) * p1))] [])) _
      refine XS.lloadN X0.here hx rfl (hb hby d1_17) rfl ?_
      show Steps p.tables e below (s₁.setTop (mkF m 18 #[.val (.long q0), .second, .val (.int p1), .val (.int p2), .val (.int p3), .val (.int ((8 : Int32) * p1))] [(.long q0)])) _
      refine X0.ldc2Long hx hown (mvT hZ (hw _ (List.mem_of_getElem? (i := 4) rfl))) (g := (mkF m 18 #[.val (.long q0), .second, .val (.int p1), .val (.int p2), .val (.int p3), .val (.int ((8 : Int32) * p1))] [(.long q0)])) rfl (hb hby d1_18) _ ?_
      show Steps p.tables e below (s₁.setTop (mkF m 21 #[.val (.long q0), .second, .val (.int p1), .val (.int p2), .val (.int p3), .val (.int ((8 : Int32) * p1))] [(.long (255 : Int64)), (.long q0)])) _
      refine XS.iload X0.here hx rfl (hb hby d1_21) rfl ?_
      show Steps p.tables e below (s₁.setTop (mkF m 23 #[.val (.long q0), .second, .val (.int p1), .val (.int p2), .val (.int p3), .val (.int ((8 : Int32) * p1))] [(.int ((8 : Int32) * p1)), (.long (255 : Int64)), (.long q0)])) _
      refine XS.lshl X0.here hx rfl (hb hby d1_23) rfl ?_
      show Steps p.tables e below (s₁.setTop (mkF m 24 #[.val (.long q0), .second, .val (.int p1), .val (.int p2), .val (.int p3), .val (.int ((8 : Int32) * p1))] [(.long ((255 : Int64) <<< (((8 : Int32) * p1) &&& 0x3f).toInt64)), (.long q0)])) _
      refine X0.ldc2Long hx hown (mvT hZ (hw _ (List.mem_of_getElem? (i := 5) rfl))) (g := (mkF m 24 #[.val (.long q0), .second, .val (.int p1), .val (.int p2), .val (.int p3), .val (.int ((8 : Int32) * p1))] [(.long ((255 : Int64) <<< (((8 : Int32) * p1) &&& 0x3f).toInt64)), (.long q0)])) rfl (hb hby d1_24) _ ?_
      show Steps p.tables e below (s₁.setTop (mkF m 27 #[.val (.long q0), .second, .val (.int p1), .val (.int p2), .val (.int p3), .val (.int ((8 : Int32) * p1))] [(.long (-1 : Int64)), (.long ((255 : Int64) <<< (((8 : Int32) * p1) &&& 0x3f).toInt64)), (.long q0)])) _
      refine XS.lxor X0.here hx rfl (hb hby d1_27) rfl ?_
      show Steps p.tables e below (s₁.setTop (mkF m 28 #[.val (.long q0), .second, .val (.int p1), .val (.int p2), .val (.int p3), .val (.int ((8 : Int32) * p1))] [(.long (((255 : Int64) <<< (((8 : Int32) * p1) &&& 0x3f).toInt64) ^^^ (-1 : Int64))), (.long q0)])) _
      refine XS.land X0.here hx rfl (hb hby d1_28) rfl ?_
      show Steps p.tables e below (s₁.setTop (mkF m 29 #[.val (.long q0), .second, .val (.int p1), .val (.int p2), .val (.int p3), .val (.int ((8 : Int32) * p1))] [(.long (q0 &&& (((255 : Int64) <<< (((8 : Int32) * p1) &&& 0x3f).toInt64) ^^^ (-1 : Int64))))])) _
      refine XS.iloadN X0.here hx rfl (hb hby d1_29) rfl ?_
      show Steps p.tables e below (s₁.setTop (mkF m 30 #[.val (.long q0), .second, .val (.int p1), .val (.int p2), .val (.int p3), .val (.int ((8 : Int32) * p1))] [(.int p2), (.long (q0 &&& (((255 : Int64) <<< (((8 : Int32) * p1) &&& 0x3f).toInt64) ^^^ (-1 : Int64))))])) _
      refine XS.i2l X0.here hx rfl (hb hby d1_30) rfl ?_
      show Steps p.tables e below (s₁.setTop (mkF m 31 #[.val (.long q0), .second, .val (.int p1), .val (.int p2), .val (.int p3), .val (.int ((8 : Int32) * p1))] [(.long (p2.toInt64)), (.long (q0 &&& (((255 : Int64) <<< (((8 : Int32) * p1) &&& 0x3f).toInt64) ^^^ (-1 : Int64))))])) _
      refine XS.iload X0.here hx rfl (hb hby d1_31) rfl ?_
      show Steps p.tables e below (s₁.setTop (mkF m 33 #[.val (.long q0), .second, .val (.int p1), .val (.int p2), .val (.int p3), .val (.int ((8 : Int32) * p1))] [(.int ((8 : Int32) * p1)), (.long (p2.toInt64)), (.long (q0 &&& (((255 : Int64) <<< (((8 : Int32) * p1) &&& 0x3f).toInt64) ^^^ (-1 : Int64))))])) _
      refine XS.lshl X0.here hx rfl (hb hby d1_33) rfl ?_
      show Steps p.tables e below (s₁.setTop (mkF m 34 #[.val (.long q0), .second, .val (.int p1), .val (.int p2), .val (.int p3), .val (.int ((8 : Int32) * p1))] [(.long ((p2.toInt64) <<< (((8 : Int32) * p1) &&& 0x3f).toInt64)), (.long (q0 &&& (((255 : Int64) <<< (((8 : Int32) * p1) &&& 0x3f).toInt64) ^^^ (-1 : Int64))))])) _
      refine XS.lor X0.here hx rfl (hb hby d1_34) rfl ?_
      show Steps p.tables e below (s₁.setTop (mkF m 35 #[.val (.long q0), .second, .val (.int p1), .val (.int p2), .val (.int p3), .val (.int ((8 : Int32) * p1))] [(.long ((q0 &&& (((255 : Int64) <<< (((8 : Int32) * p1) &&& 0x3f).toInt64) ^^^ (-1 : Int64))) ||| ((p2.toInt64) <<< (((8 : Int32) * p1) &&& 0x3f).toInt64)))])) _
      exact k)
    obtain ⟨fs, hr, hrun, hended, hW, hsame⟩ := X0.leave (v := some (.long ((q0 &&& (((255 : Int64) <<< (((8 : Int32) * p1) &&& 0x3f).toInt64) ^^^ (-1 : Int64))) ||| ((p2.toInt64) <<< (((8 : Int32) * p1) &&& 0x3f).toInt64)))) (fun h => by rw [Bd.returns] at h; cases h)
    refine ⟨_, _, ?_, hrun, hended, _, _, rfl, ?_, ⟨_, rfl⟩, hW, hsame.mono (by decide) (by decide)⟩
    · rw [← hS0]; exact K3 _ (retOut X0 hx Bd.returns rfl (Or.inr (Or.inl ⟨rfl, rfl, _, rfl⟩)) (hb hby d1_35) hr)
    · show Q1 Z q0 p1 p2 p3 h0 n0 _ s₁.heap _
      rw [e0]
      have qr : ((q0 &&& (((255 : Int64) <<< (((8 : Int32) * p1) &&& 0x3f).toInt64) ^^^ (-1 : Int64))) ||| ((p2.toInt64) <<< (((8 : Int32) * p1) &&& 0x3f).toInt64)) = (w1_r2 q0 p1 p2 p3) := by unfold w1_r2; rw [if_neg hc6_0]
      exact ⟨congrArg (fun z => some (Value.long z)) qr, N0, rfl⟩
theorem d2_0 : decode prog_20_method_4_code 0 = .ok (.lload_n 0, 1) := by decide +kernel
theorem d2_1 : decode prog_20_method_4_code 1 = .ok (.lload_n 2, 1) := by decide +kernel
theorem d2_2 : decode prog_20_method_4_code 2 = .ok (.lxor, 1) := by decide +kernel
theorem d2_3 : decode prog_20_method_4_code 3 = .ok (.lstore 4, 2) := by decide +kernel
theorem d2_5 : decode prog_20_method_4_code 5 = .ok (.lload 4, 2) := by decide +kernel
theorem d2_7 : decode prog_20_method_4_code 7 = .ok (.ldc2_w 21, 3) := by decide +kernel
theorem d2_10 : decode prog_20_method_4_code 10 = .ok (.lsub, 1) := by decide +kernel
theorem d2_11 : decode prog_20_method_4_code 11 = .ok (.lload 4, 2) := by decide +kernel
theorem d2_13 : decode prog_20_method_4_code 13 = .ok (.ldc2_w 23, 3) := by decide +kernel
theorem d2_16 : decode prog_20_method_4_code 16 = .ok (.lxor, 1) := by decide +kernel
theorem d2_17 : decode prog_20_method_4_code 17 = .ok (.land, 1) := by decide +kernel
theorem d2_18 : decode prog_20_method_4_code 18 = .ok (.ldc2_w 25, 3) := by decide +kernel
theorem d2_21 : decode prog_20_method_4_code 21 = .ok (.land, 1) := by decide +kernel
theorem d2_22 : decode prog_20_method_4_code 22 = .ok (.lreturn, 1) := by decide +kernel
theorem pn2 : plainName "com/example/rota/rota/process/ByteWords" = true := by first | (simp [plainName, overriddenIn]; done) | decide +kernel
theorem ef2 (m : MethodId) (q0 : Int64) (q1 : Int64) : entryFrame m #[(.long q0), (.long q1)] 6 = mkF m 0 #[.val (.long q0), .second, .val (.long q1), .second, .unset, .unset] [] := by first | (simp [entryFrame, mkF, argsToLocals, Value.category]; done) | rfl
def Q2 (Z : State) (q0 : Int64) (q1 : Int64) (h0 : Heap) (n0 : Nat) (v : Option Value) (h : Heap) (L : List Loc) : Prop := v = some (.long (w2_r1 q0 q1)) ∧ Fr n0 L ∧ h = h0
set_option maxRecDepth 65536 in
set_option maxHeartbeats 40000000 in
theorem rm2 (l : Launch) (Z : State) (a0 : Array Value) (hw : ∀ d ∈ tables_1, d.before a0 Z = true) (ws : List Jvm.Cond) (q0 : Int64) (q1 : Int64) (h0 : Heap) (n0 : Nat) (Z0 : n0 ≤ h0.size) :
    MetFree l (⟨"com/example/rota/rota/process/ByteWords", "equal", "(JJ)J"⟩ : MethodName) (head1 (Jvm.Cond.code (⟨"com/example/rota/rota/process/ByteWords", "equal", "(JJ)J"⟩ : MethodName) prog_20_method_4_code 6 (some .long) :: ws) ({ frames := 0, cells := 0, slots := 0, locals := 0 } : Room)) (fun a U => a = #[(.long q0), (.long q1)] ∧ Z.Warmed39 U.vm ∧ U.heap = h0) (fun _ _ _ _ _ => True) (fun _ U o U' => ∃ v L, o = .returned v ∧ Q2 Z q0 q1 h0 n0 v U'.heap L ∧ FrameEnd U o U' L ({ frames := 0, cells := 0, slots := 0, locals := 0 } : Room).cells ({ frames := 0, cells := 0, slots := 0, locals := 0 } : Room).slots) := by
  refine MetFree.of_bodySF (plainFor_of_name pn2) hisR ?_
  intro p e s m args below meth c s₁ Bd hml0 hP hK
  obtain ⟨rfl, hZ, hh⟩ := hP
  have hx := Bd.exec
  have hby := Bd.bytes
  have hml : c.maxLocals = 6 := hml0
  have hown : s.vm.findClass "com/example/rota/rota/process/ByteWords" = some m.cls := findClass_of_methodNamed Bd.named
  have hnm := (name_of_methodNamed Bd.named Bd.method).1
  have X0 : Stand p l e ({ frames := 0, cells := 0, slots := 0, locals := 0 } : Room) s m #[(.long q0), (.long q1)] below meth c s₁ [] 0 0 := Stand.of_body Bd
  have e0 : s₁.heap = h0 := by rw [← hh, Bd.state]; rfl
  have N0 := Fr.nil n0
  obtain ⟨S0, hS0⟩ : ∃ S0, S0 = s₁.setTop (entryFrame m #[(.long q0), (.long q1)] 6) := ⟨_, rfl⟩
  have pre0 : ∀ t, Steps p.tables e below (s₁.setTop (mkF m 0 #[.val (.long q0), .second, .val (.long q1), .second, .unset, .unset] [])) t → Steps p.tables e below S0 t := fun t k => by rw [hS0]; exact castTop (ef2 m q0 q1) k
  have K1 : ∀ t, Steps p.tables e below (s₁.setTop (mkF m 22 #[.val (.long q0), .second, .val (.long q1), .second, .val (.long (q0 ^^^ q1)), .second] [(.long ((((q0 ^^^ q1) - (72340172838076673 : Int64)) &&& ((q0 ^^^ q1) ^^^ (-1 : Int64))) &&& (-9187201950435737472 : Int64)))])) t → Steps p.tables e below S0 t := fun t k => pre0 t (by
    refine XS.lloadN X0.here hx rfl (hb hby d2_0) rfl ?_
    show Steps p.tables e below (s₁.setTop (mkF m 1 #[.val (.long q0), .second, .val (.long q1), .second, .unset, .unset] [(.long q0)])) _
    refine XS.lloadN X0.here hx rfl (hb hby d2_1) rfl ?_
    show Steps p.tables e below (s₁.setTop (mkF m 2 #[.val (.long q0), .second, .val (.long q1), .second, .unset, .unset] [(.long q1), (.long q0)])) _
    refine XS.lxor X0.here hx rfl (hb hby d2_2) rfl ?_
    show Steps p.tables e below (s₁.setTop (mkF m 3 #[.val (.long q0), .second, .val (.long q1), .second, .unset, .unset] [(.long (q0 ^^^ q1))])) _
    refine XS.lstore X0.here hx rfl (hb hby d2_3) rfl (l' := #[.val (.long q0), .second, .val (.long q1), .second, .val (.long (q0 ^^^ q1)), .second]) rfl ?_
    show Steps p.tables e below (s₁.setTop (mkF m 5 #[.val (.long q0), .second, .val (.long q1), .second, .val (.long (q0 ^^^ q1)), .second] [])) _
    refine XS.lload X0.here hx rfl (hb hby d2_5) rfl ?_
    show Steps p.tables e below (s₁.setTop (mkF m 7 #[.val (.long q0), .second, .val (.long q1), .second, .val (.long (q0 ^^^ q1)), .second] [(.long (q0 ^^^ q1))])) _
    refine X0.ldc2Long hx hown (mvT hZ (hw _ (List.mem_of_getElem? (i := 11) rfl))) (g := (mkF m 7 #[.val (.long q0), .second, .val (.long q1), .second, .val (.long (q0 ^^^ q1)), .second] [(.long (q0 ^^^ q1))])) rfl (hb hby d2_7) _ ?_
    show Steps p.tables e below (s₁.setTop (mkF m 10 #[.val (.long q0), .second, .val (.long q1), .second, .val (.long (q0 ^^^ q1)), .second] [(.long (72340172838076673 : Int64)), (.long (q0 ^^^ q1))])) _
    refine XS.lsub X0.here hx rfl (hb hby d2_10) rfl ?_
    show Steps p.tables e below (s₁.setTop (mkF m 11 #[.val (.long q0), .second, .val (.long q1), .second, .val (.long (q0 ^^^ q1)), .second] [(.long ((q0 ^^^ q1) - (72340172838076673 : Int64)))])) _
    refine XS.lload X0.here hx rfl (hb hby d2_11) rfl ?_
    show Steps p.tables e below (s₁.setTop (mkF m 13 #[.val (.long q0), .second, .val (.long q1), .second, .val (.long (q0 ^^^ q1)), .second] [(.long (q0 ^^^ q1)), (.long ((q0 ^^^ q1) - (72340172838076673 : Int64)))])) _
    refine X0.ldc2Long hx hown (mvT hZ (hw _ (List.mem_of_getElem? (i := 12) rfl))) (g := (mkF m 13 #[.val (.long q0), .second, .val (.long q1), .second, .val (.long (q0 ^^^ q1)), .second] [(.long (q0 ^^^ q1)), (.long ((q0 ^^^ q1) - (72340172838076673 : Int64)))])) rfl (hb hby d2_13) _ ?_
    show Steps p.tables e below (s₁.setTop (mkF m 16 #[.val (.long q0), .second, .val (.long q1), .second, .val (.long (q0 ^^^ q1)), .second] [(.long (-1 : Int64)), (.long (q0 ^^^ q1)), (.long ((q0 ^^^ q1) - (72340172838076673 : Int64)))])) _
    refine XS.lxor X0.here hx rfl (hb hby d2_16) rfl ?_
    show Steps p.tables e below (s₁.setTop (mkF m 17 #[.val (.long q0), .second, .val (.long q1), .second, .val (.long (q0 ^^^ q1)), .second] [(.long ((q0 ^^^ q1) ^^^ (-1 : Int64))), (.long ((q0 ^^^ q1) - (72340172838076673 : Int64)))])) _
    refine XS.land X0.here hx rfl (hb hby d2_17) rfl ?_
    show Steps p.tables e below (s₁.setTop (mkF m 18 #[.val (.long q0), .second, .val (.long q1), .second, .val (.long (q0 ^^^ q1)), .second] [(.long (((q0 ^^^ q1) - (72340172838076673 : Int64)) &&& ((q0 ^^^ q1) ^^^ (-1 : Int64))))])) _
    refine X0.ldc2Long hx hown (mvT hZ (hw _ (List.mem_of_getElem? (i := 13) rfl))) (g := (mkF m 18 #[.val (.long q0), .second, .val (.long q1), .second, .val (.long (q0 ^^^ q1)), .second] [(.long (((q0 ^^^ q1) - (72340172838076673 : Int64)) &&& ((q0 ^^^ q1) ^^^ (-1 : Int64))))])) rfl (hb hby d2_18) _ ?_
    show Steps p.tables e below (s₁.setTop (mkF m 21 #[.val (.long q0), .second, .val (.long q1), .second, .val (.long (q0 ^^^ q1)), .second] [(.long (-9187201950435737472 : Int64)), (.long (((q0 ^^^ q1) - (72340172838076673 : Int64)) &&& ((q0 ^^^ q1) ^^^ (-1 : Int64))))])) _
    refine XS.land X0.here hx rfl (hb hby d2_21) rfl ?_
    show Steps p.tables e below (s₁.setTop (mkF m 22 #[.val (.long q0), .second, .val (.long q1), .second, .val (.long (q0 ^^^ q1)), .second] [(.long ((((q0 ^^^ q1) - (72340172838076673 : Int64)) &&& ((q0 ^^^ q1) ^^^ (-1 : Int64))) &&& (-9187201950435737472 : Int64)))])) _
    exact k)
  obtain ⟨fs, hr, hrun, hended, hW, hsame⟩ := X0.leave (v := some (.long ((((q0 ^^^ q1) - (72340172838076673 : Int64)) &&& ((q0 ^^^ q1) ^^^ (-1 : Int64))) &&& (-9187201950435737472 : Int64)))) (fun h => by rw [Bd.returns] at h; cases h)
  refine ⟨_, _, ?_, hrun, hended, _, _, rfl, ?_, ⟨_, rfl⟩, hW, hsame.mono (by decide) (by decide)⟩
  · rw [← hS0]; exact K1 _ (retOut X0 hx Bd.returns rfl (Or.inr (Or.inl ⟨rfl, rfl, _, rfl⟩)) (hb hby d2_22) hr)
  · show Q2 Z q0 q1 h0 n0 _ s₁.heap _
    rw [e0]
    have qr : ((((q0 ^^^ q1) - (72340172838076673 : Int64)) &&& ((q0 ^^^ q1) ^^^ (-1 : Int64))) &&& (-9187201950435737472 : Int64)) = (w2_r1 q0 q1) := rfl
    exact ⟨congrArg (fun z => some (Value.long z)) qr, N0, rfl⟩
theorem d3_0 : decode method_4_code 0 = .ok (.lload_n 0, 1) := by decide +kernel
theorem d3_1 : decode method_4_code 1 = .ok (.bipush 8, 2) := by decide +kernel
theorem d3_3 : decode method_4_code 3 = .ok (.iload_n 2, 1) := by decide +kernel
theorem d3_4 : decode method_4_code 4 = .ok (.imul, 1) := by decide +kernel
theorem d3_5 : decode method_4_code 5 = .ok (.lushr, 1) := by decide +kernel
theorem d3_6 : decode method_4_code 6 = .ok (.ldc2_w 31, 3) := by decide +kernel
theorem d3_9 : decode method_4_code 9 = .ok (.land, 1) := by decide +kernel
theorem d3_10 : decode method_4_code 10 = .ok (.l2i, 1) := by decide +kernel
theorem d3_11 : decode method_4_code 11 = .ok (.iload_n 3, 1) := by decide +kernel
theorem d3_12 : decode method_4_code 12 = .ok (.if_icmp .ne 7, 3) := by decide +kernel
theorem d3_15 : decode method_4_code 15 = .ok (.iconst 1, 1) := by decide +kernel
theorem d3_16 : decode method_4_code 16 = .ok (.goto 4, 3) := by decide +kernel
theorem d3_19 : decode method_4_code 19 = .ok (.iconst 0, 1) := by decide +kernel
theorem d3_20 : decode method_4_code 20 = .ok (.ireturn, 1) := by decide +kernel
theorem pn3 : plainName "com/example/rota/rota/process/ByteWordsEqualPinLaw" = true := by first | (simp [plainName, overriddenIn]; done) | decide +kernel
theorem ef3 (m : MethodId) (q0 : Int64) (p1 : Int32) (p2 : Int32) : entryFrame m #[(.long q0), (.int p1), (.int p2)] 4 = mkF m 0 #[.val (.long q0), .second, .val (.int p1), .val (.int p2)] [] := by first | (simp [entryFrame, mkF, argsToLocals, Value.category]; done) | rfl
def Q3 (Z : State) (q0 : Int64) (p1 : Int32) (p2 : Int32) (h0 : Heap) (n0 : Nat) (v : Option Value) (h : Heap) (L : List Loc) : Prop := v = some (.int (w3_r2 q0 p1 p2)) ∧ Fr n0 L ∧ h = h0
set_option maxRecDepth 65536 in
set_option maxHeartbeats 40000000 in
theorem rm3 (l : Launch) (Z : State) (a0 : Array Value) (hw : ∀ d ∈ tables_1, d.before a0 Z = true) (ws : List Jvm.Cond) (q0 : Int64) (p1 : Int32) (p2 : Int32) (h0 : Heap) (n0 : Nat) (Z0 : n0 ≤ h0.size) :
    MetFree l (⟨"com/example/rota/rota/process/ByteWordsEqualPinLaw", "eqAt", "(JII)Z"⟩ : MethodName) (head1 (Jvm.Cond.code (⟨"com/example/rota/rota/process/ByteWordsEqualPinLaw", "eqAt", "(JII)Z"⟩ : MethodName) method_4_code 4 (some .boolean) :: ws) ({ frames := 0, cells := 0, slots := 0, locals := 0 } : Room)) (fun a U => a = #[(.long q0), (.int p1), (.int p2)] ∧ Z.Warmed39 U.vm ∧ U.heap = h0) (fun _ _ _ _ _ => True) (fun _ U o U' => ∃ v L, o = .returned v ∧ Q3 Z q0 p1 p2 h0 n0 v U'.heap L ∧ FrameEnd U o U' L ({ frames := 0, cells := 0, slots := 0, locals := 0 } : Room).cells ({ frames := 0, cells := 0, slots := 0, locals := 0 } : Room).slots) := by
  refine MetFree.of_bodySF (plainFor_of_name pn3) hisR ?_
  intro p e s m args below meth c s₁ Bd hml0 hP hK
  obtain ⟨rfl, hZ, hh⟩ := hP
  have hx := Bd.exec
  have hby := Bd.bytes
  have hml : c.maxLocals = 4 := hml0
  have hown : s.vm.findClass "com/example/rota/rota/process/ByteWordsEqualPinLaw" = some m.cls := findClass_of_methodNamed Bd.named
  have hnm := (name_of_methodNamed Bd.named Bd.method).1
  have X0 : Stand p l e ({ frames := 0, cells := 0, slots := 0, locals := 0 } : Room) s m #[(.long q0), (.int p1), (.int p2)] below meth c s₁ [] 0 0 := Stand.of_body Bd
  have e0 : s₁.heap = h0 := by rw [← hh, Bd.state]; rfl
  have N0 := Fr.nil n0
  obtain ⟨S0, hS0⟩ : ∃ S0, S0 = s₁.setTop (entryFrame m #[(.long q0), (.int p1), (.int p2)] 4) := ⟨_, rfl⟩
  have pre0 : ∀ t, Steps p.tables e below (s₁.setTop (mkF m 0 #[.val (.long q0), .second, .val (.int p1), .val (.int p2)] [])) t → Steps p.tables e below S0 t := fun t k => by rw [hS0]; exact castTop (ef3 m q0 p1 p2) k
  have K1 : ∀ t, Steps p.tables e below (s₁.setTop (mkF m 12 #[.val (.long q0), .second, .val (.int p1), .val (.int p2)] [(.int p2), (.int ((((q0.toUInt64 >>> (((8 : Int32) * p1) &&& 0x3f).toInt64.toUInt64).toInt64) &&& (255 : Int64)).toInt32))])) t → Steps p.tables e below S0 t := fun t k => pre0 t (by
    refine XS.lloadN X0.here hx rfl (hb hby d3_0) rfl ?_
    show Steps p.tables e below (s₁.setTop (mkF m 1 #[.val (.long q0), .second, .val (.int p1), .val (.int p2)] [(.long q0)])) _
    refine XS.bipush X0.here hx rfl (hb hby d3_1) ?_
    show Steps p.tables e below (s₁.setTop (mkF m 3 #[.val (.long q0), .second, .val (.int p1), .val (.int p2)] [(.int (8 : Int32)), (.long q0)])) _
    refine XS.iloadN X0.here hx rfl (hb hby d3_3) rfl ?_
    show Steps p.tables e below (s₁.setTop (mkF m 4 #[.val (.long q0), .second, .val (.int p1), .val (.int p2)] [(.int p1), (.int (8 : Int32)), (.long q0)])) _
    refine XS.imul X0.here hx rfl (hb hby d3_4) rfl ?_
    show Steps p.tables e below (s₁.setTop (mkF m 5 #[.val (.long q0), .second, .val (.int p1), .val (.int p2)] [(.int ((8 : Int32) * p1)), (.long q0)])) _
    refine XS.lushr X0.here hx rfl (hb hby d3_5) rfl ?_
    show Steps p.tables e below (s₁.setTop (mkF m 6 #[.val (.long q0), .second, .val (.int p1), .val (.int p2)] [(.long ((q0.toUInt64 >>> (((8 : Int32) * p1) &&& 0x3f).toInt64.toUInt64).toInt64))])) _
    refine X0.ldc2Long hx hown (mvT hZ (hw _ (List.mem_of_getElem? (i := 4) rfl))) (g := (mkF m 6 #[.val (.long q0), .second, .val (.int p1), .val (.int p2)] [(.long ((q0.toUInt64 >>> (((8 : Int32) * p1) &&& 0x3f).toInt64.toUInt64).toInt64))])) rfl (hb hby d3_6) _ ?_
    show Steps p.tables e below (s₁.setTop (mkF m 9 #[.val (.long q0), .second, .val (.int p1), .val (.int p2)] [(.long (255 : Int64)), (.long ((q0.toUInt64 >>> (((8 : Int32) * p1) &&& 0x3f).toInt64.toUInt64).toInt64))])) _
    refine XS.land X0.here hx rfl (hb hby d3_9) rfl ?_
    show Steps p.tables e below (s₁.setTop (mkF m 10 #[.val (.long q0), .second, .val (.int p1), .val (.int p2)] [(.long (((q0.toUInt64 >>> (((8 : Int32) * p1) &&& 0x3f).toInt64.toUInt64).toInt64) &&& (255 : Int64)))])) _
    refine XS.l2i X0.here hx rfl (hb hby d3_10) rfl ?_
    show Steps p.tables e below (s₁.setTop (mkF m 11 #[.val (.long q0), .second, .val (.int p1), .val (.int p2)] [(.int ((((q0.toUInt64 >>> (((8 : Int32) * p1) &&& 0x3f).toInt64.toUInt64).toInt64) &&& (255 : Int64)).toInt32))])) _
    refine XS.iloadN X0.here hx rfl (hb hby d3_11) rfl ?_
    show Steps p.tables e below (s₁.setTop (mkF m 12 #[.val (.long q0), .second, .val (.int p1), .val (.int p2)] [(.int p2), (.int ((((q0.toUInt64 >>> (((8 : Int32) * p1) &&& 0x3f).toInt64.toUInt64).toInt64) &&& (255 : Int64)).toInt32))])) _
    exact k)
  by_cases hc12_0 : (w3_1 q0 p1) = p2
  · -- yes
    have K2 : ∀ t, Steps p.tables e below (s₁.setTop (mkF m 20 #[.val (.long q0), .second, .val (.int p1), .val (.int p2)] [(.int (1 : Int32))])) t → Steps p.tables e below S0 t := fun t k => K1 t (by
      refine XS.icmpNo X0.here hx rfl (hb hby d3_12) rfl (XT.ii_ne_f hc12_0) ?_
      show Steps p.tables e below (s₁.setTop (mkF m 15 #[.val (.long q0), .second, .val (.int p1), .val (.int p2)] [])) _
      refine XS.iconst X0.here hx rfl (hb hby d3_15) ?_
      show Steps p.tables e below (s₁.setTop (mkF m 16 #[.val (.long q0), .second, .val (.int p1), .val (.int p2)] [(.int (1 : Int32))])) _
      refine XS.goto X0.here hx rfl (pc0 := 16) (pc' := 20) rfl (hb hby d3_16) (by decide) (by decide) ?_
      show Steps p.tables e below (s₁.setTop (mkF m 20 #[.val (.long q0), .second, .val (.int p1), .val (.int p2)] [(.int (1 : Int32))])) _
      exact k)
    obtain ⟨fs, hr, hrun, hended, hW, hsame⟩ := X0.leave (v := some (.int (1 : Int32))) (fun h => by rw [Bd.returns] at h; cases h)
    refine ⟨_, _, ?_, hrun, hended, _, _, rfl, ?_, ⟨_, rfl⟩, hW, hsame.mono (by decide) (by decide)⟩
    · rw [← hS0]; exact K2 _ (retN X0 hx (t := .boolean) Bd.returns (by simp) (hb hby d3_20) hr)
    · show Q3 Z q0 p1 p2 h0 n0 _ s₁.heap _
      rw [e0]
      have qr : (1 : Int32) = (w3_r2 q0 p1 p2) := by unfold w3_r2; rw [if_pos hc12_0]
      exact ⟨congrArg (fun z => some (Value.int z)) qr, N0, rfl⟩
  · -- no
    have K3 : ∀ t, Steps p.tables e below (s₁.setTop (mkF m 20 #[.val (.long q0), .second, .val (.int p1), .val (.int p2)] [(.int (0 : Int32))])) t → Steps p.tables e below S0 t := fun t k => K1 t (by
      refine XS.icmpYes X0.here hx rfl (pc0 := 12) (pc' := 19) rfl (hb hby d3_12) rfl (XT.ii_ne_t hc12_0) (by decide) (by decide) ?_
      show Steps p.tables e below (s₁.setTop (mkF m 19 #[.val (.long q0), .second, .val (.int p1), .val (.int p2)] [])) _
      refine XS.iconst X0.here hx rfl (hb hby d3_19) ?_
      show Steps p.tables e below (s₁.setTop (mkF m 20 #[.val (.long q0), .second, .val (.int p1), .val (.int p2)] [(.int (0 : Int32))])) _
      exact k)
    obtain ⟨fs, hr, hrun, hended, hW, hsame⟩ := X0.leave (v := some (.int (0 : Int32))) (fun h => by rw [Bd.returns] at h; cases h)
    refine ⟨_, _, ?_, hrun, hended, _, _, rfl, ?_, ⟨_, rfl⟩, hW, hsame.mono (by decide) (by decide)⟩
    · rw [← hS0]; exact K3 _ (retN X0 hx (t := .boolean) Bd.returns (by simp) (hb hby d3_20) hr)
    · show Q3 Z q0 p1 p2 h0 n0 _ s₁.heap _
      rw [e0]
      have qr : (0 : Int32) = (w3_r2 q0 p1 p2) := by unfold w3_r2; rw [if_neg hc12_0]
      exact ⟨congrArg (fun z => some (Value.int z)) qr, N0, rfl⟩
theorem d4_0 : decode method_6_code 0 = .ok (.lload_n 0, 1) := by decide +kernel
theorem d4_1 : decode method_6_code 1 = .ok (.iconst 0, 1) := by decide +kernel
theorem d4_2 : decode method_6_code 2 = .ok (.iload_n 2, 1) := by decide +kernel
theorem d4_3 : decode method_6_code 3 = .ok (.invokestatic 35, 3) := by decide +kernel
theorem d4_6 : decode method_6_code 6 = .ok (.ifCond .eq 5, 3) := by decide +kernel
theorem d4_9 : decode method_6_code 9 = .ok (.iconst 0, 1) := by decide +kernel
theorem d4_10 : decode method_6_code 10 = .ok (.ireturn, 1) := by decide +kernel
theorem d4_11 : decode method_6_code 11 = .ok (.lload_n 0, 1) := by decide +kernel
theorem d4_12 : decode method_6_code 12 = .ok (.iconst 1, 1) := by decide +kernel
theorem d4_13 : decode method_6_code 13 = .ok (.iload_n 2, 1) := by decide +kernel
theorem d4_14 : decode method_6_code 14 = .ok (.invokestatic 35, 3) := by decide +kernel
theorem d4_17 : decode method_6_code 17 = .ok (.ifCond .eq 5, 3) := by decide +kernel
theorem d4_20 : decode method_6_code 20 = .ok (.iconst 1, 1) := by decide +kernel
theorem d4_21 : decode method_6_code 21 = .ok (.ireturn, 1) := by decide +kernel
theorem d4_22 : decode method_6_code 22 = .ok (.lload_n 0, 1) := by decide +kernel
theorem d4_23 : decode method_6_code 23 = .ok (.iconst 2, 1) := by decide +kernel
theorem d4_24 : decode method_6_code 24 = .ok (.iload_n 2, 1) := by decide +kernel
theorem d4_25 : decode method_6_code 25 = .ok (.invokestatic 35, 3) := by decide +kernel
theorem d4_28 : decode method_6_code 28 = .ok (.ifCond .eq 5, 3) := by decide +kernel
theorem d4_31 : decode method_6_code 31 = .ok (.iconst 2, 1) := by decide +kernel
theorem d4_32 : decode method_6_code 32 = .ok (.ireturn, 1) := by decide +kernel
theorem d4_33 : decode method_6_code 33 = .ok (.lload_n 0, 1) := by decide +kernel
theorem d4_34 : decode method_6_code 34 = .ok (.iconst 3, 1) := by decide +kernel
theorem d4_35 : decode method_6_code 35 = .ok (.iload_n 2, 1) := by decide +kernel
theorem d4_36 : decode method_6_code 36 = .ok (.invokestatic 35, 3) := by decide +kernel
theorem d4_39 : decode method_6_code 39 = .ok (.ifCond .eq 5, 3) := by decide +kernel
theorem d4_42 : decode method_6_code 42 = .ok (.iconst 3, 1) := by decide +kernel
theorem d4_43 : decode method_6_code 43 = .ok (.ireturn, 1) := by decide +kernel
theorem d4_44 : decode method_6_code 44 = .ok (.lload_n 0, 1) := by decide +kernel
theorem d4_45 : decode method_6_code 45 = .ok (.iconst 4, 1) := by decide +kernel
theorem d4_46 : decode method_6_code 46 = .ok (.iload_n 2, 1) := by decide +kernel
theorem d4_47 : decode method_6_code 47 = .ok (.invokestatic 35, 3) := by decide +kernel
theorem d4_50 : decode method_6_code 50 = .ok (.ifCond .eq 5, 3) := by decide +kernel
theorem d4_53 : decode method_6_code 53 = .ok (.iconst 4, 1) := by decide +kernel
theorem d4_54 : decode method_6_code 54 = .ok (.ireturn, 1) := by decide +kernel
theorem d4_55 : decode method_6_code 55 = .ok (.lload_n 0, 1) := by decide +kernel
theorem d4_56 : decode method_6_code 56 = .ok (.iconst 5, 1) := by decide +kernel
theorem d4_57 : decode method_6_code 57 = .ok (.iload_n 2, 1) := by decide +kernel
theorem d4_58 : decode method_6_code 58 = .ok (.invokestatic 35, 3) := by decide +kernel
theorem d4_61 : decode method_6_code 61 = .ok (.ifCond .eq 5, 3) := by decide +kernel
theorem d4_64 : decode method_6_code 64 = .ok (.iconst 5, 1) := by decide +kernel
theorem d4_65 : decode method_6_code 65 = .ok (.ireturn, 1) := by decide +kernel
theorem d4_66 : decode method_6_code 66 = .ok (.lload_n 0, 1) := by decide +kernel
theorem d4_67 : decode method_6_code 67 = .ok (.bipush 6, 2) := by decide +kernel
theorem d4_69 : decode method_6_code 69 = .ok (.iload_n 2, 1) := by decide +kernel
theorem d4_70 : decode method_6_code 70 = .ok (.invokestatic 35, 3) := by decide +kernel
theorem d4_73 : decode method_6_code 73 = .ok (.ifCond .eq 6, 3) := by decide +kernel
theorem d4_76 : decode method_6_code 76 = .ok (.bipush 6, 2) := by decide +kernel
theorem d4_78 : decode method_6_code 78 = .ok (.ireturn, 1) := by decide +kernel
theorem d4_79 : decode method_6_code 79 = .ok (.lload_n 0, 1) := by decide +kernel
theorem d4_80 : decode method_6_code 80 = .ok (.bipush 7, 2) := by decide +kernel
theorem d4_82 : decode method_6_code 82 = .ok (.iload_n 2, 1) := by decide +kernel
theorem d4_83 : decode method_6_code 83 = .ok (.invokestatic 35, 3) := by decide +kernel
theorem d4_86 : decode method_6_code 86 = .ok (.ifCond .eq 6, 3) := by decide +kernel
theorem d4_89 : decode method_6_code 89 = .ok (.bipush 7, 2) := by decide +kernel
theorem d4_91 : decode method_6_code 91 = .ok (.ireturn, 1) := by decide +kernel
theorem d4_92 : decode method_6_code 92 = .ok (.bipush 8, 2) := by decide +kernel
theorem d4_94 : decode method_6_code 94 = .ok (.ireturn, 1) := by decide +kernel
theorem pn4 : plainName "com/example/rota/rota/process/ByteWordsEqualPinLaw" = true := by first | (simp [plainName, overriddenIn]; done) | decide +kernel
theorem pd4_0 : parseMethodDescriptor "(JII)Z" = some ⟨[.long, .int, .int], some .boolean⟩ := by decide +kernel
theorem ef4 (m : MethodId) (q0 : Int64) (p1 : Int32) : entryFrame m #[(.long q0), (.int p1)] 3 = mkF m 0 #[.val (.long q0), .second, .val (.int p1)] [] := by first | (simp [entryFrame, mkF, argsToLocals, Value.category]; done) | rfl
def Q4 (Z : State) (q0 : Int64) (p1 : Int32) (h0 : Heap) (n0 : Nat) (v : Option Value) (h : Heap) (L : List Loc) : Prop := v = some (.int (w4_r1 q0 p1)) ∧ Fr n0 L ∧ h = h0
set_option maxRecDepth 65536 in
set_option maxHeartbeats 40000000 in
theorem rm4 (l : Launch) (Z : State) (a0 : Array Value) (hw : ∀ d ∈ tables_1, d.before a0 Z = true) (ws : List Jvm.Cond) (q0 : Int64) (p1 : Int32) (h0 : Heap) (n0 : Nat) (Z0 : n0 ≤ h0.size) :
    MetFree l (⟨"com/example/rota/rota/process/ByteWordsEqualPinLaw", "firstMatch", "(JI)I"⟩ : MethodName) (head1 (Jvm.Cond.code (⟨"com/example/rota/rota/process/ByteWordsEqualPinLaw", "firstMatch", "(JI)I"⟩ : MethodName) method_6_code 3 (some .int) :: ws) ({ frames := 1, cells := 0, slots := 0, locals := 15 } : Room)) (fun a U => a = #[(.long q0), (.int p1)] ∧ Z.Warmed39 U.vm ∧ U.heap = h0) (fun _ _ _ _ _ => True) (fun _ U o U' => ∃ v L, o = .returned v ∧ Q4 Z q0 p1 h0 n0 v U'.heap L ∧ FrameEnd U o U' L ({ frames := 1, cells := 0, slots := 0, locals := 15 } : Room).cells ({ frames := 1, cells := 0, slots := 0, locals := 15 } : Room).slots) := by
  refine MetFree.of_bodySF (plainFor_of_name pn4) hisR ?_
  intro p e s m args below meth c s₁ Bd hml0 hP hK
  obtain ⟨rfl, hZ, hh⟩ := hP
  have hx := Bd.exec
  have hby := Bd.bytes
  have hml : c.maxLocals = 3 := hml0
  have hown : s.vm.findClass "com/example/rota/rota/process/ByteWordsEqualPinLaw" = some m.cls := findClass_of_methodNamed Bd.named
  have hnm := (name_of_methodNamed Bd.named Bd.method).1
  have X0 : Stand p l e ({ frames := 1, cells := 0, slots := 0, locals := 15 } : Room) s m #[(.long q0), (.int p1)] below meth c s₁ [] 0 0 := Stand.of_body Bd
  have e0 : s₁.heap = h0 := by rw [← hh, Bd.state]; rfl
  have N0 := Fr.nil n0
  obtain ⟨S0, hS0⟩ : ∃ S0, S0 = s₁.setTop (entryFrame m #[(.long q0), (.int p1)] 3) := ⟨_, rfl⟩
  have pre0 : ∀ t, Steps p.tables e below (s₁.setTop (mkF m 0 #[.val (.long q0), .second, .val (.int p1)] [])) t → Steps p.tables e below S0 t := fun t k => by rw [hS0]; exact castTop (ef4 m q0 p1) k
  have K1 : ∀ t, Steps p.tables e below (s₁.setTop (mkF m 3 #[.val (.long q0), .second, .val (.int p1)] [(.int p1), (.int (0 : Int32)), (.long q0)])) t → Steps p.tables e below S0 t := fun t k => pre0 t (by
    refine XS.lloadN X0.here hx rfl (hb hby d4_0) rfl ?_
    show Steps p.tables e below (s₁.setTop (mkF m 1 #[.val (.long q0), .second, .val (.int p1)] [(.long q0)])) _
    refine XS.iconst X0.here hx rfl (hb hby d4_1) ?_
    show Steps p.tables e below (s₁.setTop (mkF m 2 #[.val (.long q0), .second, .val (.int p1)] [(.int (0 : Int32)), (.long q0)])) _
    refine XS.iloadN X0.here hx rfl (hb hby d4_2) rfl ?_
    show Steps p.tables e below (s₁.setTop (mkF m 3 #[.val (.long q0), .second, .val (.int p1)] [(.int p1), (.int (0 : Int32)), (.long q0)])) _
    exact k)
  have K_2 : ∀ t, Steps p.tables e below (s₁.setTop (mkF m 3 #[.val (.long q0), .second, .val (.int p1)] [(.int p1), (.int (0 : Int32)), (.long q0)])) t → Steps p.tables e below S0 t := K1
  obtain ⟨_, _, ⟨T3, L3, k3, n3⟩, -, X3, ⟨Lc3, hQ3, l3, y3, z3⟩, st3⟩ := Jvm.LawKit.callS X0 hx (y := (⟨"com/example/rota/rota/process/ByteWordsEqualPinLaw", "eqAt", "(JII)Z"⟩ : MethodName)) hown (mvT hZ (hw _ (List.mem_of_getElem? (i := 18) rfl))) (mvT hZ (hw _ (List.mem_of_getElem? (i := 19) rfl))) (mvT hZ (hw _ (List.mem_of_getElem? (i := 2) rfl))) (mvT hZ (hw _ (List.mem_of_getElem? (i := 20) rfl))) (by decide) (backOf (W := 0) (rm3 l Z a0 hw [] q0 (0 : Int32) p1 h0 n0 Z0 ) hZ (hw _ (List.mem_of_getElem? (i := 20) rfl)) (hw _ (List.mem_of_getElem? (i := 2) rfl)) (by decide) (by decide)) (g := (mkF m 3 #[.val (.long q0), .second, .val (.int p1)] [(.int p1), (.int (0 : Int32)), (.long q0)])) rfl (by rw [hml]; rfl) (argsL := [(.long q0), (.int (0 : Int32)), (.int p1)]) (rest := []) (lenOf pd4_0 rfl) rfl (by show 2 * 0 + _ ≤ _; exact Nat.le_of_eq rfl) (hb hby d4_3) (fun _ _ => ⟨rfl, e0, (by decide : 0 + 0 ≤ 0), (by decide : 0 + 0 ≤ 0)⟩)
  dsimp only [Pt.U, Pt.locs, Pt.cells, Pt.slots] at X3 l3 y3 z3 st3 hQ3
  subst l3 y3 z3
  obtain ⟨rfl, N3q, e3⟩ := hQ3
  have N3 := Fr.app N0 N3q
  have K3 : ∀ t, Steps p.tables e below (T3.setTop (mkF m 6 #[.val (.long q0), .second, .val (.int p1)] [(.int (w3_r2 q0 (0 : Int32) p1))])) t → Steps p.tables e below S0 t := fun t k => K_2 t (st3 t k)
  by_cases hc6_0 : (w3_r2 q0 (0 : Int32) p1) = (0 : Int32)
  · -- yes
    have K4 : ∀ t, Steps p.tables e below (T3.setTop (mkF m 14 #[.val (.long q0), .second, .val (.int p1)] [(.int p1), (.int (1 : Int32)), (.long q0)])) t → Steps p.tables e below S0 t := fun t k => K3 t (by
      refine XS.ifYes X3.here hx rfl (pc0 := 6) (pc' := 11) rfl (hb hby d4_6) rfl (XT.i0_eq_t hc6_0) (by decide) (by decide) ?_
      show Steps p.tables e below (T3.setTop (mkF m 11 #[.val (.long q0), .second, .val (.int p1)] [])) _
      refine XS.lloadN X3.here hx rfl (hb hby d4_11) rfl ?_
      show Steps p.tables e below (T3.setTop (mkF m 12 #[.val (.long q0), .second, .val (.int p1)] [(.long q0)])) _
      refine XS.iconst X3.here hx rfl (hb hby d4_12) ?_
      show Steps p.tables e below (T3.setTop (mkF m 13 #[.val (.long q0), .second, .val (.int p1)] [(.int (1 : Int32)), (.long q0)])) _
      refine XS.iloadN X3.here hx rfl (hb hby d4_13) rfl ?_
      show Steps p.tables e below (T3.setTop (mkF m 14 #[.val (.long q0), .second, .val (.int p1)] [(.int p1), (.int (1 : Int32)), (.long q0)])) _
      exact k)
    have K_5 : ∀ t, Steps p.tables e below (T3.setTop (mkF m 14 #[.val (.long q0), .second, .val (.int p1)] [(.int p1), (.int (1 : Int32)), (.long q0)])) t → Steps p.tables e below S0 t := K4
    obtain ⟨_, _, ⟨T6, L6, k6, n6⟩, -, X6, ⟨Lc6, hQ6, l6, y6, z6⟩, st6⟩ := Jvm.LawKit.callS X3 hx (y := (⟨"com/example/rota/rota/process/ByteWordsEqualPinLaw", "eqAt", "(JII)Z"⟩ : MethodName)) hown (mvT hZ (hw _ (List.mem_of_getElem? (i := 18) rfl))) (mvT hZ (hw _ (List.mem_of_getElem? (i := 19) rfl))) (mvT hZ (hw _ (List.mem_of_getElem? (i := 2) rfl))) (mvT hZ (hw _ (List.mem_of_getElem? (i := 20) rfl))) (by decide) (backOf (W := 0) (rm3 l Z a0 hw [] q0 (1 : Int32) p1 h0 n0 Z0 ) hZ (hw _ (List.mem_of_getElem? (i := 20) rfl)) (hw _ (List.mem_of_getElem? (i := 2) rfl)) (by decide) (by decide)) (g := (mkF m 14 #[.val (.long q0), .second, .val (.int p1)] [(.int p1), (.int (1 : Int32)), (.long q0)])) rfl (by rw [hml]; rfl) (argsL := [(.long q0), (.int (1 : Int32)), (.int p1)]) (rest := []) (lenOf pd4_0 rfl) rfl (by show 2 * 0 + _ ≤ _; exact Nat.le_of_eq rfl) (hb hby d4_14) (fun _ _ => ⟨rfl, e3, (by decide : 0 + 0 ≤ 0), (by decide : 0 + 0 ≤ 0)⟩)
    dsimp only [Pt.U, Pt.locs, Pt.cells, Pt.slots] at X6 l6 y6 z6 st6 hQ6
    subst l6 y6 z6
    obtain ⟨rfl, N6q, e6⟩ := hQ6
    have N6 := Fr.app N3 N6q
    have K6 : ∀ t, Steps p.tables e below (T6.setTop (mkF m 17 #[.val (.long q0), .second, .val (.int p1)] [(.int (w3_r2 q0 (1 : Int32) p1))])) t → Steps p.tables e below S0 t := fun t k => K_5 t (st6 t k)
    by_cases hc17_1 : (w3_r2 q0 (1 : Int32) p1) = (0 : Int32)
    · -- yes
      have K7 : ∀ t, Steps p.tables e below (T6.setTop (mkF m 25 #[.val (.long q0), .second, .val (.int p1)] [(.int p1), (.int (2 : Int32)), (.long q0)])) t → Steps p.tables e below S0 t := fun t k => K6 t (by
        refine XS.ifYes X6.here hx rfl (pc0 := 17) (pc' := 22) rfl (hb hby d4_17) rfl (XT.i0_eq_t hc17_1) (by decide) (by decide) ?_
        show Steps p.tables e below (T6.setTop (mkF m 22 #[.val (.long q0), .second, .val (.int p1)] [])) _
        refine XS.lloadN X6.here hx rfl (hb hby d4_22) rfl ?_
        show Steps p.tables e below (T6.setTop (mkF m 23 #[.val (.long q0), .second, .val (.int p1)] [(.long q0)])) _
        refine XS.iconst X6.here hx rfl (hb hby d4_23) ?_
        show Steps p.tables e below (T6.setTop (mkF m 24 #[.val (.long q0), .second, .val (.int p1)] [(.int (2 : Int32)), (.long q0)])) _
        refine XS.iloadN X6.here hx rfl (hb hby d4_24) rfl ?_
        show Steps p.tables e below (T6.setTop (mkF m 25 #[.val (.long q0), .second, .val (.int p1)] [(.int p1), (.int (2 : Int32)), (.long q0)])) _
        exact k)
      have K_8 : ∀ t, Steps p.tables e below (T6.setTop (mkF m 25 #[.val (.long q0), .second, .val (.int p1)] [(.int p1), (.int (2 : Int32)), (.long q0)])) t → Steps p.tables e below S0 t := K7
      obtain ⟨_, _, ⟨T9, L9, k9, n9⟩, -, X9, ⟨Lc9, hQ9, l9, y9, z9⟩, st9⟩ := Jvm.LawKit.callS X6 hx (y := (⟨"com/example/rota/rota/process/ByteWordsEqualPinLaw", "eqAt", "(JII)Z"⟩ : MethodName)) hown (mvT hZ (hw _ (List.mem_of_getElem? (i := 18) rfl))) (mvT hZ (hw _ (List.mem_of_getElem? (i := 19) rfl))) (mvT hZ (hw _ (List.mem_of_getElem? (i := 2) rfl))) (mvT hZ (hw _ (List.mem_of_getElem? (i := 20) rfl))) (by decide) (backOf (W := 0) (rm3 l Z a0 hw [] q0 (2 : Int32) p1 h0 n0 Z0 ) hZ (hw _ (List.mem_of_getElem? (i := 20) rfl)) (hw _ (List.mem_of_getElem? (i := 2) rfl)) (by decide) (by decide)) (g := (mkF m 25 #[.val (.long q0), .second, .val (.int p1)] [(.int p1), (.int (2 : Int32)), (.long q0)])) rfl (by rw [hml]; rfl) (argsL := [(.long q0), (.int (2 : Int32)), (.int p1)]) (rest := []) (lenOf pd4_0 rfl) rfl (by show 2 * 0 + _ ≤ _; exact Nat.le_of_eq rfl) (hb hby d4_25) (fun _ _ => ⟨rfl, e6, (by decide : 0 + 0 ≤ 0), (by decide : 0 + 0 ≤ 0)⟩)
      dsimp only [Pt.U, Pt.locs, Pt.cells, Pt.slots] at X9 l9 y9 z9 st9 hQ9
      subst l9 y9 z9
      obtain ⟨rfl, N9q, e9⟩ := hQ9
      have N9 := Fr.app N6 N9q
      have K9 : ∀ t, Steps p.tables e below (T9.setTop (mkF m 28 #[.val (.long q0), .second, .val (.int p1)] [(.int (w3_r2 q0 (2 : Int32) p1))])) t → Steps p.tables e below S0 t := fun t k => K_8 t (st9 t k)
      by_cases hc28_2 : (w3_r2 q0 (2 : Int32) p1) = (0 : Int32)
      · -- yes
        have K10 : ∀ t, Steps p.tables e below (T9.setTop (mkF m 36 #[.val (.long q0), .second, .val (.int p1)] [(.int p1), (.int (3 : Int32)), (.long q0)])) t → Steps p.tables e below S0 t := fun t k => K9 t (by
          refine XS.ifYes X9.here hx rfl (pc0 := 28) (pc' := 33) rfl (hb hby d4_28) rfl (XT.i0_eq_t hc28_2) (by decide) (by decide) ?_
          show Steps p.tables e below (T9.setTop (mkF m 33 #[.val (.long q0), .second, .val (.int p1)] [])) _
          refine XS.lloadN X9.here hx rfl (hb hby d4_33) rfl ?_
          show Steps p.tables e below (T9.setTop (mkF m 34 #[.val (.long q0), .second, .val (.int p1)] [(.long q0)])) _
          refine XS.iconst X9.here hx rfl (hb hby d4_34) ?_
          show Steps p.tables e below (T9.setTop (mkF m 35 #[.val (.long q0), .second, .val (.int p1)] [(.int (3 : Int32)), (.long q0)])) _
          refine XS.iloadN X9.here hx rfl (hb hby d4_35) rfl ?_
          show Steps p.tables e below (T9.setTop (mkF m 36 #[.val (.long q0), .second, .val (.int p1)] [(.int p1), (.int (3 : Int32)), (.long q0)])) _
          exact k)
        have K_11 : ∀ t, Steps p.tables e below (T9.setTop (mkF m 36 #[.val (.long q0), .second, .val (.int p1)] [(.int p1), (.int (3 : Int32)), (.long q0)])) t → Steps p.tables e below S0 t := K10
        obtain ⟨_, _, ⟨T12, L12, k12, n12⟩, -, X12, ⟨Lc12, hQ12, l12, y12, z12⟩, st12⟩ := Jvm.LawKit.callS X9 hx (y := (⟨"com/example/rota/rota/process/ByteWordsEqualPinLaw", "eqAt", "(JII)Z"⟩ : MethodName)) hown (mvT hZ (hw _ (List.mem_of_getElem? (i := 18) rfl))) (mvT hZ (hw _ (List.mem_of_getElem? (i := 19) rfl))) (mvT hZ (hw _ (List.mem_of_getElem? (i := 2) rfl))) (mvT hZ (hw _ (List.mem_of_getElem? (i := 20) rfl))) (by decide) (backOf (W := 0) (rm3 l Z a0 hw [] q0 (3 : Int32) p1 h0 n0 Z0 ) hZ (hw _ (List.mem_of_getElem? (i := 20) rfl)) (hw _ (List.mem_of_getElem? (i := 2) rfl)) (by decide) (by decide)) (g := (mkF m 36 #[.val (.long q0), .second, .val (.int p1)] [(.int p1), (.int (3 : Int32)), (.long q0)])) rfl (by rw [hml]; rfl) (argsL := [(.long q0), (.int (3 : Int32)), (.int p1)]) (rest := []) (lenOf pd4_0 rfl) rfl (by show 2 * 0 + _ ≤ _; exact Nat.le_of_eq rfl) (hb hby d4_36) (fun _ _ => ⟨rfl, e9, (by decide : 0 + 0 ≤ 0), (by decide : 0 + 0 ≤ 0)⟩)
        dsimp only [Pt.U, Pt.locs, Pt.cells, Pt.slots] at X12 l12 y12 z12 st12 hQ12
        subst l12 y12 z12
        obtain ⟨rfl, N12q, e12⟩ := hQ12
        have N12 := Fr.app N9 N12q
        have K12 : ∀ t, Steps p.tables e below (T12.setTop (mkF m 39 #[.val (.long q0), .second, .val (.int p1)] [(.int (w3_r2 q0 (3 : Int32) p1))])) t → Steps p.tables e below S0 t := fun t k => K_11 t (st12 t k)
        by_cases hc39_3 : (w3_r2 q0 (3 : Int32) p1) = (0 : Int32)
        · -- yes
          have K13 : ∀ t, Steps p.tables e below (T12.setTop (mkF m 47 #[.val (.long q0), .second, .val (.int p1)] [(.int p1), (.int (4 : Int32)), (.long q0)])) t → Steps p.tables e below S0 t := fun t k => K12 t (by
            refine XS.ifYes X12.here hx rfl (pc0 := 39) (pc' := 44) rfl (hb hby d4_39) rfl (XT.i0_eq_t hc39_3) (by decide) (by decide) ?_
            show Steps p.tables e below (T12.setTop (mkF m 44 #[.val (.long q0), .second, .val (.int p1)] [])) _
            refine XS.lloadN X12.here hx rfl (hb hby d4_44) rfl ?_
            show Steps p.tables e below (T12.setTop (mkF m 45 #[.val (.long q0), .second, .val (.int p1)] [(.long q0)])) _
            refine XS.iconst X12.here hx rfl (hb hby d4_45) ?_
            show Steps p.tables e below (T12.setTop (mkF m 46 #[.val (.long q0), .second, .val (.int p1)] [(.int (4 : Int32)), (.long q0)])) _
            refine XS.iloadN X12.here hx rfl (hb hby d4_46) rfl ?_
            show Steps p.tables e below (T12.setTop (mkF m 47 #[.val (.long q0), .second, .val (.int p1)] [(.int p1), (.int (4 : Int32)), (.long q0)])) _
            exact k)
          have K_14 : ∀ t, Steps p.tables e below (T12.setTop (mkF m 47 #[.val (.long q0), .second, .val (.int p1)] [(.int p1), (.int (4 : Int32)), (.long q0)])) t → Steps p.tables e below S0 t := K13
          obtain ⟨_, _, ⟨T15, L15, k15, n15⟩, -, X15, ⟨Lc15, hQ15, l15, y15, z15⟩, st15⟩ := Jvm.LawKit.callS X12 hx (y := (⟨"com/example/rota/rota/process/ByteWordsEqualPinLaw", "eqAt", "(JII)Z"⟩ : MethodName)) hown (mvT hZ (hw _ (List.mem_of_getElem? (i := 18) rfl))) (mvT hZ (hw _ (List.mem_of_getElem? (i := 19) rfl))) (mvT hZ (hw _ (List.mem_of_getElem? (i := 2) rfl))) (mvT hZ (hw _ (List.mem_of_getElem? (i := 20) rfl))) (by decide) (backOf (W := 0) (rm3 l Z a0 hw [] q0 (4 : Int32) p1 h0 n0 Z0 ) hZ (hw _ (List.mem_of_getElem? (i := 20) rfl)) (hw _ (List.mem_of_getElem? (i := 2) rfl)) (by decide) (by decide)) (g := (mkF m 47 #[.val (.long q0), .second, .val (.int p1)] [(.int p1), (.int (4 : Int32)), (.long q0)])) rfl (by rw [hml]; rfl) (argsL := [(.long q0), (.int (4 : Int32)), (.int p1)]) (rest := []) (lenOf pd4_0 rfl) rfl (by show 2 * 0 + _ ≤ _; exact Nat.le_of_eq rfl) (hb hby d4_47) (fun _ _ => ⟨rfl, e12, (by decide : 0 + 0 ≤ 0), (by decide : 0 + 0 ≤ 0)⟩)
          dsimp only [Pt.U, Pt.locs, Pt.cells, Pt.slots] at X15 l15 y15 z15 st15 hQ15
          subst l15 y15 z15
          obtain ⟨rfl, N15q, e15⟩ := hQ15
          have N15 := Fr.app N12 N15q
          have K15 : ∀ t, Steps p.tables e below (T15.setTop (mkF m 50 #[.val (.long q0), .second, .val (.int p1)] [(.int (w3_r2 q0 (4 : Int32) p1))])) t → Steps p.tables e below S0 t := fun t k => K_14 t (st15 t k)
          by_cases hc50_4 : (w3_r2 q0 (4 : Int32) p1) = (0 : Int32)
          · -- yes
            have K16 : ∀ t, Steps p.tables e below (T15.setTop (mkF m 58 #[.val (.long q0), .second, .val (.int p1)] [(.int p1), (.int (5 : Int32)), (.long q0)])) t → Steps p.tables e below S0 t := fun t k => K15 t (by
              refine XS.ifYes X15.here hx rfl (pc0 := 50) (pc' := 55) rfl (hb hby d4_50) rfl (XT.i0_eq_t hc50_4) (by decide) (by decide) ?_
              show Steps p.tables e below (T15.setTop (mkF m 55 #[.val (.long q0), .second, .val (.int p1)] [])) _
              refine XS.lloadN X15.here hx rfl (hb hby d4_55) rfl ?_
              show Steps p.tables e below (T15.setTop (mkF m 56 #[.val (.long q0), .second, .val (.int p1)] [(.long q0)])) _
              refine XS.iconst X15.here hx rfl (hb hby d4_56) ?_
              show Steps p.tables e below (T15.setTop (mkF m 57 #[.val (.long q0), .second, .val (.int p1)] [(.int (5 : Int32)), (.long q0)])) _
              refine XS.iloadN X15.here hx rfl (hb hby d4_57) rfl ?_
              show Steps p.tables e below (T15.setTop (mkF m 58 #[.val (.long q0), .second, .val (.int p1)] [(.int p1), (.int (5 : Int32)), (.long q0)])) _
              exact k)
            have K_17 : ∀ t, Steps p.tables e below (T15.setTop (mkF m 58 #[.val (.long q0), .second, .val (.int p1)] [(.int p1), (.int (5 : Int32)), (.long q0)])) t → Steps p.tables e below S0 t := K16
            obtain ⟨_, _, ⟨T18, L18, k18, n18⟩, -, X18, ⟨Lc18, hQ18, l18, y18, z18⟩, st18⟩ := Jvm.LawKit.callS X15 hx (y := (⟨"com/example/rota/rota/process/ByteWordsEqualPinLaw", "eqAt", "(JII)Z"⟩ : MethodName)) hown (mvT hZ (hw _ (List.mem_of_getElem? (i := 18) rfl))) (mvT hZ (hw _ (List.mem_of_getElem? (i := 19) rfl))) (mvT hZ (hw _ (List.mem_of_getElem? (i := 2) rfl))) (mvT hZ (hw _ (List.mem_of_getElem? (i := 20) rfl))) (by decide) (backOf (W := 0) (rm3 l Z a0 hw [] q0 (5 : Int32) p1 h0 n0 Z0 ) hZ (hw _ (List.mem_of_getElem? (i := 20) rfl)) (hw _ (List.mem_of_getElem? (i := 2) rfl)) (by decide) (by decide)) (g := (mkF m 58 #[.val (.long q0), .second, .val (.int p1)] [(.int p1), (.int (5 : Int32)), (.long q0)])) rfl (by rw [hml]; rfl) (argsL := [(.long q0), (.int (5 : Int32)), (.int p1)]) (rest := []) (lenOf pd4_0 rfl) rfl (by show 2 * 0 + _ ≤ _; exact Nat.le_of_eq rfl) (hb hby d4_58) (fun _ _ => ⟨rfl, e15, (by decide : 0 + 0 ≤ 0), (by decide : 0 + 0 ≤ 0)⟩)
            dsimp only [Pt.U, Pt.locs, Pt.cells, Pt.slots] at X18 l18 y18 z18 st18 hQ18
            subst l18 y18 z18
            obtain ⟨rfl, N18q, e18⟩ := hQ18
            have N18 := Fr.app N15 N18q
            have K18 : ∀ t, Steps p.tables e below (T18.setTop (mkF m 61 #[.val (.long q0), .second, .val (.int p1)] [(.int (w3_r2 q0 (5 : Int32) p1))])) t → Steps p.tables e below S0 t := fun t k => K_17 t (st18 t k)
            by_cases hc61_5 : (w3_r2 q0 (5 : Int32) p1) = (0 : Int32)
            · -- yes
              have K19 : ∀ t, Steps p.tables e below (T18.setTop (mkF m 70 #[.val (.long q0), .second, .val (.int p1)] [(.int p1), (.int (6 : Int32)), (.long q0)])) t → Steps p.tables e below S0 t := fun t k => K18 t (by
                refine XS.ifYes X18.here hx rfl (pc0 := 61) (pc' := 66) rfl (hb hby d4_61) rfl (XT.i0_eq_t hc61_5) (by decide) (by decide) ?_
                show Steps p.tables e below (T18.setTop (mkF m 66 #[.val (.long q0), .second, .val (.int p1)] [])) _
                refine XS.lloadN X18.here hx rfl (hb hby d4_66) rfl ?_
                show Steps p.tables e below (T18.setTop (mkF m 67 #[.val (.long q0), .second, .val (.int p1)] [(.long q0)])) _
                refine XS.bipush X18.here hx rfl (hb hby d4_67) ?_
                show Steps p.tables e below (T18.setTop (mkF m 69 #[.val (.long q0), .second, .val (.int p1)] [(.int (6 : Int32)), (.long q0)])) _
                refine XS.iloadN X18.here hx rfl (hb hby d4_69) rfl ?_
                show Steps p.tables e below (T18.setTop (mkF m 70 #[.val (.long q0), .second, .val (.int p1)] [(.int p1), (.int (6 : Int32)), (.long q0)])) _
                exact k)
              have K_20 : ∀ t, Steps p.tables e below (T18.setTop (mkF m 70 #[.val (.long q0), .second, .val (.int p1)] [(.int p1), (.int (6 : Int32)), (.long q0)])) t → Steps p.tables e below S0 t := K19
              obtain ⟨_, _, ⟨T21, L21, k21, n21⟩, -, X21, ⟨Lc21, hQ21, l21, y21, z21⟩, st21⟩ := Jvm.LawKit.callS X18 hx (y := (⟨"com/example/rota/rota/process/ByteWordsEqualPinLaw", "eqAt", "(JII)Z"⟩ : MethodName)) hown (mvT hZ (hw _ (List.mem_of_getElem? (i := 18) rfl))) (mvT hZ (hw _ (List.mem_of_getElem? (i := 19) rfl))) (mvT hZ (hw _ (List.mem_of_getElem? (i := 2) rfl))) (mvT hZ (hw _ (List.mem_of_getElem? (i := 20) rfl))) (by decide) (backOf (W := 0) (rm3 l Z a0 hw [] q0 (6 : Int32) p1 h0 n0 Z0 ) hZ (hw _ (List.mem_of_getElem? (i := 20) rfl)) (hw _ (List.mem_of_getElem? (i := 2) rfl)) (by decide) (by decide)) (g := (mkF m 70 #[.val (.long q0), .second, .val (.int p1)] [(.int p1), (.int (6 : Int32)), (.long q0)])) rfl (by rw [hml]; rfl) (argsL := [(.long q0), (.int (6 : Int32)), (.int p1)]) (rest := []) (lenOf pd4_0 rfl) rfl (by show 2 * 0 + _ ≤ _; exact Nat.le_of_eq rfl) (hb hby d4_70) (fun _ _ => ⟨rfl, e18, (by decide : 0 + 0 ≤ 0), (by decide : 0 + 0 ≤ 0)⟩)
              dsimp only [Pt.U, Pt.locs, Pt.cells, Pt.slots] at X21 l21 y21 z21 st21 hQ21
              subst l21 y21 z21
              obtain ⟨rfl, N21q, e21⟩ := hQ21
              have N21 := Fr.app N18 N21q
              have K21 : ∀ t, Steps p.tables e below (T21.setTop (mkF m 73 #[.val (.long q0), .second, .val (.int p1)] [(.int (w3_r2 q0 (6 : Int32) p1))])) t → Steps p.tables e below S0 t := fun t k => K_20 t (st21 t k)
              by_cases hc73_6 : (w3_r2 q0 (6 : Int32) p1) = (0 : Int32)
              · -- yes
                have K22 : ∀ t, Steps p.tables e below (T21.setTop (mkF m 83 #[.val (.long q0), .second, .val (.int p1)] [(.int p1), (.int (7 : Int32)), (.long q0)])) t → Steps p.tables e below S0 t := fun t k => K21 t (by
                  refine XS.ifYes X21.here hx rfl (pc0 := 73) (pc' := 79) rfl (hb hby d4_73) rfl (XT.i0_eq_t hc73_6) (by decide) (by decide) ?_
                  show Steps p.tables e below (T21.setTop (mkF m 79 #[.val (.long q0), .second, .val (.int p1)] [])) _
                  refine XS.lloadN X21.here hx rfl (hb hby d4_79) rfl ?_
                  show Steps p.tables e below (T21.setTop (mkF m 80 #[.val (.long q0), .second, .val (.int p1)] [(.long q0)])) _
                  refine XS.bipush X21.here hx rfl (hb hby d4_80) ?_
                  show Steps p.tables e below (T21.setTop (mkF m 82 #[.val (.long q0), .second, .val (.int p1)] [(.int (7 : Int32)), (.long q0)])) _
                  refine XS.iloadN X21.here hx rfl (hb hby d4_82) rfl ?_
                  show Steps p.tables e below (T21.setTop (mkF m 83 #[.val (.long q0), .second, .val (.int p1)] [(.int p1), (.int (7 : Int32)), (.long q0)])) _
                  exact k)
                have K_23 : ∀ t, Steps p.tables e below (T21.setTop (mkF m 83 #[.val (.long q0), .second, .val (.int p1)] [(.int p1), (.int (7 : Int32)), (.long q0)])) t → Steps p.tables e below S0 t := K22
                obtain ⟨_, _, ⟨T24, L24, k24, n24⟩, -, X24, ⟨Lc24, hQ24, l24, y24, z24⟩, st24⟩ := Jvm.LawKit.callS X21 hx (y := (⟨"com/example/rota/rota/process/ByteWordsEqualPinLaw", "eqAt", "(JII)Z"⟩ : MethodName)) hown (mvT hZ (hw _ (List.mem_of_getElem? (i := 18) rfl))) (mvT hZ (hw _ (List.mem_of_getElem? (i := 19) rfl))) (mvT hZ (hw _ (List.mem_of_getElem? (i := 2) rfl))) (mvT hZ (hw _ (List.mem_of_getElem? (i := 20) rfl))) (by decide) (backOf (W := 0) (rm3 l Z a0 hw [] q0 (7 : Int32) p1 h0 n0 Z0 ) hZ (hw _ (List.mem_of_getElem? (i := 20) rfl)) (hw _ (List.mem_of_getElem? (i := 2) rfl)) (by decide) (by decide)) (g := (mkF m 83 #[.val (.long q0), .second, .val (.int p1)] [(.int p1), (.int (7 : Int32)), (.long q0)])) rfl (by rw [hml]; rfl) (argsL := [(.long q0), (.int (7 : Int32)), (.int p1)]) (rest := []) (lenOf pd4_0 rfl) rfl (by show 2 * 0 + _ ≤ _; exact Nat.le_of_eq rfl) (hb hby d4_83) (fun _ _ => ⟨rfl, e21, (by decide : 0 + 0 ≤ 0), (by decide : 0 + 0 ≤ 0)⟩)
                dsimp only [Pt.U, Pt.locs, Pt.cells, Pt.slots] at X24 l24 y24 z24 st24 hQ24
                subst l24 y24 z24
                obtain ⟨rfl, N24q, e24⟩ := hQ24
                have N24 := Fr.app N21 N24q
                have K24 : ∀ t, Steps p.tables e below (T24.setTop (mkF m 86 #[.val (.long q0), .second, .val (.int p1)] [(.int (w3_r2 q0 (7 : Int32) p1))])) t → Steps p.tables e below S0 t := fun t k => K_23 t (st24 t k)
                by_cases hc86_7 : (w3_r2 q0 (7 : Int32) p1) = (0 : Int32)
                · -- yes
                  have K25 : ∀ t, Steps p.tables e below (T24.setTop (mkF m 94 #[.val (.long q0), .second, .val (.int p1)] [(.int (8 : Int32))])) t → Steps p.tables e below S0 t := fun t k => K24 t (by
                    refine XS.ifYes X24.here hx rfl (pc0 := 86) (pc' := 92) rfl (hb hby d4_86) rfl (XT.i0_eq_t hc86_7) (by decide) (by decide) ?_
                    show Steps p.tables e below (T24.setTop (mkF m 92 #[.val (.long q0), .second, .val (.int p1)] [])) _
                    refine XS.bipush X24.here hx rfl (hb hby d4_92) ?_
                    show Steps p.tables e below (T24.setTop (mkF m 94 #[.val (.long q0), .second, .val (.int p1)] [(.int (8 : Int32))])) _
                    exact k)
                  obtain ⟨fs, hr, hrun, hended, hW, hsame⟩ := X24.leave (v := some (.int (8 : Int32))) (fun h => by rw [Bd.returns] at h; cases h)
                  refine ⟨_, _, ?_, hrun, hended, _, _, rfl, ?_, ⟨_, rfl⟩, hW, hsame.mono (by decide) (by decide)⟩
                  · rw [← hS0]; exact K25 _ (retI X24 hx Bd.returns (hb hby d4_94) hr)
                  · show Q4 Z q0 p1 h0 n0 _ T24.heap _
                    rw [e24]
                    have qr : (8 : Int32) = (w4_r1 q0 p1) := by unfold w4_r1; rw [if_pos hc6_0, if_pos hc17_1, if_pos hc28_2, if_pos hc39_3, if_pos hc50_4, if_pos hc61_5, if_pos hc73_6, if_pos hc86_7]
                    exact ⟨congrArg (fun z => some (Value.int z)) qr, N24, rfl⟩
                · -- no
                  have K26 : ∀ t, Steps p.tables e below (T24.setTop (mkF m 91 #[.val (.long q0), .second, .val (.int p1)] [(.int (7 : Int32))])) t → Steps p.tables e below S0 t := fun t k => K24 t (by
                    refine XS.ifNo X24.here hx rfl (hb hby d4_86) rfl (XT.i0_eq_f hc86_7) ?_
                    show Steps p.tables e below (T24.setTop (mkF m 89 #[.val (.long q0), .second, .val (.int p1)] [])) _
                    refine XS.bipush X24.here hx rfl (hb hby d4_89) ?_
                    show Steps p.tables e below (T24.setTop (mkF m 91 #[.val (.long q0), .second, .val (.int p1)] [(.int (7 : Int32))])) _
                    exact k)
                  obtain ⟨fs, hr, hrun, hended, hW, hsame⟩ := X24.leave (v := some (.int (7 : Int32))) (fun h => by rw [Bd.returns] at h; cases h)
                  refine ⟨_, _, ?_, hrun, hended, _, _, rfl, ?_, ⟨_, rfl⟩, hW, hsame.mono (by decide) (by decide)⟩
                  · rw [← hS0]; exact K26 _ (retI X24 hx Bd.returns (hb hby d4_91) hr)
                  · show Q4 Z q0 p1 h0 n0 _ T24.heap _
                    rw [e24]
                    have qr : (7 : Int32) = (w4_r1 q0 p1) := by unfold w4_r1; rw [if_pos hc6_0, if_pos hc17_1, if_pos hc28_2, if_pos hc39_3, if_pos hc50_4, if_pos hc61_5, if_pos hc73_6, if_neg hc86_7]
                    exact ⟨congrArg (fun z => some (Value.int z)) qr, N24, rfl⟩
              · -- no
                have K27 : ∀ t, Steps p.tables e below (T21.setTop (mkF m 78 #[.val (.long q0), .second, .val (.int p1)] [(.int (6 : Int32))])) t → Steps p.tables e below S0 t := fun t k => K21 t (by
                  refine XS.ifNo X21.here hx rfl (hb hby d4_73) rfl (XT.i0_eq_f hc73_6) ?_
                  show Steps p.tables e below (T21.setTop (mkF m 76 #[.val (.long q0), .second, .val (.int p1)] [])) _
                  refine XS.bipush X21.here hx rfl (hb hby d4_76) ?_
                  show Steps p.tables e below (T21.setTop (mkF m 78 #[.val (.long q0), .second, .val (.int p1)] [(.int (6 : Int32))])) _
                  exact k)
                obtain ⟨fs, hr, hrun, hended, hW, hsame⟩ := X21.leave (v := some (.int (6 : Int32))) (fun h => by rw [Bd.returns] at h; cases h)
                refine ⟨_, _, ?_, hrun, hended, _, _, rfl, ?_, ⟨_, rfl⟩, hW, hsame.mono (by decide) (by decide)⟩
                · rw [← hS0]; exact K27 _ (retI X21 hx Bd.returns (hb hby d4_78) hr)
                · show Q4 Z q0 p1 h0 n0 _ T21.heap _
                  rw [e21]
                  have qr : (6 : Int32) = (w4_r1 q0 p1) := by unfold w4_r1; rw [if_pos hc6_0, if_pos hc17_1, if_pos hc28_2, if_pos hc39_3, if_pos hc50_4, if_pos hc61_5, if_neg hc73_6]
                  exact ⟨congrArg (fun z => some (Value.int z)) qr, N21, rfl⟩
            · -- no
              have K28 : ∀ t, Steps p.tables e below (T18.setTop (mkF m 65 #[.val (.long q0), .second, .val (.int p1)] [(.int (5 : Int32))])) t → Steps p.tables e below S0 t := fun t k => K18 t (by
                refine XS.ifNo X18.here hx rfl (hb hby d4_61) rfl (XT.i0_eq_f hc61_5) ?_
                show Steps p.tables e below (T18.setTop (mkF m 64 #[.val (.long q0), .second, .val (.int p1)] [])) _
                refine XS.iconst X18.here hx rfl (hb hby d4_64) ?_
                show Steps p.tables e below (T18.setTop (mkF m 65 #[.val (.long q0), .second, .val (.int p1)] [(.int (5 : Int32))])) _
                exact k)
              obtain ⟨fs, hr, hrun, hended, hW, hsame⟩ := X18.leave (v := some (.int (5 : Int32))) (fun h => by rw [Bd.returns] at h; cases h)
              refine ⟨_, _, ?_, hrun, hended, _, _, rfl, ?_, ⟨_, rfl⟩, hW, hsame.mono (by decide) (by decide)⟩
              · rw [← hS0]; exact K28 _ (retI X18 hx Bd.returns (hb hby d4_65) hr)
              · show Q4 Z q0 p1 h0 n0 _ T18.heap _
                rw [e18]
                have qr : (5 : Int32) = (w4_r1 q0 p1) := by unfold w4_r1; rw [if_pos hc6_0, if_pos hc17_1, if_pos hc28_2, if_pos hc39_3, if_pos hc50_4, if_neg hc61_5]
                exact ⟨congrArg (fun z => some (Value.int z)) qr, N18, rfl⟩
          · -- no
            have K29 : ∀ t, Steps p.tables e below (T15.setTop (mkF m 54 #[.val (.long q0), .second, .val (.int p1)] [(.int (4 : Int32))])) t → Steps p.tables e below S0 t := fun t k => K15 t (by
              refine XS.ifNo X15.here hx rfl (hb hby d4_50) rfl (XT.i0_eq_f hc50_4) ?_
              show Steps p.tables e below (T15.setTop (mkF m 53 #[.val (.long q0), .second, .val (.int p1)] [])) _
              refine XS.iconst X15.here hx rfl (hb hby d4_53) ?_
              show Steps p.tables e below (T15.setTop (mkF m 54 #[.val (.long q0), .second, .val (.int p1)] [(.int (4 : Int32))])) _
              exact k)
            obtain ⟨fs, hr, hrun, hended, hW, hsame⟩ := X15.leave (v := some (.int (4 : Int32))) (fun h => by rw [Bd.returns] at h; cases h)
            refine ⟨_, _, ?_, hrun, hended, _, _, rfl, ?_, ⟨_, rfl⟩, hW, hsame.mono (by decide) (by decide)⟩
            · rw [← hS0]; exact K29 _ (retI X15 hx Bd.returns (hb hby d4_54) hr)
            · show Q4 Z q0 p1 h0 n0 _ T15.heap _
              rw [e15]
              have qr : (4 : Int32) = (w4_r1 q0 p1) := by unfold w4_r1; rw [if_pos hc6_0, if_pos hc17_1, if_pos hc28_2, if_pos hc39_3, if_neg hc50_4]
              exact ⟨congrArg (fun z => some (Value.int z)) qr, N15, rfl⟩
        · -- no
          have K30 : ∀ t, Steps p.tables e below (T12.setTop (mkF m 43 #[.val (.long q0), .second, .val (.int p1)] [(.int (3 : Int32))])) t → Steps p.tables e below S0 t := fun t k => K12 t (by
            refine XS.ifNo X12.here hx rfl (hb hby d4_39) rfl (XT.i0_eq_f hc39_3) ?_
            show Steps p.tables e below (T12.setTop (mkF m 42 #[.val (.long q0), .second, .val (.int p1)] [])) _
            refine XS.iconst X12.here hx rfl (hb hby d4_42) ?_
            show Steps p.tables e below (T12.setTop (mkF m 43 #[.val (.long q0), .second, .val (.int p1)] [(.int (3 : Int32))])) _
            exact k)
          obtain ⟨fs, hr, hrun, hended, hW, hsame⟩ := X12.leave (v := some (.int (3 : Int32))) (fun h => by rw [Bd.returns] at h; cases h)
          refine ⟨_, _, ?_, hrun, hended, _, _, rfl, ?_, ⟨_, rfl⟩, hW, hsame.mono (by decide) (by decide)⟩
          · rw [← hS0]; exact K30 _ (retI X12 hx Bd.returns (hb hby d4_43) hr)
          · show Q4 Z q0 p1 h0 n0 _ T12.heap _
            rw [e12]
            have qr : (3 : Int32) = (w4_r1 q0 p1) := by unfold w4_r1; rw [if_pos hc6_0, if_pos hc17_1, if_pos hc28_2, if_neg hc39_3]
            exact ⟨congrArg (fun z => some (Value.int z)) qr, N12, rfl⟩
      · -- no
        have K31 : ∀ t, Steps p.tables e below (T9.setTop (mkF m 32 #[.val (.long q0), .second, .val (.int p1)] [(.int (2 : Int32))])) t → Steps p.tables e below S0 t := fun t k => K9 t (by
          refine XS.ifNo X9.here hx rfl (hb hby d4_28) rfl (XT.i0_eq_f hc28_2) ?_
          show Steps p.tables e below (T9.setTop (mkF m 31 #[.val (.long q0), .second, .val (.int p1)] [])) _
          refine XS.iconst X9.here hx rfl (hb hby d4_31) ?_
          show Steps p.tables e below (T9.setTop (mkF m 32 #[.val (.long q0), .second, .val (.int p1)] [(.int (2 : Int32))])) _
          exact k)
        obtain ⟨fs, hr, hrun, hended, hW, hsame⟩ := X9.leave (v := some (.int (2 : Int32))) (fun h => by rw [Bd.returns] at h; cases h)
        refine ⟨_, _, ?_, hrun, hended, _, _, rfl, ?_, ⟨_, rfl⟩, hW, hsame.mono (by decide) (by decide)⟩
        · rw [← hS0]; exact K31 _ (retI X9 hx Bd.returns (hb hby d4_32) hr)
        · show Q4 Z q0 p1 h0 n0 _ T9.heap _
          rw [e9]
          have qr : (2 : Int32) = (w4_r1 q0 p1) := by unfold w4_r1; rw [if_pos hc6_0, if_pos hc17_1, if_neg hc28_2]
          exact ⟨congrArg (fun z => some (Value.int z)) qr, N9, rfl⟩
    · -- no
      have K32 : ∀ t, Steps p.tables e below (T6.setTop (mkF m 21 #[.val (.long q0), .second, .val (.int p1)] [(.int (1 : Int32))])) t → Steps p.tables e below S0 t := fun t k => K6 t (by
        refine XS.ifNo X6.here hx rfl (hb hby d4_17) rfl (XT.i0_eq_f hc17_1) ?_
        show Steps p.tables e below (T6.setTop (mkF m 20 #[.val (.long q0), .second, .val (.int p1)] [])) _
        refine XS.iconst X6.here hx rfl (hb hby d4_20) ?_
        show Steps p.tables e below (T6.setTop (mkF m 21 #[.val (.long q0), .second, .val (.int p1)] [(.int (1 : Int32))])) _
        exact k)
      obtain ⟨fs, hr, hrun, hended, hW, hsame⟩ := X6.leave (v := some (.int (1 : Int32))) (fun h => by rw [Bd.returns] at h; cases h)
      refine ⟨_, _, ?_, hrun, hended, _, _, rfl, ?_, ⟨_, rfl⟩, hW, hsame.mono (by decide) (by decide)⟩
      · rw [← hS0]; exact K32 _ (retI X6 hx Bd.returns (hb hby d4_21) hr)
      · show Q4 Z q0 p1 h0 n0 _ T6.heap _
        rw [e6]
        have qr : (1 : Int32) = (w4_r1 q0 p1) := by unfold w4_r1; rw [if_pos hc6_0, if_neg hc17_1]
        exact ⟨congrArg (fun z => some (Value.int z)) qr, N6, rfl⟩
  · -- no
    have K33 : ∀ t, Steps p.tables e below (T3.setTop (mkF m 10 #[.val (.long q0), .second, .val (.int p1)] [(.int (0 : Int32))])) t → Steps p.tables e below S0 t := fun t k => K3 t (by
      refine XS.ifNo X3.here hx rfl (hb hby d4_6) rfl (XT.i0_eq_f hc6_0) ?_
      show Steps p.tables e below (T3.setTop (mkF m 9 #[.val (.long q0), .second, .val (.int p1)] [])) _
      refine XS.iconst X3.here hx rfl (hb hby d4_9) ?_
      show Steps p.tables e below (T3.setTop (mkF m 10 #[.val (.long q0), .second, .val (.int p1)] [(.int (0 : Int32))])) _
      exact k)
    obtain ⟨fs, hr, hrun, hended, hW, hsame⟩ := X3.leave (v := some (.int (0 : Int32))) (fun h => by rw [Bd.returns] at h; cases h)
    refine ⟨_, _, ?_, hrun, hended, _, _, rfl, ?_, ⟨_, rfl⟩, hW, hsame.mono (by decide) (by decide)⟩
    · rw [← hS0]; exact K33 _ (retI X3 hx Bd.returns (hb hby d4_10) hr)
    · show Q4 Z q0 p1 h0 n0 _ T3.heap _
      rw [e3]
      have qr : (0 : Int32) = (w4_r1 q0 p1) := by unfold w4_r1; rw [if_neg hc6_0]
      exact ⟨congrArg (fun z => some (Value.int z)) qr, N3, rfl⟩
theorem d5_0 : decode method_5_code 0 = .ok (.lload_n 0, 1) := by decide +kernel
theorem d5_1 : decode method_5_code 1 = .ok (.bipush 8, 2) := by decide +kernel
theorem d5_3 : decode method_5_code 3 = .ok (.iload_n 2, 1) := by decide +kernel
theorem d5_4 : decode method_5_code 4 = .ok (.imul, 1) := by decide +kernel
theorem d5_5 : decode method_5_code 5 = .ok (.bipush 7, 2) := by decide +kernel
theorem d5_7 : decode method_5_code 7 = .ok (.iadd, 1) := by decide +kernel
theorem d5_8 : decode method_5_code 8 = .ok (.lushr, 1) := by decide +kernel
theorem d5_9 : decode method_5_code 9 = .ok (.lconst 1, 1) := by decide +kernel
theorem d5_10 : decode method_5_code 10 = .ok (.land, 1) := by decide +kernel
theorem d5_11 : decode method_5_code 11 = .ok (.lconst 0, 1) := by decide +kernel
theorem d5_12 : decode method_5_code 12 = .ok (.lcmp, 1) := by decide +kernel
theorem d5_13 : decode method_5_code 13 = .ok (.ifCond .eq 7, 3) := by decide +kernel
theorem d5_16 : decode method_5_code 16 = .ok (.iconst 1, 1) := by decide +kernel
theorem d5_17 : decode method_5_code 17 = .ok (.goto 4, 3) := by decide +kernel
theorem d5_20 : decode method_5_code 20 = .ok (.iconst 0, 1) := by decide +kernel
theorem d5_21 : decode method_5_code 21 = .ok (.ireturn, 1) := by decide +kernel
theorem pn5 : plainName "com/example/rota/rota/process/ByteWordsEqualPinLaw" = true := by first | (simp [plainName, overriddenIn]; done) | decide +kernel
theorem ef5 (m : MethodId) (q0 : Int64) (p1 : Int32) : entryFrame m #[(.long q0), (.int p1)] 3 = mkF m 0 #[.val (.long q0), .second, .val (.int p1)] [] := by first | (simp [entryFrame, mkF, argsToLocals, Value.category]; done) | rfl
def Q5 (Z : State) (q0 : Int64) (p1 : Int32) (h0 : Heap) (n0 : Nat) (v : Option Value) (h : Heap) (L : List Loc) : Prop := v = some (.int (w5_r2 q0 p1)) ∧ Fr n0 L ∧ h = h0
set_option maxRecDepth 65536 in
set_option maxHeartbeats 40000000 in
theorem rm5 (l : Launch) (Z : State) (a0 : Array Value) (hw : ∀ d ∈ tables_1, d.before a0 Z = true) (ws : List Jvm.Cond) (q0 : Int64) (p1 : Int32) (h0 : Heap) (n0 : Nat) (Z0 : n0 ≤ h0.size) :
    MetFree l (⟨"com/example/rota/rota/process/ByteWordsEqualPinLaw", "flagAt", "(JI)Z"⟩ : MethodName) (head1 (Jvm.Cond.code (⟨"com/example/rota/rota/process/ByteWordsEqualPinLaw", "flagAt", "(JI)Z"⟩ : MethodName) method_5_code 3 (some .boolean) :: ws) ({ frames := 0, cells := 0, slots := 0, locals := 0 } : Room)) (fun a U => a = #[(.long q0), (.int p1)] ∧ Z.Warmed39 U.vm ∧ U.heap = h0) (fun _ _ _ _ _ => True) (fun _ U o U' => ∃ v L, o = .returned v ∧ Q5 Z q0 p1 h0 n0 v U'.heap L ∧ FrameEnd U o U' L ({ frames := 0, cells := 0, slots := 0, locals := 0 } : Room).cells ({ frames := 0, cells := 0, slots := 0, locals := 0 } : Room).slots) := by
  refine MetFree.of_bodySF (plainFor_of_name pn5) hisR ?_
  intro p e s m args below meth c s₁ Bd hml0 hP hK
  obtain ⟨rfl, hZ, hh⟩ := hP
  have hx := Bd.exec
  have hby := Bd.bytes
  have hml : c.maxLocals = 3 := hml0
  have hown : s.vm.findClass "com/example/rota/rota/process/ByteWordsEqualPinLaw" = some m.cls := findClass_of_methodNamed Bd.named
  have hnm := (name_of_methodNamed Bd.named Bd.method).1
  have X0 : Stand p l e ({ frames := 0, cells := 0, slots := 0, locals := 0 } : Room) s m #[(.long q0), (.int p1)] below meth c s₁ [] 0 0 := Stand.of_body Bd
  have e0 : s₁.heap = h0 := by rw [← hh, Bd.state]; rfl
  have N0 := Fr.nil n0
  obtain ⟨S0, hS0⟩ : ∃ S0, S0 = s₁.setTop (entryFrame m #[(.long q0), (.int p1)] 3) := ⟨_, rfl⟩
  have pre0 : ∀ t, Steps p.tables e below (s₁.setTop (mkF m 0 #[.val (.long q0), .second, .val (.int p1)] [])) t → Steps p.tables e below S0 t := fun t k => by rw [hS0]; exact castTop (ef5 m q0 p1) k
  have K1 : ∀ t, Steps p.tables e below (s₁.setTop (mkF m 13 #[.val (.long q0), .second, .val (.int p1)] [(.int (lcmpW (w5_1 q0 p1) (0 : Int64)))])) t → Steps p.tables e below S0 t := fun t k => pre0 t (by
    refine XS.lloadN X0.here hx rfl (hb hby d5_0) rfl ?_
    show Steps p.tables e below (s₁.setTop (mkF m 1 #[.val (.long q0), .second, .val (.int p1)] [(.long q0)])) _
    refine XS.bipush X0.here hx rfl (hb hby d5_1) ?_
    show Steps p.tables e below (s₁.setTop (mkF m 3 #[.val (.long q0), .second, .val (.int p1)] [(.int (8 : Int32)), (.long q0)])) _
    refine XS.iloadN X0.here hx rfl (hb hby d5_3) rfl ?_
    show Steps p.tables e below (s₁.setTop (mkF m 4 #[.val (.long q0), .second, .val (.int p1)] [(.int p1), (.int (8 : Int32)), (.long q0)])) _
    refine XS.imul X0.here hx rfl (hb hby d5_4) rfl ?_
    show Steps p.tables e below (s₁.setTop (mkF m 5 #[.val (.long q0), .second, .val (.int p1)] [(.int ((8 : Int32) * p1)), (.long q0)])) _
    refine XS.bipush X0.here hx rfl (hb hby d5_5) ?_
    show Steps p.tables e below (s₁.setTop (mkF m 7 #[.val (.long q0), .second, .val (.int p1)] [(.int (7 : Int32)), (.int ((8 : Int32) * p1)), (.long q0)])) _
    refine XS.iadd X0.here hx rfl (hb hby d5_7) rfl ?_
    show Steps p.tables e below (s₁.setTop (mkF m 8 #[.val (.long q0), .second, .val (.int p1)] [(.int (((8 : Int32) * p1) + (7 : Int32))), (.long q0)])) _
    refine XS.lushr X0.here hx rfl (hb hby d5_8) rfl ?_
    show Steps p.tables e below (s₁.setTop (mkF m 9 #[.val (.long q0), .second, .val (.int p1)] [(.long ((q0.toUInt64 >>> ((((8 : Int32) * p1) + (7 : Int32)) &&& 0x3f).toInt64.toUInt64).toInt64))])) _
    refine XS.lconst X0.here hx rfl (hb hby d5_9) ?_
    show Steps p.tables e below (s₁.setTop (mkF m 10 #[.val (.long q0), .second, .val (.int p1)] [(.long (1 : Int64)), (.long ((q0.toUInt64 >>> ((((8 : Int32) * p1) + (7 : Int32)) &&& 0x3f).toInt64.toUInt64).toInt64))])) _
    refine XS.land X0.here hx rfl (hb hby d5_10) rfl ?_
    show Steps p.tables e below (s₁.setTop (mkF m 11 #[.val (.long q0), .second, .val (.int p1)] [(.long (((q0.toUInt64 >>> ((((8 : Int32) * p1) + (7 : Int32)) &&& 0x3f).toInt64.toUInt64).toInt64) &&& (1 : Int64)))])) _
    refine XS.lconst X0.here hx rfl (hb hby d5_11) ?_
    show Steps p.tables e below (s₁.setTop (mkF m 12 #[.val (.long q0), .second, .val (.int p1)] [(.long (0 : Int64)), (.long (((q0.toUInt64 >>> ((((8 : Int32) * p1) + (7 : Int32)) &&& 0x3f).toInt64.toUInt64).toInt64) &&& (1 : Int64)))])) _
    refine XS.lcmp X0.here hx rfl (hb hby d5_12) rfl ?_
    show Steps p.tables e below (s₁.setTop (mkF m 13 #[.val (.long q0), .second, .val (.int p1)] [(.int (lcmpW (w5_1 q0 p1) (0 : Int64)))])) _
    exact k)
  by_cases hc13_0 : (w5_1 q0 p1) = (0 : Int64)
  · -- yes
    have K2 : ∀ t, Steps p.tables e below (s₁.setTop (mkF m 21 #[.val (.long q0), .second, .val (.int p1)] [(.int (0 : Int32))])) t → Steps p.tables e below S0 t := fun t k => K1 t (by
      refine XS.ifYes X0.here hx rfl (pc0 := 13) (pc' := 20) rfl (hb hby d5_13) rfl (XT.ll_eq_t hc13_0) (by decide) (by decide) ?_
      show Steps p.tables e below (s₁.setTop (mkF m 20 #[.val (.long q0), .second, .val (.int p1)] [])) _
      refine XS.iconst X0.here hx rfl (hb hby d5_20) ?_
      show Steps p.tables e below (s₁.setTop (mkF m 21 #[.val (.long q0), .second, .val (.int p1)] [(.int (0 : Int32))])) _
      exact k)
    obtain ⟨fs, hr, hrun, hended, hW, hsame⟩ := X0.leave (v := some (.int (0 : Int32))) (fun h => by rw [Bd.returns] at h; cases h)
    refine ⟨_, _, ?_, hrun, hended, _, _, rfl, ?_, ⟨_, rfl⟩, hW, hsame.mono (by decide) (by decide)⟩
    · rw [← hS0]; exact K2 _ (retN X0 hx (t := .boolean) Bd.returns (by simp) (hb hby d5_21) hr)
    · show Q5 Z q0 p1 h0 n0 _ s₁.heap _
      rw [e0]
      have qr : (0 : Int32) = (w5_r2 q0 p1) := by unfold w5_r2; rw [if_pos hc13_0]
      exact ⟨congrArg (fun z => some (Value.int z)) qr, N0, rfl⟩
  · -- no
    have K3 : ∀ t, Steps p.tables e below (s₁.setTop (mkF m 21 #[.val (.long q0), .second, .val (.int p1)] [(.int (1 : Int32))])) t → Steps p.tables e below S0 t := fun t k => K1 t (by
      refine XS.ifNo X0.here hx rfl (hb hby d5_13) rfl (XT.ll_eq_f hc13_0) ?_
      show Steps p.tables e below (s₁.setTop (mkF m 16 #[.val (.long q0), .second, .val (.int p1)] [])) _
      refine XS.iconst X0.here hx rfl (hb hby d5_16) ?_
      show Steps p.tables e below (s₁.setTop (mkF m 17 #[.val (.long q0), .second, .val (.int p1)] [(.int (1 : Int32))])) _
      refine XS.goto X0.here hx rfl (pc0 := 17) (pc' := 21) rfl (hb hby d5_17) (by decide) (by decide) ?_
      show Steps p.tables e below (s₁.setTop (mkF m 21 #[.val (.long q0), .second, .val (.int p1)] [(.int (1 : Int32))])) _
      exact k)
    obtain ⟨fs, hr, hrun, hended, hW, hsame⟩ := X0.leave (v := some (.int (1 : Int32))) (fun h => by rw [Bd.returns] at h; cases h)
    refine ⟨_, _, ?_, hrun, hended, _, _, rfl, ?_, ⟨_, rfl⟩, hW, hsame.mono (by decide) (by decide)⟩
    · rw [← hS0]; exact K3 _ (retN X0 hx (t := .boolean) Bd.returns (by simp) (hb hby d5_21) hr)
    · show Q5 Z q0 p1 h0 n0 _ s₁.heap _
      rw [e0]
      have qr : (1 : Int32) = (w5_r2 q0 p1) := by unfold w5_r2; rw [if_neg hc13_0]
      exact ⟨congrArg (fun z => some (Value.int z)) qr, N0, rfl⟩
theorem d6_0 : decode method_7_code 0 = .ok (.lload_n 0, 1) := by decide +kernel
theorem d6_1 : decode method_7_code 1 = .ok (.iload 5, 2) := by decide +kernel
theorem d6_3 : decode method_7_code 3 = .ok (.iload 4, 2) := by decide +kernel
theorem d6_5 : decode method_7_code 5 = .ok (.invokestatic 35, 3) := by decide +kernel
theorem d6_8 : decode method_7_code 8 = .ok (.istore 7, 2) := by decide +kernel
theorem d6_10 : decode method_7_code 10 = .ok (.lload_n 2, 1) := by decide +kernel
theorem d6_11 : decode method_7_code 11 = .ok (.iload 5, 2) := by decide +kernel
theorem d6_13 : decode method_7_code 13 = .ok (.invokestatic 39, 3) := by decide +kernel
theorem d6_16 : decode method_7_code 16 = .ok (.istore 8, 2) := by decide +kernel
theorem d6_18 : decode method_7_code 18 = .ok (.iload 5, 2) := by decide +kernel
theorem d6_20 : decode method_7_code 20 = .ok (.iload 6, 2) := by decide +kernel
theorem d6_22 : decode method_7_code 22 = .ok (.if_icmp .gt 16, 3) := by decide +kernel
theorem d6_25 : decode method_7_code 25 = .ok (.iload 7, 2) := by decide +kernel
theorem d6_27 : decode method_7_code 27 = .ok (.iload 8, 2) := by decide +kernel
theorem d6_29 : decode method_7_code 29 = .ok (.if_icmp .ne 7, 3) := by decide +kernel
theorem d6_32 : decode method_7_code 32 = .ok (.iconst 1, 1) := by decide +kernel
theorem d6_33 : decode method_7_code 33 = .ok (.goto 4, 3) := by decide +kernel
theorem d6_36 : decode method_7_code 36 = .ok (.iconst 0, 1) := by decide +kernel
theorem d6_37 : decode method_7_code 37 = .ok (.ireturn, 1) := by decide +kernel
theorem d6_38 : decode method_7_code 38 = .ok (.iload 7, 2) := by decide +kernel
theorem d6_40 : decode method_7_code 40 = .ok (.ifCond .eq 8, 3) := by decide +kernel
theorem d6_43 : decode method_7_code 43 = .ok (.iload 8, 2) := by decide +kernel
theorem d6_45 : decode method_7_code 45 = .ok (.ifCond .eq 7, 3) := by decide +kernel
theorem d6_48 : decode method_7_code 48 = .ok (.iconst 1, 1) := by decide +kernel
theorem d6_49 : decode method_7_code 49 = .ok (.goto 4, 3) := by decide +kernel
theorem d6_52 : decode method_7_code 52 = .ok (.iconst 0, 1) := by decide +kernel
theorem d6_53 : decode method_7_code 53 = .ok (.ireturn, 1) := by decide +kernel
theorem pn6 : plainName "com/example/rota/rota/process/ByteWordsEqualPinLaw" = true := by first | (simp [plainName, overriddenIn]; done) | decide +kernel
theorem pd6_0 : parseMethodDescriptor "(JII)Z" = some ⟨[.long, .int, .int], some .boolean⟩ := by decide +kernel
theorem pd6_1 : parseMethodDescriptor "(JI)Z" = some ⟨[.long, .int], some .boolean⟩ := by decide +kernel
theorem ef6 (m : MethodId) (q0 : Int64) (q1 : Int64) (p2 : Int32) (p3 : Int32) (p4 : Int32) : entryFrame m #[(.long q0), (.long q1), (.int p2), (.int p3), (.int p4)] 9 = mkF m 0 #[.val (.long q0), .second, .val (.long q1), .second, .val (.int p2), .val (.int p3), .val (.int p4), .unset, .unset] [] := by first | (simp [entryFrame, mkF, argsToLocals, Value.category]; done) | rfl
def Q6 (Z : State) (q0 : Int64) (q1 : Int64) (p2 : Int32) (p3 : Int32) (p4 : Int32) (h0 : Heap) (n0 : Nat) (v : Option Value) (h : Heap) (L : List Loc) : Prop := v = some (.int (w6_r1 q0 q1 p2 p3 p4)) ∧ Fr n0 L ∧ h = h0
set_option maxRecDepth 65536 in
set_option maxHeartbeats 40000000 in
theorem rm6 (l : Launch) (Z : State) (a0 : Array Value) (hw : ∀ d ∈ tables_1, d.before a0 Z = true) (ws : List Jvm.Cond) (q0 : Int64) (q1 : Int64) (p2 : Int32) (p3 : Int32) (p4 : Int32) (h0 : Heap) (n0 : Nat) (Z0 : n0 ≤ h0.size) :
    MetFree l (⟨"com/example/rota/rota/process/ByteWordsEqualPinLaw", "ok", "(JJIII)Z"⟩ : MethodName) (head1 (Jvm.Cond.code (⟨"com/example/rota/rota/process/ByteWordsEqualPinLaw", "ok", "(JJIII)Z"⟩ : MethodName) method_7_code 9 (some .boolean) :: ws) ({ frames := 1, cells := 0, slots := 0, locals := 15 } : Room)) (fun a U => a = #[(.long q0), (.long q1), (.int p2), (.int p3), (.int p4)] ∧ Z.Warmed39 U.vm ∧ U.heap = h0) (fun _ _ _ _ _ => True) (fun _ U o U' => ∃ v L, o = .returned v ∧ Q6 Z q0 q1 p2 p3 p4 h0 n0 v U'.heap L ∧ FrameEnd U o U' L ({ frames := 1, cells := 0, slots := 0, locals := 15 } : Room).cells ({ frames := 1, cells := 0, slots := 0, locals := 15 } : Room).slots) := by
  refine MetFree.of_bodySF (plainFor_of_name pn6) hisR ?_
  intro p e s m args below meth c s₁ Bd hml0 hP hK
  obtain ⟨rfl, hZ, hh⟩ := hP
  have hx := Bd.exec
  have hby := Bd.bytes
  have hml : c.maxLocals = 9 := hml0
  have hown : s.vm.findClass "com/example/rota/rota/process/ByteWordsEqualPinLaw" = some m.cls := findClass_of_methodNamed Bd.named
  have hnm := (name_of_methodNamed Bd.named Bd.method).1
  have X0 : Stand p l e ({ frames := 1, cells := 0, slots := 0, locals := 15 } : Room) s m #[(.long q0), (.long q1), (.int p2), (.int p3), (.int p4)] below meth c s₁ [] 0 0 := Stand.of_body Bd
  have e0 : s₁.heap = h0 := by rw [← hh, Bd.state]; rfl
  have N0 := Fr.nil n0
  obtain ⟨S0, hS0⟩ : ∃ S0, S0 = s₁.setTop (entryFrame m #[(.long q0), (.long q1), (.int p2), (.int p3), (.int p4)] 9) := ⟨_, rfl⟩
  have pre0 : ∀ t, Steps p.tables e below (s₁.setTop (mkF m 0 #[.val (.long q0), .second, .val (.long q1), .second, .val (.int p2), .val (.int p3), .val (.int p4), .unset, .unset] [])) t → Steps p.tables e below S0 t := fun t k => by rw [hS0]; exact castTop (ef6 m q0 q1 p2 p3 p4) k
  have K1 : ∀ t, Steps p.tables e below (s₁.setTop (mkF m 5 #[.val (.long q0), .second, .val (.long q1), .second, .val (.int p2), .val (.int p3), .val (.int p4), .unset, .unset] [(.int p2), (.int p3), (.long q0)])) t → Steps p.tables e below S0 t := fun t k => pre0 t (by
    refine XS.lloadN X0.here hx rfl (hb hby d6_0) rfl ?_
    show Steps p.tables e below (s₁.setTop (mkF m 1 #[.val (.long q0), .second, .val (.long q1), .second, .val (.int p2), .val (.int p3), .val (.int p4), .unset, .unset] [(.long q0)])) _
    refine XS.iload X0.here hx rfl (hb hby d6_1) rfl ?_
    show Steps p.tables e below (s₁.setTop (mkF m 3 #[.val (.long q0), .second, .val (.long q1), .second, .val (.int p2), .val (.int p3), .val (.int p4), .unset, .unset] [(.int p3), (.long q0)])) _
    refine XS.iload X0.here hx rfl (hb hby d6_3) rfl ?_
    show Steps p.tables e below (s₁.setTop (mkF m 5 #[.val (.long q0), .second, .val (.long q1), .second, .val (.int p2), .val (.int p3), .val (.int p4), .unset, .unset] [(.int p2), (.int p3), (.long q0)])) _
    exact k)
  have K_2 : ∀ t, Steps p.tables e below (s₁.setTop (mkF m 5 #[.val (.long q0), .second, .val (.long q1), .second, .val (.int p2), .val (.int p3), .val (.int p4), .unset, .unset] [(.int p2), (.int p3), (.long q0)])) t → Steps p.tables e below S0 t := K1
  obtain ⟨_, _, ⟨T3, L3, k3, n3⟩, -, X3, ⟨Lc3, hQ3, l3, y3, z3⟩, st3⟩ := Jvm.LawKit.callS X0 hx (y := (⟨"com/example/rota/rota/process/ByteWordsEqualPinLaw", "eqAt", "(JII)Z"⟩ : MethodName)) hown (mvT hZ (hw _ (List.mem_of_getElem? (i := 18) rfl))) (mvT hZ (hw _ (List.mem_of_getElem? (i := 19) rfl))) (mvT hZ (hw _ (List.mem_of_getElem? (i := 2) rfl))) (mvT hZ (hw _ (List.mem_of_getElem? (i := 20) rfl))) (by decide) (backOf (W := 0) (rm3 l Z a0 hw [] q0 p3 p2 h0 n0 Z0 ) hZ (hw _ (List.mem_of_getElem? (i := 20) rfl)) (hw _ (List.mem_of_getElem? (i := 2) rfl)) (by decide) (by decide)) (g := (mkF m 5 #[.val (.long q0), .second, .val (.long q1), .second, .val (.int p2), .val (.int p3), .val (.int p4), .unset, .unset] [(.int p2), (.int p3), (.long q0)])) rfl (by rw [hml]; rfl) (argsL := [(.long q0), (.int p3), (.int p2)]) (rest := []) (lenOf pd6_0 rfl) rfl (by show 2 * 0 + _ ≤ _; exact Nat.le_of_eq rfl) (hb hby d6_5) (fun _ _ => ⟨rfl, e0, (by decide : 0 + 0 ≤ 0), (by decide : 0 + 0 ≤ 0)⟩)
  dsimp only [Pt.U, Pt.locs, Pt.cells, Pt.slots] at X3 l3 y3 z3 st3 hQ3
  subst l3 y3 z3
  obtain ⟨rfl, N3q, e3⟩ := hQ3
  have N3 := Fr.app N0 N3q
  have K3 : ∀ t, Steps p.tables e below (T3.setTop (mkF m 8 #[.val (.long q0), .second, .val (.long q1), .second, .val (.int p2), .val (.int p3), .val (.int p4), .unset, .unset] [(.int (w3_r2 q0 p3 p2))])) t → Steps p.tables e below S0 t := fun t k => K_2 t (st3 t k)
  have K4 : ∀ t, Steps p.tables e below (T3.setTop (mkF m 13 #[.val (.long q0), .second, .val (.long q1), .second, .val (.int p2), .val (.int p3), .val (.int p4), .val (.int (w3_r2 q0 p3 p2)), .unset] [(.int p3), (.long q1)])) t → Steps p.tables e below S0 t := fun t k => K3 t (by
    refine XS.istore X3.here hx rfl (hb hby d6_8) rfl (l' := #[.val (.long q0), .second, .val (.long q1), .second, .val (.int p2), .val (.int p3), .val (.int p4), .val (.int (w3_r2 q0 p3 p2)), .unset]) rfl ?_
    show Steps p.tables e below (T3.setTop (mkF m 10 #[.val (.long q0), .second, .val (.long q1), .second, .val (.int p2), .val (.int p3), .val (.int p4), .val (.int (w3_r2 q0 p3 p2)), .unset] [])) _
    refine XS.lloadN X3.here hx rfl (hb hby d6_10) rfl ?_
    show Steps p.tables e below (T3.setTop (mkF m 11 #[.val (.long q0), .second, .val (.long q1), .second, .val (.int p2), .val (.int p3), .val (.int p4), .val (.int (w3_r2 q0 p3 p2)), .unset] [(.long q1)])) _
    refine XS.iload X3.here hx rfl (hb hby d6_11) rfl ?_
    show Steps p.tables e below (T3.setTop (mkF m 13 #[.val (.long q0), .second, .val (.long q1), .second, .val (.int p2), .val (.int p3), .val (.int p4), .val (.int (w3_r2 q0 p3 p2)), .unset] [(.int p3), (.long q1)])) _
    exact k)
  have K_5 : ∀ t, Steps p.tables e below (T3.setTop (mkF m 13 #[.val (.long q0), .second, .val (.long q1), .second, .val (.int p2), .val (.int p3), .val (.int p4), .val (.int (w3_r2 q0 p3 p2)), .unset] [(.int p3), (.long q1)])) t → Steps p.tables e below S0 t := K4
  obtain ⟨_, _, ⟨T6, L6, k6, n6⟩, -, X6, ⟨Lc6, hQ6, l6, y6, z6⟩, st6⟩ := Jvm.LawKit.callS X3 hx (y := (⟨"com/example/rota/rota/process/ByteWordsEqualPinLaw", "flagAt", "(JI)Z"⟩ : MethodName)) hown (mvT hZ (hw _ (List.mem_of_getElem? (i := 24) rfl))) (mvT hZ (hw _ (List.mem_of_getElem? (i := 25) rfl))) (mvT hZ (hw _ (List.mem_of_getElem? (i := 2) rfl))) (mvT hZ (hw _ (List.mem_of_getElem? (i := 26) rfl))) (by decide) (backOf (W := 0) (rm5 l Z a0 hw [] q1 p3 h0 n0 Z0 ) hZ (hw _ (List.mem_of_getElem? (i := 26) rfl)) (hw _ (List.mem_of_getElem? (i := 2) rfl)) (by decide) (by decide)) (g := (mkF m 13 #[.val (.long q0), .second, .val (.long q1), .second, .val (.int p2), .val (.int p3), .val (.int p4), .val (.int (w3_r2 q0 p3 p2)), .unset] [(.int p3), (.long q1)])) rfl (by rw [hml]; rfl) (argsL := [(.long q1), (.int p3)]) (rest := []) (lenOf pd6_1 rfl) rfl (by show 2 * 0 + _ ≤ _; exact Nat.le_of_eq rfl) (hb hby d6_13) (fun _ _ => ⟨rfl, e3, (by decide : 0 + 0 ≤ 0), (by decide : 0 + 0 ≤ 0)⟩)
  dsimp only [Pt.U, Pt.locs, Pt.cells, Pt.slots] at X6 l6 y6 z6 st6 hQ6
  subst l6 y6 z6
  obtain ⟨rfl, N6q, e6⟩ := hQ6
  have N6 := Fr.app N3 N6q
  have K6 : ∀ t, Steps p.tables e below (T6.setTop (mkF m 16 #[.val (.long q0), .second, .val (.long q1), .second, .val (.int p2), .val (.int p3), .val (.int p4), .val (.int (w3_r2 q0 p3 p2)), .unset] [(.int (w5_r2 q1 p3))])) t → Steps p.tables e below S0 t := fun t k => K_5 t (st6 t k)
  have K7 : ∀ t, Steps p.tables e below (T6.setTop (mkF m 22 #[.val (.long q0), .second, .val (.long q1), .second, .val (.int p2), .val (.int p3), .val (.int p4), .val (.int (w3_r2 q0 p3 p2)), .val (.int (w5_r2 q1 p3))] [(.int p4), (.int p3)])) t → Steps p.tables e below S0 t := fun t k => K6 t (by
    refine XS.istore X6.here hx rfl (hb hby d6_16) rfl (l' := #[.val (.long q0), .second, .val (.long q1), .second, .val (.int p2), .val (.int p3), .val (.int p4), .val (.int (w3_r2 q0 p3 p2)), .val (.int (w5_r2 q1 p3))]) rfl ?_
    show Steps p.tables e below (T6.setTop (mkF m 18 #[.val (.long q0), .second, .val (.long q1), .second, .val (.int p2), .val (.int p3), .val (.int p4), .val (.int (w3_r2 q0 p3 p2)), .val (.int (w5_r2 q1 p3))] [])) _
    refine XS.iload X6.here hx rfl (hb hby d6_18) rfl ?_
    show Steps p.tables e below (T6.setTop (mkF m 20 #[.val (.long q0), .second, .val (.long q1), .second, .val (.int p2), .val (.int p3), .val (.int p4), .val (.int (w3_r2 q0 p3 p2)), .val (.int (w5_r2 q1 p3))] [(.int p3)])) _
    refine XS.iload X6.here hx rfl (hb hby d6_20) rfl ?_
    show Steps p.tables e below (T6.setTop (mkF m 22 #[.val (.long q0), .second, .val (.long q1), .second, .val (.int p2), .val (.int p3), .val (.int p4), .val (.int (w3_r2 q0 p3 p2)), .val (.int (w5_r2 q1 p3))] [(.int p4), (.int p3)])) _
    exact k)
  by_cases hc22_0 : p4 < p3
  · -- yes
    have K8 : ∀ t, Steps p.tables e below (T6.setTop (mkF m 40 #[.val (.long q0), .second, .val (.long q1), .second, .val (.int p2), .val (.int p3), .val (.int p4), .val (.int (w3_r2 q0 p3 p2)), .val (.int (w5_r2 q1 p3))] [(.int (w3_r2 q0 p3 p2))])) t → Steps p.tables e below S0 t := fun t k => K7 t (by
      refine XS.icmpYes X6.here hx rfl (pc0 := 22) (pc' := 38) rfl (hb hby d6_22) rfl (XT.ii_gt_t hc22_0) (by decide) (by decide) ?_
      show Steps p.tables e below (T6.setTop (mkF m 38 #[.val (.long q0), .second, .val (.long q1), .second, .val (.int p2), .val (.int p3), .val (.int p4), .val (.int (w3_r2 q0 p3 p2)), .val (.int (w5_r2 q1 p3))] [])) _
      refine XS.iload X6.here hx rfl (hb hby d6_38) rfl ?_
      show Steps p.tables e below (T6.setTop (mkF m 40 #[.val (.long q0), .second, .val (.long q1), .second, .val (.int p2), .val (.int p3), .val (.int p4), .val (.int (w3_r2 q0 p3 p2)), .val (.int (w5_r2 q1 p3))] [(.int (w3_r2 q0 p3 p2))])) _
      exact k)
    by_cases hc40_1 : (w3_r2 q0 p3 p2) = (0 : Int32)
    · -- yes
      have K9 : ∀ t, Steps p.tables e below (T6.setTop (mkF m 53 #[.val (.long q0), .second, .val (.long q1), .second, .val (.int p2), .val (.int p3), .val (.int p4), .val (.int (w3_r2 q0 p3 p2)), .val (.int (w5_r2 q1 p3))] [(.int (1 : Int32))])) t → Steps p.tables e below S0 t := fun t k => K8 t (by
        refine XS.ifYes X6.here hx rfl (pc0 := 40) (pc' := 48) rfl (hb hby d6_40) rfl (XT.i0_eq_t hc40_1) (by decide) (by decide) ?_
        show Steps p.tables e below (T6.setTop (mkF m 48 #[.val (.long q0), .second, .val (.long q1), .second, .val (.int p2), .val (.int p3), .val (.int p4), .val (.int (w3_r2 q0 p3 p2)), .val (.int (w5_r2 q1 p3))] [])) _
        refine XS.iconst X6.here hx rfl (hb hby d6_48) ?_
        show Steps p.tables e below (T6.setTop (mkF m 49 #[.val (.long q0), .second, .val (.long q1), .second, .val (.int p2), .val (.int p3), .val (.int p4), .val (.int (w3_r2 q0 p3 p2)), .val (.int (w5_r2 q1 p3))] [(.int (1 : Int32))])) _
        refine XS.goto X6.here hx rfl (pc0 := 49) (pc' := 53) rfl (hb hby d6_49) (by decide) (by decide) ?_
        show Steps p.tables e below (T6.setTop (mkF m 53 #[.val (.long q0), .second, .val (.long q1), .second, .val (.int p2), .val (.int p3), .val (.int p4), .val (.int (w3_r2 q0 p3 p2)), .val (.int (w5_r2 q1 p3))] [(.int (1 : Int32))])) _
        exact k)
      obtain ⟨fs, hr, hrun, hended, hW, hsame⟩ := X6.leave (v := some (.int (1 : Int32))) (fun h => by rw [Bd.returns] at h; cases h)
      refine ⟨_, _, ?_, hrun, hended, _, _, rfl, ?_, ⟨_, rfl⟩, hW, hsame.mono (by decide) (by decide)⟩
      · rw [← hS0]; exact K9 _ (retN X6 hx (t := .boolean) Bd.returns (by simp) (hb hby d6_53) hr)
      · show Q6 Z q0 q1 p2 p3 p4 h0 n0 _ T6.heap _
        rw [e6]
        have qr : (1 : Int32) = (w6_r1 q0 q1 p2 p3 p4) := by unfold w6_r1; rw [if_pos hc22_0, if_pos hc40_1]
        exact ⟨congrArg (fun z => some (Value.int z)) qr, N6, rfl⟩
    · -- no
      have K10 : ∀ t, Steps p.tables e below (T6.setTop (mkF m 45 #[.val (.long q0), .second, .val (.long q1), .second, .val (.int p2), .val (.int p3), .val (.int p4), .val (.int (w3_r2 q0 p3 p2)), .val (.int (w5_r2 q1 p3))] [(.int (w5_r2 q1 p3))])) t → Steps p.tables e below S0 t := fun t k => K8 t (by
        refine XS.ifNo X6.here hx rfl (hb hby d6_40) rfl (XT.i0_eq_f hc40_1) ?_
        show Steps p.tables e below (T6.setTop (mkF m 43 #[.val (.long q0), .second, .val (.long q1), .second, .val (.int p2), .val (.int p3), .val (.int p4), .val (.int (w3_r2 q0 p3 p2)), .val (.int (w5_r2 q1 p3))] [])) _
        refine XS.iload X6.here hx rfl (hb hby d6_43) rfl ?_
        show Steps p.tables e below (T6.setTop (mkF m 45 #[.val (.long q0), .second, .val (.long q1), .second, .val (.int p2), .val (.int p3), .val (.int p4), .val (.int (w3_r2 q0 p3 p2)), .val (.int (w5_r2 q1 p3))] [(.int (w5_r2 q1 p3))])) _
        exact k)
      by_cases hc45_2 : (w5_r2 q1 p3) = (0 : Int32)
      · -- yes
        have K11 : ∀ t, Steps p.tables e below (T6.setTop (mkF m 53 #[.val (.long q0), .second, .val (.long q1), .second, .val (.int p2), .val (.int p3), .val (.int p4), .val (.int (w3_r2 q0 p3 p2)), .val (.int (w5_r2 q1 p3))] [(.int (0 : Int32))])) t → Steps p.tables e below S0 t := fun t k => K10 t (by
          refine XS.ifYes X6.here hx rfl (pc0 := 45) (pc' := 52) rfl (hb hby d6_45) rfl (XT.i0_eq_t hc45_2) (by decide) (by decide) ?_
          show Steps p.tables e below (T6.setTop (mkF m 52 #[.val (.long q0), .second, .val (.long q1), .second, .val (.int p2), .val (.int p3), .val (.int p4), .val (.int (w3_r2 q0 p3 p2)), .val (.int (w5_r2 q1 p3))] [])) _
          refine XS.iconst X6.here hx rfl (hb hby d6_52) ?_
          show Steps p.tables e below (T6.setTop (mkF m 53 #[.val (.long q0), .second, .val (.long q1), .second, .val (.int p2), .val (.int p3), .val (.int p4), .val (.int (w3_r2 q0 p3 p2)), .val (.int (w5_r2 q1 p3))] [(.int (0 : Int32))])) _
          exact k)
        obtain ⟨fs, hr, hrun, hended, hW, hsame⟩ := X6.leave (v := some (.int (0 : Int32))) (fun h => by rw [Bd.returns] at h; cases h)
        refine ⟨_, _, ?_, hrun, hended, _, _, rfl, ?_, ⟨_, rfl⟩, hW, hsame.mono (by decide) (by decide)⟩
        · rw [← hS0]; exact K11 _ (retN X6 hx (t := .boolean) Bd.returns (by simp) (hb hby d6_53) hr)
        · show Q6 Z q0 q1 p2 p3 p4 h0 n0 _ T6.heap _
          rw [e6]
          have qr : (0 : Int32) = (w6_r1 q0 q1 p2 p3 p4) := by unfold w6_r1; rw [if_pos hc22_0, if_neg hc40_1, if_pos hc45_2]
          exact ⟨congrArg (fun z => some (Value.int z)) qr, N6, rfl⟩
      · -- no
        have K12 : ∀ t, Steps p.tables e below (T6.setTop (mkF m 53 #[.val (.long q0), .second, .val (.long q1), .second, .val (.int p2), .val (.int p3), .val (.int p4), .val (.int (w3_r2 q0 p3 p2)), .val (.int (w5_r2 q1 p3))] [(.int (1 : Int32))])) t → Steps p.tables e below S0 t := fun t k => K10 t (by
          refine XS.ifNo X6.here hx rfl (hb hby d6_45) rfl (XT.i0_eq_f hc45_2) ?_
          show Steps p.tables e below (T6.setTop (mkF m 48 #[.val (.long q0), .second, .val (.long q1), .second, .val (.int p2), .val (.int p3), .val (.int p4), .val (.int (w3_r2 q0 p3 p2)), .val (.int (w5_r2 q1 p3))] [])) _
          refine XS.iconst X6.here hx rfl (hb hby d6_48) ?_
          show Steps p.tables e below (T6.setTop (mkF m 49 #[.val (.long q0), .second, .val (.long q1), .second, .val (.int p2), .val (.int p3), .val (.int p4), .val (.int (w3_r2 q0 p3 p2)), .val (.int (w5_r2 q1 p3))] [(.int (1 : Int32))])) _
          refine XS.goto X6.here hx rfl (pc0 := 49) (pc' := 53) rfl (hb hby d6_49) (by decide) (by decide) ?_
          show Steps p.tables e below (T6.setTop (mkF m 53 #[.val (.long q0), .second, .val (.long q1), .second, .val (.int p2), .val (.int p3), .val (.int p4), .val (.int (w3_r2 q0 p3 p2)), .val (.int (w5_r2 q1 p3))] [(.int (1 : Int32))])) _
          exact k)
        obtain ⟨fs, hr, hrun, hended, hW, hsame⟩ := X6.leave (v := some (.int (1 : Int32))) (fun h => by rw [Bd.returns] at h; cases h)
        refine ⟨_, _, ?_, hrun, hended, _, _, rfl, ?_, ⟨_, rfl⟩, hW, hsame.mono (by decide) (by decide)⟩
        · rw [← hS0]; exact K12 _ (retN X6 hx (t := .boolean) Bd.returns (by simp) (hb hby d6_53) hr)
        · show Q6 Z q0 q1 p2 p3 p4 h0 n0 _ T6.heap _
          rw [e6]
          have qr : (1 : Int32) = (w6_r1 q0 q1 p2 p3 p4) := by unfold w6_r1; rw [if_pos hc22_0, if_neg hc40_1, if_neg hc45_2]
          exact ⟨congrArg (fun z => some (Value.int z)) qr, N6, rfl⟩
  · -- no
    have K13 : ∀ t, Steps p.tables e below (T6.setTop (mkF m 29 #[.val (.long q0), .second, .val (.long q1), .second, .val (.int p2), .val (.int p3), .val (.int p4), .val (.int (w3_r2 q0 p3 p2)), .val (.int (w5_r2 q1 p3))] [(.int (w5_r2 q1 p3)), (.int (w3_r2 q0 p3 p2))])) t → Steps p.tables e below S0 t := fun t k => K7 t (by
      refine XS.icmpNo X6.here hx rfl (hb hby d6_22) rfl (XT.ii_gt_f hc22_0) ?_
      show Steps p.tables e below (T6.setTop (mkF m 25 #[.val (.long q0), .second, .val (.long q1), .second, .val (.int p2), .val (.int p3), .val (.int p4), .val (.int (w3_r2 q0 p3 p2)), .val (.int (w5_r2 q1 p3))] [])) _
      refine XS.iload X6.here hx rfl (hb hby d6_25) rfl ?_
      show Steps p.tables e below (T6.setTop (mkF m 27 #[.val (.long q0), .second, .val (.long q1), .second, .val (.int p2), .val (.int p3), .val (.int p4), .val (.int (w3_r2 q0 p3 p2)), .val (.int (w5_r2 q1 p3))] [(.int (w3_r2 q0 p3 p2))])) _
      refine XS.iload X6.here hx rfl (hb hby d6_27) rfl ?_
      show Steps p.tables e below (T6.setTop (mkF m 29 #[.val (.long q0), .second, .val (.long q1), .second, .val (.int p2), .val (.int p3), .val (.int p4), .val (.int (w3_r2 q0 p3 p2)), .val (.int (w5_r2 q1 p3))] [(.int (w5_r2 q1 p3)), (.int (w3_r2 q0 p3 p2))])) _
      exact k)
    by_cases hc29_1 : (w3_r2 q0 p3 p2) = (w5_r2 q1 p3)
    · -- yes
      have K14 : ∀ t, Steps p.tables e below (T6.setTop (mkF m 37 #[.val (.long q0), .second, .val (.long q1), .second, .val (.int p2), .val (.int p3), .val (.int p4), .val (.int (w3_r2 q0 p3 p2)), .val (.int (w5_r2 q1 p3))] [(.int (1 : Int32))])) t → Steps p.tables e below S0 t := fun t k => K13 t (by
        refine XS.icmpNo X6.here hx rfl (hb hby d6_29) rfl (XT.ii_ne_f hc29_1) ?_
        show Steps p.tables e below (T6.setTop (mkF m 32 #[.val (.long q0), .second, .val (.long q1), .second, .val (.int p2), .val (.int p3), .val (.int p4), .val (.int (w3_r2 q0 p3 p2)), .val (.int (w5_r2 q1 p3))] [])) _
        refine XS.iconst X6.here hx rfl (hb hby d6_32) ?_
        show Steps p.tables e below (T6.setTop (mkF m 33 #[.val (.long q0), .second, .val (.long q1), .second, .val (.int p2), .val (.int p3), .val (.int p4), .val (.int (w3_r2 q0 p3 p2)), .val (.int (w5_r2 q1 p3))] [(.int (1 : Int32))])) _
        refine XS.goto X6.here hx rfl (pc0 := 33) (pc' := 37) rfl (hb hby d6_33) (by decide) (by decide) ?_
        show Steps p.tables e below (T6.setTop (mkF m 37 #[.val (.long q0), .second, .val (.long q1), .second, .val (.int p2), .val (.int p3), .val (.int p4), .val (.int (w3_r2 q0 p3 p2)), .val (.int (w5_r2 q1 p3))] [(.int (1 : Int32))])) _
        exact k)
      obtain ⟨fs, hr, hrun, hended, hW, hsame⟩ := X6.leave (v := some (.int (1 : Int32))) (fun h => by rw [Bd.returns] at h; cases h)
      refine ⟨_, _, ?_, hrun, hended, _, _, rfl, ?_, ⟨_, rfl⟩, hW, hsame.mono (by decide) (by decide)⟩
      · rw [← hS0]; exact K14 _ (retN X6 hx (t := .boolean) Bd.returns (by simp) (hb hby d6_37) hr)
      · show Q6 Z q0 q1 p2 p3 p4 h0 n0 _ T6.heap _
        rw [e6]
        have qr : (1 : Int32) = (w6_r1 q0 q1 p2 p3 p4) := by unfold w6_r1; rw [if_neg hc22_0, if_pos hc29_1]
        exact ⟨congrArg (fun z => some (Value.int z)) qr, N6, rfl⟩
    · -- no
      have K15 : ∀ t, Steps p.tables e below (T6.setTop (mkF m 37 #[.val (.long q0), .second, .val (.long q1), .second, .val (.int p2), .val (.int p3), .val (.int p4), .val (.int (w3_r2 q0 p3 p2)), .val (.int (w5_r2 q1 p3))] [(.int (0 : Int32))])) t → Steps p.tables e below S0 t := fun t k => K13 t (by
        refine XS.icmpYes X6.here hx rfl (pc0 := 29) (pc' := 36) rfl (hb hby d6_29) rfl (XT.ii_ne_t hc29_1) (by decide) (by decide) ?_
        show Steps p.tables e below (T6.setTop (mkF m 36 #[.val (.long q0), .second, .val (.long q1), .second, .val (.int p2), .val (.int p3), .val (.int p4), .val (.int (w3_r2 q0 p3 p2)), .val (.int (w5_r2 q1 p3))] [])) _
        refine XS.iconst X6.here hx rfl (hb hby d6_36) ?_
        show Steps p.tables e below (T6.setTop (mkF m 37 #[.val (.long q0), .second, .val (.long q1), .second, .val (.int p2), .val (.int p3), .val (.int p4), .val (.int (w3_r2 q0 p3 p2)), .val (.int (w5_r2 q1 p3))] [(.int (0 : Int32))])) _
        exact k)
      obtain ⟨fs, hr, hrun, hended, hW, hsame⟩ := X6.leave (v := some (.int (0 : Int32))) (fun h => by rw [Bd.returns] at h; cases h)
      refine ⟨_, _, ?_, hrun, hended, _, _, rfl, ?_, ⟨_, rfl⟩, hW, hsame.mono (by decide) (by decide)⟩
      · rw [← hS0]; exact K15 _ (retN X6 hx (t := .boolean) Bd.returns (by simp) (hb hby d6_37) hr)
      · show Q6 Z q0 q1 p2 p3 p4 h0 n0 _ T6.heap _
        rw [e6]
        have qr : (0 : Int32) = (w6_r1 q0 q1 p2 p3 p4) := by unfold w6_r1; rw [if_neg hc22_0, if_neg hc29_1]
        exact ⟨congrArg (fun z => some (Value.int z)) qr, N6, rfl⟩
theorem pn0 : plainName "com/example/rota/rota/process/ByteWordsEqualPinLaw" = true := by first | (simp [plainName, overriddenIn]; done) | decide +kernel
theorem pd0_0 : parseMethodDescriptor "(JIII)J" = some ⟨[.long, .int, .int, .int], some .long⟩ := by decide +kernel
theorem pd0_1 : parseMethodDescriptor "(JJ)J" = some ⟨[.long, .long], some .long⟩ := by decide +kernel
theorem pd0_2 : parseMethodDescriptor "(JI)I" = some ⟨[.long, .int], some .int⟩ := by decide +kernel
theorem pd0_3 : parseMethodDescriptor "(JJIII)Z" = some ⟨[.long, .long, .int, .int, .int], some .boolean⟩ := by decide +kernel
theorem ef0 (m : MethodId) (q0 : Int64) (p1 : Int32) (p2 : Int32) : entryFrame m #[(.long q0), (.int p1), (.int p2)] maxLocals = mkF m 0 #[.val (.long q0), .second, .val (.int p1), .val (.int p2), .unset, .unset, .unset, .unset, .unset, .unset, .unset, .unset] [] := by first | (simp [entryFrame, mkF, argsToLocals, Value.category, maxLocals]; done) | rfl
def Q0 (Z : State) (q0 : Int64) (p1 : Int32) (p2 : Int32) (h0 : Heap) (n0 : Nat) (v : Option Value) (h : Heap) (L : List Loc) : Prop := v = some (.int (w0_r21 q0 p1 p2)) ∧ Fr n0 L
set_option maxRecDepth 65536 in
set_option maxHeartbeats 40000000 in
theorem rm0 (l : Launch) (Z : State) (a0 : Array Value) (hw : ∀ d ∈ tables_1, d.before a0 Z = true) (ws : List Jvm.Cond) (q0 : Int64) (p1 : Int32) (p2 : Int32) (h0 : Heap) (n0 : Nat) (Z0 : n0 ≤ h0.size) :
    MetFree l x (head1 (Jvm.Cond.code x code maxLocals ret :: ws) room_1) (fun a U => a = #[(.long q0), (.int p1), (.int p2)] ∧ Z.Warmed39 U.vm ∧ U.heap = h0) (fun _ _ _ _ _ => True) (fun _ U o U' => ∃ v L, o = .returned v ∧ Q0 Z q0 p1 p2 h0 n0 v U'.heap L ∧ FrameEnd U o U' L 0 0) := by
  refine MetFree.of_bodySF (plainFor_of_name pn0) hisR ?_
  intro p e s m args below meth c s₁ Bd hml0 hP hK
  obtain ⟨rfl, hZ, hh⟩ := hP
  have hx := Bd.exec
  have hby := Bd.bytes
  have hml : c.maxLocals = 12 := hml0
  have hown : s.vm.findClass "com/example/rota/rota/process/ByteWordsEqualPinLaw" = some m.cls := findClass_of_methodNamed Bd.named
  have hnm := (name_of_methodNamed Bd.named Bd.method).1
  have X0 : Stand p l e room_1 s m #[(.long q0), (.int p1), (.int p2)] below meth c s₁ [] 0 0 := Stand.of_body Bd
  have e0 : s₁.heap = h0 := by rw [← hh, Bd.state]; rfl
  have N0 := Fr.nil n0
  obtain ⟨S0, hS0⟩ : ∃ S0, S0 = s₁.setTop (entryFrame m #[(.long q0), (.int p1), (.int p2)] maxLocals) := ⟨_, rfl⟩
  have pre0 : ∀ t, Steps p.tables e below (s₁.setTop (mkF m 0 #[.val (.long q0), .second, .val (.int p1), .val (.int p2), .unset, .unset, .unset, .unset, .unset, .unset, .unset, .unset] [])) t → Steps p.tables e below S0 t := fun t k => by rw [hS0]; exact castTop (ef0 m q0 p1 p2) k
  have K1 : ∀ t, Steps p.tables e below (s₁.setTop (mkF m 16 #[.val (.long q0), .second, .val (.int p1), .val (.int p2), .val (.int (p1 &&& (255 : Int32))), .val (.long q0), .second, .unset, .unset, .unset, .unset, .unset] [(.int p2), (.int (p1 &&& (255 : Int32))), (.int (0 : Int32)), (.long q0)])) t → Steps p.tables e below S0 t := fun t k => pre0 t (by
    refine XS.iloadN X0.here hx rfl (hb hby at_0) rfl ?_
    show Steps p.tables e below (s₁.setTop (mkF m 1 #[.val (.long q0), .second, .val (.int p1), .val (.int p2), .unset, .unset, .unset, .unset, .unset, .unset, .unset, .unset] [(.int p1)])) _
    refine XS.sipush X0.here hx rfl (hb hby at_1) ?_
    show Steps p.tables e below (s₁.setTop (mkF m 4 #[.val (.long q0), .second, .val (.int p1), .val (.int p2), .unset, .unset, .unset, .unset, .unset, .unset, .unset, .unset] [(.int (255 : Int32)), (.int p1)])) _
    refine XS.iand X0.here hx rfl (hb hby at_4) rfl ?_
    show Steps p.tables e below (s₁.setTop (mkF m 5 #[.val (.long q0), .second, .val (.int p1), .val (.int p2), .unset, .unset, .unset, .unset, .unset, .unset, .unset, .unset] [(.int (p1 &&& (255 : Int32)))])) _
    refine XS.istore X0.here hx rfl (hb hby at_5) rfl (l' := #[.val (.long q0), .second, .val (.int p1), .val (.int p2), .val (.int (p1 &&& (255 : Int32))), .unset, .unset, .unset, .unset, .unset, .unset, .unset]) rfl ?_
    show Steps p.tables e below (s₁.setTop (mkF m 7 #[.val (.long q0), .second, .val (.int p1), .val (.int p2), .val (.int (p1 &&& (255 : Int32))), .unset, .unset, .unset, .unset, .unset, .unset, .unset] [])) _
    refine XS.lloadN X0.here hx rfl (hb hby at_7) rfl ?_
    show Steps p.tables e below (s₁.setTop (mkF m 8 #[.val (.long q0), .second, .val (.int p1), .val (.int p2), .val (.int (p1 &&& (255 : Int32))), .unset, .unset, .unset, .unset, .unset, .unset, .unset] [(.long q0)])) _
    refine XS.lstore X0.here hx rfl (hb hby at_8) rfl (l' := #[.val (.long q0), .second, .val (.int p1), .val (.int p2), .val (.int (p1 &&& (255 : Int32))), .val (.long q0), .second, .unset, .unset, .unset, .unset, .unset]) rfl ?_
    show Steps p.tables e below (s₁.setTop (mkF m 10 #[.val (.long q0), .second, .val (.int p1), .val (.int p2), .val (.int (p1 &&& (255 : Int32))), .val (.long q0), .second, .unset, .unset, .unset, .unset, .unset] [])) _
    refine XS.lload X0.here hx rfl (hb hby at_10) rfl ?_
    show Steps p.tables e below (s₁.setTop (mkF m 12 #[.val (.long q0), .second, .val (.int p1), .val (.int p2), .val (.int (p1 &&& (255 : Int32))), .val (.long q0), .second, .unset, .unset, .unset, .unset, .unset] [(.long q0)])) _
    refine XS.iconst X0.here hx rfl (hb hby at_12) ?_
    show Steps p.tables e below (s₁.setTop (mkF m 13 #[.val (.long q0), .second, .val (.int p1), .val (.int p2), .val (.int (p1 &&& (255 : Int32))), .val (.long q0), .second, .unset, .unset, .unset, .unset, .unset] [(.int (0 : Int32)), (.long q0)])) _
    refine XS.iload X0.here hx rfl (hb hby at_13) rfl ?_
    show Steps p.tables e below (s₁.setTop (mkF m 15 #[.val (.long q0), .second, .val (.int p1), .val (.int p2), .val (.int (p1 &&& (255 : Int32))), .val (.long q0), .second, .unset, .unset, .unset, .unset, .unset] [(.int (p1 &&& (255 : Int32))), (.int (0 : Int32)), (.long q0)])) _
    refine XS.iloadN X0.here hx rfl (hb hby at_15) rfl ?_
    show Steps p.tables e below (s₁.setTop (mkF m 16 #[.val (.long q0), .second, .val (.int p1), .val (.int p2), .val (.int (p1 &&& (255 : Int32))), .val (.long q0), .second, .unset, .unset, .unset, .unset, .unset] [(.int p2), (.int (p1 &&& (255 : Int32))), (.int (0 : Int32)), (.long q0)])) _
    exact k)
  have K_2 : ∀ t, Steps p.tables e below (s₁.setTop (mkF m 16 #[.val (.long q0), .second, .val (.int p1), .val (.int p2), .val (.int (p1 &&& (255 : Int32))), .val (.long q0), .second, .unset, .unset, .unset, .unset, .unset] [(.int p2), (.int (p1 &&& (255 : Int32))), (.int (0 : Int32)), (.long q0)])) t → Steps p.tables e below S0 t := K1
  obtain ⟨_, _, ⟨T3, L3, k3, n3⟩, -, X3, ⟨Lc3, hQ3, l3, y3, z3⟩, st3⟩ := Jvm.LawKit.callS X0 hx (y := (⟨"com/example/rota/rota/process/ByteWordsEqualPinLaw", "place", "(JIII)J"⟩ : MethodName)) hown (mvT hZ (hw _ (List.mem_of_getElem? (i := 0) rfl))) (mvT hZ (hw _ (List.mem_of_getElem? (i := 1) rfl))) (mvT hZ (hw _ (List.mem_of_getElem? (i := 2) rfl))) (mvT hZ (hw _ (List.mem_of_getElem? (i := 3) rfl))) (by decide) (backOf (W := 0) (rm1 l Z a0 hw [] q0 (0 : Int32) (p1 &&& (255 : Int32)) p2 h0 n0 Z0 ) hZ (hw _ (List.mem_of_getElem? (i := 3) rfl)) (hw _ (List.mem_of_getElem? (i := 2) rfl)) (by decide) (by decide)) (g := (mkF m 16 #[.val (.long q0), .second, .val (.int p1), .val (.int p2), .val (.int (p1 &&& (255 : Int32))), .val (.long q0), .second, .unset, .unset, .unset, .unset, .unset] [(.int p2), (.int (p1 &&& (255 : Int32))), (.int (0 : Int32)), (.long q0)])) rfl (by rw [hml]; rfl) (argsL := [(.long q0), (.int (0 : Int32)), (.int (p1 &&& (255 : Int32))), (.int p2)]) (rest := []) (lenOf pd0_0 rfl) rfl (by show 2 * 0 + _ ≤ _; exact Nat.le_of_eq rfl) (hb hby at_16) (fun _ _ => ⟨rfl, e0, (by decide : 0 + 0 ≤ 0), (by decide : 0 + 0 ≤ 0)⟩)
  dsimp only [Pt.U, Pt.locs, Pt.cells, Pt.slots] at X3 l3 y3 z3 st3 hQ3
  subst l3 y3 z3
  obtain ⟨rfl, N3q, e3⟩ := hQ3
  have N3 := Fr.app N0 N3q
  have K3 : ∀ t, Steps p.tables e below (T3.setTop (mkF m 19 #[.val (.long q0), .second, .val (.int p1), .val (.int p2), .val (.int (p1 &&& (255 : Int32))), .val (.long q0), .second, .unset, .unset, .unset, .unset, .unset] [(.long (w0_1 q0 p1 p2))])) t → Steps p.tables e below S0 t := fun t k => K_2 t (st3 t k)
  have K4 : ∀ t, Steps p.tables e below (T3.setTop (mkF m 27 #[.val (.long q0), .second, .val (.int p1), .val (.int p2), .val (.int (p1 &&& (255 : Int32))), .val (.long (w0_1 q0 p1 p2)), .second, .unset, .unset, .unset, .unset, .unset] [(.int p2), (.int (p1 &&& (255 : Int32))), (.int (1 : Int32)), (.long (w0_1 q0 p1 p2))])) t → Steps p.tables e below S0 t := fun t k => K3 t (by
    refine XS.lstore X3.here hx rfl (hb hby at_19) rfl (l' := #[.val (.long q0), .second, .val (.int p1), .val (.int p2), .val (.int (p1 &&& (255 : Int32))), .val (.long (w0_1 q0 p1 p2)), .second, .unset, .unset, .unset, .unset, .unset]) rfl ?_
    show Steps p.tables e below (T3.setTop (mkF m 21 #[.val (.long q0), .second, .val (.int p1), .val (.int p2), .val (.int (p1 &&& (255 : Int32))), .val (.long (w0_1 q0 p1 p2)), .second, .unset, .unset, .unset, .unset, .unset] [])) _
    refine XS.lload X3.here hx rfl (hb hby at_21) rfl ?_
    show Steps p.tables e below (T3.setTop (mkF m 23 #[.val (.long q0), .second, .val (.int p1), .val (.int p2), .val (.int (p1 &&& (255 : Int32))), .val (.long (w0_1 q0 p1 p2)), .second, .unset, .unset, .unset, .unset, .unset] [(.long (w0_1 q0 p1 p2))])) _
    refine XS.iconst X3.here hx rfl (hb hby at_23) ?_
    show Steps p.tables e below (T3.setTop (mkF m 24 #[.val (.long q0), .second, .val (.int p1), .val (.int p2), .val (.int (p1 &&& (255 : Int32))), .val (.long (w0_1 q0 p1 p2)), .second, .unset, .unset, .unset, .unset, .unset] [(.int (1 : Int32)), (.long (w0_1 q0 p1 p2))])) _
    refine XS.iload X3.here hx rfl (hb hby at_24) rfl ?_
    show Steps p.tables e below (T3.setTop (mkF m 26 #[.val (.long q0), .second, .val (.int p1), .val (.int p2), .val (.int (p1 &&& (255 : Int32))), .val (.long (w0_1 q0 p1 p2)), .second, .unset, .unset, .unset, .unset, .unset] [(.int (p1 &&& (255 : Int32))), (.int (1 : Int32)), (.long (w0_1 q0 p1 p2))])) _
    refine XS.iloadN X3.here hx rfl (hb hby at_26) rfl ?_
    show Steps p.tables e below (T3.setTop (mkF m 27 #[.val (.long q0), .second, .val (.int p1), .val (.int p2), .val (.int (p1 &&& (255 : Int32))), .val (.long (w0_1 q0 p1 p2)), .second, .unset, .unset, .unset, .unset, .unset] [(.int p2), (.int (p1 &&& (255 : Int32))), (.int (1 : Int32)), (.long (w0_1 q0 p1 p2))])) _
    exact k)
  have K_5 : ∀ t, Steps p.tables e below (T3.setTop (mkF m 27 #[.val (.long q0), .second, .val (.int p1), .val (.int p2), .val (.int (p1 &&& (255 : Int32))), .val (.long (w0_1 q0 p1 p2)), .second, .unset, .unset, .unset, .unset, .unset] [(.int p2), (.int (p1 &&& (255 : Int32))), (.int (1 : Int32)), (.long (w0_1 q0 p1 p2))])) t → Steps p.tables e below S0 t := K4
  obtain ⟨_, _, ⟨T6, L6, k6, n6⟩, -, X6, ⟨Lc6, hQ6, l6, y6, z6⟩, st6⟩ := Jvm.LawKit.callS X3 hx (y := (⟨"com/example/rota/rota/process/ByteWordsEqualPinLaw", "place", "(JIII)J"⟩ : MethodName)) hown (mvT hZ (hw _ (List.mem_of_getElem? (i := 0) rfl))) (mvT hZ (hw _ (List.mem_of_getElem? (i := 1) rfl))) (mvT hZ (hw _ (List.mem_of_getElem? (i := 2) rfl))) (mvT hZ (hw _ (List.mem_of_getElem? (i := 3) rfl))) (by decide) (backOf (W := 0) (rm1 l Z a0 hw [] (w0_1 q0 p1 p2) (1 : Int32) (p1 &&& (255 : Int32)) p2 h0 n0 Z0 ) hZ (hw _ (List.mem_of_getElem? (i := 3) rfl)) (hw _ (List.mem_of_getElem? (i := 2) rfl)) (by decide) (by decide)) (g := (mkF m 27 #[.val (.long q0), .second, .val (.int p1), .val (.int p2), .val (.int (p1 &&& (255 : Int32))), .val (.long (w0_1 q0 p1 p2)), .second, .unset, .unset, .unset, .unset, .unset] [(.int p2), (.int (p1 &&& (255 : Int32))), (.int (1 : Int32)), (.long (w0_1 q0 p1 p2))])) rfl (by rw [hml]; rfl) (argsL := [(.long (w0_1 q0 p1 p2)), (.int (1 : Int32)), (.int (p1 &&& (255 : Int32))), (.int p2)]) (rest := []) (lenOf pd0_0 rfl) rfl (by show 2 * 0 + _ ≤ _; exact Nat.le_of_eq rfl) (hb hby at_27) (fun _ _ => ⟨rfl, e3, (by decide : 0 + 0 ≤ 0), (by decide : 0 + 0 ≤ 0)⟩)
  dsimp only [Pt.U, Pt.locs, Pt.cells, Pt.slots] at X6 l6 y6 z6 st6 hQ6
  subst l6 y6 z6
  obtain ⟨rfl, N6q, e6⟩ := hQ6
  have N6 := Fr.app N3 N6q
  have K6 : ∀ t, Steps p.tables e below (T6.setTop (mkF m 30 #[.val (.long q0), .second, .val (.int p1), .val (.int p2), .val (.int (p1 &&& (255 : Int32))), .val (.long (w0_1 q0 p1 p2)), .second, .unset, .unset, .unset, .unset, .unset] [(.long (w0_2 q0 p1 p2))])) t → Steps p.tables e below S0 t := fun t k => K_5 t (st6 t k)
  have K7 : ∀ t, Steps p.tables e below (T6.setTop (mkF m 38 #[.val (.long q0), .second, .val (.int p1), .val (.int p2), .val (.int (p1 &&& (255 : Int32))), .val (.long (w0_2 q0 p1 p2)), .second, .unset, .unset, .unset, .unset, .unset] [(.int p2), (.int (p1 &&& (255 : Int32))), (.int (2 : Int32)), (.long (w0_2 q0 p1 p2))])) t → Steps p.tables e below S0 t := fun t k => K6 t (by
    refine XS.lstore X6.here hx rfl (hb hby at_30) rfl (l' := #[.val (.long q0), .second, .val (.int p1), .val (.int p2), .val (.int (p1 &&& (255 : Int32))), .val (.long (w0_2 q0 p1 p2)), .second, .unset, .unset, .unset, .unset, .unset]) rfl ?_
    show Steps p.tables e below (T6.setTop (mkF m 32 #[.val (.long q0), .second, .val (.int p1), .val (.int p2), .val (.int (p1 &&& (255 : Int32))), .val (.long (w0_2 q0 p1 p2)), .second, .unset, .unset, .unset, .unset, .unset] [])) _
    refine XS.lload X6.here hx rfl (hb hby at_32) rfl ?_
    show Steps p.tables e below (T6.setTop (mkF m 34 #[.val (.long q0), .second, .val (.int p1), .val (.int p2), .val (.int (p1 &&& (255 : Int32))), .val (.long (w0_2 q0 p1 p2)), .second, .unset, .unset, .unset, .unset, .unset] [(.long (w0_2 q0 p1 p2))])) _
    refine XS.iconst X6.here hx rfl (hb hby at_34) ?_
    show Steps p.tables e below (T6.setTop (mkF m 35 #[.val (.long q0), .second, .val (.int p1), .val (.int p2), .val (.int (p1 &&& (255 : Int32))), .val (.long (w0_2 q0 p1 p2)), .second, .unset, .unset, .unset, .unset, .unset] [(.int (2 : Int32)), (.long (w0_2 q0 p1 p2))])) _
    refine XS.iload X6.here hx rfl (hb hby at_35) rfl ?_
    show Steps p.tables e below (T6.setTop (mkF m 37 #[.val (.long q0), .second, .val (.int p1), .val (.int p2), .val (.int (p1 &&& (255 : Int32))), .val (.long (w0_2 q0 p1 p2)), .second, .unset, .unset, .unset, .unset, .unset] [(.int (p1 &&& (255 : Int32))), (.int (2 : Int32)), (.long (w0_2 q0 p1 p2))])) _
    refine XS.iloadN X6.here hx rfl (hb hby at_37) rfl ?_
    show Steps p.tables e below (T6.setTop (mkF m 38 #[.val (.long q0), .second, .val (.int p1), .val (.int p2), .val (.int (p1 &&& (255 : Int32))), .val (.long (w0_2 q0 p1 p2)), .second, .unset, .unset, .unset, .unset, .unset] [(.int p2), (.int (p1 &&& (255 : Int32))), (.int (2 : Int32)), (.long (w0_2 q0 p1 p2))])) _
    exact k)
  have K_8 : ∀ t, Steps p.tables e below (T6.setTop (mkF m 38 #[.val (.long q0), .second, .val (.int p1), .val (.int p2), .val (.int (p1 &&& (255 : Int32))), .val (.long (w0_2 q0 p1 p2)), .second, .unset, .unset, .unset, .unset, .unset] [(.int p2), (.int (p1 &&& (255 : Int32))), (.int (2 : Int32)), (.long (w0_2 q0 p1 p2))])) t → Steps p.tables e below S0 t := K7
  obtain ⟨_, _, ⟨T9, L9, k9, n9⟩, -, X9, ⟨Lc9, hQ9, l9, y9, z9⟩, st9⟩ := Jvm.LawKit.callS X6 hx (y := (⟨"com/example/rota/rota/process/ByteWordsEqualPinLaw", "place", "(JIII)J"⟩ : MethodName)) hown (mvT hZ (hw _ (List.mem_of_getElem? (i := 0) rfl))) (mvT hZ (hw _ (List.mem_of_getElem? (i := 1) rfl))) (mvT hZ (hw _ (List.mem_of_getElem? (i := 2) rfl))) (mvT hZ (hw _ (List.mem_of_getElem? (i := 3) rfl))) (by decide) (backOf (W := 0) (rm1 l Z a0 hw [] (w0_2 q0 p1 p2) (2 : Int32) (p1 &&& (255 : Int32)) p2 h0 n0 Z0 ) hZ (hw _ (List.mem_of_getElem? (i := 3) rfl)) (hw _ (List.mem_of_getElem? (i := 2) rfl)) (by decide) (by decide)) (g := (mkF m 38 #[.val (.long q0), .second, .val (.int p1), .val (.int p2), .val (.int (p1 &&& (255 : Int32))), .val (.long (w0_2 q0 p1 p2)), .second, .unset, .unset, .unset, .unset, .unset] [(.int p2), (.int (p1 &&& (255 : Int32))), (.int (2 : Int32)), (.long (w0_2 q0 p1 p2))])) rfl (by rw [hml]; rfl) (argsL := [(.long (w0_2 q0 p1 p2)), (.int (2 : Int32)), (.int (p1 &&& (255 : Int32))), (.int p2)]) (rest := []) (lenOf pd0_0 rfl) rfl (by show 2 * 0 + _ ≤ _; exact Nat.le_of_eq rfl) (hb hby at_38) (fun _ _ => ⟨rfl, e6, (by decide : 0 + 0 ≤ 0), (by decide : 0 + 0 ≤ 0)⟩)
  dsimp only [Pt.U, Pt.locs, Pt.cells, Pt.slots] at X9 l9 y9 z9 st9 hQ9
  subst l9 y9 z9
  obtain ⟨rfl, N9q, e9⟩ := hQ9
  have N9 := Fr.app N6 N9q
  have K9 : ∀ t, Steps p.tables e below (T9.setTop (mkF m 41 #[.val (.long q0), .second, .val (.int p1), .val (.int p2), .val (.int (p1 &&& (255 : Int32))), .val (.long (w0_2 q0 p1 p2)), .second, .unset, .unset, .unset, .unset, .unset] [(.long (w0_3 q0 p1 p2))])) t → Steps p.tables e below S0 t := fun t k => K_8 t (st9 t k)
  have K10 : ∀ t, Steps p.tables e below (T9.setTop (mkF m 49 #[.val (.long q0), .second, .val (.int p1), .val (.int p2), .val (.int (p1 &&& (255 : Int32))), .val (.long (w0_3 q0 p1 p2)), .second, .unset, .unset, .unset, .unset, .unset] [(.int p2), (.int (p1 &&& (255 : Int32))), (.int (3 : Int32)), (.long (w0_3 q0 p1 p2))])) t → Steps p.tables e below S0 t := fun t k => K9 t (by
    refine XS.lstore X9.here hx rfl (hb hby at_41) rfl (l' := #[.val (.long q0), .second, .val (.int p1), .val (.int p2), .val (.int (p1 &&& (255 : Int32))), .val (.long (w0_3 q0 p1 p2)), .second, .unset, .unset, .unset, .unset, .unset]) rfl ?_
    show Steps p.tables e below (T9.setTop (mkF m 43 #[.val (.long q0), .second, .val (.int p1), .val (.int p2), .val (.int (p1 &&& (255 : Int32))), .val (.long (w0_3 q0 p1 p2)), .second, .unset, .unset, .unset, .unset, .unset] [])) _
    refine XS.lload X9.here hx rfl (hb hby at_43) rfl ?_
    show Steps p.tables e below (T9.setTop (mkF m 45 #[.val (.long q0), .second, .val (.int p1), .val (.int p2), .val (.int (p1 &&& (255 : Int32))), .val (.long (w0_3 q0 p1 p2)), .second, .unset, .unset, .unset, .unset, .unset] [(.long (w0_3 q0 p1 p2))])) _
    refine XS.iconst X9.here hx rfl (hb hby at_45) ?_
    show Steps p.tables e below (T9.setTop (mkF m 46 #[.val (.long q0), .second, .val (.int p1), .val (.int p2), .val (.int (p1 &&& (255 : Int32))), .val (.long (w0_3 q0 p1 p2)), .second, .unset, .unset, .unset, .unset, .unset] [(.int (3 : Int32)), (.long (w0_3 q0 p1 p2))])) _
    refine XS.iload X9.here hx rfl (hb hby at_46) rfl ?_
    show Steps p.tables e below (T9.setTop (mkF m 48 #[.val (.long q0), .second, .val (.int p1), .val (.int p2), .val (.int (p1 &&& (255 : Int32))), .val (.long (w0_3 q0 p1 p2)), .second, .unset, .unset, .unset, .unset, .unset] [(.int (p1 &&& (255 : Int32))), (.int (3 : Int32)), (.long (w0_3 q0 p1 p2))])) _
    refine XS.iloadN X9.here hx rfl (hb hby at_48) rfl ?_
    show Steps p.tables e below (T9.setTop (mkF m 49 #[.val (.long q0), .second, .val (.int p1), .val (.int p2), .val (.int (p1 &&& (255 : Int32))), .val (.long (w0_3 q0 p1 p2)), .second, .unset, .unset, .unset, .unset, .unset] [(.int p2), (.int (p1 &&& (255 : Int32))), (.int (3 : Int32)), (.long (w0_3 q0 p1 p2))])) _
    exact k)
  have K_11 : ∀ t, Steps p.tables e below (T9.setTop (mkF m 49 #[.val (.long q0), .second, .val (.int p1), .val (.int p2), .val (.int (p1 &&& (255 : Int32))), .val (.long (w0_3 q0 p1 p2)), .second, .unset, .unset, .unset, .unset, .unset] [(.int p2), (.int (p1 &&& (255 : Int32))), (.int (3 : Int32)), (.long (w0_3 q0 p1 p2))])) t → Steps p.tables e below S0 t := K10
  obtain ⟨_, _, ⟨T12, L12, k12, n12⟩, -, X12, ⟨Lc12, hQ12, l12, y12, z12⟩, st12⟩ := Jvm.LawKit.callS X9 hx (y := (⟨"com/example/rota/rota/process/ByteWordsEqualPinLaw", "place", "(JIII)J"⟩ : MethodName)) hown (mvT hZ (hw _ (List.mem_of_getElem? (i := 0) rfl))) (mvT hZ (hw _ (List.mem_of_getElem? (i := 1) rfl))) (mvT hZ (hw _ (List.mem_of_getElem? (i := 2) rfl))) (mvT hZ (hw _ (List.mem_of_getElem? (i := 3) rfl))) (by decide) (backOf (W := 0) (rm1 l Z a0 hw [] (w0_3 q0 p1 p2) (3 : Int32) (p1 &&& (255 : Int32)) p2 h0 n0 Z0 ) hZ (hw _ (List.mem_of_getElem? (i := 3) rfl)) (hw _ (List.mem_of_getElem? (i := 2) rfl)) (by decide) (by decide)) (g := (mkF m 49 #[.val (.long q0), .second, .val (.int p1), .val (.int p2), .val (.int (p1 &&& (255 : Int32))), .val (.long (w0_3 q0 p1 p2)), .second, .unset, .unset, .unset, .unset, .unset] [(.int p2), (.int (p1 &&& (255 : Int32))), (.int (3 : Int32)), (.long (w0_3 q0 p1 p2))])) rfl (by rw [hml]; rfl) (argsL := [(.long (w0_3 q0 p1 p2)), (.int (3 : Int32)), (.int (p1 &&& (255 : Int32))), (.int p2)]) (rest := []) (lenOf pd0_0 rfl) rfl (by show 2 * 0 + _ ≤ _; exact Nat.le_of_eq rfl) (hb hby at_49) (fun _ _ => ⟨rfl, e9, (by decide : 0 + 0 ≤ 0), (by decide : 0 + 0 ≤ 0)⟩)
  dsimp only [Pt.U, Pt.locs, Pt.cells, Pt.slots] at X12 l12 y12 z12 st12 hQ12
  subst l12 y12 z12
  obtain ⟨rfl, N12q, e12⟩ := hQ12
  have N12 := Fr.app N9 N12q
  have K12 : ∀ t, Steps p.tables e below (T12.setTop (mkF m 52 #[.val (.long q0), .second, .val (.int p1), .val (.int p2), .val (.int (p1 &&& (255 : Int32))), .val (.long (w0_3 q0 p1 p2)), .second, .unset, .unset, .unset, .unset, .unset] [(.long (w0_4 q0 p1 p2))])) t → Steps p.tables e below S0 t := fun t k => K_11 t (st12 t k)
  have K13 : ∀ t, Steps p.tables e below (T12.setTop (mkF m 60 #[.val (.long q0), .second, .val (.int p1), .val (.int p2), .val (.int (p1 &&& (255 : Int32))), .val (.long (w0_4 q0 p1 p2)), .second, .unset, .unset, .unset, .unset, .unset] [(.int p2), (.int (p1 &&& (255 : Int32))), (.int (4 : Int32)), (.long (w0_4 q0 p1 p2))])) t → Steps p.tables e below S0 t := fun t k => K12 t (by
    refine XS.lstore X12.here hx rfl (hb hby at_52) rfl (l' := #[.val (.long q0), .second, .val (.int p1), .val (.int p2), .val (.int (p1 &&& (255 : Int32))), .val (.long (w0_4 q0 p1 p2)), .second, .unset, .unset, .unset, .unset, .unset]) rfl ?_
    show Steps p.tables e below (T12.setTop (mkF m 54 #[.val (.long q0), .second, .val (.int p1), .val (.int p2), .val (.int (p1 &&& (255 : Int32))), .val (.long (w0_4 q0 p1 p2)), .second, .unset, .unset, .unset, .unset, .unset] [])) _
    refine XS.lload X12.here hx rfl (hb hby at_54) rfl ?_
    show Steps p.tables e below (T12.setTop (mkF m 56 #[.val (.long q0), .second, .val (.int p1), .val (.int p2), .val (.int (p1 &&& (255 : Int32))), .val (.long (w0_4 q0 p1 p2)), .second, .unset, .unset, .unset, .unset, .unset] [(.long (w0_4 q0 p1 p2))])) _
    refine XS.iconst X12.here hx rfl (hb hby at_56) ?_
    show Steps p.tables e below (T12.setTop (mkF m 57 #[.val (.long q0), .second, .val (.int p1), .val (.int p2), .val (.int (p1 &&& (255 : Int32))), .val (.long (w0_4 q0 p1 p2)), .second, .unset, .unset, .unset, .unset, .unset] [(.int (4 : Int32)), (.long (w0_4 q0 p1 p2))])) _
    refine XS.iload X12.here hx rfl (hb hby at_57) rfl ?_
    show Steps p.tables e below (T12.setTop (mkF m 59 #[.val (.long q0), .second, .val (.int p1), .val (.int p2), .val (.int (p1 &&& (255 : Int32))), .val (.long (w0_4 q0 p1 p2)), .second, .unset, .unset, .unset, .unset, .unset] [(.int (p1 &&& (255 : Int32))), (.int (4 : Int32)), (.long (w0_4 q0 p1 p2))])) _
    refine XS.iloadN X12.here hx rfl (hb hby at_59) rfl ?_
    show Steps p.tables e below (T12.setTop (mkF m 60 #[.val (.long q0), .second, .val (.int p1), .val (.int p2), .val (.int (p1 &&& (255 : Int32))), .val (.long (w0_4 q0 p1 p2)), .second, .unset, .unset, .unset, .unset, .unset] [(.int p2), (.int (p1 &&& (255 : Int32))), (.int (4 : Int32)), (.long (w0_4 q0 p1 p2))])) _
    exact k)
  have K_14 : ∀ t, Steps p.tables e below (T12.setTop (mkF m 60 #[.val (.long q0), .second, .val (.int p1), .val (.int p2), .val (.int (p1 &&& (255 : Int32))), .val (.long (w0_4 q0 p1 p2)), .second, .unset, .unset, .unset, .unset, .unset] [(.int p2), (.int (p1 &&& (255 : Int32))), (.int (4 : Int32)), (.long (w0_4 q0 p1 p2))])) t → Steps p.tables e below S0 t := K13
  obtain ⟨_, _, ⟨T15, L15, k15, n15⟩, -, X15, ⟨Lc15, hQ15, l15, y15, z15⟩, st15⟩ := Jvm.LawKit.callS X12 hx (y := (⟨"com/example/rota/rota/process/ByteWordsEqualPinLaw", "place", "(JIII)J"⟩ : MethodName)) hown (mvT hZ (hw _ (List.mem_of_getElem? (i := 0) rfl))) (mvT hZ (hw _ (List.mem_of_getElem? (i := 1) rfl))) (mvT hZ (hw _ (List.mem_of_getElem? (i := 2) rfl))) (mvT hZ (hw _ (List.mem_of_getElem? (i := 3) rfl))) (by decide) (backOf (W := 0) (rm1 l Z a0 hw [] (w0_4 q0 p1 p2) (4 : Int32) (p1 &&& (255 : Int32)) p2 h0 n0 Z0 ) hZ (hw _ (List.mem_of_getElem? (i := 3) rfl)) (hw _ (List.mem_of_getElem? (i := 2) rfl)) (by decide) (by decide)) (g := (mkF m 60 #[.val (.long q0), .second, .val (.int p1), .val (.int p2), .val (.int (p1 &&& (255 : Int32))), .val (.long (w0_4 q0 p1 p2)), .second, .unset, .unset, .unset, .unset, .unset] [(.int p2), (.int (p1 &&& (255 : Int32))), (.int (4 : Int32)), (.long (w0_4 q0 p1 p2))])) rfl (by rw [hml]; rfl) (argsL := [(.long (w0_4 q0 p1 p2)), (.int (4 : Int32)), (.int (p1 &&& (255 : Int32))), (.int p2)]) (rest := []) (lenOf pd0_0 rfl) rfl (by show 2 * 0 + _ ≤ _; exact Nat.le_of_eq rfl) (hb hby at_60) (fun _ _ => ⟨rfl, e12, (by decide : 0 + 0 ≤ 0), (by decide : 0 + 0 ≤ 0)⟩)
  dsimp only [Pt.U, Pt.locs, Pt.cells, Pt.slots] at X15 l15 y15 z15 st15 hQ15
  subst l15 y15 z15
  obtain ⟨rfl, N15q, e15⟩ := hQ15
  have N15 := Fr.app N12 N15q
  have K15 : ∀ t, Steps p.tables e below (T15.setTop (mkF m 63 #[.val (.long q0), .second, .val (.int p1), .val (.int p2), .val (.int (p1 &&& (255 : Int32))), .val (.long (w0_4 q0 p1 p2)), .second, .unset, .unset, .unset, .unset, .unset] [(.long (w0_5 q0 p1 p2))])) t → Steps p.tables e below S0 t := fun t k => K_14 t (st15 t k)
  have K16 : ∀ t, Steps p.tables e below (T15.setTop (mkF m 71 #[.val (.long q0), .second, .val (.int p1), .val (.int p2), .val (.int (p1 &&& (255 : Int32))), .val (.long (w0_5 q0 p1 p2)), .second, .unset, .unset, .unset, .unset, .unset] [(.int p2), (.int (p1 &&& (255 : Int32))), (.int (5 : Int32)), (.long (w0_5 q0 p1 p2))])) t → Steps p.tables e below S0 t := fun t k => K15 t (by
    refine XS.lstore X15.here hx rfl (hb hby at_63) rfl (l' := #[.val (.long q0), .second, .val (.int p1), .val (.int p2), .val (.int (p1 &&& (255 : Int32))), .val (.long (w0_5 q0 p1 p2)), .second, .unset, .unset, .unset, .unset, .unset]) rfl ?_
    show Steps p.tables e below (T15.setTop (mkF m 65 #[.val (.long q0), .second, .val (.int p1), .val (.int p2), .val (.int (p1 &&& (255 : Int32))), .val (.long (w0_5 q0 p1 p2)), .second, .unset, .unset, .unset, .unset, .unset] [])) _
    refine XS.lload X15.here hx rfl (hb hby at_65) rfl ?_
    show Steps p.tables e below (T15.setTop (mkF m 67 #[.val (.long q0), .second, .val (.int p1), .val (.int p2), .val (.int (p1 &&& (255 : Int32))), .val (.long (w0_5 q0 p1 p2)), .second, .unset, .unset, .unset, .unset, .unset] [(.long (w0_5 q0 p1 p2))])) _
    refine XS.iconst X15.here hx rfl (hb hby at_67) ?_
    show Steps p.tables e below (T15.setTop (mkF m 68 #[.val (.long q0), .second, .val (.int p1), .val (.int p2), .val (.int (p1 &&& (255 : Int32))), .val (.long (w0_5 q0 p1 p2)), .second, .unset, .unset, .unset, .unset, .unset] [(.int (5 : Int32)), (.long (w0_5 q0 p1 p2))])) _
    refine XS.iload X15.here hx rfl (hb hby at_68) rfl ?_
    show Steps p.tables e below (T15.setTop (mkF m 70 #[.val (.long q0), .second, .val (.int p1), .val (.int p2), .val (.int (p1 &&& (255 : Int32))), .val (.long (w0_5 q0 p1 p2)), .second, .unset, .unset, .unset, .unset, .unset] [(.int (p1 &&& (255 : Int32))), (.int (5 : Int32)), (.long (w0_5 q0 p1 p2))])) _
    refine XS.iloadN X15.here hx rfl (hb hby at_70) rfl ?_
    show Steps p.tables e below (T15.setTop (mkF m 71 #[.val (.long q0), .second, .val (.int p1), .val (.int p2), .val (.int (p1 &&& (255 : Int32))), .val (.long (w0_5 q0 p1 p2)), .second, .unset, .unset, .unset, .unset, .unset] [(.int p2), (.int (p1 &&& (255 : Int32))), (.int (5 : Int32)), (.long (w0_5 q0 p1 p2))])) _
    exact k)
  have K_17 : ∀ t, Steps p.tables e below (T15.setTop (mkF m 71 #[.val (.long q0), .second, .val (.int p1), .val (.int p2), .val (.int (p1 &&& (255 : Int32))), .val (.long (w0_5 q0 p1 p2)), .second, .unset, .unset, .unset, .unset, .unset] [(.int p2), (.int (p1 &&& (255 : Int32))), (.int (5 : Int32)), (.long (w0_5 q0 p1 p2))])) t → Steps p.tables e below S0 t := K16
  obtain ⟨_, _, ⟨T18, L18, k18, n18⟩, -, X18, ⟨Lc18, hQ18, l18, y18, z18⟩, st18⟩ := Jvm.LawKit.callS X15 hx (y := (⟨"com/example/rota/rota/process/ByteWordsEqualPinLaw", "place", "(JIII)J"⟩ : MethodName)) hown (mvT hZ (hw _ (List.mem_of_getElem? (i := 0) rfl))) (mvT hZ (hw _ (List.mem_of_getElem? (i := 1) rfl))) (mvT hZ (hw _ (List.mem_of_getElem? (i := 2) rfl))) (mvT hZ (hw _ (List.mem_of_getElem? (i := 3) rfl))) (by decide) (backOf (W := 0) (rm1 l Z a0 hw [] (w0_5 q0 p1 p2) (5 : Int32) (p1 &&& (255 : Int32)) p2 h0 n0 Z0 ) hZ (hw _ (List.mem_of_getElem? (i := 3) rfl)) (hw _ (List.mem_of_getElem? (i := 2) rfl)) (by decide) (by decide)) (g := (mkF m 71 #[.val (.long q0), .second, .val (.int p1), .val (.int p2), .val (.int (p1 &&& (255 : Int32))), .val (.long (w0_5 q0 p1 p2)), .second, .unset, .unset, .unset, .unset, .unset] [(.int p2), (.int (p1 &&& (255 : Int32))), (.int (5 : Int32)), (.long (w0_5 q0 p1 p2))])) rfl (by rw [hml]; rfl) (argsL := [(.long (w0_5 q0 p1 p2)), (.int (5 : Int32)), (.int (p1 &&& (255 : Int32))), (.int p2)]) (rest := []) (lenOf pd0_0 rfl) rfl (by show 2 * 0 + _ ≤ _; exact Nat.le_of_eq rfl) (hb hby at_71) (fun _ _ => ⟨rfl, e15, (by decide : 0 + 0 ≤ 0), (by decide : 0 + 0 ≤ 0)⟩)
  dsimp only [Pt.U, Pt.locs, Pt.cells, Pt.slots] at X18 l18 y18 z18 st18 hQ18
  subst l18 y18 z18
  obtain ⟨rfl, N18q, e18⟩ := hQ18
  have N18 := Fr.app N15 N18q
  have K18 : ∀ t, Steps p.tables e below (T18.setTop (mkF m 74 #[.val (.long q0), .second, .val (.int p1), .val (.int p2), .val (.int (p1 &&& (255 : Int32))), .val (.long (w0_5 q0 p1 p2)), .second, .unset, .unset, .unset, .unset, .unset] [(.long (w0_6 q0 p1 p2))])) t → Steps p.tables e below S0 t := fun t k => K_17 t (st18 t k)
  have K19 : ∀ t, Steps p.tables e below (T18.setTop (mkF m 83 #[.val (.long q0), .second, .val (.int p1), .val (.int p2), .val (.int (p1 &&& (255 : Int32))), .val (.long (w0_6 q0 p1 p2)), .second, .unset, .unset, .unset, .unset, .unset] [(.int p2), (.int (p1 &&& (255 : Int32))), (.int (6 : Int32)), (.long (w0_6 q0 p1 p2))])) t → Steps p.tables e below S0 t := fun t k => K18 t (by
    refine XS.lstore X18.here hx rfl (hb hby at_74) rfl (l' := #[.val (.long q0), .second, .val (.int p1), .val (.int p2), .val (.int (p1 &&& (255 : Int32))), .val (.long (w0_6 q0 p1 p2)), .second, .unset, .unset, .unset, .unset, .unset]) rfl ?_
    show Steps p.tables e below (T18.setTop (mkF m 76 #[.val (.long q0), .second, .val (.int p1), .val (.int p2), .val (.int (p1 &&& (255 : Int32))), .val (.long (w0_6 q0 p1 p2)), .second, .unset, .unset, .unset, .unset, .unset] [])) _
    refine XS.lload X18.here hx rfl (hb hby at_76) rfl ?_
    show Steps p.tables e below (T18.setTop (mkF m 78 #[.val (.long q0), .second, .val (.int p1), .val (.int p2), .val (.int (p1 &&& (255 : Int32))), .val (.long (w0_6 q0 p1 p2)), .second, .unset, .unset, .unset, .unset, .unset] [(.long (w0_6 q0 p1 p2))])) _
    refine XS.bipush X18.here hx rfl (hb hby at_78) ?_
    show Steps p.tables e below (T18.setTop (mkF m 80 #[.val (.long q0), .second, .val (.int p1), .val (.int p2), .val (.int (p1 &&& (255 : Int32))), .val (.long (w0_6 q0 p1 p2)), .second, .unset, .unset, .unset, .unset, .unset] [(.int (6 : Int32)), (.long (w0_6 q0 p1 p2))])) _
    refine XS.iload X18.here hx rfl (hb hby at_80) rfl ?_
    show Steps p.tables e below (T18.setTop (mkF m 82 #[.val (.long q0), .second, .val (.int p1), .val (.int p2), .val (.int (p1 &&& (255 : Int32))), .val (.long (w0_6 q0 p1 p2)), .second, .unset, .unset, .unset, .unset, .unset] [(.int (p1 &&& (255 : Int32))), (.int (6 : Int32)), (.long (w0_6 q0 p1 p2))])) _
    refine XS.iloadN X18.here hx rfl (hb hby at_82) rfl ?_
    show Steps p.tables e below (T18.setTop (mkF m 83 #[.val (.long q0), .second, .val (.int p1), .val (.int p2), .val (.int (p1 &&& (255 : Int32))), .val (.long (w0_6 q0 p1 p2)), .second, .unset, .unset, .unset, .unset, .unset] [(.int p2), (.int (p1 &&& (255 : Int32))), (.int (6 : Int32)), (.long (w0_6 q0 p1 p2))])) _
    exact k)
  have K_20 : ∀ t, Steps p.tables e below (T18.setTop (mkF m 83 #[.val (.long q0), .second, .val (.int p1), .val (.int p2), .val (.int (p1 &&& (255 : Int32))), .val (.long (w0_6 q0 p1 p2)), .second, .unset, .unset, .unset, .unset, .unset] [(.int p2), (.int (p1 &&& (255 : Int32))), (.int (6 : Int32)), (.long (w0_6 q0 p1 p2))])) t → Steps p.tables e below S0 t := K19
  obtain ⟨_, _, ⟨T21, L21, k21, n21⟩, -, X21, ⟨Lc21, hQ21, l21, y21, z21⟩, st21⟩ := Jvm.LawKit.callS X18 hx (y := (⟨"com/example/rota/rota/process/ByteWordsEqualPinLaw", "place", "(JIII)J"⟩ : MethodName)) hown (mvT hZ (hw _ (List.mem_of_getElem? (i := 0) rfl))) (mvT hZ (hw _ (List.mem_of_getElem? (i := 1) rfl))) (mvT hZ (hw _ (List.mem_of_getElem? (i := 2) rfl))) (mvT hZ (hw _ (List.mem_of_getElem? (i := 3) rfl))) (by decide) (backOf (W := 0) (rm1 l Z a0 hw [] (w0_6 q0 p1 p2) (6 : Int32) (p1 &&& (255 : Int32)) p2 h0 n0 Z0 ) hZ (hw _ (List.mem_of_getElem? (i := 3) rfl)) (hw _ (List.mem_of_getElem? (i := 2) rfl)) (by decide) (by decide)) (g := (mkF m 83 #[.val (.long q0), .second, .val (.int p1), .val (.int p2), .val (.int (p1 &&& (255 : Int32))), .val (.long (w0_6 q0 p1 p2)), .second, .unset, .unset, .unset, .unset, .unset] [(.int p2), (.int (p1 &&& (255 : Int32))), (.int (6 : Int32)), (.long (w0_6 q0 p1 p2))])) rfl (by rw [hml]; rfl) (argsL := [(.long (w0_6 q0 p1 p2)), (.int (6 : Int32)), (.int (p1 &&& (255 : Int32))), (.int p2)]) (rest := []) (lenOf pd0_0 rfl) rfl (by show 2 * 0 + _ ≤ _; exact Nat.le_of_eq rfl) (hb hby at_83) (fun _ _ => ⟨rfl, e18, (by decide : 0 + 0 ≤ 0), (by decide : 0 + 0 ≤ 0)⟩)
  dsimp only [Pt.U, Pt.locs, Pt.cells, Pt.slots] at X21 l21 y21 z21 st21 hQ21
  subst l21 y21 z21
  obtain ⟨rfl, N21q, e21⟩ := hQ21
  have N21 := Fr.app N18 N21q
  have K21 : ∀ t, Steps p.tables e below (T21.setTop (mkF m 86 #[.val (.long q0), .second, .val (.int p1), .val (.int p2), .val (.int (p1 &&& (255 : Int32))), .val (.long (w0_6 q0 p1 p2)), .second, .unset, .unset, .unset, .unset, .unset] [(.long (w0_7 q0 p1 p2))])) t → Steps p.tables e below S0 t := fun t k => K_20 t (st21 t k)
  have K22 : ∀ t, Steps p.tables e below (T21.setTop (mkF m 95 #[.val (.long q0), .second, .val (.int p1), .val (.int p2), .val (.int (p1 &&& (255 : Int32))), .val (.long (w0_7 q0 p1 p2)), .second, .unset, .unset, .unset, .unset, .unset] [(.int p2), (.int (p1 &&& (255 : Int32))), (.int (7 : Int32)), (.long (w0_7 q0 p1 p2))])) t → Steps p.tables e below S0 t := fun t k => K21 t (by
    refine XS.lstore X21.here hx rfl (hb hby at_86) rfl (l' := #[.val (.long q0), .second, .val (.int p1), .val (.int p2), .val (.int (p1 &&& (255 : Int32))), .val (.long (w0_7 q0 p1 p2)), .second, .unset, .unset, .unset, .unset, .unset]) rfl ?_
    show Steps p.tables e below (T21.setTop (mkF m 88 #[.val (.long q0), .second, .val (.int p1), .val (.int p2), .val (.int (p1 &&& (255 : Int32))), .val (.long (w0_7 q0 p1 p2)), .second, .unset, .unset, .unset, .unset, .unset] [])) _
    refine XS.lload X21.here hx rfl (hb hby at_88) rfl ?_
    show Steps p.tables e below (T21.setTop (mkF m 90 #[.val (.long q0), .second, .val (.int p1), .val (.int p2), .val (.int (p1 &&& (255 : Int32))), .val (.long (w0_7 q0 p1 p2)), .second, .unset, .unset, .unset, .unset, .unset] [(.long (w0_7 q0 p1 p2))])) _
    refine XS.bipush X21.here hx rfl (hb hby at_90) ?_
    show Steps p.tables e below (T21.setTop (mkF m 92 #[.val (.long q0), .second, .val (.int p1), .val (.int p2), .val (.int (p1 &&& (255 : Int32))), .val (.long (w0_7 q0 p1 p2)), .second, .unset, .unset, .unset, .unset, .unset] [(.int (7 : Int32)), (.long (w0_7 q0 p1 p2))])) _
    refine XS.iload X21.here hx rfl (hb hby at_92) rfl ?_
    show Steps p.tables e below (T21.setTop (mkF m 94 #[.val (.long q0), .second, .val (.int p1), .val (.int p2), .val (.int (p1 &&& (255 : Int32))), .val (.long (w0_7 q0 p1 p2)), .second, .unset, .unset, .unset, .unset, .unset] [(.int (p1 &&& (255 : Int32))), (.int (7 : Int32)), (.long (w0_7 q0 p1 p2))])) _
    refine XS.iloadN X21.here hx rfl (hb hby at_94) rfl ?_
    show Steps p.tables e below (T21.setTop (mkF m 95 #[.val (.long q0), .second, .val (.int p1), .val (.int p2), .val (.int (p1 &&& (255 : Int32))), .val (.long (w0_7 q0 p1 p2)), .second, .unset, .unset, .unset, .unset, .unset] [(.int p2), (.int (p1 &&& (255 : Int32))), (.int (7 : Int32)), (.long (w0_7 q0 p1 p2))])) _
    exact k)
  have K_23 : ∀ t, Steps p.tables e below (T21.setTop (mkF m 95 #[.val (.long q0), .second, .val (.int p1), .val (.int p2), .val (.int (p1 &&& (255 : Int32))), .val (.long (w0_7 q0 p1 p2)), .second, .unset, .unset, .unset, .unset, .unset] [(.int p2), (.int (p1 &&& (255 : Int32))), (.int (7 : Int32)), (.long (w0_7 q0 p1 p2))])) t → Steps p.tables e below S0 t := K22
  obtain ⟨_, _, ⟨T24, L24, k24, n24⟩, -, X24, ⟨Lc24, hQ24, l24, y24, z24⟩, st24⟩ := Jvm.LawKit.callS X21 hx (y := (⟨"com/example/rota/rota/process/ByteWordsEqualPinLaw", "place", "(JIII)J"⟩ : MethodName)) hown (mvT hZ (hw _ (List.mem_of_getElem? (i := 0) rfl))) (mvT hZ (hw _ (List.mem_of_getElem? (i := 1) rfl))) (mvT hZ (hw _ (List.mem_of_getElem? (i := 2) rfl))) (mvT hZ (hw _ (List.mem_of_getElem? (i := 3) rfl))) (by decide) (backOf (W := 0) (rm1 l Z a0 hw [] (w0_7 q0 p1 p2) (7 : Int32) (p1 &&& (255 : Int32)) p2 h0 n0 Z0 ) hZ (hw _ (List.mem_of_getElem? (i := 3) rfl)) (hw _ (List.mem_of_getElem? (i := 2) rfl)) (by decide) (by decide)) (g := (mkF m 95 #[.val (.long q0), .second, .val (.int p1), .val (.int p2), .val (.int (p1 &&& (255 : Int32))), .val (.long (w0_7 q0 p1 p2)), .second, .unset, .unset, .unset, .unset, .unset] [(.int p2), (.int (p1 &&& (255 : Int32))), (.int (7 : Int32)), (.long (w0_7 q0 p1 p2))])) rfl (by rw [hml]; rfl) (argsL := [(.long (w0_7 q0 p1 p2)), (.int (7 : Int32)), (.int (p1 &&& (255 : Int32))), (.int p2)]) (rest := []) (lenOf pd0_0 rfl) rfl (by show 2 * 0 + _ ≤ _; exact Nat.le_of_eq rfl) (hb hby at_95) (fun _ _ => ⟨rfl, e21, (by decide : 0 + 0 ≤ 0), (by decide : 0 + 0 ≤ 0)⟩)
  dsimp only [Pt.U, Pt.locs, Pt.cells, Pt.slots] at X24 l24 y24 z24 st24 hQ24
  subst l24 y24 z24
  obtain ⟨rfl, N24q, e24⟩ := hQ24
  have N24 := Fr.app N21 N24q
  have K24 : ∀ t, Steps p.tables e below (T24.setTop (mkF m 98 #[.val (.long q0), .second, .val (.int p1), .val (.int p2), .val (.int (p1 &&& (255 : Int32))), .val (.long (w0_7 q0 p1 p2)), .second, .unset, .unset, .unset, .unset, .unset] [(.long (w0_8 q0 p1 p2))])) t → Steps p.tables e below S0 t := fun t k => K_23 t (st24 t k)
  have K25 : ∀ t, Steps p.tables e below (T24.setTop (mkF m 113 #[.val (.long q0), .second, .val (.int p1), .val (.int p2), .val (.int (p1 &&& (255 : Int32))), .val (.long (w0_8 q0 p1 p2)), .second, .val (.long (w0_9 p1)), .second, .unset, .unset, .unset] [(.long (w0_9 p1)), (.long (w0_8 q0 p1 p2))])) t → Steps p.tables e below S0 t := fun t k => K24 t (by
    refine XS.lstore X24.here hx rfl (hb hby at_98) rfl (l' := #[.val (.long q0), .second, .val (.int p1), .val (.int p2), .val (.int (p1 &&& (255 : Int32))), .val (.long (w0_8 q0 p1 p2)), .second, .unset, .unset, .unset, .unset, .unset]) rfl ?_
    show Steps p.tables e below (T24.setTop (mkF m 100 #[.val (.long q0), .second, .val (.int p1), .val (.int p2), .val (.int (p1 &&& (255 : Int32))), .val (.long (w0_8 q0 p1 p2)), .second, .unset, .unset, .unset, .unset, .unset] [])) _
    refine X24.ldc2Long hx hown (mvT hZ (hw _ (List.mem_of_getElem? (i := 6) rfl))) (g := (mkF m 100 #[.val (.long q0), .second, .val (.int p1), .val (.int p2), .val (.int (p1 &&& (255 : Int32))), .val (.long (w0_8 q0 p1 p2)), .second, .unset, .unset, .unset, .unset, .unset] [])) rfl (hb hby at_100) _ ?_
    show Steps p.tables e below (T24.setTop (mkF m 103 #[.val (.long q0), .second, .val (.int p1), .val (.int p2), .val (.int (p1 &&& (255 : Int32))), .val (.long (w0_8 q0 p1 p2)), .second, .unset, .unset, .unset, .unset, .unset] [(.long (72340172838076673 : Int64))])) _
    refine XS.iload X24.here hx rfl (hb hby at_103) rfl ?_
    show Steps p.tables e below (T24.setTop (mkF m 105 #[.val (.long q0), .second, .val (.int p1), .val (.int p2), .val (.int (p1 &&& (255 : Int32))), .val (.long (w0_8 q0 p1 p2)), .second, .unset, .unset, .unset, .unset, .unset] [(.int (p1 &&& (255 : Int32))), (.long (72340172838076673 : Int64))])) _
    refine XS.i2l X24.here hx rfl (hb hby at_105) rfl ?_
    show Steps p.tables e below (T24.setTop (mkF m 106 #[.val (.long q0), .second, .val (.int p1), .val (.int p2), .val (.int (p1 &&& (255 : Int32))), .val (.long (w0_8 q0 p1 p2)), .second, .unset, .unset, .unset, .unset, .unset] [(.long ((p1 &&& (255 : Int32)).toInt64)), (.long (72340172838076673 : Int64))])) _
    refine XS.lmul X24.here hx rfl (hb hby at_106) rfl ?_
    show Steps p.tables e below (T24.setTop (mkF m 107 #[.val (.long q0), .second, .val (.int p1), .val (.int p2), .val (.int (p1 &&& (255 : Int32))), .val (.long (w0_8 q0 p1 p2)), .second, .unset, .unset, .unset, .unset, .unset] [(.long ((72340172838076673 : Int64) * ((p1 &&& (255 : Int32)).toInt64)))])) _
    refine XS.lstore X24.here hx rfl (hb hby at_107) rfl (l' := #[.val (.long q0), .second, .val (.int p1), .val (.int p2), .val (.int (p1 &&& (255 : Int32))), .val (.long (w0_8 q0 p1 p2)), .second, .val (.long (w0_9 p1)), .second, .unset, .unset, .unset]) rfl ?_
    show Steps p.tables e below (T24.setTop (mkF m 109 #[.val (.long q0), .second, .val (.int p1), .val (.int p2), .val (.int (p1 &&& (255 : Int32))), .val (.long (w0_8 q0 p1 p2)), .second, .val (.long (w0_9 p1)), .second, .unset, .unset, .unset] [])) _
    refine XS.lload X24.here hx rfl (hb hby at_109) rfl ?_
    show Steps p.tables e below (T24.setTop (mkF m 111 #[.val (.long q0), .second, .val (.int p1), .val (.int p2), .val (.int (p1 &&& (255 : Int32))), .val (.long (w0_8 q0 p1 p2)), .second, .val (.long (w0_9 p1)), .second, .unset, .unset, .unset] [(.long (w0_8 q0 p1 p2))])) _
    refine XS.lload X24.here hx rfl (hb hby at_111) rfl ?_
    show Steps p.tables e below (T24.setTop (mkF m 113 #[.val (.long q0), .second, .val (.int p1), .val (.int p2), .val (.int (p1 &&& (255 : Int32))), .val (.long (w0_8 q0 p1 p2)), .second, .val (.long (w0_9 p1)), .second, .unset, .unset, .unset] [(.long (w0_9 p1)), (.long (w0_8 q0 p1 p2))])) _
    exact k)
  have K_26 : ∀ t, Steps p.tables e below (T24.setTop (mkF m 113 #[.val (.long q0), .second, .val (.int p1), .val (.int p2), .val (.int (p1 &&& (255 : Int32))), .val (.long (w0_8 q0 p1 p2)), .second, .val (.long (w0_9 p1)), .second, .unset, .unset, .unset] [(.long (w0_9 p1)), (.long (w0_8 q0 p1 p2))])) t → Steps p.tables e below S0 t := K25
  obtain ⟨_, _, ⟨T27, L27, k27, n27⟩, -, X27, ⟨Lc27, hQ27, l27, y27, z27⟩, st27⟩ := Jvm.LawKit.callS X24 hx (y := (⟨"com/example/rota/rota/process/ByteWords", "equal", "(JJ)J"⟩ : MethodName)) hown (mvT hZ (hw _ (List.mem_of_getElem? (i := 7) rfl))) (mvT hZ (hw _ (List.mem_of_getElem? (i := 8) rfl))) (mvT hZ (hw _ (List.mem_of_getElem? (i := 9) rfl))) (mvT hZ (hw _ (List.mem_of_getElem? (i := 10) rfl))) (by decide) (backOf (W := 0) (rm2 l Z a0 hw [] (w0_8 q0 p1 p2) (w0_9 p1) h0 n0 Z0 ) hZ (hw _ (List.mem_of_getElem? (i := 10) rfl)) (hw _ (List.mem_of_getElem? (i := 9) rfl)) (by decide) (by decide)) (g := (mkF m 113 #[.val (.long q0), .second, .val (.int p1), .val (.int p2), .val (.int (p1 &&& (255 : Int32))), .val (.long (w0_8 q0 p1 p2)), .second, .val (.long (w0_9 p1)), .second, .unset, .unset, .unset] [(.long (w0_9 p1)), (.long (w0_8 q0 p1 p2))])) rfl (by rw [hml]; rfl) (argsL := [(.long (w0_8 q0 p1 p2)), (.long (w0_9 p1))]) (rest := []) (lenOf pd0_1 rfl) rfl (by show 2 * 0 + _ ≤ _; exact Nat.le_of_eq rfl) (hb hby at_113) (fun _ _ => ⟨rfl, e24, (by decide : 0 + 0 ≤ 0), (by decide : 0 + 0 ≤ 0)⟩)
  dsimp only [Pt.U, Pt.locs, Pt.cells, Pt.slots] at X27 l27 y27 z27 st27 hQ27
  subst l27 y27 z27
  obtain ⟨rfl, N27q, e27⟩ := hQ27
  have N27 := Fr.app N24 N27q
  have K27 : ∀ t, Steps p.tables e below (T27.setTop (mkF m 116 #[.val (.long q0), .second, .val (.int p1), .val (.int p2), .val (.int (p1 &&& (255 : Int32))), .val (.long (w0_8 q0 p1 p2)), .second, .val (.long (w0_9 p1)), .second, .unset, .unset, .unset] [(.long (w0_10 q0 p1 p2))])) t → Steps p.tables e below S0 t := fun t k => K_26 t (st27 t k)
  have K28 : ∀ t, Steps p.tables e below (T27.setTop (mkF m 126 #[.val (.long q0), .second, .val (.int p1), .val (.int p2), .val (.int (p1 &&& (255 : Int32))), .val (.long (w0_8 q0 p1 p2)), .second, .val (.long (w0_9 p1)), .second, .val (.long (w0_10 q0 p1 p2)), .second, .unset] [(.int (lcmpW (w0_11 q0 p1 p2) (0 : Int64)))])) t → Steps p.tables e below S0 t := fun t k => K27 t (by
    refine XS.lstore X27.here hx rfl (hb hby at_116) rfl (l' := #[.val (.long q0), .second, .val (.int p1), .val (.int p2), .val (.int (p1 &&& (255 : Int32))), .val (.long (w0_8 q0 p1 p2)), .second, .val (.long (w0_9 p1)), .second, .val (.long (w0_10 q0 p1 p2)), .second, .unset]) rfl ?_
    show Steps p.tables e below (T27.setTop (mkF m 118 #[.val (.long q0), .second, .val (.int p1), .val (.int p2), .val (.int (p1 &&& (255 : Int32))), .val (.long (w0_8 q0 p1 p2)), .second, .val (.long (w0_9 p1)), .second, .val (.long (w0_10 q0 p1 p2)), .second, .unset] [])) _
    refine XS.lload X27.here hx rfl (hb hby at_118) rfl ?_
    show Steps p.tables e below (T27.setTop (mkF m 120 #[.val (.long q0), .second, .val (.int p1), .val (.int p2), .val (.int (p1 &&& (255 : Int32))), .val (.long (w0_8 q0 p1 p2)), .second, .val (.long (w0_9 p1)), .second, .val (.long (w0_10 q0 p1 p2)), .second, .unset] [(.long (w0_10 q0 p1 p2))])) _
    refine X27.ldc2Long hx hown (mvT hZ (hw _ (List.mem_of_getElem? (i := 14) rfl))) (g := (mkF m 120 #[.val (.long q0), .second, .val (.int p1), .val (.int p2), .val (.int (p1 &&& (255 : Int32))), .val (.long (w0_8 q0 p1 p2)), .second, .val (.long (w0_9 p1)), .second, .val (.long (w0_10 q0 p1 p2)), .second, .unset] [(.long (w0_10 q0 p1 p2))])) rfl (hb hby at_120) _ ?_
    show Steps p.tables e below (T27.setTop (mkF m 123 #[.val (.long q0), .second, .val (.int p1), .val (.int p2), .val (.int (p1 &&& (255 : Int32))), .val (.long (w0_8 q0 p1 p2)), .second, .val (.long (w0_9 p1)), .second, .val (.long (w0_10 q0 p1 p2)), .second, .unset] [(.long (9187201950435737471 : Int64)), (.long (w0_10 q0 p1 p2))])) _
    refine XS.land X27.here hx rfl (hb hby at_123) rfl ?_
    show Steps p.tables e below (T27.setTop (mkF m 124 #[.val (.long q0), .second, .val (.int p1), .val (.int p2), .val (.int (p1 &&& (255 : Int32))), .val (.long (w0_8 q0 p1 p2)), .second, .val (.long (w0_9 p1)), .second, .val (.long (w0_10 q0 p1 p2)), .second, .unset] [(.long ((w0_10 q0 p1 p2) &&& (9187201950435737471 : Int64)))])) _
    refine XS.lconst X27.here hx rfl (hb hby at_124) ?_
    show Steps p.tables e below (T27.setTop (mkF m 125 #[.val (.long q0), .second, .val (.int p1), .val (.int p2), .val (.int (p1 &&& (255 : Int32))), .val (.long (w0_8 q0 p1 p2)), .second, .val (.long (w0_9 p1)), .second, .val (.long (w0_10 q0 p1 p2)), .second, .unset] [(.long (0 : Int64)), (.long ((w0_10 q0 p1 p2) &&& (9187201950435737471 : Int64)))])) _
    refine XS.lcmp X27.here hx rfl (hb hby at_125) rfl ?_
    show Steps p.tables e below (T27.setTop (mkF m 126 #[.val (.long q0), .second, .val (.int p1), .val (.int p2), .val (.int (p1 &&& (255 : Int32))), .val (.long (w0_8 q0 p1 p2)), .second, .val (.long (w0_9 p1)), .second, .val (.long (w0_10 q0 p1 p2)), .second, .unset] [(.int (lcmpW (w0_11 q0 p1 p2) (0 : Int64)))])) _
    exact k)
  by_cases hc126_0 : (w0_11 q0 p1 p2) = (0 : Int64)
  · -- yes
    have K29 : ∀ t, Steps p.tables e below (T27.setTop (mkF m 135 #[.val (.long q0), .second, .val (.int p1), .val (.int p2), .val (.int (p1 &&& (255 : Int32))), .val (.long (w0_8 q0 p1 p2)), .second, .val (.long (w0_9 p1)), .second, .val (.long (w0_10 q0 p1 p2)), .second, .unset] [(.int (p1 &&& (255 : Int32))), (.long (w0_8 q0 p1 p2))])) t → Steps p.tables e below S0 t := fun t k => K28 t (by
      refine XS.ifYes X27.here hx rfl (pc0 := 126) (pc' := 131) rfl (hb hby at_126) rfl (XT.ll_eq_t hc126_0) (by decide) (by decide) ?_
      show Steps p.tables e below (T27.setTop (mkF m 131 #[.val (.long q0), .second, .val (.int p1), .val (.int p2), .val (.int (p1 &&& (255 : Int32))), .val (.long (w0_8 q0 p1 p2)), .second, .val (.long (w0_9 p1)), .second, .val (.long (w0_10 q0 p1 p2)), .second, .unset] [])) _
      refine XS.lload X27.here hx rfl (hb hby at_131) rfl ?_
      show Steps p.tables e below (T27.setTop (mkF m 133 #[.val (.long q0), .second, .val (.int p1), .val (.int p2), .val (.int (p1 &&& (255 : Int32))), .val (.long (w0_8 q0 p1 p2)), .second, .val (.long (w0_9 p1)), .second, .val (.long (w0_10 q0 p1 p2)), .second, .unset] [(.long (w0_8 q0 p1 p2))])) _
      refine XS.iload X27.here hx rfl (hb hby at_133) rfl ?_
      show Steps p.tables e below (T27.setTop (mkF m 135 #[.val (.long q0), .second, .val (.int p1), .val (.int p2), .val (.int (p1 &&& (255 : Int32))), .val (.long (w0_8 q0 p1 p2)), .second, .val (.long (w0_9 p1)), .second, .val (.long (w0_10 q0 p1 p2)), .second, .unset] [(.int (p1 &&& (255 : Int32))), (.long (w0_8 q0 p1 p2))])) _
      exact k)
    have K_30 : ∀ t, Steps p.tables e below (T27.setTop (mkF m 135 #[.val (.long q0), .second, .val (.int p1), .val (.int p2), .val (.int (p1 &&& (255 : Int32))), .val (.long (w0_8 q0 p1 p2)), .second, .val (.long (w0_9 p1)), .second, .val (.long (w0_10 q0 p1 p2)), .second, .unset] [(.int (p1 &&& (255 : Int32))), (.long (w0_8 q0 p1 p2))])) t → Steps p.tables e below S0 t := K29
    obtain ⟨_, _, ⟨T31, L31, k31, n31⟩, -, X31, ⟨Lc31, hQ31, l31, y31, z31⟩, st31⟩ := Jvm.LawKit.callS X27 hx (y := (⟨"com/example/rota/rota/process/ByteWordsEqualPinLaw", "firstMatch", "(JI)I"⟩ : MethodName)) hown (mvT hZ (hw _ (List.mem_of_getElem? (i := 15) rfl))) (mvT hZ (hw _ (List.mem_of_getElem? (i := 16) rfl))) (mvT hZ (hw _ (List.mem_of_getElem? (i := 2) rfl))) (mvT hZ (hw _ (List.mem_of_getElem? (i := 17) rfl))) (by decide) (backOf (W := 0) (rm4 l Z a0 hw [] (w0_8 q0 p1 p2) (p1 &&& (255 : Int32)) h0 n0 Z0 ) hZ (hw _ (List.mem_of_getElem? (i := 17) rfl)) (hw _ (List.mem_of_getElem? (i := 2) rfl)) (by decide) (by decide)) (g := (mkF m 135 #[.val (.long q0), .second, .val (.int p1), .val (.int p2), .val (.int (p1 &&& (255 : Int32))), .val (.long (w0_8 q0 p1 p2)), .second, .val (.long (w0_9 p1)), .second, .val (.long (w0_10 q0 p1 p2)), .second, .unset] [(.int (p1 &&& (255 : Int32))), (.long (w0_8 q0 p1 p2))])) rfl (by rw [hml]; rfl) (argsL := [(.long (w0_8 q0 p1 p2)), (.int (p1 &&& (255 : Int32)))]) (rest := []) (lenOf pd0_2 rfl) rfl (by show 2 * 0 + _ ≤ _; exact Nat.le_of_eq rfl) (hb hby at_135) (fun _ _ => ⟨rfl, e27, (by decide : 0 + 0 ≤ 0), (by decide : 0 + 0 ≤ 0)⟩)
    dsimp only [Pt.U, Pt.locs, Pt.cells, Pt.slots] at X31 l31 y31 z31 st31 hQ31
    subst l31 y31 z31
    obtain ⟨rfl, N31q, e31⟩ := hQ31
    have N31 := Fr.app N27 N31q
    have K31 : ∀ t, Steps p.tables e below (T31.setTop (mkF m 138 #[.val (.long q0), .second, .val (.int p1), .val (.int p2), .val (.int (p1 &&& (255 : Int32))), .val (.long (w0_8 q0 p1 p2)), .second, .val (.long (w0_9 p1)), .second, .val (.long (w0_10 q0 p1 p2)), .second, .unset] [(.int (w0_12 q0 p1 p2))])) t → Steps p.tables e below S0 t := fun t k => K_30 t (st31 t k)
    have K32 : ∀ t, Steps p.tables e below (T31.setTop (mkF m 149 #[.val (.long q0), .second, .val (.int p1), .val (.int p2), .val (.int (p1 &&& (255 : Int32))), .val (.long (w0_8 q0 p1 p2)), .second, .val (.long (w0_9 p1)), .second, .val (.long (w0_10 q0 p1 p2)), .second, .val (.int (w0_12 q0 p1 p2))] [(.int (w0_12 q0 p1 p2)), (.int (0 : Int32)), (.int (p1 &&& (255 : Int32))), (.long (w0_10 q0 p1 p2)), (.long (w0_8 q0 p1 p2))])) t → Steps p.tables e below S0 t := fun t k => K31 t (by
      refine XS.istore X31.here hx rfl (hb hby at_138) rfl (l' := #[.val (.long q0), .second, .val (.int p1), .val (.int p2), .val (.int (p1 &&& (255 : Int32))), .val (.long (w0_8 q0 p1 p2)), .second, .val (.long (w0_9 p1)), .second, .val (.long (w0_10 q0 p1 p2)), .second, .val (.int (w0_12 q0 p1 p2))]) rfl ?_
      show Steps p.tables e below (T31.setTop (mkF m 140 #[.val (.long q0), .second, .val (.int p1), .val (.int p2), .val (.int (p1 &&& (255 : Int32))), .val (.long (w0_8 q0 p1 p2)), .second, .val (.long (w0_9 p1)), .second, .val (.long (w0_10 q0 p1 p2)), .second, .val (.int (w0_12 q0 p1 p2))] [])) _
      refine XS.lload X31.here hx rfl (hb hby at_140) rfl ?_
      show Steps p.tables e below (T31.setTop (mkF m 142 #[.val (.long q0), .second, .val (.int p1), .val (.int p2), .val (.int (p1 &&& (255 : Int32))), .val (.long (w0_8 q0 p1 p2)), .second, .val (.long (w0_9 p1)), .second, .val (.long (w0_10 q0 p1 p2)), .second, .val (.int (w0_12 q0 p1 p2))] [(.long (w0_8 q0 p1 p2))])) _
      refine XS.lload X31.here hx rfl (hb hby at_142) rfl ?_
      show Steps p.tables e below (T31.setTop (mkF m 144 #[.val (.long q0), .second, .val (.int p1), .val (.int p2), .val (.int (p1 &&& (255 : Int32))), .val (.long (w0_8 q0 p1 p2)), .second, .val (.long (w0_9 p1)), .second, .val (.long (w0_10 q0 p1 p2)), .second, .val (.int (w0_12 q0 p1 p2))] [(.long (w0_10 q0 p1 p2)), (.long (w0_8 q0 p1 p2))])) _
      refine XS.iload X31.here hx rfl (hb hby at_144) rfl ?_
      show Steps p.tables e below (T31.setTop (mkF m 146 #[.val (.long q0), .second, .val (.int p1), .val (.int p2), .val (.int (p1 &&& (255 : Int32))), .val (.long (w0_8 q0 p1 p2)), .second, .val (.long (w0_9 p1)), .second, .val (.long (w0_10 q0 p1 p2)), .second, .val (.int (w0_12 q0 p1 p2))] [(.int (p1 &&& (255 : Int32))), (.long (w0_10 q0 p1 p2)), (.long (w0_8 q0 p1 p2))])) _
      refine XS.iconst X31.here hx rfl (hb hby at_146) ?_
      show Steps p.tables e below (T31.setTop (mkF m 147 #[.val (.long q0), .second, .val (.int p1), .val (.int p2), .val (.int (p1 &&& (255 : Int32))), .val (.long (w0_8 q0 p1 p2)), .second, .val (.long (w0_9 p1)), .second, .val (.long (w0_10 q0 p1 p2)), .second, .val (.int (w0_12 q0 p1 p2))] [(.int (0 : Int32)), (.int (p1 &&& (255 : Int32))), (.long (w0_10 q0 p1 p2)), (.long (w0_8 q0 p1 p2))])) _
      refine XS.iload X31.here hx rfl (hb hby at_147) rfl ?_
      show Steps p.tables e below (T31.setTop (mkF m 149 #[.val (.long q0), .second, .val (.int p1), .val (.int p2), .val (.int (p1 &&& (255 : Int32))), .val (.long (w0_8 q0 p1 p2)), .second, .val (.long (w0_9 p1)), .second, .val (.long (w0_10 q0 p1 p2)), .second, .val (.int (w0_12 q0 p1 p2))] [(.int (w0_12 q0 p1 p2)), (.int (0 : Int32)), (.int (p1 &&& (255 : Int32))), (.long (w0_10 q0 p1 p2)), (.long (w0_8 q0 p1 p2))])) _
      exact k)
    have K_33 : ∀ t, Steps p.tables e below (T31.setTop (mkF m 149 #[.val (.long q0), .second, .val (.int p1), .val (.int p2), .val (.int (p1 &&& (255 : Int32))), .val (.long (w0_8 q0 p1 p2)), .second, .val (.long (w0_9 p1)), .second, .val (.long (w0_10 q0 p1 p2)), .second, .val (.int (w0_12 q0 p1 p2))] [(.int (w0_12 q0 p1 p2)), (.int (0 : Int32)), (.int (p1 &&& (255 : Int32))), (.long (w0_10 q0 p1 p2)), (.long (w0_8 q0 p1 p2))])) t → Steps p.tables e below S0 t := K32
    obtain ⟨_, _, ⟨T34, L34, k34, n34⟩, -, X34, ⟨Lc34, hQ34, l34, y34, z34⟩, st34⟩ := Jvm.LawKit.callS X31 hx (y := (⟨"com/example/rota/rota/process/ByteWordsEqualPinLaw", "ok", "(JJIII)Z"⟩ : MethodName)) hown (mvT hZ (hw _ (List.mem_of_getElem? (i := 21) rfl))) (mvT hZ (hw _ (List.mem_of_getElem? (i := 22) rfl))) (mvT hZ (hw _ (List.mem_of_getElem? (i := 2) rfl))) (mvT hZ (hw _ (List.mem_of_getElem? (i := 23) rfl))) (by decide) (backOf (W := 0) (rm6 l Z a0 hw [] (w0_8 q0 p1 p2) (w0_10 q0 p1 p2) (p1 &&& (255 : Int32)) (0 : Int32) (w0_12 q0 p1 p2) h0 n0 Z0 ) hZ (hw _ (List.mem_of_getElem? (i := 23) rfl)) (hw _ (List.mem_of_getElem? (i := 2) rfl)) (by decide) (by decide)) (g := (mkF m 149 #[.val (.long q0), .second, .val (.int p1), .val (.int p2), .val (.int (p1 &&& (255 : Int32))), .val (.long (w0_8 q0 p1 p2)), .second, .val (.long (w0_9 p1)), .second, .val (.long (w0_10 q0 p1 p2)), .second, .val (.int (w0_12 q0 p1 p2))] [(.int (w0_12 q0 p1 p2)), (.int (0 : Int32)), (.int (p1 &&& (255 : Int32))), (.long (w0_10 q0 p1 p2)), (.long (w0_8 q0 p1 p2))])) rfl (by rw [hml]; rfl) (argsL := [(.long (w0_8 q0 p1 p2)), (.long (w0_10 q0 p1 p2)), (.int (p1 &&& (255 : Int32))), (.int (0 : Int32)), (.int (w0_12 q0 p1 p2))]) (rest := []) (lenOf pd0_3 rfl) rfl (by show 2 * 0 + _ ≤ _; exact Nat.le_of_eq rfl) (hb hby at_149) (fun _ _ => ⟨rfl, e31, (by decide : 0 + 0 ≤ 0), (by decide : 0 + 0 ≤ 0)⟩)
    dsimp only [Pt.U, Pt.locs, Pt.cells, Pt.slots] at X34 l34 y34 z34 st34 hQ34
    subst l34 y34 z34
    obtain ⟨rfl, N34q, e34⟩ := hQ34
    have N34 := Fr.app N31 N34q
    have K34 : ∀ t, Steps p.tables e below (T34.setTop (mkF m 152 #[.val (.long q0), .second, .val (.int p1), .val (.int p2), .val (.int (p1 &&& (255 : Int32))), .val (.long (w0_8 q0 p1 p2)), .second, .val (.long (w0_9 p1)), .second, .val (.long (w0_10 q0 p1 p2)), .second, .val (.int (w0_12 q0 p1 p2))] [(.int (w0_13 q0 p1 p2))])) t → Steps p.tables e below S0 t := fun t k => K_33 t (st34 t k)
    by_cases hc152_1 : (w0_13 q0 p1 p2) = (0 : Int32)
    · -- yes
      have K35 : ∀ t, Steps p.tables e below (T34.setTop (mkF m 267 #[.val (.long q0), .second, .val (.int p1), .val (.int p2), .val (.int (p1 &&& (255 : Int32))), .val (.long (w0_8 q0 p1 p2)), .second, .val (.long (w0_9 p1)), .second, .val (.long (w0_10 q0 p1 p2)), .second, .val (.int (w0_12 q0 p1 p2))] [(.int (0 : Int32))])) t → Steps p.tables e below S0 t := fun t k => K34 t (by
        refine XS.ifYes X34.here hx rfl (pc0 := 152) (pc' := 266) rfl (hb hby at_152) rfl (XT.i0_eq_t hc152_1) (by decide) (by decide) ?_
        show Steps p.tables e below (T34.setTop (mkF m 266 #[.val (.long q0), .second, .val (.int p1), .val (.int p2), .val (.int (p1 &&& (255 : Int32))), .val (.long (w0_8 q0 p1 p2)), .second, .val (.long (w0_9 p1)), .second, .val (.long (w0_10 q0 p1 p2)), .second, .val (.int (w0_12 q0 p1 p2))] [])) _
        refine XS.iconst X34.here hx rfl (hb hby at_266) ?_
        show Steps p.tables e below (T34.setTop (mkF m 267 #[.val (.long q0), .second, .val (.int p1), .val (.int p2), .val (.int (p1 &&& (255 : Int32))), .val (.long (w0_8 q0 p1 p2)), .second, .val (.long (w0_9 p1)), .second, .val (.long (w0_10 q0 p1 p2)), .second, .val (.int (w0_12 q0 p1 p2))] [(.int (0 : Int32))])) _
        exact k)
      obtain ⟨fs, hr, hrun, hended, hW, hsame⟩ := X34.leave (v := some (.int (0 : Int32))) (fun h => by rw [Bd.returns] at h; cases h)
      refine ⟨_, _, ?_, hrun, hended, _, _, rfl, ?_, ⟨_, rfl⟩, hW, hsame.mono (by decide) (by decide)⟩
      · rw [← hS0]; exact K35 _ (retN X34 hx (t := .boolean) Bd.returns (by simp) (hb hby at_267) hr)
      · show Q0 Z q0 p1 p2 h0 n0 _ T34.heap _
        rw [e34]
        have qr : (0 : Int32) = (w0_r21 q0 p1 p2) := by unfold w0_r21; rw [if_pos hc126_0, if_pos hc152_1]
        exact ⟨congrArg (fun z => some (Value.int z)) qr, N34⟩
    · -- no
      have K36 : ∀ t, Steps p.tables e below (T34.setTop (mkF m 164 #[.val (.long q0), .second, .val (.int p1), .val (.int p2), .val (.int (p1 &&& (255 : Int32))), .val (.long (w0_8 q0 p1 p2)), .second, .val (.long (w0_9 p1)), .second, .val (.long (w0_10 q0 p1 p2)), .second, .val (.int (w0_12 q0 p1 p2))] [(.int (w0_12 q0 p1 p2)), (.int (1 : Int32)), (.int (p1 &&& (255 : Int32))), (.long (w0_10 q0 p1 p2)), (.long (w0_8 q0 p1 p2))])) t → Steps p.tables e below S0 t := fun t k => K34 t (by
        refine XS.ifNo X34.here hx rfl (hb hby at_152) rfl (XT.i0_eq_f hc152_1) ?_
        show Steps p.tables e below (T34.setTop (mkF m 155 #[.val (.long q0), .second, .val (.int p1), .val (.int p2), .val (.int (p1 &&& (255 : Int32))), .val (.long (w0_8 q0 p1 p2)), .second, .val (.long (w0_9 p1)), .second, .val (.long (w0_10 q0 p1 p2)), .second, .val (.int (w0_12 q0 p1 p2))] [])) _
        refine XS.lload X34.here hx rfl (hb hby at_155) rfl ?_
        show Steps p.tables e below (T34.setTop (mkF m 157 #[.val (.long q0), .second, .val (.int p1), .val (.int p2), .val (.int (p1 &&& (255 : Int32))), .val (.long (w0_8 q0 p1 p2)), .second, .val (.long (w0_9 p1)), .second, .val (.long (w0_10 q0 p1 p2)), .second, .val (.int (w0_12 q0 p1 p2))] [(.long (w0_8 q0 p1 p2))])) _
        refine XS.lload X34.here hx rfl (hb hby at_157) rfl ?_
        show Steps p.tables e below (T34.setTop (mkF m 159 #[.val (.long q0), .second, .val (.int p1), .val (.int p2), .val (.int (p1 &&& (255 : Int32))), .val (.long (w0_8 q0 p1 p2)), .second, .val (.long (w0_9 p1)), .second, .val (.long (w0_10 q0 p1 p2)), .second, .val (.int (w0_12 q0 p1 p2))] [(.long (w0_10 q0 p1 p2)), (.long (w0_8 q0 p1 p2))])) _
        refine XS.iload X34.here hx rfl (hb hby at_159) rfl ?_
        show Steps p.tables e below (T34.setTop (mkF m 161 #[.val (.long q0), .second, .val (.int p1), .val (.int p2), .val (.int (p1 &&& (255 : Int32))), .val (.long (w0_8 q0 p1 p2)), .second, .val (.long (w0_9 p1)), .second, .val (.long (w0_10 q0 p1 p2)), .second, .val (.int (w0_12 q0 p1 p2))] [(.int (p1 &&& (255 : Int32))), (.long (w0_10 q0 p1 p2)), (.long (w0_8 q0 p1 p2))])) _
        refine XS.iconst X34.here hx rfl (hb hby at_161) ?_
        show Steps p.tables e below (T34.setTop (mkF m 162 #[.val (.long q0), .second, .val (.int p1), .val (.int p2), .val (.int (p1 &&& (255 : Int32))), .val (.long (w0_8 q0 p1 p2)), .second, .val (.long (w0_9 p1)), .second, .val (.long (w0_10 q0 p1 p2)), .second, .val (.int (w0_12 q0 p1 p2))] [(.int (1 : Int32)), (.int (p1 &&& (255 : Int32))), (.long (w0_10 q0 p1 p2)), (.long (w0_8 q0 p1 p2))])) _
        refine XS.iload X34.here hx rfl (hb hby at_162) rfl ?_
        show Steps p.tables e below (T34.setTop (mkF m 164 #[.val (.long q0), .second, .val (.int p1), .val (.int p2), .val (.int (p1 &&& (255 : Int32))), .val (.long (w0_8 q0 p1 p2)), .second, .val (.long (w0_9 p1)), .second, .val (.long (w0_10 q0 p1 p2)), .second, .val (.int (w0_12 q0 p1 p2))] [(.int (w0_12 q0 p1 p2)), (.int (1 : Int32)), (.int (p1 &&& (255 : Int32))), (.long (w0_10 q0 p1 p2)), (.long (w0_8 q0 p1 p2))])) _
        exact k)
      have K_37 : ∀ t, Steps p.tables e below (T34.setTop (mkF m 164 #[.val (.long q0), .second, .val (.int p1), .val (.int p2), .val (.int (p1 &&& (255 : Int32))), .val (.long (w0_8 q0 p1 p2)), .second, .val (.long (w0_9 p1)), .second, .val (.long (w0_10 q0 p1 p2)), .second, .val (.int (w0_12 q0 p1 p2))] [(.int (w0_12 q0 p1 p2)), (.int (1 : Int32)), (.int (p1 &&& (255 : Int32))), (.long (w0_10 q0 p1 p2)), (.long (w0_8 q0 p1 p2))])) t → Steps p.tables e below S0 t := K36
      obtain ⟨_, _, ⟨T38, L38, k38, n38⟩, -, X38, ⟨Lc38, hQ38, l38, y38, z38⟩, st38⟩ := Jvm.LawKit.callS X34 hx (y := (⟨"com/example/rota/rota/process/ByteWordsEqualPinLaw", "ok", "(JJIII)Z"⟩ : MethodName)) hown (mvT hZ (hw _ (List.mem_of_getElem? (i := 21) rfl))) (mvT hZ (hw _ (List.mem_of_getElem? (i := 22) rfl))) (mvT hZ (hw _ (List.mem_of_getElem? (i := 2) rfl))) (mvT hZ (hw _ (List.mem_of_getElem? (i := 23) rfl))) (by decide) (backOf (W := 0) (rm6 l Z a0 hw [] (w0_8 q0 p1 p2) (w0_10 q0 p1 p2) (p1 &&& (255 : Int32)) (1 : Int32) (w0_12 q0 p1 p2) h0 n0 Z0 ) hZ (hw _ (List.mem_of_getElem? (i := 23) rfl)) (hw _ (List.mem_of_getElem? (i := 2) rfl)) (by decide) (by decide)) (g := (mkF m 164 #[.val (.long q0), .second, .val (.int p1), .val (.int p2), .val (.int (p1 &&& (255 : Int32))), .val (.long (w0_8 q0 p1 p2)), .second, .val (.long (w0_9 p1)), .second, .val (.long (w0_10 q0 p1 p2)), .second, .val (.int (w0_12 q0 p1 p2))] [(.int (w0_12 q0 p1 p2)), (.int (1 : Int32)), (.int (p1 &&& (255 : Int32))), (.long (w0_10 q0 p1 p2)), (.long (w0_8 q0 p1 p2))])) rfl (by rw [hml]; rfl) (argsL := [(.long (w0_8 q0 p1 p2)), (.long (w0_10 q0 p1 p2)), (.int (p1 &&& (255 : Int32))), (.int (1 : Int32)), (.int (w0_12 q0 p1 p2))]) (rest := []) (lenOf pd0_3 rfl) rfl (by show 2 * 0 + _ ≤ _; exact Nat.le_of_eq rfl) (hb hby at_164) (fun _ _ => ⟨rfl, e34, (by decide : 0 + 0 ≤ 0), (by decide : 0 + 0 ≤ 0)⟩)
      dsimp only [Pt.U, Pt.locs, Pt.cells, Pt.slots] at X38 l38 y38 z38 st38 hQ38
      subst l38 y38 z38
      obtain ⟨rfl, N38q, e38⟩ := hQ38
      have N38 := Fr.app N34 N38q
      have K38 : ∀ t, Steps p.tables e below (T38.setTop (mkF m 167 #[.val (.long q0), .second, .val (.int p1), .val (.int p2), .val (.int (p1 &&& (255 : Int32))), .val (.long (w0_8 q0 p1 p2)), .second, .val (.long (w0_9 p1)), .second, .val (.long (w0_10 q0 p1 p2)), .second, .val (.int (w0_12 q0 p1 p2))] [(.int (w0_14 q0 p1 p2))])) t → Steps p.tables e below S0 t := fun t k => K_37 t (st38 t k)
      by_cases hc167_2 : (w0_14 q0 p1 p2) = (0 : Int32)
      · -- yes
        have K39 : ∀ t, Steps p.tables e below (T38.setTop (mkF m 267 #[.val (.long q0), .second, .val (.int p1), .val (.int p2), .val (.int (p1 &&& (255 : Int32))), .val (.long (w0_8 q0 p1 p2)), .second, .val (.long (w0_9 p1)), .second, .val (.long (w0_10 q0 p1 p2)), .second, .val (.int (w0_12 q0 p1 p2))] [(.int (0 : Int32))])) t → Steps p.tables e below S0 t := fun t k => K38 t (by
          refine XS.ifYes X38.here hx rfl (pc0 := 167) (pc' := 266) rfl (hb hby at_167) rfl (XT.i0_eq_t hc167_2) (by decide) (by decide) ?_
          show Steps p.tables e below (T38.setTop (mkF m 266 #[.val (.long q0), .second, .val (.int p1), .val (.int p2), .val (.int (p1 &&& (255 : Int32))), .val (.long (w0_8 q0 p1 p2)), .second, .val (.long (w0_9 p1)), .second, .val (.long (w0_10 q0 p1 p2)), .second, .val (.int (w0_12 q0 p1 p2))] [])) _
          refine XS.iconst X38.here hx rfl (hb hby at_266) ?_
          show Steps p.tables e below (T38.setTop (mkF m 267 #[.val (.long q0), .second, .val (.int p1), .val (.int p2), .val (.int (p1 &&& (255 : Int32))), .val (.long (w0_8 q0 p1 p2)), .second, .val (.long (w0_9 p1)), .second, .val (.long (w0_10 q0 p1 p2)), .second, .val (.int (w0_12 q0 p1 p2))] [(.int (0 : Int32))])) _
          exact k)
        obtain ⟨fs, hr, hrun, hended, hW, hsame⟩ := X38.leave (v := some (.int (0 : Int32))) (fun h => by rw [Bd.returns] at h; cases h)
        refine ⟨_, _, ?_, hrun, hended, _, _, rfl, ?_, ⟨_, rfl⟩, hW, hsame.mono (by decide) (by decide)⟩
        · rw [← hS0]; exact K39 _ (retN X38 hx (t := .boolean) Bd.returns (by simp) (hb hby at_267) hr)
        · show Q0 Z q0 p1 p2 h0 n0 _ T38.heap _
          rw [e38]
          have qr : (0 : Int32) = (w0_r21 q0 p1 p2) := by unfold w0_r21; rw [if_pos hc126_0, if_neg hc152_1, if_pos hc167_2]
          exact ⟨congrArg (fun z => some (Value.int z)) qr, N38⟩
      · -- no
        have K40 : ∀ t, Steps p.tables e below (T38.setTop (mkF m 179 #[.val (.long q0), .second, .val (.int p1), .val (.int p2), .val (.int (p1 &&& (255 : Int32))), .val (.long (w0_8 q0 p1 p2)), .second, .val (.long (w0_9 p1)), .second, .val (.long (w0_10 q0 p1 p2)), .second, .val (.int (w0_12 q0 p1 p2))] [(.int (w0_12 q0 p1 p2)), (.int (2 : Int32)), (.int (p1 &&& (255 : Int32))), (.long (w0_10 q0 p1 p2)), (.long (w0_8 q0 p1 p2))])) t → Steps p.tables e below S0 t := fun t k => K38 t (by
          refine XS.ifNo X38.here hx rfl (hb hby at_167) rfl (XT.i0_eq_f hc167_2) ?_
          show Steps p.tables e below (T38.setTop (mkF m 170 #[.val (.long q0), .second, .val (.int p1), .val (.int p2), .val (.int (p1 &&& (255 : Int32))), .val (.long (w0_8 q0 p1 p2)), .second, .val (.long (w0_9 p1)), .second, .val (.long (w0_10 q0 p1 p2)), .second, .val (.int (w0_12 q0 p1 p2))] [])) _
          refine XS.lload X38.here hx rfl (hb hby at_170) rfl ?_
          show Steps p.tables e below (T38.setTop (mkF m 172 #[.val (.long q0), .second, .val (.int p1), .val (.int p2), .val (.int (p1 &&& (255 : Int32))), .val (.long (w0_8 q0 p1 p2)), .second, .val (.long (w0_9 p1)), .second, .val (.long (w0_10 q0 p1 p2)), .second, .val (.int (w0_12 q0 p1 p2))] [(.long (w0_8 q0 p1 p2))])) _
          refine XS.lload X38.here hx rfl (hb hby at_172) rfl ?_
          show Steps p.tables e below (T38.setTop (mkF m 174 #[.val (.long q0), .second, .val (.int p1), .val (.int p2), .val (.int (p1 &&& (255 : Int32))), .val (.long (w0_8 q0 p1 p2)), .second, .val (.long (w0_9 p1)), .second, .val (.long (w0_10 q0 p1 p2)), .second, .val (.int (w0_12 q0 p1 p2))] [(.long (w0_10 q0 p1 p2)), (.long (w0_8 q0 p1 p2))])) _
          refine XS.iload X38.here hx rfl (hb hby at_174) rfl ?_
          show Steps p.tables e below (T38.setTop (mkF m 176 #[.val (.long q0), .second, .val (.int p1), .val (.int p2), .val (.int (p1 &&& (255 : Int32))), .val (.long (w0_8 q0 p1 p2)), .second, .val (.long (w0_9 p1)), .second, .val (.long (w0_10 q0 p1 p2)), .second, .val (.int (w0_12 q0 p1 p2))] [(.int (p1 &&& (255 : Int32))), (.long (w0_10 q0 p1 p2)), (.long (w0_8 q0 p1 p2))])) _
          refine XS.iconst X38.here hx rfl (hb hby at_176) ?_
          show Steps p.tables e below (T38.setTop (mkF m 177 #[.val (.long q0), .second, .val (.int p1), .val (.int p2), .val (.int (p1 &&& (255 : Int32))), .val (.long (w0_8 q0 p1 p2)), .second, .val (.long (w0_9 p1)), .second, .val (.long (w0_10 q0 p1 p2)), .second, .val (.int (w0_12 q0 p1 p2))] [(.int (2 : Int32)), (.int (p1 &&& (255 : Int32))), (.long (w0_10 q0 p1 p2)), (.long (w0_8 q0 p1 p2))])) _
          refine XS.iload X38.here hx rfl (hb hby at_177) rfl ?_
          show Steps p.tables e below (T38.setTop (mkF m 179 #[.val (.long q0), .second, .val (.int p1), .val (.int p2), .val (.int (p1 &&& (255 : Int32))), .val (.long (w0_8 q0 p1 p2)), .second, .val (.long (w0_9 p1)), .second, .val (.long (w0_10 q0 p1 p2)), .second, .val (.int (w0_12 q0 p1 p2))] [(.int (w0_12 q0 p1 p2)), (.int (2 : Int32)), (.int (p1 &&& (255 : Int32))), (.long (w0_10 q0 p1 p2)), (.long (w0_8 q0 p1 p2))])) _
          exact k)
        have K_41 : ∀ t, Steps p.tables e below (T38.setTop (mkF m 179 #[.val (.long q0), .second, .val (.int p1), .val (.int p2), .val (.int (p1 &&& (255 : Int32))), .val (.long (w0_8 q0 p1 p2)), .second, .val (.long (w0_9 p1)), .second, .val (.long (w0_10 q0 p1 p2)), .second, .val (.int (w0_12 q0 p1 p2))] [(.int (w0_12 q0 p1 p2)), (.int (2 : Int32)), (.int (p1 &&& (255 : Int32))), (.long (w0_10 q0 p1 p2)), (.long (w0_8 q0 p1 p2))])) t → Steps p.tables e below S0 t := K40
        obtain ⟨_, _, ⟨T42, L42, k42, n42⟩, -, X42, ⟨Lc42, hQ42, l42, y42, z42⟩, st42⟩ := Jvm.LawKit.callS X38 hx (y := (⟨"com/example/rota/rota/process/ByteWordsEqualPinLaw", "ok", "(JJIII)Z"⟩ : MethodName)) hown (mvT hZ (hw _ (List.mem_of_getElem? (i := 21) rfl))) (mvT hZ (hw _ (List.mem_of_getElem? (i := 22) rfl))) (mvT hZ (hw _ (List.mem_of_getElem? (i := 2) rfl))) (mvT hZ (hw _ (List.mem_of_getElem? (i := 23) rfl))) (by decide) (backOf (W := 0) (rm6 l Z a0 hw [] (w0_8 q0 p1 p2) (w0_10 q0 p1 p2) (p1 &&& (255 : Int32)) (2 : Int32) (w0_12 q0 p1 p2) h0 n0 Z0 ) hZ (hw _ (List.mem_of_getElem? (i := 23) rfl)) (hw _ (List.mem_of_getElem? (i := 2) rfl)) (by decide) (by decide)) (g := (mkF m 179 #[.val (.long q0), .second, .val (.int p1), .val (.int p2), .val (.int (p1 &&& (255 : Int32))), .val (.long (w0_8 q0 p1 p2)), .second, .val (.long (w0_9 p1)), .second, .val (.long (w0_10 q0 p1 p2)), .second, .val (.int (w0_12 q0 p1 p2))] [(.int (w0_12 q0 p1 p2)), (.int (2 : Int32)), (.int (p1 &&& (255 : Int32))), (.long (w0_10 q0 p1 p2)), (.long (w0_8 q0 p1 p2))])) rfl (by rw [hml]; rfl) (argsL := [(.long (w0_8 q0 p1 p2)), (.long (w0_10 q0 p1 p2)), (.int (p1 &&& (255 : Int32))), (.int (2 : Int32)), (.int (w0_12 q0 p1 p2))]) (rest := []) (lenOf pd0_3 rfl) rfl (by show 2 * 0 + _ ≤ _; exact Nat.le_of_eq rfl) (hb hby at_179) (fun _ _ => ⟨rfl, e38, (by decide : 0 + 0 ≤ 0), (by decide : 0 + 0 ≤ 0)⟩)
        dsimp only [Pt.U, Pt.locs, Pt.cells, Pt.slots] at X42 l42 y42 z42 st42 hQ42
        subst l42 y42 z42
        obtain ⟨rfl, N42q, e42⟩ := hQ42
        have N42 := Fr.app N38 N42q
        have K42 : ∀ t, Steps p.tables e below (T42.setTop (mkF m 182 #[.val (.long q0), .second, .val (.int p1), .val (.int p2), .val (.int (p1 &&& (255 : Int32))), .val (.long (w0_8 q0 p1 p2)), .second, .val (.long (w0_9 p1)), .second, .val (.long (w0_10 q0 p1 p2)), .second, .val (.int (w0_12 q0 p1 p2))] [(.int (w0_15 q0 p1 p2))])) t → Steps p.tables e below S0 t := fun t k => K_41 t (st42 t k)
        by_cases hc182_3 : (w0_15 q0 p1 p2) = (0 : Int32)
        · -- yes
          have K43 : ∀ t, Steps p.tables e below (T42.setTop (mkF m 267 #[.val (.long q0), .second, .val (.int p1), .val (.int p2), .val (.int (p1 &&& (255 : Int32))), .val (.long (w0_8 q0 p1 p2)), .second, .val (.long (w0_9 p1)), .second, .val (.long (w0_10 q0 p1 p2)), .second, .val (.int (w0_12 q0 p1 p2))] [(.int (0 : Int32))])) t → Steps p.tables e below S0 t := fun t k => K42 t (by
            refine XS.ifYes X42.here hx rfl (pc0 := 182) (pc' := 266) rfl (hb hby at_182) rfl (XT.i0_eq_t hc182_3) (by decide) (by decide) ?_
            show Steps p.tables e below (T42.setTop (mkF m 266 #[.val (.long q0), .second, .val (.int p1), .val (.int p2), .val (.int (p1 &&& (255 : Int32))), .val (.long (w0_8 q0 p1 p2)), .second, .val (.long (w0_9 p1)), .second, .val (.long (w0_10 q0 p1 p2)), .second, .val (.int (w0_12 q0 p1 p2))] [])) _
            refine XS.iconst X42.here hx rfl (hb hby at_266) ?_
            show Steps p.tables e below (T42.setTop (mkF m 267 #[.val (.long q0), .second, .val (.int p1), .val (.int p2), .val (.int (p1 &&& (255 : Int32))), .val (.long (w0_8 q0 p1 p2)), .second, .val (.long (w0_9 p1)), .second, .val (.long (w0_10 q0 p1 p2)), .second, .val (.int (w0_12 q0 p1 p2))] [(.int (0 : Int32))])) _
            exact k)
          obtain ⟨fs, hr, hrun, hended, hW, hsame⟩ := X42.leave (v := some (.int (0 : Int32))) (fun h => by rw [Bd.returns] at h; cases h)
          refine ⟨_, _, ?_, hrun, hended, _, _, rfl, ?_, ⟨_, rfl⟩, hW, hsame.mono (by decide) (by decide)⟩
          · rw [← hS0]; exact K43 _ (retN X42 hx (t := .boolean) Bd.returns (by simp) (hb hby at_267) hr)
          · show Q0 Z q0 p1 p2 h0 n0 _ T42.heap _
            rw [e42]
            have qr : (0 : Int32) = (w0_r21 q0 p1 p2) := by unfold w0_r21; rw [if_pos hc126_0, if_neg hc152_1, if_neg hc167_2, if_pos hc182_3]
            exact ⟨congrArg (fun z => some (Value.int z)) qr, N42⟩
        · -- no
          have K44 : ∀ t, Steps p.tables e below (T42.setTop (mkF m 194 #[.val (.long q0), .second, .val (.int p1), .val (.int p2), .val (.int (p1 &&& (255 : Int32))), .val (.long (w0_8 q0 p1 p2)), .second, .val (.long (w0_9 p1)), .second, .val (.long (w0_10 q0 p1 p2)), .second, .val (.int (w0_12 q0 p1 p2))] [(.int (w0_12 q0 p1 p2)), (.int (3 : Int32)), (.int (p1 &&& (255 : Int32))), (.long (w0_10 q0 p1 p2)), (.long (w0_8 q0 p1 p2))])) t → Steps p.tables e below S0 t := fun t k => K42 t (by
            refine XS.ifNo X42.here hx rfl (hb hby at_182) rfl (XT.i0_eq_f hc182_3) ?_
            show Steps p.tables e below (T42.setTop (mkF m 185 #[.val (.long q0), .second, .val (.int p1), .val (.int p2), .val (.int (p1 &&& (255 : Int32))), .val (.long (w0_8 q0 p1 p2)), .second, .val (.long (w0_9 p1)), .second, .val (.long (w0_10 q0 p1 p2)), .second, .val (.int (w0_12 q0 p1 p2))] [])) _
            refine XS.lload X42.here hx rfl (hb hby at_185) rfl ?_
            show Steps p.tables e below (T42.setTop (mkF m 187 #[.val (.long q0), .second, .val (.int p1), .val (.int p2), .val (.int (p1 &&& (255 : Int32))), .val (.long (w0_8 q0 p1 p2)), .second, .val (.long (w0_9 p1)), .second, .val (.long (w0_10 q0 p1 p2)), .second, .val (.int (w0_12 q0 p1 p2))] [(.long (w0_8 q0 p1 p2))])) _
            refine XS.lload X42.here hx rfl (hb hby at_187) rfl ?_
            show Steps p.tables e below (T42.setTop (mkF m 189 #[.val (.long q0), .second, .val (.int p1), .val (.int p2), .val (.int (p1 &&& (255 : Int32))), .val (.long (w0_8 q0 p1 p2)), .second, .val (.long (w0_9 p1)), .second, .val (.long (w0_10 q0 p1 p2)), .second, .val (.int (w0_12 q0 p1 p2))] [(.long (w0_10 q0 p1 p2)), (.long (w0_8 q0 p1 p2))])) _
            refine XS.iload X42.here hx rfl (hb hby at_189) rfl ?_
            show Steps p.tables e below (T42.setTop (mkF m 191 #[.val (.long q0), .second, .val (.int p1), .val (.int p2), .val (.int (p1 &&& (255 : Int32))), .val (.long (w0_8 q0 p1 p2)), .second, .val (.long (w0_9 p1)), .second, .val (.long (w0_10 q0 p1 p2)), .second, .val (.int (w0_12 q0 p1 p2))] [(.int (p1 &&& (255 : Int32))), (.long (w0_10 q0 p1 p2)), (.long (w0_8 q0 p1 p2))])) _
            refine XS.iconst X42.here hx rfl (hb hby at_191) ?_
            show Steps p.tables e below (T42.setTop (mkF m 192 #[.val (.long q0), .second, .val (.int p1), .val (.int p2), .val (.int (p1 &&& (255 : Int32))), .val (.long (w0_8 q0 p1 p2)), .second, .val (.long (w0_9 p1)), .second, .val (.long (w0_10 q0 p1 p2)), .second, .val (.int (w0_12 q0 p1 p2))] [(.int (3 : Int32)), (.int (p1 &&& (255 : Int32))), (.long (w0_10 q0 p1 p2)), (.long (w0_8 q0 p1 p2))])) _
            refine XS.iload X42.here hx rfl (hb hby at_192) rfl ?_
            show Steps p.tables e below (T42.setTop (mkF m 194 #[.val (.long q0), .second, .val (.int p1), .val (.int p2), .val (.int (p1 &&& (255 : Int32))), .val (.long (w0_8 q0 p1 p2)), .second, .val (.long (w0_9 p1)), .second, .val (.long (w0_10 q0 p1 p2)), .second, .val (.int (w0_12 q0 p1 p2))] [(.int (w0_12 q0 p1 p2)), (.int (3 : Int32)), (.int (p1 &&& (255 : Int32))), (.long (w0_10 q0 p1 p2)), (.long (w0_8 q0 p1 p2))])) _
            exact k)
          have K_45 : ∀ t, Steps p.tables e below (T42.setTop (mkF m 194 #[.val (.long q0), .second, .val (.int p1), .val (.int p2), .val (.int (p1 &&& (255 : Int32))), .val (.long (w0_8 q0 p1 p2)), .second, .val (.long (w0_9 p1)), .second, .val (.long (w0_10 q0 p1 p2)), .second, .val (.int (w0_12 q0 p1 p2))] [(.int (w0_12 q0 p1 p2)), (.int (3 : Int32)), (.int (p1 &&& (255 : Int32))), (.long (w0_10 q0 p1 p2)), (.long (w0_8 q0 p1 p2))])) t → Steps p.tables e below S0 t := K44
          obtain ⟨_, _, ⟨T46, L46, k46, n46⟩, -, X46, ⟨Lc46, hQ46, l46, y46, z46⟩, st46⟩ := Jvm.LawKit.callS X42 hx (y := (⟨"com/example/rota/rota/process/ByteWordsEqualPinLaw", "ok", "(JJIII)Z"⟩ : MethodName)) hown (mvT hZ (hw _ (List.mem_of_getElem? (i := 21) rfl))) (mvT hZ (hw _ (List.mem_of_getElem? (i := 22) rfl))) (mvT hZ (hw _ (List.mem_of_getElem? (i := 2) rfl))) (mvT hZ (hw _ (List.mem_of_getElem? (i := 23) rfl))) (by decide) (backOf (W := 0) (rm6 l Z a0 hw [] (w0_8 q0 p1 p2) (w0_10 q0 p1 p2) (p1 &&& (255 : Int32)) (3 : Int32) (w0_12 q0 p1 p2) h0 n0 Z0 ) hZ (hw _ (List.mem_of_getElem? (i := 23) rfl)) (hw _ (List.mem_of_getElem? (i := 2) rfl)) (by decide) (by decide)) (g := (mkF m 194 #[.val (.long q0), .second, .val (.int p1), .val (.int p2), .val (.int (p1 &&& (255 : Int32))), .val (.long (w0_8 q0 p1 p2)), .second, .val (.long (w0_9 p1)), .second, .val (.long (w0_10 q0 p1 p2)), .second, .val (.int (w0_12 q0 p1 p2))] [(.int (w0_12 q0 p1 p2)), (.int (3 : Int32)), (.int (p1 &&& (255 : Int32))), (.long (w0_10 q0 p1 p2)), (.long (w0_8 q0 p1 p2))])) rfl (by rw [hml]; rfl) (argsL := [(.long (w0_8 q0 p1 p2)), (.long (w0_10 q0 p1 p2)), (.int (p1 &&& (255 : Int32))), (.int (3 : Int32)), (.int (w0_12 q0 p1 p2))]) (rest := []) (lenOf pd0_3 rfl) rfl (by show 2 * 0 + _ ≤ _; exact Nat.le_of_eq rfl) (hb hby at_194) (fun _ _ => ⟨rfl, e42, (by decide : 0 + 0 ≤ 0), (by decide : 0 + 0 ≤ 0)⟩)
          dsimp only [Pt.U, Pt.locs, Pt.cells, Pt.slots] at X46 l46 y46 z46 st46 hQ46
          subst l46 y46 z46
          obtain ⟨rfl, N46q, e46⟩ := hQ46
          have N46 := Fr.app N42 N46q
          have K46 : ∀ t, Steps p.tables e below (T46.setTop (mkF m 197 #[.val (.long q0), .second, .val (.int p1), .val (.int p2), .val (.int (p1 &&& (255 : Int32))), .val (.long (w0_8 q0 p1 p2)), .second, .val (.long (w0_9 p1)), .second, .val (.long (w0_10 q0 p1 p2)), .second, .val (.int (w0_12 q0 p1 p2))] [(.int (w0_16 q0 p1 p2))])) t → Steps p.tables e below S0 t := fun t k => K_45 t (st46 t k)
          by_cases hc197_4 : (w0_16 q0 p1 p2) = (0 : Int32)
          · -- yes
            have K47 : ∀ t, Steps p.tables e below (T46.setTop (mkF m 267 #[.val (.long q0), .second, .val (.int p1), .val (.int p2), .val (.int (p1 &&& (255 : Int32))), .val (.long (w0_8 q0 p1 p2)), .second, .val (.long (w0_9 p1)), .second, .val (.long (w0_10 q0 p1 p2)), .second, .val (.int (w0_12 q0 p1 p2))] [(.int (0 : Int32))])) t → Steps p.tables e below S0 t := fun t k => K46 t (by
              refine XS.ifYes X46.here hx rfl (pc0 := 197) (pc' := 266) rfl (hb hby at_197) rfl (XT.i0_eq_t hc197_4) (by decide) (by decide) ?_
              show Steps p.tables e below (T46.setTop (mkF m 266 #[.val (.long q0), .second, .val (.int p1), .val (.int p2), .val (.int (p1 &&& (255 : Int32))), .val (.long (w0_8 q0 p1 p2)), .second, .val (.long (w0_9 p1)), .second, .val (.long (w0_10 q0 p1 p2)), .second, .val (.int (w0_12 q0 p1 p2))] [])) _
              refine XS.iconst X46.here hx rfl (hb hby at_266) ?_
              show Steps p.tables e below (T46.setTop (mkF m 267 #[.val (.long q0), .second, .val (.int p1), .val (.int p2), .val (.int (p1 &&& (255 : Int32))), .val (.long (w0_8 q0 p1 p2)), .second, .val (.long (w0_9 p1)), .second, .val (.long (w0_10 q0 p1 p2)), .second, .val (.int (w0_12 q0 p1 p2))] [(.int (0 : Int32))])) _
              exact k)
            obtain ⟨fs, hr, hrun, hended, hW, hsame⟩ := X46.leave (v := some (.int (0 : Int32))) (fun h => by rw [Bd.returns] at h; cases h)
            refine ⟨_, _, ?_, hrun, hended, _, _, rfl, ?_, ⟨_, rfl⟩, hW, hsame.mono (by decide) (by decide)⟩
            · rw [← hS0]; exact K47 _ (retN X46 hx (t := .boolean) Bd.returns (by simp) (hb hby at_267) hr)
            · show Q0 Z q0 p1 p2 h0 n0 _ T46.heap _
              rw [e46]
              have qr : (0 : Int32) = (w0_r21 q0 p1 p2) := by unfold w0_r21; rw [if_pos hc126_0, if_neg hc152_1, if_neg hc167_2, if_neg hc182_3, if_pos hc197_4]
              exact ⟨congrArg (fun z => some (Value.int z)) qr, N46⟩
          · -- no
            have K48 : ∀ t, Steps p.tables e below (T46.setTop (mkF m 209 #[.val (.long q0), .second, .val (.int p1), .val (.int p2), .val (.int (p1 &&& (255 : Int32))), .val (.long (w0_8 q0 p1 p2)), .second, .val (.long (w0_9 p1)), .second, .val (.long (w0_10 q0 p1 p2)), .second, .val (.int (w0_12 q0 p1 p2))] [(.int (w0_12 q0 p1 p2)), (.int (4 : Int32)), (.int (p1 &&& (255 : Int32))), (.long (w0_10 q0 p1 p2)), (.long (w0_8 q0 p1 p2))])) t → Steps p.tables e below S0 t := fun t k => K46 t (by
              refine XS.ifNo X46.here hx rfl (hb hby at_197) rfl (XT.i0_eq_f hc197_4) ?_
              show Steps p.tables e below (T46.setTop (mkF m 200 #[.val (.long q0), .second, .val (.int p1), .val (.int p2), .val (.int (p1 &&& (255 : Int32))), .val (.long (w0_8 q0 p1 p2)), .second, .val (.long (w0_9 p1)), .second, .val (.long (w0_10 q0 p1 p2)), .second, .val (.int (w0_12 q0 p1 p2))] [])) _
              refine XS.lload X46.here hx rfl (hb hby at_200) rfl ?_
              show Steps p.tables e below (T46.setTop (mkF m 202 #[.val (.long q0), .second, .val (.int p1), .val (.int p2), .val (.int (p1 &&& (255 : Int32))), .val (.long (w0_8 q0 p1 p2)), .second, .val (.long (w0_9 p1)), .second, .val (.long (w0_10 q0 p1 p2)), .second, .val (.int (w0_12 q0 p1 p2))] [(.long (w0_8 q0 p1 p2))])) _
              refine XS.lload X46.here hx rfl (hb hby at_202) rfl ?_
              show Steps p.tables e below (T46.setTop (mkF m 204 #[.val (.long q0), .second, .val (.int p1), .val (.int p2), .val (.int (p1 &&& (255 : Int32))), .val (.long (w0_8 q0 p1 p2)), .second, .val (.long (w0_9 p1)), .second, .val (.long (w0_10 q0 p1 p2)), .second, .val (.int (w0_12 q0 p1 p2))] [(.long (w0_10 q0 p1 p2)), (.long (w0_8 q0 p1 p2))])) _
              refine XS.iload X46.here hx rfl (hb hby at_204) rfl ?_
              show Steps p.tables e below (T46.setTop (mkF m 206 #[.val (.long q0), .second, .val (.int p1), .val (.int p2), .val (.int (p1 &&& (255 : Int32))), .val (.long (w0_8 q0 p1 p2)), .second, .val (.long (w0_9 p1)), .second, .val (.long (w0_10 q0 p1 p2)), .second, .val (.int (w0_12 q0 p1 p2))] [(.int (p1 &&& (255 : Int32))), (.long (w0_10 q0 p1 p2)), (.long (w0_8 q0 p1 p2))])) _
              refine XS.iconst X46.here hx rfl (hb hby at_206) ?_
              show Steps p.tables e below (T46.setTop (mkF m 207 #[.val (.long q0), .second, .val (.int p1), .val (.int p2), .val (.int (p1 &&& (255 : Int32))), .val (.long (w0_8 q0 p1 p2)), .second, .val (.long (w0_9 p1)), .second, .val (.long (w0_10 q0 p1 p2)), .second, .val (.int (w0_12 q0 p1 p2))] [(.int (4 : Int32)), (.int (p1 &&& (255 : Int32))), (.long (w0_10 q0 p1 p2)), (.long (w0_8 q0 p1 p2))])) _
              refine XS.iload X46.here hx rfl (hb hby at_207) rfl ?_
              show Steps p.tables e below (T46.setTop (mkF m 209 #[.val (.long q0), .second, .val (.int p1), .val (.int p2), .val (.int (p1 &&& (255 : Int32))), .val (.long (w0_8 q0 p1 p2)), .second, .val (.long (w0_9 p1)), .second, .val (.long (w0_10 q0 p1 p2)), .second, .val (.int (w0_12 q0 p1 p2))] [(.int (w0_12 q0 p1 p2)), (.int (4 : Int32)), (.int (p1 &&& (255 : Int32))), (.long (w0_10 q0 p1 p2)), (.long (w0_8 q0 p1 p2))])) _
              exact k)
            have K_49 : ∀ t, Steps p.tables e below (T46.setTop (mkF m 209 #[.val (.long q0), .second, .val (.int p1), .val (.int p2), .val (.int (p1 &&& (255 : Int32))), .val (.long (w0_8 q0 p1 p2)), .second, .val (.long (w0_9 p1)), .second, .val (.long (w0_10 q0 p1 p2)), .second, .val (.int (w0_12 q0 p1 p2))] [(.int (w0_12 q0 p1 p2)), (.int (4 : Int32)), (.int (p1 &&& (255 : Int32))), (.long (w0_10 q0 p1 p2)), (.long (w0_8 q0 p1 p2))])) t → Steps p.tables e below S0 t := K48
            obtain ⟨_, _, ⟨T50, L50, k50, n50⟩, -, X50, ⟨Lc50, hQ50, l50, y50, z50⟩, st50⟩ := Jvm.LawKit.callS X46 hx (y := (⟨"com/example/rota/rota/process/ByteWordsEqualPinLaw", "ok", "(JJIII)Z"⟩ : MethodName)) hown (mvT hZ (hw _ (List.mem_of_getElem? (i := 21) rfl))) (mvT hZ (hw _ (List.mem_of_getElem? (i := 22) rfl))) (mvT hZ (hw _ (List.mem_of_getElem? (i := 2) rfl))) (mvT hZ (hw _ (List.mem_of_getElem? (i := 23) rfl))) (by decide) (backOf (W := 0) (rm6 l Z a0 hw [] (w0_8 q0 p1 p2) (w0_10 q0 p1 p2) (p1 &&& (255 : Int32)) (4 : Int32) (w0_12 q0 p1 p2) h0 n0 Z0 ) hZ (hw _ (List.mem_of_getElem? (i := 23) rfl)) (hw _ (List.mem_of_getElem? (i := 2) rfl)) (by decide) (by decide)) (g := (mkF m 209 #[.val (.long q0), .second, .val (.int p1), .val (.int p2), .val (.int (p1 &&& (255 : Int32))), .val (.long (w0_8 q0 p1 p2)), .second, .val (.long (w0_9 p1)), .second, .val (.long (w0_10 q0 p1 p2)), .second, .val (.int (w0_12 q0 p1 p2))] [(.int (w0_12 q0 p1 p2)), (.int (4 : Int32)), (.int (p1 &&& (255 : Int32))), (.long (w0_10 q0 p1 p2)), (.long (w0_8 q0 p1 p2))])) rfl (by rw [hml]; rfl) (argsL := [(.long (w0_8 q0 p1 p2)), (.long (w0_10 q0 p1 p2)), (.int (p1 &&& (255 : Int32))), (.int (4 : Int32)), (.int (w0_12 q0 p1 p2))]) (rest := []) (lenOf pd0_3 rfl) rfl (by show 2 * 0 + _ ≤ _; exact Nat.le_of_eq rfl) (hb hby at_209) (fun _ _ => ⟨rfl, e46, (by decide : 0 + 0 ≤ 0), (by decide : 0 + 0 ≤ 0)⟩)
            dsimp only [Pt.U, Pt.locs, Pt.cells, Pt.slots] at X50 l50 y50 z50 st50 hQ50
            subst l50 y50 z50
            obtain ⟨rfl, N50q, e50⟩ := hQ50
            have N50 := Fr.app N46 N50q
            have K50 : ∀ t, Steps p.tables e below (T50.setTop (mkF m 212 #[.val (.long q0), .second, .val (.int p1), .val (.int p2), .val (.int (p1 &&& (255 : Int32))), .val (.long (w0_8 q0 p1 p2)), .second, .val (.long (w0_9 p1)), .second, .val (.long (w0_10 q0 p1 p2)), .second, .val (.int (w0_12 q0 p1 p2))] [(.int (w0_17 q0 p1 p2))])) t → Steps p.tables e below S0 t := fun t k => K_49 t (st50 t k)
            by_cases hc212_5 : (w0_17 q0 p1 p2) = (0 : Int32)
            · -- yes
              have K51 : ∀ t, Steps p.tables e below (T50.setTop (mkF m 267 #[.val (.long q0), .second, .val (.int p1), .val (.int p2), .val (.int (p1 &&& (255 : Int32))), .val (.long (w0_8 q0 p1 p2)), .second, .val (.long (w0_9 p1)), .second, .val (.long (w0_10 q0 p1 p2)), .second, .val (.int (w0_12 q0 p1 p2))] [(.int (0 : Int32))])) t → Steps p.tables e below S0 t := fun t k => K50 t (by
                refine XS.ifYes X50.here hx rfl (pc0 := 212) (pc' := 266) rfl (hb hby at_212) rfl (XT.i0_eq_t hc212_5) (by decide) (by decide) ?_
                show Steps p.tables e below (T50.setTop (mkF m 266 #[.val (.long q0), .second, .val (.int p1), .val (.int p2), .val (.int (p1 &&& (255 : Int32))), .val (.long (w0_8 q0 p1 p2)), .second, .val (.long (w0_9 p1)), .second, .val (.long (w0_10 q0 p1 p2)), .second, .val (.int (w0_12 q0 p1 p2))] [])) _
                refine XS.iconst X50.here hx rfl (hb hby at_266) ?_
                show Steps p.tables e below (T50.setTop (mkF m 267 #[.val (.long q0), .second, .val (.int p1), .val (.int p2), .val (.int (p1 &&& (255 : Int32))), .val (.long (w0_8 q0 p1 p2)), .second, .val (.long (w0_9 p1)), .second, .val (.long (w0_10 q0 p1 p2)), .second, .val (.int (w0_12 q0 p1 p2))] [(.int (0 : Int32))])) _
                exact k)
              obtain ⟨fs, hr, hrun, hended, hW, hsame⟩ := X50.leave (v := some (.int (0 : Int32))) (fun h => by rw [Bd.returns] at h; cases h)
              refine ⟨_, _, ?_, hrun, hended, _, _, rfl, ?_, ⟨_, rfl⟩, hW, hsame.mono (by decide) (by decide)⟩
              · rw [← hS0]; exact K51 _ (retN X50 hx (t := .boolean) Bd.returns (by simp) (hb hby at_267) hr)
              · show Q0 Z q0 p1 p2 h0 n0 _ T50.heap _
                rw [e50]
                have qr : (0 : Int32) = (w0_r21 q0 p1 p2) := by unfold w0_r21; rw [if_pos hc126_0, if_neg hc152_1, if_neg hc167_2, if_neg hc182_3, if_neg hc197_4, if_pos hc212_5]
                exact ⟨congrArg (fun z => some (Value.int z)) qr, N50⟩
            · -- no
              have K52 : ∀ t, Steps p.tables e below (T50.setTop (mkF m 224 #[.val (.long q0), .second, .val (.int p1), .val (.int p2), .val (.int (p1 &&& (255 : Int32))), .val (.long (w0_8 q0 p1 p2)), .second, .val (.long (w0_9 p1)), .second, .val (.long (w0_10 q0 p1 p2)), .second, .val (.int (w0_12 q0 p1 p2))] [(.int (w0_12 q0 p1 p2)), (.int (5 : Int32)), (.int (p1 &&& (255 : Int32))), (.long (w0_10 q0 p1 p2)), (.long (w0_8 q0 p1 p2))])) t → Steps p.tables e below S0 t := fun t k => K50 t (by
                refine XS.ifNo X50.here hx rfl (hb hby at_212) rfl (XT.i0_eq_f hc212_5) ?_
                show Steps p.tables e below (T50.setTop (mkF m 215 #[.val (.long q0), .second, .val (.int p1), .val (.int p2), .val (.int (p1 &&& (255 : Int32))), .val (.long (w0_8 q0 p1 p2)), .second, .val (.long (w0_9 p1)), .second, .val (.long (w0_10 q0 p1 p2)), .second, .val (.int (w0_12 q0 p1 p2))] [])) _
                refine XS.lload X50.here hx rfl (hb hby at_215) rfl ?_
                show Steps p.tables e below (T50.setTop (mkF m 217 #[.val (.long q0), .second, .val (.int p1), .val (.int p2), .val (.int (p1 &&& (255 : Int32))), .val (.long (w0_8 q0 p1 p2)), .second, .val (.long (w0_9 p1)), .second, .val (.long (w0_10 q0 p1 p2)), .second, .val (.int (w0_12 q0 p1 p2))] [(.long (w0_8 q0 p1 p2))])) _
                refine XS.lload X50.here hx rfl (hb hby at_217) rfl ?_
                show Steps p.tables e below (T50.setTop (mkF m 219 #[.val (.long q0), .second, .val (.int p1), .val (.int p2), .val (.int (p1 &&& (255 : Int32))), .val (.long (w0_8 q0 p1 p2)), .second, .val (.long (w0_9 p1)), .second, .val (.long (w0_10 q0 p1 p2)), .second, .val (.int (w0_12 q0 p1 p2))] [(.long (w0_10 q0 p1 p2)), (.long (w0_8 q0 p1 p2))])) _
                refine XS.iload X50.here hx rfl (hb hby at_219) rfl ?_
                show Steps p.tables e below (T50.setTop (mkF m 221 #[.val (.long q0), .second, .val (.int p1), .val (.int p2), .val (.int (p1 &&& (255 : Int32))), .val (.long (w0_8 q0 p1 p2)), .second, .val (.long (w0_9 p1)), .second, .val (.long (w0_10 q0 p1 p2)), .second, .val (.int (w0_12 q0 p1 p2))] [(.int (p1 &&& (255 : Int32))), (.long (w0_10 q0 p1 p2)), (.long (w0_8 q0 p1 p2))])) _
                refine XS.iconst X50.here hx rfl (hb hby at_221) ?_
                show Steps p.tables e below (T50.setTop (mkF m 222 #[.val (.long q0), .second, .val (.int p1), .val (.int p2), .val (.int (p1 &&& (255 : Int32))), .val (.long (w0_8 q0 p1 p2)), .second, .val (.long (w0_9 p1)), .second, .val (.long (w0_10 q0 p1 p2)), .second, .val (.int (w0_12 q0 p1 p2))] [(.int (5 : Int32)), (.int (p1 &&& (255 : Int32))), (.long (w0_10 q0 p1 p2)), (.long (w0_8 q0 p1 p2))])) _
                refine XS.iload X50.here hx rfl (hb hby at_222) rfl ?_
                show Steps p.tables e below (T50.setTop (mkF m 224 #[.val (.long q0), .second, .val (.int p1), .val (.int p2), .val (.int (p1 &&& (255 : Int32))), .val (.long (w0_8 q0 p1 p2)), .second, .val (.long (w0_9 p1)), .second, .val (.long (w0_10 q0 p1 p2)), .second, .val (.int (w0_12 q0 p1 p2))] [(.int (w0_12 q0 p1 p2)), (.int (5 : Int32)), (.int (p1 &&& (255 : Int32))), (.long (w0_10 q0 p1 p2)), (.long (w0_8 q0 p1 p2))])) _
                exact k)
              have K_53 : ∀ t, Steps p.tables e below (T50.setTop (mkF m 224 #[.val (.long q0), .second, .val (.int p1), .val (.int p2), .val (.int (p1 &&& (255 : Int32))), .val (.long (w0_8 q0 p1 p2)), .second, .val (.long (w0_9 p1)), .second, .val (.long (w0_10 q0 p1 p2)), .second, .val (.int (w0_12 q0 p1 p2))] [(.int (w0_12 q0 p1 p2)), (.int (5 : Int32)), (.int (p1 &&& (255 : Int32))), (.long (w0_10 q0 p1 p2)), (.long (w0_8 q0 p1 p2))])) t → Steps p.tables e below S0 t := K52
              obtain ⟨_, _, ⟨T54, L54, k54, n54⟩, -, X54, ⟨Lc54, hQ54, l54, y54, z54⟩, st54⟩ := Jvm.LawKit.callS X50 hx (y := (⟨"com/example/rota/rota/process/ByteWordsEqualPinLaw", "ok", "(JJIII)Z"⟩ : MethodName)) hown (mvT hZ (hw _ (List.mem_of_getElem? (i := 21) rfl))) (mvT hZ (hw _ (List.mem_of_getElem? (i := 22) rfl))) (mvT hZ (hw _ (List.mem_of_getElem? (i := 2) rfl))) (mvT hZ (hw _ (List.mem_of_getElem? (i := 23) rfl))) (by decide) (backOf (W := 0) (rm6 l Z a0 hw [] (w0_8 q0 p1 p2) (w0_10 q0 p1 p2) (p1 &&& (255 : Int32)) (5 : Int32) (w0_12 q0 p1 p2) h0 n0 Z0 ) hZ (hw _ (List.mem_of_getElem? (i := 23) rfl)) (hw _ (List.mem_of_getElem? (i := 2) rfl)) (by decide) (by decide)) (g := (mkF m 224 #[.val (.long q0), .second, .val (.int p1), .val (.int p2), .val (.int (p1 &&& (255 : Int32))), .val (.long (w0_8 q0 p1 p2)), .second, .val (.long (w0_9 p1)), .second, .val (.long (w0_10 q0 p1 p2)), .second, .val (.int (w0_12 q0 p1 p2))] [(.int (w0_12 q0 p1 p2)), (.int (5 : Int32)), (.int (p1 &&& (255 : Int32))), (.long (w0_10 q0 p1 p2)), (.long (w0_8 q0 p1 p2))])) rfl (by rw [hml]; rfl) (argsL := [(.long (w0_8 q0 p1 p2)), (.long (w0_10 q0 p1 p2)), (.int (p1 &&& (255 : Int32))), (.int (5 : Int32)), (.int (w0_12 q0 p1 p2))]) (rest := []) (lenOf pd0_3 rfl) rfl (by show 2 * 0 + _ ≤ _; exact Nat.le_of_eq rfl) (hb hby at_224) (fun _ _ => ⟨rfl, e50, (by decide : 0 + 0 ≤ 0), (by decide : 0 + 0 ≤ 0)⟩)
              dsimp only [Pt.U, Pt.locs, Pt.cells, Pt.slots] at X54 l54 y54 z54 st54 hQ54
              subst l54 y54 z54
              obtain ⟨rfl, N54q, e54⟩ := hQ54
              have N54 := Fr.app N50 N54q
              have K54 : ∀ t, Steps p.tables e below (T54.setTop (mkF m 227 #[.val (.long q0), .second, .val (.int p1), .val (.int p2), .val (.int (p1 &&& (255 : Int32))), .val (.long (w0_8 q0 p1 p2)), .second, .val (.long (w0_9 p1)), .second, .val (.long (w0_10 q0 p1 p2)), .second, .val (.int (w0_12 q0 p1 p2))] [(.int (w0_18 q0 p1 p2))])) t → Steps p.tables e below S0 t := fun t k => K_53 t (st54 t k)
              by_cases hc227_6 : (w0_18 q0 p1 p2) = (0 : Int32)
              · -- yes
                have K55 : ∀ t, Steps p.tables e below (T54.setTop (mkF m 267 #[.val (.long q0), .second, .val (.int p1), .val (.int p2), .val (.int (p1 &&& (255 : Int32))), .val (.long (w0_8 q0 p1 p2)), .second, .val (.long (w0_9 p1)), .second, .val (.long (w0_10 q0 p1 p2)), .second, .val (.int (w0_12 q0 p1 p2))] [(.int (0 : Int32))])) t → Steps p.tables e below S0 t := fun t k => K54 t (by
                  refine XS.ifYes X54.here hx rfl (pc0 := 227) (pc' := 266) rfl (hb hby at_227) rfl (XT.i0_eq_t hc227_6) (by decide) (by decide) ?_
                  show Steps p.tables e below (T54.setTop (mkF m 266 #[.val (.long q0), .second, .val (.int p1), .val (.int p2), .val (.int (p1 &&& (255 : Int32))), .val (.long (w0_8 q0 p1 p2)), .second, .val (.long (w0_9 p1)), .second, .val (.long (w0_10 q0 p1 p2)), .second, .val (.int (w0_12 q0 p1 p2))] [])) _
                  refine XS.iconst X54.here hx rfl (hb hby at_266) ?_
                  show Steps p.tables e below (T54.setTop (mkF m 267 #[.val (.long q0), .second, .val (.int p1), .val (.int p2), .val (.int (p1 &&& (255 : Int32))), .val (.long (w0_8 q0 p1 p2)), .second, .val (.long (w0_9 p1)), .second, .val (.long (w0_10 q0 p1 p2)), .second, .val (.int (w0_12 q0 p1 p2))] [(.int (0 : Int32))])) _
                  exact k)
                obtain ⟨fs, hr, hrun, hended, hW, hsame⟩ := X54.leave (v := some (.int (0 : Int32))) (fun h => by rw [Bd.returns] at h; cases h)
                refine ⟨_, _, ?_, hrun, hended, _, _, rfl, ?_, ⟨_, rfl⟩, hW, hsame.mono (by decide) (by decide)⟩
                · rw [← hS0]; exact K55 _ (retN X54 hx (t := .boolean) Bd.returns (by simp) (hb hby at_267) hr)
                · show Q0 Z q0 p1 p2 h0 n0 _ T54.heap _
                  rw [e54]
                  have qr : (0 : Int32) = (w0_r21 q0 p1 p2) := by unfold w0_r21; rw [if_pos hc126_0, if_neg hc152_1, if_neg hc167_2, if_neg hc182_3, if_neg hc197_4, if_neg hc212_5, if_pos hc227_6]
                  exact ⟨congrArg (fun z => some (Value.int z)) qr, N54⟩
              · -- no
                have K56 : ∀ t, Steps p.tables e below (T54.setTop (mkF m 240 #[.val (.long q0), .second, .val (.int p1), .val (.int p2), .val (.int (p1 &&& (255 : Int32))), .val (.long (w0_8 q0 p1 p2)), .second, .val (.long (w0_9 p1)), .second, .val (.long (w0_10 q0 p1 p2)), .second, .val (.int (w0_12 q0 p1 p2))] [(.int (w0_12 q0 p1 p2)), (.int (6 : Int32)), (.int (p1 &&& (255 : Int32))), (.long (w0_10 q0 p1 p2)), (.long (w0_8 q0 p1 p2))])) t → Steps p.tables e below S0 t := fun t k => K54 t (by
                  refine XS.ifNo X54.here hx rfl (hb hby at_227) rfl (XT.i0_eq_f hc227_6) ?_
                  show Steps p.tables e below (T54.setTop (mkF m 230 #[.val (.long q0), .second, .val (.int p1), .val (.int p2), .val (.int (p1 &&& (255 : Int32))), .val (.long (w0_8 q0 p1 p2)), .second, .val (.long (w0_9 p1)), .second, .val (.long (w0_10 q0 p1 p2)), .second, .val (.int (w0_12 q0 p1 p2))] [])) _
                  refine XS.lload X54.here hx rfl (hb hby at_230) rfl ?_
                  show Steps p.tables e below (T54.setTop (mkF m 232 #[.val (.long q0), .second, .val (.int p1), .val (.int p2), .val (.int (p1 &&& (255 : Int32))), .val (.long (w0_8 q0 p1 p2)), .second, .val (.long (w0_9 p1)), .second, .val (.long (w0_10 q0 p1 p2)), .second, .val (.int (w0_12 q0 p1 p2))] [(.long (w0_8 q0 p1 p2))])) _
                  refine XS.lload X54.here hx rfl (hb hby at_232) rfl ?_
                  show Steps p.tables e below (T54.setTop (mkF m 234 #[.val (.long q0), .second, .val (.int p1), .val (.int p2), .val (.int (p1 &&& (255 : Int32))), .val (.long (w0_8 q0 p1 p2)), .second, .val (.long (w0_9 p1)), .second, .val (.long (w0_10 q0 p1 p2)), .second, .val (.int (w0_12 q0 p1 p2))] [(.long (w0_10 q0 p1 p2)), (.long (w0_8 q0 p1 p2))])) _
                  refine XS.iload X54.here hx rfl (hb hby at_234) rfl ?_
                  show Steps p.tables e below (T54.setTop (mkF m 236 #[.val (.long q0), .second, .val (.int p1), .val (.int p2), .val (.int (p1 &&& (255 : Int32))), .val (.long (w0_8 q0 p1 p2)), .second, .val (.long (w0_9 p1)), .second, .val (.long (w0_10 q0 p1 p2)), .second, .val (.int (w0_12 q0 p1 p2))] [(.int (p1 &&& (255 : Int32))), (.long (w0_10 q0 p1 p2)), (.long (w0_8 q0 p1 p2))])) _
                  refine XS.bipush X54.here hx rfl (hb hby at_236) ?_
                  show Steps p.tables e below (T54.setTop (mkF m 238 #[.val (.long q0), .second, .val (.int p1), .val (.int p2), .val (.int (p1 &&& (255 : Int32))), .val (.long (w0_8 q0 p1 p2)), .second, .val (.long (w0_9 p1)), .second, .val (.long (w0_10 q0 p1 p2)), .second, .val (.int (w0_12 q0 p1 p2))] [(.int (6 : Int32)), (.int (p1 &&& (255 : Int32))), (.long (w0_10 q0 p1 p2)), (.long (w0_8 q0 p1 p2))])) _
                  refine XS.iload X54.here hx rfl (hb hby at_238) rfl ?_
                  show Steps p.tables e below (T54.setTop (mkF m 240 #[.val (.long q0), .second, .val (.int p1), .val (.int p2), .val (.int (p1 &&& (255 : Int32))), .val (.long (w0_8 q0 p1 p2)), .second, .val (.long (w0_9 p1)), .second, .val (.long (w0_10 q0 p1 p2)), .second, .val (.int (w0_12 q0 p1 p2))] [(.int (w0_12 q0 p1 p2)), (.int (6 : Int32)), (.int (p1 &&& (255 : Int32))), (.long (w0_10 q0 p1 p2)), (.long (w0_8 q0 p1 p2))])) _
                  exact k)
                have K_57 : ∀ t, Steps p.tables e below (T54.setTop (mkF m 240 #[.val (.long q0), .second, .val (.int p1), .val (.int p2), .val (.int (p1 &&& (255 : Int32))), .val (.long (w0_8 q0 p1 p2)), .second, .val (.long (w0_9 p1)), .second, .val (.long (w0_10 q0 p1 p2)), .second, .val (.int (w0_12 q0 p1 p2))] [(.int (w0_12 q0 p1 p2)), (.int (6 : Int32)), (.int (p1 &&& (255 : Int32))), (.long (w0_10 q0 p1 p2)), (.long (w0_8 q0 p1 p2))])) t → Steps p.tables e below S0 t := K56
                obtain ⟨_, _, ⟨T58, L58, k58, n58⟩, -, X58, ⟨Lc58, hQ58, l58, y58, z58⟩, st58⟩ := Jvm.LawKit.callS X54 hx (y := (⟨"com/example/rota/rota/process/ByteWordsEqualPinLaw", "ok", "(JJIII)Z"⟩ : MethodName)) hown (mvT hZ (hw _ (List.mem_of_getElem? (i := 21) rfl))) (mvT hZ (hw _ (List.mem_of_getElem? (i := 22) rfl))) (mvT hZ (hw _ (List.mem_of_getElem? (i := 2) rfl))) (mvT hZ (hw _ (List.mem_of_getElem? (i := 23) rfl))) (by decide) (backOf (W := 0) (rm6 l Z a0 hw [] (w0_8 q0 p1 p2) (w0_10 q0 p1 p2) (p1 &&& (255 : Int32)) (6 : Int32) (w0_12 q0 p1 p2) h0 n0 Z0 ) hZ (hw _ (List.mem_of_getElem? (i := 23) rfl)) (hw _ (List.mem_of_getElem? (i := 2) rfl)) (by decide) (by decide)) (g := (mkF m 240 #[.val (.long q0), .second, .val (.int p1), .val (.int p2), .val (.int (p1 &&& (255 : Int32))), .val (.long (w0_8 q0 p1 p2)), .second, .val (.long (w0_9 p1)), .second, .val (.long (w0_10 q0 p1 p2)), .second, .val (.int (w0_12 q0 p1 p2))] [(.int (w0_12 q0 p1 p2)), (.int (6 : Int32)), (.int (p1 &&& (255 : Int32))), (.long (w0_10 q0 p1 p2)), (.long (w0_8 q0 p1 p2))])) rfl (by rw [hml]; rfl) (argsL := [(.long (w0_8 q0 p1 p2)), (.long (w0_10 q0 p1 p2)), (.int (p1 &&& (255 : Int32))), (.int (6 : Int32)), (.int (w0_12 q0 p1 p2))]) (rest := []) (lenOf pd0_3 rfl) rfl (by show 2 * 0 + _ ≤ _; exact Nat.le_of_eq rfl) (hb hby at_240) (fun _ _ => ⟨rfl, e54, (by decide : 0 + 0 ≤ 0), (by decide : 0 + 0 ≤ 0)⟩)
                dsimp only [Pt.U, Pt.locs, Pt.cells, Pt.slots] at X58 l58 y58 z58 st58 hQ58
                subst l58 y58 z58
                obtain ⟨rfl, N58q, e58⟩ := hQ58
                have N58 := Fr.app N54 N58q
                have K58 : ∀ t, Steps p.tables e below (T58.setTop (mkF m 243 #[.val (.long q0), .second, .val (.int p1), .val (.int p2), .val (.int (p1 &&& (255 : Int32))), .val (.long (w0_8 q0 p1 p2)), .second, .val (.long (w0_9 p1)), .second, .val (.long (w0_10 q0 p1 p2)), .second, .val (.int (w0_12 q0 p1 p2))] [(.int (w0_19 q0 p1 p2))])) t → Steps p.tables e below S0 t := fun t k => K_57 t (st58 t k)
                by_cases hc243_7 : (w0_19 q0 p1 p2) = (0 : Int32)
                · -- yes
                  have K59 : ∀ t, Steps p.tables e below (T58.setTop (mkF m 267 #[.val (.long q0), .second, .val (.int p1), .val (.int p2), .val (.int (p1 &&& (255 : Int32))), .val (.long (w0_8 q0 p1 p2)), .second, .val (.long (w0_9 p1)), .second, .val (.long (w0_10 q0 p1 p2)), .second, .val (.int (w0_12 q0 p1 p2))] [(.int (0 : Int32))])) t → Steps p.tables e below S0 t := fun t k => K58 t (by
                    refine XS.ifYes X58.here hx rfl (pc0 := 243) (pc' := 266) rfl (hb hby at_243) rfl (XT.i0_eq_t hc243_7) (by decide) (by decide) ?_
                    show Steps p.tables e below (T58.setTop (mkF m 266 #[.val (.long q0), .second, .val (.int p1), .val (.int p2), .val (.int (p1 &&& (255 : Int32))), .val (.long (w0_8 q0 p1 p2)), .second, .val (.long (w0_9 p1)), .second, .val (.long (w0_10 q0 p1 p2)), .second, .val (.int (w0_12 q0 p1 p2))] [])) _
                    refine XS.iconst X58.here hx rfl (hb hby at_266) ?_
                    show Steps p.tables e below (T58.setTop (mkF m 267 #[.val (.long q0), .second, .val (.int p1), .val (.int p2), .val (.int (p1 &&& (255 : Int32))), .val (.long (w0_8 q0 p1 p2)), .second, .val (.long (w0_9 p1)), .second, .val (.long (w0_10 q0 p1 p2)), .second, .val (.int (w0_12 q0 p1 p2))] [(.int (0 : Int32))])) _
                    exact k)
                  obtain ⟨fs, hr, hrun, hended, hW, hsame⟩ := X58.leave (v := some (.int (0 : Int32))) (fun h => by rw [Bd.returns] at h; cases h)
                  refine ⟨_, _, ?_, hrun, hended, _, _, rfl, ?_, ⟨_, rfl⟩, hW, hsame.mono (by decide) (by decide)⟩
                  · rw [← hS0]; exact K59 _ (retN X58 hx (t := .boolean) Bd.returns (by simp) (hb hby at_267) hr)
                  · show Q0 Z q0 p1 p2 h0 n0 _ T58.heap _
                    rw [e58]
                    have qr : (0 : Int32) = (w0_r21 q0 p1 p2) := by unfold w0_r21; rw [if_pos hc126_0, if_neg hc152_1, if_neg hc167_2, if_neg hc182_3, if_neg hc197_4, if_neg hc212_5, if_neg hc227_6, if_pos hc243_7]
                    exact ⟨congrArg (fun z => some (Value.int z)) qr, N58⟩
                · -- no
                  have K60 : ∀ t, Steps p.tables e below (T58.setTop (mkF m 256 #[.val (.long q0), .second, .val (.int p1), .val (.int p2), .val (.int (p1 &&& (255 : Int32))), .val (.long (w0_8 q0 p1 p2)), .second, .val (.long (w0_9 p1)), .second, .val (.long (w0_10 q0 p1 p2)), .second, .val (.int (w0_12 q0 p1 p2))] [(.int (w0_12 q0 p1 p2)), (.int (7 : Int32)), (.int (p1 &&& (255 : Int32))), (.long (w0_10 q0 p1 p2)), (.long (w0_8 q0 p1 p2))])) t → Steps p.tables e below S0 t := fun t k => K58 t (by
                    refine XS.ifNo X58.here hx rfl (hb hby at_243) rfl (XT.i0_eq_f hc243_7) ?_
                    show Steps p.tables e below (T58.setTop (mkF m 246 #[.val (.long q0), .second, .val (.int p1), .val (.int p2), .val (.int (p1 &&& (255 : Int32))), .val (.long (w0_8 q0 p1 p2)), .second, .val (.long (w0_9 p1)), .second, .val (.long (w0_10 q0 p1 p2)), .second, .val (.int (w0_12 q0 p1 p2))] [])) _
                    refine XS.lload X58.here hx rfl (hb hby at_246) rfl ?_
                    show Steps p.tables e below (T58.setTop (mkF m 248 #[.val (.long q0), .second, .val (.int p1), .val (.int p2), .val (.int (p1 &&& (255 : Int32))), .val (.long (w0_8 q0 p1 p2)), .second, .val (.long (w0_9 p1)), .second, .val (.long (w0_10 q0 p1 p2)), .second, .val (.int (w0_12 q0 p1 p2))] [(.long (w0_8 q0 p1 p2))])) _
                    refine XS.lload X58.here hx rfl (hb hby at_248) rfl ?_
                    show Steps p.tables e below (T58.setTop (mkF m 250 #[.val (.long q0), .second, .val (.int p1), .val (.int p2), .val (.int (p1 &&& (255 : Int32))), .val (.long (w0_8 q0 p1 p2)), .second, .val (.long (w0_9 p1)), .second, .val (.long (w0_10 q0 p1 p2)), .second, .val (.int (w0_12 q0 p1 p2))] [(.long (w0_10 q0 p1 p2)), (.long (w0_8 q0 p1 p2))])) _
                    refine XS.iload X58.here hx rfl (hb hby at_250) rfl ?_
                    show Steps p.tables e below (T58.setTop (mkF m 252 #[.val (.long q0), .second, .val (.int p1), .val (.int p2), .val (.int (p1 &&& (255 : Int32))), .val (.long (w0_8 q0 p1 p2)), .second, .val (.long (w0_9 p1)), .second, .val (.long (w0_10 q0 p1 p2)), .second, .val (.int (w0_12 q0 p1 p2))] [(.int (p1 &&& (255 : Int32))), (.long (w0_10 q0 p1 p2)), (.long (w0_8 q0 p1 p2))])) _
                    refine XS.bipush X58.here hx rfl (hb hby at_252) ?_
                    show Steps p.tables e below (T58.setTop (mkF m 254 #[.val (.long q0), .second, .val (.int p1), .val (.int p2), .val (.int (p1 &&& (255 : Int32))), .val (.long (w0_8 q0 p1 p2)), .second, .val (.long (w0_9 p1)), .second, .val (.long (w0_10 q0 p1 p2)), .second, .val (.int (w0_12 q0 p1 p2))] [(.int (7 : Int32)), (.int (p1 &&& (255 : Int32))), (.long (w0_10 q0 p1 p2)), (.long (w0_8 q0 p1 p2))])) _
                    refine XS.iload X58.here hx rfl (hb hby at_254) rfl ?_
                    show Steps p.tables e below (T58.setTop (mkF m 256 #[.val (.long q0), .second, .val (.int p1), .val (.int p2), .val (.int (p1 &&& (255 : Int32))), .val (.long (w0_8 q0 p1 p2)), .second, .val (.long (w0_9 p1)), .second, .val (.long (w0_10 q0 p1 p2)), .second, .val (.int (w0_12 q0 p1 p2))] [(.int (w0_12 q0 p1 p2)), (.int (7 : Int32)), (.int (p1 &&& (255 : Int32))), (.long (w0_10 q0 p1 p2)), (.long (w0_8 q0 p1 p2))])) _
                    exact k)
                  have K_61 : ∀ t, Steps p.tables e below (T58.setTop (mkF m 256 #[.val (.long q0), .second, .val (.int p1), .val (.int p2), .val (.int (p1 &&& (255 : Int32))), .val (.long (w0_8 q0 p1 p2)), .second, .val (.long (w0_9 p1)), .second, .val (.long (w0_10 q0 p1 p2)), .second, .val (.int (w0_12 q0 p1 p2))] [(.int (w0_12 q0 p1 p2)), (.int (7 : Int32)), (.int (p1 &&& (255 : Int32))), (.long (w0_10 q0 p1 p2)), (.long (w0_8 q0 p1 p2))])) t → Steps p.tables e below S0 t := K60
                  obtain ⟨_, _, ⟨T62, L62, k62, n62⟩, -, X62, ⟨Lc62, hQ62, l62, y62, z62⟩, st62⟩ := Jvm.LawKit.callS X58 hx (y := (⟨"com/example/rota/rota/process/ByteWordsEqualPinLaw", "ok", "(JJIII)Z"⟩ : MethodName)) hown (mvT hZ (hw _ (List.mem_of_getElem? (i := 21) rfl))) (mvT hZ (hw _ (List.mem_of_getElem? (i := 22) rfl))) (mvT hZ (hw _ (List.mem_of_getElem? (i := 2) rfl))) (mvT hZ (hw _ (List.mem_of_getElem? (i := 23) rfl))) (by decide) (backOf (W := 0) (rm6 l Z a0 hw [] (w0_8 q0 p1 p2) (w0_10 q0 p1 p2) (p1 &&& (255 : Int32)) (7 : Int32) (w0_12 q0 p1 p2) h0 n0 Z0 ) hZ (hw _ (List.mem_of_getElem? (i := 23) rfl)) (hw _ (List.mem_of_getElem? (i := 2) rfl)) (by decide) (by decide)) (g := (mkF m 256 #[.val (.long q0), .second, .val (.int p1), .val (.int p2), .val (.int (p1 &&& (255 : Int32))), .val (.long (w0_8 q0 p1 p2)), .second, .val (.long (w0_9 p1)), .second, .val (.long (w0_10 q0 p1 p2)), .second, .val (.int (w0_12 q0 p1 p2))] [(.int (w0_12 q0 p1 p2)), (.int (7 : Int32)), (.int (p1 &&& (255 : Int32))), (.long (w0_10 q0 p1 p2)), (.long (w0_8 q0 p1 p2))])) rfl (by rw [hml]; rfl) (argsL := [(.long (w0_8 q0 p1 p2)), (.long (w0_10 q0 p1 p2)), (.int (p1 &&& (255 : Int32))), (.int (7 : Int32)), (.int (w0_12 q0 p1 p2))]) (rest := []) (lenOf pd0_3 rfl) rfl (by show 2 * 0 + _ ≤ _; exact Nat.le_of_eq rfl) (hb hby at_256) (fun _ _ => ⟨rfl, e58, (by decide : 0 + 0 ≤ 0), (by decide : 0 + 0 ≤ 0)⟩)
                  dsimp only [Pt.U, Pt.locs, Pt.cells, Pt.slots] at X62 l62 y62 z62 st62 hQ62
                  subst l62 y62 z62
                  obtain ⟨rfl, N62q, e62⟩ := hQ62
                  have N62 := Fr.app N58 N62q
                  have K62 : ∀ t, Steps p.tables e below (T62.setTop (mkF m 259 #[.val (.long q0), .second, .val (.int p1), .val (.int p2), .val (.int (p1 &&& (255 : Int32))), .val (.long (w0_8 q0 p1 p2)), .second, .val (.long (w0_9 p1)), .second, .val (.long (w0_10 q0 p1 p2)), .second, .val (.int (w0_12 q0 p1 p2))] [(.int (w0_20 q0 p1 p2))])) t → Steps p.tables e below S0 t := fun t k => K_61 t (st62 t k)
                  by_cases hc259_8 : (w0_20 q0 p1 p2) = (0 : Int32)
                  · -- yes
                    have K63 : ∀ t, Steps p.tables e below (T62.setTop (mkF m 267 #[.val (.long q0), .second, .val (.int p1), .val (.int p2), .val (.int (p1 &&& (255 : Int32))), .val (.long (w0_8 q0 p1 p2)), .second, .val (.long (w0_9 p1)), .second, .val (.long (w0_10 q0 p1 p2)), .second, .val (.int (w0_12 q0 p1 p2))] [(.int (0 : Int32))])) t → Steps p.tables e below S0 t := fun t k => K62 t (by
                      refine XS.ifYes X62.here hx rfl (pc0 := 259) (pc' := 266) rfl (hb hby at_259) rfl (XT.i0_eq_t hc259_8) (by decide) (by decide) ?_
                      show Steps p.tables e below (T62.setTop (mkF m 266 #[.val (.long q0), .second, .val (.int p1), .val (.int p2), .val (.int (p1 &&& (255 : Int32))), .val (.long (w0_8 q0 p1 p2)), .second, .val (.long (w0_9 p1)), .second, .val (.long (w0_10 q0 p1 p2)), .second, .val (.int (w0_12 q0 p1 p2))] [])) _
                      refine XS.iconst X62.here hx rfl (hb hby at_266) ?_
                      show Steps p.tables e below (T62.setTop (mkF m 267 #[.val (.long q0), .second, .val (.int p1), .val (.int p2), .val (.int (p1 &&& (255 : Int32))), .val (.long (w0_8 q0 p1 p2)), .second, .val (.long (w0_9 p1)), .second, .val (.long (w0_10 q0 p1 p2)), .second, .val (.int (w0_12 q0 p1 p2))] [(.int (0 : Int32))])) _
                      exact k)
                    obtain ⟨fs, hr, hrun, hended, hW, hsame⟩ := X62.leave (v := some (.int (0 : Int32))) (fun h => by rw [Bd.returns] at h; cases h)
                    refine ⟨_, _, ?_, hrun, hended, _, _, rfl, ?_, ⟨_, rfl⟩, hW, hsame.mono (by decide) (by decide)⟩
                    · rw [← hS0]; exact K63 _ (retN X62 hx (t := .boolean) Bd.returns (by simp) (hb hby at_267) hr)
                    · show Q0 Z q0 p1 p2 h0 n0 _ T62.heap _
                      rw [e62]
                      have qr : (0 : Int32) = (w0_r21 q0 p1 p2) := by unfold w0_r21; rw [if_pos hc126_0, if_neg hc152_1, if_neg hc167_2, if_neg hc182_3, if_neg hc197_4, if_neg hc212_5, if_neg hc227_6, if_neg hc243_7, if_pos hc259_8]
                      exact ⟨congrArg (fun z => some (Value.int z)) qr, N62⟩
                  · -- no
                    have K64 : ∀ t, Steps p.tables e below (T62.setTop (mkF m 267 #[.val (.long q0), .second, .val (.int p1), .val (.int p2), .val (.int (p1 &&& (255 : Int32))), .val (.long (w0_8 q0 p1 p2)), .second, .val (.long (w0_9 p1)), .second, .val (.long (w0_10 q0 p1 p2)), .second, .val (.int (w0_12 q0 p1 p2))] [(.int (1 : Int32))])) t → Steps p.tables e below S0 t := fun t k => K62 t (by
                      refine XS.ifNo X62.here hx rfl (hb hby at_259) rfl (XT.i0_eq_f hc259_8) ?_
                      show Steps p.tables e below (T62.setTop (mkF m 262 #[.val (.long q0), .second, .val (.int p1), .val (.int p2), .val (.int (p1 &&& (255 : Int32))), .val (.long (w0_8 q0 p1 p2)), .second, .val (.long (w0_9 p1)), .second, .val (.long (w0_10 q0 p1 p2)), .second, .val (.int (w0_12 q0 p1 p2))] [])) _
                      refine XS.iconst X62.here hx rfl (hb hby at_262) ?_
                      show Steps p.tables e below (T62.setTop (mkF m 263 #[.val (.long q0), .second, .val (.int p1), .val (.int p2), .val (.int (p1 &&& (255 : Int32))), .val (.long (w0_8 q0 p1 p2)), .second, .val (.long (w0_9 p1)), .second, .val (.long (w0_10 q0 p1 p2)), .second, .val (.int (w0_12 q0 p1 p2))] [(.int (1 : Int32))])) _
                      refine XS.goto X62.here hx rfl (pc0 := 263) (pc' := 267) rfl (hb hby at_263) (by decide) (by decide) ?_
                      show Steps p.tables e below (T62.setTop (mkF m 267 #[.val (.long q0), .second, .val (.int p1), .val (.int p2), .val (.int (p1 &&& (255 : Int32))), .val (.long (w0_8 q0 p1 p2)), .second, .val (.long (w0_9 p1)), .second, .val (.long (w0_10 q0 p1 p2)), .second, .val (.int (w0_12 q0 p1 p2))] [(.int (1 : Int32))])) _
                      exact k)
                    obtain ⟨fs, hr, hrun, hended, hW, hsame⟩ := X62.leave (v := some (.int (1 : Int32))) (fun h => by rw [Bd.returns] at h; cases h)
                    refine ⟨_, _, ?_, hrun, hended, _, _, rfl, ?_, ⟨_, rfl⟩, hW, hsame.mono (by decide) (by decide)⟩
                    · rw [← hS0]; exact K64 _ (retN X62 hx (t := .boolean) Bd.returns (by simp) (hb hby at_267) hr)
                    · show Q0 Z q0 p1 p2 h0 n0 _ T62.heap _
                      rw [e62]
                      have qr : (1 : Int32) = (w0_r21 q0 p1 p2) := by unfold w0_r21; rw [if_pos hc126_0, if_neg hc152_1, if_neg hc167_2, if_neg hc182_3, if_neg hc197_4, if_neg hc212_5, if_neg hc227_6, if_neg hc243_7, if_neg hc259_8]
                      exact ⟨congrArg (fun z => some (Value.int z)) qr, N62⟩
  · -- no
    have K65 : ∀ t, Steps p.tables e below (T27.setTop (mkF m 130 #[.val (.long q0), .second, .val (.int p1), .val (.int p2), .val (.int (p1 &&& (255 : Int32))), .val (.long (w0_8 q0 p1 p2)), .second, .val (.long (w0_9 p1)), .second, .val (.long (w0_10 q0 p1 p2)), .second, .unset] [(.int (0 : Int32))])) t → Steps p.tables e below S0 t := fun t k => K28 t (by
      refine XS.ifNo X27.here hx rfl (hb hby at_126) rfl (XT.ll_eq_f hc126_0) ?_
      show Steps p.tables e below (T27.setTop (mkF m 129 #[.val (.long q0), .second, .val (.int p1), .val (.int p2), .val (.int (p1 &&& (255 : Int32))), .val (.long (w0_8 q0 p1 p2)), .second, .val (.long (w0_9 p1)), .second, .val (.long (w0_10 q0 p1 p2)), .second, .unset] [])) _
      refine XS.iconst X27.here hx rfl (hb hby at_129) ?_
      show Steps p.tables e below (T27.setTop (mkF m 130 #[.val (.long q0), .second, .val (.int p1), .val (.int p2), .val (.int (p1 &&& (255 : Int32))), .val (.long (w0_8 q0 p1 p2)), .second, .val (.long (w0_9 p1)), .second, .val (.long (w0_10 q0 p1 p2)), .second, .unset] [(.int (0 : Int32))])) _
      exact k)
    obtain ⟨fs, hr, hrun, hended, hW, hsame⟩ := X27.leave (v := some (.int (0 : Int32))) (fun h => by rw [Bd.returns] at h; cases h)
    refine ⟨_, _, ?_, hrun, hended, _, _, rfl, ?_, ⟨_, rfl⟩, hW, hsame.mono (by decide) (by decide)⟩
    · rw [← hS0]; exact K65 _ (retN X27 hx (t := .boolean) Bd.returns (by simp) (hb hby at_130) hr)
    · show Q0 Z q0 p1 p2 h0 n0 _ T27.heap _
      rw [e27]
      have qr : (0 : Int32) = (w0_r21 q0 p1 p2) := by unfold w0_r21; rw [if_neg hc126_0]
      exact ⟨congrArg (fun z => some (Value.int z)) qr, N27⟩
set_option maxRecDepth 65536 in
set_option maxHeartbeats 40000000 in
theorem comes_1 {Post : Tables → Env → Array Value → State → Outcome → State → Prop} (hpost : ∀ tb e args s v u, (limb_1_1.after args s (.returned v) u = true ∧ limb_1_2.after args s (.returned v) u = true ∧ True) → FrameEnd s (.returned v) u (Jvm.fieldLocs frame_1_writes args s ++ Jvm.arrayLocs frame_1_arrays args s ++ Jvm.staticLocs frame_1_statics s) 0 0 → Post tb e args s (.returned v) u) :
    ArmFor flags0 classFile x code maxLocals ret World_1 tables_1 room_1 Calls_1 rest_1 Pre_1 Post := by
  intro l hfl _ _ p e ha hc hk s m args below hf hA hF happ hP
  obtain ⟨hcalls, hrest, hpre⟩ := hP
  obtain ⟨-, -, -, hnamed, -, -, -, hat⟩ := (Spec.applies_iff hf).mp happ
  obtain ⟨hg, hn⟩ := and_e (Cond.before_iff.mp (show (Jvm.Cond.and given_1 narrow_1).before args s = true from hpre))
  obtain ⟨hcount, hv0⟩ := and_e hg
  obtain ⟨hi0, hv1⟩ := and_e hv0
  obtain ⟨hi1, hv2⟩ := and_e hv1
  have hi2 := hv2
  obtain ⟨w0, w1, w2, rfl⟩ : ∃ w0 w1 w2 : Value, args = #[w0, w1, w2] := by
    have hs : args.size = 3 := by simpa [Cond.value, given_1] using hcount
    obtain ⟨L⟩ := args
    match L, hs with
    | [w0, w1, w2], _ => exact ⟨w0, w1, w2, rfl⟩
  have hw := fun d (hd : d ∈ tables_1) => atoms_spec (ws := Jvm.Cond.code x code maxLocals ret :: tables_1) hat d (List.mem_cons_of_mem _ hd)
  have hfit : Fit s := fun {y c} hc i hi => by
    obtain ⟨ha, rfl⟩ := Array.getElem?_eq_some_iff.mp hc
    have q := List.all_eq_true.mp ((Array.all_eq_true_iff_forall_mem.mp hF) _ (Array.getElem_mem ha)) i (List.mem_range.mpr hi)
    simpa [Array.getElem?_eq_getElem hi] using q
  obtain ⟨i0, ei0⟩ := isL_v hi0
  obtain rfl : w0 = (.long i0) := Option.some.inj ei0
  obtain ⟨i1, ei1⟩ := is_v hi1
  obtain rfl : w1 = (.int i1) := Option.some.inj ei1
  obtain ⟨i2, ei2⟩ := is_v hi2
  obtain rfl : w2 = (.int i2) := Option.some.inj ei2
  obtain ⟨n, o, h1, h2, h3, _, L, rfl, ⟨rfl, N⟩, hq⟩ := rm0 l s _ hw tables_1 i0 i1 i2  s.heap s.heap.size (Nat.le_refl _)  p e ha hc hk s m _ below hf ((Spec.applies_iff_loose hf).mp happ).1 ⟨rfl, State.Warmed39.refl s, rfl⟩ trivial
  refine ⟨n, _, h1, h2, h3, hpost _ _ _ _ _ _ ⟨Cond.after_iff.mpr rfl, Cond.after_iff.mpr (eq_i res_at (Term.int_eval (1)) (congrArg Value.int (plain_law i0 i1 i2))), trivial⟩ ⟨hq.1, hq.2.1, (hq.2.2.sift fun y hy => Or.inr (N y hy)).mono (by decide) (by decide)⟩⟩
theorem main_1_1 : Claimed_1_1 := comes_1 fun _ _ _ _ _ _ h hF => ⟨h.1, hF⟩
theorem main_1_2 : Claimed_1_2 := comes_1 fun _ _ _ _ _ _ h hF => ⟨h.2.1, hF⟩
end Jvm.Pilot.@@N@@
namespace Jvm.Pilot.@@N@@
open Jvm Jvm.ClassFile Sem Op Lib Jvm.Free Jvm.Stand Jvm.Pilot.@@N@@.Jvm.D
/-! MADE BY PROGRAM (witnessworld.py) out of the Statement's table words and the real class files: 9 classes; the members and pool entries that the words name. The judged class is class 1, her method 1. -/
namespace start1
open Jvm.ClassFile
def u (s : String) : CpInfo := .utf8 (stringToUtf16 s)
/-- a pool by its gaps: so many unusable entries, then the entry; so many at the end -/
def gap : Nat → List CpInfo → List CpInfo
  | 0, r => r
  | n + 1, r => .unusable :: gap n r
def poolList (es : List (Nat × CpInfo)) (last : Nat) : List CpInfo := es.foldr (fun e r => gap e.1 (e.2 :: r)) (gap last [])
def pool (es : List (Nat × CpInfo)) (last : Nat) : Array CpInfo := ⟨poolList es last⟩
def fileOf (pool : Array CpInfo) (this : Nat) (attrs : Array Attribute := #[]) (ms : Array MethodInfo := #[]) (fl : Nat := 33) (sup : Nat := 0) (ifs : Array Nat := #[]) (fds : Array FieldInfo := #[]) : ClassFile where
  minorVersion := 0
  majorVersion := 65
  constantPool := pool
  accessFlags := fl
  thisClass := this
  superClass := sup
  interfaces := ifs
  fields := fds
  methods := ms
  attributes := attrs
def plain (name : String) (sup : Option ClassId) : Class where
  name := name
  kind := .ordinary
  loader := none
  accessFlags := 33
  super := sup
  interfaces := #[]
  cf := none
  fields := #[]
  methods := #[]
  instanceTypes := #[]
  staticTypes := #[]
  resolved := #[]
  callSites := []
  init := .initialized
  statics := none
  mirror := none

def pool0 : Array CpInfo := pool [(5, u "<init>"), (0, u "()V"), (1, .class_ 10), (1, u "java/lang/Object")] 113

def k0m0 : Method := { name := "<init>", desc := "()V", sig := { parameters := [], returnType := none }, accessFlags := 1, code := none }
/-- java/lang/Object -/
def k0 : Class := { plain "java/lang/Object" none with
  accessFlags := 33
  interfaces := #[]
  cf := some (fileOf pool0 8 #[] #[{ accessFlags := 1, nameIndex := 5, descriptorIndex := 6, attributes := #[] }] 33 0 #[] #[])
  fields := #[]
  methods := #[k0m0]
  instanceTypes := #[]
  staticTypes := #[]
  resolved := Array.replicate 124 none
  statics := none }

def pool1 : Array CpInfo := pool [(2, .class_ 4), (1, u "java/lang/Object"), (0, u "<init>"), (0, u "()V"), (0, .methodref 8 9), (0, .class_ 10), (0, .nameAndType 11 12), (0, u "com/example/rota/rota/process/ByteWordsEqualPinLaw"), (0, u "place"), (0, u "(JIII)J"), (0, .long 72340172838076673), (1, .methodref 16 17), (0, .class_ 18), (0, .nameAndType 19 20), (0, u "com/example/rota/rota/process/ByteWords"), (0, u "equal"), (0, u "(JJ)J"), (0, .long 9187201950435737471), (1, .methodref 8 24), (0, .nameAndType 25 26), (0, u "firstMatch"), (0, u "(JI)I"), (0, .methodref 8 28), (0, .nameAndType 29 30), (0, u "ok"), (0, u "(JJIII)Z"), (0, .long 255), (1, .long 18446744073709551615), (1, .methodref 8 36), (0, .nameAndType 37 38), (0, u "eqAt"), (0, u "(JII)Z"), (0, .methodref 8 40), (0, .nameAndType 41 42), (0, u "flagAt"), (0, u "(JI)Z"), (2, u "law")] 3

def k1m0 : Method := { name := "<init>", desc := "()V", sig := { parameters := [], returnType := none }, accessFlags := 1, code := none }
def k1c1 : Code := { maxStack := 7, maxLocals := 12, code := code, exceptionTable := #[], attributes := #[] }
def k1m1 : Method := { name := "law", desc := "(JII)Z", sig := { parameters := [.long, .int, .int], returnType := some .boolean }, accessFlags := 9, code := some k1c1 }
def k1c2 : Code := { maxStack := 6, maxLocals := 6, code := method_3_code, exceptionTable := #[], attributes := #[] }
def k1m2 : Method := { name := "place", desc := "(JIII)J", sig := { parameters := [.long, .int, .int, .int], returnType := some .long }, accessFlags := 10, code := some k1c2 }
def k1c3 : Code := { maxStack := 4, maxLocals := 4, code := method_4_code, exceptionTable := #[], attributes := #[] }
def k1m3 : Method := { name := "eqAt", desc := "(JII)Z", sig := { parameters := [.long, .int, .int], returnType := some .boolean }, accessFlags := 10, code := some k1c3 }
def k1c4 : Code := { maxStack := 4, maxLocals := 3, code := method_5_code, exceptionTable := #[], attributes := #[] }
def k1m4 : Method := { name := "flagAt", desc := "(JI)Z", sig := { parameters := [.long, .int], returnType := some .boolean }, accessFlags := 10, code := some k1c4 }
def k1c5 : Code := { maxStack := 4, maxLocals := 3, code := method_6_code, exceptionTable := #[], attributes := #[] }
def k1m5 : Method := { name := "firstMatch", desc := "(JI)I", sig := { parameters := [.long, .int], returnType := some .int }, accessFlags := 10, code := some k1c5 }
def k1c6 : Code := { maxStack := 4, maxLocals := 9, code := method_7_code, exceptionTable := #[], attributes := #[] }
def k1m6 : Method := { name := "ok", desc := "(JJIII)Z", sig := { parameters := [.long, .long, .int, .int, .int], returnType := some .boolean }, accessFlags := 10, code := some k1c6 }
/-- com/example/rota/rota/process/ByteWordsEqualPinLaw -/
def k1 : Class := { plain "com/example/rota/rota/process/ByteWordsEqualPinLaw" (some 0) with
  accessFlags := 49
  interfaces := #[]
  cf := some (fileOf pool1 8 #[] #[{ accessFlags := 1, nameIndex := 5, descriptorIndex := 6, attributes := #[] }, { accessFlags := 9, nameIndex := 45, descriptorIndex := 38, attributes := #[] }, { accessFlags := 10, nameIndex := 11, descriptorIndex := 12, attributes := #[] }, { accessFlags := 10, nameIndex := 37, descriptorIndex := 38, attributes := #[] }, { accessFlags := 10, nameIndex := 41, descriptorIndex := 42, attributes := #[] }, { accessFlags := 10, nameIndex := 25, descriptorIndex := 26, attributes := #[] }, { accessFlags := 10, nameIndex := 29, descriptorIndex := 30, attributes := #[] }] 49 2 #[] #[])
  fields := #[]
  methods := #[k1m0, k1m1, k1m2, k1m3, k1m4, k1m5, k1m6]
  instanceTypes := #[]
  staticTypes := #[]
  resolved := Array.replicate 49 none
  statics := none }

def pool2 : Array CpInfo := pool [(4, .class_ 6), (1, u "java/lang/Object"), (0, u "<init>"), (0, u "()V"), (1, .class_ 12), (1, u "com/example/rota/rota/process/ByteWords"), (0, u "WORDS"), (0, u "Ljava/lang/invoke/VarHandle;"), (6, .long 72340172838076673), (1, .long 18446744073709551615), (1, .long 9259542123273814144), (19, u "SIZE"), (0, u "I"), (2, u "ONES"), (0, u "J"), (0, u "HIGH_BITS"), (5, u "equal"), (0, u "(JJ)J")] 5

def k2m0 : Method := { name := "<init>", desc := "()V", sig := { parameters := [], returnType := none }, accessFlags := 2, code := none }
def k2c1 : Code := { maxStack := 6, maxLocals := 6, code := prog_20_method_4_code, exceptionTable := #[], attributes := #[] }
def k2m1 : Method := { name := "equal", desc := "(JJ)J", sig := { parameters := [.long, .long], returnType := some .long }, accessFlags := 9, code := some k2c1 }
/-- com/example/rota/rota/process/ByteWords -/
def k2 : Class := { plain "com/example/rota/rota/process/ByteWords" (some 0) with
  accessFlags := 49
  interfaces := #[]
  cf := some (fileOf pool2 10 #[] #[{ accessFlags := 2, nameIndex := 7, descriptorIndex := 8, attributes := #[] }, { accessFlags := 9, nameIndex := 57, descriptorIndex := 58, attributes := #[] }] 49 4 #[] #[{ accessFlags := 25, nameIndex := 45, descriptorIndex := 46, attributes := #[] }, { accessFlags := 26, nameIndex := 13, descriptorIndex := 14, attributes := #[] }, { accessFlags := 26, nameIndex := 49, descriptorIndex := 50, attributes := #[] }, { accessFlags := 26, nameIndex := 51, descriptorIndex := 50, attributes := #[] }])
  fields := #[{ name := "SIZE", type := .int, accessFlags := 25, slot := 0, constantValue := 0 }, { name := "WORDS", type := (.object "java/lang/invoke/VarHandle"), accessFlags := 26, slot := 1, constantValue := 0 }, { name := "ONES", type := .long, accessFlags := 26, slot := 2, constantValue := 0 }, { name := "HIGH_BITS", type := .long, accessFlags := 26, slot := 3, constantValue := 0 }]
  methods := #[k2m0, k2m1]
  instanceTypes := #[]
  staticTypes := #[.int, (.object "java/lang/invoke/VarHandle"), .long, .long]
  resolved := Array.replicate 64 none
  statics := none }

def pool3 : Array CpInfo := pool [(1, u "java/lang/Cloneable"), (0, .class_ 1), (0, u "java/lang/Object"), (0, .class_ 3)] 3

/-- java/lang/Cloneable -/
def k3 : Class := { plain "java/lang/Cloneable" (some 0) with
  accessFlags := 1537
  interfaces := #[]
  cf := some (fileOf pool3 2 #[] #[] 1537 4 #[] #[])
  fields := #[]
  methods := #[]
  instanceTypes := #[]
  staticTypes := #[]
  resolved := Array.replicate 8 none
  statics := none }

def pool4 : Array CpInfo := pool [(1, u "java/io/Serializable"), (0, .class_ 1), (0, u "java/lang/Object"), (0, .class_ 3)] 3

/-- java/io/Serializable -/
def k4 : Class := { plain "java/io/Serializable" (some 0) with
  accessFlags := 1537
  interfaces := #[]
  cf := some (fileOf pool4 2 #[] #[] 1537 4 #[] #[])
  fields := #[]
  methods := #[]
  instanceTypes := #[]
  staticTypes := #[]
  resolved := Array.replicate 8 none
  statics := none }

/-- the primitive byte -/
def k5 : Class := { plain "byte" none with kind := .primitive 'B', accessFlags := 0x411 }
/-- [B -/
def k6 : Class := { plain "[B" (some 0) with kind := .array 5 .byte, interfaces := #[3, 4], accessFlags := 1041 }

/-- the primitive int -/
def k7 : Class := { plain "int" none with kind := .primitive 'I', accessFlags := 0x411 }
/-- [I -/
def k8 : Class := { plain "[I" (some 0) with kind := .array 7 .int, interfaces := #[3, 4], accessFlags := 1041 }

def heap : Heap := #[]
def classes : Array Class := #[k0, k1, k2, k3, k4, k5, k6, k7, k8]
def interned : List (Array UInt16 × Addr) := []
def slotsUsed : Nat := 0
def theMethod : MethodId := ⟨1, 1⟩
def args0 : Array Value := #[.long 5, .int 3, .int 1]
def aboutOver (below : List Frame) : State where
  vm := { classes := classes, interned := interned.toArray }
  heap := heap
  slotsUsed := slotsUsed
  threads := #[{ frames := .invoking theMethod args0 :: below }]
def below0 : List Frame := [.native { method := ⟨0, 0⟩, args := #[] }]
def about1 : State := aboutOver below0
def p0 : Program := .bare "" "" ""
def e0 : Env := launch0.env 0 0 0
theorem w_frames : about1.frames = Frame.invoking theMethod args0 :: below0 := rfl
set_option maxRecDepth 65536 in
theorem w_args : argsFit about1.vm theMethod args0 = true := by decide +kernel
set_option maxRecDepth 65536 in
theorem w_heap : heapFits about1 = true := by decide +kernel
set_option maxRecDepth 65536 in
theorem w_runnable : about1.curStatus? = some .runnable := by decide +kernel
set_option maxRecDepth 65536 in
theorem w_alone : about1.alone = true := by decide +kernel
set_option maxRecDepth 65536 in
theorem w_named : about1.methodNamed? x = some theMethod := by decide +kernel
set_option maxRecDepth 65536 in
theorem w_hears : about1.hears theMethod below0 = true := by decide +kernel
set_option maxRecDepth 65536 in
theorem w_ripe : about1.ripe theMethod args0 below0 = true := by decide +kernel
theorem w_running : about1.status = .running := rfl
set_option maxRecDepth 65536 in
theorem w_room : about1.hasRoom e0.platform room_1 = true :=
  launch0.hasRoom_least _ room_1 (by decide +kernel) (by decide +kernel) (by decide +kernel) (by decide +kernel) (by decide +kernel) (by decide +kernel)
theorem allAtoms_all (ts : List Jvm.Cond) (a : Array Jvm.Value) (st : Jvm.State) : (allAtoms ts).before a st = ts.all (fun c => c.before a st) := by
  induction ts with
  | nil => rfl
  | cons c t ih =>
    show (Jvm.Cond.and c (allAtoms t)).before a st = _
    rw [Jvm.Cond.before_and, ih, List.all_cons]
def words1 : List Jvm.Cond := Jvm.Cond.code x code maxLocals ret :: tables_1
/-- a 'code' word, met by the world's own term for the bytes: nothing is compared byte by byte -/
theorem code_word {y : MethodName} {bytes : ByteArray} {mx : Nat} {rt : Option FieldType} {a : Array Value} {s : State} {m : MethodId} {meth : Method} {c : Code} (h1 : s.methodNamed? y = some m) (h2 : s.vm.method? m = some meth) (h3 : meth.code = some c) (h4 : c.code = bytes)
    (h5 : (c.maxLocals == mx && c.exceptionTable.isEmpty && decide (c.maxStack ≤ mostOperands) && decide (meth.sig.returnType = rt) && !meth.locks && decide (parseMethodDescriptor y.desc = some meth.sig)) = true) : (Jvm.Cond.code y bytes mx rt).before a s = true := by
  simp only [Bool.and_eq_true, beq_iff_eq, Bool.not_eq_true', decide_eq_true_eq] at h5
  obtain ⟨⟨⟨⟨⟨g1, g2⟩, g3⟩, g4⟩, g5⟩, g6⟩ := h5
  simp [Cond.before, Cond.holds, Cond.value, h1, h2, h3, h4, g1, g2, g3, g4, g5, g6]
def isCode : Jvm.Cond → Bool
  | .code _ _ _ _ => true
  | _ => false
theorem all_split {L : List Jvm.Cond} {P : Jvm.Cond → Bool} (h1 : L.all (fun c => isCode c || P c) = true) (h2 : ∀ c ∈ L.filter isCode, P c = true) : L.all P = true := by
  refine List.all_eq_true.mpr fun c hc => ?_
  have h := List.all_eq_true.mp h1 c hc
  rcases Bool.eq_false_or_eq_true (isCode c) with hi | hi
  · exact h2 c (List.mem_filter.mpr ⟨hc, hi⟩)
  · simpa [hi] using h
set_option maxRecDepth 65536 in
theorem w_c0 : (Jvm.Cond.code x code maxLocals ret).before args0 about1 = true := code_word (m := ⟨1, 1⟩) (meth := k1m1) (c := k1c1) (by decide +kernel) rfl rfl rfl (by decide +kernel)
set_option maxRecDepth 65536 in
theorem w_c1 : (Jvm.Cond.code ({ cls := "com/example/rota/rota/process/ByteWordsEqualPinLaw", name := "place", desc := "(JIII)J" } : Jvm.MethodName) method_3_code (6 : Nat) (Option.some Jvm.ClassFile.FieldType.long)).before args0 about1 = true := code_word (m := ⟨1, 2⟩) (meth := k1m2) (c := k1c2) (by decide +kernel) rfl rfl rfl (by decide +kernel)
set_option maxRecDepth 65536 in
theorem w_c2 : (Jvm.Cond.code ({ cls := "com/example/rota/rota/process/ByteWords", name := "equal", desc := "(JJ)J" } : Jvm.MethodName) prog_20_method_4_code (6 : Nat) (Option.some Jvm.ClassFile.FieldType.long)).before args0 about1 = true := code_word (m := ⟨2, 1⟩) (meth := k2m1) (c := k2c1) (by decide +kernel) rfl rfl rfl (by decide +kernel)
set_option maxRecDepth 65536 in
theorem w_c3 : (Jvm.Cond.code ({ cls := "com/example/rota/rota/process/ByteWordsEqualPinLaw", name := "firstMatch", desc := "(JI)I" } : Jvm.MethodName) method_6_code (3 : Nat) (Option.some Jvm.ClassFile.FieldType.int)).before args0 about1 = true := code_word (m := ⟨1, 5⟩) (meth := k1m5) (c := k1c5) (by decide +kernel) rfl rfl rfl (by decide +kernel)
set_option maxRecDepth 65536 in
theorem w_c4 : (Jvm.Cond.code ({ cls := "com/example/rota/rota/process/ByteWordsEqualPinLaw", name := "eqAt", desc := "(JII)Z" } : Jvm.MethodName) method_4_code (4 : Nat) (Option.some Jvm.ClassFile.FieldType.boolean)).before args0 about1 = true := code_word (m := ⟨1, 3⟩) (meth := k1m3) (c := k1c3) (by decide +kernel) rfl rfl rfl (by decide +kernel)
set_option maxRecDepth 65536 in
theorem w_c5 : (Jvm.Cond.code ({ cls := "com/example/rota/rota/process/ByteWordsEqualPinLaw", name := "ok", desc := "(JJIII)Z" } : Jvm.MethodName) method_7_code (9 : Nat) (Option.some Jvm.ClassFile.FieldType.boolean)).before args0 about1 = true := code_word (m := ⟨1, 6⟩) (meth := k1m6) (c := k1c6) (by decide +kernel) rfl rfl rfl (by decide +kernel)
set_option maxRecDepth 65536 in
theorem w_c6 : (Jvm.Cond.code ({ cls := "com/example/rota/rota/process/ByteWordsEqualPinLaw", name := "flagAt", desc := "(JI)Z" } : Jvm.MethodName) method_5_code (3 : Nat) (Option.some Jvm.ClassFile.FieldType.boolean)).before args0 about1 = true := code_word (m := ⟨1, 4⟩) (meth := k1m4) (c := k1c4) (by decide +kernel) rfl rfl rfl (by decide +kernel)
def codes1 : List Jvm.Cond := [Jvm.Cond.code x code maxLocals ret, Jvm.Cond.code ({ cls := "com/example/rota/rota/process/ByteWordsEqualPinLaw", name := "place", desc := "(JIII)J" } : Jvm.MethodName) method_3_code (6 : Nat) (Option.some Jvm.ClassFile.FieldType.long), Jvm.Cond.code ({ cls := "com/example/rota/rota/process/ByteWords", name := "equal", desc := "(JJ)J" } : Jvm.MethodName) prog_20_method_4_code (6 : Nat) (Option.some Jvm.ClassFile.FieldType.long), Jvm.Cond.code ({ cls := "com/example/rota/rota/process/ByteWordsEqualPinLaw", name := "firstMatch", desc := "(JI)I" } : Jvm.MethodName) method_6_code (3 : Nat) (Option.some Jvm.ClassFile.FieldType.int), Jvm.Cond.code ({ cls := "com/example/rota/rota/process/ByteWordsEqualPinLaw", name := "eqAt", desc := "(JII)Z" } : Jvm.MethodName) method_4_code (4 : Nat) (Option.some Jvm.ClassFile.FieldType.boolean), Jvm.Cond.code ({ cls := "com/example/rota/rota/process/ByteWordsEqualPinLaw", name := "ok", desc := "(JJIII)Z" } : Jvm.MethodName) method_7_code (9 : Nat) (Option.some Jvm.ClassFile.FieldType.boolean), Jvm.Cond.code ({ cls := "com/example/rota/rota/process/ByteWordsEqualPinLaw", name := "flagAt", desc := "(JI)Z" } : Jvm.MethodName) method_5_code (3 : Nat) (Option.some Jvm.ClassFile.FieldType.boolean)]
set_option maxRecDepth 65536 in
theorem codes_eq : words1.filter isCode = codes1 := rfl
theorem w_codes : ∀ c ∈ words1.filter isCode, c.before args0 about1 = true := by
  rw [codes_eq]
  intro c hc
  simp only [codes1, List.mem_cons, List.not_mem_nil, or_false] at hc
  rcases hc with rfl | rfl | rfl | rfl | rfl | rfl | rfl
  · exact w_c0
  · exact w_c1
  · exact w_c2
  · exact w_c3
  · exact w_c4
  · exact w_c5
  · exact w_c6
set_option maxRecDepth 65536 in
theorem w_t1 : (words1.take 24).all (fun c => isCode c || c.before args0 about1) = true := by decide +kernel
set_option maxRecDepth 65536 in
theorem w_t2 : (words1.drop 24).all (fun c => isCode c || c.before args0 about1) = true := by decide +kernel
theorem w_tables : (allAtoms (Jvm.Cond.code x code maxLocals ret :: tables_1)).before args0 about1 = true := by
  rw [allAtoms_all]
  show words1.all (fun c => c.before args0 about1) = true
  refine all_split ?_ w_codes
  rw [← List.take_append_drop 24 words1, List.all_append, w_t1, w_t2]
  rfl
set_option maxRecDepth 65536 in
theorem w_case : (Jvm.Cond.and given_1 narrow_1).before args0 about1 = true := by decide +kernel
theorem w_applies : (headSpec (Jvm.Cond.code x code maxLocals ret :: tables_1) room_1).applies x e0.platform about1 = true :=
  (Spec.applies_iff w_frames).mpr ⟨w_running, w_runnable, w_alone, w_named, w_hears, w_ripe, w_room, w_tables⟩
theorem atStart : AtStart classFile x code maxLocals ret World_1 tables_1 room_1 Calls_1 rest_1 Pre_1 launch0 p0 e0 about1 theMethod args0 below0 :=
  ⟨lists_1, trivial, launch0.admits_env _ _ _, launch0.least_env, fairChoices_fair.cas, fairChoices_fair.clock, w_frames, w_args, w_heap, w_applies, trivial, trivial, w_case⟩
end start1
theorem witness_1 : WitnessClaimed_1 := ⟨start1.p0, start1.e0, start1.about1, start1.theMethod, start1.args0, start1.below0, start1.atStart⟩
end Jvm.Pilot.@@N@@
