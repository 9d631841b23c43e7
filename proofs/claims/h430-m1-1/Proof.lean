import JvmDerived
import JvmDerived.Pilot.@@N@@Statement
import JvmDerived.Pilot.@@N@@Code
set_option linter.unusedVariables false
set_option linter.unusedSimpArgs false
namespace Jvm.RoadKit
open Sem ClassFile Op Lib Jvm.Stand Jvm.Free Jvm.LawKit
section New
variable {p : Program} {l : Launch} {e : Env} {R : Room} {s : State} {m : MethodId} {args : Array Value} {below : List Frame} {meth : Method} {c : Code} {T : State} {locs : List Loc} {cells slots : Nat}
theorem retI (X : Stand p l e R s m args below meth c T locs cells slots) (hx : p.tables.exec = Jvm.exec) {pc : Nat} {Ls : Array Slot} {z : Int32} {rest : List Value} (hret : meth.sig.returnType = some .int) (hd : decode c.code pc = .ok (.ireturn, 1)) {fs : List Frame}
    (hl : ∀ (f : JFrame) (acts : List Action), f.method = m → f.locked = none → f.entered = [] → (doReturn e (T.setTop f) acts (some (.int z))).1 = T.setFrames fs) : Steps p.tables e below (T.setTop (mkF m pc Ls (.int z :: rest))) (T.setFrames fs) :=
  retOut X hx hret rfl (Or.inl ⟨rfl, Or.inl rfl, _, rfl⟩) hd hl
end New
end Jvm.RoadKit
namespace Jvm.Pilot.@@N@@
open Jvm Jvm.ClassFile Sem Op Lib Jvm.Free Jvm.Stand Jvm.LawKit Jvm.RoadKit Bundle Jvm.Pilot.@@N@@.Jvm.D
def w1_r1 (p0 : Int32) (p1 : Int32) : Int32 := (if p0 < p1 then p1 else p0)
def w4_r1 (p1 : Int32) (d2 : UInt64) (zk : UInt64) (zb : UInt64) : UInt64 := (FP.ddiv (FP.dmul (FP.dadd zk (4607182418800017408 : UInt64)) (FP.i2d p1)) (FP.dadd (FP.dmul zk (FP.dadd (FP.dsub (4607182418800017408 : UInt64) zb) (FP.dmul zb d2))) (FP.i2d p1)))
def w0_1 (p1 : Int32) : Int32 := ((p1 &&& (2147483647 : Int32)) % (5 : Int32))
def w0_2 (p2 : Int32) : Int32 := ((p2 &&& (1048575 : Int32)) + (1 : Int32))
def w0_3 (p3 : Int32) : Int32 := (w1_r1 (1 : Int32) (p3 &&& (2147483647 : Int32)))
def w0_4 (p0 : Int32) : UInt64 := (FP.i2d (p0 &&& (1023 : Int32)))
def w0_5 (p1 : Int32) : UInt64 := (FP.ddiv (FP.i2d (w0_1 p1)) (4616189618054758400 : UInt64))
def w0_6 (p0 : Int32) : UInt64 := (FP.ddiv (w0_4 p0) (4616189618054758400 : UInt64))
def w0_7 (p2 : Int32) : UInt64 := (FP.ddiv (FP.i2d (w0_2 p2)) (4616189618054758400 : UInt64))
def w0_8 (p0 : Int32) (p1 : Int32) (p2 : Int32) (p3 : Int32) : UInt64 := (w4_r1 (((w0_3 p3).toInt64).toInt32) (w0_7 p2) (w0_6 p0) (w0_5 p1))
def w0_9 (p0 : Int32) (p3 : Int32) : Int64 := (((16 : Int64) * (((p0 &&& (1023 : Int32)) + (4 : Int32)).toInt64)) * ((w0_3 p3).toInt64))
def w0_10 (p0 : Int32) (p1 : Int32) (p2 : Int32) (p3 : Int32) : Int64 := ((((p0 &&& (1023 : Int32)).toInt64) * (((16 : Int64) - ((4 : Int64) * ((w0_1 p1).toInt64))) + (((w0_1 p1).toInt64) * ((w0_2 p2).toInt64)))) + ((64 : Int64) * ((w0_3 p3).toInt64)))
def w0_11 (p0 : Int32) (p1 : Int32) (p2 : Int32) (p3 : Int32) : UInt64 := (FP.ddiv (FP.l2d (w0_9 p0 p3)) (FP.l2d (w0_10 p0 p1 p2 p3)))
def w0_12 (p0 : Int32) (p1 : Int32) (p2 : Int32) (p3 : Int32) : Int32 := (cmpValue (FP.dcmp (w0_8 p0 p1 p2 p3) (w0_11 p0 p1 p2 p3)) .l)
def w0_r13 (p0 : Int32) (p1 : Int32) (p2 : Int32) (p3 : Int32) : Int32 := (if (w0_12 p0 p1 p2 p3) = (0 : Int32) then (1 : Int32) else (0 : Int32))
/-! the doubles: N * 2^k, exactly -/
def own_D (x : UInt64) (N : Nat) (k : Int) : Prop := FP.Core.val64 x = FP.Core.roundRatio FP.Core.b64 false N 1 k
theorem own_norm (N : Nat) (k : Int) (hN : N < 2 ^ 53) (h1 : -900 ≤ k) (h2 : k ≤ 900) : ∃ (c : Nat) (q : Int), FP.Core.roundRatio FP.Core.b64 false N 1 k = .fin false c q ∧ q ≤ k ∧ (c = 0 → N = 0) ∧ ∀ e : Int, e ≤ q → c * 2 ^ (q - e).toNat = N * 2 ^ (k - e).toNat := by
  have qn : FP.Core.Fmt.qmin FP.Core.b64 = -1074 := by decide
  have qx : FP.Core.Fmt.qmax FP.Core.b64 = 971 := by decide
  by_cases h0 : N = 0
  · subst h0
    refine ⟨0, -1074, ?_, by omega, fun _ => rfl, fun e he => by rw [Nat.zero_mul, Nat.zero_mul]⟩
    show (if (0 : Nat) = 0 then FP.Core.Datum.fin false 0 FP.Core.b64.qmin else _) = _
    rw [if_pos rfl, qn]
  · have a1 := Nat.log2_self_le h0
    have a2 : N < 2 ^ (N.log2 + 1) := Nat.lt_log2_self
    have a3 : N.log2 < 53 := (Nat.log2_lt h0).mpr hN
    obtain ⟨i, hi⟩ : ∃ i, N.log2 + i = 52 := ⟨52 - N.log2, by omega⟩
    have p : 0 < 2 ^ i := Nat.two_pow_pos i
    have b1 : 2 ^ 52 ≤ N * 2 ^ i := by
      have := Nat.mul_le_mul_right (2 ^ i) a1
      rw [← Nat.pow_add, hi] at this
      exact this
    have b2 : N * 2 ^ i < 2 ^ 53 := by
      have := Nat.mul_lt_mul_of_pos_right a2 p
      rw [← Nat.pow_add, show N.log2 + 1 + i = 53 by omega] at this
      exact this
    refine ⟨N * 2 ^ i, k - i, ?_, by omega, fun z => by omega, fun e he => ?_⟩
    · refine FP.Core.roundRatio_exact FP.Core.good_b64 (by decide) ⟨b2, by omega, by omega, Or.inr b1⟩ ?_
      rw [show (k - (k - (i : Int))).toNat = i by omega, show (k - (i : Int) - k).toNat = 0 by omega, Nat.pow_zero, Nat.mul_one, Nat.mul_one]
    · rw [Nat.mul_assoc, ← Nat.pow_add, show i + (k - (i : Int) - e).toNat = (k - e).toNat by omega]
theorem own_conv {x : UInt64} {N N' : Nat} {k k' : Int} (h : own_D x N k) (e1 : N = N') (e2 : k = k') : own_D x N' k' := by
  subst e1 e2
  exact h
theorem own_shift {x : UInt64} {N : Nat} {k : Int} (j : Nat) (h : own_D x N k) : own_D x (N * 2 ^ j) (k - j) := by
  refine Eq.trans h (FP.Core.roundRatio_congr (by decide) (by decide) ?_)
  rw [show (k - (k - (j : Int))).toNat = j by omega, show (k - (j : Int) - k).toNat = 0 by omega, Nat.pow_zero, Nat.mul_one, Nat.mul_one, Nat.mul_one]
theorem own_dmul {x y : UInt64} {N M : Nat} {k l : Int} (hx : own_D x N k) (hy : own_D y M l) (hN : N < 2 ^ 53) (hM : M < 2 ^ 53) (k1 : -400 ≤ k) (k2 : k ≤ 400) (l1 : -400 ≤ l) (l2 : l ≤ 400) : own_D (FP.dmul x y) (N * M) (k + l) := by
  obtain ⟨c, q, e1, e2, -, e3⟩ := own_norm N k hN (by omega) (by omega)
  obtain ⟨d, r, f1, f2, -, f3⟩ := own_norm M l hM (by omega) (by omega)
  have a := e3 q (Int.le_refl _)
  have b := f3 r (Int.le_refl _)
  rw [Int.sub_self, Int.toNat_zero, Nat.pow_zero, Nat.mul_one] at a b
  show FP.Core.val64 (FP.Core.dmul x y) = _
  rw [FP.Core.val64_dmul, hx, hy, e1, f1]
  show FP.Core.roundRatio FP.Core.b64 false (c * d) 1 (q + r) = _
  refine FP.Core.roundRatio_congr (by decide) (by decide) ?_
  rw [show (q + r - (k + l)).toNat = 0 by omega, show (k + l - (q + r)).toNat = (k - q).toNat + (l - r).toNat by omega, a, b, Nat.pow_add, Nat.pow_zero, Nat.mul_one, Nat.mul_one, Nat.mul_one]
  exact Nat.mul_mul_mul_comm ..
theorem own_dadd {x y : UInt64} {N M : Nat} {k : Int} (hx : own_D x N k) (hy : own_D y M k) (hN : N < 2 ^ 53) (hM : M < 2 ^ 53) (k1 : -400 ≤ k) (k2 : k ≤ 400) : own_D (FP.dadd x y) (N + M) k := by
  obtain ⟨c, q, e1, e2, -, e3⟩ := own_norm N k hN (by omega) (by omega)
  obtain ⟨d, r, f1, f2, -, f3⟩ := own_norm M k hM (by omega) (by omega)
  have a := e3 (min q r) (Int.min_le_left ..)
  have b := f3 (min q r) (Int.min_le_right ..)
  have v : FP.Core.sumUnits false c q false d r (min q r) = (((N + M) * 2 ^ (k - min q r).toNat : Nat) : Int) := by
    show ((c * 2 ^ (q - min q r).toNat : Nat) : Int) + ((d * 2 ^ (r - min q r).toNat : Nat) : Int) = _
    rw [a, b, Nat.add_mul]
    omega
  show FP.Core.val64 (FP.Core.dadd x y) = _
  rw [FP.Core.val64_dadd, hx, hy, e1, f1]
  show FP.Core.roundRatio FP.Core.b64 (FP.Core.sumSign false false (FP.Core.sumUnits false c q false d r (min q r))) (FP.Core.sumUnits false c q false d r (min q r)).natAbs 1 (min q r) = _
  rw [v]
  have s : FP.Core.sumSign false false (((N + M) * 2 ^ (k - min q r).toNat : Nat) : Int) = false := by
    show (if (((N + M) * 2 ^ (k - min q r).toNat : Nat) : Int) = 0 then (false && false) else decide ((((N + M) * 2 ^ (k - min q r).toNat : Nat) : Int) < 0)) = false
    split
    · rfl
    · exact decide_eq_false (by omega)
  rw [s, Int.natAbs_natCast]
  refine FP.Core.roundRatio_congr (by decide) (by decide) ?_
  rw [show (min q r - k).toNat = 0 by omega, Nat.pow_zero, Nat.mul_one, Nat.mul_one, Nat.mul_one]
theorem own_dsub {x y : UInt64} {N M : Nat} {k : Int} (hx : own_D x N k) (hy : own_D y M k) (hN : N < 2 ^ 53) (hM : M ≤ N) (k1 : -400 ≤ k) (k2 : k ≤ 400) : own_D (FP.dsub x y) (N - M) k := by
  obtain ⟨c, q, e1, e2, -, e3⟩ := own_norm N k hN (by omega) (by omega)
  obtain ⟨d, r, f1, f2, -, f3⟩ := own_norm M k (by omega) (by omega) (by omega)
  have a := e3 (min q r) (Int.min_le_left ..)
  have b := f3 (min q r) (Int.min_le_right ..)
  have v : FP.Core.sumUnits false c q true d r (min q r) = (((N - M) * 2 ^ (k - min q r).toNat : Nat) : Int) := by
    show ((c * 2 ^ (q - min q r).toNat : Nat) : Int) + -((d * 2 ^ (r - min q r).toNat : Nat) : Int) = _
    rw [a, b, Nat.sub_mul]
    have := Nat.mul_le_mul_right (2 ^ (k - min q r).toNat) hM
    omega
  show FP.Core.val64 (FP.Core.dsub x y) = _
  rw [FP.Core.val64_dsub, hx, hy, e1, f1]
  show FP.Core.roundRatio FP.Core.b64 (FP.Core.sumSign false true (FP.Core.sumUnits false c q true d r (min q r))) (FP.Core.sumUnits false c q true d r (min q r)).natAbs 1 (min q r) = _
  rw [v]
  have s : FP.Core.sumSign false true (((N - M) * 2 ^ (k - min q r).toNat : Nat) : Int) = false := by
    show (if (((N - M) * 2 ^ (k - min q r).toNat : Nat) : Int) = 0 then (false && true) else decide ((((N - M) * 2 ^ (k - min q r).toNat : Nat) : Int) < 0)) = false
    split
    · rfl
    · exact decide_eq_false (by omega)
  rw [s, Int.natAbs_natCast]
  refine FP.Core.roundRatio_congr (by decide) (by decide) ?_
  rw [show (min q r - k).toNat = 0 by omega, Nat.pow_zero, Nat.mul_one, Nat.mul_one, Nat.mul_one]
theorem own_ddiv {x y : UInt64} {N M : Nat} {k l : Int} (hx : own_D x N k) (hy : own_D y M l) (hN : N < 2 ^ 53) (hM : M < 2 ^ 53) (h0 : 0 < M) (k1 : -400 ≤ k) (k2 : k ≤ 400) (l1 : -400 ≤ l) (l2 : l ≤ 400) : FP.Core.val64 (FP.ddiv x y) = FP.Core.roundRatio FP.Core.b64 false N M (k - l) := by
  obtain ⟨c, q, e1, e2, -, e3⟩ := own_norm N k hN (by omega) (by omega)
  obtain ⟨d, r, f1, f2, f0, f3⟩ := own_norm M l hM (by omega) (by omega)
  have a := e3 q (Int.le_refl _)
  have b := f3 r (Int.le_refl _)
  rw [Int.sub_self, Int.toNat_zero, Nat.pow_zero, Nat.mul_one] at a b
  have hd : d ≠ 0 := fun z => by have := f0 z; omega
  show FP.Core.val64 (FP.Core.ddiv x y) = _
  rw [FP.Core.val64_ddiv, hx, hy, e1, f1]
  show (if d = 0 then (if c = 0 then FP.Core.Datum.nan else .inf (false != false)) else FP.Core.roundRatio FP.Core.b64 (false != false) c d (q - r)) = _
  rw [if_neg hd]
  refine FP.Core.roundRatio_congr (by omega) h0 ?_
  rw [a, b]
  have m : (k - q).toNat + (q - r - (k - l)).toNat = (l - r).toNat + (k - l - (q - r)).toNat := by omega
  have e : 2 ^ (k - q).toNat * 2 ^ (q - r - (k - l)).toNat = 2 ^ (l - r).toNat * 2 ^ (k - l - (q - r)).toNat := by rw [← Nat.pow_add, ← Nat.pow_add, m]
  have u1 : N * 2 ^ (k - q).toNat * M * 2 ^ (q - r - (k - l)).toNat = N * M * (2 ^ (k - q).toNat * 2 ^ (q - r - (k - l)).toNat) := by
    rw [Nat.mul_right_comm N, Nat.mul_assoc]
  have u2 : N * (M * 2 ^ (l - r).toNat) * 2 ^ (k - l - (q - r)).toNat = N * M * (2 ^ (l - r).toNat * 2 ^ (k - l - (q - r)).toNat) := by
    rw [← Nat.mul_assoc N, Nat.mul_assoc]
  rw [u1, u2, e]
theorem own_i2d (a : Int32) (h : 0 ≤ a.toInt) : own_D (FP.i2d a) a.toInt.toNat 0 := by
  show FP.Core.val64 (FP.Core.of64 (FP.Core.round FP.Core.b64 (FP.Core.ofInt a.toInt))) = _
  rw [FP.Core.val64_of64 (FP.Core.round_fits FP.Core.good_b64 _)]
  show FP.Core.roundRatio FP.Core.b64 (decide (a.toInt < 0)) a.toInt.natAbs 1 0 = _
  rw [decide_eq_false (by omega), show a.toInt.natAbs = a.toInt.toNat by omega]
theorem own_l2d (a : Int64) (h : 0 ≤ a.toInt) : own_D (FP.l2d a) a.toInt.toNat 0 := by
  show FP.Core.val64 (FP.Core.of64 (FP.Core.round FP.Core.b64 (FP.Core.ofInt a.toInt))) = _
  rw [FP.Core.val64_of64 (FP.Core.round_fits FP.Core.good_b64 _)]
  show FP.Core.roundRatio FP.Core.b64 (decide (a.toInt < 0)) a.toInt.natAbs 1 0 = _
  rw [decide_eq_false (by omega), show a.toInt.natAbs = a.toInt.toNat by omega]
theorem own_no {x : UInt64} {N M : Nat} {k : Int} (h : FP.Core.val64 x = FP.Core.roundRatio FP.Core.b64 false N M k) : Jvm.Free.Fl.NoNaN64 x :=
  Jvm.Free.Fl.noNaN64_no.mpr ((FP.Core.notNaN_iff x).mpr (by rw [h]; exact FP.Core.roundRatio_ne_nan _ _ _ _ _))
theorem own_zero (k : Int) : own_D (0 : UInt64) 0 k := by
  show FP.Core.val64 0 = FP.Core.Datum.fin false 0 FP.Core.b64.qmin
  decide +kernel
theorem own_one : own_D (4607182418800017408 : UInt64) 4 (-2) := by unfold own_D; decide +kernel
theorem own_four : own_D (4616189618054758400 : UInt64) 4 0 := by unfold own_D; decide +kernel
theorem own_q4 {x : UInt64} {N : Nat} (h : own_D x N 0) (hN : N < 2 ^ 53) : own_D (FP.ddiv x (4616189618054758400 : UInt64)) N (-2) := by
  refine Eq.trans (own_ddiv h own_four hN (by decide) (by decide) (by decide) (by decide) (by decide) (by decide)) (FP.Core.roundRatio_congr (by decide) (by decide) ?_)
  show N * 1 * 2 ^ 2 = N * 4 * 2 ^ 0
  omega
theorem own_fin {x : UInt64} {N : Nat} {k : Int} (h : own_D x N k) (hN : N < 2 ^ 53) (k1 : -400 ≤ k) (k2 : k ≤ 400) : Jvm.Free.Fl.Fin64 x := by
  obtain ⟨c, q, e1, -⟩ := own_norm N k hN (by omega) (by omega)
  exact Jvm.Free.Fl.fin64_core.mpr ⟨false, c, q, h.trans e1⟩
theorem own_order {x y : UInt64} {N M : Nat} {k : Int} (hx : own_D x N k) (hy : own_D y M k) (hN : N < 2 ^ 53) (hM : M < 2 ^ 53) (k1 : -400 ≤ k) (k2 : k ≤ 400) : (M ≤ N → FP.dcmp x y = some .gt ∨ FP.dcmp x y = some .eq) ∧ (N ≤ M → FP.dcmp x y = some .lt ∨ FP.dcmp x y = some .eq) := by
  obtain ⟨c, q, e1, e2, -, e3⟩ := own_norm N k hN (by omega) (by omega)
  obtain ⟨d, r, f1, f2, -, f3⟩ := own_norm M k hM (by omega) (by omega)
  have a := e3 (min q r) (Int.min_le_left ..)
  have b := f3 (min q r) (Int.min_le_right ..)
  have h : FP.dcmp x y = some (compare (((N * 2 ^ (k - min q r).toNat : Nat)) : Int) (((M * 2 ^ (k - min q r).toNat : Nat)) : Int)) := by
    show FP.Core.order (FP.Core.val64 x) (FP.Core.val64 y) = _
    rw [hx, hy, e1, f1, ← a, ← b]
    rfl
  rw [h]
  have cmp : ∀ A B : Int, compare A B = if A < B then .lt else if A = B then .eq else .gt := fun _ _ => rfl
  rw [cmp]
  constructor
  · intro g
    have g' := Nat.mul_le_mul_right (2 ^ (k - min q r).toNat) g
    rw [if_neg (by omega)]
    by_cases z : (((N * 2 ^ (k - min q r).toNat : Nat)) : Int) = (((M * 2 ^ (k - min q r).toNat : Nat)) : Int)
    · rw [if_pos z]; exact Or.inr rfl
    · rw [if_neg z]; exact Or.inl rfl
  · intro g
    have g' := Nat.mul_le_mul_right (2 ^ (k - min q r).toNat) g
    by_cases z : (((N * 2 ^ (k - min q r).toNat : Nat)) : Int) < (((M * 2 ^ (k - min q r).toNat : Nat)) : Int)
    · rw [if_pos z]; exact Or.inl rfl
    · rw [if_neg z, if_pos (by omega)]; exact Or.inr rfl
theorem own_ge {x y : UInt64} {N M : Nat} {k : Int} (hx : own_D x N k) (hy : own_D y M k) (hN : N < 2 ^ 53) (hM : M < 2 ^ 53) (k1 : -400 ≤ k) (k2 : k ≤ 400) (h : M ≤ N) : ¬ (cmpValue (FP.dcmp x y) .l) < 0 := by
  rcases (own_order hx hy hN hM k1 k2).1 h with g | g <;> (rw [g, cmpV_l]; decide)
theorem own_le {x y : UInt64} {N M : Nat} {k : Int} (hx : own_D x N k) (hy : own_D y M k) (hN : N < 2 ^ 53) (hM : M < 2 ^ 53) (k1 : -400 ≤ k) (k2 : k ≤ 400) (h : N ≤ M) : ¬ 0 < (cmpValue (FP.dcmp x y) .g) := by
  rcases (own_order hx hy hN hM k1 k2).2 h with g | g <;> (rw [g, cmpV_g]; decide)
theorem own_inf {x : UInt64} {N : Nat} {k : Int} (h : own_D x N k) (hN : N < 2 ^ 53) (k1 : -400 ≤ k) (k2 : k ≤ 400) : (cmpValue (FP.dcmp x (9218868437227405312 : UInt64)) .g) < 0 := by
  rw [dcmp_pinf (own_fin h hN k1 k2)]; decide
/-! the law's numbers -/
theorem own_bK (p0 : Int32) : 0 ≤ (p0 &&& (1023 : Int32)).toInt ∧ (p0 &&& (1023 : Int32)).toInt < 1024 := by
  have h := c_mask p0 1023 10 (by decide) (by decide)
  omega
theorem own_bB (p1 : Int32) : 0 ≤ (w0_1 p1).toInt ∧ (w0_1 p1).toInt ≤ 4 := by
  have h := c_mask p1 2147483647 31 (by decide) (by decide)
  have g := (c_irem (p1 &&& 2147483647) 5 5 rfl).1 (by omega)
  unfold w0_1
  omega
theorem own_bR (p2 : Int32) : 1 ≤ (w0_2 p2).toInt ∧ (w0_2 p2).toInt ≤ 1048576 := by
  have h := c_mask p2 1048575 20 (by decide) (by decide)
  have a := c_iadd (p2 &&& 1048575) 1
  have l1 : (1 : Int32).toInt = 1 := rfl
  have r := rng32 ((p2 &&& 1048575) + 1)
  unfold w0_2
  omega
theorem own_bC (p3 : Int32) : 1 ≤ (w0_3 p3).toInt ∧ (w0_3 p3).toInt < 2147483648 := by
  have l1 : (1 : Int32).toInt = 1 := rfl
  unfold w0_3 w1_r1
  split
  · rename_i h
    rw [Int32.lt_iff_toInt_lt] at h
    have r := rng32 (p3 &&& 2147483647)
    omega
  · omega
theorem own_c32 (p3 : Int32) : ((w0_3 p3).toInt64).toInt32 = w0_3 p3 := by
  have a := c_l2i (w0_3 p3).toInt64
  have b := c_i2l (w0_3 p3)
  have r1 := rng32 (w0_3 p3)
  have r2 := rng32 ((w0_3 p3).toInt64).toInt32
  apply Int32.toInt_inj.mp
  omega
theorem own_Dk (p0 : Int32) : own_D (w0_6 p0) (p0 &&& (1023 : Int32)).toInt.toNat (-2) := by
  have h := own_bK p0
  exact own_q4 (own_i2d _ h.1) (by omega)
theorem own_Db (p1 : Int32) : own_D (w0_5 p1) (w0_1 p1).toInt.toNat (-2) := by
  have h := own_bB p1
  exact own_q4 (own_i2d _ h.1) (by omega)
theorem own_Dr (p2 : Int32) : own_D (w0_7 p2) (w0_2 p2).toInt.toNat (-2) := by
  have h := own_bR p2
  exact own_q4 (own_i2d _ (by omega)) (by omega)
theorem own_Dc (p3 : Int32) : own_D (FP.i2d (((w0_3 p3).toInt64).toInt32)) (w0_3 p3).toInt.toNat 0 := by
  rw [own_c32]
  exact own_i2d _ (by have := own_bC p3; omega)
theorem own_n44 (p0 : Int32) : Jvm.Free.Fl.NoNaN64 (FP.ddiv (w0_4 p0) (4616189618054758400 : UInt64)) := own_no (own_Dk p0)
theorem own_n51 (p1 : Int32) : Jvm.Free.Fl.NoNaN64 (FP.ddiv (FP.i2d (w0_1 p1)) (4616189618054758400 : UInt64)) := own_no (own_Db p1)
theorem own_n69 (p2 : Int32) : Jvm.Free.Fl.NoNaN64 (FP.ddiv (FP.i2d (w0_2 p2)) (4616189618054758400 : UInt64)) := own_no (own_Dr p2)
theorem own_c7 (p0 p1 : Int32) : ¬ (cmpValue (FP.dcmp (w0_6 p0) (0 : UInt64)) .l) < 0 := by
  have h := own_bK p0
  exact own_ge (own_Dk p0) (own_zero _) (by omega) (by decide) (by decide) (by decide) (Nat.zero_le _)
theorem own_c15 (p0 p1 : Int32) : (cmpValue (FP.dcmp (w0_6 p0) (9218868437227405312 : UInt64)) .g) < 0 := by
  have h := own_bK p0
  exact own_inf (own_Dk p0) (by omega) (by decide) (by decide)
theorem own_c35 (p0 p1 : Int32) : ¬ (cmpValue (FP.dcmp (w0_5 p1) (0 : UInt64)) .l) < 0 := by
  have h := own_bB p1
  exact own_ge (own_Db p1) (own_zero _) (by omega) (by decide) (by decide) (by decide) (Nat.zero_le _)
theorem own_c41 (p0 p1 : Int32) : ¬ 0 < (cmpValue (FP.dcmp (w0_5 p1) (4607182418800017408 : UInt64)) .g) := by
  have h := own_bB p1
  exact own_le (own_Db p1) own_one (by omega) (by decide) (by decide) (by decide) (by omega)
theorem own_c62 (p0 p1 : Int32) : ¬ (cmpValue (FP.dcmp (0 : UInt64) (0 : UInt64)) .l) < 0 := own_ge (own_zero 0) (own_zero 0) (by decide) (by decide) (by decide) (by decide) (by decide)
theorem own_c71 (p0 p1 : Int32) : (cmpValue (FP.dcmp (0 : UInt64) (9218868437227405312 : UInt64)) .g) < 0 := own_inf (own_zero 0) (by decide) (by decide) (by decide)
theorem own_all (p0 p1 p2 p3 : Int32) (K B R C : Nat) (hK : K < 1024) (hB : B ≤ 4) (hR : R ≤ 1048576) (hC : C < 2147483648) (h1 : 1 ≤ C) (zk zb d2 ci : UInt64) (dk : own_D zk K (-2)) (db : own_D zb B (-2)) (dr : own_D d2 R (-2)) (dc : own_D ci C 0) :
    own_D (FP.dadd zk (4607182418800017408 : UInt64)) (K + 4) (-2) ∧ own_D (FP.dmul (FP.dadd zk (4607182418800017408 : UInt64)) ci) ((K + 4) * C) (-2) ∧ own_D (FP.dsub (4607182418800017408 : UInt64) zb) (4 - B) (-2) ∧ own_D (FP.dmul zb d2) (B * R) (-4) ∧
    own_D (FP.dadd (FP.dsub (4607182418800017408 : UInt64) zb) (FP.dmul zb d2)) ((4 - B) * 4 + B * R) (-4) ∧ own_D (FP.dmul zk (FP.dadd (FP.dsub (4607182418800017408 : UInt64) zb) (FP.dmul zb d2))) (K * ((4 - B) * 4 + B * R)) (-6) ∧
    own_D (FP.dadd (FP.dmul zk (FP.dadd (FP.dsub (4607182418800017408 : UInt64) zb) (FP.dmul zb d2))) ci) (K * ((4 - B) * 4 + B * R) + C * 64) (-6) ∧
    FP.Core.val64 (FP.ddiv (FP.dmul (FP.dadd zk (4607182418800017408 : UInt64)) ci) (FP.dadd (FP.dmul zk (FP.dadd (FP.dsub (4607182418800017408 : UInt64) zb) (FP.dmul zb d2))) ci)) = FP.Core.roundRatio FP.Core.b64 false ((K + 4) * C) (K * ((4 - B) * 4 + B * R) + C * 64) 4 := by
  have m1 : B * R ≤ 4 * 1048576 := Nat.mul_le_mul hB hR
  have m2 : (K + 4) * C ≤ 1028 * 2147483648 := Nat.mul_le_mul (by omega) (by omega)
  have m3 : K * ((4 - B) * 4 + B * R) ≤ 1024 * 4194320 := Nat.mul_le_mul (by omega) (by omega)
  have w5 := own_dadd dk own_one (by omega) (by decide) (by decide) (by decide)
  have w8 := own_conv (own_dmul w5 dc (by omega) (by omega) (by decide) (by decide) (by decide) (by decide)) rfl (show (-2 : Int) + 0 = -2 from rfl)
  have w18 := own_dsub own_one db (by decide) hB (by decide) (by decide)
  have w24 := own_conv (own_dmul db dr (by omega) (by omega) (by decide) (by decide) (by decide) (by decide)) rfl (show (-2 : Int) + -2 = -4 from rfl)
  have w18' := own_conv (own_shift 2 w18) (show (4 - B) * 2 ^ 2 = (4 - B) * 4 from rfl) (show (-2 : Int) - ((2 : Nat) : Int) = -4 from rfl)
  have w25 := own_dadd w18' w24 (by omega) (by omega) (by decide) (by decide)
  have w26 := own_conv (own_dmul dk w25 (by omega) (by omega) (by decide) (by decide) (by decide) (by decide)) rfl (show (-2 : Int) + -4 = -6 from rfl)
  have dc' := own_conv (own_shift 6 dc) (show C * 2 ^ 6 = C * 64 from rfl) (show (0 : Int) - ((6 : Nat) : Int) = -6 from rfl)
  have w29 := own_dadd w26 dc' (by omega) (by omega) (by decide) (by decide)
  have w30 := own_ddiv w8 w29 (by omega) (by omega) (by omega) (by decide) (by decide) (by decide) (by decide)
  exact ⟨w5, w8, w18, w24, w25, w26, w29, w30.trans (congrArg (FP.Core.roundRatio FP.Core.b64 false ((K + 4) * C) (K * ((4 - B) * 4 + B * R) + C * 64)) (show (-2 : Int) - -6 = 4 from rfl))⟩
theorem own_w5 (p0 p1 p2 p3 : Int32) : Jvm.Free.Fl.NoNaN64 (FP.dadd (w0_6 p0) (4607182418800017408 : UInt64)) := own_no (own_all p0 p1 p2 p3 (p0 &&& (1023 : Int32)).toInt.toNat (w0_1 p1).toInt.toNat (w0_2 p2).toInt.toNat (w0_3 p3).toInt.toNat (by have := own_bK p0; omega) (by have := own_bB p1; omega) (by have := own_bR p2; omega) (by have := own_bC p3; omega) (by have := own_bC p3; omega) (w0_6 p0) (w0_5 p1) (w0_7 p2) (FP.i2d (((w0_3 p3).toInt64).toInt32)) (own_Dk p0) (own_Db p1) (own_Dr p2) (own_Dc p3)).1
theorem own_w8 (p0 p1 p2 p3 : Int32) : Jvm.Free.Fl.NoNaN64 (FP.dmul (FP.dadd (w0_6 p0) (4607182418800017408 : UInt64)) (FP.i2d (((w0_3 p3).toInt64).toInt32))) := own_no (own_all p0 p1 p2 p3 (p0 &&& (1023 : Int32)).toInt.toNat (w0_1 p1).toInt.toNat (w0_2 p2).toInt.toNat (w0_3 p3).toInt.toNat (by have := own_bK p0; omega) (by have := own_bB p1; omega) (by have := own_bR p2; omega) (by have := own_bC p3; omega) (by have := own_bC p3; omega) (w0_6 p0) (w0_5 p1) (w0_7 p2) (FP.i2d (((w0_3 p3).toInt64).toInt32)) (own_Dk p0) (own_Db p1) (own_Dr p2) (own_Dc p3)).2.1
theorem own_w18 (p0 p1 p2 p3 : Int32) : Jvm.Free.Fl.NoNaN64 (FP.dsub (4607182418800017408 : UInt64) (w0_5 p1)) := own_no (own_all p0 p1 p2 p3 (p0 &&& (1023 : Int32)).toInt.toNat (w0_1 p1).toInt.toNat (w0_2 p2).toInt.toNat (w0_3 p3).toInt.toNat (by have := own_bK p0; omega) (by have := own_bB p1; omega) (by have := own_bR p2; omega) (by have := own_bC p3; omega) (by have := own_bC p3; omega) (w0_6 p0) (w0_5 p1) (w0_7 p2) (FP.i2d (((w0_3 p3).toInt64).toInt32)) (own_Dk p0) (own_Db p1) (own_Dr p2) (own_Dc p3)).2.2.1
theorem own_w24 (p0 p1 p2 p3 : Int32) : Jvm.Free.Fl.NoNaN64 (FP.dmul (w0_5 p1) (w0_7 p2)) := own_no (own_all p0 p1 p2 p3 (p0 &&& (1023 : Int32)).toInt.toNat (w0_1 p1).toInt.toNat (w0_2 p2).toInt.toNat (w0_3 p3).toInt.toNat (by have := own_bK p0; omega) (by have := own_bB p1; omega) (by have := own_bR p2; omega) (by have := own_bC p3; omega) (by have := own_bC p3; omega) (w0_6 p0) (w0_5 p1) (w0_7 p2) (FP.i2d (((w0_3 p3).toInt64).toInt32)) (own_Dk p0) (own_Db p1) (own_Dr p2) (own_Dc p3)).2.2.2.1
theorem own_w25 (p0 p1 p2 p3 : Int32) : Jvm.Free.Fl.NoNaN64 (FP.dadd (FP.dsub (4607182418800017408 : UInt64) (w0_5 p1)) (FP.dmul (w0_5 p1) (w0_7 p2))) := own_no (own_all p0 p1 p2 p3 (p0 &&& (1023 : Int32)).toInt.toNat (w0_1 p1).toInt.toNat (w0_2 p2).toInt.toNat (w0_3 p3).toInt.toNat (by have := own_bK p0; omega) (by have := own_bB p1; omega) (by have := own_bR p2; omega) (by have := own_bC p3; omega) (by have := own_bC p3; omega) (w0_6 p0) (w0_5 p1) (w0_7 p2) (FP.i2d (((w0_3 p3).toInt64).toInt32)) (own_Dk p0) (own_Db p1) (own_Dr p2) (own_Dc p3)).2.2.2.2.1
theorem own_w26 (p0 p1 p2 p3 : Int32) : Jvm.Free.Fl.NoNaN64 (FP.dmul (w0_6 p0) (FP.dadd (FP.dsub (4607182418800017408 : UInt64) (w0_5 p1)) (FP.dmul (w0_5 p1) (w0_7 p2)))) := own_no (own_all p0 p1 p2 p3 (p0 &&& (1023 : Int32)).toInt.toNat (w0_1 p1).toInt.toNat (w0_2 p2).toInt.toNat (w0_3 p3).toInt.toNat (by have := own_bK p0; omega) (by have := own_bB p1; omega) (by have := own_bR p2; omega) (by have := own_bC p3; omega) (by have := own_bC p3; omega) (w0_6 p0) (w0_5 p1) (w0_7 p2) (FP.i2d (((w0_3 p3).toInt64).toInt32)) (own_Dk p0) (own_Db p1) (own_Dr p2) (own_Dc p3)).2.2.2.2.2.1
theorem own_w29 (p0 p1 p2 p3 : Int32) : Jvm.Free.Fl.NoNaN64 (FP.dadd (FP.dmul (w0_6 p0) (FP.dadd (FP.dsub (4607182418800017408 : UInt64) (w0_5 p1)) (FP.dmul (w0_5 p1) (w0_7 p2)))) (FP.i2d (((w0_3 p3).toInt64).toInt32))) := own_no (own_all p0 p1 p2 p3 (p0 &&& (1023 : Int32)).toInt.toNat (w0_1 p1).toInt.toNat (w0_2 p2).toInt.toNat (w0_3 p3).toInt.toNat (by have := own_bK p0; omega) (by have := own_bB p1; omega) (by have := own_bR p2; omega) (by have := own_bC p3; omega) (by have := own_bC p3; omega) (w0_6 p0) (w0_5 p1) (w0_7 p2) (FP.i2d (((w0_3 p3).toInt64).toInt32)) (own_Dk p0) (own_Db p1) (own_Dr p2) (own_Dc p3)).2.2.2.2.2.2.1
theorem own_w30 (p0 p1 p2 p3 : Int32) : Jvm.Free.Fl.NoNaN64 (FP.ddiv (FP.dmul (FP.dadd (w0_6 p0) (4607182418800017408 : UInt64)) (FP.i2d (((w0_3 p3).toInt64).toInt32))) (FP.dadd (FP.dmul (w0_6 p0) (FP.dadd (FP.dsub (4607182418800017408 : UInt64) (w0_5 p1)) (FP.dmul (w0_5 p1) (w0_7 p2)))) (FP.i2d (((w0_3 p3).toInt64).toInt32)))) := own_no (own_all p0 p1 p2 p3 (p0 &&& (1023 : Int32)).toInt.toNat (w0_1 p1).toInt.toNat (w0_2 p2).toInt.toNat (w0_3 p3).toInt.toNat (by have := own_bK p0; omega) (by have := own_bB p1; omega) (by have := own_bR p2; omega) (by have := own_bC p3; omega) (by have := own_bC p3; omega) (w0_6 p0) (w0_5 p1) (w0_7 p2) (FP.i2d (((w0_3 p3).toInt64).toInt32)) (own_Dk p0) (own_Db p1) (own_Dr p2) (own_Dc p3)).2.2.2.2.2.2.2
theorem own_val (p0 p1 p2 p3 : Int32) : FP.Core.val64 (w0_8 p0 p1 p2 p3) = FP.Core.roundRatio FP.Core.b64 false (((p0 &&& (1023 : Int32)).toInt.toNat + 4) * (w0_3 p3).toInt.toNat) ((p0 &&& (1023 : Int32)).toInt.toNat * ((4 - (w0_1 p1).toInt.toNat) * 4 + (w0_1 p1).toInt.toNat * (w0_2 p2).toInt.toNat) + (w0_3 p3).toInt.toNat * 64) 4 := (own_all p0 p1 p2 p3 (p0 &&& (1023 : Int32)).toInt.toNat (w0_1 p1).toInt.toNat (w0_2 p2).toInt.toNat (w0_3 p3).toInt.toNat (by have := own_bK p0; omega) (by have := own_bB p1; omega) (by have := own_bR p2; omega) (by have := own_bC p3; omega) (by have := own_bC p3; omega) (w0_6 p0) (w0_5 p1) (w0_7 p2) (FP.i2d (((w0_3 p3).toInt64).toInt32)) (own_Dk p0) (own_Db p1) (own_Dr p2) (own_Dc p3)).2.2.2.2.2.2.2
theorem own_lm (a b : Int64) (A B : Int) (h1 : 0 ≤ a.toInt) (h2 : a.toInt ≤ A) (h3 : 0 ≤ b.toInt) (h4 : b.toInt ≤ B) (h5 : A * B < 9223372036854775808) : (a * b).toInt = a.toInt * b.toInt ∧ 0 ≤ a.toInt * b.toInt ∧ a.toInt * b.toInt ≤ A * B := by
  have c := c_lmul a b
  have r := rng64 (a * b)
  have p1 : 0 ≤ a.toInt * b.toInt := Int.mul_nonneg h1 h3
  have p2 : a.toInt * b.toInt ≤ A * B := Int.mul_le_mul h2 h4 h3 (by omega)
  refine ⟨?_, p1, p2⟩
  omega
theorem own_num (p0 p3 : Int32) : (w0_9 p0 p3).toInt = 16 * ((p0 &&& (1023 : Int32)).toInt + 4) * (w0_3 p3).toInt := by
  have hK := own_bK p0
  have hC := own_bC p3
  have l16 : (16 : Int64).toInt = 16 := rfl
  have l4 : (4 : Int32).toInt = 4 := rfl
  have a := c_iadd (p0 &&& 1023) 4
  have r := rng32 ((p0 &&& 1023) + 4)
  have e1 : ((p0 &&& (1023 : Int32)) + 4).toInt64.toInt = (p0 &&& (1023 : Int32)).toInt + 4 := by rw [c_i2l]; omega
  have e2 := c_i2l (w0_3 p3)
  have m1 := own_lm 16 ((p0 &&& (1023 : Int32)) + 4).toInt64 16 1028 (by omega) (by omega) (by omega) (by omega) (by decide)
  have m2 := own_lm ((16 : Int64) * ((p0 &&& (1023 : Int32)) + 4).toInt64) (w0_3 p3).toInt64 (16 * 1028) 2147483648 (by omega) (by omega) (by omega) (by omega) (by decide)
  unfold w0_9
  rw [m2.1, m1.1, l16, e1, e2]
theorem own_den (p0 p1 p2 p3 : Int32) : (w0_10 p0 p1 p2 p3).toInt = (p0 &&& (1023 : Int32)).toInt * ((4 - (w0_1 p1).toInt) * 4 + (w0_1 p1).toInt * (w0_2 p2).toInt) + (w0_3 p3).toInt * 64 := by
  have hK := own_bK p0
  have hB := own_bB p1
  have hR := own_bR p2
  have hC := own_bC p3
  have l16 : (16 : Int64).toInt = 16 := rfl
  have l4 : (4 : Int64).toInt = 4 := rfl
  have l64 : (64 : Int64).toInt = 64 := rfl
  have ek := c_i2l (p0 &&& (1023 : Int32))
  have eb := c_i2l (w0_1 p1)
  have er := c_i2l (w0_2 p2)
  have ec := c_i2l (w0_3 p3)
  have m1 := own_lm 4 (w0_1 p1).toInt64 4 4 (by omega) (by omega) (by omega) (by omega) (by decide)
  have s1 := c_lsub 16 ((4 : Int64) * (w0_1 p1).toInt64)
  have r1 := rng64 ((16 : Int64) - (4 : Int64) * (w0_1 p1).toInt64)
  have m2 := own_lm (w0_1 p1).toInt64 (w0_2 p2).toInt64 4 1048576 (by omega) (by omega) (by omega) (by omega) (by decide)
  have s2 := c_ladd ((16 : Int64) - (4 : Int64) * (w0_1 p1).toInt64) ((w0_1 p1).toInt64 * (w0_2 p2).toInt64)
  have r2 := rng64 ((16 : Int64) - (4 : Int64) * (w0_1 p1).toInt64 + (w0_1 p1).toInt64 * (w0_2 p2).toInt64)
  have v2 : ((16 : Int64) - (4 : Int64) * (w0_1 p1).toInt64 + (w0_1 p1).toInt64 * (w0_2 p2).toInt64).toInt = (4 - (w0_1 p1).toInt) * 4 + (w0_1 p1).toInt * (w0_2 p2).toInt := by
    rw [eb, er] at m2
    rw [l4, eb] at m1
    omega
  have m3 := own_lm (p0 &&& (1023 : Int32)).toInt64 ((16 : Int64) - (4 : Int64) * (w0_1 p1).toInt64 + (w0_1 p1).toInt64 * (w0_2 p2).toInt64) 1024 4194320 (by omega) (by omega) (by rw [eb, er] at m2; omega) (by rw [eb, er] at m2; omega) (by decide)
  have m4 := own_lm 64 (w0_3 p3).toInt64 64 2147483648 (by omega) (by omega) (by omega) (by omega) (by decide)
  have s3 := c_ladd ((p0 &&& (1023 : Int32)).toInt64 * ((16 : Int64) - (4 : Int64) * (w0_1 p1).toInt64 + (w0_1 p1).toInt64 * (w0_2 p2).toInt64)) ((64 : Int64) * (w0_3 p3).toInt64)
  have r3 := rng64 ((p0 &&& (1023 : Int32)).toInt64 * ((16 : Int64) - (4 : Int64) * (w0_1 p1).toInt64 + (w0_1 p1).toInt64 * (w0_2 p2).toInt64) + (64 : Int64) * (w0_3 p3).toInt64)
  unfold w0_10
  rw [v2, ek] at m3
  rw [l64, ec] at m4
  rw [← v2]
  rw [← v2] at m3
  omega
theorem own_ref (p0 p1 p2 p3 : Int32) : FP.Core.val64 (w0_11 p0 p1 p2 p3) = FP.Core.roundRatio FP.Core.b64 false (w0_9 p0 p3).toInt.toNat (w0_10 p0 p1 p2 p3).toInt.toNat 0 ∧ (w0_9 p0 p3).toInt.toNat = 16 * (((p0 &&& (1023 : Int32)).toInt.toNat + 4) * (w0_3 p3).toInt.toNat) ∧ (w0_10 p0 p1 p2 p3).toInt.toNat = (p0 &&& (1023 : Int32)).toInt.toNat * ((4 - (w0_1 p1).toInt.toNat) * 4 + (w0_1 p1).toInt.toNat * (w0_2 p2).toInt.toNat) + (w0_3 p3).toInt.toNat * 64 := by
  have hK := own_bK p0
  have hB := own_bB p1
  have hR := own_bR p2
  have hC := own_bC p3
  have n := own_num p0 p3
  have d := own_den p0 p1 p2 p3
  obtain ⟨K, eK⟩ : ∃ K : Nat, (p0 &&& (1023 : Int32)).toInt = (K : Int) := ⟨_, (Int.toNat_of_nonneg hK.1).symm⟩
  obtain ⟨B, eB⟩ : ∃ B : Nat, (w0_1 p1).toInt = (B : Int) := ⟨_, (Int.toNat_of_nonneg hB.1).symm⟩
  obtain ⟨R, eR⟩ : ∃ R : Nat, (w0_2 p2).toInt = (R : Int) := ⟨_, (Int.toNat_of_nonneg (by omega)).symm⟩
  obtain ⟨C, eC⟩ : ∃ C : Nat, (w0_3 p3).toInt = (C : Int) := ⟨_, (Int.toNat_of_nonneg (by omega)).symm⟩
  rw [eK, eC] at n
  rw [eK, eB, eR, eC] at d
  rw [eK] at hK
  rw [eB] at hB
  rw [eR] at hR
  rw [eC] at hC
  rw [eK, eB, eR, eC, Int.toNat_natCast, Int.toNat_natCast, Int.toNat_natCast, Int.toNat_natCast]
  have en : (w0_9 p0 p3).toInt = ((16 * ((K + 4) * C) : Nat) : Int) := by
    rw [n, Int.mul_assoc]
    push_cast
    rfl
  have ed : (w0_10 p0 p1 p2 p3).toInt = ((K * ((4 - B) * 4 + B * R) + C * 64 : Nat) : Int) := by
    rw [d, show ((4 : Int) - (B : Int)) = ((4 - B : Nat) : Int) by omega]
    push_cast
    rfl
  have m1 : B * R ≤ 4 * 1048576 := Nat.mul_le_mul (by omega) (by omega)
  have m2 : (K + 4) * C ≤ 1028 * 2147483648 := Nat.mul_le_mul (by omega) (by omega)
  have m3 : K * ((4 - B) * 4 + B * R) ≤ 1024 * 4194320 := Nat.mul_le_mul (by omega) (by omega)
  refine ⟨?_, by rw [en, Int.toNat_natCast], by rw [ed, Int.toNat_natCast]⟩
  unfold w0_11
  have q := own_ddiv (own_l2d (w0_9 p0 p3) (by rw [en]; omega)) (own_l2d (w0_10 p0 p1 p2 p3) (by rw [ed]; omega)) (by rw [en, Int.toNat_natCast]; omega) (by rw [ed, Int.toNat_natCast]; omega) (by rw [ed, Int.toNat_natCast]; omega) (by decide) (by decide) (by decide) (by decide)
  exact q
theorem own_n127 (p0 p1 p2 p3 : Int32) : Jvm.Free.Fl.NoNaN64 (FP.ddiv (FP.l2d (w0_9 p0 p3)) (FP.l2d (w0_10 p0 p1 p2 p3))) := own_no (own_ref p0 p1 p2 p3).1
theorem plain_law (p0 p1 p2 p3 : Int32) : w0_r13 p0 p1 p2 p3 = 1 := by
  have a := own_val p0 p1 p2 p3
  obtain ⟨b, e1, e2⟩ := own_ref p0 p1 p2 p3
  have hC := own_bC p3
  have h : FP.Core.val64 (w0_8 p0 p1 p2 p3) = FP.Core.val64 (w0_11 p0 p1 p2 p3) := by
    rw [a, b, e1, e2]
    refine FP.Core.roundRatio_congr (by omega) (by omega) ?_
    show _ * _ * 2 ^ 4 = _ * _ * 2 ^ 0
    rw [Nat.mul_assoc 16, Nat.pow_zero, Nat.mul_one, Nat.mul_comm]
  have z : w0_12 p0 p1 p2 p3 = 0 := by
    unfold w0_12
    show cmpValue (FP.Core.order (FP.Core.val64 (w0_8 p0 p1 p2 p3)) (FP.Core.val64 (w0_11 p0 p1 p2 p3))) .l = 0
    rw [← h, FP.Core.order_self (by rw [a]; exact FP.Core.roundRatio_ne_nan _ _ _ _ _)]
    rfl
  unfold w0_r13
  rw [z]
  decide

theorem d1_0 : decode jdk_29_method_65_code 0 = .ok (.iload_n 0, 1) := by decide +kernel
theorem d1_1 : decode jdk_29_method_65_code 1 = .ok (.iload_n 1, 1) := by decide +kernel
theorem d1_2 : decode jdk_29_method_65_code 2 = .ok (.if_icmp .lt 7, 3) := by decide +kernel
theorem d1_5 : decode jdk_29_method_65_code 5 = .ok (.iload_n 0, 1) := by decide +kernel
theorem d1_6 : decode jdk_29_method_65_code 6 = .ok (.goto 4, 3) := by decide +kernel
theorem d1_9 : decode jdk_29_method_65_code 9 = .ok (.iload_n 1, 1) := by decide +kernel
theorem d1_10 : decode jdk_29_method_65_code 10 = .ok (.ireturn, 1) := by decide +kernel
theorem ef1 (m : MethodId) (p0 : Int32) (p1 : Int32) : entryFrame m #[(.int p0), (.int p1)] 2 = mkF m 0 #[.val (.int p0), .val (.int p1)] [] := by first | (simp [entryFrame, mkF, argsToLocals, Value.category]; done) | rfl
def Q1 (Z : State) (p0 : Int32) (p1 : Int32) (h0 : Heap) (n0 : Nat) (v : Option Value) (h : Heap) (L : List Loc) : Prop := v = some (.int (w1_r1 p0 p1)) ∧ Fr n0 L ∧ h = h0
set_option maxRecDepth 65536 in
set_option maxHeartbeats 40000000 in
theorem rm1 (l : Launch) (Z : State) (a0 : Array Value) (hw : ∀ d ∈ tables_1, d.before a0 Z = true) (ws : List Jvm.Cond) (p0 : Int32) (p1 : Int32) (h0 : Heap) (n0 : Nat) (Z0 : n0 ≤ h0.size) :
    MetFree l (⟨"java/lang/Math", "max", "(II)I"⟩ : MethodName) (head1 (Jvm.Cond.code (⟨"java/lang/Math", "max", "(II)I"⟩ : MethodName) jdk_29_method_65_code 2 (some .int) :: ws) ({ frames := 0, cells := 0, slots := 0, locals := 0 } : Room)) (fun a U => a = #[(.int p0), (.int p1)] ∧ Z.Warmed39 U.vm ∧ U.heap = h0) (fun _ _ _ _ _ => True) (fun _ U o U' => ∃ v L, o = .returned v ∧ Q1 Z p0 p1 h0 n0 v U'.heap L ∧ FrameEnd U o U' L ({ frames := 0, cells := 0, slots := 0, locals := 0 } : Room).cells ({ frames := 0, cells := 0, slots := 0, locals := 0 } : Room).slots) := by
  refine MetFree.of_bodySF (Jvm.Free.JP.mathPlain rfl (by decide +kernel)) hisR ?_
  intro p e s m args below meth c s₁ Bd hml0 hP hK
  obtain ⟨rfl, hZ, hh⟩ := hP
  have hlk : meth.locks = false := BodyLoose.notSynchronized Bd
  have hx := Bd.exec
  have hby := Bd.bytes
  have hml : c.maxLocals = 2 := hml0
  have hown : s.vm.findClass "java/lang/Math" = some m.cls := findClass_of_methodNamed Bd.named
  have hnm := (name_of_methodNamed Bd.named Bd.method).1
  have X0 : Stand p l e ({ frames := 0, cells := 0, slots := 0, locals := 0 } : Room) s m #[(.int p0), (.int p1)] below meth c s₁ [] 0 0 := Stand.of_body Bd
  have e0 : s₁.heap = h0 := by rw [← hh, Bd.state]; rfl
  have N0 := Fr.nil n0
  obtain ⟨S0, hS0⟩ : ∃ S0, S0 = s₁.setTop (entryFrame m #[(.int p0), (.int p1)] 2) := ⟨_, rfl⟩
  have pre0 : ∀ t, Steps p.tables e below (s₁.setTop (mkF m 0 #[.val (.int p0), .val (.int p1)] [])) t → Steps p.tables e below S0 t := fun t k => by rw [hS0]; exact castTop (ef1 m p0 p1) k
  have K1 : ∀ t, Steps p.tables e below (s₁.setTop (mkF m 2 #[.val (.int p0), .val (.int p1)] [(.int p1), (.int p0)])) t → Steps p.tables e below S0 t := fun t k => pre0 t (by
    refine XS.iloadN X0.here hx rfl (hb hby d1_0) rfl ?_
    show Steps p.tables e below (s₁.setTop (mkF m 1 #[.val (.int p0), .val (.int p1)] [(.int p0)])) _
    refine XS.iloadN X0.here hx rfl (hb hby d1_1) rfl ?_
    show Steps p.tables e below (s₁.setTop (mkF m 2 #[.val (.int p0), .val (.int p1)] [(.int p1), (.int p0)])) _
    exact k)
  by_cases hc2_0 : p0 < p1
  · -- yes
    have K2 : ∀ t, Steps p.tables e below (s₁.setTop (mkF m 10 #[.val (.int p0), .val (.int p1)] [(.int p1)])) t → Steps p.tables e below S0 t := fun t k => K1 t (by
      refine XS.icmpYes X0.here hx rfl (pc0 := 2) (pc' := 9) rfl (hb hby d1_2) rfl (XT.ii_lt_t hc2_0) (by decide) (by decide) ?_
      show Steps p.tables e below (s₁.setTop (mkF m 9 #[.val (.int p0), .val (.int p1)] [])) _
      refine XS.iloadN X0.here hx rfl (hb hby d1_9) rfl ?_
      show Steps p.tables e below (s₁.setTop (mkF m 10 #[.val (.int p0), .val (.int p1)] [(.int p1)])) _
      exact k)
    obtain ⟨fs, hr, hrun, hended, hW, hsame⟩ := X0.leave (v := some (.int p1)) (fun h => by rw [Bd.returns] at h; cases h) hlk
    refine ⟨_, _, ?_, hrun, hended, _, _, rfl, ?_, ⟨_, rfl⟩, hW, hsame.mono (by decide) (by decide)⟩
    · rw [← hS0]; exact K2 _ (retI X0 hx Bd.returns (hb hby d1_10) hr)
    · show Q1 Z p0 p1 h0 n0 _ s₁.heap _
      rw [e0]
      have qr : p1 = (w1_r1 p0 p1) := by unfold w1_r1; rw [if_pos hc2_0]
      exact ⟨congrArg (fun z => some (Value.int z)) qr, N0, rfl⟩
  · -- no
    have K3 : ∀ t, Steps p.tables e below (s₁.setTop (mkF m 10 #[.val (.int p0), .val (.int p1)] [(.int p0)])) t → Steps p.tables e below S0 t := fun t k => K1 t (by
      refine XS.icmpNo X0.here hx rfl (hb hby d1_2) rfl (XT.ii_lt_f hc2_0) ?_
      show Steps p.tables e below (s₁.setTop (mkF m 5 #[.val (.int p0), .val (.int p1)] [])) _
      refine XS.iloadN X0.here hx rfl (hb hby d1_5) rfl ?_
      show Steps p.tables e below (s₁.setTop (mkF m 6 #[.val (.int p0), .val (.int p1)] [(.int p0)])) _
      refine XS.goto X0.here hx rfl (pc0 := 6) (pc' := 10) rfl (hb hby d1_6) (by decide) (by decide) ?_
      show Steps p.tables e below (s₁.setTop (mkF m 10 #[.val (.int p0), .val (.int p1)] [(.int p0)])) _
      exact k)
    obtain ⟨fs, hr, hrun, hended, hW, hsame⟩ := X0.leave (v := some (.int p0)) (fun h => by rw [Bd.returns] at h; cases h) hlk
    refine ⟨_, _, ?_, hrun, hended, _, _, rfl, ?_, ⟨_, rfl⟩, hW, hsame.mono (by decide) (by decide)⟩
    · rw [← hS0]; exact K3 _ (retI X0 hx Bd.returns (hb hby d1_10) hr)
    · show Q1 Z p0 p1 h0 n0 _ s₁.heap _
      rw [e0]
      have qr : p0 = (w1_r1 p0 p1) := by unfold w1_r1; rw [if_neg hc2_0]
      exact ⟨congrArg (fun z => some (Value.int z)) qr, N0, rfl⟩
theorem d2_0 : decode prog_65_method_1_code 0 = .ok (.aload_n 0, 1) := by decide +kernel
theorem d2_1 : decode prog_65_method_1_code 1 = .ok (.invokespecial 1, 3) := by decide +kernel
theorem d2_4 : decode prog_65_method_1_code 4 = .ok (.return_, 1) := by decide +kernel
theorem pn2 : plainName "com/example/starling/starling/model/TermWeightingModel" = true := by first | (simp [plainName, overriddenIn]; done) | decide +kernel
theorem ef2 (m : MethodId) (o0 : Addr) : entryFrame m #[(.ref o0)] 1 = mkF m 0 #[.val (.ref o0)] [] := by first | (simp [entryFrame, mkF, argsToLocals, Value.category]; done) | rfl
def Q2 (Z : State) (o0 : Addr) (h0 : Heap) (n0 : Nat) (v : Option Value) (h : Heap) (L : List Loc) : Prop := v = none ∧ Fr n0 L ∧ h = h0
set_option maxRecDepth 65536 in
set_option maxHeartbeats 40000000 in
theorem rm2 (l : Launch) (Z : State) (a0 : Array Value) (hw : ∀ d ∈ tables_1, d.before a0 Z = true) (ws : List Jvm.Cond) (o0 : Addr) (h0 : Heap) (n0 : Nat) (Z0 : n0 ≤ h0.size) :
    MetFree l (⟨"com/example/starling/starling/model/TermWeightingModel", "<init>", "()V"⟩ : MethodName) (head1 (Jvm.Cond.code (⟨"com/example/starling/starling/model/TermWeightingModel", "<init>", "()V"⟩ : MethodName) prog_65_method_1_code 1 none :: ws) ({ frames := 1, cells := 0, slots := 0, locals := 12 } : Room)) (fun a U => a = #[(.ref o0)] ∧ Z.Warmed39 U.vm ∧ U.heap = h0) (fun _ _ _ _ _ => True) (fun _ U o U' => ∃ v L, o = .returned v ∧ Q2 Z o0 h0 n0 v U'.heap L ∧ FrameEnd U o U' L ({ frames := 1, cells := 0, slots := 0, locals := 12 } : Room).cells ({ frames := 1, cells := 0, slots := 0, locals := 12 } : Room).slots) := by
  refine MetFree.of_bodySF (plainFor_of_name pn2) hisR ?_
  intro p e s m args below meth c s₁ Bd hml0 hP hK
  obtain ⟨rfl, hZ, hh⟩ := hP
  have hlk : meth.locks = false := BodyLoose.notSynchronized Bd
  have hx := Bd.exec
  have hby := Bd.bytes
  have hml : c.maxLocals = 1 := hml0
  have hown : s.vm.findClass "com/example/starling/starling/model/TermWeightingModel" = some m.cls := findClass_of_methodNamed Bd.named
  have hnm := (name_of_methodNamed Bd.named Bd.method).1
  have X0 : Stand p l e ({ frames := 1, cells := 0, slots := 0, locals := 12 } : Room) s m #[(.ref o0)] below meth c s₁ [] 0 0 := Stand.of_body Bd
  have e0 : s₁.heap = h0 := by rw [← hh, Bd.state]; rfl
  have N0 := Fr.nil n0
  obtain ⟨S0, hS0⟩ : ∃ S0, S0 = s₁.setTop (entryFrame m #[(.ref o0)] 1) := ⟨_, rfl⟩
  have pre0 : ∀ t, Steps p.tables e below (s₁.setTop (mkF m 0 #[.val (.ref o0)] [])) t → Steps p.tables e below S0 t := fun t k => by rw [hS0]; exact castTop (ef2 m o0) k
  have K1 : ∀ t, Steps p.tables e below (s₁.setTop (mkF m 1 #[.val (.ref o0)] [(.ref o0)])) t → Steps p.tables e below S0 t := fun t k => pre0 t (by
    refine XS.aloadN X0.here hx rfl (hb hby d2_0) rfl rfl ?_
    show Steps p.tables e below (s₁.setTop (mkF m 1 #[.val (.ref o0)] [(.ref o0)])) _
    exact k)
  have K_2 : ∀ t, Steps p.tables e below (s₁.setTop (mkF m 1 #[.val (.ref o0)] [(.ref o0)])) t → Steps p.tables e below S0 t := K1
  obtain ⟨T3, X3, e3, st3⟩ := initO X0 hx hZ hown (hw _ (List.mem_of_getElem? (i := 18) rfl)) (hw _ (List.mem_of_getElem? (i := 19) rfl)) (hw _ (List.mem_of_getElem? (i := 20) rfl)) e0 (g := (mkF m 1 #[.val (.ref o0)] [(.ref o0)])) rfl (by rw [hml]; rfl) rfl (hb hby d2_1) (by decide) (W := 0) (by show 2 * 0 + _ ≤ _; exact Nat.le_of_eq rfl) (by decide)
  have K3 : ∀ t, Steps p.tables e below (T3.setTop (mkF m 4 #[.val (.ref o0)] [])) t → Steps p.tables e below S0 t := fun t k => K_2 t (st3 t k)
  obtain ⟨fs, hr, hrun, hended, hW, hsame⟩ := X3.leave (v := none) (fun _ => rfl) hlk
  refine ⟨_, _, ?_, hrun, hended, _, _, rfl, ?_, ⟨_, rfl⟩, hW, hsame.mono (by decide) (by decide)⟩
  · rw [← hS0]; exact K3 _ (X3.returnOut hx Bd.returns (hb hby d2_4) hr)
  · show Q2 Z o0 h0 n0 _ T3.heap _
    rw [e3]
    exact ⟨rfl, N0, rfl⟩
theorem d3_0 : decode prog_46_method_1_code 0 = .ok (.aload_n 0, 1) := by decide +kernel
theorem d3_1 : decode prog_46_method_1_code 1 = .ok (.invokespecial 1, 3) := by decide +kernel
theorem d3_4 : decode prog_46_method_1_code 4 = .ok (.dload_n 1, 1) := by decide +kernel
theorem d3_5 : decode prog_46_method_1_code 5 = .ok (.dconst 0, 1) := by decide +kernel
theorem d3_6 : decode prog_46_method_1_code 6 = .ok (.dcmp .l, 1) := by decide +kernel
theorem d3_7 : decode prog_46_method_1_code 7 = .ok (.ifCond .lt 11, 3) := by decide +kernel
theorem d3_10 : decode prog_46_method_1_code 10 = .ok (.dload_n 1, 1) := by decide +kernel
theorem d3_11 : decode prog_46_method_1_code 11 = .ok (.ldc2_w 9, 3) := by decide +kernel
theorem d3_14 : decode prog_46_method_1_code 14 = .ok (.dcmp .g, 1) := by decide +kernel
theorem d3_15 : decode prog_46_method_1_code 15 = .ok (.ifCond .lt 17, 3) := by decide +kernel
theorem d3_32 : decode prog_46_method_1_code 32 = .ok (.dload_n 3, 1) := by decide +kernel
theorem d3_33 : decode prog_46_method_1_code 33 = .ok (.dconst 0, 1) := by decide +kernel
theorem d3_34 : decode prog_46_method_1_code 34 = .ok (.dcmp .l, 1) := by decide +kernel
theorem d3_35 : decode prog_46_method_1_code 35 = .ok (.ifCond .lt 9, 3) := by decide +kernel
theorem d3_38 : decode prog_46_method_1_code 38 = .ok (.dload_n 3, 1) := by decide +kernel
theorem d3_39 : decode prog_46_method_1_code 39 = .ok (.dconst 1, 1) := by decide +kernel
theorem d3_40 : decode prog_46_method_1_code 40 = .ok (.dcmp .g, 1) := by decide +kernel
theorem d3_41 : decode prog_46_method_1_code 41 = .ok (.ifCond .le 17, 3) := by decide +kernel
theorem d3_58 : decode prog_46_method_1_code 58 = .ok (.dload 5, 2) := by decide +kernel
theorem d3_60 : decode prog_46_method_1_code 60 = .ok (.dconst 0, 1) := by decide +kernel
theorem d3_61 : decode prog_46_method_1_code 61 = .ok (.dcmp .l, 1) := by decide +kernel
theorem d3_62 : decode prog_46_method_1_code 62 = .ok (.ifCond .lt 12, 3) := by decide +kernel
theorem d3_65 : decode prog_46_method_1_code 65 = .ok (.dload 5, 2) := by decide +kernel
theorem d3_67 : decode prog_46_method_1_code 67 = .ok (.ldc2_w 9, 3) := by decide +kernel
theorem d3_70 : decode prog_46_method_1_code 70 = .ok (.dcmp .g, 1) := by decide +kernel
theorem d3_71 : decode prog_46_method_1_code 71 = .ok (.ifCond .lt 18, 3) := by decide +kernel
theorem d3_89 : decode prog_46_method_1_code 89 = .ok (.aload_n 0, 1) := by decide +kernel
theorem d3_90 : decode prog_46_method_1_code 90 = .ok (.dload_n 1, 1) := by decide +kernel
theorem d3_91 : decode prog_46_method_1_code 91 = .ok (.putfield 22, 3) := by decide +kernel
theorem d3_94 : decode prog_46_method_1_code 94 = .ok (.aload_n 0, 1) := by decide +kernel
theorem d3_95 : decode prog_46_method_1_code 95 = .ok (.dload_n 3, 1) := by decide +kernel
theorem d3_96 : decode prog_46_method_1_code 96 = .ok (.putfield 28, 3) := by decide +kernel
theorem d3_99 : decode prog_46_method_1_code 99 = .ok (.aload_n 0, 1) := by decide +kernel
theorem d3_100 : decode prog_46_method_1_code 100 = .ok (.dload 5, 2) := by decide +kernel
theorem d3_102 : decode prog_46_method_1_code 102 = .ok (.putfield 31, 3) := by decide +kernel
theorem d3_105 : decode prog_46_method_1_code 105 = .ok (.return_, 1) := by decide +kernel
theorem pn3 : plainName "com/example/starling/starling/model/Bm25" = true := by first | (simp [plainName, overriddenIn]; done) | decide +kernel
theorem pd3_0 : parseMethodDescriptor "()V" = some ⟨[], none⟩ := by decide +kernel
theorem ef3 (m : MethodId) (o0 : Addr) (d1 : UInt64) (d2 : UInt64) (d3 : UInt64) : entryFrame m #[(.ref o0), (.double d1), (.double d2), (.double d3)] 7 = mkF m 0 #[.val (.ref o0), .val (.double d1), .second, .val (.double d2), .second, .val (.double d3), .second] [] := by first | (simp [entryFrame, mkF, argsToLocals, Value.category]; done) | rfl
def Q3 (Z : State) (o0 : Addr) (d1 : UInt64) (d2 : UInt64) (d3 : UInt64) (h0 : Heap) (n0 : Nat) (v : Option Value) (h : Heap) (L : List Loc) : Prop := v = none ∧ Fr n0 L ∧ Keep h0 h [o0] ∧ Exa Z h o0 "com/example/starling/starling/model/Bm25" ∧ Fld Z h o0 "com/example/starling/starling/model/Bm25" "k1" "D" (.double d1) ∧ Fld Z h o0 "com/example/starling/starling/model/Bm25" "b" "D" (.double d2) ∧ Fld Z h o0 "com/example/starling/starling/model/Bm25" "k3" "D" (.double d3)
set_option maxRecDepth 65536 in
set_option maxHeartbeats 40000000 in
theorem rm3 (l : Launch) (Z : State) (a0 : Array Value) (hw : ∀ d ∈ tables_1, d.before a0 Z = true) (ws : List Jvm.Cond) (o0 : Addr) (d1 : UInt64) (d2 : UInt64) (d3 : UInt64) (h0 : Heap) (n0 : Nat) (Z0 : n0 ≤ h0.size) (E_o0 : Exa Z h0 o0 "com/example/starling/starling/model/Bm25") (F_o0_k1 : Fld Z h0 o0 "com/example/starling/starling/model/Bm25" "k1" "D" (.double (0 : UInt64))) (F_o0_b : Fld Z h0 o0 "com/example/starling/starling/model/Bm25" "b" "D" (.double (0 : UInt64))) (F_o0_k3 : Fld Z h0 o0 "com/example/starling/starling/model/Bm25" "k3" "D" (.double (0 : UInt64))) (g_o0 : n0 ≤ o0) (c7 : ¬ (cmpValue (FP.dcmp d1 (0 : UInt64)) .l) < 0) (c15 : (cmpValue (FP.dcmp d1 (9218868437227405312 : UInt64)) .g) < 0) (c35 : ¬ (cmpValue (FP.dcmp d2 (0 : UInt64)) .l) < 0) (c41 : ¬ 0 < (cmpValue (FP.dcmp d2 (4607182418800017408 : UInt64)) .g)) (c62 : ¬ (cmpValue (FP.dcmp d3 (0 : UInt64)) .l) < 0) (c71 : (cmpValue (FP.dcmp d3 (9218868437227405312 : UInt64)) .g) < 0) :
    MetFree l (⟨"com/example/starling/starling/model/Bm25", "<init>", "(DDD)V"⟩ : MethodName) (head1 (Jvm.Cond.code (⟨"com/example/starling/starling/model/Bm25", "<init>", "(DDD)V"⟩ : MethodName) prog_46_method_1_code 7 none :: ws) ({ frames := 2, cells := 0, slots := 0, locals := 24 } : Room)) (fun a U => a = #[(.ref o0), (.double d1), (.double d2), (.double d3)] ∧ Z.Warmed39 U.vm ∧ U.heap = h0) (fun _ _ _ _ _ => True) (fun _ U o U' => ∃ v L, o = .returned v ∧ Q3 Z o0 d1 d2 d3 h0 n0 v U'.heap L ∧ FrameEnd U o U' L ({ frames := 2, cells := 0, slots := 0, locals := 24 } : Room).cells ({ frames := 2, cells := 0, slots := 0, locals := 24 } : Room).slots) := by
  refine MetFree.of_bodySF (plainFor_of_name pn3) hisR ?_
  intro p e s m args below meth c s₁ Bd hml0 hP hK
  obtain ⟨rfl, hZ, hh⟩ := hP
  have hlk : meth.locks = false := BodyLoose.notSynchronized Bd
  have hx := Bd.exec
  have hby := Bd.bytes
  have hml : c.maxLocals = 7 := hml0
  have hown : s.vm.findClass "com/example/starling/starling/model/Bm25" = some m.cls := findClass_of_methodNamed Bd.named
  have hnm := (name_of_methodNamed Bd.named Bd.method).1
  have X0 : Stand p l e ({ frames := 2, cells := 0, slots := 0, locals := 24 } : Room) s m #[(.ref o0), (.double d1), (.double d2), (.double d3)] below meth c s₁ [] 0 0 := Stand.of_body Bd
  have e0 : s₁.heap = h0 := by rw [← hh, Bd.state]; rfl
  have N0 := Fr.nil n0
  obtain ⟨S0, hS0⟩ : ∃ S0, S0 = s₁.setTop (entryFrame m #[(.ref o0), (.double d1), (.double d2), (.double d3)] 7) := ⟨_, rfl⟩
  have pre0 : ∀ t, Steps p.tables e below (s₁.setTop (mkF m 0 #[.val (.ref o0), .val (.double d1), .second, .val (.double d2), .second, .val (.double d3), .second] [])) t → Steps p.tables e below S0 t := fun t k => by rw [hS0]; exact castTop (ef3 m o0 d1 d2 d3) k
  have K1 : ∀ t, Steps p.tables e below (s₁.setTop (mkF m 1 #[.val (.ref o0), .val (.double d1), .second, .val (.double d2), .second, .val (.double d3), .second] [(.ref o0)])) t → Steps p.tables e below S0 t := fun t k => pre0 t (by
    refine XS.aloadN X0.here hx rfl (hb hby d3_0) rfl rfl ?_
    show Steps p.tables e below (s₁.setTop (mkF m 1 #[.val (.ref o0), .val (.double d1), .second, .val (.double d2), .second, .val (.double d3), .second] [(.ref o0)])) _
    exact k)
  have K_2 : ∀ t, Steps p.tables e below (s₁.setTop (mkF m 1 #[.val (.ref o0), .val (.double d1), .second, .val (.double d2), .second, .val (.double d3), .second] [(.ref o0)])) t → Steps p.tables e below S0 t := K1
  obtain ⟨_, _, ⟨T3, L3, k3, n3⟩, -, X3, ⟨Lc3, hQ3, l3, y3, z3⟩, st3⟩ := X0.specialBack hx (y := (⟨"com/example/starling/starling/model/TermWeightingModel", "<init>", "()V"⟩ : MethodName)) rfl hown (mvT hZ (hw _ (List.mem_of_getElem? (i := 13) rfl))) (mvT hZ (hw _ (List.mem_of_getElem? (i := 14) rfl))) (mvT hZ (hw _ (List.mem_of_getElem? (i := 17) rfl))) (by decide) (backOf (W := 0) (rm2 l Z a0 hw [] o0 h0 n0 Z0 ) hZ (hw _ (List.mem_of_getElem? (i := 17) rfl)) (hw _ (List.mem_of_getElem? (i := 16) rfl)) (by decide) (by decide)) (g := (mkF m 1 #[.val (.ref o0), .val (.double d1), .second, .val (.double d2), .second, .val (.double d3), .second] [(.ref o0)])) rfl (by rw [hml]; rfl) (Steps.refl _) (a := o0) (argsL := []) (rest := []) (lenOf pd3_0 rfl) rfl (by show 2 * 0 + _ ≤ _; exact Nat.le_of_eq rfl) (hb hby d3_1) (fun _ _ => ⟨rfl, e0, (by decide : 0 + 0 ≤ 0), (by decide : 0 + 0 ≤ 0)⟩)
  dsimp only [Pt.U, Pt.locs, Pt.cells, Pt.slots] at X3 l3 y3 z3 st3 hQ3
  subst l3 y3 z3
  obtain ⟨rfl, N3q, e3⟩ := hQ3
  have N3 := Fr.app N0 N3q
  have K3 : ∀ t, Steps p.tables e below (T3.setTop (mkF m 4 #[.val (.ref o0), .val (.double d1), .second, .val (.double d2), .second, .val (.double d3), .second] [])) t → Steps p.tables e below S0 t := fun t k => K_2 t (st3.trans k)
  have K4 : ∀ t, Steps p.tables e below (T3.setTop (mkF m 7 #[.val (.ref o0), .val (.double d1), .second, .val (.double d2), .second, .val (.double d3), .second] [(.int (cmpValue (FP.dcmp d1 (0 : UInt64)) .l))])) t → Steps p.tables e below S0 t := fun t k => K3 t (by
    refine XS.dloadN X3.here hx rfl (hb hby d3_4) rfl ?_
    show Steps p.tables e below (T3.setTop (mkF m 5 #[.val (.ref o0), .val (.double d1), .second, .val (.double d2), .second, .val (.double d3), .second] [(.double d1)])) _
    refine XS.dconst0 X3.here hx rfl (hb hby d3_5) rfl ?_
    show Steps p.tables e below (T3.setTop (mkF m 6 #[.val (.ref o0), .val (.double d1), .second, .val (.double d2), .second, .val (.double d3), .second] [(.double (0 : UInt64)), (.double d1)])) _
    refine XS.dcmpS X3.here hx rfl (hb hby d3_6) rfl rfl ?_
    show Steps p.tables e below (T3.setTop (mkF m 7 #[.val (.ref o0), .val (.double d1), .second, .val (.double d2), .second, .val (.double d3), .second] [(.int (cmpValue (FP.dcmp d1 (0 : UInt64)) .l))])) _
    exact k)
  have hf5 : ¬ ((cmpValue (FP.dcmp d1 (0 : UInt64)) .l) < (0 : Int32)) := c7
  have K6 : ∀ t, Steps p.tables e below (T3.setTop (mkF m 15 #[.val (.ref o0), .val (.double d1), .second, .val (.double d2), .second, .val (.double d3), .second] [(.int (cmpValue (FP.dcmp d1 (9218868437227405312 : UInt64)) .g))])) t → Steps p.tables e below S0 t := fun t k => K4 t (by
    refine XS.ifNo X3.here hx rfl (hb hby d3_7) rfl (XT.i0_lt_f hf5) ?_
    show Steps p.tables e below (T3.setTop (mkF m 10 #[.val (.ref o0), .val (.double d1), .second, .val (.double d2), .second, .val (.double d3), .second] [])) _
    refine XS.dloadN X3.here hx rfl (hb hby d3_10) rfl ?_
    show Steps p.tables e below (T3.setTop (mkF m 11 #[.val (.ref o0), .val (.double d1), .second, .val (.double d2), .second, .val (.double d3), .second] [(.double d1)])) _
    refine X3.ldc2DoubleC hx hown (mvT hZ (hw _ (List.mem_of_getElem? (i := 21) rfl))) (g := (mkF m 11 #[.val (.ref o0), .val (.double d1), .second, .val (.double d2), .second, .val (.double d3), .second] [(.double d1)])) rfl (hb hby d3_11) _ ?_
    show Steps p.tables e below (T3.setTop (mkF m 14 #[.val (.ref o0), .val (.double d1), .second, .val (.double d2), .second, .val (.double d3), .second] [(.double (9218868437227405312 : UInt64)), (.double d1)])) _
    refine XS.dcmpS X3.here hx rfl (hb hby d3_14) rfl rfl ?_
    show Steps p.tables e below (T3.setTop (mkF m 15 #[.val (.ref o0), .val (.double d1), .second, .val (.double d2), .second, .val (.double d3), .second] [(.int (cmpValue (FP.dcmp d1 (9218868437227405312 : UInt64)) .g))])) _
    exact k)
  have hf7 : (cmpValue (FP.dcmp d1 (9218868437227405312 : UInt64)) .g) < (0 : Int32) := c15
  have K8 : ∀ t, Steps p.tables e below (T3.setTop (mkF m 35 #[.val (.ref o0), .val (.double d1), .second, .val (.double d2), .second, .val (.double d3), .second] [(.int (cmpValue (FP.dcmp d2 (0 : UInt64)) .l))])) t → Steps p.tables e below S0 t := fun t k => K6 t (by
    refine XS.ifYes X3.here hx rfl (pc0 := 15) (pc' := 32) rfl (hb hby d3_15) rfl (XT.i0_lt_t hf7) (by decide) (by decide) ?_
    show Steps p.tables e below (T3.setTop (mkF m 32 #[.val (.ref o0), .val (.double d1), .second, .val (.double d2), .second, .val (.double d3), .second] [])) _
    refine XS.dloadN X3.here hx rfl (hb hby d3_32) rfl ?_
    show Steps p.tables e below (T3.setTop (mkF m 33 #[.val (.ref o0), .val (.double d1), .second, .val (.double d2), .second, .val (.double d3), .second] [(.double d2)])) _
    refine XS.dconst0 X3.here hx rfl (hb hby d3_33) rfl ?_
    show Steps p.tables e below (T3.setTop (mkF m 34 #[.val (.ref o0), .val (.double d1), .second, .val (.double d2), .second, .val (.double d3), .second] [(.double (0 : UInt64)), (.double d2)])) _
    refine XS.dcmpS X3.here hx rfl (hb hby d3_34) rfl rfl ?_
    show Steps p.tables e below (T3.setTop (mkF m 35 #[.val (.ref o0), .val (.double d1), .second, .val (.double d2), .second, .val (.double d3), .second] [(.int (cmpValue (FP.dcmp d2 (0 : UInt64)) .l))])) _
    exact k)
  have hf9 : ¬ ((cmpValue (FP.dcmp d2 (0 : UInt64)) .l) < (0 : Int32)) := c35
  have K10 : ∀ t, Steps p.tables e below (T3.setTop (mkF m 41 #[.val (.ref o0), .val (.double d1), .second, .val (.double d2), .second, .val (.double d3), .second] [(.int (cmpValue (FP.dcmp d2 (4607182418800017408 : UInt64)) .g))])) t → Steps p.tables e below S0 t := fun t k => K8 t (by
    refine XS.ifNo X3.here hx rfl (hb hby d3_35) rfl (XT.i0_lt_f hf9) ?_
    show Steps p.tables e below (T3.setTop (mkF m 38 #[.val (.ref o0), .val (.double d1), .second, .val (.double d2), .second, .val (.double d3), .second] [])) _
    refine XS.dloadN X3.here hx rfl (hb hby d3_38) rfl ?_
    show Steps p.tables e below (T3.setTop (mkF m 39 #[.val (.ref o0), .val (.double d1), .second, .val (.double d2), .second, .val (.double d3), .second] [(.double d2)])) _
    refine XS.dconst1 X3.here hx rfl (hb hby d3_39) rfl ?_
    show Steps p.tables e below (T3.setTop (mkF m 40 #[.val (.ref o0), .val (.double d1), .second, .val (.double d2), .second, .val (.double d3), .second] [(.double (4607182418800017408 : UInt64)), (.double d2)])) _
    refine XS.dcmpS X3.here hx rfl (hb hby d3_40) rfl rfl ?_
    show Steps p.tables e below (T3.setTop (mkF m 41 #[.val (.ref o0), .val (.double d1), .second, .val (.double d2), .second, .val (.double d3), .second] [(.int (cmpValue (FP.dcmp d2 (4607182418800017408 : UInt64)) .g))])) _
    exact k)
  have hf11 : ¬ ((0 : Int32) < (cmpValue (FP.dcmp d2 (4607182418800017408 : UInt64)) .g)) := c41
  have K12 : ∀ t, Steps p.tables e below (T3.setTop (mkF m 62 #[.val (.ref o0), .val (.double d1), .second, .val (.double d2), .second, .val (.double d3), .second] [(.int (cmpValue (FP.dcmp d3 (0 : UInt64)) .l))])) t → Steps p.tables e below S0 t := fun t k => K10 t (by
    refine XS.ifYes X3.here hx rfl (pc0 := 41) (pc' := 58) rfl (hb hby d3_41) rfl (XT.i0_le_t hf11) (by decide) (by decide) ?_
    show Steps p.tables e below (T3.setTop (mkF m 58 #[.val (.ref o0), .val (.double d1), .second, .val (.double d2), .second, .val (.double d3), .second] [])) _
    refine XS.dload X3.here hx rfl (hb hby d3_58) rfl ?_
    show Steps p.tables e below (T3.setTop (mkF m 60 #[.val (.ref o0), .val (.double d1), .second, .val (.double d2), .second, .val (.double d3), .second] [(.double d3)])) _
    refine XS.dconst0 X3.here hx rfl (hb hby d3_60) rfl ?_
    show Steps p.tables e below (T3.setTop (mkF m 61 #[.val (.ref o0), .val (.double d1), .second, .val (.double d2), .second, .val (.double d3), .second] [(.double (0 : UInt64)), (.double d3)])) _
    refine XS.dcmpS X3.here hx rfl (hb hby d3_61) rfl rfl ?_
    show Steps p.tables e below (T3.setTop (mkF m 62 #[.val (.ref o0), .val (.double d1), .second, .val (.double d2), .second, .val (.double d3), .second] [(.int (cmpValue (FP.dcmp d3 (0 : UInt64)) .l))])) _
    exact k)
  have hf13 : ¬ ((cmpValue (FP.dcmp d3 (0 : UInt64)) .l) < (0 : Int32)) := c62
  have K14 : ∀ t, Steps p.tables e below (T3.setTop (mkF m 71 #[.val (.ref o0), .val (.double d1), .second, .val (.double d2), .second, .val (.double d3), .second] [(.int (cmpValue (FP.dcmp d3 (9218868437227405312 : UInt64)) .g))])) t → Steps p.tables e below S0 t := fun t k => K12 t (by
    refine XS.ifNo X3.here hx rfl (hb hby d3_62) rfl (XT.i0_lt_f hf13) ?_
    show Steps p.tables e below (T3.setTop (mkF m 65 #[.val (.ref o0), .val (.double d1), .second, .val (.double d2), .second, .val (.double d3), .second] [])) _
    refine XS.dload X3.here hx rfl (hb hby d3_65) rfl ?_
    show Steps p.tables e below (T3.setTop (mkF m 67 #[.val (.ref o0), .val (.double d1), .second, .val (.double d2), .second, .val (.double d3), .second] [(.double d3)])) _
    refine X3.ldc2DoubleC hx hown (mvT hZ (hw _ (List.mem_of_getElem? (i := 21) rfl))) (g := (mkF m 67 #[.val (.ref o0), .val (.double d1), .second, .val (.double d2), .second, .val (.double d3), .second] [(.double d3)])) rfl (hb hby d3_67) _ ?_
    show Steps p.tables e below (T3.setTop (mkF m 70 #[.val (.ref o0), .val (.double d1), .second, .val (.double d2), .second, .val (.double d3), .second] [(.double (9218868437227405312 : UInt64)), (.double d3)])) _
    refine XS.dcmpS X3.here hx rfl (hb hby d3_70) rfl rfl ?_
    show Steps p.tables e below (T3.setTop (mkF m 71 #[.val (.ref o0), .val (.double d1), .second, .val (.double d2), .second, .val (.double d3), .second] [(.int (cmpValue (FP.dcmp d3 (9218868437227405312 : UInt64)) .g))])) _
    exact k)
  have hf15 : (cmpValue (FP.dcmp d3 (9218868437227405312 : UInt64)) .g) < (0 : Int32) := c71
  have K16 : ∀ t, Steps p.tables e below (T3.setTop (mkF m 91 #[.val (.ref o0), .val (.double d1), .second, .val (.double d2), .second, .val (.double d3), .second] [(.double d1), (.ref o0)])) t → Steps p.tables e below S0 t := fun t k => K14 t (by
    refine XS.ifYes X3.here hx rfl (pc0 := 71) (pc' := 89) rfl (hb hby d3_71) rfl (XT.i0_lt_t hf15) (by decide) (by decide) ?_
    show Steps p.tables e below (T3.setTop (mkF m 89 #[.val (.ref o0), .val (.double d1), .second, .val (.double d2), .second, .val (.double d3), .second] [])) _
    refine XS.aloadN X3.here hx rfl (hb hby d3_89) rfl rfl ?_
    show Steps p.tables e below (T3.setTop (mkF m 90 #[.val (.ref o0), .val (.double d1), .second, .val (.double d2), .second, .val (.double d3), .second] [(.ref o0)])) _
    refine XS.dloadN X3.here hx rfl (hb hby d3_90) rfl ?_
    show Steps p.tables e below (T3.setTop (mkF m 91 #[.val (.ref o0), .val (.double d1), .second, .val (.double d2), .second, .val (.double d3), .second] [(.double d1), (.ref o0)])) _
    exact k)
  obtain ⟨T17, h17, X17, e17, W17, st17⟩ := putF X3 hx hZ hown (host := "") (Or.inl (hw _ (List.mem_of_getElem? (i := 22) rfl))) Via.refl e3 F_o0_k1 E_o0 (Or.inr ⟨(hw _ (List.mem_of_getElem? (i := 23) rfl)), rfl, hnm⟩) (hw _ (List.mem_of_getElem? (i := 7) rfl)) (ty := .double) (by decide) rfl rfl (g := (mkF m 91 #[.val (.ref o0), .val (.double d1), .second, .val (.double d2), .second, .val (.double d3), .second] [(.double d1), (.ref o0)])) rfl rfl (hb hby d3_91)
  have F_o0_k1__17 := F_o0_k1.same W17
  have E_o0__17 := E_o0.wr W17
  have F_o0_b__17 := F_o0_b.other W17 (Or.inr (slot_ne (Or.inr (hw _ (List.mem_of_getElem? (i := 25) rfl))) (Or.inr (hw _ (List.mem_of_getElem? (i := 23) rfl))) (by decide) (t := .double) (t' := .double) (by decide) (by decide)))
  have F_o0_k3__17 := F_o0_k3.other W17 (Or.inr (slot_ne (Or.inr (hw _ (List.mem_of_getElem? (i := 27) rfl))) (Or.inr (hw _ (List.mem_of_getElem? (i := 23) rfl))) (by decide) (t := .double) (t' := .double) (by decide) (by decide)))
  have N17 := Fr.snoc X17 N3 g_o0
  have Zs17 : n0 ≤ h17.size := Nat.le_trans Z0 (Nat.le_of_eq W17.size.symm)
  have Kc17 : Keep h0 h17 [o0] := (Keep.refl h0 [o0]).wr W17 (Or.inl (List.mem_of_getElem? (i := 0) rfl))
  have K17 : ∀ t, Steps p.tables e below (T17.setTop (mkF m 94 #[.val (.ref o0), .val (.double d1), .second, .val (.double d2), .second, .val (.double d3), .second] [])) t → Steps p.tables e below S0 t := fun t k => K16 t (st17 t k)
  have K18 : ∀ t, Steps p.tables e below (T17.setTop (mkF m 96 #[.val (.ref o0), .val (.double d1), .second, .val (.double d2), .second, .val (.double d3), .second] [(.double d2), (.ref o0)])) t → Steps p.tables e below S0 t := fun t k => K17 t (by
    refine XS.aloadN X17.here hx rfl (hb hby d3_94) rfl rfl ?_
    show Steps p.tables e below (T17.setTop (mkF m 95 #[.val (.ref o0), .val (.double d1), .second, .val (.double d2), .second, .val (.double d3), .second] [(.ref o0)])) _
    refine XS.dloadN X17.here hx rfl (hb hby d3_95) rfl ?_
    show Steps p.tables e below (T17.setTop (mkF m 96 #[.val (.ref o0), .val (.double d1), .second, .val (.double d2), .second, .val (.double d3), .second] [(.double d2), (.ref o0)])) _
    exact k)
  obtain ⟨T19, h19, X19, e19, W19, st19⟩ := putF X17 hx hZ hown (host := "") (Or.inl (hw _ (List.mem_of_getElem? (i := 24) rfl))) Via.refl e17 F_o0_b__17 E_o0__17 (Or.inr ⟨(hw _ (List.mem_of_getElem? (i := 25) rfl)), rfl, hnm⟩) (hw _ (List.mem_of_getElem? (i := 7) rfl)) (ty := .double) (by decide) rfl rfl (g := (mkF m 96 #[.val (.ref o0), .val (.double d1), .second, .val (.double d2), .second, .val (.double d3), .second] [(.double d2), (.ref o0)])) rfl rfl (hb hby d3_96)
  have F_o0_b__19 := F_o0_b__17.same W19
  have E_o0__19 := E_o0__17.wr W19
  have F_o0_k1__19 := F_o0_k1__17.other W19 (Or.inr (slot_ne (Or.inr (hw _ (List.mem_of_getElem? (i := 23) rfl))) (Or.inr (hw _ (List.mem_of_getElem? (i := 25) rfl))) (by decide) (t := .double) (t' := .double) (by decide) (by decide)))
  have F_o0_k3__19 := F_o0_k3__17.other W19 (Or.inr (slot_ne (Or.inr (hw _ (List.mem_of_getElem? (i := 27) rfl))) (Or.inr (hw _ (List.mem_of_getElem? (i := 25) rfl))) (by decide) (t := .double) (t' := .double) (by decide) (by decide)))
  have N19 := Fr.snoc X19 N17 g_o0
  have Zs19 : n0 ≤ h19.size := Nat.le_trans Zs17 (Nat.le_of_eq W19.size.symm)
  have Kc19 : Keep h0 h19 [o0] := Kc17.wr W19 (Or.inl (List.mem_of_getElem? (i := 0) rfl))
  have K19 : ∀ t, Steps p.tables e below (T19.setTop (mkF m 99 #[.val (.ref o0), .val (.double d1), .second, .val (.double d2), .second, .val (.double d3), .second] [])) t → Steps p.tables e below S0 t := fun t k => K18 t (st19 t k)
  have K20 : ∀ t, Steps p.tables e below (T19.setTop (mkF m 102 #[.val (.ref o0), .val (.double d1), .second, .val (.double d2), .second, .val (.double d3), .second] [(.double d3), (.ref o0)])) t → Steps p.tables e below S0 t := fun t k => K19 t (by
    refine XS.aloadN X19.here hx rfl (hb hby d3_99) rfl rfl ?_
    show Steps p.tables e below (T19.setTop (mkF m 100 #[.val (.ref o0), .val (.double d1), .second, .val (.double d2), .second, .val (.double d3), .second] [(.ref o0)])) _
    refine XS.dload X19.here hx rfl (hb hby d3_100) rfl ?_
    show Steps p.tables e below (T19.setTop (mkF m 102 #[.val (.ref o0), .val (.double d1), .second, .val (.double d2), .second, .val (.double d3), .second] [(.double d3), (.ref o0)])) _
    exact k)
  obtain ⟨T21, h21, X21, e21, W21, st21⟩ := putF X19 hx hZ hown (host := "") (Or.inl (hw _ (List.mem_of_getElem? (i := 26) rfl))) Via.refl e19 F_o0_k3__19 E_o0__19 (Or.inr ⟨(hw _ (List.mem_of_getElem? (i := 27) rfl)), rfl, hnm⟩) (hw _ (List.mem_of_getElem? (i := 7) rfl)) (ty := .double) (by decide) rfl rfl (g := (mkF m 102 #[.val (.ref o0), .val (.double d1), .second, .val (.double d2), .second, .val (.double d3), .second] [(.double d3), (.ref o0)])) rfl rfl (hb hby d3_102)
  have F_o0_k3__21 := F_o0_k3__19.same W21
  have E_o0__21 := E_o0__19.wr W21
  have F_o0_k1__21 := F_o0_k1__19.other W21 (Or.inr (slot_ne (Or.inr (hw _ (List.mem_of_getElem? (i := 23) rfl))) (Or.inr (hw _ (List.mem_of_getElem? (i := 27) rfl))) (by decide) (t := .double) (t' := .double) (by decide) (by decide)))
  have F_o0_b__21 := F_o0_b__19.other W21 (Or.inr (slot_ne (Or.inr (hw _ (List.mem_of_getElem? (i := 25) rfl))) (Or.inr (hw _ (List.mem_of_getElem? (i := 27) rfl))) (by decide) (t := .double) (t' := .double) (by decide) (by decide)))
  have N21 := Fr.snoc X21 N19 g_o0
  have Zs21 : n0 ≤ h21.size := Nat.le_trans Zs19 (Nat.le_of_eq W21.size.symm)
  have Kc21 : Keep h0 h21 [o0] := Kc19.wr W21 (Or.inl (List.mem_of_getElem? (i := 0) rfl))
  have K21 : ∀ t, Steps p.tables e below (T21.setTop (mkF m 105 #[.val (.ref o0), .val (.double d1), .second, .val (.double d2), .second, .val (.double d3), .second] [])) t → Steps p.tables e below S0 t := fun t k => K20 t (st21 t k)
  obtain ⟨fs, hr, hrun, hended, hW, hsame⟩ := X21.leave (v := none) (fun _ => rfl) hlk
  refine ⟨_, _, ?_, hrun, hended, _, _, rfl, ?_, ⟨_, rfl⟩, hW, hsame.mono (by decide) (by decide)⟩
  · rw [← hS0]; exact K21 _ (X21.returnOut hx Bd.returns (hb hby d3_105) hr)
  · show Q3 Z o0 d1 d2 d3 h0 n0 _ T21.heap _
    rw [e21]
    exact ⟨rfl, N21, Kc21, E_o0__21, F_o0_k1__21, F_o0_b__21, F_o0_k3__21⟩
theorem d4_0 : decode prog_46_method_3_code 0 = .ok (.aload_n 0, 1) := by decide +kernel
theorem d4_1 : decode prog_46_method_3_code 1 = .ok (.getfield 22, 3) := by decide +kernel
theorem d4_4 : decode prog_46_method_3_code 4 = .ok (.dconst 1, 1) := by decide +kernel
theorem d4_5 : decode prog_46_method_3_code 5 = .ok (.dadd, 1) := by decide +kernel
theorem d4_6 : decode prog_46_method_3_code 6 = .ok (.iload_n 1, 1) := by decide +kernel
theorem d4_7 : decode prog_46_method_3_code 7 = .ok (.i2d, 1) := by decide +kernel
theorem d4_8 : decode prog_46_method_3_code 8 = .ok (.dmul, 1) := by decide +kernel
theorem d4_9 : decode prog_46_method_3_code 9 = .ok (.aload_n 0, 1) := by decide +kernel
theorem d4_10 : decode prog_46_method_3_code 10 = .ok (.getfield 22, 3) := by decide +kernel
theorem d4_13 : decode prog_46_method_3_code 13 = .ok (.dconst 1, 1) := by decide +kernel
theorem d4_14 : decode prog_46_method_3_code 14 = .ok (.aload_n 0, 1) := by decide +kernel
theorem d4_15 : decode prog_46_method_3_code 15 = .ok (.getfield 28, 3) := by decide +kernel
theorem d4_18 : decode prog_46_method_3_code 18 = .ok (.dsub, 1) := by decide +kernel
theorem d4_19 : decode prog_46_method_3_code 19 = .ok (.aload_n 0, 1) := by decide +kernel
theorem d4_20 : decode prog_46_method_3_code 20 = .ok (.getfield 28, 3) := by decide +kernel
theorem d4_23 : decode prog_46_method_3_code 23 = .ok (.dload_n 2, 1) := by decide +kernel
theorem d4_24 : decode prog_46_method_3_code 24 = .ok (.dmul, 1) := by decide +kernel
theorem d4_25 : decode prog_46_method_3_code 25 = .ok (.dadd, 1) := by decide +kernel
theorem d4_26 : decode prog_46_method_3_code 26 = .ok (.dmul, 1) := by decide +kernel
theorem d4_27 : decode prog_46_method_3_code 27 = .ok (.iload_n 1, 1) := by decide +kernel
theorem d4_28 : decode prog_46_method_3_code 28 = .ok (.i2d, 1) := by decide +kernel
theorem d4_29 : decode prog_46_method_3_code 29 = .ok (.dadd, 1) := by decide +kernel
theorem d4_30 : decode prog_46_method_3_code 30 = .ok (.ddiv, 1) := by decide +kernel
theorem d4_31 : decode prog_46_method_3_code 31 = .ok (.dreturn, 1) := by decide +kernel
theorem pn4 : plainName "com/example/starling/starling/model/Bm25" = true := by first | (simp [plainName, overriddenIn]; done) | decide +kernel
theorem ef4 (m : MethodId) (o0 : Addr) (p1 : Int32) (d2 : UInt64) : entryFrame m #[(.ref o0), (.int p1), (.double d2)] 4 = mkF m 0 #[.val (.ref o0), .val (.int p1), .val (.double d2), .second] [] := by first | (simp [entryFrame, mkF, argsToLocals, Value.category]; done) | rfl
def Q4 (Z : State) (o0 : Addr) (p1 : Int32) (d2 : UInt64) (zk : UInt64) (zb : UInt64) (h0 : Heap) (n0 : Nat) (v : Option Value) (h : Heap) (L : List Loc) : Prop := v = some (.double (w4_r1 p1 d2 zk zb)) ∧ Fr n0 L ∧ h = h0
set_option maxRecDepth 65536 in
set_option maxHeartbeats 40000000 in
theorem rm4 (l : Launch) (Z : State) (a0 : Array Value) (hw : ∀ d ∈ tables_1, d.before a0 Z = true) (ws : List Jvm.Cond) (o0 : Addr) (p1 : Int32) (d2 : UInt64) (zk : UInt64) (zb : UInt64) (h0 : Heap) (n0 : Nat) (Z0 : n0 ≤ h0.size) (F_o0_k1 : Fld Z h0 o0 "com/example/starling/starling/model/Bm25" "k1" "D" (.double zk)) (F_o0_b : Fld Z h0 o0 "com/example/starling/starling/model/Bm25" "b" "D" (.double zb)) (n5 : Jvm.Free.Fl.NoNaN64 (FP.dadd zk (4607182418800017408 : UInt64))) (n8 : Jvm.Free.Fl.NoNaN64 (FP.dmul (FP.dadd zk (4607182418800017408 : UInt64)) (FP.i2d p1))) (n18 : Jvm.Free.Fl.NoNaN64 (FP.dsub (4607182418800017408 : UInt64) zb)) (n24 : Jvm.Free.Fl.NoNaN64 (FP.dmul zb d2)) (n25 : Jvm.Free.Fl.NoNaN64 (FP.dadd (FP.dsub (4607182418800017408 : UInt64) zb) (FP.dmul zb d2))) (n26 : Jvm.Free.Fl.NoNaN64 (FP.dmul zk (FP.dadd (FP.dsub (4607182418800017408 : UInt64) zb) (FP.dmul zb d2)))) (n29 : Jvm.Free.Fl.NoNaN64 (FP.dadd (FP.dmul zk (FP.dadd (FP.dsub (4607182418800017408 : UInt64) zb) (FP.dmul zb d2))) (FP.i2d p1))) (n30 : Jvm.Free.Fl.NoNaN64 (FP.ddiv (FP.dmul (FP.dadd zk (4607182418800017408 : UInt64)) (FP.i2d p1)) (FP.dadd (FP.dmul zk (FP.dadd (FP.dsub (4607182418800017408 : UInt64) zb) (FP.dmul zb d2))) (FP.i2d p1)))) :
    MetFree l (⟨"com/example/starling/starling/model/Bm25", "documentWeight", "(ID)D"⟩ : MethodName) (head1 (Jvm.Cond.code (⟨"com/example/starling/starling/model/Bm25", "documentWeight", "(ID)D"⟩ : MethodName) prog_46_method_3_code 4 (some .double) :: ws) ({ frames := 0, cells := 0, slots := 0, locals := 0 } : Room)) (fun a U => a = #[(.ref o0), (.int p1), (.double d2)] ∧ Z.Warmed39 U.vm ∧ U.heap = h0) (fun _ _ _ _ _ => True) (fun _ U o U' => ∃ v L, o = .returned v ∧ Q4 Z o0 p1 d2 zk zb h0 n0 v U'.heap L ∧ FrameEnd U o U' L ({ frames := 0, cells := 0, slots := 0, locals := 0 } : Room).cells ({ frames := 0, cells := 0, slots := 0, locals := 0 } : Room).slots) := by
  refine MetFree.of_bodySF (plainFor_of_name pn4) hisR ?_
  intro p e s m args below meth c s₁ Bd hml0 hP hK
  obtain ⟨rfl, hZ, hh⟩ := hP
  have hlk : meth.locks = false := BodyLoose.notSynchronized Bd
  have hx := Bd.exec
  have hby := Bd.bytes
  have hml : c.maxLocals = 4 := hml0
  have hown : s.vm.findClass "com/example/starling/starling/model/Bm25" = some m.cls := findClass_of_methodNamed Bd.named
  have hnm := (name_of_methodNamed Bd.named Bd.method).1
  have X0 : Stand p l e ({ frames := 0, cells := 0, slots := 0, locals := 0 } : Room) s m #[(.ref o0), (.int p1), (.double d2)] below meth c s₁ [] 0 0 := Stand.of_body Bd
  have e0 : s₁.heap = h0 := by rw [← hh, Bd.state]; rfl
  have N0 := Fr.nil n0
  obtain ⟨S0, hS0⟩ : ∃ S0, S0 = s₁.setTop (entryFrame m #[(.ref o0), (.int p1), (.double d2)] 4) := ⟨_, rfl⟩
  have pre0 : ∀ t, Steps p.tables e below (s₁.setTop (mkF m 0 #[.val (.ref o0), .val (.int p1), .val (.double d2), .second] [])) t → Steps p.tables e below S0 t := fun t k => by rw [hS0]; exact castTop (ef4 m o0 p1 d2) k
  have K1 : ∀ t, Steps p.tables e below (s₁.setTop (mkF m 1 #[.val (.ref o0), .val (.int p1), .val (.double d2), .second] [(.ref o0)])) t → Steps p.tables e below S0 t := fun t k => pre0 t (by
    refine XS.aloadN X0.here hx rfl (hb hby d4_0) rfl rfl ?_
    show Steps p.tables e below (s₁.setTop (mkF m 1 #[.val (.ref o0), .val (.int p1), .val (.double d2), .second] [(.ref o0)])) _
    exact k)
  obtain ⟨T2, X2, e2, st2⟩ := getF X0 hx hZ hown (host := "") (Or.inl (hw _ (List.mem_of_getElem? (i := 22) rfl))) Via.refl e0 F_o0_k1 (g := (mkF m 1 #[.val (.ref o0), .val (.int p1), .val (.double d2), .second] [(.ref o0)])) rfl rfl (hb hby d4_1)
  have K2 : ∀ t, Steps p.tables e below (T2.setTop (mkF m 4 #[.val (.ref o0), .val (.int p1), .val (.double d2), .second] [(.double zk)])) t → Steps p.tables e below S0 t := fun t k => K1 t (st2 t k)
  have K3 : ∀ t, Steps p.tables e below (T2.setTop (mkF m 10 #[.val (.ref o0), .val (.int p1), .val (.double d2), .second] [(.ref o0), (.double (FP.dmul (FP.dadd zk (4607182418800017408 : UInt64)) (FP.i2d p1)))])) t → Steps p.tables e below S0 t := fun t k => K2 t (by
    refine XS.dconst1 X2.here hx rfl (hb hby d4_4) rfl ?_
    show Steps p.tables e below (T2.setTop (mkF m 5 #[.val (.ref o0), .val (.int p1), .val (.double d2), .second] [(.double (4607182418800017408 : UInt64)), (.double zk)])) _
    refine XS.daddS X2.here hx rfl (hb hby d4_5) rfl n5 rfl ?_
    show Steps p.tables e below (T2.setTop (mkF m 6 #[.val (.ref o0), .val (.int p1), .val (.double d2), .second] [(.double (FP.dadd zk (4607182418800017408 : UInt64)))])) _
    refine XS.iloadN X2.here hx rfl (hb hby d4_6) rfl ?_
    show Steps p.tables e below (T2.setTop (mkF m 7 #[.val (.ref o0), .val (.int p1), .val (.double d2), .second] [(.int p1), (.double (FP.dadd zk (4607182418800017408 : UInt64)))])) _
    refine XS.i2dS X2.here hx rfl (hb hby d4_7) rfl rfl ?_
    show Steps p.tables e below (T2.setTop (mkF m 8 #[.val (.ref o0), .val (.int p1), .val (.double d2), .second] [(.double (FP.i2d p1)), (.double (FP.dadd zk (4607182418800017408 : UInt64)))])) _
    refine XS.dmulS X2.here hx rfl (hb hby d4_8) rfl n8 rfl ?_
    show Steps p.tables e below (T2.setTop (mkF m 9 #[.val (.ref o0), .val (.int p1), .val (.double d2), .second] [(.double (FP.dmul (FP.dadd zk (4607182418800017408 : UInt64)) (FP.i2d p1)))])) _
    refine XS.aloadN X2.here hx rfl (hb hby d4_9) rfl rfl ?_
    show Steps p.tables e below (T2.setTop (mkF m 10 #[.val (.ref o0), .val (.int p1), .val (.double d2), .second] [(.ref o0), (.double (FP.dmul (FP.dadd zk (4607182418800017408 : UInt64)) (FP.i2d p1)))])) _
    exact k)
  obtain ⟨T4, X4, e4, st4⟩ := getF X2 hx hZ hown (host := "") (Or.inl (hw _ (List.mem_of_getElem? (i := 22) rfl))) Via.refl e2 F_o0_k1 (g := (mkF m 10 #[.val (.ref o0), .val (.int p1), .val (.double d2), .second] [(.ref o0), (.double (FP.dmul (FP.dadd zk (4607182418800017408 : UInt64)) (FP.i2d p1)))])) rfl rfl (hb hby d4_10)
  have K4 : ∀ t, Steps p.tables e below (T4.setTop (mkF m 13 #[.val (.ref o0), .val (.int p1), .val (.double d2), .second] [(.double zk), (.double (FP.dmul (FP.dadd zk (4607182418800017408 : UInt64)) (FP.i2d p1)))])) t → Steps p.tables e below S0 t := fun t k => K3 t (st4 t k)
  have K5 : ∀ t, Steps p.tables e below (T4.setTop (mkF m 15 #[.val (.ref o0), .val (.int p1), .val (.double d2), .second] [(.ref o0), (.double (4607182418800017408 : UInt64)), (.double zk), (.double (FP.dmul (FP.dadd zk (4607182418800017408 : UInt64)) (FP.i2d p1)))])) t → Steps p.tables e below S0 t := fun t k => K4 t (by
    refine XS.dconst1 X4.here hx rfl (hb hby d4_13) rfl ?_
    show Steps p.tables e below (T4.setTop (mkF m 14 #[.val (.ref o0), .val (.int p1), .val (.double d2), .second] [(.double (4607182418800017408 : UInt64)), (.double zk), (.double (FP.dmul (FP.dadd zk (4607182418800017408 : UInt64)) (FP.i2d p1)))])) _
    refine XS.aloadN X4.here hx rfl (hb hby d4_14) rfl rfl ?_
    show Steps p.tables e below (T4.setTop (mkF m 15 #[.val (.ref o0), .val (.int p1), .val (.double d2), .second] [(.ref o0), (.double (4607182418800017408 : UInt64)), (.double zk), (.double (FP.dmul (FP.dadd zk (4607182418800017408 : UInt64)) (FP.i2d p1)))])) _
    exact k)
  obtain ⟨T6, X6, e6, st6⟩ := getF X4 hx hZ hown (host := "") (Or.inl (hw _ (List.mem_of_getElem? (i := 24) rfl))) Via.refl e4 F_o0_b (g := (mkF m 15 #[.val (.ref o0), .val (.int p1), .val (.double d2), .second] [(.ref o0), (.double (4607182418800017408 : UInt64)), (.double zk), (.double (FP.dmul (FP.dadd zk (4607182418800017408 : UInt64)) (FP.i2d p1)))])) rfl rfl (hb hby d4_15)
  have K6 : ∀ t, Steps p.tables e below (T6.setTop (mkF m 18 #[.val (.ref o0), .val (.int p1), .val (.double d2), .second] [(.double zb), (.double (4607182418800017408 : UInt64)), (.double zk), (.double (FP.dmul (FP.dadd zk (4607182418800017408 : UInt64)) (FP.i2d p1)))])) t → Steps p.tables e below S0 t := fun t k => K5 t (st6 t k)
  have K7 : ∀ t, Steps p.tables e below (T6.setTop (mkF m 20 #[.val (.ref o0), .val (.int p1), .val (.double d2), .second] [(.ref o0), (.double (FP.dsub (4607182418800017408 : UInt64) zb)), (.double zk), (.double (FP.dmul (FP.dadd zk (4607182418800017408 : UInt64)) (FP.i2d p1)))])) t → Steps p.tables e below S0 t := fun t k => K6 t (by
    refine XS.dsubS X6.here hx rfl (hb hby d4_18) rfl n18 rfl ?_
    show Steps p.tables e below (T6.setTop (mkF m 19 #[.val (.ref o0), .val (.int p1), .val (.double d2), .second] [(.double (FP.dsub (4607182418800017408 : UInt64) zb)), (.double zk), (.double (FP.dmul (FP.dadd zk (4607182418800017408 : UInt64)) (FP.i2d p1)))])) _
    refine XS.aloadN X6.here hx rfl (hb hby d4_19) rfl rfl ?_
    show Steps p.tables e below (T6.setTop (mkF m 20 #[.val (.ref o0), .val (.int p1), .val (.double d2), .second] [(.ref o0), (.double (FP.dsub (4607182418800017408 : UInt64) zb)), (.double zk), (.double (FP.dmul (FP.dadd zk (4607182418800017408 : UInt64)) (FP.i2d p1)))])) _
    exact k)
  obtain ⟨T8, X8, e8, st8⟩ := getF X6 hx hZ hown (host := "") (Or.inl (hw _ (List.mem_of_getElem? (i := 24) rfl))) Via.refl e6 F_o0_b (g := (mkF m 20 #[.val (.ref o0), .val (.int p1), .val (.double d2), .second] [(.ref o0), (.double (FP.dsub (4607182418800017408 : UInt64) zb)), (.double zk), (.double (FP.dmul (FP.dadd zk (4607182418800017408 : UInt64)) (FP.i2d p1)))])) rfl rfl (hb hby d4_20)
  have K8 : ∀ t, Steps p.tables e below (T8.setTop (mkF m 23 #[.val (.ref o0), .val (.int p1), .val (.double d2), .second] [(.double zb), (.double (FP.dsub (4607182418800017408 : UInt64) zb)), (.double zk), (.double (FP.dmul (FP.dadd zk (4607182418800017408 : UInt64)) (FP.i2d p1)))])) t → Steps p.tables e below S0 t := fun t k => K7 t (st8 t k)
  have K9 : ∀ t, Steps p.tables e below (T8.setTop (mkF m 31 #[.val (.ref o0), .val (.int p1), .val (.double d2), .second] [(.double (FP.ddiv (FP.dmul (FP.dadd zk (4607182418800017408 : UInt64)) (FP.i2d p1)) (FP.dadd (FP.dmul zk (FP.dadd (FP.dsub (4607182418800017408 : UInt64) zb) (FP.dmul zb d2))) (FP.i2d p1))))])) t → Steps p.tables e below S0 t := fun t k => K8 t (by
    refine XS.dloadN X8.here hx rfl (hb hby d4_23) rfl ?_
    show Steps p.tables e below (T8.setTop (mkF m 24 #[.val (.ref o0), .val (.int p1), .val (.double d2), .second] [(.double d2), (.double zb), (.double (FP.dsub (4607182418800017408 : UInt64) zb)), (.double zk), (.double (FP.dmul (FP.dadd zk (4607182418800017408 : UInt64)) (FP.i2d p1)))])) _
    refine XS.dmulS X8.here hx rfl (hb hby d4_24) rfl n24 rfl ?_
    show Steps p.tables e below (T8.setTop (mkF m 25 #[.val (.ref o0), .val (.int p1), .val (.double d2), .second] [(.double (FP.dmul zb d2)), (.double (FP.dsub (4607182418800017408 : UInt64) zb)), (.double zk), (.double (FP.dmul (FP.dadd zk (4607182418800017408 : UInt64)) (FP.i2d p1)))])) _
    refine XS.daddS X8.here hx rfl (hb hby d4_25) rfl n25 rfl ?_
    show Steps p.tables e below (T8.setTop (mkF m 26 #[.val (.ref o0), .val (.int p1), .val (.double d2), .second] [(.double (FP.dadd (FP.dsub (4607182418800017408 : UInt64) zb) (FP.dmul zb d2))), (.double zk), (.double (FP.dmul (FP.dadd zk (4607182418800017408 : UInt64)) (FP.i2d p1)))])) _
    refine XS.dmulS X8.here hx rfl (hb hby d4_26) rfl n26 rfl ?_
    show Steps p.tables e below (T8.setTop (mkF m 27 #[.val (.ref o0), .val (.int p1), .val (.double d2), .second] [(.double (FP.dmul zk (FP.dadd (FP.dsub (4607182418800017408 : UInt64) zb) (FP.dmul zb d2)))), (.double (FP.dmul (FP.dadd zk (4607182418800017408 : UInt64)) (FP.i2d p1)))])) _
    refine XS.iloadN X8.here hx rfl (hb hby d4_27) rfl ?_
    show Steps p.tables e below (T8.setTop (mkF m 28 #[.val (.ref o0), .val (.int p1), .val (.double d2), .second] [(.int p1), (.double (FP.dmul zk (FP.dadd (FP.dsub (4607182418800017408 : UInt64) zb) (FP.dmul zb d2)))), (.double (FP.dmul (FP.dadd zk (4607182418800017408 : UInt64)) (FP.i2d p1)))])) _
    refine XS.i2dS X8.here hx rfl (hb hby d4_28) rfl rfl ?_
    show Steps p.tables e below (T8.setTop (mkF m 29 #[.val (.ref o0), .val (.int p1), .val (.double d2), .second] [(.double (FP.i2d p1)), (.double (FP.dmul zk (FP.dadd (FP.dsub (4607182418800017408 : UInt64) zb) (FP.dmul zb d2)))), (.double (FP.dmul (FP.dadd zk (4607182418800017408 : UInt64)) (FP.i2d p1)))])) _
    refine XS.daddS X8.here hx rfl (hb hby d4_29) rfl n29 rfl ?_
    show Steps p.tables e below (T8.setTop (mkF m 30 #[.val (.ref o0), .val (.int p1), .val (.double d2), .second] [(.double (FP.dadd (FP.dmul zk (FP.dadd (FP.dsub (4607182418800017408 : UInt64) zb) (FP.dmul zb d2))) (FP.i2d p1))), (.double (FP.dmul (FP.dadd zk (4607182418800017408 : UInt64)) (FP.i2d p1)))])) _
    refine XS.ddivS X8.here hx rfl (hb hby d4_30) rfl n30 rfl ?_
    show Steps p.tables e below (T8.setTop (mkF m 31 #[.val (.ref o0), .val (.int p1), .val (.double d2), .second] [(.double (FP.ddiv (FP.dmul (FP.dadd zk (4607182418800017408 : UInt64)) (FP.i2d p1)) (FP.dadd (FP.dmul zk (FP.dadd (FP.dsub (4607182418800017408 : UInt64) zb) (FP.dmul zb d2))) (FP.i2d p1))))])) _
    exact k)
  obtain ⟨fs, hr, hrun, hended, hW, hsame⟩ := X8.leave (v := some (.double (FP.ddiv (FP.dmul (FP.dadd zk (4607182418800017408 : UInt64)) (FP.i2d p1)) (FP.dadd (FP.dmul zk (FP.dadd (FP.dsub (4607182418800017408 : UInt64) zb) (FP.dmul zb d2))) (FP.i2d p1))))) (fun h => by rw [Bd.returns] at h; cases h) hlk
  refine ⟨_, _, ?_, hrun, hended, _, _, rfl, ?_, ⟨_, rfl⟩, hW, hsame.mono (by decide) (by decide)⟩
  · rw [← hS0]; exact K9 _ (retOut X8 hx Bd.returns rfl (Or.inr (Or.inr (Or.inl ⟨rfl, rfl, _, rfl⟩))) (hb hby d4_31) hr)
  · show Q4 Z o0 p1 d2 zk zb h0 n0 _ T8.heap _
    rw [e8]
    have qr : (FP.ddiv (FP.dmul (FP.dadd zk (4607182418800017408 : UInt64)) (FP.i2d p1)) (FP.dadd (FP.dmul zk (FP.dadd (FP.dsub (4607182418800017408 : UInt64) zb) (FP.dmul zb d2))) (FP.i2d p1))) = (w4_r1 p1 d2 zk zb) := rfl
    exact ⟨congrArg (fun z => some (Value.double z)) qr, N0, rfl⟩
theorem pn0 : plainName "com/example/starling/starling/model/Bm25DocumentWeightPinLaw" = true := by first | (simp [plainName, overriddenIn]; done) | decide +kernel
theorem pd0_0 : parseMethodDescriptor "(II)I" = some ⟨[.int, .int], some .int⟩ := by decide +kernel
theorem pd0_1 : parseMethodDescriptor "(DDD)V" = some ⟨[.double, .double, .double], none⟩ := by decide +kernel
theorem pd0_2 : parseMethodDescriptor "(ID)D" = some ⟨[.int, .double], some .double⟩ := by decide +kernel
theorem ef0 (m : MethodId) (p0 : Int32) (p1 : Int32) (p2 : Int32) (p3 : Int32) : entryFrame m #[(.int p0), (.int p1), (.int p2), (.int p3)] maxLocals = mkF m 0 #[.val (.int p0), .val (.int p1), .val (.int p2), .val (.int p3), .unset, .unset, .unset, .unset, .unset, .unset, .unset, .unset, .unset, .unset, .unset, .unset, .unset, .unset] [] := by first | (simp [entryFrame, mkF, argsToLocals, Value.category, maxLocals]; done) | rfl
def Q0 (Z : State) (p0 : Int32) (p1 : Int32) (p2 : Int32) (p3 : Int32) (h0 : Heap) (n0 : Nat) (v : Option Value) (h : Heap) (L : List Loc) : Prop := v = some (.int (w0_r13 p0 p1 p2 p3)) ∧ Fr n0 L
set_option maxRecDepth 65536 in
set_option maxHeartbeats 40000000 in
theorem rm0 (l : Launch) (Z : State) (a0 : Array Value) (hw : ∀ d ∈ tables_1, d.before a0 Z = true) (ws : List Jvm.Cond) (p0 : Int32) (p1 : Int32) (p2 : Int32) (p3 : Int32) (h0 : Heap) (n0 : Nat) (Z0 : n0 ≤ h0.size) :
    MetFree l x (head1 (Jvm.Cond.code x code maxLocals ret :: ws) room_1) (fun a U => a = #[(.int p0), (.int p1), (.int p2), (.int p3)] ∧ Z.Warmed39 U.vm ∧ U.heap = h0) (fun _ _ _ _ _ => True) (fun _ U o U' => ∃ v L, o = .returned v ∧ Q0 Z p0 p1 p2 p3 h0 n0 v U'.heap L ∧ FrameEnd U o U' L 1 3) := by
  refine MetFree.of_bodySF (plainFor_of_name pn0) hisR ?_
  intro p e s m args below meth c s₁ Bd hml0 hP hK
  obtain ⟨rfl, hZ, hh⟩ := hP
  have hlk : meth.locks = false := BodyLoose.notSynchronized Bd
  have hx := Bd.exec
  have hby := Bd.bytes
  have hml : c.maxLocals = 18 := hml0
  have hown : s.vm.findClass "com/example/starling/starling/model/Bm25DocumentWeightPinLaw" = some m.cls := findClass_of_methodNamed Bd.named
  have hnm := (name_of_methodNamed Bd.named Bd.method).1
  have X0 : Stand p l e room_1 s m #[(.int p0), (.int p1), (.int p2), (.int p3)] below meth c s₁ [] 0 0 := Stand.of_body Bd
  have e0 : s₁.heap = h0 := by rw [← hh, Bd.state]; rfl
  have N0 := Fr.nil n0
  obtain ⟨S0, hS0⟩ : ∃ S0, S0 = s₁.setTop (entryFrame m #[(.int p0), (.int p1), (.int p2), (.int p3)] maxLocals) := ⟨_, rfl⟩
  have pre0 : ∀ t, Steps p.tables e below (s₁.setTop (mkF m 0 #[.val (.int p0), .val (.int p1), .val (.int p2), .val (.int p3), .unset, .unset, .unset, .unset, .unset, .unset, .unset, .unset, .unset, .unset, .unset, .unset, .unset, .unset] [])) t → Steps p.tables e below S0 t := fun t k => by rw [hS0]; exact castTop (ef0 m p0 p1 p2 p3) k
  have K1 : ∀ t, Steps p.tables e below (s₁.setTop (mkF m 28 #[.val (.int p0), .val (.int p1), .val (.int p2), .val (.int p3), .val (.int (p0 &&& (1023 : Int32))), .val (.int (w0_1 p1)), .val (.int (w0_2 p2)), .unset, .unset, .unset, .unset, .unset, .unset, .unset, .unset, .unset, .unset, .unset] [(.int (p3 &&& (2147483647 : Int32))), (.int (1 : Int32))])) t → Steps p.tables e below S0 t := fun t k => pre0 t (by
    refine XS.iloadN X0.here hx rfl (hb hby at_0) rfl ?_
    show Steps p.tables e below (s₁.setTop (mkF m 1 #[.val (.int p0), .val (.int p1), .val (.int p2), .val (.int p3), .unset, .unset, .unset, .unset, .unset, .unset, .unset, .unset, .unset, .unset, .unset, .unset, .unset, .unset] [(.int p0)])) _
    refine XS.sipush X0.here hx rfl (hb hby at_1) ?_
    show Steps p.tables e below (s₁.setTop (mkF m 4 #[.val (.int p0), .val (.int p1), .val (.int p2), .val (.int p3), .unset, .unset, .unset, .unset, .unset, .unset, .unset, .unset, .unset, .unset, .unset, .unset, .unset, .unset] [(.int (1023 : Int32)), (.int p0)])) _
    refine XS.iand X0.here hx rfl (hb hby at_4) rfl ?_
    show Steps p.tables e below (s₁.setTop (mkF m 5 #[.val (.int p0), .val (.int p1), .val (.int p2), .val (.int p3), .unset, .unset, .unset, .unset, .unset, .unset, .unset, .unset, .unset, .unset, .unset, .unset, .unset, .unset] [(.int (p0 &&& (1023 : Int32)))])) _
    refine XS.istore X0.here hx rfl (hb hby at_5) rfl (l' := #[.val (.int p0), .val (.int p1), .val (.int p2), .val (.int p3), .val (.int (p0 &&& (1023 : Int32))), .unset, .unset, .unset, .unset, .unset, .unset, .unset, .unset, .unset, .unset, .unset, .unset, .unset]) rfl ?_
    show Steps p.tables e below (s₁.setTop (mkF m 7 #[.val (.int p0), .val (.int p1), .val (.int p2), .val (.int p3), .val (.int (p0 &&& (1023 : Int32))), .unset, .unset, .unset, .unset, .unset, .unset, .unset, .unset, .unset, .unset, .unset, .unset, .unset] [])) _
    refine XS.iloadN X0.here hx rfl (hb hby at_7) rfl ?_
    show Steps p.tables e below (s₁.setTop (mkF m 8 #[.val (.int p0), .val (.int p1), .val (.int p2), .val (.int p3), .val (.int (p0 &&& (1023 : Int32))), .unset, .unset, .unset, .unset, .unset, .unset, .unset, .unset, .unset, .unset, .unset, .unset, .unset] [(.int p1)])) _
    refine X0.ldcInt hx hown (mvT hZ (hw _ (List.mem_of_getElem? (i := 0) rfl))) (g := (mkF m 8 #[.val (.int p0), .val (.int p1), .val (.int p2), .val (.int p3), .val (.int (p0 &&& (1023 : Int32))), .unset, .unset, .unset, .unset, .unset, .unset, .unset, .unset, .unset, .unset, .unset, .unset, .unset] [(.int p1)])) rfl (hb hby at_8) _ ?_
    show Steps p.tables e below (s₁.setTop (mkF m 10 #[.val (.int p0), .val (.int p1), .val (.int p2), .val (.int p3), .val (.int (p0 &&& (1023 : Int32))), .unset, .unset, .unset, .unset, .unset, .unset, .unset, .unset, .unset, .unset, .unset, .unset, .unset] [(.int (2147483647 : Int32)), (.int p1)])) _
    refine XS.iand X0.here hx rfl (hb hby at_10) rfl ?_
    show Steps p.tables e below (s₁.setTop (mkF m 11 #[.val (.int p0), .val (.int p1), .val (.int p2), .val (.int p3), .val (.int (p0 &&& (1023 : Int32))), .unset, .unset, .unset, .unset, .unset, .unset, .unset, .unset, .unset, .unset, .unset, .unset, .unset] [(.int (p1 &&& (2147483647 : Int32)))])) _
    refine XS.iconst X0.here hx rfl (hb hby at_11) ?_
    show Steps p.tables e below (s₁.setTop (mkF m 12 #[.val (.int p0), .val (.int p1), .val (.int p2), .val (.int p3), .val (.int (p0 &&& (1023 : Int32))), .unset, .unset, .unset, .unset, .unset, .unset, .unset, .unset, .unset, .unset, .unset, .unset, .unset] [(.int (5 : Int32)), (.int (p1 &&& (2147483647 : Int32)))])) _
    refine iremM X0 hx rfl (hb hby at_12) rfl (by decide) ?_
    show Steps p.tables e below (s₁.setTop (mkF m 13 #[.val (.int p0), .val (.int p1), .val (.int p2), .val (.int p3), .val (.int (p0 &&& (1023 : Int32))), .unset, .unset, .unset, .unset, .unset, .unset, .unset, .unset, .unset, .unset, .unset, .unset, .unset] [(.int ((p1 &&& (2147483647 : Int32)) % (5 : Int32)))])) _
    refine XS.istore X0.here hx rfl (hb hby at_13) rfl (l' := #[.val (.int p0), .val (.int p1), .val (.int p2), .val (.int p3), .val (.int (p0 &&& (1023 : Int32))), .val (.int (w0_1 p1)), .unset, .unset, .unset, .unset, .unset, .unset, .unset, .unset, .unset, .unset, .unset, .unset]) rfl ?_
    show Steps p.tables e below (s₁.setTop (mkF m 15 #[.val (.int p0), .val (.int p1), .val (.int p2), .val (.int p3), .val (.int (p0 &&& (1023 : Int32))), .val (.int (w0_1 p1)), .unset, .unset, .unset, .unset, .unset, .unset, .unset, .unset, .unset, .unset, .unset, .unset] [])) _
    refine XS.iloadN X0.here hx rfl (hb hby at_15) rfl ?_
    show Steps p.tables e below (s₁.setTop (mkF m 16 #[.val (.int p0), .val (.int p1), .val (.int p2), .val (.int p3), .val (.int (p0 &&& (1023 : Int32))), .val (.int (w0_1 p1)), .unset, .unset, .unset, .unset, .unset, .unset, .unset, .unset, .unset, .unset, .unset, .unset] [(.int p2)])) _
    refine X0.ldcInt hx hown (mvT hZ (hw _ (List.mem_of_getElem? (i := 1) rfl))) (g := (mkF m 16 #[.val (.int p0), .val (.int p1), .val (.int p2), .val (.int p3), .val (.int (p0 &&& (1023 : Int32))), .val (.int (w0_1 p1)), .unset, .unset, .unset, .unset, .unset, .unset, .unset, .unset, .unset, .unset, .unset, .unset] [(.int p2)])) rfl (hb hby at_16) _ ?_
    show Steps p.tables e below (s₁.setTop (mkF m 18 #[.val (.int p0), .val (.int p1), .val (.int p2), .val (.int p3), .val (.int (p0 &&& (1023 : Int32))), .val (.int (w0_1 p1)), .unset, .unset, .unset, .unset, .unset, .unset, .unset, .unset, .unset, .unset, .unset, .unset] [(.int (1048575 : Int32)), (.int p2)])) _
    refine XS.iand X0.here hx rfl (hb hby at_18) rfl ?_
    show Steps p.tables e below (s₁.setTop (mkF m 19 #[.val (.int p0), .val (.int p1), .val (.int p2), .val (.int p3), .val (.int (p0 &&& (1023 : Int32))), .val (.int (w0_1 p1)), .unset, .unset, .unset, .unset, .unset, .unset, .unset, .unset, .unset, .unset, .unset, .unset] [(.int (p2 &&& (1048575 : Int32)))])) _
    refine XS.iconst X0.here hx rfl (hb hby at_19) ?_
    show Steps p.tables e below (s₁.setTop (mkF m 20 #[.val (.int p0), .val (.int p1), .val (.int p2), .val (.int p3), .val (.int (p0 &&& (1023 : Int32))), .val (.int (w0_1 p1)), .unset, .unset, .unset, .unset, .unset, .unset, .unset, .unset, .unset, .unset, .unset, .unset] [(.int (1 : Int32)), (.int (p2 &&& (1048575 : Int32)))])) _
    refine XS.iadd X0.here hx rfl (hb hby at_20) rfl ?_
    show Steps p.tables e below (s₁.setTop (mkF m 21 #[.val (.int p0), .val (.int p1), .val (.int p2), .val (.int p3), .val (.int (p0 &&& (1023 : Int32))), .val (.int (w0_1 p1)), .unset, .unset, .unset, .unset, .unset, .unset, .unset, .unset, .unset, .unset, .unset, .unset] [(.int ((p2 &&& (1048575 : Int32)) + (1 : Int32)))])) _
    refine XS.istore X0.here hx rfl (hb hby at_21) rfl (l' := #[.val (.int p0), .val (.int p1), .val (.int p2), .val (.int p3), .val (.int (p0 &&& (1023 : Int32))), .val (.int (w0_1 p1)), .val (.int (w0_2 p2)), .unset, .unset, .unset, .unset, .unset, .unset, .unset, .unset, .unset, .unset, .unset]) rfl ?_
    show Steps p.tables e below (s₁.setTop (mkF m 23 #[.val (.int p0), .val (.int p1), .val (.int p2), .val (.int p3), .val (.int (p0 &&& (1023 : Int32))), .val (.int (w0_1 p1)), .val (.int (w0_2 p2)), .unset, .unset, .unset, .unset, .unset, .unset, .unset, .unset, .unset, .unset, .unset] [])) _
    refine XS.iconst X0.here hx rfl (hb hby at_23) ?_
    show Steps p.tables e below (s₁.setTop (mkF m 24 #[.val (.int p0), .val (.int p1), .val (.int p2), .val (.int p3), .val (.int (p0 &&& (1023 : Int32))), .val (.int (w0_1 p1)), .val (.int (w0_2 p2)), .unset, .unset, .unset, .unset, .unset, .unset, .unset, .unset, .unset, .unset, .unset] [(.int (1 : Int32))])) _
    refine XS.iloadN X0.here hx rfl (hb hby at_24) rfl ?_
    show Steps p.tables e below (s₁.setTop (mkF m 25 #[.val (.int p0), .val (.int p1), .val (.int p2), .val (.int p3), .val (.int (p0 &&& (1023 : Int32))), .val (.int (w0_1 p1)), .val (.int (w0_2 p2)), .unset, .unset, .unset, .unset, .unset, .unset, .unset, .unset, .unset, .unset, .unset] [(.int p3), (.int (1 : Int32))])) _
    refine X0.ldcInt hx hown (mvT hZ (hw _ (List.mem_of_getElem? (i := 0) rfl))) (g := (mkF m 25 #[.val (.int p0), .val (.int p1), .val (.int p2), .val (.int p3), .val (.int (p0 &&& (1023 : Int32))), .val (.int (w0_1 p1)), .val (.int (w0_2 p2)), .unset, .unset, .unset, .unset, .unset, .unset, .unset, .unset, .unset, .unset, .unset] [(.int p3), (.int (1 : Int32))])) rfl (hb hby at_25) _ ?_
    show Steps p.tables e below (s₁.setTop (mkF m 27 #[.val (.int p0), .val (.int p1), .val (.int p2), .val (.int p3), .val (.int (p0 &&& (1023 : Int32))), .val (.int (w0_1 p1)), .val (.int (w0_2 p2)), .unset, .unset, .unset, .unset, .unset, .unset, .unset, .unset, .unset, .unset, .unset] [(.int (2147483647 : Int32)), (.int p3), (.int (1 : Int32))])) _
    refine XS.iand X0.here hx rfl (hb hby at_27) rfl ?_
    show Steps p.tables e below (s₁.setTop (mkF m 28 #[.val (.int p0), .val (.int p1), .val (.int p2), .val (.int p3), .val (.int (p0 &&& (1023 : Int32))), .val (.int (w0_1 p1)), .val (.int (w0_2 p2)), .unset, .unset, .unset, .unset, .unset, .unset, .unset, .unset, .unset, .unset, .unset] [(.int (p3 &&& (2147483647 : Int32))), (.int (1 : Int32))])) _
    exact k)
  have K_2 : ∀ t, Steps p.tables e below (s₁.setTop (mkF m 28 #[.val (.int p0), .val (.int p1), .val (.int p2), .val (.int p3), .val (.int (p0 &&& (1023 : Int32))), .val (.int (w0_1 p1)), .val (.int (w0_2 p2)), .unset, .unset, .unset, .unset, .unset, .unset, .unset, .unset, .unset, .unset, .unset] [(.int (p3 &&& (2147483647 : Int32))), (.int (1 : Int32))])) t → Steps p.tables e below S0 t := K1
  obtain ⟨_, _, ⟨T3, L3, k3, n3⟩, -, X3, ⟨Lc3, hQ3, l3, y3, z3⟩, st3⟩ := Jvm.LawKit.callS X0 hx (y := (⟨"java/lang/Math", "max", "(II)I"⟩ : MethodName)) hown (mvT hZ (hw _ (List.mem_of_getElem? (i := 2) rfl))) (mvT hZ (hw _ (List.mem_of_getElem? (i := 3) rfl))) (mvT hZ (hw _ (List.mem_of_getElem? (i := 4) rfl))) (mvT hZ (hw _ (List.mem_of_getElem? (i := 5) rfl))) (by decide) (backOf (W := 0) (rm1 l Z a0 hw [] (1 : Int32) (p3 &&& (2147483647 : Int32)) h0 n0 Z0 ) hZ (hw _ (List.mem_of_getElem? (i := 5) rfl)) (hw _ (List.mem_of_getElem? (i := 4) rfl)) (by decide) (by decide)) (g := (mkF m 28 #[.val (.int p0), .val (.int p1), .val (.int p2), .val (.int p3), .val (.int (p0 &&& (1023 : Int32))), .val (.int (w0_1 p1)), .val (.int (w0_2 p2)), .unset, .unset, .unset, .unset, .unset, .unset, .unset, .unset, .unset, .unset, .unset] [(.int (p3 &&& (2147483647 : Int32))), (.int (1 : Int32))])) rfl (by rw [hml]; rfl) (argsL := [(.int (1 : Int32)), (.int (p3 &&& (2147483647 : Int32)))]) (rest := []) (lenOf pd0_0 rfl) rfl (by show 2 * 0 + _ ≤ _; exact Nat.le_of_eq rfl) (hb hby at_28) (fun _ _ => ⟨rfl, e0, (by decide : 0 + 0 ≤ 16), (by decide : 0 + 0 ≤ 128)⟩)
  dsimp only [Pt.U, Pt.locs, Pt.cells, Pt.slots] at X3 l3 y3 z3 st3 hQ3
  subst l3 y3 z3
  obtain ⟨rfl, N3q, e3⟩ := hQ3
  have N3 := Fr.app N0 N3q
  have K3 : ∀ t, Steps p.tables e below (T3.setTop (mkF m 31 #[.val (.int p0), .val (.int p1), .val (.int p2), .val (.int p3), .val (.int (p0 &&& (1023 : Int32))), .val (.int (w0_1 p1)), .val (.int (w0_2 p2)), .unset, .unset, .unset, .unset, .unset, .unset, .unset, .unset, .unset, .unset, .unset] [(.int (w0_3 p3))])) t → Steps p.tables e below S0 t := fun t k => K_2 t (st3 t k)
  have K4 : ∀ t, Steps p.tables e below (T3.setTop (mkF m 34 #[.val (.int p0), .val (.int p1), .val (.int p2), .val (.int p3), .val (.int (p0 &&& (1023 : Int32))), .val (.int (w0_1 p1)), .val (.int (w0_2 p2)), .val (.long ((w0_3 p3).toInt64)), .second, .unset, .unset, .unset, .unset, .unset, .unset, .unset, .unset, .unset] [])) t → Steps p.tables e below S0 t := fun t k => K3 t (by
    refine XS.i2l X3.here hx rfl (hb hby at_31) rfl ?_
    show Steps p.tables e below (T3.setTop (mkF m 32 #[.val (.int p0), .val (.int p1), .val (.int p2), .val (.int p3), .val (.int (p0 &&& (1023 : Int32))), .val (.int (w0_1 p1)), .val (.int (w0_2 p2)), .unset, .unset, .unset, .unset, .unset, .unset, .unset, .unset, .unset, .unset, .unset] [(.long ((w0_3 p3).toInt64))])) _
    refine XS.lstore X3.here hx rfl (hb hby at_32) rfl (l' := #[.val (.int p0), .val (.int p1), .val (.int p2), .val (.int p3), .val (.int (p0 &&& (1023 : Int32))), .val (.int (w0_1 p1)), .val (.int (w0_2 p2)), .val (.long ((w0_3 p3).toInt64)), .second, .unset, .unset, .unset, .unset, .unset, .unset, .unset, .unset, .unset]) rfl ?_
    show Steps p.tables e below (T3.setTop (mkF m 34 #[.val (.int p0), .val (.int p1), .val (.int p2), .val (.int p3), .val (.int (p0 &&& (1023 : Int32))), .val (.int (w0_1 p1)), .val (.int (w0_2 p2)), .val (.long ((w0_3 p3).toInt64)), .second, .unset, .unset, .unset, .unset, .unset, .unset, .unset, .unset, .unset] [])) _
    exact k)
  obtain ⟨T5, h5, X5, e5, E5, A5, D5, -, st5⟩ := newO X3 hx hZ hown (hw _ (List.mem_of_getElem? (i := 6) rfl)) (hw _ (List.mem_of_getElem? (i := 7) rfl)) (hw _ (List.mem_of_getElem? (i := 8) rfl)) e3 (g := (mkF m 34 #[.val (.int p0), .val (.int p1), .val (.int p2), .val (.int p3), .val (.int (p0 &&& (1023 : Int32))), .val (.int (w0_1 p1)), .val (.int (w0_2 p2)), .val (.long ((w0_3 p3).toInt64)), .second, .unset, .unset, .unset, .unset, .unset, .unset, .unset, .unset, .unset] [])) rfl (hb hby at_34) (by decide) (by decide)
  obtain ⟨b5, g5⟩ : ∃ z, z = h0.size := ⟨_, rfl⟩
  rw [← g5] at A5 D5 st5
  have g_b5 : n0 ≤ b5 := Nat.le_trans Z0 (Nat.le_of_eq g5.symm)
  have Zs5 : n0 ≤ h5.size := Nat.le_trans Z0 E5.1
  have F_b5_k1 : Fld Z h5 b5 "com/example/starling/starling/model/Bm25" "k1" "D" (.double (0 : UInt64)) := D5 (Or.inr (hw _ (List.mem_of_getElem? (i := 23) rfl))) (ty := .double) (by decide)
  have F_b5_b : Fld Z h5 b5 "com/example/starling/starling/model/Bm25" "b" "D" (.double (0 : UInt64)) := D5 (Or.inr (hw _ (List.mem_of_getElem? (i := 25) rfl))) (ty := .double) (by decide)
  have F_b5_k3 : Fld Z h5 b5 "com/example/starling/starling/model/Bm25" "k3" "D" (.double (0 : UInt64)) := D5 (Or.inr (hw _ (List.mem_of_getElem? (i := 27) rfl))) (ty := .double) (by decide)
  have K5 : ∀ t, Steps p.tables e below (T5.setTop (mkF m 37 #[.val (.int p0), .val (.int p1), .val (.int p2), .val (.int p3), .val (.int (p0 &&& (1023 : Int32))), .val (.int (w0_1 p1)), .val (.int (w0_2 p2)), .val (.long ((w0_3 p3).toInt64)), .second, .unset, .unset, .unset, .unset, .unset, .unset, .unset, .unset, .unset] [(.ref b5)])) t → Steps p.tables e below S0 t := fun t k => K4 t (st5 t k)
  have K6 : ∀ t, Steps p.tables e below (T5.setTop (mkF m 53 #[.val (.int p0), .val (.int p1), .val (.int p2), .val (.int p3), .val (.int (p0 &&& (1023 : Int32))), .val (.int (w0_1 p1)), .val (.int (w0_2 p2)), .val (.long ((w0_3 p3).toInt64)), .second, .unset, .unset, .unset, .unset, .unset, .unset, .unset, .unset, .unset] [(.double (0 : UInt64)), (.double (w0_5 p1)), (.double (w0_6 p0)), (.ref b5), (.ref b5)])) t → Steps p.tables e below S0 t := fun t k => K5 t (by
    refine XS.dup X5.here hx rfl (hb hby at_37) rfl rfl ?_
    show Steps p.tables e below (T5.setTop (mkF m 38 #[.val (.int p0), .val (.int p1), .val (.int p2), .val (.int p3), .val (.int (p0 &&& (1023 : Int32))), .val (.int (w0_1 p1)), .val (.int (w0_2 p2)), .val (.long ((w0_3 p3).toInt64)), .second, .unset, .unset, .unset, .unset, .unset, .unset, .unset, .unset, .unset] [(.ref b5), (.ref b5)])) _
    refine XS.iload X5.here hx rfl (hb hby at_38) rfl ?_
    show Steps p.tables e below (T5.setTop (mkF m 40 #[.val (.int p0), .val (.int p1), .val (.int p2), .val (.int p3), .val (.int (p0 &&& (1023 : Int32))), .val (.int (w0_1 p1)), .val (.int (w0_2 p2)), .val (.long ((w0_3 p3).toInt64)), .second, .unset, .unset, .unset, .unset, .unset, .unset, .unset, .unset, .unset] [(.int (p0 &&& (1023 : Int32))), (.ref b5), (.ref b5)])) _
    refine XS.i2dS X5.here hx rfl (hb hby at_40) rfl rfl ?_
    show Steps p.tables e below (T5.setTop (mkF m 41 #[.val (.int p0), .val (.int p1), .val (.int p2), .val (.int p3), .val (.int (p0 &&& (1023 : Int32))), .val (.int (w0_1 p1)), .val (.int (w0_2 p2)), .val (.long ((w0_3 p3).toInt64)), .second, .unset, .unset, .unset, .unset, .unset, .unset, .unset, .unset, .unset] [(.double (FP.i2d (p0 &&& (1023 : Int32)))), (.ref b5), (.ref b5)])) _
    refine X5.ldc2DoubleC hx hown (mvT hZ (hw _ (List.mem_of_getElem? (i := 9) rfl))) (g := (mkF m 41 #[.val (.int p0), .val (.int p1), .val (.int p2), .val (.int p3), .val (.int (p0 &&& (1023 : Int32))), .val (.int (w0_1 p1)), .val (.int (w0_2 p2)), .val (.long ((w0_3 p3).toInt64)), .second, .unset, .unset, .unset, .unset, .unset, .unset, .unset, .unset, .unset] [(.double (FP.i2d (p0 &&& (1023 : Int32)))), (.ref b5), (.ref b5)])) rfl (hb hby at_41) _ ?_
    show Steps p.tables e below (T5.setTop (mkF m 44 #[.val (.int p0), .val (.int p1), .val (.int p2), .val (.int p3), .val (.int (p0 &&& (1023 : Int32))), .val (.int (w0_1 p1)), .val (.int (w0_2 p2)), .val (.long ((w0_3 p3).toInt64)), .second, .unset, .unset, .unset, .unset, .unset, .unset, .unset, .unset, .unset] [(.double (4616189618054758400 : UInt64)), (.double (FP.i2d (p0 &&& (1023 : Int32)))), (.ref b5), (.ref b5)])) _
    refine XS.ddivS X5.here hx rfl (hb hby at_44) rfl (own_n44 p0) rfl ?_
    show Steps p.tables e below (T5.setTop (mkF m 45 #[.val (.int p0), .val (.int p1), .val (.int p2), .val (.int p3), .val (.int (p0 &&& (1023 : Int32))), .val (.int (w0_1 p1)), .val (.int (w0_2 p2)), .val (.long ((w0_3 p3).toInt64)), .second, .unset, .unset, .unset, .unset, .unset, .unset, .unset, .unset, .unset] [(.double (FP.ddiv (w0_4 p0) (4616189618054758400 : UInt64))), (.ref b5), (.ref b5)])) _
    refine XS.iload X5.here hx rfl (hb hby at_45) rfl ?_
    show Steps p.tables e below (T5.setTop (mkF m 47 #[.val (.int p0), .val (.int p1), .val (.int p2), .val (.int p3), .val (.int (p0 &&& (1023 : Int32))), .val (.int (w0_1 p1)), .val (.int (w0_2 p2)), .val (.long ((w0_3 p3).toInt64)), .second, .unset, .unset, .unset, .unset, .unset, .unset, .unset, .unset, .unset] [(.int (w0_1 p1)), (.double (FP.ddiv (w0_4 p0) (4616189618054758400 : UInt64))), (.ref b5), (.ref b5)])) _
    refine XS.i2dS X5.here hx rfl (hb hby at_47) rfl rfl ?_
    show Steps p.tables e below (T5.setTop (mkF m 48 #[.val (.int p0), .val (.int p1), .val (.int p2), .val (.int p3), .val (.int (p0 &&& (1023 : Int32))), .val (.int (w0_1 p1)), .val (.int (w0_2 p2)), .val (.long ((w0_3 p3).toInt64)), .second, .unset, .unset, .unset, .unset, .unset, .unset, .unset, .unset, .unset] [(.double (FP.i2d (w0_1 p1))), (.double (FP.ddiv (w0_4 p0) (4616189618054758400 : UInt64))), (.ref b5), (.ref b5)])) _
    refine X5.ldc2DoubleC hx hown (mvT hZ (hw _ (List.mem_of_getElem? (i := 9) rfl))) (g := (mkF m 48 #[.val (.int p0), .val (.int p1), .val (.int p2), .val (.int p3), .val (.int (p0 &&& (1023 : Int32))), .val (.int (w0_1 p1)), .val (.int (w0_2 p2)), .val (.long ((w0_3 p3).toInt64)), .second, .unset, .unset, .unset, .unset, .unset, .unset, .unset, .unset, .unset] [(.double (FP.i2d (w0_1 p1))), (.double (FP.ddiv (w0_4 p0) (4616189618054758400 : UInt64))), (.ref b5), (.ref b5)])) rfl (hb hby at_48) _ ?_
    show Steps p.tables e below (T5.setTop (mkF m 51 #[.val (.int p0), .val (.int p1), .val (.int p2), .val (.int p3), .val (.int (p0 &&& (1023 : Int32))), .val (.int (w0_1 p1)), .val (.int (w0_2 p2)), .val (.long ((w0_3 p3).toInt64)), .second, .unset, .unset, .unset, .unset, .unset, .unset, .unset, .unset, .unset] [(.double (4616189618054758400 : UInt64)), (.double (FP.i2d (w0_1 p1))), (.double (FP.ddiv (w0_4 p0) (4616189618054758400 : UInt64))), (.ref b5), (.ref b5)])) _
    refine XS.ddivS X5.here hx rfl (hb hby at_51) rfl (own_n51 p1) rfl ?_
    show Steps p.tables e below (T5.setTop (mkF m 52 #[.val (.int p0), .val (.int p1), .val (.int p2), .val (.int p3), .val (.int (p0 &&& (1023 : Int32))), .val (.int (w0_1 p1)), .val (.int (w0_2 p2)), .val (.long ((w0_3 p3).toInt64)), .second, .unset, .unset, .unset, .unset, .unset, .unset, .unset, .unset, .unset] [(.double (FP.ddiv (FP.i2d (w0_1 p1)) (4616189618054758400 : UInt64))), (.double (FP.ddiv (w0_4 p0) (4616189618054758400 : UInt64))), (.ref b5), (.ref b5)])) _
    refine XS.dconst0 X5.here hx rfl (hb hby at_52) rfl ?_
    show Steps p.tables e below (T5.setTop (mkF m 53 #[.val (.int p0), .val (.int p1), .val (.int p2), .val (.int p3), .val (.int (p0 &&& (1023 : Int32))), .val (.int (w0_1 p1)), .val (.int (w0_2 p2)), .val (.long ((w0_3 p3).toInt64)), .second, .unset, .unset, .unset, .unset, .unset, .unset, .unset, .unset, .unset] [(.double (0 : UInt64)), (.double (FP.ddiv (FP.i2d (w0_1 p1)) (4616189618054758400 : UInt64))), (.double (FP.ddiv (w0_4 p0) (4616189618054758400 : UInt64))), (.ref b5), (.ref b5)])) _
    exact k)
  have K_7 : ∀ t, Steps p.tables e below (T5.setTop (mkF m 53 #[.val (.int p0), .val (.int p1), .val (.int p2), .val (.int p3), .val (.int (p0 &&& (1023 : Int32))), .val (.int (w0_1 p1)), .val (.int (w0_2 p2)), .val (.long ((w0_3 p3).toInt64)), .second, .unset, .unset, .unset, .unset, .unset, .unset, .unset, .unset, .unset] [(.double (0 : UInt64)), (.double (w0_5 p1)), (.double (w0_6 p0)), (.ref b5), (.ref b5)])) t → Steps p.tables e below S0 t := K6
  obtain ⟨_, _, ⟨T8, L8, k8, n8⟩, -, X8, ⟨Lc8, hQ8, l8, y8, z8⟩, st8⟩ := X5.specialBack hx (y := (⟨"com/example/starling/starling/model/Bm25", "<init>", "(DDD)V"⟩ : MethodName)) rfl hown (mvT hZ (hw _ (List.mem_of_getElem? (i := 10) rfl))) (mvT hZ (hw _ (List.mem_of_getElem? (i := 11) rfl))) (mvT hZ (hw _ (List.mem_of_getElem? (i := 12) rfl))) (by decide) (backOf (W := 1) (rm3 l Z a0 hw [] b5 (w0_6 p0) (w0_5 p1) (0 : UInt64) h5 n0 Zs5 A5 F_b5_k1 F_b5_b F_b5_k3 g_b5 (own_c7 p0 p1) (own_c15 p0 p1) (own_c35 p0 p1) (own_c41 p0 p1) (own_c62 p0 p1) (own_c71 p0 p1)) hZ (hw _ (List.mem_of_getElem? (i := 12) rfl)) (hw _ (List.mem_of_getElem? (i := 8) rfl)) (by decide) (by decide)) (g := (mkF m 53 #[.val (.int p0), .val (.int p1), .val (.int p2), .val (.int p3), .val (.int (p0 &&& (1023 : Int32))), .val (.int (w0_1 p1)), .val (.int (w0_2 p2)), .val (.long ((w0_3 p3).toInt64)), .second, .unset, .unset, .unset, .unset, .unset, .unset, .unset, .unset, .unset] [(.double (0 : UInt64)), (.double (w0_5 p1)), (.double (w0_6 p0)), (.ref b5), (.ref b5)])) rfl (by rw [hml]; rfl) (Steps.refl _) (a := b5) (argsL := [(.double (w0_6 p0)), (.double (w0_5 p1)), (.double (0 : UInt64))]) (rest := [(.ref b5)]) (lenOf pd0_1 rfl) rfl (by show 2 * 0 + _ ≤ _; exact Nat.le_of_eq rfl) (hb hby at_53) (fun _ _ => ⟨rfl, e5, (by decide : 1 + 0 ≤ 16), (by decide : 3 + 0 ≤ 128)⟩)
  dsimp only [Pt.U, Pt.locs, Pt.cells, Pt.slots] at X8 l8 y8 z8 st8 hQ8
  subst l8 y8 z8
  obtain ⟨rfl, N8q, Kp8, Fn8_0, Fn8_1, Fn8_2, Fn8_3⟩ := hQ8
  have N8 := Fr.app N3 N8q
  have Zs8 : n0 ≤ T8.heap.size := Nat.le_trans Zs5 Kp8.1
  have K8 : ∀ t, Steps p.tables e below (T8.setTop (mkF m 56 #[.val (.int p0), .val (.int p1), .val (.int p2), .val (.int p3), .val (.int (p0 &&& (1023 : Int32))), .val (.int (w0_1 p1)), .val (.int (w0_2 p2)), .val (.long ((w0_3 p3).toInt64)), .second, .unset, .unset, .unset, .unset, .unset, .unset, .unset, .unset, .unset] [(.ref b5)])) t → Steps p.tables e below S0 t := fun t k => K_7 t (st8.trans k)
  have K9 : ∀ t, Steps p.tables e below (T8.setTop (mkF m 70 #[.val (.int p0), .val (.int p1), .val (.int p2), .val (.int p3), .val (.int (p0 &&& (1023 : Int32))), .val (.int (w0_1 p1)), .val (.int (w0_2 p2)), .val (.long ((w0_3 p3).toInt64)), .second, .val (.ref b5), .unset, .unset, .unset, .unset, .unset, .unset, .unset, .unset] [(.double (w0_7 p2)), (.int (((w0_3 p3).toInt64).toInt32)), (.ref b5)])) t → Steps p.tables e below S0 t := fun t k => K8 t (by
    refine XS.astore X8.here hx rfl (hb hby at_56) rfl rfl (l' := #[.val (.int p0), .val (.int p1), .val (.int p2), .val (.int p3), .val (.int (p0 &&& (1023 : Int32))), .val (.int (w0_1 p1)), .val (.int (w0_2 p2)), .val (.long ((w0_3 p3).toInt64)), .second, .val (.ref b5), .unset, .unset, .unset, .unset, .unset, .unset, .unset, .unset]) rfl ?_
    show Steps p.tables e below (T8.setTop (mkF m 58 #[.val (.int p0), .val (.int p1), .val (.int p2), .val (.int p3), .val (.int (p0 &&& (1023 : Int32))), .val (.int (w0_1 p1)), .val (.int (w0_2 p2)), .val (.long ((w0_3 p3).toInt64)), .second, .val (.ref b5), .unset, .unset, .unset, .unset, .unset, .unset, .unset, .unset] [])) _
    refine XS.aload X8.here hx rfl (hb hby at_58) rfl rfl ?_
    show Steps p.tables e below (T8.setTop (mkF m 60 #[.val (.int p0), .val (.int p1), .val (.int p2), .val (.int p3), .val (.int (p0 &&& (1023 : Int32))), .val (.int (w0_1 p1)), .val (.int (w0_2 p2)), .val (.long ((w0_3 p3).toInt64)), .second, .val (.ref b5), .unset, .unset, .unset, .unset, .unset, .unset, .unset, .unset] [(.ref b5)])) _
    refine XS.lload X8.here hx rfl (hb hby at_60) rfl ?_
    show Steps p.tables e below (T8.setTop (mkF m 62 #[.val (.int p0), .val (.int p1), .val (.int p2), .val (.int p3), .val (.int (p0 &&& (1023 : Int32))), .val (.int (w0_1 p1)), .val (.int (w0_2 p2)), .val (.long ((w0_3 p3).toInt64)), .second, .val (.ref b5), .unset, .unset, .unset, .unset, .unset, .unset, .unset, .unset] [(.long ((w0_3 p3).toInt64)), (.ref b5)])) _
    refine XS.l2i X8.here hx rfl (hb hby at_62) rfl ?_
    show Steps p.tables e below (T8.setTop (mkF m 63 #[.val (.int p0), .val (.int p1), .val (.int p2), .val (.int p3), .val (.int (p0 &&& (1023 : Int32))), .val (.int (w0_1 p1)), .val (.int (w0_2 p2)), .val (.long ((w0_3 p3).toInt64)), .second, .val (.ref b5), .unset, .unset, .unset, .unset, .unset, .unset, .unset, .unset] [(.int (((w0_3 p3).toInt64).toInt32)), (.ref b5)])) _
    refine XS.iload X8.here hx rfl (hb hby at_63) rfl ?_
    show Steps p.tables e below (T8.setTop (mkF m 65 #[.val (.int p0), .val (.int p1), .val (.int p2), .val (.int p3), .val (.int (p0 &&& (1023 : Int32))), .val (.int (w0_1 p1)), .val (.int (w0_2 p2)), .val (.long ((w0_3 p3).toInt64)), .second, .val (.ref b5), .unset, .unset, .unset, .unset, .unset, .unset, .unset, .unset] [(.int (w0_2 p2)), (.int (((w0_3 p3).toInt64).toInt32)), (.ref b5)])) _
    refine XS.i2dS X8.here hx rfl (hb hby at_65) rfl rfl ?_
    show Steps p.tables e below (T8.setTop (mkF m 66 #[.val (.int p0), .val (.int p1), .val (.int p2), .val (.int p3), .val (.int (p0 &&& (1023 : Int32))), .val (.int (w0_1 p1)), .val (.int (w0_2 p2)), .val (.long ((w0_3 p3).toInt64)), .second, .val (.ref b5), .unset, .unset, .unset, .unset, .unset, .unset, .unset, .unset] [(.double (FP.i2d (w0_2 p2))), (.int (((w0_3 p3).toInt64).toInt32)), (.ref b5)])) _
    refine X8.ldc2DoubleC hx hown (mvT hZ (hw _ (List.mem_of_getElem? (i := 9) rfl))) (g := (mkF m 66 #[.val (.int p0), .val (.int p1), .val (.int p2), .val (.int p3), .val (.int (p0 &&& (1023 : Int32))), .val (.int (w0_1 p1)), .val (.int (w0_2 p2)), .val (.long ((w0_3 p3).toInt64)), .second, .val (.ref b5), .unset, .unset, .unset, .unset, .unset, .unset, .unset, .unset] [(.double (FP.i2d (w0_2 p2))), (.int (((w0_3 p3).toInt64).toInt32)), (.ref b5)])) rfl (hb hby at_66) _ ?_
    show Steps p.tables e below (T8.setTop (mkF m 69 #[.val (.int p0), .val (.int p1), .val (.int p2), .val (.int p3), .val (.int (p0 &&& (1023 : Int32))), .val (.int (w0_1 p1)), .val (.int (w0_2 p2)), .val (.long ((w0_3 p3).toInt64)), .second, .val (.ref b5), .unset, .unset, .unset, .unset, .unset, .unset, .unset, .unset] [(.double (4616189618054758400 : UInt64)), (.double (FP.i2d (w0_2 p2))), (.int (((w0_3 p3).toInt64).toInt32)), (.ref b5)])) _
    refine XS.ddivS X8.here hx rfl (hb hby at_69) rfl (own_n69 p2) rfl ?_
    show Steps p.tables e below (T8.setTop (mkF m 70 #[.val (.int p0), .val (.int p1), .val (.int p2), .val (.int p3), .val (.int (p0 &&& (1023 : Int32))), .val (.int (w0_1 p1)), .val (.int (w0_2 p2)), .val (.long ((w0_3 p3).toInt64)), .second, .val (.ref b5), .unset, .unset, .unset, .unset, .unset, .unset, .unset, .unset] [(.double (FP.ddiv (FP.i2d (w0_2 p2)) (4616189618054758400 : UInt64))), (.int (((w0_3 p3).toInt64).toInt32)), (.ref b5)])) _
    exact k)
  have K_10 : ∀ t, Steps p.tables e below (T8.setTop (mkF m 70 #[.val (.int p0), .val (.int p1), .val (.int p2), .val (.int p3), .val (.int (p0 &&& (1023 : Int32))), .val (.int (w0_1 p1)), .val (.int (w0_2 p2)), .val (.long ((w0_3 p3).toInt64)), .second, .val (.ref b5), .unset, .unset, .unset, .unset, .unset, .unset, .unset, .unset] [(.double (w0_7 p2)), (.int (((w0_3 p3).toInt64).toInt32)), (.ref b5)])) t → Steps p.tables e below S0 t := K9
  obtain ⟨cq11, kq11, q11a, q11b, q11c⟩ := isOf hZ rfl Fn8_0
  obtain ⟨_, _, ⟨T11, L11, k11, n11⟩, -, X11, ⟨Lc11, hQ11, l11, y11, z11⟩, st11⟩ := X8.virtualBack hx (y := (⟨"com/example/starling/starling/model/Bm25", "documentWeight", "(ID)D"⟩ : MethodName)) (z := (⟨"com/example/starling/starling/model/Bm25", "documentWeight", "(ID)D"⟩ : MethodName)) hown (mvT hZ (hw _ (List.mem_of_getElem? (i := 28) rfl))) (mvT hZ (hw _ (List.mem_of_getElem? (i := 29) rfl))) (notFace_of_selects (args := #[]) (mvT hZ (hw _ (List.mem_of_getElem? (i := 31) rfl)))) (mvT hZ (hw _ (List.mem_of_getElem? (i := 31) rfl))) (mvT hZ (hw _ (List.mem_of_getElem? (i := 30) rfl))) (by decide) (backOf (W := 0) (rm4 l Z a0 hw [] b5 (((w0_3 p3).toInt64).toInt32) (w0_7 p2) (w0_6 p0) (w0_5 p1) T8.heap n0 Zs8 Fn8_1 Fn8_2 (own_w5 p0 p1 p2 p3) (own_w8 p0 p1 p2 p3) (own_w18 p0 p1 p2 p3) (own_w24 p0 p1 p2 p3) (own_w25 p0 p1 p2 p3) (own_w26 p0 p1 p2 p3) (own_w29 p0 p1 p2 p3) (own_w30 p0 p1 p2 p3)) hZ (hw _ (List.mem_of_getElem? (i := 32) rfl)) (hw _ (List.mem_of_getElem? (i := 8) rfl)) (by decide) (by decide)) q11a q11c (g := (mkF m 70 #[.val (.int p0), .val (.int p1), .val (.int p2), .val (.int p3), .val (.int (p0 &&& (1023 : Int32))), .val (.int (w0_1 p1)), .val (.int (w0_2 p2)), .val (.long ((w0_3 p3).toInt64)), .second, .val (.ref b5), .unset, .unset, .unset, .unset, .unset, .unset, .unset, .unset] [(.double (w0_7 p2)), (.int (((w0_3 p3).toInt64).toInt32)), (.ref b5)])) rfl (by rw [hml]; rfl) (Steps.refl _) (argsL := [(.int (((w0_3 p3).toInt64).toInt32)), (.double (w0_7 p2))]) (rest := []) (lenOf pd0_2 rfl) rfl (by show 2 * 0 + _ ≤ _; exact Nat.le_of_eq rfl) (hb hby at_70) (fun _ _ => ⟨rfl, rfl, (by decide : 1 + 0 ≤ 16), (by decide : 3 + 0 ≤ 128)⟩)
  dsimp only [Pt.U, Pt.locs, Pt.cells, Pt.slots] at X11 l11 y11 z11 st11 hQ11
  subst l11 y11 z11
  obtain ⟨rfl, N11q, e11⟩ := hQ11
  have N11 := Fr.app N8 N11q
  have K11 : ∀ t, Steps p.tables e below (T11.setTop (mkF m 73 #[.val (.int p0), .val (.int p1), .val (.int p2), .val (.int p3), .val (.int (p0 &&& (1023 : Int32))), .val (.int (w0_1 p1)), .val (.int (w0_2 p2)), .val (.long ((w0_3 p3).toInt64)), .second, .val (.ref b5), .unset, .unset, .unset, .unset, .unset, .unset, .unset, .unset] [(.double (w0_8 p0 p1 p2 p3))])) t → Steps p.tables e below S0 t := fun t k => K_10 t (st11.trans k)
  have K12 : ∀ t, Steps p.tables e below (T11.setTop (mkF m 135 #[.val (.int p0), .val (.int p1), .val (.int p2), .val (.int p3), .val (.int (p0 &&& (1023 : Int32))), .val (.int (w0_1 p1)), .val (.int (w0_2 p2)), .val (.long ((w0_3 p3).toInt64)), .second, .val (.ref b5), .val (.double (w0_8 p0 p1 p2 p3)), .second, .val (.long (w0_9 p0 p3)), .second, .val (.long (w0_10 p0 p1 p2 p3)), .second, .val (.double (w0_11 p0 p1 p2 p3)), .second] [(.int (cmpValue (FP.dcmp (w0_8 p0 p1 p2 p3) (w0_11 p0 p1 p2 p3)) .l))])) t → Steps p.tables e below S0 t := fun t k => K11 t (by
    refine XS.dstore X11.here hx rfl (hb hby at_73) rfl (l' := #[.val (.int p0), .val (.int p1), .val (.int p2), .val (.int p3), .val (.int (p0 &&& (1023 : Int32))), .val (.int (w0_1 p1)), .val (.int (w0_2 p2)), .val (.long ((w0_3 p3).toInt64)), .second, .val (.ref b5), .val (.double (w0_8 p0 p1 p2 p3)), .second, .unset, .unset, .unset, .unset, .unset, .unset]) rfl ?_
    show Steps p.tables e below (T11.setTop (mkF m 75 #[.val (.int p0), .val (.int p1), .val (.int p2), .val (.int p3), .val (.int (p0 &&& (1023 : Int32))), .val (.int (w0_1 p1)), .val (.int (w0_2 p2)), .val (.long ((w0_3 p3).toInt64)), .second, .val (.ref b5), .val (.double (w0_8 p0 p1 p2 p3)), .second, .unset, .unset, .unset, .unset, .unset, .unset] [])) _
    refine X11.ldc2Long hx hown (mvT hZ (hw _ (List.mem_of_getElem? (i := 33) rfl))) (g := (mkF m 75 #[.val (.int p0), .val (.int p1), .val (.int p2), .val (.int p3), .val (.int (p0 &&& (1023 : Int32))), .val (.int (w0_1 p1)), .val (.int (w0_2 p2)), .val (.long ((w0_3 p3).toInt64)), .second, .val (.ref b5), .val (.double (w0_8 p0 p1 p2 p3)), .second, .unset, .unset, .unset, .unset, .unset, .unset] [])) rfl (hb hby at_75) _ ?_
    show Steps p.tables e below (T11.setTop (mkF m 78 #[.val (.int p0), .val (.int p1), .val (.int p2), .val (.int p3), .val (.int (p0 &&& (1023 : Int32))), .val (.int (w0_1 p1)), .val (.int (w0_2 p2)), .val (.long ((w0_3 p3).toInt64)), .second, .val (.ref b5), .val (.double (w0_8 p0 p1 p2 p3)), .second, .unset, .unset, .unset, .unset, .unset, .unset] [(.long (16 : Int64))])) _
    refine XS.iload X11.here hx rfl (hb hby at_78) rfl ?_
    show Steps p.tables e below (T11.setTop (mkF m 80 #[.val (.int p0), .val (.int p1), .val (.int p2), .val (.int p3), .val (.int (p0 &&& (1023 : Int32))), .val (.int (w0_1 p1)), .val (.int (w0_2 p2)), .val (.long ((w0_3 p3).toInt64)), .second, .val (.ref b5), .val (.double (w0_8 p0 p1 p2 p3)), .second, .unset, .unset, .unset, .unset, .unset, .unset] [(.int (p0 &&& (1023 : Int32))), (.long (16 : Int64))])) _
    refine XS.iconst X11.here hx rfl (hb hby at_80) ?_
    show Steps p.tables e below (T11.setTop (mkF m 81 #[.val (.int p0), .val (.int p1), .val (.int p2), .val (.int p3), .val (.int (p0 &&& (1023 : Int32))), .val (.int (w0_1 p1)), .val (.int (w0_2 p2)), .val (.long ((w0_3 p3).toInt64)), .second, .val (.ref b5), .val (.double (w0_8 p0 p1 p2 p3)), .second, .unset, .unset, .unset, .unset, .unset, .unset] [(.int (4 : Int32)), (.int (p0 &&& (1023 : Int32))), (.long (16 : Int64))])) _
    refine XS.iadd X11.here hx rfl (hb hby at_81) rfl ?_
    show Steps p.tables e below (T11.setTop (mkF m 82 #[.val (.int p0), .val (.int p1), .val (.int p2), .val (.int p3), .val (.int (p0 &&& (1023 : Int32))), .val (.int (w0_1 p1)), .val (.int (w0_2 p2)), .val (.long ((w0_3 p3).toInt64)), .second, .val (.ref b5), .val (.double (w0_8 p0 p1 p2 p3)), .second, .unset, .unset, .unset, .unset, .unset, .unset] [(.int ((p0 &&& (1023 : Int32)) + (4 : Int32))), (.long (16 : Int64))])) _
    refine XS.i2l X11.here hx rfl (hb hby at_82) rfl ?_
    show Steps p.tables e below (T11.setTop (mkF m 83 #[.val (.int p0), .val (.int p1), .val (.int p2), .val (.int p3), .val (.int (p0 &&& (1023 : Int32))), .val (.int (w0_1 p1)), .val (.int (w0_2 p2)), .val (.long ((w0_3 p3).toInt64)), .second, .val (.ref b5), .val (.double (w0_8 p0 p1 p2 p3)), .second, .unset, .unset, .unset, .unset, .unset, .unset] [(.long (((p0 &&& (1023 : Int32)) + (4 : Int32)).toInt64)), (.long (16 : Int64))])) _
    refine XS.lmul X11.here hx rfl (hb hby at_83) rfl ?_
    show Steps p.tables e below (T11.setTop (mkF m 84 #[.val (.int p0), .val (.int p1), .val (.int p2), .val (.int p3), .val (.int (p0 &&& (1023 : Int32))), .val (.int (w0_1 p1)), .val (.int (w0_2 p2)), .val (.long ((w0_3 p3).toInt64)), .second, .val (.ref b5), .val (.double (w0_8 p0 p1 p2 p3)), .second, .unset, .unset, .unset, .unset, .unset, .unset] [(.long ((16 : Int64) * (((p0 &&& (1023 : Int32)) + (4 : Int32)).toInt64)))])) _
    refine XS.lload X11.here hx rfl (hb hby at_84) rfl ?_
    show Steps p.tables e below (T11.setTop (mkF m 86 #[.val (.int p0), .val (.int p1), .val (.int p2), .val (.int p3), .val (.int (p0 &&& (1023 : Int32))), .val (.int (w0_1 p1)), .val (.int (w0_2 p2)), .val (.long ((w0_3 p3).toInt64)), .second, .val (.ref b5), .val (.double (w0_8 p0 p1 p2 p3)), .second, .unset, .unset, .unset, .unset, .unset, .unset] [(.long ((w0_3 p3).toInt64)), (.long ((16 : Int64) * (((p0 &&& (1023 : Int32)) + (4 : Int32)).toInt64)))])) _
    refine XS.lmul X11.here hx rfl (hb hby at_86) rfl ?_
    show Steps p.tables e below (T11.setTop (mkF m 87 #[.val (.int p0), .val (.int p1), .val (.int p2), .val (.int p3), .val (.int (p0 &&& (1023 : Int32))), .val (.int (w0_1 p1)), .val (.int (w0_2 p2)), .val (.long ((w0_3 p3).toInt64)), .second, .val (.ref b5), .val (.double (w0_8 p0 p1 p2 p3)), .second, .unset, .unset, .unset, .unset, .unset, .unset] [(.long (((16 : Int64) * (((p0 &&& (1023 : Int32)) + (4 : Int32)).toInt64)) * ((w0_3 p3).toInt64)))])) _
    refine XS.lstore X11.here hx rfl (hb hby at_87) rfl (l' := #[.val (.int p0), .val (.int p1), .val (.int p2), .val (.int p3), .val (.int (p0 &&& (1023 : Int32))), .val (.int (w0_1 p1)), .val (.int (w0_2 p2)), .val (.long ((w0_3 p3).toInt64)), .second, .val (.ref b5), .val (.double (w0_8 p0 p1 p2 p3)), .second, .val (.long (w0_9 p0 p3)), .second, .unset, .unset, .unset, .unset]) rfl ?_
    show Steps p.tables e below (T11.setTop (mkF m 89 #[.val (.int p0), .val (.int p1), .val (.int p2), .val (.int p3), .val (.int (p0 &&& (1023 : Int32))), .val (.int (w0_1 p1)), .val (.int (w0_2 p2)), .val (.long ((w0_3 p3).toInt64)), .second, .val (.ref b5), .val (.double (w0_8 p0 p1 p2 p3)), .second, .val (.long (w0_9 p0 p3)), .second, .unset, .unset, .unset, .unset] [])) _
    refine XS.iload X11.here hx rfl (hb hby at_89) rfl ?_
    show Steps p.tables e below (T11.setTop (mkF m 91 #[.val (.int p0), .val (.int p1), .val (.int p2), .val (.int p3), .val (.int (p0 &&& (1023 : Int32))), .val (.int (w0_1 p1)), .val (.int (w0_2 p2)), .val (.long ((w0_3 p3).toInt64)), .second, .val (.ref b5), .val (.double (w0_8 p0 p1 p2 p3)), .second, .val (.long (w0_9 p0 p3)), .second, .unset, .unset, .unset, .unset] [(.int (p0 &&& (1023 : Int32)))])) _
    refine XS.i2l X11.here hx rfl (hb hby at_91) rfl ?_
    show Steps p.tables e below (T11.setTop (mkF m 92 #[.val (.int p0), .val (.int p1), .val (.int p2), .val (.int p3), .val (.int (p0 &&& (1023 : Int32))), .val (.int (w0_1 p1)), .val (.int (w0_2 p2)), .val (.long ((w0_3 p3).toInt64)), .second, .val (.ref b5), .val (.double (w0_8 p0 p1 p2 p3)), .second, .val (.long (w0_9 p0 p3)), .second, .unset, .unset, .unset, .unset] [(.long ((p0 &&& (1023 : Int32)).toInt64))])) _
    refine X11.ldc2Long hx hown (mvT hZ (hw _ (List.mem_of_getElem? (i := 33) rfl))) (g := (mkF m 92 #[.val (.int p0), .val (.int p1), .val (.int p2), .val (.int p3), .val (.int (p0 &&& (1023 : Int32))), .val (.int (w0_1 p1)), .val (.int (w0_2 p2)), .val (.long ((w0_3 p3).toInt64)), .second, .val (.ref b5), .val (.double (w0_8 p0 p1 p2 p3)), .second, .val (.long (w0_9 p0 p3)), .second, .unset, .unset, .unset, .unset] [(.long ((p0 &&& (1023 : Int32)).toInt64))])) rfl (hb hby at_92) _ ?_
    show Steps p.tables e below (T11.setTop (mkF m 95 #[.val (.int p0), .val (.int p1), .val (.int p2), .val (.int p3), .val (.int (p0 &&& (1023 : Int32))), .val (.int (w0_1 p1)), .val (.int (w0_2 p2)), .val (.long ((w0_3 p3).toInt64)), .second, .val (.ref b5), .val (.double (w0_8 p0 p1 p2 p3)), .second, .val (.long (w0_9 p0 p3)), .second, .unset, .unset, .unset, .unset] [(.long (16 : Int64)), (.long ((p0 &&& (1023 : Int32)).toInt64))])) _
    refine X11.ldc2Long hx hown (mvT hZ (hw _ (List.mem_of_getElem? (i := 34) rfl))) (g := (mkF m 95 #[.val (.int p0), .val (.int p1), .val (.int p2), .val (.int p3), .val (.int (p0 &&& (1023 : Int32))), .val (.int (w0_1 p1)), .val (.int (w0_2 p2)), .val (.long ((w0_3 p3).toInt64)), .second, .val (.ref b5), .val (.double (w0_8 p0 p1 p2 p3)), .second, .val (.long (w0_9 p0 p3)), .second, .unset, .unset, .unset, .unset] [(.long (16 : Int64)), (.long ((p0 &&& (1023 : Int32)).toInt64))])) rfl (hb hby at_95) _ ?_
    show Steps p.tables e below (T11.setTop (mkF m 98 #[.val (.int p0), .val (.int p1), .val (.int p2), .val (.int p3), .val (.int (p0 &&& (1023 : Int32))), .val (.int (w0_1 p1)), .val (.int (w0_2 p2)), .val (.long ((w0_3 p3).toInt64)), .second, .val (.ref b5), .val (.double (w0_8 p0 p1 p2 p3)), .second, .val (.long (w0_9 p0 p3)), .second, .unset, .unset, .unset, .unset] [(.long (4 : Int64)), (.long (16 : Int64)), (.long ((p0 &&& (1023 : Int32)).toInt64))])) _
    refine XS.iload X11.here hx rfl (hb hby at_98) rfl ?_
    show Steps p.tables e below (T11.setTop (mkF m 100 #[.val (.int p0), .val (.int p1), .val (.int p2), .val (.int p3), .val (.int (p0 &&& (1023 : Int32))), .val (.int (w0_1 p1)), .val (.int (w0_2 p2)), .val (.long ((w0_3 p3).toInt64)), .second, .val (.ref b5), .val (.double (w0_8 p0 p1 p2 p3)), .second, .val (.long (w0_9 p0 p3)), .second, .unset, .unset, .unset, .unset] [(.int (w0_1 p1)), (.long (4 : Int64)), (.long (16 : Int64)), (.long ((p0 &&& (1023 : Int32)).toInt64))])) _
    refine XS.i2l X11.here hx rfl (hb hby at_100) rfl ?_
    show Steps p.tables e below (T11.setTop (mkF m 101 #[.val (.int p0), .val (.int p1), .val (.int p2), .val (.int p3), .val (.int (p0 &&& (1023 : Int32))), .val (.int (w0_1 p1)), .val (.int (w0_2 p2)), .val (.long ((w0_3 p3).toInt64)), .second, .val (.ref b5), .val (.double (w0_8 p0 p1 p2 p3)), .second, .val (.long (w0_9 p0 p3)), .second, .unset, .unset, .unset, .unset] [(.long ((w0_1 p1).toInt64)), (.long (4 : Int64)), (.long (16 : Int64)), (.long ((p0 &&& (1023 : Int32)).toInt64))])) _
    refine XS.lmul X11.here hx rfl (hb hby at_101) rfl ?_
    show Steps p.tables e below (T11.setTop (mkF m 102 #[.val (.int p0), .val (.int p1), .val (.int p2), .val (.int p3), .val (.int (p0 &&& (1023 : Int32))), .val (.int (w0_1 p1)), .val (.int (w0_2 p2)), .val (.long ((w0_3 p3).toInt64)), .second, .val (.ref b5), .val (.double (w0_8 p0 p1 p2 p3)), .second, .val (.long (w0_9 p0 p3)), .second, .unset, .unset, .unset, .unset] [(.long ((4 : Int64) * ((w0_1 p1).toInt64))), (.long (16 : Int64)), (.long ((p0 &&& (1023 : Int32)).toInt64))])) _
    refine XS.lsub X11.here hx rfl (hb hby at_102) rfl ?_
    show Steps p.tables e below (T11.setTop (mkF m 103 #[.val (.int p0), .val (.int p1), .val (.int p2), .val (.int p3), .val (.int (p0 &&& (1023 : Int32))), .val (.int (w0_1 p1)), .val (.int (w0_2 p2)), .val (.long ((w0_3 p3).toInt64)), .second, .val (.ref b5), .val (.double (w0_8 p0 p1 p2 p3)), .second, .val (.long (w0_9 p0 p3)), .second, .unset, .unset, .unset, .unset] [(.long ((16 : Int64) - ((4 : Int64) * ((w0_1 p1).toInt64)))), (.long ((p0 &&& (1023 : Int32)).toInt64))])) _
    refine XS.iload X11.here hx rfl (hb hby at_103) rfl ?_
    show Steps p.tables e below (T11.setTop (mkF m 105 #[.val (.int p0), .val (.int p1), .val (.int p2), .val (.int p3), .val (.int (p0 &&& (1023 : Int32))), .val (.int (w0_1 p1)), .val (.int (w0_2 p2)), .val (.long ((w0_3 p3).toInt64)), .second, .val (.ref b5), .val (.double (w0_8 p0 p1 p2 p3)), .second, .val (.long (w0_9 p0 p3)), .second, .unset, .unset, .unset, .unset] [(.int (w0_1 p1)), (.long ((16 : Int64) - ((4 : Int64) * ((w0_1 p1).toInt64)))), (.long ((p0 &&& (1023 : Int32)).toInt64))])) _
    refine XS.i2l X11.here hx rfl (hb hby at_105) rfl ?_
    show Steps p.tables e below (T11.setTop (mkF m 106 #[.val (.int p0), .val (.int p1), .val (.int p2), .val (.int p3), .val (.int (p0 &&& (1023 : Int32))), .val (.int (w0_1 p1)), .val (.int (w0_2 p2)), .val (.long ((w0_3 p3).toInt64)), .second, .val (.ref b5), .val (.double (w0_8 p0 p1 p2 p3)), .second, .val (.long (w0_9 p0 p3)), .second, .unset, .unset, .unset, .unset] [(.long ((w0_1 p1).toInt64)), (.long ((16 : Int64) - ((4 : Int64) * ((w0_1 p1).toInt64)))), (.long ((p0 &&& (1023 : Int32)).toInt64))])) _
    refine XS.iload X11.here hx rfl (hb hby at_106) rfl ?_
    show Steps p.tables e below (T11.setTop (mkF m 108 #[.val (.int p0), .val (.int p1), .val (.int p2), .val (.int p3), .val (.int (p0 &&& (1023 : Int32))), .val (.int (w0_1 p1)), .val (.int (w0_2 p2)), .val (.long ((w0_3 p3).toInt64)), .second, .val (.ref b5), .val (.double (w0_8 p0 p1 p2 p3)), .second, .val (.long (w0_9 p0 p3)), .second, .unset, .unset, .unset, .unset] [(.int (w0_2 p2)), (.long ((w0_1 p1).toInt64)), (.long ((16 : Int64) - ((4 : Int64) * ((w0_1 p1).toInt64)))), (.long ((p0 &&& (1023 : Int32)).toInt64))])) _
    refine XS.i2l X11.here hx rfl (hb hby at_108) rfl ?_
    show Steps p.tables e below (T11.setTop (mkF m 109 #[.val (.int p0), .val (.int p1), .val (.int p2), .val (.int p3), .val (.int (p0 &&& (1023 : Int32))), .val (.int (w0_1 p1)), .val (.int (w0_2 p2)), .val (.long ((w0_3 p3).toInt64)), .second, .val (.ref b5), .val (.double (w0_8 p0 p1 p2 p3)), .second, .val (.long (w0_9 p0 p3)), .second, .unset, .unset, .unset, .unset] [(.long ((w0_2 p2).toInt64)), (.long ((w0_1 p1).toInt64)), (.long ((16 : Int64) - ((4 : Int64) * ((w0_1 p1).toInt64)))), (.long ((p0 &&& (1023 : Int32)).toInt64))])) _
    refine XS.lmul X11.here hx rfl (hb hby at_109) rfl ?_
    show Steps p.tables e below (T11.setTop (mkF m 110 #[.val (.int p0), .val (.int p1), .val (.int p2), .val (.int p3), .val (.int (p0 &&& (1023 : Int32))), .val (.int (w0_1 p1)), .val (.int (w0_2 p2)), .val (.long ((w0_3 p3).toInt64)), .second, .val (.ref b5), .val (.double (w0_8 p0 p1 p2 p3)), .second, .val (.long (w0_9 p0 p3)), .second, .unset, .unset, .unset, .unset] [(.long (((w0_1 p1).toInt64) * ((w0_2 p2).toInt64))), (.long ((16 : Int64) - ((4 : Int64) * ((w0_1 p1).toInt64)))), (.long ((p0 &&& (1023 : Int32)).toInt64))])) _
    refine XS.ladd X11.here hx rfl (hb hby at_110) rfl ?_
    show Steps p.tables e below (T11.setTop (mkF m 111 #[.val (.int p0), .val (.int p1), .val (.int p2), .val (.int p3), .val (.int (p0 &&& (1023 : Int32))), .val (.int (w0_1 p1)), .val (.int (w0_2 p2)), .val (.long ((w0_3 p3).toInt64)), .second, .val (.ref b5), .val (.double (w0_8 p0 p1 p2 p3)), .second, .val (.long (w0_9 p0 p3)), .second, .unset, .unset, .unset, .unset] [(.long (((16 : Int64) - ((4 : Int64) * ((w0_1 p1).toInt64))) + (((w0_1 p1).toInt64) * ((w0_2 p2).toInt64)))), (.long ((p0 &&& (1023 : Int32)).toInt64))])) _
    refine XS.lmul X11.here hx rfl (hb hby at_111) rfl ?_
    show Steps p.tables e below (T11.setTop (mkF m 112 #[.val (.int p0), .val (.int p1), .val (.int p2), .val (.int p3), .val (.int (p0 &&& (1023 : Int32))), .val (.int (w0_1 p1)), .val (.int (w0_2 p2)), .val (.long ((w0_3 p3).toInt64)), .second, .val (.ref b5), .val (.double (w0_8 p0 p1 p2 p3)), .second, .val (.long (w0_9 p0 p3)), .second, .unset, .unset, .unset, .unset] [(.long (((p0 &&& (1023 : Int32)).toInt64) * (((16 : Int64) - ((4 : Int64) * ((w0_1 p1).toInt64))) + (((w0_1 p1).toInt64) * ((w0_2 p2).toInt64)))))])) _
    refine X11.ldc2Long hx hown (mvT hZ (hw _ (List.mem_of_getElem? (i := 35) rfl))) (g := (mkF m 112 #[.val (.int p0), .val (.int p1), .val (.int p2), .val (.int p3), .val (.int (p0 &&& (1023 : Int32))), .val (.int (w0_1 p1)), .val (.int (w0_2 p2)), .val (.long ((w0_3 p3).toInt64)), .second, .val (.ref b5), .val (.double (w0_8 p0 p1 p2 p3)), .second, .val (.long (w0_9 p0 p3)), .second, .unset, .unset, .unset, .unset] [(.long (((p0 &&& (1023 : Int32)).toInt64) * (((16 : Int64) - ((4 : Int64) * ((w0_1 p1).toInt64))) + (((w0_1 p1).toInt64) * ((w0_2 p2).toInt64)))))])) rfl (hb hby at_112) _ ?_
    show Steps p.tables e below (T11.setTop (mkF m 115 #[.val (.int p0), .val (.int p1), .val (.int p2), .val (.int p3), .val (.int (p0 &&& (1023 : Int32))), .val (.int (w0_1 p1)), .val (.int (w0_2 p2)), .val (.long ((w0_3 p3).toInt64)), .second, .val (.ref b5), .val (.double (w0_8 p0 p1 p2 p3)), .second, .val (.long (w0_9 p0 p3)), .second, .unset, .unset, .unset, .unset] [(.long (64 : Int64)), (.long (((p0 &&& (1023 : Int32)).toInt64) * (((16 : Int64) - ((4 : Int64) * ((w0_1 p1).toInt64))) + (((w0_1 p1).toInt64) * ((w0_2 p2).toInt64)))))])) _
    refine XS.lload X11.here hx rfl (hb hby at_115) rfl ?_
    show Steps p.tables e below (T11.setTop (mkF m 117 #[.val (.int p0), .val (.int p1), .val (.int p2), .val (.int p3), .val (.int (p0 &&& (1023 : Int32))), .val (.int (w0_1 p1)), .val (.int (w0_2 p2)), .val (.long ((w0_3 p3).toInt64)), .second, .val (.ref b5), .val (.double (w0_8 p0 p1 p2 p3)), .second, .val (.long (w0_9 p0 p3)), .second, .unset, .unset, .unset, .unset] [(.long ((w0_3 p3).toInt64)), (.long (64 : Int64)), (.long (((p0 &&& (1023 : Int32)).toInt64) * (((16 : Int64) - ((4 : Int64) * ((w0_1 p1).toInt64))) + (((w0_1 p1).toInt64) * ((w0_2 p2).toInt64)))))])) _
    refine XS.lmul X11.here hx rfl (hb hby at_117) rfl ?_
    show Steps p.tables e below (T11.setTop (mkF m 118 #[.val (.int p0), .val (.int p1), .val (.int p2), .val (.int p3), .val (.int (p0 &&& (1023 : Int32))), .val (.int (w0_1 p1)), .val (.int (w0_2 p2)), .val (.long ((w0_3 p3).toInt64)), .second, .val (.ref b5), .val (.double (w0_8 p0 p1 p2 p3)), .second, .val (.long (w0_9 p0 p3)), .second, .unset, .unset, .unset, .unset] [(.long ((64 : Int64) * ((w0_3 p3).toInt64))), (.long (((p0 &&& (1023 : Int32)).toInt64) * (((16 : Int64) - ((4 : Int64) * ((w0_1 p1).toInt64))) + (((w0_1 p1).toInt64) * ((w0_2 p2).toInt64)))))])) _
    refine XS.ladd X11.here hx rfl (hb hby at_118) rfl ?_
    show Steps p.tables e below (T11.setTop (mkF m 119 #[.val (.int p0), .val (.int p1), .val (.int p2), .val (.int p3), .val (.int (p0 &&& (1023 : Int32))), .val (.int (w0_1 p1)), .val (.int (w0_2 p2)), .val (.long ((w0_3 p3).toInt64)), .second, .val (.ref b5), .val (.double (w0_8 p0 p1 p2 p3)), .second, .val (.long (w0_9 p0 p3)), .second, .unset, .unset, .unset, .unset] [(.long ((((p0 &&& (1023 : Int32)).toInt64) * (((16 : Int64) - ((4 : Int64) * ((w0_1 p1).toInt64))) + (((w0_1 p1).toInt64) * ((w0_2 p2).toInt64)))) + ((64 : Int64) * ((w0_3 p3).toInt64))))])) _
    refine XS.lstore X11.here hx rfl (hb hby at_119) rfl (l' := #[.val (.int p0), .val (.int p1), .val (.int p2), .val (.int p3), .val (.int (p0 &&& (1023 : Int32))), .val (.int (w0_1 p1)), .val (.int (w0_2 p2)), .val (.long ((w0_3 p3).toInt64)), .second, .val (.ref b5), .val (.double (w0_8 p0 p1 p2 p3)), .second, .val (.long (w0_9 p0 p3)), .second, .val (.long (w0_10 p0 p1 p2 p3)), .second, .unset, .unset]) rfl ?_
    show Steps p.tables e below (T11.setTop (mkF m 121 #[.val (.int p0), .val (.int p1), .val (.int p2), .val (.int p3), .val (.int (p0 &&& (1023 : Int32))), .val (.int (w0_1 p1)), .val (.int (w0_2 p2)), .val (.long ((w0_3 p3).toInt64)), .second, .val (.ref b5), .val (.double (w0_8 p0 p1 p2 p3)), .second, .val (.long (w0_9 p0 p3)), .second, .val (.long (w0_10 p0 p1 p2 p3)), .second, .unset, .unset] [])) _
    refine XS.lload X11.here hx rfl (hb hby at_121) rfl ?_
    show Steps p.tables e below (T11.setTop (mkF m 123 #[.val (.int p0), .val (.int p1), .val (.int p2), .val (.int p3), .val (.int (p0 &&& (1023 : Int32))), .val (.int (w0_1 p1)), .val (.int (w0_2 p2)), .val (.long ((w0_3 p3).toInt64)), .second, .val (.ref b5), .val (.double (w0_8 p0 p1 p2 p3)), .second, .val (.long (w0_9 p0 p3)), .second, .val (.long (w0_10 p0 p1 p2 p3)), .second, .unset, .unset] [(.long (w0_9 p0 p3))])) _
    refine XS.l2dS X11.here hx rfl (hb hby at_123) rfl rfl ?_
    show Steps p.tables e below (T11.setTop (mkF m 124 #[.val (.int p0), .val (.int p1), .val (.int p2), .val (.int p3), .val (.int (p0 &&& (1023 : Int32))), .val (.int (w0_1 p1)), .val (.int (w0_2 p2)), .val (.long ((w0_3 p3).toInt64)), .second, .val (.ref b5), .val (.double (w0_8 p0 p1 p2 p3)), .second, .val (.long (w0_9 p0 p3)), .second, .val (.long (w0_10 p0 p1 p2 p3)), .second, .unset, .unset] [(.double (FP.l2d (w0_9 p0 p3)))])) _
    refine XS.lload X11.here hx rfl (hb hby at_124) rfl ?_
    show Steps p.tables e below (T11.setTop (mkF m 126 #[.val (.int p0), .val (.int p1), .val (.int p2), .val (.int p3), .val (.int (p0 &&& (1023 : Int32))), .val (.int (w0_1 p1)), .val (.int (w0_2 p2)), .val (.long ((w0_3 p3).toInt64)), .second, .val (.ref b5), .val (.double (w0_8 p0 p1 p2 p3)), .second, .val (.long (w0_9 p0 p3)), .second, .val (.long (w0_10 p0 p1 p2 p3)), .second, .unset, .unset] [(.long (w0_10 p0 p1 p2 p3)), (.double (FP.l2d (w0_9 p0 p3)))])) _
    refine XS.l2dS X11.here hx rfl (hb hby at_126) rfl rfl ?_
    show Steps p.tables e below (T11.setTop (mkF m 127 #[.val (.int p0), .val (.int p1), .val (.int p2), .val (.int p3), .val (.int (p0 &&& (1023 : Int32))), .val (.int (w0_1 p1)), .val (.int (w0_2 p2)), .val (.long ((w0_3 p3).toInt64)), .second, .val (.ref b5), .val (.double (w0_8 p0 p1 p2 p3)), .second, .val (.long (w0_9 p0 p3)), .second, .val (.long (w0_10 p0 p1 p2 p3)), .second, .unset, .unset] [(.double (FP.l2d (w0_10 p0 p1 p2 p3))), (.double (FP.l2d (w0_9 p0 p3)))])) _
    refine XS.ddivS X11.here hx rfl (hb hby at_127) rfl (own_n127 p0 p1 p2 p3) rfl ?_
    show Steps p.tables e below (T11.setTop (mkF m 128 #[.val (.int p0), .val (.int p1), .val (.int p2), .val (.int p3), .val (.int (p0 &&& (1023 : Int32))), .val (.int (w0_1 p1)), .val (.int (w0_2 p2)), .val (.long ((w0_3 p3).toInt64)), .second, .val (.ref b5), .val (.double (w0_8 p0 p1 p2 p3)), .second, .val (.long (w0_9 p0 p3)), .second, .val (.long (w0_10 p0 p1 p2 p3)), .second, .unset, .unset] [(.double (FP.ddiv (FP.l2d (w0_9 p0 p3)) (FP.l2d (w0_10 p0 p1 p2 p3))))])) _
    refine XS.dstore X11.here hx rfl (hb hby at_128) rfl (l' := #[.val (.int p0), .val (.int p1), .val (.int p2), .val (.int p3), .val (.int (p0 &&& (1023 : Int32))), .val (.int (w0_1 p1)), .val (.int (w0_2 p2)), .val (.long ((w0_3 p3).toInt64)), .second, .val (.ref b5), .val (.double (w0_8 p0 p1 p2 p3)), .second, .val (.long (w0_9 p0 p3)), .second, .val (.long (w0_10 p0 p1 p2 p3)), .second, .val (.double (w0_11 p0 p1 p2 p3)), .second]) rfl ?_
    show Steps p.tables e below (T11.setTop (mkF m 130 #[.val (.int p0), .val (.int p1), .val (.int p2), .val (.int p3), .val (.int (p0 &&& (1023 : Int32))), .val (.int (w0_1 p1)), .val (.int (w0_2 p2)), .val (.long ((w0_3 p3).toInt64)), .second, .val (.ref b5), .val (.double (w0_8 p0 p1 p2 p3)), .second, .val (.long (w0_9 p0 p3)), .second, .val (.long (w0_10 p0 p1 p2 p3)), .second, .val (.double (w0_11 p0 p1 p2 p3)), .second] [])) _
    refine XS.dload X11.here hx rfl (hb hby at_130) rfl ?_
    show Steps p.tables e below (T11.setTop (mkF m 132 #[.val (.int p0), .val (.int p1), .val (.int p2), .val (.int p3), .val (.int (p0 &&& (1023 : Int32))), .val (.int (w0_1 p1)), .val (.int (w0_2 p2)), .val (.long ((w0_3 p3).toInt64)), .second, .val (.ref b5), .val (.double (w0_8 p0 p1 p2 p3)), .second, .val (.long (w0_9 p0 p3)), .second, .val (.long (w0_10 p0 p1 p2 p3)), .second, .val (.double (w0_11 p0 p1 p2 p3)), .second] [(.double (w0_8 p0 p1 p2 p3))])) _
    refine XS.dload X11.here hx rfl (hb hby at_132) rfl ?_
    show Steps p.tables e below (T11.setTop (mkF m 134 #[.val (.int p0), .val (.int p1), .val (.int p2), .val (.int p3), .val (.int (p0 &&& (1023 : Int32))), .val (.int (w0_1 p1)), .val (.int (w0_2 p2)), .val (.long ((w0_3 p3).toInt64)), .second, .val (.ref b5), .val (.double (w0_8 p0 p1 p2 p3)), .second, .val (.long (w0_9 p0 p3)), .second, .val (.long (w0_10 p0 p1 p2 p3)), .second, .val (.double (w0_11 p0 p1 p2 p3)), .second] [(.double (w0_11 p0 p1 p2 p3)), (.double (w0_8 p0 p1 p2 p3))])) _
    refine XS.dcmpS X11.here hx rfl (hb hby at_134) rfl rfl ?_
    show Steps p.tables e below (T11.setTop (mkF m 135 #[.val (.int p0), .val (.int p1), .val (.int p2), .val (.int p3), .val (.int (p0 &&& (1023 : Int32))), .val (.int (w0_1 p1)), .val (.int (w0_2 p2)), .val (.long ((w0_3 p3).toInt64)), .second, .val (.ref b5), .val (.double (w0_8 p0 p1 p2 p3)), .second, .val (.long (w0_9 p0 p3)), .second, .val (.long (w0_10 p0 p1 p2 p3)), .second, .val (.double (w0_11 p0 p1 p2 p3)), .second] [(.int (cmpValue (FP.dcmp (w0_8 p0 p1 p2 p3) (w0_11 p0 p1 p2 p3)) .l))])) _
    exact k)
  by_cases hc135_0 : (w0_12 p0 p1 p2 p3) = (0 : Int32)
  · -- yes
    have K13 : ∀ t, Steps p.tables e below (T11.setTop (mkF m 143 #[.val (.int p0), .val (.int p1), .val (.int p2), .val (.int p3), .val (.int (p0 &&& (1023 : Int32))), .val (.int (w0_1 p1)), .val (.int (w0_2 p2)), .val (.long ((w0_3 p3).toInt64)), .second, .val (.ref b5), .val (.double (w0_8 p0 p1 p2 p3)), .second, .val (.long (w0_9 p0 p3)), .second, .val (.long (w0_10 p0 p1 p2 p3)), .second, .val (.double (w0_11 p0 p1 p2 p3)), .second] [(.int (1 : Int32))])) t → Steps p.tables e below S0 t := fun t k => K12 t (by
      refine XS.ifNo X11.here hx rfl (hb hby at_135) rfl (XT.i0_ne_f hc135_0) ?_
      show Steps p.tables e below (T11.setTop (mkF m 138 #[.val (.int p0), .val (.int p1), .val (.int p2), .val (.int p3), .val (.int (p0 &&& (1023 : Int32))), .val (.int (w0_1 p1)), .val (.int (w0_2 p2)), .val (.long ((w0_3 p3).toInt64)), .second, .val (.ref b5), .val (.double (w0_8 p0 p1 p2 p3)), .second, .val (.long (w0_9 p0 p3)), .second, .val (.long (w0_10 p0 p1 p2 p3)), .second, .val (.double (w0_11 p0 p1 p2 p3)), .second] [])) _
      refine XS.iconst X11.here hx rfl (hb hby at_138) ?_
      show Steps p.tables e below (T11.setTop (mkF m 139 #[.val (.int p0), .val (.int p1), .val (.int p2), .val (.int p3), .val (.int (p0 &&& (1023 : Int32))), .val (.int (w0_1 p1)), .val (.int (w0_2 p2)), .val (.long ((w0_3 p3).toInt64)), .second, .val (.ref b5), .val (.double (w0_8 p0 p1 p2 p3)), .second, .val (.long (w0_9 p0 p3)), .second, .val (.long (w0_10 p0 p1 p2 p3)), .second, .val (.double (w0_11 p0 p1 p2 p3)), .second] [(.int (1 : Int32))])) _
      refine XS.goto X11.here hx rfl (pc0 := 139) (pc' := 143) rfl (hb hby at_139) (by decide) (by decide) ?_
      show Steps p.tables e below (T11.setTop (mkF m 143 #[.val (.int p0), .val (.int p1), .val (.int p2), .val (.int p3), .val (.int (p0 &&& (1023 : Int32))), .val (.int (w0_1 p1)), .val (.int (w0_2 p2)), .val (.long ((w0_3 p3).toInt64)), .second, .val (.ref b5), .val (.double (w0_8 p0 p1 p2 p3)), .second, .val (.long (w0_9 p0 p3)), .second, .val (.long (w0_10 p0 p1 p2 p3)), .second, .val (.double (w0_11 p0 p1 p2 p3)), .second] [(.int (1 : Int32))])) _
      exact k)
    obtain ⟨fs, hr, hrun, hended, hW, hsame⟩ := X11.leave (v := some (.int (1 : Int32))) (fun h => by rw [Bd.returns] at h; cases h) hlk
    refine ⟨_, _, ?_, hrun, hended, _, _, rfl, ?_, ⟨_, rfl⟩, hW, hsame.mono (by decide) (by decide)⟩
    · rw [← hS0]; exact K13 _ (retN X11 hx (t := .boolean) Bd.returns (by simp) (hb hby at_143) hr)
    · show Q0 Z p0 p1 p2 p3 h0 n0 _ T11.heap _
      rw [e11]
      have qr : (1 : Int32) = (w0_r13 p0 p1 p2 p3) := by unfold w0_r13; rw [if_pos hc135_0]
      exact ⟨congrArg (fun z => some (Value.int z)) qr, N11⟩
  · -- no
    have K14 : ∀ t, Steps p.tables e below (T11.setTop (mkF m 143 #[.val (.int p0), .val (.int p1), .val (.int p2), .val (.int p3), .val (.int (p0 &&& (1023 : Int32))), .val (.int (w0_1 p1)), .val (.int (w0_2 p2)), .val (.long ((w0_3 p3).toInt64)), .second, .val (.ref b5), .val (.double (w0_8 p0 p1 p2 p3)), .second, .val (.long (w0_9 p0 p3)), .second, .val (.long (w0_10 p0 p1 p2 p3)), .second, .val (.double (w0_11 p0 p1 p2 p3)), .second] [(.int (0 : Int32))])) t → Steps p.tables e below S0 t := fun t k => K12 t (by
      refine XS.ifYes X11.here hx rfl (pc0 := 135) (pc' := 142) rfl (hb hby at_135) rfl (XT.i0_ne_t hc135_0) (by decide) (by decide) ?_
      show Steps p.tables e below (T11.setTop (mkF m 142 #[.val (.int p0), .val (.int p1), .val (.int p2), .val (.int p3), .val (.int (p0 &&& (1023 : Int32))), .val (.int (w0_1 p1)), .val (.int (w0_2 p2)), .val (.long ((w0_3 p3).toInt64)), .second, .val (.ref b5), .val (.double (w0_8 p0 p1 p2 p3)), .second, .val (.long (w0_9 p0 p3)), .second, .val (.long (w0_10 p0 p1 p2 p3)), .second, .val (.double (w0_11 p0 p1 p2 p3)), .second] [])) _
      refine XS.iconst X11.here hx rfl (hb hby at_142) ?_
      show Steps p.tables e below (T11.setTop (mkF m 143 #[.val (.int p0), .val (.int p1), .val (.int p2), .val (.int p3), .val (.int (p0 &&& (1023 : Int32))), .val (.int (w0_1 p1)), .val (.int (w0_2 p2)), .val (.long ((w0_3 p3).toInt64)), .second, .val (.ref b5), .val (.double (w0_8 p0 p1 p2 p3)), .second, .val (.long (w0_9 p0 p3)), .second, .val (.long (w0_10 p0 p1 p2 p3)), .second, .val (.double (w0_11 p0 p1 p2 p3)), .second] [(.int (0 : Int32))])) _
      exact k)
    obtain ⟨fs, hr, hrun, hended, hW, hsame⟩ := X11.leave (v := some (.int (0 : Int32))) (fun h => by rw [Bd.returns] at h; cases h) hlk
    refine ⟨_, _, ?_, hrun, hended, _, _, rfl, ?_, ⟨_, rfl⟩, hW, hsame.mono (by decide) (by decide)⟩
    · rw [← hS0]; exact K14 _ (retN X11 hx (t := .boolean) Bd.returns (by simp) (hb hby at_143) hr)
    · show Q0 Z p0 p1 p2 p3 h0 n0 _ T11.heap _
      rw [e11]
      have qr : (0 : Int32) = (w0_r13 p0 p1 p2 p3) := by unfold w0_r13; rw [if_neg hc135_0]
      exact ⟨congrArg (fun z => some (Value.int z)) qr, N11⟩
set_option maxRecDepth 65536 in
set_option maxHeartbeats 40000000 in
theorem comes_1 {Post : Tables → Env → Array Value → State → Outcome → State → Prop} (hpost : ∀ tb e args s v u, (limb_1_1.after args s (.returned v) u = true ∧ limb_1_2.after args s (.returned v) u = true ∧ True) → FrameEnd s (.returned v) u (Jvm.fieldLocs frame_1_writes args s ++ Jvm.arrayLocs frame_1_arrays args s ++ Jvm.staticLocs frame_1_statics s) 16 128 → Post tb e args s (.returned v) u) :
    ArmFor flags0 classFile x code maxLocals ret World_1 tables_1 room_1 Calls_1 rest_1 Pre_1 Post := by
  intro l hfl _ _ p e ha hc hk s m args below hf hA hF happ hP
  obtain ⟨hcalls, hrest, hpre⟩ := hP
  obtain ⟨-, -, -, hnamed, -, -, -, hat⟩ := (Spec.applies_iff hf).mp happ
  obtain ⟨hg, hn⟩ := and_e (Cond.before_iff.mp (show (Jvm.Cond.and given_1 narrow_1).before args s = true from hpre))
  obtain ⟨hcount, hv0⟩ := and_e hg
  obtain ⟨hi0, hv1⟩ := and_e hv0
  obtain ⟨hi1, hv2⟩ := and_e hv1
  obtain ⟨hi2, hv3⟩ := and_e hv2
  have hi3 := hv3
  obtain ⟨w0, w1, w2, w3, rfl⟩ : ∃ w0 w1 w2 w3 : Value, args = #[w0, w1, w2, w3] := by
    have hs : args.size = 4 := by simpa [Cond.value, given_1] using hcount
    obtain ⟨L⟩ := args
    match L, hs with
    | [w0, w1, w2, w3], _ => exact ⟨w0, w1, w2, w3, rfl⟩
  have hw := fun d (hd : d ∈ tables_1) => atoms_spec (ws := Jvm.Cond.code x code maxLocals ret :: tables_1) hat d (List.mem_cons_of_mem _ hd)
  have hfit : Fit s := fun {y c} hc i hi => by
    obtain ⟨ha, rfl⟩ := Array.getElem?_eq_some_iff.mp hc
    have q := List.all_eq_true.mp ((Array.all_eq_true_iff_forall_mem.mp hF) _ (Array.getElem_mem ha)) i (List.mem_range.mpr hi)
    simpa [Array.getElem?_eq_getElem hi] using q
  obtain ⟨i0, ei0⟩ := is_v hi0
  obtain rfl : w0 = (.int i0) := Option.some.inj ei0
  obtain ⟨i1, ei1⟩ := is_v hi1
  obtain rfl : w1 = (.int i1) := Option.some.inj ei1
  obtain ⟨i2, ei2⟩ := is_v hi2
  obtain rfl : w2 = (.int i2) := Option.some.inj ei2
  obtain ⟨i3, ei3⟩ := is_v hi3
  obtain rfl : w3 = (.int i3) := Option.some.inj ei3
  obtain ⟨n, o, h1, h2, h3, _, L, rfl, ⟨rfl, N⟩, hq⟩ := rm0 l s _ hw tables_1 i0 i1 i2 i3  s.heap s.heap.size (Nat.le_refl _)  p e ha hc hk s m _ below hf ((Spec.applies_iff_loose hf).mp happ).1 ⟨rfl, State.Warmed39.refl s, rfl⟩ trivial
  refine ⟨n, _, h1, h2, h3, hpost _ _ _ _ _ _ ⟨Cond.after_iff.mpr rfl, Cond.after_iff.mpr (eq_i res_at (Term.int_eval (1)) (congrArg Value.int (plain_law i0 i1 i2 i3))), trivial⟩ ⟨hq.1, hq.2.1, (hq.2.2.sift fun y hy => Or.inr (N y hy)).mono (by decide) (by decide)⟩⟩
theorem main_1_1 : Claimed_1_1 := comes_1 fun _ _ _ _ _ _ h hF => ⟨h.1, hF⟩
theorem main_1_2 : Claimed_1_2 := comes_1 fun _ _ _ _ _ _ h hF => ⟨h.2.1, hF⟩
end Jvm.Pilot.@@N@@
namespace Jvm.Pilot.@@N@@
open Jvm Jvm.ClassFile Sem Op Lib Jvm.Free Jvm.Stand Jvm.Pilot.@@N@@.Jvm.D
/-! MADE BY PROGRAM (witnessworld.py) out of the Statement's table words and the real class files: 12 classes; the members and pool entries that the words name. The judged class is class 1, her method 1. -/
namespace start1
open Jvm.ClassFile
def u (s : String) : CpInfo := .utf8 (stringToUtf16 s)
/-- a pool by its gaps: so many unusable entries, then the entry; so many at the end -/
def gap : Nat → List CpInfo → List CpInfo
  | 0, r => r
  | n + 1, r => .unusable :: gap n r
def poolList (es : List (Nat × CpInfo)) (last : Nat) : List CpInfo := es.foldr (fun e r => gap e.1 (e.2 :: r)) (gap last [])
def pool (es : List (Nat × CpInfo)) (last : Nat) : Array CpInfo := ⟨poolList es last⟩
def fileOf (pool : Array CpInfo) (this : Nat) (attrs : Array Attribute := #[]) (ms : Array MethodInfo := #[]) (fl : Nat := 33) (sup : Nat := 0) (ifs : Array Nat := #[]) (fds : Array FieldInfo := #[]) : ClassFile where
  minorVersion := 0
  majorVersion := 65
  constantPool := pool
  accessFlags := fl
  thisClass := this
  superClass := sup
  interfaces := ifs
  fields := fds
  methods := ms
  attributes := attrs
def plain (name : String) (sup : Option ClassId) : Class where
  name := name
  kind := .ordinary
  loader := none
  accessFlags := 33
  super := sup
  interfaces := #[]
  cf := none
  fields := #[]
  methods := #[]
  instanceTypes := #[]
  staticTypes := #[]
  resolved := #[]
  callSites := []
  init := .initialized
  statics := none
  mirror := none

def pool0 : Array CpInfo := pool [(5, u "<init>"), (0, u "()V"), (1, .class_ 10), (1, u "java/lang/Object")] 113

def k0c0 : Code := { maxStack := 0, maxLocals := 1, code := object_method_1_code, exceptionTable := #[], attributes := #[] }
def k0m0 : Method := { name := "<init>", desc := "()V", sig := { parameters := [], returnType := none }, accessFlags := 1, code := some k0c0 }
/-- java/lang/Object -/
def k0 : Class := { plain "java/lang/Object" none with
  accessFlags := 33
  interfaces := #[]
  cf := some (fileOf pool0 8 #[] #[{ accessFlags := 1, nameIndex := 5, descriptorIndex := 6, attributes := #[] }] 33 0 #[] #[])
  fields := #[]
  methods := #[k0m0]
  instanceTypes := #[]
  staticTypes := #[]
  resolved := Array.replicate 124 none
  statics := none }

def pool1 : Array CpInfo := pool [(2, .class_ 4), (1, u "java/lang/Object"), (0, u "<init>"), (0, u "()V"), (0, .integer 2147483647), (0, .integer 1048575), (0, .methodref 10 11), (0, .class_ 12), (0, .nameAndType 13 14), (0, u "java/lang/Math"), (0, u "max"), (0, u "(II)I"), (0, .class_ 16), (0, u "com/example/starling/starling/model/Bm25"), (0, .double 4616189618054758400), (1, .methodref 15 20), (0, .nameAndType 5 21), (0, u "(DDD)V"), (0, .methodref 15 23), (0, .nameAndType 24 25), (0, u "documentWeight"), (0, u "(ID)D"), (0, .long 16), (1, .long 4), (1, .long 64), (1, .class_ 33), (0, u "com/example/starling/starling/model/Bm25DocumentWeightPinLaw"), (2, u "law"), (0, u "(IIII)Z")] 3

def k1m0 : Method := { name := "<init>", desc := "()V", sig := { parameters := [], returnType := none }, accessFlags := 1, code := none }
def k1c1 : Code := { maxStack := 8, maxLocals := 18, code := code, exceptionTable := #[], attributes := #[] }
def k1m1 : Method := { name := "law", desc := "(IIII)Z", sig := { parameters := [.int, .int, .int, .int], returnType := some .boolean }, accessFlags := 9, code := some k1c1 }
/-- com/example/starling/starling/model/Bm25DocumentWeightPinLaw -/
def k1 : Class := { plain "com/example/starling/starling/model/Bm25DocumentWeightPinLaw" (some 0) with
  accessFlags := 49
  interfaces := #[]
  cf := some (fileOf pool1 32 #[] #[{ accessFlags := 1, nameIndex := 5, descriptorIndex := 6, attributes := #[] }, { accessFlags := 9, nameIndex := 36, descriptorIndex := 37, attributes := #[] }] 49 2 #[] #[])
  fields := #[]
  methods := #[k1m0, k1m1]
  instanceTypes := #[]
  staticTypes := #[]
  resolved := Array.replicate 41 none
  statics := none }

def pool2 : Array CpInfo := pool [(1, .class_ 2), (0, u "java/lang/Math"), (1, .class_ 6), (1, u "java/lang/Object"), (0, u "<init>"), (0, u "()V"), (89, .class_ 100), (1, u "java/lang/Math$RandomNumberGeneratorHolder"), (71, u "negativeZeroFloatBits"), (0, u "J"), (2, u "negativeZeroDoubleBits"), (21, u "max"), (46, u "$assertionsDisabled"), (0, u "Z"), (88, u "(II)I"), (2, u "twoToTheDoubleScaleDown"), (0, u "D"), (4, u "twoToTheDoubleScaleUp"), (9, u "E"), (3, u "PI"), (2, u "TAU"), (2, u "DEGREES_TO_RADIANS"), (0, u "RADIANS_TO_DEGREES")] 94

def k2m0 : Method := { name := "<init>", desc := "()V", sig := { parameters := [], returnType := none }, accessFlags := 2, code := none }
def k2c1 : Code := { maxStack := 2, maxLocals := 2, code := jdk_29_method_65_code, exceptionTable := #[], attributes := #[] }
def k2m1 : Method := { name := "max", desc := "(II)I", sig := { parameters := [.int, .int], returnType := some .int }, accessFlags := 9, code := some k2c1 }
/-- java/lang/Math -/
def k2 : Class := { plain "java/lang/Math" (some 0) with
  accessFlags := 49
  interfaces := #[]
  cf := some (fileOf pool2 1 #[.nestMembers #[98]] #[{ accessFlags := 2, nameIndex := 7, descriptorIndex := 8, attributes := #[] }, { accessFlags := 9, nameIndex := 198, descriptorIndex := 335, attributes := #[] }] 49 4 #[] #[{ accessFlags := 25, nameIndex := 354, descriptorIndex := 339, attributes := #[] }, { accessFlags := 25, nameIndex := 358, descriptorIndex := 339, attributes := #[] }, { accessFlags := 25, nameIndex := 361, descriptorIndex := 339, attributes := #[] }, { accessFlags := 26, nameIndex := 364, descriptorIndex := 339, attributes := #[] }, { accessFlags := 26, nameIndex := 365, descriptorIndex := 339, attributes := #[] }, { accessFlags := 26, nameIndex := 172, descriptorIndex := 173, attributes := #[] }, { accessFlags := 26, nameIndex := 176, descriptorIndex := 173, attributes := #[] }, { accessFlags := 8, nameIndex := 344, descriptorIndex := 339, attributes := #[] }, { accessFlags := 8, nameIndex := 338, descriptorIndex := 339, attributes := #[] }, { accessFlags := 4120, nameIndex := 245, descriptorIndex := 246, attributes := #[] }])
  fields := #[{ name := "E", type := .double, accessFlags := 25, slot := 0, constantValue := 0 }, { name := "PI", type := .double, accessFlags := 25, slot := 1, constantValue := 0 }, { name := "TAU", type := .double, accessFlags := 25, slot := 2, constantValue := 0 }, { name := "DEGREES_TO_RADIANS", type := .double, accessFlags := 26, slot := 3, constantValue := 0 }, { name := "RADIANS_TO_DEGREES", type := .double, accessFlags := 26, slot := 4, constantValue := 0 }, { name := "negativeZeroFloatBits", type := .long, accessFlags := 26, slot := 5, constantValue := 0 }, { name := "negativeZeroDoubleBits", type := .long, accessFlags := 26, slot := 6, constantValue := 0 }, { name := "twoToTheDoubleScaleUp", type := .double, accessFlags := 8, slot := 7, constantValue := 0 }, { name := "twoToTheDoubleScaleDown", type := .double, accessFlags := 8, slot := 8, constantValue := 0 }, { name := "$assertionsDisabled", type := .boolean, accessFlags := 4120, slot := 9, constantValue := 0 }]
  methods := #[k2m0, k2m1]
  instanceTypes := #[]
  staticTypes := #[.double, .double, .double, .double, .double, .long, .long, .double, .double, .boolean]
  resolved := Array.replicate 460 none
  statics := none }

def pool3 : Array CpInfo := pool [(1, .class_ 2), (0, u "com/example/starling/starling/model/RetrievalModel"), (0, .class_ 4), (0, u "java/lang/Object")] 4

/-- com/example/starling/starling/model/RetrievalModel -/
def k3 : Class := { plain "com/example/starling/starling/model/RetrievalModel" (some 0) with
  accessFlags := 1537
  interfaces := #[]
  cf := some (fileOf pool3 1 #[] #[] 1537 3 #[] #[])
  fields := #[]
  methods := #[]
  instanceTypes := #[]
  staticTypes := #[]
  resolved := Array.replicate 9 none
  statics := none }

def pool4 : Array CpInfo := pool [(1, .methodref 2 3), (0, .class_ 4), (0, .nameAndType 5 6), (0, u "java/lang/Object"), (0, u "<init>"), (0, u "()V"), (36, .class_ 45), (1, u "com/example/starling/starling/model/TermWeightingModel"), (18, .class_ 65), (0, u "com/example/starling/starling/model/RetrievalModel")] 30

def k4c0 : Code := { maxStack := 1, maxLocals := 1, code := prog_65_method_1_code, exceptionTable := #[], attributes := #[] }
def k4m0 : Method := { name := "<init>", desc := "()V", sig := { parameters := [], returnType := none }, accessFlags := 1, code := some k4c0 }
/-- com/example/starling/starling/model/TermWeightingModel -/
def k4 : Class := { plain "com/example/starling/starling/model/TermWeightingModel" (some 0) with
  accessFlags := 1057
  interfaces := #[3]
  cf := some (fileOf pool4 43 #[] #[{ accessFlags := 1, nameIndex := 5, descriptorIndex := 6, attributes := #[] }] 1057 2 #[64] #[])
  fields := #[]
  methods := #[k4m0]
  instanceTypes := #[]
  staticTypes := #[]
  resolved := Array.replicate 96 none
  statics := none }

def pool5 : Array CpInfo := pool [(1, .methodref 2 3), (0, .class_ 4), (0, .nameAndType 5 6), (0, u "com/example/starling/starling/model/TermWeightingModel"), (0, u "<init>"), (0, u "()V"), (2, .double 9218868437227405312), (12, .fieldref 23 24), (0, .class_ 25), (0, .nameAndType 26 27), (0, u "com/example/starling/starling/model/Bm25"), (0, u "k1"), (0, u "D"), (0, .fieldref 23 29), (0, .nameAndType 30 27), (0, u "b"), (0, .fieldref 23 32), (0, .nameAndType 33 27), (0, u "k3"), (8, u "(DDD)V"), (5, u "documentWeight"), (0, u "(ID)D")] 21

def k5c0 : Code := { maxStack := 4, maxLocals := 7, code := prog_46_method_1_code, exceptionTable := #[], attributes := #[] }
def k5m0 : Method := { name := "<init>", desc := "(DDD)V", sig := { parameters := [.double, .double, .double], returnType := none }, accessFlags := 1, code := some k5c0 }
def k5c1 : Code := { maxStack := 10, maxLocals := 4, code := prog_46_method_3_code, exceptionTable := #[], attributes := #[] }
def k5m1 : Method := { name := "documentWeight", desc := "(ID)D", sig := { parameters := [.int, .double], returnType := some .double }, accessFlags := 4, code := some k5c1 }
/-- com/example/starling/starling/model/Bm25 -/
def k5 : Class := { plain "com/example/starling/starling/model/Bm25" (some 4) with
  accessFlags := 49
  interfaces := #[]
  cf := some (fileOf pool5 23 #[] #[{ accessFlags := 1, nameIndex := 5, descriptorIndex := 42, attributes := #[] }, { accessFlags := 4, nameIndex := 48, descriptorIndex := 49, attributes := #[] }] 49 2 #[] #[{ accessFlags := 18, nameIndex := 26, descriptorIndex := 27, attributes := #[] }, { accessFlags := 18, nameIndex := 30, descriptorIndex := 27, attributes := #[] }, { accessFlags := 18, nameIndex := 33, descriptorIndex := 27, attributes := #[] }])
  fields := #[{ name := "k1", type := .double, accessFlags := 18, slot := 0, constantValue := 0 }, { name := "b", type := .double, accessFlags := 18, slot := 1, constantValue := 0 }, { name := "k3", type := .double, accessFlags := 18, slot := 2, constantValue := 0 }]
  methods := #[k5m0, k5m1]
  instanceTypes := #[.double, .double, .double]
  staticTypes := #[]
  resolved := Array.replicate 71 none
  statics := none }

def pool6 : Array CpInfo := pool [(1, u "java/lang/Cloneable"), (0, .class_ 1), (0, u "java/lang/Object"), (0, .class_ 3)] 3

/-- java/lang/Cloneable -/
def k6 : Class := { plain "java/lang/Cloneable" (some 0) with
  accessFlags := 1537
  interfaces := #[]
  cf := some (fileOf pool6 2 #[] #[] 1537 4 #[] #[])
  fields := #[]
  methods := #[]
  instanceTypes := #[]
  staticTypes := #[]
  resolved := Array.replicate 8 none
  statics := none }

def pool7 : Array CpInfo := pool [(1, u "java/io/Serializable"), (0, .class_ 1), (0, u "java/lang/Object"), (0, .class_ 3)] 3

/-- java/io/Serializable -/
def k7 : Class := { plain "java/io/Serializable" (some 0) with
  accessFlags := 1537
  interfaces := #[]
  cf := some (fileOf pool7 2 #[] #[] 1537 4 #[] #[])
  fields := #[]
  methods := #[]
  instanceTypes := #[]
  staticTypes := #[]
  resolved := Array.replicate 8 none
  statics := none }

/-- the primitive byte -/
def k8 : Class := { plain "byte" none with kind := .primitive 'B', accessFlags := 0x411 }
/-- [B -/
def k9 : Class := { plain "[B" (some 0) with kind := .array 8 .byte, interfaces := #[6, 7], accessFlags := 1041 }

/-- the primitive int -/
def k10 : Class := { plain "int" none with kind := .primitive 'I', accessFlags := 0x411 }
/-- [I -/
def k11 : Class := { plain "[I" (some 0) with kind := .array 10 .int, interfaces := #[6, 7], accessFlags := 1041 }

def heap : Heap := #[]
def classes : Array Class := #[k0, k1, k2, k3, k4, k5, k6, k7, k8, k9, k10, k11]
def interned : List (Array UInt16 × Addr) := []
def slotsUsed : Nat := 0
def theMethod : MethodId := ⟨1, 1⟩
def args0 : Array Value := #[.int 5, .int 5, .int 5, .int 5]
def aboutOver (below : List Frame) : State where
  vm := { classes := classes, interned := interned.toArray }
  heap := heap
  slotsUsed := slotsUsed
  threads := #[{ frames := .invoking theMethod args0 :: below }]
def below0 : List Frame := [.native { method := ⟨0, 0⟩, args := #[] }]
def about1 : State := aboutOver below0
def p0 : Program := .bare "" "" ""
def e0 : Env := launch0.env 0 0 0
theorem w_frames : about1.frames = Frame.invoking theMethod args0 :: below0 := rfl
set_option maxRecDepth 65536 in
theorem w_args : argsFit about1.vm theMethod args0 = true := by decide +kernel
set_option maxRecDepth 65536 in
theorem w_heap : heapFits about1 = true := by decide +kernel
set_option maxRecDepth 65536 in
theorem w_runnable : about1.curStatus? = some .runnable := by decide +kernel
set_option maxRecDepth 65536 in
theorem w_alone : about1.alone = true := by decide +kernel
set_option maxRecDepth 65536 in
theorem w_named : about1.methodNamed? x = some theMethod := by decide +kernel
set_option maxRecDepth 65536 in
theorem w_hears : about1.hears theMethod below0 = true := by decide +kernel
set_option maxRecDepth 65536 in
theorem w_ripe : about1.ripe theMethod args0 below0 = true := by decide +kernel
theorem w_running : about1.status = .running := rfl
set_option maxRecDepth 65536 in
theorem w_room : about1.hasRoom e0.platform room_1 = true :=
  launch0.hasRoom_least _ room_1 (by decide +kernel) (by decide +kernel) (by decide +kernel) (by decide +kernel) (by decide +kernel) (by decide +kernel)
theorem allAtoms_all (ts : List Jvm.Cond) (a : Array Jvm.Value) (st : Jvm.State) : (allAtoms ts).before a st = ts.all (fun c => c.before a st) := by
  induction ts with
  | nil => rfl
  | cons c t ih =>
    show (Jvm.Cond.and c (allAtoms t)).before a st = _
    rw [Jvm.Cond.before_and, ih, List.all_cons]
def words1 : List Jvm.Cond := Jvm.Cond.code x code maxLocals ret :: tables_1
/-- a 'code' word, met by the world's own term for the bytes: nothing is compared byte by byte -/
theorem code_word {y : MethodName} {bytes : ByteArray} {mx : Nat} {rt : Option FieldType} {a : Array Value} {s : State} {m : MethodId} {meth : Method} {c : Code} (h1 : s.methodNamed? y = some m) (h2 : s.vm.method? m = some meth) (h3 : meth.code = some c) (h4 : c.code = bytes)
    (h5 : (c.maxLocals == mx && c.exceptionTable.isEmpty && decide (c.maxStack ≤ mostOperands) && decide (meth.sig.returnType = rt) && !meth.locks && decide (parseMethodDescriptor y.desc = some meth.sig)) = true) : (Jvm.Cond.code y bytes mx rt).before a s = true := by
  simp only [Bool.and_eq_true, beq_iff_eq, Bool.not_eq_true', decide_eq_true_eq] at h5
  obtain ⟨⟨⟨⟨⟨g1, g2⟩, g3⟩, g4⟩, g5⟩, g6⟩ := h5
  simp [Cond.before, Cond.holds, Cond.value, h1, h2, h3, h4, g1, g2, g3, g4, g5, g6]
def isCode : Jvm.Cond → Bool
  | .code _ _ _ _ => true
  | _ => false
theorem all_split {L : List Jvm.Cond} {P : Jvm.Cond → Bool} (h1 : L.all (fun c => isCode c || P c) = true) (h2 : ∀ c ∈ L.filter isCode, P c = true) : L.all P = true := by
  refine List.all_eq_true.mpr fun c hc => ?_
  have h := List.all_eq_true.mp h1 c hc
  rcases Bool.eq_false_or_eq_true (isCode c) with hi | hi
  · exact h2 c (List.mem_filter.mpr ⟨hc, hi⟩)
  · simpa [hi] using h
set_option maxRecDepth 65536 in
theorem w_c0 : (Jvm.Cond.code x code maxLocals ret).before args0 about1 = true := code_word (m := ⟨1, 1⟩) (meth := k1m1) (c := k1c1) (by decide +kernel) rfl rfl rfl (by decide +kernel)
set_option maxRecDepth 65536 in
theorem w_c1 : (Jvm.Cond.code ({ cls := "java/lang/Math", name := "max", desc := "(II)I" } : Jvm.MethodName) jdk_29_method_65_code (2 : Nat) (Option.some Jvm.ClassFile.FieldType.int)).before args0 about1 = true := code_word (m := ⟨2, 1⟩) (meth := k2m1) (c := k2c1) (by decide +kernel) rfl rfl rfl (by decide +kernel)
set_option maxRecDepth 65536 in
theorem w_c2 : (Jvm.Cond.code ({ cls := "com/example/starling/starling/model/Bm25", name := "<init>", desc := "(DDD)V" } : Jvm.MethodName) prog_46_method_1_code (7 : Nat) (Option.none : Option Jvm.ClassFile.FieldType)).before args0 about1 = true := code_word (m := ⟨5, 0⟩) (meth := k5m0) (c := k5c0) (by decide +kernel) rfl rfl rfl (by decide +kernel)
set_option maxRecDepth 65536 in
theorem w_c3 : (Jvm.Cond.code ({ cls := "com/example/starling/starling/model/TermWeightingModel", name := "<init>", desc := "()V" } : Jvm.MethodName) prog_65_method_1_code (1 : Nat) (Option.none : Option Jvm.ClassFile.FieldType)).before args0 about1 = true := code_word (m := ⟨4, 0⟩) (meth := k4m0) (c := k4c0) (by decide +kernel) rfl rfl rfl (by decide +kernel)
set_option maxRecDepth 65536 in
theorem w_c4 : (Jvm.Cond.code ({ cls := "java/lang/Object", name := "<init>", desc := "()V" } : Jvm.MethodName) object_method_1_code (1 : Nat) (Option.none : Option Jvm.ClassFile.FieldType)).before args0 about1 = true := code_word (m := ⟨0, 0⟩) (meth := k0m0) (c := k0c0) (by decide +kernel) rfl rfl rfl (by decide +kernel)
set_option maxRecDepth 65536 in
theorem w_c5 : (Jvm.Cond.code ({ cls := "com/example/starling/starling/model/Bm25", name := "documentWeight", desc := "(ID)D" } : Jvm.MethodName) prog_46_method_3_code (4 : Nat) (Option.some Jvm.ClassFile.FieldType.double)).before args0 about1 = true := code_word (m := ⟨5, 1⟩) (meth := k5m1) (c := k5c1) (by decide +kernel) rfl rfl rfl (by decide +kernel)
def codes1 : List Jvm.Cond := [Jvm.Cond.code x code maxLocals ret, Jvm.Cond.code ({ cls := "java/lang/Math", name := "max", desc := "(II)I" } : Jvm.MethodName) jdk_29_method_65_code (2 : Nat) (Option.some Jvm.ClassFile.FieldType.int), Jvm.Cond.code ({ cls := "com/example/starling/starling/model/Bm25", name := "<init>", desc := "(DDD)V" } : Jvm.MethodName) prog_46_method_1_code (7 : Nat) (Option.none : Option Jvm.ClassFile.FieldType), Jvm.Cond.code ({ cls := "com/example/starling/starling/model/TermWeightingModel", name := "<init>", desc := "()V" } : Jvm.MethodName) prog_65_method_1_code (1 : Nat) (Option.none : Option Jvm.ClassFile.FieldType), Jvm.Cond.code ({ cls := "java/lang/Object", name := "<init>", desc := "()V" } : Jvm.MethodName) object_method_1_code (1 : Nat) (Option.none : Option Jvm.ClassFile.FieldType), Jvm.Cond.code ({ cls := "com/example/starling/starling/model/Bm25", name := "documentWeight", desc := "(ID)D" } : Jvm.MethodName) prog_46_method_3_code (4 : Nat) (Option.some Jvm.ClassFile.FieldType.double)]
set_option maxRecDepth 65536 in
theorem codes_eq : words1.filter isCode = codes1 := rfl
theorem w_codes : ∀ c ∈ words1.filter isCode, c.before args0 about1 = true := by
  rw [codes_eq]
  intro c hc
  simp only [codes1, List.mem_cons, List.not_mem_nil, or_false] at hc
  rcases hc with rfl | rfl | rfl | rfl | rfl | rfl
  · exact w_c0
  · exact w_c1
  · exact w_c2
  · exact w_c3
  · exact w_c4
  · exact w_c5
set_option maxRecDepth 65536 in
theorem w_t1 : (words1.take 24).all (fun c => isCode c || c.before args0 about1) = true := by decide +kernel
set_option maxRecDepth 65536 in
theorem w_t2 : (words1.drop 24).all (fun c => isCode c || c.before args0 about1) = true := by decide +kernel
theorem w_tables : (allAtoms (Jvm.Cond.code x code maxLocals ret :: tables_1)).before args0 about1 = true := by
  rw [allAtoms_all]
  show words1.all (fun c => c.before args0 about1) = true
  refine all_split ?_ w_codes
  rw [← List.take_append_drop 24 words1, List.all_append, w_t1, w_t2]
  rfl
set_option maxRecDepth 65536 in
theorem w_case : (Jvm.Cond.and given_1 narrow_1).before args0 about1 = true := by decide +kernel
theorem w_applies : (headSpec (Jvm.Cond.code x code maxLocals ret :: tables_1) room_1).applies x e0.platform about1 = true :=
  (Spec.applies_iff w_frames).mpr ⟨w_running, w_runnable, w_alone, w_named, w_hears, w_ripe, w_room, w_tables⟩
theorem atStart : AtStart classFile x code maxLocals ret World_1 tables_1 room_1 Calls_1 rest_1 Pre_1 launch0 p0 e0 about1 theMethod args0 below0 :=
  ⟨lists_1, trivial, launch0.admits_env _ _ _, launch0.least_env, fairChoices_fair.cas, fairChoices_fair.clock, w_frames, w_args, w_heap, w_applies, trivial, trivial, w_case⟩
end start1
theorem witness_1 : WitnessClaimed_1 := ⟨start1.p0, start1.e0, start1.about1, start1.theMethod, start1.args0, start1.below0, start1.atStart⟩
end Jvm.Pilot.@@N@@
