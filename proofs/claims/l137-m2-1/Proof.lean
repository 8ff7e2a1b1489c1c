import JvmDerived
import JvmDerived.Pilot.@@N@@Statement
import JvmDerived.Pilot.@@N@@Code
set_option linter.unusedVariables false
set_option linter.unusedSimpArgs false
namespace Jvm.FP.Core
theorem own_div {x y : UInt64} {s : Bool} {c : Nat} {q : Int} {d k : Nat} (hx : val64 x = .fin s c q) (hy : val64 y = .fin false d (-(k : Int))) (hd : 0 < d) {V : Datum} (fV : fits b64 V) (nV : V ≠ .nan) :
    sgn (val64 (ddiv x y)) = s ∧ val64 (ddiv x y) ≠ .nan ∧ (zmag b64 (val64 x) * 2 ^ k ≤ zmag b64 V * d → zmag b64 (val64 (ddiv x y)) ≤ zmag b64 V) ∧ (zmag b64 V * d ≤ zmag b64 (val64 x) * 2 ^ k → zmag b64 V ≤ zmag b64 (val64 (ddiv x y))) := by
  have e : val64 (ddiv x y) = roundRatio b64 s c d (q + k) := by
    rw [val64_ddiv, hx, hy]
    simp [quotient, Nat.ne_of_gt hd]
  have fx := val64_fits x
  rw [hx] at fx
  have hq := fx.2.1
  have hu : inUnits c (q + k) b64.qmin = zmag b64 (val64 x) * 2 ^ k := by
    rw [hx]
    show c * 2 ^ (q + k - b64.qmin).toNat = c * 2 ^ (q - b64.qmin).toNat * 2 ^ k
    rw [show (q + k - b64.qmin).toNat = (q - b64.qmin).toNat + k by omega, Nat.pow_add, Nat.mul_assoc]
  refine ⟨by rw [e, sgn_roundRatio], by rw [e]; exact roundRatio_ne_nan _ _ _ _ _, fun h => ?_, fun h => ?_⟩
  · rw [e]
    refine zmag_roundRatio_le good_b64 hd fV nV (Int.le_refl _) (by omega) ?_
    rw [hu, Int.sub_self]
    show _ ≤ _ * 1 * d
    rw [Nat.mul_one]; exact h
  · rw [e]
    refine zmag_roundRatio_ge good_b64 hd fV (Int.le_refl _) (by omega) ?_
    rw [hu, Int.sub_self]
    show _ * 1 * d ≤ _
    rw [Nat.mul_one]; exact h
theorem own_mul {x y : UInt64} {s : Bool} {c : Nat} {q : Int} {d k : Nat} (hx : val64 x = .fin s c q) (hy : val64 y = .fin false d (-(k : Int))) {V : Datum} (fV : fits b64 V) (nV : V ≠ .nan) :
    sgn (val64 (dmul x y)) = s ∧ val64 (dmul x y) ≠ .nan ∧ (zmag b64 (val64 x) * d ≤ zmag b64 V * 2 ^ k → zmag b64 (val64 (dmul x y)) ≤ zmag b64 V) ∧ (zmag b64 V * 2 ^ k ≤ zmag b64 (val64 x) * d → zmag b64 V ≤ zmag b64 (val64 (dmul x y))) := by
  have e : val64 (dmul x y) = roundRatio b64 s (c * d) 1 (q + -(k : Int)) := by
    rw [val64_dmul, hx, hy]
    simp [exactProduct, round]
  have fx := val64_fits x
  rw [hx] at fx
  have hq := fx.2.1
  have hu : inUnits (c * d) (q + -(k : Int)) (b64.qmin - k) = zmag b64 (val64 x) * d := by
    rw [hx]
    show c * d * 2 ^ (q + -(k : Int) - (b64.qmin - k)).toNat = c * 2 ^ (q - b64.qmin).toNat * d
    rw [show (q + -(k : Int) - (b64.qmin - k)).toNat = (q - b64.qmin).toNat by omega, Nat.mul_right_comm]
  have hk : (b64.qmin - (b64.qmin - (k : Int))).toNat = k := by omega
  refine ⟨by rw [e, sgn_roundRatio], by rw [e]; exact roundRatio_ne_nan _ _ _ _ _, fun h => ?_, fun h => ?_⟩
  · rw [e]
    refine zmag_roundRatio_le good_b64 (by decide) fV nV (e0 := b64.qmin - k) (by omega) (by omega) ?_
    rw [hu, hk, Nat.mul_one]; exact h
  · rw [e]
    refine zmag_roundRatio_ge good_b64 (by decide) fV (e0 := b64.qmin - k) (by omega) (by omega) ?_
    rw [hu, hk, Nat.mul_one]; exact h
theorem own_rep (s : Bool) (c : Nat) (hc : c < 2 ^ 53) (j : Nat) (hj : j ≤ 900) : ∃ V : Datum, fits b64 V ∧ V ≠ .nan ∧ sgn V = s ∧ zmag b64 V = c * 2 ^ (1074 - j) ∧ ∃ s c q, V = .fin s c q := by
  have q1 : b64.qmin = -1074 := by decide
  have q2 : b64.qmax = 971 := by decide
  obtain ⟨c', q', h1, h2⟩ := round_exact good_b64 s (c := c) (q := -(j : Int)) hc (by omega) (by omega)
  refine ⟨round b64 (.fin s c (-(j : Int))), round_fits good_b64 _, by rw [h1]; exact Datum.noConfusion, by rw [h1]; rfl, ?_, ⟨s, c', q', h1⟩⟩
  rw [h1]
  show inUnits c' q' b64.qmin = _
  rw [h2]
  show c * 2 ^ (-(j : Int) - b64.qmin).toNat = _
  rw [q1, show (-(j : Int) - -1074).toNat = 1074 - j by omega]
theorem own_fin {x V : Datum} (hn : x ≠ .nan) (fV : fits b64 V) (hV : ∃ s c q, V = .fin s c q) (h : zmag b64 x ≤ zmag b64 V) : ∃ c q, x = .fin (sgn x) c q := by
  obtain ⟨s, c, q, rfl⟩ := hV
  have ht := zmag_lt_top good_b64 fV
  cases x with
  | nan => exact absurd rfl hn
  | inf t => exact absurd (Nat.lt_of_le_of_lt h ht) (Nat.lt_irrefl _)
  | fin t c q => exact ⟨c, q, rfl⟩
theorem own_l2d {S : Int64} (h : Small53 S) : (∃ c q, val64 (l2d S) = .fin (decide (S.toInt < 0)) c q) ∧ zmag b64 (val64 (l2d S)) = S.toInt.natAbs * 2 ^ 1074 := by
  obtain ⟨c, q, e⟩ := l2d_shape S
  refine ⟨⟨c, q, e⟩, ?_⟩
  have w := whole_zval good_b64 (val64_fits _) (l2d_whole h)
  rw [show (-b64.qmin).toNat = 1074 by decide] at w
  have w' := congrArg Int.natAbs w
  unfold zval at w'
  rw [natAbs_signed, Int.natAbs_mul, Int.natAbs_natCast] at w'
  exact w'
theorem own_zeq {x y : UInt64} (nx : val64 x ≠ .nan) (ny : val64 y ≠ .nan) (hs : sgn (val64 x) = sgn (val64 y)) (hz : zmag b64 (val64 x) = zmag b64 (val64 y)) : dcmp x y = some .eq := by
  rw [dcmp_zval nx ny, Option.some.injEq, compare_eq_iff]
  unfold zval
  rw [hs, hz]
theorem own_v1 : val64 (l2d 1) = .fin false (2 ^ 52) (-((52 : Nat) : Int)) := by decide +kernel
theorem own_v2 : val64 (l2d 2) = .fin false (2 ^ 52) (-((51 : Nat) : Int)) := by decide +kernel
theorem own_v3 : val64 (l2d 3) = .fin false (3 * 2 ^ 51) (-((51 : Nat) : Int)) := by decide +kernel
theorem own_v3c : val64 4613937818241073152 = .fin false (3 * 2 ^ 51) (-((51 : Nat) : Int)) := by decide +kernel
theorem own_vh : val64 4602678819172646912 = .fin false (2 ^ 52) (-((53 : Nat) : Int)) := by decide +kernel
theorem own_eps : val64 4562146422526312448 ≠ .nan ∧ zval b64 (val64 4562146422526312448) = 4 * ((2 ^ (1074 - 12) : Nat) : Int) := by decide +kernel
theorem own_mean1 {S : Int64} (h : Small53 S) : val64 (ddiv (l2d S) (l2d 1)) ≠ .nan ∧ dcmp (ddiv (l2d S) (l2d 1)) (l2d S) = some .eq := by
  obtain ⟨⟨c, q, e⟩, z⟩ := own_l2d h
  have n0 : val64 (l2d S) ≠ .nan := by rw [e]; exact Datum.noConfusion
  obtain ⟨h1, h2, h3, h4⟩ := own_div e own_v1 (by decide) (val64_fits (l2d S)) n0
  exact ⟨h2, own_zeq h2 n0 (by rw [h1, e]; rfl) (Nat.le_antisymm (h3 (Nat.le_refl _)) (h4 (Nat.le_refl _)))⟩
theorem own_mean3 {S Q : Int64} (h : Small53 S) (hQ : Small53 Q) (hS : S.toInt = 3 * Q.toInt) : val64 (ddiv (l2d S) (l2d 3)) ≠ .nan ∧ dcmp (ddiv (l2d S) (l2d 3)) (l2d Q) = some .eq := by
  obtain ⟨⟨c, q, e⟩, z⟩ := own_l2d h
  obtain ⟨⟨c', q', e'⟩, z'⟩ := own_l2d hQ
  have n0 : val64 (l2d Q) ≠ .nan := by rw [e']; exact Datum.noConfusion
  obtain ⟨h1, h2, h3, h4⟩ := own_div e own_v3 (by decide) (val64_fits (l2d Q)) n0
  have hz : zmag b64 (val64 (l2d S)) * 2 ^ 51 = zmag b64 (val64 (l2d Q)) * (3 * 2 ^ 51) := by
    rw [z, z', show S.toInt.natAbs = 3 * Q.toInt.natAbs by omega, Nat.mul_comm 3 (2 ^ 51), ← Nat.mul_assoc, Nat.mul_comm _ 3, ← Nat.mul_assoc, ← Nat.mul_assoc]
  exact ⟨h2, own_zeq h2 n0 (by rw [h1, e']; show decide _ = decide _; rw [hS]; exact decide_eq_decide.mpr (by omega)) (Nat.le_antisymm (h3 (Nat.le_of_eq hz)) (h4 (Nat.le_of_eq hz.symm)))⟩
theorem own_mean2 {S : Int64} (h : Small53 S) : val64 (ddiv (l2d S) (l2d 2)) ≠ .nan ∧ val64 (dmul (l2d S) 4602678819172646912) ≠ .nan ∧ dcmp (ddiv (l2d S) (l2d 2)) (dmul (l2d S) 4602678819172646912) = some .eq := by
  obtain ⟨⟨c, q, e⟩, z⟩ := own_l2d h
  have hb : S.toInt.natAbs < 2 ^ 53 := by have := h.1; have := h.2; omega
  obtain ⟨V, f, n, -, v, -⟩ := own_rep false S.toInt.natAbs hb 1 (by decide)
  obtain ⟨h1, h2, h3, h4⟩ := own_div e own_v2 (by decide) f n
  obtain ⟨g1, g2, g3, g4⟩ := own_mul e own_vh f n
  have p1 : (2 : Nat) ^ 1074 = 2 * 2 ^ (1074 - 1) := by decide +kernel
  have p2 : (2 : Nat) ^ 52 = 2 * 2 ^ 51 := by decide
  have p3 : (2 : Nat) ^ 53 = 2 * 2 ^ 52 := by decide
  have hz : zmag b64 (val64 (l2d S)) * 2 ^ 51 = zmag b64 V * 2 ^ 52 := by
    rw [z, v, p1, p2]
    generalize (2 : Nat) ^ (1074 - 1) = X
    generalize (2 : Nat) ^ 51 = Y
    rw [← Nat.mul_assoc S.toInt.natAbs 2 X, Nat.mul_right_comm S.toInt.natAbs 2 X, ← Nat.mul_assoc]
  have gz : zmag b64 (val64 (l2d S)) * 2 ^ 52 = zmag b64 V * 2 ^ 53 := by
    rw [z, v, p1, p3]
    generalize (2 : Nat) ^ (1074 - 1) = X
    generalize (2 : Nat) ^ 52 = Y
    rw [← Nat.mul_assoc S.toInt.natAbs 2 X, Nat.mul_right_comm S.toInt.natAbs 2 X, ← Nat.mul_assoc]
  refine ⟨h2, g2, own_zeq h2 g2 (by rw [h1, g1]) ?_⟩
  rw [Nat.le_antisymm (h3 (Nat.le_of_eq hz)) (h4 (Nat.le_of_eq hz.symm)), Nat.le_antisymm (g3 (Nat.le_of_eq gz)) (g4 (Nat.le_of_eq gz.symm))]
theorem own_pp {P j : Nat} (h : 2 ^ j = P) : 0 < P := h ▸ Nat.two_pow_pos j
theorem own_third {S : Int64} (h : -8589934592 ≤ S.toInt ∧ S.toInt ≤ 8589934592) :
    val64 (ddiv (l2d S) (l2d 3)) ≠ .nan ∧ val64 (dmul (ddiv (l2d S) (l2d 3)) 4613937818241073152) ≠ .nan ∧ val64 (dsub (dmul (ddiv (l2d S) (l2d 3)) 4613937818241073152) (l2d S)) ≠ .nan ∧
    dcmp (dneg 4562146422526312448) (dsub (dmul (ddiv (l2d S) (l2d 3)) 4613937818241073152) (l2d S)) = some .lt ∧ dcmp (dsub (dmul (ddiv (l2d S) (l2d 3)) 4613937818241073152) (l2d S)) 4562146422526312448 = some .lt := by
  have hs : Small53 S := ⟨by omega, by omega⟩
  obtain ⟨⟨c, q, e⟩, z⟩ := own_l2d hs
  have hN : S.toInt.natAbs ≤ 8589934592 := by omega
  generalize hNe : S.toInt.natAbs = N at *
  generalize hkd : N * 4096 / 3 = k
  have k1 : k * 3 ≤ N * 4096 := by omega
  have k2 : N * 4096 ≤ (k + 1) * 3 := by omega
  have p1 : (2 : Nat) ^ 1074 = 4096 * 2 ^ (1074 - 12) := by decide +kernel
  obtain ⟨A, fA, nA, sA, vA, finA⟩ := own_rep false k (by omega) 12 (by decide)
  obtain ⟨B, fB, nB, sB, vB, finB⟩ := own_rep false (k + 1) (by omega) 12 (by decide)
  obtain ⟨A3, fA3, nA3, sA3, vA3, finA3⟩ := own_rep false (k * 3) (by omega) 12 (by decide)
  obtain ⟨B3, fB3, nB3, sB3, vB3, finB3⟩ := own_rep false ((k + 1) * 3) (by omega) 12 (by decide)
  obtain ⟨D, fD, nD, sD, vD, finD⟩ := own_rep false 3 (by decide) 12 (by decide)
  have z' : zmag b64 (val64 (l2d S)) = N * 4096 * 2 ^ (1074 - 12) := by rw [z, p1, Nat.mul_assoc]
  obtain ⟨a1, a2, -, a4⟩ := own_div e own_v3 (by decide) fA nA
  obtain ⟨-, -, b3, -⟩ := own_div e own_v3 (by decide) fB nB
  generalize hP : (2 : Nat) ^ (1074 - 12) = P at *
  have ma : zmag b64 A ≤ zmag b64 (val64 (ddiv (l2d S) (l2d 3))) := a4 (by
    rw [z', vA, ← Nat.mul_assoc, Nat.mul_right_comm k P 3]
    exact Nat.mul_le_mul_right _ (Nat.mul_le_mul_right _ k1))
  have mb : zmag b64 (val64 (ddiv (l2d S) (l2d 3))) ≤ zmag b64 B := b3 (by
    rw [z', vB, ← Nat.mul_assoc, Nat.mul_right_comm (k + 1) P 3]
    exact Nat.mul_le_mul_right _ (Nat.mul_le_mul_right _ k2))
  obtain ⟨cm, qm, em⟩ := own_fin a2 fB finB mb
  rw [a1] at em
  obtain ⟨c1, c2, -, c4⟩ := own_mul em own_v3c fA3 nA3
  obtain ⟨-, -, d3, -⟩ := own_mul em own_v3c fB3 nB3
  generalize hm : ddiv (l2d S) (l2d 3) = m at *
  have pa : zmag b64 A3 ≤ zmag b64 (val64 (dmul m 4613937818241073152)) := c4 (by
    rw [vA3, ← Nat.mul_assoc]
    refine Nat.mul_le_mul_right _ ?_
    rw [vA] at ma
    rw [Nat.mul_right_comm k 3 P]
    exact Nat.mul_le_mul_right _ ma)
  have pb : zmag b64 (val64 (dmul m 4613937818241073152)) ≤ zmag b64 B3 := d3 (by
    rw [vB3, ← Nat.mul_assoc]
    refine Nat.mul_le_mul_right _ ?_
    rw [vB] at mb
    rw [Nat.mul_right_comm (k + 1) 3 P]
    exact Nat.mul_le_mul_right _ mb)
  obtain ⟨cp, qp, ep⟩ := own_fin c2 fB3 finB3 pb
  rw [c1] at ep
  generalize hp : dmul m 4613937818241073152 = p at *
  have fneg : ∃ s c q, negate (val64 (l2d S)) = .fin s c q := ⟨_, _, _, by rw [e]; rfl⟩
  have zn : zval b64 (negate (val64 (l2d S))) = - signed (decide (S.toInt < 0)) (N * 4096 * P) := by
    rw [zval_negate]; unfold zval; rw [z', e]; rfl
  have zp : zval b64 (val64 p) = signed (decide (S.toInt < 0)) (zmag b64 (val64 p)) := by unfold zval; rw [c1]
  rw [vA3] at pa
  rw [vB3] at pb
  have x1 : k * 3 * P ≤ N * 4096 * P := Nat.mul_le_mul_right _ k1
  have x2 : N * 4096 * P ≤ (k + 1) * 3 * P := Nat.mul_le_mul_right _ k2
  have x3 : (k + 1) * 3 * P = k * 3 * P + 3 * P := by rw [Nat.add_mul, Nat.one_mul, Nat.add_mul]
  have zD : zval b64 D = ((3 * P : Nat) : Int) := by unfold zval; rw [sD, vD]; rfl
  have zD' : zval b64 (negate D) = -((3 * P : Nat) : Int) := by rw [zval_negate, zD]
  have up : zval b64 (val64 (dsub p (l2d S))) ≤ zval b64 D := by
    rw [val64_dsub]
    refine sum_le good_b64 ⟨_, _, _, ep⟩ fneg (val64_fits _) (negate_fits (val64_fits _)) fD nD ?_
    rw [zn, zp, zD]
    generalize zmag b64 (val64 p) = X at *
    generalize N * 4096 * P = Y at *
    generalize k * 3 * P = W at *
    cases hb : decide (S.toInt < 0) <;> simp only [signed, Bool.false_eq_true, if_false, if_true] <;> omega
  have lo : zval b64 (negate D) ≤ zval b64 (val64 (dsub p (l2d S))) := by
    rw [val64_dsub]
    refine sum_ge good_b64 ⟨_, _, _, ep⟩ fneg (val64_fits _) (negate_fits (val64_fits _)) (negate_fits fD) (negate_ne_nan nD) ?_
    rw [zn, zp, zD']
    generalize zmag b64 (val64 p) = X at *
    generalize N * 4096 * P = Y at *
    generalize k * 3 * P = W at *
    cases hb : decide (S.toInt < 0) <;> simp only [signed, Bool.false_eq_true, if_false, if_true] <;> omega
  have nd : val64 (dsub p (l2d S)) ≠ .nan := by
    rw [val64_dsub, ep, e]
    show round b64 (.fin _ _ _) ≠ _
    exact roundRatio_ne_nan _ _ _ _ _
  have hPp : 0 < P := own_pp hP
  obtain ⟨ne, ze⟩ := own_eps
  rw [hP] at ze
  refine ⟨a2, c2, nd, ?_, ?_⟩
  · rw [dcmp_zval (by rw [val64_dneg]; exact negate_ne_nan ne) nd, Option.some.injEq, compare_lt_iff, val64_dneg, zval_negate, ze]
    rw [zD'] at lo
    omega
  · rw [dcmp_zval nd ne, Option.some.injEq, compare_lt_iff, ze]
    rw [zD] at up
    omega
end Jvm.FP.Core
namespace Jvm.RoadKit
open Sem ClassFile Op Lib Jvm.Stand Jvm.Free Jvm.LawKit
section New
variable {p : Program} {l : Launch} {e : Env} {R : Room} {s : State} {m : MethodId} {args : Array Value} {below : List Frame} {meth : Method} {c : Code} {T : State} {locs : List Loc} {cells slots : Nat}
theorem retI (X : Stand p l e R s m args below meth c T locs cells slots) (hx : p.tables.exec = Jvm.exec) {pc : Nat} {Ls : Array Slot} {z : Int32} {rest : List Value} (hret : meth.sig.returnType = some .int) (hd : decode c.code pc = .ok (.ireturn, 1)) {fs : List Frame}
    (hl : ∀ (f : JFrame) (acts : List Action), f.method = m → f.locked = none → f.entered = [] → (doReturn e (T.setTop f) acts (some (.int z))).1 = T.setFrames fs) : Steps p.tables e below (T.setTop (mkF m pc Ls (.int z :: rest))) (T.setFrames fs) := by
  have hm' : T.vm.method? m = some meth := X.method'
  have hn : narrow .int (.int z) = .int z := rfl
  show Steps p.tables e below (T.setTop { method := m, pc := pc, locals := Ls, stack := _ :: rest, locked := none }) _
  jvm_step X.here [X.here.top, hx, hd, hm', hret, hn]
  first | (intro acts; rw [hl _ acts rfl rfl rfl]) | rw [hl _ _ rfl rfl rfl]
  exact Steps.refl _
end New
end Jvm.RoadKit
namespace Jvm.Pilot.@@N@@
open Jvm Jvm.ClassFile Sem Op Lib Jvm.Free Jvm.Stand Jvm.LawKit Jvm.RoadKit Bundle Jvm.Pilot.@@N@@.Jvm.D
def QP (r : Option Value) (h0 : Heap) (n0 : Nat) (v : Option Value) (h : Heap) (L : List Loc) : Prop := v = r ∧ Fr n0 L ∧ h = h0
def Q0 (n0 : Nat) (v : Option Value) (L : List Loc) : Prop := v = some (.int 1) ∧ Fr n0 L
def Tly (Z : State) (h : Heap) (a : Addr) (cnt tot mn mx : Int64) : Prop := Exa Z h a "io/watchring/sim/Tally" ∧ Fld Z h a "io/watchring/sim/Tally" "count" "J" (.long cnt) ∧ Fld Z h a "io/watchring/sim/Tally" "total" "J" (.long tot) ∧ Fld Z h a "io/watchring/sim/Tally" "min" "J" (.long mn) ∧ Fld Z h a "io/watchring/sim/Tally" "max" "J" (.long mx)
def QT (Z : State) (a : Addr) (cnt tot : Int64) (n0 : Nat) (v : Option Value) (h : Heap) (L : List Loc) : Prop := v = none ∧ Fr n0 L ∧ ∃ mn mx, Tly Z h a cnt tot mn mx
theorem own_ceq {r : Option Ordering} {o : CmpOp} (h : r = some .eq) : cmpValue r o = 0 := by rw [h]; rfl
theorem own_clt {r : Option Ordering} {o : CmpOp} (h : r = some .lt) : cmpValue r o = -1 := by rw [h]; rfl
theorem own_cnan : cmpValue (FP.dcmp 9221120237041090560 9221120237041090560) .l = -1 := by decide +kernel
theorem d1_0 : decode prog_162_method_1_code 0 = .ok (.aload_n 0, 1) := by decide +kernel
theorem d1_1 : decode prog_162_method_1_code 1 = .ok (.invokespecial 1, 3) := by decide +kernel
theorem d1_4 : decode prog_162_method_1_code 4 = .ok (.aload_n 0, 1) := by decide +kernel
theorem d1_5 : decode prog_162_method_1_code 5 = .ok (.ldc2_w 9, 3) := by decide +kernel
theorem d1_8 : decode prog_162_method_1_code 8 = .ok (.putfield 11, 3) := by decide +kernel
theorem d1_11 : decode prog_162_method_1_code 11 = .ok (.aload_n 0, 1) := by decide +kernel
theorem d1_12 : decode prog_162_method_1_code 12 = .ok (.ldc2_w 17, 3) := by decide +kernel
theorem d1_15 : decode prog_162_method_1_code 15 = .ok (.putfield 19, 3) := by decide +kernel
theorem d1_18 : decode prog_162_method_1_code 18 = .ok (.return_, 1) := by decide +kernel
theorem pn_1 : plainName "io/watchring/sim/Tally" = true := by first | (simp [plainName, overriddenIn]; done) | decide +kernel
theorem ef_1 (m : MethodId) (x0 : Addr) : entryFrame m #[(.ref x0)] 1 = mkF m 0 #[.val (.ref x0)] [] := by first | (simp [entryFrame, mkF, argsToLocals, Value.category]; done) | rfl
set_option maxRecDepth 65536 in
set_option maxHeartbeats 40000000 in
theorem rm1 (l : Launch) (Z : State) (a0 : Array Value) (hw : ∀ d ∈ tables_1, d.before a0 Z = true) (ws : List Jvm.Cond) (a1 : Addr) (u_min_a1 u_max_a1 : Value) (h0 : Heap) (n0 : Nat) (Z0 : n0 ≤ h0.size) (E_a1 : Exa Z h0 a1 "io/watchring/sim/Tally") (F_min_a1 : Fld Z h0 a1 "io/watchring/sim/Tally" "min" "J" u_min_a1) (F_max_a1 : Fld Z h0 a1 "io/watchring/sim/Tally" "max" "J" u_max_a1) (F_count_a1 : Fld Z h0 a1 "io/watchring/sim/Tally" "count" "J" (.long 0)) (F_total_a1 : Fld Z h0 a1 "io/watchring/sim/Tally" "total" "J" (.long 0)) (g_a1 : n0 ≤ a1) :
    MetFree l (⟨"io/watchring/sim/Tally", "<init>", "()V"⟩ : MethodName) (head1 (Jvm.Cond.code (⟨"io/watchring/sim/Tally", "<init>", "()V"⟩ : MethodName) prog_162_method_1_code 1 none :: ws) ({ frames := 1, cells := 0, slots := 0, locals := 12 } : Room)) (fun a U => a = #[(.ref a1)] ∧ Z.Warmed39 U.vm ∧ U.heap = h0) (fun _ _ _ _ _ => True) (fun _ U o U' => ∃ v L, o = .returned v ∧ QT Z a1 0 0 n0 v U'.heap L ∧ FrameEnd U o U' L ({ frames := 1, cells := 0, slots := 0, locals := 12 } : Room).cells ({ frames := 1, cells := 0, slots := 0, locals := 12 } : Room).slots) := by
  refine MetFree.of_bodySF (plainFor_of_name pn_1) hisR ?_
  intro p e s m args below meth c s₁ Bd hml0 hP hK
  obtain ⟨rfl, hZ, hh⟩ := hP
  have hx := Bd.exec
  have hby := Bd.bytes
  have hml : c.maxLocals = 1 := hml0
  have hown : s.vm.findClass "io/watchring/sim/Tally" = some m.cls := findClass_of_methodNamed Bd.named
  have hnm := (name_of_methodNamed Bd.named Bd.method).1
  have X0 : Stand p l e ({ frames := 1, cells := 0, slots := 0, locals := 12 } : Room) s m #[(.ref a1)] below meth c s₁ [] 0 0 := Stand.of_body Bd
  have e0 : s₁.heap = h0 := by rw [← hh, Bd.state]; rfl
  have N0 := Fr.nil n0
  have pre0 : ∀ t, Steps p.tables e below (s₁.setTop (mkF m 0 #[.val (.ref a1)] [])) t → Steps p.tables e below (s₁.setTop (entryFrame m #[(.ref a1)] 1)) t := fun t k => castTop (ef_1 m a1) k
  obtain ⟨T2, X2, e2, st2⟩ := initO X0 hx hZ hown (hw _ (List.mem_of_getElem? (i := 6) rfl)) (hw _ (List.mem_of_getElem? (i := 7) rfl)) (hw _ (List.mem_of_getElem? (i := 8) rfl)) e0 (g := (mkF m 1 #[.val (.ref a1)] [(.ref a1)])) rfl (by rw [hml]; rfl) rfl (hb hby d1_1) (by decide) (W := 0) (by show 2 * 0 + _ ≤ _; exact Nat.le_of_eq rfl) (by decide)
  obtain ⟨T3, h3, X3, e3, W3, st3⟩ := putF X2 hx hZ hown (host := "") (Or.inl (hw _ (List.mem_of_getElem? (i := 10) rfl))) Via.refl e2 F_min_a1 E_a1 (Or.inl (hw _ (List.mem_of_getElem? (i := 11) rfl))) (hw _ (List.mem_of_getElem? (i := 1) rfl)) (ty := .long) (by decide) rfl rfl (g := (mkF m 8 #[.val (.ref a1)] [(.long (9223372036854775807 : Int64)), (.ref a1)])) rfl rfl (hb hby d1_8)
  have Fw3 := F_min_a1.same W3
  have K3 : Keep h0 h3 [a1] := (Keep.refl h0 [a1]).wr W3 (Or.inl (List.mem_of_getElem? (i := 0) rfl))
  have N3 := Fr.snoc X3 N0 g_a1
  obtain ⟨T4, h4, X4, e4, W4, st4⟩ := putF X3 hx hZ hown (host := "") (Or.inl (hw _ (List.mem_of_getElem? (i := 13) rfl))) Via.refl e3 (F_max_a1.other W3 (Or.inr (slot_ne (Or.inl (hw _ (List.mem_of_getElem? (i := 14) rfl))) (Or.inl (hw _ (List.mem_of_getElem? (i := 11) rfl))) (by decide) (t := .long) (t' := .long) (by decide) (by decide)))) (E_a1.wr W3) (Or.inl (hw _ (List.mem_of_getElem? (i := 14) rfl))) (hw _ (List.mem_of_getElem? (i := 1) rfl)) (ty := .long) (by decide) rfl rfl (g := (mkF m 15 #[.val (.ref a1)] [(.long (-9223372036854775808 : Int64)), (.ref a1)])) rfl rfl (hb hby d1_15)
  have Fw4 := (F_max_a1.other W3 (Or.inr (slot_ne (Or.inl (hw _ (List.mem_of_getElem? (i := 14) rfl))) (Or.inl (hw _ (List.mem_of_getElem? (i := 11) rfl))) (by decide) (t := .long) (t' := .long) (by decide) (by decide)))).same W4
  have K4 : Keep h0 h4 [a1] := K3.wr W4 (Or.inl (List.mem_of_getElem? (i := 0) rfl))
  have N4 := Fr.snoc X4 N3 g_a1
  obtain ⟨fs, hr, hrun, hended, hW, hsame⟩ := X4.leave (v := none) (fun _ => rfl)
  refine ⟨_, _, pre0 _ ?_, hrun, hended, _, _, rfl, ?_, ⟨_, rfl⟩, hW, hsame.mono (by decide) (by decide)⟩
  · show Steps p.tables e below (s₁.setTop (mkF m 0 #[.val (.ref a1)] [])) _
    refine XS.aloadN X0.here hx rfl (hb hby d1_0) rfl rfl ?_
    show Steps p.tables e below (s₁.setTop (mkF m 1 #[.val (.ref a1)] [(.ref a1)])) _
    refine st2 _ ?_
    show Steps p.tables e below (T2.setTop (mkF m 4 #[.val (.ref a1)] [])) _
    refine XS.aloadN X2.here hx rfl (hb hby d1_4) rfl rfl ?_
    show Steps p.tables e below (T2.setTop (mkF m 5 #[.val (.ref a1)] [(.ref a1)])) _
    refine X2.ldc2Long hx hown (mvT hZ (hw _ (List.mem_of_getElem? (i := 9) rfl))) (g := (mkF m 5 #[.val (.ref a1)] [(.ref a1)])) rfl (hb hby d1_5) _ ?_
    show Steps p.tables e below (T2.setTop (mkF m 8 #[.val (.ref a1)] [(.long (9223372036854775807 : Int64)), (.ref a1)])) _
    refine st3 _ ?_
    show Steps p.tables e below (T3.setTop (mkF m 11 #[.val (.ref a1)] [])) _
    refine XS.aloadN X3.here hx rfl (hb hby d1_11) rfl rfl ?_
    show Steps p.tables e below (T3.setTop (mkF m 12 #[.val (.ref a1)] [(.ref a1)])) _
    refine X3.ldc2Long hx hown (mvT hZ (hw _ (List.mem_of_getElem? (i := 12) rfl))) (g := (mkF m 12 #[.val (.ref a1)] [(.ref a1)])) rfl (hb hby d1_12) _ ?_
    show Steps p.tables e below (T3.setTop (mkF m 15 #[.val (.ref a1)] [(.long (-9223372036854775808 : Int64)), (.ref a1)])) _
    refine st4 _ ?_
    show Steps p.tables e below (T4.setTop (mkF m 18 #[.val (.ref a1)] [])) _
    exact X4.returnOut hx Bd.returns (hb hby d1_18) hr
  · show QT Z a1 0 0 n0 _ T4.heap _
    rw [e4]
    exact ⟨rfl, N4, _, _, ((E_a1.wr W3).wr W4), ((F_count_a1.other W3 (Or.inr (slot_ne (Or.inl (hw _ (List.mem_of_getElem? (i := 21) rfl))) (Or.inl (hw _ (List.mem_of_getElem? (i := 11) rfl))) (by decide) (t := .long) (t' := .long) (by decide) (by decide)))).other W4 (Or.inr (slot_ne (Or.inl (hw _ (List.mem_of_getElem? (i := 21) rfl))) (Or.inl (hw _ (List.mem_of_getElem? (i := 14) rfl))) (by decide) (t := .long) (t' := .long) (by decide) (by decide)))), ((F_total_a1.other W3 (Or.inr (slot_ne (Or.inl (hw _ (List.mem_of_getElem? (i := 23) rfl))) (Or.inl (hw _ (List.mem_of_getElem? (i := 11) rfl))) (by decide) (t := .long) (t' := .long) (by decide) (by decide)))).other W4 (Or.inr (slot_ne (Or.inl (hw _ (List.mem_of_getElem? (i := 23) rfl))) (Or.inl (hw _ (List.mem_of_getElem? (i := 14) rfl))) (by decide) (t := .long) (t' := .long) (by decide) (by decide)))), (Fw3.other W4 (Or.inr (slot_ne (Or.inl (hw _ (List.mem_of_getElem? (i := 11) rfl))) (Or.inl (hw _ (List.mem_of_getElem? (i := 14) rfl))) (by decide) (t := .long) (t' := .long) (by decide) (by decide)))), Fw4⟩
theorem d4_0 : decode jdk_29_method_70_code 0 = .ok (.lload_n 0, 1) := by decide +kernel
theorem d4_1 : decode jdk_29_method_70_code 1 = .ok (.lload_n 2, 1) := by decide +kernel
theorem d4_2 : decode jdk_29_method_70_code 2 = .ok (.lcmp, 1) := by decide +kernel
theorem d4_3 : decode jdk_29_method_70_code 3 = .ok (.ifCond .gt 7, 3) := by decide +kernel
theorem d4_10 : decode jdk_29_method_70_code 10 = .ok (.lload_n 2, 1) := by decide +kernel
theorem d4_11 : decode jdk_29_method_70_code 11 = .ok (.lreturn, 1) := by decide +kernel
theorem ef_4 (m : MethodId) (x0 : Int64) (x1 : Int64) : entryFrame m #[(.long x0), (.long x1)] 4 = mkF m 0 #[.val (.long x0), .second, .val (.long x1), .second] [] := by first | (simp [entryFrame, mkF, argsToLocals, Value.category]; done) | rfl
set_option maxRecDepth 65536 in
set_option maxHeartbeats 40000000 in
theorem rm4_t (l : Launch) (Z : State) (a0 : Array Value) (hw : ∀ d ∈ tables_1, d.before a0 Z = true) (ws : List Jvm.Cond) (q1 : Int64) (q2 : Int64) (h0 : Heap) (n0 : Nat) (Z0 : n0 ≤ h0.size) (hc3 : (0 : Int32) < (lcmpW q1 q2)) :
    MetFree l (⟨"java/lang/Math", "min", "(JJ)J"⟩ : MethodName) (head1 (Jvm.Cond.code (⟨"java/lang/Math", "min", "(JJ)J"⟩ : MethodName) jdk_29_method_70_code 4 (some .long) :: ws) ({ frames := 0, cells := 0, slots := 0, locals := 0 } : Room)) (fun a U => a = #[(.long q1), (.long q2)] ∧ Z.Warmed39 U.vm ∧ U.heap = h0) (fun _ _ _ _ _ => True) (fun _ U o U' => ∃ v L, o = .returned v ∧ QP (some (.long q2)) h0 n0 v U'.heap L ∧ FrameEnd U o U' L ({ frames := 0, cells := 0, slots := 0, locals := 0 } : Room).cells ({ frames := 0, cells := 0, slots := 0, locals := 0 } : Room).slots) := by
  refine MetFree.of_bodySF (Jvm.Free.JP.mathPlain rfl (by decide +kernel)) hisR ?_
  intro p e s m args below meth c s₁ Bd hml0 hP hK
  obtain ⟨rfl, hZ, hh⟩ := hP
  have hx := Bd.exec
  have hby := Bd.bytes
  have hml : c.maxLocals = 4 := hml0
  have hown : s.vm.findClass "java/lang/Math" = some m.cls := findClass_of_methodNamed Bd.named
  have hnm := (name_of_methodNamed Bd.named Bd.method).1
  have X0 : Stand p l e ({ frames := 0, cells := 0, slots := 0, locals := 0 } : Room) s m #[(.long q1), (.long q2)] below meth c s₁ [] 0 0 := Stand.of_body Bd
  have e0 : s₁.heap = h0 := by rw [← hh, Bd.state]; rfl
  have N0 := Fr.nil n0
  have pre0 : ∀ t, Steps p.tables e below (s₁.setTop (mkF m 0 #[.val (.long q1), .second, .val (.long q2), .second] [])) t → Steps p.tables e below (s₁.setTop (entryFrame m #[(.long q1), (.long q2)] 4)) t := fun t k => castTop (ef_4 m q1 q2) k
  obtain ⟨fs, hr, hrun, hended, hW, hsame⟩ := X0.leave (v := some (.long q2)) (fun h => by rw [Bd.returns] at h; cases h)
  refine ⟨_, _, pre0 _ ?_, hrun, hended, _, _, rfl, ?_, ⟨_, rfl⟩, hW, hsame.mono (by decide) (by decide)⟩
  · show Steps p.tables e below (s₁.setTop (mkF m 0 #[.val (.long q1), .second, .val (.long q2), .second] [])) _
    refine XS.lloadN X0.here hx rfl (hb hby d4_0) rfl ?_
    show Steps p.tables e below (s₁.setTop (mkF m 1 #[.val (.long q1), .second, .val (.long q2), .second] [(.long q1)])) _
    refine XS.lloadN X0.here hx rfl (hb hby d4_1) rfl ?_
    show Steps p.tables e below (s₁.setTop (mkF m 2 #[.val (.long q1), .second, .val (.long q2), .second] [(.long q2), (.long q1)])) _
    refine XS.lcmp X0.here hx rfl (hb hby d4_2) rfl ?_
    show Steps p.tables e below (s₁.setTop (mkF m 3 #[.val (.long q1), .second, .val (.long q2), .second] [(.int (lcmpW q1 q2))])) _
    refine XS.ifYes X0.here hx rfl (pc0 := 3) (pc' := 10) rfl (hb hby d4_3) rfl ((if0 _ _).trans (tlt hc3).2.2.1) (by decide) (by decide) ?_
    show Steps p.tables e below (s₁.setTop (mkF m 10 #[.val (.long q1), .second, .val (.long q2), .second] [])) _
    refine XS.lloadN X0.here hx rfl (hb hby d4_10) rfl ?_
    show Steps p.tables e below (s₁.setTop (mkF m 11 #[.val (.long q1), .second, .val (.long q2), .second] [(.long q2)])) _
    jvm_step X0.here [X0.here.top, hx, (hb hby d4_11), X0.method', Bd.returns, narrow]
    first | (intro acts; rw [hr _ acts rfl rfl rfl]) | rw [hr _ _ rfl rfl rfl]
    exact Steps.refl _
  · show QP (some (.long q2)) h0 n0 _ s₁.heap _
    rw [e0]
    exact ⟨rfl, N0, rfl⟩
theorem d4_6 : decode jdk_29_method_70_code 6 = .ok (.lload_n 0, 1) := by decide +kernel
theorem d4_7 : decode jdk_29_method_70_code 7 = .ok (.goto 4, 3) := by decide +kernel
set_option maxRecDepth 65536 in
set_option maxHeartbeats 40000000 in
theorem rm4_f (l : Launch) (Z : State) (a0 : Array Value) (hw : ∀ d ∈ tables_1, d.before a0 Z = true) (ws : List Jvm.Cond) (q1 : Int64) (q2 : Int64) (h0 : Heap) (n0 : Nat) (Z0 : n0 ≤ h0.size) (hc3 : ¬ ((0 : Int32) < (lcmpW q1 q2))) :
    MetFree l (⟨"java/lang/Math", "min", "(JJ)J"⟩ : MethodName) (head1 (Jvm.Cond.code (⟨"java/lang/Math", "min", "(JJ)J"⟩ : MethodName) jdk_29_method_70_code 4 (some .long) :: ws) ({ frames := 0, cells := 0, slots := 0, locals := 0 } : Room)) (fun a U => a = #[(.long q1), (.long q2)] ∧ Z.Warmed39 U.vm ∧ U.heap = h0) (fun _ _ _ _ _ => True) (fun _ U o U' => ∃ v L, o = .returned v ∧ QP (some (.long q1)) h0 n0 v U'.heap L ∧ FrameEnd U o U' L ({ frames := 0, cells := 0, slots := 0, locals := 0 } : Room).cells ({ frames := 0, cells := 0, slots := 0, locals := 0 } : Room).slots) := by
  refine MetFree.of_bodySF (Jvm.Free.JP.mathPlain rfl (by decide +kernel)) hisR ?_
  intro p e s m args below meth c s₁ Bd hml0 hP hK
  obtain ⟨rfl, hZ, hh⟩ := hP
  have hx := Bd.exec
  have hby := Bd.bytes
  have hml : c.maxLocals = 4 := hml0
  have hown : s.vm.findClass "java/lang/Math" = some m.cls := findClass_of_methodNamed Bd.named
  have hnm := (name_of_methodNamed Bd.named Bd.method).1
  have X0 : Stand p l e ({ frames := 0, cells := 0, slots := 0, locals := 0 } : Room) s m #[(.long q1), (.long q2)] below meth c s₁ [] 0 0 := Stand.of_body Bd
  have e0 : s₁.heap = h0 := by rw [← hh, Bd.state]; rfl
  have N0 := Fr.nil n0
  have pre0 : ∀ t, Steps p.tables e below (s₁.setTop (mkF m 0 #[.val (.long q1), .second, .val (.long q2), .second] [])) t → Steps p.tables e below (s₁.setTop (entryFrame m #[(.long q1), (.long q2)] 4)) t := fun t k => castTop (ef_4 m q1 q2) k
  obtain ⟨fs, hr, hrun, hended, hW, hsame⟩ := X0.leave (v := some (.long q1)) (fun h => by rw [Bd.returns] at h; cases h)
  refine ⟨_, _, pre0 _ ?_, hrun, hended, _, _, rfl, ?_, ⟨_, rfl⟩, hW, hsame.mono (by decide) (by decide)⟩
  · show Steps p.tables e below (s₁.setTop (mkF m 0 #[.val (.long q1), .second, .val (.long q2), .second] [])) _
    refine XS.lloadN X0.here hx rfl (hb hby d4_0) rfl ?_
    show Steps p.tables e below (s₁.setTop (mkF m 1 #[.val (.long q1), .second, .val (.long q2), .second] [(.long q1)])) _
    refine XS.lloadN X0.here hx rfl (hb hby d4_1) rfl ?_
    show Steps p.tables e below (s₁.setTop (mkF m 2 #[.val (.long q1), .second, .val (.long q2), .second] [(.long q2), (.long q1)])) _
    refine XS.lcmp X0.here hx rfl (hb hby d4_2) rfl ?_
    show Steps p.tables e below (s₁.setTop (mkF m 3 #[.val (.long q1), .second, .val (.long q2), .second] [(.int (lcmpW q1 q2))])) _
    refine XS.ifNo X0.here hx rfl (hb hby d4_3) rfl ((if0 _ _).trans (flt hc3).2.2.1) ?_
    show Steps p.tables e below (s₁.setTop (mkF m 6 #[.val (.long q1), .second, .val (.long q2), .second] [])) _
    refine XS.lloadN X0.here hx rfl (hb hby d4_6) rfl ?_
    show Steps p.tables e below (s₁.setTop (mkF m 7 #[.val (.long q1), .second, .val (.long q2), .second] [(.long q1)])) _
    refine XS.goto X0.here hx rfl (pc0 := 7) (pc' := 11) rfl (hb hby d4_7) (by decide) (by decide) ?_
    show Steps p.tables e below (s₁.setTop (mkF m 11 #[.val (.long q1), .second, .val (.long q2), .second] [(.long q1)])) _
    jvm_step X0.here [X0.here.top, hx, (hb hby d4_11), X0.method', Bd.returns, narrow]
    first | (intro acts; rw [hr _ acts rfl rfl rfl]) | rw [hr _ _ rfl rfl rfl]
    exact Steps.refl _
  · show QP (some (.long q1)) h0 n0 _ s₁.heap _
    rw [e0]
    exact ⟨rfl, N0, rfl⟩
theorem rm4 (l : Launch) (Z : State) (a0 : Array Value) (hw : ∀ d ∈ tables_1, d.before a0 Z = true) (ws : List Jvm.Cond) (q1 q2 z : Int64) (h0 : Heap) (n0 : Nat) (Z0 : n0 ≤ h0.size) (hz : z = if (0 : Int32) < lcmpW q1 q2 then q2 else q1) :
    MetFree l (⟨"java/lang/Math", "min", "(JJ)J"⟩ : MethodName) (head1 (Jvm.Cond.code (⟨"java/lang/Math", "min", "(JJ)J"⟩ : MethodName) jdk_29_method_70_code 4 (some .long) :: ws) ({ frames := 0, cells := 0, slots := 0, locals := 0 } : Room)) (fun a U => a = #[(.long q1), (.long q2)] ∧ Z.Warmed39 U.vm ∧ U.heap = h0) (fun _ _ _ _ _ => True) (fun _ U o U' => ∃ v L, o = .returned v ∧ QP (some (.long z)) h0 n0 v U'.heap L ∧ FrameEnd U o U' L ({ frames := 0, cells := 0, slots := 0, locals := 0 } : Room).cells ({ frames := 0, cells := 0, slots := 0, locals := 0 } : Room).slots) := by
  subst hz
  split
  · rename_i h; exact rm4_t l Z a0 hw ws q1 q2 h0 n0 Z0 h
  · rename_i h; exact rm4_f l Z a0 hw ws q1 q2 h0 n0 Z0 h
theorem d5_0 : decode jdk_29_method_66_code 0 = .ok (.lload_n 0, 1) := by decide +kernel
theorem d5_1 : decode jdk_29_method_66_code 1 = .ok (.lload_n 2, 1) := by decide +kernel
theorem d5_2 : decode jdk_29_method_66_code 2 = .ok (.lcmp, 1) := by decide +kernel
theorem d5_3 : decode jdk_29_method_66_code 3 = .ok (.ifCond .lt 7, 3) := by decide +kernel
theorem d5_10 : decode jdk_29_method_66_code 10 = .ok (.lload_n 2, 1) := by decide +kernel
theorem d5_11 : decode jdk_29_method_66_code 11 = .ok (.lreturn, 1) := by decide +kernel
theorem ef_5 (m : MethodId) (x0 : Int64) (x1 : Int64) : entryFrame m #[(.long x0), (.long x1)] 4 = mkF m 0 #[.val (.long x0), .second, .val (.long x1), .second] [] := by first | (simp [entryFrame, mkF, argsToLocals, Value.category]; done) | rfl
set_option maxRecDepth 65536 in
set_option maxHeartbeats 40000000 in
theorem rm5_t (l : Launch) (Z : State) (a0 : Array Value) (hw : ∀ d ∈ tables_1, d.before a0 Z = true) (ws : List Jvm.Cond) (q1 : Int64) (q2 : Int64) (h0 : Heap) (n0 : Nat) (Z0 : n0 ≤ h0.size) (hc3 : (lcmpW q1 q2) < (0 : Int32)) :
    MetFree l (⟨"java/lang/Math", "max", "(JJ)J"⟩ : MethodName) (head1 (Jvm.Cond.code (⟨"java/lang/Math", "max", "(JJ)J"⟩ : MethodName) jdk_29_method_66_code 4 (some .long) :: ws) ({ frames := 0, cells := 0, slots := 0, locals := 0 } : Room)) (fun a U => a = #[(.long q1), (.long q2)] ∧ Z.Warmed39 U.vm ∧ U.heap = h0) (fun _ _ _ _ _ => True) (fun _ U o U' => ∃ v L, o = .returned v ∧ QP (some (.long q2)) h0 n0 v U'.heap L ∧ FrameEnd U o U' L ({ frames := 0, cells := 0, slots := 0, locals := 0 } : Room).cells ({ frames := 0, cells := 0, slots := 0, locals := 0 } : Room).slots) := by
  refine MetFree.of_bodySF (Jvm.Free.JP.mathPlain rfl (by decide +kernel)) hisR ?_
  intro p e s m args below meth c s₁ Bd hml0 hP hK
  obtain ⟨rfl, hZ, hh⟩ := hP
  have hx := Bd.exec
  have hby := Bd.bytes
  have hml : c.maxLocals = 4 := hml0
  have hown : s.vm.findClass "java/lang/Math" = some m.cls := findClass_of_methodNamed Bd.named
  have hnm := (name_of_methodNamed Bd.named Bd.method).1
  have X0 : Stand p l e ({ frames := 0, cells := 0, slots := 0, locals := 0 } : Room) s m #[(.long q1), (.long q2)] below meth c s₁ [] 0 0 := Stand.of_body Bd
  have e0 : s₁.heap = h0 := by rw [← hh, Bd.state]; rfl
  have N0 := Fr.nil n0
  have pre0 : ∀ t, Steps p.tables e below (s₁.setTop (mkF m 0 #[.val (.long q1), .second, .val (.long q2), .second] [])) t → Steps p.tables e below (s₁.setTop (entryFrame m #[(.long q1), (.long q2)] 4)) t := fun t k => castTop (ef_5 m q1 q2) k
  obtain ⟨fs, hr, hrun, hended, hW, hsame⟩ := X0.leave (v := some (.long q2)) (fun h => by rw [Bd.returns] at h; cases h)
  refine ⟨_, _, pre0 _ ?_, hrun, hended, _, _, rfl, ?_, ⟨_, rfl⟩, hW, hsame.mono (by decide) (by decide)⟩
  · show Steps p.tables e below (s₁.setTop (mkF m 0 #[.val (.long q1), .second, .val (.long q2), .second] [])) _
    refine XS.lloadN X0.here hx rfl (hb hby d5_0) rfl ?_
    show Steps p.tables e below (s₁.setTop (mkF m 1 #[.val (.long q1), .second, .val (.long q2), .second] [(.long q1)])) _
    refine XS.lloadN X0.here hx rfl (hb hby d5_1) rfl ?_
    show Steps p.tables e below (s₁.setTop (mkF m 2 #[.val (.long q1), .second, .val (.long q2), .second] [(.long q2), (.long q1)])) _
    refine XS.lcmp X0.here hx rfl (hb hby d5_2) rfl ?_
    show Steps p.tables e below (s₁.setTop (mkF m 3 #[.val (.long q1), .second, .val (.long q2), .second] [(.int (lcmpW q1 q2))])) _
    refine XS.ifYes X0.here hx rfl (pc0 := 3) (pc' := 10) rfl (hb hby d5_3) rfl ((if0 _ _).trans (tlt hc3).1) (by decide) (by decide) ?_
    show Steps p.tables e below (s₁.setTop (mkF m 10 #[.val (.long q1), .second, .val (.long q2), .second] [])) _
    refine XS.lloadN X0.here hx rfl (hb hby d5_10) rfl ?_
    show Steps p.tables e below (s₁.setTop (mkF m 11 #[.val (.long q1), .second, .val (.long q2), .second] [(.long q2)])) _
    jvm_step X0.here [X0.here.top, hx, (hb hby d5_11), X0.method', Bd.returns, narrow]
    first | (intro acts; rw [hr _ acts rfl rfl rfl]) | rw [hr _ _ rfl rfl rfl]
    exact Steps.refl _
  · show QP (some (.long q2)) h0 n0 _ s₁.heap _
    rw [e0]
    exact ⟨rfl, N0, rfl⟩
theorem d5_6 : decode jdk_29_method_66_code 6 = .ok (.lload_n 0, 1) := by decide +kernel
theorem d5_7 : decode jdk_29_method_66_code 7 = .ok (.goto 4, 3) := by decide +kernel
set_option maxRecDepth 65536 in
set_option maxHeartbeats 40000000 in
theorem rm5_f (l : Launch) (Z : State) (a0 : Array Value) (hw : ∀ d ∈ tables_1, d.before a0 Z = true) (ws : List Jvm.Cond) (q1 : Int64) (q2 : Int64) (h0 : Heap) (n0 : Nat) (Z0 : n0 ≤ h0.size) (hc3 : ¬ ((lcmpW q1 q2) < (0 : Int32))) :
    MetFree l (⟨"java/lang/Math", "max", "(JJ)J"⟩ : MethodName) (head1 (Jvm.Cond.code (⟨"java/lang/Math", "max", "(JJ)J"⟩ : MethodName) jdk_29_method_66_code 4 (some .long) :: ws) ({ frames := 0, cells := 0, slots := 0, locals := 0 } : Room)) (fun a U => a = #[(.long q1), (.long q2)] ∧ Z.Warmed39 U.vm ∧ U.heap = h0) (fun _ _ _ _ _ => True) (fun _ U o U' => ∃ v L, o = .returned v ∧ QP (some (.long q1)) h0 n0 v U'.heap L ∧ FrameEnd U o U' L ({ frames := 0, cells := 0, slots := 0, locals := 0 } : Room).cells ({ frames := 0, cells := 0, slots := 0, locals := 0 } : Room).slots) := by
  refine MetFree.of_bodySF (Jvm.Free.JP.mathPlain rfl (by decide +kernel)) hisR ?_
  intro p e s m args below meth c s₁ Bd hml0 hP hK
  obtain ⟨rfl, hZ, hh⟩ := hP
  have hx := Bd.exec
  have hby := Bd.bytes
  have hml : c.maxLocals = 4 := hml0
  have hown : s.vm.findClass "java/lang/Math" = some m.cls := findClass_of_methodNamed Bd.named
  have hnm := (name_of_methodNamed Bd.named Bd.method).1
  have X0 : Stand p l e ({ frames := 0, cells := 0, slots := 0, locals := 0 } : Room) s m #[(.long q1), (.long q2)] below meth c s₁ [] 0 0 := Stand.of_body Bd
  have e0 : s₁.heap = h0 := by rw [← hh, Bd.state]; rfl
  have N0 := Fr.nil n0
  have pre0 : ∀ t, Steps p.tables e below (s₁.setTop (mkF m 0 #[.val (.long q1), .second, .val (.long q2), .second] [])) t → Steps p.tables e below (s₁.setTop (entryFrame m #[(.long q1), (.long q2)] 4)) t := fun t k => castTop (ef_5 m q1 q2) k
  obtain ⟨fs, hr, hrun, hended, hW, hsame⟩ := X0.leave (v := some (.long q1)) (fun h => by rw [Bd.returns] at h; cases h)
  refine ⟨_, _, pre0 _ ?_, hrun, hended, _, _, rfl, ?_, ⟨_, rfl⟩, hW, hsame.mono (by decide) (by decide)⟩
  · show Steps p.tables e below (s₁.setTop (mkF m 0 #[.val (.long q1), .second, .val (.long q2), .second] [])) _
    refine XS.lloadN X0.here hx rfl (hb hby d5_0) rfl ?_
    show Steps p.tables e below (s₁.setTop (mkF m 1 #[.val (.long q1), .second, .val (.long q2), .second] [(.long q1)])) _
    refine XS.lloadN X0.here hx rfl (hb hby d5_1) rfl ?_
    show Steps p.tables e below (s₁.setTop (mkF m 2 #[.val (.long q1), .second, .val (.long q2), .second] [(.long q2), (.long q1)])) _
    refine XS.lcmp X0.here hx rfl (hb hby d5_2) rfl ?_
    show Steps p.tables e below (s₁.setTop (mkF m 3 #[.val (.long q1), .second, .val (.long q2), .second] [(.int (lcmpW q1 q2))])) _
    refine XS.ifNo X0.here hx rfl (hb hby d5_3) rfl ((if0 _ _).trans (flt hc3).1) ?_
    show Steps p.tables e below (s₁.setTop (mkF m 6 #[.val (.long q1), .second, .val (.long q2), .second] [])) _
    refine XS.lloadN X0.here hx rfl (hb hby d5_6) rfl ?_
    show Steps p.tables e below (s₁.setTop (mkF m 7 #[.val (.long q1), .second, .val (.long q2), .second] [(.long q1)])) _
    refine XS.goto X0.here hx rfl (pc0 := 7) (pc' := 11) rfl (hb hby d5_7) (by decide) (by decide) ?_
    show Steps p.tables e below (s₁.setTop (mkF m 11 #[.val (.long q1), .second, .val (.long q2), .second] [(.long q1)])) _
    jvm_step X0.here [X0.here.top, hx, (hb hby d5_11), X0.method', Bd.returns, narrow]
    first | (intro acts; rw [hr _ acts rfl rfl rfl]) | rw [hr _ _ rfl rfl rfl]
    exact Steps.refl _
  · show QP (some (.long q1)) h0 n0 _ s₁.heap _
    rw [e0]
    exact ⟨rfl, N0, rfl⟩
theorem rm5 (l : Launch) (Z : State) (a0 : Array Value) (hw : ∀ d ∈ tables_1, d.before a0 Z = true) (ws : List Jvm.Cond) (q1 q2 z : Int64) (h0 : Heap) (n0 : Nat) (Z0 : n0 ≤ h0.size) (hz : z = if lcmpW q1 q2 < (0 : Int32) then q2 else q1) :
    MetFree l (⟨"java/lang/Math", "max", "(JJ)J"⟩ : MethodName) (head1 (Jvm.Cond.code (⟨"java/lang/Math", "max", "(JJ)J"⟩ : MethodName) jdk_29_method_66_code 4 (some .long) :: ws) ({ frames := 0, cells := 0, slots := 0, locals := 0 } : Room)) (fun a U => a = #[(.long q1), (.long q2)] ∧ Z.Warmed39 U.vm ∧ U.heap = h0) (fun _ _ _ _ _ => True) (fun _ U o U' => ∃ v L, o = .returned v ∧ QP (some (.long z)) h0 n0 v U'.heap L ∧ FrameEnd U o U' L ({ frames := 0, cells := 0, slots := 0, locals := 0 } : Room).cells ({ frames := 0, cells := 0, slots := 0, locals := 0 } : Room).slots) := by
  subst hz
  split
  · rename_i h; exact rm5_t l Z a0 hw ws q1 q2 h0 n0 Z0 h
  · rename_i h; exact rm5_f l Z a0 hw ws q1 q2 h0 n0 Z0 h
theorem d3_0 : decode prog_162_method_2_code 0 = .ok (.aload_n 0, 1) := by decide +kernel
theorem d3_1 : decode prog_162_method_2_code 1 = .ok (.dup, 1) := by decide +kernel
theorem d3_2 : decode prog_162_method_2_code 2 = .ok (.getfield 22, 3) := by decide +kernel
theorem d3_5 : decode prog_162_method_2_code 5 = .ok (.lconst 1, 1) := by decide +kernel
theorem d3_6 : decode prog_162_method_2_code 6 = .ok (.ladd, 1) := by decide +kernel
theorem d3_7 : decode prog_162_method_2_code 7 = .ok (.putfield 22, 3) := by decide +kernel
theorem d3_10 : decode prog_162_method_2_code 10 = .ok (.aload_n 0, 1) := by decide +kernel
theorem d3_11 : decode prog_162_method_2_code 11 = .ok (.dup, 1) := by decide +kernel
theorem d3_12 : decode prog_162_method_2_code 12 = .ok (.getfield 25, 3) := by decide +kernel
theorem d3_15 : decode prog_162_method_2_code 15 = .ok (.lload_n 1, 1) := by decide +kernel
theorem d3_16 : decode prog_162_method_2_code 16 = .ok (.ladd, 1) := by decide +kernel
theorem d3_17 : decode prog_162_method_2_code 17 = .ok (.putfield 25, 3) := by decide +kernel
theorem d3_20 : decode prog_162_method_2_code 20 = .ok (.aload_n 0, 1) := by decide +kernel
theorem d3_21 : decode prog_162_method_2_code 21 = .ok (.aload_n 0, 1) := by decide +kernel
theorem d3_22 : decode prog_162_method_2_code 22 = .ok (.getfield 11, 3) := by decide +kernel
theorem d3_25 : decode prog_162_method_2_code 25 = .ok (.lload_n 1, 1) := by decide +kernel
theorem d3_26 : decode prog_162_method_2_code 26 = .ok (.invokestatic 28, 3) := by decide +kernel
theorem d3_29 : decode prog_162_method_2_code 29 = .ok (.putfield 11, 3) := by decide +kernel
theorem d3_32 : decode prog_162_method_2_code 32 = .ok (.aload_n 0, 1) := by decide +kernel
theorem d3_33 : decode prog_162_method_2_code 33 = .ok (.aload_n 0, 1) := by decide +kernel
theorem d3_34 : decode prog_162_method_2_code 34 = .ok (.getfield 19, 3) := by decide +kernel
theorem d3_37 : decode prog_162_method_2_code 37 = .ok (.lload_n 1, 1) := by decide +kernel
theorem d3_38 : decode prog_162_method_2_code 38 = .ok (.invokestatic 33, 3) := by decide +kernel
theorem d3_41 : decode prog_162_method_2_code 41 = .ok (.putfield 19, 3) := by decide +kernel
theorem d3_44 : decode prog_162_method_2_code 44 = .ok (.return_, 1) := by decide +kernel
theorem pn_3 : plainName "io/watchring/sim/Tally" = true := by first | (simp [plainName, overriddenIn]; done) | decide +kernel
theorem pd_3_2 : parseMethodDescriptor "(JJ)J" = some ⟨[.long, .long], some .long⟩ := by decide +kernel
theorem ef_3 (m : MethodId) (x0 : Addr) (x1 : Int64) : entryFrame m #[(.ref x0), (.long x1)] 3 = mkF m 0 #[.val (.ref x0), .val (.long x1), .second] [] := by first | (simp [entryFrame, mkF, argsToLocals, Value.category]; done) | rfl
set_option maxRecDepth 65536 in
set_option maxHeartbeats 40000000 in
theorem rm3_ (l : Launch) (Z : State) (a0 : Array Value) (hw : ∀ d ∈ tables_1, d.before a0 Z = true) (ws : List Jvm.Cond) (a1 : Addr) (q2 : Int64) (cnt tot mn mx z1 z2 : Int64) (h0 : Heap) (n0 : Nat) (Z0 : n0 ≤ h0.size) (hT : Tly Z h0 a1 cnt tot mn mx) (g_a1 : n0 ≤ a1) (hz1 : z1 = if (0 : Int32) < lcmpW mn q2 then q2 else mn) (hz2 : z2 = if lcmpW mx q2 < (0 : Int32) then q2 else mx) :
    MetFree l (⟨"io/watchring/sim/Tally", "add", "(J)V"⟩ : MethodName) (head1 (Jvm.Cond.code (⟨"io/watchring/sim/Tally", "add", "(J)V"⟩ : MethodName) prog_162_method_2_code 3 none :: ws) ({ frames := 1, cells := 0, slots := 0, locals := 30 } : Room)) (fun a U => a = #[(.ref a1), (.long q2)] ∧ Z.Warmed39 U.vm ∧ U.heap = h0) (fun _ _ _ _ _ => True) (fun _ U o U' => ∃ v L, o = .returned v ∧ QT Z a1 (cnt + (1 : Int64)) (tot + q2) n0 v U'.heap L ∧ FrameEnd U o U' L ({ frames := 1, cells := 0, slots := 0, locals := 30 } : Room).cells ({ frames := 1, cells := 0, slots := 0, locals := 30 } : Room).slots) := by
  refine MetFree.of_bodySF (plainFor_of_name pn_3) hisR ?_
  intro p e s m args below meth c s₁ Bd hml0 hP hK
  obtain ⟨rfl, hZ, hh⟩ := hP
  have hx := Bd.exec
  have hby := Bd.bytes
  have hml : c.maxLocals = 3 := hml0
  have hown : s.vm.findClass "io/watchring/sim/Tally" = some m.cls := findClass_of_methodNamed Bd.named
  have hnm := (name_of_methodNamed Bd.named Bd.method).1
  have X0 : Stand p l e ({ frames := 1, cells := 0, slots := 0, locals := 30 } : Room) s m #[(.ref a1), (.long q2)] below meth c s₁ [] 0 0 := Stand.of_body Bd
  have e0 : s₁.heap = h0 := by rw [← hh, Bd.state]; rfl
  have N0 := Fr.nil n0
  have pre0 : ∀ t, Steps p.tables e below (s₁.setTop (mkF m 0 #[.val (.ref a1), .val (.long q2), .second] [])) t → Steps p.tables e below (s₁.setTop (entryFrame m #[(.ref a1), (.long q2)] 3)) t := fun t k => castTop (ef_3 m a1 q2) k
  obtain ⟨T3, X3, e3, st3⟩ := getF X0 hx hZ hown (host := "") (Or.inl (hw _ (List.mem_of_getElem? (i := 20) rfl))) Via.refl e0 hT.2.1 (g := (mkF m 2 #[.val (.ref a1), .val (.long q2), .second] [(.ref a1), (.ref a1)])) rfl rfl (hb hby d3_2)
  obtain ⟨T4, h4, X4, e4, W4, st4⟩ := putF X3 hx hZ hown (host := "") (Or.inl (hw _ (List.mem_of_getElem? (i := 20) rfl))) Via.refl e3 hT.2.1 hT.1 (Or.inl (hw _ (List.mem_of_getElem? (i := 21) rfl))) (hw _ (List.mem_of_getElem? (i := 1) rfl)) (ty := .long) (by decide) rfl rfl (g := (mkF m 7 #[.val (.ref a1), .val (.long q2), .second] [(.long (cnt + (1 : Int64))), (.ref a1)])) rfl rfl (hb hby d3_7)
  have Fw4 := hT.2.1.same W4
  have K4 : Keep h0 h4 [a1] := (Keep.refl h0 [a1]).wr W4 (Or.inl (List.mem_of_getElem? (i := 0) rfl))
  have N4 := Fr.snoc X4 N0 g_a1
  obtain ⟨T5, X5, e5, st5⟩ := getF X4 hx hZ hown (host := "") (Or.inl (hw _ (List.mem_of_getElem? (i := 22) rfl))) Via.refl e4 (hT.2.2.1.other W4 (Or.inr (slot_ne (Or.inl (hw _ (List.mem_of_getElem? (i := 23) rfl))) (Or.inl (hw _ (List.mem_of_getElem? (i := 21) rfl))) (by decide) (t := .long) (t' := .long) (by decide) (by decide)))) (g := (mkF m 12 #[.val (.ref a1), .val (.long q2), .second] [(.ref a1), (.ref a1)])) rfl rfl (hb hby d3_12)
  obtain ⟨T6, h6, X6, e6, W6, st6⟩ := putF X5 hx hZ hown (host := "") (Or.inl (hw _ (List.mem_of_getElem? (i := 22) rfl))) Via.refl e5 (hT.2.2.1.other W4 (Or.inr (slot_ne (Or.inl (hw _ (List.mem_of_getElem? (i := 23) rfl))) (Or.inl (hw _ (List.mem_of_getElem? (i := 21) rfl))) (by decide) (t := .long) (t' := .long) (by decide) (by decide)))) (hT.1.wr W4) (Or.inl (hw _ (List.mem_of_getElem? (i := 23) rfl))) (hw _ (List.mem_of_getElem? (i := 1) rfl)) (ty := .long) (by decide) rfl rfl (g := (mkF m 17 #[.val (.ref a1), .val (.long q2), .second] [(.long (tot + q2)), (.ref a1)])) rfl rfl (hb hby d3_17)
  have Fw6 := (hT.2.2.1.other W4 (Or.inr (slot_ne (Or.inl (hw _ (List.mem_of_getElem? (i := 23) rfl))) (Or.inl (hw _ (List.mem_of_getElem? (i := 21) rfl))) (by decide) (t := .long) (t' := .long) (by decide) (by decide)))).same W6
  have K6 : Keep h0 h6 [a1] := K4.wr W6 (Or.inl (List.mem_of_getElem? (i := 0) rfl))
  have N6 := Fr.snoc X6 N4 g_a1
  obtain ⟨T7, X7, e7, st7⟩ := getF X6 hx hZ hown (host := "") (Or.inl (hw _ (List.mem_of_getElem? (i := 10) rfl))) Via.refl e6 ((hT.2.2.2.1.other W4 (Or.inr (slot_ne (Or.inl (hw _ (List.mem_of_getElem? (i := 11) rfl))) (Or.inl (hw _ (List.mem_of_getElem? (i := 21) rfl))) (by decide) (t := .long) (t' := .long) (by decide) (by decide)))).other W6 (Or.inr (slot_ne (Or.inl (hw _ (List.mem_of_getElem? (i := 11) rfl))) (Or.inl (hw _ (List.mem_of_getElem? (i := 23) rfl))) (by decide) (t := .long) (t' := .long) (by decide) (by decide)))) (g := (mkF m 22 #[.val (.ref a1), .val (.long q2), .second] [(.ref a1), (.ref a1)])) rfl rfl (hb hby d3_22)
  obtain ⟨_, _, ⟨T8, L8, k8, n8⟩, -, X8, ⟨Lc8, hQ8, l8, y8, z8⟩, st8⟩ := Jvm.LawKit.callS X7 hx (y := (⟨"java/lang/Math", "min", "(JJ)J"⟩ : MethodName)) hown (mvT hZ (hw _ (List.mem_of_getElem? (i := 24) rfl))) (mvT hZ (hw _ (List.mem_of_getElem? (i := 25) rfl))) (mvT hZ (hw _ (List.mem_of_getElem? (i := 26) rfl))) (mvT hZ (hw _ (List.mem_of_getElem? (i := 27) rfl))) (by decide) (backOf (W := 1) (rm4 l Z a0 hw [] mn q2 z1 h6 n0 (Nat.le_trans (Nat.le_trans Z0 (Keep.of_wr W4).1) (Keep.of_wr W6).1) hz1) hZ (hw _ (List.mem_of_getElem? (i := 27) rfl)) (hw _ (List.mem_of_getElem? (i := 26) rfl)) (by decide) (by decide)) (g := (mkF m 26 #[.val (.ref a1), .val (.long q2), .second] [(.long q2), (.long mn), (.ref a1)])) rfl (by rw [hml]; rfl) (argsL := [(.long mn), (.long q2)]) (rest := [(.ref a1)]) (lenOf pd_3_2 rfl) rfl (by show 2 * 0 + _ ≤ _; exact Nat.le_of_eq rfl) (hb hby d3_26) (fun _ _ => ⟨rfl, e7, (by decide : 0 + 0 ≤ _), (by decide : 0 + 0 ≤ _)⟩)
  dsimp only [Pt.U, Pt.locs, Pt.cells, Pt.slots] at X8 l8 y8 z8 st8 hQ8
  subst l8 y8 z8
  obtain ⟨rfl, N8q, e8⟩ := hQ8
  have N8 := Fr.app N6 N8q
  obtain ⟨T9, h9, X9, e9, W9, st9⟩ := putF X8 hx hZ hown (host := "") (Or.inl (hw _ (List.mem_of_getElem? (i := 10) rfl))) Via.refl e8 ((hT.2.2.2.1.other W4 (Or.inr (slot_ne (Or.inl (hw _ (List.mem_of_getElem? (i := 11) rfl))) (Or.inl (hw _ (List.mem_of_getElem? (i := 21) rfl))) (by decide) (t := .long) (t' := .long) (by decide) (by decide)))).other W6 (Or.inr (slot_ne (Or.inl (hw _ (List.mem_of_getElem? (i := 11) rfl))) (Or.inl (hw _ (List.mem_of_getElem? (i := 23) rfl))) (by decide) (t := .long) (t' := .long) (by decide) (by decide)))) ((hT.1.wr W4).wr W6) (Or.inl (hw _ (List.mem_of_getElem? (i := 11) rfl))) (hw _ (List.mem_of_getElem? (i := 1) rfl)) (ty := .long) (by decide) rfl rfl (g := (mkF m 29 #[.val (.ref a1), .val (.long q2), .second] [(.long z1), (.ref a1)])) rfl rfl (hb hby d3_29)
  have Fw9 := ((hT.2.2.2.1.other W4 (Or.inr (slot_ne (Or.inl (hw _ (List.mem_of_getElem? (i := 11) rfl))) (Or.inl (hw _ (List.mem_of_getElem? (i := 21) rfl))) (by decide) (t := .long) (t' := .long) (by decide) (by decide)))).other W6 (Or.inr (slot_ne (Or.inl (hw _ (List.mem_of_getElem? (i := 11) rfl))) (Or.inl (hw _ (List.mem_of_getElem? (i := 23) rfl))) (by decide) (t := .long) (t' := .long) (by decide) (by decide)))).same W9
  have K9 : Keep h0 h9 [a1] := K6.wr W9 (Or.inl (List.mem_of_getElem? (i := 0) rfl))
  have N9 := Fr.snoc X9 N8 g_a1
  obtain ⟨T10, X10, e10, st10⟩ := getF X9 hx hZ hown (host := "") (Or.inl (hw _ (List.mem_of_getElem? (i := 13) rfl))) Via.refl e9 (((hT.2.2.2.2.other W4 (Or.inr (slot_ne (Or.inl (hw _ (List.mem_of_getElem? (i := 14) rfl))) (Or.inl (hw _ (List.mem_of_getElem? (i := 21) rfl))) (by decide) (t := .long) (t' := .long) (by decide) (by decide)))).other W6 (Or.inr (slot_ne (Or.inl (hw _ (List.mem_of_getElem? (i := 14) rfl))) (Or.inl (hw _ (List.mem_of_getElem? (i := 23) rfl))) (by decide) (t := .long) (t' := .long) (by decide) (by decide)))).other W9 (Or.inr (slot_ne (Or.inl (hw _ (List.mem_of_getElem? (i := 14) rfl))) (Or.inl (hw _ (List.mem_of_getElem? (i := 11) rfl))) (by decide) (t := .long) (t' := .long) (by decide) (by decide)))) (g := (mkF m 34 #[.val (.ref a1), .val (.long q2), .second] [(.ref a1), (.ref a1)])) rfl rfl (hb hby d3_34)
  obtain ⟨_, _, ⟨T11, L11, k11, n11⟩, -, X11, ⟨Lc11, hQ11, l11, y11, z11⟩, st11⟩ := Jvm.LawKit.callS X10 hx (y := (⟨"java/lang/Math", "max", "(JJ)J"⟩ : MethodName)) hown (mvT hZ (hw _ (List.mem_of_getElem? (i := 28) rfl))) (mvT hZ (hw _ (List.mem_of_getElem? (i := 29) rfl))) (mvT hZ (hw _ (List.mem_of_getElem? (i := 26) rfl))) (mvT hZ (hw _ (List.mem_of_getElem? (i := 30) rfl))) (by decide) (backOf (W := 1) (rm5 l Z a0 hw [] mx q2 z2 h9 n0 (Nat.le_trans (Nat.le_trans (Nat.le_trans Z0 (Keep.of_wr W4).1) (Keep.of_wr W6).1) (Keep.of_wr W9).1) hz2) hZ (hw _ (List.mem_of_getElem? (i := 30) rfl)) (hw _ (List.mem_of_getElem? (i := 26) rfl)) (by decide) (by decide)) (g := (mkF m 38 #[.val (.ref a1), .val (.long q2), .second] [(.long q2), (.long mx), (.ref a1)])) rfl (by rw [hml]; rfl) (argsL := [(.long mx), (.long q2)]) (rest := [(.ref a1)]) (lenOf pd_3_2 rfl) rfl (by show 2 * 0 + _ ≤ _; exact Nat.le_of_eq rfl) (hb hby d3_38) (fun _ _ => ⟨rfl, e10, (by decide : 0 + 0 ≤ _), (by decide : 0 + 0 ≤ _)⟩)
  dsimp only [Pt.U, Pt.locs, Pt.cells, Pt.slots] at X11 l11 y11 z11 st11 hQ11
  subst l11 y11 z11
  obtain ⟨rfl, N11q, e11⟩ := hQ11
  have N11 := Fr.app N9 N11q
  obtain ⟨T12, h12, X12, e12, W12, st12⟩ := putF X11 hx hZ hown (host := "") (Or.inl (hw _ (List.mem_of_getElem? (i := 13) rfl))) Via.refl e11 (((hT.2.2.2.2.other W4 (Or.inr (slot_ne (Or.inl (hw _ (List.mem_of_getElem? (i := 14) rfl))) (Or.inl (hw _ (List.mem_of_getElem? (i := 21) rfl))) (by decide) (t := .long) (t' := .long) (by decide) (by decide)))).other W6 (Or.inr (slot_ne (Or.inl (hw _ (List.mem_of_getElem? (i := 14) rfl))) (Or.inl (hw _ (List.mem_of_getElem? (i := 23) rfl))) (by decide) (t := .long) (t' := .long) (by decide) (by decide)))).other W9 (Or.inr (slot_ne (Or.inl (hw _ (List.mem_of_getElem? (i := 14) rfl))) (Or.inl (hw _ (List.mem_of_getElem? (i := 11) rfl))) (by decide) (t := .long) (t' := .long) (by decide) (by decide)))) (((hT.1.wr W4).wr W6).wr W9) (Or.inl (hw _ (List.mem_of_getElem? (i := 14) rfl))) (hw _ (List.mem_of_getElem? (i := 1) rfl)) (ty := .long) (by decide) rfl rfl (g := (mkF m 41 #[.val (.ref a1), .val (.long q2), .second] [(.long z2), (.ref a1)])) rfl rfl (hb hby d3_41)
  have Fw12 := (((hT.2.2.2.2.other W4 (Or.inr (slot_ne (Or.inl (hw _ (List.mem_of_getElem? (i := 14) rfl))) (Or.inl (hw _ (List.mem_of_getElem? (i := 21) rfl))) (by decide) (t := .long) (t' := .long) (by decide) (by decide)))).other W6 (Or.inr (slot_ne (Or.inl (hw _ (List.mem_of_getElem? (i := 14) rfl))) (Or.inl (hw _ (List.mem_of_getElem? (i := 23) rfl))) (by decide) (t := .long) (t' := .long) (by decide) (by decide)))).other W9 (Or.inr (slot_ne (Or.inl (hw _ (List.mem_of_getElem? (i := 14) rfl))) (Or.inl (hw _ (List.mem_of_getElem? (i := 11) rfl))) (by decide) (t := .long) (t' := .long) (by decide) (by decide)))).same W12
  have K12 : Keep h0 h12 [a1] := K9.wr W12 (Or.inl (List.mem_of_getElem? (i := 0) rfl))
  have N12 := Fr.snoc X12 N11 g_a1
  obtain ⟨fs, hr, hrun, hended, hW, hsame⟩ := X12.leave (v := none) (fun _ => rfl)
  refine ⟨_, _, pre0 _ ?_, hrun, hended, _, _, rfl, ?_, ⟨_, rfl⟩, hW, hsame.mono (by decide) (by decide)⟩
  · show Steps p.tables e below (s₁.setTop (mkF m 0 #[.val (.ref a1), .val (.long q2), .second] [])) _
    refine XS.aloadN X0.here hx rfl (hb hby d3_0) rfl rfl ?_
    show Steps p.tables e below (s₁.setTop (mkF m 1 #[.val (.ref a1), .val (.long q2), .second] [(.ref a1)])) _
    refine XS.dup X0.here hx rfl (hb hby d3_1) rfl rfl ?_
    show Steps p.tables e below (s₁.setTop (mkF m 2 #[.val (.ref a1), .val (.long q2), .second] [(.ref a1), (.ref a1)])) _
    refine st3 _ ?_
    show Steps p.tables e below (T3.setTop (mkF m 5 #[.val (.ref a1), .val (.long q2), .second] [(.long cnt), (.ref a1)])) _
    refine XS.lconst X3.here hx rfl (hb hby d3_5) ?_
    show Steps p.tables e below (T3.setTop (mkF m 6 #[.val (.ref a1), .val (.long q2), .second] [(.long (1 : Int64)), (.long cnt), (.ref a1)])) _
    refine XS.ladd X3.here hx rfl (hb hby d3_6) rfl ?_
    show Steps p.tables e below (T3.setTop (mkF m 7 #[.val (.ref a1), .val (.long q2), .second] [(.long (cnt + (1 : Int64))), (.ref a1)])) _
    refine st4 _ ?_
    show Steps p.tables e below (T4.setTop (mkF m 10 #[.val (.ref a1), .val (.long q2), .second] [])) _
    refine XS.aloadN X4.here hx rfl (hb hby d3_10) rfl rfl ?_
    show Steps p.tables e below (T4.setTop (mkF m 11 #[.val (.ref a1), .val (.long q2), .second] [(.ref a1)])) _
    refine XS.dup X4.here hx rfl (hb hby d3_11) rfl rfl ?_
    show Steps p.tables e below (T4.setTop (mkF m 12 #[.val (.ref a1), .val (.long q2), .second] [(.ref a1), (.ref a1)])) _
    refine st5 _ ?_
    show Steps p.tables e below (T5.setTop (mkF m 15 #[.val (.ref a1), .val (.long q2), .second] [(.long tot), (.ref a1)])) _
    refine XS.lloadN X5.here hx rfl (hb hby d3_15) rfl ?_
    show Steps p.tables e below (T5.setTop (mkF m 16 #[.val (.ref a1), .val (.long q2), .second] [(.long q2), (.long tot), (.ref a1)])) _
    refine XS.ladd X5.here hx rfl (hb hby d3_16) rfl ?_
    show Steps p.tables e below (T5.setTop (mkF m 17 #[.val (.ref a1), .val (.long q2), .second] [(.long (tot + q2)), (.ref a1)])) _
    refine st6 _ ?_
    show Steps p.tables e below (T6.setTop (mkF m 20 #[.val (.ref a1), .val (.long q2), .second] [])) _
    refine XS.aloadN X6.here hx rfl (hb hby d3_20) rfl rfl ?_
    show Steps p.tables e below (T6.setTop (mkF m 21 #[.val (.ref a1), .val (.long q2), .second] [(.ref a1)])) _
    refine XS.aloadN X6.here hx rfl (hb hby d3_21) rfl rfl ?_
    show Steps p.tables e below (T6.setTop (mkF m 22 #[.val (.ref a1), .val (.long q2), .second] [(.ref a1), (.ref a1)])) _
    refine st7 _ ?_
    show Steps p.tables e below (T7.setTop (mkF m 25 #[.val (.ref a1), .val (.long q2), .second] [(.long mn), (.ref a1)])) _
    refine XS.lloadN X7.here hx rfl (hb hby d3_25) rfl ?_
    show Steps p.tables e below (T7.setTop (mkF m 26 #[.val (.ref a1), .val (.long q2), .second] [(.long q2), (.long mn), (.ref a1)])) _
    refine st8 _ ?_
    show Steps p.tables e below (T8.setTop (mkF m 29 #[.val (.ref a1), .val (.long q2), .second] [(.long z1), (.ref a1)])) _
    refine st9 _ ?_
    show Steps p.tables e below (T9.setTop (mkF m 32 #[.val (.ref a1), .val (.long q2), .second] [])) _
    refine XS.aloadN X9.here hx rfl (hb hby d3_32) rfl rfl ?_
    show Steps p.tables e below (T9.setTop (mkF m 33 #[.val (.ref a1), .val (.long q2), .second] [(.ref a1)])) _
    refine XS.aloadN X9.here hx rfl (hb hby d3_33) rfl rfl ?_
    show Steps p.tables e below (T9.setTop (mkF m 34 #[.val (.ref a1), .val (.long q2), .second] [(.ref a1), (.ref a1)])) _
    refine st10 _ ?_
    show Steps p.tables e below (T10.setTop (mkF m 37 #[.val (.ref a1), .val (.long q2), .second] [(.long mx), (.ref a1)])) _
    refine XS.lloadN X10.here hx rfl (hb hby d3_37) rfl ?_
    show Steps p.tables e below (T10.setTop (mkF m 38 #[.val (.ref a1), .val (.long q2), .second] [(.long q2), (.long mx), (.ref a1)])) _
    refine st11 _ ?_
    show Steps p.tables e below (T11.setTop (mkF m 41 #[.val (.ref a1), .val (.long q2), .second] [(.long z2), (.ref a1)])) _
    refine st12 _ ?_
    show Steps p.tables e below (T12.setTop (mkF m 44 #[.val (.ref a1), .val (.long q2), .second] [])) _
    exact X12.returnOut hx Bd.returns (hb hby d3_44) hr
  · show QT Z a1 (cnt + (1 : Int64)) (tot + q2) n0 _ T12.heap _
    rw [e12]
    exact ⟨rfl, N12, _, _, ((((hT.1.wr W4).wr W6).wr W9).wr W12), (((Fw4.other W6 (Or.inr (slot_ne (Or.inl (hw _ (List.mem_of_getElem? (i := 21) rfl))) (Or.inl (hw _ (List.mem_of_getElem? (i := 23) rfl))) (by decide) (t := .long) (t' := .long) (by decide) (by decide)))).other W9 (Or.inr (slot_ne (Or.inl (hw _ (List.mem_of_getElem? (i := 21) rfl))) (Or.inl (hw _ (List.mem_of_getElem? (i := 11) rfl))) (by decide) (t := .long) (t' := .long) (by decide) (by decide)))).other W12 (Or.inr (slot_ne (Or.inl (hw _ (List.mem_of_getElem? (i := 21) rfl))) (Or.inl (hw _ (List.mem_of_getElem? (i := 14) rfl))) (by decide) (t := .long) (t' := .long) (by decide) (by decide)))), ((Fw6.other W9 (Or.inr (slot_ne (Or.inl (hw _ (List.mem_of_getElem? (i := 23) rfl))) (Or.inl (hw _ (List.mem_of_getElem? (i := 11) rfl))) (by decide) (t := .long) (t' := .long) (by decide) (by decide)))).other W12 (Or.inr (slot_ne (Or.inl (hw _ (List.mem_of_getElem? (i := 23) rfl))) (Or.inl (hw _ (List.mem_of_getElem? (i := 14) rfl))) (by decide) (t := .long) (t' := .long) (by decide) (by decide)))), (Fw9.other W12 (Or.inr (slot_ne (Or.inl (hw _ (List.mem_of_getElem? (i := 11) rfl))) (Or.inl (hw _ (List.mem_of_getElem? (i := 14) rfl))) (by decide) (t := .long) (t' := .long) (by decide) (by decide)))), Fw12⟩
theorem rm3 (l : Launch) (Z : State) (a0 : Array Value) (hw : ∀ d ∈ tables_1, d.before a0 Z = true) (ws : List Jvm.Cond) (a1 : Addr) (q2 : Int64) (cnt tot c1 t1 : Int64) (h0 : Heap) (n0 : Nat) (Z0 : n0 ≤ h0.size) (hT : ∃ mn mx, Tly Z h0 a1 cnt tot mn mx) (g_a1 : n0 ≤ a1) (hc : c1 = cnt + (1 : Int64)) (ht : t1 = tot + q2) :
    MetFree l (⟨"io/watchring/sim/Tally", "add", "(J)V"⟩ : MethodName) (head1 (Jvm.Cond.code (⟨"io/watchring/sim/Tally", "add", "(J)V"⟩ : MethodName) prog_162_method_2_code 3 none :: ws) ({ frames := 1, cells := 0, slots := 0, locals := 30 } : Room)) (fun a U => a = #[(.ref a1), (.long q2)] ∧ Z.Warmed39 U.vm ∧ U.heap = h0) (fun _ _ _ _ _ => True) (fun _ U o U' => ∃ v L, o = .returned v ∧ QT Z a1 c1 t1 n0 v U'.heap L ∧ FrameEnd U o U' L ({ frames := 1, cells := 0, slots := 0, locals := 30 } : Room).cells ({ frames := 1, cells := 0, slots := 0, locals := 30 } : Room).slots) := by
  obtain ⟨mn, mx, hT⟩ := hT
  subst hc ht
  exact rm3_ l Z a0 hw ws a1 q2 cnt tot mn mx _ _ h0 n0 Z0 hT g_a1 rfl rfl
theorem d6_0 : decode prog_162_method_4_code 0 = .ok (.aload_n 0, 1) := by decide +kernel
theorem d6_1 : decode prog_162_method_4_code 1 = .ok (.getfield 22, 3) := by decide +kernel
theorem d6_4 : decode prog_162_method_4_code 4 = .ok (.lconst 0, 1) := by decide +kernel
theorem d6_5 : decode prog_162_method_4_code 5 = .ok (.lcmp, 1) := by decide +kernel
theorem d6_6 : decode prog_162_method_4_code 6 = .ok (.ifCond .ne 9, 3) := by decide +kernel
theorem d6_9 : decode prog_162_method_4_code 9 = .ok (.ldc2_w 37, 3) := by decide +kernel
theorem d6_12 : decode prog_162_method_4_code 12 = .ok (.goto 14, 3) := by decide +kernel
theorem d6_26 : decode prog_162_method_4_code 26 = .ok (.dreturn, 1) := by decide +kernel
theorem pn_6 : plainName "io/watchring/sim/Tally" = true := by first | (simp [plainName, overriddenIn]; done) | decide +kernel
theorem ef_6 (m : MethodId) (x0 : Addr) : entryFrame m #[(.ref x0)] 1 = mkF m 0 #[.val (.ref x0)] [] := by first | (simp [entryFrame, mkF, argsToLocals, Value.category]; done) | rfl
set_option maxRecDepth 65536 in
set_option maxHeartbeats 40000000 in
theorem rm6_f (l : Launch) (Z : State) (a0 : Array Value) (hw : ∀ d ∈ tables_1, d.before a0 Z = true) (ws : List Jvm.Cond) (a1 : Addr) (cnt tot mn mx : Int64) (h0 : Heap) (n0 : Nat) (Z0 : n0 ≤ h0.size) (hT : Tly Z h0 a1 cnt tot mn mx) (hc6 : (lcmpW cnt (0 : Int64)) = (0 : Int32)) :
    MetFree l (⟨"io/watchring/sim/Tally", "mean", "()D"⟩ : MethodName) (head1 (Jvm.Cond.code (⟨"io/watchring/sim/Tally", "mean", "()D"⟩ : MethodName) prog_162_method_4_code 1 (some .double) :: ws) ({ frames := 0, cells := 0, slots := 0, locals := 0 } : Room)) (fun a U => a = #[(.ref a1)] ∧ Z.Warmed39 U.vm ∧ U.heap = h0) (fun _ _ _ _ _ => True) (fun _ U o U' => ∃ v L, o = .returned v ∧ QP (some (.double (9221120237041090560 : UInt64))) h0 n0 v U'.heap L ∧ FrameEnd U o U' L ({ frames := 0, cells := 0, slots := 0, locals := 0 } : Room).cells ({ frames := 0, cells := 0, slots := 0, locals := 0 } : Room).slots) := by
  refine MetFree.of_bodySF (plainFor_of_name pn_6) hisR ?_
  intro p e s m args below meth c s₁ Bd hml0 hP hK
  obtain ⟨rfl, hZ, hh⟩ := hP
  have hx := Bd.exec
  have hby := Bd.bytes
  have hml : c.maxLocals = 1 := hml0
  have hown : s.vm.findClass "io/watchring/sim/Tally" = some m.cls := findClass_of_methodNamed Bd.named
  have hnm := (name_of_methodNamed Bd.named Bd.method).1
  have X0 : Stand p l e ({ frames := 0, cells := 0, slots := 0, locals := 0 } : Room) s m #[(.ref a1)] below meth c s₁ [] 0 0 := Stand.of_body Bd
  have e0 : s₁.heap = h0 := by rw [← hh, Bd.state]; rfl
  have N0 := Fr.nil n0
  have pre0 : ∀ t, Steps p.tables e below (s₁.setTop (mkF m 0 #[.val (.ref a1)] [])) t → Steps p.tables e below (s₁.setTop (entryFrame m #[(.ref a1)] 1)) t := fun t k => castTop (ef_6 m a1) k
  obtain ⟨T2, X2, e2, st2⟩ := getF X0 hx hZ hown (host := "") (Or.inl (hw _ (List.mem_of_getElem? (i := 20) rfl))) Via.refl e0 hT.2.1 (g := (mkF m 1 #[.val (.ref a1)] [(.ref a1)])) rfl rfl (hb hby d6_1)
  obtain ⟨fs, hr, hrun, hended, hW, hsame⟩ := X2.leave (v := some (.double (9221120237041090560 : UInt64))) (fun h => by rw [Bd.returns] at h; cases h)
  refine ⟨_, _, pre0 _ ?_, hrun, hended, _, _, rfl, ?_, ⟨_, rfl⟩, hW, hsame.mono (by decide) (by decide)⟩
  · show Steps p.tables e below (s₁.setTop (mkF m 0 #[.val (.ref a1)] [])) _
    refine XS.aloadN X0.here hx rfl (hb hby d6_0) rfl rfl ?_
    show Steps p.tables e below (s₁.setTop (mkF m 1 #[.val (.ref a1)] [(.ref a1)])) _
    refine st2 _ ?_
    show Steps p.tables e below (T2.setTop (mkF m 4 #[.val (.ref a1)] [(.long cnt)])) _
    refine XS.lconst X2.here hx rfl (hb hby d6_4) ?_
    show Steps p.tables e below (T2.setTop (mkF m 5 #[.val (.ref a1)] [(.long (0 : Int64)), (.long cnt)])) _
    refine XS.lcmp X2.here hx rfl (hb hby d6_5) rfl ?_
    show Steps p.tables e below (T2.setTop (mkF m 6 #[.val (.ref a1)] [(.int (lcmpW cnt (0 : Int64)))])) _
    refine XS.ifNo X2.here hx rfl (hb hby d6_6) rfl ((if0 _ _).trans (teq hc6).2) ?_
    show Steps p.tables e below (T2.setTop (mkF m 9 #[.val (.ref a1)] [])) _
    refine X2.ldc2DoubleC hx hown (mvT hZ (hw _ (List.mem_of_getElem? (i := 37) rfl))) (g := (mkF m 9 #[.val (.ref a1)] [])) rfl (hb hby d6_9) _ ?_
    show Steps p.tables e below (T2.setTop (mkF m 12 #[.val (.ref a1)] [(.double (9221120237041090560 : UInt64))])) _
    refine XS.goto X2.here hx rfl (pc0 := 12) (pc' := 26) rfl (hb hby d6_12) (by decide) (by decide) ?_
    show Steps p.tables e below (T2.setTop (mkF m 26 #[.val (.ref a1)] [(.double (9221120237041090560 : UInt64))])) _
    jvm_step X2.here [X2.here.top, hx, (hb hby d6_26), X2.method', Bd.returns, narrow]
    first | (intro acts; rw [hr _ acts rfl rfl rfl]) | rw [hr _ _ rfl rfl rfl]
    exact Steps.refl _
  · show QP (some (.double (9221120237041090560 : UInt64))) h0 n0 _ T2.heap _
    rw [e2]
    exact ⟨rfl, N0, rfl⟩
theorem d6_15 : decode prog_162_method_4_code 15 = .ok (.aload_n 0, 1) := by decide +kernel
theorem d6_16 : decode prog_162_method_4_code 16 = .ok (.getfield 25, 3) := by decide +kernel
theorem d6_19 : decode prog_162_method_4_code 19 = .ok (.l2d, 1) := by decide +kernel
theorem d6_20 : decode prog_162_method_4_code 20 = .ok (.aload_n 0, 1) := by decide +kernel
theorem d6_21 : decode prog_162_method_4_code 21 = .ok (.getfield 22, 3) := by decide +kernel
theorem d6_24 : decode prog_162_method_4_code 24 = .ok (.l2d, 1) := by decide +kernel
theorem d6_25 : decode prog_162_method_4_code 25 = .ok (.ddiv, 1) := by decide +kernel
set_option maxRecDepth 65536 in
set_option maxHeartbeats 40000000 in
theorem rm6_t (l : Launch) (Z : State) (a0 : Array Value) (hw : ∀ d ∈ tables_1, d.before a0 Z = true) (ws : List Jvm.Cond) (a1 : Addr) (cnt tot mn mx : Int64) (h0 : Heap) (n0 : Nat) (Z0 : n0 ≤ h0.size) (hT : Tly Z h0 a1 cnt tot mn mx) (hm : Jvm.Free.Fl.NoNaN64 (FP.ddiv (FP.l2d tot) (FP.l2d cnt))) (hc6 : ¬ ((lcmpW cnt (0 : Int64)) = (0 : Int32))) :
    MetFree l (⟨"io/watchring/sim/Tally", "mean", "()D"⟩ : MethodName) (head1 (Jvm.Cond.code (⟨"io/watchring/sim/Tally", "mean", "()D"⟩ : MethodName) prog_162_method_4_code 1 (some .double) :: ws) ({ frames := 0, cells := 0, slots := 0, locals := 0 } : Room)) (fun a U => a = #[(.ref a1)] ∧ Z.Warmed39 U.vm ∧ U.heap = h0) (fun _ _ _ _ _ => True) (fun _ U o U' => ∃ v L, o = .returned v ∧ QP (some (.double (FP.ddiv (FP.l2d tot) (FP.l2d cnt)))) h0 n0 v U'.heap L ∧ FrameEnd U o U' L ({ frames := 0, cells := 0, slots := 0, locals := 0 } : Room).cells ({ frames := 0, cells := 0, slots := 0, locals := 0 } : Room).slots) := by
  refine MetFree.of_bodySF (plainFor_of_name pn_6) hisR ?_
  intro p e s m args below meth c s₁ Bd hml0 hP hK
  obtain ⟨rfl, hZ, hh⟩ := hP
  have hx := Bd.exec
  have hby := Bd.bytes
  have hml : c.maxLocals = 1 := hml0
  have hown : s.vm.findClass "io/watchring/sim/Tally" = some m.cls := findClass_of_methodNamed Bd.named
  have hnm := (name_of_methodNamed Bd.named Bd.method).1
  have X0 : Stand p l e ({ frames := 0, cells := 0, slots := 0, locals := 0 } : Room) s m #[(.ref a1)] below meth c s₁ [] 0 0 := Stand.of_body Bd
  have e0 : s₁.heap = h0 := by rw [← hh, Bd.state]; rfl
  have N0 := Fr.nil n0
  have pre0 : ∀ t, Steps p.tables e below (s₁.setTop (mkF m 0 #[.val (.ref a1)] [])) t → Steps p.tables e below (s₁.setTop (entryFrame m #[(.ref a1)] 1)) t := fun t k => castTop (ef_6 m a1) k
  obtain ⟨T2, X2, e2, st2⟩ := getF X0 hx hZ hown (host := "") (Or.inl (hw _ (List.mem_of_getElem? (i := 20) rfl))) Via.refl e0 hT.2.1 (g := (mkF m 1 #[.val (.ref a1)] [(.ref a1)])) rfl rfl (hb hby d6_1)
  obtain ⟨T3, X3, e3, st3⟩ := getF X2 hx hZ hown (host := "") (Or.inl (hw _ (List.mem_of_getElem? (i := 22) rfl))) Via.refl e2 hT.2.2.1 (g := (mkF m 16 #[.val (.ref a1)] [(.ref a1)])) rfl rfl (hb hby d6_16)
  obtain ⟨T4, X4, e4, st4⟩ := getF X3 hx hZ hown (host := "") (Or.inl (hw _ (List.mem_of_getElem? (i := 20) rfl))) Via.refl e3 hT.2.1 (g := (mkF m 21 #[.val (.ref a1)] [(.ref a1), (.double (FP.l2d tot))])) rfl rfl (hb hby d6_21)
  obtain ⟨fs, hr, hrun, hended, hW, hsame⟩ := X4.leave (v := some (.double (FP.ddiv (FP.l2d tot) (FP.l2d cnt)))) (fun h => by rw [Bd.returns] at h; cases h)
  refine ⟨_, _, pre0 _ ?_, hrun, hended, _, _, rfl, ?_, ⟨_, rfl⟩, hW, hsame.mono (by decide) (by decide)⟩
  · show Steps p.tables e below (s₁.setTop (mkF m 0 #[.val (.ref a1)] [])) _
    refine XS.aloadN X0.here hx rfl (hb hby d6_0) rfl rfl ?_
    show Steps p.tables e below (s₁.setTop (mkF m 1 #[.val (.ref a1)] [(.ref a1)])) _
    refine st2 _ ?_
    show Steps p.tables e below (T2.setTop (mkF m 4 #[.val (.ref a1)] [(.long cnt)])) _
    refine XS.lconst X2.here hx rfl (hb hby d6_4) ?_
    show Steps p.tables e below (T2.setTop (mkF m 5 #[.val (.ref a1)] [(.long (0 : Int64)), (.long cnt)])) _
    refine XS.lcmp X2.here hx rfl (hb hby d6_5) rfl ?_
    show Steps p.tables e below (T2.setTop (mkF m 6 #[.val (.ref a1)] [(.int (lcmpW cnt (0 : Int64)))])) _
    refine XS.ifYes X2.here hx rfl (pc0 := 6) (pc' := 15) rfl (hb hby d6_6) rfl ((if0 _ _).trans (feq hc6).2) (by decide) (by decide) ?_
    show Steps p.tables e below (T2.setTop (mkF m 15 #[.val (.ref a1)] [])) _
    refine XS.aloadN X2.here hx rfl (hb hby d6_15) rfl rfl ?_
    show Steps p.tables e below (T2.setTop (mkF m 16 #[.val (.ref a1)] [(.ref a1)])) _
    refine st3 _ ?_
    show Steps p.tables e below (T3.setTop (mkF m 19 #[.val (.ref a1)] [(.long tot)])) _
    refine XS.l2dS X3.here hx rfl (hb hby d6_19) rfl rfl ?_
    show Steps p.tables e below (T3.setTop (mkF m 20 #[.val (.ref a1)] [(.double (FP.l2d tot))])) _
    refine XS.aloadN X3.here hx rfl (hb hby d6_20) rfl rfl ?_
    show Steps p.tables e below (T3.setTop (mkF m 21 #[.val (.ref a1)] [(.ref a1), (.double (FP.l2d tot))])) _
    refine st4 _ ?_
    show Steps p.tables e below (T4.setTop (mkF m 24 #[.val (.ref a1)] [(.long cnt), (.double (FP.l2d tot))])) _
    refine XS.l2dS X4.here hx rfl (hb hby d6_24) rfl rfl ?_
    show Steps p.tables e below (T4.setTop (mkF m 25 #[.val (.ref a1)] [(.double (FP.l2d cnt)), (.double (FP.l2d tot))])) _
    refine XS.ddivS X4.here hx rfl (hb hby d6_25) rfl hm rfl ?_
    show Steps p.tables e below (T4.setTop (mkF m 26 #[.val (.ref a1)] [(.double (FP.ddiv (FP.l2d tot) (FP.l2d cnt)))])) _
    jvm_step X4.here [X4.here.top, hx, (hb hby d6_26), X4.method', Bd.returns, narrow]
    first | (intro acts; rw [hr _ acts rfl rfl rfl]) | rw [hr _ _ rfl rfl rfl]
    exact Steps.refl _
  · show QP (some (.double (FP.ddiv (FP.l2d tot) (FP.l2d cnt)))) h0 n0 _ T4.heap _
    rw [e4]
    exact ⟨rfl, N0, rfl⟩
theorem rm6f (l : Launch) (Z : State) (a0 : Array Value) (hw : ∀ d ∈ tables_1, d.before a0 Z = true) (ws : List Jvm.Cond) (a1 : Addr) (cnt tot : Int64) (h0 : Heap) (n0 : Nat) (Z0 : n0 ≤ h0.size) (hT : ∃ mn mx, Tly Z h0 a1 cnt tot mn mx) (hc6 : cnt = 0) :
    MetFree l (⟨"io/watchring/sim/Tally", "mean", "()D"⟩ : MethodName) (head1 (Jvm.Cond.code (⟨"io/watchring/sim/Tally", "mean", "()D"⟩ : MethodName) prog_162_method_4_code 1 (some .double) :: ws) ({ frames := 0, cells := 0, slots := 0, locals := 0 } : Room)) (fun a U => a = #[(.ref a1)] ∧ Z.Warmed39 U.vm ∧ U.heap = h0) (fun _ _ _ _ _ => True) (fun _ U o U' => ∃ v L, o = .returned v ∧ QP (some (.double (9221120237041090560 : UInt64))) h0 n0 v U'.heap L ∧ FrameEnd U o U' L ({ frames := 0, cells := 0, slots := 0, locals := 0 } : Room).cells ({ frames := 0, cells := 0, slots := 0, locals := 0 } : Room).slots) := by
  obtain ⟨mn, mx, hT⟩ := hT
  exact rm6_f l Z a0 hw ws a1 cnt tot mn mx h0 n0 Z0 hT ((lw_eq _ _).mpr hc6)
theorem rm6t (l : Launch) (Z : State) (a0 : Array Value) (hw : ∀ d ∈ tables_1, d.before a0 Z = true) (ws : List Jvm.Cond) (a1 : Addr) (cnt tot : Int64) (h0 : Heap) (n0 : Nat) (Z0 : n0 ≤ h0.size) (hT : ∃ mn mx, Tly Z h0 a1 cnt tot mn mx) (hm : Jvm.Free.Fl.NoNaN64 (FP.ddiv (FP.l2d tot) (FP.l2d cnt))) (hc6 : ¬ cnt = 0) :
    MetFree l (⟨"io/watchring/sim/Tally", "mean", "()D"⟩ : MethodName) (head1 (Jvm.Cond.code (⟨"io/watchring/sim/Tally", "mean", "()D"⟩ : MethodName) prog_162_method_4_code 1 (some .double) :: ws) ({ frames := 0, cells := 0, slots := 0, locals := 0 } : Room)) (fun a U => a = #[(.ref a1)] ∧ Z.Warmed39 U.vm ∧ U.heap = h0) (fun _ _ _ _ _ => True) (fun _ U o U' => ∃ v L, o = .returned v ∧ QP (some (.double (FP.ddiv (FP.l2d tot) (FP.l2d cnt)))) h0 n0 v U'.heap L ∧ FrameEnd U o U' L ({ frames := 0, cells := 0, slots := 0, locals := 0 } : Room).cells ({ frames := 0, cells := 0, slots := 0, locals := 0 } : Room).slots) := by
  obtain ⟨mn, mx, hT⟩ := hT
  exact rm6_t l Z a0 hw ws a1 cnt tot mn mx h0 n0 Z0 hT hm (fun q => hc6 ((lw_eq _ _).mp q))
theorem pn_0 : plainName "io/watchring/sim/TallyMeanPinLaw" = true := by first | (simp [plainName, overriddenIn]; done) | decide +kernel
theorem pd_0_0 : parseMethodDescriptor "()V" = some ⟨[], none⟩ := by decide +kernel
theorem pd_0_3 : parseMethodDescriptor "()D" = some ⟨[], some .double⟩ := by decide +kernel
theorem ef_0 (m : MethodId) (x0 : Int32) (x1 : Int32) (x2 : Int32) (x3 : Int32) : entryFrame m #[(.int x0), (.int x1), (.int x2), (.int x3)] maxLocals = mkF m 0 #[.val (.int x0), .val (.int x1), .val (.int x2), .val (.int x3), .unset, .unset, .unset, .unset, .unset, .unset, .unset, .unset, .unset, .unset, .unset, .unset, .unset, .unset] [] := by first | (simp [entryFrame, mkF, argsToLocals, Value.category, maxLocals]; done) | rfl
set_option maxRecDepth 65536 in
set_option maxHeartbeats 40000000 in
theorem rm0_0 (l : Launch) (Z : State) (a0 : Array Value) (hw : ∀ d ∈ tables_1, d.before a0 Z = true) (ws : List Jvm.Cond) (p1 p2 p3 p4 : Int32) (h0 : Heap) (n0 : Nat) (Z0 : n0 ≤ h0.size) (hc17 : (p4 &&& (3 : Int32)) < (1 : Int32)) (hc30 : (p4 &&& (3 : Int32)) < (2 : Int32)) (hc43 : (p4 &&& (3 : Int32)) < (3 : Int32)) (hc62 : (p4 &&& (3 : Int32)) = (0 : Int32)) (hc70 : ¬ ((-1 : Int32) = (0 : Int32))) :
    MetFree l x (head1 (Jvm.Cond.code x code maxLocals ret :: ws) room_1) (fun a U => a = #[(.int p1), (.int p2), (.int p3), (.int p4)] ∧ Z.Warmed39 U.vm ∧ U.heap = h0) (fun _ _ _ _ _ => True) (fun _ U o U' => ∃ v L, o = .returned v ∧ Q0 n0 v L ∧ FrameEnd U o U' L 1 4) := by
  refine MetFree.of_bodySF (plainFor_of_name pn_0) hisR ?_
  intro p e s m args below meth c s₁ Bd hml0 hP hK
  obtain ⟨rfl, hZ, hh⟩ := hP
  have hx := Bd.exec
  have hby := Bd.bytes
  have hml : c.maxLocals = 18 := hml0
  have hown : s.vm.findClass "io/watchring/sim/TallyMeanPinLaw" = some m.cls := findClass_of_methodNamed Bd.named
  have hnm := (name_of_methodNamed Bd.named Bd.method).1
  have X0 : Stand p l e room_1 s m #[(.int p1), (.int p2), (.int p3), (.int p4)] below meth c s₁ [] 0 0 := Stand.of_body Bd
  have e0 : s₁.heap = h0 := by rw [← hh, Bd.state]; rfl
  have N0 := Fr.nil n0
  have pre0 : ∀ t, Steps p.tables e below (s₁.setTop (mkF m 0 #[.val (.int p1), .val (.int p2), .val (.int p3), .val (.int p4), .unset, .unset, .unset, .unset, .unset, .unset, .unset, .unset, .unset, .unset, .unset, .unset, .unset, .unset] [])) t → Steps p.tables e below (s₁.setTop (entryFrame m #[(.int p1), (.int p2), (.int p3), (.int p4)] maxLocals)) t := fun t k => castTop (ef_0 m p1 p2 p3 p4) k
  obtain ⟨T5, h5, X5, e5, E5, A5, D5, -, st5⟩ := newO X0 hx hZ hown (hw _ (List.mem_of_getElem? (i := 0) rfl)) (hw _ (List.mem_of_getElem? (i := 1) rfl)) (hw _ (List.mem_of_getElem? (i := 2) rfl)) e0 (g := (mkF m 5 #[.val (.int p1), .val (.int p2), .val (.int p3), .val (.int p4), .val (.int (p4 &&& (3 : Int32))), .unset, .unset, .unset, .unset, .unset, .unset, .unset, .unset, .unset, .unset, .unset, .unset, .unset] [])) rfl (hb hby at_5) (by decide) (by decide)
  obtain ⟨b5, g5⟩ : ∃ z, z = h0.size := ⟨_, rfl⟩
  rw [← g5] at A5 D5 st5
  have F_min_b5 : Fld Z h5 b5 "io/watchring/sim/Tally" "min" "J" (.long (0 : Int64)) := D5 (Or.inl (hw _ (List.mem_of_getElem? (i := 11) rfl))) (ty := .long) (by decide)
  have F_max_b5 : Fld Z h5 b5 "io/watchring/sim/Tally" "max" "J" (.long (0 : Int64)) := D5 (Or.inl (hw _ (List.mem_of_getElem? (i := 14) rfl))) (ty := .long) (by decide)
  have F_count_b5 : Fld Z h5 b5 "io/watchring/sim/Tally" "count" "J" (.long (0 : Int64)) := D5 (Or.inl (hw _ (List.mem_of_getElem? (i := 21) rfl))) (ty := .long) (by decide)
  have F_total_b5 : Fld Z h5 b5 "io/watchring/sim/Tally" "total" "J" (.long (0 : Int64)) := D5 (Or.inl (hw _ (List.mem_of_getElem? (i := 23) rfl))) (ty := .long) (by decide)
  have E_b5 := A5
  have g_b5 : n0 ≤ b5 := Nat.le_trans Z0 (Nat.le_of_eq g5.symm)
  obtain ⟨_, _, ⟨T6, L6, k6, n6⟩, -, X6, ⟨Lc6, hQ6, l6, y6, z6⟩, st6⟩ := X5.specialBack hx (y := (⟨"io/watchring/sim/Tally", "<init>", "()V"⟩ : MethodName)) rfl hown (mvT hZ (hw _ (List.mem_of_getElem? (i := 3) rfl))) (mvT hZ (hw _ (List.mem_of_getElem? (i := 4) rfl))) (mvT hZ (hw _ (List.mem_of_getElem? (i := 5) rfl))) (by decide) (backOf (W := 1) (rm1 l Z a0 hw [] b5 _ _ h5 n0 (Nat.le_trans Z0 E5.1) E_b5 F_min_b5 F_max_b5 F_count_b5 F_total_b5 g_b5) hZ (hw _ (List.mem_of_getElem? (i := 5) rfl)) (hw _ (List.mem_of_getElem? (i := 2) rfl)) (by decide) (by decide)) (g := (mkF m 9 #[.val (.int p1), .val (.int p2), .val (.int p3), .val (.int p4), .val (.int (p4 &&& (3 : Int32))), .unset, .unset, .unset, .unset, .unset, .unset, .unset, .unset, .unset, .unset, .unset, .unset, .unset] [(.ref b5), (.ref b5)])) rfl (by rw [hml]; rfl) (Steps.refl _) (a := b5) (argsL := []) (rest := [(.ref b5)]) (lenOf pd_0_0 rfl) rfl (by show 2 * 0 + _ ≤ _; exact Nat.le_of_eq rfl) (hb hby at_9) (fun _ _ => ⟨rfl, e5, (by decide : 1 + 0 ≤ _), (by decide : 4 + 0 ≤ _)⟩)
  dsimp only [Pt.U, Pt.locs, Pt.cells, Pt.slots] at X6 l6 y6 z6 st6 hQ6
  subst l6 y6 z6
  obtain ⟨rfl, N6q, Ty6⟩ := hQ6
  obtain ⟨mn6, mx6, Tz6⟩ := id Ty6
  have N6 := Fr.app N0 N6q
  obtain ⟨cq7, kq7, q7a, q7b, q7c⟩ := isOf hZ rfl Tz6.1
  obtain ⟨_, _, ⟨T7, L7, k7, n7⟩, -, X7, ⟨Lc7, hQ7, l7, y7, z7⟩, st7⟩ := X6.virtualBack hx (y := (⟨"io/watchring/sim/Tally", "mean", "()D"⟩ : MethodName)) (z := (⟨"io/watchring/sim/Tally", "mean", "()D"⟩ : MethodName)) hown (mvT hZ (hw _ (List.mem_of_getElem? (i := 31) rfl))) (mvT hZ (hw _ (List.mem_of_getElem? (i := 32) rfl))) (notFace_of_selects (args := #[]) (mvT hZ (hw _ (List.mem_of_getElem? (i := 34) rfl)))) (mvT hZ (hw _ (List.mem_of_getElem? (i := 34) rfl))) (mvT hZ (hw _ (List.mem_of_getElem? (i := 33) rfl))) (by decide) (backOf (W := 0) (rm6f l Z a0 hw [] b5 (0 : Int64) (0 : Int64) T6.heap n0 (Nat.le_trans g_b5 (Nat.le_of_lt Tz6.1.lt)) Ty6 rfl) hZ (hw _ (List.mem_of_getElem? (i := 35) rfl)) (hw _ (List.mem_of_getElem? (i := 2) rfl)) (by decide) (by decide)) q7a q7c (g := (mkF m 55 #[.val (.int p1), .val (.int p2), .val (.int p3), .val (.int p4), .val (.int (p4 &&& (3 : Int32))), .val (.ref b5), .unset, .unset, .unset, .unset, .unset, .unset, .unset, .unset, .unset, .unset, .unset, .unset] [(.ref b5)])) rfl (by rw [hml]; rfl) (Steps.refl _) (argsL := []) (rest := []) (lenOf pd_0_3 rfl) rfl (by show 2 * 0 + _ ≤ _; exact Nat.le_of_eq rfl) (hb hby at_55) (fun _ _ => ⟨rfl, rfl, (by decide : 1 + 0 ≤ _), (by decide : 4 + 0 ≤ _)⟩)
  dsimp only [Pt.U, Pt.locs, Pt.cells, Pt.slots] at X7 l7 y7 z7 st7 hQ7
  subst l7 y7 z7
  obtain ⟨rfl, N7q, e7⟩ := hQ7
  have N7 := Fr.app N6 N7q
  obtain ⟨fs, hr, hrun, hended, hW, hsame⟩ := X7.leave (v := some (.int (1 : Int32))) (fun h => by rw [Bd.returns] at h; cases h)
  refine ⟨_, _, pre0 _ ?_, hrun, hended, _, _, rfl, ?_, ⟨_, rfl⟩, hW, hsame.mono (by decide) (by decide)⟩
  · show Steps p.tables e below (s₁.setTop (mkF m 0 #[.val (.int p1), .val (.int p2), .val (.int p3), .val (.int p4), .unset, .unset, .unset, .unset, .unset, .unset, .unset, .unset, .unset, .unset, .unset, .unset, .unset, .unset] [])) _
    refine XS.iloadN X0.here hx rfl (hb hby at_0) rfl ?_
    show Steps p.tables e below (s₁.setTop (mkF m 1 #[.val (.int p1), .val (.int p2), .val (.int p3), .val (.int p4), .unset, .unset, .unset, .unset, .unset, .unset, .unset, .unset, .unset, .unset, .unset, .unset, .unset, .unset] [(.int p4)])) _
    refine XS.iconst X0.here hx rfl (hb hby at_1) ?_
    show Steps p.tables e below (s₁.setTop (mkF m 2 #[.val (.int p1), .val (.int p2), .val (.int p3), .val (.int p4), .unset, .unset, .unset, .unset, .unset, .unset, .unset, .unset, .unset, .unset, .unset, .unset, .unset, .unset] [(.int (3 : Int32)), (.int p4)])) _
    refine XS.iand X0.here hx rfl (hb hby at_2) rfl ?_
    show Steps p.tables e below (s₁.setTop (mkF m 3 #[.val (.int p1), .val (.int p2), .val (.int p3), .val (.int p4), .unset, .unset, .unset, .unset, .unset, .unset, .unset, .unset, .unset, .unset, .unset, .unset, .unset, .unset] [(.int (p4 &&& (3 : Int32)))])) _
    refine XS.istore X0.here hx rfl (hb hby at_3) rfl (l' := #[.val (.int p1), .val (.int p2), .val (.int p3), .val (.int p4), .val (.int (p4 &&& (3 : Int32))), .unset, .unset, .unset, .unset, .unset, .unset, .unset, .unset, .unset, .unset, .unset, .unset, .unset]) rfl ?_
    show Steps p.tables e below (s₁.setTop (mkF m 5 #[.val (.int p1), .val (.int p2), .val (.int p3), .val (.int p4), .val (.int (p4 &&& (3 : Int32))), .unset, .unset, .unset, .unset, .unset, .unset, .unset, .unset, .unset, .unset, .unset, .unset, .unset] [])) _
    refine st5 _ ?_
    show Steps p.tables e below (T5.setTop (mkF m 8 #[.val (.int p1), .val (.int p2), .val (.int p3), .val (.int p4), .val (.int (p4 &&& (3 : Int32))), .unset, .unset, .unset, .unset, .unset, .unset, .unset, .unset, .unset, .unset, .unset, .unset, .unset] [(.ref b5)])) _
    refine XS.dup X5.here hx rfl (hb hby at_8) rfl rfl ?_
    show Steps p.tables e below (T5.setTop (mkF m 9 #[.val (.int p1), .val (.int p2), .val (.int p3), .val (.int p4), .val (.int (p4 &&& (3 : Int32))), .unset, .unset, .unset, .unset, .unset, .unset, .unset, .unset, .unset, .unset, .unset, .unset, .unset] [(.ref b5), (.ref b5)])) _
    refine st6.trans ?_
    show Steps p.tables e below (T6.setTop (mkF m 12 #[.val (.int p1), .val (.int p2), .val (.int p3), .val (.int p4), .val (.int (p4 &&& (3 : Int32))), .unset, .unset, .unset, .unset, .unset, .unset, .unset, .unset, .unset, .unset, .unset, .unset, .unset] [(.ref b5)])) _
    refine XS.astore X6.here hx rfl (hb hby at_12) rfl rfl (l' := #[.val (.int p1), .val (.int p2), .val (.int p3), .val (.int p4), .val (.int (p4 &&& (3 : Int32))), .val (.ref b5), .unset, .unset, .unset, .unset, .unset, .unset, .unset, .unset, .unset, .unset, .unset, .unset]) rfl ?_
    show Steps p.tables e below (T6.setTop (mkF m 14 #[.val (.int p1), .val (.int p2), .val (.int p3), .val (.int p4), .val (.int (p4 &&& (3 : Int32))), .val (.ref b5), .unset, .unset, .unset, .unset, .unset, .unset, .unset, .unset, .unset, .unset, .unset, .unset] [])) _
    refine XS.iload X6.here hx rfl (hb hby at_14) rfl ?_
    show Steps p.tables e below (T6.setTop (mkF m 16 #[.val (.int p1), .val (.int p2), .val (.int p3), .val (.int p4), .val (.int (p4 &&& (3 : Int32))), .val (.ref b5), .unset, .unset, .unset, .unset, .unset, .unset, .unset, .unset, .unset, .unset, .unset, .unset] [(.int (p4 &&& (3 : Int32)))])) _
    refine XS.iconst X6.here hx rfl (hb hby at_16) ?_
    show Steps p.tables e below (T6.setTop (mkF m 17 #[.val (.int p1), .val (.int p2), .val (.int p3), .val (.int p4), .val (.int (p4 &&& (3 : Int32))), .val (.ref b5), .unset, .unset, .unset, .unset, .unset, .unset, .unset, .unset, .unset, .unset, .unset, .unset] [(.int (1 : Int32)), (.int (p4 &&& (3 : Int32)))])) _
    refine XS.icmpYes X6.here hx rfl (pc0 := 17) (pc' := 27) rfl (hb hby at_17) rfl (tlt hc17).1 (by decide) (by decide) ?_
    show Steps p.tables e below (T6.setTop (mkF m 27 #[.val (.int p1), .val (.int p2), .val (.int p3), .val (.int p4), .val (.int (p4 &&& (3 : Int32))), .val (.ref b5), .unset, .unset, .unset, .unset, .unset, .unset, .unset, .unset, .unset, .unset, .unset, .unset] [])) _
    refine XS.iload X6.here hx rfl (hb hby at_27) rfl ?_
    show Steps p.tables e below (T6.setTop (mkF m 29 #[.val (.int p1), .val (.int p2), .val (.int p3), .val (.int p4), .val (.int (p4 &&& (3 : Int32))), .val (.ref b5), .unset, .unset, .unset, .unset, .unset, .unset, .unset, .unset, .unset, .unset, .unset, .unset] [(.int (p4 &&& (3 : Int32)))])) _
    refine XS.iconst X6.here hx rfl (hb hby at_29) ?_
    show Steps p.tables e below (T6.setTop (mkF m 30 #[.val (.int p1), .val (.int p2), .val (.int p3), .val (.int p4), .val (.int (p4 &&& (3 : Int32))), .val (.ref b5), .unset, .unset, .unset, .unset, .unset, .unset, .unset, .unset, .unset, .unset, .unset, .unset] [(.int (2 : Int32)), (.int (p4 &&& (3 : Int32)))])) _
    refine XS.icmpYes X6.here hx rfl (pc0 := 30) (pc' := 40) rfl (hb hby at_30) rfl (tlt hc30).1 (by decide) (by decide) ?_
    show Steps p.tables e below (T6.setTop (mkF m 40 #[.val (.int p1), .val (.int p2), .val (.int p3), .val (.int p4), .val (.int (p4 &&& (3 : Int32))), .val (.ref b5), .unset, .unset, .unset, .unset, .unset, .unset, .unset, .unset, .unset, .unset, .unset, .unset] [])) _
    refine XS.iload X6.here hx rfl (hb hby at_40) rfl ?_
    show Steps p.tables e below (T6.setTop (mkF m 42 #[.val (.int p1), .val (.int p2), .val (.int p3), .val (.int p4), .val (.int (p4 &&& (3 : Int32))), .val (.ref b5), .unset, .unset, .unset, .unset, .unset, .unset, .unset, .unset, .unset, .unset, .unset, .unset] [(.int (p4 &&& (3 : Int32)))])) _
    refine XS.iconst X6.here hx rfl (hb hby at_42) ?_
    show Steps p.tables e below (T6.setTop (mkF m 43 #[.val (.int p1), .val (.int p2), .val (.int p3), .val (.int p4), .val (.int (p4 &&& (3 : Int32))), .val (.ref b5), .unset, .unset, .unset, .unset, .unset, .unset, .unset, .unset, .unset, .unset, .unset, .unset] [(.int (3 : Int32)), (.int (p4 &&& (3 : Int32)))])) _
    refine XS.icmpYes X6.here hx rfl (pc0 := 43) (pc' := 53) rfl (hb hby at_43) rfl (tlt hc43).1 (by decide) (by decide) ?_
    show Steps p.tables e below (T6.setTop (mkF m 53 #[.val (.int p1), .val (.int p2), .val (.int p3), .val (.int p4), .val (.int (p4 &&& (3 : Int32))), .val (.ref b5), .unset, .unset, .unset, .unset, .unset, .unset, .unset, .unset, .unset, .unset, .unset, .unset] [])) _
    refine XS.aload X6.here hx rfl (hb hby at_53) rfl rfl ?_
    show Steps p.tables e below (T6.setTop (mkF m 55 #[.val (.int p1), .val (.int p2), .val (.int p3), .val (.int p4), .val (.int (p4 &&& (3 : Int32))), .val (.ref b5), .unset, .unset, .unset, .unset, .unset, .unset, .unset, .unset, .unset, .unset, .unset, .unset] [(.ref b5)])) _
    refine st7.trans ?_
    show Steps p.tables e below (T7.setTop (mkF m 58 #[.val (.int p1), .val (.int p2), .val (.int p3), .val (.int p4), .val (.int (p4 &&& (3 : Int32))), .val (.ref b5), .unset, .unset, .unset, .unset, .unset, .unset, .unset, .unset, .unset, .unset, .unset, .unset] [(.double (9221120237041090560 : UInt64))])) _
    refine XS.dstore X7.here hx rfl (hb hby at_58) rfl (l' := #[.val (.int p1), .val (.int p2), .val (.int p3), .val (.int p4), .val (.int (p4 &&& (3 : Int32))), .val (.ref b5), .val (.double (9221120237041090560 : UInt64)), .second, .unset, .unset, .unset, .unset, .unset, .unset, .unset, .unset, .unset, .unset]) rfl ?_
    show Steps p.tables e below (T7.setTop (mkF m 60 #[.val (.int p1), .val (.int p2), .val (.int p3), .val (.int p4), .val (.int (p4 &&& (3 : Int32))), .val (.ref b5), .val (.double (9221120237041090560 : UInt64)), .second, .unset, .unset, .unset, .unset, .unset, .unset, .unset, .unset, .unset, .unset] [])) _
    refine XS.iload X7.here hx rfl (hb hby at_60) rfl ?_
    show Steps p.tables e below (T7.setTop (mkF m 62 #[.val (.int p1), .val (.int p2), .val (.int p3), .val (.int p4), .val (.int (p4 &&& (3 : Int32))), .val (.ref b5), .val (.double (9221120237041090560 : UInt64)), .second, .unset, .unset, .unset, .unset, .unset, .unset, .unset, .unset, .unset, .unset] [(.int (p4 &&& (3 : Int32)))])) _
    refine XS.ifNo X7.here hx rfl (hb hby at_62) rfl ((if0 _ _).trans (teq hc62).2) ?_
    show Steps p.tables e below (T7.setTop (mkF m 65 #[.val (.int p1), .val (.int p2), .val (.int p3), .val (.int p4), .val (.int (p4 &&& (3 : Int32))), .val (.ref b5), .val (.double (9221120237041090560 : UInt64)), .second, .unset, .unset, .unset, .unset, .unset, .unset, .unset, .unset, .unset, .unset] [])) _
    refine XS.dload X7.here hx rfl (hb hby at_65) rfl ?_
    show Steps p.tables e below (T7.setTop (mkF m 67 #[.val (.int p1), .val (.int p2), .val (.int p3), .val (.int p4), .val (.int (p4 &&& (3 : Int32))), .val (.ref b5), .val (.double (9221120237041090560 : UInt64)), .second, .unset, .unset, .unset, .unset, .unset, .unset, .unset, .unset, .unset, .unset] [(.double (9221120237041090560 : UInt64))])) _
    refine XS.dload X7.here hx rfl (hb hby at_67) rfl ?_
    show Steps p.tables e below (T7.setTop (mkF m 69 #[.val (.int p1), .val (.int p2), .val (.int p3), .val (.int p4), .val (.int (p4 &&& (3 : Int32))), .val (.ref b5), .val (.double (9221120237041090560 : UInt64)), .second, .unset, .unset, .unset, .unset, .unset, .unset, .unset, .unset, .unset, .unset] [(.double (9221120237041090560 : UInt64)), (.double (9221120237041090560 : UInt64))])) _
    refine XS.dcmpS X7.here hx rfl (hb hby at_69) rfl own_cnan ?_
    show Steps p.tables e below (T7.setTop (mkF m 70 #[.val (.int p1), .val (.int p2), .val (.int p3), .val (.int p4), .val (.int (p4 &&& (3 : Int32))), .val (.ref b5), .val (.double (9221120237041090560 : UInt64)), .second, .unset, .unset, .unset, .unset, .unset, .unset, .unset, .unset, .unset, .unset] [(.int (-1 : Int32))])) _
    refine XS.ifNo X7.here hx rfl (hb hby at_70) rfl ((if0 _ _).trans (feq hc70).1) ?_
    show Steps p.tables e below (T7.setTop (mkF m 73 #[.val (.int p1), .val (.int p2), .val (.int p3), .val (.int p4), .val (.int (p4 &&& (3 : Int32))), .val (.ref b5), .val (.double (9221120237041090560 : UInt64)), .second, .unset, .unset, .unset, .unset, .unset, .unset, .unset, .unset, .unset, .unset] [])) _
    refine XS.iconst X7.here hx rfl (hb hby at_73) ?_
    show Steps p.tables e below (T7.setTop (mkF m 74 #[.val (.int p1), .val (.int p2), .val (.int p3), .val (.int p4), .val (.int (p4 &&& (3 : Int32))), .val (.ref b5), .val (.double (9221120237041090560 : UInt64)), .second, .unset, .unset, .unset, .unset, .unset, .unset, .unset, .unset, .unset, .unset] [(.int (1 : Int32))])) _
    refine XS.goto X7.here hx rfl (pc0 := 74) (pc' := 78) rfl (hb hby at_74) (by decide) (by decide) ?_
    show Steps p.tables e below (T7.setTop (mkF m 78 #[.val (.int p1), .val (.int p2), .val (.int p3), .val (.int p4), .val (.int (p4 &&& (3 : Int32))), .val (.ref b5), .val (.double (9221120237041090560 : UInt64)), .second, .unset, .unset, .unset, .unset, .unset, .unset, .unset, .unset, .unset, .unset] [(.int (1 : Int32))])) _
    exact retN X7 hx (t := .boolean) Bd.returns (by simp) (hb hby at_78) hr
  · show Q0 n0 _ _
    exact ⟨rfl, N7⟩
theorem pd_0_1 : parseMethodDescriptor "(J)V" = some ⟨[.long], none⟩ := by decide +kernel
set_option maxRecDepth 65536 in
set_option maxHeartbeats 40000000 in
theorem rm0_1 (l : Launch) (Z : State) (a0 : Array Value) (hw : ∀ d ∈ tables_1, d.before a0 Z = true) (ws : List Jvm.Cond) (p1 p2 p3 p4 : Int32) (h0 : Heap) (n0 : Nat) (Z0 : n0 ≤ h0.size) (hm : Jvm.Free.Fl.NoNaN64 (FP.ddiv (FP.l2d (p1.toInt64)) (FP.l2d (1 : Int64)))) (hd : FP.dcmp (FP.ddiv (FP.l2d (p1.toInt64)) (FP.l2d (1 : Int64))) (FP.l2d (p1.toInt64)) = some .eq) (hc17 : ¬ ((p4 &&& (3 : Int32)) < (1 : Int32))) (hc30 : (p4 &&& (3 : Int32)) < (2 : Int32)) (hc43 : (p4 &&& (3 : Int32)) < (3 : Int32)) (hc62 : ¬ ((p4 &&& (3 : Int32)) = (0 : Int32))) (hc82 : (p4 &&& (3 : Int32)) = (1 : Int32)) :
    MetFree l x (head1 (Jvm.Cond.code x code maxLocals ret :: ws) room_1) (fun a U => a = #[(.int p1), (.int p2), (.int p3), (.int p4)] ∧ Z.Warmed39 U.vm ∧ U.heap = h0) (fun _ _ _ _ _ => True) (fun _ U o U' => ∃ v L, o = .returned v ∧ Q0 n0 v L ∧ FrameEnd U o U' L 1 4) := by
  refine MetFree.of_bodySF (plainFor_of_name pn_0) hisR ?_
  intro p e s m args below meth c s₁ Bd hml0 hP hK
  obtain ⟨rfl, hZ, hh⟩ := hP
  have hx := Bd.exec
  have hby := Bd.bytes
  have hml : c.maxLocals = 18 := hml0
  have hown : s.vm.findClass "io/watchring/sim/TallyMeanPinLaw" = some m.cls := findClass_of_methodNamed Bd.named
  have hnm := (name_of_methodNamed Bd.named Bd.method).1
  have X0 : Stand p l e room_1 s m #[(.int p1), (.int p2), (.int p3), (.int p4)] below meth c s₁ [] 0 0 := Stand.of_body Bd
  have e0 : s₁.heap = h0 := by rw [← hh, Bd.state]; rfl
  have N0 := Fr.nil n0
  have pre0 : ∀ t, Steps p.tables e below (s₁.setTop (mkF m 0 #[.val (.int p1), .val (.int p2), .val (.int p3), .val (.int p4), .unset, .unset, .unset, .unset, .unset, .unset, .unset, .unset, .unset, .unset, .unset, .unset, .unset, .unset] [])) t → Steps p.tables e below (s₁.setTop (entryFrame m #[(.int p1), (.int p2), (.int p3), (.int p4)] maxLocals)) t := fun t k => castTop (ef_0 m p1 p2 p3 p4) k
  obtain ⟨T5, h5, X5, e5, E5, A5, D5, -, st5⟩ := newO X0 hx hZ hown (hw _ (List.mem_of_getElem? (i := 0) rfl)) (hw _ (List.mem_of_getElem? (i := 1) rfl)) (hw _ (List.mem_of_getElem? (i := 2) rfl)) e0 (g := (mkF m 5 #[.val (.int p1), .val (.int p2), .val (.int p3), .val (.int p4), .val (.int (p4 &&& (3 : Int32))), .unset, .unset, .unset, .unset, .unset, .unset, .unset, .unset, .unset, .unset, .unset, .unset, .unset] [])) rfl (hb hby at_5) (by decide) (by decide)
  obtain ⟨b5, g5⟩ : ∃ z, z = h0.size := ⟨_, rfl⟩
  rw [← g5] at A5 D5 st5
  have F_min_b5 : Fld Z h5 b5 "io/watchring/sim/Tally" "min" "J" (.long (0 : Int64)) := D5 (Or.inl (hw _ (List.mem_of_getElem? (i := 11) rfl))) (ty := .long) (by decide)
  have F_max_b5 : Fld Z h5 b5 "io/watchring/sim/Tally" "max" "J" (.long (0 : Int64)) := D5 (Or.inl (hw _ (List.mem_of_getElem? (i := 14) rfl))) (ty := .long) (by decide)
  have F_count_b5 : Fld Z h5 b5 "io/watchring/sim/Tally" "count" "J" (.long (0 : Int64)) := D5 (Or.inl (hw _ (List.mem_of_getElem? (i := 21) rfl))) (ty := .long) (by decide)
  have F_total_b5 : Fld Z h5 b5 "io/watchring/sim/Tally" "total" "J" (.long (0 : Int64)) := D5 (Or.inl (hw _ (List.mem_of_getElem? (i := 23) rfl))) (ty := .long) (by decide)
  have E_b5 := A5
  have g_b5 : n0 ≤ b5 := Nat.le_trans Z0 (Nat.le_of_eq g5.symm)
  obtain ⟨_, _, ⟨T6, L6, k6, n6⟩, -, X6, ⟨Lc6, hQ6, l6, y6, z6⟩, st6⟩ := X5.specialBack hx (y := (⟨"io/watchring/sim/Tally", "<init>", "()V"⟩ : MethodName)) rfl hown (mvT hZ (hw _ (List.mem_of_getElem? (i := 3) rfl))) (mvT hZ (hw _ (List.mem_of_getElem? (i := 4) rfl))) (mvT hZ (hw _ (List.mem_of_getElem? (i := 5) rfl))) (by decide) (backOf (W := 1) (rm1 l Z a0 hw [] b5 _ _ h5 n0 (Nat.le_trans Z0 E5.1) E_b5 F_min_b5 F_max_b5 F_count_b5 F_total_b5 g_b5) hZ (hw _ (List.mem_of_getElem? (i := 5) rfl)) (hw _ (List.mem_of_getElem? (i := 2) rfl)) (by decide) (by decide)) (g := (mkF m 9 #[.val (.int p1), .val (.int p2), .val (.int p3), .val (.int p4), .val (.int (p4 &&& (3 : Int32))), .unset, .unset, .unset, .unset, .unset, .unset, .unset, .unset, .unset, .unset, .unset, .unset, .unset] [(.ref b5), (.ref b5)])) rfl (by rw [hml]; rfl) (Steps.refl _) (a := b5) (argsL := []) (rest := [(.ref b5)]) (lenOf pd_0_0 rfl) rfl (by show 2 * 0 + _ ≤ _; exact Nat.le_of_eq rfl) (hb hby at_9) (fun _ _ => ⟨rfl, e5, (by decide : 1 + 0 ≤ _), (by decide : 4 + 0 ≤ _)⟩)
  dsimp only [Pt.U, Pt.locs, Pt.cells, Pt.slots] at X6 l6 y6 z6 st6 hQ6
  subst l6 y6 z6
  obtain ⟨rfl, N6q, Ty6⟩ := hQ6
  obtain ⟨mn6, mx6, Tz6⟩ := id Ty6
  have N6 := Fr.app N0 N6q
  obtain ⟨cq7, kq7, q7a, q7b, q7c⟩ := isOf hZ rfl Tz6.1
  obtain ⟨_, _, ⟨T7, L7, k7, n7⟩, -, X7, ⟨Lc7, hQ7, l7, y7, z7⟩, st7⟩ := X6.virtualBack hx (y := (⟨"io/watchring/sim/Tally", "add", "(J)V"⟩ : MethodName)) (z := (⟨"io/watchring/sim/Tally", "add", "(J)V"⟩ : MethodName)) hown (mvT hZ (hw _ (List.mem_of_getElem? (i := 15) rfl))) (mvT hZ (hw _ (List.mem_of_getElem? (i := 16) rfl))) (notFace_of_selects (args := #[]) (mvT hZ (hw _ (List.mem_of_getElem? (i := 18) rfl)))) (mvT hZ (hw _ (List.mem_of_getElem? (i := 18) rfl))) (mvT hZ (hw _ (List.mem_of_getElem? (i := 17) rfl))) (by decide) (backOf (W := 0) (rm3 l Z a0 hw [] b5 (p1.toInt64) (0 : Int64) (0 : Int64) (1 : Int64) (p1.toInt64) T6.heap n0 (Nat.le_trans g_b5 (Nat.le_of_lt Tz6.1.lt)) Ty6 g_b5 (by decide) (Int64.zero_add _).symm) hZ (hw _ (List.mem_of_getElem? (i := 19) rfl)) (hw _ (List.mem_of_getElem? (i := 2) rfl)) (by decide) (by decide)) q7a q7c (g := (mkF m 24 #[.val (.int p1), .val (.int p2), .val (.int p3), .val (.int p4), .val (.int (p4 &&& (3 : Int32))), .val (.ref b5), .unset, .unset, .unset, .unset, .unset, .unset, .unset, .unset, .unset, .unset, .unset, .unset] [(.long (p1.toInt64)), (.ref b5)])) rfl (by rw [hml]; rfl) (Steps.refl _) (argsL := [(.long (p1.toInt64))]) (rest := []) (lenOf pd_0_1 rfl) rfl (by show 2 * 0 + _ ≤ _; exact Nat.le_of_eq rfl) (hb hby at_24) (fun _ _ => ⟨rfl, rfl, (by decide : 1 + 0 ≤ _), (by decide : 4 + 0 ≤ _)⟩)
  dsimp only [Pt.U, Pt.locs, Pt.cells, Pt.slots] at X7 l7 y7 z7 st7 hQ7
  subst l7 y7 z7
  obtain ⟨rfl, N7q, Ty7⟩ := hQ7
  obtain ⟨mn7, mx7, Tz7⟩ := id Ty7
  have N7 := Fr.app N6 N7q
  obtain ⟨cq8, kq8, q8a, q8b, q8c⟩ := isOf hZ rfl Tz7.1
  obtain ⟨_, _, ⟨T8, L8, k8, n8⟩, -, X8, ⟨Lc8, hQ8, l8, y8, z8⟩, st8⟩ := X7.virtualBack hx (y := (⟨"io/watchring/sim/Tally", "mean", "()D"⟩ : MethodName)) (z := (⟨"io/watchring/sim/Tally", "mean", "()D"⟩ : MethodName)) hown (mvT hZ (hw _ (List.mem_of_getElem? (i := 31) rfl))) (mvT hZ (hw _ (List.mem_of_getElem? (i := 32) rfl))) (notFace_of_selects (args := #[]) (mvT hZ (hw _ (List.mem_of_getElem? (i := 34) rfl)))) (mvT hZ (hw _ (List.mem_of_getElem? (i := 34) rfl))) (mvT hZ (hw _ (List.mem_of_getElem? (i := 33) rfl))) (by decide) (backOf (W := 0) (rm6t l Z a0 hw [] b5 (1 : Int64) (p1.toInt64) T7.heap n0 (Nat.le_trans g_b5 (Nat.le_of_lt Tz7.1.lt)) Ty7 hm (by decide)) hZ (hw _ (List.mem_of_getElem? (i := 35) rfl)) (hw _ (List.mem_of_getElem? (i := 2) rfl)) (by decide) (by decide)) q8a q8c (g := (mkF m 55 #[.val (.int p1), .val (.int p2), .val (.int p3), .val (.int p4), .val (.int (p4 &&& (3 : Int32))), .val (.ref b5), .unset, .unset, .unset, .unset, .unset, .unset, .unset, .unset, .unset, .unset, .unset, .unset] [(.ref b5)])) rfl (by rw [hml]; rfl) (Steps.refl _) (argsL := []) (rest := []) (lenOf pd_0_3 rfl) rfl (by show 2 * 0 + _ ≤ _; exact Nat.le_of_eq rfl) (hb hby at_55) (fun _ _ => ⟨rfl, rfl, (by decide : 1 + 0 ≤ _), (by decide : 4 + 0 ≤ _)⟩)
  dsimp only [Pt.U, Pt.locs, Pt.cells, Pt.slots] at X8 l8 y8 z8 st8 hQ8
  subst l8 y8 z8
  obtain ⟨rfl, N8q, e8⟩ := hQ8
  have N8 := Fr.app N7 N8q
  obtain ⟨fs, hr, hrun, hended, hW, hsame⟩ := X8.leave (v := some (.int (1 : Int32))) (fun h => by rw [Bd.returns] at h; cases h)
  refine ⟨_, _, pre0 _ ?_, hrun, hended, _, _, rfl, ?_, ⟨_, rfl⟩, hW, hsame.mono (by decide) (by decide)⟩
  · show Steps p.tables e below (s₁.setTop (mkF m 0 #[.val (.int p1), .val (.int p2), .val (.int p3), .val (.int p4), .unset, .unset, .unset, .unset, .unset, .unset, .unset, .unset, .unset, .unset, .unset, .unset, .unset, .unset] [])) _
    refine XS.iloadN X0.here hx rfl (hb hby at_0) rfl ?_
    show Steps p.tables e below (s₁.setTop (mkF m 1 #[.val (.int p1), .val (.int p2), .val (.int p3), .val (.int p4), .unset, .unset, .unset, .unset, .unset, .unset, .unset, .unset, .unset, .unset, .unset, .unset, .unset, .unset] [(.int p4)])) _
    refine XS.iconst X0.here hx rfl (hb hby at_1) ?_
    show Steps p.tables e below (s₁.setTop (mkF m 2 #[.val (.int p1), .val (.int p2), .val (.int p3), .val (.int p4), .unset, .unset, .unset, .unset, .unset, .unset, .unset, .unset, .unset, .unset, .unset, .unset, .unset, .unset] [(.int (3 : Int32)), (.int p4)])) _
    refine XS.iand X0.here hx rfl (hb hby at_2) rfl ?_
    show Steps p.tables e below (s₁.setTop (mkF m 3 #[.val (.int p1), .val (.int p2), .val (.int p3), .val (.int p4), .unset, .unset, .unset, .unset, .unset, .unset, .unset, .unset, .unset, .unset, .unset, .unset, .unset, .unset] [(.int (p4 &&& (3 : Int32)))])) _
    refine XS.istore X0.here hx rfl (hb hby at_3) rfl (l' := #[.val (.int p1), .val (.int p2), .val (.int p3), .val (.int p4), .val (.int (p4 &&& (3 : Int32))), .unset, .unset, .unset, .unset, .unset, .unset, .unset, .unset, .unset, .unset, .unset, .unset, .unset]) rfl ?_
    show Steps p.tables e below (s₁.setTop (mkF m 5 #[.val (.int p1), .val (.int p2), .val (.int p3), .val (.int p4), .val (.int (p4 &&& (3 : Int32))), .unset, .unset, .unset, .unset, .unset, .unset, .unset, .unset, .unset, .unset, .unset, .unset, .unset] [])) _
    refine st5 _ ?_
    show Steps p.tables e below (T5.setTop (mkF m 8 #[.val (.int p1), .val (.int p2), .val (.int p3), .val (.int p4), .val (.int (p4 &&& (3 : Int32))), .unset, .unset, .unset, .unset, .unset, .unset, .unset, .unset, .unset, .unset, .unset, .unset, .unset] [(.ref b5)])) _
    refine XS.dup X5.here hx rfl (hb hby at_8) rfl rfl ?_
    show Steps p.tables e below (T5.setTop (mkF m 9 #[.val (.int p1), .val (.int p2), .val (.int p3), .val (.int p4), .val (.int (p4 &&& (3 : Int32))), .unset, .unset, .unset, .unset, .unset, .unset, .unset, .unset, .unset, .unset, .unset, .unset, .unset] [(.ref b5), (.ref b5)])) _
    refine st6.trans ?_
    show Steps p.tables e below (T6.setTop (mkF m 12 #[.val (.int p1), .val (.int p2), .val (.int p3), .val (.int p4), .val (.int (p4 &&& (3 : Int32))), .unset, .unset, .unset, .unset, .unset, .unset, .unset, .unset, .unset, .unset, .unset, .unset, .unset] [(.ref b5)])) _
    refine XS.astore X6.here hx rfl (hb hby at_12) rfl rfl (l' := #[.val (.int p1), .val (.int p2), .val (.int p3), .val (.int p4), .val (.int (p4 &&& (3 : Int32))), .val (.ref b5), .unset, .unset, .unset, .unset, .unset, .unset, .unset, .unset, .unset, .unset, .unset, .unset]) rfl ?_
    show Steps p.tables e below (T6.setTop (mkF m 14 #[.val (.int p1), .val (.int p2), .val (.int p3), .val (.int p4), .val (.int (p4 &&& (3 : Int32))), .val (.ref b5), .unset, .unset, .unset, .unset, .unset, .unset, .unset, .unset, .unset, .unset, .unset, .unset] [])) _
    refine XS.iload X6.here hx rfl (hb hby at_14) rfl ?_
    show Steps p.tables e below (T6.setTop (mkF m 16 #[.val (.int p1), .val (.int p2), .val (.int p3), .val (.int p4), .val (.int (p4 &&& (3 : Int32))), .val (.ref b5), .unset, .unset, .unset, .unset, .unset, .unset, .unset, .unset, .unset, .unset, .unset, .unset] [(.int (p4 &&& (3 : Int32)))])) _
    refine XS.iconst X6.here hx rfl (hb hby at_16) ?_
    show Steps p.tables e below (T6.setTop (mkF m 17 #[.val (.int p1), .val (.int p2), .val (.int p3), .val (.int p4), .val (.int (p4 &&& (3 : Int32))), .val (.ref b5), .unset, .unset, .unset, .unset, .unset, .unset, .unset, .unset, .unset, .unset, .unset, .unset] [(.int (1 : Int32)), (.int (p4 &&& (3 : Int32)))])) _
    refine XS.icmpNo X6.here hx rfl (hb hby at_17) rfl (flt hc17).1 ?_
    show Steps p.tables e below (T6.setTop (mkF m 20 #[.val (.int p1), .val (.int p2), .val (.int p3), .val (.int p4), .val (.int (p4 &&& (3 : Int32))), .val (.ref b5), .unset, .unset, .unset, .unset, .unset, .unset, .unset, .unset, .unset, .unset, .unset, .unset] [])) _
    refine XS.aload X6.here hx rfl (hb hby at_20) rfl rfl ?_
    show Steps p.tables e below (T6.setTop (mkF m 22 #[.val (.int p1), .val (.int p2), .val (.int p3), .val (.int p4), .val (.int (p4 &&& (3 : Int32))), .val (.ref b5), .unset, .unset, .unset, .unset, .unset, .unset, .unset, .unset, .unset, .unset, .unset, .unset] [(.ref b5)])) _
    refine XS.iloadN X6.here hx rfl (hb hby at_22) rfl ?_
    show Steps p.tables e below (T6.setTop (mkF m 23 #[.val (.int p1), .val (.int p2), .val (.int p3), .val (.int p4), .val (.int (p4 &&& (3 : Int32))), .val (.ref b5), .unset, .unset, .unset, .unset, .unset, .unset, .unset, .unset, .unset, .unset, .unset, .unset] [(.int p1), (.ref b5)])) _
    refine XS.i2l X6.here hx rfl (hb hby at_23) rfl ?_
    show Steps p.tables e below (T6.setTop (mkF m 24 #[.val (.int p1), .val (.int p2), .val (.int p3), .val (.int p4), .val (.int (p4 &&& (3 : Int32))), .val (.ref b5), .unset, .unset, .unset, .unset, .unset, .unset, .unset, .unset, .unset, .unset, .unset, .unset] [(.long (p1.toInt64)), (.ref b5)])) _
    refine st7.trans ?_
    show Steps p.tables e below (T7.setTop (mkF m 27 #[.val (.int p1), .val (.int p2), .val (.int p3), .val (.int p4), .val (.int (p4 &&& (3 : Int32))), .val (.ref b5), .unset, .unset, .unset, .unset, .unset, .unset, .unset, .unset, .unset, .unset, .unset, .unset] [])) _
    refine XS.iload X7.here hx rfl (hb hby at_27) rfl ?_
    show Steps p.tables e below (T7.setTop (mkF m 29 #[.val (.int p1), .val (.int p2), .val (.int p3), .val (.int p4), .val (.int (p4 &&& (3 : Int32))), .val (.ref b5), .unset, .unset, .unset, .unset, .unset, .unset, .unset, .unset, .unset, .unset, .unset, .unset] [(.int (p4 &&& (3 : Int32)))])) _
    refine XS.iconst X7.here hx rfl (hb hby at_29) ?_
    show Steps p.tables e below (T7.setTop (mkF m 30 #[.val (.int p1), .val (.int p2), .val (.int p3), .val (.int p4), .val (.int (p4 &&& (3 : Int32))), .val (.ref b5), .unset, .unset, .unset, .unset, .unset, .unset, .unset, .unset, .unset, .unset, .unset, .unset] [(.int (2 : Int32)), (.int (p4 &&& (3 : Int32)))])) _
    refine XS.icmpYes X7.here hx rfl (pc0 := 30) (pc' := 40) rfl (hb hby at_30) rfl (tlt hc30).1 (by decide) (by decide) ?_
    show Steps p.tables e below (T7.setTop (mkF m 40 #[.val (.int p1), .val (.int p2), .val (.int p3), .val (.int p4), .val (.int (p4 &&& (3 : Int32))), .val (.ref b5), .unset, .unset, .unset, .unset, .unset, .unset, .unset, .unset, .unset, .unset, .unset, .unset] [])) _
    refine XS.iload X7.here hx rfl (hb hby at_40) rfl ?_
    show Steps p.tables e below (T7.setTop (mkF m 42 #[.val (.int p1), .val (.int p2), .val (.int p3), .val (.int p4), .val (.int (p4 &&& (3 : Int32))), .val (.ref b5), .unset, .unset, .unset, .unset, .unset, .unset, .unset, .unset, .unset, .unset, .unset, .unset] [(.int (p4 &&& (3 : Int32)))])) _
    refine XS.iconst X7.here hx rfl (hb hby at_42) ?_
    show Steps p.tables e below (T7.setTop (mkF m 43 #[.val (.int p1), .val (.int p2), .val (.int p3), .val (.int p4), .val (.int (p4 &&& (3 : Int32))), .val (.ref b5), .unset, .unset, .unset, .unset, .unset, .unset, .unset, .unset, .unset, .unset, .unset, .unset] [(.int (3 : Int32)), (.int (p4 &&& (3 : Int32)))])) _
    refine XS.icmpYes X7.here hx rfl (pc0 := 43) (pc' := 53) rfl (hb hby at_43) rfl (tlt hc43).1 (by decide) (by decide) ?_
    show Steps p.tables e below (T7.setTop (mkF m 53 #[.val (.int p1), .val (.int p2), .val (.int p3), .val (.int p4), .val (.int (p4 &&& (3 : Int32))), .val (.ref b5), .unset, .unset, .unset, .unset, .unset, .unset, .unset, .unset, .unset, .unset, .unset, .unset] [])) _
    refine XS.aload X7.here hx rfl (hb hby at_53) rfl rfl ?_
    show Steps p.tables e below (T7.setTop (mkF m 55 #[.val (.int p1), .val (.int p2), .val (.int p3), .val (.int p4), .val (.int (p4 &&& (3 : Int32))), .val (.ref b5), .unset, .unset, .unset, .unset, .unset, .unset, .unset, .unset, .unset, .unset, .unset, .unset] [(.ref b5)])) _
    refine st8.trans ?_
    show Steps p.tables e below (T8.setTop (mkF m 58 #[.val (.int p1), .val (.int p2), .val (.int p3), .val (.int p4), .val (.int (p4 &&& (3 : Int32))), .val (.ref b5), .unset, .unset, .unset, .unset, .unset, .unset, .unset, .unset, .unset, .unset, .unset, .unset] [(.double (FP.ddiv (FP.l2d (p1.toInt64)) (FP.l2d (1 : Int64))))])) _
    refine XS.dstore X8.here hx rfl (hb hby at_58) rfl (l' := #[.val (.int p1), .val (.int p2), .val (.int p3), .val (.int p4), .val (.int (p4 &&& (3 : Int32))), .val (.ref b5), .val (.double (FP.ddiv (FP.l2d (p1.toInt64)) (FP.l2d (1 : Int64)))), .second, .unset, .unset, .unset, .unset, .unset, .unset, .unset, .unset, .unset, .unset]) rfl ?_
    show Steps p.tables e below (T8.setTop (mkF m 60 #[.val (.int p1), .val (.int p2), .val (.int p3), .val (.int p4), .val (.int (p4 &&& (3 : Int32))), .val (.ref b5), .val (.double (FP.ddiv (FP.l2d (p1.toInt64)) (FP.l2d (1 : Int64)))), .second, .unset, .unset, .unset, .unset, .unset, .unset, .unset, .unset, .unset, .unset] [])) _
    refine XS.iload X8.here hx rfl (hb hby at_60) rfl ?_
    show Steps p.tables e below (T8.setTop (mkF m 62 #[.val (.int p1), .val (.int p2), .val (.int p3), .val (.int p4), .val (.int (p4 &&& (3 : Int32))), .val (.ref b5), .val (.double (FP.ddiv (FP.l2d (p1.toInt64)) (FP.l2d (1 : Int64)))), .second, .unset, .unset, .unset, .unset, .unset, .unset, .unset, .unset, .unset, .unset] [(.int (p4 &&& (3 : Int32)))])) _
    refine XS.ifYes X8.here hx rfl (pc0 := 62) (pc' := 79) rfl (hb hby at_62) rfl ((if0 _ _).trans (feq hc62).2) (by decide) (by decide) ?_
    show Steps p.tables e below (T8.setTop (mkF m 79 #[.val (.int p1), .val (.int p2), .val (.int p3), .val (.int p4), .val (.int (p4 &&& (3 : Int32))), .val (.ref b5), .val (.double (FP.ddiv (FP.l2d (p1.toInt64)) (FP.l2d (1 : Int64)))), .second, .unset, .unset, .unset, .unset, .unset, .unset, .unset, .unset, .unset, .unset] [])) _
    refine XS.iload X8.here hx rfl (hb hby at_79) rfl ?_
    show Steps p.tables e below (T8.setTop (mkF m 81 #[.val (.int p1), .val (.int p2), .val (.int p3), .val (.int p4), .val (.int (p4 &&& (3 : Int32))), .val (.ref b5), .val (.double (FP.ddiv (FP.l2d (p1.toInt64)) (FP.l2d (1 : Int64)))), .second, .unset, .unset, .unset, .unset, .unset, .unset, .unset, .unset, .unset, .unset] [(.int (p4 &&& (3 : Int32)))])) _
    refine XS.iconst X8.here hx rfl (hb hby at_81) ?_
    show Steps p.tables e below (T8.setTop (mkF m 82 #[.val (.int p1), .val (.int p2), .val (.int p3), .val (.int p4), .val (.int (p4 &&& (3 : Int32))), .val (.ref b5), .val (.double (FP.ddiv (FP.l2d (p1.toInt64)) (FP.l2d (1 : Int64)))), .second, .unset, .unset, .unset, .unset, .unset, .unset, .unset, .unset, .unset, .unset] [(.int (1 : Int32)), (.int (p4 &&& (3 : Int32)))])) _
    refine XS.icmpNo X8.here hx rfl (hb hby at_82) rfl (teq hc82).2 ?_
    show Steps p.tables e below (T8.setTop (mkF m 85 #[.val (.int p1), .val (.int p2), .val (.int p3), .val (.int p4), .val (.int (p4 &&& (3 : Int32))), .val (.ref b5), .val (.double (FP.ddiv (FP.l2d (p1.toInt64)) (FP.l2d (1 : Int64)))), .second, .unset, .unset, .unset, .unset, .unset, .unset, .unset, .unset, .unset, .unset] [])) _
    refine XS.dload X8.here hx rfl (hb hby at_85) rfl ?_
    show Steps p.tables e below (T8.setTop (mkF m 87 #[.val (.int p1), .val (.int p2), .val (.int p3), .val (.int p4), .val (.int (p4 &&& (3 : Int32))), .val (.ref b5), .val (.double (FP.ddiv (FP.l2d (p1.toInt64)) (FP.l2d (1 : Int64)))), .second, .unset, .unset, .unset, .unset, .unset, .unset, .unset, .unset, .unset, .unset] [(.double (FP.ddiv (FP.l2d (p1.toInt64)) (FP.l2d (1 : Int64))))])) _
    refine XS.iloadN X8.here hx rfl (hb hby at_87) rfl ?_
    show Steps p.tables e below (T8.setTop (mkF m 88 #[.val (.int p1), .val (.int p2), .val (.int p3), .val (.int p4), .val (.int (p4 &&& (3 : Int32))), .val (.ref b5), .val (.double (FP.ddiv (FP.l2d (p1.toInt64)) (FP.l2d (1 : Int64)))), .second, .unset, .unset, .unset, .unset, .unset, .unset, .unset, .unset, .unset, .unset] [(.int p1), (.double (FP.ddiv (FP.l2d (p1.toInt64)) (FP.l2d (1 : Int64))))])) _
    refine XS.i2dS X8.here hx rfl (hb hby at_88) rfl (i2d_w _) ?_
    show Steps p.tables e below (T8.setTop (mkF m 89 #[.val (.int p1), .val (.int p2), .val (.int p3), .val (.int p4), .val (.int (p4 &&& (3 : Int32))), .val (.ref b5), .val (.double (FP.ddiv (FP.l2d (p1.toInt64)) (FP.l2d (1 : Int64)))), .second, .unset, .unset, .unset, .unset, .unset, .unset, .unset, .unset, .unset, .unset] [(.double (FP.l2d (p1.toInt64))), (.double (FP.ddiv (FP.l2d (p1.toInt64)) (FP.l2d (1 : Int64))))])) _
    refine XS.dcmpS X8.here hx rfl (hb hby at_89) rfl (own_ceq hd) ?_
    show Steps p.tables e below (T8.setTop (mkF m 90 #[.val (.int p1), .val (.int p2), .val (.int p3), .val (.int p4), .val (.int (p4 &&& (3 : Int32))), .val (.ref b5), .val (.double (FP.ddiv (FP.l2d (p1.toInt64)) (FP.l2d (1 : Int64)))), .second, .unset, .unset, .unset, .unset, .unset, .unset, .unset, .unset, .unset, .unset] [(.int (0 : Int32))])) _
    refine XS.ifNo X8.here hx rfl (hb hby at_90) rfl ((if0 _ _).trans (teq (rfl : (0 : Int32) = (0 : Int32))).2) ?_
    show Steps p.tables e below (T8.setTop (mkF m 93 #[.val (.int p1), .val (.int p2), .val (.int p3), .val (.int p4), .val (.int (p4 &&& (3 : Int32))), .val (.ref b5), .val (.double (FP.ddiv (FP.l2d (p1.toInt64)) (FP.l2d (1 : Int64)))), .second, .unset, .unset, .unset, .unset, .unset, .unset, .unset, .unset, .unset, .unset] [])) _
    refine XS.iconst X8.here hx rfl (hb hby at_93) ?_
    show Steps p.tables e below (T8.setTop (mkF m 94 #[.val (.int p1), .val (.int p2), .val (.int p3), .val (.int p4), .val (.int (p4 &&& (3 : Int32))), .val (.ref b5), .val (.double (FP.ddiv (FP.l2d (p1.toInt64)) (FP.l2d (1 : Int64)))), .second, .unset, .unset, .unset, .unset, .unset, .unset, .unset, .unset, .unset, .unset] [(.int (1 : Int32))])) _
    refine XS.goto X8.here hx rfl (pc0 := 94) (pc' := 98) rfl (hb hby at_94) (by decide) (by decide) ?_
    show Steps p.tables e below (T8.setTop (mkF m 98 #[.val (.int p1), .val (.int p2), .val (.int p3), .val (.int p4), .val (.int (p4 &&& (3 : Int32))), .val (.ref b5), .val (.double (FP.ddiv (FP.l2d (p1.toInt64)) (FP.l2d (1 : Int64)))), .second, .unset, .unset, .unset, .unset, .unset, .unset, .unset, .unset, .unset, .unset] [(.int (1 : Int32))])) _
    exact retN X8 hx (t := .boolean) Bd.returns (by simp) (hb hby at_98) hr
  · show Q0 n0 _ _
    exact ⟨rfl, N8⟩
set_option maxRecDepth 65536 in
set_option maxHeartbeats 40000000 in
theorem rm0_2 (l : Launch) (Z : State) (a0 : Array Value) (hw : ∀ d ∈ tables_1, d.before a0 Z = true) (ws : List Jvm.Cond) (p1 p2 p3 p4 : Int32) (h0 : Heap) (n0 : Nat) (Z0 : n0 ≤ h0.size) (hm : Jvm.Free.Fl.NoNaN64 (FP.ddiv (FP.l2d ((p1.toInt64) + (p2.toInt64))) (FP.l2d (2 : Int64)))) (hx2 : Jvm.Free.Fl.NoNaN64 (FP.dmul (FP.l2d ((p1.toInt64) + (p2.toInt64))) (4602678819172646912 : UInt64))) (hd : FP.dcmp (FP.ddiv (FP.l2d ((p1.toInt64) + (p2.toInt64))) (FP.l2d (2 : Int64))) (FP.dmul (FP.l2d ((p1.toInt64) + (p2.toInt64))) (4602678819172646912 : UInt64)) = some .eq) (hc17 : ¬ ((p4 &&& (3 : Int32)) < (1 : Int32))) (hc30 : ¬ ((p4 &&& (3 : Int32)) < (2 : Int32))) (hc43 : (p4 &&& (3 : Int32)) < (3 : Int32)) (hc62 : ¬ ((p4 &&& (3 : Int32)) = (0 : Int32))) (hc82 : ¬ ((p4 &&& (3 : Int32)) = (1 : Int32))) (hc102 : (p4 &&& (3 : Int32)) = (2 : Int32)) :
    MetFree l x (head1 (Jvm.Cond.code x code maxLocals ret :: ws) room_1) (fun a U => a = #[(.int p1), (.int p2), (.int p3), (.int p4)] ∧ Z.Warmed39 U.vm ∧ U.heap = h0) (fun _ _ _ _ _ => True) (fun _ U o U' => ∃ v L, o = .returned v ∧ Q0 n0 v L ∧ FrameEnd U o U' L 1 4) := by
  refine MetFree.of_bodySF (plainFor_of_name pn_0) hisR ?_
  intro p e s m args below meth c s₁ Bd hml0 hP hK
  obtain ⟨rfl, hZ, hh⟩ := hP
  have hx := Bd.exec
  have hby := Bd.bytes
  have hml : c.maxLocals = 18 := hml0
  have hown : s.vm.findClass "io/watchring/sim/TallyMeanPinLaw" = some m.cls := findClass_of_methodNamed Bd.named
  have hnm := (name_of_methodNamed Bd.named Bd.method).1
  have X0 : Stand p l e room_1 s m #[(.int p1), (.int p2), (.int p3), (.int p4)] below meth c s₁ [] 0 0 := Stand.of_body Bd
  have e0 : s₁.heap = h0 := by rw [← hh, Bd.state]; rfl
  have N0 := Fr.nil n0
  have pre0 : ∀ t, Steps p.tables e below (s₁.setTop (mkF m 0 #[.val (.int p1), .val (.int p2), .val (.int p3), .val (.int p4), .unset, .unset, .unset, .unset, .unset, .unset, .unset, .unset, .unset, .unset, .unset, .unset, .unset, .unset] [])) t → Steps p.tables e below (s₁.setTop (entryFrame m #[(.int p1), (.int p2), (.int p3), (.int p4)] maxLocals)) t := fun t k => castTop (ef_0 m p1 p2 p3 p4) k
  obtain ⟨T5, h5, X5, e5, E5, A5, D5, -, st5⟩ := newO X0 hx hZ hown (hw _ (List.mem_of_getElem? (i := 0) rfl)) (hw _ (List.mem_of_getElem? (i := 1) rfl)) (hw _ (List.mem_of_getElem? (i := 2) rfl)) e0 (g := (mkF m 5 #[.val (.int p1), .val (.int p2), .val (.int p3), .val (.int p4), .val (.int (p4 &&& (3 : Int32))), .unset, .unset, .unset, .unset, .unset, .unset, .unset, .unset, .unset, .unset, .unset, .unset, .unset] [])) rfl (hb hby at_5) (by decide) (by decide)
  obtain ⟨b5, g5⟩ : ∃ z, z = h0.size := ⟨_, rfl⟩
  rw [← g5] at A5 D5 st5
  have F_min_b5 : Fld Z h5 b5 "io/watchring/sim/Tally" "min" "J" (.long (0 : Int64)) := D5 (Or.inl (hw _ (List.mem_of_getElem? (i := 11) rfl))) (ty := .long) (by decide)
  have F_max_b5 : Fld Z h5 b5 "io/watchring/sim/Tally" "max" "J" (.long (0 : Int64)) := D5 (Or.inl (hw _ (List.mem_of_getElem? (i := 14) rfl))) (ty := .long) (by decide)
  have F_count_b5 : Fld Z h5 b5 "io/watchring/sim/Tally" "count" "J" (.long (0 : Int64)) := D5 (Or.inl (hw _ (List.mem_of_getElem? (i := 21) rfl))) (ty := .long) (by decide)
  have F_total_b5 : Fld Z h5 b5 "io/watchring/sim/Tally" "total" "J" (.long (0 : Int64)) := D5 (Or.inl (hw _ (List.mem_of_getElem? (i := 23) rfl))) (ty := .long) (by decide)
  have E_b5 := A5
  have g_b5 : n0 ≤ b5 := Nat.le_trans Z0 (Nat.le_of_eq g5.symm)
  obtain ⟨_, _, ⟨T6, L6, k6, n6⟩, -, X6, ⟨Lc6, hQ6, l6, y6, z6⟩, st6⟩ := X5.specialBack hx (y := (⟨"io/watchring/sim/Tally", "<init>", "()V"⟩ : MethodName)) rfl hown (mvT hZ (hw _ (List.mem_of_getElem? (i := 3) rfl))) (mvT hZ (hw _ (List.mem_of_getElem? (i := 4) rfl))) (mvT hZ (hw _ (List.mem_of_getElem? (i := 5) rfl))) (by decide) (backOf (W := 1) (rm1 l Z a0 hw [] b5 _ _ h5 n0 (Nat.le_trans Z0 E5.1) E_b5 F_min_b5 F_max_b5 F_count_b5 F_total_b5 g_b5) hZ (hw _ (List.mem_of_getElem? (i := 5) rfl)) (hw _ (List.mem_of_getElem? (i := 2) rfl)) (by decide) (by decide)) (g := (mkF m 9 #[.val (.int p1), .val (.int p2), .val (.int p3), .val (.int p4), .val (.int (p4 &&& (3 : Int32))), .unset, .unset, .unset, .unset, .unset, .unset, .unset, .unset, .unset, .unset, .unset, .unset, .unset] [(.ref b5), (.ref b5)])) rfl (by rw [hml]; rfl) (Steps.refl _) (a := b5) (argsL := []) (rest := [(.ref b5)]) (lenOf pd_0_0 rfl) rfl (by show 2 * 0 + _ ≤ _; exact Nat.le_of_eq rfl) (hb hby at_9) (fun _ _ => ⟨rfl, e5, (by decide : 1 + 0 ≤ _), (by decide : 4 + 0 ≤ _)⟩)
  dsimp only [Pt.U, Pt.locs, Pt.cells, Pt.slots] at X6 l6 y6 z6 st6 hQ6
  subst l6 y6 z6
  obtain ⟨rfl, N6q, Ty6⟩ := hQ6
  obtain ⟨mn6, mx6, Tz6⟩ := id Ty6
  have N6 := Fr.app N0 N6q
  obtain ⟨cq7, kq7, q7a, q7b, q7c⟩ := isOf hZ rfl Tz6.1
  obtain ⟨_, _, ⟨T7, L7, k7, n7⟩, -, X7, ⟨Lc7, hQ7, l7, y7, z7⟩, st7⟩ := X6.virtualBack hx (y := (⟨"io/watchring/sim/Tally", "add", "(J)V"⟩ : MethodName)) (z := (⟨"io/watchring/sim/Tally", "add", "(J)V"⟩ : MethodName)) hown (mvT hZ (hw _ (List.mem_of_getElem? (i := 15) rfl))) (mvT hZ (hw _ (List.mem_of_getElem? (i := 16) rfl))) (notFace_of_selects (args := #[]) (mvT hZ (hw _ (List.mem_of_getElem? (i := 18) rfl)))) (mvT hZ (hw _ (List.mem_of_getElem? (i := 18) rfl))) (mvT hZ (hw _ (List.mem_of_getElem? (i := 17) rfl))) (by decide) (backOf (W := 0) (rm3 l Z a0 hw [] b5 (p1.toInt64) (0 : Int64) (0 : Int64) (1 : Int64) (p1.toInt64) T6.heap n0 (Nat.le_trans g_b5 (Nat.le_of_lt Tz6.1.lt)) Ty6 g_b5 (by decide) (Int64.zero_add _).symm) hZ (hw _ (List.mem_of_getElem? (i := 19) rfl)) (hw _ (List.mem_of_getElem? (i := 2) rfl)) (by decide) (by decide)) q7a q7c (g := (mkF m 24 #[.val (.int p1), .val (.int p2), .val (.int p3), .val (.int p4), .val (.int (p4 &&& (3 : Int32))), .val (.ref b5), .unset, .unset, .unset, .unset, .unset, .unset, .unset, .unset, .unset, .unset, .unset, .unset] [(.long (p1.toInt64)), (.ref b5)])) rfl (by rw [hml]; rfl) (Steps.refl _) (argsL := [(.long (p1.toInt64))]) (rest := []) (lenOf pd_0_1 rfl) rfl (by show 2 * 0 + _ ≤ _; exact Nat.le_of_eq rfl) (hb hby at_24) (fun _ _ => ⟨rfl, rfl, (by decide : 1 + 0 ≤ _), (by decide : 4 + 0 ≤ _)⟩)
  dsimp only [Pt.U, Pt.locs, Pt.cells, Pt.slots] at X7 l7 y7 z7 st7 hQ7
  subst l7 y7 z7
  obtain ⟨rfl, N7q, Ty7⟩ := hQ7
  obtain ⟨mn7, mx7, Tz7⟩ := id Ty7
  have N7 := Fr.app N6 N7q
  obtain ⟨cq8, kq8, q8a, q8b, q8c⟩ := isOf hZ rfl Tz7.1
  obtain ⟨_, _, ⟨T8, L8, k8, n8⟩, -, X8, ⟨Lc8, hQ8, l8, y8, z8⟩, st8⟩ := X7.virtualBack hx (y := (⟨"io/watchring/sim/Tally", "add", "(J)V"⟩ : MethodName)) (z := (⟨"io/watchring/sim/Tally", "add", "(J)V"⟩ : MethodName)) hown (mvT hZ (hw _ (List.mem_of_getElem? (i := 15) rfl))) (mvT hZ (hw _ (List.mem_of_getElem? (i := 16) rfl))) (notFace_of_selects (args := #[]) (mvT hZ (hw _ (List.mem_of_getElem? (i := 18) rfl)))) (mvT hZ (hw _ (List.mem_of_getElem? (i := 18) rfl))) (mvT hZ (hw _ (List.mem_of_getElem? (i := 17) rfl))) (by decide) (backOf (W := 0) (rm3 l Z a0 hw [] b5 (p2.toInt64) (1 : Int64) (p1.toInt64) (2 : Int64) ((p1.toInt64) + (p2.toInt64)) T7.heap n0 (Nat.le_trans g_b5 (Nat.le_of_lt Tz7.1.lt)) Ty7 g_b5 (by decide) rfl) hZ (hw _ (List.mem_of_getElem? (i := 19) rfl)) (hw _ (List.mem_of_getElem? (i := 2) rfl)) (by decide) (by decide)) q8a q8c (g := (mkF m 37 #[.val (.int p1), .val (.int p2), .val (.int p3), .val (.int p4), .val (.int (p4 &&& (3 : Int32))), .val (.ref b5), .unset, .unset, .unset, .unset, .unset, .unset, .unset, .unset, .unset, .unset, .unset, .unset] [(.long (p2.toInt64)), (.ref b5)])) rfl (by rw [hml]; rfl) (Steps.refl _) (argsL := [(.long (p2.toInt64))]) (rest := []) (lenOf pd_0_1 rfl) rfl (by show 2 * 0 + _ ≤ _; exact Nat.le_of_eq rfl) (hb hby at_37) (fun _ _ => ⟨rfl, rfl, (by decide : 1 + 0 ≤ _), (by decide : 4 + 0 ≤ _)⟩)
  dsimp only [Pt.U, Pt.locs, Pt.cells, Pt.slots] at X8 l8 y8 z8 st8 hQ8
  subst l8 y8 z8
  obtain ⟨rfl, N8q, Ty8⟩ := hQ8
  obtain ⟨mn8, mx8, Tz8⟩ := id Ty8
  have N8 := Fr.app N7 N8q
  obtain ⟨cq9, kq9, q9a, q9b, q9c⟩ := isOf hZ rfl Tz8.1
  obtain ⟨_, _, ⟨T9, L9, k9, n9⟩, -, X9, ⟨Lc9, hQ9, l9, y9, z9⟩, st9⟩ := X8.virtualBack hx (y := (⟨"io/watchring/sim/Tally", "mean", "()D"⟩ : MethodName)) (z := (⟨"io/watchring/sim/Tally", "mean", "()D"⟩ : MethodName)) hown (mvT hZ (hw _ (List.mem_of_getElem? (i := 31) rfl))) (mvT hZ (hw _ (List.mem_of_getElem? (i := 32) rfl))) (notFace_of_selects (args := #[]) (mvT hZ (hw _ (List.mem_of_getElem? (i := 34) rfl)))) (mvT hZ (hw _ (List.mem_of_getElem? (i := 34) rfl))) (mvT hZ (hw _ (List.mem_of_getElem? (i := 33) rfl))) (by decide) (backOf (W := 0) (rm6t l Z a0 hw [] b5 (2 : Int64) ((p1.toInt64) + (p2.toInt64)) T8.heap n0 (Nat.le_trans g_b5 (Nat.le_of_lt Tz8.1.lt)) Ty8 hm (by decide)) hZ (hw _ (List.mem_of_getElem? (i := 35) rfl)) (hw _ (List.mem_of_getElem? (i := 2) rfl)) (by decide) (by decide)) q9a q9c (g := (mkF m 55 #[.val (.int p1), .val (.int p2), .val (.int p3), .val (.int p4), .val (.int (p4 &&& (3 : Int32))), .val (.ref b5), .unset, .unset, .unset, .unset, .unset, .unset, .unset, .unset, .unset, .unset, .unset, .unset] [(.ref b5)])) rfl (by rw [hml]; rfl) (Steps.refl _) (argsL := []) (rest := []) (lenOf pd_0_3 rfl) rfl (by show 2 * 0 + _ ≤ _; exact Nat.le_of_eq rfl) (hb hby at_55) (fun _ _ => ⟨rfl, rfl, (by decide : 1 + 0 ≤ _), (by decide : 4 + 0 ≤ _)⟩)
  dsimp only [Pt.U, Pt.locs, Pt.cells, Pt.slots] at X9 l9 y9 z9 st9 hQ9
  subst l9 y9 z9
  obtain ⟨rfl, N9q, e9⟩ := hQ9
  have N9 := Fr.app N8 N9q
  obtain ⟨fs, hr, hrun, hended, hW, hsame⟩ := X9.leave (v := some (.int (1 : Int32))) (fun h => by rw [Bd.returns] at h; cases h)
  refine ⟨_, _, pre0 _ ?_, hrun, hended, _, _, rfl, ?_, ⟨_, rfl⟩, hW, hsame.mono (by decide) (by decide)⟩
  · show Steps p.tables e below (s₁.setTop (mkF m 0 #[.val (.int p1), .val (.int p2), .val (.int p3), .val (.int p4), .unset, .unset, .unset, .unset, .unset, .unset, .unset, .unset, .unset, .unset, .unset, .unset, .unset, .unset] [])) _
    refine XS.iloadN X0.here hx rfl (hb hby at_0) rfl ?_
    show Steps p.tables e below (s₁.setTop (mkF m 1 #[.val (.int p1), .val (.int p2), .val (.int p3), .val (.int p4), .unset, .unset, .unset, .unset, .unset, .unset, .unset, .unset, .unset, .unset, .unset, .unset, .unset, .unset] [(.int p4)])) _
    refine XS.iconst X0.here hx rfl (hb hby at_1) ?_
    show Steps p.tables e below (s₁.setTop (mkF m 2 #[.val (.int p1), .val (.int p2), .val (.int p3), .val (.int p4), .unset, .unset, .unset, .unset, .unset, .unset, .unset, .unset, .unset, .unset, .unset, .unset, .unset, .unset] [(.int (3 : Int32)), (.int p4)])) _
    refine XS.iand X0.here hx rfl (hb hby at_2) rfl ?_
    show Steps p.tables e below (s₁.setTop (mkF m 3 #[.val (.int p1), .val (.int p2), .val (.int p3), .val (.int p4), .unset, .unset, .unset, .unset, .unset, .unset, .unset, .unset, .unset, .unset, .unset, .unset, .unset, .unset] [(.int (p4 &&& (3 : Int32)))])) _
    refine XS.istore X0.here hx rfl (hb hby at_3) rfl (l' := #[.val (.int p1), .val (.int p2), .val (.int p3), .val (.int p4), .val (.int (p4 &&& (3 : Int32))), .unset, .unset, .unset, .unset, .unset, .unset, .unset, .unset, .unset, .unset, .unset, .unset, .unset]) rfl ?_
    show Steps p.tables e below (s₁.setTop (mkF m 5 #[.val (.int p1), .val (.int p2), .val (.int p3), .val (.int p4), .val (.int (p4 &&& (3 : Int32))), .unset, .unset, .unset, .unset, .unset, .unset, .unset, .unset, .unset, .unset, .unset, .unset, .unset] [])) _
    refine st5 _ ?_
    show Steps p.tables e below (T5.setTop (mkF m 8 #[.val (.int p1), .val (.int p2), .val (.int p3), .val (.int p4), .val (.int (p4 &&& (3 : Int32))), .unset, .unset, .unset, .unset, .unset, .unset, .unset, .unset, .unset, .unset, .unset, .unset, .unset] [(.ref b5)])) _
    refine XS.dup X5.here hx rfl (hb hby at_8) rfl rfl ?_
    show Steps p.tables e below (T5.setTop (mkF m 9 #[.val (.int p1), .val (.int p2), .val (.int p3), .val (.int p4), .val (.int (p4 &&& (3 : Int32))), .unset, .unset, .unset, .unset, .unset, .unset, .unset, .unset, .unset, .unset, .unset, .unset, .unset] [(.ref b5), (.ref b5)])) _
    refine st6.trans ?_
    show Steps p.tables e below (T6.setTop (mkF m 12 #[.val (.int p1), .val (.int p2), .val (.int p3), .val (.int p4), .val (.int (p4 &&& (3 : Int32))), .unset, .unset, .unset, .unset, .unset, .unset, .unset, .unset, .unset, .unset, .unset, .unset, .unset] [(.ref b5)])) _
    refine XS.astore X6.here hx rfl (hb hby at_12) rfl rfl (l' := #[.val (.int p1), .val (.int p2), .val (.int p3), .val (.int p4), .val (.int (p4 &&& (3 : Int32))), .val (.ref b5), .unset, .unset, .unset, .unset, .unset, .unset, .unset, .unset, .unset, .unset, .unset, .unset]) rfl ?_
    show Steps p.tables e below (T6.setTop (mkF m 14 #[.val (.int p1), .val (.int p2), .val (.int p3), .val (.int p4), .val (.int (p4 &&& (3 : Int32))), .val (.ref b5), .unset, .unset, .unset, .unset, .unset, .unset, .unset, .unset, .unset, .unset, .unset, .unset] [])) _
    refine XS.iload X6.here hx rfl (hb hby at_14) rfl ?_
    show Steps p.tables e below (T6.setTop (mkF m 16 #[.val (.int p1), .val (.int p2), .val (.int p3), .val (.int p4), .val (.int (p4 &&& (3 : Int32))), .val (.ref b5), .unset, .unset, .unset, .unset, .unset, .unset, .unset, .unset, .unset, .unset, .unset, .unset] [(.int (p4 &&& (3 : Int32)))])) _
    refine XS.iconst X6.here hx rfl (hb hby at_16) ?_
    show Steps p.tables e below (T6.setTop (mkF m 17 #[.val (.int p1), .val (.int p2), .val (.int p3), .val (.int p4), .val (.int (p4 &&& (3 : Int32))), .val (.ref b5), .unset, .unset, .unset, .unset, .unset, .unset, .unset, .unset, .unset, .unset, .unset, .unset] [(.int (1 : Int32)), (.int (p4 &&& (3 : Int32)))])) _
    refine XS.icmpNo X6.here hx rfl (hb hby at_17) rfl (flt hc17).1 ?_
    show Steps p.tables e below (T6.setTop (mkF m 20 #[.val (.int p1), .val (.int p2), .val (.int p3), .val (.int p4), .val (.int (p4 &&& (3 : Int32))), .val (.ref b5), .unset, .unset, .unset, .unset, .unset, .unset, .unset, .unset, .unset, .unset, .unset, .unset] [])) _
    refine XS.aload X6.here hx rfl (hb hby at_20) rfl rfl ?_
    show Steps p.tables e below (T6.setTop (mkF m 22 #[.val (.int p1), .val (.int p2), .val (.int p3), .val (.int p4), .val (.int (p4 &&& (3 : Int32))), .val (.ref b5), .unset, .unset, .unset, .unset, .unset, .unset, .unset, .unset, .unset, .unset, .unset, .unset] [(.ref b5)])) _
    refine XS.iloadN X6.here hx rfl (hb hby at_22) rfl ?_
    show Steps p.tables e below (T6.setTop (mkF m 23 #[.val (.int p1), .val (.int p2), .val (.int p3), .val (.int p4), .val (.int (p4 &&& (3 : Int32))), .val (.ref b5), .unset, .unset, .unset, .unset, .unset, .unset, .unset, .unset, .unset, .unset, .unset, .unset] [(.int p1), (.ref b5)])) _
    refine XS.i2l X6.here hx rfl (hb hby at_23) rfl ?_
    show Steps p.tables e below (T6.setTop (mkF m 24 #[.val (.int p1), .val (.int p2), .val (.int p3), .val (.int p4), .val (.int (p4 &&& (3 : Int32))), .val (.ref b5), .unset, .unset, .unset, .unset, .unset, .unset, .unset, .unset, .unset, .unset, .unset, .unset] [(.long (p1.toInt64)), (.ref b5)])) _
    refine st7.trans ?_
    show Steps p.tables e below (T7.setTop (mkF m 27 #[.val (.int p1), .val (.int p2), .val (.int p3), .val (.int p4), .val (.int (p4 &&& (3 : Int32))), .val (.ref b5), .unset, .unset, .unset, .unset, .unset, .unset, .unset, .unset, .unset, .unset, .unset, .unset] [])) _
    refine XS.iload X7.here hx rfl (hb hby at_27) rfl ?_
    show Steps p.tables e below (T7.setTop (mkF m 29 #[.val (.int p1), .val (.int p2), .val (.int p3), .val (.int p4), .val (.int (p4 &&& (3 : Int32))), .val (.ref b5), .unset, .unset, .unset, .unset, .unset, .unset, .unset, .unset, .unset, .unset, .unset, .unset] [(.int (p4 &&& (3 : Int32)))])) _
    refine XS.iconst X7.here hx rfl (hb hby at_29) ?_
    show Steps p.tables e below (T7.setTop (mkF m 30 #[.val (.int p1), .val (.int p2), .val (.int p3), .val (.int p4), .val (.int (p4 &&& (3 : Int32))), .val (.ref b5), .unset, .unset, .unset, .unset, .unset, .unset, .unset, .unset, .unset, .unset, .unset, .unset] [(.int (2 : Int32)), (.int (p4 &&& (3 : Int32)))])) _
    refine XS.icmpNo X7.here hx rfl (hb hby at_30) rfl (flt hc30).1 ?_
    show Steps p.tables e below (T7.setTop (mkF m 33 #[.val (.int p1), .val (.int p2), .val (.int p3), .val (.int p4), .val (.int (p4 &&& (3 : Int32))), .val (.ref b5), .unset, .unset, .unset, .unset, .unset, .unset, .unset, .unset, .unset, .unset, .unset, .unset] [])) _
    refine XS.aload X7.here hx rfl (hb hby at_33) rfl rfl ?_
    show Steps p.tables e below (T7.setTop (mkF m 35 #[.val (.int p1), .val (.int p2), .val (.int p3), .val (.int p4), .val (.int (p4 &&& (3 : Int32))), .val (.ref b5), .unset, .unset, .unset, .unset, .unset, .unset, .unset, .unset, .unset, .unset, .unset, .unset] [(.ref b5)])) _
    refine XS.iloadN X7.here hx rfl (hb hby at_35) rfl ?_
    show Steps p.tables e below (T7.setTop (mkF m 36 #[.val (.int p1), .val (.int p2), .val (.int p3), .val (.int p4), .val (.int (p4 &&& (3 : Int32))), .val (.ref b5), .unset, .unset, .unset, .unset, .unset, .unset, .unset, .unset, .unset, .unset, .unset, .unset] [(.int p2), (.ref b5)])) _
    refine XS.i2l X7.here hx rfl (hb hby at_36) rfl ?_
    show Steps p.tables e below (T7.setTop (mkF m 37 #[.val (.int p1), .val (.int p2), .val (.int p3), .val (.int p4), .val (.int (p4 &&& (3 : Int32))), .val (.ref b5), .unset, .unset, .unset, .unset, .unset, .unset, .unset, .unset, .unset, .unset, .unset, .unset] [(.long (p2.toInt64)), (.ref b5)])) _
    refine st8.trans ?_
    show Steps p.tables e below (T8.setTop (mkF m 40 #[.val (.int p1), .val (.int p2), .val (.int p3), .val (.int p4), .val (.int (p4 &&& (3 : Int32))), .val (.ref b5), .unset, .unset, .unset, .unset, .unset, .unset, .unset, .unset, .unset, .unset, .unset, .unset] [])) _
    refine XS.iload X8.here hx rfl (hb hby at_40) rfl ?_
    show Steps p.tables e below (T8.setTop (mkF m 42 #[.val (.int p1), .val (.int p2), .val (.int p3), .val (.int p4), .val (.int (p4 &&& (3 : Int32))), .val (.ref b5), .unset, .unset, .unset, .unset, .unset, .unset, .unset, .unset, .unset, .unset, .unset, .unset] [(.int (p4 &&& (3 : Int32)))])) _
    refine XS.iconst X8.here hx rfl (hb hby at_42) ?_
    show Steps p.tables e below (T8.setTop (mkF m 43 #[.val (.int p1), .val (.int p2), .val (.int p3), .val (.int p4), .val (.int (p4 &&& (3 : Int32))), .val (.ref b5), .unset, .unset, .unset, .unset, .unset, .unset, .unset, .unset, .unset, .unset, .unset, .unset] [(.int (3 : Int32)), (.int (p4 &&& (3 : Int32)))])) _
    refine XS.icmpYes X8.here hx rfl (pc0 := 43) (pc' := 53) rfl (hb hby at_43) rfl (tlt hc43).1 (by decide) (by decide) ?_
    show Steps p.tables e below (T8.setTop (mkF m 53 #[.val (.int p1), .val (.int p2), .val (.int p3), .val (.int p4), .val (.int (p4 &&& (3 : Int32))), .val (.ref b5), .unset, .unset, .unset, .unset, .unset, .unset, .unset, .unset, .unset, .unset, .unset, .unset] [])) _
    refine XS.aload X8.here hx rfl (hb hby at_53) rfl rfl ?_
    show Steps p.tables e below (T8.setTop (mkF m 55 #[.val (.int p1), .val (.int p2), .val (.int p3), .val (.int p4), .val (.int (p4 &&& (3 : Int32))), .val (.ref b5), .unset, .unset, .unset, .unset, .unset, .unset, .unset, .unset, .unset, .unset, .unset, .unset] [(.ref b5)])) _
    refine st9.trans ?_
    show Steps p.tables e below (T9.setTop (mkF m 58 #[.val (.int p1), .val (.int p2), .val (.int p3), .val (.int p4), .val (.int (p4 &&& (3 : Int32))), .val (.ref b5), .unset, .unset, .unset, .unset, .unset, .unset, .unset, .unset, .unset, .unset, .unset, .unset] [(.double (FP.ddiv (FP.l2d ((p1.toInt64) + (p2.toInt64))) (FP.l2d (2 : Int64))))])) _
    refine XS.dstore X9.here hx rfl (hb hby at_58) rfl (l' := #[.val (.int p1), .val (.int p2), .val (.int p3), .val (.int p4), .val (.int (p4 &&& (3 : Int32))), .val (.ref b5), .val (.double (FP.ddiv (FP.l2d ((p1.toInt64) + (p2.toInt64))) (FP.l2d (2 : Int64)))), .second, .unset, .unset, .unset, .unset, .unset, .unset, .unset, .unset, .unset, .unset]) rfl ?_
    show Steps p.tables e below (T9.setTop (mkF m 60 #[.val (.int p1), .val (.int p2), .val (.int p3), .val (.int p4), .val (.int (p4 &&& (3 : Int32))), .val (.ref b5), .val (.double (FP.ddiv (FP.l2d ((p1.toInt64) + (p2.toInt64))) (FP.l2d (2 : Int64)))), .second, .unset, .unset, .unset, .unset, .unset, .unset, .unset, .unset, .unset, .unset] [])) _
    refine XS.iload X9.here hx rfl (hb hby at_60) rfl ?_
    show Steps p.tables e below (T9.setTop (mkF m 62 #[.val (.int p1), .val (.int p2), .val (.int p3), .val (.int p4), .val (.int (p4 &&& (3 : Int32))), .val (.ref b5), .val (.double (FP.ddiv (FP.l2d ((p1.toInt64) + (p2.toInt64))) (FP.l2d (2 : Int64)))), .second, .unset, .unset, .unset, .unset, .unset, .unset, .unset, .unset, .unset, .unset] [(.int (p4 &&& (3 : Int32)))])) _
    refine XS.ifYes X9.here hx rfl (pc0 := 62) (pc' := 79) rfl (hb hby at_62) rfl ((if0 _ _).trans (feq hc62).2) (by decide) (by decide) ?_
    show Steps p.tables e below (T9.setTop (mkF m 79 #[.val (.int p1), .val (.int p2), .val (.int p3), .val (.int p4), .val (.int (p4 &&& (3 : Int32))), .val (.ref b5), .val (.double (FP.ddiv (FP.l2d ((p1.toInt64) + (p2.toInt64))) (FP.l2d (2 : Int64)))), .second, .unset, .unset, .unset, .unset, .unset, .unset, .unset, .unset, .unset, .unset] [])) _
    refine XS.iload X9.here hx rfl (hb hby at_79) rfl ?_
    show Steps p.tables e below (T9.setTop (mkF m 81 #[.val (.int p1), .val (.int p2), .val (.int p3), .val (.int p4), .val (.int (p4 &&& (3 : Int32))), .val (.ref b5), .val (.double (FP.ddiv (FP.l2d ((p1.toInt64) + (p2.toInt64))) (FP.l2d (2 : Int64)))), .second, .unset, .unset, .unset, .unset, .unset, .unset, .unset, .unset, .unset, .unset] [(.int (p4 &&& (3 : Int32)))])) _
    refine XS.iconst X9.here hx rfl (hb hby at_81) ?_
    show Steps p.tables e below (T9.setTop (mkF m 82 #[.val (.int p1), .val (.int p2), .val (.int p3), .val (.int p4), .val (.int (p4 &&& (3 : Int32))), .val (.ref b5), .val (.double (FP.ddiv (FP.l2d ((p1.toInt64) + (p2.toInt64))) (FP.l2d (2 : Int64)))), .second, .unset, .unset, .unset, .unset, .unset, .unset, .unset, .unset, .unset, .unset] [(.int (1 : Int32)), (.int (p4 &&& (3 : Int32)))])) _
    refine XS.icmpYes X9.here hx rfl (pc0 := 82) (pc' := 99) rfl (hb hby at_82) rfl (feq hc82).2 (by decide) (by decide) ?_
    show Steps p.tables e below (T9.setTop (mkF m 99 #[.val (.int p1), .val (.int p2), .val (.int p3), .val (.int p4), .val (.int (p4 &&& (3 : Int32))), .val (.ref b5), .val (.double (FP.ddiv (FP.l2d ((p1.toInt64) + (p2.toInt64))) (FP.l2d (2 : Int64)))), .second, .unset, .unset, .unset, .unset, .unset, .unset, .unset, .unset, .unset, .unset] [])) _
    refine XS.iload X9.here hx rfl (hb hby at_99) rfl ?_
    show Steps p.tables e below (T9.setTop (mkF m 101 #[.val (.int p1), .val (.int p2), .val (.int p3), .val (.int p4), .val (.int (p4 &&& (3 : Int32))), .val (.ref b5), .val (.double (FP.ddiv (FP.l2d ((p1.toInt64) + (p2.toInt64))) (FP.l2d (2 : Int64)))), .second, .unset, .unset, .unset, .unset, .unset, .unset, .unset, .unset, .unset, .unset] [(.int (p4 &&& (3 : Int32)))])) _
    refine XS.iconst X9.here hx rfl (hb hby at_101) ?_
    show Steps p.tables e below (T9.setTop (mkF m 102 #[.val (.int p1), .val (.int p2), .val (.int p3), .val (.int p4), .val (.int (p4 &&& (3 : Int32))), .val (.ref b5), .val (.double (FP.ddiv (FP.l2d ((p1.toInt64) + (p2.toInt64))) (FP.l2d (2 : Int64)))), .second, .unset, .unset, .unset, .unset, .unset, .unset, .unset, .unset, .unset, .unset] [(.int (2 : Int32)), (.int (p4 &&& (3 : Int32)))])) _
    refine XS.icmpNo X9.here hx rfl (hb hby at_102) rfl (teq hc102).2 ?_
    show Steps p.tables e below (T9.setTop (mkF m 105 #[.val (.int p1), .val (.int p2), .val (.int p3), .val (.int p4), .val (.int (p4 &&& (3 : Int32))), .val (.ref b5), .val (.double (FP.ddiv (FP.l2d ((p1.toInt64) + (p2.toInt64))) (FP.l2d (2 : Int64)))), .second, .unset, .unset, .unset, .unset, .unset, .unset, .unset, .unset, .unset, .unset] [])) _
    refine XS.iloadN X9.here hx rfl (hb hby at_105) rfl ?_
    show Steps p.tables e below (T9.setTop (mkF m 106 #[.val (.int p1), .val (.int p2), .val (.int p3), .val (.int p4), .val (.int (p4 &&& (3 : Int32))), .val (.ref b5), .val (.double (FP.ddiv (FP.l2d ((p1.toInt64) + (p2.toInt64))) (FP.l2d (2 : Int64)))), .second, .unset, .unset, .unset, .unset, .unset, .unset, .unset, .unset, .unset, .unset] [(.int p1)])) _
    refine XS.i2l X9.here hx rfl (hb hby at_106) rfl ?_
    show Steps p.tables e below (T9.setTop (mkF m 107 #[.val (.int p1), .val (.int p2), .val (.int p3), .val (.int p4), .val (.int (p4 &&& (3 : Int32))), .val (.ref b5), .val (.double (FP.ddiv (FP.l2d ((p1.toInt64) + (p2.toInt64))) (FP.l2d (2 : Int64)))), .second, .unset, .unset, .unset, .unset, .unset, .unset, .unset, .unset, .unset, .unset] [(.long (p1.toInt64))])) _
    refine XS.iloadN X9.here hx rfl (hb hby at_107) rfl ?_
    show Steps p.tables e below (T9.setTop (mkF m 108 #[.val (.int p1), .val (.int p2), .val (.int p3), .val (.int p4), .val (.int (p4 &&& (3 : Int32))), .val (.ref b5), .val (.double (FP.ddiv (FP.l2d ((p1.toInt64) + (p2.toInt64))) (FP.l2d (2 : Int64)))), .second, .unset, .unset, .unset, .unset, .unset, .unset, .unset, .unset, .unset, .unset] [(.int p2), (.long (p1.toInt64))])) _
    refine XS.i2l X9.here hx rfl (hb hby at_108) rfl ?_
    show Steps p.tables e below (T9.setTop (mkF m 109 #[.val (.int p1), .val (.int p2), .val (.int p3), .val (.int p4), .val (.int (p4 &&& (3 : Int32))), .val (.ref b5), .val (.double (FP.ddiv (FP.l2d ((p1.toInt64) + (p2.toInt64))) (FP.l2d (2 : Int64)))), .second, .unset, .unset, .unset, .unset, .unset, .unset, .unset, .unset, .unset, .unset] [(.long (p2.toInt64)), (.long (p1.toInt64))])) _
    refine XS.ladd X9.here hx rfl (hb hby at_109) rfl ?_
    show Steps p.tables e below (T9.setTop (mkF m 110 #[.val (.int p1), .val (.int p2), .val (.int p3), .val (.int p4), .val (.int (p4 &&& (3 : Int32))), .val (.ref b5), .val (.double (FP.ddiv (FP.l2d ((p1.toInt64) + (p2.toInt64))) (FP.l2d (2 : Int64)))), .second, .unset, .unset, .unset, .unset, .unset, .unset, .unset, .unset, .unset, .unset] [(.long ((p1.toInt64) + (p2.toInt64)))])) _
    refine XS.lstore X9.here hx rfl (hb hby at_110) rfl (l' := #[.val (.int p1), .val (.int p2), .val (.int p3), .val (.int p4), .val (.int (p4 &&& (3 : Int32))), .val (.ref b5), .val (.double (FP.ddiv (FP.l2d ((p1.toInt64) + (p2.toInt64))) (FP.l2d (2 : Int64)))), .second, .val (.long ((p1.toInt64) + (p2.toInt64))), .second, .unset, .unset, .unset, .unset, .unset, .unset, .unset, .unset]) rfl ?_
    show Steps p.tables e below (T9.setTop (mkF m 112 #[.val (.int p1), .val (.int p2), .val (.int p3), .val (.int p4), .val (.int (p4 &&& (3 : Int32))), .val (.ref b5), .val (.double (FP.ddiv (FP.l2d ((p1.toInt64) + (p2.toInt64))) (FP.l2d (2 : Int64)))), .second, .val (.long ((p1.toInt64) + (p2.toInt64))), .second, .unset, .unset, .unset, .unset, .unset, .unset, .unset, .unset] [])) _
    refine XS.dload X9.here hx rfl (hb hby at_112) rfl ?_
    show Steps p.tables e below (T9.setTop (mkF m 114 #[.val (.int p1), .val (.int p2), .val (.int p3), .val (.int p4), .val (.int (p4 &&& (3 : Int32))), .val (.ref b5), .val (.double (FP.ddiv (FP.l2d ((p1.toInt64) + (p2.toInt64))) (FP.l2d (2 : Int64)))), .second, .val (.long ((p1.toInt64) + (p2.toInt64))), .second, .unset, .unset, .unset, .unset, .unset, .unset, .unset, .unset] [(.double (FP.ddiv (FP.l2d ((p1.toInt64) + (p2.toInt64))) (FP.l2d (2 : Int64))))])) _
    refine XS.lload X9.here hx rfl (hb hby at_114) rfl ?_
    show Steps p.tables e below (T9.setTop (mkF m 116 #[.val (.int p1), .val (.int p2), .val (.int p3), .val (.int p4), .val (.int (p4 &&& (3 : Int32))), .val (.ref b5), .val (.double (FP.ddiv (FP.l2d ((p1.toInt64) + (p2.toInt64))) (FP.l2d (2 : Int64)))), .second, .val (.long ((p1.toInt64) + (p2.toInt64))), .second, .unset, .unset, .unset, .unset, .unset, .unset, .unset, .unset] [(.long ((p1.toInt64) + (p2.toInt64))), (.double (FP.ddiv (FP.l2d ((p1.toInt64) + (p2.toInt64))) (FP.l2d (2 : Int64))))])) _
    refine XS.l2dS X9.here hx rfl (hb hby at_116) rfl rfl ?_
    show Steps p.tables e below (T9.setTop (mkF m 117 #[.val (.int p1), .val (.int p2), .val (.int p3), .val (.int p4), .val (.int (p4 &&& (3 : Int32))), .val (.ref b5), .val (.double (FP.ddiv (FP.l2d ((p1.toInt64) + (p2.toInt64))) (FP.l2d (2 : Int64)))), .second, .val (.long ((p1.toInt64) + (p2.toInt64))), .second, .unset, .unset, .unset, .unset, .unset, .unset, .unset, .unset] [(.double (FP.l2d ((p1.toInt64) + (p2.toInt64)))), (.double (FP.ddiv (FP.l2d ((p1.toInt64) + (p2.toInt64))) (FP.l2d (2 : Int64))))])) _
    refine X9.ldc2DoubleC hx hown (mvT hZ (hw _ (List.mem_of_getElem? (i := 36) rfl))) (g := (mkF m 117 #[.val (.int p1), .val (.int p2), .val (.int p3), .val (.int p4), .val (.int (p4 &&& (3 : Int32))), .val (.ref b5), .val (.double (FP.ddiv (FP.l2d ((p1.toInt64) + (p2.toInt64))) (FP.l2d (2 : Int64)))), .second, .val (.long ((p1.toInt64) + (p2.toInt64))), .second, .unset, .unset, .unset, .unset, .unset, .unset, .unset, .unset] [(.double (FP.l2d ((p1.toInt64) + (p2.toInt64)))), (.double (FP.ddiv (FP.l2d ((p1.toInt64) + (p2.toInt64))) (FP.l2d (2 : Int64))))])) rfl (hb hby at_117) _ ?_
    show Steps p.tables e below (T9.setTop (mkF m 120 #[.val (.int p1), .val (.int p2), .val (.int p3), .val (.int p4), .val (.int (p4 &&& (3 : Int32))), .val (.ref b5), .val (.double (FP.ddiv (FP.l2d ((p1.toInt64) + (p2.toInt64))) (FP.l2d (2 : Int64)))), .second, .val (.long ((p1.toInt64) + (p2.toInt64))), .second, .unset, .unset, .unset, .unset, .unset, .unset, .unset, .unset] [(.double (4602678819172646912 : UInt64)), (.double (FP.l2d ((p1.toInt64) + (p2.toInt64)))), (.double (FP.ddiv (FP.l2d ((p1.toInt64) + (p2.toInt64))) (FP.l2d (2 : Int64))))])) _
    refine XS.dmulS X9.here hx rfl (hb hby at_120) rfl hx2 rfl ?_
    show Steps p.tables e below (T9.setTop (mkF m 121 #[.val (.int p1), .val (.int p2), .val (.int p3), .val (.int p4), .val (.int (p4 &&& (3 : Int32))), .val (.ref b5), .val (.double (FP.ddiv (FP.l2d ((p1.toInt64) + (p2.toInt64))) (FP.l2d (2 : Int64)))), .second, .val (.long ((p1.toInt64) + (p2.toInt64))), .second, .unset, .unset, .unset, .unset, .unset, .unset, .unset, .unset] [(.double (FP.dmul (FP.l2d ((p1.toInt64) + (p2.toInt64))) (4602678819172646912 : UInt64))), (.double (FP.ddiv (FP.l2d ((p1.toInt64) + (p2.toInt64))) (FP.l2d (2 : Int64))))])) _
    refine XS.dcmpS X9.here hx rfl (hb hby at_121) rfl (own_ceq hd) ?_
    show Steps p.tables e below (T9.setTop (mkF m 122 #[.val (.int p1), .val (.int p2), .val (.int p3), .val (.int p4), .val (.int (p4 &&& (3 : Int32))), .val (.ref b5), .val (.double (FP.ddiv (FP.l2d ((p1.toInt64) + (p2.toInt64))) (FP.l2d (2 : Int64)))), .second, .val (.long ((p1.toInt64) + (p2.toInt64))), .second, .unset, .unset, .unset, .unset, .unset, .unset, .unset, .unset] [(.int (0 : Int32))])) _
    refine XS.ifNo X9.here hx rfl (hb hby at_122) rfl ((if0 _ _).trans (teq (rfl : (0 : Int32) = (0 : Int32))).2) ?_
    show Steps p.tables e below (T9.setTop (mkF m 125 #[.val (.int p1), .val (.int p2), .val (.int p3), .val (.int p4), .val (.int (p4 &&& (3 : Int32))), .val (.ref b5), .val (.double (FP.ddiv (FP.l2d ((p1.toInt64) + (p2.toInt64))) (FP.l2d (2 : Int64)))), .second, .val (.long ((p1.toInt64) + (p2.toInt64))), .second, .unset, .unset, .unset, .unset, .unset, .unset, .unset, .unset] [])) _
    refine XS.iconst X9.here hx rfl (hb hby at_125) ?_
    show Steps p.tables e below (T9.setTop (mkF m 126 #[.val (.int p1), .val (.int p2), .val (.int p3), .val (.int p4), .val (.int (p4 &&& (3 : Int32))), .val (.ref b5), .val (.double (FP.ddiv (FP.l2d ((p1.toInt64) + (p2.toInt64))) (FP.l2d (2 : Int64)))), .second, .val (.long ((p1.toInt64) + (p2.toInt64))), .second, .unset, .unset, .unset, .unset, .unset, .unset, .unset, .unset] [(.int (1 : Int32))])) _
    refine XS.goto X9.here hx rfl (pc0 := 126) (pc' := 130) rfl (hb hby at_126) (by decide) (by decide) ?_
    show Steps p.tables e below (T9.setTop (mkF m 130 #[.val (.int p1), .val (.int p2), .val (.int p3), .val (.int p4), .val (.int (p4 &&& (3 : Int32))), .val (.ref b5), .val (.double (FP.ddiv (FP.l2d ((p1.toInt64) + (p2.toInt64))) (FP.l2d (2 : Int64)))), .second, .val (.long ((p1.toInt64) + (p2.toInt64))), .second, .unset, .unset, .unset, .unset, .unset, .unset, .unset, .unset] [(.int (1 : Int32))])) _
    exact retN X9 hx (t := .boolean) Bd.returns (by simp) (hb hby at_130) hr
  · show Q0 n0 _ _
    exact ⟨rfl, N9⟩
set_option maxRecDepth 65536 in
set_option maxHeartbeats 40000000 in
theorem rm0_3 (l : Launch) (Z : State) (a0 : Array Value) (hw : ∀ d ∈ tables_1, d.before a0 Z = true) (ws : List Jvm.Cond) (p1 p2 p3 p4 : Int32) (h0 : Heap) (n0 : Nat) (Z0 : n0 ≤ h0.size) (hm : Jvm.Free.Fl.NoNaN64 (FP.ddiv (FP.l2d (((p1.toInt64) + (p2.toInt64)) + (p3.toInt64))) (FP.l2d (3 : Int64)))) (hd : FP.dcmp (FP.ddiv (FP.l2d (((p1.toInt64) + (p2.toInt64)) + (p3.toInt64))) (FP.l2d (3 : Int64))) (FP.l2d ((((p1.toInt64) + (p2.toInt64)) + (p3.toInt64)) / (3 : Int64))) = some .eq) (hc17 : ¬ ((p4 &&& (3 : Int32)) < (1 : Int32))) (hc30 : ¬ ((p4 &&& (3 : Int32)) < (2 : Int32))) (hc43 : ¬ ((p4 &&& (3 : Int32)) < (3 : Int32))) (hc62 : ¬ ((p4 &&& (3 : Int32)) = (0 : Int32))) (hc82 : ¬ ((p4 &&& (3 : Int32)) = (1 : Int32))) (hc102 : ¬ ((p4 &&& (3 : Int32)) = (2 : Int32))) (hnz146 : ¬ ((3 : Int64) = (0 : Int64))) (hc164 : (lcmpW ((((p1.toInt64) + (p2.toInt64)) + (p3.toInt64)) - ((3 : Int64) * ((((p1.toInt64) + (p2.toInt64)) + (p3.toInt64)) / (3 : Int64)))) (0 : Int64)) = (0 : Int32)) :
    MetFree l x (head1 (Jvm.Cond.code x code maxLocals ret :: ws) room_1) (fun a U => a = #[(.int p1), (.int p2), (.int p3), (.int p4)] ∧ Z.Warmed39 U.vm ∧ U.heap = h0) (fun _ _ _ _ _ => True) (fun _ U o U' => ∃ v L, o = .returned v ∧ Q0 n0 v L ∧ FrameEnd U o U' L 1 4) := by
  refine MetFree.of_bodySF (plainFor_of_name pn_0) hisR ?_
  intro p e s m args below meth c s₁ Bd hml0 hP hK
  obtain ⟨rfl, hZ, hh⟩ := hP
  have hx := Bd.exec
  have hby := Bd.bytes
  have hml : c.maxLocals = 18 := hml0
  have hown : s.vm.findClass "io/watchring/sim/TallyMeanPinLaw" = some m.cls := findClass_of_methodNamed Bd.named
  have hnm := (name_of_methodNamed Bd.named Bd.method).1
  have X0 : Stand p l e room_1 s m #[(.int p1), (.int p2), (.int p3), (.int p4)] below meth c s₁ [] 0 0 := Stand.of_body Bd
  have e0 : s₁.heap = h0 := by rw [← hh, Bd.state]; rfl
  have N0 := Fr.nil n0
  have pre0 : ∀ t, Steps p.tables e below (s₁.setTop (mkF m 0 #[.val (.int p1), .val (.int p2), .val (.int p3), .val (.int p4), .unset, .unset, .unset, .unset, .unset, .unset, .unset, .unset, .unset, .unset, .unset, .unset, .unset, .unset] [])) t → Steps p.tables e below (s₁.setTop (entryFrame m #[(.int p1), (.int p2), (.int p3), (.int p4)] maxLocals)) t := fun t k => castTop (ef_0 m p1 p2 p3 p4) k
  obtain ⟨T5, h5, X5, e5, E5, A5, D5, -, st5⟩ := newO X0 hx hZ hown (hw _ (List.mem_of_getElem? (i := 0) rfl)) (hw _ (List.mem_of_getElem? (i := 1) rfl)) (hw _ (List.mem_of_getElem? (i := 2) rfl)) e0 (g := (mkF m 5 #[.val (.int p1), .val (.int p2), .val (.int p3), .val (.int p4), .val (.int (p4 &&& (3 : Int32))), .unset, .unset, .unset, .unset, .unset, .unset, .unset, .unset, .unset, .unset, .unset, .unset, .unset] [])) rfl (hb hby at_5) (by decide) (by decide)
  obtain ⟨b5, g5⟩ : ∃ z, z = h0.size := ⟨_, rfl⟩
  rw [← g5] at A5 D5 st5
  have F_min_b5 : Fld Z h5 b5 "io/watchring/sim/Tally" "min" "J" (.long (0 : Int64)) := D5 (Or.inl (hw _ (List.mem_of_getElem? (i := 11) rfl))) (ty := .long) (by decide)
  have F_max_b5 : Fld Z h5 b5 "io/watchring/sim/Tally" "max" "J" (.long (0 : Int64)) := D5 (Or.inl (hw _ (List.mem_of_getElem? (i := 14) rfl))) (ty := .long) (by decide)
  have F_count_b5 : Fld Z h5 b5 "io/watchring/sim/Tally" "count" "J" (.long (0 : Int64)) := D5 (Or.inl (hw _ (List.mem_of_getElem? (i := 21) rfl))) (ty := .long) (by decide)
  have F_total_b5 : Fld Z h5 b5 "io/watchring/sim/Tally" "total" "J" (.long (0 : Int64)) := D5 (Or.inl (hw _ (List.mem_of_getElem? (i := 23) rfl))) (ty := .long) (by decide)
  have E_b5 := A5
  have g_b5 : n0 ≤ b5 := Nat.le_trans Z0 (Nat.le_of_eq g5.symm)
  obtain ⟨_, _, ⟨T6, L6, k6, n6⟩, -, X6, ⟨Lc6, hQ6, l6, y6, z6⟩, st6⟩ := X5.specialBack hx (y := (⟨"io/watchring/sim/Tally", "<init>", "()V"⟩ : MethodName)) rfl hown (mvT hZ (hw _ (List.mem_of_getElem? (i := 3) rfl))) (mvT hZ (hw _ (List.mem_of_getElem? (i := 4) rfl))) (mvT hZ (hw _ (List.mem_of_getElem? (i := 5) rfl))) (by decide) (backOf (W := 1) (rm1 l Z a0 hw [] b5 _ _ h5 n0 (Nat.le_trans Z0 E5.1) E_b5 F_min_b5 F_max_b5 F_count_b5 F_total_b5 g_b5) hZ (hw _ (List.mem_of_getElem? (i := 5) rfl)) (hw _ (List.mem_of_getElem? (i := 2) rfl)) (by decide) (by decide)) (g := (mkF m 9 #[.val (.int p1), .val (.int p2), .val (.int p3), .val (.int p4), .val (.int (p4 &&& (3 : Int32))), .unset, .unset, .unset, .unset, .unset, .unset, .unset, .unset, .unset, .unset, .unset, .unset, .unset] [(.ref b5), (.ref b5)])) rfl (by rw [hml]; rfl) (Steps.refl _) (a := b5) (argsL := []) (rest := [(.ref b5)]) (lenOf pd_0_0 rfl) rfl (by show 2 * 0 + _ ≤ _; exact Nat.le_of_eq rfl) (hb hby at_9) (fun _ _ => ⟨rfl, e5, (by decide : 1 + 0 ≤ _), (by decide : 4 + 0 ≤ _)⟩)
  dsimp only [Pt.U, Pt.locs, Pt.cells, Pt.slots] at X6 l6 y6 z6 st6 hQ6
  subst l6 y6 z6
  obtain ⟨rfl, N6q, Ty6⟩ := hQ6
  obtain ⟨mn6, mx6, Tz6⟩ := id Ty6
  have N6 := Fr.app N0 N6q
  obtain ⟨cq7, kq7, q7a, q7b, q7c⟩ := isOf hZ rfl Tz6.1
  obtain ⟨_, _, ⟨T7, L7, k7, n7⟩, -, X7, ⟨Lc7, hQ7, l7, y7, z7⟩, st7⟩ := X6.virtualBack hx (y := (⟨"io/watchring/sim/Tally", "add", "(J)V"⟩ : MethodName)) (z := (⟨"io/watchring/sim/Tally", "add", "(J)V"⟩ : MethodName)) hown (mvT hZ (hw _ (List.mem_of_getElem? (i := 15) rfl))) (mvT hZ (hw _ (List.mem_of_getElem? (i := 16) rfl))) (notFace_of_selects (args := #[]) (mvT hZ (hw _ (List.mem_of_getElem? (i := 18) rfl)))) (mvT hZ (hw _ (List.mem_of_getElem? (i := 18) rfl))) (mvT hZ (hw _ (List.mem_of_getElem? (i := 17) rfl))) (by decide) (backOf (W := 0) (rm3 l Z a0 hw [] b5 (p1.toInt64) (0 : Int64) (0 : Int64) (1 : Int64) (p1.toInt64) T6.heap n0 (Nat.le_trans g_b5 (Nat.le_of_lt Tz6.1.lt)) Ty6 g_b5 (by decide) (Int64.zero_add _).symm) hZ (hw _ (List.mem_of_getElem? (i := 19) rfl)) (hw _ (List.mem_of_getElem? (i := 2) rfl)) (by decide) (by decide)) q7a q7c (g := (mkF m 24 #[.val (.int p1), .val (.int p2), .val (.int p3), .val (.int p4), .val (.int (p4 &&& (3 : Int32))), .val (.ref b5), .unset, .unset, .unset, .unset, .unset, .unset, .unset, .unset, .unset, .unset, .unset, .unset] [(.long (p1.toInt64)), (.ref b5)])) rfl (by rw [hml]; rfl) (Steps.refl _) (argsL := [(.long (p1.toInt64))]) (rest := []) (lenOf pd_0_1 rfl) rfl (by show 2 * 0 + _ ≤ _; exact Nat.le_of_eq rfl) (hb hby at_24) (fun _ _ => ⟨rfl, rfl, (by decide : 1 + 0 ≤ _), (by decide : 4 + 0 ≤ _)⟩)
  dsimp only [Pt.U, Pt.locs, Pt.cells, Pt.slots] at X7 l7 y7 z7 st7 hQ7
  subst l7 y7 z7
  obtain ⟨rfl, N7q, Ty7⟩ := hQ7
  obtain ⟨mn7, mx7, Tz7⟩ := id Ty7
  have N7 := Fr.app N6 N7q
  obtain ⟨cq8, kq8, q8a, q8b, q8c⟩ := isOf hZ rfl Tz7.1
  obtain ⟨_, _, ⟨T8, L8, k8, n8⟩, -, X8, ⟨Lc8, hQ8, l8, y8, z8⟩, st8⟩ := X7.virtualBack hx (y := (⟨"io/watchring/sim/Tally", "add", "(J)V"⟩ : MethodName)) (z := (⟨"io/watchring/sim/Tally", "add", "(J)V"⟩ : MethodName)) hown (mvT hZ (hw _ (List.mem_of_getElem? (i := 15) rfl))) (mvT hZ (hw _ (List.mem_of_getElem? (i := 16) rfl))) (notFace_of_selects (args := #[]) (mvT hZ (hw _ (List.mem_of_getElem? (i := 18) rfl)))) (mvT hZ (hw _ (List.mem_of_getElem? (i := 18) rfl))) (mvT hZ (hw _ (List.mem_of_getElem? (i := 17) rfl))) (by decide) (backOf (W := 0) (rm3 l Z a0 hw [] b5 (p2.toInt64) (1 : Int64) (p1.toInt64) (2 : Int64) ((p1.toInt64) + (p2.toInt64)) T7.heap n0 (Nat.le_trans g_b5 (Nat.le_of_lt Tz7.1.lt)) Ty7 g_b5 (by decide) rfl) hZ (hw _ (List.mem_of_getElem? (i := 19) rfl)) (hw _ (List.mem_of_getElem? (i := 2) rfl)) (by decide) (by decide)) q8a q8c (g := (mkF m 37 #[.val (.int p1), .val (.int p2), .val (.int p3), .val (.int p4), .val (.int (p4 &&& (3 : Int32))), .val (.ref b5), .unset, .unset, .unset, .unset, .unset, .unset, .unset, .unset, .unset, .unset, .unset, .unset] [(.long (p2.toInt64)), (.ref b5)])) rfl (by rw [hml]; rfl) (Steps.refl _) (argsL := [(.long (p2.toInt64))]) (rest := []) (lenOf pd_0_1 rfl) rfl (by show 2 * 0 + _ ≤ _; exact Nat.le_of_eq rfl) (hb hby at_37) (fun _ _ => ⟨rfl, rfl, (by decide : 1 + 0 ≤ _), (by decide : 4 + 0 ≤ _)⟩)
  dsimp only [Pt.U, Pt.locs, Pt.cells, Pt.slots] at X8 l8 y8 z8 st8 hQ8
  subst l8 y8 z8
  obtain ⟨rfl, N8q, Ty8⟩ := hQ8
  obtain ⟨mn8, mx8, Tz8⟩ := id Ty8
  have N8 := Fr.app N7 N8q
  obtain ⟨cq9, kq9, q9a, q9b, q9c⟩ := isOf hZ rfl Tz8.1
  obtain ⟨_, _, ⟨T9, L9, k9, n9⟩, -, X9, ⟨Lc9, hQ9, l9, y9, z9⟩, st9⟩ := X8.virtualBack hx (y := (⟨"io/watchring/sim/Tally", "add", "(J)V"⟩ : MethodName)) (z := (⟨"io/watchring/sim/Tally", "add", "(J)V"⟩ : MethodName)) hown (mvT hZ (hw _ (List.mem_of_getElem? (i := 15) rfl))) (mvT hZ (hw _ (List.mem_of_getElem? (i := 16) rfl))) (notFace_of_selects (args := #[]) (mvT hZ (hw _ (List.mem_of_getElem? (i := 18) rfl)))) (mvT hZ (hw _ (List.mem_of_getElem? (i := 18) rfl))) (mvT hZ (hw _ (List.mem_of_getElem? (i := 17) rfl))) (by decide) (backOf (W := 0) (rm3 l Z a0 hw [] b5 (p3.toInt64) (2 : Int64) ((p1.toInt64) + (p2.toInt64)) (3 : Int64) (((p1.toInt64) + (p2.toInt64)) + (p3.toInt64)) T8.heap n0 (Nat.le_trans g_b5 (Nat.le_of_lt Tz8.1.lt)) Ty8 g_b5 (by decide) rfl) hZ (hw _ (List.mem_of_getElem? (i := 19) rfl)) (hw _ (List.mem_of_getElem? (i := 2) rfl)) (by decide) (by decide)) q9a q9c (g := (mkF m 50 #[.val (.int p1), .val (.int p2), .val (.int p3), .val (.int p4), .val (.int (p4 &&& (3 : Int32))), .val (.ref b5), .unset, .unset, .unset, .unset, .unset, .unset, .unset, .unset, .unset, .unset, .unset, .unset] [(.long (p3.toInt64)), (.ref b5)])) rfl (by rw [hml]; rfl) (Steps.refl _) (argsL := [(.long (p3.toInt64))]) (rest := []) (lenOf pd_0_1 rfl) rfl (by show 2 * 0 + _ ≤ _; exact Nat.le_of_eq rfl) (hb hby at_50) (fun _ _ => ⟨rfl, rfl, (by decide : 1 + 0 ≤ _), (by decide : 4 + 0 ≤ _)⟩)
  dsimp only [Pt.U, Pt.locs, Pt.cells, Pt.slots] at X9 l9 y9 z9 st9 hQ9
  subst l9 y9 z9
  obtain ⟨rfl, N9q, Ty9⟩ := hQ9
  obtain ⟨mn9, mx9, Tz9⟩ := id Ty9
  have N9 := Fr.app N8 N9q
  obtain ⟨cq10, kq10, q10a, q10b, q10c⟩ := isOf hZ rfl Tz9.1
  obtain ⟨_, _, ⟨T10, L10, k10, n10⟩, -, X10, ⟨Lc10, hQ10, l10, y10, z10⟩, st10⟩ := X9.virtualBack hx (y := (⟨"io/watchring/sim/Tally", "mean", "()D"⟩ : MethodName)) (z := (⟨"io/watchring/sim/Tally", "mean", "()D"⟩ : MethodName)) hown (mvT hZ (hw _ (List.mem_of_getElem? (i := 31) rfl))) (mvT hZ (hw _ (List.mem_of_getElem? (i := 32) rfl))) (notFace_of_selects (args := #[]) (mvT hZ (hw _ (List.mem_of_getElem? (i := 34) rfl)))) (mvT hZ (hw _ (List.mem_of_getElem? (i := 34) rfl))) (mvT hZ (hw _ (List.mem_of_getElem? (i := 33) rfl))) (by decide) (backOf (W := 0) (rm6t l Z a0 hw [] b5 (3 : Int64) (((p1.toInt64) + (p2.toInt64)) + (p3.toInt64)) T9.heap n0 (Nat.le_trans g_b5 (Nat.le_of_lt Tz9.1.lt)) Ty9 hm (by decide)) hZ (hw _ (List.mem_of_getElem? (i := 35) rfl)) (hw _ (List.mem_of_getElem? (i := 2) rfl)) (by decide) (by decide)) q10a q10c (g := (mkF m 55 #[.val (.int p1), .val (.int p2), .val (.int p3), .val (.int p4), .val (.int (p4 &&& (3 : Int32))), .val (.ref b5), .unset, .unset, .unset, .unset, .unset, .unset, .unset, .unset, .unset, .unset, .unset, .unset] [(.ref b5)])) rfl (by rw [hml]; rfl) (Steps.refl _) (argsL := []) (rest := []) (lenOf pd_0_3 rfl) rfl (by show 2 * 0 + _ ≤ _; exact Nat.le_of_eq rfl) (hb hby at_55) (fun _ _ => ⟨rfl, rfl, (by decide : 1 + 0 ≤ _), (by decide : 4 + 0 ≤ _)⟩)
  dsimp only [Pt.U, Pt.locs, Pt.cells, Pt.slots] at X10 l10 y10 z10 st10 hQ10
  subst l10 y10 z10
  obtain ⟨rfl, N10q, e10⟩ := hQ10
  have N10 := Fr.app N9 N10q
  obtain ⟨fs, hr, hrun, hended, hW, hsame⟩ := X10.leave (v := some (.int (1 : Int32))) (fun h => by rw [Bd.returns] at h; cases h)
  refine ⟨_, _, pre0 _ ?_, hrun, hended, _, _, rfl, ?_, ⟨_, rfl⟩, hW, hsame.mono (by decide) (by decide)⟩
  · show Steps p.tables e below (s₁.setTop (mkF m 0 #[.val (.int p1), .val (.int p2), .val (.int p3), .val (.int p4), .unset, .unset, .unset, .unset, .unset, .unset, .unset, .unset, .unset, .unset, .unset, .unset, .unset, .unset] [])) _
    refine XS.iloadN X0.here hx rfl (hb hby at_0) rfl ?_
    show Steps p.tables e below (s₁.setTop (mkF m 1 #[.val (.int p1), .val (.int p2), .val (.int p3), .val (.int p4), .unset, .unset, .unset, .unset, .unset, .unset, .unset, .unset, .unset, .unset, .unset, .unset, .unset, .unset] [(.int p4)])) _
    refine XS.iconst X0.here hx rfl (hb hby at_1) ?_
    show Steps p.tables e below (s₁.setTop (mkF m 2 #[.val (.int p1), .val (.int p2), .val (.int p3), .val (.int p4), .unset, .unset, .unset, .unset, .unset, .unset, .unset, .unset, .unset, .unset, .unset, .unset, .unset, .unset] [(.int (3 : Int32)), (.int p4)])) _
    refine XS.iand X0.here hx rfl (hb hby at_2) rfl ?_
    show Steps p.tables e below (s₁.setTop (mkF m 3 #[.val (.int p1), .val (.int p2), .val (.int p3), .val (.int p4), .unset, .unset, .unset, .unset, .unset, .unset, .unset, .unset, .unset, .unset, .unset, .unset, .unset, .unset] [(.int (p4 &&& (3 : Int32)))])) _
    refine XS.istore X0.here hx rfl (hb hby at_3) rfl (l' := #[.val (.int p1), .val (.int p2), .val (.int p3), .val (.int p4), .val (.int (p4 &&& (3 : Int32))), .unset, .unset, .unset, .unset, .unset, .unset, .unset, .unset, .unset, .unset, .unset, .unset, .unset]) rfl ?_
    show Steps p.tables e below (s₁.setTop (mkF m 5 #[.val (.int p1), .val (.int p2), .val (.int p3), .val (.int p4), .val (.int (p4 &&& (3 : Int32))), .unset, .unset, .unset, .unset, .unset, .unset, .unset, .unset, .unset, .unset, .unset, .unset, .unset] [])) _
    refine st5 _ ?_
    show Steps p.tables e below (T5.setTop (mkF m 8 #[.val (.int p1), .val (.int p2), .val (.int p3), .val (.int p4), .val (.int (p4 &&& (3 : Int32))), .unset, .unset, .unset, .unset, .unset, .unset, .unset, .unset, .unset, .unset, .unset, .unset, .unset] [(.ref b5)])) _
    refine XS.dup X5.here hx rfl (hb hby at_8) rfl rfl ?_
    show Steps p.tables e below (T5.setTop (mkF m 9 #[.val (.int p1), .val (.int p2), .val (.int p3), .val (.int p4), .val (.int (p4 &&& (3 : Int32))), .unset, .unset, .unset, .unset, .unset, .unset, .unset, .unset, .unset, .unset, .unset, .unset, .unset] [(.ref b5), (.ref b5)])) _
    refine st6.trans ?_
    show Steps p.tables e below (T6.setTop (mkF m 12 #[.val (.int p1), .val (.int p2), .val (.int p3), .val (.int p4), .val (.int (p4 &&& (3 : Int32))), .unset, .unset, .unset, .unset, .unset, .unset, .unset, .unset, .unset, .unset, .unset, .unset, .unset] [(.ref b5)])) _
    refine XS.astore X6.here hx rfl (hb hby at_12) rfl rfl (l' := #[.val (.int p1), .val (.int p2), .val (.int p3), .val (.int p4), .val (.int (p4 &&& (3 : Int32))), .val (.ref b5), .unset, .unset, .unset, .unset, .unset, .unset, .unset, .unset, .unset, .unset, .unset, .unset]) rfl ?_
    show Steps p.tables e below (T6.setTop (mkF m 14 #[.val (.int p1), .val (.int p2), .val (.int p3), .val (.int p4), .val (.int (p4 &&& (3 : Int32))), .val (.ref b5), .unset, .unset, .unset, .unset, .unset, .unset, .unset, .unset, .unset, .unset, .unset, .unset] [])) _
    refine XS.iload X6.here hx rfl (hb hby at_14) rfl ?_
    show Steps p.tables e below (T6.setTop (mkF m 16 #[.val (.int p1), .val (.int p2), .val (.int p3), .val (.int p4), .val (.int (p4 &&& (3 : Int32))), .val (.ref b5), .unset, .unset, .unset, .unset, .unset, .unset, .unset, .unset, .unset, .unset, .unset, .unset] [(.int (p4 &&& (3 : Int32)))])) _
    refine XS.iconst X6.here hx rfl (hb hby at_16) ?_
    show Steps p.tables e below (T6.setTop (mkF m 17 #[.val (.int p1), .val (.int p2), .val (.int p3), .val (.int p4), .val (.int (p4 &&& (3 : Int32))), .val (.ref b5), .unset, .unset, .unset, .unset, .unset, .unset, .unset, .unset, .unset, .unset, .unset, .unset] [(.int (1 : Int32)), (.int (p4 &&& (3 : Int32)))])) _
    refine XS.icmpNo X6.here hx rfl (hb hby at_17) rfl (flt hc17).1 ?_
    show Steps p.tables e below (T6.setTop (mkF m 20 #[.val (.int p1), .val (.int p2), .val (.int p3), .val (.int p4), .val (.int (p4 &&& (3 : Int32))), .val (.ref b5), .unset, .unset, .unset, .unset, .unset, .unset, .unset, .unset, .unset, .unset, .unset, .unset] [])) _
    refine XS.aload X6.here hx rfl (hb hby at_20) rfl rfl ?_
    show Steps p.tables e below (T6.setTop (mkF m 22 #[.val (.int p1), .val (.int p2), .val (.int p3), .val (.int p4), .val (.int (p4 &&& (3 : Int32))), .val (.ref b5), .unset, .unset, .unset, .unset, .unset, .unset, .unset, .unset, .unset, .unset, .unset, .unset] [(.ref b5)])) _
    refine XS.iloadN X6.here hx rfl (hb hby at_22) rfl ?_
    show Steps p.tables e below (T6.setTop (mkF m 23 #[.val (.int p1), .val (.int p2), .val (.int p3), .val (.int p4), .val (.int (p4 &&& (3 : Int32))), .val (.ref b5), .unset, .unset, .unset, .unset, .unset, .unset, .unset, .unset, .unset, .unset, .unset, .unset] [(.int p1), (.ref b5)])) _
    refine XS.i2l X6.here hx rfl (hb hby at_23) rfl ?_
    show Steps p.tables e below (T6.setTop (mkF m 24 #[.val (.int p1), .val (.int p2), .val (.int p3), .val (.int p4), .val (.int (p4 &&& (3 : Int32))), .val (.ref b5), .unset, .unset, .unset, .unset, .unset, .unset, .unset, .unset, .unset, .unset, .unset, .unset] [(.long (p1.toInt64)), (.ref b5)])) _
    refine st7.trans ?_
    show Steps p.tables e below (T7.setTop (mkF m 27 #[.val (.int p1), .val (.int p2), .val (.int p3), .val (.int p4), .val (.int (p4 &&& (3 : Int32))), .val (.ref b5), .unset, .unset, .unset, .unset, .unset, .unset, .unset, .unset, .unset, .unset, .unset, .unset] [])) _
    refine XS.iload X7.here hx rfl (hb hby at_27) rfl ?_
    show Steps p.tables e below (T7.setTop (mkF m 29 #[.val (.int p1), .val (.int p2), .val (.int p3), .val (.int p4), .val (.int (p4 &&& (3 : Int32))), .val (.ref b5), .unset, .unset, .unset, .unset, .unset, .unset, .unset, .unset, .unset, .unset, .unset, .unset] [(.int (p4 &&& (3 : Int32)))])) _
    refine XS.iconst X7.here hx rfl (hb hby at_29) ?_
    show Steps p.tables e below (T7.setTop (mkF m 30 #[.val (.int p1), .val (.int p2), .val (.int p3), .val (.int p4), .val (.int (p4 &&& (3 : Int32))), .val (.ref b5), .unset, .unset, .unset, .unset, .unset, .unset, .unset, .unset, .unset, .unset, .unset, .unset] [(.int (2 : Int32)), (.int (p4 &&& (3 : Int32)))])) _
    refine XS.icmpNo X7.here hx rfl (hb hby at_30) rfl (flt hc30).1 ?_
    show Steps p.tables e below (T7.setTop (mkF m 33 #[.val (.int p1), .val (.int p2), .val (.int p3), .val (.int p4), .val (.int (p4 &&& (3 : Int32))), .val (.ref b5), .unset, .unset, .unset, .unset, .unset, .unset, .unset, .unset, .unset, .unset, .unset, .unset] [])) _
    refine XS.aload X7.here hx rfl (hb hby at_33) rfl rfl ?_
    show Steps p.tables e below (T7.setTop (mkF m 35 #[.val (.int p1), .val (.int p2), .val (.int p3), .val (.int p4), .val (.int (p4 &&& (3 : Int32))), .val (.ref b5), .unset, .unset, .unset, .unset, .unset, .unset, .unset, .unset, .unset, .unset, .unset, .unset] [(.ref b5)])) _
    refine XS.iloadN X7.here hx rfl (hb hby at_35) rfl ?_
    show Steps p.tables e below (T7.setTop (mkF m 36 #[.val (.int p1), .val (.int p2), .val (.int p3), .val (.int p4), .val (.int (p4 &&& (3 : Int32))), .val (.ref b5), .unset, .unset, .unset, .unset, .unset, .unset, .unset, .unset, .unset, .unset, .unset, .unset] [(.int p2), (.ref b5)])) _
    refine XS.i2l X7.here hx rfl (hb hby at_36) rfl ?_
    show Steps p.tables e below (T7.setTop (mkF m 37 #[.val (.int p1), .val (.int p2), .val (.int p3), .val (.int p4), .val (.int (p4 &&& (3 : Int32))), .val (.ref b5), .unset, .unset, .unset, .unset, .unset, .unset, .unset, .unset, .unset, .unset, .unset, .unset] [(.long (p2.toInt64)), (.ref b5)])) _
    refine st8.trans ?_
    show Steps p.tables e below (T8.setTop (mkF m 40 #[.val (.int p1), .val (.int p2), .val (.int p3), .val (.int p4), .val (.int (p4 &&& (3 : Int32))), .val (.ref b5), .unset, .unset, .unset, .unset, .unset, .unset, .unset, .unset, .unset, .unset, .unset, .unset] [])) _
    refine XS.iload X8.here hx rfl (hb hby at_40) rfl ?_
    show Steps p.tables e below (T8.setTop (mkF m 42 #[.val (.int p1), .val (.int p2), .val (.int p3), .val (.int p4), .val (.int (p4 &&& (3 : Int32))), .val (.ref b5), .unset, .unset, .unset, .unset, .unset, .unset, .unset, .unset, .unset, .unset, .unset, .unset] [(.int (p4 &&& (3 : Int32)))])) _
    refine XS.iconst X8.here hx rfl (hb hby at_42) ?_
    show Steps p.tables e below (T8.setTop (mkF m 43 #[.val (.int p1), .val (.int p2), .val (.int p3), .val (.int p4), .val (.int (p4 &&& (3 : Int32))), .val (.ref b5), .unset, .unset, .unset, .unset, .unset, .unset, .unset, .unset, .unset, .unset, .unset, .unset] [(.int (3 : Int32)), (.int (p4 &&& (3 : Int32)))])) _
    refine XS.icmpNo X8.here hx rfl (hb hby at_43) rfl (flt hc43).1 ?_
    show Steps p.tables e below (T8.setTop (mkF m 46 #[.val (.int p1), .val (.int p2), .val (.int p3), .val (.int p4), .val (.int (p4 &&& (3 : Int32))), .val (.ref b5), .unset, .unset, .unset, .unset, .unset, .unset, .unset, .unset, .unset, .unset, .unset, .unset] [])) _
    refine XS.aload X8.here hx rfl (hb hby at_46) rfl rfl ?_
    show Steps p.tables e below (T8.setTop (mkF m 48 #[.val (.int p1), .val (.int p2), .val (.int p3), .val (.int p4), .val (.int (p4 &&& (3 : Int32))), .val (.ref b5), .unset, .unset, .unset, .unset, .unset, .unset, .unset, .unset, .unset, .unset, .unset, .unset] [(.ref b5)])) _
    refine XS.iloadN X8.here hx rfl (hb hby at_48) rfl ?_
    show Steps p.tables e below (T8.setTop (mkF m 49 #[.val (.int p1), .val (.int p2), .val (.int p3), .val (.int p4), .val (.int (p4 &&& (3 : Int32))), .val (.ref b5), .unset, .unset, .unset, .unset, .unset, .unset, .unset, .unset, .unset, .unset, .unset, .unset] [(.int p3), (.ref b5)])) _
    refine XS.i2l X8.here hx rfl (hb hby at_49) rfl ?_
    show Steps p.tables e below (T8.setTop (mkF m 50 #[.val (.int p1), .val (.int p2), .val (.int p3), .val (.int p4), .val (.int (p4 &&& (3 : Int32))), .val (.ref b5), .unset, .unset, .unset, .unset, .unset, .unset, .unset, .unset, .unset, .unset, .unset, .unset] [(.long (p3.toInt64)), (.ref b5)])) _
    refine st9.trans ?_
    show Steps p.tables e below (T9.setTop (mkF m 53 #[.val (.int p1), .val (.int p2), .val (.int p3), .val (.int p4), .val (.int (p4 &&& (3 : Int32))), .val (.ref b5), .unset, .unset, .unset, .unset, .unset, .unset, .unset, .unset, .unset, .unset, .unset, .unset] [])) _
    refine XS.aload X9.here hx rfl (hb hby at_53) rfl rfl ?_
    show Steps p.tables e below (T9.setTop (mkF m 55 #[.val (.int p1), .val (.int p2), .val (.int p3), .val (.int p4), .val (.int (p4 &&& (3 : Int32))), .val (.ref b5), .unset, .unset, .unset, .unset, .unset, .unset, .unset, .unset, .unset, .unset, .unset, .unset] [(.ref b5)])) _
    refine st10.trans ?_
    show Steps p.tables e below (T10.setTop (mkF m 58 #[.val (.int p1), .val (.int p2), .val (.int p3), .val (.int p4), .val (.int (p4 &&& (3 : Int32))), .val (.ref b5), .unset, .unset, .unset, .unset, .unset, .unset, .unset, .unset, .unset, .unset, .unset, .unset] [(.double (FP.ddiv (FP.l2d (((p1.toInt64) + (p2.toInt64)) + (p3.toInt64))) (FP.l2d (3 : Int64))))])) _
    refine XS.dstore X10.here hx rfl (hb hby at_58) rfl (l' := #[.val (.int p1), .val (.int p2), .val (.int p3), .val (.int p4), .val (.int (p4 &&& (3 : Int32))), .val (.ref b5), .val (.double (FP.ddiv (FP.l2d (((p1.toInt64) + (p2.toInt64)) + (p3.toInt64))) (FP.l2d (3 : Int64)))), .second, .unset, .unset, .unset, .unset, .unset, .unset, .unset, .unset, .unset, .unset]) rfl ?_
    show Steps p.tables e below (T10.setTop (mkF m 60 #[.val (.int p1), .val (.int p2), .val (.int p3), .val (.int p4), .val (.int (p4 &&& (3 : Int32))), .val (.ref b5), .val (.double (FP.ddiv (FP.l2d (((p1.toInt64) + (p2.toInt64)) + (p3.toInt64))) (FP.l2d (3 : Int64)))), .second, .unset, .unset, .unset, .unset, .unset, .unset, .unset, .unset, .unset, .unset] [])) _
    refine XS.iload X10.here hx rfl (hb hby at_60) rfl ?_
    show Steps p.tables e below (T10.setTop (mkF m 62 #[.val (.int p1), .val (.int p2), .val (.int p3), .val (.int p4), .val (.int (p4 &&& (3 : Int32))), .val (.ref b5), .val (.double (FP.ddiv (FP.l2d (((p1.toInt64) + (p2.toInt64)) + (p3.toInt64))) (FP.l2d (3 : Int64)))), .second, .unset, .unset, .unset, .unset, .unset, .unset, .unset, .unset, .unset, .unset] [(.int (p4 &&& (3 : Int32)))])) _
    refine XS.ifYes X10.here hx rfl (pc0 := 62) (pc' := 79) rfl (hb hby at_62) rfl ((if0 _ _).trans (feq hc62).2) (by decide) (by decide) ?_
    show Steps p.tables e below (T10.setTop (mkF m 79 #[.val (.int p1), .val (.int p2), .val (.int p3), .val (.int p4), .val (.int (p4 &&& (3 : Int32))), .val (.ref b5), .val (.double (FP.ddiv (FP.l2d (((p1.toInt64) + (p2.toInt64)) + (p3.toInt64))) (FP.l2d (3 : Int64)))), .second, .unset, .unset, .unset, .unset, .unset, .unset, .unset, .unset, .unset, .unset] [])) _
    refine XS.iload X10.here hx rfl (hb hby at_79) rfl ?_
    show Steps p.tables e below (T10.setTop (mkF m 81 #[.val (.int p1), .val (.int p2), .val (.int p3), .val (.int p4), .val (.int (p4 &&& (3 : Int32))), .val (.ref b5), .val (.double (FP.ddiv (FP.l2d (((p1.toInt64) + (p2.toInt64)) + (p3.toInt64))) (FP.l2d (3 : Int64)))), .second, .unset, .unset, .unset, .unset, .unset, .unset, .unset, .unset, .unset, .unset] [(.int (p4 &&& (3 : Int32)))])) _
    refine XS.iconst X10.here hx rfl (hb hby at_81) ?_
    show Steps p.tables e below (T10.setTop (mkF m 82 #[.val (.int p1), .val (.int p2), .val (.int p3), .val (.int p4), .val (.int (p4 &&& (3 : Int32))), .val (.ref b5), .val (.double (FP.ddiv (FP.l2d (((p1.toInt64) + (p2.toInt64)) + (p3.toInt64))) (FP.l2d (3 : Int64)))), .second, .unset, .unset, .unset, .unset, .unset, .unset, .unset, .unset, .unset, .unset] [(.int (1 : Int32)), (.int (p4 &&& (3 : Int32)))])) _
    refine XS.icmpYes X10.here hx rfl (pc0 := 82) (pc' := 99) rfl (hb hby at_82) rfl (feq hc82).2 (by decide) (by decide) ?_
    show Steps p.tables e below (T10.setTop (mkF m 99 #[.val (.int p1), .val (.int p2), .val (.int p3), .val (.int p4), .val (.int (p4 &&& (3 : Int32))), .val (.ref b5), .val (.double (FP.ddiv (FP.l2d (((p1.toInt64) + (p2.toInt64)) + (p3.toInt64))) (FP.l2d (3 : Int64)))), .second, .unset, .unset, .unset, .unset, .unset, .unset, .unset, .unset, .unset, .unset] [])) _
    refine XS.iload X10.here hx rfl (hb hby at_99) rfl ?_
    show Steps p.tables e below (T10.setTop (mkF m 101 #[.val (.int p1), .val (.int p2), .val (.int p3), .val (.int p4), .val (.int (p4 &&& (3 : Int32))), .val (.ref b5), .val (.double (FP.ddiv (FP.l2d (((p1.toInt64) + (p2.toInt64)) + (p3.toInt64))) (FP.l2d (3 : Int64)))), .second, .unset, .unset, .unset, .unset, .unset, .unset, .unset, .unset, .unset, .unset] [(.int (p4 &&& (3 : Int32)))])) _
    refine XS.iconst X10.here hx rfl (hb hby at_101) ?_
    show Steps p.tables e below (T10.setTop (mkF m 102 #[.val (.int p1), .val (.int p2), .val (.int p3), .val (.int p4), .val (.int (p4 &&& (3 : Int32))), .val (.ref b5), .val (.double (FP.ddiv (FP.l2d (((p1.toInt64) + (p2.toInt64)) + (p3.toInt64))) (FP.l2d (3 : Int64)))), .second, .unset, .unset, .unset, .unset, .unset, .unset, .unset, .unset, .unset, .unset] [(.int (2 : Int32)), (.int (p4 &&& (3 : Int32)))])) _
    refine XS.icmpYes X10.here hx rfl (pc0 := 102) (pc' := 131) rfl (hb hby at_102) rfl (feq hc102).2 (by decide) (by decide) ?_
    show Steps p.tables e below (T10.setTop (mkF m 131 #[.val (.int p1), .val (.int p2), .val (.int p3), .val (.int p4), .val (.int (p4 &&& (3 : Int32))), .val (.ref b5), .val (.double (FP.ddiv (FP.l2d (((p1.toInt64) + (p2.toInt64)) + (p3.toInt64))) (FP.l2d (3 : Int64)))), .second, .unset, .unset, .unset, .unset, .unset, .unset, .unset, .unset, .unset, .unset] [])) _
    refine XS.iloadN X10.here hx rfl (hb hby at_131) rfl ?_
    show Steps p.tables e below (T10.setTop (mkF m 132 #[.val (.int p1), .val (.int p2), .val (.int p3), .val (.int p4), .val (.int (p4 &&& (3 : Int32))), .val (.ref b5), .val (.double (FP.ddiv (FP.l2d (((p1.toInt64) + (p2.toInt64)) + (p3.toInt64))) (FP.l2d (3 : Int64)))), .second, .unset, .unset, .unset, .unset, .unset, .unset, .unset, .unset, .unset, .unset] [(.int p1)])) _
    refine XS.i2l X10.here hx rfl (hb hby at_132) rfl ?_
    show Steps p.tables e below (T10.setTop (mkF m 133 #[.val (.int p1), .val (.int p2), .val (.int p3), .val (.int p4), .val (.int (p4 &&& (3 : Int32))), .val (.ref b5), .val (.double (FP.ddiv (FP.l2d (((p1.toInt64) + (p2.toInt64)) + (p3.toInt64))) (FP.l2d (3 : Int64)))), .second, .unset, .unset, .unset, .unset, .unset, .unset, .unset, .unset, .unset, .unset] [(.long (p1.toInt64))])) _
    refine XS.iloadN X10.here hx rfl (hb hby at_133) rfl ?_
    show Steps p.tables e below (T10.setTop (mkF m 134 #[.val (.int p1), .val (.int p2), .val (.int p3), .val (.int p4), .val (.int (p4 &&& (3 : Int32))), .val (.ref b5), .val (.double (FP.ddiv (FP.l2d (((p1.toInt64) + (p2.toInt64)) + (p3.toInt64))) (FP.l2d (3 : Int64)))), .second, .unset, .unset, .unset, .unset, .unset, .unset, .unset, .unset, .unset, .unset] [(.int p2), (.long (p1.toInt64))])) _
    refine XS.i2l X10.here hx rfl (hb hby at_134) rfl ?_
    show Steps p.tables e below (T10.setTop (mkF m 135 #[.val (.int p1), .val (.int p2), .val (.int p3), .val (.int p4), .val (.int (p4 &&& (3 : Int32))), .val (.ref b5), .val (.double (FP.ddiv (FP.l2d (((p1.toInt64) + (p2.toInt64)) + (p3.toInt64))) (FP.l2d (3 : Int64)))), .second, .unset, .unset, .unset, .unset, .unset, .unset, .unset, .unset, .unset, .unset] [(.long (p2.toInt64)), (.long (p1.toInt64))])) _
    refine XS.ladd X10.here hx rfl (hb hby at_135) rfl ?_
    show Steps p.tables e below (T10.setTop (mkF m 136 #[.val (.int p1), .val (.int p2), .val (.int p3), .val (.int p4), .val (.int (p4 &&& (3 : Int32))), .val (.ref b5), .val (.double (FP.ddiv (FP.l2d (((p1.toInt64) + (p2.toInt64)) + (p3.toInt64))) (FP.l2d (3 : Int64)))), .second, .unset, .unset, .unset, .unset, .unset, .unset, .unset, .unset, .unset, .unset] [(.long ((p1.toInt64) + (p2.toInt64)))])) _
    refine XS.iloadN X10.here hx rfl (hb hby at_136) rfl ?_
    show Steps p.tables e below (T10.setTop (mkF m 137 #[.val (.int p1), .val (.int p2), .val (.int p3), .val (.int p4), .val (.int (p4 &&& (3 : Int32))), .val (.ref b5), .val (.double (FP.ddiv (FP.l2d (((p1.toInt64) + (p2.toInt64)) + (p3.toInt64))) (FP.l2d (3 : Int64)))), .second, .unset, .unset, .unset, .unset, .unset, .unset, .unset, .unset, .unset, .unset] [(.int p3), (.long ((p1.toInt64) + (p2.toInt64)))])) _
    refine XS.i2l X10.here hx rfl (hb hby at_137) rfl ?_
    show Steps p.tables e below (T10.setTop (mkF m 138 #[.val (.int p1), .val (.int p2), .val (.int p3), .val (.int p4), .val (.int (p4 &&& (3 : Int32))), .val (.ref b5), .val (.double (FP.ddiv (FP.l2d (((p1.toInt64) + (p2.toInt64)) + (p3.toInt64))) (FP.l2d (3 : Int64)))), .second, .unset, .unset, .unset, .unset, .unset, .unset, .unset, .unset, .unset, .unset] [(.long (p3.toInt64)), (.long ((p1.toInt64) + (p2.toInt64)))])) _
    refine XS.ladd X10.here hx rfl (hb hby at_138) rfl ?_
    show Steps p.tables e below (T10.setTop (mkF m 139 #[.val (.int p1), .val (.int p2), .val (.int p3), .val (.int p4), .val (.int (p4 &&& (3 : Int32))), .val (.ref b5), .val (.double (FP.ddiv (FP.l2d (((p1.toInt64) + (p2.toInt64)) + (p3.toInt64))) (FP.l2d (3 : Int64)))), .second, .unset, .unset, .unset, .unset, .unset, .unset, .unset, .unset, .unset, .unset] [(.long (((p1.toInt64) + (p2.toInt64)) + (p3.toInt64)))])) _
    refine XS.lstore X10.here hx rfl (hb hby at_139) rfl (l' := #[.val (.int p1), .val (.int p2), .val (.int p3), .val (.int p4), .val (.int (p4 &&& (3 : Int32))), .val (.ref b5), .val (.double (FP.ddiv (FP.l2d (((p1.toInt64) + (p2.toInt64)) + (p3.toInt64))) (FP.l2d (3 : Int64)))), .second, .val (.long (((p1.toInt64) + (p2.toInt64)) + (p3.toInt64))), .second, .unset, .unset, .unset, .unset, .unset, .unset, .unset, .unset]) rfl ?_
    show Steps p.tables e below (T10.setTop (mkF m 141 #[.val (.int p1), .val (.int p2), .val (.int p3), .val (.int p4), .val (.int (p4 &&& (3 : Int32))), .val (.ref b5), .val (.double (FP.ddiv (FP.l2d (((p1.toInt64) + (p2.toInt64)) + (p3.toInt64))) (FP.l2d (3 : Int64)))), .second, .val (.long (((p1.toInt64) + (p2.toInt64)) + (p3.toInt64))), .second, .unset, .unset, .unset, .unset, .unset, .unset, .unset, .unset] [])) _
    refine XS.lload X10.here hx rfl (hb hby at_141) rfl ?_
    show Steps p.tables e below (T10.setTop (mkF m 143 #[.val (.int p1), .val (.int p2), .val (.int p3), .val (.int p4), .val (.int (p4 &&& (3 : Int32))), .val (.ref b5), .val (.double (FP.ddiv (FP.l2d (((p1.toInt64) + (p2.toInt64)) + (p3.toInt64))) (FP.l2d (3 : Int64)))), .second, .val (.long (((p1.toInt64) + (p2.toInt64)) + (p3.toInt64))), .second, .unset, .unset, .unset, .unset, .unset, .unset, .unset, .unset] [(.long (((p1.toInt64) + (p2.toInt64)) + (p3.toInt64)))])) _
    refine X10.ldc2Long hx hown (mvT hZ (hw _ (List.mem_of_getElem? (i := 38) rfl))) (g := (mkF m 143 #[.val (.int p1), .val (.int p2), .val (.int p3), .val (.int p4), .val (.int (p4 &&& (3 : Int32))), .val (.ref b5), .val (.double (FP.ddiv (FP.l2d (((p1.toInt64) + (p2.toInt64)) + (p3.toInt64))) (FP.l2d (3 : Int64)))), .second, .val (.long (((p1.toInt64) + (p2.toInt64)) + (p3.toInt64))), .second, .unset, .unset, .unset, .unset, .unset, .unset, .unset, .unset] [(.long (((p1.toInt64) + (p2.toInt64)) + (p3.toInt64)))])) rfl (hb hby at_143) _ ?_
    show Steps p.tables e below (T10.setTop (mkF m 146 #[.val (.int p1), .val (.int p2), .val (.int p3), .val (.int p4), .val (.int (p4 &&& (3 : Int32))), .val (.ref b5), .val (.double (FP.ddiv (FP.l2d (((p1.toInt64) + (p2.toInt64)) + (p3.toInt64))) (FP.l2d (3 : Int64)))), .second, .val (.long (((p1.toInt64) + (p2.toInt64)) + (p3.toInt64))), .second, .unset, .unset, .unset, .unset, .unset, .unset, .unset, .unset] [(.long (3 : Int64)), (.long (((p1.toInt64) + (p2.toInt64)) + (p3.toInt64)))])) _
    refine XS.ldiv X10.here hx rfl (hb hby at_146) rfl hnz146 ?_
    show Steps p.tables e below (T10.setTop (mkF m 147 #[.val (.int p1), .val (.int p2), .val (.int p3), .val (.int p4), .val (.int (p4 &&& (3 : Int32))), .val (.ref b5), .val (.double (FP.ddiv (FP.l2d (((p1.toInt64) + (p2.toInt64)) + (p3.toInt64))) (FP.l2d (3 : Int64)))), .second, .val (.long (((p1.toInt64) + (p2.toInt64)) + (p3.toInt64))), .second, .unset, .unset, .unset, .unset, .unset, .unset, .unset, .unset] [(.long ((((p1.toInt64) + (p2.toInt64)) + (p3.toInt64)) / (3 : Int64)))])) _
    refine XS.lstore X10.here hx rfl (hb hby at_147) rfl (l' := #[.val (.int p1), .val (.int p2), .val (.int p3), .val (.int p4), .val (.int (p4 &&& (3 : Int32))), .val (.ref b5), .val (.double (FP.ddiv (FP.l2d (((p1.toInt64) + (p2.toInt64)) + (p3.toInt64))) (FP.l2d (3 : Int64)))), .second, .val (.long (((p1.toInt64) + (p2.toInt64)) + (p3.toInt64))), .second, .val (.long ((((p1.toInt64) + (p2.toInt64)) + (p3.toInt64)) / (3 : Int64))), .second, .unset, .unset, .unset, .unset, .unset, .unset]) rfl ?_
    show Steps p.tables e below (T10.setTop (mkF m 149 #[.val (.int p1), .val (.int p2), .val (.int p3), .val (.int p4), .val (.int (p4 &&& (3 : Int32))), .val (.ref b5), .val (.double (FP.ddiv (FP.l2d (((p1.toInt64) + (p2.toInt64)) + (p3.toInt64))) (FP.l2d (3 : Int64)))), .second, .val (.long (((p1.toInt64) + (p2.toInt64)) + (p3.toInt64))), .second, .val (.long ((((p1.toInt64) + (p2.toInt64)) + (p3.toInt64)) / (3 : Int64))), .second, .unset, .unset, .unset, .unset, .unset, .unset] [])) _
    refine XS.lload X10.here hx rfl (hb hby at_149) rfl ?_
    show Steps p.tables e below (T10.setTop (mkF m 151 #[.val (.int p1), .val (.int p2), .val (.int p3), .val (.int p4), .val (.int (p4 &&& (3 : Int32))), .val (.ref b5), .val (.double (FP.ddiv (FP.l2d (((p1.toInt64) + (p2.toInt64)) + (p3.toInt64))) (FP.l2d (3 : Int64)))), .second, .val (.long (((p1.toInt64) + (p2.toInt64)) + (p3.toInt64))), .second, .val (.long ((((p1.toInt64) + (p2.toInt64)) + (p3.toInt64)) / (3 : Int64))), .second, .unset, .unset, .unset, .unset, .unset, .unset] [(.long (((p1.toInt64) + (p2.toInt64)) + (p3.toInt64)))])) _
    refine X10.ldc2Long hx hown (mvT hZ (hw _ (List.mem_of_getElem? (i := 38) rfl))) (g := (mkF m 151 #[.val (.int p1), .val (.int p2), .val (.int p3), .val (.int p4), .val (.int (p4 &&& (3 : Int32))), .val (.ref b5), .val (.double (FP.ddiv (FP.l2d (((p1.toInt64) + (p2.toInt64)) + (p3.toInt64))) (FP.l2d (3 : Int64)))), .second, .val (.long (((p1.toInt64) + (p2.toInt64)) + (p3.toInt64))), .second, .val (.long ((((p1.toInt64) + (p2.toInt64)) + (p3.toInt64)) / (3 : Int64))), .second, .unset, .unset, .unset, .unset, .unset, .unset] [(.long (((p1.toInt64) + (p2.toInt64)) + (p3.toInt64)))])) rfl (hb hby at_151) _ ?_
    show Steps p.tables e below (T10.setTop (mkF m 154 #[.val (.int p1), .val (.int p2), .val (.int p3), .val (.int p4), .val (.int (p4 &&& (3 : Int32))), .val (.ref b5), .val (.double (FP.ddiv (FP.l2d (((p1.toInt64) + (p2.toInt64)) + (p3.toInt64))) (FP.l2d (3 : Int64)))), .second, .val (.long (((p1.toInt64) + (p2.toInt64)) + (p3.toInt64))), .second, .val (.long ((((p1.toInt64) + (p2.toInt64)) + (p3.toInt64)) / (3 : Int64))), .second, .unset, .unset, .unset, .unset, .unset, .unset] [(.long (3 : Int64)), (.long (((p1.toInt64) + (p2.toInt64)) + (p3.toInt64)))])) _
    refine XS.lload X10.here hx rfl (hb hby at_154) rfl ?_
    show Steps p.tables e below (T10.setTop (mkF m 156 #[.val (.int p1), .val (.int p2), .val (.int p3), .val (.int p4), .val (.int (p4 &&& (3 : Int32))), .val (.ref b5), .val (.double (FP.ddiv (FP.l2d (((p1.toInt64) + (p2.toInt64)) + (p3.toInt64))) (FP.l2d (3 : Int64)))), .second, .val (.long (((p1.toInt64) + (p2.toInt64)) + (p3.toInt64))), .second, .val (.long ((((p1.toInt64) + (p2.toInt64)) + (p3.toInt64)) / (3 : Int64))), .second, .unset, .unset, .unset, .unset, .unset, .unset] [(.long ((((p1.toInt64) + (p2.toInt64)) + (p3.toInt64)) / (3 : Int64))), (.long (3 : Int64)), (.long (((p1.toInt64) + (p2.toInt64)) + (p3.toInt64)))])) _
    refine XS.lmul X10.here hx rfl (hb hby at_156) rfl ?_
    show Steps p.tables e below (T10.setTop (mkF m 157 #[.val (.int p1), .val (.int p2), .val (.int p3), .val (.int p4), .val (.int (p4 &&& (3 : Int32))), .val (.ref b5), .val (.double (FP.ddiv (FP.l2d (((p1.toInt64) + (p2.toInt64)) + (p3.toInt64))) (FP.l2d (3 : Int64)))), .second, .val (.long (((p1.toInt64) + (p2.toInt64)) + (p3.toInt64))), .second, .val (.long ((((p1.toInt64) + (p2.toInt64)) + (p3.toInt64)) / (3 : Int64))), .second, .unset, .unset, .unset, .unset, .unset, .unset] [(.long ((3 : Int64) * ((((p1.toInt64) + (p2.toInt64)) + (p3.toInt64)) / (3 : Int64)))), (.long (((p1.toInt64) + (p2.toInt64)) + (p3.toInt64)))])) _
    refine XS.lsub X10.here hx rfl (hb hby at_157) rfl ?_
    show Steps p.tables e below (T10.setTop (mkF m 158 #[.val (.int p1), .val (.int p2), .val (.int p3), .val (.int p4), .val (.int (p4 &&& (3 : Int32))), .val (.ref b5), .val (.double (FP.ddiv (FP.l2d (((p1.toInt64) + (p2.toInt64)) + (p3.toInt64))) (FP.l2d (3 : Int64)))), .second, .val (.long (((p1.toInt64) + (p2.toInt64)) + (p3.toInt64))), .second, .val (.long ((((p1.toInt64) + (p2.toInt64)) + (p3.toInt64)) / (3 : Int64))), .second, .unset, .unset, .unset, .unset, .unset, .unset] [(.long ((((p1.toInt64) + (p2.toInt64)) + (p3.toInt64)) - ((3 : Int64) * ((((p1.toInt64) + (p2.toInt64)) + (p3.toInt64)) / (3 : Int64)))))])) _
    refine XS.lstore X10.here hx rfl (hb hby at_158) rfl (l' := #[.val (.int p1), .val (.int p2), .val (.int p3), .val (.int p4), .val (.int (p4 &&& (3 : Int32))), .val (.ref b5), .val (.double (FP.ddiv (FP.l2d (((p1.toInt64) + (p2.toInt64)) + (p3.toInt64))) (FP.l2d (3 : Int64)))), .second, .val (.long (((p1.toInt64) + (p2.toInt64)) + (p3.toInt64))), .second, .val (.long ((((p1.toInt64) + (p2.toInt64)) + (p3.toInt64)) / (3 : Int64))), .second, .val (.long ((((p1.toInt64) + (p2.toInt64)) + (p3.toInt64)) - ((3 : Int64) * ((((p1.toInt64) + (p2.toInt64)) + (p3.toInt64)) / (3 : Int64))))), .second, .unset, .unset, .unset, .unset]) rfl ?_
    show Steps p.tables e below (T10.setTop (mkF m 160 #[.val (.int p1), .val (.int p2), .val (.int p3), .val (.int p4), .val (.int (p4 &&& (3 : Int32))), .val (.ref b5), .val (.double (FP.ddiv (FP.l2d (((p1.toInt64) + (p2.toInt64)) + (p3.toInt64))) (FP.l2d (3 : Int64)))), .second, .val (.long (((p1.toInt64) + (p2.toInt64)) + (p3.toInt64))), .second, .val (.long ((((p1.toInt64) + (p2.toInt64)) + (p3.toInt64)) / (3 : Int64))), .second, .val (.long ((((p1.toInt64) + (p2.toInt64)) + (p3.toInt64)) - ((3 : Int64) * ((((p1.toInt64) + (p2.toInt64)) + (p3.toInt64)) / (3 : Int64))))), .second, .unset, .unset, .unset, .unset] [])) _
    refine XS.lload X10.here hx rfl (hb hby at_160) rfl ?_
    show Steps p.tables e below (T10.setTop (mkF m 162 #[.val (.int p1), .val (.int p2), .val (.int p3), .val (.int p4), .val (.int (p4 &&& (3 : Int32))), .val (.ref b5), .val (.double (FP.ddiv (FP.l2d (((p1.toInt64) + (p2.toInt64)) + (p3.toInt64))) (FP.l2d (3 : Int64)))), .second, .val (.long (((p1.toInt64) + (p2.toInt64)) + (p3.toInt64))), .second, .val (.long ((((p1.toInt64) + (p2.toInt64)) + (p3.toInt64)) / (3 : Int64))), .second, .val (.long ((((p1.toInt64) + (p2.toInt64)) + (p3.toInt64)) - ((3 : Int64) * ((((p1.toInt64) + (p2.toInt64)) + (p3.toInt64)) / (3 : Int64))))), .second, .unset, .unset, .unset, .unset] [(.long ((((p1.toInt64) + (p2.toInt64)) + (p3.toInt64)) - ((3 : Int64) * ((((p1.toInt64) + (p2.toInt64)) + (p3.toInt64)) / (3 : Int64)))))])) _
    refine XS.lconst X10.here hx rfl (hb hby at_162) ?_
    show Steps p.tables e below (T10.setTop (mkF m 163 #[.val (.int p1), .val (.int p2), .val (.int p3), .val (.int p4), .val (.int (p4 &&& (3 : Int32))), .val (.ref b5), .val (.double (FP.ddiv (FP.l2d (((p1.toInt64) + (p2.toInt64)) + (p3.toInt64))) (FP.l2d (3 : Int64)))), .second, .val (.long (((p1.toInt64) + (p2.toInt64)) + (p3.toInt64))), .second, .val (.long ((((p1.toInt64) + (p2.toInt64)) + (p3.toInt64)) / (3 : Int64))), .second, .val (.long ((((p1.toInt64) + (p2.toInt64)) + (p3.toInt64)) - ((3 : Int64) * ((((p1.toInt64) + (p2.toInt64)) + (p3.toInt64)) / (3 : Int64))))), .second, .unset, .unset, .unset, .unset] [(.long (0 : Int64)), (.long ((((p1.toInt64) + (p2.toInt64)) + (p3.toInt64)) - ((3 : Int64) * ((((p1.toInt64) + (p2.toInt64)) + (p3.toInt64)) / (3 : Int64)))))])) _
    refine XS.lcmp X10.here hx rfl (hb hby at_163) rfl ?_
    show Steps p.tables e below (T10.setTop (mkF m 164 #[.val (.int p1), .val (.int p2), .val (.int p3), .val (.int p4), .val (.int (p4 &&& (3 : Int32))), .val (.ref b5), .val (.double (FP.ddiv (FP.l2d (((p1.toInt64) + (p2.toInt64)) + (p3.toInt64))) (FP.l2d (3 : Int64)))), .second, .val (.long (((p1.toInt64) + (p2.toInt64)) + (p3.toInt64))), .second, .val (.long ((((p1.toInt64) + (p2.toInt64)) + (p3.toInt64)) / (3 : Int64))), .second, .val (.long ((((p1.toInt64) + (p2.toInt64)) + (p3.toInt64)) - ((3 : Int64) * ((((p1.toInt64) + (p2.toInt64)) + (p3.toInt64)) / (3 : Int64))))), .second, .unset, .unset, .unset, .unset] [(.int (lcmpW ((((p1.toInt64) + (p2.toInt64)) + (p3.toInt64)) - ((3 : Int64) * ((((p1.toInt64) + (p2.toInt64)) + (p3.toInt64)) / (3 : Int64)))) (0 : Int64)))])) _
    refine XS.ifNo X10.here hx rfl (hb hby at_164) rfl ((if0 _ _).trans (teq hc164).2) ?_
    show Steps p.tables e below (T10.setTop (mkF m 167 #[.val (.int p1), .val (.int p2), .val (.int p3), .val (.int p4), .val (.int (p4 &&& (3 : Int32))), .val (.ref b5), .val (.double (FP.ddiv (FP.l2d (((p1.toInt64) + (p2.toInt64)) + (p3.toInt64))) (FP.l2d (3 : Int64)))), .second, .val (.long (((p1.toInt64) + (p2.toInt64)) + (p3.toInt64))), .second, .val (.long ((((p1.toInt64) + (p2.toInt64)) + (p3.toInt64)) / (3 : Int64))), .second, .val (.long ((((p1.toInt64) + (p2.toInt64)) + (p3.toInt64)) - ((3 : Int64) * ((((p1.toInt64) + (p2.toInt64)) + (p3.toInt64)) / (3 : Int64))))), .second, .unset, .unset, .unset, .unset] [])) _
    refine XS.dload X10.here hx rfl (hb hby at_167) rfl ?_
    show Steps p.tables e below (T10.setTop (mkF m 169 #[.val (.int p1), .val (.int p2), .val (.int p3), .val (.int p4), .val (.int (p4 &&& (3 : Int32))), .val (.ref b5), .val (.double (FP.ddiv (FP.l2d (((p1.toInt64) + (p2.toInt64)) + (p3.toInt64))) (FP.l2d (3 : Int64)))), .second, .val (.long (((p1.toInt64) + (p2.toInt64)) + (p3.toInt64))), .second, .val (.long ((((p1.toInt64) + (p2.toInt64)) + (p3.toInt64)) / (3 : Int64))), .second, .val (.long ((((p1.toInt64) + (p2.toInt64)) + (p3.toInt64)) - ((3 : Int64) * ((((p1.toInt64) + (p2.toInt64)) + (p3.toInt64)) / (3 : Int64))))), .second, .unset, .unset, .unset, .unset] [(.double (FP.ddiv (FP.l2d (((p1.toInt64) + (p2.toInt64)) + (p3.toInt64))) (FP.l2d (3 : Int64))))])) _
    refine XS.lload X10.here hx rfl (hb hby at_169) rfl ?_
    show Steps p.tables e below (T10.setTop (mkF m 171 #[.val (.int p1), .val (.int p2), .val (.int p3), .val (.int p4), .val (.int (p4 &&& (3 : Int32))), .val (.ref b5), .val (.double (FP.ddiv (FP.l2d (((p1.toInt64) + (p2.toInt64)) + (p3.toInt64))) (FP.l2d (3 : Int64)))), .second, .val (.long (((p1.toInt64) + (p2.toInt64)) + (p3.toInt64))), .second, .val (.long ((((p1.toInt64) + (p2.toInt64)) + (p3.toInt64)) / (3 : Int64))), .second, .val (.long ((((p1.toInt64) + (p2.toInt64)) + (p3.toInt64)) - ((3 : Int64) * ((((p1.toInt64) + (p2.toInt64)) + (p3.toInt64)) / (3 : Int64))))), .second, .unset, .unset, .unset, .unset] [(.long ((((p1.toInt64) + (p2.toInt64)) + (p3.toInt64)) / (3 : Int64))), (.double (FP.ddiv (FP.l2d (((p1.toInt64) + (p2.toInt64)) + (p3.toInt64))) (FP.l2d (3 : Int64))))])) _
    refine XS.l2dS X10.here hx rfl (hb hby at_171) rfl rfl ?_
    show Steps p.tables e below (T10.setTop (mkF m 172 #[.val (.int p1), .val (.int p2), .val (.int p3), .val (.int p4), .val (.int (p4 &&& (3 : Int32))), .val (.ref b5), .val (.double (FP.ddiv (FP.l2d (((p1.toInt64) + (p2.toInt64)) + (p3.toInt64))) (FP.l2d (3 : Int64)))), .second, .val (.long (((p1.toInt64) + (p2.toInt64)) + (p3.toInt64))), .second, .val (.long ((((p1.toInt64) + (p2.toInt64)) + (p3.toInt64)) / (3 : Int64))), .second, .val (.long ((((p1.toInt64) + (p2.toInt64)) + (p3.toInt64)) - ((3 : Int64) * ((((p1.toInt64) + (p2.toInt64)) + (p3.toInt64)) / (3 : Int64))))), .second, .unset, .unset, .unset, .unset] [(.double (FP.l2d ((((p1.toInt64) + (p2.toInt64)) + (p3.toInt64)) / (3 : Int64)))), (.double (FP.ddiv (FP.l2d (((p1.toInt64) + (p2.toInt64)) + (p3.toInt64))) (FP.l2d (3 : Int64))))])) _
    refine XS.dcmpS X10.here hx rfl (hb hby at_172) rfl (own_ceq hd) ?_
    show Steps p.tables e below (T10.setTop (mkF m 173 #[.val (.int p1), .val (.int p2), .val (.int p3), .val (.int p4), .val (.int (p4 &&& (3 : Int32))), .val (.ref b5), .val (.double (FP.ddiv (FP.l2d (((p1.toInt64) + (p2.toInt64)) + (p3.toInt64))) (FP.l2d (3 : Int64)))), .second, .val (.long (((p1.toInt64) + (p2.toInt64)) + (p3.toInt64))), .second, .val (.long ((((p1.toInt64) + (p2.toInt64)) + (p3.toInt64)) / (3 : Int64))), .second, .val (.long ((((p1.toInt64) + (p2.toInt64)) + (p3.toInt64)) - ((3 : Int64) * ((((p1.toInt64) + (p2.toInt64)) + (p3.toInt64)) / (3 : Int64))))), .second, .unset, .unset, .unset, .unset] [(.int (0 : Int32))])) _
    refine XS.ifNo X10.here hx rfl (hb hby at_173) rfl ((if0 _ _).trans (teq (rfl : (0 : Int32) = (0 : Int32))).2) ?_
    show Steps p.tables e below (T10.setTop (mkF m 176 #[.val (.int p1), .val (.int p2), .val (.int p3), .val (.int p4), .val (.int (p4 &&& (3 : Int32))), .val (.ref b5), .val (.double (FP.ddiv (FP.l2d (((p1.toInt64) + (p2.toInt64)) + (p3.toInt64))) (FP.l2d (3 : Int64)))), .second, .val (.long (((p1.toInt64) + (p2.toInt64)) + (p3.toInt64))), .second, .val (.long ((((p1.toInt64) + (p2.toInt64)) + (p3.toInt64)) / (3 : Int64))), .second, .val (.long ((((p1.toInt64) + (p2.toInt64)) + (p3.toInt64)) - ((3 : Int64) * ((((p1.toInt64) + (p2.toInt64)) + (p3.toInt64)) / (3 : Int64))))), .second, .unset, .unset, .unset, .unset] [])) _
    refine XS.iconst X10.here hx rfl (hb hby at_176) ?_
    show Steps p.tables e below (T10.setTop (mkF m 177 #[.val (.int p1), .val (.int p2), .val (.int p3), .val (.int p4), .val (.int (p4 &&& (3 : Int32))), .val (.ref b5), .val (.double (FP.ddiv (FP.l2d (((p1.toInt64) + (p2.toInt64)) + (p3.toInt64))) (FP.l2d (3 : Int64)))), .second, .val (.long (((p1.toInt64) + (p2.toInt64)) + (p3.toInt64))), .second, .val (.long ((((p1.toInt64) + (p2.toInt64)) + (p3.toInt64)) / (3 : Int64))), .second, .val (.long ((((p1.toInt64) + (p2.toInt64)) + (p3.toInt64)) - ((3 : Int64) * ((((p1.toInt64) + (p2.toInt64)) + (p3.toInt64)) / (3 : Int64))))), .second, .unset, .unset, .unset, .unset] [(.int (1 : Int32))])) _
    refine XS.goto X10.here hx rfl (pc0 := 177) (pc' := 181) rfl (hb hby at_177) (by decide) (by decide) ?_
    show Steps p.tables e below (T10.setTop (mkF m 181 #[.val (.int p1), .val (.int p2), .val (.int p3), .val (.int p4), .val (.int (p4 &&& (3 : Int32))), .val (.ref b5), .val (.double (FP.ddiv (FP.l2d (((p1.toInt64) + (p2.toInt64)) + (p3.toInt64))) (FP.l2d (3 : Int64)))), .second, .val (.long (((p1.toInt64) + (p2.toInt64)) + (p3.toInt64))), .second, .val (.long ((((p1.toInt64) + (p2.toInt64)) + (p3.toInt64)) / (3 : Int64))), .second, .val (.long ((((p1.toInt64) + (p2.toInt64)) + (p3.toInt64)) - ((3 : Int64) * ((((p1.toInt64) + (p2.toInt64)) + (p3.toInt64)) / (3 : Int64))))), .second, .unset, .unset, .unset, .unset] [(.int (1 : Int32))])) _
    exact retN X10 hx (t := .boolean) Bd.returns (by simp) (hb hby at_181) hr
  · show Q0 n0 _ _
    exact ⟨rfl, N10⟩
set_option maxRecDepth 65536 in
set_option maxHeartbeats 40000000 in
theorem rm0_4 (l : Launch) (Z : State) (a0 : Array Value) (hw : ∀ d ∈ tables_1, d.before a0 Z = true) (ws : List Jvm.Cond) (p1 p2 p3 p4 : Int32) (h0 : Heap) (n0 : Nat) (Z0 : n0 ≤ h0.size) (hm : Jvm.Free.Fl.NoNaN64 (FP.ddiv (FP.l2d (((p1.toInt64) + (p2.toInt64)) + (p3.toInt64))) (FP.l2d (3 : Int64)))) (hp3 : Jvm.Free.Fl.NoNaN64 (FP.dmul (FP.ddiv (FP.l2d (((p1.toInt64) + (p2.toInt64)) + (p3.toInt64))) (FP.l2d (3 : Int64))) (4613937818241073152 : UInt64))) (hd3 : Jvm.Free.Fl.NoNaN64 (FP.dsub (FP.dmul (FP.ddiv (FP.l2d (((p1.toInt64) + (p2.toInt64)) + (p3.toInt64))) (FP.l2d (3 : Int64))) (4613937818241073152 : UInt64)) (FP.l2d (((p1.toInt64) + (p2.toInt64)) + (p3.toInt64))))) (hd : FP.dcmp (FP.dneg (4562146422526312448 : UInt64)) (FP.dsub (FP.dmul (FP.ddiv (FP.l2d (((p1.toInt64) + (p2.toInt64)) + (p3.toInt64))) (FP.l2d (3 : Int64))) (4613937818241073152 : UInt64)) (FP.l2d (((p1.toInt64) + (p2.toInt64)) + (p3.toInt64)))) = some .lt) (hd' : FP.dcmp (FP.dsub (FP.dmul (FP.ddiv (FP.l2d (((p1.toInt64) + (p2.toInt64)) + (p3.toInt64))) (FP.l2d (3 : Int64))) (4613937818241073152 : UInt64)) (FP.l2d (((p1.toInt64) + (p2.toInt64)) + (p3.toInt64)))) (4562146422526312448 : UInt64) = some .lt) (hc17 : ¬ ((p4 &&& (3 : Int32)) < (1 : Int32))) (hc30 : ¬ ((p4 &&& (3 : Int32)) < (2 : Int32))) (hc43 : ¬ ((p4 &&& (3 : Int32)) < (3 : Int32))) (hc62 : ¬ ((p4 &&& (3 : Int32)) = (0 : Int32))) (hc82 : ¬ ((p4 &&& (3 : Int32)) = (1 : Int32))) (hc102 : ¬ ((p4 &&& (3 : Int32)) = (2 : Int32))) (hnz146 : ¬ ((3 : Int64) = (0 : Int64))) (hc164 : ¬ ((lcmpW ((((p1.toInt64) + (p2.toInt64)) + (p3.toInt64)) - ((3 : Int64) * ((((p1.toInt64) + (p2.toInt64)) + (p3.toInt64)) / (3 : Int64)))) (0 : Int64)) = (0 : Int32))) (hc205 : (-1 : Int32) < (0 : Int32)) (hc213 : (-1 : Int32) < (0 : Int32)) :
    MetFree l x (head1 (Jvm.Cond.code x code maxLocals ret :: ws) room_1) (fun a U => a = #[(.int p1), (.int p2), (.int p3), (.int p4)] ∧ Z.Warmed39 U.vm ∧ U.heap = h0) (fun _ _ _ _ _ => True) (fun _ U o U' => ∃ v L, o = .returned v ∧ Q0 n0 v L ∧ FrameEnd U o U' L 1 4) := by
  refine MetFree.of_bodySF (plainFor_of_name pn_0) hisR ?_
  intro p e s m args below meth c s₁ Bd hml0 hP hK
  obtain ⟨rfl, hZ, hh⟩ := hP
  have hx := Bd.exec
  have hby := Bd.bytes
  have hml : c.maxLocals = 18 := hml0
  have hown : s.vm.findClass "io/watchring/sim/TallyMeanPinLaw" = some m.cls := findClass_of_methodNamed Bd.named
  have hnm := (name_of_methodNamed Bd.named Bd.method).1
  have X0 : Stand p l e room_1 s m #[(.int p1), (.int p2), (.int p3), (.int p4)] below meth c s₁ [] 0 0 := Stand.of_body Bd
  have e0 : s₁.heap = h0 := by rw [← hh, Bd.state]; rfl
  have N0 := Fr.nil n0
  have pre0 : ∀ t, Steps p.tables e below (s₁.setTop (mkF m 0 #[.val (.int p1), .val (.int p2), .val (.int p3), .val (.int p4), .unset, .unset, .unset, .unset, .unset, .unset, .unset, .unset, .unset, .unset, .unset, .unset, .unset, .unset] [])) t → Steps p.tables e below (s₁.setTop (entryFrame m #[(.int p1), (.int p2), (.int p3), (.int p4)] maxLocals)) t := fun t k => castTop (ef_0 m p1 p2 p3 p4) k
  obtain ⟨T5, h5, X5, e5, E5, A5, D5, -, st5⟩ := newO X0 hx hZ hown (hw _ (List.mem_of_getElem? (i := 0) rfl)) (hw _ (List.mem_of_getElem? (i := 1) rfl)) (hw _ (List.mem_of_getElem? (i := 2) rfl)) e0 (g := (mkF m 5 #[.val (.int p1), .val (.int p2), .val (.int p3), .val (.int p4), .val (.int (p4 &&& (3 : Int32))), .unset, .unset, .unset, .unset, .unset, .unset, .unset, .unset, .unset, .unset, .unset, .unset, .unset] [])) rfl (hb hby at_5) (by decide) (by decide)
  obtain ⟨b5, g5⟩ : ∃ z, z = h0.size := ⟨_, rfl⟩
  rw [← g5] at A5 D5 st5
  have F_min_b5 : Fld Z h5 b5 "io/watchring/sim/Tally" "min" "J" (.long (0 : Int64)) := D5 (Or.inl (hw _ (List.mem_of_getElem? (i := 11) rfl))) (ty := .long) (by decide)
  have F_max_b5 : Fld Z h5 b5 "io/watchring/sim/Tally" "max" "J" (.long (0 : Int64)) := D5 (Or.inl (hw _ (List.mem_of_getElem? (i := 14) rfl))) (ty := .long) (by decide)
  have F_count_b5 : Fld Z h5 b5 "io/watchring/sim/Tally" "count" "J" (.long (0 : Int64)) := D5 (Or.inl (hw _ (List.mem_of_getElem? (i := 21) rfl))) (ty := .long) (by decide)
  have F_total_b5 : Fld Z h5 b5 "io/watchring/sim/Tally" "total" "J" (.long (0 : Int64)) := D5 (Or.inl (hw _ (List.mem_of_getElem? (i := 23) rfl))) (ty := .long) (by decide)
  have E_b5 := A5
  have g_b5 : n0 ≤ b5 := Nat.le_trans Z0 (Nat.le_of_eq g5.symm)
  obtain ⟨_, _, ⟨T6, L6, k6, n6⟩, -, X6, ⟨Lc6, hQ6, l6, y6, z6⟩, st6⟩ := X5.specialBack hx (y := (⟨"io/watchring/sim/Tally", "<init>", "()V"⟩ : MethodName)) rfl hown (mvT hZ (hw _ (List.mem_of_getElem? (i := 3) rfl))) (mvT hZ (hw _ (List.mem_of_getElem? (i := 4) rfl))) (mvT hZ (hw _ (List.mem_of_getElem? (i := 5) rfl))) (by decide) (backOf (W := 1) (rm1 l Z a0 hw [] b5 _ _ h5 n0 (Nat.le_trans Z0 E5.1) E_b5 F_min_b5 F_max_b5 F_count_b5 F_total_b5 g_b5) hZ (hw _ (List.mem_of_getElem? (i := 5) rfl)) (hw _ (List.mem_of_getElem? (i := 2) rfl)) (by decide) (by decide)) (g := (mkF m 9 #[.val (.int p1), .val (.int p2), .val (.int p3), .val (.int p4), .val (.int (p4 &&& (3 : Int32))), .unset, .unset, .unset, .unset, .unset, .unset, .unset, .unset, .unset, .unset, .unset, .unset, .unset] [(.ref b5), (.ref b5)])) rfl (by rw [hml]; rfl) (Steps.refl _) (a := b5) (argsL := []) (rest := [(.ref b5)]) (lenOf pd_0_0 rfl) rfl (by show 2 * 0 + _ ≤ _; exact Nat.le_of_eq rfl) (hb hby at_9) (fun _ _ => ⟨rfl, e5, (by decide : 1 + 0 ≤ _), (by decide : 4 + 0 ≤ _)⟩)
  dsimp only [Pt.U, Pt.locs, Pt.cells, Pt.slots] at X6 l6 y6 z6 st6 hQ6
  subst l6 y6 z6
  obtain ⟨rfl, N6q, Ty6⟩ := hQ6
  obtain ⟨mn6, mx6, Tz6⟩ := id Ty6
  have N6 := Fr.app N0 N6q
  obtain ⟨cq7, kq7, q7a, q7b, q7c⟩ := isOf hZ rfl Tz6.1
  obtain ⟨_, _, ⟨T7, L7, k7, n7⟩, -, X7, ⟨Lc7, hQ7, l7, y7, z7⟩, st7⟩ := X6.virtualBack hx (y := (⟨"io/watchring/sim/Tally", "add", "(J)V"⟩ : MethodName)) (z := (⟨"io/watchring/sim/Tally", "add", "(J)V"⟩ : MethodName)) hown (mvT hZ (hw _ (List.mem_of_getElem? (i := 15) rfl))) (mvT hZ (hw _ (List.mem_of_getElem? (i := 16) rfl))) (notFace_of_selects (args := #[]) (mvT hZ (hw _ (List.mem_of_getElem? (i := 18) rfl)))) (mvT hZ (hw _ (List.mem_of_getElem? (i := 18) rfl))) (mvT hZ (hw _ (List.mem_of_getElem? (i := 17) rfl))) (by decide) (backOf (W := 0) (rm3 l Z a0 hw [] b5 (p1.toInt64) (0 : Int64) (0 : Int64) (1 : Int64) (p1.toInt64) T6.heap n0 (Nat.le_trans g_b5 (Nat.le_of_lt Tz6.1.lt)) Ty6 g_b5 (by decide) (Int64.zero_add _).symm) hZ (hw _ (List.mem_of_getElem? (i := 19) rfl)) (hw _ (List.mem_of_getElem? (i := 2) rfl)) (by decide) (by decide)) q7a q7c (g := (mkF m 24 #[.val (.int p1), .val (.int p2), .val (.int p3), .val (.int p4), .val (.int (p4 &&& (3 : Int32))), .val (.ref b5), .unset, .unset, .unset, .unset, .unset, .unset, .unset, .unset, .unset, .unset, .unset, .unset] [(.long (p1.toInt64)), (.ref b5)])) rfl (by rw [hml]; rfl) (Steps.refl _) (argsL := [(.long (p1.toInt64))]) (rest := []) (lenOf pd_0_1 rfl) rfl (by show 2 * 0 + _ ≤ _; exact Nat.le_of_eq rfl) (hb hby at_24) (fun _ _ => ⟨rfl, rfl, (by decide : 1 + 0 ≤ _), (by decide : 4 + 0 ≤ _)⟩)
  dsimp only [Pt.U, Pt.locs, Pt.cells, Pt.slots] at X7 l7 y7 z7 st7 hQ7
  subst l7 y7 z7
  obtain ⟨rfl, N7q, Ty7⟩ := hQ7
  obtain ⟨mn7, mx7, Tz7⟩ := id Ty7
  have N7 := Fr.app N6 N7q
  obtain ⟨cq8, kq8, q8a, q8b, q8c⟩ := isOf hZ rfl Tz7.1
  obtain ⟨_, _, ⟨T8, L8, k8, n8⟩, -, X8, ⟨Lc8, hQ8, l8, y8, z8⟩, st8⟩ := X7.virtualBack hx (y := (⟨"io/watchring/sim/Tally", "add", "(J)V"⟩ : MethodName)) (z := (⟨"io/watchring/sim/Tally", "add", "(J)V"⟩ : MethodName)) hown (mvT hZ (hw _ (List.mem_of_getElem? (i := 15) rfl))) (mvT hZ (hw _ (List.mem_of_getElem? (i := 16) rfl))) (notFace_of_selects (args := #[]) (mvT hZ (hw _ (List.mem_of_getElem? (i := 18) rfl)))) (mvT hZ (hw _ (List.mem_of_getElem? (i := 18) rfl))) (mvT hZ (hw _ (List.mem_of_getElem? (i := 17) rfl))) (by decide) (backOf (W := 0) (rm3 l Z a0 hw [] b5 (p2.toInt64) (1 : Int64) (p1.toInt64) (2 : Int64) ((p1.toInt64) + (p2.toInt64)) T7.heap n0 (Nat.le_trans g_b5 (Nat.le_of_lt Tz7.1.lt)) Ty7 g_b5 (by decide) rfl) hZ (hw _ (List.mem_of_getElem? (i := 19) rfl)) (hw _ (List.mem_of_getElem? (i := 2) rfl)) (by decide) (by decide)) q8a q8c (g := (mkF m 37 #[.val (.int p1), .val (.int p2), .val (.int p3), .val (.int p4), .val (.int (p4 &&& (3 : Int32))), .val (.ref b5), .unset, .unset, .unset, .unset, .unset, .unset, .unset, .unset, .unset, .unset, .unset, .unset] [(.long (p2.toInt64)), (.ref b5)])) rfl (by rw [hml]; rfl) (Steps.refl _) (argsL := [(.long (p2.toInt64))]) (rest := []) (lenOf pd_0_1 rfl) rfl (by show 2 * 0 + _ ≤ _; exact Nat.le_of_eq rfl) (hb hby at_37) (fun _ _ => ⟨rfl, rfl, (by decide : 1 + 0 ≤ _), (by decide : 4 + 0 ≤ _)⟩)
  dsimp only [Pt.U, Pt.locs, Pt.cells, Pt.slots] at X8 l8 y8 z8 st8 hQ8
  subst l8 y8 z8
  obtain ⟨rfl, N8q, Ty8⟩ := hQ8
  obtain ⟨mn8, mx8, Tz8⟩ := id Ty8
  have N8 := Fr.app N7 N8q
  obtain ⟨cq9, kq9, q9a, q9b, q9c⟩ := isOf hZ rfl Tz8.1
  obtain ⟨_, _, ⟨T9, L9, k9, n9⟩, -, X9, ⟨Lc9, hQ9, l9, y9, z9⟩, st9⟩ := X8.virtualBack hx (y := (⟨"io/watchring/sim/Tally", "add", "(J)V"⟩ : MethodName)) (z := (⟨"io/watchring/sim/Tally", "add", "(J)V"⟩ : MethodName)) hown (mvT hZ (hw _ (List.mem_of_getElem? (i := 15) rfl))) (mvT hZ (hw _ (List.mem_of_getElem? (i := 16) rfl))) (notFace_of_selects (args := #[]) (mvT hZ (hw _ (List.mem_of_getElem? (i := 18) rfl)))) (mvT hZ (hw _ (List.mem_of_getElem? (i := 18) rfl))) (mvT hZ (hw _ (List.mem_of_getElem? (i := 17) rfl))) (by decide) (backOf (W := 0) (rm3 l Z a0 hw [] b5 (p3.toInt64) (2 : Int64) ((p1.toInt64) + (p2.toInt64)) (3 : Int64) (((p1.toInt64) + (p2.toInt64)) + (p3.toInt64)) T8.heap n0 (Nat.le_trans g_b5 (Nat.le_of_lt Tz8.1.lt)) Ty8 g_b5 (by decide) rfl) hZ (hw _ (List.mem_of_getElem? (i := 19) rfl)) (hw _ (List.mem_of_getElem? (i := 2) rfl)) (by decide) (by decide)) q9a q9c (g := (mkF m 50 #[.val (.int p1), .val (.int p2), .val (.int p3), .val (.int p4), .val (.int (p4 &&& (3 : Int32))), .val (.ref b5), .unset, .unset, .unset, .unset, .unset, .unset, .unset, .unset, .unset, .unset, .unset, .unset] [(.long (p3.toInt64)), (.ref b5)])) rfl (by rw [hml]; rfl) (Steps.refl _) (argsL := [(.long (p3.toInt64))]) (rest := []) (lenOf pd_0_1 rfl) rfl (by show 2 * 0 + _ ≤ _; exact Nat.le_of_eq rfl) (hb hby at_50) (fun _ _ => ⟨rfl, rfl, (by decide : 1 + 0 ≤ _), (by decide : 4 + 0 ≤ _)⟩)
  dsimp only [Pt.U, Pt.locs, Pt.cells, Pt.slots] at X9 l9 y9 z9 st9 hQ9
  subst l9 y9 z9
  obtain ⟨rfl, N9q, Ty9⟩ := hQ9
  obtain ⟨mn9, mx9, Tz9⟩ := id Ty9
  have N9 := Fr.app N8 N9q
  obtain ⟨cq10, kq10, q10a, q10b, q10c⟩ := isOf hZ rfl Tz9.1
  obtain ⟨_, _, ⟨T10, L10, k10, n10⟩, -, X10, ⟨Lc10, hQ10, l10, y10, z10⟩, st10⟩ := X9.virtualBack hx (y := (⟨"io/watchring/sim/Tally", "mean", "()D"⟩ : MethodName)) (z := (⟨"io/watchring/sim/Tally", "mean", "()D"⟩ : MethodName)) hown (mvT hZ (hw _ (List.mem_of_getElem? (i := 31) rfl))) (mvT hZ (hw _ (List.mem_of_getElem? (i := 32) rfl))) (notFace_of_selects (args := #[]) (mvT hZ (hw _ (List.mem_of_getElem? (i := 34) rfl)))) (mvT hZ (hw _ (List.mem_of_getElem? (i := 34) rfl))) (mvT hZ (hw _ (List.mem_of_getElem? (i := 33) rfl))) (by decide) (backOf (W := 0) (rm6t l Z a0 hw [] b5 (3 : Int64) (((p1.toInt64) + (p2.toInt64)) + (p3.toInt64)) T9.heap n0 (Nat.le_trans g_b5 (Nat.le_of_lt Tz9.1.lt)) Ty9 hm (by decide)) hZ (hw _ (List.mem_of_getElem? (i := 35) rfl)) (hw _ (List.mem_of_getElem? (i := 2) rfl)) (by decide) (by decide)) q10a q10c (g := (mkF m 55 #[.val (.int p1), .val (.int p2), .val (.int p3), .val (.int p4), .val (.int (p4 &&& (3 : Int32))), .val (.ref b5), .unset, .unset, .unset, .unset, .unset, .unset, .unset, .unset, .unset, .unset, .unset, .unset] [(.ref b5)])) rfl (by rw [hml]; rfl) (Steps.refl _) (argsL := []) (rest := []) (lenOf pd_0_3 rfl) rfl (by show 2 * 0 + _ ≤ _; exact Nat.le_of_eq rfl) (hb hby at_55) (fun _ _ => ⟨rfl, rfl, (by decide : 1 + 0 ≤ _), (by decide : 4 + 0 ≤ _)⟩)
  dsimp only [Pt.U, Pt.locs, Pt.cells, Pt.slots] at X10 l10 y10 z10 st10 hQ10
  subst l10 y10 z10
  obtain ⟨rfl, N10q, e10⟩ := hQ10
  have N10 := Fr.app N9 N10q
  obtain ⟨fs, hr, hrun, hended, hW, hsame⟩ := X10.leave (v := some (.int (1 : Int32))) (fun h => by rw [Bd.returns] at h; cases h)
  refine ⟨_, _, pre0 _ ?_, hrun, hended, _, _, rfl, ?_, ⟨_, rfl⟩, hW, hsame.mono (by decide) (by decide)⟩
  · show Steps p.tables e below (s₁.setTop (mkF m 0 #[.val (.int p1), .val (.int p2), .val (.int p3), .val (.int p4), .unset, .unset, .unset, .unset, .unset, .unset, .unset, .unset, .unset, .unset, .unset, .unset, .unset, .unset] [])) _
    refine XS.iloadN X0.here hx rfl (hb hby at_0) rfl ?_
    show Steps p.tables e below (s₁.setTop (mkF m 1 #[.val (.int p1), .val (.int p2), .val (.int p3), .val (.int p4), .unset, .unset, .unset, .unset, .unset, .unset, .unset, .unset, .unset, .unset, .unset, .unset, .unset, .unset] [(.int p4)])) _
    refine XS.iconst X0.here hx rfl (hb hby at_1) ?_
    show Steps p.tables e below (s₁.setTop (mkF m 2 #[.val (.int p1), .val (.int p2), .val (.int p3), .val (.int p4), .unset, .unset, .unset, .unset, .unset, .unset, .unset, .unset, .unset, .unset, .unset, .unset, .unset, .unset] [(.int (3 : Int32)), (.int p4)])) _
    refine XS.iand X0.here hx rfl (hb hby at_2) rfl ?_
    show Steps p.tables e below (s₁.setTop (mkF m 3 #[.val (.int p1), .val (.int p2), .val (.int p3), .val (.int p4), .unset, .unset, .unset, .unset, .unset, .unset, .unset, .unset, .unset, .unset, .unset, .unset, .unset, .unset] [(.int (p4 &&& (3 : Int32)))])) _
    refine XS.istore X0.here hx rfl (hb hby at_3) rfl (l' := #[.val (.int p1), .val (.int p2), .val (.int p3), .val (.int p4), .val (.int (p4 &&& (3 : Int32))), .unset, .unset, .unset, .unset, .unset, .unset, .unset, .unset, .unset, .unset, .unset, .unset, .unset]) rfl ?_
    show Steps p.tables e below (s₁.setTop (mkF m 5 #[.val (.int p1), .val (.int p2), .val (.int p3), .val (.int p4), .val (.int (p4 &&& (3 : Int32))), .unset, .unset, .unset, .unset, .unset, .unset, .unset, .unset, .unset, .unset, .unset, .unset, .unset] [])) _
    refine st5 _ ?_
    show Steps p.tables e below (T5.setTop (mkF m 8 #[.val (.int p1), .val (.int p2), .val (.int p3), .val (.int p4), .val (.int (p4 &&& (3 : Int32))), .unset, .unset, .unset, .unset, .unset, .unset, .unset, .unset, .unset, .unset, .unset, .unset, .unset] [(.ref b5)])) _
    refine XS.dup X5.here hx rfl (hb hby at_8) rfl rfl ?_
    show Steps p.tables e below (T5.setTop (mkF m 9 #[.val (.int p1), .val (.int p2), .val (.int p3), .val (.int p4), .val (.int (p4 &&& (3 : Int32))), .unset, .unset, .unset, .unset, .unset, .unset, .unset, .unset, .unset, .unset, .unset, .unset, .unset] [(.ref b5), (.ref b5)])) _
    refine st6.trans ?_
    show Steps p.tables e below (T6.setTop (mkF m 12 #[.val (.int p1), .val (.int p2), .val (.int p3), .val (.int p4), .val (.int (p4 &&& (3 : Int32))), .unset, .unset, .unset, .unset, .unset, .unset, .unset, .unset, .unset, .unset, .unset, .unset, .unset] [(.ref b5)])) _
    refine XS.astore X6.here hx rfl (hb hby at_12) rfl rfl (l' := #[.val (.int p1), .val (.int p2), .val (.int p3), .val (.int p4), .val (.int (p4 &&& (3 : Int32))), .val (.ref b5), .unset, .unset, .unset, .unset, .unset, .unset, .unset, .unset, .unset, .unset, .unset, .unset]) rfl ?_
    show Steps p.tables e below (T6.setTop (mkF m 14 #[.val (.int p1), .val (.int p2), .val (.int p3), .val (.int p4), .val (.int (p4 &&& (3 : Int32))), .val (.ref b5), .unset, .unset, .unset, .unset, .unset, .unset, .unset, .unset, .unset, .unset, .unset, .unset] [])) _
    refine XS.iload X6.here hx rfl (hb hby at_14) rfl ?_
    show Steps p.tables e below (T6.setTop (mkF m 16 #[.val (.int p1), .val (.int p2), .val (.int p3), .val (.int p4), .val (.int (p4 &&& (3 : Int32))), .val (.ref b5), .unset, .unset, .unset, .unset, .unset, .unset, .unset, .unset, .unset, .unset, .unset, .unset] [(.int (p4 &&& (3 : Int32)))])) _
    refine XS.iconst X6.here hx rfl (hb hby at_16) ?_
    show Steps p.tables e below (T6.setTop (mkF m 17 #[.val (.int p1), .val (.int p2), .val (.int p3), .val (.int p4), .val (.int (p4 &&& (3 : Int32))), .val (.ref b5), .unset, .unset, .unset, .unset, .unset, .unset, .unset, .unset, .unset, .unset, .unset, .unset] [(.int (1 : Int32)), (.int (p4 &&& (3 : Int32)))])) _
    refine XS.icmpNo X6.here hx rfl (hb hby at_17) rfl (flt hc17).1 ?_
    show Steps p.tables e below (T6.setTop (mkF m 20 #[.val (.int p1), .val (.int p2), .val (.int p3), .val (.int p4), .val (.int (p4 &&& (3 : Int32))), .val (.ref b5), .unset, .unset, .unset, .unset, .unset, .unset, .unset, .unset, .unset, .unset, .unset, .unset] [])) _
    refine XS.aload X6.here hx rfl (hb hby at_20) rfl rfl ?_
    show Steps p.tables e below (T6.setTop (mkF m 22 #[.val (.int p1), .val (.int p2), .val (.int p3), .val (.int p4), .val (.int (p4 &&& (3 : Int32))), .val (.ref b5), .unset, .unset, .unset, .unset, .unset, .unset, .unset, .unset, .unset, .unset, .unset, .unset] [(.ref b5)])) _
    refine XS.iloadN X6.here hx rfl (hb hby at_22) rfl ?_
    show Steps p.tables e below (T6.setTop (mkF m 23 #[.val (.int p1), .val (.int p2), .val (.int p3), .val (.int p4), .val (.int (p4 &&& (3 : Int32))), .val (.ref b5), .unset, .unset, .unset, .unset, .unset, .unset, .unset, .unset, .unset, .unset, .unset, .unset] [(.int p1), (.ref b5)])) _
    refine XS.i2l X6.here hx rfl (hb hby at_23) rfl ?_
    show Steps p.tables e below (T6.setTop (mkF m 24 #[.val (.int p1), .val (.int p2), .val (.int p3), .val (.int p4), .val (.int (p4 &&& (3 : Int32))), .val (.ref b5), .unset, .unset, .unset, .unset, .unset, .unset, .unset, .unset, .unset, .unset, .unset, .unset] [(.long (p1.toInt64)), (.ref b5)])) _
    refine st7.trans ?_
    show Steps p.tables e below (T7.setTop (mkF m 27 #[.val (.int p1), .val (.int p2), .val (.int p3), .val (.int p4), .val (.int (p4 &&& (3 : Int32))), .val (.ref b5), .unset, .unset, .unset, .unset, .unset, .unset, .unset, .unset, .unset, .unset, .unset, .unset] [])) _
    refine XS.iload X7.here hx rfl (hb hby at_27) rfl ?_
    show Steps p.tables e below (T7.setTop (mkF m 29 #[.val (.int p1), .val (.int p2), .val (.int p3), .val (.int p4), .val (.int (p4 &&& (3 : Int32))), .val (.ref b5), .unset, .unset, .unset, .unset, .unset, .unset, .unset, .unset, .unset, .unset, .unset, .unset] [(.int (p4 &&& (3 : Int32)))])) _
    refine XS.iconst X7.here hx rfl (hb hby at_29) ?_
    show Steps p.tables e below (T7.setTop (mkF m 30 #[.val (.int p1), .val (.int p2), .val (.int p3), .val (.int p4), .val (.int (p4 &&& (3 : Int32))), .val (.ref b5), .unset, .unset, .unset, .unset, .unset, .unset, .unset, .unset, .unset, .unset, .unset, .unset] [(.int (2 : Int32)), (.int (p4 &&& (3 : Int32)))])) _
    refine XS.icmpNo X7.here hx rfl (hb hby at_30) rfl (flt hc30).1 ?_
    show Steps p.tables e below (T7.setTop (mkF m 33 #[.val (.int p1), .val (.int p2), .val (.int p3), .val (.int p4), .val (.int (p4 &&& (3 : Int32))), .val (.ref b5), .unset, .unset, .unset, .unset, .unset, .unset, .unset, .unset, .unset, .unset, .unset, .unset] [])) _
    refine XS.aload X7.here hx rfl (hb hby at_33) rfl rfl ?_
    show Steps p.tables e below (T7.setTop (mkF m 35 #[.val (.int p1), .val (.int p2), .val (.int p3), .val (.int p4), .val (.int (p4 &&& (3 : Int32))), .val (.ref b5), .unset, .unset, .unset, .unset, .unset, .unset, .unset, .unset, .unset, .unset, .unset, .unset] [(.ref b5)])) _
    refine XS.iloadN X7.here hx rfl (hb hby at_35) rfl ?_
    show Steps p.tables e below (T7.setTop (mkF m 36 #[.val (.int p1), .val (.int p2), .val (.int p3), .val (.int p4), .val (.int (p4 &&& (3 : Int32))), .val (.ref b5), .unset, .unset, .unset, .unset, .unset, .unset, .unset, .unset, .unset, .unset, .unset, .unset] [(.int p2), (.ref b5)])) _
    refine XS.i2l X7.here hx rfl (hb hby at_36) rfl ?_
    show Steps p.tables e below (T7.setTop (mkF m 37 #[.val (.int p1), .val (.int p2), .val (.int p3), .val (.int p4), .val (.int (p4 &&& (3 : Int32))), .val (.ref b5), .unset, .unset, .unset, .unset, .unset, .unset, .unset, .unset, .unset, .unset, .unset, .unset] [(.long (p2.toInt64)), (.ref b5)])) _
    refine st8.trans ?_
    show Steps p.tables e below (T8.setTop (mkF m 40 #[.val (.int p1), .val (.int p2), .val (.int p3), .val (.int p4), .val (.int (p4 &&& (3 : Int32))), .val (.ref b5), .unset, .unset, .unset, .unset, .unset, .unset, .unset, .unset, .unset, .unset, .unset, .unset] [])) _
    refine XS.iload X8.here hx rfl (hb hby at_40) rfl ?_
    show Steps p.tables e below (T8.setTop (mkF m 42 #[.val (.int p1), .val (.int p2), .val (.int p3), .val (.int p4), .val (.int (p4 &&& (3 : Int32))), .val (.ref b5), .unset, .unset, .unset, .unset, .unset, .unset, .unset, .unset, .unset, .unset, .unset, .unset] [(.int (p4 &&& (3 : Int32)))])) _
    refine XS.iconst X8.here hx rfl (hb hby at_42) ?_
    show Steps p.tables e below (T8.setTop (mkF m 43 #[.val (.int p1), .val (.int p2), .val (.int p3), .val (.int p4), .val (.int (p4 &&& (3 : Int32))), .val (.ref b5), .unset, .unset, .unset, .unset, .unset, .unset, .unset, .unset, .unset, .unset, .unset, .unset] [(.int (3 : Int32)), (.int (p4 &&& (3 : Int32)))])) _
    refine XS.icmpNo X8.here hx rfl (hb hby at_43) rfl (flt hc43).1 ?_
    show Steps p.tables e below (T8.setTop (mkF m 46 #[.val (.int p1), .val (.int p2), .val (.int p3), .val (.int p4), .val (.int (p4 &&& (3 : Int32))), .val (.ref b5), .unset, .unset, .unset, .unset, .unset, .unset, .unset, .unset, .unset, .unset, .unset, .unset] [])) _
    refine XS.aload X8.here hx rfl (hb hby at_46) rfl rfl ?_
    show Steps p.tables e below (T8.setTop (mkF m 48 #[.val (.int p1), .val (.int p2), .val (.int p3), .val (.int p4), .val (.int (p4 &&& (3 : Int32))), .val (.ref b5), .unset, .unset, .unset, .unset, .unset, .unset, .unset, .unset, .unset, .unset, .unset, .unset] [(.ref b5)])) _
    refine XS.iloadN X8.here hx rfl (hb hby at_48) rfl ?_
    show Steps p.tables e below (T8.setTop (mkF m 49 #[.val (.int p1), .val (.int p2), .val (.int p3), .val (.int p4), .val (.int (p4 &&& (3 : Int32))), .val (.ref b5), .unset, .unset, .unset, .unset, .unset, .unset, .unset, .unset, .unset, .unset, .unset, .unset] [(.int p3), (.ref b5)])) _
    refine XS.i2l X8.here hx rfl (hb hby at_49) rfl ?_
    show Steps p.tables e below (T8.setTop (mkF m 50 #[.val (.int p1), .val (.int p2), .val (.int p3), .val (.int p4), .val (.int (p4 &&& (3 : Int32))), .val (.ref b5), .unset, .unset, .unset, .unset, .unset, .unset, .unset, .unset, .unset, .unset, .unset, .unset] [(.long (p3.toInt64)), (.ref b5)])) _
    refine st9.trans ?_
    show Steps p.tables e below (T9.setTop (mkF m 53 #[.val (.int p1), .val (.int p2), .val (.int p3), .val (.int p4), .val (.int (p4 &&& (3 : Int32))), .val (.ref b5), .unset, .unset, .unset, .unset, .unset, .unset, .unset, .unset, .unset, .unset, .unset, .unset] [])) _
    refine XS.aload X9.here hx rfl (hb hby at_53) rfl rfl ?_
    show Steps p.tables e below (T9.setTop (mkF m 55 #[.val (.int p1), .val (.int p2), .val (.int p3), .val (.int p4), .val (.int (p4 &&& (3 : Int32))), .val (.ref b5), .unset, .unset, .unset, .unset, .unset, .unset, .unset, .unset, .unset, .unset, .unset, .unset] [(.ref b5)])) _
    refine st10.trans ?_
    show Steps p.tables e below (T10.setTop (mkF m 58 #[.val (.int p1), .val (.int p2), .val (.int p3), .val (.int p4), .val (.int (p4 &&& (3 : Int32))), .val (.ref b5), .unset, .unset, .unset, .unset, .unset, .unset, .unset, .unset, .unset, .unset, .unset, .unset] [(.double (FP.ddiv (FP.l2d (((p1.toInt64) + (p2.toInt64)) + (p3.toInt64))) (FP.l2d (3 : Int64))))])) _
    refine XS.dstore X10.here hx rfl (hb hby at_58) rfl (l' := #[.val (.int p1), .val (.int p2), .val (.int p3), .val (.int p4), .val (.int (p4 &&& (3 : Int32))), .val (.ref b5), .val (.double (FP.ddiv (FP.l2d (((p1.toInt64) + (p2.toInt64)) + (p3.toInt64))) (FP.l2d (3 : Int64)))), .second, .unset, .unset, .unset, .unset, .unset, .unset, .unset, .unset, .unset, .unset]) rfl ?_
    show Steps p.tables e below (T10.setTop (mkF m 60 #[.val (.int p1), .val (.int p2), .val (.int p3), .val (.int p4), .val (.int (p4 &&& (3 : Int32))), .val (.ref b5), .val (.double (FP.ddiv (FP.l2d (((p1.toInt64) + (p2.toInt64)) + (p3.toInt64))) (FP.l2d (3 : Int64)))), .second, .unset, .unset, .unset, .unset, .unset, .unset, .unset, .unset, .unset, .unset] [])) _
    refine XS.iload X10.here hx rfl (hb hby at_60) rfl ?_
    show Steps p.tables e below (T10.setTop (mkF m 62 #[.val (.int p1), .val (.int p2), .val (.int p3), .val (.int p4), .val (.int (p4 &&& (3 : Int32))), .val (.ref b5), .val (.double (FP.ddiv (FP.l2d (((p1.toInt64) + (p2.toInt64)) + (p3.toInt64))) (FP.l2d (3 : Int64)))), .second, .unset, .unset, .unset, .unset, .unset, .unset, .unset, .unset, .unset, .unset] [(.int (p4 &&& (3 : Int32)))])) _
    refine XS.ifYes X10.here hx rfl (pc0 := 62) (pc' := 79) rfl (hb hby at_62) rfl ((if0 _ _).trans (feq hc62).2) (by decide) (by decide) ?_
    show Steps p.tables e below (T10.setTop (mkF m 79 #[.val (.int p1), .val (.int p2), .val (.int p3), .val (.int p4), .val (.int (p4 &&& (3 : Int32))), .val (.ref b5), .val (.double (FP.ddiv (FP.l2d (((p1.toInt64) + (p2.toInt64)) + (p3.toInt64))) (FP.l2d (3 : Int64)))), .second, .unset, .unset, .unset, .unset, .unset, .unset, .unset, .unset, .unset, .unset] [])) _
    refine XS.iload X10.here hx rfl (hb hby at_79) rfl ?_
    show Steps p.tables e below (T10.setTop (mkF m 81 #[.val (.int p1), .val (.int p2), .val (.int p3), .val (.int p4), .val (.int (p4 &&& (3 : Int32))), .val (.ref b5), .val (.double (FP.ddiv (FP.l2d (((p1.toInt64) + (p2.toInt64)) + (p3.toInt64))) (FP.l2d (3 : Int64)))), .second, .unset, .unset, .unset, .unset, .unset, .unset, .unset, .unset, .unset, .unset] [(.int (p4 &&& (3 : Int32)))])) _
    refine XS.iconst X10.here hx rfl (hb hby at_81) ?_
    show Steps p.tables e below (T10.setTop (mkF m 82 #[.val (.int p1), .val (.int p2), .val (.int p3), .val (.int p4), .val (.int (p4 &&& (3 : Int32))), .val (.ref b5), .val (.double (FP.ddiv (FP.l2d (((p1.toInt64) + (p2.toInt64)) + (p3.toInt64))) (FP.l2d (3 : Int64)))), .second, .unset, .unset, .unset, .unset, .unset, .unset, .unset, .unset, .unset, .unset] [(.int (1 : Int32)), (.int (p4 &&& (3 : Int32)))])) _
    refine XS.icmpYes X10.here hx rfl (pc0 := 82) (pc' := 99) rfl (hb hby at_82) rfl (feq hc82).2 (by decide) (by decide) ?_
    show Steps p.tables e below (T10.setTop (mkF m 99 #[.val (.int p1), .val (.int p2), .val (.int p3), .val (.int p4), .val (.int (p4 &&& (3 : Int32))), .val (.ref b5), .val (.double (FP.ddiv (FP.l2d (((p1.toInt64) + (p2.toInt64)) + (p3.toInt64))) (FP.l2d (3 : Int64)))), .second, .unset, .unset, .unset, .unset, .unset, .unset, .unset, .unset, .unset, .unset] [])) _
    refine XS.iload X10.here hx rfl (hb hby at_99) rfl ?_
    show Steps p.tables e below (T10.setTop (mkF m 101 #[.val (.int p1), .val (.int p2), .val (.int p3), .val (.int p4), .val (.int (p4 &&& (3 : Int32))), .val (.ref b5), .val (.double (FP.ddiv (FP.l2d (((p1.toInt64) + (p2.toInt64)) + (p3.toInt64))) (FP.l2d (3 : Int64)))), .second, .unset, .unset, .unset, .unset, .unset, .unset, .unset, .unset, .unset, .unset] [(.int (p4 &&& (3 : Int32)))])) _
    refine XS.iconst X10.here hx rfl (hb hby at_101) ?_
    show Steps p.tables e below (T10.setTop (mkF m 102 #[.val (.int p1), .val (.int p2), .val (.int p3), .val (.int p4), .val (.int (p4 &&& (3 : Int32))), .val (.ref b5), .val (.double (FP.ddiv (FP.l2d (((p1.toInt64) + (p2.toInt64)) + (p3.toInt64))) (FP.l2d (3 : Int64)))), .second, .unset, .unset, .unset, .unset, .unset, .unset, .unset, .unset, .unset, .unset] [(.int (2 : Int32)), (.int (p4 &&& (3 : Int32)))])) _
    refine XS.icmpYes X10.here hx rfl (pc0 := 102) (pc' := 131) rfl (hb hby at_102) rfl (feq hc102).2 (by decide) (by decide) ?_
    show Steps p.tables e below (T10.setTop (mkF m 131 #[.val (.int p1), .val (.int p2), .val (.int p3), .val (.int p4), .val (.int (p4 &&& (3 : Int32))), .val (.ref b5), .val (.double (FP.ddiv (FP.l2d (((p1.toInt64) + (p2.toInt64)) + (p3.toInt64))) (FP.l2d (3 : Int64)))), .second, .unset, .unset, .unset, .unset, .unset, .unset, .unset, .unset, .unset, .unset] [])) _
    refine XS.iloadN X10.here hx rfl (hb hby at_131) rfl ?_
    show Steps p.tables e below (T10.setTop (mkF m 132 #[.val (.int p1), .val (.int p2), .val (.int p3), .val (.int p4), .val (.int (p4 &&& (3 : Int32))), .val (.ref b5), .val (.double (FP.ddiv (FP.l2d (((p1.toInt64) + (p2.toInt64)) + (p3.toInt64))) (FP.l2d (3 : Int64)))), .second, .unset, .unset, .unset, .unset, .unset, .unset, .unset, .unset, .unset, .unset] [(.int p1)])) _
    refine XS.i2l X10.here hx rfl (hb hby at_132) rfl ?_
    show Steps p.tables e below (T10.setTop (mkF m 133 #[.val (.int p1), .val (.int p2), .val (.int p3), .val (.int p4), .val (.int (p4 &&& (3 : Int32))), .val (.ref b5), .val (.double (FP.ddiv (FP.l2d (((p1.toInt64) + (p2.toInt64)) + (p3.toInt64))) (FP.l2d (3 : Int64)))), .second, .unset, .unset, .unset, .unset, .unset, .unset, .unset, .unset, .unset, .unset] [(.long (p1.toInt64))])) _
    refine XS.iloadN X10.here hx rfl (hb hby at_133) rfl ?_
    show Steps p.tables e below (T10.setTop (mkF m 134 #[.val (.int p1), .val (.int p2), .val (.int p3), .val (.int p4), .val (.int (p4 &&& (3 : Int32))), .val (.ref b5), .val (.double (FP.ddiv (FP.l2d (((p1.toInt64) + (p2.toInt64)) + (p3.toInt64))) (FP.l2d (3 : Int64)))), .second, .unset, .unset, .unset, .unset, .unset, .unset, .unset, .unset, .unset, .unset] [(.int p2), (.long (p1.toInt64))])) _
    refine XS.i2l X10.here hx rfl (hb hby at_134) rfl ?_
    show Steps p.tables e below (T10.setTop (mkF m 135 #[.val (.int p1), .val (.int p2), .val (.int p3), .val (.int p4), .val (.int (p4 &&& (3 : Int32))), .val (.ref b5), .val (.double (FP.ddiv (FP.l2d (((p1.toInt64) + (p2.toInt64)) + (p3.toInt64))) (FP.l2d (3 : Int64)))), .second, .unset, .unset, .unset, .unset, .unset, .unset, .unset, .unset, .unset, .unset] [(.long (p2.toInt64)), (.long (p1.toInt64))])) _
    refine XS.ladd X10.here hx rfl (hb hby at_135) rfl ?_
    show Steps p.tables e below (T10.setTop (mkF m 136 #[.val (.int p1), .val (.int p2), .val (.int p3), .val (.int p4), .val (.int (p4 &&& (3 : Int32))), .val (.ref b5), .val (.double (FP.ddiv (FP.l2d (((p1.toInt64) + (p2.toInt64)) + (p3.toInt64))) (FP.l2d (3 : Int64)))), .second, .unset, .unset, .unset, .unset, .unset, .unset, .unset, .unset, .unset, .unset] [(.long ((p1.toInt64) + (p2.toInt64)))])) _
    refine XS.iloadN X10.here hx rfl (hb hby at_136) rfl ?_
    show Steps p.tables e below (T10.setTop (mkF m 137 #[.val (.int p1), .val (.int p2), .val (.int p3), .val (.int p4), .val (.int (p4 &&& (3 : Int32))), .val (.ref b5), .val (.double (FP.ddiv (FP.l2d (((p1.toInt64) + (p2.toInt64)) + (p3.toInt64))) (FP.l2d (3 : Int64)))), .second, .unset, .unset, .unset, .unset, .unset, .unset, .unset, .unset, .unset, .unset] [(.int p3), (.long ((p1.toInt64) + (p2.toInt64)))])) _
    refine XS.i2l X10.here hx rfl (hb hby at_137) rfl ?_
    show Steps p.tables e below (T10.setTop (mkF m 138 #[.val (.int p1), .val (.int p2), .val (.int p3), .val (.int p4), .val (.int (p4 &&& (3 : Int32))), .val (.ref b5), .val (.double (FP.ddiv (FP.l2d (((p1.toInt64) + (p2.toInt64)) + (p3.toInt64))) (FP.l2d (3 : Int64)))), .second, .unset, .unset, .unset, .unset, .unset, .unset, .unset, .unset, .unset, .unset] [(.long (p3.toInt64)), (.long ((p1.toInt64) + (p2.toInt64)))])) _
    refine XS.ladd X10.here hx rfl (hb hby at_138) rfl ?_
    show Steps p.tables e below (T10.setTop (mkF m 139 #[.val (.int p1), .val (.int p2), .val (.int p3), .val (.int p4), .val (.int (p4 &&& (3 : Int32))), .val (.ref b5), .val (.double (FP.ddiv (FP.l2d (((p1.toInt64) + (p2.toInt64)) + (p3.toInt64))) (FP.l2d (3 : Int64)))), .second, .unset, .unset, .unset, .unset, .unset, .unset, .unset, .unset, .unset, .unset] [(.long (((p1.toInt64) + (p2.toInt64)) + (p3.toInt64)))])) _
    refine XS.lstore X10.here hx rfl (hb hby at_139) rfl (l' := #[.val (.int p1), .val (.int p2), .val (.int p3), .val (.int p4), .val (.int (p4 &&& (3 : Int32))), .val (.ref b5), .val (.double (FP.ddiv (FP.l2d (((p1.toInt64) + (p2.toInt64)) + (p3.toInt64))) (FP.l2d (3 : Int64)))), .second, .val (.long (((p1.toInt64) + (p2.toInt64)) + (p3.toInt64))), .second, .unset, .unset, .unset, .unset, .unset, .unset, .unset, .unset]) rfl ?_
    show Steps p.tables e below (T10.setTop (mkF m 141 #[.val (.int p1), .val (.int p2), .val (.int p3), .val (.int p4), .val (.int (p4 &&& (3 : Int32))), .val (.ref b5), .val (.double (FP.ddiv (FP.l2d (((p1.toInt64) + (p2.toInt64)) + (p3.toInt64))) (FP.l2d (3 : Int64)))), .second, .val (.long (((p1.toInt64) + (p2.toInt64)) + (p3.toInt64))), .second, .unset, .unset, .unset, .unset, .unset, .unset, .unset, .unset] [])) _
    refine XS.lload X10.here hx rfl (hb hby at_141) rfl ?_
    show Steps p.tables e below (T10.setTop (mkF m 143 #[.val (.int p1), .val (.int p2), .val (.int p3), .val (.int p4), .val (.int (p4 &&& (3 : Int32))), .val (.ref b5), .val (.double (FP.ddiv (FP.l2d (((p1.toInt64) + (p2.toInt64)) + (p3.toInt64))) (FP.l2d (3 : Int64)))), .second, .val (.long (((p1.toInt64) + (p2.toInt64)) + (p3.toInt64))), .second, .unset, .unset, .unset, .unset, .unset, .unset, .unset, .unset] [(.long (((p1.toInt64) + (p2.toInt64)) + (p3.toInt64)))])) _
    refine X10.ldc2Long hx hown (mvT hZ (hw _ (List.mem_of_getElem? (i := 38) rfl))) (g := (mkF m 143 #[.val (.int p1), .val (.int p2), .val (.int p3), .val (.int p4), .val (.int (p4 &&& (3 : Int32))), .val (.ref b5), .val (.double (FP.ddiv (FP.l2d (((p1.toInt64) + (p2.toInt64)) + (p3.toInt64))) (FP.l2d (3 : Int64)))), .second, .val (.long (((p1.toInt64) + (p2.toInt64)) + (p3.toInt64))), .second, .unset, .unset, .unset, .unset, .unset, .unset, .unset, .unset] [(.long (((p1.toInt64) + (p2.toInt64)) + (p3.toInt64)))])) rfl (hb hby at_143) _ ?_
    show Steps p.tables e below (T10.setTop (mkF m 146 #[.val (.int p1), .val (.int p2), .val (.int p3), .val (.int p4), .val (.int (p4 &&& (3 : Int32))), .val (.ref b5), .val (.double (FP.ddiv (FP.l2d (((p1.toInt64) + (p2.toInt64)) + (p3.toInt64))) (FP.l2d (3 : Int64)))), .second, .val (.long (((p1.toInt64) + (p2.toInt64)) + (p3.toInt64))), .second, .unset, .unset, .unset, .unset, .unset, .unset, .unset, .unset] [(.long (3 : Int64)), (.long (((p1.toInt64) + (p2.toInt64)) + (p3.toInt64)))])) _
    refine XS.ldiv X10.here hx rfl (hb hby at_146) rfl hnz146 ?_
    show Steps p.tables e below (T10.setTop (mkF m 147 #[.val (.int p1), .val (.int p2), .val (.int p3), .val (.int p4), .val (.int (p4 &&& (3 : Int32))), .val (.ref b5), .val (.double (FP.ddiv (FP.l2d (((p1.toInt64) + (p2.toInt64)) + (p3.toInt64))) (FP.l2d (3 : Int64)))), .second, .val (.long (((p1.toInt64) + (p2.toInt64)) + (p3.toInt64))), .second, .unset, .unset, .unset, .unset, .unset, .unset, .unset, .unset] [(.long ((((p1.toInt64) + (p2.toInt64)) + (p3.toInt64)) / (3 : Int64)))])) _
    refine XS.lstore X10.here hx rfl (hb hby at_147) rfl (l' := #[.val (.int p1), .val (.int p2), .val (.int p3), .val (.int p4), .val (.int (p4 &&& (3 : Int32))), .val (.ref b5), .val (.double (FP.ddiv (FP.l2d (((p1.toInt64) + (p2.toInt64)) + (p3.toInt64))) (FP.l2d (3 : Int64)))), .second, .val (.long (((p1.toInt64) + (p2.toInt64)) + (p3.toInt64))), .second, .val (.long ((((p1.toInt64) + (p2.toInt64)) + (p3.toInt64)) / (3 : Int64))), .second, .unset, .unset, .unset, .unset, .unset, .unset]) rfl ?_
    show Steps p.tables e below (T10.setTop (mkF m 149 #[.val (.int p1), .val (.int p2), .val (.int p3), .val (.int p4), .val (.int (p4 &&& (3 : Int32))), .val (.ref b5), .val (.double (FP.ddiv (FP.l2d (((p1.toInt64) + (p2.toInt64)) + (p3.toInt64))) (FP.l2d (3 : Int64)))), .second, .val (.long (((p1.toInt64) + (p2.toInt64)) + (p3.toInt64))), .second, .val (.long ((((p1.toInt64) + (p2.toInt64)) + (p3.toInt64)) / (3 : Int64))), .second, .unset, .unset, .unset, .unset, .unset, .unset] [])) _
    refine XS.lload X10.here hx rfl (hb hby at_149) rfl ?_
    show Steps p.tables e below (T10.setTop (mkF m 151 #[.val (.int p1), .val (.int p2), .val (.int p3), .val (.int p4), .val (.int (p4 &&& (3 : Int32))), .val (.ref b5), .val (.double (FP.ddiv (FP.l2d (((p1.toInt64) + (p2.toInt64)) + (p3.toInt64))) (FP.l2d (3 : Int64)))), .second, .val (.long (((p1.toInt64) + (p2.toInt64)) + (p3.toInt64))), .second, .val (.long ((((p1.toInt64) + (p2.toInt64)) + (p3.toInt64)) / (3 : Int64))), .second, .unset, .unset, .unset, .unset, .unset, .unset] [(.long (((p1.toInt64) + (p2.toInt64)) + (p3.toInt64)))])) _
    refine X10.ldc2Long hx hown (mvT hZ (hw _ (List.mem_of_getElem? (i := 38) rfl))) (g := (mkF m 151 #[.val (.int p1), .val (.int p2), .val (.int p3), .val (.int p4), .val (.int (p4 &&& (3 : Int32))), .val (.ref b5), .val (.double (FP.ddiv (FP.l2d (((p1.toInt64) + (p2.toInt64)) + (p3.toInt64))) (FP.l2d (3 : Int64)))), .second, .val (.long (((p1.toInt64) + (p2.toInt64)) + (p3.toInt64))), .second, .val (.long ((((p1.toInt64) + (p2.toInt64)) + (p3.toInt64)) / (3 : Int64))), .second, .unset, .unset, .unset, .unset, .unset, .unset] [(.long (((p1.toInt64) + (p2.toInt64)) + (p3.toInt64)))])) rfl (hb hby at_151) _ ?_
    show Steps p.tables e below (T10.setTop (mkF m 154 #[.val (.int p1), .val (.int p2), .val (.int p3), .val (.int p4), .val (.int (p4 &&& (3 : Int32))), .val (.ref b5), .val (.double (FP.ddiv (FP.l2d (((p1.toInt64) + (p2.toInt64)) + (p3.toInt64))) (FP.l2d (3 : Int64)))), .second, .val (.long (((p1.toInt64) + (p2.toInt64)) + (p3.toInt64))), .second, .val (.long ((((p1.toInt64) + (p2.toInt64)) + (p3.toInt64)) / (3 : Int64))), .second, .unset, .unset, .unset, .unset, .unset, .unset] [(.long (3 : Int64)), (.long (((p1.toInt64) + (p2.toInt64)) + (p3.toInt64)))])) _
    refine XS.lload X10.here hx rfl (hb hby at_154) rfl ?_
    show Steps p.tables e below (T10.setTop (mkF m 156 #[.val (.int p1), .val (.int p2), .val (.int p3), .val (.int p4), .val (.int (p4 &&& (3 : Int32))), .val (.ref b5), .val (.double (FP.ddiv (FP.l2d (((p1.toInt64) + (p2.toInt64)) + (p3.toInt64))) (FP.l2d (3 : Int64)))), .second, .val (.long (((p1.toInt64) + (p2.toInt64)) + (p3.toInt64))), .second, .val (.long ((((p1.toInt64) + (p2.toInt64)) + (p3.toInt64)) / (3 : Int64))), .second, .unset, .unset, .unset, .unset, .unset, .unset] [(.long ((((p1.toInt64) + (p2.toInt64)) + (p3.toInt64)) / (3 : Int64))), (.long (3 : Int64)), (.long (((p1.toInt64) + (p2.toInt64)) + (p3.toInt64)))])) _
    refine XS.lmul X10.here hx rfl (hb hby at_156) rfl ?_
    show Steps p.tables e below (T10.setTop (mkF m 157 #[.val (.int p1), .val (.int p2), .val (.int p3), .val (.int p4), .val (.int (p4 &&& (3 : Int32))), .val (.ref b5), .val (.double (FP.ddiv (FP.l2d (((p1.toInt64) + (p2.toInt64)) + (p3.toInt64))) (FP.l2d (3 : Int64)))), .second, .val (.long (((p1.toInt64) + (p2.toInt64)) + (p3.toInt64))), .second, .val (.long ((((p1.toInt64) + (p2.toInt64)) + (p3.toInt64)) / (3 : Int64))), .second, .unset, .unset, .unset, .unset, .unset, .unset] [(.long ((3 : Int64) * ((((p1.toInt64) + (p2.toInt64)) + (p3.toInt64)) / (3 : Int64)))), (.long (((p1.toInt64) + (p2.toInt64)) + (p3.toInt64)))])) _
    refine XS.lsub X10.here hx rfl (hb hby at_157) rfl ?_
    show Steps p.tables e below (T10.setTop (mkF m 158 #[.val (.int p1), .val (.int p2), .val (.int p3), .val (.int p4), .val (.int (p4 &&& (3 : Int32))), .val (.ref b5), .val (.double (FP.ddiv (FP.l2d (((p1.toInt64) + (p2.toInt64)) + (p3.toInt64))) (FP.l2d (3 : Int64)))), .second, .val (.long (((p1.toInt64) + (p2.toInt64)) + (p3.toInt64))), .second, .val (.long ((((p1.toInt64) + (p2.toInt64)) + (p3.toInt64)) / (3 : Int64))), .second, .unset, .unset, .unset, .unset, .unset, .unset] [(.long ((((p1.toInt64) + (p2.toInt64)) + (p3.toInt64)) - ((3 : Int64) * ((((p1.toInt64) + (p2.toInt64)) + (p3.toInt64)) / (3 : Int64)))))])) _
    refine XS.lstore X10.here hx rfl (hb hby at_158) rfl (l' := #[.val (.int p1), .val (.int p2), .val (.int p3), .val (.int p4), .val (.int (p4 &&& (3 : Int32))), .val (.ref b5), .val (.double (FP.ddiv (FP.l2d (((p1.toInt64) + (p2.toInt64)) + (p3.toInt64))) (FP.l2d (3 : Int64)))), .second, .val (.long (((p1.toInt64) + (p2.toInt64)) + (p3.toInt64))), .second, .val (.long ((((p1.toInt64) + (p2.toInt64)) + (p3.toInt64)) / (3 : Int64))), .second, .val (.long ((((p1.toInt64) + (p2.toInt64)) + (p3.toInt64)) - ((3 : Int64) * ((((p1.toInt64) + (p2.toInt64)) + (p3.toInt64)) / (3 : Int64))))), .second, .unset, .unset, .unset, .unset]) rfl ?_
    show Steps p.tables e below (T10.setTop (mkF m 160 #[.val (.int p1), .val (.int p2), .val (.int p3), .val (.int p4), .val (.int (p4 &&& (3 : Int32))), .val (.ref b5), .val (.double (FP.ddiv (FP.l2d (((p1.toInt64) + (p2.toInt64)) + (p3.toInt64))) (FP.l2d (3 : Int64)))), .second, .val (.long (((p1.toInt64) + (p2.toInt64)) + (p3.toInt64))), .second, .val (.long ((((p1.toInt64) + (p2.toInt64)) + (p3.toInt64)) / (3 : Int64))), .second, .val (.long ((((p1.toInt64) + (p2.toInt64)) + (p3.toInt64)) - ((3 : Int64) * ((((p1.toInt64) + (p2.toInt64)) + (p3.toInt64)) / (3 : Int64))))), .second, .unset, .unset, .unset, .unset] [])) _
    refine XS.lload X10.here hx rfl (hb hby at_160) rfl ?_
    show Steps p.tables e below (T10.setTop (mkF m 162 #[.val (.int p1), .val (.int p2), .val (.int p3), .val (.int p4), .val (.int (p4 &&& (3 : Int32))), .val (.ref b5), .val (.double (FP.ddiv (FP.l2d (((p1.toInt64) + (p2.toInt64)) + (p3.toInt64))) (FP.l2d (3 : Int64)))), .second, .val (.long (((p1.toInt64) + (p2.toInt64)) + (p3.toInt64))), .second, .val (.long ((((p1.toInt64) + (p2.toInt64)) + (p3.toInt64)) / (3 : Int64))), .second, .val (.long ((((p1.toInt64) + (p2.toInt64)) + (p3.toInt64)) - ((3 : Int64) * ((((p1.toInt64) + (p2.toInt64)) + (p3.toInt64)) / (3 : Int64))))), .second, .unset, .unset, .unset, .unset] [(.long ((((p1.toInt64) + (p2.toInt64)) + (p3.toInt64)) - ((3 : Int64) * ((((p1.toInt64) + (p2.toInt64)) + (p3.toInt64)) / (3 : Int64)))))])) _
    refine XS.lconst X10.here hx rfl (hb hby at_162) ?_
    show Steps p.tables e below (T10.setTop (mkF m 163 #[.val (.int p1), .val (.int p2), .val (.int p3), .val (.int p4), .val (.int (p4 &&& (3 : Int32))), .val (.ref b5), .val (.double (FP.ddiv (FP.l2d (((p1.toInt64) + (p2.toInt64)) + (p3.toInt64))) (FP.l2d (3 : Int64)))), .second, .val (.long (((p1.toInt64) + (p2.toInt64)) + (p3.toInt64))), .second, .val (.long ((((p1.toInt64) + (p2.toInt64)) + (p3.toInt64)) / (3 : Int64))), .second, .val (.long ((((p1.toInt64) + (p2.toInt64)) + (p3.toInt64)) - ((3 : Int64) * ((((p1.toInt64) + (p2.toInt64)) + (p3.toInt64)) / (3 : Int64))))), .second, .unset, .unset, .unset, .unset] [(.long (0 : Int64)), (.long ((((p1.toInt64) + (p2.toInt64)) + (p3.toInt64)) - ((3 : Int64) * ((((p1.toInt64) + (p2.toInt64)) + (p3.toInt64)) / (3 : Int64)))))])) _
    refine XS.lcmp X10.here hx rfl (hb hby at_163) rfl ?_
    show Steps p.tables e below (T10.setTop (mkF m 164 #[.val (.int p1), .val (.int p2), .val (.int p3), .val (.int p4), .val (.int (p4 &&& (3 : Int32))), .val (.ref b5), .val (.double (FP.ddiv (FP.l2d (((p1.toInt64) + (p2.toInt64)) + (p3.toInt64))) (FP.l2d (3 : Int64)))), .second, .val (.long (((p1.toInt64) + (p2.toInt64)) + (p3.toInt64))), .second, .val (.long ((((p1.toInt64) + (p2.toInt64)) + (p3.toInt64)) / (3 : Int64))), .second, .val (.long ((((p1.toInt64) + (p2.toInt64)) + (p3.toInt64)) - ((3 : Int64) * ((((p1.toInt64) + (p2.toInt64)) + (p3.toInt64)) / (3 : Int64))))), .second, .unset, .unset, .unset, .unset] [(.int (lcmpW ((((p1.toInt64) + (p2.toInt64)) + (p3.toInt64)) - ((3 : Int64) * ((((p1.toInt64) + (p2.toInt64)) + (p3.toInt64)) / (3 : Int64)))) (0 : Int64)))])) _
    refine XS.ifYes X10.here hx rfl (pc0 := 164) (pc' := 182) rfl (hb hby at_164) rfl ((if0 _ _).trans (feq hc164).2) (by decide) (by decide) ?_
    show Steps p.tables e below (T10.setTop (mkF m 182 #[.val (.int p1), .val (.int p2), .val (.int p3), .val (.int p4), .val (.int (p4 &&& (3 : Int32))), .val (.ref b5), .val (.double (FP.ddiv (FP.l2d (((p1.toInt64) + (p2.toInt64)) + (p3.toInt64))) (FP.l2d (3 : Int64)))), .second, .val (.long (((p1.toInt64) + (p2.toInt64)) + (p3.toInt64))), .second, .val (.long ((((p1.toInt64) + (p2.toInt64)) + (p3.toInt64)) / (3 : Int64))), .second, .val (.long ((((p1.toInt64) + (p2.toInt64)) + (p3.toInt64)) - ((3 : Int64) * ((((p1.toInt64) + (p2.toInt64)) + (p3.toInt64)) / (3 : Int64))))), .second, .unset, .unset, .unset, .unset] [])) _
    refine X10.ldc2DoubleC hx hown (mvT hZ (hw _ (List.mem_of_getElem? (i := 39) rfl))) (g := (mkF m 182 #[.val (.int p1), .val (.int p2), .val (.int p3), .val (.int p4), .val (.int (p4 &&& (3 : Int32))), .val (.ref b5), .val (.double (FP.ddiv (FP.l2d (((p1.toInt64) + (p2.toInt64)) + (p3.toInt64))) (FP.l2d (3 : Int64)))), .second, .val (.long (((p1.toInt64) + (p2.toInt64)) + (p3.toInt64))), .second, .val (.long ((((p1.toInt64) + (p2.toInt64)) + (p3.toInt64)) / (3 : Int64))), .second, .val (.long ((((p1.toInt64) + (p2.toInt64)) + (p3.toInt64)) - ((3 : Int64) * ((((p1.toInt64) + (p2.toInt64)) + (p3.toInt64)) / (3 : Int64))))), .second, .unset, .unset, .unset, .unset] [])) rfl (hb hby at_182) _ ?_
    show Steps p.tables e below (T10.setTop (mkF m 185 #[.val (.int p1), .val (.int p2), .val (.int p3), .val (.int p4), .val (.int (p4 &&& (3 : Int32))), .val (.ref b5), .val (.double (FP.ddiv (FP.l2d (((p1.toInt64) + (p2.toInt64)) + (p3.toInt64))) (FP.l2d (3 : Int64)))), .second, .val (.long (((p1.toInt64) + (p2.toInt64)) + (p3.toInt64))), .second, .val (.long ((((p1.toInt64) + (p2.toInt64)) + (p3.toInt64)) / (3 : Int64))), .second, .val (.long ((((p1.toInt64) + (p2.toInt64)) + (p3.toInt64)) - ((3 : Int64) * ((((p1.toInt64) + (p2.toInt64)) + (p3.toInt64)) / (3 : Int64))))), .second, .unset, .unset, .unset, .unset] [(.double (4562146422526312448 : UInt64))])) _
    refine XS.dstore X10.here hx rfl (hb hby at_185) rfl (l' := #[.val (.int p1), .val (.int p2), .val (.int p3), .val (.int p4), .val (.int (p4 &&& (3 : Int32))), .val (.ref b5), .val (.double (FP.ddiv (FP.l2d (((p1.toInt64) + (p2.toInt64)) + (p3.toInt64))) (FP.l2d (3 : Int64)))), .second, .val (.long (((p1.toInt64) + (p2.toInt64)) + (p3.toInt64))), .second, .val (.long ((((p1.toInt64) + (p2.toInt64)) + (p3.toInt64)) / (3 : Int64))), .second, .val (.long ((((p1.toInt64) + (p2.toInt64)) + (p3.toInt64)) - ((3 : Int64) * ((((p1.toInt64) + (p2.toInt64)) + (p3.toInt64)) / (3 : Int64))))), .second, .val (.double (4562146422526312448 : UInt64)), .second, .unset, .unset]) rfl ?_
    show Steps p.tables e below (T10.setTop (mkF m 187 #[.val (.int p1), .val (.int p2), .val (.int p3), .val (.int p4), .val (.int (p4 &&& (3 : Int32))), .val (.ref b5), .val (.double (FP.ddiv (FP.l2d (((p1.toInt64) + (p2.toInt64)) + (p3.toInt64))) (FP.l2d (3 : Int64)))), .second, .val (.long (((p1.toInt64) + (p2.toInt64)) + (p3.toInt64))), .second, .val (.long ((((p1.toInt64) + (p2.toInt64)) + (p3.toInt64)) / (3 : Int64))), .second, .val (.long ((((p1.toInt64) + (p2.toInt64)) + (p3.toInt64)) - ((3 : Int64) * ((((p1.toInt64) + (p2.toInt64)) + (p3.toInt64)) / (3 : Int64))))), .second, .val (.double (4562146422526312448 : UInt64)), .second, .unset, .unset] [])) _
    refine XS.dload X10.here hx rfl (hb hby at_187) rfl ?_
    show Steps p.tables e below (T10.setTop (mkF m 189 #[.val (.int p1), .val (.int p2), .val (.int p3), .val (.int p4), .val (.int (p4 &&& (3 : Int32))), .val (.ref b5), .val (.double (FP.ddiv (FP.l2d (((p1.toInt64) + (p2.toInt64)) + (p3.toInt64))) (FP.l2d (3 : Int64)))), .second, .val (.long (((p1.toInt64) + (p2.toInt64)) + (p3.toInt64))), .second, .val (.long ((((p1.toInt64) + (p2.toInt64)) + (p3.toInt64)) / (3 : Int64))), .second, .val (.long ((((p1.toInt64) + (p2.toInt64)) + (p3.toInt64)) - ((3 : Int64) * ((((p1.toInt64) + (p2.toInt64)) + (p3.toInt64)) / (3 : Int64))))), .second, .val (.double (4562146422526312448 : UInt64)), .second, .unset, .unset] [(.double (FP.ddiv (FP.l2d (((p1.toInt64) + (p2.toInt64)) + (p3.toInt64))) (FP.l2d (3 : Int64))))])) _
    refine X10.ldc2DoubleC hx hown (mvT hZ (hw _ (List.mem_of_getElem? (i := 40) rfl))) (g := (mkF m 189 #[.val (.int p1), .val (.int p2), .val (.int p3), .val (.int p4), .val (.int (p4 &&& (3 : Int32))), .val (.ref b5), .val (.double (FP.ddiv (FP.l2d (((p1.toInt64) + (p2.toInt64)) + (p3.toInt64))) (FP.l2d (3 : Int64)))), .second, .val (.long (((p1.toInt64) + (p2.toInt64)) + (p3.toInt64))), .second, .val (.long ((((p1.toInt64) + (p2.toInt64)) + (p3.toInt64)) / (3 : Int64))), .second, .val (.long ((((p1.toInt64) + (p2.toInt64)) + (p3.toInt64)) - ((3 : Int64) * ((((p1.toInt64) + (p2.toInt64)) + (p3.toInt64)) / (3 : Int64))))), .second, .val (.double (4562146422526312448 : UInt64)), .second, .unset, .unset] [(.double (FP.ddiv (FP.l2d (((p1.toInt64) + (p2.toInt64)) + (p3.toInt64))) (FP.l2d (3 : Int64))))])) rfl (hb hby at_189) _ ?_
    show Steps p.tables e below (T10.setTop (mkF m 192 #[.val (.int p1), .val (.int p2), .val (.int p3), .val (.int p4), .val (.int (p4 &&& (3 : Int32))), .val (.ref b5), .val (.double (FP.ddiv (FP.l2d (((p1.toInt64) + (p2.toInt64)) + (p3.toInt64))) (FP.l2d (3 : Int64)))), .second, .val (.long (((p1.toInt64) + (p2.toInt64)) + (p3.toInt64))), .second, .val (.long ((((p1.toInt64) + (p2.toInt64)) + (p3.toInt64)) / (3 : Int64))), .second, .val (.long ((((p1.toInt64) + (p2.toInt64)) + (p3.toInt64)) - ((3 : Int64) * ((((p1.toInt64) + (p2.toInt64)) + (p3.toInt64)) / (3 : Int64))))), .second, .val (.double (4562146422526312448 : UInt64)), .second, .unset, .unset] [(.double (4613937818241073152 : UInt64)), (.double (FP.ddiv (FP.l2d (((p1.toInt64) + (p2.toInt64)) + (p3.toInt64))) (FP.l2d (3 : Int64))))])) _
    refine XS.dmulS X10.here hx rfl (hb hby at_192) rfl hp3 rfl ?_
    show Steps p.tables e below (T10.setTop (mkF m 193 #[.val (.int p1), .val (.int p2), .val (.int p3), .val (.int p4), .val (.int (p4 &&& (3 : Int32))), .val (.ref b5), .val (.double (FP.ddiv (FP.l2d (((p1.toInt64) + (p2.toInt64)) + (p3.toInt64))) (FP.l2d (3 : Int64)))), .second, .val (.long (((p1.toInt64) + (p2.toInt64)) + (p3.toInt64))), .second, .val (.long ((((p1.toInt64) + (p2.toInt64)) + (p3.toInt64)) / (3 : Int64))), .second, .val (.long ((((p1.toInt64) + (p2.toInt64)) + (p3.toInt64)) - ((3 : Int64) * ((((p1.toInt64) + (p2.toInt64)) + (p3.toInt64)) / (3 : Int64))))), .second, .val (.double (4562146422526312448 : UInt64)), .second, .unset, .unset] [(.double (FP.dmul (FP.ddiv (FP.l2d (((p1.toInt64) + (p2.toInt64)) + (p3.toInt64))) (FP.l2d (3 : Int64))) (4613937818241073152 : UInt64)))])) _
    refine XS.lload X10.here hx rfl (hb hby at_193) rfl ?_
    show Steps p.tables e below (T10.setTop (mkF m 195 #[.val (.int p1), .val (.int p2), .val (.int p3), .val (.int p4), .val (.int (p4 &&& (3 : Int32))), .val (.ref b5), .val (.double (FP.ddiv (FP.l2d (((p1.toInt64) + (p2.toInt64)) + (p3.toInt64))) (FP.l2d (3 : Int64)))), .second, .val (.long (((p1.toInt64) + (p2.toInt64)) + (p3.toInt64))), .second, .val (.long ((((p1.toInt64) + (p2.toInt64)) + (p3.toInt64)) / (3 : Int64))), .second, .val (.long ((((p1.toInt64) + (p2.toInt64)) + (p3.toInt64)) - ((3 : Int64) * ((((p1.toInt64) + (p2.toInt64)) + (p3.toInt64)) / (3 : Int64))))), .second, .val (.double (4562146422526312448 : UInt64)), .second, .unset, .unset] [(.long (((p1.toInt64) + (p2.toInt64)) + (p3.toInt64))), (.double (FP.dmul (FP.ddiv (FP.l2d (((p1.toInt64) + (p2.toInt64)) + (p3.toInt64))) (FP.l2d (3 : Int64))) (4613937818241073152 : UInt64)))])) _
    refine XS.l2dS X10.here hx rfl (hb hby at_195) rfl rfl ?_
    show Steps p.tables e below (T10.setTop (mkF m 196 #[.val (.int p1), .val (.int p2), .val (.int p3), .val (.int p4), .val (.int (p4 &&& (3 : Int32))), .val (.ref b5), .val (.double (FP.ddiv (FP.l2d (((p1.toInt64) + (p2.toInt64)) + (p3.toInt64))) (FP.l2d (3 : Int64)))), .second, .val (.long (((p1.toInt64) + (p2.toInt64)) + (p3.toInt64))), .second, .val (.long ((((p1.toInt64) + (p2.toInt64)) + (p3.toInt64)) / (3 : Int64))), .second, .val (.long ((((p1.toInt64) + (p2.toInt64)) + (p3.toInt64)) - ((3 : Int64) * ((((p1.toInt64) + (p2.toInt64)) + (p3.toInt64)) / (3 : Int64))))), .second, .val (.double (4562146422526312448 : UInt64)), .second, .unset, .unset] [(.double (FP.l2d (((p1.toInt64) + (p2.toInt64)) + (p3.toInt64)))), (.double (FP.dmul (FP.ddiv (FP.l2d (((p1.toInt64) + (p2.toInt64)) + (p3.toInt64))) (FP.l2d (3 : Int64))) (4613937818241073152 : UInt64)))])) _
    refine XS.dsubS X10.here hx rfl (hb hby at_196) rfl hd3 rfl ?_
    show Steps p.tables e below (T10.setTop (mkF m 197 #[.val (.int p1), .val (.int p2), .val (.int p3), .val (.int p4), .val (.int (p4 &&& (3 : Int32))), .val (.ref b5), .val (.double (FP.ddiv (FP.l2d (((p1.toInt64) + (p2.toInt64)) + (p3.toInt64))) (FP.l2d (3 : Int64)))), .second, .val (.long (((p1.toInt64) + (p2.toInt64)) + (p3.toInt64))), .second, .val (.long ((((p1.toInt64) + (p2.toInt64)) + (p3.toInt64)) / (3 : Int64))), .second, .val (.long ((((p1.toInt64) + (p2.toInt64)) + (p3.toInt64)) - ((3 : Int64) * ((((p1.toInt64) + (p2.toInt64)) + (p3.toInt64)) / (3 : Int64))))), .second, .val (.double (4562146422526312448 : UInt64)), .second, .unset, .unset] [(.double (FP.dsub (FP.dmul (FP.ddiv (FP.l2d (((p1.toInt64) + (p2.toInt64)) + (p3.toInt64))) (FP.l2d (3 : Int64))) (4613937818241073152 : UInt64)) (FP.l2d (((p1.toInt64) + (p2.toInt64)) + (p3.toInt64)))))])) _
    refine XS.dstore X10.here hx rfl (hb hby at_197) rfl (l' := #[.val (.int p1), .val (.int p2), .val (.int p3), .val (.int p4), .val (.int (p4 &&& (3 : Int32))), .val (.ref b5), .val (.double (FP.ddiv (FP.l2d (((p1.toInt64) + (p2.toInt64)) + (p3.toInt64))) (FP.l2d (3 : Int64)))), .second, .val (.long (((p1.toInt64) + (p2.toInt64)) + (p3.toInt64))), .second, .val (.long ((((p1.toInt64) + (p2.toInt64)) + (p3.toInt64)) / (3 : Int64))), .second, .val (.long ((((p1.toInt64) + (p2.toInt64)) + (p3.toInt64)) - ((3 : Int64) * ((((p1.toInt64) + (p2.toInt64)) + (p3.toInt64)) / (3 : Int64))))), .second, .val (.double (4562146422526312448 : UInt64)), .second, .val (.double (FP.dsub (FP.dmul (FP.ddiv (FP.l2d (((p1.toInt64) + (p2.toInt64)) + (p3.toInt64))) (FP.l2d (3 : Int64))) (4613937818241073152 : UInt64)) (FP.l2d (((p1.toInt64) + (p2.toInt64)) + (p3.toInt64))))), .second]) rfl ?_
    show Steps p.tables e below (T10.setTop (mkF m 199 #[.val (.int p1), .val (.int p2), .val (.int p3), .val (.int p4), .val (.int (p4 &&& (3 : Int32))), .val (.ref b5), .val (.double (FP.ddiv (FP.l2d (((p1.toInt64) + (p2.toInt64)) + (p3.toInt64))) (FP.l2d (3 : Int64)))), .second, .val (.long (((p1.toInt64) + (p2.toInt64)) + (p3.toInt64))), .second, .val (.long ((((p1.toInt64) + (p2.toInt64)) + (p3.toInt64)) / (3 : Int64))), .second, .val (.long ((((p1.toInt64) + (p2.toInt64)) + (p3.toInt64)) - ((3 : Int64) * ((((p1.toInt64) + (p2.toInt64)) + (p3.toInt64)) / (3 : Int64))))), .second, .val (.double (4562146422526312448 : UInt64)), .second, .val (.double (FP.dsub (FP.dmul (FP.ddiv (FP.l2d (((p1.toInt64) + (p2.toInt64)) + (p3.toInt64))) (FP.l2d (3 : Int64))) (4613937818241073152 : UInt64)) (FP.l2d (((p1.toInt64) + (p2.toInt64)) + (p3.toInt64))))), .second] [])) _
    refine XS.dload X10.here hx rfl (hb hby at_199) rfl ?_
    show Steps p.tables e below (T10.setTop (mkF m 201 #[.val (.int p1), .val (.int p2), .val (.int p3), .val (.int p4), .val (.int (p4 &&& (3 : Int32))), .val (.ref b5), .val (.double (FP.ddiv (FP.l2d (((p1.toInt64) + (p2.toInt64)) + (p3.toInt64))) (FP.l2d (3 : Int64)))), .second, .val (.long (((p1.toInt64) + (p2.toInt64)) + (p3.toInt64))), .second, .val (.long ((((p1.toInt64) + (p2.toInt64)) + (p3.toInt64)) / (3 : Int64))), .second, .val (.long ((((p1.toInt64) + (p2.toInt64)) + (p3.toInt64)) - ((3 : Int64) * ((((p1.toInt64) + (p2.toInt64)) + (p3.toInt64)) / (3 : Int64))))), .second, .val (.double (4562146422526312448 : UInt64)), .second, .val (.double (FP.dsub (FP.dmul (FP.ddiv (FP.l2d (((p1.toInt64) + (p2.toInt64)) + (p3.toInt64))) (FP.l2d (3 : Int64))) (4613937818241073152 : UInt64)) (FP.l2d (((p1.toInt64) + (p2.toInt64)) + (p3.toInt64))))), .second] [(.double (4562146422526312448 : UInt64))])) _
    refine XS.dnegS X10.here hx rfl (hb hby at_201) rfl rfl ?_
    show Steps p.tables e below (T10.setTop (mkF m 202 #[.val (.int p1), .val (.int p2), .val (.int p3), .val (.int p4), .val (.int (p4 &&& (3 : Int32))), .val (.ref b5), .val (.double (FP.ddiv (FP.l2d (((p1.toInt64) + (p2.toInt64)) + (p3.toInt64))) (FP.l2d (3 : Int64)))), .second, .val (.long (((p1.toInt64) + (p2.toInt64)) + (p3.toInt64))), .second, .val (.long ((((p1.toInt64) + (p2.toInt64)) + (p3.toInt64)) / (3 : Int64))), .second, .val (.long ((((p1.toInt64) + (p2.toInt64)) + (p3.toInt64)) - ((3 : Int64) * ((((p1.toInt64) + (p2.toInt64)) + (p3.toInt64)) / (3 : Int64))))), .second, .val (.double (4562146422526312448 : UInt64)), .second, .val (.double (FP.dsub (FP.dmul (FP.ddiv (FP.l2d (((p1.toInt64) + (p2.toInt64)) + (p3.toInt64))) (FP.l2d (3 : Int64))) (4613937818241073152 : UInt64)) (FP.l2d (((p1.toInt64) + (p2.toInt64)) + (p3.toInt64))))), .second] [(.double (FP.dneg (4562146422526312448 : UInt64)))])) _
    refine XS.dload X10.here hx rfl (hb hby at_202) rfl ?_
    show Steps p.tables e below (T10.setTop (mkF m 204 #[.val (.int p1), .val (.int p2), .val (.int p3), .val (.int p4), .val (.int (p4 &&& (3 : Int32))), .val (.ref b5), .val (.double (FP.ddiv (FP.l2d (((p1.toInt64) + (p2.toInt64)) + (p3.toInt64))) (FP.l2d (3 : Int64)))), .second, .val (.long (((p1.toInt64) + (p2.toInt64)) + (p3.toInt64))), .second, .val (.long ((((p1.toInt64) + (p2.toInt64)) + (p3.toInt64)) / (3 : Int64))), .second, .val (.long ((((p1.toInt64) + (p2.toInt64)) + (p3.toInt64)) - ((3 : Int64) * ((((p1.toInt64) + (p2.toInt64)) + (p3.toInt64)) / (3 : Int64))))), .second, .val (.double (4562146422526312448 : UInt64)), .second, .val (.double (FP.dsub (FP.dmul (FP.ddiv (FP.l2d (((p1.toInt64) + (p2.toInt64)) + (p3.toInt64))) (FP.l2d (3 : Int64))) (4613937818241073152 : UInt64)) (FP.l2d (((p1.toInt64) + (p2.toInt64)) + (p3.toInt64))))), .second] [(.double (FP.dsub (FP.dmul (FP.ddiv (FP.l2d (((p1.toInt64) + (p2.toInt64)) + (p3.toInt64))) (FP.l2d (3 : Int64))) (4613937818241073152 : UInt64)) (FP.l2d (((p1.toInt64) + (p2.toInt64)) + (p3.toInt64))))), (.double (FP.dneg (4562146422526312448 : UInt64)))])) _
    refine XS.dcmpS X10.here hx rfl (hb hby at_204) rfl (own_clt hd) ?_
    show Steps p.tables e below (T10.setTop (mkF m 205 #[.val (.int p1), .val (.int p2), .val (.int p3), .val (.int p4), .val (.int (p4 &&& (3 : Int32))), .val (.ref b5), .val (.double (FP.ddiv (FP.l2d (((p1.toInt64) + (p2.toInt64)) + (p3.toInt64))) (FP.l2d (3 : Int64)))), .second, .val (.long (((p1.toInt64) + (p2.toInt64)) + (p3.toInt64))), .second, .val (.long ((((p1.toInt64) + (p2.toInt64)) + (p3.toInt64)) / (3 : Int64))), .second, .val (.long ((((p1.toInt64) + (p2.toInt64)) + (p3.toInt64)) - ((3 : Int64) * ((((p1.toInt64) + (p2.toInt64)) + (p3.toInt64)) / (3 : Int64))))), .second, .val (.double (4562146422526312448 : UInt64)), .second, .val (.double (FP.dsub (FP.dmul (FP.ddiv (FP.l2d (((p1.toInt64) + (p2.toInt64)) + (p3.toInt64))) (FP.l2d (3 : Int64))) (4613937818241073152 : UInt64)) (FP.l2d (((p1.toInt64) + (p2.toInt64)) + (p3.toInt64))))), .second] [(.int (-1 : Int32))])) _
    refine XS.ifNo X10.here hx rfl (hb hby at_205) rfl ((if0 _ _).trans (tlt hc205).2.1) ?_
    show Steps p.tables e below (T10.setTop (mkF m 208 #[.val (.int p1), .val (.int p2), .val (.int p3), .val (.int p4), .val (.int (p4 &&& (3 : Int32))), .val (.ref b5), .val (.double (FP.ddiv (FP.l2d (((p1.toInt64) + (p2.toInt64)) + (p3.toInt64))) (FP.l2d (3 : Int64)))), .second, .val (.long (((p1.toInt64) + (p2.toInt64)) + (p3.toInt64))), .second, .val (.long ((((p1.toInt64) + (p2.toInt64)) + (p3.toInt64)) / (3 : Int64))), .second, .val (.long ((((p1.toInt64) + (p2.toInt64)) + (p3.toInt64)) - ((3 : Int64) * ((((p1.toInt64) + (p2.toInt64)) + (p3.toInt64)) / (3 : Int64))))), .second, .val (.double (4562146422526312448 : UInt64)), .second, .val (.double (FP.dsub (FP.dmul (FP.ddiv (FP.l2d (((p1.toInt64) + (p2.toInt64)) + (p3.toInt64))) (FP.l2d (3 : Int64))) (4613937818241073152 : UInt64)) (FP.l2d (((p1.toInt64) + (p2.toInt64)) + (p3.toInt64))))), .second] [])) _
    refine XS.dload X10.here hx rfl (hb hby at_208) rfl ?_
    show Steps p.tables e below (T10.setTop (mkF m 210 #[.val (.int p1), .val (.int p2), .val (.int p3), .val (.int p4), .val (.int (p4 &&& (3 : Int32))), .val (.ref b5), .val (.double (FP.ddiv (FP.l2d (((p1.toInt64) + (p2.toInt64)) + (p3.toInt64))) (FP.l2d (3 : Int64)))), .second, .val (.long (((p1.toInt64) + (p2.toInt64)) + (p3.toInt64))), .second, .val (.long ((((p1.toInt64) + (p2.toInt64)) + (p3.toInt64)) / (3 : Int64))), .second, .val (.long ((((p1.toInt64) + (p2.toInt64)) + (p3.toInt64)) - ((3 : Int64) * ((((p1.toInt64) + (p2.toInt64)) + (p3.toInt64)) / (3 : Int64))))), .second, .val (.double (4562146422526312448 : UInt64)), .second, .val (.double (FP.dsub (FP.dmul (FP.ddiv (FP.l2d (((p1.toInt64) + (p2.toInt64)) + (p3.toInt64))) (FP.l2d (3 : Int64))) (4613937818241073152 : UInt64)) (FP.l2d (((p1.toInt64) + (p2.toInt64)) + (p3.toInt64))))), .second] [(.double (FP.dsub (FP.dmul (FP.ddiv (FP.l2d (((p1.toInt64) + (p2.toInt64)) + (p3.toInt64))) (FP.l2d (3 : Int64))) (4613937818241073152 : UInt64)) (FP.l2d (((p1.toInt64) + (p2.toInt64)) + (p3.toInt64)))))])) _
    refine XS.dload X10.here hx rfl (hb hby at_210) rfl ?_
    show Steps p.tables e below (T10.setTop (mkF m 212 #[.val (.int p1), .val (.int p2), .val (.int p3), .val (.int p4), .val (.int (p4 &&& (3 : Int32))), .val (.ref b5), .val (.double (FP.ddiv (FP.l2d (((p1.toInt64) + (p2.toInt64)) + (p3.toInt64))) (FP.l2d (3 : Int64)))), .second, .val (.long (((p1.toInt64) + (p2.toInt64)) + (p3.toInt64))), .second, .val (.long ((((p1.toInt64) + (p2.toInt64)) + (p3.toInt64)) / (3 : Int64))), .second, .val (.long ((((p1.toInt64) + (p2.toInt64)) + (p3.toInt64)) - ((3 : Int64) * ((((p1.toInt64) + (p2.toInt64)) + (p3.toInt64)) / (3 : Int64))))), .second, .val (.double (4562146422526312448 : UInt64)), .second, .val (.double (FP.dsub (FP.dmul (FP.ddiv (FP.l2d (((p1.toInt64) + (p2.toInt64)) + (p3.toInt64))) (FP.l2d (3 : Int64))) (4613937818241073152 : UInt64)) (FP.l2d (((p1.toInt64) + (p2.toInt64)) + (p3.toInt64))))), .second] [(.double (4562146422526312448 : UInt64)), (.double (FP.dsub (FP.dmul (FP.ddiv (FP.l2d (((p1.toInt64) + (p2.toInt64)) + (p3.toInt64))) (FP.l2d (3 : Int64))) (4613937818241073152 : UInt64)) (FP.l2d (((p1.toInt64) + (p2.toInt64)) + (p3.toInt64)))))])) _
    refine XS.dcmpS X10.here hx rfl (hb hby at_212) rfl (own_clt hd') ?_
    show Steps p.tables e below (T10.setTop (mkF m 213 #[.val (.int p1), .val (.int p2), .val (.int p3), .val (.int p4), .val (.int (p4 &&& (3 : Int32))), .val (.ref b5), .val (.double (FP.ddiv (FP.l2d (((p1.toInt64) + (p2.toInt64)) + (p3.toInt64))) (FP.l2d (3 : Int64)))), .second, .val (.long (((p1.toInt64) + (p2.toInt64)) + (p3.toInt64))), .second, .val (.long ((((p1.toInt64) + (p2.toInt64)) + (p3.toInt64)) / (3 : Int64))), .second, .val (.long ((((p1.toInt64) + (p2.toInt64)) + (p3.toInt64)) - ((3 : Int64) * ((((p1.toInt64) + (p2.toInt64)) + (p3.toInt64)) / (3 : Int64))))), .second, .val (.double (4562146422526312448 : UInt64)), .second, .val (.double (FP.dsub (FP.dmul (FP.ddiv (FP.l2d (((p1.toInt64) + (p2.toInt64)) + (p3.toInt64))) (FP.l2d (3 : Int64))) (4613937818241073152 : UInt64)) (FP.l2d (((p1.toInt64) + (p2.toInt64)) + (p3.toInt64))))), .second] [(.int (-1 : Int32))])) _
    refine XS.ifNo X10.here hx rfl (hb hby at_213) rfl ((if0 _ _).trans (tlt hc213).2.1) ?_
    show Steps p.tables e below (T10.setTop (mkF m 216 #[.val (.int p1), .val (.int p2), .val (.int p3), .val (.int p4), .val (.int (p4 &&& (3 : Int32))), .val (.ref b5), .val (.double (FP.ddiv (FP.l2d (((p1.toInt64) + (p2.toInt64)) + (p3.toInt64))) (FP.l2d (3 : Int64)))), .second, .val (.long (((p1.toInt64) + (p2.toInt64)) + (p3.toInt64))), .second, .val (.long ((((p1.toInt64) + (p2.toInt64)) + (p3.toInt64)) / (3 : Int64))), .second, .val (.long ((((p1.toInt64) + (p2.toInt64)) + (p3.toInt64)) - ((3 : Int64) * ((((p1.toInt64) + (p2.toInt64)) + (p3.toInt64)) / (3 : Int64))))), .second, .val (.double (4562146422526312448 : UInt64)), .second, .val (.double (FP.dsub (FP.dmul (FP.ddiv (FP.l2d (((p1.toInt64) + (p2.toInt64)) + (p3.toInt64))) (FP.l2d (3 : Int64))) (4613937818241073152 : UInt64)) (FP.l2d (((p1.toInt64) + (p2.toInt64)) + (p3.toInt64))))), .second] [])) _
    refine XS.iconst X10.here hx rfl (hb hby at_216) ?_
    show Steps p.tables e below (T10.setTop (mkF m 217 #[.val (.int p1), .val (.int p2), .val (.int p3), .val (.int p4), .val (.int (p4 &&& (3 : Int32))), .val (.ref b5), .val (.double (FP.ddiv (FP.l2d (((p1.toInt64) + (p2.toInt64)) + (p3.toInt64))) (FP.l2d (3 : Int64)))), .second, .val (.long (((p1.toInt64) + (p2.toInt64)) + (p3.toInt64))), .second, .val (.long ((((p1.toInt64) + (p2.toInt64)) + (p3.toInt64)) / (3 : Int64))), .second, .val (.long ((((p1.toInt64) + (p2.toInt64)) + (p3.toInt64)) - ((3 : Int64) * ((((p1.toInt64) + (p2.toInt64)) + (p3.toInt64)) / (3 : Int64))))), .second, .val (.double (4562146422526312448 : UInt64)), .second, .val (.double (FP.dsub (FP.dmul (FP.ddiv (FP.l2d (((p1.toInt64) + (p2.toInt64)) + (p3.toInt64))) (FP.l2d (3 : Int64))) (4613937818241073152 : UInt64)) (FP.l2d (((p1.toInt64) + (p2.toInt64)) + (p3.toInt64))))), .second] [(.int (1 : Int32))])) _
    refine XS.goto X10.here hx rfl (pc0 := 217) (pc' := 221) rfl (hb hby at_217) (by decide) (by decide) ?_
    show Steps p.tables e below (T10.setTop (mkF m 221 #[.val (.int p1), .val (.int p2), .val (.int p3), .val (.int p4), .val (.int (p4 &&& (3 : Int32))), .val (.ref b5), .val (.double (FP.ddiv (FP.l2d (((p1.toInt64) + (p2.toInt64)) + (p3.toInt64))) (FP.l2d (3 : Int64)))), .second, .val (.long (((p1.toInt64) + (p2.toInt64)) + (p3.toInt64))), .second, .val (.long ((((p1.toInt64) + (p2.toInt64)) + (p3.toInt64)) / (3 : Int64))), .second, .val (.long ((((p1.toInt64) + (p2.toInt64)) + (p3.toInt64)) - ((3 : Int64) * ((((p1.toInt64) + (p2.toInt64)) + (p3.toInt64)) / (3 : Int64))))), .second, .val (.double (4562146422526312448 : UInt64)), .second, .val (.double (FP.dsub (FP.dmul (FP.ddiv (FP.l2d (((p1.toInt64) + (p2.toInt64)) + (p3.toInt64))) (FP.l2d (3 : Int64))) (4613937818241073152 : UInt64)) (FP.l2d (((p1.toInt64) + (p2.toInt64)) + (p3.toInt64))))), .second] [(.int (1 : Int32))])) _
    exact retN X10 hx (t := .boolean) Bd.returns (by simp) (hb hby at_221) hr
  · show Q0 n0 _ _
    exact ⟨rfl, N10⟩
theorem own_mask (p : Int32) : (p &&& (3 : Int32)) = (0 : Int32) ∨ (p &&& (3 : Int32)) = (1 : Int32) ∨ (p &&& (3 : Int32)) = (2 : Int32) ∨ (p &&& (3 : Int32)) = (3 : Int32) := by
  have e1 : (p &&& (3 : Int32)).toInt = p.toInt % (2 ^ 2 : Nat) := c_mask p _ 2 (by decide) (by decide)
  have h : (p &&& (3 : Int32)).toInt = 0 ∨ (p &&& (3 : Int32)).toInt = 1 ∨ (p &&& (3 : Int32)).toInt = 2 ∨ (p &&& (3 : Int32)).toInt = 3 := by omega
  rcases h with h | h | h | h
  · exact Or.inl (Int32.toInt_inj.mp (h.trans (by decide)))
  · exact Or.inr (Or.inl (Int32.toInt_inj.mp (h.trans (by decide))))
  · exact Or.inr (Or.inr (Or.inl (Int32.toInt_inj.mp (h.trans (by decide)))))
  · exact Or.inr (Or.inr (Or.inr ((Int32.toInt_inj.mp (h.trans (by decide))))))
set_option maxRecDepth 65536 in
set_option maxHeartbeats 40000000 in
theorem rm0 (l : Launch) (Z : State) (a0 : Array Value) (hw : ∀ d ∈ tables_1, d.before a0 Z = true) (ws : List Jvm.Cond) (p1 p2 p3 p4 : Int32) (h0 : Heap) (n0 : Nat) (Z0 : n0 ≤ h0.size)  :
    MetFree l x (head1 (Jvm.Cond.code x code maxLocals ret :: ws) room_1) (fun a U => a = #[(.int p1), (.int p2), (.int p3), (.int p4)] ∧ Z.Warmed39 U.vm ∧ U.heap = h0) (fun _ _ _ _ _ => True) (fun _ U o U' => ∃ v L, o = .returned v ∧ Q0 n0 v L ∧ FrameEnd U o U' L 1 4) := by
  have ra := rng32 p1
  have ea := c_i2l p1
  have rb := rng32 p2
  have eb := c_i2l p2
  have rc := rng32 p3
  have ec := c_i2l p3
  have s2 := c_ladd (p1.toInt64) (p2.toInt64)
  have b2 := rng64 ((p1.toInt64) + (p2.toInt64))
  have e2 : ((p1.toInt64) + (p2.toInt64)).toInt = p1.toInt + p2.toInt := by omega
  have s3 := c_ladd ((p1.toInt64) + (p2.toInt64)) (p3.toInt64)
  have b3 := rng64 (((p1.toInt64) + (p2.toInt64)) + (p3.toInt64))
  have e3 : (((p1.toInt64) + (p2.toInt64)) + (p3.toInt64)).toInt = p1.toInt + p2.toInt + p3.toInt := by omega
  have m1 : FP.Core.Small53 (p1.toInt64) := ⟨by omega, by omega⟩
  have m2 : FP.Core.Small53 ((p1.toInt64) + (p2.toInt64)) := ⟨by omega, by omega⟩
  have m3 : FP.Core.Small53 (((p1.toInt64) + (p2.toInt64)) + (p3.toInt64)) := ⟨by omega, by omega⟩
  rcases own_mask p4 with h | h | h | h
  · exact rm0_0 l Z a0 hw ws p1 p2 p3 p4 h0 n0 Z0 (by rw [h] <;> decide) (by rw [h] <;> decide) (by rw [h] <;> decide) (by rw [h] <;> decide) (by decide)
  · obtain ⟨x1, x2⟩ := FP.Core.own_mean1 m1
    exact rm0_1 l Z a0 hw ws p1 p2 p3 p4 h0 n0 Z0 (Jvm.Free.Fl.val64_no.mpr x1) x2 (by rw [h] <;> decide) (by rw [h] <;> decide) (by rw [h] <;> decide) (by rw [h] <;> decide) (by rw [h] <;> decide)
  · obtain ⟨x1, x2, x3⟩ := FP.Core.own_mean2 m2
    exact rm0_2 l Z a0 hw ws p1 p2 p3 p4 h0 n0 Z0 (Jvm.Free.Fl.val64_no.mpr x1) (Jvm.Free.Fl.val64_no.mpr x2) x3 (by rw [h] <;> decide) (by rw [h] <;> decide) (by rw [h] <;> decide) (by rw [h] <;> decide) (by rw [h] <;> decide) (by rw [h] <;> decide)
  · obtain ⟨d1, d2⟩ := c_ldiv (((p1.toInt64) + (p2.toInt64)) + (p3.toInt64)) (3 : Int64) 3 (by decide) (by decide)
    have dq : -3000000000 ≤ ((((p1.toInt64) + (p2.toInt64)) + (p3.toInt64)) / (3 : Int64)).toInt ∧ ((((p1.toInt64) + (p2.toInt64)) + (p3.toInt64)) / (3 : Int64)).toInt ≤ 3000000000 := by
      rcases Int.lt_or_le (((p1.toInt64) + (p2.toInt64)) + (p3.toInt64)).toInt 0 with q | q
      · have := d2 q; omega
      · have := d1 q; omega
    have t3 : (3 : Int64).toInt = 3 := by decide
    have mm := c_lmul (3 : Int64) ((((p1.toInt64) + (p2.toInt64)) + (p3.toInt64)) / (3 : Int64))
    rw [t3] at mm
    have mb := rng64 ((3 : Int64) * ((((p1.toInt64) + (p2.toInt64)) + (p3.toInt64)) / (3 : Int64)))
    have me : ((3 : Int64) * ((((p1.toInt64) + (p2.toInt64)) + (p3.toInt64)) / (3 : Int64))).toInt = 3 * ((((p1.toInt64) + (p2.toInt64)) + (p3.toInt64)) / (3 : Int64)).toInt := by omega
    have ms := c_lsub (((p1.toInt64) + (p2.toInt64)) + (p3.toInt64)) ((3 : Int64) * ((((p1.toInt64) + (p2.toInt64)) + (p3.toInt64)) / (3 : Int64)))
    have z64 : (0 : Int64).toInt = 0 := by decide
    by_cases hr : ((((p1.toInt64) + (p2.toInt64)) + (p3.toInt64)) - ((3 : Int64) * ((((p1.toInt64) + (p2.toInt64)) + (p3.toInt64)) / (3 : Int64)))) = 0
    · have hr' := congrArg Int64.toInt hr
      rw [z64] at hr'
      have hS : (((p1.toInt64) + (p2.toInt64)) + (p3.toInt64)).toInt = 3 * ((((p1.toInt64) + (p2.toInt64)) + (p3.toInt64)) / (3 : Int64)).toInt := by omega
      obtain ⟨x1, x2⟩ := FP.Core.own_mean3 m3 (Q := ((((p1.toInt64) + (p2.toInt64)) + (p3.toInt64)) / (3 : Int64))) ⟨by omega, by omega⟩ hS
      exact rm0_3 l Z a0 hw ws p1 p2 p3 p4 h0 n0 Z0 (Jvm.Free.Fl.val64_no.mpr x1) x2 (by rw [h] <;> decide) (by rw [h] <;> decide) (by rw [h] <;> decide) (by rw [h] <;> decide) (by rw [h] <;> decide) (by rw [h] <;> decide) (by decide) ((lw_eq _ _).mpr hr)
    · obtain ⟨x1, x2, x3, x4, x5⟩ := FP.Core.own_third (S := (((p1.toInt64) + (p2.toInt64)) + (p3.toInt64))) ⟨by omega, by omega⟩
      exact rm0_4 l Z a0 hw ws p1 p2 p3 p4 h0 n0 Z0 (Jvm.Free.Fl.val64_no.mpr x1) (Jvm.Free.Fl.val64_no.mpr x2) (Jvm.Free.Fl.val64_no.mpr x3) x4 x5 (by rw [h] <;> decide) (by rw [h] <;> decide) (by rw [h] <;> decide) (by rw [h] <;> decide) (by rw [h] <;> decide) (by rw [h] <;> decide) (by decide) (fun q => hr ((lw_eq _ _).mp q)) (by decide) (by decide)
set_option maxRecDepth 65536 in
set_option maxHeartbeats 40000000 in
theorem comes_1 {Post : Tables → Env → Array Value → State → Outcome → State → Prop} (hpost : ∀ tb e args s v u, (limb_1_1.after args s (.returned v) u = true ∧ limb_1_2.after args s (.returned v) u = true ∧ True) → FrameEnd s (.returned v) u (Jvm.fieldLocs frame_1_writes args s ++ Jvm.arrayLocs frame_1_arrays args s ++ Jvm.staticLocs frame_1_statics s) 16 128 → Post tb e args s (.returned v) u) :
    ArmFor flags0 classFile x code maxLocals ret World_1 tables_1 room_1 Calls_1 rest_1 Pre_1 Post := by
  intro l hfl _ _ p e ha hc hk s m args below hf hA hF happ hP
  obtain ⟨hcalls, hrest, hpre⟩ := hP
  obtain ⟨-, -, -, hnamed, -, -, -, hat⟩ := (Spec.applies_iff hf).mp happ
  obtain ⟨hg, hn⟩ := and_e (Cond.before_iff.mp (show (Jvm.Cond.and given_1 narrow_1).before args s = true from hpre))
  obtain ⟨g1, g2⟩ := and_e hg
  obtain ⟨g3, g4⟩ := and_e g2
  obtain ⟨g5, g6⟩ := and_e g4
  obtain ⟨g7, g8⟩ := and_e g6
  obtain ⟨w0, w1, w2, w3, rfl⟩ : ∃ w0 w1 w2 w3 : Value, args = #[w0, w1, w2, w3] := by
    have hs : args.size = 4 := by simpa [Cond.value, given_1] using g1
    obtain ⟨L⟩ := args
    match L, hs with
    | [w0, w1, w2, w3], _ => exact ⟨w0, w1, w2, w3, rfl⟩
  have hw := fun d (hd : d ∈ tables_1) => atoms_spec (ws := Jvm.Cond.code x code maxLocals ret :: tables_1) hat d (List.mem_cons_of_mem _ hd)
  have hfit : Fit s := fun {y c} hc i hi => by
    obtain ⟨ha, rfl⟩ := Array.getElem?_eq_some_iff.mp hc
    have q := List.all_eq_true.mp ((Array.all_eq_true_iff_forall_mem.mp hF) _ (Array.getElem_mem ha)) i (List.mem_range.mpr hi)
    simpa [Array.getElem?_eq_getElem hi] using q
  obtain ⟨i0, ei0⟩ := is_v g3
  obtain rfl : w0 = (.int i0) := Option.some.inj ei0
  obtain ⟨i1, ei1⟩ := is_v g5
  obtain rfl : w1 = (.int i1) := Option.some.inj ei1
  obtain ⟨i2, ei2⟩ := is_v g7
  obtain rfl : w2 = (.int i2) := Option.some.inj ei2
  obtain ⟨i3, ei3⟩ := is_v g8
  obtain rfl : w3 = (.int i3) := Option.some.inj ei3
  obtain ⟨n, o, h1, h2, h3, _, L, rfl, ⟨rfl, N⟩, hq⟩ := rm0 l s _ hw tables_1 i0 i1 i2 i3 s.heap s.heap.size (Nat.le_refl _) p e ha hc hk s m _ below hf ((Spec.applies_iff_loose hf).mp happ).1 ⟨rfl, State.Warmed39.refl s, rfl⟩ trivial
  refine ⟨n, _, h1, h2, h3, hpost _ _ _ _ _ _ ⟨Cond.after_iff.mpr rfl, Cond.after_iff.mpr (eq_i res_at (Term.int_eval (1)) rfl), trivial⟩ ⟨hq.1, hq.2.1, (hq.2.2.sift fun y hy => Or.inr (N y hy)).mono (by decide) (by decide)⟩⟩
theorem main_1_1 : Claimed_1_1 := comes_1 fun _ _ _ _ _ _ h hF => ⟨h.1, hF⟩
theorem main_1_2 : Claimed_1_2 := comes_1 fun _ _ _ _ _ _ h hF => ⟨h.2.1, hF⟩
end Jvm.Pilot.@@N@@
namespace Jvm.Pilot.@@N@@
open Jvm Jvm.ClassFile Sem Op Lib Jvm.Free Jvm.Stand Jvm.Pilot.@@N@@.Jvm.D
/-! MADE BY PROGRAM (witnessworld.py) out of the Statement's table words and the real class files: 10 classes; the members and pool entries that the words name. The judged class is class 1, her method 1. -/
namespace start1
open Jvm.ClassFile
def u (s : String) : CpInfo := .utf8 (stringToUtf16 s)
/-- a pool by its gaps: so many unusable entries, then the entry; so many at the end -/
def gap : Nat → List CpInfo → List CpInfo
  | 0, r => r
  | n + 1, r => .unusable :: gap n r
def poolList (es : List (Nat × CpInfo)) (last : Nat) : List CpInfo := es.foldr (fun e r => gap e.1 (e.2 :: r)) (gap last [])
def pool (es : List (Nat × CpInfo)) (last : Nat) : Array CpInfo := ⟨poolList es last⟩
def fileOf (pool : Array CpInfo) (this : Nat) (attrs : Array Attribute := #[]) (ms : Array MethodInfo := #[]) (fl : Nat := 33) (sup : Nat := 0) (ifs : Array Nat := #[]) (fds : Array FieldInfo := #[]) : ClassFile where
  minorVersion := 0
  majorVersion := 65
  constantPool := pool
  accessFlags := fl
  thisClass := this
  superClass := sup
  interfaces := ifs
  fields := fds
  methods := ms
  attributes := attrs
def plain (name : String) (sup : Option ClassId) : Class where
  name := name
  kind := .ordinary
  loader := none
  accessFlags := 33
  super := sup
  interfaces := #[]
  cf := none
  fields := #[]
  methods := #[]
  instanceTypes := #[]
  staticTypes := #[]
  resolved := #[]
  callSites := []
  init := .initialized
  statics := none
  mirror := none

def pool0 : Array CpInfo := pool [(5, u "<init>"), (0, u "()V"), (1, .class_ 10), (1, u "java/lang/Object")] 113

def k0c0 : Code := { maxStack := 0, maxLocals := 1, code := object_method_1_code, exceptionTable := #[], attributes := #[] }
def k0m0 : Method := { name := "<init>", desc := "()V", sig := { parameters := [], returnType := none }, accessFlags := 1, code := some k0c0 }
/-- java/lang/Object -/
def k0 : Class := { plain "java/lang/Object" none with
  accessFlags := 33
  interfaces := #[]
  cf := some (fileOf pool0 8 #[] #[{ accessFlags := 1, nameIndex := 5, descriptorIndex := 6, attributes := #[] }] 33 0 #[] #[])
  fields := #[]
  methods := #[k0m0]
  instanceTypes := #[]
  staticTypes := #[]
  resolved := Array.replicate 124 none
  statics := none }

def pool1 : Array CpInfo := pool [(2, .class_ 4), (0, .nameAndType 5 6), (0, u "java/lang/Object"), (0, u "<init>"), (0, u "()V"), (0, .class_ 8), (0, u "io/watchring/sim/Tally"), (0, .methodref 7 3), (0, .methodref 7 11), (0, .nameAndType 12 13), (0, u "add"), (0, u "(J)V"), (0, .methodref 7 15), (0, .nameAndType 16 17), (0, u "mean"), (0, u "()D"), (0, .double 4602678819172646912), (1, .long 3), (1, .double 4562146422526312448), (1, .double 4613937818241073152), (1, .class_ 27), (0, u "io/watchring/sim/TallyMeanPinLaw"), (2, u "law"), (0, u "(IIII)Z")] 3

def k1m0 : Method := { name := "<init>", desc := "()V", sig := { parameters := [], returnType := none }, accessFlags := 1, code := none }
def k1c1 : Code := { maxStack := 6, maxLocals := 18, code := code, exceptionTable := #[], attributes := #[] }
def k1m1 : Method := { name := "law", desc := "(IIII)Z", sig := { parameters := [.int, .int, .int, .int], returnType := some .boolean }, accessFlags := 9, code := some k1c1 }
/-- io/watchring/sim/TallyMeanPinLaw -/
def k1 : Class := { plain "io/watchring/sim/TallyMeanPinLaw" (some 0) with
  accessFlags := 49
  interfaces := #[]
  cf := some (fileOf pool1 26 #[] #[{ accessFlags := 1, nameIndex := 5, descriptorIndex := 6, attributes := #[] }, { accessFlags := 9, nameIndex := 30, descriptorIndex := 31, attributes := #[] }] 49 2 #[] #[])
  fields := #[]
  methods := #[k1m0, k1m1]
  instanceTypes := #[]
  staticTypes := #[]
  resolved := Array.replicate 35 none
  statics := none }

def pool2 : Array CpInfo := pool [(1, .methodref 2 3), (0, .class_ 4), (0, .nameAndType 5 6), (0, u "java/lang/Object"), (0, u "<init>"), (0, u "()V"), (2, .long 9223372036854775807), (1, .fieldref 12 13), (0, .class_ 14), (0, .nameAndType 15 16), (0, u "io/watchring/sim/Tally"), (0, u "min"), (0, u "J"), (0, .long 9223372036854775808), (1, .fieldref 12 20), (0, .nameAndType 21 16), (0, u "max"), (0, .fieldref 12 23), (0, .nameAndType 24 16), (0, u "count"), (0, .fieldref 12 26), (0, .nameAndType 27 16), (0, u "total"), (0, .methodref 29 30), (0, .class_ 31), (0, .nameAndType 15 32), (0, u "java/lang/Math"), (0, u "(JJ)J"), (0, .methodref 29 34), (0, .nameAndType 21 32), (2, .double 9221120237041090560), (3, u "add"), (0, u "(J)V"), (1, u "mean"), (0, u "()D")] 3

def k2c0 : Code := { maxStack := 3, maxLocals := 1, code := prog_162_method_1_code, exceptionTable := #[], attributes := #[] }
def k2m0 : Method := { name := "<init>", desc := "()V", sig := { parameters := [], returnType := none }, accessFlags := 1, code := some k2c0 }
def k2c1 : Code := { maxStack := 5, maxLocals := 3, code := prog_162_method_2_code, exceptionTable := #[], attributes := #[] }
def k2m1 : Method := { name := "add", desc := "(J)V", sig := { parameters := [.long], returnType := none }, accessFlags := 0, code := some k2c1 }
def k2c2 : Code := { maxStack := 4, maxLocals := 1, code := prog_162_method_4_code, exceptionTable := #[], attributes := #[] }
def k2m2 : Method := { name := "mean", desc := "()D", sig := { parameters := [], returnType := some .double }, accessFlags := 1, code := some k2c2 }
/-- io/watchring/sim/Tally -/
def k2 : Class := { plain "io/watchring/sim/Tally" (some 0) with
  accessFlags := 49
  interfaces := #[]
  cf := some (fileOf pool2 12 #[] #[{ accessFlags := 1, nameIndex := 5, descriptorIndex := 6, attributes := #[] }, { accessFlags := 0, nameIndex := 41, descriptorIndex := 42, attributes := #[] }, { accessFlags := 1, nameIndex := 44, descriptorIndex := 45, attributes := #[] }] 49 2 #[] #[{ accessFlags := 2, nameIndex := 24, descriptorIndex := 16, attributes := #[] }, { accessFlags := 2, nameIndex := 27, descriptorIndex := 16, attributes := #[] }, { accessFlags := 2, nameIndex := 15, descriptorIndex := 16, attributes := #[] }, { accessFlags := 2, nameIndex := 21, descriptorIndex := 16, attributes := #[] }])
  fields := #[{ name := "count", type := .long, accessFlags := 2, slot := 0, constantValue := 0 }, { name := "total", type := .long, accessFlags := 2, slot := 1, constantValue := 0 }, { name := "min", type := .long, accessFlags := 2, slot := 2, constantValue := 0 }, { name := "max", type := .long, accessFlags := 2, slot := 3, constantValue := 0 }]
  methods := #[k2m0, k2m1, k2m2]
  instanceTypes := #[.long, .long, .long, .long]
  staticTypes := #[]
  resolved := Array.replicate 49 none
  statics := none }

def pool3 : Array CpInfo := pool [(1, .class_ 2), (0, u "java/lang/Math"), (1, .class_ 6), (1, u "java/lang/Object"), (0, u "<init>"), (0, u "()V"), (89, .class_ 100), (1, u "java/lang/Math$RandomNumberGeneratorHolder"), (20, u "(JJ)J"), (50, u "negativeZeroFloatBits"), (0, u "J"), (2, u "negativeZeroDoubleBits"), (21, u "max"), (2, u "min"), (43, u "$assertionsDisabled"), (0, u "Z"), (91, u "twoToTheDoubleScaleDown"), (0, u "D"), (4, u "twoToTheDoubleScaleUp"), (9, u "E"), (3, u "PI"), (2, u "TAU"), (2, u "DEGREES_TO_RADIANS"), (0, u "RADIANS_TO_DEGREES")] 94

def k3m0 : Method := { name := "<init>", desc := "()V", sig := { parameters := [], returnType := none }, accessFlags := 2, code := none }
def k3c1 : Code := { maxStack := 4, maxLocals := 4, code := jdk_29_method_66_code, exceptionTable := #[], attributes := #[] }
def k3m1 : Method := { name := "max", desc := "(JJ)J", sig := { parameters := [.long, .long], returnType := some .long }, accessFlags := 9, code := some k3c1 }
def k3c2 : Code := { maxStack := 4, maxLocals := 4, code := jdk_29_method_70_code, exceptionTable := #[], attributes := #[] }
def k3m2 : Method := { name := "min", desc := "(JJ)J", sig := { parameters := [.long, .long], returnType := some .long }, accessFlags := 9, code := some k3c2 }
/-- java/lang/Math -/
def k3 : Class := { plain "java/lang/Math" (some 0) with
  accessFlags := 49
  interfaces := #[]
  cf := some (fileOf pool3 1 #[.nestMembers #[98]] #[{ accessFlags := 2, nameIndex := 7, descriptorIndex := 8, attributes := #[] }, { accessFlags := 9, nameIndex := 198, descriptorIndex := 121, attributes := #[] }, { accessFlags := 9, nameIndex := 201, descriptorIndex := 121, attributes := #[] }] 49 4 #[] #[{ accessFlags := 25, nameIndex := 354, descriptorIndex := 339, attributes := #[] }, { accessFlags := 25, nameIndex := 358, descriptorIndex := 339, attributes := #[] }, { accessFlags := 25, nameIndex := 361, descriptorIndex := 339, attributes := #[] }, { accessFlags := 26, nameIndex := 364, descriptorIndex := 339, attributes := #[] }, { accessFlags := 26, nameIndex := 365, descriptorIndex := 339, attributes := #[] }, { accessFlags := 26, nameIndex := 172, descriptorIndex := 173, attributes := #[] }, { accessFlags := 26, nameIndex := 176, descriptorIndex := 173, attributes := #[] }, { accessFlags := 8, nameIndex := 344, descriptorIndex := 339, attributes := #[] }, { accessFlags := 8, nameIndex := 338, descriptorIndex := 339, attributes := #[] }, { accessFlags := 4120, nameIndex := 245, descriptorIndex := 246, attributes := #[] }])
  fields := #[{ name := "E", type := .double, accessFlags := 25, slot := 0, constantValue := 0 }, { name := "PI", type := .double, accessFlags := 25, slot := 1, constantValue := 0 }, { name := "TAU", type := .double, accessFlags := 25, slot := 2, constantValue := 0 }, { name := "DEGREES_TO_RADIANS", type := .double, accessFlags := 26, slot := 3, constantValue := 0 }, { name := "RADIANS_TO_DEGREES", type := .double, accessFlags := 26, slot := 4, constantValue := 0 }, { name := "negativeZeroFloatBits", type := .long, accessFlags := 26, slot := 5, constantValue := 0 }, { name := "negativeZeroDoubleBits", type := .long, accessFlags := 26, slot := 6, constantValue := 0 }, { name := "twoToTheDoubleScaleUp", type := .double, accessFlags := 8, slot := 7, constantValue := 0 }, { name := "twoToTheDoubleScaleDown", type := .double, accessFlags := 8, slot := 8, constantValue := 0 }, { name := "$assertionsDisabled", type := .boolean, accessFlags := 4120, slot := 9, constantValue := 0 }]
  methods := #[k3m0, k3m1, k3m2]
  instanceTypes := #[]
  staticTypes := #[.double, .double, .double, .double, .double, .long, .long, .double, .double, .boolean]
  resolved := Array.replicate 460 none
  statics := none }

def pool4 : Array CpInfo := pool [(1, u "java/lang/Cloneable"), (0, .class_ 1), (0, u "java/lang/Object"), (0, .class_ 3)] 3

/-- java/lang/Cloneable -/
def k4 : Class := { plain "java/lang/Cloneable" (some 0) with
  accessFlags := 1537
  interfaces := #[]
  cf := some (fileOf pool4 2 #[] #[] 1537 4 #[] #[])
  fields := #[]
  methods := #[]
  instanceTypes := #[]
  staticTypes := #[]
  resolved := Array.replicate 8 none
  statics := none }

def pool5 : Array CpInfo := pool [(1, u "java/io/Serializable"), (0, .class_ 1), (0, u "java/lang/Object"), (0, .class_ 3)] 3

/-- java/io/Serializable -/
def k5 : Class := { plain "java/io/Serializable" (some 0) with
  accessFlags := 1537
  interfaces := #[]
  cf := some (fileOf pool5 2 #[] #[] 1537 4 #[] #[])
  fields := #[]
  methods := #[]
  instanceTypes := #[]
  staticTypes := #[]
  resolved := Array.replicate 8 none
  statics := none }

/-- the primitive byte -/
def k6 : Class := { plain "byte" none with kind := .primitive 'B', accessFlags := 0x411 }
/-- [B -/
def k7 : Class := { plain "[B" (some 0) with kind := .array 6 .byte, interfaces := #[4, 5], accessFlags := 1041 }

/-- the primitive int -/
def k8 : Class := { plain "int" none with kind := .primitive 'I', accessFlags := 0x411 }
/-- [I -/
def k9 : Class := { plain "[I" (some 0) with kind := .array 8 .int, interfaces := #[4, 5], accessFlags := 1041 }

def heap : Heap := #[]
def classes : Array Class := #[k0, k1, k2, k3, k4, k5, k6, k7, k8, k9]
def interned : List (Array UInt16 × Addr) := []
def slotsUsed : Nat := 0
def theMethod : MethodId := ⟨1, 1⟩
def args0 : Array Value := #[.int 7, .int 8, .int 10, .int 3]
def aboutOver (below : List Frame) : State where
  vm := { classes := classes, interned := interned.toArray }
  heap := heap
  slotsUsed := slotsUsed
  threads := #[{ frames := .invoking theMethod args0 :: below }]
def below0 : List Frame := [.native { method := ⟨0, 0⟩, args := #[] }]
def about1 : State := aboutOver below0
def p0 : Program := .bare "" "" ""
def e0 : Env := launch0.env 0 0 0
theorem w_frames : about1.frames = Frame.invoking theMethod args0 :: below0 := rfl
set_option maxRecDepth 65536 in
theorem w_args : argsFit about1.vm theMethod args0 = true := by decide +kernel
set_option maxRecDepth 65536 in
theorem w_heap : heapFits about1 = true := by decide +kernel
set_option maxRecDepth 65536 in
theorem w_runnable : about1.curStatus? = some .runnable := by decide +kernel
set_option maxRecDepth 65536 in
theorem w_alone : about1.alone = true := by decide +kernel
set_option maxRecDepth 65536 in
theorem w_named : about1.methodNamed? x = some theMethod := by decide +kernel
set_option maxRecDepth 65536 in
theorem w_hears : about1.hears theMethod below0 = true := by decide +kernel
set_option maxRecDepth 65536 in
theorem w_ripe : about1.ripe theMethod args0 below0 = true := by decide +kernel
theorem w_running : about1.status = .running := rfl
set_option maxRecDepth 65536 in
theorem w_room : about1.hasRoom e0.platform room_1 = true :=
  launch0.hasRoom_least _ room_1 (by decide +kernel) (by decide +kernel) (by decide +kernel) (by decide +kernel) (by decide +kernel) (by decide +kernel)
theorem allAtoms_all (ts : List Jvm.Cond) (a : Array Jvm.Value) (st : Jvm.State) : (allAtoms ts).before a st = ts.all (fun c => c.before a st) := by
  induction ts with
  | nil => rfl
  | cons c t ih =>
    show (Jvm.Cond.and c (allAtoms t)).before a st = _
    rw [Jvm.Cond.before_and, ih, List.all_cons]
def words1 : List Jvm.Cond := Jvm.Cond.code x code maxLocals ret :: tables_1
/-- a 'code' word, met by the world's own term for the bytes: nothing is compared byte by byte -/
theorem code_word {y : MethodName} {bytes : ByteArray} {mx : Nat} {rt : Option FieldType} {a : Array Value} {s : State} {m : MethodId} {meth : Method} {c : Code} (h1 : s.methodNamed? y = some m) (h2 : s.vm.method? m = some meth) (h3 : meth.code = some c) (h4 : c.code = bytes)
    (h5 : (c.maxLocals == mx && c.exceptionTable.isEmpty && decide (c.maxStack ≤ mostOperands) && decide (meth.sig.returnType = rt) && !meth.locks && decide (parseMethodDescriptor y.desc = some meth.sig)) = true) : (Jvm.Cond.code y bytes mx rt).before a s = true := by
  simp only [Bool.and_eq_true, beq_iff_eq, Bool.not_eq_true', decide_eq_true_eq] at h5
  obtain ⟨⟨⟨⟨⟨g1, g2⟩, g3⟩, g4⟩, g5⟩, g6⟩ := h5
  simp [Cond.before, Cond.holds, Cond.value, h1, h2, h3, h4, g1, g2, g3, g4, g5, g6]
def isCode : Jvm.Cond → Bool
  | .code _ _ _ _ => true
  | _ => false
theorem all_split {L : List Jvm.Cond} {P : Jvm.Cond → Bool} (h1 : L.all (fun c => isCode c || P c) = true) (h2 : ∀ c ∈ L.filter isCode, P c = true) : L.all P = true := by
  refine List.all_eq_true.mpr fun c hc => ?_
  have h := List.all_eq_true.mp h1 c hc
  rcases Bool.eq_false_or_eq_true (isCode c) with hi | hi
  · exact h2 c (List.mem_filter.mpr ⟨hc, hi⟩)
  · simpa [hi] using h
set_option maxRecDepth 65536 in
theorem w_c0 : (Jvm.Cond.code x code maxLocals ret).before args0 about1 = true := code_word (m := ⟨1, 1⟩) (meth := k1m1) (c := k1c1) (by decide +kernel) rfl rfl rfl (by decide +kernel)
set_option maxRecDepth 65536 in
theorem w_c1 : (Jvm.Cond.code ({ cls := "io/watchring/sim/Tally", name := "<init>", desc := "()V" } : Jvm.MethodName) prog_162_method_1_code (1 : Nat) (Option.none : Option Jvm.ClassFile.FieldType)).before args0 about1 = true := code_word (m := ⟨2, 0⟩) (meth := k2m0) (c := k2c0) (by decide +kernel) rfl rfl rfl (by decide +kernel)
set_option maxRecDepth 65536 in
theorem w_c2 : (Jvm.Cond.code ({ cls := "java/lang/Object", name := "<init>", desc := "()V" } : Jvm.MethodName) object_method_1_code (1 : Nat) (Option.none : Option Jvm.ClassFile.FieldType)).before args0 about1 = true := code_word (m := ⟨0, 0⟩) (meth := k0m0) (c := k0c0) (by decide +kernel) rfl rfl rfl (by decide +kernel)
set_option maxRecDepth 65536 in
theorem w_c3 : (Jvm.Cond.code ({ cls := "io/watchring/sim/Tally", name := "add", desc := "(J)V" } : Jvm.MethodName) prog_162_method_2_code (3 : Nat) (Option.none : Option Jvm.ClassFile.FieldType)).before args0 about1 = true := code_word (m := ⟨2, 1⟩) (meth := k2m1) (c := k2c1) (by decide +kernel) rfl rfl rfl (by decide +kernel)
set_option maxRecDepth 65536 in
theorem w_c4 : (Jvm.Cond.code ({ cls := "java/lang/Math", name := "min", desc := "(JJ)J" } : Jvm.MethodName) jdk_29_method_70_code (4 : Nat) (Option.some Jvm.ClassFile.FieldType.long)).before args0 about1 = true := code_word (m := ⟨3, 2⟩) (meth := k3m2) (c := k3c2) (by decide +kernel) rfl rfl rfl (by decide +kernel)
set_option maxRecDepth 65536 in
theorem w_c5 : (Jvm.Cond.code ({ cls := "java/lang/Math", name := "max", desc := "(JJ)J" } : Jvm.MethodName) jdk_29_method_66_code (4 : Nat) (Option.some Jvm.ClassFile.FieldType.long)).before args0 about1 = true := code_word (m := ⟨3, 1⟩) (meth := k3m1) (c := k3c1) (by decide +kernel) rfl rfl rfl (by decide +kernel)
set_option maxRecDepth 65536 in
theorem w_c6 : (Jvm.Cond.code ({ cls := "io/watchring/sim/Tally", name := "mean", desc := "()D" } : Jvm.MethodName) prog_162_method_4_code (1 : Nat) (Option.some Jvm.ClassFile.FieldType.double)).before args0 about1 = true := code_word (m := ⟨2, 2⟩) (meth := k2m2) (c := k2c2) (by decide +kernel) rfl rfl rfl (by decide +kernel)
def codes1 : List Jvm.Cond := [Jvm.Cond.code x code maxLocals ret, Jvm.Cond.code ({ cls := "io/watchring/sim/Tally", name := "<init>", desc := "()V" } : Jvm.MethodName) prog_162_method_1_code (1 : Nat) (Option.none : Option Jvm.ClassFile.FieldType), Jvm.Cond.code ({ cls := "java/lang/Object", name := "<init>", desc := "()V" } : Jvm.MethodName) object_method_1_code (1 : Nat) (Option.none : Option Jvm.ClassFile.FieldType), Jvm.Cond.code ({ cls := "io/watchring/sim/Tally", name := "add", desc := "(J)V" } : Jvm.MethodName) prog_162_method_2_code (3 : Nat) (Option.none : Option Jvm.ClassFile.FieldType), Jvm.Cond.code ({ cls := "java/lang/Math", name := "min", desc := "(JJ)J" } : Jvm.MethodName) jdk_29_method_70_code (4 : Nat) (Option.some Jvm.ClassFile.FieldType.long), Jvm.Cond.code ({ cls := "java/lang/Math", name := "max", desc := "(JJ)J" } : Jvm.MethodName) jdk_29_method_66_code (4 : Nat) (Option.some Jvm.ClassFile.FieldType.long), Jvm.Cond.code ({ cls := "io/watchring/sim/Tally", name := "mean", desc := "()D" } : Jvm.MethodName) prog_162_method_4_code (1 : Nat) (Option.some Jvm.ClassFile.FieldType.double)]
set_option maxRecDepth 65536 in
theorem codes_eq : words1.filter isCode = codes1 := rfl
theorem w_codes : ∀ c ∈ words1.filter isCode, c.before args0 about1 = true := by
  rw [codes_eq]
  intro c hc
  simp only [codes1, List.mem_cons, List.not_mem_nil, or_false] at hc
  rcases hc with rfl | rfl | rfl | rfl | rfl | rfl | rfl
  · exact w_c0
  · exact w_c1
  · exact w_c2
  · exact w_c3
  · exact w_c4
  · exact w_c5
  · exact w_c6
set_option maxRecDepth 65536 in
theorem w_t1 : (words1.take 24).all (fun c => isCode c || c.before args0 about1) = true := by decide +kernel
set_option maxRecDepth 65536 in
theorem w_t2 : (words1.drop 24).all (fun c => isCode c || c.before args0 about1) = true := by decide +kernel
theorem w_tables : (allAtoms (Jvm.Cond.code x code maxLocals ret :: tables_1)).before args0 about1 = true := by
  rw [allAtoms_all]
  show words1.all (fun c => c.before args0 about1) = true
  refine all_split ?_ w_codes
  rw [← List.take_append_drop 24 words1, List.all_append, w_t1, w_t2]
  rfl
set_option maxRecDepth 65536 in
theorem w_case : (Jvm.Cond.and given_1 narrow_1).before args0 about1 = true := by decide +kernel
theorem w_applies : (headSpec (Jvm.Cond.code x code maxLocals ret :: tables_1) room_1).applies x e0.platform about1 = true :=
  (Spec.applies_iff w_frames).mpr ⟨w_running, w_runnable, w_alone, w_named, w_hears, w_ripe, w_room, w_tables⟩
theorem atStart : AtStart classFile x code maxLocals ret World_1 tables_1 room_1 Calls_1 rest_1 Pre_1 launch0 p0 e0 about1 theMethod args0 below0 :=
  ⟨lists_1, trivial, launch0.admits_env _ _ _, launch0.least_env, fairChoices_fair.cas, fairChoices_fair.clock, w_frames, w_args, w_heap, w_applies, trivial, trivial, w_case⟩
end start1
theorem witness_1 : WitnessClaimed_1 := ⟨start1.p0, start1.e0, start1.about1, start1.theMethod, start1.args0, start1.below0, start1.atStart⟩
end Jvm.Pilot.@@N@@
