import JvmDerived
import JvmDerived.Pilot.@@N@@Statement
import JvmDerived.Pilot.@@N@@Code
set_option linter.unusedVariables false
set_option linter.unusedSimpArgs false
@@BLOCK:NumsL.lean.txt@@
namespace Jvm.RoadKit
open Sem ClassFile Op Lib Jvm.Stand Jvm.Free Jvm.LawKit
section New
variable {p : Program} {l : Launch} {e : Env} {R : Room} {s : State} {m : MethodId} {args : Array Value} {below : List Frame} {meth : Method} {c : Code} {T : State} {locs : List Loc} {cells slots : Nat}
theorem retI (X : Stand p l e R s m args below meth c T locs cells slots) (hx : p.tables.exec = Jvm.exec) {pc : Nat} {Ls : Array Slot} {z : Int32} {rest : List Value} (hret : meth.sig.returnType = some .int) (hd : decode c.code pc = .ok (.ireturn, 1)) {fs : List Frame}
    (hl : ∀ (f : JFrame) (acts : List Action), f.method = m → f.locked = none → f.entered = [] → (doReturn e (T.setTop f) acts (some (.int z))).1 = T.setFrames fs) : Steps p.tables e below (T.setTop (mkF m pc Ls (.int z :: rest))) (T.setFrames fs) := by
  have hm' : T.vm.method? m = some meth := X.method'
  have hn : narrow .int (.int z) = .int z := rfl
  show Steps p.tables e below (T.setTop { method := m, pc := pc, locals := Ls, stack := _ :: rest, locked := none }) _
  jvm_step X.here [X.here.top, hx, hd, hm', hret, hn]
  first | (intro acts; rw [hl _ acts rfl rfl rfl]) | rw [hl _ _ rfl rfl rfl]
  exact Steps.refl _
theorem own_retL (X : Stand p l e R s m args below meth c T locs cells slots) (hx : p.tables.exec = Jvm.exec) {pc : Nat} {Ls : Array Slot} {z : Int64} {rest : List Value} (hret : meth.sig.returnType = some .long) (hd : decode c.code pc = .ok (.lreturn, 1)) {fs : List Frame}
    (hl : ∀ (f : JFrame) (acts : List Action), f.method = m → f.locked = none → f.entered = [] → (doReturn e (T.setTop f) acts (some (.long z))).1 = T.setFrames fs) : Steps p.tables e below (T.setTop (mkF m pc Ls (.long z :: rest))) (T.setFrames fs) := by
  have hm' : T.vm.method? m = some meth := X.method'
  have hn : narrow .long (.long z) = .long z := rfl
  show Steps p.tables e below (T.setTop { method := m, pc := pc, locals := Ls, stack := _ :: rest, locked := none }) _
  jvm_step X.here [X.here.top, hx, hd, hm', hret, hn]
  first | (intro acts; rw [hl _ acts rfl rfl rfl]) | rw [hl _ _ rfl rfl rfl]
  exact Steps.refl _
theorem own_retD (X : Stand p l e R s m args below meth c T locs cells slots) (hx : p.tables.exec = Jvm.exec) {pc : Nat} {Ls : Array Slot} {z : UInt64} {rest : List Value} (hret : meth.sig.returnType = some .double) (hd : decode c.code pc = .ok (.dreturn, 1)) {fs : List Frame}
    (hl : ∀ (f : JFrame) (acts : List Action), f.method = m → f.locked = none → f.entered = [] → (doReturn e (T.setTop f) acts (some (.double z))).1 = T.setFrames fs) : Steps p.tables e below (T.setTop (mkF m pc Ls (.double z :: rest))) (T.setFrames fs) := by
  have hm' : T.vm.method? m = some meth := X.method'
  have hn : narrow .double (.double z) = .double z := rfl
  show Steps p.tables e below (T.setTop { method := m, pc := pc, locals := Ls, stack := _ :: rest, locked := none }) _
  jvm_step X.here [X.here.top, hx, hd, hm', hret, hn]
  first | (intro acts; rw [hl _ acts rfl rfl rfl]) | rw [hl _ _ rfl rfl rfl]
  exact Steps.refl _
end New
end Jvm.RoadKit
namespace Jvm.Pilot.@@N@@
open Jvm Jvm.ClassFile Sem Op Lib Jvm.Free Jvm.Stand Jvm.LawKit Jvm.RoadKit Bundle Jvm.Pilot.@@N@@.Jvm.D
abbrev own_irem (x y : Int32) : Int32 := x % y
def own_QR (r : Value) (h0 : Heap) (n0 : Nat) (v : Option Value) (h : Heap) (L : List Loc) : Prop := v = some r ∧ Fr n0 L ∧ h = h0
theorem own_dc0 : FP.dconst0 = FP.l2d (0 : Int64) := by decide +kernel
theorem own_dc1 : FP.dconst1 = FP.l2d (1 : Int64) := by decide +kernel
theorem own_lcself (x : Int64) : lcmpW x x = 0 := by
  simp only [lcmpW]
  rw [if_neg (by intro h; have := Int64.lt_iff_toInt_lt.mp h; omega)]
  simp
def own_S (x : Int64) : Prop := -134217728 ≤ x.toInt ∧ x.toInt ≤ 134217728
def own_T (x : Int64) : Prop := -1099511627776 ≤ x.toInt ∧ x.toInt ≤ 1099511627776
theorem own_ST {x : Int64} (h : own_S x) : own_T x := by unfold own_S at h; unfold own_T; omega
theorem own_TB {x : Int64} (h : own_T x) : B53 x := by unfold own_T at h; unfold B53; omega
theorem own_add {x y : Int64} (hx : own_T x) (hy : own_T y) : (x + y).toInt = x.toInt + y.toInt := by
  unfold own_T at hx hy
  exact Jvm.Kit.i64_add (by omega) (by omega)
theorem own_B1 : B53 (1 : Int64) := by
  have : (1 : Int64).toInt = 1 := by decide
  unfold B53; rw [this]; omega
/-- the quotient of two whole numbers that comes out whole -/
theorem own_ddiv {a b k : Int64} (ha : B53 a) (hb : B53 b) (hb0 : 0 < b.toInt) (hk : a.toInt = k.toInt * b.toInt) : FP.ddiv (FP.l2d a) (FP.l2d b) = FP.l2d k := by
  have wa := FP.Core.l2d_whole (sm ha)
  have wb := FP.Core.l2d_whole (sm hb)
  obtain ⟨c, q, ea⟩ := FP.Core.l2d_shape a
  obtain ⟨d, r, eb⟩ := FP.Core.l2d_shape b
  show FP.Core.of64 (FP.Core.quotient FP.Core.b64 (FP.Core.val64 (FP.Core.l2d a)) (FP.Core.val64 (FP.Core.l2d b))) = FP.Core.of64 (FP.Core.round FP.Core.b64 (FP.Core.ofInt k.toInt))
  rw [ea] at wa
  rw [eb] at wb
  rw [ea, eb]
  have hd : d ≠ 0 := fun h => by have := (FP.Core.whole_zero wb).mp h; omega
  have e1 : FP.Core.quotient FP.Core.b64 (.fin (decide (a.toInt < 0)) c q) (.fin (decide (b.toInt < 0)) d r) = FP.Core.roundRatio FP.Core.b64 (decide (a.toInt < 0) != decide (b.toInt < 0)) c d (q - r) := by
    show (if d = 0 then _ else _) = _
    rw [if_neg hd]
  have e2 : FP.Core.round FP.Core.b64 (FP.Core.ofInt k.toInt) = FP.Core.roundRatio FP.Core.b64 (decide (k.toInt < 0)) k.toInt.natAbs 1 0 := rfl
  rw [e1, e2]
  have hs : (decide (a.toInt < 0) != decide (b.toInt < 0)) = decide (k.toInt < 0) := by
    have n1 : decide (b.toInt < 0) = false := by simp; omega
    rw [n1, Bool.bne_false, decide_eq_decide, hk]
    constructor
    · intro h
      refine Int.lt_of_not_ge fun hge => ?_
      have := Int.mul_nonneg hge (Int.le_of_lt hb0)
      omega
    · intro h; exact Int.mul_neg_of_neg_of_pos h hb0
  rw [hs]
  refine congrArg FP.Core.of64 (FP.Core.roundRatio_congr (by omega) (by decide) ?_)
  have ma := FP.Core.whole_natAbs wa
  have mb := FP.Core.whole_natAbs wb
  have mk : a.toInt.natAbs = k.toInt.natAbs * b.toInt.natAbs := by rw [hk, Int.natAbs_mul]
  rw [mk] at ma
  generalize k.toInt.natAbs = kk at *
  generalize b.toInt.natAbs = bb at *
  rw [Nat.mul_one]
  have id : (q - r - 0).toNat + ((-q).toNat + r.toNat) = (0 - (q - r)).toNat + (q.toNat + (-r).toNat) := by omega
  have p1 := Nat.two_pow_pos ((-q).toNat + r.toNat)
  refine Nat.eq_of_mul_eq_mul_right p1 ?_
  rw [Nat.mul_assoc, ← Nat.pow_add, id]
  calc c * 2 ^ ((0 - (q - r)).toNat + (q.toNat + (-r).toNat))
      = (c * 2 ^ q.toNat) * 2 ^ (-r).toNat * 2 ^ (0 - (q - r)).toNat := by
        rw [Nat.pow_add, Nat.pow_add]
        ac_rfl
    _ = kk * bb * 2 ^ (-q).toNat * 2 ^ (-r).toNat * 2 ^ (0 - (q - r)).toNat := by rw [ma]
    _ = kk * (bb * 2 ^ (-r).toNat) * 2 ^ (-q).toNat * 2 ^ (0 - (q - r)).toNat := by ac_rfl
    _ = kk * (d * 2 ^ r.toNat) * 2 ^ (-q).toNat * 2 ^ (0 - (q - r)).toNat := by rw [mb]
    _ = kk * d * 2 ^ (0 - (q - r)).toNat * 2 ^ ((-q).toNat + r.toNat) := by
        rw [Nat.pow_add]
        ac_rfl
theorem own_nine {x : Int64} (h : own_T x) : ((9 : Int64) * x).toInt = 9 * x.toInt := by
  have h9 : (9 : Int64).toInt = 9 := by decide
  unfold own_T at h
  rw [Jvm.Kit.i64_mul (by rw [h9]; omega) (by rw [h9]; omega), h9]
theorem own_fin {S mm nn : Int64} {n : Int} (bm : own_S mm) (hn : nn.toInt = n) (h14 : n = 1 ∨ n = 2 ∨ n = 3 ∨ n = 4) (hS : S.toInt = n * mm.toInt) :
    FP.dmul (FP.l2d (9 : Int64)) (FP.l2d S) = FP.l2d ((9 : Int64) * S) ∧ FP.ddiv (FP.l2d ((9 : Int64) * S)) (FP.l2d nn) = FP.l2d (((9 : Int64) * S) / nn) ∧ B53 (((9 : Int64) * S) / nn) ∧ (1 : Int64) + (((9 : Int64) * S) / nn) = (1 : Int64) + ((9 : Int64) * mm) := by
  have h9 : (9 : Int64).toInt = 9 := by decide
  have tS : own_T S := by unfold own_T; unfold own_S at bm; rcases h14 with rfl | rfl | rfl | rfl <;> omega
  have tm : own_T mm := own_ST bm
  have e9 := own_nine tS
  have em := own_nine tm
  have hq : ((9 : Int64) * S) / nn = (9 : Int64) * mm := by
    apply Int64.toInt_inj.mp
    rw [Jvm.Kit.i64_div (by omega), em, e9, hS, hn]
    have : 9 * (n * mm.toInt) = (9 * mm.toInt) * n := by rw [← Int.mul_assoc, Int.mul_comm 9 n, Int.mul_assoc, Int.mul_comm n]
    rw [this]
    exact Int.mul_tdiv_cancel _ (by omega)
  have b9S : B53 ((9 : Int64) * S) := by unfold B53; unfold own_T at tS; omega
  have bnn : B53 nn := by unfold B53; omega
  refine ⟨?_, ?_, ?_, by rw [hq]⟩
  · unfold own_T at tS
    exact dmul_k (A := 9) (B := 1099511627776) (by omega) (by omega) (by omega) (by omega) (by omega) (by omega) (by omega) (fun q => absurd q.1 (by decide)) (fun q => absurd q.2 (by decide))
  · rw [hq]
    refine own_ddiv b9S bnn (by omega) ?_
    rw [em, e9, hS, hn, ← Int.mul_assoc, Int.mul_comm 9 n, Int.mul_assoc, Int.mul_comm n]
  · rw [hq]; unfold B53; unfold own_S at bm; omega
theorem own_shv (p : Int32) : ((p >>> ((8 : Int32) &&& 31)).toInt64).toInt = p.toInt / 2 ^ 8 := by
  rw [Int32.toInt_toInt64]; exact Jvm.Kit.i32_shr p _ (by decide)
theorem own_shb (p : Int32) : -8388608 ≤ ((p >>> ((8 : Int32) &&& 31)).toInt64).toInt ∧ ((p >>> ((8 : Int32) &&& 31)).toInt64).toInt ≤ 8388607 := by
  rw [own_shv]
  have a := p.toInt_lt; have b := p.le_toInt
  omega
theorem own_sh (p : Int32) : own_S ((p >>> ((8 : Int32) &&& 31)).toInt64) := by
  have := own_shb p; unfold own_S; omega
theorem own_bres (p : Int32) : B53 ((1 : Int64) + ((9 : Int64) * ((p >>> ((8 : Int32) &&& 31)).toInt64))) := by
  have h := own_shb p
  have e9 := own_nine (own_ST (own_sh p))
  have h1 : (1 : Int64).toInt = 1 := by decide
  unfold B53
  rw [Jvm.Kit.i64_add (by omega) (by omega)]
  omega
theorem own_w2 (p5 p2 : Int32) : own_S (((2 : Int64) * ((p5 >>> ((8 : Int32) &&& 31)).toInt64)) - ((p2 >>> ((8 : Int32) &&& 31)).toInt64)) ∧ ((p2 >>> ((8 : Int32) &&& 31)).toInt64).toInt + (((2 : Int64) * ((p5 >>> ((8 : Int32) &&& 31)).toInt64)) - ((p2 >>> ((8 : Int32) &&& 31)).toInt64)).toInt = 2 * ((p5 >>> ((8 : Int32) &&& 31)).toInt64).toInt := by
  have h5 := own_shb p5; have h2 := own_shb p2
  generalize ((p5 >>> ((8 : Int32) &&& 31)).toInt64) = m at *
  generalize ((p2 >>> ((8 : Int32) &&& 31)).toInt64) = b at *
  have c2 : (2 : Int64).toInt = 2 := by decide
  have e1 : ((2 : Int64) * m).toInt = 2 * m.toInt := by rw [Jvm.Kit.i64_mul (by rw [c2]; omega) (by rw [c2]; omega), c2]
  have e2 : (((2 : Int64) * m) - b).toInt = 2 * m.toInt - b.toInt := by rw [Jvm.Kit.i64_sub (by omega) (by omega)]; omega
  unfold own_S; omega
theorem own_w3 (p5 p2 p3 : Int32) : own_S ((((3 : Int64) * ((p5 >>> ((8 : Int32) &&& 31)).toInt64)) - ((p2 >>> ((8 : Int32) &&& 31)).toInt64)) - ((p3 >>> ((8 : Int32) &&& 31)).toInt64)) ∧ ((p2 >>> ((8 : Int32) &&& 31)).toInt64).toInt + ((p3 >>> ((8 : Int32) &&& 31)).toInt64).toInt + ((((3 : Int64) * ((p5 >>> ((8 : Int32) &&& 31)).toInt64)) - ((p2 >>> ((8 : Int32) &&& 31)).toInt64)) - ((p3 >>> ((8 : Int32) &&& 31)).toInt64)).toInt = 3 * ((p5 >>> ((8 : Int32) &&& 31)).toInt64).toInt := by
  have h5 := own_shb p5; have h2 := own_shb p2; have h3 := own_shb p3
  generalize ((p5 >>> ((8 : Int32) &&& 31)).toInt64) = m at *
  generalize ((p2 >>> ((8 : Int32) &&& 31)).toInt64) = b at *
  generalize ((p3 >>> ((8 : Int32) &&& 31)).toInt64) = c at *
  have c2 : (3 : Int64).toInt = 3 := by decide
  have e1 : ((3 : Int64) * m).toInt = 3 * m.toInt := by rw [Jvm.Kit.i64_mul (by rw [c2]; omega) (by rw [c2]; omega), c2]
  have e2 : (((3 : Int64) * m) - b).toInt = 3 * m.toInt - b.toInt := by rw [Jvm.Kit.i64_sub (by omega) (by omega)]; omega
  have e3 : ((((3 : Int64) * m) - b) - c).toInt = 3 * m.toInt - b.toInt - c.toInt := by rw [Jvm.Kit.i64_sub (by omega) (by omega)]; omega
  unfold own_S; omega
theorem own_w4 (p5 p2 p3 p4 : Int32) : own_S (((((4 : Int64) * ((p5 >>> ((8 : Int32) &&& 31)).toInt64)) - ((p2 >>> ((8 : Int32) &&& 31)).toInt64)) - ((p3 >>> ((8 : Int32) &&& 31)).toInt64)) - ((p4 >>> ((8 : Int32) &&& 31)).toInt64)) ∧ ((p2 >>> ((8 : Int32) &&& 31)).toInt64).toInt + ((p3 >>> ((8 : Int32) &&& 31)).toInt64).toInt + ((p4 >>> ((8 : Int32) &&& 31)).toInt64).toInt + (((((4 : Int64) * ((p5 >>> ((8 : Int32) &&& 31)).toInt64)) - ((p2 >>> ((8 : Int32) &&& 31)).toInt64)) - ((p3 >>> ((8 : Int32) &&& 31)).toInt64)) - ((p4 >>> ((8 : Int32) &&& 31)).toInt64)).toInt = 4 * ((p5 >>> ((8 : Int32) &&& 31)).toInt64).toInt := by
  have h5 := own_shb p5; have h2 := own_shb p2; have h3 := own_shb p3; have h4 := own_shb p4
  generalize ((p5 >>> ((8 : Int32) &&& 31)).toInt64) = m at *
  generalize ((p2 >>> ((8 : Int32) &&& 31)).toInt64) = b at *
  generalize ((p3 >>> ((8 : Int32) &&& 31)).toInt64) = c at *
  generalize ((p4 >>> ((8 : Int32) &&& 31)).toInt64) = d at *
  have c2 : (4 : Int64).toInt = 4 := by decide
  have e1 : ((4 : Int64) * m).toInt = 4 * m.toInt := by rw [Jvm.Kit.i64_mul (by rw [c2]; omega) (by rw [c2]; omega), c2]
  have e2 : (((4 : Int64) * m) - b).toInt = 4 * m.toInt - b.toInt := by rw [Jvm.Kit.i64_sub (by omega) (by omega)]; omega
  have e3 : ((((4 : Int64) * m) - b) - c).toInt = 4 * m.toInt - b.toInt - c.toInt := by rw [Jvm.Kit.i64_sub (by omega) (by omega)]; omega
  have e4 : (((((4 : Int64) * m) - b) - c) - d).toInt = 4 * m.toInt - b.toInt - c.toInt - d.toInt := by rw [Jvm.Kit.i64_sub (by omega) (by omega)]; omega
  unfold own_S; omega

theorem d1_0 : decode prog_46_method_12_code 0 = .ok (.dconst 0, 1) := by decide +kernel
theorem d1_1 : decode prog_46_method_12_code 1 = .ok (.dstore_n 1, 1) := by decide +kernel
theorem d1_2 : decode prog_46_method_12_code 2 = .ok (.iconst 1, 1) := by decide +kernel
theorem d1_3 : decode prog_46_method_12_code 3 = .ok (.istore_n 3, 1) := by decide +kernel
theorem d1_4 : decode prog_46_method_12_code 4 = .ok (.iload_n 3, 1) := by decide +kernel
theorem d1_5 : decode prog_46_method_12_code 5 = .ok (.aload_n 0, 1) := by decide +kernel
theorem d1_6 : decode prog_46_method_12_code 6 = .ok (.arraylength, 1) := by decide +kernel
theorem d1_7 : decode prog_46_method_12_code 7 = .ok (.if_icmp .ge 15, 3) := by decide +kernel
theorem d1_10 : decode prog_46_method_12_code 10 = .ok (.dload_n 1, 1) := by decide +kernel
theorem d1_11 : decode prog_46_method_12_code 11 = .ok (.aload_n 0, 1) := by decide +kernel
theorem d1_12 : decode prog_46_method_12_code 12 = .ok (.iload_n 3, 1) := by decide +kernel
theorem d1_13 : decode prog_46_method_12_code 13 = .ok (.daload, 1) := by decide +kernel
theorem d1_14 : decode prog_46_method_12_code 14 = .ok (.dadd, 1) := by decide +kernel
theorem d1_15 : decode prog_46_method_12_code 15 = .ok (.dstore_n 1, 1) := by decide +kernel
theorem d1_16 : decode prog_46_method_12_code 16 = .ok (.iinc 3 1, 3) := by decide +kernel
theorem d1_19 : decode prog_46_method_12_code 19 = .ok (.goto (-15), 3) := by decide +kernel
theorem d1_22 : decode prog_46_method_12_code 22 = .ok (.dconst 1, 1) := by decide +kernel
theorem d1_23 : decode prog_46_method_12_code 23 = .ok (.ldc2_w 47, 3) := by decide +kernel
theorem d1_26 : decode prog_46_method_12_code 26 = .ok (.dload_n 1, 1) := by decide +kernel
theorem d1_27 : decode prog_46_method_12_code 27 = .ok (.dmul, 1) := by decide +kernel
theorem d1_28 : decode prog_46_method_12_code 28 = .ok (.aload_n 0, 1) := by decide +kernel
theorem d1_29 : decode prog_46_method_12_code 29 = .ok (.arraylength, 1) := by decide +kernel
theorem d1_30 : decode prog_46_method_12_code 30 = .ok (.iconst 1, 1) := by decide +kernel
theorem d1_31 : decode prog_46_method_12_code 31 = .ok (.isub, 1) := by decide +kernel
theorem d1_32 : decode prog_46_method_12_code 32 = .ok (.i2d, 1) := by decide +kernel
theorem d1_33 : decode prog_46_method_12_code 33 = .ok (.ddiv, 1) := by decide +kernel
theorem d1_34 : decode prog_46_method_12_code 34 = .ok (.dadd, 1) := by decide +kernel
theorem d1_35 : decode prog_46_method_12_code 35 = .ok (.dreturn, 1) := by decide +kernel
theorem pn_1 : plainName "com/example/paretoloom/paretoloom/problems/Zdt" = true := by first | (simp [plainName, overriddenIn]; done) | decide +kernel
theorem ef_1 (m : MethodId) (x0 : Addr) : entryFrame m #[(.ref x0)] 4 = mkF m 0 #[.val (.ref x0), .unset, .unset, .unset] [] := by first | (simp [entryFrame, mkF, argsToLocals, Value.category]; done) | rfl
set_option maxRecDepth 65536 in
set_option maxHeartbeats 40000000 in
theorem rm1_ft (l : Launch) (Z : State) (a0 : Array Value) (hw : ∀ d ∈ tables_1, d.before a0 Z = true) (ws : List Jvm.Cond) (a1 : Addr) (cl_a1 : Cell) (z_a1 : Int32) (w2 : Int64) (h0 : Heap) (n0 : Nat) (Z0 : n0 ≤ h0.size) (Ar_a1 : Arr Z h0 a1 cl_a1 .double) (S_a1 : cl_a1.slots.size = z_a1.toNatClampNeg) (N_a1 : ¬ z_a1 < 0) (hin13 : ¬ ((1 : Int32) < 0 ∨ cl_a1.slots.size ≤ ((1 : Int32)).toNatClampNeg)) (hat13 : cl_a1.slots[((1 : Int32)).toNatClampNeg]? = some (.double (FP.l2d w2))) (hc7 : (1 : Int32) < z_a1) (hba14 : B53 (0 : Int64)) (hbb14 : B53 w2) (hc7_20 : ¬ (((1 : Int32) + (1 : Int32)) < z_a1)) (hm27 : FP.dmul (FP.l2d (9 : Int64)) (FP.l2d ((0 : Int64) + w2)) = FP.l2d ((9 : Int64) * ((0 : Int64) + w2))) (hd33 : FP.ddiv (FP.l2d ((9 : Int64) * ((0 : Int64) + w2))) (FP.l2d ((z_a1 - (1 : Int32)).toInt64)) = FP.l2d (((9 : Int64) * ((0 : Int64) + w2)) / ((z_a1 - (1 : Int32)).toInt64))) (hba34 : B53 (1 : Int64)) (hbb34 : B53 (((9 : Int64) * ((0 : Int64) + w2)) / ((z_a1 - (1 : Int32)).toInt64))) :
    MetFree l (⟨"com/example/paretoloom/paretoloom/problems/Zdt", "linearG", "([D)D"⟩ : MethodName) (head1 (Jvm.Cond.code (⟨"com/example/paretoloom/paretoloom/problems/Zdt", "linearG", "([D)D"⟩ : MethodName) prog_46_method_12_code 4 (some .double) :: ws) ({ frames := 0, cells := 0, slots := 0, locals := 0 } : Room)) (fun a U => a = #[(.ref a1)] ∧ Z.Warmed39 U.vm ∧ U.heap = h0) (fun _ _ _ _ _ => True) (fun _ U o U' => ∃ v L, o = .returned v ∧ own_QR (.double (FP.l2d ((1 : Int64) + (((9 : Int64) * ((0 : Int64) + w2)) / ((z_a1 - (1 : Int32)).toInt64))))) h0 n0 v U'.heap L ∧ FrameEnd U o U' L ({ frames := 0, cells := 0, slots := 0, locals := 0 } : Room).cells ({ frames := 0, cells := 0, slots := 0, locals := 0 } : Room).slots) := by
  refine MetFree.of_bodySF (plainFor_of_name pn_1) hisR ?_
  intro p e s m args below meth c s₁ Bd hml0 hP hK
  obtain ⟨rfl, hZ, hh⟩ := hP
  have hx := Bd.exec
  have hby := Bd.bytes
  have hml : c.maxLocals = 4 := hml0
  have hown : s.vm.findClass "com/example/paretoloom/paretoloom/problems/Zdt" = some m.cls := findClass_of_methodNamed Bd.named
  have hnm := (name_of_methodNamed Bd.named Bd.method).1
  have X0 : Stand p l e ({ frames := 0, cells := 0, slots := 0, locals := 0 } : Room) s m #[(.ref a1)] below meth c s₁ [] 0 0 := Stand.of_body Bd
  have e0 : s₁.heap = h0 := by rw [← hh, Bd.state]; rfl
  have N0 := Fr.nil n0
  have pre0 : ∀ t, Steps p.tables e below (s₁.setTop (mkF m 0 #[.val (.ref a1), .unset, .unset, .unset] [])) t → Steps p.tables e below (s₁.setTop (entryFrame m #[(.ref a1)] 4)) t := fun t k => castTop (ef_1 m a1) k
  -- 3. LAWS

  obtain ⟨fs, hr, hrun, hended, hW, hsame⟩ := X0.leave (v := some (.double (FP.l2d ((1 : Int64) + (((9 : Int64) * ((0 : Int64) + w2)) / ((z_a1 - (1 : Int32)).toInt64)))))) (fun h => by rw [Bd.returns] at h; cases h)
  refine ⟨_, _, pre0 _ ?_, hrun, hended, _, _, rfl, ?_, ⟨_, rfl⟩, hW, hsame.mono (by decide) (by decide)⟩
  -- 4. STEPS
  · show Steps p.tables e below (s₁.setTop (mkF m 0 #[.val (.ref a1), .unset, .unset, .unset] [])) _
    refine XS.dconst0 X0.here hx rfl (hb hby d1_0) (own_dc0) ?_
    show Steps p.tables e below (s₁.setTop (mkF m 1 #[.val (.ref a1), .unset, .unset, .unset] [(.double (FP.l2d (0 : Int64)))])) _
    refine XS.dstoreN X0.here hx rfl (hb hby d1_1) rfl (l' := #[.val (.ref a1), .val (.double (FP.l2d (0 : Int64))), .second, .unset]) rfl ?_
    show Steps p.tables e below (s₁.setTop (mkF m 2 #[.val (.ref a1), .val (.double (FP.l2d (0 : Int64))), .second, .unset] [])) _
    refine XS.iconst X0.here hx rfl (hb hby d1_2) ?_
    show Steps p.tables e below (s₁.setTop (mkF m 3 #[.val (.ref a1), .val (.double (FP.l2d (0 : Int64))), .second, .unset] [(.int (1 : Int32))])) _
    refine XS.istoreN X0.here hx rfl (hb hby d1_3) rfl (l' := #[.val (.ref a1), .val (.double (FP.l2d (0 : Int64))), .second, .val (.int (1 : Int32))]) rfl ?_
    show Steps p.tables e below (s₁.setTop (mkF m 4 #[.val (.ref a1), .val (.double (FP.l2d (0 : Int64))), .second, .val (.int (1 : Int32))] [])) _
    refine XS.iloadN X0.here hx rfl (hb hby d1_4) rfl ?_
    show Steps p.tables e below (s₁.setTop (mkF m 5 #[.val (.ref a1), .val (.double (FP.l2d (0 : Int64))), .second, .val (.int (1 : Int32))] [(.int (1 : Int32))])) _
    refine XS.aloadN X0.here hx rfl (hb hby d1_5) rfl rfl ?_
    show Steps p.tables e below (s₁.setTop (mkF m 6 #[.val (.ref a1), .val (.double (FP.l2d (0 : Int64))), .second, .val (.int (1 : Int32))] [(.ref a1), (.int (1 : Int32))])) _
    refine X0.arraylength hx (by rw [e0]; exact Ar_a1.1) (State.isArrayOf_alike hZ.alike Ar_a1.2.1) (g := (mkF m 6 #[.val (.ref a1), .val (.double (FP.l2d (0 : Int64))), .second, .val (.int (1 : Int32))] [(.ref a1), (.int (1 : Int32))])) rfl rfl (hb hby d1_6) _ ?_
    rw [len_of S_a1 N_a1]
    show Steps p.tables e below (s₁.setTop (mkF m 7 #[.val (.ref a1), .val (.double (FP.l2d (0 : Int64))), .second, .val (.int (1 : Int32))] [(.int z_a1), (.int (1 : Int32))])) _
    refine XS.icmpNo X0.here hx rfl (hb hby d1_7) rfl (tlt hc7).2.1 ?_
    show Steps p.tables e below (s₁.setTop (mkF m 10 #[.val (.ref a1), .val (.double (FP.l2d (0 : Int64))), .second, .val (.int (1 : Int32))] [])) _
    refine XS.dloadN X0.here hx rfl (hb hby d1_10) rfl ?_
    show Steps p.tables e below (s₁.setTop (mkF m 11 #[.val (.ref a1), .val (.double (FP.l2d (0 : Int64))), .second, .val (.int (1 : Int32))] [(.double (FP.l2d (0 : Int64)))])) _
    refine XS.aloadN X0.here hx rfl (hb hby d1_11) rfl rfl ?_
    show Steps p.tables e below (s₁.setTop (mkF m 12 #[.val (.ref a1), .val (.double (FP.l2d (0 : Int64))), .second, .val (.int (1 : Int32))] [(.ref a1), (.double (FP.l2d (0 : Int64)))])) _
    refine XS.iloadN X0.here hx rfl (hb hby d1_12) rfl ?_
    show Steps p.tables e below (s₁.setTop (mkF m 13 #[.val (.ref a1), .val (.double (FP.l2d (0 : Int64))), .second, .val (.int (1 : Int32))] [(.int (1 : Int32)), (.ref a1), (.double (FP.l2d (0 : Int64)))])) _
    refine X0.daload hx (j := (1 : Int32)) (v := (.double (FP.l2d w2))) (by rw [e0]; exact Ar_a1.1) (State.isArrayOf_alike hZ.alike Ar_a1.2.1) Ar_a1.2.2 hin13 hat13 (g := (mkF m 13 #[.val (.ref a1), .val (.double (FP.l2d (0 : Int64))), .second, .val (.int (1 : Int32))] [(.int (1 : Int32)), (.ref a1), (.double (FP.l2d (0 : Int64)))])) rfl rfl (hb hby d1_13) _ ?_
    show Steps p.tables e below (s₁.setTop (mkF m 14 #[.val (.ref a1), .val (.double (FP.l2d (0 : Int64))), .second, .val (.int (1 : Int32))] [(.double (FP.l2d w2)), (.double (FP.l2d (0 : Int64)))])) _
    refine XS.daddS X0.here hx rfl (hb hby d1_14) rfl (nn_w (dadd_w hba14 hbb14)) (dadd_w hba14 hbb14) ?_
    show Steps p.tables e below (s₁.setTop (mkF m 15 #[.val (.ref a1), .val (.double (FP.l2d (0 : Int64))), .second, .val (.int (1 : Int32))] [(.double (FP.l2d ((0 : Int64) + w2)))])) _
    refine XS.dstoreN X0.here hx rfl (hb hby d1_15) rfl (l' := #[.val (.ref a1), .val (.double (FP.l2d ((0 : Int64) + w2))), .second, .val (.int (1 : Int32))]) rfl ?_
    show Steps p.tables e below (s₁.setTop (mkF m 16 #[.val (.ref a1), .val (.double (FP.l2d ((0 : Int64) + w2))), .second, .val (.int (1 : Int32))] [])) _
    refine XS.iinc X0.here hx rfl (hb hby d1_16) rfl (l' := #[.val (.ref a1), .val (.double (FP.l2d ((0 : Int64) + w2))), .second, .val (.int ((1 : Int32) + (1 : Int32)))]) rfl ?_
    show Steps p.tables e below (s₁.setTop (mkF m 19 #[.val (.ref a1), .val (.double (FP.l2d ((0 : Int64) + w2))), .second, .val (.int ((1 : Int32) + (1 : Int32)))] [])) _
    refine XS.goto X0.here hx rfl (pc0 := 19) (pc' := 4) rfl (hb hby d1_19) (by decide) (by decide) ?_
    show Steps p.tables e below (s₁.setTop (mkF m 4 #[.val (.ref a1), .val (.double (FP.l2d ((0 : Int64) + w2))), .second, .val (.int ((1 : Int32) + (1 : Int32)))] [])) _
    refine XS.iloadN X0.here hx rfl (hb hby d1_4) rfl ?_
    show Steps p.tables e below (s₁.setTop (mkF m 5 #[.val (.ref a1), .val (.double (FP.l2d ((0 : Int64) + w2))), .second, .val (.int ((1 : Int32) + (1 : Int32)))] [(.int ((1 : Int32) + (1 : Int32)))])) _
    refine XS.aloadN X0.here hx rfl (hb hby d1_5) rfl rfl ?_
    show Steps p.tables e below (s₁.setTop (mkF m 6 #[.val (.ref a1), .val (.double (FP.l2d ((0 : Int64) + w2))), .second, .val (.int ((1 : Int32) + (1 : Int32)))] [(.ref a1), (.int ((1 : Int32) + (1 : Int32)))])) _
    refine X0.arraylength hx (by rw [e0]; exact Ar_a1.1) (State.isArrayOf_alike hZ.alike Ar_a1.2.1) (g := (mkF m 6 #[.val (.ref a1), .val (.double (FP.l2d ((0 : Int64) + w2))), .second, .val (.int ((1 : Int32) + (1 : Int32)))] [(.ref a1), (.int ((1 : Int32) + (1 : Int32)))])) rfl rfl (hb hby d1_6) _ ?_
    rw [len_of S_a1 N_a1]
    show Steps p.tables e below (s₁.setTop (mkF m 7 #[.val (.ref a1), .val (.double (FP.l2d ((0 : Int64) + w2))), .second, .val (.int ((1 : Int32) + (1 : Int32)))] [(.int z_a1), (.int ((1 : Int32) + (1 : Int32)))])) _
    refine XS.icmpYes X0.here hx rfl (pc0 := 7) (pc' := 22) rfl (hb hby d1_7) rfl (flt hc7_20).2.1 (by decide) (by decide) ?_
    show Steps p.tables e below (s₁.setTop (mkF m 22 #[.val (.ref a1), .val (.double (FP.l2d ((0 : Int64) + w2))), .second, .val (.int ((1 : Int32) + (1 : Int32)))] [])) _
    refine XS.dconst1 X0.here hx rfl (hb hby d1_22) (own_dc1) ?_
    show Steps p.tables e below (s₁.setTop (mkF m 23 #[.val (.ref a1), .val (.double (FP.l2d ((0 : Int64) + w2))), .second, .val (.int ((1 : Int32) + (1 : Int32)))] [(.double (FP.l2d (1 : Int64)))])) _
    refine X0.ldc2DoubleC hx hown (mvT hZ (hw _ (List.mem_of_getElem? (i := 8) rfl))) (g := (mkF m 23 #[.val (.ref a1), .val (.double (FP.l2d ((0 : Int64) + w2))), .second, .val (.int ((1 : Int32) + (1 : Int32)))] [(.double (FP.l2d (1 : Int64)))])) rfl (hb hby d1_23) _ ?_
    rw [show (4621256167635550208 : UInt64) = FP.l2d (9 : Int64) from by decide +kernel]
    show Steps p.tables e below (s₁.setTop (mkF m 26 #[.val (.ref a1), .val (.double (FP.l2d ((0 : Int64) + w2))), .second, .val (.int ((1 : Int32) + (1 : Int32)))] [(.double (FP.l2d (9 : Int64))), (.double (FP.l2d (1 : Int64)))])) _
    refine XS.dloadN X0.here hx rfl (hb hby d1_26) rfl ?_
    show Steps p.tables e below (s₁.setTop (mkF m 27 #[.val (.ref a1), .val (.double (FP.l2d ((0 : Int64) + w2))), .second, .val (.int ((1 : Int32) + (1 : Int32)))] [(.double (FP.l2d ((0 : Int64) + w2))), (.double (FP.l2d (9 : Int64))), (.double (FP.l2d (1 : Int64)))])) _
    refine XS.dmulS X0.here hx rfl (hb hby d1_27) rfl (nn_w hm27) hm27 ?_
    show Steps p.tables e below (s₁.setTop (mkF m 28 #[.val (.ref a1), .val (.double (FP.l2d ((0 : Int64) + w2))), .second, .val (.int ((1 : Int32) + (1 : Int32)))] [(.double (FP.l2d ((9 : Int64) * ((0 : Int64) + w2)))), (.double (FP.l2d (1 : Int64)))])) _
    refine XS.aloadN X0.here hx rfl (hb hby d1_28) rfl rfl ?_
    show Steps p.tables e below (s₁.setTop (mkF m 29 #[.val (.ref a1), .val (.double (FP.l2d ((0 : Int64) + w2))), .second, .val (.int ((1 : Int32) + (1 : Int32)))] [(.ref a1), (.double (FP.l2d ((9 : Int64) * ((0 : Int64) + w2)))), (.double (FP.l2d (1 : Int64)))])) _
    refine X0.arraylength hx (by rw [e0]; exact Ar_a1.1) (State.isArrayOf_alike hZ.alike Ar_a1.2.1) (g := (mkF m 29 #[.val (.ref a1), .val (.double (FP.l2d ((0 : Int64) + w2))), .second, .val (.int ((1 : Int32) + (1 : Int32)))] [(.ref a1), (.double (FP.l2d ((9 : Int64) * ((0 : Int64) + w2)))), (.double (FP.l2d (1 : Int64)))])) rfl rfl (hb hby d1_29) _ ?_
    rw [len_of S_a1 N_a1]
    show Steps p.tables e below (s₁.setTop (mkF m 30 #[.val (.ref a1), .val (.double (FP.l2d ((0 : Int64) + w2))), .second, .val (.int ((1 : Int32) + (1 : Int32)))] [(.int z_a1), (.double (FP.l2d ((9 : Int64) * ((0 : Int64) + w2)))), (.double (FP.l2d (1 : Int64)))])) _
    refine XS.iconst X0.here hx rfl (hb hby d1_30) ?_
    show Steps p.tables e below (s₁.setTop (mkF m 31 #[.val (.ref a1), .val (.double (FP.l2d ((0 : Int64) + w2))), .second, .val (.int ((1 : Int32) + (1 : Int32)))] [(.int (1 : Int32)), (.int z_a1), (.double (FP.l2d ((9 : Int64) * ((0 : Int64) + w2)))), (.double (FP.l2d (1 : Int64)))])) _
    refine XS.isub X0.here hx rfl (hb hby d1_31) rfl ?_
    show Steps p.tables e below (s₁.setTop (mkF m 32 #[.val (.ref a1), .val (.double (FP.l2d ((0 : Int64) + w2))), .second, .val (.int ((1 : Int32) + (1 : Int32)))] [(.int (z_a1 - (1 : Int32))), (.double (FP.l2d ((9 : Int64) * ((0 : Int64) + w2)))), (.double (FP.l2d (1 : Int64)))])) _
    refine XS.i2dS X0.here hx rfl (hb hby d1_32) rfl (i2d_w _) ?_
    show Steps p.tables e below (s₁.setTop (mkF m 33 #[.val (.ref a1), .val (.double (FP.l2d ((0 : Int64) + w2))), .second, .val (.int ((1 : Int32) + (1 : Int32)))] [(.double (FP.l2d ((z_a1 - (1 : Int32)).toInt64))), (.double (FP.l2d ((9 : Int64) * ((0 : Int64) + w2)))), (.double (FP.l2d (1 : Int64)))])) _
    refine XS.ddivS X0.here hx rfl (hb hby d1_33) rfl (nn_w hd33) hd33 ?_
    show Steps p.tables e below (s₁.setTop (mkF m 34 #[.val (.ref a1), .val (.double (FP.l2d ((0 : Int64) + w2))), .second, .val (.int ((1 : Int32) + (1 : Int32)))] [(.double (FP.l2d (((9 : Int64) * ((0 : Int64) + w2)) / ((z_a1 - (1 : Int32)).toInt64)))), (.double (FP.l2d (1 : Int64)))])) _
    refine XS.daddS X0.here hx rfl (hb hby d1_34) rfl (nn_w (dadd_w hba34 hbb34)) (dadd_w hba34 hbb34) ?_
    show Steps p.tables e below (s₁.setTop (mkF m 35 #[.val (.ref a1), .val (.double (FP.l2d ((0 : Int64) + w2))), .second, .val (.int ((1 : Int32) + (1 : Int32)))] [(.double (FP.l2d ((1 : Int64) + (((9 : Int64) * ((0 : Int64) + w2)) / ((z_a1 - (1 : Int32)).toInt64)))))])) _
    exact own_retD X0 hx Bd.returns (hb hby d1_35) hr
  · show own_QR (.double (FP.l2d ((1 : Int64) + (((9 : Int64) * ((0 : Int64) + w2)) / ((z_a1 - (1 : Int32)).toInt64))))) h0 n0 _ s₁.heap _
    rw [e0]
    exact ⟨rfl, N0, rfl⟩
theorem rm1_n2 (l : Launch) (Z : State) (a0 : Array Value) (hw : ∀ d ∈ tables_1, d.before a0 Z = true) (ws : List Jvm.Cond) (a1 : Addr) (k : ClassId) (dv : Value) (x0 w2 mm : Int64) (h0 : Heap) (n0 : Nat) (Z0 : n0 ≤ h0.size) (V : Arv Z h0 a1 k .double (2 : Int32) [(.double (FP.l2d x0)), (.double (FP.l2d w2))] dv) (b_w2 : own_S w2) (bm : own_S mm) (hs : w2.toInt = 1 * mm.toInt) :
    MetFree l (⟨"com/example/paretoloom/paretoloom/problems/Zdt", "linearG", "([D)D"⟩ : MethodName) (head1 (Jvm.Cond.code (⟨"com/example/paretoloom/paretoloom/problems/Zdt", "linearG", "([D)D"⟩ : MethodName) prog_46_method_12_code 4 (some .double) :: ws) ({ frames := 0, cells := 0, slots := 0, locals := 0 } : Room)) (fun a U => a = #[(.ref a1)] ∧ Z.Warmed39 U.vm ∧ U.heap = h0) (fun _ _ _ _ _ => True) (fun _ U o U' => ∃ v L, o = .returned v ∧ own_QR (.double (FP.l2d ((1 : Int64) + ((9 : Int64) * mm)))) h0 n0 v U'.heap L ∧ FrameEnd U o U' L ({ frames := 0, cells := 0, slots := 0, locals := 0 } : Room).cells ({ frames := 0, cells := 0, slots := 0, locals := 0 } : Room).slots) := by
  obtain ⟨cl, Ar, q, S, N, H, G⟩ := V
  have s0 : (0 : Int64).toInt = 0 := by decide
  have t0 : own_T (0 : Int64) := by unfold own_T; rw [s0]; omega
  have s1 : ((0 : Int64) + w2).toInt = (0 : Int64).toInt + w2.toInt := own_add t0 (own_ST b_w2)
  have t1 : own_T ((0 : Int64) + w2) := by unfold own_T; unfold own_S at *; omega
  have hS : ((0 : Int64) + w2).toInt = 1 * mm.toInt := by omega
  obtain ⟨f1, f2, f3, f4⟩ := own_fin (nn := (((2 : Int32) - (1 : Int32)).toInt64)) (n := 1) bm (by decide) (by omega) hS
  rw [← f4]
  exact rm1_ft l Z a0 hw ws a1 cl (2 : Int32) w2 h0 n0 Z0 Ar S N (inb_of S ⟨by decide, by decide⟩) (H 1 (by rw [S]; decide)) (by decide) (own_TB t0) (own_TB (own_ST b_w2)) (by decide) f1 f2 own_B1 f3
set_option maxRecDepth 65536 in
set_option maxHeartbeats 40000000 in
theorem rm1_fft (l : Launch) (Z : State) (a0 : Array Value) (hw : ∀ d ∈ tables_1, d.before a0 Z = true) (ws : List Jvm.Cond) (a1 : Addr) (cl_a1 : Cell) (z_a1 : Int32) (w2 : Int64) (w3 : Int64) (h0 : Heap) (n0 : Nat) (Z0 : n0 ≤ h0.size) (Ar_a1 : Arr Z h0 a1 cl_a1 .double) (S_a1 : cl_a1.slots.size = z_a1.toNatClampNeg) (N_a1 : ¬ z_a1 < 0) (hin13 : ¬ ((1 : Int32) < 0 ∨ cl_a1.slots.size ≤ ((1 : Int32)).toNatClampNeg)) (hat13 : cl_a1.slots[((1 : Int32)).toNatClampNeg]? = some (.double (FP.l2d w2))) (hin13_24 : ¬ (((1 : Int32) + (1 : Int32)) < 0 ∨ cl_a1.slots.size ≤ (((1 : Int32) + (1 : Int32))).toNatClampNeg)) (hat13_24 : cl_a1.slots[(((1 : Int32) + (1 : Int32))).toNatClampNeg]? = some (.double (FP.l2d w3))) (hc7 : (1 : Int32) < z_a1) (hba14 : B53 (0 : Int64)) (hbb14 : B53 w2) (hc7_20 : ((1 : Int32) + (1 : Int32)) < z_a1) (hba14_25 : B53 ((0 : Int64) + w2)) (hbb14_25 : B53 w3) (hc7_32 : ¬ ((((1 : Int32) + (1 : Int32)) + (1 : Int32)) < z_a1)) (hm27 : FP.dmul (FP.l2d (9 : Int64)) (FP.l2d (((0 : Int64) + w2) + w3)) = FP.l2d ((9 : Int64) * (((0 : Int64) + w2) + w3))) (hd33 : FP.ddiv (FP.l2d ((9 : Int64) * (((0 : Int64) + w2) + w3))) (FP.l2d ((z_a1 - (1 : Int32)).toInt64)) = FP.l2d (((9 : Int64) * (((0 : Int64) + w2) + w3)) / ((z_a1 - (1 : Int32)).toInt64))) (hba34 : B53 (1 : Int64)) (hbb34 : B53 (((9 : Int64) * (((0 : Int64) + w2) + w3)) / ((z_a1 - (1 : Int32)).toInt64))) :
    MetFree l (⟨"com/example/paretoloom/paretoloom/problems/Zdt", "linearG", "([D)D"⟩ : MethodName) (head1 (Jvm.Cond.code (⟨"com/example/paretoloom/paretoloom/problems/Zdt", "linearG", "([D)D"⟩ : MethodName) prog_46_method_12_code 4 (some .double) :: ws) ({ frames := 0, cells := 0, slots := 0, locals := 0 } : Room)) (fun a U => a = #[(.ref a1)] ∧ Z.Warmed39 U.vm ∧ U.heap = h0) (fun _ _ _ _ _ => True) (fun _ U o U' => ∃ v L, o = .returned v ∧ own_QR (.double (FP.l2d ((1 : Int64) + (((9 : Int64) * (((0 : Int64) + w2) + w3)) / ((z_a1 - (1 : Int32)).toInt64))))) h0 n0 v U'.heap L ∧ FrameEnd U o U' L ({ frames := 0, cells := 0, slots := 0, locals := 0 } : Room).cells ({ frames := 0, cells := 0, slots := 0, locals := 0 } : Room).slots) := by
  refine MetFree.of_bodySF (plainFor_of_name pn_1) hisR ?_
  intro p e s m args below meth c s₁ Bd hml0 hP hK
  obtain ⟨rfl, hZ, hh⟩ := hP
  have hx := Bd.exec
  have hby := Bd.bytes
  have hml : c.maxLocals = 4 := hml0
  have hown : s.vm.findClass "com/example/paretoloom/paretoloom/problems/Zdt" = some m.cls := findClass_of_methodNamed Bd.named
  have hnm := (name_of_methodNamed Bd.named Bd.method).1
  have X0 : Stand p l e ({ frames := 0, cells := 0, slots := 0, locals := 0 } : Room) s m #[(.ref a1)] below meth c s₁ [] 0 0 := Stand.of_body Bd
  have e0 : s₁.heap = h0 := by rw [← hh, Bd.state]; rfl
  have N0 := Fr.nil n0
  have pre0 : ∀ t, Steps p.tables e below (s₁.setTop (mkF m 0 #[.val (.ref a1), .unset, .unset, .unset] [])) t → Steps p.tables e below (s₁.setTop (entryFrame m #[(.ref a1)] 4)) t := fun t k => castTop (ef_1 m a1) k
  -- 3. LAWS

  obtain ⟨fs, hr, hrun, hended, hW, hsame⟩ := X0.leave (v := some (.double (FP.l2d ((1 : Int64) + (((9 : Int64) * (((0 : Int64) + w2) + w3)) / ((z_a1 - (1 : Int32)).toInt64)))))) (fun h => by rw [Bd.returns] at h; cases h)
  refine ⟨_, _, pre0 _ ?_, hrun, hended, _, _, rfl, ?_, ⟨_, rfl⟩, hW, hsame.mono (by decide) (by decide)⟩
  -- 4. STEPS
  · show Steps p.tables e below (s₁.setTop (mkF m 0 #[.val (.ref a1), .unset, .unset, .unset] [])) _
    refine XS.dconst0 X0.here hx rfl (hb hby d1_0) (own_dc0) ?_
    show Steps p.tables e below (s₁.setTop (mkF m 1 #[.val (.ref a1), .unset, .unset, .unset] [(.double (FP.l2d (0 : Int64)))])) _
    refine XS.dstoreN X0.here hx rfl (hb hby d1_1) rfl (l' := #[.val (.ref a1), .val (.double (FP.l2d (0 : Int64))), .second, .unset]) rfl ?_
    show Steps p.tables e below (s₁.setTop (mkF m 2 #[.val (.ref a1), .val (.double (FP.l2d (0 : Int64))), .second, .unset] [])) _
    refine XS.iconst X0.here hx rfl (hb hby d1_2) ?_
    show Steps p.tables e below (s₁.setTop (mkF m 3 #[.val (.ref a1), .val (.double (FP.l2d (0 : Int64))), .second, .unset] [(.int (1 : Int32))])) _
    refine XS.istoreN X0.here hx rfl (hb hby d1_3) rfl (l' := #[.val (.ref a1), .val (.double (FP.l2d (0 : Int64))), .second, .val (.int (1 : Int32))]) rfl ?_
    show Steps p.tables e below (s₁.setTop (mkF m 4 #[.val (.ref a1), .val (.double (FP.l2d (0 : Int64))), .second, .val (.int (1 : Int32))] [])) _
    refine XS.iloadN X0.here hx rfl (hb hby d1_4) rfl ?_
    show Steps p.tables e below (s₁.setTop (mkF m 5 #[.val (.ref a1), .val (.double (FP.l2d (0 : Int64))), .second, .val (.int (1 : Int32))] [(.int (1 : Int32))])) _
    refine XS.aloadN X0.here hx rfl (hb hby d1_5) rfl rfl ?_
    show Steps p.tables e below (s₁.setTop (mkF m 6 #[.val (.ref a1), .val (.double (FP.l2d (0 : Int64))), .second, .val (.int (1 : Int32))] [(.ref a1), (.int (1 : Int32))])) _
    refine X0.arraylength hx (by rw [e0]; exact Ar_a1.1) (State.isArrayOf_alike hZ.alike Ar_a1.2.1) (g := (mkF m 6 #[.val (.ref a1), .val (.double (FP.l2d (0 : Int64))), .second, .val (.int (1 : Int32))] [(.ref a1), (.int (1 : Int32))])) rfl rfl (hb hby d1_6) _ ?_
    rw [len_of S_a1 N_a1]
    show Steps p.tables e below (s₁.setTop (mkF m 7 #[.val (.ref a1), .val (.double (FP.l2d (0 : Int64))), .second, .val (.int (1 : Int32))] [(.int z_a1), (.int (1 : Int32))])) _
    refine XS.icmpNo X0.here hx rfl (hb hby d1_7) rfl (tlt hc7).2.1 ?_
    show Steps p.tables e below (s₁.setTop (mkF m 10 #[.val (.ref a1), .val (.double (FP.l2d (0 : Int64))), .second, .val (.int (1 : Int32))] [])) _
    refine XS.dloadN X0.here hx rfl (hb hby d1_10) rfl ?_
    show Steps p.tables e below (s₁.setTop (mkF m 11 #[.val (.ref a1), .val (.double (FP.l2d (0 : Int64))), .second, .val (.int (1 : Int32))] [(.double (FP.l2d (0 : Int64)))])) _
    refine XS.aloadN X0.here hx rfl (hb hby d1_11) rfl rfl ?_
    show Steps p.tables e below (s₁.setTop (mkF m 12 #[.val (.ref a1), .val (.double (FP.l2d (0 : Int64))), .second, .val (.int (1 : Int32))] [(.ref a1), (.double (FP.l2d (0 : Int64)))])) _
    refine XS.iloadN X0.here hx rfl (hb hby d1_12) rfl ?_
    show Steps p.tables e below (s₁.setTop (mkF m 13 #[.val (.ref a1), .val (.double (FP.l2d (0 : Int64))), .second, .val (.int (1 : Int32))] [(.int (1 : Int32)), (.ref a1), (.double (FP.l2d (0 : Int64)))])) _
    refine X0.daload hx (j := (1 : Int32)) (v := (.double (FP.l2d w2))) (by rw [e0]; exact Ar_a1.1) (State.isArrayOf_alike hZ.alike Ar_a1.2.1) Ar_a1.2.2 hin13 hat13 (g := (mkF m 13 #[.val (.ref a1), .val (.double (FP.l2d (0 : Int64))), .second, .val (.int (1 : Int32))] [(.int (1 : Int32)), (.ref a1), (.double (FP.l2d (0 : Int64)))])) rfl rfl (hb hby d1_13) _ ?_
    show Steps p.tables e below (s₁.setTop (mkF m 14 #[.val (.ref a1), .val (.double (FP.l2d (0 : Int64))), .second, .val (.int (1 : Int32))] [(.double (FP.l2d w2)), (.double (FP.l2d (0 : Int64)))])) _
    refine XS.daddS X0.here hx rfl (hb hby d1_14) rfl (nn_w (dadd_w hba14 hbb14)) (dadd_w hba14 hbb14) ?_
    show Steps p.tables e below (s₁.setTop (mkF m 15 #[.val (.ref a1), .val (.double (FP.l2d (0 : Int64))), .second, .val (.int (1 : Int32))] [(.double (FP.l2d ((0 : Int64) + w2)))])) _
    refine XS.dstoreN X0.here hx rfl (hb hby d1_15) rfl (l' := #[.val (.ref a1), .val (.double (FP.l2d ((0 : Int64) + w2))), .second, .val (.int (1 : Int32))]) rfl ?_
    show Steps p.tables e below (s₁.setTop (mkF m 16 #[.val (.ref a1), .val (.double (FP.l2d ((0 : Int64) + w2))), .second, .val (.int (1 : Int32))] [])) _
    refine XS.iinc X0.here hx rfl (hb hby d1_16) rfl (l' := #[.val (.ref a1), .val (.double (FP.l2d ((0 : Int64) + w2))), .second, .val (.int ((1 : Int32) + (1 : Int32)))]) rfl ?_
    show Steps p.tables e below (s₁.setTop (mkF m 19 #[.val (.ref a1), .val (.double (FP.l2d ((0 : Int64) + w2))), .second, .val (.int ((1 : Int32) + (1 : Int32)))] [])) _
    refine XS.goto X0.here hx rfl (pc0 := 19) (pc' := 4) rfl (hb hby d1_19) (by decide) (by decide) ?_
    show Steps p.tables e below (s₁.setTop (mkF m 4 #[.val (.ref a1), .val (.double (FP.l2d ((0 : Int64) + w2))), .second, .val (.int ((1 : Int32) + (1 : Int32)))] [])) _
    refine XS.iloadN X0.here hx rfl (hb hby d1_4) rfl ?_
    show Steps p.tables e below (s₁.setTop (mkF m 5 #[.val (.ref a1), .val (.double (FP.l2d ((0 : Int64) + w2))), .second, .val (.int ((1 : Int32) + (1 : Int32)))] [(.int ((1 : Int32) + (1 : Int32)))])) _
    refine XS.aloadN X0.here hx rfl (hb hby d1_5) rfl rfl ?_
    show Steps p.tables e below (s₁.setTop (mkF m 6 #[.val (.ref a1), .val (.double (FP.l2d ((0 : Int64) + w2))), .second, .val (.int ((1 : Int32) + (1 : Int32)))] [(.ref a1), (.int ((1 : Int32) + (1 : Int32)))])) _
    refine X0.arraylength hx (by rw [e0]; exact Ar_a1.1) (State.isArrayOf_alike hZ.alike Ar_a1.2.1) (g := (mkF m 6 #[.val (.ref a1), .val (.double (FP.l2d ((0 : Int64) + w2))), .second, .val (.int ((1 : Int32) + (1 : Int32)))] [(.ref a1), (.int ((1 : Int32) + (1 : Int32)))])) rfl rfl (hb hby d1_6) _ ?_
    rw [len_of S_a1 N_a1]
    show Steps p.tables e below (s₁.setTop (mkF m 7 #[.val (.ref a1), .val (.double (FP.l2d ((0 : Int64) + w2))), .second, .val (.int ((1 : Int32) + (1 : Int32)))] [(.int z_a1), (.int ((1 : Int32) + (1 : Int32)))])) _
    refine XS.icmpNo X0.here hx rfl (hb hby d1_7) rfl (tlt hc7_20).2.1 ?_
    show Steps p.tables e below (s₁.setTop (mkF m 10 #[.val (.ref a1), .val (.double (FP.l2d ((0 : Int64) + w2))), .second, .val (.int ((1 : Int32) + (1 : Int32)))] [])) _
    refine XS.dloadN X0.here hx rfl (hb hby d1_10) rfl ?_
    show Steps p.tables e below (s₁.setTop (mkF m 11 #[.val (.ref a1), .val (.double (FP.l2d ((0 : Int64) + w2))), .second, .val (.int ((1 : Int32) + (1 : Int32)))] [(.double (FP.l2d ((0 : Int64) + w2)))])) _
    refine XS.aloadN X0.here hx rfl (hb hby d1_11) rfl rfl ?_
    show Steps p.tables e below (s₁.setTop (mkF m 12 #[.val (.ref a1), .val (.double (FP.l2d ((0 : Int64) + w2))), .second, .val (.int ((1 : Int32) + (1 : Int32)))] [(.ref a1), (.double (FP.l2d ((0 : Int64) + w2)))])) _
    refine XS.iloadN X0.here hx rfl (hb hby d1_12) rfl ?_
    show Steps p.tables e below (s₁.setTop (mkF m 13 #[.val (.ref a1), .val (.double (FP.l2d ((0 : Int64) + w2))), .second, .val (.int ((1 : Int32) + (1 : Int32)))] [(.int ((1 : Int32) + (1 : Int32))), (.ref a1), (.double (FP.l2d ((0 : Int64) + w2)))])) _
    refine X0.daload hx (j := ((1 : Int32) + (1 : Int32))) (v := (.double (FP.l2d w3))) (by rw [e0]; exact Ar_a1.1) (State.isArrayOf_alike hZ.alike Ar_a1.2.1) Ar_a1.2.2 hin13_24 hat13_24 (g := (mkF m 13 #[.val (.ref a1), .val (.double (FP.l2d ((0 : Int64) + w2))), .second, .val (.int ((1 : Int32) + (1 : Int32)))] [(.int ((1 : Int32) + (1 : Int32))), (.ref a1), (.double (FP.l2d ((0 : Int64) + w2)))])) rfl rfl (hb hby d1_13) _ ?_
    show Steps p.tables e below (s₁.setTop (mkF m 14 #[.val (.ref a1), .val (.double (FP.l2d ((0 : Int64) + w2))), .second, .val (.int ((1 : Int32) + (1 : Int32)))] [(.double (FP.l2d w3)), (.double (FP.l2d ((0 : Int64) + w2)))])) _
    refine XS.daddS X0.here hx rfl (hb hby d1_14) rfl (nn_w (dadd_w hba14_25 hbb14_25)) (dadd_w hba14_25 hbb14_25) ?_
    show Steps p.tables e below (s₁.setTop (mkF m 15 #[.val (.ref a1), .val (.double (FP.l2d ((0 : Int64) + w2))), .second, .val (.int ((1 : Int32) + (1 : Int32)))] [(.double (FP.l2d (((0 : Int64) + w2) + w3)))])) _
    refine XS.dstoreN X0.here hx rfl (hb hby d1_15) rfl (l' := #[.val (.ref a1), .val (.double (FP.l2d (((0 : Int64) + w2) + w3))), .second, .val (.int ((1 : Int32) + (1 : Int32)))]) rfl ?_
    show Steps p.tables e below (s₁.setTop (mkF m 16 #[.val (.ref a1), .val (.double (FP.l2d (((0 : Int64) + w2) + w3))), .second, .val (.int ((1 : Int32) + (1 : Int32)))] [])) _
    refine XS.iinc X0.here hx rfl (hb hby d1_16) rfl (l' := #[.val (.ref a1), .val (.double (FP.l2d (((0 : Int64) + w2) + w3))), .second, .val (.int (((1 : Int32) + (1 : Int32)) + (1 : Int32)))]) rfl ?_
    show Steps p.tables e below (s₁.setTop (mkF m 19 #[.val (.ref a1), .val (.double (FP.l2d (((0 : Int64) + w2) + w3))), .second, .val (.int (((1 : Int32) + (1 : Int32)) + (1 : Int32)))] [])) _
    refine XS.goto X0.here hx rfl (pc0 := 19) (pc' := 4) rfl (hb hby d1_19) (by decide) (by decide) ?_
    show Steps p.tables e below (s₁.setTop (mkF m 4 #[.val (.ref a1), .val (.double (FP.l2d (((0 : Int64) + w2) + w3))), .second, .val (.int (((1 : Int32) + (1 : Int32)) + (1 : Int32)))] [])) _
    refine XS.iloadN X0.here hx rfl (hb hby d1_4) rfl ?_
    show Steps p.tables e below (s₁.setTop (mkF m 5 #[.val (.ref a1), .val (.double (FP.l2d (((0 : Int64) + w2) + w3))), .second, .val (.int (((1 : Int32) + (1 : Int32)) + (1 : Int32)))] [(.int (((1 : Int32) + (1 : Int32)) + (1 : Int32)))])) _
    refine XS.aloadN X0.here hx rfl (hb hby d1_5) rfl rfl ?_
    show Steps p.tables e below (s₁.setTop (mkF m 6 #[.val (.ref a1), .val (.double (FP.l2d (((0 : Int64) + w2) + w3))), .second, .val (.int (((1 : Int32) + (1 : Int32)) + (1 : Int32)))] [(.ref a1), (.int (((1 : Int32) + (1 : Int32)) + (1 : Int32)))])) _
    refine X0.arraylength hx (by rw [e0]; exact Ar_a1.1) (State.isArrayOf_alike hZ.alike Ar_a1.2.1) (g := (mkF m 6 #[.val (.ref a1), .val (.double (FP.l2d (((0 : Int64) + w2) + w3))), .second, .val (.int (((1 : Int32) + (1 : Int32)) + (1 : Int32)))] [(.ref a1), (.int (((1 : Int32) + (1 : Int32)) + (1 : Int32)))])) rfl rfl (hb hby d1_6) _ ?_
    rw [len_of S_a1 N_a1]
    show Steps p.tables e below (s₁.setTop (mkF m 7 #[.val (.ref a1), .val (.double (FP.l2d (((0 : Int64) + w2) + w3))), .second, .val (.int (((1 : Int32) + (1 : Int32)) + (1 : Int32)))] [(.int z_a1), (.int (((1 : Int32) + (1 : Int32)) + (1 : Int32)))])) _
    refine XS.icmpYes X0.here hx rfl (pc0 := 7) (pc' := 22) rfl (hb hby d1_7) rfl (flt hc7_32).2.1 (by decide) (by decide) ?_
    show Steps p.tables e below (s₁.setTop (mkF m 22 #[.val (.ref a1), .val (.double (FP.l2d (((0 : Int64) + w2) + w3))), .second, .val (.int (((1 : Int32) + (1 : Int32)) + (1 : Int32)))] [])) _
    refine XS.dconst1 X0.here hx rfl (hb hby d1_22) (own_dc1) ?_
    show Steps p.tables e below (s₁.setTop (mkF m 23 #[.val (.ref a1), .val (.double (FP.l2d (((0 : Int64) + w2) + w3))), .second, .val (.int (((1 : Int32) + (1 : Int32)) + (1 : Int32)))] [(.double (FP.l2d (1 : Int64)))])) _
    refine X0.ldc2DoubleC hx hown (mvT hZ (hw _ (List.mem_of_getElem? (i := 8) rfl))) (g := (mkF m 23 #[.val (.ref a1), .val (.double (FP.l2d (((0 : Int64) + w2) + w3))), .second, .val (.int (((1 : Int32) + (1 : Int32)) + (1 : Int32)))] [(.double (FP.l2d (1 : Int64)))])) rfl (hb hby d1_23) _ ?_
    rw [show (4621256167635550208 : UInt64) = FP.l2d (9 : Int64) from by decide +kernel]
    show Steps p.tables e below (s₁.setTop (mkF m 26 #[.val (.ref a1), .val (.double (FP.l2d (((0 : Int64) + w2) + w3))), .second, .val (.int (((1 : Int32) + (1 : Int32)) + (1 : Int32)))] [(.double (FP.l2d (9 : Int64))), (.double (FP.l2d (1 : Int64)))])) _
    refine XS.dloadN X0.here hx rfl (hb hby d1_26) rfl ?_
    show Steps p.tables e below (s₁.setTop (mkF m 27 #[.val (.ref a1), .val (.double (FP.l2d (((0 : Int64) + w2) + w3))), .second, .val (.int (((1 : Int32) + (1 : Int32)) + (1 : Int32)))] [(.double (FP.l2d (((0 : Int64) + w2) + w3))), (.double (FP.l2d (9 : Int64))), (.double (FP.l2d (1 : Int64)))])) _
    refine XS.dmulS X0.here hx rfl (hb hby d1_27) rfl (nn_w hm27) hm27 ?_
    show Steps p.tables e below (s₁.setTop (mkF m 28 #[.val (.ref a1), .val (.double (FP.l2d (((0 : Int64) + w2) + w3))), .second, .val (.int (((1 : Int32) + (1 : Int32)) + (1 : Int32)))] [(.double (FP.l2d ((9 : Int64) * (((0 : Int64) + w2) + w3)))), (.double (FP.l2d (1 : Int64)))])) _
    refine XS.aloadN X0.here hx rfl (hb hby d1_28) rfl rfl ?_
    show Steps p.tables e below (s₁.setTop (mkF m 29 #[.val (.ref a1), .val (.double (FP.l2d (((0 : Int64) + w2) + w3))), .second, .val (.int (((1 : Int32) + (1 : Int32)) + (1 : Int32)))] [(.ref a1), (.double (FP.l2d ((9 : Int64) * (((0 : Int64) + w2) + w3)))), (.double (FP.l2d (1 : Int64)))])) _
    refine X0.arraylength hx (by rw [e0]; exact Ar_a1.1) (State.isArrayOf_alike hZ.alike Ar_a1.2.1) (g := (mkF m 29 #[.val (.ref a1), .val (.double (FP.l2d (((0 : Int64) + w2) + w3))), .second, .val (.int (((1 : Int32) + (1 : Int32)) + (1 : Int32)))] [(.ref a1), (.double (FP.l2d ((9 : Int64) * (((0 : Int64) + w2) + w3)))), (.double (FP.l2d (1 : Int64)))])) rfl rfl (hb hby d1_29) _ ?_
    rw [len_of S_a1 N_a1]
    show Steps p.tables e below (s₁.setTop (mkF m 30 #[.val (.ref a1), .val (.double (FP.l2d (((0 : Int64) + w2) + w3))), .second, .val (.int (((1 : Int32) + (1 : Int32)) + (1 : Int32)))] [(.int z_a1), (.double (FP.l2d ((9 : Int64) * (((0 : Int64) + w2) + w3)))), (.double (FP.l2d (1 : Int64)))])) _
    refine XS.iconst X0.here hx rfl (hb hby d1_30) ?_
    show Steps p.tables e below (s₁.setTop (mkF m 31 #[.val (.ref a1), .val (.double (FP.l2d (((0 : Int64) + w2) + w3))), .second, .val (.int (((1 : Int32) + (1 : Int32)) + (1 : Int32)))] [(.int (1 : Int32)), (.int z_a1), (.double (FP.l2d ((9 : Int64) * (((0 : Int64) + w2) + w3)))), (.double (FP.l2d (1 : Int64)))])) _
    refine XS.isub X0.here hx rfl (hb hby d1_31) rfl ?_
    show Steps p.tables e below (s₁.setTop (mkF m 32 #[.val (.ref a1), .val (.double (FP.l2d (((0 : Int64) + w2) + w3))), .second, .val (.int (((1 : Int32) + (1 : Int32)) + (1 : Int32)))] [(.int (z_a1 - (1 : Int32))), (.double (FP.l2d ((9 : Int64) * (((0 : Int64) + w2) + w3)))), (.double (FP.l2d (1 : Int64)))])) _
    refine XS.i2dS X0.here hx rfl (hb hby d1_32) rfl (i2d_w _) ?_
    show Steps p.tables e below (s₁.setTop (mkF m 33 #[.val (.ref a1), .val (.double (FP.l2d (((0 : Int64) + w2) + w3))), .second, .val (.int (((1 : Int32) + (1 : Int32)) + (1 : Int32)))] [(.double (FP.l2d ((z_a1 - (1 : Int32)).toInt64))), (.double (FP.l2d ((9 : Int64) * (((0 : Int64) + w2) + w3)))), (.double (FP.l2d (1 : Int64)))])) _
    refine XS.ddivS X0.here hx rfl (hb hby d1_33) rfl (nn_w hd33) hd33 ?_
    show Steps p.tables e below (s₁.setTop (mkF m 34 #[.val (.ref a1), .val (.double (FP.l2d (((0 : Int64) + w2) + w3))), .second, .val (.int (((1 : Int32) + (1 : Int32)) + (1 : Int32)))] [(.double (FP.l2d (((9 : Int64) * (((0 : Int64) + w2) + w3)) / ((z_a1 - (1 : Int32)).toInt64)))), (.double (FP.l2d (1 : Int64)))])) _
    refine XS.daddS X0.here hx rfl (hb hby d1_34) rfl (nn_w (dadd_w hba34 hbb34)) (dadd_w hba34 hbb34) ?_
    show Steps p.tables e below (s₁.setTop (mkF m 35 #[.val (.ref a1), .val (.double (FP.l2d (((0 : Int64) + w2) + w3))), .second, .val (.int (((1 : Int32) + (1 : Int32)) + (1 : Int32)))] [(.double (FP.l2d ((1 : Int64) + (((9 : Int64) * (((0 : Int64) + w2) + w3)) / ((z_a1 - (1 : Int32)).toInt64)))))])) _
    exact own_retD X0 hx Bd.returns (hb hby d1_35) hr
  · show own_QR (.double (FP.l2d ((1 : Int64) + (((9 : Int64) * (((0 : Int64) + w2) + w3)) / ((z_a1 - (1 : Int32)).toInt64))))) h0 n0 _ s₁.heap _
    rw [e0]
    exact ⟨rfl, N0, rfl⟩
theorem rm1_n3 (l : Launch) (Z : State) (a0 : Array Value) (hw : ∀ d ∈ tables_1, d.before a0 Z = true) (ws : List Jvm.Cond) (a1 : Addr) (k : ClassId) (dv : Value) (x0 w2 w3 mm : Int64) (h0 : Heap) (n0 : Nat) (Z0 : n0 ≤ h0.size) (V : Arv Z h0 a1 k .double (3 : Int32) [(.double (FP.l2d x0)), (.double (FP.l2d w2)), (.double (FP.l2d w3))] dv) (b_w2 : own_S w2) (b_w3 : own_S w3) (bm : own_S mm) (hs : w2.toInt + w3.toInt = 2 * mm.toInt) :
    MetFree l (⟨"com/example/paretoloom/paretoloom/problems/Zdt", "linearG", "([D)D"⟩ : MethodName) (head1 (Jvm.Cond.code (⟨"com/example/paretoloom/paretoloom/problems/Zdt", "linearG", "([D)D"⟩ : MethodName) prog_46_method_12_code 4 (some .double) :: ws) ({ frames := 0, cells := 0, slots := 0, locals := 0 } : Room)) (fun a U => a = #[(.ref a1)] ∧ Z.Warmed39 U.vm ∧ U.heap = h0) (fun _ _ _ _ _ => True) (fun _ U o U' => ∃ v L, o = .returned v ∧ own_QR (.double (FP.l2d ((1 : Int64) + ((9 : Int64) * mm)))) h0 n0 v U'.heap L ∧ FrameEnd U o U' L ({ frames := 0, cells := 0, slots := 0, locals := 0 } : Room).cells ({ frames := 0, cells := 0, slots := 0, locals := 0 } : Room).slots) := by
  obtain ⟨cl, Ar, q, S, N, H, G⟩ := V
  have s0 : (0 : Int64).toInt = 0 := by decide
  have t0 : own_T (0 : Int64) := by unfold own_T; rw [s0]; omega
  have s1 : ((0 : Int64) + w2).toInt = (0 : Int64).toInt + w2.toInt := own_add t0 (own_ST b_w2)
  have t1 : own_T ((0 : Int64) + w2) := by unfold own_T; unfold own_S at *; omega
  have s2 : (((0 : Int64) + w2) + w3).toInt = ((0 : Int64) + w2).toInt + w3.toInt := own_add t1 (own_ST b_w3)
  have t2 : own_T (((0 : Int64) + w2) + w3) := by unfold own_T; unfold own_S at *; omega
  have hS : (((0 : Int64) + w2) + w3).toInt = 2 * mm.toInt := by omega
  obtain ⟨f1, f2, f3, f4⟩ := own_fin (nn := (((3 : Int32) - (1 : Int32)).toInt64)) (n := 2) bm (by decide) (by omega) hS
  rw [← f4]
  exact rm1_fft l Z a0 hw ws a1 cl (3 : Int32) w2 w3 h0 n0 Z0 Ar S N (inb_of S ⟨by decide, by decide⟩) (H 1 (by rw [S]; decide)) (inb_of S ⟨by decide, by decide⟩) (H 2 (by rw [S]; decide)) (by decide) (own_TB t0) (own_TB (own_ST b_w2)) (by decide) (own_TB t1) (own_TB (own_ST b_w3)) (by decide) f1 f2 own_B1 f3
set_option maxRecDepth 65536 in
set_option maxHeartbeats 40000000 in
theorem rm1_ffft (l : Launch) (Z : State) (a0 : Array Value) (hw : ∀ d ∈ tables_1, d.before a0 Z = true) (ws : List Jvm.Cond) (a1 : Addr) (cl_a1 : Cell) (z_a1 : Int32) (w2 : Int64) (w3 : Int64) (w4 : Int64) (h0 : Heap) (n0 : Nat) (Z0 : n0 ≤ h0.size) (Ar_a1 : Arr Z h0 a1 cl_a1 .double) (S_a1 : cl_a1.slots.size = z_a1.toNatClampNeg) (N_a1 : ¬ z_a1 < 0) (hin13 : ¬ ((1 : Int32) < 0 ∨ cl_a1.slots.size ≤ ((1 : Int32)).toNatClampNeg)) (hat13 : cl_a1.slots[((1 : Int32)).toNatClampNeg]? = some (.double (FP.l2d w2))) (hin13_24 : ¬ (((1 : Int32) + (1 : Int32)) < 0 ∨ cl_a1.slots.size ≤ (((1 : Int32) + (1 : Int32))).toNatClampNeg)) (hat13_24 : cl_a1.slots[(((1 : Int32) + (1 : Int32))).toNatClampNeg]? = some (.double (FP.l2d w3))) (hin13_36 : ¬ ((((1 : Int32) + (1 : Int32)) + (1 : Int32)) < 0 ∨ cl_a1.slots.size ≤ ((((1 : Int32) + (1 : Int32)) + (1 : Int32))).toNatClampNeg)) (hat13_36 : cl_a1.slots[((((1 : Int32) + (1 : Int32)) + (1 : Int32))).toNatClampNeg]? = some (.double (FP.l2d w4))) (hc7 : (1 : Int32) < z_a1) (hba14 : B53 (0 : Int64)) (hbb14 : B53 w2) (hc7_20 : ((1 : Int32) + (1 : Int32)) < z_a1) (hba14_25 : B53 ((0 : Int64) + w2)) (hbb14_25 : B53 w3) (hc7_32 : (((1 : Int32) + (1 : Int32)) + (1 : Int32)) < z_a1) (hba14_37 : B53 (((0 : Int64) + w2) + w3)) (hbb14_37 : B53 w4) (hc7_44 : ¬ (((((1 : Int32) + (1 : Int32)) + (1 : Int32)) + (1 : Int32)) < z_a1)) (hm27 : FP.dmul (FP.l2d (9 : Int64)) (FP.l2d ((((0 : Int64) + w2) + w3) + w4)) = FP.l2d ((9 : Int64) * ((((0 : Int64) + w2) + w3) + w4))) (hd33 : FP.ddiv (FP.l2d ((9 : Int64) * ((((0 : Int64) + w2) + w3) + w4))) (FP.l2d ((z_a1 - (1 : Int32)).toInt64)) = FP.l2d (((9 : Int64) * ((((0 : Int64) + w2) + w3) + w4)) / ((z_a1 - (1 : Int32)).toInt64))) (hba34 : B53 (1 : Int64)) (hbb34 : B53 (((9 : Int64) * ((((0 : Int64) + w2) + w3) + w4)) / ((z_a1 - (1 : Int32)).toInt64))) :
    MetFree l (⟨"com/example/paretoloom/paretoloom/problems/Zdt", "linearG", "([D)D"⟩ : MethodName) (head1 (Jvm.Cond.code (⟨"com/example/paretoloom/paretoloom/problems/Zdt", "linearG", "([D)D"⟩ : MethodName) prog_46_method_12_code 4 (some .double) :: ws) ({ frames := 0, cells := 0, slots := 0, locals := 0 } : Room)) (fun a U => a = #[(.ref a1)] ∧ Z.Warmed39 U.vm ∧ U.heap = h0) (fun _ _ _ _ _ => True) (fun _ U o U' => ∃ v L, o = .returned v ∧ own_QR (.double (FP.l2d ((1 : Int64) + (((9 : Int64) * ((((0 : Int64) + w2) + w3) + w4)) / ((z_a1 - (1 : Int32)).toInt64))))) h0 n0 v U'.heap L ∧ FrameEnd U o U' L ({ frames := 0, cells := 0, slots := 0, locals := 0 } : Room).cells ({ frames := 0, cells := 0, slots := 0, locals := 0 } : Room).slots) := by
  refine MetFree.of_bodySF (plainFor_of_name pn_1) hisR ?_
  intro p e s m args below meth c s₁ Bd hml0 hP hK
  obtain ⟨rfl, hZ, hh⟩ := hP
  have hx := Bd.exec
  have hby := Bd.bytes
  have hml : c.maxLocals = 4 := hml0
  have hown : s.vm.findClass "com/example/paretoloom/paretoloom/problems/Zdt" = some m.cls := findClass_of_methodNamed Bd.named
  have hnm := (name_of_methodNamed Bd.named Bd.method).1
  have X0 : Stand p l e ({ frames := 0, cells := 0, slots := 0, locals := 0 } : Room) s m #[(.ref a1)] below meth c s₁ [] 0 0 := Stand.of_body Bd
  have e0 : s₁.heap = h0 := by rw [← hh, Bd.state]; rfl
  have N0 := Fr.nil n0
  have pre0 : ∀ t, Steps p.tables e below (s₁.setTop (mkF m 0 #[.val (.ref a1), .unset, .unset, .unset] [])) t → Steps p.tables e below (s₁.setTop (entryFrame m #[(.ref a1)] 4)) t := fun t k => castTop (ef_1 m a1) k
  -- 3. LAWS

  obtain ⟨fs, hr, hrun, hended, hW, hsame⟩ := X0.leave (v := some (.double (FP.l2d ((1 : Int64) + (((9 : Int64) * ((((0 : Int64) + w2) + w3) + w4)) / ((z_a1 - (1 : Int32)).toInt64)))))) (fun h => by rw [Bd.returns] at h; cases h)
  refine ⟨_, _, pre0 _ ?_, hrun, hended, _, _, rfl, ?_, ⟨_, rfl⟩, hW, hsame.mono (by decide) (by decide)⟩
  -- 4. STEPS
  · show Steps p.tables e below (s₁.setTop (mkF m 0 #[.val (.ref a1), .unset, .unset, .unset] [])) _
    refine XS.dconst0 X0.here hx rfl (hb hby d1_0) (own_dc0) ?_
    show Steps p.tables e below (s₁.setTop (mkF m 1 #[.val (.ref a1), .unset, .unset, .unset] [(.double (FP.l2d (0 : Int64)))])) _
    refine XS.dstoreN X0.here hx rfl (hb hby d1_1) rfl (l' := #[.val (.ref a1), .val (.double (FP.l2d (0 : Int64))), .second, .unset]) rfl ?_
    show Steps p.tables e below (s₁.setTop (mkF m 2 #[.val (.ref a1), .val (.double (FP.l2d (0 : Int64))), .second, .unset] [])) _
    refine XS.iconst X0.here hx rfl (hb hby d1_2) ?_
    show Steps p.tables e below (s₁.setTop (mkF m 3 #[.val (.ref a1), .val (.double (FP.l2d (0 : Int64))), .second, .unset] [(.int (1 : Int32))])) _
    refine XS.istoreN X0.here hx rfl (hb hby d1_3) rfl (l' := #[.val (.ref a1), .val (.double (FP.l2d (0 : Int64))), .second, .val (.int (1 : Int32))]) rfl ?_
    show Steps p.tables e below (s₁.setTop (mkF m 4 #[.val (.ref a1), .val (.double (FP.l2d (0 : Int64))), .second, .val (.int (1 : Int32))] [])) _
    refine XS.iloadN X0.here hx rfl (hb hby d1_4) rfl ?_
    show Steps p.tables e below (s₁.setTop (mkF m 5 #[.val (.ref a1), .val (.double (FP.l2d (0 : Int64))), .second, .val (.int (1 : Int32))] [(.int (1 : Int32))])) _
    refine XS.aloadN X0.here hx rfl (hb hby d1_5) rfl rfl ?_
    show Steps p.tables e below (s₁.setTop (mkF m 6 #[.val (.ref a1), .val (.double (FP.l2d (0 : Int64))), .second, .val (.int (1 : Int32))] [(.ref a1), (.int (1 : Int32))])) _
    refine X0.arraylength hx (by rw [e0]; exact Ar_a1.1) (State.isArrayOf_alike hZ.alike Ar_a1.2.1) (g := (mkF m 6 #[.val (.ref a1), .val (.double (FP.l2d (0 : Int64))), .second, .val (.int (1 : Int32))] [(.ref a1), (.int (1 : Int32))])) rfl rfl (hb hby d1_6) _ ?_
    rw [len_of S_a1 N_a1]
    show Steps p.tables e below (s₁.setTop (mkF m 7 #[.val (.ref a1), .val (.double (FP.l2d (0 : Int64))), .second, .val (.int (1 : Int32))] [(.int z_a1), (.int (1 : Int32))])) _
    refine XS.icmpNo X0.here hx rfl (hb hby d1_7) rfl (tlt hc7).2.1 ?_
    show Steps p.tables e below (s₁.setTop (mkF m 10 #[.val (.ref a1), .val (.double (FP.l2d (0 : Int64))), .second, .val (.int (1 : Int32))] [])) _
    refine XS.dloadN X0.here hx rfl (hb hby d1_10) rfl ?_
    show Steps p.tables e below (s₁.setTop (mkF m 11 #[.val (.ref a1), .val (.double (FP.l2d (0 : Int64))), .second, .val (.int (1 : Int32))] [(.double (FP.l2d (0 : Int64)))])) _
    refine XS.aloadN X0.here hx rfl (hb hby d1_11) rfl rfl ?_
    show Steps p.tables e below (s₁.setTop (mkF m 12 #[.val (.ref a1), .val (.double (FP.l2d (0 : Int64))), .second, .val (.int (1 : Int32))] [(.ref a1), (.double (FP.l2d (0 : Int64)))])) _
    refine XS.iloadN X0.here hx rfl (hb hby d1_12) rfl ?_
    show Steps p.tables e below (s₁.setTop (mkF m 13 #[.val (.ref a1), .val (.double (FP.l2d (0 : Int64))), .second, .val (.int (1 : Int32))] [(.int (1 : Int32)), (.ref a1), (.double (FP.l2d (0 : Int64)))])) _
    refine X0.daload hx (j := (1 : Int32)) (v := (.double (FP.l2d w2))) (by rw [e0]; exact Ar_a1.1) (State.isArrayOf_alike hZ.alike Ar_a1.2.1) Ar_a1.2.2 hin13 hat13 (g := (mkF m 13 #[.val (.ref a1), .val (.double (FP.l2d (0 : Int64))), .second, .val (.int (1 : Int32))] [(.int (1 : Int32)), (.ref a1), (.double (FP.l2d (0 : Int64)))])) rfl rfl (hb hby d1_13) _ ?_
    show Steps p.tables e below (s₁.setTop (mkF m 14 #[.val (.ref a1), .val (.double (FP.l2d (0 : Int64))), .second, .val (.int (1 : Int32))] [(.double (FP.l2d w2)), (.double (FP.l2d (0 : Int64)))])) _
    refine XS.daddS X0.here hx rfl (hb hby d1_14) rfl (nn_w (dadd_w hba14 hbb14)) (dadd_w hba14 hbb14) ?_
    show Steps p.tables e below (s₁.setTop (mkF m 15 #[.val (.ref a1), .val (.double (FP.l2d (0 : Int64))), .second, .val (.int (1 : Int32))] [(.double (FP.l2d ((0 : Int64) + w2)))])) _
    refine XS.dstoreN X0.here hx rfl (hb hby d1_15) rfl (l' := #[.val (.ref a1), .val (.double (FP.l2d ((0 : Int64) + w2))), .second, .val (.int (1 : Int32))]) rfl ?_
    show Steps p.tables e below (s₁.setTop (mkF m 16 #[.val (.ref a1), .val (.double (FP.l2d ((0 : Int64) + w2))), .second, .val (.int (1 : Int32))] [])) _
    refine XS.iinc X0.here hx rfl (hb hby d1_16) rfl (l' := #[.val (.ref a1), .val (.double (FP.l2d ((0 : Int64) + w2))), .second, .val (.int ((1 : Int32) + (1 : Int32)))]) rfl ?_
    show Steps p.tables e below (s₁.setTop (mkF m 19 #[.val (.ref a1), .val (.double (FP.l2d ((0 : Int64) + w2))), .second, .val (.int ((1 : Int32) + (1 : Int32)))] [])) _
    refine XS.goto X0.here hx rfl (pc0 := 19) (pc' := 4) rfl (hb hby d1_19) (by decide) (by decide) ?_
    show Steps p.tables e below (s₁.setTop (mkF m 4 #[.val (.ref a1), .val (.double (FP.l2d ((0 : Int64) + w2))), .second, .val (.int ((1 : Int32) + (1 : Int32)))] [])) _
    refine XS.iloadN X0.here hx rfl (hb hby d1_4) rfl ?_
    show Steps p.tables e below (s₁.setTop (mkF m 5 #[.val (.ref a1), .val (.double (FP.l2d ((0 : Int64) + w2))), .second, .val (.int ((1 : Int32) + (1 : Int32)))] [(.int ((1 : Int32) + (1 : Int32)))])) _
    refine XS.aloadN X0.here hx rfl (hb hby d1_5) rfl rfl ?_
    show Steps p.tables e below (s₁.setTop (mkF m 6 #[.val (.ref a1), .val (.double (FP.l2d ((0 : Int64) + w2))), .second, .val (.int ((1 : Int32) + (1 : Int32)))] [(.ref a1), (.int ((1 : Int32) + (1 : Int32)))])) _
    refine X0.arraylength hx (by rw [e0]; exact Ar_a1.1) (State.isArrayOf_alike hZ.alike Ar_a1.2.1) (g := (mkF m 6 #[.val (.ref a1), .val (.double (FP.l2d ((0 : Int64) + w2))), .second, .val (.int ((1 : Int32) + (1 : Int32)))] [(.ref a1), (.int ((1 : Int32) + (1 : Int32)))])) rfl rfl (hb hby d1_6) _ ?_
    rw [len_of S_a1 N_a1]
    show Steps p.tables e below (s₁.setTop (mkF m 7 #[.val (.ref a1), .val (.double (FP.l2d ((0 : Int64) + w2))), .second, .val (.int ((1 : Int32) + (1 : Int32)))] [(.int z_a1), (.int ((1 : Int32) + (1 : Int32)))])) _
    refine XS.icmpNo X0.here hx rfl (hb hby d1_7) rfl (tlt hc7_20).2.1 ?_
    show Steps p.tables e below (s₁.setTop (mkF m 10 #[.val (.ref a1), .val (.double (FP.l2d ((0 : Int64) + w2))), .second, .val (.int ((1 : Int32) + (1 : Int32)))] [])) _
    refine XS.dloadN X0.here hx rfl (hb hby d1_10) rfl ?_
    show Steps p.tables e below (s₁.setTop (mkF m 11 #[.val (.ref a1), .val (.double (FP.l2d ((0 : Int64) + w2))), .second, .val (.int ((1 : Int32) + (1 : Int32)))] [(.double (FP.l2d ((0 : Int64) + w2)))])) _
    refine XS.aloadN X0.here hx rfl (hb hby d1_11) rfl rfl ?_
    show Steps p.tables e below (s₁.setTop (mkF m 12 #[.val (.ref a1), .val (.double (FP.l2d ((0 : Int64) + w2))), .second, .val (.int ((1 : Int32) + (1 : Int32)))] [(.ref a1), (.double (FP.l2d ((0 : Int64) + w2)))])) _
    refine XS.iloadN X0.here hx rfl (hb hby d1_12) rfl ?_
    show Steps p.tables e below (s₁.setTop (mkF m 13 #[.val (.ref a1), .val (.double (FP.l2d ((0 : Int64) + w2))), .second, .val (.int ((1 : Int32) + (1 : Int32)))] [(.int ((1 : Int32) + (1 : Int32))), (.ref a1), (.double (FP.l2d ((0 : Int64) + w2)))])) _
    refine X0.daload hx (j := ((1 : Int32) + (1 : Int32))) (v := (.double (FP.l2d w3))) (by rw [e0]; exact Ar_a1.1) (State.isArrayOf_alike hZ.alike Ar_a1.2.1) Ar_a1.2.2 hin13_24 hat13_24 (g := (mkF m 13 #[.val (.ref a1), .val (.double (FP.l2d ((0 : Int64) + w2))), .second, .val (.int ((1 : Int32) + (1 : Int32)))] [(.int ((1 : Int32) + (1 : Int32))), (.ref a1), (.double (FP.l2d ((0 : Int64) + w2)))])) rfl rfl (hb hby d1_13) _ ?_
    show Steps p.tables e below (s₁.setTop (mkF m 14 #[.val (.ref a1), .val (.double (FP.l2d ((0 : Int64) + w2))), .second, .val (.int ((1 : Int32) + (1 : Int32)))] [(.double (FP.l2d w3)), (.double (FP.l2d ((0 : Int64) + w2)))])) _
    refine XS.daddS X0.here hx rfl (hb hby d1_14) rfl (nn_w (dadd_w hba14_25 hbb14_25)) (dadd_w hba14_25 hbb14_25) ?_
    show Steps p.tables e below (s₁.setTop (mkF m 15 #[.val (.ref a1), .val (.double (FP.l2d ((0 : Int64) + w2))), .second, .val (.int ((1 : Int32) + (1 : Int32)))] [(.double (FP.l2d (((0 : Int64) + w2) + w3)))])) _
    refine XS.dstoreN X0.here hx rfl (hb hby d1_15) rfl (l' := #[.val (.ref a1), .val (.double (FP.l2d (((0 : Int64) + w2) + w3))), .second, .val (.int ((1 : Int32) + (1 : Int32)))]) rfl ?_
    show Steps p.tables e below (s₁.setTop (mkF m 16 #[.val (.ref a1), .val (.double (FP.l2d (((0 : Int64) + w2) + w3))), .second, .val (.int ((1 : Int32) + (1 : Int32)))] [])) _
    refine XS.iinc X0.here hx rfl (hb hby d1_16) rfl (l' := #[.val (.ref a1), .val (.double (FP.l2d (((0 : Int64) + w2) + w3))), .second, .val (.int (((1 : Int32) + (1 : Int32)) + (1 : Int32)))]) rfl ?_
    show Steps p.tables e below (s₁.setTop (mkF m 19 #[.val (.ref a1), .val (.double (FP.l2d (((0 : Int64) + w2) + w3))), .second, .val (.int (((1 : Int32) + (1 : Int32)) + (1 : Int32)))] [])) _
    refine XS.goto X0.here hx rfl (pc0 := 19) (pc' := 4) rfl (hb hby d1_19) (by decide) (by decide) ?_
    show Steps p.tables e below (s₁.setTop (mkF m 4 #[.val (.ref a1), .val (.double (FP.l2d (((0 : Int64) + w2) + w3))), .second, .val (.int (((1 : Int32) + (1 : Int32)) + (1 : Int32)))] [])) _
    refine XS.iloadN X0.here hx rfl (hb hby d1_4) rfl ?_
    show Steps p.tables e below (s₁.setTop (mkF m 5 #[.val (.ref a1), .val (.double (FP.l2d (((0 : Int64) + w2) + w3))), .second, .val (.int (((1 : Int32) + (1 : Int32)) + (1 : Int32)))] [(.int (((1 : Int32) + (1 : Int32)) + (1 : Int32)))])) _
    refine XS.aloadN X0.here hx rfl (hb hby d1_5) rfl rfl ?_
    show Steps p.tables e below (s₁.setTop (mkF m 6 #[.val (.ref a1), .val (.double (FP.l2d (((0 : Int64) + w2) + w3))), .second, .val (.int (((1 : Int32) + (1 : Int32)) + (1 : Int32)))] [(.ref a1), (.int (((1 : Int32) + (1 : Int32)) + (1 : Int32)))])) _
    refine X0.arraylength hx (by rw [e0]; exact Ar_a1.1) (State.isArrayOf_alike hZ.alike Ar_a1.2.1) (g := (mkF m 6 #[.val (.ref a1), .val (.double (FP.l2d (((0 : Int64) + w2) + w3))), .second, .val (.int (((1 : Int32) + (1 : Int32)) + (1 : Int32)))] [(.ref a1), (.int (((1 : Int32) + (1 : Int32)) + (1 : Int32)))])) rfl rfl (hb hby d1_6) _ ?_
    rw [len_of S_a1 N_a1]
    show Steps p.tables e below (s₁.setTop (mkF m 7 #[.val (.ref a1), .val (.double (FP.l2d (((0 : Int64) + w2) + w3))), .second, .val (.int (((1 : Int32) + (1 : Int32)) + (1 : Int32)))] [(.int z_a1), (.int (((1 : Int32) + (1 : Int32)) + (1 : Int32)))])) _
    refine XS.icmpNo X0.here hx rfl (hb hby d1_7) rfl (tlt hc7_32).2.1 ?_
    show Steps p.tables e below (s₁.setTop (mkF m 10 #[.val (.ref a1), .val (.double (FP.l2d (((0 : Int64) + w2) + w3))), .second, .val (.int (((1 : Int32) + (1 : Int32)) + (1 : Int32)))] [])) _
    refine XS.dloadN X0.here hx rfl (hb hby d1_10) rfl ?_
    show Steps p.tables e below (s₁.setTop (mkF m 11 #[.val (.ref a1), .val (.double (FP.l2d (((0 : Int64) + w2) + w3))), .second, .val (.int (((1 : Int32) + (1 : Int32)) + (1 : Int32)))] [(.double (FP.l2d (((0 : Int64) + w2) + w3)))])) _
    refine XS.aloadN X0.here hx rfl (hb hby d1_11) rfl rfl ?_
    show Steps p.tables e below (s₁.setTop (mkF m 12 #[.val (.ref a1), .val (.double (FP.l2d (((0 : Int64) + w2) + w3))), .second, .val (.int (((1 : Int32) + (1 : Int32)) + (1 : Int32)))] [(.ref a1), (.double (FP.l2d (((0 : Int64) + w2) + w3)))])) _
    refine XS.iloadN X0.here hx rfl (hb hby d1_12) rfl ?_
    show Steps p.tables e below (s₁.setTop (mkF m 13 #[.val (.ref a1), .val (.double (FP.l2d (((0 : Int64) + w2) + w3))), .second, .val (.int (((1 : Int32) + (1 : Int32)) + (1 : Int32)))] [(.int (((1 : Int32) + (1 : Int32)) + (1 : Int32))), (.ref a1), (.double (FP.l2d (((0 : Int64) + w2) + w3)))])) _
    refine X0.daload hx (j := (((1 : Int32) + (1 : Int32)) + (1 : Int32))) (v := (.double (FP.l2d w4))) (by rw [e0]; exact Ar_a1.1) (State.isArrayOf_alike hZ.alike Ar_a1.2.1) Ar_a1.2.2 hin13_36 hat13_36 (g := (mkF m 13 #[.val (.ref a1), .val (.double (FP.l2d (((0 : Int64) + w2) + w3))), .second, .val (.int (((1 : Int32) + (1 : Int32)) + (1 : Int32)))] [(.int (((1 : Int32) + (1 : Int32)) + (1 : Int32))), (.ref a1), (.double (FP.l2d (((0 : Int64) + w2) + w3)))])) rfl rfl (hb hby d1_13) _ ?_
    show Steps p.tables e below (s₁.setTop (mkF m 14 #[.val (.ref a1), .val (.double (FP.l2d (((0 : Int64) + w2) + w3))), .second, .val (.int (((1 : Int32) + (1 : Int32)) + (1 : Int32)))] [(.double (FP.l2d w4)), (.double (FP.l2d (((0 : Int64) + w2) + w3)))])) _
    refine XS.daddS X0.here hx rfl (hb hby d1_14) rfl (nn_w (dadd_w hba14_37 hbb14_37)) (dadd_w hba14_37 hbb14_37) ?_
    show Steps p.tables e below (s₁.setTop (mkF m 15 #[.val (.ref a1), .val (.double (FP.l2d (((0 : Int64) + w2) + w3))), .second, .val (.int (((1 : Int32) + (1 : Int32)) + (1 : Int32)))] [(.double (FP.l2d ((((0 : Int64) + w2) + w3) + w4)))])) _
    refine XS.dstoreN X0.here hx rfl (hb hby d1_15) rfl (l' := #[.val (.ref a1), .val (.double (FP.l2d ((((0 : Int64) + w2) + w3) + w4))), .second, .val (.int (((1 : Int32) + (1 : Int32)) + (1 : Int32)))]) rfl ?_
    show Steps p.tables e below (s₁.setTop (mkF m 16 #[.val (.ref a1), .val (.double (FP.l2d ((((0 : Int64) + w2) + w3) + w4))), .second, .val (.int (((1 : Int32) + (1 : Int32)) + (1 : Int32)))] [])) _
    refine XS.iinc X0.here hx rfl (hb hby d1_16) rfl (l' := #[.val (.ref a1), .val (.double (FP.l2d ((((0 : Int64) + w2) + w3) + w4))), .second, .val (.int ((((1 : Int32) + (1 : Int32)) + (1 : Int32)) + (1 : Int32)))]) rfl ?_
    show Steps p.tables e below (s₁.setTop (mkF m 19 #[.val (.ref a1), .val (.double (FP.l2d ((((0 : Int64) + w2) + w3) + w4))), .second, .val (.int ((((1 : Int32) + (1 : Int32)) + (1 : Int32)) + (1 : Int32)))] [])) _
    refine XS.goto X0.here hx rfl (pc0 := 19) (pc' := 4) rfl (hb hby d1_19) (by decide) (by decide) ?_
    show Steps p.tables e below (s₁.setTop (mkF m 4 #[.val (.ref a1), .val (.double (FP.l2d ((((0 : Int64) + w2) + w3) + w4))), .second, .val (.int ((((1 : Int32) + (1 : Int32)) + (1 : Int32)) + (1 : Int32)))] [])) _
    refine XS.iloadN X0.here hx rfl (hb hby d1_4) rfl ?_
    show Steps p.tables e below (s₁.setTop (mkF m 5 #[.val (.ref a1), .val (.double (FP.l2d ((((0 : Int64) + w2) + w3) + w4))), .second, .val (.int ((((1 : Int32) + (1 : Int32)) + (1 : Int32)) + (1 : Int32)))] [(.int ((((1 : Int32) + (1 : Int32)) + (1 : Int32)) + (1 : Int32)))])) _
    refine XS.aloadN X0.here hx rfl (hb hby d1_5) rfl rfl ?_
    show Steps p.tables e below (s₁.setTop (mkF m 6 #[.val (.ref a1), .val (.double (FP.l2d ((((0 : Int64) + w2) + w3) + w4))), .second, .val (.int ((((1 : Int32) + (1 : Int32)) + (1 : Int32)) + (1 : Int32)))] [(.ref a1), (.int ((((1 : Int32) + (1 : Int32)) + (1 : Int32)) + (1 : Int32)))])) _
    refine X0.arraylength hx (by rw [e0]; exact Ar_a1.1) (State.isArrayOf_alike hZ.alike Ar_a1.2.1) (g := (mkF m 6 #[.val (.ref a1), .val (.double (FP.l2d ((((0 : Int64) + w2) + w3) + w4))), .second, .val (.int ((((1 : Int32) + (1 : Int32)) + (1 : Int32)) + (1 : Int32)))] [(.ref a1), (.int ((((1 : Int32) + (1 : Int32)) + (1 : Int32)) + (1 : Int32)))])) rfl rfl (hb hby d1_6) _ ?_
    rw [len_of S_a1 N_a1]
    show Steps p.tables e below (s₁.setTop (mkF m 7 #[.val (.ref a1), .val (.double (FP.l2d ((((0 : Int64) + w2) + w3) + w4))), .second, .val (.int ((((1 : Int32) + (1 : Int32)) + (1 : Int32)) + (1 : Int32)))] [(.int z_a1), (.int ((((1 : Int32) + (1 : Int32)) + (1 : Int32)) + (1 : Int32)))])) _
    refine XS.icmpYes X0.here hx rfl (pc0 := 7) (pc' := 22) rfl (hb hby d1_7) rfl (flt hc7_44).2.1 (by decide) (by decide) ?_
    show Steps p.tables e below (s₁.setTop (mkF m 22 #[.val (.ref a1), .val (.double (FP.l2d ((((0 : Int64) + w2) + w3) + w4))), .second, .val (.int ((((1 : Int32) + (1 : Int32)) + (1 : Int32)) + (1 : Int32)))] [])) _
    refine XS.dconst1 X0.here hx rfl (hb hby d1_22) (own_dc1) ?_
    show Steps p.tables e below (s₁.setTop (mkF m 23 #[.val (.ref a1), .val (.double (FP.l2d ((((0 : Int64) + w2) + w3) + w4))), .second, .val (.int ((((1 : Int32) + (1 : Int32)) + (1 : Int32)) + (1 : Int32)))] [(.double (FP.l2d (1 : Int64)))])) _
    refine X0.ldc2DoubleC hx hown (mvT hZ (hw _ (List.mem_of_getElem? (i := 8) rfl))) (g := (mkF m 23 #[.val (.ref a1), .val (.double (FP.l2d ((((0 : Int64) + w2) + w3) + w4))), .second, .val (.int ((((1 : Int32) + (1 : Int32)) + (1 : Int32)) + (1 : Int32)))] [(.double (FP.l2d (1 : Int64)))])) rfl (hb hby d1_23) _ ?_
    rw [show (4621256167635550208 : UInt64) = FP.l2d (9 : Int64) from by decide +kernel]
    show Steps p.tables e below (s₁.setTop (mkF m 26 #[.val (.ref a1), .val (.double (FP.l2d ((((0 : Int64) + w2) + w3) + w4))), .second, .val (.int ((((1 : Int32) + (1 : Int32)) + (1 : Int32)) + (1 : Int32)))] [(.double (FP.l2d (9 : Int64))), (.double (FP.l2d (1 : Int64)))])) _
    refine XS.dloadN X0.here hx rfl (hb hby d1_26) rfl ?_
    show Steps p.tables e below (s₁.setTop (mkF m 27 #[.val (.ref a1), .val (.double (FP.l2d ((((0 : Int64) + w2) + w3) + w4))), .second, .val (.int ((((1 : Int32) + (1 : Int32)) + (1 : Int32)) + (1 : Int32)))] [(.double (FP.l2d ((((0 : Int64) + w2) + w3) + w4))), (.double (FP.l2d (9 : Int64))), (.double (FP.l2d (1 : Int64)))])) _
    refine XS.dmulS X0.here hx rfl (hb hby d1_27) rfl (nn_w hm27) hm27 ?_
    show Steps p.tables e below (s₁.setTop (mkF m 28 #[.val (.ref a1), .val (.double (FP.l2d ((((0 : Int64) + w2) + w3) + w4))), .second, .val (.int ((((1 : Int32) + (1 : Int32)) + (1 : Int32)) + (1 : Int32)))] [(.double (FP.l2d ((9 : Int64) * ((((0 : Int64) + w2) + w3) + w4)))), (.double (FP.l2d (1 : Int64)))])) _
    refine XS.aloadN X0.here hx rfl (hb hby d1_28) rfl rfl ?_
    show Steps p.tables e below (s₁.setTop (mkF m 29 #[.val (.ref a1), .val (.double (FP.l2d ((((0 : Int64) + w2) + w3) + w4))), .second, .val (.int ((((1 : Int32) + (1 : Int32)) + (1 : Int32)) + (1 : Int32)))] [(.ref a1), (.double (FP.l2d ((9 : Int64) * ((((0 : Int64) + w2) + w3) + w4)))), (.double (FP.l2d (1 : Int64)))])) _
    refine X0.arraylength hx (by rw [e0]; exact Ar_a1.1) (State.isArrayOf_alike hZ.alike Ar_a1.2.1) (g := (mkF m 29 #[.val (.ref a1), .val (.double (FP.l2d ((((0 : Int64) + w2) + w3) + w4))), .second, .val (.int ((((1 : Int32) + (1 : Int32)) + (1 : Int32)) + (1 : Int32)))] [(.ref a1), (.double (FP.l2d ((9 : Int64) * ((((0 : Int64) + w2) + w3) + w4)))), (.double (FP.l2d (1 : Int64)))])) rfl rfl (hb hby d1_29) _ ?_
    rw [len_of S_a1 N_a1]
    show Steps p.tables e below (s₁.setTop (mkF m 30 #[.val (.ref a1), .val (.double (FP.l2d ((((0 : Int64) + w2) + w3) + w4))), .second, .val (.int ((((1 : Int32) + (1 : Int32)) + (1 : Int32)) + (1 : Int32)))] [(.int z_a1), (.double (FP.l2d ((9 : Int64) * ((((0 : Int64) + w2) + w3) + w4)))), (.double (FP.l2d (1 : Int64)))])) _
    refine XS.iconst X0.here hx rfl (hb hby d1_30) ?_
    show Steps p.tables e below (s₁.setTop (mkF m 31 #[.val (.ref a1), .val (.double (FP.l2d ((((0 : Int64) + w2) + w3) + w4))), .second, .val (.int ((((1 : Int32) + (1 : Int32)) + (1 : Int32)) + (1 : Int32)))] [(.int (1 : Int32)), (.int z_a1), (.double (FP.l2d ((9 : Int64) * ((((0 : Int64) + w2) + w3) + w4)))), (.double (FP.l2d (1 : Int64)))])) _
    refine XS.isub X0.here hx rfl (hb hby d1_31) rfl ?_
    show Steps p.tables e below (s₁.setTop (mkF m 32 #[.val (.ref a1), .val (.double (FP.l2d ((((0 : Int64) + w2) + w3) + w4))), .second, .val (.int ((((1 : Int32) + (1 : Int32)) + (1 : Int32)) + (1 : Int32)))] [(.int (z_a1 - (1 : Int32))), (.double (FP.l2d ((9 : Int64) * ((((0 : Int64) + w2) + w3) + w4)))), (.double (FP.l2d (1 : Int64)))])) _
    refine XS.i2dS X0.here hx rfl (hb hby d1_32) rfl (i2d_w _) ?_
    show Steps p.tables e below (s₁.setTop (mkF m 33 #[.val (.ref a1), .val (.double (FP.l2d ((((0 : Int64) + w2) + w3) + w4))), .second, .val (.int ((((1 : Int32) + (1 : Int32)) + (1 : Int32)) + (1 : Int32)))] [(.double (FP.l2d ((z_a1 - (1 : Int32)).toInt64))), (.double (FP.l2d ((9 : Int64) * ((((0 : Int64) + w2) + w3) + w4)))), (.double (FP.l2d (1 : Int64)))])) _
    refine XS.ddivS X0.here hx rfl (hb hby d1_33) rfl (nn_w hd33) hd33 ?_
    show Steps p.tables e below (s₁.setTop (mkF m 34 #[.val (.ref a1), .val (.double (FP.l2d ((((0 : Int64) + w2) + w3) + w4))), .second, .val (.int ((((1 : Int32) + (1 : Int32)) + (1 : Int32)) + (1 : Int32)))] [(.double (FP.l2d (((9 : Int64) * ((((0 : Int64) + w2) + w3) + w4)) / ((z_a1 - (1 : Int32)).toInt64)))), (.double (FP.l2d (1 : Int64)))])) _
    refine XS.daddS X0.here hx rfl (hb hby d1_34) rfl (nn_w (dadd_w hba34 hbb34)) (dadd_w hba34 hbb34) ?_
    show Steps p.tables e below (s₁.setTop (mkF m 35 #[.val (.ref a1), .val (.double (FP.l2d ((((0 : Int64) + w2) + w3) + w4))), .second, .val (.int ((((1 : Int32) + (1 : Int32)) + (1 : Int32)) + (1 : Int32)))] [(.double (FP.l2d ((1 : Int64) + (((9 : Int64) * ((((0 : Int64) + w2) + w3) + w4)) / ((z_a1 - (1 : Int32)).toInt64)))))])) _
    exact own_retD X0 hx Bd.returns (hb hby d1_35) hr
  · show own_QR (.double (FP.l2d ((1 : Int64) + (((9 : Int64) * ((((0 : Int64) + w2) + w3) + w4)) / ((z_a1 - (1 : Int32)).toInt64))))) h0 n0 _ s₁.heap _
    rw [e0]
    exact ⟨rfl, N0, rfl⟩
theorem rm1_n4 (l : Launch) (Z : State) (a0 : Array Value) (hw : ∀ d ∈ tables_1, d.before a0 Z = true) (ws : List Jvm.Cond) (a1 : Addr) (k : ClassId) (dv : Value) (x0 w2 w3 w4 mm : Int64) (h0 : Heap) (n0 : Nat) (Z0 : n0 ≤ h0.size) (V : Arv Z h0 a1 k .double (4 : Int32) [(.double (FP.l2d x0)), (.double (FP.l2d w2)), (.double (FP.l2d w3)), (.double (FP.l2d w4))] dv) (b_w2 : own_S w2) (b_w3 : own_S w3) (b_w4 : own_S w4) (bm : own_S mm) (hs : w2.toInt + w3.toInt + w4.toInt = 3 * mm.toInt) :
    MetFree l (⟨"com/example/paretoloom/paretoloom/problems/Zdt", "linearG", "([D)D"⟩ : MethodName) (head1 (Jvm.Cond.code (⟨"com/example/paretoloom/paretoloom/problems/Zdt", "linearG", "([D)D"⟩ : MethodName) prog_46_method_12_code 4 (some .double) :: ws) ({ frames := 0, cells := 0, slots := 0, locals := 0 } : Room)) (fun a U => a = #[(.ref a1)] ∧ Z.Warmed39 U.vm ∧ U.heap = h0) (fun _ _ _ _ _ => True) (fun _ U o U' => ∃ v L, o = .returned v ∧ own_QR (.double (FP.l2d ((1 : Int64) + ((9 : Int64) * mm)))) h0 n0 v U'.heap L ∧ FrameEnd U o U' L ({ frames := 0, cells := 0, slots := 0, locals := 0 } : Room).cells ({ frames := 0, cells := 0, slots := 0, locals := 0 } : Room).slots) := by
  obtain ⟨cl, Ar, q, S, N, H, G⟩ := V
  have s0 : (0 : Int64).toInt = 0 := by decide
  have t0 : own_T (0 : Int64) := by unfold own_T; rw [s0]; omega
  have s1 : ((0 : Int64) + w2).toInt = (0 : Int64).toInt + w2.toInt := own_add t0 (own_ST b_w2)
  have t1 : own_T ((0 : Int64) + w2) := by unfold own_T; unfold own_S at *; omega
  have s2 : (((0 : Int64) + w2) + w3).toInt = ((0 : Int64) + w2).toInt + w3.toInt := own_add t1 (own_ST b_w3)
  have t2 : own_T (((0 : Int64) + w2) + w3) := by unfold own_T; unfold own_S at *; omega
  have s3 : ((((0 : Int64) + w2) + w3) + w4).toInt = (((0 : Int64) + w2) + w3).toInt + w4.toInt := own_add t2 (own_ST b_w4)
  have t3 : own_T ((((0 : Int64) + w2) + w3) + w4) := by unfold own_T; unfold own_S at *; omega
  have hS : ((((0 : Int64) + w2) + w3) + w4).toInt = 3 * mm.toInt := by omega
  obtain ⟨f1, f2, f3, f4⟩ := own_fin (nn := (((4 : Int32) - (1 : Int32)).toInt64)) (n := 3) bm (by decide) (by omega) hS
  rw [← f4]
  exact rm1_ffft l Z a0 hw ws a1 cl (4 : Int32) w2 w3 w4 h0 n0 Z0 Ar S N (inb_of S ⟨by decide, by decide⟩) (H 1 (by rw [S]; decide)) (inb_of S ⟨by decide, by decide⟩) (H 2 (by rw [S]; decide)) (inb_of S ⟨by decide, by decide⟩) (H 3 (by rw [S]; decide)) (by decide) (own_TB t0) (own_TB (own_ST b_w2)) (by decide) (own_TB t1) (own_TB (own_ST b_w3)) (by decide) (own_TB t2) (own_TB (own_ST b_w4)) (by decide) f1 f2 own_B1 f3
set_option maxRecDepth 65536 in
set_option maxHeartbeats 40000000 in
theorem rm1_fffft (l : Launch) (Z : State) (a0 : Array Value) (hw : ∀ d ∈ tables_1, d.before a0 Z = true) (ws : List Jvm.Cond) (a1 : Addr) (cl_a1 : Cell) (z_a1 : Int32) (w2 : Int64) (w3 : Int64) (w4 : Int64) (w5 : Int64) (h0 : Heap) (n0 : Nat) (Z0 : n0 ≤ h0.size) (Ar_a1 : Arr Z h0 a1 cl_a1 .double) (S_a1 : cl_a1.slots.size = z_a1.toNatClampNeg) (N_a1 : ¬ z_a1 < 0) (hin13 : ¬ ((1 : Int32) < 0 ∨ cl_a1.slots.size ≤ ((1 : Int32)).toNatClampNeg)) (hat13 : cl_a1.slots[((1 : Int32)).toNatClampNeg]? = some (.double (FP.l2d w2))) (hin13_24 : ¬ (((1 : Int32) + (1 : Int32)) < 0 ∨ cl_a1.slots.size ≤ (((1 : Int32) + (1 : Int32))).toNatClampNeg)) (hat13_24 : cl_a1.slots[(((1 : Int32) + (1 : Int32))).toNatClampNeg]? = some (.double (FP.l2d w3))) (hin13_36 : ¬ ((((1 : Int32) + (1 : Int32)) + (1 : Int32)) < 0 ∨ cl_a1.slots.size ≤ ((((1 : Int32) + (1 : Int32)) + (1 : Int32))).toNatClampNeg)) (hat13_36 : cl_a1.slots[((((1 : Int32) + (1 : Int32)) + (1 : Int32))).toNatClampNeg]? = some (.double (FP.l2d w4))) (hin13_48 : ¬ (((((1 : Int32) + (1 : Int32)) + (1 : Int32)) + (1 : Int32)) < 0 ∨ cl_a1.slots.size ≤ (((((1 : Int32) + (1 : Int32)) + (1 : Int32)) + (1 : Int32))).toNatClampNeg)) (hat13_48 : cl_a1.slots[(((((1 : Int32) + (1 : Int32)) + (1 : Int32)) + (1 : Int32))).toNatClampNeg]? = some (.double (FP.l2d w5))) (hc7 : (1 : Int32) < z_a1) (hba14 : B53 (0 : Int64)) (hbb14 : B53 w2) (hc7_20 : ((1 : Int32) + (1 : Int32)) < z_a1) (hba14_25 : B53 ((0 : Int64) + w2)) (hbb14_25 : B53 w3) (hc7_32 : (((1 : Int32) + (1 : Int32)) + (1 : Int32)) < z_a1) (hba14_37 : B53 (((0 : Int64) + w2) + w3)) (hbb14_37 : B53 w4) (hc7_44 : ((((1 : Int32) + (1 : Int32)) + (1 : Int32)) + (1 : Int32)) < z_a1) (hba14_49 : B53 ((((0 : Int64) + w2) + w3) + w4)) (hbb14_49 : B53 w5) (hc7_56 : ¬ ((((((1 : Int32) + (1 : Int32)) + (1 : Int32)) + (1 : Int32)) + (1 : Int32)) < z_a1)) (hm27 : FP.dmul (FP.l2d (9 : Int64)) (FP.l2d (((((0 : Int64) + w2) + w3) + w4) + w5)) = FP.l2d ((9 : Int64) * (((((0 : Int64) + w2) + w3) + w4) + w5))) (hd33 : FP.ddiv (FP.l2d ((9 : Int64) * (((((0 : Int64) + w2) + w3) + w4) + w5))) (FP.l2d ((z_a1 - (1 : Int32)).toInt64)) = FP.l2d (((9 : Int64) * (((((0 : Int64) + w2) + w3) + w4) + w5)) / ((z_a1 - (1 : Int32)).toInt64))) (hba34 : B53 (1 : Int64)) (hbb34 : B53 (((9 : Int64) * (((((0 : Int64) + w2) + w3) + w4) + w5)) / ((z_a1 - (1 : Int32)).toInt64))) :
    MetFree l (⟨"com/example/paretoloom/paretoloom/problems/Zdt", "linearG", "([D)D"⟩ : MethodName) (head1 (Jvm.Cond.code (⟨"com/example/paretoloom/paretoloom/problems/Zdt", "linearG", "([D)D"⟩ : MethodName) prog_46_method_12_code 4 (some .double) :: ws) ({ frames := 0, cells := 0, slots := 0, locals := 0 } : Room)) (fun a U => a = #[(.ref a1)] ∧ Z.Warmed39 U.vm ∧ U.heap = h0) (fun _ _ _ _ _ => True) (fun _ U o U' => ∃ v L, o = .returned v ∧ own_QR (.double (FP.l2d ((1 : Int64) + (((9 : Int64) * (((((0 : Int64) + w2) + w3) + w4) + w5)) / ((z_a1 - (1 : Int32)).toInt64))))) h0 n0 v U'.heap L ∧ FrameEnd U o U' L ({ frames := 0, cells := 0, slots := 0, locals := 0 } : Room).cells ({ frames := 0, cells := 0, slots := 0, locals := 0 } : Room).slots) := by
  refine MetFree.of_bodySF (plainFor_of_name pn_1) hisR ?_
  intro p e s m args below meth c s₁ Bd hml0 hP hK
  obtain ⟨rfl, hZ, hh⟩ := hP
  have hx := Bd.exec
  have hby := Bd.bytes
  have hml : c.maxLocals = 4 := hml0
  have hown : s.vm.findClass "com/example/paretoloom/paretoloom/problems/Zdt" = some m.cls := findClass_of_methodNamed Bd.named
  have hnm := (name_of_methodNamed Bd.named Bd.method).1
  have X0 : Stand p l e ({ frames := 0, cells := 0, slots := 0, locals := 0 } : Room) s m #[(.ref a1)] below meth c s₁ [] 0 0 := Stand.of_body Bd
  have e0 : s₁.heap = h0 := by rw [← hh, Bd.state]; rfl
  have N0 := Fr.nil n0
  have pre0 : ∀ t, Steps p.tables e below (s₁.setTop (mkF m 0 #[.val (.ref a1), .unset, .unset, .unset] [])) t → Steps p.tables e below (s₁.setTop (entryFrame m #[(.ref a1)] 4)) t := fun t k => castTop (ef_1 m a1) k
  -- 3. LAWS

  obtain ⟨fs, hr, hrun, hended, hW, hsame⟩ := X0.leave (v := some (.double (FP.l2d ((1 : Int64) + (((9 : Int64) * (((((0 : Int64) + w2) + w3) + w4) + w5)) / ((z_a1 - (1 : Int32)).toInt64)))))) (fun h => by rw [Bd.returns] at h; cases h)
  refine ⟨_, _, pre0 _ ?_, hrun, hended, _, _, rfl, ?_, ⟨_, rfl⟩, hW, hsame.mono (by decide) (by decide)⟩
  -- 4. STEPS
  · show Steps p.tables e below (s₁.setTop (mkF m 0 #[.val (.ref a1), .unset, .unset, .unset] [])) _
    refine XS.dconst0 X0.here hx rfl (hb hby d1_0) (own_dc0) ?_
    show Steps p.tables e below (s₁.setTop (mkF m 1 #[.val (.ref a1), .unset, .unset, .unset] [(.double (FP.l2d (0 : Int64)))])) _
    refine XS.dstoreN X0.here hx rfl (hb hby d1_1) rfl (l' := #[.val (.ref a1), .val (.double (FP.l2d (0 : Int64))), .second, .unset]) rfl ?_
    show Steps p.tables e below (s₁.setTop (mkF m 2 #[.val (.ref a1), .val (.double (FP.l2d (0 : Int64))), .second, .unset] [])) _
    refine XS.iconst X0.here hx rfl (hb hby d1_2) ?_
    show Steps p.tables e below (s₁.setTop (mkF m 3 #[.val (.ref a1), .val (.double (FP.l2d (0 : Int64))), .second, .unset] [(.int (1 : Int32))])) _
    refine XS.istoreN X0.here hx rfl (hb hby d1_3) rfl (l' := #[.val (.ref a1), .val (.double (FP.l2d (0 : Int64))), .second, .val (.int (1 : Int32))]) rfl ?_
    show Steps p.tables e below (s₁.setTop (mkF m 4 #[.val (.ref a1), .val (.double (FP.l2d (0 : Int64))), .second, .val (.int (1 : Int32))] [])) _
    refine XS.iloadN X0.here hx rfl (hb hby d1_4) rfl ?_
    show Steps p.tables e below (s₁.setTop (mkF m 5 #[.val (.ref a1), .val (.double (FP.l2d (0 : Int64))), .second, .val (.int (1 : Int32))] [(.int (1 : Int32))])) _
    refine XS.aloadN X0.here hx rfl (hb hby d1_5) rfl rfl ?_
    show Steps p.tables e below (s₁.setTop (mkF m 6 #[.val (.ref a1), .val (.double (FP.l2d (0 : Int64))), .second, .val (.int (1 : Int32))] [(.ref a1), (.int (1 : Int32))])) _
    refine X0.arraylength hx (by rw [e0]; exact Ar_a1.1) (State.isArrayOf_alike hZ.alike Ar_a1.2.1) (g := (mkF m 6 #[.val (.ref a1), .val (.double (FP.l2d (0 : Int64))), .second, .val (.int (1 : Int32))] [(.ref a1), (.int (1 : Int32))])) rfl rfl (hb hby d1_6) _ ?_
    rw [len_of S_a1 N_a1]
    show Steps p.tables e below (s₁.setTop (mkF m 7 #[.val (.ref a1), .val (.double (FP.l2d (0 : Int64))), .second, .val (.int (1 : Int32))] [(.int z_a1), (.int (1 : Int32))])) _
    refine XS.icmpNo X0.here hx rfl (hb hby d1_7) rfl (tlt hc7).2.1 ?_
    show Steps p.tables e below (s₁.setTop (mkF m 10 #[.val (.ref a1), .val (.double (FP.l2d (0 : Int64))), .second, .val (.int (1 : Int32))] [])) _
    refine XS.dloadN X0.here hx rfl (hb hby d1_10) rfl ?_
    show Steps p.tables e below (s₁.setTop (mkF m 11 #[.val (.ref a1), .val (.double (FP.l2d (0 : Int64))), .second, .val (.int (1 : Int32))] [(.double (FP.l2d (0 : Int64)))])) _
    refine XS.aloadN X0.here hx rfl (hb hby d1_11) rfl rfl ?_
    show Steps p.tables e below (s₁.setTop (mkF m 12 #[.val (.ref a1), .val (.double (FP.l2d (0 : Int64))), .second, .val (.int (1 : Int32))] [(.ref a1), (.double (FP.l2d (0 : Int64)))])) _
    refine XS.iloadN X0.here hx rfl (hb hby d1_12) rfl ?_
    show Steps p.tables e below (s₁.setTop (mkF m 13 #[.val (.ref a1), .val (.double (FP.l2d (0 : Int64))), .second, .val (.int (1 : Int32))] [(.int (1 : Int32)), (.ref a1), (.double (FP.l2d (0 : Int64)))])) _
    refine X0.daload hx (j := (1 : Int32)) (v := (.double (FP.l2d w2))) (by rw [e0]; exact Ar_a1.1) (State.isArrayOf_alike hZ.alike Ar_a1.2.1) Ar_a1.2.2 hin13 hat13 (g := (mkF m 13 #[.val (.ref a1), .val (.double (FP.l2d (0 : Int64))), .second, .val (.int (1 : Int32))] [(.int (1 : Int32)), (.ref a1), (.double (FP.l2d (0 : Int64)))])) rfl rfl (hb hby d1_13) _ ?_
    show Steps p.tables e below (s₁.setTop (mkF m 14 #[.val (.ref a1), .val (.double (FP.l2d (0 : Int64))), .second, .val (.int (1 : Int32))] [(.double (FP.l2d w2)), (.double (FP.l2d (0 : Int64)))])) _
    refine XS.daddS X0.here hx rfl (hb hby d1_14) rfl (nn_w (dadd_w hba14 hbb14)) (dadd_w hba14 hbb14) ?_
    show Steps p.tables e below (s₁.setTop (mkF m 15 #[.val (.ref a1), .val (.double (FP.l2d (0 : Int64))), .second, .val (.int (1 : Int32))] [(.double (FP.l2d ((0 : Int64) + w2)))])) _
    refine XS.dstoreN X0.here hx rfl (hb hby d1_15) rfl (l' := #[.val (.ref a1), .val (.double (FP.l2d ((0 : Int64) + w2))), .second, .val (.int (1 : Int32))]) rfl ?_
    show Steps p.tables e below (s₁.setTop (mkF m 16 #[.val (.ref a1), .val (.double (FP.l2d ((0 : Int64) + w2))), .second, .val (.int (1 : Int32))] [])) _
    refine XS.iinc X0.here hx rfl (hb hby d1_16) rfl (l' := #[.val (.ref a1), .val (.double (FP.l2d ((0 : Int64) + w2))), .second, .val (.int ((1 : Int32) + (1 : Int32)))]) rfl ?_
    show Steps p.tables e below (s₁.setTop (mkF m 19 #[.val (.ref a1), .val (.double (FP.l2d ((0 : Int64) + w2))), .second, .val (.int ((1 : Int32) + (1 : Int32)))] [])) _
    refine XS.goto X0.here hx rfl (pc0 := 19) (pc' := 4) rfl (hb hby d1_19) (by decide) (by decide) ?_
    show Steps p.tables e below (s₁.setTop (mkF m 4 #[.val (.ref a1), .val (.double (FP.l2d ((0 : Int64) + w2))), .second, .val (.int ((1 : Int32) + (1 : Int32)))] [])) _
    refine XS.iloadN X0.here hx rfl (hb hby d1_4) rfl ?_
    show Steps p.tables e below (s₁.setTop (mkF m 5 #[.val (.ref a1), .val (.double (FP.l2d ((0 : Int64) + w2))), .second, .val (.int ((1 : Int32) + (1 : Int32)))] [(.int ((1 : Int32) + (1 : Int32)))])) _
    refine XS.aloadN X0.here hx rfl (hb hby d1_5) rfl rfl ?_
    show Steps p.tables e below (s₁.setTop (mkF m 6 #[.val (.ref a1), .val (.double (FP.l2d ((0 : Int64) + w2))), .second, .val (.int ((1 : Int32) + (1 : Int32)))] [(.ref a1), (.int ((1 : Int32) + (1 : Int32)))])) _
    refine X0.arraylength hx (by rw [e0]; exact Ar_a1.1) (State.isArrayOf_alike hZ.alike Ar_a1.2.1) (g := (mkF m 6 #[.val (.ref a1), .val (.double (FP.l2d ((0 : Int64) + w2))), .second, .val (.int ((1 : Int32) + (1 : Int32)))] [(.ref a1), (.int ((1 : Int32) + (1 : Int32)))])) rfl rfl (hb hby d1_6) _ ?_
    rw [len_of S_a1 N_a1]
    show Steps p.tables e below (s₁.setTop (mkF m 7 #[.val (.ref a1), .val (.double (FP.l2d ((0 : Int64) + w2))), .second, .val (.int ((1 : Int32) + (1 : Int32)))] [(.int z_a1), (.int ((1 : Int32) + (1 : Int32)))])) _
    refine XS.icmpNo X0.here hx rfl (hb hby d1_7) rfl (tlt hc7_20).2.1 ?_
    show Steps p.tables e below (s₁.setTop (mkF m 10 #[.val (.ref a1), .val (.double (FP.l2d ((0 : Int64) + w2))), .second, .val (.int ((1 : Int32) + (1 : Int32)))] [])) _
    refine XS.dloadN X0.here hx rfl (hb hby d1_10) rfl ?_
    show Steps p.tables e below (s₁.setTop (mkF m 11 #[.val (.ref a1), .val (.double (FP.l2d ((0 : Int64) + w2))), .second, .val (.int ((1 : Int32) + (1 : Int32)))] [(.double (FP.l2d ((0 : Int64) + w2)))])) _
    refine XS.aloadN X0.here hx rfl (hb hby d1_11) rfl rfl ?_
    show Steps p.tables e below (s₁.setTop (mkF m 12 #[.val (.ref a1), .val (.double (FP.l2d ((0 : Int64) + w2))), .second, .val (.int ((1 : Int32) + (1 : Int32)))] [(.ref a1), (.double (FP.l2d ((0 : Int64) + w2)))])) _
    refine XS.iloadN X0.here hx rfl (hb hby d1_12) rfl ?_
    show Steps p.tables e below (s₁.setTop (mkF m 13 #[.val (.ref a1), .val (.double (FP.l2d ((0 : Int64) + w2))), .second, .val (.int ((1 : Int32) + (1 : Int32)))] [(.int ((1 : Int32) + (1 : Int32))), (.ref a1), (.double (FP.l2d ((0 : Int64) + w2)))])) _
    refine X0.daload hx (j := ((1 : Int32) + (1 : Int32))) (v := (.double (FP.l2d w3))) (by rw [e0]; exact Ar_a1.1) (State.isArrayOf_alike hZ.alike Ar_a1.2.1) Ar_a1.2.2 hin13_24 hat13_24 (g := (mkF m 13 #[.val (.ref a1), .val (.double (FP.l2d ((0 : Int64) + w2))), .second, .val (.int ((1 : Int32) + (1 : Int32)))] [(.int ((1 : Int32) + (1 : Int32))), (.ref a1), (.double (FP.l2d ((0 : Int64) + w2)))])) rfl rfl (hb hby d1_13) _ ?_
    show Steps p.tables e below (s₁.setTop (mkF m 14 #[.val (.ref a1), .val (.double (FP.l2d ((0 : Int64) + w2))), .second, .val (.int ((1 : Int32) + (1 : Int32)))] [(.double (FP.l2d w3)), (.double (FP.l2d ((0 : Int64) + w2)))])) _
    refine XS.daddS X0.here hx rfl (hb hby d1_14) rfl (nn_w (dadd_w hba14_25 hbb14_25)) (dadd_w hba14_25 hbb14_25) ?_
    show Steps p.tables e below (s₁.setTop (mkF m 15 #[.val (.ref a1), .val (.double (FP.l2d ((0 : Int64) + w2))), .second, .val (.int ((1 : Int32) + (1 : Int32)))] [(.double (FP.l2d (((0 : Int64) + w2) + w3)))])) _
    refine XS.dstoreN X0.here hx rfl (hb hby d1_15) rfl (l' := #[.val (.ref a1), .val (.double (FP.l2d (((0 : Int64) + w2) + w3))), .second, .val (.int ((1 : Int32) + (1 : Int32)))]) rfl ?_
    show Steps p.tables e below (s₁.setTop (mkF m 16 #[.val (.ref a1), .val (.double (FP.l2d (((0 : Int64) + w2) + w3))), .second, .val (.int ((1 : Int32) + (1 : Int32)))] [])) _
    refine XS.iinc X0.here hx rfl (hb hby d1_16) rfl (l' := #[.val (.ref a1), .val (.double (FP.l2d (((0 : Int64) + w2) + w3))), .second, .val (.int (((1 : Int32) + (1 : Int32)) + (1 : Int32)))]) rfl ?_
    show Steps p.tables e below (s₁.setTop (mkF m 19 #[.val (.ref a1), .val (.double (FP.l2d (((0 : Int64) + w2) + w3))), .second, .val (.int (((1 : Int32) + (1 : Int32)) + (1 : Int32)))] [])) _
    refine XS.goto X0.here hx rfl (pc0 := 19) (pc' := 4) rfl (hb hby d1_19) (by decide) (by decide) ?_
    show Steps p.tables e below (s₁.setTop (mkF m 4 #[.val (.ref a1), .val (.double (FP.l2d (((0 : Int64) + w2) + w3))), .second, .val (.int (((1 : Int32) + (1 : Int32)) + (1 : Int32)))] [])) _
    refine XS.iloadN X0.here hx rfl (hb hby d1_4) rfl ?_
    show Steps p.tables e below (s₁.setTop (mkF m 5 #[.val (.ref a1), .val (.double (FP.l2d (((0 : Int64) + w2) + w3))), .second, .val (.int (((1 : Int32) + (1 : Int32)) + (1 : Int32)))] [(.int (((1 : Int32) + (1 : Int32)) + (1 : Int32)))])) _
    refine XS.aloadN X0.here hx rfl (hb hby d1_5) rfl rfl ?_
    show Steps p.tables e below (s₁.setTop (mkF m 6 #[.val (.ref a1), .val (.double (FP.l2d (((0 : Int64) + w2) + w3))), .second, .val (.int (((1 : Int32) + (1 : Int32)) + (1 : Int32)))] [(.ref a1), (.int (((1 : Int32) + (1 : Int32)) + (1 : Int32)))])) _
    refine X0.arraylength hx (by rw [e0]; exact Ar_a1.1) (State.isArrayOf_alike hZ.alike Ar_a1.2.1) (g := (mkF m 6 #[.val (.ref a1), .val (.double (FP.l2d (((0 : Int64) + w2) + w3))), .second, .val (.int (((1 : Int32) + (1 : Int32)) + (1 : Int32)))] [(.ref a1), (.int (((1 : Int32) + (1 : Int32)) + (1 : Int32)))])) rfl rfl (hb hby d1_6) _ ?_
    rw [len_of S_a1 N_a1]
    show Steps p.tables e below (s₁.setTop (mkF m 7 #[.val (.ref a1), .val (.double (FP.l2d (((0 : Int64) + w2) + w3))), .second, .val (.int (((1 : Int32) + (1 : Int32)) + (1 : Int32)))] [(.int z_a1), (.int (((1 : Int32) + (1 : Int32)) + (1 : Int32)))])) _
    refine XS.icmpNo X0.here hx rfl (hb hby d1_7) rfl (tlt hc7_32).2.1 ?_
    show Steps p.tables e below (s₁.setTop (mkF m 10 #[.val (.ref a1), .val (.double (FP.l2d (((0 : Int64) + w2) + w3))), .second, .val (.int (((1 : Int32) + (1 : Int32)) + (1 : Int32)))] [])) _
    refine XS.dloadN X0.here hx rfl (hb hby d1_10) rfl ?_
    show Steps p.tables e below (s₁.setTop (mkF m 11 #[.val (.ref a1), .val (.double (FP.l2d (((0 : Int64) + w2) + w3))), .second, .val (.int (((1 : Int32) + (1 : Int32)) + (1 : Int32)))] [(.double (FP.l2d (((0 : Int64) + w2) + w3)))])) _
    refine XS.aloadN X0.here hx rfl (hb hby d1_11) rfl rfl ?_
    show Steps p.tables e below (s₁.setTop (mkF m 12 #[.val (.ref a1), .val (.double (FP.l2d (((0 : Int64) + w2) + w3))), .second, .val (.int (((1 : Int32) + (1 : Int32)) + (1 : Int32)))] [(.ref a1), (.double (FP.l2d (((0 : Int64) + w2) + w3)))])) _
    refine XS.iloadN X0.here hx rfl (hb hby d1_12) rfl ?_
    show Steps p.tables e below (s₁.setTop (mkF m 13 #[.val (.ref a1), .val (.double (FP.l2d (((0 : Int64) + w2) + w3))), .second, .val (.int (((1 : Int32) + (1 : Int32)) + (1 : Int32)))] [(.int (((1 : Int32) + (1 : Int32)) + (1 : Int32))), (.ref a1), (.double (FP.l2d (((0 : Int64) + w2) + w3)))])) _
    refine X0.daload hx (j := (((1 : Int32) + (1 : Int32)) + (1 : Int32))) (v := (.double (FP.l2d w4))) (by rw [e0]; exact Ar_a1.1) (State.isArrayOf_alike hZ.alike Ar_a1.2.1) Ar_a1.2.2 hin13_36 hat13_36 (g := (mkF m 13 #[.val (.ref a1), .val (.double (FP.l2d (((0 : Int64) + w2) + w3))), .second, .val (.int (((1 : Int32) + (1 : Int32)) + (1 : Int32)))] [(.int (((1 : Int32) + (1 : Int32)) + (1 : Int32))), (.ref a1), (.double (FP.l2d (((0 : Int64) + w2) + w3)))])) rfl rfl (hb hby d1_13) _ ?_
    show Steps p.tables e below (s₁.setTop (mkF m 14 #[.val (.ref a1), .val (.double (FP.l2d (((0 : Int64) + w2) + w3))), .second, .val (.int (((1 : Int32) + (1 : Int32)) + (1 : Int32)))] [(.double (FP.l2d w4)), (.double (FP.l2d (((0 : Int64) + w2) + w3)))])) _
    refine XS.daddS X0.here hx rfl (hb hby d1_14) rfl (nn_w (dadd_w hba14_37 hbb14_37)) (dadd_w hba14_37 hbb14_37) ?_
    show Steps p.tables e below (s₁.setTop (mkF m 15 #[.val (.ref a1), .val (.double (FP.l2d (((0 : Int64) + w2) + w3))), .second, .val (.int (((1 : Int32) + (1 : Int32)) + (1 : Int32)))] [(.double (FP.l2d ((((0 : Int64) + w2) + w3) + w4)))])) _
    refine XS.dstoreN X0.here hx rfl (hb hby d1_15) rfl (l' := #[.val (.ref a1), .val (.double (FP.l2d ((((0 : Int64) + w2) + w3) + w4))), .second, .val (.int (((1 : Int32) + (1 : Int32)) + (1 : Int32)))]) rfl ?_
    show Steps p.tables e below (s₁.setTop (mkF m 16 #[.val (.ref a1), .val (.double (FP.l2d ((((0 : Int64) + w2) + w3) + w4))), .second, .val (.int (((1 : Int32) + (1 : Int32)) + (1 : Int32)))] [])) _
    refine XS.iinc X0.here hx rfl (hb hby d1_16) rfl (l' := #[.val (.ref a1), .val (.double (FP.l2d ((((0 : Int64) + w2) + w3) + w4))), .second, .val (.int ((((1 : Int32) + (1 : Int32)) + (1 : Int32)) + (1 : Int32)))]) rfl ?_
    show Steps p.tables e below (s₁.setTop (mkF m 19 #[.val (.ref a1), .val (.double (FP.l2d ((((0 : Int64) + w2) + w3) + w4))), .second, .val (.int ((((1 : Int32) + (1 : Int32)) + (1 : Int32)) + (1 : Int32)))] [])) _
    refine XS.goto X0.here hx rfl (pc0 := 19) (pc' := 4) rfl (hb hby d1_19) (by decide) (by decide) ?_
    show Steps p.tables e below (s₁.setTop (mkF m 4 #[.val (.ref a1), .val (.double (FP.l2d ((((0 : Int64) + w2) + w3) + w4))), .second, .val (.int ((((1 : Int32) + (1 : Int32)) + (1 : Int32)) + (1 : Int32)))] [])) _
    refine XS.iloadN X0.here hx rfl (hb hby d1_4) rfl ?_
    show Steps p.tables e below (s₁.setTop (mkF m 5 #[.val (.ref a1), .val (.double (FP.l2d ((((0 : Int64) + w2) + w3) + w4))), .second, .val (.int ((((1 : Int32) + (1 : Int32)) + (1 : Int32)) + (1 : Int32)))] [(.int ((((1 : Int32) + (1 : Int32)) + (1 : Int32)) + (1 : Int32)))])) _
    refine XS.aloadN X0.here hx rfl (hb hby d1_5) rfl rfl ?_
    show Steps p.tables e below (s₁.setTop (mkF m 6 #[.val (.ref a1), .val (.double (FP.l2d ((((0 : Int64) + w2) + w3) + w4))), .second, .val (.int ((((1 : Int32) + (1 : Int32)) + (1 : Int32)) + (1 : Int32)))] [(.ref a1), (.int ((((1 : Int32) + (1 : Int32)) + (1 : Int32)) + (1 : Int32)))])) _
    refine X0.arraylength hx (by rw [e0]; exact Ar_a1.1) (State.isArrayOf_alike hZ.alike Ar_a1.2.1) (g := (mkF m 6 #[.val (.ref a1), .val (.double (FP.l2d ((((0 : Int64) + w2) + w3) + w4))), .second, .val (.int ((((1 : Int32) + (1 : Int32)) + (1 : Int32)) + (1 : Int32)))] [(.ref a1), (.int ((((1 : Int32) + (1 : Int32)) + (1 : Int32)) + (1 : Int32)))])) rfl rfl (hb hby d1_6) _ ?_
    rw [len_of S_a1 N_a1]
    show Steps p.tables e below (s₁.setTop (mkF m 7 #[.val (.ref a1), .val (.double (FP.l2d ((((0 : Int64) + w2) + w3) + w4))), .second, .val (.int ((((1 : Int32) + (1 : Int32)) + (1 : Int32)) + (1 : Int32)))] [(.int z_a1), (.int ((((1 : Int32) + (1 : Int32)) + (1 : Int32)) + (1 : Int32)))])) _
    refine XS.icmpNo X0.here hx rfl (hb hby d1_7) rfl (tlt hc7_44).2.1 ?_
    show Steps p.tables e below (s₁.setTop (mkF m 10 #[.val (.ref a1), .val (.double (FP.l2d ((((0 : Int64) + w2) + w3) + w4))), .second, .val (.int ((((1 : Int32) + (1 : Int32)) + (1 : Int32)) + (1 : Int32)))] [])) _
    refine XS.dloadN X0.here hx rfl (hb hby d1_10) rfl ?_
    show Steps p.tables e below (s₁.setTop (mkF m 11 #[.val (.ref a1), .val (.double (FP.l2d ((((0 : Int64) + w2) + w3) + w4))), .second, .val (.int ((((1 : Int32) + (1 : Int32)) + (1 : Int32)) + (1 : Int32)))] [(.double (FP.l2d ((((0 : Int64) + w2) + w3) + w4)))])) _
    refine XS.aloadN X0.here hx rfl (hb hby d1_11) rfl rfl ?_
    show Steps p.tables e below (s₁.setTop (mkF m 12 #[.val (.ref a1), .val (.double (FP.l2d ((((0 : Int64) + w2) + w3) + w4))), .second, .val (.int ((((1 : Int32) + (1 : Int32)) + (1 : Int32)) + (1 : Int32)))] [(.ref a1), (.double (FP.l2d ((((0 : Int64) + w2) + w3) + w4)))])) _
    refine XS.iloadN X0.here hx rfl (hb hby d1_12) rfl ?_
    show Steps p.tables e below (s₁.setTop (mkF m 13 #[.val (.ref a1), .val (.double (FP.l2d ((((0 : Int64) + w2) + w3) + w4))), .second, .val (.int ((((1 : Int32) + (1 : Int32)) + (1 : Int32)) + (1 : Int32)))] [(.int ((((1 : Int32) + (1 : Int32)) + (1 : Int32)) + (1 : Int32))), (.ref a1), (.double (FP.l2d ((((0 : Int64) + w2) + w3) + w4)))])) _
    refine X0.daload hx (j := ((((1 : Int32) + (1 : Int32)) + (1 : Int32)) + (1 : Int32))) (v := (.double (FP.l2d w5))) (by rw [e0]; exact Ar_a1.1) (State.isArrayOf_alike hZ.alike Ar_a1.2.1) Ar_a1.2.2 hin13_48 hat13_48 (g := (mkF m 13 #[.val (.ref a1), .val (.double (FP.l2d ((((0 : Int64) + w2) + w3) + w4))), .second, .val (.int ((((1 : Int32) + (1 : Int32)) + (1 : Int32)) + (1 : Int32)))] [(.int ((((1 : Int32) + (1 : Int32)) + (1 : Int32)) + (1 : Int32))), (.ref a1), (.double (FP.l2d ((((0 : Int64) + w2) + w3) + w4)))])) rfl rfl (hb hby d1_13) _ ?_
    show Steps p.tables e below (s₁.setTop (mkF m 14 #[.val (.ref a1), .val (.double (FP.l2d ((((0 : Int64) + w2) + w3) + w4))), .second, .val (.int ((((1 : Int32) + (1 : Int32)) + (1 : Int32)) + (1 : Int32)))] [(.double (FP.l2d w5)), (.double (FP.l2d ((((0 : Int64) + w2) + w3) + w4)))])) _
    refine XS.daddS X0.here hx rfl (hb hby d1_14) rfl (nn_w (dadd_w hba14_49 hbb14_49)) (dadd_w hba14_49 hbb14_49) ?_
    show Steps p.tables e below (s₁.setTop (mkF m 15 #[.val (.ref a1), .val (.double (FP.l2d ((((0 : Int64) + w2) + w3) + w4))), .second, .val (.int ((((1 : Int32) + (1 : Int32)) + (1 : Int32)) + (1 : Int32)))] [(.double (FP.l2d (((((0 : Int64) + w2) + w3) + w4) + w5)))])) _
    refine XS.dstoreN X0.here hx rfl (hb hby d1_15) rfl (l' := #[.val (.ref a1), .val (.double (FP.l2d (((((0 : Int64) + w2) + w3) + w4) + w5))), .second, .val (.int ((((1 : Int32) + (1 : Int32)) + (1 : Int32)) + (1 : Int32)))]) rfl ?_
    show Steps p.tables e below (s₁.setTop (mkF m 16 #[.val (.ref a1), .val (.double (FP.l2d (((((0 : Int64) + w2) + w3) + w4) + w5))), .second, .val (.int ((((1 : Int32) + (1 : Int32)) + (1 : Int32)) + (1 : Int32)))] [])) _
    refine XS.iinc X0.here hx rfl (hb hby d1_16) rfl (l' := #[.val (.ref a1), .val (.double (FP.l2d (((((0 : Int64) + w2) + w3) + w4) + w5))), .second, .val (.int (((((1 : Int32) + (1 : Int32)) + (1 : Int32)) + (1 : Int32)) + (1 : Int32)))]) rfl ?_
    show Steps p.tables e below (s₁.setTop (mkF m 19 #[.val (.ref a1), .val (.double (FP.l2d (((((0 : Int64) + w2) + w3) + w4) + w5))), .second, .val (.int (((((1 : Int32) + (1 : Int32)) + (1 : Int32)) + (1 : Int32)) + (1 : Int32)))] [])) _
    refine XS.goto X0.here hx rfl (pc0 := 19) (pc' := 4) rfl (hb hby d1_19) (by decide) (by decide) ?_
    show Steps p.tables e below (s₁.setTop (mkF m 4 #[.val (.ref a1), .val (.double (FP.l2d (((((0 : Int64) + w2) + w3) + w4) + w5))), .second, .val (.int (((((1 : Int32) + (1 : Int32)) + (1 : Int32)) + (1 : Int32)) + (1 : Int32)))] [])) _
    refine XS.iloadN X0.here hx rfl (hb hby d1_4) rfl ?_
    show Steps p.tables e below (s₁.setTop (mkF m 5 #[.val (.ref a1), .val (.double (FP.l2d (((((0 : Int64) + w2) + w3) + w4) + w5))), .second, .val (.int (((((1 : Int32) + (1 : Int32)) + (1 : Int32)) + (1 : Int32)) + (1 : Int32)))] [(.int (((((1 : Int32) + (1 : Int32)) + (1 : Int32)) + (1 : Int32)) + (1 : Int32)))])) _
    refine XS.aloadN X0.here hx rfl (hb hby d1_5) rfl rfl ?_
    show Steps p.tables e below (s₁.setTop (mkF m 6 #[.val (.ref a1), .val (.double (FP.l2d (((((0 : Int64) + w2) + w3) + w4) + w5))), .second, .val (.int (((((1 : Int32) + (1 : Int32)) + (1 : Int32)) + (1 : Int32)) + (1 : Int32)))] [(.ref a1), (.int (((((1 : Int32) + (1 : Int32)) + (1 : Int32)) + (1 : Int32)) + (1 : Int32)))])) _
    refine X0.arraylength hx (by rw [e0]; exact Ar_a1.1) (State.isArrayOf_alike hZ.alike Ar_a1.2.1) (g := (mkF m 6 #[.val (.ref a1), .val (.double (FP.l2d (((((0 : Int64) + w2) + w3) + w4) + w5))), .second, .val (.int (((((1 : Int32) + (1 : Int32)) + (1 : Int32)) + (1 : Int32)) + (1 : Int32)))] [(.ref a1), (.int (((((1 : Int32) + (1 : Int32)) + (1 : Int32)) + (1 : Int32)) + (1 : Int32)))])) rfl rfl (hb hby d1_6) _ ?_
    rw [len_of S_a1 N_a1]
    show Steps p.tables e below (s₁.setTop (mkF m 7 #[.val (.ref a1), .val (.double (FP.l2d (((((0 : Int64) + w2) + w3) + w4) + w5))), .second, .val (.int (((((1 : Int32) + (1 : Int32)) + (1 : Int32)) + (1 : Int32)) + (1 : Int32)))] [(.int z_a1), (.int (((((1 : Int32) + (1 : Int32)) + (1 : Int32)) + (1 : Int32)) + (1 : Int32)))])) _
    refine XS.icmpYes X0.here hx rfl (pc0 := 7) (pc' := 22) rfl (hb hby d1_7) rfl (flt hc7_56).2.1 (by decide) (by decide) ?_
    show Steps p.tables e below (s₁.setTop (mkF m 22 #[.val (.ref a1), .val (.double (FP.l2d (((((0 : Int64) + w2) + w3) + w4) + w5))), .second, .val (.int (((((1 : Int32) + (1 : Int32)) + (1 : Int32)) + (1 : Int32)) + (1 : Int32)))] [])) _
    refine XS.dconst1 X0.here hx rfl (hb hby d1_22) (own_dc1) ?_
    show Steps p.tables e below (s₁.setTop (mkF m 23 #[.val (.ref a1), .val (.double (FP.l2d (((((0 : Int64) + w2) + w3) + w4) + w5))), .second, .val (.int (((((1 : Int32) + (1 : Int32)) + (1 : Int32)) + (1 : Int32)) + (1 : Int32)))] [(.double (FP.l2d (1 : Int64)))])) _
    refine X0.ldc2DoubleC hx hown (mvT hZ (hw _ (List.mem_of_getElem? (i := 8) rfl))) (g := (mkF m 23 #[.val (.ref a1), .val (.double (FP.l2d (((((0 : Int64) + w2) + w3) + w4) + w5))), .second, .val (.int (((((1 : Int32) + (1 : Int32)) + (1 : Int32)) + (1 : Int32)) + (1 : Int32)))] [(.double (FP.l2d (1 : Int64)))])) rfl (hb hby d1_23) _ ?_
    rw [show (4621256167635550208 : UInt64) = FP.l2d (9 : Int64) from by decide +kernel]
    show Steps p.tables e below (s₁.setTop (mkF m 26 #[.val (.ref a1), .val (.double (FP.l2d (((((0 : Int64) + w2) + w3) + w4) + w5))), .second, .val (.int (((((1 : Int32) + (1 : Int32)) + (1 : Int32)) + (1 : Int32)) + (1 : Int32)))] [(.double (FP.l2d (9 : Int64))), (.double (FP.l2d (1 : Int64)))])) _
    refine XS.dloadN X0.here hx rfl (hb hby d1_26) rfl ?_
    show Steps p.tables e below (s₁.setTop (mkF m 27 #[.val (.ref a1), .val (.double (FP.l2d (((((0 : Int64) + w2) + w3) + w4) + w5))), .second, .val (.int (((((1 : Int32) + (1 : Int32)) + (1 : Int32)) + (1 : Int32)) + (1 : Int32)))] [(.double (FP.l2d (((((0 : Int64) + w2) + w3) + w4) + w5))), (.double (FP.l2d (9 : Int64))), (.double (FP.l2d (1 : Int64)))])) _
    refine XS.dmulS X0.here hx rfl (hb hby d1_27) rfl (nn_w hm27) hm27 ?_
    show Steps p.tables e below (s₁.setTop (mkF m 28 #[.val (.ref a1), .val (.double (FP.l2d (((((0 : Int64) + w2) + w3) + w4) + w5))), .second, .val (.int (((((1 : Int32) + (1 : Int32)) + (1 : Int32)) + (1 : Int32)) + (1 : Int32)))] [(.double (FP.l2d ((9 : Int64) * (((((0 : Int64) + w2) + w3) + w4) + w5)))), (.double (FP.l2d (1 : Int64)))])) _
    refine XS.aloadN X0.here hx rfl (hb hby d1_28) rfl rfl ?_
    show Steps p.tables e below (s₁.setTop (mkF m 29 #[.val (.ref a1), .val (.double (FP.l2d (((((0 : Int64) + w2) + w3) + w4) + w5))), .second, .val (.int (((((1 : Int32) + (1 : Int32)) + (1 : Int32)) + (1 : Int32)) + (1 : Int32)))] [(.ref a1), (.double (FP.l2d ((9 : Int64) * (((((0 : Int64) + w2) + w3) + w4) + w5)))), (.double (FP.l2d (1 : Int64)))])) _
    refine X0.arraylength hx (by rw [e0]; exact Ar_a1.1) (State.isArrayOf_alike hZ.alike Ar_a1.2.1) (g := (mkF m 29 #[.val (.ref a1), .val (.double (FP.l2d (((((0 : Int64) + w2) + w3) + w4) + w5))), .second, .val (.int (((((1 : Int32) + (1 : Int32)) + (1 : Int32)) + (1 : Int32)) + (1 : Int32)))] [(.ref a1), (.double (FP.l2d ((9 : Int64) * (((((0 : Int64) + w2) + w3) + w4) + w5)))), (.double (FP.l2d (1 : Int64)))])) rfl rfl (hb hby d1_29) _ ?_
    rw [len_of S_a1 N_a1]
    show Steps p.tables e below (s₁.setTop (mkF m 30 #[.val (.ref a1), .val (.double (FP.l2d (((((0 : Int64) + w2) + w3) + w4) + w5))), .second, .val (.int (((((1 : Int32) + (1 : Int32)) + (1 : Int32)) + (1 : Int32)) + (1 : Int32)))] [(.int z_a1), (.double (FP.l2d ((9 : Int64) * (((((0 : Int64) + w2) + w3) + w4) + w5)))), (.double (FP.l2d (1 : Int64)))])) _
    refine XS.iconst X0.here hx rfl (hb hby d1_30) ?_
    show Steps p.tables e below (s₁.setTop (mkF m 31 #[.val (.ref a1), .val (.double (FP.l2d (((((0 : Int64) + w2) + w3) + w4) + w5))), .second, .val (.int (((((1 : Int32) + (1 : Int32)) + (1 : Int32)) + (1 : Int32)) + (1 : Int32)))] [(.int (1 : Int32)), (.int z_a1), (.double (FP.l2d ((9 : Int64) * (((((0 : Int64) + w2) + w3) + w4) + w5)))), (.double (FP.l2d (1 : Int64)))])) _
    refine XS.isub X0.here hx rfl (hb hby d1_31) rfl ?_
    show Steps p.tables e below (s₁.setTop (mkF m 32 #[.val (.ref a1), .val (.double (FP.l2d (((((0 : Int64) + w2) + w3) + w4) + w5))), .second, .val (.int (((((1 : Int32) + (1 : Int32)) + (1 : Int32)) + (1 : Int32)) + (1 : Int32)))] [(.int (z_a1 - (1 : Int32))), (.double (FP.l2d ((9 : Int64) * (((((0 : Int64) + w2) + w3) + w4) + w5)))), (.double (FP.l2d (1 : Int64)))])) _
    refine XS.i2dS X0.here hx rfl (hb hby d1_32) rfl (i2d_w _) ?_
    show Steps p.tables e below (s₁.setTop (mkF m 33 #[.val (.ref a1), .val (.double (FP.l2d (((((0 : Int64) + w2) + w3) + w4) + w5))), .second, .val (.int (((((1 : Int32) + (1 : Int32)) + (1 : Int32)) + (1 : Int32)) + (1 : Int32)))] [(.double (FP.l2d ((z_a1 - (1 : Int32)).toInt64))), (.double (FP.l2d ((9 : Int64) * (((((0 : Int64) + w2) + w3) + w4) + w5)))), (.double (FP.l2d (1 : Int64)))])) _
    refine XS.ddivS X0.here hx rfl (hb hby d1_33) rfl (nn_w hd33) hd33 ?_
    show Steps p.tables e below (s₁.setTop (mkF m 34 #[.val (.ref a1), .val (.double (FP.l2d (((((0 : Int64) + w2) + w3) + w4) + w5))), .second, .val (.int (((((1 : Int32) + (1 : Int32)) + (1 : Int32)) + (1 : Int32)) + (1 : Int32)))] [(.double (FP.l2d (((9 : Int64) * (((((0 : Int64) + w2) + w3) + w4) + w5)) / ((z_a1 - (1 : Int32)).toInt64)))), (.double (FP.l2d (1 : Int64)))])) _
    refine XS.daddS X0.here hx rfl (hb hby d1_34) rfl (nn_w (dadd_w hba34 hbb34)) (dadd_w hba34 hbb34) ?_
    show Steps p.tables e below (s₁.setTop (mkF m 35 #[.val (.ref a1), .val (.double (FP.l2d (((((0 : Int64) + w2) + w3) + w4) + w5))), .second, .val (.int (((((1 : Int32) + (1 : Int32)) + (1 : Int32)) + (1 : Int32)) + (1 : Int32)))] [(.double (FP.l2d ((1 : Int64) + (((9 : Int64) * (((((0 : Int64) + w2) + w3) + w4) + w5)) / ((z_a1 - (1 : Int32)).toInt64)))))])) _
    exact own_retD X0 hx Bd.returns (hb hby d1_35) hr
  · show own_QR (.double (FP.l2d ((1 : Int64) + (((9 : Int64) * (((((0 : Int64) + w2) + w3) + w4) + w5)) / ((z_a1 - (1 : Int32)).toInt64))))) h0 n0 _ s₁.heap _
    rw [e0]
    exact ⟨rfl, N0, rfl⟩
theorem rm1_n5 (l : Launch) (Z : State) (a0 : Array Value) (hw : ∀ d ∈ tables_1, d.before a0 Z = true) (ws : List Jvm.Cond) (a1 : Addr) (k : ClassId) (dv : Value) (x0 w2 w3 w4 w5 mm : Int64) (h0 : Heap) (n0 : Nat) (Z0 : n0 ≤ h0.size) (V : Arv Z h0 a1 k .double (5 : Int32) [(.double (FP.l2d x0)), (.double (FP.l2d w2)), (.double (FP.l2d w3)), (.double (FP.l2d w4)), (.double (FP.l2d w5))] dv) (b_w2 : own_S w2) (b_w3 : own_S w3) (b_w4 : own_S w4) (b_w5 : own_S w5) (bm : own_S mm) (hs : w2.toInt + w3.toInt + w4.toInt + w5.toInt = 4 * mm.toInt) :
    MetFree l (⟨"com/example/paretoloom/paretoloom/problems/Zdt", "linearG", "([D)D"⟩ : MethodName) (head1 (Jvm.Cond.code (⟨"com/example/paretoloom/paretoloom/problems/Zdt", "linearG", "([D)D"⟩ : MethodName) prog_46_method_12_code 4 (some .double) :: ws) ({ frames := 0, cells := 0, slots := 0, locals := 0 } : Room)) (fun a U => a = #[(.ref a1)] ∧ Z.Warmed39 U.vm ∧ U.heap = h0) (fun _ _ _ _ _ => True) (fun _ U o U' => ∃ v L, o = .returned v ∧ own_QR (.double (FP.l2d ((1 : Int64) + ((9 : Int64) * mm)))) h0 n0 v U'.heap L ∧ FrameEnd U o U' L ({ frames := 0, cells := 0, slots := 0, locals := 0 } : Room).cells ({ frames := 0, cells := 0, slots := 0, locals := 0 } : Room).slots) := by
  obtain ⟨cl, Ar, q, S, N, H, G⟩ := V
  have s0 : (0 : Int64).toInt = 0 := by decide
  have t0 : own_T (0 : Int64) := by unfold own_T; rw [s0]; omega
  have s1 : ((0 : Int64) + w2).toInt = (0 : Int64).toInt + w2.toInt := own_add t0 (own_ST b_w2)
  have t1 : own_T ((0 : Int64) + w2) := by unfold own_T; unfold own_S at *; omega
  have s2 : (((0 : Int64) + w2) + w3).toInt = ((0 : Int64) + w2).toInt + w3.toInt := own_add t1 (own_ST b_w3)
  have t2 : own_T (((0 : Int64) + w2) + w3) := by unfold own_T; unfold own_S at *; omega
  have s3 : ((((0 : Int64) + w2) + w3) + w4).toInt = (((0 : Int64) + w2) + w3).toInt + w4.toInt := own_add t2 (own_ST b_w4)
  have t3 : own_T ((((0 : Int64) + w2) + w3) + w4) := by unfold own_T; unfold own_S at *; omega
  have s4 : (((((0 : Int64) + w2) + w3) + w4) + w5).toInt = ((((0 : Int64) + w2) + w3) + w4).toInt + w5.toInt := own_add t3 (own_ST b_w5)
  have t4 : own_T (((((0 : Int64) + w2) + w3) + w4) + w5) := by unfold own_T; unfold own_S at *; omega
  have hS : (((((0 : Int64) + w2) + w3) + w4) + w5).toInt = 4 * mm.toInt := by omega
  obtain ⟨f1, f2, f3, f4⟩ := own_fin (nn := (((5 : Int32) - (1 : Int32)).toInt64)) (n := 4) bm (by decide) (by omega) hS
  rw [← f4]
  exact rm1_fffft l Z a0 hw ws a1 cl (5 : Int32) w2 w3 w4 w5 h0 n0 Z0 Ar S N (inb_of S ⟨by decide, by decide⟩) (H 1 (by rw [S]; decide)) (inb_of S ⟨by decide, by decide⟩) (H 2 (by rw [S]; decide)) (inb_of S ⟨by decide, by decide⟩) (H 3 (by rw [S]; decide)) (inb_of S ⟨by decide, by decide⟩) (H 4 (by rw [S]; decide)) (by decide) (own_TB t0) (own_TB (own_ST b_w2)) (by decide) (own_TB t1) (own_TB (own_ST b_w3)) (by decide) (own_TB t2) (own_TB (own_ST b_w4)) (by decide) (own_TB t3) (own_TB (own_ST b_w5)) (by decide) f1 f2 own_B1 f3
theorem pn_0 : plainName "com/example/paretoloom/paretoloom/problems/ZdtLinearGPinLaw" = true := by first | (simp [plainName, overriddenIn]; done) | decide +kernel
theorem pd_0_0 : parseMethodDescriptor "([D)D" = some ⟨[(.array .double)], some .double⟩ := by decide +kernel
theorem ef_0 (m : MethodId) (x0 : Int32) (x1 : Int32) (x2 : Int32) (x3 : Int32) (x4 : Int32) (x5 : Int32) : entryFrame m #[(.int x0), (.int x1), (.int x2), (.int x3), (.int x4), (.int x5)] maxLocals = mkF m 0 #[.val (.int x0), .val (.int x1), .val (.int x2), .val (.int x3), .val (.int x4), .val (.int x5), .unset, .unset, .unset, .unset, .unset, .unset, .unset, .unset, .unset, .unset, .unset, .unset, .unset, .unset] [] := by first | (simp [entryFrame, mkF, argsToLocals, Value.category, maxLocals]; done) | rfl
def Q0 (Z : State) (p1 : Int32) (p2 : Int32) (p3 : Int32) (p4 : Int32) (p5 : Int32) (p6 : Int32) (h0 : Heap) (n0 : Nat) (v : Option Value) (h : Heap) (L : List Loc) : Prop := v = some (.int (1 : Int32)) ∧ Fr n0 L
set_option maxRecDepth 65536 in
set_option maxHeartbeats 40000000 in
theorem rm0_2 (l : Launch) (Z : State) (a0 : Array Value) (hw : ∀ d ∈ tables_1, d.before a0 Z = true) (ws : List Jvm.Cond) (p1 : Int32) (p2 : Int32) (p3 : Int32) (p4 : Int32) (p5 : Int32) (p6 : Int32) (h0 : Heap) (n0 : Nat) (Z0 : n0 ≤ h0.size) (hc44 : (own_irem (p6 &&& (2147483647 : Int32)) (4 : Int32)) = (0 : Int32)) (hba230 : B53 ((1 : Int64) + ((9 : Int64) * ((p5 >>> ((8 : Int32) &&& 31)).toInt64)))) (hbb230 : B53 ((1 : Int64) + ((9 : Int64) * ((p5 >>> ((8 : Int32) &&& 31)).toInt64)))) :
    MetFree l x (head1 (Jvm.Cond.code x code maxLocals ret :: ws) room_1) (fun a U => a = #[(.int p1), (.int p2), (.int p3), (.int p4), (.int p5), (.int p6)] ∧ Z.Warmed39 U.vm ∧ U.heap = h0) (fun _ _ _ _ _ => True) (fun _ U o U' => ∃ v L, o = .returned v ∧ Q0 Z p1 p2 p3 p4 p5 p6 h0 n0 v U'.heap L ∧ FrameEnd U o U' L room_1.cells room_1.slots) := by
  refine MetFree.of_bodySF (plainFor_of_name pn_0) hisR ?_
  intro p e s m args below meth c s₁ Bd hml0 hP hK
  obtain ⟨rfl, hZ, hh⟩ := hP
  have hx := Bd.exec
  have hby := Bd.bytes
  have hml : c.maxLocals = 20 := hml0
  have hown : s.vm.findClass "com/example/paretoloom/paretoloom/problems/ZdtLinearGPinLaw" = some m.cls := findClass_of_methodNamed Bd.named
  have hnm := (name_of_methodNamed Bd.named Bd.method).1
  have X0 : Stand p l e room_1 s m #[(.int p1), (.int p2), (.int p3), (.int p4), (.int p5), (.int p6)] below meth c s₁ [] 0 0 := Stand.of_body Bd
  have e0 : s₁.heap = h0 := by rw [← hh, Bd.state]; rfl
  have N0 := Fr.nil n0
  have pre0 : ∀ t, Steps p.tables e below (s₁.setTop (mkF m 0 #[.val (.int p1), .val (.int p2), .val (.int p3), .val (.int p4), .val (.int p5), .val (.int p6), .unset, .unset, .unset, .unset, .unset, .unset, .unset, .unset, .unset, .unset, .unset, .unset, .unset, .unset] [])) t → Steps p.tables e below (s₁.setTop (entryFrame m #[(.int p1), (.int p2), (.int p3), (.int p4), (.int p5), (.int p6)] maxLocals)) t := fun t k => castTop (ef_0 m p1 p2 p3 p4 p5 p6) k
  -- 3. LAWS
  obtain ⟨T7, h7, k7, X7, e7, E7, A7, st7⟩ := newP X0 hx hZ (hw _ (List.mem_of_getElem? (i := 1) rfl)) e0 (g := (mkF m 48 #[.val (.int p1), .val (.int p2), .val (.int p3), .val (.int p4), .val (.int p5), .val (.int p6), .val (.int (own_irem (p6 &&& (2147483647 : Int32)) (4 : Int32))), .val (.long ((p5 >>> ((8 : Int32) &&& 31)).toInt64)), .second, .val (.long ((p2 >>> ((8 : Int32) &&& 31)).toInt64)), .second, .val (.long ((p3 >>> ((8 : Int32) &&& 31)).toInt64)), .second, .val (.long ((p4 >>> ((8 : Int32) &&& 31)).toInt64)), .second, .val (.double (FP.l2d (p1.toInt64))), .second, .unset, .unset, .unset] [(.int (2 : Int32))])) rfl (hb hby at_48) rfl (by decide) (cap := 2) (by decide) (by decide) (by decide) (by decide)
  obtain ⟨b7, g7⟩ : ∃ z, z = h0.size := ⟨_, rfl⟩      -- the fresh array's address
  rw [← g7] at A7 st7
  have V_b7 : Arv Z h7 b7 k7 .double (2 : Int32) [(.double (FP.l2d 0)), (.double (FP.l2d 0))] (.double (FP.l2d 0)) := (Arv.newD A7 (by decide)).pad (pad_rep [] (.double (FP.l2d 0)) 2)
  have g_b7 : n0 ≤ b7 := Nat.le_trans Z0 (Nat.le_of_eq g7.symm)
  have sz_b7 : h0.size ≤ b7 := (Nat.le_trans (Keep.refl h0 []).1 (Nat.le_of_eq g7.symm))
  have K7 : Keep h0 h7 [] := (Keep.refl h0 []).ext E7
  obtain ⟨cl_b7_57, Ar_b7, q_b7, S_b7, N_b7, H_b7, G_b7⟩ := V_b7      -- open the array's fact as it stands now (its cell, kind, length, elements)
  have hin57 : ¬ ((0 : Int32) < 0 ∨ cl_b7_57.slots.size ≤ ((0 : Int32)).toNatClampNeg) := inb_of S_b7 ⟨by decide, by decide⟩
  obtain ⟨T8, h8, X8, e8, W8, st8⟩ := stD X7 hx hZ e7 Ar_b7 (j := (0 : Int32)) hin57 (g := (mkF m 57 #[.val (.int p1), .val (.int p2), .val (.int p3), .val (.int p4), .val (.int p5), .val (.int p6), .val (.int (own_irem (p6 &&& (2147483647 : Int32)) (4 : Int32))), .val (.long ((p5 >>> ((8 : Int32) &&& 31)).toInt64)), .second, .val (.long ((p2 >>> ((8 : Int32) &&& 31)).toInt64)), .second, .val (.long ((p3 >>> ((8 : Int32) &&& 31)).toInt64)), .second, .val (.long ((p4 >>> ((8 : Int32) &&& 31)).toInt64)), .second, .val (.double (FP.l2d (p1.toInt64))), .second, .val (.ref b7), .unset, .unset] [(.double (FP.l2d (p1.toInt64))), (.int (0 : Int32)), (.ref b7)])) rfl rfl (hb hby at_57)
  have V_b7_8 := Arv.set Ar_b7 q_b7 S_b7 N_b7 H_b7 G_b7 rfl W8 0 rfl (Nat.le_of_ble_eq_true rfl)      -- the array as it stands now (the place must lie among its first values: Arv.pad with pad_rep lengthens them)
  have K8 : Keep h0 h8 [] := K7.wr W8 (Or.inr sz_b7)
  have N8 := Fr.snoc X8 N0 g_b7
  obtain ⟨cl_b7_64, Ar_b7, q_b7, S_b7, N_b7, H_b7, G_b7⟩ := V_b7_8      -- open the array's fact as it stands now (its cell, kind, length, elements)
  have hin64 : ¬ ((1 : Int32) < 0 ∨ cl_b7_64.slots.size ≤ ((1 : Int32)).toNatClampNeg) := inb_of S_b7 ⟨by decide, by decide⟩
  obtain ⟨T9, h9, X9, e9, W9, st9⟩ := stD X8 hx hZ e8 Ar_b7 (j := (1 : Int32)) hin64 (g := (mkF m 64 #[.val (.int p1), .val (.int p2), .val (.int p3), .val (.int p4), .val (.int p5), .val (.int p6), .val (.int (own_irem (p6 &&& (2147483647 : Int32)) (4 : Int32))), .val (.long ((p5 >>> ((8 : Int32) &&& 31)).toInt64)), .second, .val (.long ((p2 >>> ((8 : Int32) &&& 31)).toInt64)), .second, .val (.long ((p3 >>> ((8 : Int32) &&& 31)).toInt64)), .second, .val (.long ((p4 >>> ((8 : Int32) &&& 31)).toInt64)), .second, .val (.double (FP.l2d (p1.toInt64))), .second, .val (.ref b7), .unset, .unset] [(.double (FP.l2d ((p5 >>> ((8 : Int32) &&& 31)).toInt64))), (.int (1 : Int32)), (.ref b7)])) rfl rfl (hb hby at_64)
  have V_b7_9 := Arv.set Ar_b7 q_b7 S_b7 N_b7 H_b7 G_b7 rfl W9 1 rfl (Nat.le_of_ble_eq_true rfl)      -- the array as it stands now (the place must lie among its first values: Arv.pad with pad_rep lengthens them)
  have K9 : Keep h0 h9 [] := K8.wr W9 (Or.inr sz_b7)
  have N9 := Fr.snoc X9 N8 g_b7
  -- pc 225: com/example/paretoloom/paretoloom/problems/Zdt.linearG by its contract rm1
  have Vq : Arv Z h9 b7 k7 .double (2 : Int32) [(.double (FP.l2d (p1.toInt64))), (.double (FP.l2d ((p5 >>> ((8 : Int32) &&& 31)).toInt64)))] (.double (FP.l2d 0)) := V_b7_9
  obtain ⟨_, _, ⟨T10, L10, k10, n10⟩, -, X10, ⟨Lc10, hQ10, l10, y10, z10⟩, st10⟩ := Jvm.LawKit.callS X9 hx (y := (⟨"com/example/paretoloom/paretoloom/problems/Zdt", "linearG", "([D)D"⟩ : MethodName)) hown (mvT hZ (hw _ (List.mem_of_getElem? (i := 4) rfl))) (mvT hZ (hw _ (List.mem_of_getElem? (i := 5) rfl))) (mvT hZ (hw _ (List.mem_of_getElem? (i := 6) rfl))) (mvT hZ (hw _ (List.mem_of_getElem? (i := 7) rfl))) (by decide) (backOf (W := 0) (rm1_n2 l Z a0 hw [] b7 _ _ (p1.toInt64) ((p5 >>> ((8 : Int32) &&& 31)).toInt64) ((p5 >>> ((8 : Int32) &&& 31)).toInt64) h9 n0 (Nat.le_trans Z0 K9.1) Vq (own_sh p5) (own_sh p5) (by rw [Int.one_mul])) hZ (hw _ (List.mem_of_getElem? (i := 7) rfl)) (hw _ (List.mem_of_getElem? (i := 6) rfl)) (by decide) (by decide)) (g := (mkF m 225 #[.val (.int p1), .val (.int p2), .val (.int p3), .val (.int p4), .val (.int p5), .val (.int p6), .val (.int (own_irem (p6 &&& (2147483647 : Int32)) (4 : Int32))), .val (.long ((p5 >>> ((8 : Int32) &&& 31)).toInt64)), .second, .val (.long ((p2 >>> ((8 : Int32) &&& 31)).toInt64)), .second, .val (.long ((p3 >>> ((8 : Int32) &&& 31)).toInt64)), .second, .val (.long ((p4 >>> ((8 : Int32) &&& 31)).toInt64)), .second, .val (.double (FP.l2d (p1.toInt64))), .second, .val (.ref b7), .val (.double (FP.l2d ((1 : Int64) + ((9 : Int64) * ((p5 >>> ((8 : Int32) &&& 31)).toInt64))))), .second] [(.ref b7)])) rfl (by rw [hml]; rfl) (argsL := [(.ref b7)]) (rest := []) (lenOf pd_0_0 rfl) rfl (by show 2 * 0 + _ ≤ _; exact Nat.le_of_eq rfl) (hb hby at_225) (fun _ _ => ⟨rfl, e9, (by decide : 1 + 0 ≤ _), (by decide : 2 + 0 ≤ _)⟩)
  dsimp only [Pt.U, Pt.locs, Pt.cells, Pt.slots] at X10 l10 y10 z10 st10 hQ10
  subst l10 y10 z10
  obtain ⟨rfl, N10q, eQq⟩ := hQ10      -- what it returned, that it wrote nothing old, and the rest of your Q1
  have N10 := Fr.app N9 N10q
  obtain ⟨fs, hr, hrun, hended, hW, hsame⟩ := X10.leave (v := some (.int (1 : Int32))) (fun h => by rw [Bd.returns] at h; cases h)
  refine ⟨_, _, pre0 _ ?_, hrun, hended, _, _, rfl, ?_, ⟨_, rfl⟩, hW, hsame.mono (by decide) (by decide)⟩
  -- 4. STEPS
  · show Steps p.tables e below (s₁.setTop (mkF m 0 #[.val (.int p1), .val (.int p2), .val (.int p3), .val (.int p4), .val (.int p5), .val (.int p6), .unset, .unset, .unset, .unset, .unset, .unset, .unset, .unset, .unset, .unset, .unset, .unset, .unset, .unset] [])) _
    refine XS.iload X0.here hx rfl (hb hby at_0) rfl ?_
    show Steps p.tables e below (s₁.setTop (mkF m 2 #[.val (.int p1), .val (.int p2), .val (.int p3), .val (.int p4), .val (.int p5), .val (.int p6), .unset, .unset, .unset, .unset, .unset, .unset, .unset, .unset, .unset, .unset, .unset, .unset, .unset, .unset] [(.int p6)])) _
    refine X0.ldcInt hx hown (mvT hZ (hw _ (List.mem_of_getElem? (i := 0) rfl))) (g := (mkF m 2 #[.val (.int p1), .val (.int p2), .val (.int p3), .val (.int p4), .val (.int p5), .val (.int p6), .unset, .unset, .unset, .unset, .unset, .unset, .unset, .unset, .unset, .unset, .unset, .unset, .unset, .unset] [(.int p6)])) rfl (hb hby at_2) _ ?_
    show Steps p.tables e below (s₁.setTop (mkF m 4 #[.val (.int p1), .val (.int p2), .val (.int p3), .val (.int p4), .val (.int p5), .val (.int p6), .unset, .unset, .unset, .unset, .unset, .unset, .unset, .unset, .unset, .unset, .unset, .unset, .unset, .unset] [(.int (2147483647 : Int32)), (.int p6)])) _
    refine XS.iand X0.here hx rfl (hb hby at_4) rfl ?_
    show Steps p.tables e below (s₁.setTop (mkF m 5 #[.val (.int p1), .val (.int p2), .val (.int p3), .val (.int p4), .val (.int p5), .val (.int p6), .unset, .unset, .unset, .unset, .unset, .unset, .unset, .unset, .unset, .unset, .unset, .unset, .unset, .unset] [(.int (p6 &&& (2147483647 : Int32)))])) _
    refine XS.iconst X0.here hx rfl (hb hby at_5) ?_
    show Steps p.tables e below (s₁.setTop (mkF m 6 #[.val (.int p1), .val (.int p2), .val (.int p3), .val (.int p4), .val (.int p5), .val (.int p6), .unset, .unset, .unset, .unset, .unset, .unset, .unset, .unset, .unset, .unset, .unset, .unset, .unset, .unset] [(.int (4 : Int32)), (.int (p6 &&& (2147483647 : Int32)))])) _
    refine iremM X0 hx rfl (hb hby at_6) rfl (by decide) ?_
    show Steps p.tables e below (s₁.setTop (mkF m 7 #[.val (.int p1), .val (.int p2), .val (.int p3), .val (.int p4), .val (.int p5), .val (.int p6), .unset, .unset, .unset, .unset, .unset, .unset, .unset, .unset, .unset, .unset, .unset, .unset, .unset, .unset] [(.int (own_irem (p6 &&& (2147483647 : Int32)) (4 : Int32)))])) _
    refine XS.istore X0.here hx rfl (hb hby at_7) rfl (l' := #[.val (.int p1), .val (.int p2), .val (.int p3), .val (.int p4), .val (.int p5), .val (.int p6), .val (.int (own_irem (p6 &&& (2147483647 : Int32)) (4 : Int32))), .unset, .unset, .unset, .unset, .unset, .unset, .unset, .unset, .unset, .unset, .unset, .unset, .unset]) rfl ?_
    show Steps p.tables e below (s₁.setTop (mkF m 9 #[.val (.int p1), .val (.int p2), .val (.int p3), .val (.int p4), .val (.int p5), .val (.int p6), .val (.int (own_irem (p6 &&& (2147483647 : Int32)) (4 : Int32))), .unset, .unset, .unset, .unset, .unset, .unset, .unset, .unset, .unset, .unset, .unset, .unset, .unset] [])) _
    refine XS.iload X0.here hx rfl (hb hby at_9) rfl ?_
    show Steps p.tables e below (s₁.setTop (mkF m 11 #[.val (.int p1), .val (.int p2), .val (.int p3), .val (.int p4), .val (.int p5), .val (.int p6), .val (.int (own_irem (p6 &&& (2147483647 : Int32)) (4 : Int32))), .unset, .unset, .unset, .unset, .unset, .unset, .unset, .unset, .unset, .unset, .unset, .unset, .unset] [(.int p5)])) _
    refine XS.bipush X0.here hx rfl (hb hby at_11) ?_
    show Steps p.tables e below (s₁.setTop (mkF m 13 #[.val (.int p1), .val (.int p2), .val (.int p3), .val (.int p4), .val (.int p5), .val (.int p6), .val (.int (own_irem (p6 &&& (2147483647 : Int32)) (4 : Int32))), .unset, .unset, .unset, .unset, .unset, .unset, .unset, .unset, .unset, .unset, .unset, .unset, .unset] [(.int (8 : Int32)), (.int p5)])) _
    refine XS.ishr X0.here hx rfl (hb hby at_13) rfl ?_
    show Steps p.tables e below (s₁.setTop (mkF m 14 #[.val (.int p1), .val (.int p2), .val (.int p3), .val (.int p4), .val (.int p5), .val (.int p6), .val (.int (own_irem (p6 &&& (2147483647 : Int32)) (4 : Int32))), .unset, .unset, .unset, .unset, .unset, .unset, .unset, .unset, .unset, .unset, .unset, .unset, .unset] [(.int (p5 >>> ((8 : Int32) &&& 31)))])) _
    refine XS.i2l X0.here hx rfl (hb hby at_14) rfl ?_
    show Steps p.tables e below (s₁.setTop (mkF m 15 #[.val (.int p1), .val (.int p2), .val (.int p3), .val (.int p4), .val (.int p5), .val (.int p6), .val (.int (own_irem (p6 &&& (2147483647 : Int32)) (4 : Int32))), .unset, .unset, .unset, .unset, .unset, .unset, .unset, .unset, .unset, .unset, .unset, .unset, .unset] [(.long ((p5 >>> ((8 : Int32) &&& 31)).toInt64))])) _
    refine XS.lstore X0.here hx rfl (hb hby at_15) rfl (l' := #[.val (.int p1), .val (.int p2), .val (.int p3), .val (.int p4), .val (.int p5), .val (.int p6), .val (.int (own_irem (p6 &&& (2147483647 : Int32)) (4 : Int32))), .val (.long ((p5 >>> ((8 : Int32) &&& 31)).toInt64)), .second, .unset, .unset, .unset, .unset, .unset, .unset, .unset, .unset, .unset, .unset, .unset]) rfl ?_
    show Steps p.tables e below (s₁.setTop (mkF m 17 #[.val (.int p1), .val (.int p2), .val (.int p3), .val (.int p4), .val (.int p5), .val (.int p6), .val (.int (own_irem (p6 &&& (2147483647 : Int32)) (4 : Int32))), .val (.long ((p5 >>> ((8 : Int32) &&& 31)).toInt64)), .second, .unset, .unset, .unset, .unset, .unset, .unset, .unset, .unset, .unset, .unset, .unset] [])) _
    refine XS.iloadN X0.here hx rfl (hb hby at_17) rfl ?_
    show Steps p.tables e below (s₁.setTop (mkF m 18 #[.val (.int p1), .val (.int p2), .val (.int p3), .val (.int p4), .val (.int p5), .val (.int p6), .val (.int (own_irem (p6 &&& (2147483647 : Int32)) (4 : Int32))), .val (.long ((p5 >>> ((8 : Int32) &&& 31)).toInt64)), .second, .unset, .unset, .unset, .unset, .unset, .unset, .unset, .unset, .unset, .unset, .unset] [(.int p2)])) _
    refine XS.bipush X0.here hx rfl (hb hby at_18) ?_
    show Steps p.tables e below (s₁.setTop (mkF m 20 #[.val (.int p1), .val (.int p2), .val (.int p3), .val (.int p4), .val (.int p5), .val (.int p6), .val (.int (own_irem (p6 &&& (2147483647 : Int32)) (4 : Int32))), .val (.long ((p5 >>> ((8 : Int32) &&& 31)).toInt64)), .second, .unset, .unset, .unset, .unset, .unset, .unset, .unset, .unset, .unset, .unset, .unset] [(.int (8 : Int32)), (.int p2)])) _
    refine XS.ishr X0.here hx rfl (hb hby at_20) rfl ?_
    show Steps p.tables e below (s₁.setTop (mkF m 21 #[.val (.int p1), .val (.int p2), .val (.int p3), .val (.int p4), .val (.int p5), .val (.int p6), .val (.int (own_irem (p6 &&& (2147483647 : Int32)) (4 : Int32))), .val (.long ((p5 >>> ((8 : Int32) &&& 31)).toInt64)), .second, .unset, .unset, .unset, .unset, .unset, .unset, .unset, .unset, .unset, .unset, .unset] [(.int (p2 >>> ((8 : Int32) &&& 31)))])) _
    refine XS.i2l X0.here hx rfl (hb hby at_21) rfl ?_
    show Steps p.tables e below (s₁.setTop (mkF m 22 #[.val (.int p1), .val (.int p2), .val (.int p3), .val (.int p4), .val (.int p5), .val (.int p6), .val (.int (own_irem (p6 &&& (2147483647 : Int32)) (4 : Int32))), .val (.long ((p5 >>> ((8 : Int32) &&& 31)).toInt64)), .second, .unset, .unset, .unset, .unset, .unset, .unset, .unset, .unset, .unset, .unset, .unset] [(.long ((p2 >>> ((8 : Int32) &&& 31)).toInt64))])) _
    refine XS.lstore X0.here hx rfl (hb hby at_22) rfl (l' := #[.val (.int p1), .val (.int p2), .val (.int p3), .val (.int p4), .val (.int p5), .val (.int p6), .val (.int (own_irem (p6 &&& (2147483647 : Int32)) (4 : Int32))), .val (.long ((p5 >>> ((8 : Int32) &&& 31)).toInt64)), .second, .val (.long ((p2 >>> ((8 : Int32) &&& 31)).toInt64)), .second, .unset, .unset, .unset, .unset, .unset, .unset, .unset, .unset, .unset]) rfl ?_
    show Steps p.tables e below (s₁.setTop (mkF m 24 #[.val (.int p1), .val (.int p2), .val (.int p3), .val (.int p4), .val (.int p5), .val (.int p6), .val (.int (own_irem (p6 &&& (2147483647 : Int32)) (4 : Int32))), .val (.long ((p5 >>> ((8 : Int32) &&& 31)).toInt64)), .second, .val (.long ((p2 >>> ((8 : Int32) &&& 31)).toInt64)), .second, .unset, .unset, .unset, .unset, .unset, .unset, .unset, .unset, .unset] [])) _
    refine XS.iloadN X0.here hx rfl (hb hby at_24) rfl ?_
    show Steps p.tables e below (s₁.setTop (mkF m 25 #[.val (.int p1), .val (.int p2), .val (.int p3), .val (.int p4), .val (.int p5), .val (.int p6), .val (.int (own_irem (p6 &&& (2147483647 : Int32)) (4 : Int32))), .val (.long ((p5 >>> ((8 : Int32) &&& 31)).toInt64)), .second, .val (.long ((p2 >>> ((8 : Int32) &&& 31)).toInt64)), .second, .unset, .unset, .unset, .unset, .unset, .unset, .unset, .unset, .unset] [(.int p3)])) _
    refine XS.bipush X0.here hx rfl (hb hby at_25) ?_
    show Steps p.tables e below (s₁.setTop (mkF m 27 #[.val (.int p1), .val (.int p2), .val (.int p3), .val (.int p4), .val (.int p5), .val (.int p6), .val (.int (own_irem (p6 &&& (2147483647 : Int32)) (4 : Int32))), .val (.long ((p5 >>> ((8 : Int32) &&& 31)).toInt64)), .second, .val (.long ((p2 >>> ((8 : Int32) &&& 31)).toInt64)), .second, .unset, .unset, .unset, .unset, .unset, .unset, .unset, .unset, .unset] [(.int (8 : Int32)), (.int p3)])) _
    refine XS.ishr X0.here hx rfl (hb hby at_27) rfl ?_
    show Steps p.tables e below (s₁.setTop (mkF m 28 #[.val (.int p1), .val (.int p2), .val (.int p3), .val (.int p4), .val (.int p5), .val (.int p6), .val (.int (own_irem (p6 &&& (2147483647 : Int32)) (4 : Int32))), .val (.long ((p5 >>> ((8 : Int32) &&& 31)).toInt64)), .second, .val (.long ((p2 >>> ((8 : Int32) &&& 31)).toInt64)), .second, .unset, .unset, .unset, .unset, .unset, .unset, .unset, .unset, .unset] [(.int (p3 >>> ((8 : Int32) &&& 31)))])) _
    refine XS.i2l X0.here hx rfl (hb hby at_28) rfl ?_
    show Steps p.tables e below (s₁.setTop (mkF m 29 #[.val (.int p1), .val (.int p2), .val (.int p3), .val (.int p4), .val (.int p5), .val (.int p6), .val (.int (own_irem (p6 &&& (2147483647 : Int32)) (4 : Int32))), .val (.long ((p5 >>> ((8 : Int32) &&& 31)).toInt64)), .second, .val (.long ((p2 >>> ((8 : Int32) &&& 31)).toInt64)), .second, .unset, .unset, .unset, .unset, .unset, .unset, .unset, .unset, .unset] [(.long ((p3 >>> ((8 : Int32) &&& 31)).toInt64))])) _
    refine XS.lstore X0.here hx rfl (hb hby at_29) rfl (l' := #[.val (.int p1), .val (.int p2), .val (.int p3), .val (.int p4), .val (.int p5), .val (.int p6), .val (.int (own_irem (p6 &&& (2147483647 : Int32)) (4 : Int32))), .val (.long ((p5 >>> ((8 : Int32) &&& 31)).toInt64)), .second, .val (.long ((p2 >>> ((8 : Int32) &&& 31)).toInt64)), .second, .val (.long ((p3 >>> ((8 : Int32) &&& 31)).toInt64)), .second, .unset, .unset, .unset, .unset, .unset, .unset, .unset]) rfl ?_
    show Steps p.tables e below (s₁.setTop (mkF m 31 #[.val (.int p1), .val (.int p2), .val (.int p3), .val (.int p4), .val (.int p5), .val (.int p6), .val (.int (own_irem (p6 &&& (2147483647 : Int32)) (4 : Int32))), .val (.long ((p5 >>> ((8 : Int32) &&& 31)).toInt64)), .second, .val (.long ((p2 >>> ((8 : Int32) &&& 31)).toInt64)), .second, .val (.long ((p3 >>> ((8 : Int32) &&& 31)).toInt64)), .second, .unset, .unset, .unset, .unset, .unset, .unset, .unset] [])) _
    refine XS.iloadN X0.here hx rfl (hb hby at_31) rfl ?_
    show Steps p.tables e below (s₁.setTop (mkF m 32 #[.val (.int p1), .val (.int p2), .val (.int p3), .val (.int p4), .val (.int p5), .val (.int p6), .val (.int (own_irem (p6 &&& (2147483647 : Int32)) (4 : Int32))), .val (.long ((p5 >>> ((8 : Int32) &&& 31)).toInt64)), .second, .val (.long ((p2 >>> ((8 : Int32) &&& 31)).toInt64)), .second, .val (.long ((p3 >>> ((8 : Int32) &&& 31)).toInt64)), .second, .unset, .unset, .unset, .unset, .unset, .unset, .unset] [(.int p4)])) _
    refine XS.bipush X0.here hx rfl (hb hby at_32) ?_
    show Steps p.tables e below (s₁.setTop (mkF m 34 #[.val (.int p1), .val (.int p2), .val (.int p3), .val (.int p4), .val (.int p5), .val (.int p6), .val (.int (own_irem (p6 &&& (2147483647 : Int32)) (4 : Int32))), .val (.long ((p5 >>> ((8 : Int32) &&& 31)).toInt64)), .second, .val (.long ((p2 >>> ((8 : Int32) &&& 31)).toInt64)), .second, .val (.long ((p3 >>> ((8 : Int32) &&& 31)).toInt64)), .second, .unset, .unset, .unset, .unset, .unset, .unset, .unset] [(.int (8 : Int32)), (.int p4)])) _
    refine XS.ishr X0.here hx rfl (hb hby at_34) rfl ?_
    show Steps p.tables e below (s₁.setTop (mkF m 35 #[.val (.int p1), .val (.int p2), .val (.int p3), .val (.int p4), .val (.int p5), .val (.int p6), .val (.int (own_irem (p6 &&& (2147483647 : Int32)) (4 : Int32))), .val (.long ((p5 >>> ((8 : Int32) &&& 31)).toInt64)), .second, .val (.long ((p2 >>> ((8 : Int32) &&& 31)).toInt64)), .second, .val (.long ((p3 >>> ((8 : Int32) &&& 31)).toInt64)), .second, .unset, .unset, .unset, .unset, .unset, .unset, .unset] [(.int (p4 >>> ((8 : Int32) &&& 31)))])) _
    refine XS.i2l X0.here hx rfl (hb hby at_35) rfl ?_
    show Steps p.tables e below (s₁.setTop (mkF m 36 #[.val (.int p1), .val (.int p2), .val (.int p3), .val (.int p4), .val (.int p5), .val (.int p6), .val (.int (own_irem (p6 &&& (2147483647 : Int32)) (4 : Int32))), .val (.long ((p5 >>> ((8 : Int32) &&& 31)).toInt64)), .second, .val (.long ((p2 >>> ((8 : Int32) &&& 31)).toInt64)), .second, .val (.long ((p3 >>> ((8 : Int32) &&& 31)).toInt64)), .second, .unset, .unset, .unset, .unset, .unset, .unset, .unset] [(.long ((p4 >>> ((8 : Int32) &&& 31)).toInt64))])) _
    refine XS.lstore X0.here hx rfl (hb hby at_36) rfl (l' := #[.val (.int p1), .val (.int p2), .val (.int p3), .val (.int p4), .val (.int p5), .val (.int p6), .val (.int (own_irem (p6 &&& (2147483647 : Int32)) (4 : Int32))), .val (.long ((p5 >>> ((8 : Int32) &&& 31)).toInt64)), .second, .val (.long ((p2 >>> ((8 : Int32) &&& 31)).toInt64)), .second, .val (.long ((p3 >>> ((8 : Int32) &&& 31)).toInt64)), .second, .val (.long ((p4 >>> ((8 : Int32) &&& 31)).toInt64)), .second, .unset, .unset, .unset, .unset, .unset]) rfl ?_
    show Steps p.tables e below (s₁.setTop (mkF m 38 #[.val (.int p1), .val (.int p2), .val (.int p3), .val (.int p4), .val (.int p5), .val (.int p6), .val (.int (own_irem (p6 &&& (2147483647 : Int32)) (4 : Int32))), .val (.long ((p5 >>> ((8 : Int32) &&& 31)).toInt64)), .second, .val (.long ((p2 >>> ((8 : Int32) &&& 31)).toInt64)), .second, .val (.long ((p3 >>> ((8 : Int32) &&& 31)).toInt64)), .second, .val (.long ((p4 >>> ((8 : Int32) &&& 31)).toInt64)), .second, .unset, .unset, .unset, .unset, .unset] [])) _
    refine XS.iloadN X0.here hx rfl (hb hby at_38) rfl ?_
    show Steps p.tables e below (s₁.setTop (mkF m 39 #[.val (.int p1), .val (.int p2), .val (.int p3), .val (.int p4), .val (.int p5), .val (.int p6), .val (.int (own_irem (p6 &&& (2147483647 : Int32)) (4 : Int32))), .val (.long ((p5 >>> ((8 : Int32) &&& 31)).toInt64)), .second, .val (.long ((p2 >>> ((8 : Int32) &&& 31)).toInt64)), .second, .val (.long ((p3 >>> ((8 : Int32) &&& 31)).toInt64)), .second, .val (.long ((p4 >>> ((8 : Int32) &&& 31)).toInt64)), .second, .unset, .unset, .unset, .unset, .unset] [(.int p1)])) _
    refine XS.i2dS X0.here hx rfl (hb hby at_39) rfl (i2d_w _) ?_
    show Steps p.tables e below (s₁.setTop (mkF m 40 #[.val (.int p1), .val (.int p2), .val (.int p3), .val (.int p4), .val (.int p5), .val (.int p6), .val (.int (own_irem (p6 &&& (2147483647 : Int32)) (4 : Int32))), .val (.long ((p5 >>> ((8 : Int32) &&& 31)).toInt64)), .second, .val (.long ((p2 >>> ((8 : Int32) &&& 31)).toInt64)), .second, .val (.long ((p3 >>> ((8 : Int32) &&& 31)).toInt64)), .second, .val (.long ((p4 >>> ((8 : Int32) &&& 31)).toInt64)), .second, .unset, .unset, .unset, .unset, .unset] [(.double (FP.l2d (p1.toInt64)))])) _
    refine XS.dstore X0.here hx rfl (hb hby at_40) rfl (l' := #[.val (.int p1), .val (.int p2), .val (.int p3), .val (.int p4), .val (.int p5), .val (.int p6), .val (.int (own_irem (p6 &&& (2147483647 : Int32)) (4 : Int32))), .val (.long ((p5 >>> ((8 : Int32) &&& 31)).toInt64)), .second, .val (.long ((p2 >>> ((8 : Int32) &&& 31)).toInt64)), .second, .val (.long ((p3 >>> ((8 : Int32) &&& 31)).toInt64)), .second, .val (.long ((p4 >>> ((8 : Int32) &&& 31)).toInt64)), .second, .val (.double (FP.l2d (p1.toInt64))), .second, .unset, .unset, .unset]) rfl ?_
    show Steps p.tables e below (s₁.setTop (mkF m 42 #[.val (.int p1), .val (.int p2), .val (.int p3), .val (.int p4), .val (.int p5), .val (.int p6), .val (.int (own_irem (p6 &&& (2147483647 : Int32)) (4 : Int32))), .val (.long ((p5 >>> ((8 : Int32) &&& 31)).toInt64)), .second, .val (.long ((p2 >>> ((8 : Int32) &&& 31)).toInt64)), .second, .val (.long ((p3 >>> ((8 : Int32) &&& 31)).toInt64)), .second, .val (.long ((p4 >>> ((8 : Int32) &&& 31)).toInt64)), .second, .val (.double (FP.l2d (p1.toInt64))), .second, .unset, .unset, .unset] [])) _
    refine XS.iload X0.here hx rfl (hb hby at_42) rfl ?_
    show Steps p.tables e below (s₁.setTop (mkF m 44 #[.val (.int p1), .val (.int p2), .val (.int p3), .val (.int p4), .val (.int p5), .val (.int p6), .val (.int (own_irem (p6 &&& (2147483647 : Int32)) (4 : Int32))), .val (.long ((p5 >>> ((8 : Int32) &&& 31)).toInt64)), .second, .val (.long ((p2 >>> ((8 : Int32) &&& 31)).toInt64)), .second, .val (.long ((p3 >>> ((8 : Int32) &&& 31)).toInt64)), .second, .val (.long ((p4 >>> ((8 : Int32) &&& 31)).toInt64)), .second, .val (.double (FP.l2d (p1.toInt64))), .second, .unset, .unset, .unset] [(.int (own_irem (p6 &&& (2147483647 : Int32)) (4 : Int32)))])) _
    refine XS.ifNo X0.here hx rfl (hb hby at_44) rfl ((if0 _ _).trans (teq hc44).2) ?_
    show Steps p.tables e below (s₁.setTop (mkF m 47 #[.val (.int p1), .val (.int p2), .val (.int p3), .val (.int p4), .val (.int p5), .val (.int p6), .val (.int (own_irem (p6 &&& (2147483647 : Int32)) (4 : Int32))), .val (.long ((p5 >>> ((8 : Int32) &&& 31)).toInt64)), .second, .val (.long ((p2 >>> ((8 : Int32) &&& 31)).toInt64)), .second, .val (.long ((p3 >>> ((8 : Int32) &&& 31)).toInt64)), .second, .val (.long ((p4 >>> ((8 : Int32) &&& 31)).toInt64)), .second, .val (.double (FP.l2d (p1.toInt64))), .second, .unset, .unset, .unset] [])) _
    refine XS.iconst X0.here hx rfl (hb hby at_47) ?_
    show Steps p.tables e below (s₁.setTop (mkF m 48 #[.val (.int p1), .val (.int p2), .val (.int p3), .val (.int p4), .val (.int p5), .val (.int p6), .val (.int (own_irem (p6 &&& (2147483647 : Int32)) (4 : Int32))), .val (.long ((p5 >>> ((8 : Int32) &&& 31)).toInt64)), .second, .val (.long ((p2 >>> ((8 : Int32) &&& 31)).toInt64)), .second, .val (.long ((p3 >>> ((8 : Int32) &&& 31)).toInt64)), .second, .val (.long ((p4 >>> ((8 : Int32) &&& 31)).toInt64)), .second, .val (.double (FP.l2d (p1.toInt64))), .second, .unset, .unset, .unset] [(.int (2 : Int32))])) _
    refine st7 _ ?_
    show Steps p.tables e below (T7.setTop (mkF m 50 #[.val (.int p1), .val (.int p2), .val (.int p3), .val (.int p4), .val (.int p5), .val (.int p6), .val (.int (own_irem (p6 &&& (2147483647 : Int32)) (4 : Int32))), .val (.long ((p5 >>> ((8 : Int32) &&& 31)).toInt64)), .second, .val (.long ((p2 >>> ((8 : Int32) &&& 31)).toInt64)), .second, .val (.long ((p3 >>> ((8 : Int32) &&& 31)).toInt64)), .second, .val (.long ((p4 >>> ((8 : Int32) &&& 31)).toInt64)), .second, .val (.double (FP.l2d (p1.toInt64))), .second, .unset, .unset, .unset] [(.ref b7)])) _
    refine XS.astore X7.here hx rfl (hb hby at_50) rfl rfl (l' := #[.val (.int p1), .val (.int p2), .val (.int p3), .val (.int p4), .val (.int p5), .val (.int p6), .val (.int (own_irem (p6 &&& (2147483647 : Int32)) (4 : Int32))), .val (.long ((p5 >>> ((8 : Int32) &&& 31)).toInt64)), .second, .val (.long ((p2 >>> ((8 : Int32) &&& 31)).toInt64)), .second, .val (.long ((p3 >>> ((8 : Int32) &&& 31)).toInt64)), .second, .val (.long ((p4 >>> ((8 : Int32) &&& 31)).toInt64)), .second, .val (.double (FP.l2d (p1.toInt64))), .second, .val (.ref b7), .unset, .unset]) rfl ?_
    show Steps p.tables e below (T7.setTop (mkF m 52 #[.val (.int p1), .val (.int p2), .val (.int p3), .val (.int p4), .val (.int p5), .val (.int p6), .val (.int (own_irem (p6 &&& (2147483647 : Int32)) (4 : Int32))), .val (.long ((p5 >>> ((8 : Int32) &&& 31)).toInt64)), .second, .val (.long ((p2 >>> ((8 : Int32) &&& 31)).toInt64)), .second, .val (.long ((p3 >>> ((8 : Int32) &&& 31)).toInt64)), .second, .val (.long ((p4 >>> ((8 : Int32) &&& 31)).toInt64)), .second, .val (.double (FP.l2d (p1.toInt64))), .second, .val (.ref b7), .unset, .unset] [])) _
    refine XS.aload X7.here hx rfl (hb hby at_52) rfl rfl ?_
    show Steps p.tables e below (T7.setTop (mkF m 54 #[.val (.int p1), .val (.int p2), .val (.int p3), .val (.int p4), .val (.int p5), .val (.int p6), .val (.int (own_irem (p6 &&& (2147483647 : Int32)) (4 : Int32))), .val (.long ((p5 >>> ((8 : Int32) &&& 31)).toInt64)), .second, .val (.long ((p2 >>> ((8 : Int32) &&& 31)).toInt64)), .second, .val (.long ((p3 >>> ((8 : Int32) &&& 31)).toInt64)), .second, .val (.long ((p4 >>> ((8 : Int32) &&& 31)).toInt64)), .second, .val (.double (FP.l2d (p1.toInt64))), .second, .val (.ref b7), .unset, .unset] [(.ref b7)])) _
    refine XS.iconst X7.here hx rfl (hb hby at_54) ?_
    show Steps p.tables e below (T7.setTop (mkF m 55 #[.val (.int p1), .val (.int p2), .val (.int p3), .val (.int p4), .val (.int p5), .val (.int p6), .val (.int (own_irem (p6 &&& (2147483647 : Int32)) (4 : Int32))), .val (.long ((p5 >>> ((8 : Int32) &&& 31)).toInt64)), .second, .val (.long ((p2 >>> ((8 : Int32) &&& 31)).toInt64)), .second, .val (.long ((p3 >>> ((8 : Int32) &&& 31)).toInt64)), .second, .val (.long ((p4 >>> ((8 : Int32) &&& 31)).toInt64)), .second, .val (.double (FP.l2d (p1.toInt64))), .second, .val (.ref b7), .unset, .unset] [(.int (0 : Int32)), (.ref b7)])) _
    refine XS.dload X7.here hx rfl (hb hby at_55) rfl ?_
    show Steps p.tables e below (T7.setTop (mkF m 57 #[.val (.int p1), .val (.int p2), .val (.int p3), .val (.int p4), .val (.int p5), .val (.int p6), .val (.int (own_irem (p6 &&& (2147483647 : Int32)) (4 : Int32))), .val (.long ((p5 >>> ((8 : Int32) &&& 31)).toInt64)), .second, .val (.long ((p2 >>> ((8 : Int32) &&& 31)).toInt64)), .second, .val (.long ((p3 >>> ((8 : Int32) &&& 31)).toInt64)), .second, .val (.long ((p4 >>> ((8 : Int32) &&& 31)).toInt64)), .second, .val (.double (FP.l2d (p1.toInt64))), .second, .val (.ref b7), .unset, .unset] [(.double (FP.l2d (p1.toInt64))), (.int (0 : Int32)), (.ref b7)])) _
    refine st8 _ ?_
    show Steps p.tables e below (T8.setTop (mkF m 58 #[.val (.int p1), .val (.int p2), .val (.int p3), .val (.int p4), .val (.int p5), .val (.int p6), .val (.int (own_irem (p6 &&& (2147483647 : Int32)) (4 : Int32))), .val (.long ((p5 >>> ((8 : Int32) &&& 31)).toInt64)), .second, .val (.long ((p2 >>> ((8 : Int32) &&& 31)).toInt64)), .second, .val (.long ((p3 >>> ((8 : Int32) &&& 31)).toInt64)), .second, .val (.long ((p4 >>> ((8 : Int32) &&& 31)).toInt64)), .second, .val (.double (FP.l2d (p1.toInt64))), .second, .val (.ref b7), .unset, .unset] [])) _
    refine XS.aload X8.here hx rfl (hb hby at_58) rfl rfl ?_
    show Steps p.tables e below (T8.setTop (mkF m 60 #[.val (.int p1), .val (.int p2), .val (.int p3), .val (.int p4), .val (.int p5), .val (.int p6), .val (.int (own_irem (p6 &&& (2147483647 : Int32)) (4 : Int32))), .val (.long ((p5 >>> ((8 : Int32) &&& 31)).toInt64)), .second, .val (.long ((p2 >>> ((8 : Int32) &&& 31)).toInt64)), .second, .val (.long ((p3 >>> ((8 : Int32) &&& 31)).toInt64)), .second, .val (.long ((p4 >>> ((8 : Int32) &&& 31)).toInt64)), .second, .val (.double (FP.l2d (p1.toInt64))), .second, .val (.ref b7), .unset, .unset] [(.ref b7)])) _
    refine XS.iconst X8.here hx rfl (hb hby at_60) ?_
    show Steps p.tables e below (T8.setTop (mkF m 61 #[.val (.int p1), .val (.int p2), .val (.int p3), .val (.int p4), .val (.int p5), .val (.int p6), .val (.int (own_irem (p6 &&& (2147483647 : Int32)) (4 : Int32))), .val (.long ((p5 >>> ((8 : Int32) &&& 31)).toInt64)), .second, .val (.long ((p2 >>> ((8 : Int32) &&& 31)).toInt64)), .second, .val (.long ((p3 >>> ((8 : Int32) &&& 31)).toInt64)), .second, .val (.long ((p4 >>> ((8 : Int32) &&& 31)).toInt64)), .second, .val (.double (FP.l2d (p1.toInt64))), .second, .val (.ref b7), .unset, .unset] [(.int (1 : Int32)), (.ref b7)])) _
    refine XS.lload X8.here hx rfl (hb hby at_61) rfl ?_
    show Steps p.tables e below (T8.setTop (mkF m 63 #[.val (.int p1), .val (.int p2), .val (.int p3), .val (.int p4), .val (.int p5), .val (.int p6), .val (.int (own_irem (p6 &&& (2147483647 : Int32)) (4 : Int32))), .val (.long ((p5 >>> ((8 : Int32) &&& 31)).toInt64)), .second, .val (.long ((p2 >>> ((8 : Int32) &&& 31)).toInt64)), .second, .val (.long ((p3 >>> ((8 : Int32) &&& 31)).toInt64)), .second, .val (.long ((p4 >>> ((8 : Int32) &&& 31)).toInt64)), .second, .val (.double (FP.l2d (p1.toInt64))), .second, .val (.ref b7), .unset, .unset] [(.long ((p5 >>> ((8 : Int32) &&& 31)).toInt64)), (.int (1 : Int32)), (.ref b7)])) _
    refine XS.l2dS X8.here hx rfl (hb hby at_63) rfl rfl ?_
    show Steps p.tables e below (T8.setTop (mkF m 64 #[.val (.int p1), .val (.int p2), .val (.int p3), .val (.int p4), .val (.int p5), .val (.int p6), .val (.int (own_irem (p6 &&& (2147483647 : Int32)) (4 : Int32))), .val (.long ((p5 >>> ((8 : Int32) &&& 31)).toInt64)), .second, .val (.long ((p2 >>> ((8 : Int32) &&& 31)).toInt64)), .second, .val (.long ((p3 >>> ((8 : Int32) &&& 31)).toInt64)), .second, .val (.long ((p4 >>> ((8 : Int32) &&& 31)).toInt64)), .second, .val (.double (FP.l2d (p1.toInt64))), .second, .val (.ref b7), .unset, .unset] [(.double (FP.l2d ((p5 >>> ((8 : Int32) &&& 31)).toInt64))), (.int (1 : Int32)), (.ref b7)])) _
    refine st9 _ ?_
    show Steps p.tables e below (T9.setTop (mkF m 65 #[.val (.int p1), .val (.int p2), .val (.int p3), .val (.int p4), .val (.int p5), .val (.int p6), .val (.int (own_irem (p6 &&& (2147483647 : Int32)) (4 : Int32))), .val (.long ((p5 >>> ((8 : Int32) &&& 31)).toInt64)), .second, .val (.long ((p2 >>> ((8 : Int32) &&& 31)).toInt64)), .second, .val (.long ((p3 >>> ((8 : Int32) &&& 31)).toInt64)), .second, .val (.long ((p4 >>> ((8 : Int32) &&& 31)).toInt64)), .second, .val (.double (FP.l2d (p1.toInt64))), .second, .val (.ref b7), .unset, .unset] [])) _
    refine XS.goto X9.here hx rfl (pc0 := 65) (pc' := 212) rfl (hb hby at_65) (by decide) (by decide) ?_
    show Steps p.tables e below (T9.setTop (mkF m 212 #[.val (.int p1), .val (.int p2), .val (.int p3), .val (.int p4), .val (.int p5), .val (.int p6), .val (.int (own_irem (p6 &&& (2147483647 : Int32)) (4 : Int32))), .val (.long ((p5 >>> ((8 : Int32) &&& 31)).toInt64)), .second, .val (.long ((p2 >>> ((8 : Int32) &&& 31)).toInt64)), .second, .val (.long ((p3 >>> ((8 : Int32) &&& 31)).toInt64)), .second, .val (.long ((p4 >>> ((8 : Int32) &&& 31)).toInt64)), .second, .val (.double (FP.l2d (p1.toInt64))), .second, .val (.ref b7), .unset, .unset] [])) _
    refine XS.lconst X9.here hx rfl (hb hby at_212) ?_
    show Steps p.tables e below (T9.setTop (mkF m 213 #[.val (.int p1), .val (.int p2), .val (.int p3), .val (.int p4), .val (.int p5), .val (.int p6), .val (.int (own_irem (p6 &&& (2147483647 : Int32)) (4 : Int32))), .val (.long ((p5 >>> ((8 : Int32) &&& 31)).toInt64)), .second, .val (.long ((p2 >>> ((8 : Int32) &&& 31)).toInt64)), .second, .val (.long ((p3 >>> ((8 : Int32) &&& 31)).toInt64)), .second, .val (.long ((p4 >>> ((8 : Int32) &&& 31)).toInt64)), .second, .val (.double (FP.l2d (p1.toInt64))), .second, .val (.ref b7), .unset, .unset] [(.long (1 : Int64))])) _
    refine X9.ldc2Long hx hown (mvT hZ (hw _ (List.mem_of_getElem? (i := 3) rfl))) (g := (mkF m 213 #[.val (.int p1), .val (.int p2), .val (.int p3), .val (.int p4), .val (.int p5), .val (.int p6), .val (.int (own_irem (p6 &&& (2147483647 : Int32)) (4 : Int32))), .val (.long ((p5 >>> ((8 : Int32) &&& 31)).toInt64)), .second, .val (.long ((p2 >>> ((8 : Int32) &&& 31)).toInt64)), .second, .val (.long ((p3 >>> ((8 : Int32) &&& 31)).toInt64)), .second, .val (.long ((p4 >>> ((8 : Int32) &&& 31)).toInt64)), .second, .val (.double (FP.l2d (p1.toInt64))), .second, .val (.ref b7), .unset, .unset] [(.long (1 : Int64))])) rfl (hb hby at_213) _ ?_
    show Steps p.tables e below (T9.setTop (mkF m 216 #[.val (.int p1), .val (.int p2), .val (.int p3), .val (.int p4), .val (.int p5), .val (.int p6), .val (.int (own_irem (p6 &&& (2147483647 : Int32)) (4 : Int32))), .val (.long ((p5 >>> ((8 : Int32) &&& 31)).toInt64)), .second, .val (.long ((p2 >>> ((8 : Int32) &&& 31)).toInt64)), .second, .val (.long ((p3 >>> ((8 : Int32) &&& 31)).toInt64)), .second, .val (.long ((p4 >>> ((8 : Int32) &&& 31)).toInt64)), .second, .val (.double (FP.l2d (p1.toInt64))), .second, .val (.ref b7), .unset, .unset] [(.long (9 : Int64)), (.long (1 : Int64))])) _
    refine XS.lload X9.here hx rfl (hb hby at_216) rfl ?_
    show Steps p.tables e below (T9.setTop (mkF m 218 #[.val (.int p1), .val (.int p2), .val (.int p3), .val (.int p4), .val (.int p5), .val (.int p6), .val (.int (own_irem (p6 &&& (2147483647 : Int32)) (4 : Int32))), .val (.long ((p5 >>> ((8 : Int32) &&& 31)).toInt64)), .second, .val (.long ((p2 >>> ((8 : Int32) &&& 31)).toInt64)), .second, .val (.long ((p3 >>> ((8 : Int32) &&& 31)).toInt64)), .second, .val (.long ((p4 >>> ((8 : Int32) &&& 31)).toInt64)), .second, .val (.double (FP.l2d (p1.toInt64))), .second, .val (.ref b7), .unset, .unset] [(.long ((p5 >>> ((8 : Int32) &&& 31)).toInt64)), (.long (9 : Int64)), (.long (1 : Int64))])) _
    refine XS.lmul X9.here hx rfl (hb hby at_218) rfl ?_
    show Steps p.tables e below (T9.setTop (mkF m 219 #[.val (.int p1), .val (.int p2), .val (.int p3), .val (.int p4), .val (.int p5), .val (.int p6), .val (.int (own_irem (p6 &&& (2147483647 : Int32)) (4 : Int32))), .val (.long ((p5 >>> ((8 : Int32) &&& 31)).toInt64)), .second, .val (.long ((p2 >>> ((8 : Int32) &&& 31)).toInt64)), .second, .val (.long ((p3 >>> ((8 : Int32) &&& 31)).toInt64)), .second, .val (.long ((p4 >>> ((8 : Int32) &&& 31)).toInt64)), .second, .val (.double (FP.l2d (p1.toInt64))), .second, .val (.ref b7), .unset, .unset] [(.long ((9 : Int64) * ((p5 >>> ((8 : Int32) &&& 31)).toInt64))), (.long (1 : Int64))])) _
    refine XS.ladd X9.here hx rfl (hb hby at_219) rfl ?_
    show Steps p.tables e below (T9.setTop (mkF m 220 #[.val (.int p1), .val (.int p2), .val (.int p3), .val (.int p4), .val (.int p5), .val (.int p6), .val (.int (own_irem (p6 &&& (2147483647 : Int32)) (4 : Int32))), .val (.long ((p5 >>> ((8 : Int32) &&& 31)).toInt64)), .second, .val (.long ((p2 >>> ((8 : Int32) &&& 31)).toInt64)), .second, .val (.long ((p3 >>> ((8 : Int32) &&& 31)).toInt64)), .second, .val (.long ((p4 >>> ((8 : Int32) &&& 31)).toInt64)), .second, .val (.double (FP.l2d (p1.toInt64))), .second, .val (.ref b7), .unset, .unset] [(.long ((1 : Int64) + ((9 : Int64) * ((p5 >>> ((8 : Int32) &&& 31)).toInt64))))])) _
    refine XS.l2dS X9.here hx rfl (hb hby at_220) rfl rfl ?_
    show Steps p.tables e below (T9.setTop (mkF m 221 #[.val (.int p1), .val (.int p2), .val (.int p3), .val (.int p4), .val (.int p5), .val (.int p6), .val (.int (own_irem (p6 &&& (2147483647 : Int32)) (4 : Int32))), .val (.long ((p5 >>> ((8 : Int32) &&& 31)).toInt64)), .second, .val (.long ((p2 >>> ((8 : Int32) &&& 31)).toInt64)), .second, .val (.long ((p3 >>> ((8 : Int32) &&& 31)).toInt64)), .second, .val (.long ((p4 >>> ((8 : Int32) &&& 31)).toInt64)), .second, .val (.double (FP.l2d (p1.toInt64))), .second, .val (.ref b7), .unset, .unset] [(.double (FP.l2d ((1 : Int64) + ((9 : Int64) * ((p5 >>> ((8 : Int32) &&& 31)).toInt64)))))])) _
    refine XS.dstore X9.here hx rfl (hb hby at_221) rfl (l' := #[.val (.int p1), .val (.int p2), .val (.int p3), .val (.int p4), .val (.int p5), .val (.int p6), .val (.int (own_irem (p6 &&& (2147483647 : Int32)) (4 : Int32))), .val (.long ((p5 >>> ((8 : Int32) &&& 31)).toInt64)), .second, .val (.long ((p2 >>> ((8 : Int32) &&& 31)).toInt64)), .second, .val (.long ((p3 >>> ((8 : Int32) &&& 31)).toInt64)), .second, .val (.long ((p4 >>> ((8 : Int32) &&& 31)).toInt64)), .second, .val (.double (FP.l2d (p1.toInt64))), .second, .val (.ref b7), .val (.double (FP.l2d ((1 : Int64) + ((9 : Int64) * ((p5 >>> ((8 : Int32) &&& 31)).toInt64))))), .second]) rfl ?_
    show Steps p.tables e below (T9.setTop (mkF m 223 #[.val (.int p1), .val (.int p2), .val (.int p3), .val (.int p4), .val (.int p5), .val (.int p6), .val (.int (own_irem (p6 &&& (2147483647 : Int32)) (4 : Int32))), .val (.long ((p5 >>> ((8 : Int32) &&& 31)).toInt64)), .second, .val (.long ((p2 >>> ((8 : Int32) &&& 31)).toInt64)), .second, .val (.long ((p3 >>> ((8 : Int32) &&& 31)).toInt64)), .second, .val (.long ((p4 >>> ((8 : Int32) &&& 31)).toInt64)), .second, .val (.double (FP.l2d (p1.toInt64))), .second, .val (.ref b7), .val (.double (FP.l2d ((1 : Int64) + ((9 : Int64) * ((p5 >>> ((8 : Int32) &&& 31)).toInt64))))), .second] [])) _
    refine XS.aload X9.here hx rfl (hb hby at_223) rfl rfl ?_
    show Steps p.tables e below (T9.setTop (mkF m 225 #[.val (.int p1), .val (.int p2), .val (.int p3), .val (.int p4), .val (.int p5), .val (.int p6), .val (.int (own_irem (p6 &&& (2147483647 : Int32)) (4 : Int32))), .val (.long ((p5 >>> ((8 : Int32) &&& 31)).toInt64)), .second, .val (.long ((p2 >>> ((8 : Int32) &&& 31)).toInt64)), .second, .val (.long ((p3 >>> ((8 : Int32) &&& 31)).toInt64)), .second, .val (.long ((p4 >>> ((8 : Int32) &&& 31)).toInt64)), .second, .val (.double (FP.l2d (p1.toInt64))), .second, .val (.ref b7), .val (.double (FP.l2d ((1 : Int64) + ((9 : Int64) * ((p5 >>> ((8 : Int32) &&& 31)).toInt64))))), .second] [(.ref b7)])) _
    refine st10 _ ?_
    show Steps p.tables e below (T10.setTop (mkF m 228 #[.val (.int p1), .val (.int p2), .val (.int p3), .val (.int p4), .val (.int p5), .val (.int p6), .val (.int (own_irem (p6 &&& (2147483647 : Int32)) (4 : Int32))), .val (.long ((p5 >>> ((8 : Int32) &&& 31)).toInt64)), .second, .val (.long ((p2 >>> ((8 : Int32) &&& 31)).toInt64)), .second, .val (.long ((p3 >>> ((8 : Int32) &&& 31)).toInt64)), .second, .val (.long ((p4 >>> ((8 : Int32) &&& 31)).toInt64)), .second, .val (.double (FP.l2d (p1.toInt64))), .second, .val (.ref b7), .val (.double (FP.l2d ((1 : Int64) + ((9 : Int64) * ((p5 >>> ((8 : Int32) &&& 31)).toInt64))))), .second] [(.double (FP.l2d ((1 : Int64) + ((9 : Int64) * ((p5 >>> ((8 : Int32) &&& 31)).toInt64)))))])) _
    refine XS.dload X10.here hx rfl (hb hby at_228) rfl ?_
    show Steps p.tables e below (T10.setTop (mkF m 230 #[.val (.int p1), .val (.int p2), .val (.int p3), .val (.int p4), .val (.int p5), .val (.int p6), .val (.int (own_irem (p6 &&& (2147483647 : Int32)) (4 : Int32))), .val (.long ((p5 >>> ((8 : Int32) &&& 31)).toInt64)), .second, .val (.long ((p2 >>> ((8 : Int32) &&& 31)).toInt64)), .second, .val (.long ((p3 >>> ((8 : Int32) &&& 31)).toInt64)), .second, .val (.long ((p4 >>> ((8 : Int32) &&& 31)).toInt64)), .second, .val (.double (FP.l2d (p1.toInt64))), .second, .val (.ref b7), .val (.double (FP.l2d ((1 : Int64) + ((9 : Int64) * ((p5 >>> ((8 : Int32) &&& 31)).toInt64))))), .second] [(.double (FP.l2d ((1 : Int64) + ((9 : Int64) * ((p5 >>> ((8 : Int32) &&& 31)).toInt64))))), (.double (FP.l2d ((1 : Int64) + ((9 : Int64) * ((p5 >>> ((8 : Int32) &&& 31)).toInt64)))))])) _
    refine XS.dcmpS X10.here hx rfl (hb hby at_230) rfl (dcmpV_w hba230 hbb230 _) ?_
    show Steps p.tables e below (T10.setTop (mkF m 231 #[.val (.int p1), .val (.int p2), .val (.int p3), .val (.int p4), .val (.int p5), .val (.int p6), .val (.int (own_irem (p6 &&& (2147483647 : Int32)) (4 : Int32))), .val (.long ((p5 >>> ((8 : Int32) &&& 31)).toInt64)), .second, .val (.long ((p2 >>> ((8 : Int32) &&& 31)).toInt64)), .second, .val (.long ((p3 >>> ((8 : Int32) &&& 31)).toInt64)), .second, .val (.long ((p4 >>> ((8 : Int32) &&& 31)).toInt64)), .second, .val (.double (FP.l2d (p1.toInt64))), .second, .val (.ref b7), .val (.double (FP.l2d ((1 : Int64) + ((9 : Int64) * ((p5 >>> ((8 : Int32) &&& 31)).toInt64))))), .second] [(.int (lcmpW ((1 : Int64) + ((9 : Int64) * ((p5 >>> ((8 : Int32) &&& 31)).toInt64))) ((1 : Int64) + ((9 : Int64) * ((p5 >>> ((8 : Int32) &&& 31)).toInt64)))))])) _
    refine XS.ifNo X10.here hx rfl (hb hby at_231) rfl ((if0 _ _).trans (teq (own_lcself _ : (lcmpW ((1 : Int64) + ((9 : Int64) * ((p5 >>> ((8 : Int32) &&& 31)).toInt64))) ((1 : Int64) + ((9 : Int64) * ((p5 >>> ((8 : Int32) &&& 31)).toInt64)))) = (0 : Int32))).2) ?_
    show Steps p.tables e below (T10.setTop (mkF m 234 #[.val (.int p1), .val (.int p2), .val (.int p3), .val (.int p4), .val (.int p5), .val (.int p6), .val (.int (own_irem (p6 &&& (2147483647 : Int32)) (4 : Int32))), .val (.long ((p5 >>> ((8 : Int32) &&& 31)).toInt64)), .second, .val (.long ((p2 >>> ((8 : Int32) &&& 31)).toInt64)), .second, .val (.long ((p3 >>> ((8 : Int32) &&& 31)).toInt64)), .second, .val (.long ((p4 >>> ((8 : Int32) &&& 31)).toInt64)), .second, .val (.double (FP.l2d (p1.toInt64))), .second, .val (.ref b7), .val (.double (FP.l2d ((1 : Int64) + ((9 : Int64) * ((p5 >>> ((8 : Int32) &&& 31)).toInt64))))), .second] [])) _
    refine XS.iconst X10.here hx rfl (hb hby at_234) ?_
    show Steps p.tables e below (T10.setTop (mkF m 235 #[.val (.int p1), .val (.int p2), .val (.int p3), .val (.int p4), .val (.int p5), .val (.int p6), .val (.int (own_irem (p6 &&& (2147483647 : Int32)) (4 : Int32))), .val (.long ((p5 >>> ((8 : Int32) &&& 31)).toInt64)), .second, .val (.long ((p2 >>> ((8 : Int32) &&& 31)).toInt64)), .second, .val (.long ((p3 >>> ((8 : Int32) &&& 31)).toInt64)), .second, .val (.long ((p4 >>> ((8 : Int32) &&& 31)).toInt64)), .second, .val (.double (FP.l2d (p1.toInt64))), .second, .val (.ref b7), .val (.double (FP.l2d ((1 : Int64) + ((9 : Int64) * ((p5 >>> ((8 : Int32) &&& 31)).toInt64))))), .second] [(.int (1 : Int32))])) _
    refine XS.goto X10.here hx rfl (pc0 := 235) (pc' := 239) rfl (hb hby at_235) (by decide) (by decide) ?_
    show Steps p.tables e below (T10.setTop (mkF m 239 #[.val (.int p1), .val (.int p2), .val (.int p3), .val (.int p4), .val (.int p5), .val (.int p6), .val (.int (own_irem (p6 &&& (2147483647 : Int32)) (4 : Int32))), .val (.long ((p5 >>> ((8 : Int32) &&& 31)).toInt64)), .second, .val (.long ((p2 >>> ((8 : Int32) &&& 31)).toInt64)), .second, .val (.long ((p3 >>> ((8 : Int32) &&& 31)).toInt64)), .second, .val (.long ((p4 >>> ((8 : Int32) &&& 31)).toInt64)), .second, .val (.double (FP.l2d (p1.toInt64))), .second, .val (.ref b7), .val (.double (FP.l2d ((1 : Int64) + ((9 : Int64) * ((p5 >>> ((8 : Int32) &&& 31)).toInt64))))), .second] [(.int (1 : Int32))])) _
    exact retN X10 hx (t := .boolean) Bd.returns (by simp) (hb hby at_239) hr
  · show Q0 Z p1 p2 p3 p4 p5 p6 h0 n0 _ T10.heap _
    exact ⟨rfl, N10⟩
set_option maxRecDepth 65536 in
set_option maxHeartbeats 40000000 in
theorem rm0_3 (l : Launch) (Z : State) (a0 : Array Value) (hw : ∀ d ∈ tables_1, d.before a0 Z = true) (ws : List Jvm.Cond) (p1 : Int32) (p2 : Int32) (p3 : Int32) (p4 : Int32) (p5 : Int32) (p6 : Int32) (h0 : Heap) (n0 : Nat) (Z0 : n0 ≤ h0.size) (hc44 : ¬ ((own_irem (p6 &&& (2147483647 : Int32)) (4 : Int32)) = (0 : Int32))) (hc71 : (own_irem (p6 &&& (2147483647 : Int32)) (4 : Int32)) = (1 : Int32)) (hba230 : B53 ((1 : Int64) + ((9 : Int64) * ((p5 >>> ((8 : Int32) &&& 31)).toInt64)))) (hbb230 : B53 ((1 : Int64) + ((9 : Int64) * ((p5 >>> ((8 : Int32) &&& 31)).toInt64)))) :
    MetFree l x (head1 (Jvm.Cond.code x code maxLocals ret :: ws) room_1) (fun a U => a = #[(.int p1), (.int p2), (.int p3), (.int p4), (.int p5), (.int p6)] ∧ Z.Warmed39 U.vm ∧ U.heap = h0) (fun _ _ _ _ _ => True) (fun _ U o U' => ∃ v L, o = .returned v ∧ Q0 Z p1 p2 p3 p4 p5 p6 h0 n0 v U'.heap L ∧ FrameEnd U o U' L room_1.cells room_1.slots) := by
  refine MetFree.of_bodySF (plainFor_of_name pn_0) hisR ?_
  intro p e s m args below meth c s₁ Bd hml0 hP hK
  obtain ⟨rfl, hZ, hh⟩ := hP
  have hx := Bd.exec
  have hby := Bd.bytes
  have hml : c.maxLocals = 20 := hml0
  have hown : s.vm.findClass "com/example/paretoloom/paretoloom/problems/ZdtLinearGPinLaw" = some m.cls := findClass_of_methodNamed Bd.named
  have hnm := (name_of_methodNamed Bd.named Bd.method).1
  have X0 : Stand p l e room_1 s m #[(.int p1), (.int p2), (.int p3), (.int p4), (.int p5), (.int p6)] below meth c s₁ [] 0 0 := Stand.of_body Bd
  have e0 : s₁.heap = h0 := by rw [← hh, Bd.state]; rfl
  have N0 := Fr.nil n0
  have pre0 : ∀ t, Steps p.tables e below (s₁.setTop (mkF m 0 #[.val (.int p1), .val (.int p2), .val (.int p3), .val (.int p4), .val (.int p5), .val (.int p6), .unset, .unset, .unset, .unset, .unset, .unset, .unset, .unset, .unset, .unset, .unset, .unset, .unset, .unset] [])) t → Steps p.tables e below (s₁.setTop (entryFrame m #[(.int p1), (.int p2), (.int p3), (.int p4), (.int p5), (.int p6)] maxLocals)) t := fun t k => castTop (ef_0 m p1 p2 p3 p4 p5 p6) k
  -- 3. LAWS
  obtain ⟨T7, h7, k7, X7, e7, E7, A7, st7⟩ := newP X0 hx hZ (hw _ (List.mem_of_getElem? (i := 1) rfl)) e0 (g := (mkF m 75 #[.val (.int p1), .val (.int p2), .val (.int p3), .val (.int p4), .val (.int p5), .val (.int p6), .val (.int (own_irem (p6 &&& (2147483647 : Int32)) (4 : Int32))), .val (.long ((p5 >>> ((8 : Int32) &&& 31)).toInt64)), .second, .val (.long ((p2 >>> ((8 : Int32) &&& 31)).toInt64)), .second, .val (.long ((p3 >>> ((8 : Int32) &&& 31)).toInt64)), .second, .val (.long ((p4 >>> ((8 : Int32) &&& 31)).toInt64)), .second, .val (.double (FP.l2d (p1.toInt64))), .second, .unset, .unset, .unset] [(.int (3 : Int32))])) rfl (hb hby at_75) rfl (by decide) (cap := 3) (by decide) (by decide) (by decide) (by decide)
  obtain ⟨b7, g7⟩ : ∃ z, z = h0.size := ⟨_, rfl⟩      -- the fresh array's address
  rw [← g7] at A7 st7
  have V_b7 : Arv Z h7 b7 k7 .double (3 : Int32) [(.double (FP.l2d 0)), (.double (FP.l2d 0)), (.double (FP.l2d 0))] (.double (FP.l2d 0)) := (Arv.newD A7 (by decide)).pad (pad_rep [] (.double (FP.l2d 0)) 3)
  have g_b7 : n0 ≤ b7 := Nat.le_trans Z0 (Nat.le_of_eq g7.symm)
  have sz_b7 : h0.size ≤ b7 := (Nat.le_trans (Keep.refl h0 []).1 (Nat.le_of_eq g7.symm))
  have K7 : Keep h0 h7 [] := (Keep.refl h0 []).ext E7
  obtain ⟨cl_b7_84, Ar_b7, q_b7, S_b7, N_b7, H_b7, G_b7⟩ := V_b7      -- open the array's fact as it stands now (its cell, kind, length, elements)
  have hin84 : ¬ ((0 : Int32) < 0 ∨ cl_b7_84.slots.size ≤ ((0 : Int32)).toNatClampNeg) := inb_of S_b7 ⟨by decide, by decide⟩
  obtain ⟨T8, h8, X8, e8, W8, st8⟩ := stD X7 hx hZ e7 Ar_b7 (j := (0 : Int32)) hin84 (g := (mkF m 84 #[.val (.int p1), .val (.int p2), .val (.int p3), .val (.int p4), .val (.int p5), .val (.int p6), .val (.int (own_irem (p6 &&& (2147483647 : Int32)) (4 : Int32))), .val (.long ((p5 >>> ((8 : Int32) &&& 31)).toInt64)), .second, .val (.long ((p2 >>> ((8 : Int32) &&& 31)).toInt64)), .second, .val (.long ((p3 >>> ((8 : Int32) &&& 31)).toInt64)), .second, .val (.long ((p4 >>> ((8 : Int32) &&& 31)).toInt64)), .second, .val (.double (FP.l2d (p1.toInt64))), .second, .val (.ref b7), .unset, .unset] [(.double (FP.l2d (p1.toInt64))), (.int (0 : Int32)), (.ref b7)])) rfl rfl (hb hby at_84)
  have V_b7_8 := Arv.set Ar_b7 q_b7 S_b7 N_b7 H_b7 G_b7 rfl W8 0 rfl (Nat.le_of_ble_eq_true rfl)      -- the array as it stands now (the place must lie among its first values: Arv.pad with pad_rep lengthens them)
  have K8 : Keep h0 h8 [] := K7.wr W8 (Or.inr sz_b7)
  have N8 := Fr.snoc X8 N0 g_b7
  obtain ⟨cl_b7_91, Ar_b7, q_b7, S_b7, N_b7, H_b7, G_b7⟩ := V_b7_8      -- open the array's fact as it stands now (its cell, kind, length, elements)
  have hin91 : ¬ ((1 : Int32) < 0 ∨ cl_b7_91.slots.size ≤ ((1 : Int32)).toNatClampNeg) := inb_of S_b7 ⟨by decide, by decide⟩
  obtain ⟨T9, h9, X9, e9, W9, st9⟩ := stD X8 hx hZ e8 Ar_b7 (j := (1 : Int32)) hin91 (g := (mkF m 91 #[.val (.int p1), .val (.int p2), .val (.int p3), .val (.int p4), .val (.int p5), .val (.int p6), .val (.int (own_irem (p6 &&& (2147483647 : Int32)) (4 : Int32))), .val (.long ((p5 >>> ((8 : Int32) &&& 31)).toInt64)), .second, .val (.long ((p2 >>> ((8 : Int32) &&& 31)).toInt64)), .second, .val (.long ((p3 >>> ((8 : Int32) &&& 31)).toInt64)), .second, .val (.long ((p4 >>> ((8 : Int32) &&& 31)).toInt64)), .second, .val (.double (FP.l2d (p1.toInt64))), .second, .val (.ref b7), .unset, .unset] [(.double (FP.l2d ((p2 >>> ((8 : Int32) &&& 31)).toInt64))), (.int (1 : Int32)), (.ref b7)])) rfl rfl (hb hby at_91)
  have V_b7_9 := Arv.set Ar_b7 q_b7 S_b7 N_b7 H_b7 G_b7 rfl W9 1 rfl (Nat.le_of_ble_eq_true rfl)      -- the array as it stands now (the place must lie among its first values: Arv.pad with pad_rep lengthens them)
  have K9 : Keep h0 h9 [] := K8.wr W9 (Or.inr sz_b7)
  have N9 := Fr.snoc X9 N8 g_b7
  obtain ⟨cl_b7_105, Ar_b7, q_b7, S_b7, N_b7, H_b7, G_b7⟩ := V_b7_9      -- open the array's fact as it stands now (its cell, kind, length, elements)
  have hin105 : ¬ ((2 : Int32) < 0 ∨ cl_b7_105.slots.size ≤ ((2 : Int32)).toNatClampNeg) := inb_of S_b7 ⟨by decide, by decide⟩
  obtain ⟨T10, h10, X10, e10, W10, st10⟩ := stD X9 hx hZ e9 Ar_b7 (j := (2 : Int32)) hin105 (g := (mkF m 105 #[.val (.int p1), .val (.int p2), .val (.int p3), .val (.int p4), .val (.int p5), .val (.int p6), .val (.int (own_irem (p6 &&& (2147483647 : Int32)) (4 : Int32))), .val (.long ((p5 >>> ((8 : Int32) &&& 31)).toInt64)), .second, .val (.long ((p2 >>> ((8 : Int32) &&& 31)).toInt64)), .second, .val (.long ((p3 >>> ((8 : Int32) &&& 31)).toInt64)), .second, .val (.long ((p4 >>> ((8 : Int32) &&& 31)).toInt64)), .second, .val (.double (FP.l2d (p1.toInt64))), .second, .val (.ref b7), .unset, .unset] [(.double (FP.l2d (((2 : Int64) * ((p5 >>> ((8 : Int32) &&& 31)).toInt64)) - ((p2 >>> ((8 : Int32) &&& 31)).toInt64)))), (.int (2 : Int32)), (.ref b7)])) rfl rfl (hb hby at_105)
  have V_b7_10 := Arv.set Ar_b7 q_b7 S_b7 N_b7 H_b7 G_b7 rfl W10 2 rfl (Nat.le_of_ble_eq_true rfl)      -- the array as it stands now (the place must lie among its first values: Arv.pad with pad_rep lengthens them)
  have K10 : Keep h0 h10 [] := K9.wr W10 (Or.inr sz_b7)
  have N10 := Fr.snoc X10 N9 g_b7
  -- pc 225: com/example/paretoloom/paretoloom/problems/Zdt.linearG by its contract rm1
  have Vq : Arv Z h10 b7 k7 .double (3 : Int32) [(.double (FP.l2d (p1.toInt64))), (.double (FP.l2d ((p2 >>> ((8 : Int32) &&& 31)).toInt64))), (.double (FP.l2d (((2 : Int64) * ((p5 >>> ((8 : Int32) &&& 31)).toInt64)) - ((p2 >>> ((8 : Int32) &&& 31)).toInt64))))] (.double (FP.l2d 0)) := V_b7_10
  obtain ⟨_, _, ⟨T11, L11, k11, n11⟩, -, X11, ⟨Lc11, hQ11, l11, y11, z11⟩, st11⟩ := Jvm.LawKit.callS X10 hx (y := (⟨"com/example/paretoloom/paretoloom/problems/Zdt", "linearG", "([D)D"⟩ : MethodName)) hown (mvT hZ (hw _ (List.mem_of_getElem? (i := 4) rfl))) (mvT hZ (hw _ (List.mem_of_getElem? (i := 5) rfl))) (mvT hZ (hw _ (List.mem_of_getElem? (i := 6) rfl))) (mvT hZ (hw _ (List.mem_of_getElem? (i := 7) rfl))) (by decide) (backOf (W := 0) (rm1_n3 l Z a0 hw [] b7 _ _ (p1.toInt64) ((p2 >>> ((8 : Int32) &&& 31)).toInt64) (((2 : Int64) * ((p5 >>> ((8 : Int32) &&& 31)).toInt64)) - ((p2 >>> ((8 : Int32) &&& 31)).toInt64)) ((p5 >>> ((8 : Int32) &&& 31)).toInt64) h10 n0 (Nat.le_trans Z0 K10.1) Vq (own_sh p2) (own_w2 p5 p2).1 (own_sh p5) (own_w2 p5 p2).2) hZ (hw _ (List.mem_of_getElem? (i := 7) rfl)) (hw _ (List.mem_of_getElem? (i := 6) rfl)) (by decide) (by decide)) (g := (mkF m 225 #[.val (.int p1), .val (.int p2), .val (.int p3), .val (.int p4), .val (.int p5), .val (.int p6), .val (.int (own_irem (p6 &&& (2147483647 : Int32)) (4 : Int32))), .val (.long ((p5 >>> ((8 : Int32) &&& 31)).toInt64)), .second, .val (.long ((p2 >>> ((8 : Int32) &&& 31)).toInt64)), .second, .val (.long ((p3 >>> ((8 : Int32) &&& 31)).toInt64)), .second, .val (.long ((p4 >>> ((8 : Int32) &&& 31)).toInt64)), .second, .val (.double (FP.l2d (p1.toInt64))), .second, .val (.ref b7), .val (.double (FP.l2d ((1 : Int64) + ((9 : Int64) * ((p5 >>> ((8 : Int32) &&& 31)).toInt64))))), .second] [(.ref b7)])) rfl (by rw [hml]; rfl) (argsL := [(.ref b7)]) (rest := []) (lenOf pd_0_0 rfl) rfl (by show 2 * 0 + _ ≤ _; exact Nat.le_of_eq rfl) (hb hby at_225) (fun _ _ => ⟨rfl, e10, (by decide : 1 + 0 ≤ _), (by decide : 3 + 0 ≤ _)⟩)
  dsimp only [Pt.U, Pt.locs, Pt.cells, Pt.slots] at X11 l11 y11 z11 st11 hQ11
  subst l11 y11 z11
  obtain ⟨rfl, N11q, eQq⟩ := hQ11      -- what it returned, that it wrote nothing old, and the rest of your Q1
  have N11 := Fr.app N10 N11q
  obtain ⟨fs, hr, hrun, hended, hW, hsame⟩ := X11.leave (v := some (.int (1 : Int32))) (fun h => by rw [Bd.returns] at h; cases h)
  refine ⟨_, _, pre0 _ ?_, hrun, hended, _, _, rfl, ?_, ⟨_, rfl⟩, hW, hsame.mono (by decide) (by decide)⟩
  -- 4. STEPS
  · show Steps p.tables e below (s₁.setTop (mkF m 0 #[.val (.int p1), .val (.int p2), .val (.int p3), .val (.int p4), .val (.int p5), .val (.int p6), .unset, .unset, .unset, .unset, .unset, .unset, .unset, .unset, .unset, .unset, .unset, .unset, .unset, .unset] [])) _
    refine XS.iload X0.here hx rfl (hb hby at_0) rfl ?_
    show Steps p.tables e below (s₁.setTop (mkF m 2 #[.val (.int p1), .val (.int p2), .val (.int p3), .val (.int p4), .val (.int p5), .val (.int p6), .unset, .unset, .unset, .unset, .unset, .unset, .unset, .unset, .unset, .unset, .unset, .unset, .unset, .unset] [(.int p6)])) _
    refine X0.ldcInt hx hown (mvT hZ (hw _ (List.mem_of_getElem? (i := 0) rfl))) (g := (mkF m 2 #[.val (.int p1), .val (.int p2), .val (.int p3), .val (.int p4), .val (.int p5), .val (.int p6), .unset, .unset, .unset, .unset, .unset, .unset, .unset, .unset, .unset, .unset, .unset, .unset, .unset, .unset] [(.int p6)])) rfl (hb hby at_2) _ ?_
    show Steps p.tables e below (s₁.setTop (mkF m 4 #[.val (.int p1), .val (.int p2), .val (.int p3), .val (.int p4), .val (.int p5), .val (.int p6), .unset, .unset, .unset, .unset, .unset, .unset, .unset, .unset, .unset, .unset, .unset, .unset, .unset, .unset] [(.int (2147483647 : Int32)), (.int p6)])) _
    refine XS.iand X0.here hx rfl (hb hby at_4) rfl ?_
    show Steps p.tables e below (s₁.setTop (mkF m 5 #[.val (.int p1), .val (.int p2), .val (.int p3), .val (.int p4), .val (.int p5), .val (.int p6), .unset, .unset, .unset, .unset, .unset, .unset, .unset, .unset, .unset, .unset, .unset, .unset, .unset, .unset] [(.int (p6 &&& (2147483647 : Int32)))])) _
    refine XS.iconst X0.here hx rfl (hb hby at_5) ?_
    show Steps p.tables e below (s₁.setTop (mkF m 6 #[.val (.int p1), .val (.int p2), .val (.int p3), .val (.int p4), .val (.int p5), .val (.int p6), .unset, .unset, .unset, .unset, .unset, .unset, .unset, .unset, .unset, .unset, .unset, .unset, .unset, .unset] [(.int (4 : Int32)), (.int (p6 &&& (2147483647 : Int32)))])) _
    refine iremM X0 hx rfl (hb hby at_6) rfl (by decide) ?_
    show Steps p.tables e below (s₁.setTop (mkF m 7 #[.val (.int p1), .val (.int p2), .val (.int p3), .val (.int p4), .val (.int p5), .val (.int p6), .unset, .unset, .unset, .unset, .unset, .unset, .unset, .unset, .unset, .unset, .unset, .unset, .unset, .unset] [(.int (own_irem (p6 &&& (2147483647 : Int32)) (4 : Int32)))])) _
    refine XS.istore X0.here hx rfl (hb hby at_7) rfl (l' := #[.val (.int p1), .val (.int p2), .val (.int p3), .val (.int p4), .val (.int p5), .val (.int p6), .val (.int (own_irem (p6 &&& (2147483647 : Int32)) (4 : Int32))), .unset, .unset, .unset, .unset, .unset, .unset, .unset, .unset, .unset, .unset, .unset, .unset, .unset]) rfl ?_
    show Steps p.tables e below (s₁.setTop (mkF m 9 #[.val (.int p1), .val (.int p2), .val (.int p3), .val (.int p4), .val (.int p5), .val (.int p6), .val (.int (own_irem (p6 &&& (2147483647 : Int32)) (4 : Int32))), .unset, .unset, .unset, .unset, .unset, .unset, .unset, .unset, .unset, .unset, .unset, .unset, .unset] [])) _
    refine XS.iload X0.here hx rfl (hb hby at_9) rfl ?_
    show Steps p.tables e below (s₁.setTop (mkF m 11 #[.val (.int p1), .val (.int p2), .val (.int p3), .val (.int p4), .val (.int p5), .val (.int p6), .val (.int (own_irem (p6 &&& (2147483647 : Int32)) (4 : Int32))), .unset, .unset, .unset, .unset, .unset, .unset, .unset, .unset, .unset, .unset, .unset, .unset, .unset] [(.int p5)])) _
    refine XS.bipush X0.here hx rfl (hb hby at_11) ?_
    show Steps p.tables e below (s₁.setTop (mkF m 13 #[.val (.int p1), .val (.int p2), .val (.int p3), .val (.int p4), .val (.int p5), .val (.int p6), .val (.int (own_irem (p6 &&& (2147483647 : Int32)) (4 : Int32))), .unset, .unset, .unset, .unset, .unset, .unset, .unset, .unset, .unset, .unset, .unset, .unset, .unset] [(.int (8 : Int32)), (.int p5)])) _
    refine XS.ishr X0.here hx rfl (hb hby at_13) rfl ?_
    show Steps p.tables e below (s₁.setTop (mkF m 14 #[.val (.int p1), .val (.int p2), .val (.int p3), .val (.int p4), .val (.int p5), .val (.int p6), .val (.int (own_irem (p6 &&& (2147483647 : Int32)) (4 : Int32))), .unset, .unset, .unset, .unset, .unset, .unset, .unset, .unset, .unset, .unset, .unset, .unset, .unset] [(.int (p5 >>> ((8 : Int32) &&& 31)))])) _
    refine XS.i2l X0.here hx rfl (hb hby at_14) rfl ?_
    show Steps p.tables e below (s₁.setTop (mkF m 15 #[.val (.int p1), .val (.int p2), .val (.int p3), .val (.int p4), .val (.int p5), .val (.int p6), .val (.int (own_irem (p6 &&& (2147483647 : Int32)) (4 : Int32))), .unset, .unset, .unset, .unset, .unset, .unset, .unset, .unset, .unset, .unset, .unset, .unset, .unset] [(.long ((p5 >>> ((8 : Int32) &&& 31)).toInt64))])) _
    refine XS.lstore X0.here hx rfl (hb hby at_15) rfl (l' := #[.val (.int p1), .val (.int p2), .val (.int p3), .val (.int p4), .val (.int p5), .val (.int p6), .val (.int (own_irem (p6 &&& (2147483647 : Int32)) (4 : Int32))), .val (.long ((p5 >>> ((8 : Int32) &&& 31)).toInt64)), .second, .unset, .unset, .unset, .unset, .unset, .unset, .unset, .unset, .unset, .unset, .unset]) rfl ?_
    show Steps p.tables e below (s₁.setTop (mkF m 17 #[.val (.int p1), .val (.int p2), .val (.int p3), .val (.int p4), .val (.int p5), .val (.int p6), .val (.int (own_irem (p6 &&& (2147483647 : Int32)) (4 : Int32))), .val (.long ((p5 >>> ((8 : Int32) &&& 31)).toInt64)), .second, .unset, .unset, .unset, .unset, .unset, .unset, .unset, .unset, .unset, .unset, .unset] [])) _
    refine XS.iloadN X0.here hx rfl (hb hby at_17) rfl ?_
    show Steps p.tables e below (s₁.setTop (mkF m 18 #[.val (.int p1), .val (.int p2), .val (.int p3), .val (.int p4), .val (.int p5), .val (.int p6), .val (.int (own_irem (p6 &&& (2147483647 : Int32)) (4 : Int32))), .val (.long ((p5 >>> ((8 : Int32) &&& 31)).toInt64)), .second, .unset, .unset, .unset, .unset, .unset, .unset, .unset, .unset, .unset, .unset, .unset] [(.int p2)])) _
    refine XS.bipush X0.here hx rfl (hb hby at_18) ?_
    show Steps p.tables e below (s₁.setTop (mkF m 20 #[.val (.int p1), .val (.int p2), .val (.int p3), .val (.int p4), .val (.int p5), .val (.int p6), .val (.int (own_irem (p6 &&& (2147483647 : Int32)) (4 : Int32))), .val (.long ((p5 >>> ((8 : Int32) &&& 31)).toInt64)), .second, .unset, .unset, .unset, .unset, .unset, .unset, .unset, .unset, .unset, .unset, .unset] [(.int (8 : Int32)), (.int p2)])) _
    refine XS.ishr X0.here hx rfl (hb hby at_20) rfl ?_
    show Steps p.tables e below (s₁.setTop (mkF m 21 #[.val (.int p1), .val (.int p2), .val (.int p3), .val (.int p4), .val (.int p5), .val (.int p6), .val (.int (own_irem (p6 &&& (2147483647 : Int32)) (4 : Int32))), .val (.long ((p5 >>> ((8 : Int32) &&& 31)).toInt64)), .second, .unset, .unset, .unset, .unset, .unset, .unset, .unset, .unset, .unset, .unset, .unset] [(.int (p2 >>> ((8 : Int32) &&& 31)))])) _
    refine XS.i2l X0.here hx rfl (hb hby at_21) rfl ?_
    show Steps p.tables e below (s₁.setTop (mkF m 22 #[.val (.int p1), .val (.int p2), .val (.int p3), .val (.int p4), .val (.int p5), .val (.int p6), .val (.int (own_irem (p6 &&& (2147483647 : Int32)) (4 : Int32))), .val (.long ((p5 >>> ((8 : Int32) &&& 31)).toInt64)), .second, .unset, .unset, .unset, .unset, .unset, .unset, .unset, .unset, .unset, .unset, .unset] [(.long ((p2 >>> ((8 : Int32) &&& 31)).toInt64))])) _
    refine XS.lstore X0.here hx rfl (hb hby at_22) rfl (l' := #[.val (.int p1), .val (.int p2), .val (.int p3), .val (.int p4), .val (.int p5), .val (.int p6), .val (.int (own_irem (p6 &&& (2147483647 : Int32)) (4 : Int32))), .val (.long ((p5 >>> ((8 : Int32) &&& 31)).toInt64)), .second, .val (.long ((p2 >>> ((8 : Int32) &&& 31)).toInt64)), .second, .unset, .unset, .unset, .unset, .unset, .unset, .unset, .unset, .unset]) rfl ?_
    show Steps p.tables e below (s₁.setTop (mkF m 24 #[.val (.int p1), .val (.int p2), .val (.int p3), .val (.int p4), .val (.int p5), .val (.int p6), .val (.int (own_irem (p6 &&& (2147483647 : Int32)) (4 : Int32))), .val (.long ((p5 >>> ((8 : Int32) &&& 31)).toInt64)), .second, .val (.long ((p2 >>> ((8 : Int32) &&& 31)).toInt64)), .second, .unset, .unset, .unset, .unset, .unset, .unset, .unset, .unset, .unset] [])) _
    refine XS.iloadN X0.here hx rfl (hb hby at_24) rfl ?_
    show Steps p.tables e below (s₁.setTop (mkF m 25 #[.val (.int p1), .val (.int p2), .val (.int p3), .val (.int p4), .val (.int p5), .val (.int p6), .val (.int (own_irem (p6 &&& (2147483647 : Int32)) (4 : Int32))), .val (.long ((p5 >>> ((8 : Int32) &&& 31)).toInt64)), .second, .val (.long ((p2 >>> ((8 : Int32) &&& 31)).toInt64)), .second, .unset, .unset, .unset, .unset, .unset, .unset, .unset, .unset, .unset] [(.int p3)])) _
    refine XS.bipush X0.here hx rfl (hb hby at_25) ?_
    show Steps p.tables e below (s₁.setTop (mkF m 27 #[.val (.int p1), .val (.int p2), .val (.int p3), .val (.int p4), .val (.int p5), .val (.int p6), .val (.int (own_irem (p6 &&& (2147483647 : Int32)) (4 : Int32))), .val (.long ((p5 >>> ((8 : Int32) &&& 31)).toInt64)), .second, .val (.long ((p2 >>> ((8 : Int32) &&& 31)).toInt64)), .second, .unset, .unset, .unset, .unset, .unset, .unset, .unset, .unset, .unset] [(.int (8 : Int32)), (.int p3)])) _
    refine XS.ishr X0.here hx rfl (hb hby at_27) rfl ?_
    show Steps p.tables e below (s₁.setTop (mkF m 28 #[.val (.int p1), .val (.int p2), .val (.int p3), .val (.int p4), .val (.int p5), .val (.int p6), .val (.int (own_irem (p6 &&& (2147483647 : Int32)) (4 : Int32))), .val (.long ((p5 >>> ((8 : Int32) &&& 31)).toInt64)), .second, .val (.long ((p2 >>> ((8 : Int32) &&& 31)).toInt64)), .second, .unset, .unset, .unset, .unset, .unset, .unset, .unset, .unset, .unset] [(.int (p3 >>> ((8 : Int32) &&& 31)))])) _
    refine XS.i2l X0.here hx rfl (hb hby at_28) rfl ?_
    show Steps p.tables e below (s₁.setTop (mkF m 29 #[.val (.int p1), .val (.int p2), .val (.int p3), .val (.int p4), .val (.int p5), .val (.int p6), .val (.int (own_irem (p6 &&& (2147483647 : Int32)) (4 : Int32))), .val (.long ((p5 >>> ((8 : Int32) &&& 31)).toInt64)), .second, .val (.long ((p2 >>> ((8 : Int32) &&& 31)).toInt64)), .second, .unset, .unset, .unset, .unset, .unset, .unset, .unset, .unset, .unset] [(.long ((p3 >>> ((8 : Int32) &&& 31)).toInt64))])) _
    refine XS.lstore X0.here hx rfl (hb hby at_29) rfl (l' := #[.val (.int p1), .val (.int p2), .val (.int p3), .val (.int p4), .val (.int p5), .val (.int p6), .val (.int (own_irem (p6 &&& (2147483647 : Int32)) (4 : Int32))), .val (.long ((p5 >>> ((8 : Int32) &&& 31)).toInt64)), .second, .val (.long ((p2 >>> ((8 : Int32) &&& 31)).toInt64)), .second, .val (.long ((p3 >>> ((8 : Int32) &&& 31)).toInt64)), .second, .unset, .unset, .unset, .unset, .unset, .unset, .unset]) rfl ?_
    show Steps p.tables e below (s₁.setTop (mkF m 31 #[.val (.int p1), .val (.int p2), .val (.int p3), .val (.int p4), .val (.int p5), .val (.int p6), .val (.int (own_irem (p6 &&& (2147483647 : Int32)) (4 : Int32))), .val (.long ((p5 >>> ((8 : Int32) &&& 31)).toInt64)), .second, .val (.long ((p2 >>> ((8 : Int32) &&& 31)).toInt64)), .second, .val (.long ((p3 >>> ((8 : Int32) &&& 31)).toInt64)), .second, .unset, .unset, .unset, .unset, .unset, .unset, .unset] [])) _
    refine XS.iloadN X0.here hx rfl (hb hby at_31) rfl ?_
    show Steps p.tables e below (s₁.setTop (mkF m 32 #[.val (.int p1), .val (.int p2), .val (.int p3), .val (.int p4), .val (.int p5), .val (.int p6), .val (.int (own_irem (p6 &&& (2147483647 : Int32)) (4 : Int32))), .val (.long ((p5 >>> ((8 : Int32) &&& 31)).toInt64)), .second, .val (.long ((p2 >>> ((8 : Int32) &&& 31)).toInt64)), .second, .val (.long ((p3 >>> ((8 : Int32) &&& 31)).toInt64)), .second, .unset, .unset, .unset, .unset, .unset, .unset, .unset] [(.int p4)])) _
    refine XS.bipush X0.here hx rfl (hb hby at_32) ?_
    show Steps p.tables e below (s₁.setTop (mkF m 34 #[.val (.int p1), .val (.int p2), .val (.int p3), .val (.int p4), .val (.int p5), .val (.int p6), .val (.int (own_irem (p6 &&& (2147483647 : Int32)) (4 : Int32))), .val (.long ((p5 >>> ((8 : Int32) &&& 31)).toInt64)), .second, .val (.long ((p2 >>> ((8 : Int32) &&& 31)).toInt64)), .second, .val (.long ((p3 >>> ((8 : Int32) &&& 31)).toInt64)), .second, .unset, .unset, .unset, .unset, .unset, .unset, .unset] [(.int (8 : Int32)), (.int p4)])) _
    refine XS.ishr X0.here hx rfl (hb hby at_34) rfl ?_
    show Steps p.tables e below (s₁.setTop (mkF m 35 #[.val (.int p1), .val (.int p2), .val (.int p3), .val (.int p4), .val (.int p5), .val (.int p6), .val (.int (own_irem (p6 &&& (2147483647 : Int32)) (4 : Int32))), .val (.long ((p5 >>> ((8 : Int32) &&& 31)).toInt64)), .second, .val (.long ((p2 >>> ((8 : Int32) &&& 31)).toInt64)), .second, .val (.long ((p3 >>> ((8 : Int32) &&& 31)).toInt64)), .second, .unset, .unset, .unset, .unset, .unset, .unset, .unset] [(.int (p4 >>> ((8 : Int32) &&& 31)))])) _
    refine XS.i2l X0.here hx rfl (hb hby at_35) rfl ?_
    show Steps p.tables e below (s₁.setTop (mkF m 36 #[.val (.int p1), .val (.int p2), .val (.int p3), .val (.int p4), .val (.int p5), .val (.int p6), .val (.int (own_irem (p6 &&& (2147483647 : Int32)) (4 : Int32))), .val (.long ((p5 >>> ((8 : Int32) &&& 31)).toInt64)), .second, .val (.long ((p2 >>> ((8 : Int32) &&& 31)).toInt64)), .second, .val (.long ((p3 >>> ((8 : Int32) &&& 31)).toInt64)), .second, .unset, .unset, .unset, .unset, .unset, .unset, .unset] [(.long ((p4 >>> ((8 : Int32) &&& 31)).toInt64))])) _
    refine XS.lstore X0.here hx rfl (hb hby at_36) rfl (l' := #[.val (.int p1), .val (.int p2), .val (.int p3), .val (.int p4), .val (.int p5), .val (.int p6), .val (.int (own_irem (p6 &&& (2147483647 : Int32)) (4 : Int32))), .val (.long ((p5 >>> ((8 : Int32) &&& 31)).toInt64)), .second, .val (.long ((p2 >>> ((8 : Int32) &&& 31)).toInt64)), .second, .val (.long ((p3 >>> ((8 : Int32) &&& 31)).toInt64)), .second, .val (.long ((p4 >>> ((8 : Int32) &&& 31)).toInt64)), .second, .unset, .unset, .unset, .unset, .unset]) rfl ?_
    show Steps p.tables e below (s₁.setTop (mkF m 38 #[.val (.int p1), .val (.int p2), .val (.int p3), .val (.int p4), .val (.int p5), .val (.int p6), .val (.int (own_irem (p6 &&& (2147483647 : Int32)) (4 : Int32))), .val (.long ((p5 >>> ((8 : Int32) &&& 31)).toInt64)), .second, .val (.long ((p2 >>> ((8 : Int32) &&& 31)).toInt64)), .second, .val (.long ((p3 >>> ((8 : Int32) &&& 31)).toInt64)), .second, .val (.long ((p4 >>> ((8 : Int32) &&& 31)).toInt64)), .second, .unset, .unset, .unset, .unset, .unset] [])) _
    refine XS.iloadN X0.here hx rfl (hb hby at_38) rfl ?_
    show Steps p.tables e below (s₁.setTop (mkF m 39 #[.val (.int p1), .val (.int p2), .val (.int p3), .val (.int p4), .val (.int p5), .val (.int p6), .val (.int (own_irem (p6 &&& (2147483647 : Int32)) (4 : Int32))), .val (.long ((p5 >>> ((8 : Int32) &&& 31)).toInt64)), .second, .val (.long ((p2 >>> ((8 : Int32) &&& 31)).toInt64)), .second, .val (.long ((p3 >>> ((8 : Int32) &&& 31)).toInt64)), .second, .val (.long ((p4 >>> ((8 : Int32) &&& 31)).toInt64)), .second, .unset, .unset, .unset, .unset, .unset] [(.int p1)])) _
    refine XS.i2dS X0.here hx rfl (hb hby at_39) rfl (i2d_w _) ?_
    show Steps p.tables e below (s₁.setTop (mkF m 40 #[.val (.int p1), .val (.int p2), .val (.int p3), .val (.int p4), .val (.int p5), .val (.int p6), .val (.int (own_irem (p6 &&& (2147483647 : Int32)) (4 : Int32))), .val (.long ((p5 >>> ((8 : Int32) &&& 31)).toInt64)), .second, .val (.long ((p2 >>> ((8 : Int32) &&& 31)).toInt64)), .second, .val (.long ((p3 >>> ((8 : Int32) &&& 31)).toInt64)), .second, .val (.long ((p4 >>> ((8 : Int32) &&& 31)).toInt64)), .second, .unset, .unset, .unset, .unset, .unset] [(.double (FP.l2d (p1.toInt64)))])) _
    refine XS.dstore X0.here hx rfl (hb hby at_40) rfl (l' := #[.val (.int p1), .val (.int p2), .val (.int p3), .val (.int p4), .val (.int p5), .val (.int p6), .val (.int (own_irem (p6 &&& (2147483647 : Int32)) (4 : Int32))), .val (.long ((p5 >>> ((8 : Int32) &&& 31)).toInt64)), .second, .val (.long ((p2 >>> ((8 : Int32) &&& 31)).toInt64)), .second, .val (.long ((p3 >>> ((8 : Int32) &&& 31)).toInt64)), .second, .val (.long ((p4 >>> ((8 : Int32) &&& 31)).toInt64)), .second, .val (.double (FP.l2d (p1.toInt64))), .second, .unset, .unset, .unset]) rfl ?_
    show Steps p.tables e below (s₁.setTop (mkF m 42 #[.val (.int p1), .val (.int p2), .val (.int p3), .val (.int p4), .val (.int p5), .val (.int p6), .val (.int (own_irem (p6 &&& (2147483647 : Int32)) (4 : Int32))), .val (.long ((p5 >>> ((8 : Int32) &&& 31)).toInt64)), .second, .val (.long ((p2 >>> ((8 : Int32) &&& 31)).toInt64)), .second, .val (.long ((p3 >>> ((8 : Int32) &&& 31)).toInt64)), .second, .val (.long ((p4 >>> ((8 : Int32) &&& 31)).toInt64)), .second, .val (.double (FP.l2d (p1.toInt64))), .second, .unset, .unset, .unset] [])) _
    refine XS.iload X0.here hx rfl (hb hby at_42) rfl ?_
    show Steps p.tables e below (s₁.setTop (mkF m 44 #[.val (.int p1), .val (.int p2), .val (.int p3), .val (.int p4), .val (.int p5), .val (.int p6), .val (.int (own_irem (p6 &&& (2147483647 : Int32)) (4 : Int32))), .val (.long ((p5 >>> ((8 : Int32) &&& 31)).toInt64)), .second, .val (.long ((p2 >>> ((8 : Int32) &&& 31)).toInt64)), .second, .val (.long ((p3 >>> ((8 : Int32) &&& 31)).toInt64)), .second, .val (.long ((p4 >>> ((8 : Int32) &&& 31)).toInt64)), .second, .val (.double (FP.l2d (p1.toInt64))), .second, .unset, .unset, .unset] [(.int (own_irem (p6 &&& (2147483647 : Int32)) (4 : Int32)))])) _
    refine XS.ifYes X0.here hx rfl (pc0 := 44) (pc' := 68) rfl (hb hby at_44) rfl ((if0 _ _).trans (feq hc44).2) (by decide) (by decide) ?_
    show Steps p.tables e below (s₁.setTop (mkF m 68 #[.val (.int p1), .val (.int p2), .val (.int p3), .val (.int p4), .val (.int p5), .val (.int p6), .val (.int (own_irem (p6 &&& (2147483647 : Int32)) (4 : Int32))), .val (.long ((p5 >>> ((8 : Int32) &&& 31)).toInt64)), .second, .val (.long ((p2 >>> ((8 : Int32) &&& 31)).toInt64)), .second, .val (.long ((p3 >>> ((8 : Int32) &&& 31)).toInt64)), .second, .val (.long ((p4 >>> ((8 : Int32) &&& 31)).toInt64)), .second, .val (.double (FP.l2d (p1.toInt64))), .second, .unset, .unset, .unset] [])) _
    refine XS.iload X0.here hx rfl (hb hby at_68) rfl ?_
    show Steps p.tables e below (s₁.setTop (mkF m 70 #[.val (.int p1), .val (.int p2), .val (.int p3), .val (.int p4), .val (.int p5), .val (.int p6), .val (.int (own_irem (p6 &&& (2147483647 : Int32)) (4 : Int32))), .val (.long ((p5 >>> ((8 : Int32) &&& 31)).toInt64)), .second, .val (.long ((p2 >>> ((8 : Int32) &&& 31)).toInt64)), .second, .val (.long ((p3 >>> ((8 : Int32) &&& 31)).toInt64)), .second, .val (.long ((p4 >>> ((8 : Int32) &&& 31)).toInt64)), .second, .val (.double (FP.l2d (p1.toInt64))), .second, .unset, .unset, .unset] [(.int (own_irem (p6 &&& (2147483647 : Int32)) (4 : Int32)))])) _
    refine XS.iconst X0.here hx rfl (hb hby at_70) ?_
    show Steps p.tables e below (s₁.setTop (mkF m 71 #[.val (.int p1), .val (.int p2), .val (.int p3), .val (.int p4), .val (.int p5), .val (.int p6), .val (.int (own_irem (p6 &&& (2147483647 : Int32)) (4 : Int32))), .val (.long ((p5 >>> ((8 : Int32) &&& 31)).toInt64)), .second, .val (.long ((p2 >>> ((8 : Int32) &&& 31)).toInt64)), .second, .val (.long ((p3 >>> ((8 : Int32) &&& 31)).toInt64)), .second, .val (.long ((p4 >>> ((8 : Int32) &&& 31)).toInt64)), .second, .val (.double (FP.l2d (p1.toInt64))), .second, .unset, .unset, .unset] [(.int (1 : Int32)), (.int (own_irem (p6 &&& (2147483647 : Int32)) (4 : Int32)))])) _
    refine XS.icmpNo X0.here hx rfl (hb hby at_71) rfl (teq hc71).2 ?_
    show Steps p.tables e below (s₁.setTop (mkF m 74 #[.val (.int p1), .val (.int p2), .val (.int p3), .val (.int p4), .val (.int p5), .val (.int p6), .val (.int (own_irem (p6 &&& (2147483647 : Int32)) (4 : Int32))), .val (.long ((p5 >>> ((8 : Int32) &&& 31)).toInt64)), .second, .val (.long ((p2 >>> ((8 : Int32) &&& 31)).toInt64)), .second, .val (.long ((p3 >>> ((8 : Int32) &&& 31)).toInt64)), .second, .val (.long ((p4 >>> ((8 : Int32) &&& 31)).toInt64)), .second, .val (.double (FP.l2d (p1.toInt64))), .second, .unset, .unset, .unset] [])) _
    refine XS.iconst X0.here hx rfl (hb hby at_74) ?_
    show Steps p.tables e below (s₁.setTop (mkF m 75 #[.val (.int p1), .val (.int p2), .val (.int p3), .val (.int p4), .val (.int p5), .val (.int p6), .val (.int (own_irem (p6 &&& (2147483647 : Int32)) (4 : Int32))), .val (.long ((p5 >>> ((8 : Int32) &&& 31)).toInt64)), .second, .val (.long ((p2 >>> ((8 : Int32) &&& 31)).toInt64)), .second, .val (.long ((p3 >>> ((8 : Int32) &&& 31)).toInt64)), .second, .val (.long ((p4 >>> ((8 : Int32) &&& 31)).toInt64)), .second, .val (.double (FP.l2d (p1.toInt64))), .second, .unset, .unset, .unset] [(.int (3 : Int32))])) _
    refine st7 _ ?_
    show Steps p.tables e below (T7.setTop (mkF m 77 #[.val (.int p1), .val (.int p2), .val (.int p3), .val (.int p4), .val (.int p5), .val (.int p6), .val (.int (own_irem (p6 &&& (2147483647 : Int32)) (4 : Int32))), .val (.long ((p5 >>> ((8 : Int32) &&& 31)).toInt64)), .second, .val (.long ((p2 >>> ((8 : Int32) &&& 31)).toInt64)), .second, .val (.long ((p3 >>> ((8 : Int32) &&& 31)).toInt64)), .second, .val (.long ((p4 >>> ((8 : Int32) &&& 31)).toInt64)), .second, .val (.double (FP.l2d (p1.toInt64))), .second, .unset, .unset, .unset] [(.ref b7)])) _
    refine XS.astore X7.here hx rfl (hb hby at_77) rfl rfl (l' := #[.val (.int p1), .val (.int p2), .val (.int p3), .val (.int p4), .val (.int p5), .val (.int p6), .val (.int (own_irem (p6 &&& (2147483647 : Int32)) (4 : Int32))), .val (.long ((p5 >>> ((8 : Int32) &&& 31)).toInt64)), .second, .val (.long ((p2 >>> ((8 : Int32) &&& 31)).toInt64)), .second, .val (.long ((p3 >>> ((8 : Int32) &&& 31)).toInt64)), .second, .val (.long ((p4 >>> ((8 : Int32) &&& 31)).toInt64)), .second, .val (.double (FP.l2d (p1.toInt64))), .second, .val (.ref b7), .unset, .unset]) rfl ?_
    show Steps p.tables e below (T7.setTop (mkF m 79 #[.val (.int p1), .val (.int p2), .val (.int p3), .val (.int p4), .val (.int p5), .val (.int p6), .val (.int (own_irem (p6 &&& (2147483647 : Int32)) (4 : Int32))), .val (.long ((p5 >>> ((8 : Int32) &&& 31)).toInt64)), .second, .val (.long ((p2 >>> ((8 : Int32) &&& 31)).toInt64)), .second, .val (.long ((p3 >>> ((8 : Int32) &&& 31)).toInt64)), .second, .val (.long ((p4 >>> ((8 : Int32) &&& 31)).toInt64)), .second, .val (.double (FP.l2d (p1.toInt64))), .second, .val (.ref b7), .unset, .unset] [])) _
    refine XS.aload X7.here hx rfl (hb hby at_79) rfl rfl ?_
    show Steps p.tables e below (T7.setTop (mkF m 81 #[.val (.int p1), .val (.int p2), .val (.int p3), .val (.int p4), .val (.int p5), .val (.int p6), .val (.int (own_irem (p6 &&& (2147483647 : Int32)) (4 : Int32))), .val (.long ((p5 >>> ((8 : Int32) &&& 31)).toInt64)), .second, .val (.long ((p2 >>> ((8 : Int32) &&& 31)).toInt64)), .second, .val (.long ((p3 >>> ((8 : Int32) &&& 31)).toInt64)), .second, .val (.long ((p4 >>> ((8 : Int32) &&& 31)).toInt64)), .second, .val (.double (FP.l2d (p1.toInt64))), .second, .val (.ref b7), .unset, .unset] [(.ref b7)])) _
    refine XS.iconst X7.here hx rfl (hb hby at_81) ?_
    show Steps p.tables e below (T7.setTop (mkF m 82 #[.val (.int p1), .val (.int p2), .val (.int p3), .val (.int p4), .val (.int p5), .val (.int p6), .val (.int (own_irem (p6 &&& (2147483647 : Int32)) (4 : Int32))), .val (.long ((p5 >>> ((8 : Int32) &&& 31)).toInt64)), .second, .val (.long ((p2 >>> ((8 : Int32) &&& 31)).toInt64)), .second, .val (.long ((p3 >>> ((8 : Int32) &&& 31)).toInt64)), .second, .val (.long ((p4 >>> ((8 : Int32) &&& 31)).toInt64)), .second, .val (.double (FP.l2d (p1.toInt64))), .second, .val (.ref b7), .unset, .unset] [(.int (0 : Int32)), (.ref b7)])) _
    refine XS.dload X7.here hx rfl (hb hby at_82) rfl ?_
    show Steps p.tables e below (T7.setTop (mkF m 84 #[.val (.int p1), .val (.int p2), .val (.int p3), .val (.int p4), .val (.int p5), .val (.int p6), .val (.int (own_irem (p6 &&& (2147483647 : Int32)) (4 : Int32))), .val (.long ((p5 >>> ((8 : Int32) &&& 31)).toInt64)), .second, .val (.long ((p2 >>> ((8 : Int32) &&& 31)).toInt64)), .second, .val (.long ((p3 >>> ((8 : Int32) &&& 31)).toInt64)), .second, .val (.long ((p4 >>> ((8 : Int32) &&& 31)).toInt64)), .second, .val (.double (FP.l2d (p1.toInt64))), .second, .val (.ref b7), .unset, .unset] [(.double (FP.l2d (p1.toInt64))), (.int (0 : Int32)), (.ref b7)])) _
    refine st8 _ ?_
    show Steps p.tables e below (T8.setTop (mkF m 85 #[.val (.int p1), .val (.int p2), .val (.int p3), .val (.int p4), .val (.int p5), .val (.int p6), .val (.int (own_irem (p6 &&& (2147483647 : Int32)) (4 : Int32))), .val (.long ((p5 >>> ((8 : Int32) &&& 31)).toInt64)), .second, .val (.long ((p2 >>> ((8 : Int32) &&& 31)).toInt64)), .second, .val (.long ((p3 >>> ((8 : Int32) &&& 31)).toInt64)), .second, .val (.long ((p4 >>> ((8 : Int32) &&& 31)).toInt64)), .second, .val (.double (FP.l2d (p1.toInt64))), .second, .val (.ref b7), .unset, .unset] [])) _
    refine XS.aload X8.here hx rfl (hb hby at_85) rfl rfl ?_
    show Steps p.tables e below (T8.setTop (mkF m 87 #[.val (.int p1), .val (.int p2), .val (.int p3), .val (.int p4), .val (.int p5), .val (.int p6), .val (.int (own_irem (p6 &&& (2147483647 : Int32)) (4 : Int32))), .val (.long ((p5 >>> ((8 : Int32) &&& 31)).toInt64)), .second, .val (.long ((p2 >>> ((8 : Int32) &&& 31)).toInt64)), .second, .val (.long ((p3 >>> ((8 : Int32) &&& 31)).toInt64)), .second, .val (.long ((p4 >>> ((8 : Int32) &&& 31)).toInt64)), .second, .val (.double (FP.l2d (p1.toInt64))), .second, .val (.ref b7), .unset, .unset] [(.ref b7)])) _
    refine XS.iconst X8.here hx rfl (hb hby at_87) ?_
    show Steps p.tables e below (T8.setTop (mkF m 88 #[.val (.int p1), .val (.int p2), .val (.int p3), .val (.int p4), .val (.int p5), .val (.int p6), .val (.int (own_irem (p6 &&& (2147483647 : Int32)) (4 : Int32))), .val (.long ((p5 >>> ((8 : Int32) &&& 31)).toInt64)), .second, .val (.long ((p2 >>> ((8 : Int32) &&& 31)).toInt64)), .second, .val (.long ((p3 >>> ((8 : Int32) &&& 31)).toInt64)), .second, .val (.long ((p4 >>> ((8 : Int32) &&& 31)).toInt64)), .second, .val (.double (FP.l2d (p1.toInt64))), .second, .val (.ref b7), .unset, .unset] [(.int (1 : Int32)), (.ref b7)])) _
    refine XS.lload X8.here hx rfl (hb hby at_88) rfl ?_
    show Steps p.tables e below (T8.setTop (mkF m 90 #[.val (.int p1), .val (.int p2), .val (.int p3), .val (.int p4), .val (.int p5), .val (.int p6), .val (.int (own_irem (p6 &&& (2147483647 : Int32)) (4 : Int32))), .val (.long ((p5 >>> ((8 : Int32) &&& 31)).toInt64)), .second, .val (.long ((p2 >>> ((8 : Int32) &&& 31)).toInt64)), .second, .val (.long ((p3 >>> ((8 : Int32) &&& 31)).toInt64)), .second, .val (.long ((p4 >>> ((8 : Int32) &&& 31)).toInt64)), .second, .val (.double (FP.l2d (p1.toInt64))), .second, .val (.ref b7), .unset, .unset] [(.long ((p2 >>> ((8 : Int32) &&& 31)).toInt64)), (.int (1 : Int32)), (.ref b7)])) _
    refine XS.l2dS X8.here hx rfl (hb hby at_90) rfl rfl ?_
    show Steps p.tables e below (T8.setTop (mkF m 91 #[.val (.int p1), .val (.int p2), .val (.int p3), .val (.int p4), .val (.int p5), .val (.int p6), .val (.int (own_irem (p6 &&& (2147483647 : Int32)) (4 : Int32))), .val (.long ((p5 >>> ((8 : Int32) &&& 31)).toInt64)), .second, .val (.long ((p2 >>> ((8 : Int32) &&& 31)).toInt64)), .second, .val (.long ((p3 >>> ((8 : Int32) &&& 31)).toInt64)), .second, .val (.long ((p4 >>> ((8 : Int32) &&& 31)).toInt64)), .second, .val (.double (FP.l2d (p1.toInt64))), .second, .val (.ref b7), .unset, .unset] [(.double (FP.l2d ((p2 >>> ((8 : Int32) &&& 31)).toInt64))), (.int (1 : Int32)), (.ref b7)])) _
    refine st9 _ ?_
    show Steps p.tables e below (T9.setTop (mkF m 92 #[.val (.int p1), .val (.int p2), .val (.int p3), .val (.int p4), .val (.int p5), .val (.int p6), .val (.int (own_irem (p6 &&& (2147483647 : Int32)) (4 : Int32))), .val (.long ((p5 >>> ((8 : Int32) &&& 31)).toInt64)), .second, .val (.long ((p2 >>> ((8 : Int32) &&& 31)).toInt64)), .second, .val (.long ((p3 >>> ((8 : Int32) &&& 31)).toInt64)), .second, .val (.long ((p4 >>> ((8 : Int32) &&& 31)).toInt64)), .second, .val (.double (FP.l2d (p1.toInt64))), .second, .val (.ref b7), .unset, .unset] [])) _
    refine XS.aload X9.here hx rfl (hb hby at_92) rfl rfl ?_
    show Steps p.tables e below (T9.setTop (mkF m 94 #[.val (.int p1), .val (.int p2), .val (.int p3), .val (.int p4), .val (.int p5), .val (.int p6), .val (.int (own_irem (p6 &&& (2147483647 : Int32)) (4 : Int32))), .val (.long ((p5 >>> ((8 : Int32) &&& 31)).toInt64)), .second, .val (.long ((p2 >>> ((8 : Int32) &&& 31)).toInt64)), .second, .val (.long ((p3 >>> ((8 : Int32) &&& 31)).toInt64)), .second, .val (.long ((p4 >>> ((8 : Int32) &&& 31)).toInt64)), .second, .val (.double (FP.l2d (p1.toInt64))), .second, .val (.ref b7), .unset, .unset] [(.ref b7)])) _
    refine XS.iconst X9.here hx rfl (hb hby at_94) ?_
    show Steps p.tables e below (T9.setTop (mkF m 95 #[.val (.int p1), .val (.int p2), .val (.int p3), .val (.int p4), .val (.int p5), .val (.int p6), .val (.int (own_irem (p6 &&& (2147483647 : Int32)) (4 : Int32))), .val (.long ((p5 >>> ((8 : Int32) &&& 31)).toInt64)), .second, .val (.long ((p2 >>> ((8 : Int32) &&& 31)).toInt64)), .second, .val (.long ((p3 >>> ((8 : Int32) &&& 31)).toInt64)), .second, .val (.long ((p4 >>> ((8 : Int32) &&& 31)).toInt64)), .second, .val (.double (FP.l2d (p1.toInt64))), .second, .val (.ref b7), .unset, .unset] [(.int (2 : Int32)), (.ref b7)])) _
    refine X9.ldc2Long hx hown (mvT hZ (hw _ (List.mem_of_getElem? (i := 10) rfl))) (g := (mkF m 95 #[.val (.int p1), .val (.int p2), .val (.int p3), .val (.int p4), .val (.int p5), .val (.int p6), .val (.int (own_irem (p6 &&& (2147483647 : Int32)) (4 : Int32))), .val (.long ((p5 >>> ((8 : Int32) &&& 31)).toInt64)), .second, .val (.long ((p2 >>> ((8 : Int32) &&& 31)).toInt64)), .second, .val (.long ((p3 >>> ((8 : Int32) &&& 31)).toInt64)), .second, .val (.long ((p4 >>> ((8 : Int32) &&& 31)).toInt64)), .second, .val (.double (FP.l2d (p1.toInt64))), .second, .val (.ref b7), .unset, .unset] [(.int (2 : Int32)), (.ref b7)])) rfl (hb hby at_95) _ ?_
    show Steps p.tables e below (T9.setTop (mkF m 98 #[.val (.int p1), .val (.int p2), .val (.int p3), .val (.int p4), .val (.int p5), .val (.int p6), .val (.int (own_irem (p6 &&& (2147483647 : Int32)) (4 : Int32))), .val (.long ((p5 >>> ((8 : Int32) &&& 31)).toInt64)), .second, .val (.long ((p2 >>> ((8 : Int32) &&& 31)).toInt64)), .second, .val (.long ((p3 >>> ((8 : Int32) &&& 31)).toInt64)), .second, .val (.long ((p4 >>> ((8 : Int32) &&& 31)).toInt64)), .second, .val (.double (FP.l2d (p1.toInt64))), .second, .val (.ref b7), .unset, .unset] [(.long (2 : Int64)), (.int (2 : Int32)), (.ref b7)])) _
    refine XS.lload X9.here hx rfl (hb hby at_98) rfl ?_
    show Steps p.tables e below (T9.setTop (mkF m 100 #[.val (.int p1), .val (.int p2), .val (.int p3), .val (.int p4), .val (.int p5), .val (.int p6), .val (.int (own_irem (p6 &&& (2147483647 : Int32)) (4 : Int32))), .val (.long ((p5 >>> ((8 : Int32) &&& 31)).toInt64)), .second, .val (.long ((p2 >>> ((8 : Int32) &&& 31)).toInt64)), .second, .val (.long ((p3 >>> ((8 : Int32) &&& 31)).toInt64)), .second, .val (.long ((p4 >>> ((8 : Int32) &&& 31)).toInt64)), .second, .val (.double (FP.l2d (p1.toInt64))), .second, .val (.ref b7), .unset, .unset] [(.long ((p5 >>> ((8 : Int32) &&& 31)).toInt64)), (.long (2 : Int64)), (.int (2 : Int32)), (.ref b7)])) _
    refine XS.lmul X9.here hx rfl (hb hby at_100) rfl ?_
    show Steps p.tables e below (T9.setTop (mkF m 101 #[.val (.int p1), .val (.int p2), .val (.int p3), .val (.int p4), .val (.int p5), .val (.int p6), .val (.int (own_irem (p6 &&& (2147483647 : Int32)) (4 : Int32))), .val (.long ((p5 >>> ((8 : Int32) &&& 31)).toInt64)), .second, .val (.long ((p2 >>> ((8 : Int32) &&& 31)).toInt64)), .second, .val (.long ((p3 >>> ((8 : Int32) &&& 31)).toInt64)), .second, .val (.long ((p4 >>> ((8 : Int32) &&& 31)).toInt64)), .second, .val (.double (FP.l2d (p1.toInt64))), .second, .val (.ref b7), .unset, .unset] [(.long ((2 : Int64) * ((p5 >>> ((8 : Int32) &&& 31)).toInt64))), (.int (2 : Int32)), (.ref b7)])) _
    refine XS.lload X9.here hx rfl (hb hby at_101) rfl ?_
    show Steps p.tables e below (T9.setTop (mkF m 103 #[.val (.int p1), .val (.int p2), .val (.int p3), .val (.int p4), .val (.int p5), .val (.int p6), .val (.int (own_irem (p6 &&& (2147483647 : Int32)) (4 : Int32))), .val (.long ((p5 >>> ((8 : Int32) &&& 31)).toInt64)), .second, .val (.long ((p2 >>> ((8 : Int32) &&& 31)).toInt64)), .second, .val (.long ((p3 >>> ((8 : Int32) &&& 31)).toInt64)), .second, .val (.long ((p4 >>> ((8 : Int32) &&& 31)).toInt64)), .second, .val (.double (FP.l2d (p1.toInt64))), .second, .val (.ref b7), .unset, .unset] [(.long ((p2 >>> ((8 : Int32) &&& 31)).toInt64)), (.long ((2 : Int64) * ((p5 >>> ((8 : Int32) &&& 31)).toInt64))), (.int (2 : Int32)), (.ref b7)])) _
    refine XS.lsub X9.here hx rfl (hb hby at_103) rfl ?_
    show Steps p.tables e below (T9.setTop (mkF m 104 #[.val (.int p1), .val (.int p2), .val (.int p3), .val (.int p4), .val (.int p5), .val (.int p6), .val (.int (own_irem (p6 &&& (2147483647 : Int32)) (4 : Int32))), .val (.long ((p5 >>> ((8 : Int32) &&& 31)).toInt64)), .second, .val (.long ((p2 >>> ((8 : Int32) &&& 31)).toInt64)), .second, .val (.long ((p3 >>> ((8 : Int32) &&& 31)).toInt64)), .second, .val (.long ((p4 >>> ((8 : Int32) &&& 31)).toInt64)), .second, .val (.double (FP.l2d (p1.toInt64))), .second, .val (.ref b7), .unset, .unset] [(.long (((2 : Int64) * ((p5 >>> ((8 : Int32) &&& 31)).toInt64)) - ((p2 >>> ((8 : Int32) &&& 31)).toInt64))), (.int (2 : Int32)), (.ref b7)])) _
    refine XS.l2dS X9.here hx rfl (hb hby at_104) rfl rfl ?_
    show Steps p.tables e below (T9.setTop (mkF m 105 #[.val (.int p1), .val (.int p2), .val (.int p3), .val (.int p4), .val (.int p5), .val (.int p6), .val (.int (own_irem (p6 &&& (2147483647 : Int32)) (4 : Int32))), .val (.long ((p5 >>> ((8 : Int32) &&& 31)).toInt64)), .second, .val (.long ((p2 >>> ((8 : Int32) &&& 31)).toInt64)), .second, .val (.long ((p3 >>> ((8 : Int32) &&& 31)).toInt64)), .second, .val (.long ((p4 >>> ((8 : Int32) &&& 31)).toInt64)), .second, .val (.double (FP.l2d (p1.toInt64))), .second, .val (.ref b7), .unset, .unset] [(.double (FP.l2d (((2 : Int64) * ((p5 >>> ((8 : Int32) &&& 31)).toInt64)) - ((p2 >>> ((8 : Int32) &&& 31)).toInt64)))), (.int (2 : Int32)), (.ref b7)])) _
    refine st10 _ ?_
    show Steps p.tables e below (T10.setTop (mkF m 106 #[.val (.int p1), .val (.int p2), .val (.int p3), .val (.int p4), .val (.int p5), .val (.int p6), .val (.int (own_irem (p6 &&& (2147483647 : Int32)) (4 : Int32))), .val (.long ((p5 >>> ((8 : Int32) &&& 31)).toInt64)), .second, .val (.long ((p2 >>> ((8 : Int32) &&& 31)).toInt64)), .second, .val (.long ((p3 >>> ((8 : Int32) &&& 31)).toInt64)), .second, .val (.long ((p4 >>> ((8 : Int32) &&& 31)).toInt64)), .second, .val (.double (FP.l2d (p1.toInt64))), .second, .val (.ref b7), .unset, .unset] [])) _
    refine XS.goto X10.here hx rfl (pc0 := 106) (pc' := 212) rfl (hb hby at_106) (by decide) (by decide) ?_
    show Steps p.tables e below (T10.setTop (mkF m 212 #[.val (.int p1), .val (.int p2), .val (.int p3), .val (.int p4), .val (.int p5), .val (.int p6), .val (.int (own_irem (p6 &&& (2147483647 : Int32)) (4 : Int32))), .val (.long ((p5 >>> ((8 : Int32) &&& 31)).toInt64)), .second, .val (.long ((p2 >>> ((8 : Int32) &&& 31)).toInt64)), .second, .val (.long ((p3 >>> ((8 : Int32) &&& 31)).toInt64)), .second, .val (.long ((p4 >>> ((8 : Int32) &&& 31)).toInt64)), .second, .val (.double (FP.l2d (p1.toInt64))), .second, .val (.ref b7), .unset, .unset] [])) _
    refine XS.lconst X10.here hx rfl (hb hby at_212) ?_
    show Steps p.tables e below (T10.setTop (mkF m 213 #[.val (.int p1), .val (.int p2), .val (.int p3), .val (.int p4), .val (.int p5), .val (.int p6), .val (.int (own_irem (p6 &&& (2147483647 : Int32)) (4 : Int32))), .val (.long ((p5 >>> ((8 : Int32) &&& 31)).toInt64)), .second, .val (.long ((p2 >>> ((8 : Int32) &&& 31)).toInt64)), .second, .val (.long ((p3 >>> ((8 : Int32) &&& 31)).toInt64)), .second, .val (.long ((p4 >>> ((8 : Int32) &&& 31)).toInt64)), .second, .val (.double (FP.l2d (p1.toInt64))), .second, .val (.ref b7), .unset, .unset] [(.long (1 : Int64))])) _
    refine X10.ldc2Long hx hown (mvT hZ (hw _ (List.mem_of_getElem? (i := 3) rfl))) (g := (mkF m 213 #[.val (.int p1), .val (.int p2), .val (.int p3), .val (.int p4), .val (.int p5), .val (.int p6), .val (.int (own_irem (p6 &&& (2147483647 : Int32)) (4 : Int32))), .val (.long ((p5 >>> ((8 : Int32) &&& 31)).toInt64)), .second, .val (.long ((p2 >>> ((8 : Int32) &&& 31)).toInt64)), .second, .val (.long ((p3 >>> ((8 : Int32) &&& 31)).toInt64)), .second, .val (.long ((p4 >>> ((8 : Int32) &&& 31)).toInt64)), .second, .val (.double (FP.l2d (p1.toInt64))), .second, .val (.ref b7), .unset, .unset] [(.long (1 : Int64))])) rfl (hb hby at_213) _ ?_
    show Steps p.tables e below (T10.setTop (mkF m 216 #[.val (.int p1), .val (.int p2), .val (.int p3), .val (.int p4), .val (.int p5), .val (.int p6), .val (.int (own_irem (p6 &&& (2147483647 : Int32)) (4 : Int32))), .val (.long ((p5 >>> ((8 : Int32) &&& 31)).toInt64)), .second, .val (.long ((p2 >>> ((8 : Int32) &&& 31)).toInt64)), .second, .val (.long ((p3 >>> ((8 : Int32) &&& 31)).toInt64)), .second, .val (.long ((p4 >>> ((8 : Int32) &&& 31)).toInt64)), .second, .val (.double (FP.l2d (p1.toInt64))), .second, .val (.ref b7), .unset, .unset] [(.long (9 : Int64)), (.long (1 : Int64))])) _
    refine XS.lload X10.here hx rfl (hb hby at_216) rfl ?_
    show Steps p.tables e below (T10.setTop (mkF m 218 #[.val (.int p1), .val (.int p2), .val (.int p3), .val (.int p4), .val (.int p5), .val (.int p6), .val (.int (own_irem (p6 &&& (2147483647 : Int32)) (4 : Int32))), .val (.long ((p5 >>> ((8 : Int32) &&& 31)).toInt64)), .second, .val (.long ((p2 >>> ((8 : Int32) &&& 31)).toInt64)), .second, .val (.long ((p3 >>> ((8 : Int32) &&& 31)).toInt64)), .second, .val (.long ((p4 >>> ((8 : Int32) &&& 31)).toInt64)), .second, .val (.double (FP.l2d (p1.toInt64))), .second, .val (.ref b7), .unset, .unset] [(.long ((p5 >>> ((8 : Int32) &&& 31)).toInt64)), (.long (9 : Int64)), (.long (1 : Int64))])) _
    refine XS.lmul X10.here hx rfl (hb hby at_218) rfl ?_
    show Steps p.tables e below (T10.setTop (mkF m 219 #[.val (.int p1), .val (.int p2), .val (.int p3), .val (.int p4), .val (.int p5), .val (.int p6), .val (.int (own_irem (p6 &&& (2147483647 : Int32)) (4 : Int32))), .val (.long ((p5 >>> ((8 : Int32) &&& 31)).toInt64)), .second, .val (.long ((p2 >>> ((8 : Int32) &&& 31)).toInt64)), .second, .val (.long ((p3 >>> ((8 : Int32) &&& 31)).toInt64)), .second, .val (.long ((p4 >>> ((8 : Int32) &&& 31)).toInt64)), .second, .val (.double (FP.l2d (p1.toInt64))), .second, .val (.ref b7), .unset, .unset] [(.long ((9 : Int64) * ((p5 >>> ((8 : Int32) &&& 31)).toInt64))), (.long (1 : Int64))])) _
    refine XS.ladd X10.here hx rfl (hb hby at_219) rfl ?_
    show Steps p.tables e below (T10.setTop (mkF m 220 #[.val (.int p1), .val (.int p2), .val (.int p3), .val (.int p4), .val (.int p5), .val (.int p6), .val (.int (own_irem (p6 &&& (2147483647 : Int32)) (4 : Int32))), .val (.long ((p5 >>> ((8 : Int32) &&& 31)).toInt64)), .second, .val (.long ((p2 >>> ((8 : Int32) &&& 31)).toInt64)), .second, .val (.long ((p3 >>> ((8 : Int32) &&& 31)).toInt64)), .second, .val (.long ((p4 >>> ((8 : Int32) &&& 31)).toInt64)), .second, .val (.double (FP.l2d (p1.toInt64))), .second, .val (.ref b7), .unset, .unset] [(.long ((1 : Int64) + ((9 : Int64) * ((p5 >>> ((8 : Int32) &&& 31)).toInt64))))])) _
    refine XS.l2dS X10.here hx rfl (hb hby at_220) rfl rfl ?_
    show Steps p.tables e below (T10.setTop (mkF m 221 #[.val (.int p1), .val (.int p2), .val (.int p3), .val (.int p4), .val (.int p5), .val (.int p6), .val (.int (own_irem (p6 &&& (2147483647 : Int32)) (4 : Int32))), .val (.long ((p5 >>> ((8 : Int32) &&& 31)).toInt64)), .second, .val (.long ((p2 >>> ((8 : Int32) &&& 31)).toInt64)), .second, .val (.long ((p3 >>> ((8 : Int32) &&& 31)).toInt64)), .second, .val (.long ((p4 >>> ((8 : Int32) &&& 31)).toInt64)), .second, .val (.double (FP.l2d (p1.toInt64))), .second, .val (.ref b7), .unset, .unset] [(.double (FP.l2d ((1 : Int64) + ((9 : Int64) * ((p5 >>> ((8 : Int32) &&& 31)).toInt64)))))])) _
    refine XS.dstore X10.here hx rfl (hb hby at_221) rfl (l' := #[.val (.int p1), .val (.int p2), .val (.int p3), .val (.int p4), .val (.int p5), .val (.int p6), .val (.int (own_irem (p6 &&& (2147483647 : Int32)) (4 : Int32))), .val (.long ((p5 >>> ((8 : Int32) &&& 31)).toInt64)), .second, .val (.long ((p2 >>> ((8 : Int32) &&& 31)).toInt64)), .second, .val (.long ((p3 >>> ((8 : Int32) &&& 31)).toInt64)), .second, .val (.long ((p4 >>> ((8 : Int32) &&& 31)).toInt64)), .second, .val (.double (FP.l2d (p1.toInt64))), .second, .val (.ref b7), .val (.double (FP.l2d ((1 : Int64) + ((9 : Int64) * ((p5 >>> ((8 : Int32) &&& 31)).toInt64))))), .second]) rfl ?_
    show Steps p.tables e below (T10.setTop (mkF m 223 #[.val (.int p1), .val (.int p2), .val (.int p3), .val (.int p4), .val (.int p5), .val (.int p6), .val (.int (own_irem (p6 &&& (2147483647 : Int32)) (4 : Int32))), .val (.long ((p5 >>> ((8 : Int32) &&& 31)).toInt64)), .second, .val (.long ((p2 >>> ((8 : Int32) &&& 31)).toInt64)), .second, .val (.long ((p3 >>> ((8 : Int32) &&& 31)).toInt64)), .second, .val (.long ((p4 >>> ((8 : Int32) &&& 31)).toInt64)), .second, .val (.double (FP.l2d (p1.toInt64))), .second, .val (.ref b7), .val (.double (FP.l2d ((1 : Int64) + ((9 : Int64) * ((p5 >>> ((8 : Int32) &&& 31)).toInt64))))), .second] [])) _
    refine XS.aload X10.here hx rfl (hb hby at_223) rfl rfl ?_
    show Steps p.tables e below (T10.setTop (mkF m 225 #[.val (.int p1), .val (.int p2), .val (.int p3), .val (.int p4), .val (.int p5), .val (.int p6), .val (.int (own_irem (p6 &&& (2147483647 : Int32)) (4 : Int32))), .val (.long ((p5 >>> ((8 : Int32) &&& 31)).toInt64)), .second, .val (.long ((p2 >>> ((8 : Int32) &&& 31)).toInt64)), .second, .val (.long ((p3 >>> ((8 : Int32) &&& 31)).toInt64)), .second, .val (.long ((p4 >>> ((8 : Int32) &&& 31)).toInt64)), .second, .val (.double (FP.l2d (p1.toInt64))), .second, .val (.ref b7), .val (.double (FP.l2d ((1 : Int64) + ((9 : Int64) * ((p5 >>> ((8 : Int32) &&& 31)).toInt64))))), .second] [(.ref b7)])) _
    refine st11 _ ?_
    show Steps p.tables e below (T11.setTop (mkF m 228 #[.val (.int p1), .val (.int p2), .val (.int p3), .val (.int p4), .val (.int p5), .val (.int p6), .val (.int (own_irem (p6 &&& (2147483647 : Int32)) (4 : Int32))), .val (.long ((p5 >>> ((8 : Int32) &&& 31)).toInt64)), .second, .val (.long ((p2 >>> ((8 : Int32) &&& 31)).toInt64)), .second, .val (.long ((p3 >>> ((8 : Int32) &&& 31)).toInt64)), .second, .val (.long ((p4 >>> ((8 : Int32) &&& 31)).toInt64)), .second, .val (.double (FP.l2d (p1.toInt64))), .second, .val (.ref b7), .val (.double (FP.l2d ((1 : Int64) + ((9 : Int64) * ((p5 >>> ((8 : Int32) &&& 31)).toInt64))))), .second] [(.double (FP.l2d ((1 : Int64) + ((9 : Int64) * ((p5 >>> ((8 : Int32) &&& 31)).toInt64)))))])) _
    refine XS.dload X11.here hx rfl (hb hby at_228) rfl ?_
    show Steps p.tables e below (T11.setTop (mkF m 230 #[.val (.int p1), .val (.int p2), .val (.int p3), .val (.int p4), .val (.int p5), .val (.int p6), .val (.int (own_irem (p6 &&& (2147483647 : Int32)) (4 : Int32))), .val (.long ((p5 >>> ((8 : Int32) &&& 31)).toInt64)), .second, .val (.long ((p2 >>> ((8 : Int32) &&& 31)).toInt64)), .second, .val (.long ((p3 >>> ((8 : Int32) &&& 31)).toInt64)), .second, .val (.long ((p4 >>> ((8 : Int32) &&& 31)).toInt64)), .second, .val (.double (FP.l2d (p1.toInt64))), .second, .val (.ref b7), .val (.double (FP.l2d ((1 : Int64) + ((9 : Int64) * ((p5 >>> ((8 : Int32) &&& 31)).toInt64))))), .second] [(.double (FP.l2d ((1 : Int64) + ((9 : Int64) * ((p5 >>> ((8 : Int32) &&& 31)).toInt64))))), (.double (FP.l2d ((1 : Int64) + ((9 : Int64) * ((p5 >>> ((8 : Int32) &&& 31)).toInt64)))))])) _
    refine XS.dcmpS X11.here hx rfl (hb hby at_230) rfl (dcmpV_w hba230 hbb230 _) ?_
    show Steps p.tables e below (T11.setTop (mkF m 231 #[.val (.int p1), .val (.int p2), .val (.int p3), .val (.int p4), .val (.int p5), .val (.int p6), .val (.int (own_irem (p6 &&& (2147483647 : Int32)) (4 : Int32))), .val (.long ((p5 >>> ((8 : Int32) &&& 31)).toInt64)), .second, .val (.long ((p2 >>> ((8 : Int32) &&& 31)).toInt64)), .second, .val (.long ((p3 >>> ((8 : Int32) &&& 31)).toInt64)), .second, .val (.long ((p4 >>> ((8 : Int32) &&& 31)).toInt64)), .second, .val (.double (FP.l2d (p1.toInt64))), .second, .val (.ref b7), .val (.double (FP.l2d ((1 : Int64) + ((9 : Int64) * ((p5 >>> ((8 : Int32) &&& 31)).toInt64))))), .second] [(.int (lcmpW ((1 : Int64) + ((9 : Int64) * ((p5 >>> ((8 : Int32) &&& 31)).toInt64))) ((1 : Int64) + ((9 : Int64) * ((p5 >>> ((8 : Int32) &&& 31)).toInt64)))))])) _
    refine XS.ifNo X11.here hx rfl (hb hby at_231) rfl ((if0 _ _).trans (teq (own_lcself _ : (lcmpW ((1 : Int64) + ((9 : Int64) * ((p5 >>> ((8 : Int32) &&& 31)).toInt64))) ((1 : Int64) + ((9 : Int64) * ((p5 >>> ((8 : Int32) &&& 31)).toInt64)))) = (0 : Int32))).2) ?_
    show Steps p.tables e below (T11.setTop (mkF m 234 #[.val (.int p1), .val (.int p2), .val (.int p3), .val (.int p4), .val (.int p5), .val (.int p6), .val (.int (own_irem (p6 &&& (2147483647 : Int32)) (4 : Int32))), .val (.long ((p5 >>> ((8 : Int32) &&& 31)).toInt64)), .second, .val (.long ((p2 >>> ((8 : Int32) &&& 31)).toInt64)), .second, .val (.long ((p3 >>> ((8 : Int32) &&& 31)).toInt64)), .second, .val (.long ((p4 >>> ((8 : Int32) &&& 31)).toInt64)), .second, .val (.double (FP.l2d (p1.toInt64))), .second, .val (.ref b7), .val (.double (FP.l2d ((1 : Int64) + ((9 : Int64) * ((p5 >>> ((8 : Int32) &&& 31)).toInt64))))), .second] [])) _
    refine XS.iconst X11.here hx rfl (hb hby at_234) ?_
    show Steps p.tables e below (T11.setTop (mkF m 235 #[.val (.int p1), .val (.int p2), .val (.int p3), .val (.int p4), .val (.int p5), .val (.int p6), .val (.int (own_irem (p6 &&& (2147483647 : Int32)) (4 : Int32))), .val (.long ((p5 >>> ((8 : Int32) &&& 31)).toInt64)), .second, .val (.long ((p2 >>> ((8 : Int32) &&& 31)).toInt64)), .second, .val (.long ((p3 >>> ((8 : Int32) &&& 31)).toInt64)), .second, .val (.long ((p4 >>> ((8 : Int32) &&& 31)).toInt64)), .second, .val (.double (FP.l2d (p1.toInt64))), .second, .val (.ref b7), .val (.double (FP.l2d ((1 : Int64) + ((9 : Int64) * ((p5 >>> ((8 : Int32) &&& 31)).toInt64))))), .second] [(.int (1 : Int32))])) _
    refine XS.goto X11.here hx rfl (pc0 := 235) (pc' := 239) rfl (hb hby at_235) (by decide) (by decide) ?_
    show Steps p.tables e below (T11.setTop (mkF m 239 #[.val (.int p1), .val (.int p2), .val (.int p3), .val (.int p4), .val (.int p5), .val (.int p6), .val (.int (own_irem (p6 &&& (2147483647 : Int32)) (4 : Int32))), .val (.long ((p5 >>> ((8 : Int32) &&& 31)).toInt64)), .second, .val (.long ((p2 >>> ((8 : Int32) &&& 31)).toInt64)), .second, .val (.long ((p3 >>> ((8 : Int32) &&& 31)).toInt64)), .second, .val (.long ((p4 >>> ((8 : Int32) &&& 31)).toInt64)), .second, .val (.double (FP.l2d (p1.toInt64))), .second, .val (.ref b7), .val (.double (FP.l2d ((1 : Int64) + ((9 : Int64) * ((p5 >>> ((8 : Int32) &&& 31)).toInt64))))), .second] [(.int (1 : Int32))])) _
    exact retN X11 hx (t := .boolean) Bd.returns (by simp) (hb hby at_239) hr
  · show Q0 Z p1 p2 p3 p4 p5 p6 h0 n0 _ T11.heap _
    exact ⟨rfl, N11⟩
set_option maxRecDepth 65536 in
set_option maxHeartbeats 40000000 in
theorem rm0_4 (l : Launch) (Z : State) (a0 : Array Value) (hw : ∀ d ∈ tables_1, d.before a0 Z = true) (ws : List Jvm.Cond) (p1 : Int32) (p2 : Int32) (p3 : Int32) (p4 : Int32) (p5 : Int32) (p6 : Int32) (h0 : Heap) (n0 : Nat) (Z0 : n0 ≤ h0.size) (hc44 : ¬ ((own_irem (p6 &&& (2147483647 : Int32)) (4 : Int32)) = (0 : Int32))) (hc71 : ¬ ((own_irem (p6 &&& (2147483647 : Int32)) (4 : Int32)) = (1 : Int32))) (hc112 : (own_irem (p6 &&& (2147483647 : Int32)) (4 : Int32)) = (2 : Int32)) (hba230 : B53 ((1 : Int64) + ((9 : Int64) * ((p5 >>> ((8 : Int32) &&& 31)).toInt64)))) (hbb230 : B53 ((1 : Int64) + ((9 : Int64) * ((p5 >>> ((8 : Int32) &&& 31)).toInt64)))) :
    MetFree l x (head1 (Jvm.Cond.code x code maxLocals ret :: ws) room_1) (fun a U => a = #[(.int p1), (.int p2), (.int p3), (.int p4), (.int p5), (.int p6)] ∧ Z.Warmed39 U.vm ∧ U.heap = h0) (fun _ _ _ _ _ => True) (fun _ U o U' => ∃ v L, o = .returned v ∧ Q0 Z p1 p2 p3 p4 p5 p6 h0 n0 v U'.heap L ∧ FrameEnd U o U' L room_1.cells room_1.slots) := by
  refine MetFree.of_bodySF (plainFor_of_name pn_0) hisR ?_
  intro p e s m args below meth c s₁ Bd hml0 hP hK
  obtain ⟨rfl, hZ, hh⟩ := hP
  have hx := Bd.exec
  have hby := Bd.bytes
  have hml : c.maxLocals = 20 := hml0
  have hown : s.vm.findClass "com/example/paretoloom/paretoloom/problems/ZdtLinearGPinLaw" = some m.cls := findClass_of_methodNamed Bd.named
  have hnm := (name_of_methodNamed Bd.named Bd.method).1
  have X0 : Stand p l e room_1 s m #[(.int p1), (.int p2), (.int p3), (.int p4), (.int p5), (.int p6)] below meth c s₁ [] 0 0 := Stand.of_body Bd
  have e0 : s₁.heap = h0 := by rw [← hh, Bd.state]; rfl
  have N0 := Fr.nil n0
  have pre0 : ∀ t, Steps p.tables e below (s₁.setTop (mkF m 0 #[.val (.int p1), .val (.int p2), .val (.int p3), .val (.int p4), .val (.int p5), .val (.int p6), .unset, .unset, .unset, .unset, .unset, .unset, .unset, .unset, .unset, .unset, .unset, .unset, .unset, .unset] [])) t → Steps p.tables e below (s₁.setTop (entryFrame m #[(.int p1), (.int p2), (.int p3), (.int p4), (.int p5), (.int p6)] maxLocals)) t := fun t k => castTop (ef_0 m p1 p2 p3 p4 p5 p6) k
  -- 3. LAWS
  obtain ⟨T7, h7, k7, X7, e7, E7, A7, st7⟩ := newP X0 hx hZ (hw _ (List.mem_of_getElem? (i := 1) rfl)) e0 (g := (mkF m 116 #[.val (.int p1), .val (.int p2), .val (.int p3), .val (.int p4), .val (.int p5), .val (.int p6), .val (.int (own_irem (p6 &&& (2147483647 : Int32)) (4 : Int32))), .val (.long ((p5 >>> ((8 : Int32) &&& 31)).toInt64)), .second, .val (.long ((p2 >>> ((8 : Int32) &&& 31)).toInt64)), .second, .val (.long ((p3 >>> ((8 : Int32) &&& 31)).toInt64)), .second, .val (.long ((p4 >>> ((8 : Int32) &&& 31)).toInt64)), .second, .val (.double (FP.l2d (p1.toInt64))), .second, .unset, .unset, .unset] [(.int (4 : Int32))])) rfl (hb hby at_116) rfl (by decide) (cap := 4) (by decide) (by decide) (by decide) (by decide)
  obtain ⟨b7, g7⟩ : ∃ z, z = h0.size := ⟨_, rfl⟩      -- the fresh array's address
  rw [← g7] at A7 st7
  have V_b7 : Arv Z h7 b7 k7 .double (4 : Int32) [(.double (FP.l2d 0)), (.double (FP.l2d 0)), (.double (FP.l2d 0)), (.double (FP.l2d 0))] (.double (FP.l2d 0)) := (Arv.newD A7 (by decide)).pad (pad_rep [] (.double (FP.l2d 0)) 4)
  have g_b7 : n0 ≤ b7 := Nat.le_trans Z0 (Nat.le_of_eq g7.symm)
  have sz_b7 : h0.size ≤ b7 := (Nat.le_trans (Keep.refl h0 []).1 (Nat.le_of_eq g7.symm))
  have K7 : Keep h0 h7 [] := (Keep.refl h0 []).ext E7
  obtain ⟨cl_b7_125, Ar_b7, q_b7, S_b7, N_b7, H_b7, G_b7⟩ := V_b7      -- open the array's fact as it stands now (its cell, kind, length, elements)
  have hin125 : ¬ ((0 : Int32) < 0 ∨ cl_b7_125.slots.size ≤ ((0 : Int32)).toNatClampNeg) := inb_of S_b7 ⟨by decide, by decide⟩
  obtain ⟨T8, h8, X8, e8, W8, st8⟩ := stD X7 hx hZ e7 Ar_b7 (j := (0 : Int32)) hin125 (g := (mkF m 125 #[.val (.int p1), .val (.int p2), .val (.int p3), .val (.int p4), .val (.int p5), .val (.int p6), .val (.int (own_irem (p6 &&& (2147483647 : Int32)) (4 : Int32))), .val (.long ((p5 >>> ((8 : Int32) &&& 31)).toInt64)), .second, .val (.long ((p2 >>> ((8 : Int32) &&& 31)).toInt64)), .second, .val (.long ((p3 >>> ((8 : Int32) &&& 31)).toInt64)), .second, .val (.long ((p4 >>> ((8 : Int32) &&& 31)).toInt64)), .second, .val (.double (FP.l2d (p1.toInt64))), .second, .val (.ref b7), .unset, .unset] [(.double (FP.l2d (p1.toInt64))), (.int (0 : Int32)), (.ref b7)])) rfl rfl (hb hby at_125)
  have V_b7_8 := Arv.set Ar_b7 q_b7 S_b7 N_b7 H_b7 G_b7 rfl W8 0 rfl (Nat.le_of_ble_eq_true rfl)      -- the array as it stands now (the place must lie among its first values: Arv.pad with pad_rep lengthens them)
  have K8 : Keep h0 h8 [] := K7.wr W8 (Or.inr sz_b7)
  have N8 := Fr.snoc X8 N0 g_b7
  obtain ⟨cl_b7_132, Ar_b7, q_b7, S_b7, N_b7, H_b7, G_b7⟩ := V_b7_8      -- open the array's fact as it stands now (its cell, kind, length, elements)
  have hin132 : ¬ ((1 : Int32) < 0 ∨ cl_b7_132.slots.size ≤ ((1 : Int32)).toNatClampNeg) := inb_of S_b7 ⟨by decide, by decide⟩
  obtain ⟨T9, h9, X9, e9, W9, st9⟩ := stD X8 hx hZ e8 Ar_b7 (j := (1 : Int32)) hin132 (g := (mkF m 132 #[.val (.int p1), .val (.int p2), .val (.int p3), .val (.int p4), .val (.int p5), .val (.int p6), .val (.int (own_irem (p6 &&& (2147483647 : Int32)) (4 : Int32))), .val (.long ((p5 >>> ((8 : Int32) &&& 31)).toInt64)), .second, .val (.long ((p2 >>> ((8 : Int32) &&& 31)).toInt64)), .second, .val (.long ((p3 >>> ((8 : Int32) &&& 31)).toInt64)), .second, .val (.long ((p4 >>> ((8 : Int32) &&& 31)).toInt64)), .second, .val (.double (FP.l2d (p1.toInt64))), .second, .val (.ref b7), .unset, .unset] [(.double (FP.l2d ((p2 >>> ((8 : Int32) &&& 31)).toInt64))), (.int (1 : Int32)), (.ref b7)])) rfl rfl (hb hby at_132)
  have V_b7_9 := Arv.set Ar_b7 q_b7 S_b7 N_b7 H_b7 G_b7 rfl W9 1 rfl (Nat.le_of_ble_eq_true rfl)      -- the array as it stands now (the place must lie among its first values: Arv.pad with pad_rep lengthens them)
  have K9 : Keep h0 h9 [] := K8.wr W9 (Or.inr sz_b7)
  have N9 := Fr.snoc X9 N8 g_b7
  obtain ⟨cl_b7_139, Ar_b7, q_b7, S_b7, N_b7, H_b7, G_b7⟩ := V_b7_9      -- open the array's fact as it stands now (its cell, kind, length, elements)
  have hin139 : ¬ ((2 : Int32) < 0 ∨ cl_b7_139.slots.size ≤ ((2 : Int32)).toNatClampNeg) := inb_of S_b7 ⟨by decide, by decide⟩
  obtain ⟨T10, h10, X10, e10, W10, st10⟩ := stD X9 hx hZ e9 Ar_b7 (j := (2 : Int32)) hin139 (g := (mkF m 139 #[.val (.int p1), .val (.int p2), .val (.int p3), .val (.int p4), .val (.int p5), .val (.int p6), .val (.int (own_irem (p6 &&& (2147483647 : Int32)) (4 : Int32))), .val (.long ((p5 >>> ((8 : Int32) &&& 31)).toInt64)), .second, .val (.long ((p2 >>> ((8 : Int32) &&& 31)).toInt64)), .second, .val (.long ((p3 >>> ((8 : Int32) &&& 31)).toInt64)), .second, .val (.long ((p4 >>> ((8 : Int32) &&& 31)).toInt64)), .second, .val (.double (FP.l2d (p1.toInt64))), .second, .val (.ref b7), .unset, .unset] [(.double (FP.l2d ((p3 >>> ((8 : Int32) &&& 31)).toInt64))), (.int (2 : Int32)), (.ref b7)])) rfl rfl (hb hby at_139)
  have V_b7_10 := Arv.set Ar_b7 q_b7 S_b7 N_b7 H_b7 G_b7 rfl W10 2 rfl (Nat.le_of_ble_eq_true rfl)      -- the array as it stands now (the place must lie among its first values: Arv.pad with pad_rep lengthens them)
  have K10 : Keep h0 h10 [] := K9.wr W10 (Or.inr sz_b7)
  have N10 := Fr.snoc X10 N9 g_b7
  obtain ⟨cl_b7_156, Ar_b7, q_b7, S_b7, N_b7, H_b7, G_b7⟩ := V_b7_10      -- open the array's fact as it stands now (its cell, kind, length, elements)
  have hin156 : ¬ ((3 : Int32) < 0 ∨ cl_b7_156.slots.size ≤ ((3 : Int32)).toNatClampNeg) := inb_of S_b7 ⟨by decide, by decide⟩
  obtain ⟨T11, h11, X11, e11, W11, st11⟩ := stD X10 hx hZ e10 Ar_b7 (j := (3 : Int32)) hin156 (g := (mkF m 156 #[.val (.int p1), .val (.int p2), .val (.int p3), .val (.int p4), .val (.int p5), .val (.int p6), .val (.int (own_irem (p6 &&& (2147483647 : Int32)) (4 : Int32))), .val (.long ((p5 >>> ((8 : Int32) &&& 31)).toInt64)), .second, .val (.long ((p2 >>> ((8 : Int32) &&& 31)).toInt64)), .second, .val (.long ((p3 >>> ((8 : Int32) &&& 31)).toInt64)), .second, .val (.long ((p4 >>> ((8 : Int32) &&& 31)).toInt64)), .second, .val (.double (FP.l2d (p1.toInt64))), .second, .val (.ref b7), .unset, .unset] [(.double (FP.l2d ((((3 : Int64) * ((p5 >>> ((8 : Int32) &&& 31)).toInt64)) - ((p2 >>> ((8 : Int32) &&& 31)).toInt64)) - ((p3 >>> ((8 : Int32) &&& 31)).toInt64)))), (.int (3 : Int32)), (.ref b7)])) rfl rfl (hb hby at_156)
  have V_b7_11 := Arv.set Ar_b7 q_b7 S_b7 N_b7 H_b7 G_b7 rfl W11 3 rfl (Nat.le_of_ble_eq_true rfl)      -- the array as it stands now (the place must lie among its first values: Arv.pad with pad_rep lengthens them)
  have K11 : Keep h0 h11 [] := K10.wr W11 (Or.inr sz_b7)
  have N11 := Fr.snoc X11 N10 g_b7
  -- pc 225: com/example/paretoloom/paretoloom/problems/Zdt.linearG by its contract rm1
  have Vq : Arv Z h11 b7 k7 .double (4 : Int32) [(.double (FP.l2d (p1.toInt64))), (.double (FP.l2d ((p2 >>> ((8 : Int32) &&& 31)).toInt64))), (.double (FP.l2d ((p3 >>> ((8 : Int32) &&& 31)).toInt64))), (.double (FP.l2d ((((3 : Int64) * ((p5 >>> ((8 : Int32) &&& 31)).toInt64)) - ((p2 >>> ((8 : Int32) &&& 31)).toInt64)) - ((p3 >>> ((8 : Int32) &&& 31)).toInt64))))] (.double (FP.l2d 0)) := V_b7_11
  obtain ⟨_, _, ⟨T12, L12, k12, n12⟩, -, X12, ⟨Lc12, hQ12, l12, y12, z12⟩, st12⟩ := Jvm.LawKit.callS X11 hx (y := (⟨"com/example/paretoloom/paretoloom/problems/Zdt", "linearG", "([D)D"⟩ : MethodName)) hown (mvT hZ (hw _ (List.mem_of_getElem? (i := 4) rfl))) (mvT hZ (hw _ (List.mem_of_getElem? (i := 5) rfl))) (mvT hZ (hw _ (List.mem_of_getElem? (i := 6) rfl))) (mvT hZ (hw _ (List.mem_of_getElem? (i := 7) rfl))) (by decide) (backOf (W := 0) (rm1_n4 l Z a0 hw [] b7 _ _ (p1.toInt64) ((p2 >>> ((8 : Int32) &&& 31)).toInt64) ((p3 >>> ((8 : Int32) &&& 31)).toInt64) ((((3 : Int64) * ((p5 >>> ((8 : Int32) &&& 31)).toInt64)) - ((p2 >>> ((8 : Int32) &&& 31)).toInt64)) - ((p3 >>> ((8 : Int32) &&& 31)).toInt64)) ((p5 >>> ((8 : Int32) &&& 31)).toInt64) h11 n0 (Nat.le_trans Z0 K11.1) Vq (own_sh p2) (own_sh p3) (own_w3 p5 p2 p3).1 (own_sh p5) (own_w3 p5 p2 p3).2) hZ (hw _ (List.mem_of_getElem? (i := 7) rfl)) (hw _ (List.mem_of_getElem? (i := 6) rfl)) (by decide) (by decide)) (g := (mkF m 225 #[.val (.int p1), .val (.int p2), .val (.int p3), .val (.int p4), .val (.int p5), .val (.int p6), .val (.int (own_irem (p6 &&& (2147483647 : Int32)) (4 : Int32))), .val (.long ((p5 >>> ((8 : Int32) &&& 31)).toInt64)), .second, .val (.long ((p2 >>> ((8 : Int32) &&& 31)).toInt64)), .second, .val (.long ((p3 >>> ((8 : Int32) &&& 31)).toInt64)), .second, .val (.long ((p4 >>> ((8 : Int32) &&& 31)).toInt64)), .second, .val (.double (FP.l2d (p1.toInt64))), .second, .val (.ref b7), .val (.double (FP.l2d ((1 : Int64) + ((9 : Int64) * ((p5 >>> ((8 : Int32) &&& 31)).toInt64))))), .second] [(.ref b7)])) rfl (by rw [hml]; rfl) (argsL := [(.ref b7)]) (rest := []) (lenOf pd_0_0 rfl) rfl (by show 2 * 0 + _ ≤ _; exact Nat.le_of_eq rfl) (hb hby at_225) (fun _ _ => ⟨rfl, e11, (by decide : 1 + 0 ≤ _), (by decide : 4 + 0 ≤ _)⟩)
  dsimp only [Pt.U, Pt.locs, Pt.cells, Pt.slots] at X12 l12 y12 z12 st12 hQ12
  subst l12 y12 z12
  obtain ⟨rfl, N12q, eQq⟩ := hQ12      -- what it returned, that it wrote nothing old, and the rest of your Q1
  have N12 := Fr.app N11 N12q
  obtain ⟨fs, hr, hrun, hended, hW, hsame⟩ := X12.leave (v := some (.int (1 : Int32))) (fun h => by rw [Bd.returns] at h; cases h)
  refine ⟨_, _, pre0 _ ?_, hrun, hended, _, _, rfl, ?_, ⟨_, rfl⟩, hW, hsame.mono (by decide) (by decide)⟩
  -- 4. STEPS
  · show Steps p.tables e below (s₁.setTop (mkF m 0 #[.val (.int p1), .val (.int p2), .val (.int p3), .val (.int p4), .val (.int p5), .val (.int p6), .unset, .unset, .unset, .unset, .unset, .unset, .unset, .unset, .unset, .unset, .unset, .unset, .unset, .unset] [])) _
    refine XS.iload X0.here hx rfl (hb hby at_0) rfl ?_
    show Steps p.tables e below (s₁.setTop (mkF m 2 #[.val (.int p1), .val (.int p2), .val (.int p3), .val (.int p4), .val (.int p5), .val (.int p6), .unset, .unset, .unset, .unset, .unset, .unset, .unset, .unset, .unset, .unset, .unset, .unset, .unset, .unset] [(.int p6)])) _
    refine X0.ldcInt hx hown (mvT hZ (hw _ (List.mem_of_getElem? (i := 0) rfl))) (g := (mkF m 2 #[.val (.int p1), .val (.int p2), .val (.int p3), .val (.int p4), .val (.int p5), .val (.int p6), .unset, .unset, .unset, .unset, .unset, .unset, .unset, .unset, .unset, .unset, .unset, .unset, .unset, .unset] [(.int p6)])) rfl (hb hby at_2) _ ?_
    show Steps p.tables e below (s₁.setTop (mkF m 4 #[.val (.int p1), .val (.int p2), .val (.int p3), .val (.int p4), .val (.int p5), .val (.int p6), .unset, .unset, .unset, .unset, .unset, .unset, .unset, .unset, .unset, .unset, .unset, .unset, .unset, .unset] [(.int (2147483647 : Int32)), (.int p6)])) _
    refine XS.iand X0.here hx rfl (hb hby at_4) rfl ?_
    show Steps p.tables e below (s₁.setTop (mkF m 5 #[.val (.int p1), .val (.int p2), .val (.int p3), .val (.int p4), .val (.int p5), .val (.int p6), .unset, .unset, .unset, .unset, .unset, .unset, .unset, .unset, .unset, .unset, .unset, .unset, .unset, .unset] [(.int (p6 &&& (2147483647 : Int32)))])) _
    refine XS.iconst X0.here hx rfl (hb hby at_5) ?_
    show Steps p.tables e below (s₁.setTop (mkF m 6 #[.val (.int p1), .val (.int p2), .val (.int p3), .val (.int p4), .val (.int p5), .val (.int p6), .unset, .unset, .unset, .unset, .unset, .unset, .unset, .unset, .unset, .unset, .unset, .unset, .unset, .unset] [(.int (4 : Int32)), (.int (p6 &&& (2147483647 : Int32)))])) _
    refine iremM X0 hx rfl (hb hby at_6) rfl (by decide) ?_
    show Steps p.tables e below (s₁.setTop (mkF m 7 #[.val (.int p1), .val (.int p2), .val (.int p3), .val (.int p4), .val (.int p5), .val (.int p6), .unset, .unset, .unset, .unset, .unset, .unset, .unset, .unset, .unset, .unset, .unset, .unset, .unset, .unset] [(.int (own_irem (p6 &&& (2147483647 : Int32)) (4 : Int32)))])) _
    refine XS.istore X0.here hx rfl (hb hby at_7) rfl (l' := #[.val (.int p1), .val (.int p2), .val (.int p3), .val (.int p4), .val (.int p5), .val (.int p6), .val (.int (own_irem (p6 &&& (2147483647 : Int32)) (4 : Int32))), .unset, .unset, .unset, .unset, .unset, .unset, .unset, .unset, .unset, .unset, .unset, .unset, .unset]) rfl ?_
    show Steps p.tables e below (s₁.setTop (mkF m 9 #[.val (.int p1), .val (.int p2), .val (.int p3), .val (.int p4), .val (.int p5), .val (.int p6), .val (.int (own_irem (p6 &&& (2147483647 : Int32)) (4 : Int32))), .unset, .unset, .unset, .unset, .unset, .unset, .unset, .unset, .unset, .unset, .unset, .unset, .unset] [])) _
    refine XS.iload X0.here hx rfl (hb hby at_9) rfl ?_
    show Steps p.tables e below (s₁.setTop (mkF m 11 #[.val (.int p1), .val (.int p2), .val (.int p3), .val (.int p4), .val (.int p5), .val (.int p6), .val (.int (own_irem (p6 &&& (2147483647 : Int32)) (4 : Int32))), .unset, .unset, .unset, .unset, .unset, .unset, .unset, .unset, .unset, .unset, .unset, .unset, .unset] [(.int p5)])) _
    refine XS.bipush X0.here hx rfl (hb hby at_11) ?_
    show Steps p.tables e below (s₁.setTop (mkF m 13 #[.val (.int p1), .val (.int p2), .val (.int p3), .val (.int p4), .val (.int p5), .val (.int p6), .val (.int (own_irem (p6 &&& (2147483647 : Int32)) (4 : Int32))), .unset, .unset, .unset, .unset, .unset, .unset, .unset, .unset, .unset, .unset, .unset, .unset, .unset] [(.int (8 : Int32)), (.int p5)])) _
    refine XS.ishr X0.here hx rfl (hb hby at_13) rfl ?_
    show Steps p.tables e below (s₁.setTop (mkF m 14 #[.val (.int p1), .val (.int p2), .val (.int p3), .val (.int p4), .val (.int p5), .val (.int p6), .val (.int (own_irem (p6 &&& (2147483647 : Int32)) (4 : Int32))), .unset, .unset, .unset, .unset, .unset, .unset, .unset, .unset, .unset, .unset, .unset, .unset, .unset] [(.int (p5 >>> ((8 : Int32) &&& 31)))])) _
    refine XS.i2l X0.here hx rfl (hb hby at_14) rfl ?_
    show Steps p.tables e below (s₁.setTop (mkF m 15 #[.val (.int p1), .val (.int p2), .val (.int p3), .val (.int p4), .val (.int p5), .val (.int p6), .val (.int (own_irem (p6 &&& (2147483647 : Int32)) (4 : Int32))), .unset, .unset, .unset, .unset, .unset, .unset, .unset, .unset, .unset, .unset, .unset, .unset, .unset] [(.long ((p5 >>> ((8 : Int32) &&& 31)).toInt64))])) _
    refine XS.lstore X0.here hx rfl (hb hby at_15) rfl (l' := #[.val (.int p1), .val (.int p2), .val (.int p3), .val (.int p4), .val (.int p5), .val (.int p6), .val (.int (own_irem (p6 &&& (2147483647 : Int32)) (4 : Int32))), .val (.long ((p5 >>> ((8 : Int32) &&& 31)).toInt64)), .second, .unset, .unset, .unset, .unset, .unset, .unset, .unset, .unset, .unset, .unset, .unset]) rfl ?_
    show Steps p.tables e below (s₁.setTop (mkF m 17 #[.val (.int p1), .val (.int p2), .val (.int p3), .val (.int p4), .val (.int p5), .val (.int p6), .val (.int (own_irem (p6 &&& (2147483647 : Int32)) (4 : Int32))), .val (.long ((p5 >>> ((8 : Int32) &&& 31)).toInt64)), .second, .unset, .unset, .unset, .unset, .unset, .unset, .unset, .unset, .unset, .unset, .unset] [])) _
    refine XS.iloadN X0.here hx rfl (hb hby at_17) rfl ?_
    show Steps p.tables e below (s₁.setTop (mkF m 18 #[.val (.int p1), .val (.int p2), .val (.int p3), .val (.int p4), .val (.int p5), .val (.int p6), .val (.int (own_irem (p6 &&& (2147483647 : Int32)) (4 : Int32))), .val (.long ((p5 >>> ((8 : Int32) &&& 31)).toInt64)), .second, .unset, .unset, .unset, .unset, .unset, .unset, .unset, .unset, .unset, .unset, .unset] [(.int p2)])) _
    refine XS.bipush X0.here hx rfl (hb hby at_18) ?_
    show Steps p.tables e below (s₁.setTop (mkF m 20 #[.val (.int p1), .val (.int p2), .val (.int p3), .val (.int p4), .val (.int p5), .val (.int p6), .val (.int (own_irem (p6 &&& (2147483647 : Int32)) (4 : Int32))), .val (.long ((p5 >>> ((8 : Int32) &&& 31)).toInt64)), .second, .unset, .unset, .unset, .unset, .unset, .unset, .unset, .unset, .unset, .unset, .unset] [(.int (8 : Int32)), (.int p2)])) _
    refine XS.ishr X0.here hx rfl (hb hby at_20) rfl ?_
    show Steps p.tables e below (s₁.setTop (mkF m 21 #[.val (.int p1), .val (.int p2), .val (.int p3), .val (.int p4), .val (.int p5), .val (.int p6), .val (.int (own_irem (p6 &&& (2147483647 : Int32)) (4 : Int32))), .val (.long ((p5 >>> ((8 : Int32) &&& 31)).toInt64)), .second, .unset, .unset, .unset, .unset, .unset, .unset, .unset, .unset, .unset, .unset, .unset] [(.int (p2 >>> ((8 : Int32) &&& 31)))])) _
    refine XS.i2l X0.here hx rfl (hb hby at_21) rfl ?_
    show Steps p.tables e below (s₁.setTop (mkF m 22 #[.val (.int p1), .val (.int p2), .val (.int p3), .val (.int p4), .val (.int p5), .val (.int p6), .val (.int (own_irem (p6 &&& (2147483647 : Int32)) (4 : Int32))), .val (.long ((p5 >>> ((8 : Int32) &&& 31)).toInt64)), .second, .unset, .unset, .unset, .unset, .unset, .unset, .unset, .unset, .unset, .unset, .unset] [(.long ((p2 >>> ((8 : Int32) &&& 31)).toInt64))])) _
    refine XS.lstore X0.here hx rfl (hb hby at_22) rfl (l' := #[.val (.int p1), .val (.int p2), .val (.int p3), .val (.int p4), .val (.int p5), .val (.int p6), .val (.int (own_irem (p6 &&& (2147483647 : Int32)) (4 : Int32))), .val (.long ((p5 >>> ((8 : Int32) &&& 31)).toInt64)), .second, .val (.long ((p2 >>> ((8 : Int32) &&& 31)).toInt64)), .second, .unset, .unset, .unset, .unset, .unset, .unset, .unset, .unset, .unset]) rfl ?_
    show Steps p.tables e below (s₁.setTop (mkF m 24 #[.val (.int p1), .val (.int p2), .val (.int p3), .val (.int p4), .val (.int p5), .val (.int p6), .val (.int (own_irem (p6 &&& (2147483647 : Int32)) (4 : Int32))), .val (.long ((p5 >>> ((8 : Int32) &&& 31)).toInt64)), .second, .val (.long ((p2 >>> ((8 : Int32) &&& 31)).toInt64)), .second, .unset, .unset, .unset, .unset, .unset, .unset, .unset, .unset, .unset] [])) _
    refine XS.iloadN X0.here hx rfl (hb hby at_24) rfl ?_
    show Steps p.tables e below (s₁.setTop (mkF m 25 #[.val (.int p1), .val (.int p2), .val (.int p3), .val (.int p4), .val (.int p5), .val (.int p6), .val (.int (own_irem (p6 &&& (2147483647 : Int32)) (4 : Int32))), .val (.long ((p5 >>> ((8 : Int32) &&& 31)).toInt64)), .second, .val (.long ((p2 >>> ((8 : Int32) &&& 31)).toInt64)), .second, .unset, .unset, .unset, .unset, .unset, .unset, .unset, .unset, .unset] [(.int p3)])) _
    refine XS.bipush X0.here hx rfl (hb hby at_25) ?_
    show Steps p.tables e below (s₁.setTop (mkF m 27 #[.val (.int p1), .val (.int p2), .val (.int p3), .val (.int p4), .val (.int p5), .val (.int p6), .val (.int (own_irem (p6 &&& (2147483647 : Int32)) (4 : Int32))), .val (.long ((p5 >>> ((8 : Int32) &&& 31)).toInt64)), .second, .val (.long ((p2 >>> ((8 : Int32) &&& 31)).toInt64)), .second, .unset, .unset, .unset, .unset, .unset, .unset, .unset, .unset, .unset] [(.int (8 : Int32)), (.int p3)])) _
    refine XS.ishr X0.here hx rfl (hb hby at_27) rfl ?_
    show Steps p.tables e below (s₁.setTop (mkF m 28 #[.val (.int p1), .val (.int p2), .val (.int p3), .val (.int p4), .val (.int p5), .val (.int p6), .val (.int (own_irem (p6 &&& (2147483647 : Int32)) (4 : Int32))), .val (.long ((p5 >>> ((8 : Int32) &&& 31)).toInt64)), .second, .val (.long ((p2 >>> ((8 : Int32) &&& 31)).toInt64)), .second, .unset, .unset, .unset, .unset, .unset, .unset, .unset, .unset, .unset] [(.int (p3 >>> ((8 : Int32) &&& 31)))])) _
    refine XS.i2l X0.here hx rfl (hb hby at_28) rfl ?_
    show Steps p.tables e below (s₁.setTop (mkF m 29 #[.val (.int p1), .val (.int p2), .val (.int p3), .val (.int p4), .val (.int p5), .val (.int p6), .val (.int (own_irem (p6 &&& (2147483647 : Int32)) (4 : Int32))), .val (.long ((p5 >>> ((8 : Int32) &&& 31)).toInt64)), .second, .val (.long ((p2 >>> ((8 : Int32) &&& 31)).toInt64)), .second, .unset, .unset, .unset, .unset, .unset, .unset, .unset, .unset, .unset] [(.long ((p3 >>> ((8 : Int32) &&& 31)).toInt64))])) _
    refine XS.lstore X0.here hx rfl (hb hby at_29) rfl (l' := #[.val (.int p1), .val (.int p2), .val (.int p3), .val (.int p4), .val (.int p5), .val (.int p6), .val (.int (own_irem (p6 &&& (2147483647 : Int32)) (4 : Int32))), .val (.long ((p5 >>> ((8 : Int32) &&& 31)).toInt64)), .second, .val (.long ((p2 >>> ((8 : Int32) &&& 31)).toInt64)), .second, .val (.long ((p3 >>> ((8 : Int32) &&& 31)).toInt64)), .second, .unset, .unset, .unset, .unset, .unset, .unset, .unset]) rfl ?_
    show Steps p.tables e below (s₁.setTop (mkF m 31 #[.val (.int p1), .val (.int p2), .val (.int p3), .val (.int p4), .val (.int p5), .val (.int p6), .val (.int (own_irem (p6 &&& (2147483647 : Int32)) (4 : Int32))), .val (.long ((p5 >>> ((8 : Int32) &&& 31)).toInt64)), .second, .val (.long ((p2 >>> ((8 : Int32) &&& 31)).toInt64)), .second, .val (.long ((p3 >>> ((8 : Int32) &&& 31)).toInt64)), .second, .unset, .unset, .unset, .unset, .unset, .unset, .unset] [])) _
    refine XS.iloadN X0.here hx rfl (hb hby at_31) rfl ?_
    show Steps p.tables e below (s₁.setTop (mkF m 32 #[.val (.int p1), .val (.int p2), .val (.int p3), .val (.int p4), .val (.int p5), .val (.int p6), .val (.int (own_irem (p6 &&& (2147483647 : Int32)) (4 : Int32))), .val (.long ((p5 >>> ((8 : Int32) &&& 31)).toInt64)), .second, .val (.long ((p2 >>> ((8 : Int32) &&& 31)).toInt64)), .second, .val (.long ((p3 >>> ((8 : Int32) &&& 31)).toInt64)), .second, .unset, .unset, .unset, .unset, .unset, .unset, .unset] [(.int p4)])) _
    refine XS.bipush X0.here hx rfl (hb hby at_32) ?_
    show Steps p.tables e below (s₁.setTop (mkF m 34 #[.val (.int p1), .val (.int p2), .val (.int p3), .val (.int p4), .val (.int p5), .val (.int p6), .val (.int (own_irem (p6 &&& (2147483647 : Int32)) (4 : Int32))), .val (.long ((p5 >>> ((8 : Int32) &&& 31)).toInt64)), .second, .val (.long ((p2 >>> ((8 : Int32) &&& 31)).toInt64)), .second, .val (.long ((p3 >>> ((8 : Int32) &&& 31)).toInt64)), .second, .unset, .unset, .unset, .unset, .unset, .unset, .unset] [(.int (8 : Int32)), (.int p4)])) _
    refine XS.ishr X0.here hx rfl (hb hby at_34) rfl ?_
    show Steps p.tables e below (s₁.setTop (mkF m 35 #[.val (.int p1), .val (.int p2), .val (.int p3), .val (.int p4), .val (.int p5), .val (.int p6), .val (.int (own_irem (p6 &&& (2147483647 : Int32)) (4 : Int32))), .val (.long ((p5 >>> ((8 : Int32) &&& 31)).toInt64)), .second, .val (.long ((p2 >>> ((8 : Int32) &&& 31)).toInt64)), .second, .val (.long ((p3 >>> ((8 : Int32) &&& 31)).toInt64)), .second, .unset, .unset, .unset, .unset, .unset, .unset, .unset] [(.int (p4 >>> ((8 : Int32) &&& 31)))])) _
    refine XS.i2l X0.here hx rfl (hb hby at_35) rfl ?_
    show Steps p.tables e below (s₁.setTop (mkF m 36 #[.val (.int p1), .val (.int p2), .val (.int p3), .val (.int p4), .val (.int p5), .val (.int p6), .val (.int (own_irem (p6 &&& (2147483647 : Int32)) (4 : Int32))), .val (.long ((p5 >>> ((8 : Int32) &&& 31)).toInt64)), .second, .val (.long ((p2 >>> ((8 : Int32) &&& 31)).toInt64)), .second, .val (.long ((p3 >>> ((8 : Int32) &&& 31)).toInt64)), .second, .unset, .unset, .unset, .unset, .unset, .unset, .unset] [(.long ((p4 >>> ((8 : Int32) &&& 31)).toInt64))])) _
    refine XS.lstore X0.here hx rfl (hb hby at_36) rfl (l' := #[.val (.int p1), .val (.int p2), .val (.int p3), .val (.int p4), .val (.int p5), .val (.int p6), .val (.int (own_irem (p6 &&& (2147483647 : Int32)) (4 : Int32))), .val (.long ((p5 >>> ((8 : Int32) &&& 31)).toInt64)), .second, .val (.long ((p2 >>> ((8 : Int32) &&& 31)).toInt64)), .second, .val (.long ((p3 >>> ((8 : Int32) &&& 31)).toInt64)), .second, .val (.long ((p4 >>> ((8 : Int32) &&& 31)).toInt64)), .second, .unset, .unset, .unset, .unset, .unset]) rfl ?_
    show Steps p.tables e below (s₁.setTop (mkF m 38 #[.val (.int p1), .val (.int p2), .val (.int p3), .val (.int p4), .val (.int p5), .val (.int p6), .val (.int (own_irem (p6 &&& (2147483647 : Int32)) (4 : Int32))), .val (.long ((p5 >>> ((8 : Int32) &&& 31)).toInt64)), .second, .val (.long ((p2 >>> ((8 : Int32) &&& 31)).toInt64)), .second, .val (.long ((p3 >>> ((8 : Int32) &&& 31)).toInt64)), .second, .val (.long ((p4 >>> ((8 : Int32) &&& 31)).toInt64)), .second, .unset, .unset, .unset, .unset, .unset] [])) _
    refine XS.iloadN X0.here hx rfl (hb hby at_38) rfl ?_
    show Steps p.tables e below (s₁.setTop (mkF m 39 #[.val (.int p1), .val (.int p2), .val (.int p3), .val (.int p4), .val (.int p5), .val (.int p6), .val (.int (own_irem (p6 &&& (2147483647 : Int32)) (4 : Int32))), .val (.long ((p5 >>> ((8 : Int32) &&& 31)).toInt64)), .second, .val (.long ((p2 >>> ((8 : Int32) &&& 31)).toInt64)), .second, .val (.long ((p3 >>> ((8 : Int32) &&& 31)).toInt64)), .second, .val (.long ((p4 >>> ((8 : Int32) &&& 31)).toInt64)), .second, .unset, .unset, .unset, .unset, .unset] [(.int p1)])) _
    refine XS.i2dS X0.here hx rfl (hb hby at_39) rfl (i2d_w _) ?_
    show Steps p.tables e below (s₁.setTop (mkF m 40 #[.val (.int p1), .val (.int p2), .val (.int p3), .val (.int p4), .val (.int p5), .val (.int p6), .val (.int (own_irem (p6 &&& (2147483647 : Int32)) (4 : Int32))), .val (.long ((p5 >>> ((8 : Int32) &&& 31)).toInt64)), .second, .val (.long ((p2 >>> ((8 : Int32) &&& 31)).toInt64)), .second, .val (.long ((p3 >>> ((8 : Int32) &&& 31)).toInt64)), .second, .val (.long ((p4 >>> ((8 : Int32) &&& 31)).toInt64)), .second, .unset, .unset, .unset, .unset, .unset] [(.double (FP.l2d (p1.toInt64)))])) _
    refine XS.dstore X0.here hx rfl (hb hby at_40) rfl (l' := #[.val (.int p1), .val (.int p2), .val (.int p3), .val (.int p4), .val (.int p5), .val (.int p6), .val (.int (own_irem (p6 &&& (2147483647 : Int32)) (4 : Int32))), .val (.long ((p5 >>> ((8 : Int32) &&& 31)).toInt64)), .second, .val (.long ((p2 >>> ((8 : Int32) &&& 31)).toInt64)), .second, .val (.long ((p3 >>> ((8 : Int32) &&& 31)).toInt64)), .second, .val (.long ((p4 >>> ((8 : Int32) &&& 31)).toInt64)), .second, .val (.double (FP.l2d (p1.toInt64))), .second, .unset, .unset, .unset]) rfl ?_
    show Steps p.tables e below (s₁.setTop (mkF m 42 #[.val (.int p1), .val (.int p2), .val (.int p3), .val (.int p4), .val (.int p5), .val (.int p6), .val (.int (own_irem (p6 &&& (2147483647 : Int32)) (4 : Int32))), .val (.long ((p5 >>> ((8 : Int32) &&& 31)).toInt64)), .second, .val (.long ((p2 >>> ((8 : Int32) &&& 31)).toInt64)), .second, .val (.long ((p3 >>> ((8 : Int32) &&& 31)).toInt64)), .second, .val (.long ((p4 >>> ((8 : Int32) &&& 31)).toInt64)), .second, .val (.double (FP.l2d (p1.toInt64))), .second, .unset, .unset, .unset] [])) _
    refine XS.iload X0.here hx rfl (hb hby at_42) rfl ?_
    show Steps p.tables e below (s₁.setTop (mkF m 44 #[.val (.int p1), .val (.int p2), .val (.int p3), .val (.int p4), .val (.int p5), .val (.int p6), .val (.int (own_irem (p6 &&& (2147483647 : Int32)) (4 : Int32))), .val (.long ((p5 >>> ((8 : Int32) &&& 31)).toInt64)), .second, .val (.long ((p2 >>> ((8 : Int32) &&& 31)).toInt64)), .second, .val (.long ((p3 >>> ((8 : Int32) &&& 31)).toInt64)), .second, .val (.long ((p4 >>> ((8 : Int32) &&& 31)).toInt64)), .second, .val (.double (FP.l2d (p1.toInt64))), .second, .unset, .unset, .unset] [(.int (own_irem (p6 &&& (2147483647 : Int32)) (4 : Int32)))])) _
    refine XS.ifYes X0.here hx rfl (pc0 := 44) (pc' := 68) rfl (hb hby at_44) rfl ((if0 _ _).trans (feq hc44).2) (by decide) (by decide) ?_
    show Steps p.tables e below (s₁.setTop (mkF m 68 #[.val (.int p1), .val (.int p2), .val (.int p3), .val (.int p4), .val (.int p5), .val (.int p6), .val (.int (own_irem (p6 &&& (2147483647 : Int32)) (4 : Int32))), .val (.long ((p5 >>> ((8 : Int32) &&& 31)).toInt64)), .second, .val (.long ((p2 >>> ((8 : Int32) &&& 31)).toInt64)), .second, .val (.long ((p3 >>> ((8 : Int32) &&& 31)).toInt64)), .second, .val (.long ((p4 >>> ((8 : Int32) &&& 31)).toInt64)), .second, .val (.double (FP.l2d (p1.toInt64))), .second, .unset, .unset, .unset] [])) _
    refine XS.iload X0.here hx rfl (hb hby at_68) rfl ?_
    show Steps p.tables e below (s₁.setTop (mkF m 70 #[.val (.int p1), .val (.int p2), .val (.int p3), .val (.int p4), .val (.int p5), .val (.int p6), .val (.int (own_irem (p6 &&& (2147483647 : Int32)) (4 : Int32))), .val (.long ((p5 >>> ((8 : Int32) &&& 31)).toInt64)), .second, .val (.long ((p2 >>> ((8 : Int32) &&& 31)).toInt64)), .second, .val (.long ((p3 >>> ((8 : Int32) &&& 31)).toInt64)), .second, .val (.long ((p4 >>> ((8 : Int32) &&& 31)).toInt64)), .second, .val (.double (FP.l2d (p1.toInt64))), .second, .unset, .unset, .unset] [(.int (own_irem (p6 &&& (2147483647 : Int32)) (4 : Int32)))])) _
    refine XS.iconst X0.here hx rfl (hb hby at_70) ?_
    show Steps p.tables e below (s₁.setTop (mkF m 71 #[.val (.int p1), .val (.int p2), .val (.int p3), .val (.int p4), .val (.int p5), .val (.int p6), .val (.int (own_irem (p6 &&& (2147483647 : Int32)) (4 : Int32))), .val (.long ((p5 >>> ((8 : Int32) &&& 31)).toInt64)), .second, .val (.long ((p2 >>> ((8 : Int32) &&& 31)).toInt64)), .second, .val (.long ((p3 >>> ((8 : Int32) &&& 31)).toInt64)), .second, .val (.long ((p4 >>> ((8 : Int32) &&& 31)).toInt64)), .second, .val (.double (FP.l2d (p1.toInt64))), .second, .unset, .unset, .unset] [(.int (1 : Int32)), (.int (own_irem (p6 &&& (2147483647 : Int32)) (4 : Int32)))])) _
    refine XS.icmpYes X0.here hx rfl (pc0 := 71) (pc' := 109) rfl (hb hby at_71) rfl (feq hc71).2 (by decide) (by decide) ?_
    show Steps p.tables e below (s₁.setTop (mkF m 109 #[.val (.int p1), .val (.int p2), .val (.int p3), .val (.int p4), .val (.int p5), .val (.int p6), .val (.int (own_irem (p6 &&& (2147483647 : Int32)) (4 : Int32))), .val (.long ((p5 >>> ((8 : Int32) &&& 31)).toInt64)), .second, .val (.long ((p2 >>> ((8 : Int32) &&& 31)).toInt64)), .second, .val (.long ((p3 >>> ((8 : Int32) &&& 31)).toInt64)), .second, .val (.long ((p4 >>> ((8 : Int32) &&& 31)).toInt64)), .second, .val (.double (FP.l2d (p1.toInt64))), .second, .unset, .unset, .unset] [])) _
    refine XS.iload X0.here hx rfl (hb hby at_109) rfl ?_
    show Steps p.tables e below (s₁.setTop (mkF m 111 #[.val (.int p1), .val (.int p2), .val (.int p3), .val (.int p4), .val (.int p5), .val (.int p6), .val (.int (own_irem (p6 &&& (2147483647 : Int32)) (4 : Int32))), .val (.long ((p5 >>> ((8 : Int32) &&& 31)).toInt64)), .second, .val (.long ((p2 >>> ((8 : Int32) &&& 31)).toInt64)), .second, .val (.long ((p3 >>> ((8 : Int32) &&& 31)).toInt64)), .second, .val (.long ((p4 >>> ((8 : Int32) &&& 31)).toInt64)), .second, .val (.double (FP.l2d (p1.toInt64))), .second, .unset, .unset, .unset] [(.int (own_irem (p6 &&& (2147483647 : Int32)) (4 : Int32)))])) _
    refine XS.iconst X0.here hx rfl (hb hby at_111) ?_
    show Steps p.tables e below (s₁.setTop (mkF m 112 #[.val (.int p1), .val (.int p2), .val (.int p3), .val (.int p4), .val (.int p5), .val (.int p6), .val (.int (own_irem (p6 &&& (2147483647 : Int32)) (4 : Int32))), .val (.long ((p5 >>> ((8 : Int32) &&& 31)).toInt64)), .second, .val (.long ((p2 >>> ((8 : Int32) &&& 31)).toInt64)), .second, .val (.long ((p3 >>> ((8 : Int32) &&& 31)).toInt64)), .second, .val (.long ((p4 >>> ((8 : Int32) &&& 31)).toInt64)), .second, .val (.double (FP.l2d (p1.toInt64))), .second, .unset, .unset, .unset] [(.int (2 : Int32)), (.int (own_irem (p6 &&& (2147483647 : Int32)) (4 : Int32)))])) _
    refine XS.icmpNo X0.here hx rfl (hb hby at_112) rfl (teq hc112).2 ?_
    show Steps p.tables e below (s₁.setTop (mkF m 115 #[.val (.int p1), .val (.int p2), .val (.int p3), .val (.int p4), .val (.int p5), .val (.int p6), .val (.int (own_irem (p6 &&& (2147483647 : Int32)) (4 : Int32))), .val (.long ((p5 >>> ((8 : Int32) &&& 31)).toInt64)), .second, .val (.long ((p2 >>> ((8 : Int32) &&& 31)).toInt64)), .second, .val (.long ((p3 >>> ((8 : Int32) &&& 31)).toInt64)), .second, .val (.long ((p4 >>> ((8 : Int32) &&& 31)).toInt64)), .second, .val (.double (FP.l2d (p1.toInt64))), .second, .unset, .unset, .unset] [])) _
    refine XS.iconst X0.here hx rfl (hb hby at_115) ?_
    show Steps p.tables e below (s₁.setTop (mkF m 116 #[.val (.int p1), .val (.int p2), .val (.int p3), .val (.int p4), .val (.int p5), .val (.int p6), .val (.int (own_irem (p6 &&& (2147483647 : Int32)) (4 : Int32))), .val (.long ((p5 >>> ((8 : Int32) &&& 31)).toInt64)), .second, .val (.long ((p2 >>> ((8 : Int32) &&& 31)).toInt64)), .second, .val (.long ((p3 >>> ((8 : Int32) &&& 31)).toInt64)), .second, .val (.long ((p4 >>> ((8 : Int32) &&& 31)).toInt64)), .second, .val (.double (FP.l2d (p1.toInt64))), .second, .unset, .unset, .unset] [(.int (4 : Int32))])) _
    refine st7 _ ?_
    show Steps p.tables e below (T7.setTop (mkF m 118 #[.val (.int p1), .val (.int p2), .val (.int p3), .val (.int p4), .val (.int p5), .val (.int p6), .val (.int (own_irem (p6 &&& (2147483647 : Int32)) (4 : Int32))), .val (.long ((p5 >>> ((8 : Int32) &&& 31)).toInt64)), .second, .val (.long ((p2 >>> ((8 : Int32) &&& 31)).toInt64)), .second, .val (.long ((p3 >>> ((8 : Int32) &&& 31)).toInt64)), .second, .val (.long ((p4 >>> ((8 : Int32) &&& 31)).toInt64)), .second, .val (.double (FP.l2d (p1.toInt64))), .second, .unset, .unset, .unset] [(.ref b7)])) _
    refine XS.astore X7.here hx rfl (hb hby at_118) rfl rfl (l' := #[.val (.int p1), .val (.int p2), .val (.int p3), .val (.int p4), .val (.int p5), .val (.int p6), .val (.int (own_irem (p6 &&& (2147483647 : Int32)) (4 : Int32))), .val (.long ((p5 >>> ((8 : Int32) &&& 31)).toInt64)), .second, .val (.long ((p2 >>> ((8 : Int32) &&& 31)).toInt64)), .second, .val (.long ((p3 >>> ((8 : Int32) &&& 31)).toInt64)), .second, .val (.long ((p4 >>> ((8 : Int32) &&& 31)).toInt64)), .second, .val (.double (FP.l2d (p1.toInt64))), .second, .val (.ref b7), .unset, .unset]) rfl ?_
    show Steps p.tables e below (T7.setTop (mkF m 120 #[.val (.int p1), .val (.int p2), .val (.int p3), .val (.int p4), .val (.int p5), .val (.int p6), .val (.int (own_irem (p6 &&& (2147483647 : Int32)) (4 : Int32))), .val (.long ((p5 >>> ((8 : Int32) &&& 31)).toInt64)), .second, .val (.long ((p2 >>> ((8 : Int32) &&& 31)).toInt64)), .second, .val (.long ((p3 >>> ((8 : Int32) &&& 31)).toInt64)), .second, .val (.long ((p4 >>> ((8 : Int32) &&& 31)).toInt64)), .second, .val (.double (FP.l2d (p1.toInt64))), .second, .val (.ref b7), .unset, .unset] [])) _
    refine XS.aload X7.here hx rfl (hb hby at_120) rfl rfl ?_
    show Steps p.tables e below (T7.setTop (mkF m 122 #[.val (.int p1), .val (.int p2), .val (.int p3), .val (.int p4), .val (.int p5), .val (.int p6), .val (.int (own_irem (p6 &&& (2147483647 : Int32)) (4 : Int32))), .val (.long ((p5 >>> ((8 : Int32) &&& 31)).toInt64)), .second, .val (.long ((p2 >>> ((8 : Int32) &&& 31)).toInt64)), .second, .val (.long ((p3 >>> ((8 : Int32) &&& 31)).toInt64)), .second, .val (.long ((p4 >>> ((8 : Int32) &&& 31)).toInt64)), .second, .val (.double (FP.l2d (p1.toInt64))), .second, .val (.ref b7), .unset, .unset] [(.ref b7)])) _
    refine XS.iconst X7.here hx rfl (hb hby at_122) ?_
    show Steps p.tables e below (T7.setTop (mkF m 123 #[.val (.int p1), .val (.int p2), .val (.int p3), .val (.int p4), .val (.int p5), .val (.int p6), .val (.int (own_irem (p6 &&& (2147483647 : Int32)) (4 : Int32))), .val (.long ((p5 >>> ((8 : Int32) &&& 31)).toInt64)), .second, .val (.long ((p2 >>> ((8 : Int32) &&& 31)).toInt64)), .second, .val (.long ((p3 >>> ((8 : Int32) &&& 31)).toInt64)), .second, .val (.long ((p4 >>> ((8 : Int32) &&& 31)).toInt64)), .second, .val (.double (FP.l2d (p1.toInt64))), .second, .val (.ref b7), .unset, .unset] [(.int (0 : Int32)), (.ref b7)])) _
    refine XS.dload X7.here hx rfl (hb hby at_123) rfl ?_
    show Steps p.tables e below (T7.setTop (mkF m 125 #[.val (.int p1), .val (.int p2), .val (.int p3), .val (.int p4), .val (.int p5), .val (.int p6), .val (.int (own_irem (p6 &&& (2147483647 : Int32)) (4 : Int32))), .val (.long ((p5 >>> ((8 : Int32) &&& 31)).toInt64)), .second, .val (.long ((p2 >>> ((8 : Int32) &&& 31)).toInt64)), .second, .val (.long ((p3 >>> ((8 : Int32) &&& 31)).toInt64)), .second, .val (.long ((p4 >>> ((8 : Int32) &&& 31)).toInt64)), .second, .val (.double (FP.l2d (p1.toInt64))), .second, .val (.ref b7), .unset, .unset] [(.double (FP.l2d (p1.toInt64))), (.int (0 : Int32)), (.ref b7)])) _
    refine st8 _ ?_
    show Steps p.tables e below (T8.setTop (mkF m 126 #[.val (.int p1), .val (.int p2), .val (.int p3), .val (.int p4), .val (.int p5), .val (.int p6), .val (.int (own_irem (p6 &&& (2147483647 : Int32)) (4 : Int32))), .val (.long ((p5 >>> ((8 : Int32) &&& 31)).toInt64)), .second, .val (.long ((p2 >>> ((8 : Int32) &&& 31)).toInt64)), .second, .val (.long ((p3 >>> ((8 : Int32) &&& 31)).toInt64)), .second, .val (.long ((p4 >>> ((8 : Int32) &&& 31)).toInt64)), .second, .val (.double (FP.l2d (p1.toInt64))), .second, .val (.ref b7), .unset, .unset] [])) _
    refine XS.aload X8.here hx rfl (hb hby at_126) rfl rfl ?_
    show Steps p.tables e below (T8.setTop (mkF m 128 #[.val (.int p1), .val (.int p2), .val (.int p3), .val (.int p4), .val (.int p5), .val (.int p6), .val (.int (own_irem (p6 &&& (2147483647 : Int32)) (4 : Int32))), .val (.long ((p5 >>> ((8 : Int32) &&& 31)).toInt64)), .second, .val (.long ((p2 >>> ((8 : Int32) &&& 31)).toInt64)), .second, .val (.long ((p3 >>> ((8 : Int32) &&& 31)).toInt64)), .second, .val (.long ((p4 >>> ((8 : Int32) &&& 31)).toInt64)), .second, .val (.double (FP.l2d (p1.toInt64))), .second, .val (.ref b7), .unset, .unset] [(.ref b7)])) _
    refine XS.iconst X8.here hx rfl (hb hby at_128) ?_
    show Steps p.tables e below (T8.setTop (mkF m 129 #[.val (.int p1), .val (.int p2), .val (.int p3), .val (.int p4), .val (.int p5), .val (.int p6), .val (.int (own_irem (p6 &&& (2147483647 : Int32)) (4 : Int32))), .val (.long ((p5 >>> ((8 : Int32) &&& 31)).toInt64)), .second, .val (.long ((p2 >>> ((8 : Int32) &&& 31)).toInt64)), .second, .val (.long ((p3 >>> ((8 : Int32) &&& 31)).toInt64)), .second, .val (.long ((p4 >>> ((8 : Int32) &&& 31)).toInt64)), .second, .val (.double (FP.l2d (p1.toInt64))), .second, .val (.ref b7), .unset, .unset] [(.int (1 : Int32)), (.ref b7)])) _
    refine XS.lload X8.here hx rfl (hb hby at_129) rfl ?_
    show Steps p.tables e below (T8.setTop (mkF m 131 #[.val (.int p1), .val (.int p2), .val (.int p3), .val (.int p4), .val (.int p5), .val (.int p6), .val (.int (own_irem (p6 &&& (2147483647 : Int32)) (4 : Int32))), .val (.long ((p5 >>> ((8 : Int32) &&& 31)).toInt64)), .second, .val (.long ((p2 >>> ((8 : Int32) &&& 31)).toInt64)), .second, .val (.long ((p3 >>> ((8 : Int32) &&& 31)).toInt64)), .second, .val (.long ((p4 >>> ((8 : Int32) &&& 31)).toInt64)), .second, .val (.double (FP.l2d (p1.toInt64))), .second, .val (.ref b7), .unset, .unset] [(.long ((p2 >>> ((8 : Int32) &&& 31)).toInt64)), (.int (1 : Int32)), (.ref b7)])) _
    refine XS.l2dS X8.here hx rfl (hb hby at_131) rfl rfl ?_
    show Steps p.tables e below (T8.setTop (mkF m 132 #[.val (.int p1), .val (.int p2), .val (.int p3), .val (.int p4), .val (.int p5), .val (.int p6), .val (.int (own_irem (p6 &&& (2147483647 : Int32)) (4 : Int32))), .val (.long ((p5 >>> ((8 : Int32) &&& 31)).toInt64)), .second, .val (.long ((p2 >>> ((8 : Int32) &&& 31)).toInt64)), .second, .val (.long ((p3 >>> ((8 : Int32) &&& 31)).toInt64)), .second, .val (.long ((p4 >>> ((8 : Int32) &&& 31)).toInt64)), .second, .val (.double (FP.l2d (p1.toInt64))), .second, .val (.ref b7), .unset, .unset] [(.double (FP.l2d ((p2 >>> ((8 : Int32) &&& 31)).toInt64))), (.int (1 : Int32)), (.ref b7)])) _
    refine st9 _ ?_
    show Steps p.tables e below (T9.setTop (mkF m 133 #[.val (.int p1), .val (.int p2), .val (.int p3), .val (.int p4), .val (.int p5), .val (.int p6), .val (.int (own_irem (p6 &&& (2147483647 : Int32)) (4 : Int32))), .val (.long ((p5 >>> ((8 : Int32) &&& 31)).toInt64)), .second, .val (.long ((p2 >>> ((8 : Int32) &&& 31)).toInt64)), .second, .val (.long ((p3 >>> ((8 : Int32) &&& 31)).toInt64)), .second, .val (.long ((p4 >>> ((8 : Int32) &&& 31)).toInt64)), .second, .val (.double (FP.l2d (p1.toInt64))), .second, .val (.ref b7), .unset, .unset] [])) _
    refine XS.aload X9.here hx rfl (hb hby at_133) rfl rfl ?_
    show Steps p.tables e below (T9.setTop (mkF m 135 #[.val (.int p1), .val (.int p2), .val (.int p3), .val (.int p4), .val (.int p5), .val (.int p6), .val (.int (own_irem (p6 &&& (2147483647 : Int32)) (4 : Int32))), .val (.long ((p5 >>> ((8 : Int32) &&& 31)).toInt64)), .second, .val (.long ((p2 >>> ((8 : Int32) &&& 31)).toInt64)), .second, .val (.long ((p3 >>> ((8 : Int32) &&& 31)).toInt64)), .second, .val (.long ((p4 >>> ((8 : Int32) &&& 31)).toInt64)), .second, .val (.double (FP.l2d (p1.toInt64))), .second, .val (.ref b7), .unset, .unset] [(.ref b7)])) _
    refine XS.iconst X9.here hx rfl (hb hby at_135) ?_
    show Steps p.tables e below (T9.setTop (mkF m 136 #[.val (.int p1), .val (.int p2), .val (.int p3), .val (.int p4), .val (.int p5), .val (.int p6), .val (.int (own_irem (p6 &&& (2147483647 : Int32)) (4 : Int32))), .val (.long ((p5 >>> ((8 : Int32) &&& 31)).toInt64)), .second, .val (.long ((p2 >>> ((8 : Int32) &&& 31)).toInt64)), .second, .val (.long ((p3 >>> ((8 : Int32) &&& 31)).toInt64)), .second, .val (.long ((p4 >>> ((8 : Int32) &&& 31)).toInt64)), .second, .val (.double (FP.l2d (p1.toInt64))), .second, .val (.ref b7), .unset, .unset] [(.int (2 : Int32)), (.ref b7)])) _
    refine XS.lload X9.here hx rfl (hb hby at_136) rfl ?_
    show Steps p.tables e below (T9.setTop (mkF m 138 #[.val (.int p1), .val (.int p2), .val (.int p3), .val (.int p4), .val (.int p5), .val (.int p6), .val (.int (own_irem (p6 &&& (2147483647 : Int32)) (4 : Int32))), .val (.long ((p5 >>> ((8 : Int32) &&& 31)).toInt64)), .second, .val (.long ((p2 >>> ((8 : Int32) &&& 31)).toInt64)), .second, .val (.long ((p3 >>> ((8 : Int32) &&& 31)).toInt64)), .second, .val (.long ((p4 >>> ((8 : Int32) &&& 31)).toInt64)), .second, .val (.double (FP.l2d (p1.toInt64))), .second, .val (.ref b7), .unset, .unset] [(.long ((p3 >>> ((8 : Int32) &&& 31)).toInt64)), (.int (2 : Int32)), (.ref b7)])) _
    refine XS.l2dS X9.here hx rfl (hb hby at_138) rfl rfl ?_
    show Steps p.tables e below (T9.setTop (mkF m 139 #[.val (.int p1), .val (.int p2), .val (.int p3), .val (.int p4), .val (.int p5), .val (.int p6), .val (.int (own_irem (p6 &&& (2147483647 : Int32)) (4 : Int32))), .val (.long ((p5 >>> ((8 : Int32) &&& 31)).toInt64)), .second, .val (.long ((p2 >>> ((8 : Int32) &&& 31)).toInt64)), .second, .val (.long ((p3 >>> ((8 : Int32) &&& 31)).toInt64)), .second, .val (.long ((p4 >>> ((8 : Int32) &&& 31)).toInt64)), .second, .val (.double (FP.l2d (p1.toInt64))), .second, .val (.ref b7), .unset, .unset] [(.double (FP.l2d ((p3 >>> ((8 : Int32) &&& 31)).toInt64))), (.int (2 : Int32)), (.ref b7)])) _
    refine st10 _ ?_
    show Steps p.tables e below (T10.setTop (mkF m 140 #[.val (.int p1), .val (.int p2), .val (.int p3), .val (.int p4), .val (.int p5), .val (.int p6), .val (.int (own_irem (p6 &&& (2147483647 : Int32)) (4 : Int32))), .val (.long ((p5 >>> ((8 : Int32) &&& 31)).toInt64)), .second, .val (.long ((p2 >>> ((8 : Int32) &&& 31)).toInt64)), .second, .val (.long ((p3 >>> ((8 : Int32) &&& 31)).toInt64)), .second, .val (.long ((p4 >>> ((8 : Int32) &&& 31)).toInt64)), .second, .val (.double (FP.l2d (p1.toInt64))), .second, .val (.ref b7), .unset, .unset] [])) _
    refine XS.aload X10.here hx rfl (hb hby at_140) rfl rfl ?_
    show Steps p.tables e below (T10.setTop (mkF m 142 #[.val (.int p1), .val (.int p2), .val (.int p3), .val (.int p4), .val (.int p5), .val (.int p6), .val (.int (own_irem (p6 &&& (2147483647 : Int32)) (4 : Int32))), .val (.long ((p5 >>> ((8 : Int32) &&& 31)).toInt64)), .second, .val (.long ((p2 >>> ((8 : Int32) &&& 31)).toInt64)), .second, .val (.long ((p3 >>> ((8 : Int32) &&& 31)).toInt64)), .second, .val (.long ((p4 >>> ((8 : Int32) &&& 31)).toInt64)), .second, .val (.double (FP.l2d (p1.toInt64))), .second, .val (.ref b7), .unset, .unset] [(.ref b7)])) _
    refine XS.iconst X10.here hx rfl (hb hby at_142) ?_
    show Steps p.tables e below (T10.setTop (mkF m 143 #[.val (.int p1), .val (.int p2), .val (.int p3), .val (.int p4), .val (.int p5), .val (.int p6), .val (.int (own_irem (p6 &&& (2147483647 : Int32)) (4 : Int32))), .val (.long ((p5 >>> ((8 : Int32) &&& 31)).toInt64)), .second, .val (.long ((p2 >>> ((8 : Int32) &&& 31)).toInt64)), .second, .val (.long ((p3 >>> ((8 : Int32) &&& 31)).toInt64)), .second, .val (.long ((p4 >>> ((8 : Int32) &&& 31)).toInt64)), .second, .val (.double (FP.l2d (p1.toInt64))), .second, .val (.ref b7), .unset, .unset] [(.int (3 : Int32)), (.ref b7)])) _
    refine X10.ldc2Long hx hown (mvT hZ (hw _ (List.mem_of_getElem? (i := 9) rfl))) (g := (mkF m 143 #[.val (.int p1), .val (.int p2), .val (.int p3), .val (.int p4), .val (.int p5), .val (.int p6), .val (.int (own_irem (p6 &&& (2147483647 : Int32)) (4 : Int32))), .val (.long ((p5 >>> ((8 : Int32) &&& 31)).toInt64)), .second, .val (.long ((p2 >>> ((8 : Int32) &&& 31)).toInt64)), .second, .val (.long ((p3 >>> ((8 : Int32) &&& 31)).toInt64)), .second, .val (.long ((p4 >>> ((8 : Int32) &&& 31)).toInt64)), .second, .val (.double (FP.l2d (p1.toInt64))), .second, .val (.ref b7), .unset, .unset] [(.int (3 : Int32)), (.ref b7)])) rfl (hb hby at_143) _ ?_
    show Steps p.tables e below (T10.setTop (mkF m 146 #[.val (.int p1), .val (.int p2), .val (.int p3), .val (.int p4), .val (.int p5), .val (.int p6), .val (.int (own_irem (p6 &&& (2147483647 : Int32)) (4 : Int32))), .val (.long ((p5 >>> ((8 : Int32) &&& 31)).toInt64)), .second, .val (.long ((p2 >>> ((8 : Int32) &&& 31)).toInt64)), .second, .val (.long ((p3 >>> ((8 : Int32) &&& 31)).toInt64)), .second, .val (.long ((p4 >>> ((8 : Int32) &&& 31)).toInt64)), .second, .val (.double (FP.l2d (p1.toInt64))), .second, .val (.ref b7), .unset, .unset] [(.long (3 : Int64)), (.int (3 : Int32)), (.ref b7)])) _
    refine XS.lload X10.here hx rfl (hb hby at_146) rfl ?_
    show Steps p.tables e below (T10.setTop (mkF m 148 #[.val (.int p1), .val (.int p2), .val (.int p3), .val (.int p4), .val (.int p5), .val (.int p6), .val (.int (own_irem (p6 &&& (2147483647 : Int32)) (4 : Int32))), .val (.long ((p5 >>> ((8 : Int32) &&& 31)).toInt64)), .second, .val (.long ((p2 >>> ((8 : Int32) &&& 31)).toInt64)), .second, .val (.long ((p3 >>> ((8 : Int32) &&& 31)).toInt64)), .second, .val (.long ((p4 >>> ((8 : Int32) &&& 31)).toInt64)), .second, .val (.double (FP.l2d (p1.toInt64))), .second, .val (.ref b7), .unset, .unset] [(.long ((p5 >>> ((8 : Int32) &&& 31)).toInt64)), (.long (3 : Int64)), (.int (3 : Int32)), (.ref b7)])) _
    refine XS.lmul X10.here hx rfl (hb hby at_148) rfl ?_
    show Steps p.tables e below (T10.setTop (mkF m 149 #[.val (.int p1), .val (.int p2), .val (.int p3), .val (.int p4), .val (.int p5), .val (.int p6), .val (.int (own_irem (p6 &&& (2147483647 : Int32)) (4 : Int32))), .val (.long ((p5 >>> ((8 : Int32) &&& 31)).toInt64)), .second, .val (.long ((p2 >>> ((8 : Int32) &&& 31)).toInt64)), .second, .val (.long ((p3 >>> ((8 : Int32) &&& 31)).toInt64)), .second, .val (.long ((p4 >>> ((8 : Int32) &&& 31)).toInt64)), .second, .val (.double (FP.l2d (p1.toInt64))), .second, .val (.ref b7), .unset, .unset] [(.long ((3 : Int64) * ((p5 >>> ((8 : Int32) &&& 31)).toInt64))), (.int (3 : Int32)), (.ref b7)])) _
    refine XS.lload X10.here hx rfl (hb hby at_149) rfl ?_
    show Steps p.tables e below (T10.setTop (mkF m 151 #[.val (.int p1), .val (.int p2), .val (.int p3), .val (.int p4), .val (.int p5), .val (.int p6), .val (.int (own_irem (p6 &&& (2147483647 : Int32)) (4 : Int32))), .val (.long ((p5 >>> ((8 : Int32) &&& 31)).toInt64)), .second, .val (.long ((p2 >>> ((8 : Int32) &&& 31)).toInt64)), .second, .val (.long ((p3 >>> ((8 : Int32) &&& 31)).toInt64)), .second, .val (.long ((p4 >>> ((8 : Int32) &&& 31)).toInt64)), .second, .val (.double (FP.l2d (p1.toInt64))), .second, .val (.ref b7), .unset, .unset] [(.long ((p2 >>> ((8 : Int32) &&& 31)).toInt64)), (.long ((3 : Int64) * ((p5 >>> ((8 : Int32) &&& 31)).toInt64))), (.int (3 : Int32)), (.ref b7)])) _
    refine XS.lsub X10.here hx rfl (hb hby at_151) rfl ?_
    show Steps p.tables e below (T10.setTop (mkF m 152 #[.val (.int p1), .val (.int p2), .val (.int p3), .val (.int p4), .val (.int p5), .val (.int p6), .val (.int (own_irem (p6 &&& (2147483647 : Int32)) (4 : Int32))), .val (.long ((p5 >>> ((8 : Int32) &&& 31)).toInt64)), .second, .val (.long ((p2 >>> ((8 : Int32) &&& 31)).toInt64)), .second, .val (.long ((p3 >>> ((8 : Int32) &&& 31)).toInt64)), .second, .val (.long ((p4 >>> ((8 : Int32) &&& 31)).toInt64)), .second, .val (.double (FP.l2d (p1.toInt64))), .second, .val (.ref b7), .unset, .unset] [(.long (((3 : Int64) * ((p5 >>> ((8 : Int32) &&& 31)).toInt64)) - ((p2 >>> ((8 : Int32) &&& 31)).toInt64))), (.int (3 : Int32)), (.ref b7)])) _
    refine XS.lload X10.here hx rfl (hb hby at_152) rfl ?_
    show Steps p.tables e below (T10.setTop (mkF m 154 #[.val (.int p1), .val (.int p2), .val (.int p3), .val (.int p4), .val (.int p5), .val (.int p6), .val (.int (own_irem (p6 &&& (2147483647 : Int32)) (4 : Int32))), .val (.long ((p5 >>> ((8 : Int32) &&& 31)).toInt64)), .second, .val (.long ((p2 >>> ((8 : Int32) &&& 31)).toInt64)), .second, .val (.long ((p3 >>> ((8 : Int32) &&& 31)).toInt64)), .second, .val (.long ((p4 >>> ((8 : Int32) &&& 31)).toInt64)), .second, .val (.double (FP.l2d (p1.toInt64))), .second, .val (.ref b7), .unset, .unset] [(.long ((p3 >>> ((8 : Int32) &&& 31)).toInt64)), (.long (((3 : Int64) * ((p5 >>> ((8 : Int32) &&& 31)).toInt64)) - ((p2 >>> ((8 : Int32) &&& 31)).toInt64))), (.int (3 : Int32)), (.ref b7)])) _
    refine XS.lsub X10.here hx rfl (hb hby at_154) rfl ?_
    show Steps p.tables e below (T10.setTop (mkF m 155 #[.val (.int p1), .val (.int p2), .val (.int p3), .val (.int p4), .val (.int p5), .val (.int p6), .val (.int (own_irem (p6 &&& (2147483647 : Int32)) (4 : Int32))), .val (.long ((p5 >>> ((8 : Int32) &&& 31)).toInt64)), .second, .val (.long ((p2 >>> ((8 : Int32) &&& 31)).toInt64)), .second, .val (.long ((p3 >>> ((8 : Int32) &&& 31)).toInt64)), .second, .val (.long ((p4 >>> ((8 : Int32) &&& 31)).toInt64)), .second, .val (.double (FP.l2d (p1.toInt64))), .second, .val (.ref b7), .unset, .unset] [(.long ((((3 : Int64) * ((p5 >>> ((8 : Int32) &&& 31)).toInt64)) - ((p2 >>> ((8 : Int32) &&& 31)).toInt64)) - ((p3 >>> ((8 : Int32) &&& 31)).toInt64))), (.int (3 : Int32)), (.ref b7)])) _
    refine XS.l2dS X10.here hx rfl (hb hby at_155) rfl rfl ?_
    show Steps p.tables e below (T10.setTop (mkF m 156 #[.val (.int p1), .val (.int p2), .val (.int p3), .val (.int p4), .val (.int p5), .val (.int p6), .val (.int (own_irem (p6 &&& (2147483647 : Int32)) (4 : Int32))), .val (.long ((p5 >>> ((8 : Int32) &&& 31)).toInt64)), .second, .val (.long ((p2 >>> ((8 : Int32) &&& 31)).toInt64)), .second, .val (.long ((p3 >>> ((8 : Int32) &&& 31)).toInt64)), .second, .val (.long ((p4 >>> ((8 : Int32) &&& 31)).toInt64)), .second, .val (.double (FP.l2d (p1.toInt64))), .second, .val (.ref b7), .unset, .unset] [(.double (FP.l2d ((((3 : Int64) * ((p5 >>> ((8 : Int32) &&& 31)).toInt64)) - ((p2 >>> ((8 : Int32) &&& 31)).toInt64)) - ((p3 >>> ((8 : Int32) &&& 31)).toInt64)))), (.int (3 : Int32)), (.ref b7)])) _
    refine st11 _ ?_
    show Steps p.tables e below (T11.setTop (mkF m 157 #[.val (.int p1), .val (.int p2), .val (.int p3), .val (.int p4), .val (.int p5), .val (.int p6), .val (.int (own_irem (p6 &&& (2147483647 : Int32)) (4 : Int32))), .val (.long ((p5 >>> ((8 : Int32) &&& 31)).toInt64)), .second, .val (.long ((p2 >>> ((8 : Int32) &&& 31)).toInt64)), .second, .val (.long ((p3 >>> ((8 : Int32) &&& 31)).toInt64)), .second, .val (.long ((p4 >>> ((8 : Int32) &&& 31)).toInt64)), .second, .val (.double (FP.l2d (p1.toInt64))), .second, .val (.ref b7), .unset, .unset] [])) _
    refine XS.goto X11.here hx rfl (pc0 := 157) (pc' := 212) rfl (hb hby at_157) (by decide) (by decide) ?_
    show Steps p.tables e below (T11.setTop (mkF m 212 #[.val (.int p1), .val (.int p2), .val (.int p3), .val (.int p4), .val (.int p5), .val (.int p6), .val (.int (own_irem (p6 &&& (2147483647 : Int32)) (4 : Int32))), .val (.long ((p5 >>> ((8 : Int32) &&& 31)).toInt64)), .second, .val (.long ((p2 >>> ((8 : Int32) &&& 31)).toInt64)), .second, .val (.long ((p3 >>> ((8 : Int32) &&& 31)).toInt64)), .second, .val (.long ((p4 >>> ((8 : Int32) &&& 31)).toInt64)), .second, .val (.double (FP.l2d (p1.toInt64))), .second, .val (.ref b7), .unset, .unset] [])) _
    refine XS.lconst X11.here hx rfl (hb hby at_212) ?_
    show Steps p.tables e below (T11.setTop (mkF m 213 #[.val (.int p1), .val (.int p2), .val (.int p3), .val (.int p4), .val (.int p5), .val (.int p6), .val (.int (own_irem (p6 &&& (2147483647 : Int32)) (4 : Int32))), .val (.long ((p5 >>> ((8 : Int32) &&& 31)).toInt64)), .second, .val (.long ((p2 >>> ((8 : Int32) &&& 31)).toInt64)), .second, .val (.long ((p3 >>> ((8 : Int32) &&& 31)).toInt64)), .second, .val (.long ((p4 >>> ((8 : Int32) &&& 31)).toInt64)), .second, .val (.double (FP.l2d (p1.toInt64))), .second, .val (.ref b7), .unset, .unset] [(.long (1 : Int64))])) _
    refine X11.ldc2Long hx hown (mvT hZ (hw _ (List.mem_of_getElem? (i := 3) rfl))) (g := (mkF m 213 #[.val (.int p1), .val (.int p2), .val (.int p3), .val (.int p4), .val (.int p5), .val (.int p6), .val (.int (own_irem (p6 &&& (2147483647 : Int32)) (4 : Int32))), .val (.long ((p5 >>> ((8 : Int32) &&& 31)).toInt64)), .second, .val (.long ((p2 >>> ((8 : Int32) &&& 31)).toInt64)), .second, .val (.long ((p3 >>> ((8 : Int32) &&& 31)).toInt64)), .second, .val (.long ((p4 >>> ((8 : Int32) &&& 31)).toInt64)), .second, .val (.double (FP.l2d (p1.toInt64))), .second, .val (.ref b7), .unset, .unset] [(.long (1 : Int64))])) rfl (hb hby at_213) _ ?_
    show Steps p.tables e below (T11.setTop (mkF m 216 #[.val (.int p1), .val (.int p2), .val (.int p3), .val (.int p4), .val (.int p5), .val (.int p6), .val (.int (own_irem (p6 &&& (2147483647 : Int32)) (4 : Int32))), .val (.long ((p5 >>> ((8 : Int32) &&& 31)).toInt64)), .second, .val (.long ((p2 >>> ((8 : Int32) &&& 31)).toInt64)), .second, .val (.long ((p3 >>> ((8 : Int32) &&& 31)).toInt64)), .second, .val (.long ((p4 >>> ((8 : Int32) &&& 31)).toInt64)), .second, .val (.double (FP.l2d (p1.toInt64))), .second, .val (.ref b7), .unset, .unset] [(.long (9 : Int64)), (.long (1 : Int64))])) _
    refine XS.lload X11.here hx rfl (hb hby at_216) rfl ?_
    show Steps p.tables e below (T11.setTop (mkF m 218 #[.val (.int p1), .val (.int p2), .val (.int p3), .val (.int p4), .val (.int p5), .val (.int p6), .val (.int (own_irem (p6 &&& (2147483647 : Int32)) (4 : Int32))), .val (.long ((p5 >>> ((8 : Int32) &&& 31)).toInt64)), .second, .val (.long ((p2 >>> ((8 : Int32) &&& 31)).toInt64)), .second, .val (.long ((p3 >>> ((8 : Int32) &&& 31)).toInt64)), .second, .val (.long ((p4 >>> ((8 : Int32) &&& 31)).toInt64)), .second, .val (.double (FP.l2d (p1.toInt64))), .second, .val (.ref b7), .unset, .unset] [(.long ((p5 >>> ((8 : Int32) &&& 31)).toInt64)), (.long (9 : Int64)), (.long (1 : Int64))])) _
    refine XS.lmul X11.here hx rfl (hb hby at_218) rfl ?_
    show Steps p.tables e below (T11.setTop (mkF m 219 #[.val (.int p1), .val (.int p2), .val (.int p3), .val (.int p4), .val (.int p5), .val (.int p6), .val (.int (own_irem (p6 &&& (2147483647 : Int32)) (4 : Int32))), .val (.long ((p5 >>> ((8 : Int32) &&& 31)).toInt64)), .second, .val (.long ((p2 >>> ((8 : Int32) &&& 31)).toInt64)), .second, .val (.long ((p3 >>> ((8 : Int32) &&& 31)).toInt64)), .second, .val (.long ((p4 >>> ((8 : Int32) &&& 31)).toInt64)), .second, .val (.double (FP.l2d (p1.toInt64))), .second, .val (.ref b7), .unset, .unset] [(.long ((9 : Int64) * ((p5 >>> ((8 : Int32) &&& 31)).toInt64))), (.long (1 : Int64))])) _
    refine XS.ladd X11.here hx rfl (hb hby at_219) rfl ?_
    show Steps p.tables e below (T11.setTop (mkF m 220 #[.val (.int p1), .val (.int p2), .val (.int p3), .val (.int p4), .val (.int p5), .val (.int p6), .val (.int (own_irem (p6 &&& (2147483647 : Int32)) (4 : Int32))), .val (.long ((p5 >>> ((8 : Int32) &&& 31)).toInt64)), .second, .val (.long ((p2 >>> ((8 : Int32) &&& 31)).toInt64)), .second, .val (.long ((p3 >>> ((8 : Int32) &&& 31)).toInt64)), .second, .val (.long ((p4 >>> ((8 : Int32) &&& 31)).toInt64)), .second, .val (.double (FP.l2d (p1.toInt64))), .second, .val (.ref b7), .unset, .unset] [(.long ((1 : Int64) + ((9 : Int64) * ((p5 >>> ((8 : Int32) &&& 31)).toInt64))))])) _
    refine XS.l2dS X11.here hx rfl (hb hby at_220) rfl rfl ?_
    show Steps p.tables e below (T11.setTop (mkF m 221 #[.val (.int p1), .val (.int p2), .val (.int p3), .val (.int p4), .val (.int p5), .val (.int p6), .val (.int (own_irem (p6 &&& (2147483647 : Int32)) (4 : Int32))), .val (.long ((p5 >>> ((8 : Int32) &&& 31)).toInt64)), .second, .val (.long ((p2 >>> ((8 : Int32) &&& 31)).toInt64)), .second, .val (.long ((p3 >>> ((8 : Int32) &&& 31)).toInt64)), .second, .val (.long ((p4 >>> ((8 : Int32) &&& 31)).toInt64)), .second, .val (.double (FP.l2d (p1.toInt64))), .second, .val (.ref b7), .unset, .unset] [(.double (FP.l2d ((1 : Int64) + ((9 : Int64) * ((p5 >>> ((8 : Int32) &&& 31)).toInt64)))))])) _
    refine XS.dstore X11.here hx rfl (hb hby at_221) rfl (l' := #[.val (.int p1), .val (.int p2), .val (.int p3), .val (.int p4), .val (.int p5), .val (.int p6), .val (.int (own_irem (p6 &&& (2147483647 : Int32)) (4 : Int32))), .val (.long ((p5 >>> ((8 : Int32) &&& 31)).toInt64)), .second, .val (.long ((p2 >>> ((8 : Int32) &&& 31)).toInt64)), .second, .val (.long ((p3 >>> ((8 : Int32) &&& 31)).toInt64)), .second, .val (.long ((p4 >>> ((8 : Int32) &&& 31)).toInt64)), .second, .val (.double (FP.l2d (p1.toInt64))), .second, .val (.ref b7), .val (.double (FP.l2d ((1 : Int64) + ((9 : Int64) * ((p5 >>> ((8 : Int32) &&& 31)).toInt64))))), .second]) rfl ?_
    show Steps p.tables e below (T11.setTop (mkF m 223 #[.val (.int p1), .val (.int p2), .val (.int p3), .val (.int p4), .val (.int p5), .val (.int p6), .val (.int (own_irem (p6 &&& (2147483647 : Int32)) (4 : Int32))), .val (.long ((p5 >>> ((8 : Int32) &&& 31)).toInt64)), .second, .val (.long ((p2 >>> ((8 : Int32) &&& 31)).toInt64)), .second, .val (.long ((p3 >>> ((8 : Int32) &&& 31)).toInt64)), .second, .val (.long ((p4 >>> ((8 : Int32) &&& 31)).toInt64)), .second, .val (.double (FP.l2d (p1.toInt64))), .second, .val (.ref b7), .val (.double (FP.l2d ((1 : Int64) + ((9 : Int64) * ((p5 >>> ((8 : Int32) &&& 31)).toInt64))))), .second] [])) _
    refine XS.aload X11.here hx rfl (hb hby at_223) rfl rfl ?_
    show Steps p.tables e below (T11.setTop (mkF m 225 #[.val (.int p1), .val (.int p2), .val (.int p3), .val (.int p4), .val (.int p5), .val (.int p6), .val (.int (own_irem (p6 &&& (2147483647 : Int32)) (4 : Int32))), .val (.long ((p5 >>> ((8 : Int32) &&& 31)).toInt64)), .second, .val (.long ((p2 >>> ((8 : Int32) &&& 31)).toInt64)), .second, .val (.long ((p3 >>> ((8 : Int32) &&& 31)).toInt64)), .second, .val (.long ((p4 >>> ((8 : Int32) &&& 31)).toInt64)), .second, .val (.double (FP.l2d (p1.toInt64))), .second, .val (.ref b7), .val (.double (FP.l2d ((1 : Int64) + ((9 : Int64) * ((p5 >>> ((8 : Int32) &&& 31)).toInt64))))), .second] [(.ref b7)])) _
    refine st12 _ ?_
    show Steps p.tables e below (T12.setTop (mkF m 228 #[.val (.int p1), .val (.int p2), .val (.int p3), .val (.int p4), .val (.int p5), .val (.int p6), .val (.int (own_irem (p6 &&& (2147483647 : Int32)) (4 : Int32))), .val (.long ((p5 >>> ((8 : Int32) &&& 31)).toInt64)), .second, .val (.long ((p2 >>> ((8 : Int32) &&& 31)).toInt64)), .second, .val (.long ((p3 >>> ((8 : Int32) &&& 31)).toInt64)), .second, .val (.long ((p4 >>> ((8 : Int32) &&& 31)).toInt64)), .second, .val (.double (FP.l2d (p1.toInt64))), .second, .val (.ref b7), .val (.double (FP.l2d ((1 : Int64) + ((9 : Int64) * ((p5 >>> ((8 : Int32) &&& 31)).toInt64))))), .second] [(.double (FP.l2d ((1 : Int64) + ((9 : Int64) * ((p5 >>> ((8 : Int32) &&& 31)).toInt64)))))])) _
    refine XS.dload X12.here hx rfl (hb hby at_228) rfl ?_
    show Steps p.tables e below (T12.setTop (mkF m 230 #[.val (.int p1), .val (.int p2), .val (.int p3), .val (.int p4), .val (.int p5), .val (.int p6), .val (.int (own_irem (p6 &&& (2147483647 : Int32)) (4 : Int32))), .val (.long ((p5 >>> ((8 : Int32) &&& 31)).toInt64)), .second, .val (.long ((p2 >>> ((8 : Int32) &&& 31)).toInt64)), .second, .val (.long ((p3 >>> ((8 : Int32) &&& 31)).toInt64)), .second, .val (.long ((p4 >>> ((8 : Int32) &&& 31)).toInt64)), .second, .val (.double (FP.l2d (p1.toInt64))), .second, .val (.ref b7), .val (.double (FP.l2d ((1 : Int64) + ((9 : Int64) * ((p5 >>> ((8 : Int32) &&& 31)).toInt64))))), .second] [(.double (FP.l2d ((1 : Int64) + ((9 : Int64) * ((p5 >>> ((8 : Int32) &&& 31)).toInt64))))), (.double (FP.l2d ((1 : Int64) + ((9 : Int64) * ((p5 >>> ((8 : Int32) &&& 31)).toInt64)))))])) _
    refine XS.dcmpS X12.here hx rfl (hb hby at_230) rfl (dcmpV_w hba230 hbb230 _) ?_
    show Steps p.tables e below (T12.setTop (mkF m 231 #[.val (.int p1), .val (.int p2), .val (.int p3), .val (.int p4), .val (.int p5), .val (.int p6), .val (.int (own_irem (p6 &&& (2147483647 : Int32)) (4 : Int32))), .val (.long ((p5 >>> ((8 : Int32) &&& 31)).toInt64)), .second, .val (.long ((p2 >>> ((8 : Int32) &&& 31)).toInt64)), .second, .val (.long ((p3 >>> ((8 : Int32) &&& 31)).toInt64)), .second, .val (.long ((p4 >>> ((8 : Int32) &&& 31)).toInt64)), .second, .val (.double (FP.l2d (p1.toInt64))), .second, .val (.ref b7), .val (.double (FP.l2d ((1 : Int64) + ((9 : Int64) * ((p5 >>> ((8 : Int32) &&& 31)).toInt64))))), .second] [(.int (lcmpW ((1 : Int64) + ((9 : Int64) * ((p5 >>> ((8 : Int32) &&& 31)).toInt64))) ((1 : Int64) + ((9 : Int64) * ((p5 >>> ((8 : Int32) &&& 31)).toInt64)))))])) _
    refine XS.ifNo X12.here hx rfl (hb hby at_231) rfl ((if0 _ _).trans (teq (own_lcself _ : (lcmpW ((1 : Int64) + ((9 : Int64) * ((p5 >>> ((8 : Int32) &&& 31)).toInt64))) ((1 : Int64) + ((9 : Int64) * ((p5 >>> ((8 : Int32) &&& 31)).toInt64)))) = (0 : Int32))).2) ?_
    show Steps p.tables e below (T12.setTop (mkF m 234 #[.val (.int p1), .val (.int p2), .val (.int p3), .val (.int p4), .val (.int p5), .val (.int p6), .val (.int (own_irem (p6 &&& (2147483647 : Int32)) (4 : Int32))), .val (.long ((p5 >>> ((8 : Int32) &&& 31)).toInt64)), .second, .val (.long ((p2 >>> ((8 : Int32) &&& 31)).toInt64)), .second, .val (.long ((p3 >>> ((8 : Int32) &&& 31)).toInt64)), .second, .val (.long ((p4 >>> ((8 : Int32) &&& 31)).toInt64)), .second, .val (.double (FP.l2d (p1.toInt64))), .second, .val (.ref b7), .val (.double (FP.l2d ((1 : Int64) + ((9 : Int64) * ((p5 >>> ((8 : Int32) &&& 31)).toInt64))))), .second] [])) _
    refine XS.iconst X12.here hx rfl (hb hby at_234) ?_
    show Steps p.tables e below (T12.setTop (mkF m 235 #[.val (.int p1), .val (.int p2), .val (.int p3), .val (.int p4), .val (.int p5), .val (.int p6), .val (.int (own_irem (p6 &&& (2147483647 : Int32)) (4 : Int32))), .val (.long ((p5 >>> ((8 : Int32) &&& 31)).toInt64)), .second, .val (.long ((p2 >>> ((8 : Int32) &&& 31)).toInt64)), .second, .val (.long ((p3 >>> ((8 : Int32) &&& 31)).toInt64)), .second, .val (.long ((p4 >>> ((8 : Int32) &&& 31)).toInt64)), .second, .val (.double (FP.l2d (p1.toInt64))), .second, .val (.ref b7), .val (.double (FP.l2d ((1 : Int64) + ((9 : Int64) * ((p5 >>> ((8 : Int32) &&& 31)).toInt64))))), .second] [(.int (1 : Int32))])) _
    refine XS.goto X12.here hx rfl (pc0 := 235) (pc' := 239) rfl (hb hby at_235) (by decide) (by decide) ?_
    show Steps p.tables e below (T12.setTop (mkF m 239 #[.val (.int p1), .val (.int p2), .val (.int p3), .val (.int p4), .val (.int p5), .val (.int p6), .val (.int (own_irem (p6 &&& (2147483647 : Int32)) (4 : Int32))), .val (.long ((p5 >>> ((8 : Int32) &&& 31)).toInt64)), .second, .val (.long ((p2 >>> ((8 : Int32) &&& 31)).toInt64)), .second, .val (.long ((p3 >>> ((8 : Int32) &&& 31)).toInt64)), .second, .val (.long ((p4 >>> ((8 : Int32) &&& 31)).toInt64)), .second, .val (.double (FP.l2d (p1.toInt64))), .second, .val (.ref b7), .val (.double (FP.l2d ((1 : Int64) + ((9 : Int64) * ((p5 >>> ((8 : Int32) &&& 31)).toInt64))))), .second] [(.int (1 : Int32))])) _
    exact retN X12 hx (t := .boolean) Bd.returns (by simp) (hb hby at_239) hr
  · show Q0 Z p1 p2 p3 p4 p5 p6 h0 n0 _ T12.heap _
    exact ⟨rfl, N12⟩
set_option maxRecDepth 65536 in
set_option maxHeartbeats 40000000 in
theorem rm0_5 (l : Launch) (Z : State) (a0 : Array Value) (hw : ∀ d ∈ tables_1, d.before a0 Z = true) (ws : List Jvm.Cond) (p1 : Int32) (p2 : Int32) (p3 : Int32) (p4 : Int32) (p5 : Int32) (p6 : Int32) (h0 : Heap) (n0 : Nat) (Z0 : n0 ≤ h0.size) (hc44 : ¬ ((own_irem (p6 &&& (2147483647 : Int32)) (4 : Int32)) = (0 : Int32))) (hc71 : ¬ ((own_irem (p6 &&& (2147483647 : Int32)) (4 : Int32)) = (1 : Int32))) (hc112 : ¬ ((own_irem (p6 &&& (2147483647 : Int32)) (4 : Int32)) = (2 : Int32))) (hba230 : B53 ((1 : Int64) + ((9 : Int64) * ((p5 >>> ((8 : Int32) &&& 31)).toInt64)))) (hbb230 : B53 ((1 : Int64) + ((9 : Int64) * ((p5 >>> ((8 : Int32) &&& 31)).toInt64)))) :
    MetFree l x (head1 (Jvm.Cond.code x code maxLocals ret :: ws) room_1) (fun a U => a = #[(.int p1), (.int p2), (.int p3), (.int p4), (.int p5), (.int p6)] ∧ Z.Warmed39 U.vm ∧ U.heap = h0) (fun _ _ _ _ _ => True) (fun _ U o U' => ∃ v L, o = .returned v ∧ Q0 Z p1 p2 p3 p4 p5 p6 h0 n0 v U'.heap L ∧ FrameEnd U o U' L room_1.cells room_1.slots) := by
  refine MetFree.of_bodySF (plainFor_of_name pn_0) hisR ?_
  intro p e s m args below meth c s₁ Bd hml0 hP hK
  obtain ⟨rfl, hZ, hh⟩ := hP
  have hx := Bd.exec
  have hby := Bd.bytes
  have hml : c.maxLocals = 20 := hml0
  have hown : s.vm.findClass "com/example/paretoloom/paretoloom/problems/ZdtLinearGPinLaw" = some m.cls := findClass_of_methodNamed Bd.named
  have hnm := (name_of_methodNamed Bd.named Bd.method).1
  have X0 : Stand p l e room_1 s m #[(.int p1), (.int p2), (.int p3), (.int p4), (.int p5), (.int p6)] below meth c s₁ [] 0 0 := Stand.of_body Bd
  have e0 : s₁.heap = h0 := by rw [← hh, Bd.state]; rfl
  have N0 := Fr.nil n0
  have pre0 : ∀ t, Steps p.tables e below (s₁.setTop (mkF m 0 #[.val (.int p1), .val (.int p2), .val (.int p3), .val (.int p4), .val (.int p5), .val (.int p6), .unset, .unset, .unset, .unset, .unset, .unset, .unset, .unset, .unset, .unset, .unset, .unset, .unset, .unset] [])) t → Steps p.tables e below (s₁.setTop (entryFrame m #[(.int p1), (.int p2), (.int p3), (.int p4), (.int p5), (.int p6)] maxLocals)) t := fun t k => castTop (ef_0 m p1 p2 p3 p4 p5 p6) k
  -- 3. LAWS
  obtain ⟨T7, h7, k7, X7, e7, E7, A7, st7⟩ := newP X0 hx hZ (hw _ (List.mem_of_getElem? (i := 1) rfl)) e0 (g := (mkF m 161 #[.val (.int p1), .val (.int p2), .val (.int p3), .val (.int p4), .val (.int p5), .val (.int p6), .val (.int (own_irem (p6 &&& (2147483647 : Int32)) (4 : Int32))), .val (.long ((p5 >>> ((8 : Int32) &&& 31)).toInt64)), .second, .val (.long ((p2 >>> ((8 : Int32) &&& 31)).toInt64)), .second, .val (.long ((p3 >>> ((8 : Int32) &&& 31)).toInt64)), .second, .val (.long ((p4 >>> ((8 : Int32) &&& 31)).toInt64)), .second, .val (.double (FP.l2d (p1.toInt64))), .second, .unset, .unset, .unset] [(.int (5 : Int32))])) rfl (hb hby at_161) rfl (by decide) (cap := 5) (by decide) (by decide) (by decide) (by decide)
  obtain ⟨b7, g7⟩ : ∃ z, z = h0.size := ⟨_, rfl⟩      -- the fresh array's address
  rw [← g7] at A7 st7
  have V_b7 : Arv Z h7 b7 k7 .double (5 : Int32) [(.double (FP.l2d 0)), (.double (FP.l2d 0)), (.double (FP.l2d 0)), (.double (FP.l2d 0)), (.double (FP.l2d 0))] (.double (FP.l2d 0)) := (Arv.newD A7 (by decide)).pad (pad_rep [] (.double (FP.l2d 0)) 5)
  have g_b7 : n0 ≤ b7 := Nat.le_trans Z0 (Nat.le_of_eq g7.symm)
  have sz_b7 : h0.size ≤ b7 := (Nat.le_trans (Keep.refl h0 []).1 (Nat.le_of_eq g7.symm))
  have K7 : Keep h0 h7 [] := (Keep.refl h0 []).ext E7
  obtain ⟨cl_b7_170, Ar_b7, q_b7, S_b7, N_b7, H_b7, G_b7⟩ := V_b7      -- open the array's fact as it stands now (its cell, kind, length, elements)
  have hin170 : ¬ ((0 : Int32) < 0 ∨ cl_b7_170.slots.size ≤ ((0 : Int32)).toNatClampNeg) := inb_of S_b7 ⟨by decide, by decide⟩
  obtain ⟨T8, h8, X8, e8, W8, st8⟩ := stD X7 hx hZ e7 Ar_b7 (j := (0 : Int32)) hin170 (g := (mkF m 170 #[.val (.int p1), .val (.int p2), .val (.int p3), .val (.int p4), .val (.int p5), .val (.int p6), .val (.int (own_irem (p6 &&& (2147483647 : Int32)) (4 : Int32))), .val (.long ((p5 >>> ((8 : Int32) &&& 31)).toInt64)), .second, .val (.long ((p2 >>> ((8 : Int32) &&& 31)).toInt64)), .second, .val (.long ((p3 >>> ((8 : Int32) &&& 31)).toInt64)), .second, .val (.long ((p4 >>> ((8 : Int32) &&& 31)).toInt64)), .second, .val (.double (FP.l2d (p1.toInt64))), .second, .val (.ref b7), .unset, .unset] [(.double (FP.l2d (p1.toInt64))), (.int (0 : Int32)), (.ref b7)])) rfl rfl (hb hby at_170)
  have V_b7_8 := Arv.set Ar_b7 q_b7 S_b7 N_b7 H_b7 G_b7 rfl W8 0 rfl (Nat.le_of_ble_eq_true rfl)      -- the array as it stands now (the place must lie among its first values: Arv.pad with pad_rep lengthens them)
  have K8 : Keep h0 h8 [] := K7.wr W8 (Or.inr sz_b7)
  have N8 := Fr.snoc X8 N0 g_b7
  obtain ⟨cl_b7_177, Ar_b7, q_b7, S_b7, N_b7, H_b7, G_b7⟩ := V_b7_8      -- open the array's fact as it stands now (its cell, kind, length, elements)
  have hin177 : ¬ ((1 : Int32) < 0 ∨ cl_b7_177.slots.size ≤ ((1 : Int32)).toNatClampNeg) := inb_of S_b7 ⟨by decide, by decide⟩
  obtain ⟨T9, h9, X9, e9, W9, st9⟩ := stD X8 hx hZ e8 Ar_b7 (j := (1 : Int32)) hin177 (g := (mkF m 177 #[.val (.int p1), .val (.int p2), .val (.int p3), .val (.int p4), .val (.int p5), .val (.int p6), .val (.int (own_irem (p6 &&& (2147483647 : Int32)) (4 : Int32))), .val (.long ((p5 >>> ((8 : Int32) &&& 31)).toInt64)), .second, .val (.long ((p2 >>> ((8 : Int32) &&& 31)).toInt64)), .second, .val (.long ((p3 >>> ((8 : Int32) &&& 31)).toInt64)), .second, .val (.long ((p4 >>> ((8 : Int32) &&& 31)).toInt64)), .second, .val (.double (FP.l2d (p1.toInt64))), .second, .val (.ref b7), .unset, .unset] [(.double (FP.l2d ((p2 >>> ((8 : Int32) &&& 31)).toInt64))), (.int (1 : Int32)), (.ref b7)])) rfl rfl (hb hby at_177)
  have V_b7_9 := Arv.set Ar_b7 q_b7 S_b7 N_b7 H_b7 G_b7 rfl W9 1 rfl (Nat.le_of_ble_eq_true rfl)      -- the array as it stands now (the place must lie among its first values: Arv.pad with pad_rep lengthens them)
  have K9 : Keep h0 h9 [] := K8.wr W9 (Or.inr sz_b7)
  have N9 := Fr.snoc X9 N8 g_b7
  obtain ⟨cl_b7_184, Ar_b7, q_b7, S_b7, N_b7, H_b7, G_b7⟩ := V_b7_9      -- open the array's fact as it stands now (its cell, kind, length, elements)
  have hin184 : ¬ ((2 : Int32) < 0 ∨ cl_b7_184.slots.size ≤ ((2 : Int32)).toNatClampNeg) := inb_of S_b7 ⟨by decide, by decide⟩
  obtain ⟨T10, h10, X10, e10, W10, st10⟩ := stD X9 hx hZ e9 Ar_b7 (j := (2 : Int32)) hin184 (g := (mkF m 184 #[.val (.int p1), .val (.int p2), .val (.int p3), .val (.int p4), .val (.int p5), .val (.int p6), .val (.int (own_irem (p6 &&& (2147483647 : Int32)) (4 : Int32))), .val (.long ((p5 >>> ((8 : Int32) &&& 31)).toInt64)), .second, .val (.long ((p2 >>> ((8 : Int32) &&& 31)).toInt64)), .second, .val (.long ((p3 >>> ((8 : Int32) &&& 31)).toInt64)), .second, .val (.long ((p4 >>> ((8 : Int32) &&& 31)).toInt64)), .second, .val (.double (FP.l2d (p1.toInt64))), .second, .val (.ref b7), .unset, .unset] [(.double (FP.l2d ((p3 >>> ((8 : Int32) &&& 31)).toInt64))), (.int (2 : Int32)), (.ref b7)])) rfl rfl (hb hby at_184)
  have V_b7_10 := Arv.set Ar_b7 q_b7 S_b7 N_b7 H_b7 G_b7 rfl W10 2 rfl (Nat.le_of_ble_eq_true rfl)      -- the array as it stands now (the place must lie among its first values: Arv.pad with pad_rep lengthens them)
  have K10 : Keep h0 h10 [] := K9.wr W10 (Or.inr sz_b7)
  have N10 := Fr.snoc X10 N9 g_b7
  obtain ⟨cl_b7_191, Ar_b7, q_b7, S_b7, N_b7, H_b7, G_b7⟩ := V_b7_10      -- open the array's fact as it stands now (its cell, kind, length, elements)
  have hin191 : ¬ ((3 : Int32) < 0 ∨ cl_b7_191.slots.size ≤ ((3 : Int32)).toNatClampNeg) := inb_of S_b7 ⟨by decide, by decide⟩
  obtain ⟨T11, h11, X11, e11, W11, st11⟩ := stD X10 hx hZ e10 Ar_b7 (j := (3 : Int32)) hin191 (g := (mkF m 191 #[.val (.int p1), .val (.int p2), .val (.int p3), .val (.int p4), .val (.int p5), .val (.int p6), .val (.int (own_irem (p6 &&& (2147483647 : Int32)) (4 : Int32))), .val (.long ((p5 >>> ((8 : Int32) &&& 31)).toInt64)), .second, .val (.long ((p2 >>> ((8 : Int32) &&& 31)).toInt64)), .second, .val (.long ((p3 >>> ((8 : Int32) &&& 31)).toInt64)), .second, .val (.long ((p4 >>> ((8 : Int32) &&& 31)).toInt64)), .second, .val (.double (FP.l2d (p1.toInt64))), .second, .val (.ref b7), .unset, .unset] [(.double (FP.l2d ((p4 >>> ((8 : Int32) &&& 31)).toInt64))), (.int (3 : Int32)), (.ref b7)])) rfl rfl (hb hby at_191)
  have V_b7_11 := Arv.set Ar_b7 q_b7 S_b7 N_b7 H_b7 G_b7 rfl W11 3 rfl (Nat.le_of_ble_eq_true rfl)      -- the array as it stands now (the place must lie among its first values: Arv.pad with pad_rep lengthens them)
  have K11 : Keep h0 h11 [] := K10.wr W11 (Or.inr sz_b7)
  have N11 := Fr.snoc X11 N10 g_b7
  obtain ⟨cl_b7_211, Ar_b7, q_b7, S_b7, N_b7, H_b7, G_b7⟩ := V_b7_11      -- open the array's fact as it stands now (its cell, kind, length, elements)
  have hin211 : ¬ ((4 : Int32) < 0 ∨ cl_b7_211.slots.size ≤ ((4 : Int32)).toNatClampNeg) := inb_of S_b7 ⟨by decide, by decide⟩
  obtain ⟨T12, h12, X12, e12, W12, st12⟩ := stD X11 hx hZ e11 Ar_b7 (j := (4 : Int32)) hin211 (g := (mkF m 211 #[.val (.int p1), .val (.int p2), .val (.int p3), .val (.int p4), .val (.int p5), .val (.int p6), .val (.int (own_irem (p6 &&& (2147483647 : Int32)) (4 : Int32))), .val (.long ((p5 >>> ((8 : Int32) &&& 31)).toInt64)), .second, .val (.long ((p2 >>> ((8 : Int32) &&& 31)).toInt64)), .second, .val (.long ((p3 >>> ((8 : Int32) &&& 31)).toInt64)), .second, .val (.long ((p4 >>> ((8 : Int32) &&& 31)).toInt64)), .second, .val (.double (FP.l2d (p1.toInt64))), .second, .val (.ref b7), .unset, .unset] [(.double (FP.l2d (((((4 : Int64) * ((p5 >>> ((8 : Int32) &&& 31)).toInt64)) - ((p2 >>> ((8 : Int32) &&& 31)).toInt64)) - ((p3 >>> ((8 : Int32) &&& 31)).toInt64)) - ((p4 >>> ((8 : Int32) &&& 31)).toInt64)))), (.int (4 : Int32)), (.ref b7)])) rfl rfl (hb hby at_211)
  have V_b7_12 := Arv.set Ar_b7 q_b7 S_b7 N_b7 H_b7 G_b7 rfl W12 4 rfl (Nat.le_of_ble_eq_true rfl)      -- the array as it stands now (the place must lie among its first values: Arv.pad with pad_rep lengthens them)
  have K12 : Keep h0 h12 [] := K11.wr W12 (Or.inr sz_b7)
  have N12 := Fr.snoc X12 N11 g_b7
  -- pc 225: com/example/paretoloom/paretoloom/problems/Zdt.linearG by its contract rm1
  have Vq : Arv Z h12 b7 k7 .double (5 : Int32) [(.double (FP.l2d (p1.toInt64))), (.double (FP.l2d ((p2 >>> ((8 : Int32) &&& 31)).toInt64))), (.double (FP.l2d ((p3 >>> ((8 : Int32) &&& 31)).toInt64))), (.double (FP.l2d ((p4 >>> ((8 : Int32) &&& 31)).toInt64))), (.double (FP.l2d (((((4 : Int64) * ((p5 >>> ((8 : Int32) &&& 31)).toInt64)) - ((p2 >>> ((8 : Int32) &&& 31)).toInt64)) - ((p3 >>> ((8 : Int32) &&& 31)).toInt64)) - ((p4 >>> ((8 : Int32) &&& 31)).toInt64))))] (.double (FP.l2d 0)) := V_b7_12
  obtain ⟨_, _, ⟨T13, L13, k13, n13⟩, -, X13, ⟨Lc13, hQ13, l13, y13, z13⟩, st13⟩ := Jvm.LawKit.callS X12 hx (y := (⟨"com/example/paretoloom/paretoloom/problems/Zdt", "linearG", "([D)D"⟩ : MethodName)) hown (mvT hZ (hw _ (List.mem_of_getElem? (i := 4) rfl))) (mvT hZ (hw _ (List.mem_of_getElem? (i := 5) rfl))) (mvT hZ (hw _ (List.mem_of_getElem? (i := 6) rfl))) (mvT hZ (hw _ (List.mem_of_getElem? (i := 7) rfl))) (by decide) (backOf (W := 0) (rm1_n5 l Z a0 hw [] b7 _ _ (p1.toInt64) ((p2 >>> ((8 : Int32) &&& 31)).toInt64) ((p3 >>> ((8 : Int32) &&& 31)).toInt64) ((p4 >>> ((8 : Int32) &&& 31)).toInt64) (((((4 : Int64) * ((p5 >>> ((8 : Int32) &&& 31)).toInt64)) - ((p2 >>> ((8 : Int32) &&& 31)).toInt64)) - ((p3 >>> ((8 : Int32) &&& 31)).toInt64)) - ((p4 >>> ((8 : Int32) &&& 31)).toInt64)) ((p5 >>> ((8 : Int32) &&& 31)).toInt64) h12 n0 (Nat.le_trans Z0 K12.1) Vq (own_sh p2) (own_sh p3) (own_sh p4) (own_w4 p5 p2 p3 p4).1 (own_sh p5) (own_w4 p5 p2 p3 p4).2) hZ (hw _ (List.mem_of_getElem? (i := 7) rfl)) (hw _ (List.mem_of_getElem? (i := 6) rfl)) (by decide) (by decide)) (g := (mkF m 225 #[.val (.int p1), .val (.int p2), .val (.int p3), .val (.int p4), .val (.int p5), .val (.int p6), .val (.int (own_irem (p6 &&& (2147483647 : Int32)) (4 : Int32))), .val (.long ((p5 >>> ((8 : Int32) &&& 31)).toInt64)), .second, .val (.long ((p2 >>> ((8 : Int32) &&& 31)).toInt64)), .second, .val (.long ((p3 >>> ((8 : Int32) &&& 31)).toInt64)), .second, .val (.long ((p4 >>> ((8 : Int32) &&& 31)).toInt64)), .second, .val (.double (FP.l2d (p1.toInt64))), .second, .val (.ref b7), .val (.double (FP.l2d ((1 : Int64) + ((9 : Int64) * ((p5 >>> ((8 : Int32) &&& 31)).toInt64))))), .second] [(.ref b7)])) rfl (by rw [hml]; rfl) (argsL := [(.ref b7)]) (rest := []) (lenOf pd_0_0 rfl) rfl (by show 2 * 0 + _ ≤ _; exact Nat.le_of_eq rfl) (hb hby at_225) (fun _ _ => ⟨rfl, e12, (by decide : 1 + 0 ≤ _), (by decide : 5 + 0 ≤ _)⟩)
  dsimp only [Pt.U, Pt.locs, Pt.cells, Pt.slots] at X13 l13 y13 z13 st13 hQ13
  subst l13 y13 z13
  obtain ⟨rfl, N13q, eQq⟩ := hQ13      -- what it returned, that it wrote nothing old, and the rest of your Q1
  have N13 := Fr.app N12 N13q
  obtain ⟨fs, hr, hrun, hended, hW, hsame⟩ := X13.leave (v := some (.int (1 : Int32))) (fun h => by rw [Bd.returns] at h; cases h)
  refine ⟨_, _, pre0 _ ?_, hrun, hended, _, _, rfl, ?_, ⟨_, rfl⟩, hW, hsame.mono (by decide) (by decide)⟩
  -- 4. STEPS
  · show Steps p.tables e below (s₁.setTop (mkF m 0 #[.val (.int p1), .val (.int p2), .val (.int p3), .val (.int p4), .val (.int p5), .val (.int p6), .unset, .unset, .unset, .unset, .unset, .unset, .unset, .unset, .unset, .unset, .unset, .unset, .unset, .unset] [])) _
    refine XS.iload X0.here hx rfl (hb hby at_0) rfl ?_
    show Steps p.tables e below (s₁.setTop (mkF m 2 #[.val (.int p1), .val (.int p2), .val (.int p3), .val (.int p4), .val (.int p5), .val (.int p6), .unset, .unset, .unset, .unset, .unset, .unset, .unset, .unset, .unset, .unset, .unset, .unset, .unset, .unset] [(.int p6)])) _
    refine X0.ldcInt hx hown (mvT hZ (hw _ (List.mem_of_getElem? (i := 0) rfl))) (g := (mkF m 2 #[.val (.int p1), .val (.int p2), .val (.int p3), .val (.int p4), .val (.int p5), .val (.int p6), .unset, .unset, .unset, .unset, .unset, .unset, .unset, .unset, .unset, .unset, .unset, .unset, .unset, .unset] [(.int p6)])) rfl (hb hby at_2) _ ?_
    show Steps p.tables e below (s₁.setTop (mkF m 4 #[.val (.int p1), .val (.int p2), .val (.int p3), .val (.int p4), .val (.int p5), .val (.int p6), .unset, .unset, .unset, .unset, .unset, .unset, .unset, .unset, .unset, .unset, .unset, .unset, .unset, .unset] [(.int (2147483647 : Int32)), (.int p6)])) _
    refine XS.iand X0.here hx rfl (hb hby at_4) rfl ?_
    show Steps p.tables e below (s₁.setTop (mkF m 5 #[.val (.int p1), .val (.int p2), .val (.int p3), .val (.int p4), .val (.int p5), .val (.int p6), .unset, .unset, .unset, .unset, .unset, .unset, .unset, .unset, .unset, .unset, .unset, .unset, .unset, .unset] [(.int (p6 &&& (2147483647 : Int32)))])) _
    refine XS.iconst X0.here hx rfl (hb hby at_5) ?_
    show Steps p.tables e below (s₁.setTop (mkF m 6 #[.val (.int p1), .val (.int p2), .val (.int p3), .val (.int p4), .val (.int p5), .val (.int p6), .unset, .unset, .unset, .unset, .unset, .unset, .unset, .unset, .unset, .unset, .unset, .unset, .unset, .unset] [(.int (4 : Int32)), (.int (p6 &&& (2147483647 : Int32)))])) _
    refine iremM X0 hx rfl (hb hby at_6) rfl (by decide) ?_
    show Steps p.tables e below (s₁.setTop (mkF m 7 #[.val (.int p1), .val (.int p2), .val (.int p3), .val (.int p4), .val (.int p5), .val (.int p6), .unset, .unset, .unset, .unset, .unset, .unset, .unset, .unset, .unset, .unset, .unset, .unset, .unset, .unset] [(.int (own_irem (p6 &&& (2147483647 : Int32)) (4 : Int32)))])) _
    refine XS.istore X0.here hx rfl (hb hby at_7) rfl (l' := #[.val (.int p1), .val (.int p2), .val (.int p3), .val (.int p4), .val (.int p5), .val (.int p6), .val (.int (own_irem (p6 &&& (2147483647 : Int32)) (4 : Int32))), .unset, .unset, .unset, .unset, .unset, .unset, .unset, .unset, .unset, .unset, .unset, .unset, .unset]) rfl ?_
    show Steps p.tables e below (s₁.setTop (mkF m 9 #[.val (.int p1), .val (.int p2), .val (.int p3), .val (.int p4), .val (.int p5), .val (.int p6), .val (.int (own_irem (p6 &&& (2147483647 : Int32)) (4 : Int32))), .unset, .unset, .unset, .unset, .unset, .unset, .unset, .unset, .unset, .unset, .unset, .unset, .unset] [])) _
    refine XS.iload X0.here hx rfl (hb hby at_9) rfl ?_
    show Steps p.tables e below (s₁.setTop (mkF m 11 #[.val (.int p1), .val (.int p2), .val (.int p3), .val (.int p4), .val (.int p5), .val (.int p6), .val (.int (own_irem (p6 &&& (2147483647 : Int32)) (4 : Int32))), .unset, .unset, .unset, .unset, .unset, .unset, .unset, .unset, .unset, .unset, .unset, .unset, .unset] [(.int p5)])) _
    refine XS.bipush X0.here hx rfl (hb hby at_11) ?_
    show Steps p.tables e below (s₁.setTop (mkF m 13 #[.val (.int p1), .val (.int p2), .val (.int p3), .val (.int p4), .val (.int p5), .val (.int p6), .val (.int (own_irem (p6 &&& (2147483647 : Int32)) (4 : Int32))), .unset, .unset, .unset, .unset, .unset, .unset, .unset, .unset, .unset, .unset, .unset, .unset, .unset] [(.int (8 : Int32)), (.int p5)])) _
    refine XS.ishr X0.here hx rfl (hb hby at_13) rfl ?_
    show Steps p.tables e below (s₁.setTop (mkF m 14 #[.val (.int p1), .val (.int p2), .val (.int p3), .val (.int p4), .val (.int p5), .val (.int p6), .val (.int (own_irem (p6 &&& (2147483647 : Int32)) (4 : Int32))), .unset, .unset, .unset, .unset, .unset, .unset, .unset, .unset, .unset, .unset, .unset, .unset, .unset] [(.int (p5 >>> ((8 : Int32) &&& 31)))])) _
    refine XS.i2l X0.here hx rfl (hb hby at_14) rfl ?_
    show Steps p.tables e below (s₁.setTop (mkF m 15 #[.val (.int p1), .val (.int p2), .val (.int p3), .val (.int p4), .val (.int p5), .val (.int p6), .val (.int (own_irem (p6 &&& (2147483647 : Int32)) (4 : Int32))), .unset, .unset, .unset, .unset, .unset, .unset, .unset, .unset, .unset, .unset, .unset, .unset, .unset] [(.long ((p5 >>> ((8 : Int32) &&& 31)).toInt64))])) _
    refine XS.lstore X0.here hx rfl (hb hby at_15) rfl (l' := #[.val (.int p1), .val (.int p2), .val (.int p3), .val (.int p4), .val (.int p5), .val (.int p6), .val (.int (own_irem (p6 &&& (2147483647 : Int32)) (4 : Int32))), .val (.long ((p5 >>> ((8 : Int32) &&& 31)).toInt64)), .second, .unset, .unset, .unset, .unset, .unset, .unset, .unset, .unset, .unset, .unset, .unset]) rfl ?_
    show Steps p.tables e below (s₁.setTop (mkF m 17 #[.val (.int p1), .val (.int p2), .val (.int p3), .val (.int p4), .val (.int p5), .val (.int p6), .val (.int (own_irem (p6 &&& (2147483647 : Int32)) (4 : Int32))), .val (.long ((p5 >>> ((8 : Int32) &&& 31)).toInt64)), .second, .unset, .unset, .unset, .unset, .unset, .unset, .unset, .unset, .unset, .unset, .unset] [])) _
    refine XS.iloadN X0.here hx rfl (hb hby at_17) rfl ?_
    show Steps p.tables e below (s₁.setTop (mkF m 18 #[.val (.int p1), .val (.int p2), .val (.int p3), .val (.int p4), .val (.int p5), .val (.int p6), .val (.int (own_irem (p6 &&& (2147483647 : Int32)) (4 : Int32))), .val (.long ((p5 >>> ((8 : Int32) &&& 31)).toInt64)), .second, .unset, .unset, .unset, .unset, .unset, .unset, .unset, .unset, .unset, .unset, .unset] [(.int p2)])) _
    refine XS.bipush X0.here hx rfl (hb hby at_18) ?_
    show Steps p.tables e below (s₁.setTop (mkF m 20 #[.val (.int p1), .val (.int p2), .val (.int p3), .val (.int p4), .val (.int p5), .val (.int p6), .val (.int (own_irem (p6 &&& (2147483647 : Int32)) (4 : Int32))), .val (.long ((p5 >>> ((8 : Int32) &&& 31)).toInt64)), .second, .unset, .unset, .unset, .unset, .unset, .unset, .unset, .unset, .unset, .unset, .unset] [(.int (8 : Int32)), (.int p2)])) _
    refine XS.ishr X0.here hx rfl (hb hby at_20) rfl ?_
    show Steps p.tables e below (s₁.setTop (mkF m 21 #[.val (.int p1), .val (.int p2), .val (.int p3), .val (.int p4), .val (.int p5), .val (.int p6), .val (.int (own_irem (p6 &&& (2147483647 : Int32)) (4 : Int32))), .val (.long ((p5 >>> ((8 : Int32) &&& 31)).toInt64)), .second, .unset, .unset, .unset, .unset, .unset, .unset, .unset, .unset, .unset, .unset, .unset] [(.int (p2 >>> ((8 : Int32) &&& 31)))])) _
    refine XS.i2l X0.here hx rfl (hb hby at_21) rfl ?_
    show Steps p.tables e below (s₁.setTop (mkF m 22 #[.val (.int p1), .val (.int p2), .val (.int p3), .val (.int p4), .val (.int p5), .val (.int p6), .val (.int (own_irem (p6 &&& (2147483647 : Int32)) (4 : Int32))), .val (.long ((p5 >>> ((8 : Int32) &&& 31)).toInt64)), .second, .unset, .unset, .unset, .unset, .unset, .unset, .unset, .unset, .unset, .unset, .unset] [(.long ((p2 >>> ((8 : Int32) &&& 31)).toInt64))])) _
    refine XS.lstore X0.here hx rfl (hb hby at_22) rfl (l' := #[.val (.int p1), .val (.int p2), .val (.int p3), .val (.int p4), .val (.int p5), .val (.int p6), .val (.int (own_irem (p6 &&& (2147483647 : Int32)) (4 : Int32))), .val (.long ((p5 >>> ((8 : Int32) &&& 31)).toInt64)), .second, .val (.long ((p2 >>> ((8 : Int32) &&& 31)).toInt64)), .second, .unset, .unset, .unset, .unset, .unset, .unset, .unset, .unset, .unset]) rfl ?_
    show Steps p.tables e below (s₁.setTop (mkF m 24 #[.val (.int p1), .val (.int p2), .val (.int p3), .val (.int p4), .val (.int p5), .val (.int p6), .val (.int (own_irem (p6 &&& (2147483647 : Int32)) (4 : Int32))), .val (.long ((p5 >>> ((8 : Int32) &&& 31)).toInt64)), .second, .val (.long ((p2 >>> ((8 : Int32) &&& 31)).toInt64)), .second, .unset, .unset, .unset, .unset, .unset, .unset, .unset, .unset, .unset] [])) _
    refine XS.iloadN X0.here hx rfl (hb hby at_24) rfl ?_
    show Steps p.tables e below (s₁.setTop (mkF m 25 #[.val (.int p1), .val (.int p2), .val (.int p3), .val (.int p4), .val (.int p5), .val (.int p6), .val (.int (own_irem (p6 &&& (2147483647 : Int32)) (4 : Int32))), .val (.long ((p5 >>> ((8 : Int32) &&& 31)).toInt64)), .second, .val (.long ((p2 >>> ((8 : Int32) &&& 31)).toInt64)), .second, .unset, .unset, .unset, .unset, .unset, .unset, .unset, .unset, .unset] [(.int p3)])) _
    refine XS.bipush X0.here hx rfl (hb hby at_25) ?_
    show Steps p.tables e below (s₁.setTop (mkF m 27 #[.val (.int p1), .val (.int p2), .val (.int p3), .val (.int p4), .val (.int p5), .val (.int p6), .val (.int (own_irem (p6 &&& (2147483647 : Int32)) (4 : Int32))), .val (.long ((p5 >>> ((8 : Int32) &&& 31)).toInt64)), .second, .val (.long ((p2 >>> ((8 : Int32) &&& 31)).toInt64)), .second, .unset, .unset, .unset, .unset, .unset, .unset, .unset, .unset, .unset] [(.int (8 : Int32)), (.int p3)])) _
    refine XS.ishr X0.here hx rfl (hb hby at_27) rfl ?_
    show Steps p.tables e below (s₁.setTop (mkF m 28 #[.val (.int p1), .val (.int p2), .val (.int p3), .val (.int p4), .val (.int p5), .val (.int p6), .val (.int (own_irem (p6 &&& (2147483647 : Int32)) (4 : Int32))), .val (.long ((p5 >>> ((8 : Int32) &&& 31)).toInt64)), .second, .val (.long ((p2 >>> ((8 : Int32) &&& 31)).toInt64)), .second, .unset, .unset, .unset, .unset, .unset, .unset, .unset, .unset, .unset] [(.int (p3 >>> ((8 : Int32) &&& 31)))])) _
    refine XS.i2l X0.here hx rfl (hb hby at_28) rfl ?_
    show Steps p.tables e below (s₁.setTop (mkF m 29 #[.val (.int p1), .val (.int p2), .val (.int p3), .val (.int p4), .val (.int p5), .val (.int p6), .val (.int (own_irem (p6 &&& (2147483647 : Int32)) (4 : Int32))), .val (.long ((p5 >>> ((8 : Int32) &&& 31)).toInt64)), .second, .val (.long ((p2 >>> ((8 : Int32) &&& 31)).toInt64)), .second, .unset, .unset, .unset, .unset, .unset, .unset, .unset, .unset, .unset] [(.long ((p3 >>> ((8 : Int32) &&& 31)).toInt64))])) _
    refine XS.lstore X0.here hx rfl (hb hby at_29) rfl (l' := #[.val (.int p1), .val (.int p2), .val (.int p3), .val (.int p4), .val (.int p5), .val (.int p6), .val (.int (own_irem (p6 &&& (2147483647 : Int32)) (4 : Int32))), .val (.long ((p5 >>> ((8 : Int32) &&& 31)).toInt64)), .second, .val (.long ((p2 >>> ((8 : Int32) &&& 31)).toInt64)), .second, .val (.long ((p3 >>> ((8 : Int32) &&& 31)).toInt64)), .second, .unset, .unset, .unset, .unset, .unset, .unset, .unset]) rfl ?_
    show Steps p.tables e below (s₁.setTop (mkF m 31 #[.val (.int p1), .val (.int p2), .val (.int p3), .val (.int p4), .val (.int p5), .val (.int p6), .val (.int (own_irem (p6 &&& (2147483647 : Int32)) (4 : Int32))), .val (.long ((p5 >>> ((8 : Int32) &&& 31)).toInt64)), .second, .val (.long ((p2 >>> ((8 : Int32) &&& 31)).toInt64)), .second, .val (.long ((p3 >>> ((8 : Int32) &&& 31)).toInt64)), .second, .unset, .unset, .unset, .unset, .unset, .unset, .unset] [])) _
    refine XS.iloadN X0.here hx rfl (hb hby at_31) rfl ?_
    show Steps p.tables e below (s₁.setTop (mkF m 32 #[.val (.int p1), .val (.int p2), .val (.int p3), .val (.int p4), .val (.int p5), .val (.int p6), .val (.int (own_irem (p6 &&& (2147483647 : Int32)) (4 : Int32))), .val (.long ((p5 >>> ((8 : Int32) &&& 31)).toInt64)), .second, .val (.long ((p2 >>> ((8 : Int32) &&& 31)).toInt64)), .second, .val (.long ((p3 >>> ((8 : Int32) &&& 31)).toInt64)), .second, .unset, .unset, .unset, .unset, .unset, .unset, .unset] [(.int p4)])) _
    refine XS.bipush X0.here hx rfl (hb hby at_32) ?_
    show Steps p.tables e below (s₁.setTop (mkF m 34 #[.val (.int p1), .val (.int p2), .val (.int p3), .val (.int p4), .val (.int p5), .val (.int p6), .val (.int (own_irem (p6 &&& (2147483647 : Int32)) (4 : Int32))), .val (.long ((p5 >>> ((8 : Int32) &&& 31)).toInt64)), .second, .val (.long ((p2 >>> ((8 : Int32) &&& 31)).toInt64)), .second, .val (.long ((p3 >>> ((8 : Int32) &&& 31)).toInt64)), .second, .unset, .unset, .unset, .unset, .unset, .unset, .unset] [(.int (8 : Int32)), (.int p4)])) _
    refine XS.ishr X0.here hx rfl (hb hby at_34) rfl ?_
    show Steps p.tables e below (s₁.setTop (mkF m 35 #[.val (.int p1), .val (.int p2), .val (.int p3), .val (.int p4), .val (.int p5), .val (.int p6), .val (.int (own_irem (p6 &&& (2147483647 : Int32)) (4 : Int32))), .val (.long ((p5 >>> ((8 : Int32) &&& 31)).toInt64)), .second, .val (.long ((p2 >>> ((8 : Int32) &&& 31)).toInt64)), .second, .val (.long ((p3 >>> ((8 : Int32) &&& 31)).toInt64)), .second, .unset, .unset, .unset, .unset, .unset, .unset, .unset] [(.int (p4 >>> ((8 : Int32) &&& 31)))])) _
    refine XS.i2l X0.here hx rfl (hb hby at_35) rfl ?_
    show Steps p.tables e below (s₁.setTop (mkF m 36 #[.val (.int p1), .val (.int p2), .val (.int p3), .val (.int p4), .val (.int p5), .val (.int p6), .val (.int (own_irem (p6 &&& (2147483647 : Int32)) (4 : Int32))), .val (.long ((p5 >>> ((8 : Int32) &&& 31)).toInt64)), .second, .val (.long ((p2 >>> ((8 : Int32) &&& 31)).toInt64)), .second, .val (.long ((p3 >>> ((8 : Int32) &&& 31)).toInt64)), .second, .unset, .unset, .unset, .unset, .unset, .unset, .unset] [(.long ((p4 >>> ((8 : Int32) &&& 31)).toInt64))])) _
    refine XS.lstore X0.here hx rfl (hb hby at_36) rfl (l' := #[.val (.int p1), .val (.int p2), .val (.int p3), .val (.int p4), .val (.int p5), .val (.int p6), .val (.int (own_irem (p6 &&& (2147483647 : Int32)) (4 : Int32))), .val (.long ((p5 >>> ((8 : Int32) &&& 31)).toInt64)), .second, .val (.long ((p2 >>> ((8 : Int32) &&& 31)).toInt64)), .second, .val (.long ((p3 >>> ((8 : Int32) &&& 31)).toInt64)), .second, .val (.long ((p4 >>> ((8 : Int32) &&& 31)).toInt64)), .second, .unset, .unset, .unset, .unset, .unset]) rfl ?_
    show Steps p.tables e below (s₁.setTop (mkF m 38 #[.val (.int p1), .val (.int p2), .val (.int p3), .val (.int p4), .val (.int p5), .val (.int p6), .val (.int (own_irem (p6 &&& (2147483647 : Int32)) (4 : Int32))), .val (.long ((p5 >>> ((8 : Int32) &&& 31)).toInt64)), .second, .val (.long ((p2 >>> ((8 : Int32) &&& 31)).toInt64)), .second, .val (.long ((p3 >>> ((8 : Int32) &&& 31)).toInt64)), .second, .val (.long ((p4 >>> ((8 : Int32) &&& 31)).toInt64)), .second, .unset, .unset, .unset, .unset, .unset] [])) _
    refine XS.iloadN X0.here hx rfl (hb hby at_38) rfl ?_
    show Steps p.tables e below (s₁.setTop (mkF m 39 #[.val (.int p1), .val (.int p2), .val (.int p3), .val (.int p4), .val (.int p5), .val (.int p6), .val (.int (own_irem (p6 &&& (2147483647 : Int32)) (4 : Int32))), .val (.long ((p5 >>> ((8 : Int32) &&& 31)).toInt64)), .second, .val (.long ((p2 >>> ((8 : Int32) &&& 31)).toInt64)), .second, .val (.long ((p3 >>> ((8 : Int32) &&& 31)).toInt64)), .second, .val (.long ((p4 >>> ((8 : Int32) &&& 31)).toInt64)), .second, .unset, .unset, .unset, .unset, .unset] [(.int p1)])) _
    refine XS.i2dS X0.here hx rfl (hb hby at_39) rfl (i2d_w _) ?_
    show Steps p.tables e below (s₁.setTop (mkF m 40 #[.val (.int p1), .val (.int p2), .val (.int p3), .val (.int p4), .val (.int p5), .val (.int p6), .val (.int (own_irem (p6 &&& (2147483647 : Int32)) (4 : Int32))), .val (.long ((p5 >>> ((8 : Int32) &&& 31)).toInt64)), .second, .val (.long ((p2 >>> ((8 : Int32) &&& 31)).toInt64)), .second, .val (.long ((p3 >>> ((8 : Int32) &&& 31)).toInt64)), .second, .val (.long ((p4 >>> ((8 : Int32) &&& 31)).toInt64)), .second, .unset, .unset, .unset, .unset, .unset] [(.double (FP.l2d (p1.toInt64)))])) _
    refine XS.dstore X0.here hx rfl (hb hby at_40) rfl (l' := #[.val (.int p1), .val (.int p2), .val (.int p3), .val (.int p4), .val (.int p5), .val (.int p6), .val (.int (own_irem (p6 &&& (2147483647 : Int32)) (4 : Int32))), .val (.long ((p5 >>> ((8 : Int32) &&& 31)).toInt64)), .second, .val (.long ((p2 >>> ((8 : Int32) &&& 31)).toInt64)), .second, .val (.long ((p3 >>> ((8 : Int32) &&& 31)).toInt64)), .second, .val (.long ((p4 >>> ((8 : Int32) &&& 31)).toInt64)), .second, .val (.double (FP.l2d (p1.toInt64))), .second, .unset, .unset, .unset]) rfl ?_
    show Steps p.tables e below (s₁.setTop (mkF m 42 #[.val (.int p1), .val (.int p2), .val (.int p3), .val (.int p4), .val (.int p5), .val (.int p6), .val (.int (own_irem (p6 &&& (2147483647 : Int32)) (4 : Int32))), .val (.long ((p5 >>> ((8 : Int32) &&& 31)).toInt64)), .second, .val (.long ((p2 >>> ((8 : Int32) &&& 31)).toInt64)), .second, .val (.long ((p3 >>> ((8 : Int32) &&& 31)).toInt64)), .second, .val (.long ((p4 >>> ((8 : Int32) &&& 31)).toInt64)), .second, .val (.double (FP.l2d (p1.toInt64))), .second, .unset, .unset, .unset] [])) _
    refine XS.iload X0.here hx rfl (hb hby at_42) rfl ?_
    show Steps p.tables e below (s₁.setTop (mkF m 44 #[.val (.int p1), .val (.int p2), .val (.int p3), .val (.int p4), .val (.int p5), .val (.int p6), .val (.int (own_irem (p6 &&& (2147483647 : Int32)) (4 : Int32))), .val (.long ((p5 >>> ((8 : Int32) &&& 31)).toInt64)), .second, .val (.long ((p2 >>> ((8 : Int32) &&& 31)).toInt64)), .second, .val (.long ((p3 >>> ((8 : Int32) &&& 31)).toInt64)), .second, .val (.long ((p4 >>> ((8 : Int32) &&& 31)).toInt64)), .second, .val (.double (FP.l2d (p1.toInt64))), .second, .unset, .unset, .unset] [(.int (own_irem (p6 &&& (2147483647 : Int32)) (4 : Int32)))])) _
    refine XS.ifYes X0.here hx rfl (pc0 := 44) (pc' := 68) rfl (hb hby at_44) rfl ((if0 _ _).trans (feq hc44).2) (by decide) (by decide) ?_
    show Steps p.tables e below (s₁.setTop (mkF m 68 #[.val (.int p1), .val (.int p2), .val (.int p3), .val (.int p4), .val (.int p5), .val (.int p6), .val (.int (own_irem (p6 &&& (2147483647 : Int32)) (4 : Int32))), .val (.long ((p5 >>> ((8 : Int32) &&& 31)).toInt64)), .second, .val (.long ((p2 >>> ((8 : Int32) &&& 31)).toInt64)), .second, .val (.long ((p3 >>> ((8 : Int32) &&& 31)).toInt64)), .second, .val (.long ((p4 >>> ((8 : Int32) &&& 31)).toInt64)), .second, .val (.double (FP.l2d (p1.toInt64))), .second, .unset, .unset, .unset] [])) _
    refine XS.iload X0.here hx rfl (hb hby at_68) rfl ?_
    show Steps p.tables e below (s₁.setTop (mkF m 70 #[.val (.int p1), .val (.int p2), .val (.int p3), .val (.int p4), .val (.int p5), .val (.int p6), .val (.int (own_irem (p6 &&& (2147483647 : Int32)) (4 : Int32))), .val (.long ((p5 >>> ((8 : Int32) &&& 31)).toInt64)), .second, .val (.long ((p2 >>> ((8 : Int32) &&& 31)).toInt64)), .second, .val (.long ((p3 >>> ((8 : Int32) &&& 31)).toInt64)), .second, .val (.long ((p4 >>> ((8 : Int32) &&& 31)).toInt64)), .second, .val (.double (FP.l2d (p1.toInt64))), .second, .unset, .unset, .unset] [(.int (own_irem (p6 &&& (2147483647 : Int32)) (4 : Int32)))])) _
    refine XS.iconst X0.here hx rfl (hb hby at_70) ?_
    show Steps p.tables e below (s₁.setTop (mkF m 71 #[.val (.int p1), .val (.int p2), .val (.int p3), .val (.int p4), .val (.int p5), .val (.int p6), .val (.int (own_irem (p6 &&& (2147483647 : Int32)) (4 : Int32))), .val (.long ((p5 >>> ((8 : Int32) &&& 31)).toInt64)), .second, .val (.long ((p2 >>> ((8 : Int32) &&& 31)).toInt64)), .second, .val (.long ((p3 >>> ((8 : Int32) &&& 31)).toInt64)), .second, .val (.long ((p4 >>> ((8 : Int32) &&& 31)).toInt64)), .second, .val (.double (FP.l2d (p1.toInt64))), .second, .unset, .unset, .unset] [(.int (1 : Int32)), (.int (own_irem (p6 &&& (2147483647 : Int32)) (4 : Int32)))])) _
    refine XS.icmpYes X0.here hx rfl (pc0 := 71) (pc' := 109) rfl (hb hby at_71) rfl (feq hc71).2 (by decide) (by decide) ?_
    show Steps p.tables e below (s₁.setTop (mkF m 109 #[.val (.int p1), .val (.int p2), .val (.int p3), .val (.int p4), .val (.int p5), .val (.int p6), .val (.int (own_irem (p6 &&& (2147483647 : Int32)) (4 : Int32))), .val (.long ((p5 >>> ((8 : Int32) &&& 31)).toInt64)), .second, .val (.long ((p2 >>> ((8 : Int32) &&& 31)).toInt64)), .second, .val (.long ((p3 >>> ((8 : Int32) &&& 31)).toInt64)), .second, .val (.long ((p4 >>> ((8 : Int32) &&& 31)).toInt64)), .second, .val (.double (FP.l2d (p1.toInt64))), .second, .unset, .unset, .unset] [])) _
    refine XS.iload X0.here hx rfl (hb hby at_109) rfl ?_
    show Steps p.tables e below (s₁.setTop (mkF m 111 #[.val (.int p1), .val (.int p2), .val (.int p3), .val (.int p4), .val (.int p5), .val (.int p6), .val (.int (own_irem (p6 &&& (2147483647 : Int32)) (4 : Int32))), .val (.long ((p5 >>> ((8 : Int32) &&& 31)).toInt64)), .second, .val (.long ((p2 >>> ((8 : Int32) &&& 31)).toInt64)), .second, .val (.long ((p3 >>> ((8 : Int32) &&& 31)).toInt64)), .second, .val (.long ((p4 >>> ((8 : Int32) &&& 31)).toInt64)), .second, .val (.double (FP.l2d (p1.toInt64))), .second, .unset, .unset, .unset] [(.int (own_irem (p6 &&& (2147483647 : Int32)) (4 : Int32)))])) _
    refine XS.iconst X0.here hx rfl (hb hby at_111) ?_
    show Steps p.tables e below (s₁.setTop (mkF m 112 #[.val (.int p1), .val (.int p2), .val (.int p3), .val (.int p4), .val (.int p5), .val (.int p6), .val (.int (own_irem (p6 &&& (2147483647 : Int32)) (4 : Int32))), .val (.long ((p5 >>> ((8 : Int32) &&& 31)).toInt64)), .second, .val (.long ((p2 >>> ((8 : Int32) &&& 31)).toInt64)), .second, .val (.long ((p3 >>> ((8 : Int32) &&& 31)).toInt64)), .second, .val (.long ((p4 >>> ((8 : Int32) &&& 31)).toInt64)), .second, .val (.double (FP.l2d (p1.toInt64))), .second, .unset, .unset, .unset] [(.int (2 : Int32)), (.int (own_irem (p6 &&& (2147483647 : Int32)) (4 : Int32)))])) _
    refine XS.icmpYes X0.here hx rfl (pc0 := 112) (pc' := 160) rfl (hb hby at_112) rfl (feq hc112).2 (by decide) (by decide) ?_
    show Steps p.tables e below (s₁.setTop (mkF m 160 #[.val (.int p1), .val (.int p2), .val (.int p3), .val (.int p4), .val (.int p5), .val (.int p6), .val (.int (own_irem (p6 &&& (2147483647 : Int32)) (4 : Int32))), .val (.long ((p5 >>> ((8 : Int32) &&& 31)).toInt64)), .second, .val (.long ((p2 >>> ((8 : Int32) &&& 31)).toInt64)), .second, .val (.long ((p3 >>> ((8 : Int32) &&& 31)).toInt64)), .second, .val (.long ((p4 >>> ((8 : Int32) &&& 31)).toInt64)), .second, .val (.double (FP.l2d (p1.toInt64))), .second, .unset, .unset, .unset] [])) _
    refine XS.iconst X0.here hx rfl (hb hby at_160) ?_
    show Steps p.tables e below (s₁.setTop (mkF m 161 #[.val (.int p1), .val (.int p2), .val (.int p3), .val (.int p4), .val (.int p5), .val (.int p6), .val (.int (own_irem (p6 &&& (2147483647 : Int32)) (4 : Int32))), .val (.long ((p5 >>> ((8 : Int32) &&& 31)).toInt64)), .second, .val (.long ((p2 >>> ((8 : Int32) &&& 31)).toInt64)), .second, .val (.long ((p3 >>> ((8 : Int32) &&& 31)).toInt64)), .second, .val (.long ((p4 >>> ((8 : Int32) &&& 31)).toInt64)), .second, .val (.double (FP.l2d (p1.toInt64))), .second, .unset, .unset, .unset] [(.int (5 : Int32))])) _
    refine st7 _ ?_
    show Steps p.tables e below (T7.setTop (mkF m 163 #[.val (.int p1), .val (.int p2), .val (.int p3), .val (.int p4), .val (.int p5), .val (.int p6), .val (.int (own_irem (p6 &&& (2147483647 : Int32)) (4 : Int32))), .val (.long ((p5 >>> ((8 : Int32) &&& 31)).toInt64)), .second, .val (.long ((p2 >>> ((8 : Int32) &&& 31)).toInt64)), .second, .val (.long ((p3 >>> ((8 : Int32) &&& 31)).toInt64)), .second, .val (.long ((p4 >>> ((8 : Int32) &&& 31)).toInt64)), .second, .val (.double (FP.l2d (p1.toInt64))), .second, .unset, .unset, .unset] [(.ref b7)])) _
    refine XS.astore X7.here hx rfl (hb hby at_163) rfl rfl (l' := #[.val (.int p1), .val (.int p2), .val (.int p3), .val (.int p4), .val (.int p5), .val (.int p6), .val (.int (own_irem (p6 &&& (2147483647 : Int32)) (4 : Int32))), .val (.long ((p5 >>> ((8 : Int32) &&& 31)).toInt64)), .second, .val (.long ((p2 >>> ((8 : Int32) &&& 31)).toInt64)), .second, .val (.long ((p3 >>> ((8 : Int32) &&& 31)).toInt64)), .second, .val (.long ((p4 >>> ((8 : Int32) &&& 31)).toInt64)), .second, .val (.double (FP.l2d (p1.toInt64))), .second, .val (.ref b7), .unset, .unset]) rfl ?_
    show Steps p.tables e below (T7.setTop (mkF m 165 #[.val (.int p1), .val (.int p2), .val (.int p3), .val (.int p4), .val (.int p5), .val (.int p6), .val (.int (own_irem (p6 &&& (2147483647 : Int32)) (4 : Int32))), .val (.long ((p5 >>> ((8 : Int32) &&& 31)).toInt64)), .second, .val (.long ((p2 >>> ((8 : Int32) &&& 31)).toInt64)), .second, .val (.long ((p3 >>> ((8 : Int32) &&& 31)).toInt64)), .second, .val (.long ((p4 >>> ((8 : Int32) &&& 31)).toInt64)), .second, .val (.double (FP.l2d (p1.toInt64))), .second, .val (.ref b7), .unset, .unset] [])) _
    refine XS.aload X7.here hx rfl (hb hby at_165) rfl rfl ?_
    show Steps p.tables e below (T7.setTop (mkF m 167 #[.val (.int p1), .val (.int p2), .val (.int p3), .val (.int p4), .val (.int p5), .val (.int p6), .val (.int (own_irem (p6 &&& (2147483647 : Int32)) (4 : Int32))), .val (.long ((p5 >>> ((8 : Int32) &&& 31)).toInt64)), .second, .val (.long ((p2 >>> ((8 : Int32) &&& 31)).toInt64)), .second, .val (.long ((p3 >>> ((8 : Int32) &&& 31)).toInt64)), .second, .val (.long ((p4 >>> ((8 : Int32) &&& 31)).toInt64)), .second, .val (.double (FP.l2d (p1.toInt64))), .second, .val (.ref b7), .unset, .unset] [(.ref b7)])) _
    refine XS.iconst X7.here hx rfl (hb hby at_167) ?_
    show Steps p.tables e below (T7.setTop (mkF m 168 #[.val (.int p1), .val (.int p2), .val (.int p3), .val (.int p4), .val (.int p5), .val (.int p6), .val (.int (own_irem (p6 &&& (2147483647 : Int32)) (4 : Int32))), .val (.long ((p5 >>> ((8 : Int32) &&& 31)).toInt64)), .second, .val (.long ((p2 >>> ((8 : Int32) &&& 31)).toInt64)), .second, .val (.long ((p3 >>> ((8 : Int32) &&& 31)).toInt64)), .second, .val (.long ((p4 >>> ((8 : Int32) &&& 31)).toInt64)), .second, .val (.double (FP.l2d (p1.toInt64))), .second, .val (.ref b7), .unset, .unset] [(.int (0 : Int32)), (.ref b7)])) _
    refine XS.dload X7.here hx rfl (hb hby at_168) rfl ?_
    show Steps p.tables e below (T7.setTop (mkF m 170 #[.val (.int p1), .val (.int p2), .val (.int p3), .val (.int p4), .val (.int p5), .val (.int p6), .val (.int (own_irem (p6 &&& (2147483647 : Int32)) (4 : Int32))), .val (.long ((p5 >>> ((8 : Int32) &&& 31)).toInt64)), .second, .val (.long ((p2 >>> ((8 : Int32) &&& 31)).toInt64)), .second, .val (.long ((p3 >>> ((8 : Int32) &&& 31)).toInt64)), .second, .val (.long ((p4 >>> ((8 : Int32) &&& 31)).toInt64)), .second, .val (.double (FP.l2d (p1.toInt64))), .second, .val (.ref b7), .unset, .unset] [(.double (FP.l2d (p1.toInt64))), (.int (0 : Int32)), (.ref b7)])) _
    refine st8 _ ?_
    show Steps p.tables e below (T8.setTop (mkF m 171 #[.val (.int p1), .val (.int p2), .val (.int p3), .val (.int p4), .val (.int p5), .val (.int p6), .val (.int (own_irem (p6 &&& (2147483647 : Int32)) (4 : Int32))), .val (.long ((p5 >>> ((8 : Int32) &&& 31)).toInt64)), .second, .val (.long ((p2 >>> ((8 : Int32) &&& 31)).toInt64)), .second, .val (.long ((p3 >>> ((8 : Int32) &&& 31)).toInt64)), .second, .val (.long ((p4 >>> ((8 : Int32) &&& 31)).toInt64)), .second, .val (.double (FP.l2d (p1.toInt64))), .second, .val (.ref b7), .unset, .unset] [])) _
    refine XS.aload X8.here hx rfl (hb hby at_171) rfl rfl ?_
    show Steps p.tables e below (T8.setTop (mkF m 173 #[.val (.int p1), .val (.int p2), .val (.int p3), .val (.int p4), .val (.int p5), .val (.int p6), .val (.int (own_irem (p6 &&& (2147483647 : Int32)) (4 : Int32))), .val (.long ((p5 >>> ((8 : Int32) &&& 31)).toInt64)), .second, .val (.long ((p2 >>> ((8 : Int32) &&& 31)).toInt64)), .second, .val (.long ((p3 >>> ((8 : Int32) &&& 31)).toInt64)), .second, .val (.long ((p4 >>> ((8 : Int32) &&& 31)).toInt64)), .second, .val (.double (FP.l2d (p1.toInt64))), .second, .val (.ref b7), .unset, .unset] [(.ref b7)])) _
    refine XS.iconst X8.here hx rfl (hb hby at_173) ?_
    show Steps p.tables e below (T8.setTop (mkF m 174 #[.val (.int p1), .val (.int p2), .val (.int p3), .val (.int p4), .val (.int p5), .val (.int p6), .val (.int (own_irem (p6 &&& (2147483647 : Int32)) (4 : Int32))), .val (.long ((p5 >>> ((8 : Int32) &&& 31)).toInt64)), .second, .val (.long ((p2 >>> ((8 : Int32) &&& 31)).toInt64)), .second, .val (.long ((p3 >>> ((8 : Int32) &&& 31)).toInt64)), .second, .val (.long ((p4 >>> ((8 : Int32) &&& 31)).toInt64)), .second, .val (.double (FP.l2d (p1.toInt64))), .second, .val (.ref b7), .unset, .unset] [(.int (1 : Int32)), (.ref b7)])) _
    refine XS.lload X8.here hx rfl (hb hby at_174) rfl ?_
    show Steps p.tables e below (T8.setTop (mkF m 176 #[.val (.int p1), .val (.int p2), .val (.int p3), .val (.int p4), .val (.int p5), .val (.int p6), .val (.int (own_irem (p6 &&& (2147483647 : Int32)) (4 : Int32))), .val (.long ((p5 >>> ((8 : Int32) &&& 31)).toInt64)), .second, .val (.long ((p2 >>> ((8 : Int32) &&& 31)).toInt64)), .second, .val (.long ((p3 >>> ((8 : Int32) &&& 31)).toInt64)), .second, .val (.long ((p4 >>> ((8 : Int32) &&& 31)).toInt64)), .second, .val (.double (FP.l2d (p1.toInt64))), .second, .val (.ref b7), .unset, .unset] [(.long ((p2 >>> ((8 : Int32) &&& 31)).toInt64)), (.int (1 : Int32)), (.ref b7)])) _
    refine XS.l2dS X8.here hx rfl (hb hby at_176) rfl rfl ?_
    show Steps p.tables e below (T8.setTop (mkF m 177 #[.val (.int p1), .val (.int p2), .val (.int p3), .val (.int p4), .val (.int p5), .val (.int p6), .val (.int (own_irem (p6 &&& (2147483647 : Int32)) (4 : Int32))), .val (.long ((p5 >>> ((8 : Int32) &&& 31)).toInt64)), .second, .val (.long ((p2 >>> ((8 : Int32) &&& 31)).toInt64)), .second, .val (.long ((p3 >>> ((8 : Int32) &&& 31)).toInt64)), .second, .val (.long ((p4 >>> ((8 : Int32) &&& 31)).toInt64)), .second, .val (.double (FP.l2d (p1.toInt64))), .second, .val (.ref b7), .unset, .unset] [(.double (FP.l2d ((p2 >>> ((8 : Int32) &&& 31)).toInt64))), (.int (1 : Int32)), (.ref b7)])) _
    refine st9 _ ?_
    show Steps p.tables e below (T9.setTop (mkF m 178 #[.val (.int p1), .val (.int p2), .val (.int p3), .val (.int p4), .val (.int p5), .val (.int p6), .val (.int (own_irem (p6 &&& (2147483647 : Int32)) (4 : Int32))), .val (.long ((p5 >>> ((8 : Int32) &&& 31)).toInt64)), .second, .val (.long ((p2 >>> ((8 : Int32) &&& 31)).toInt64)), .second, .val (.long ((p3 >>> ((8 : Int32) &&& 31)).toInt64)), .second, .val (.long ((p4 >>> ((8 : Int32) &&& 31)).toInt64)), .second, .val (.double (FP.l2d (p1.toInt64))), .second, .val (.ref b7), .unset, .unset] [])) _
    refine XS.aload X9.here hx rfl (hb hby at_178) rfl rfl ?_
    show Steps p.tables e below (T9.setTop (mkF m 180 #[.val (.int p1), .val (.int p2), .val (.int p3), .val (.int p4), .val (.int p5), .val (.int p6), .val (.int (own_irem (p6 &&& (2147483647 : Int32)) (4 : Int32))), .val (.long ((p5 >>> ((8 : Int32) &&& 31)).toInt64)), .second, .val (.long ((p2 >>> ((8 : Int32) &&& 31)).toInt64)), .second, .val (.long ((p3 >>> ((8 : Int32) &&& 31)).toInt64)), .second, .val (.long ((p4 >>> ((8 : Int32) &&& 31)).toInt64)), .second, .val (.double (FP.l2d (p1.toInt64))), .second, .val (.ref b7), .unset, .unset] [(.ref b7)])) _
    refine XS.iconst X9.here hx rfl (hb hby at_180) ?_
    show Steps p.tables e below (T9.setTop (mkF m 181 #[.val (.int p1), .val (.int p2), .val (.int p3), .val (.int p4), .val (.int p5), .val (.int p6), .val (.int (own_irem (p6 &&& (2147483647 : Int32)) (4 : Int32))), .val (.long ((p5 >>> ((8 : Int32) &&& 31)).toInt64)), .second, .val (.long ((p2 >>> ((8 : Int32) &&& 31)).toInt64)), .second, .val (.long ((p3 >>> ((8 : Int32) &&& 31)).toInt64)), .second, .val (.long ((p4 >>> ((8 : Int32) &&& 31)).toInt64)), .second, .val (.double (FP.l2d (p1.toInt64))), .second, .val (.ref b7), .unset, .unset] [(.int (2 : Int32)), (.ref b7)])) _
    refine XS.lload X9.here hx rfl (hb hby at_181) rfl ?_
    show Steps p.tables e below (T9.setTop (mkF m 183 #[.val (.int p1), .val (.int p2), .val (.int p3), .val (.int p4), .val (.int p5), .val (.int p6), .val (.int (own_irem (p6 &&& (2147483647 : Int32)) (4 : Int32))), .val (.long ((p5 >>> ((8 : Int32) &&& 31)).toInt64)), .second, .val (.long ((p2 >>> ((8 : Int32) &&& 31)).toInt64)), .second, .val (.long ((p3 >>> ((8 : Int32) &&& 31)).toInt64)), .second, .val (.long ((p4 >>> ((8 : Int32) &&& 31)).toInt64)), .second, .val (.double (FP.l2d (p1.toInt64))), .second, .val (.ref b7), .unset, .unset] [(.long ((p3 >>> ((8 : Int32) &&& 31)).toInt64)), (.int (2 : Int32)), (.ref b7)])) _
    refine XS.l2dS X9.here hx rfl (hb hby at_183) rfl rfl ?_
    show Steps p.tables e below (T9.setTop (mkF m 184 #[.val (.int p1), .val (.int p2), .val (.int p3), .val (.int p4), .val (.int p5), .val (.int p6), .val (.int (own_irem (p6 &&& (2147483647 : Int32)) (4 : Int32))), .val (.long ((p5 >>> ((8 : Int32) &&& 31)).toInt64)), .second, .val (.long ((p2 >>> ((8 : Int32) &&& 31)).toInt64)), .second, .val (.long ((p3 >>> ((8 : Int32) &&& 31)).toInt64)), .second, .val (.long ((p4 >>> ((8 : Int32) &&& 31)).toInt64)), .second, .val (.double (FP.l2d (p1.toInt64))), .second, .val (.ref b7), .unset, .unset] [(.double (FP.l2d ((p3 >>> ((8 : Int32) &&& 31)).toInt64))), (.int (2 : Int32)), (.ref b7)])) _
    refine st10 _ ?_
    show Steps p.tables e below (T10.setTop (mkF m 185 #[.val (.int p1), .val (.int p2), .val (.int p3), .val (.int p4), .val (.int p5), .val (.int p6), .val (.int (own_irem (p6 &&& (2147483647 : Int32)) (4 : Int32))), .val (.long ((p5 >>> ((8 : Int32) &&& 31)).toInt64)), .second, .val (.long ((p2 >>> ((8 : Int32) &&& 31)).toInt64)), .second, .val (.long ((p3 >>> ((8 : Int32) &&& 31)).toInt64)), .second, .val (.long ((p4 >>> ((8 : Int32) &&& 31)).toInt64)), .second, .val (.double (FP.l2d (p1.toInt64))), .second, .val (.ref b7), .unset, .unset] [])) _
    refine XS.aload X10.here hx rfl (hb hby at_185) rfl rfl ?_
    show Steps p.tables e below (T10.setTop (mkF m 187 #[.val (.int p1), .val (.int p2), .val (.int p3), .val (.int p4), .val (.int p5), .val (.int p6), .val (.int (own_irem (p6 &&& (2147483647 : Int32)) (4 : Int32))), .val (.long ((p5 >>> ((8 : Int32) &&& 31)).toInt64)), .second, .val (.long ((p2 >>> ((8 : Int32) &&& 31)).toInt64)), .second, .val (.long ((p3 >>> ((8 : Int32) &&& 31)).toInt64)), .second, .val (.long ((p4 >>> ((8 : Int32) &&& 31)).toInt64)), .second, .val (.double (FP.l2d (p1.toInt64))), .second, .val (.ref b7), .unset, .unset] [(.ref b7)])) _
    refine XS.iconst X10.here hx rfl (hb hby at_187) ?_
    show Steps p.tables e below (T10.setTop (mkF m 188 #[.val (.int p1), .val (.int p2), .val (.int p3), .val (.int p4), .val (.int p5), .val (.int p6), .val (.int (own_irem (p6 &&& (2147483647 : Int32)) (4 : Int32))), .val (.long ((p5 >>> ((8 : Int32) &&& 31)).toInt64)), .second, .val (.long ((p2 >>> ((8 : Int32) &&& 31)).toInt64)), .second, .val (.long ((p3 >>> ((8 : Int32) &&& 31)).toInt64)), .second, .val (.long ((p4 >>> ((8 : Int32) &&& 31)).toInt64)), .second, .val (.double (FP.l2d (p1.toInt64))), .second, .val (.ref b7), .unset, .unset] [(.int (3 : Int32)), (.ref b7)])) _
    refine XS.lload X10.here hx rfl (hb hby at_188) rfl ?_
    show Steps p.tables e below (T10.setTop (mkF m 190 #[.val (.int p1), .val (.int p2), .val (.int p3), .val (.int p4), .val (.int p5), .val (.int p6), .val (.int (own_irem (p6 &&& (2147483647 : Int32)) (4 : Int32))), .val (.long ((p5 >>> ((8 : Int32) &&& 31)).toInt64)), .second, .val (.long ((p2 >>> ((8 : Int32) &&& 31)).toInt64)), .second, .val (.long ((p3 >>> ((8 : Int32) &&& 31)).toInt64)), .second, .val (.long ((p4 >>> ((8 : Int32) &&& 31)).toInt64)), .second, .val (.double (FP.l2d (p1.toInt64))), .second, .val (.ref b7), .unset, .unset] [(.long ((p4 >>> ((8 : Int32) &&& 31)).toInt64)), (.int (3 : Int32)), (.ref b7)])) _
    refine XS.l2dS X10.here hx rfl (hb hby at_190) rfl rfl ?_
    show Steps p.tables e below (T10.setTop (mkF m 191 #[.val (.int p1), .val (.int p2), .val (.int p3), .val (.int p4), .val (.int p5), .val (.int p6), .val (.int (own_irem (p6 &&& (2147483647 : Int32)) (4 : Int32))), .val (.long ((p5 >>> ((8 : Int32) &&& 31)).toInt64)), .second, .val (.long ((p2 >>> ((8 : Int32) &&& 31)).toInt64)), .second, .val (.long ((p3 >>> ((8 : Int32) &&& 31)).toInt64)), .second, .val (.long ((p4 >>> ((8 : Int32) &&& 31)).toInt64)), .second, .val (.double (FP.l2d (p1.toInt64))), .second, .val (.ref b7), .unset, .unset] [(.double (FP.l2d ((p4 >>> ((8 : Int32) &&& 31)).toInt64))), (.int (3 : Int32)), (.ref b7)])) _
    refine st11 _ ?_
    show Steps p.tables e below (T11.setTop (mkF m 192 #[.val (.int p1), .val (.int p2), .val (.int p3), .val (.int p4), .val (.int p5), .val (.int p6), .val (.int (own_irem (p6 &&& (2147483647 : Int32)) (4 : Int32))), .val (.long ((p5 >>> ((8 : Int32) &&& 31)).toInt64)), .second, .val (.long ((p2 >>> ((8 : Int32) &&& 31)).toInt64)), .second, .val (.long ((p3 >>> ((8 : Int32) &&& 31)).toInt64)), .second, .val (.long ((p4 >>> ((8 : Int32) &&& 31)).toInt64)), .second, .val (.double (FP.l2d (p1.toInt64))), .second, .val (.ref b7), .unset, .unset] [])) _
    refine XS.aload X11.here hx rfl (hb hby at_192) rfl rfl ?_
    show Steps p.tables e below (T11.setTop (mkF m 194 #[.val (.int p1), .val (.int p2), .val (.int p3), .val (.int p4), .val (.int p5), .val (.int p6), .val (.int (own_irem (p6 &&& (2147483647 : Int32)) (4 : Int32))), .val (.long ((p5 >>> ((8 : Int32) &&& 31)).toInt64)), .second, .val (.long ((p2 >>> ((8 : Int32) &&& 31)).toInt64)), .second, .val (.long ((p3 >>> ((8 : Int32) &&& 31)).toInt64)), .second, .val (.long ((p4 >>> ((8 : Int32) &&& 31)).toInt64)), .second, .val (.double (FP.l2d (p1.toInt64))), .second, .val (.ref b7), .unset, .unset] [(.ref b7)])) _
    refine XS.iconst X11.here hx rfl (hb hby at_194) ?_
    show Steps p.tables e below (T11.setTop (mkF m 195 #[.val (.int p1), .val (.int p2), .val (.int p3), .val (.int p4), .val (.int p5), .val (.int p6), .val (.int (own_irem (p6 &&& (2147483647 : Int32)) (4 : Int32))), .val (.long ((p5 >>> ((8 : Int32) &&& 31)).toInt64)), .second, .val (.long ((p2 >>> ((8 : Int32) &&& 31)).toInt64)), .second, .val (.long ((p3 >>> ((8 : Int32) &&& 31)).toInt64)), .second, .val (.long ((p4 >>> ((8 : Int32) &&& 31)).toInt64)), .second, .val (.double (FP.l2d (p1.toInt64))), .second, .val (.ref b7), .unset, .unset] [(.int (4 : Int32)), (.ref b7)])) _
    refine X11.ldc2Long hx hown (mvT hZ (hw _ (List.mem_of_getElem? (i := 2) rfl))) (g := (mkF m 195 #[.val (.int p1), .val (.int p2), .val (.int p3), .val (.int p4), .val (.int p5), .val (.int p6), .val (.int (own_irem (p6 &&& (2147483647 : Int32)) (4 : Int32))), .val (.long ((p5 >>> ((8 : Int32) &&& 31)).toInt64)), .second, .val (.long ((p2 >>> ((8 : Int32) &&& 31)).toInt64)), .second, .val (.long ((p3 >>> ((8 : Int32) &&& 31)).toInt64)), .second, .val (.long ((p4 >>> ((8 : Int32) &&& 31)).toInt64)), .second, .val (.double (FP.l2d (p1.toInt64))), .second, .val (.ref b7), .unset, .unset] [(.int (4 : Int32)), (.ref b7)])) rfl (hb hby at_195) _ ?_
    show Steps p.tables e below (T11.setTop (mkF m 198 #[.val (.int p1), .val (.int p2), .val (.int p3), .val (.int p4), .val (.int p5), .val (.int p6), .val (.int (own_irem (p6 &&& (2147483647 : Int32)) (4 : Int32))), .val (.long ((p5 >>> ((8 : Int32) &&& 31)).toInt64)), .second, .val (.long ((p2 >>> ((8 : Int32) &&& 31)).toInt64)), .second, .val (.long ((p3 >>> ((8 : Int32) &&& 31)).toInt64)), .second, .val (.long ((p4 >>> ((8 : Int32) &&& 31)).toInt64)), .second, .val (.double (FP.l2d (p1.toInt64))), .second, .val (.ref b7), .unset, .unset] [(.long (4 : Int64)), (.int (4 : Int32)), (.ref b7)])) _
    refine XS.lload X11.here hx rfl (hb hby at_198) rfl ?_
    show Steps p.tables e below (T11.setTop (mkF m 200 #[.val (.int p1), .val (.int p2), .val (.int p3), .val (.int p4), .val (.int p5), .val (.int p6), .val (.int (own_irem (p6 &&& (2147483647 : Int32)) (4 : Int32))), .val (.long ((p5 >>> ((8 : Int32) &&& 31)).toInt64)), .second, .val (.long ((p2 >>> ((8 : Int32) &&& 31)).toInt64)), .second, .val (.long ((p3 >>> ((8 : Int32) &&& 31)).toInt64)), .second, .val (.long ((p4 >>> ((8 : Int32) &&& 31)).toInt64)), .second, .val (.double (FP.l2d (p1.toInt64))), .second, .val (.ref b7), .unset, .unset] [(.long ((p5 >>> ((8 : Int32) &&& 31)).toInt64)), (.long (4 : Int64)), (.int (4 : Int32)), (.ref b7)])) _
    refine XS.lmul X11.here hx rfl (hb hby at_200) rfl ?_
    show Steps p.tables e below (T11.setTop (mkF m 201 #[.val (.int p1), .val (.int p2), .val (.int p3), .val (.int p4), .val (.int p5), .val (.int p6), .val (.int (own_irem (p6 &&& (2147483647 : Int32)) (4 : Int32))), .val (.long ((p5 >>> ((8 : Int32) &&& 31)).toInt64)), .second, .val (.long ((p2 >>> ((8 : Int32) &&& 31)).toInt64)), .second, .val (.long ((p3 >>> ((8 : Int32) &&& 31)).toInt64)), .second, .val (.long ((p4 >>> ((8 : Int32) &&& 31)).toInt64)), .second, .val (.double (FP.l2d (p1.toInt64))), .second, .val (.ref b7), .unset, .unset] [(.long ((4 : Int64) * ((p5 >>> ((8 : Int32) &&& 31)).toInt64))), (.int (4 : Int32)), (.ref b7)])) _
    refine XS.lload X11.here hx rfl (hb hby at_201) rfl ?_
    show Steps p.tables e below (T11.setTop (mkF m 203 #[.val (.int p1), .val (.int p2), .val (.int p3), .val (.int p4), .val (.int p5), .val (.int p6), .val (.int (own_irem (p6 &&& (2147483647 : Int32)) (4 : Int32))), .val (.long ((p5 >>> ((8 : Int32) &&& 31)).toInt64)), .second, .val (.long ((p2 >>> ((8 : Int32) &&& 31)).toInt64)), .second, .val (.long ((p3 >>> ((8 : Int32) &&& 31)).toInt64)), .second, .val (.long ((p4 >>> ((8 : Int32) &&& 31)).toInt64)), .second, .val (.double (FP.l2d (p1.toInt64))), .second, .val (.ref b7), .unset, .unset] [(.long ((p2 >>> ((8 : Int32) &&& 31)).toInt64)), (.long ((4 : Int64) * ((p5 >>> ((8 : Int32) &&& 31)).toInt64))), (.int (4 : Int32)), (.ref b7)])) _
    refine XS.lsub X11.here hx rfl (hb hby at_203) rfl ?_
    show Steps p.tables e below (T11.setTop (mkF m 204 #[.val (.int p1), .val (.int p2), .val (.int p3), .val (.int p4), .val (.int p5), .val (.int p6), .val (.int (own_irem (p6 &&& (2147483647 : Int32)) (4 : Int32))), .val (.long ((p5 >>> ((8 : Int32) &&& 31)).toInt64)), .second, .val (.long ((p2 >>> ((8 : Int32) &&& 31)).toInt64)), .second, .val (.long ((p3 >>> ((8 : Int32) &&& 31)).toInt64)), .second, .val (.long ((p4 >>> ((8 : Int32) &&& 31)).toInt64)), .second, .val (.double (FP.l2d (p1.toInt64))), .second, .val (.ref b7), .unset, .unset] [(.long (((4 : Int64) * ((p5 >>> ((8 : Int32) &&& 31)).toInt64)) - ((p2 >>> ((8 : Int32) &&& 31)).toInt64))), (.int (4 : Int32)), (.ref b7)])) _
    refine XS.lload X11.here hx rfl (hb hby at_204) rfl ?_
    show Steps p.tables e below (T11.setTop (mkF m 206 #[.val (.int p1), .val (.int p2), .val (.int p3), .val (.int p4), .val (.int p5), .val (.int p6), .val (.int (own_irem (p6 &&& (2147483647 : Int32)) (4 : Int32))), .val (.long ((p5 >>> ((8 : Int32) &&& 31)).toInt64)), .second, .val (.long ((p2 >>> ((8 : Int32) &&& 31)).toInt64)), .second, .val (.long ((p3 >>> ((8 : Int32) &&& 31)).toInt64)), .second, .val (.long ((p4 >>> ((8 : Int32) &&& 31)).toInt64)), .second, .val (.double (FP.l2d (p1.toInt64))), .second, .val (.ref b7), .unset, .unset] [(.long ((p3 >>> ((8 : Int32) &&& 31)).toInt64)), (.long (((4 : Int64) * ((p5 >>> ((8 : Int32) &&& 31)).toInt64)) - ((p2 >>> ((8 : Int32) &&& 31)).toInt64))), (.int (4 : Int32)), (.ref b7)])) _
    refine XS.lsub X11.here hx rfl (hb hby at_206) rfl ?_
    show Steps p.tables e below (T11.setTop (mkF m 207 #[.val (.int p1), .val (.int p2), .val (.int p3), .val (.int p4), .val (.int p5), .val (.int p6), .val (.int (own_irem (p6 &&& (2147483647 : Int32)) (4 : Int32))), .val (.long ((p5 >>> ((8 : Int32) &&& 31)).toInt64)), .second, .val (.long ((p2 >>> ((8 : Int32) &&& 31)).toInt64)), .second, .val (.long ((p3 >>> ((8 : Int32) &&& 31)).toInt64)), .second, .val (.long ((p4 >>> ((8 : Int32) &&& 31)).toInt64)), .second, .val (.double (FP.l2d (p1.toInt64))), .second, .val (.ref b7), .unset, .unset] [(.long ((((4 : Int64) * ((p5 >>> ((8 : Int32) &&& 31)).toInt64)) - ((p2 >>> ((8 : Int32) &&& 31)).toInt64)) - ((p3 >>> ((8 : Int32) &&& 31)).toInt64))), (.int (4 : Int32)), (.ref b7)])) _
    refine XS.lload X11.here hx rfl (hb hby at_207) rfl ?_
    show Steps p.tables e below (T11.setTop (mkF m 209 #[.val (.int p1), .val (.int p2), .val (.int p3), .val (.int p4), .val (.int p5), .val (.int p6), .val (.int (own_irem (p6 &&& (2147483647 : Int32)) (4 : Int32))), .val (.long ((p5 >>> ((8 : Int32) &&& 31)).toInt64)), .second, .val (.long ((p2 >>> ((8 : Int32) &&& 31)).toInt64)), .second, .val (.long ((p3 >>> ((8 : Int32) &&& 31)).toInt64)), .second, .val (.long ((p4 >>> ((8 : Int32) &&& 31)).toInt64)), .second, .val (.double (FP.l2d (p1.toInt64))), .second, .val (.ref b7), .unset, .unset] [(.long ((p4 >>> ((8 : Int32) &&& 31)).toInt64)), (.long ((((4 : Int64) * ((p5 >>> ((8 : Int32) &&& 31)).toInt64)) - ((p2 >>> ((8 : Int32) &&& 31)).toInt64)) - ((p3 >>> ((8 : Int32) &&& 31)).toInt64))), (.int (4 : Int32)), (.ref b7)])) _
    refine XS.lsub X11.here hx rfl (hb hby at_209) rfl ?_
    show Steps p.tables e below (T11.setTop (mkF m 210 #[.val (.int p1), .val (.int p2), .val (.int p3), .val (.int p4), .val (.int p5), .val (.int p6), .val (.int (own_irem (p6 &&& (2147483647 : Int32)) (4 : Int32))), .val (.long ((p5 >>> ((8 : Int32) &&& 31)).toInt64)), .second, .val (.long ((p2 >>> ((8 : Int32) &&& 31)).toInt64)), .second, .val (.long ((p3 >>> ((8 : Int32) &&& 31)).toInt64)), .second, .val (.long ((p4 >>> ((8 : Int32) &&& 31)).toInt64)), .second, .val (.double (FP.l2d (p1.toInt64))), .second, .val (.ref b7), .unset, .unset] [(.long (((((4 : Int64) * ((p5 >>> ((8 : Int32) &&& 31)).toInt64)) - ((p2 >>> ((8 : Int32) &&& 31)).toInt64)) - ((p3 >>> ((8 : Int32) &&& 31)).toInt64)) - ((p4 >>> ((8 : Int32) &&& 31)).toInt64))), (.int (4 : Int32)), (.ref b7)])) _
    refine XS.l2dS X11.here hx rfl (hb hby at_210) rfl rfl ?_
    show Steps p.tables e below (T11.setTop (mkF m 211 #[.val (.int p1), .val (.int p2), .val (.int p3), .val (.int p4), .val (.int p5), .val (.int p6), .val (.int (own_irem (p6 &&& (2147483647 : Int32)) (4 : Int32))), .val (.long ((p5 >>> ((8 : Int32) &&& 31)).toInt64)), .second, .val (.long ((p2 >>> ((8 : Int32) &&& 31)).toInt64)), .second, .val (.long ((p3 >>> ((8 : Int32) &&& 31)).toInt64)), .second, .val (.long ((p4 >>> ((8 : Int32) &&& 31)).toInt64)), .second, .val (.double (FP.l2d (p1.toInt64))), .second, .val (.ref b7), .unset, .unset] [(.double (FP.l2d (((((4 : Int64) * ((p5 >>> ((8 : Int32) &&& 31)).toInt64)) - ((p2 >>> ((8 : Int32) &&& 31)).toInt64)) - ((p3 >>> ((8 : Int32) &&& 31)).toInt64)) - ((p4 >>> ((8 : Int32) &&& 31)).toInt64)))), (.int (4 : Int32)), (.ref b7)])) _
    refine st12 _ ?_
    show Steps p.tables e below (T12.setTop (mkF m 212 #[.val (.int p1), .val (.int p2), .val (.int p3), .val (.int p4), .val (.int p5), .val (.int p6), .val (.int (own_irem (p6 &&& (2147483647 : Int32)) (4 : Int32))), .val (.long ((p5 >>> ((8 : Int32) &&& 31)).toInt64)), .second, .val (.long ((p2 >>> ((8 : Int32) &&& 31)).toInt64)), .second, .val (.long ((p3 >>> ((8 : Int32) &&& 31)).toInt64)), .second, .val (.long ((p4 >>> ((8 : Int32) &&& 31)).toInt64)), .second, .val (.double (FP.l2d (p1.toInt64))), .second, .val (.ref b7), .unset, .unset] [])) _
    refine XS.lconst X12.here hx rfl (hb hby at_212) ?_
    show Steps p.tables e below (T12.setTop (mkF m 213 #[.val (.int p1), .val (.int p2), .val (.int p3), .val (.int p4), .val (.int p5), .val (.int p6), .val (.int (own_irem (p6 &&& (2147483647 : Int32)) (4 : Int32))), .val (.long ((p5 >>> ((8 : Int32) &&& 31)).toInt64)), .second, .val (.long ((p2 >>> ((8 : Int32) &&& 31)).toInt64)), .second, .val (.long ((p3 >>> ((8 : Int32) &&& 31)).toInt64)), .second, .val (.long ((p4 >>> ((8 : Int32) &&& 31)).toInt64)), .second, .val (.double (FP.l2d (p1.toInt64))), .second, .val (.ref b7), .unset, .unset] [(.long (1 : Int64))])) _
    refine X12.ldc2Long hx hown (mvT hZ (hw _ (List.mem_of_getElem? (i := 3) rfl))) (g := (mkF m 213 #[.val (.int p1), .val (.int p2), .val (.int p3), .val (.int p4), .val (.int p5), .val (.int p6), .val (.int (own_irem (p6 &&& (2147483647 : Int32)) (4 : Int32))), .val (.long ((p5 >>> ((8 : Int32) &&& 31)).toInt64)), .second, .val (.long ((p2 >>> ((8 : Int32) &&& 31)).toInt64)), .second, .val (.long ((p3 >>> ((8 : Int32) &&& 31)).toInt64)), .second, .val (.long ((p4 >>> ((8 : Int32) &&& 31)).toInt64)), .second, .val (.double (FP.l2d (p1.toInt64))), .second, .val (.ref b7), .unset, .unset] [(.long (1 : Int64))])) rfl (hb hby at_213) _ ?_
    show Steps p.tables e below (T12.setTop (mkF m 216 #[.val (.int p1), .val (.int p2), .val (.int p3), .val (.int p4), .val (.int p5), .val (.int p6), .val (.int (own_irem (p6 &&& (2147483647 : Int32)) (4 : Int32))), .val (.long ((p5 >>> ((8 : Int32) &&& 31)).toInt64)), .second, .val (.long ((p2 >>> ((8 : Int32) &&& 31)).toInt64)), .second, .val (.long ((p3 >>> ((8 : Int32) &&& 31)).toInt64)), .second, .val (.long ((p4 >>> ((8 : Int32) &&& 31)).toInt64)), .second, .val (.double (FP.l2d (p1.toInt64))), .second, .val (.ref b7), .unset, .unset] [(.long (9 : Int64)), (.long (1 : Int64))])) _
    refine XS.lload X12.here hx rfl (hb hby at_216) rfl ?_
    show Steps p.tables e below (T12.setTop (mkF m 218 #[.val (.int p1), .val (.int p2), .val (.int p3), .val (.int p4), .val (.int p5), .val (.int p6), .val (.int (own_irem (p6 &&& (2147483647 : Int32)) (4 : Int32))), .val (.long ((p5 >>> ((8 : Int32) &&& 31)).toInt64)), .second, .val (.long ((p2 >>> ((8 : Int32) &&& 31)).toInt64)), .second, .val (.long ((p3 >>> ((8 : Int32) &&& 31)).toInt64)), .second, .val (.long ((p4 >>> ((8 : Int32) &&& 31)).toInt64)), .second, .val (.double (FP.l2d (p1.toInt64))), .second, .val (.ref b7), .unset, .unset] [(.long ((p5 >>> ((8 : Int32) &&& 31)).toInt64)), (.long (9 : Int64)), (.long (1 : Int64))])) _
    refine XS.lmul X12.here hx rfl (hb hby at_218) rfl ?_
    show Steps p.tables e below (T12.setTop (mkF m 219 #[.val (.int p1), .val (.int p2), .val (.int p3), .val (.int p4), .val (.int p5), .val (.int p6), .val (.int (own_irem (p6 &&& (2147483647 : Int32)) (4 : Int32))), .val (.long ((p5 >>> ((8 : Int32) &&& 31)).toInt64)), .second, .val (.long ((p2 >>> ((8 : Int32) &&& 31)).toInt64)), .second, .val (.long ((p3 >>> ((8 : Int32) &&& 31)).toInt64)), .second, .val (.long ((p4 >>> ((8 : Int32) &&& 31)).toInt64)), .second, .val (.double (FP.l2d (p1.toInt64))), .second, .val (.ref b7), .unset, .unset] [(.long ((9 : Int64) * ((p5 >>> ((8 : Int32) &&& 31)).toInt64))), (.long (1 : Int64))])) _
    refine XS.ladd X12.here hx rfl (hb hby at_219) rfl ?_
    show Steps p.tables e below (T12.setTop (mkF m 220 #[.val (.int p1), .val (.int p2), .val (.int p3), .val (.int p4), .val (.int p5), .val (.int p6), .val (.int (own_irem (p6 &&& (2147483647 : Int32)) (4 : Int32))), .val (.long ((p5 >>> ((8 : Int32) &&& 31)).toInt64)), .second, .val (.long ((p2 >>> ((8 : Int32) &&& 31)).toInt64)), .second, .val (.long ((p3 >>> ((8 : Int32) &&& 31)).toInt64)), .second, .val (.long ((p4 >>> ((8 : Int32) &&& 31)).toInt64)), .second, .val (.double (FP.l2d (p1.toInt64))), .second, .val (.ref b7), .unset, .unset] [(.long ((1 : Int64) + ((9 : Int64) * ((p5 >>> ((8 : Int32) &&& 31)).toInt64))))])) _
    refine XS.l2dS X12.here hx rfl (hb hby at_220) rfl rfl ?_
    show Steps p.tables e below (T12.setTop (mkF m 221 #[.val (.int p1), .val (.int p2), .val (.int p3), .val (.int p4), .val (.int p5), .val (.int p6), .val (.int (own_irem (p6 &&& (2147483647 : Int32)) (4 : Int32))), .val (.long ((p5 >>> ((8 : Int32) &&& 31)).toInt64)), .second, .val (.long ((p2 >>> ((8 : Int32) &&& 31)).toInt64)), .second, .val (.long ((p3 >>> ((8 : Int32) &&& 31)).toInt64)), .second, .val (.long ((p4 >>> ((8 : Int32) &&& 31)).toInt64)), .second, .val (.double (FP.l2d (p1.toInt64))), .second, .val (.ref b7), .unset, .unset] [(.double (FP.l2d ((1 : Int64) + ((9 : Int64) * ((p5 >>> ((8 : Int32) &&& 31)).toInt64)))))])) _
    refine XS.dstore X12.here hx rfl (hb hby at_221) rfl (l' := #[.val (.int p1), .val (.int p2), .val (.int p3), .val (.int p4), .val (.int p5), .val (.int p6), .val (.int (own_irem (p6 &&& (2147483647 : Int32)) (4 : Int32))), .val (.long ((p5 >>> ((8 : Int32) &&& 31)).toInt64)), .second, .val (.long ((p2 >>> ((8 : Int32) &&& 31)).toInt64)), .second, .val (.long ((p3 >>> ((8 : Int32) &&& 31)).toInt64)), .second, .val (.long ((p4 >>> ((8 : Int32) &&& 31)).toInt64)), .second, .val (.double (FP.l2d (p1.toInt64))), .second, .val (.ref b7), .val (.double (FP.l2d ((1 : Int64) + ((9 : Int64) * ((p5 >>> ((8 : Int32) &&& 31)).toInt64))))), .second]) rfl ?_
    show Steps p.tables e below (T12.setTop (mkF m 223 #[.val (.int p1), .val (.int p2), .val (.int p3), .val (.int p4), .val (.int p5), .val (.int p6), .val (.int (own_irem (p6 &&& (2147483647 : Int32)) (4 : Int32))), .val (.long ((p5 >>> ((8 : Int32) &&& 31)).toInt64)), .second, .val (.long ((p2 >>> ((8 : Int32) &&& 31)).toInt64)), .second, .val (.long ((p3 >>> ((8 : Int32) &&& 31)).toInt64)), .second, .val (.long ((p4 >>> ((8 : Int32) &&& 31)).toInt64)), .second, .val (.double (FP.l2d (p1.toInt64))), .second, .val (.ref b7), .val (.double (FP.l2d ((1 : Int64) + ((9 : Int64) * ((p5 >>> ((8 : Int32) &&& 31)).toInt64))))), .second] [])) _
    refine XS.aload X12.here hx rfl (hb hby at_223) rfl rfl ?_
    show Steps p.tables e below (T12.setTop (mkF m 225 #[.val (.int p1), .val (.int p2), .val (.int p3), .val (.int p4), .val (.int p5), .val (.int p6), .val (.int (own_irem (p6 &&& (2147483647 : Int32)) (4 : Int32))), .val (.long ((p5 >>> ((8 : Int32) &&& 31)).toInt64)), .second, .val (.long ((p2 >>> ((8 : Int32) &&& 31)).toInt64)), .second, .val (.long ((p3 >>> ((8 : Int32) &&& 31)).toInt64)), .second, .val (.long ((p4 >>> ((8 : Int32) &&& 31)).toInt64)), .second, .val (.double (FP.l2d (p1.toInt64))), .second, .val (.ref b7), .val (.double (FP.l2d ((1 : Int64) + ((9 : Int64) * ((p5 >>> ((8 : Int32) &&& 31)).toInt64))))), .second] [(.ref b7)])) _
    refine st13 _ ?_
    show Steps p.tables e below (T13.setTop (mkF m 228 #[.val (.int p1), .val (.int p2), .val (.int p3), .val (.int p4), .val (.int p5), .val (.int p6), .val (.int (own_irem (p6 &&& (2147483647 : Int32)) (4 : Int32))), .val (.long ((p5 >>> ((8 : Int32) &&& 31)).toInt64)), .second, .val (.long ((p2 >>> ((8 : Int32) &&& 31)).toInt64)), .second, .val (.long ((p3 >>> ((8 : Int32) &&& 31)).toInt64)), .second, .val (.long ((p4 >>> ((8 : Int32) &&& 31)).toInt64)), .second, .val (.double (FP.l2d (p1.toInt64))), .second, .val (.ref b7), .val (.double (FP.l2d ((1 : Int64) + ((9 : Int64) * ((p5 >>> ((8 : Int32) &&& 31)).toInt64))))), .second] [(.double (FP.l2d ((1 : Int64) + ((9 : Int64) * ((p5 >>> ((8 : Int32) &&& 31)).toInt64)))))])) _
    refine XS.dload X13.here hx rfl (hb hby at_228) rfl ?_
    show Steps p.tables e below (T13.setTop (mkF m 230 #[.val (.int p1), .val (.int p2), .val (.int p3), .val (.int p4), .val (.int p5), .val (.int p6), .val (.int (own_irem (p6 &&& (2147483647 : Int32)) (4 : Int32))), .val (.long ((p5 >>> ((8 : Int32) &&& 31)).toInt64)), .second, .val (.long ((p2 >>> ((8 : Int32) &&& 31)).toInt64)), .second, .val (.long ((p3 >>> ((8 : Int32) &&& 31)).toInt64)), .second, .val (.long ((p4 >>> ((8 : Int32) &&& 31)).toInt64)), .second, .val (.double (FP.l2d (p1.toInt64))), .second, .val (.ref b7), .val (.double (FP.l2d ((1 : Int64) + ((9 : Int64) * ((p5 >>> ((8 : Int32) &&& 31)).toInt64))))), .second] [(.double (FP.l2d ((1 : Int64) + ((9 : Int64) * ((p5 >>> ((8 : Int32) &&& 31)).toInt64))))), (.double (FP.l2d ((1 : Int64) + ((9 : Int64) * ((p5 >>> ((8 : Int32) &&& 31)).toInt64)))))])) _
    refine XS.dcmpS X13.here hx rfl (hb hby at_230) rfl (dcmpV_w hba230 hbb230 _) ?_
    show Steps p.tables e below (T13.setTop (mkF m 231 #[.val (.int p1), .val (.int p2), .val (.int p3), .val (.int p4), .val (.int p5), .val (.int p6), .val (.int (own_irem (p6 &&& (2147483647 : Int32)) (4 : Int32))), .val (.long ((p5 >>> ((8 : Int32) &&& 31)).toInt64)), .second, .val (.long ((p2 >>> ((8 : Int32) &&& 31)).toInt64)), .second, .val (.long ((p3 >>> ((8 : Int32) &&& 31)).toInt64)), .second, .val (.long ((p4 >>> ((8 : Int32) &&& 31)).toInt64)), .second, .val (.double (FP.l2d (p1.toInt64))), .second, .val (.ref b7), .val (.double (FP.l2d ((1 : Int64) + ((9 : Int64) * ((p5 >>> ((8 : Int32) &&& 31)).toInt64))))), .second] [(.int (lcmpW ((1 : Int64) + ((9 : Int64) * ((p5 >>> ((8 : Int32) &&& 31)).toInt64))) ((1 : Int64) + ((9 : Int64) * ((p5 >>> ((8 : Int32) &&& 31)).toInt64)))))])) _
    refine XS.ifNo X13.here hx rfl (hb hby at_231) rfl ((if0 _ _).trans (teq (own_lcself _ : (lcmpW ((1 : Int64) + ((9 : Int64) * ((p5 >>> ((8 : Int32) &&& 31)).toInt64))) ((1 : Int64) + ((9 : Int64) * ((p5 >>> ((8 : Int32) &&& 31)).toInt64)))) = (0 : Int32))).2) ?_
    show Steps p.tables e below (T13.setTop (mkF m 234 #[.val (.int p1), .val (.int p2), .val (.int p3), .val (.int p4), .val (.int p5), .val (.int p6), .val (.int (own_irem (p6 &&& (2147483647 : Int32)) (4 : Int32))), .val (.long ((p5 >>> ((8 : Int32) &&& 31)).toInt64)), .second, .val (.long ((p2 >>> ((8 : Int32) &&& 31)).toInt64)), .second, .val (.long ((p3 >>> ((8 : Int32) &&& 31)).toInt64)), .second, .val (.long ((p4 >>> ((8 : Int32) &&& 31)).toInt64)), .second, .val (.double (FP.l2d (p1.toInt64))), .second, .val (.ref b7), .val (.double (FP.l2d ((1 : Int64) + ((9 : Int64) * ((p5 >>> ((8 : Int32) &&& 31)).toInt64))))), .second] [])) _
    refine XS.iconst X13.here hx rfl (hb hby at_234) ?_
    show Steps p.tables e below (T13.setTop (mkF m 235 #[.val (.int p1), .val (.int p2), .val (.int p3), .val (.int p4), .val (.int p5), .val (.int p6), .val (.int (own_irem (p6 &&& (2147483647 : Int32)) (4 : Int32))), .val (.long ((p5 >>> ((8 : Int32) &&& 31)).toInt64)), .second, .val (.long ((p2 >>> ((8 : Int32) &&& 31)).toInt64)), .second, .val (.long ((p3 >>> ((8 : Int32) &&& 31)).toInt64)), .second, .val (.long ((p4 >>> ((8 : Int32) &&& 31)).toInt64)), .second, .val (.double (FP.l2d (p1.toInt64))), .second, .val (.ref b7), .val (.double (FP.l2d ((1 : Int64) + ((9 : Int64) * ((p5 >>> ((8 : Int32) &&& 31)).toInt64))))), .second] [(.int (1 : Int32))])) _
    refine XS.goto X13.here hx rfl (pc0 := 235) (pc' := 239) rfl (hb hby at_235) (by decide) (by decide) ?_
    show Steps p.tables e below (T13.setTop (mkF m 239 #[.val (.int p1), .val (.int p2), .val (.int p3), .val (.int p4), .val (.int p5), .val (.int p6), .val (.int (own_irem (p6 &&& (2147483647 : Int32)) (4 : Int32))), .val (.long ((p5 >>> ((8 : Int32) &&& 31)).toInt64)), .second, .val (.long ((p2 >>> ((8 : Int32) &&& 31)).toInt64)), .second, .val (.long ((p3 >>> ((8 : Int32) &&& 31)).toInt64)), .second, .val (.long ((p4 >>> ((8 : Int32) &&& 31)).toInt64)), .second, .val (.double (FP.l2d (p1.toInt64))), .second, .val (.ref b7), .val (.double (FP.l2d ((1 : Int64) + ((9 : Int64) * ((p5 >>> ((8 : Int32) &&& 31)).toInt64))))), .second] [(.int (1 : Int32))])) _
    exact retN X13 hx (t := .boolean) Bd.returns (by simp) (hb hby at_239) hr
  · show Q0 Z p1 p2 p3 p4 p5 p6 h0 n0 _ T13.heap _
    exact ⟨rfl, N13⟩
theorem rm0 (l : Launch) (Z : State) (a0 : Array Value) (hw : ∀ d ∈ tables_1, d.before a0 Z = true) (ws : List Jvm.Cond) (p1 : Int32) (p2 : Int32) (p3 : Int32) (p4 : Int32) (p5 : Int32) (p6 : Int32) (h0 : Heap) (n0 : Nat) (Z0 : n0 ≤ h0.size) :
    MetFree l x (head1 (Jvm.Cond.code x code maxLocals ret :: ws) room_1) (fun a U => a = #[(.int p1), (.int p2), (.int p3), (.int p4), (.int p5), (.int p6)] ∧ Z.Warmed39 U.vm ∧ U.heap = h0) (fun _ _ _ _ _ => True) (fun _ U o U' => ∃ v L, o = .returned v ∧ Q0 Z p1 p2 p3 p4 p5 p6 h0 n0 v U'.heap L ∧ FrameEnd U o U' L room_1.cells room_1.slots) := by
  have hb1 : B53 ((1 : Int64) + ((9 : Int64) * ((p5 >>> ((8 : Int32) &&& 31)).toInt64))) := own_bres p5
  by_cases hc44 : (own_irem (p6 &&& (2147483647 : Int32)) (4 : Int32)) = (0 : Int32)
  · exact rm0_2 l Z a0 hw ws p1 p2 p3 p4 p5 p6 h0 n0 Z0 hc44 hb1 hb1
  · by_cases hc71 : (own_irem (p6 &&& (2147483647 : Int32)) (4 : Int32)) = (1 : Int32)
    · exact rm0_3 l Z a0 hw ws p1 p2 p3 p4 p5 p6 h0 n0 Z0 hc44 hc71 hb1 hb1
    · by_cases hc112 : (own_irem (p6 &&& (2147483647 : Int32)) (4 : Int32)) = (2 : Int32)
      · exact rm0_4 l Z a0 hw ws p1 p2 p3 p4 p5 p6 h0 n0 Z0 hc44 hc71 hc112 hb1 hb1
      · exact rm0_5 l Z a0 hw ws p1 p2 p3 p4 p5 p6 h0 n0 Z0 hc44 hc71 hc112 hb1 hb1
set_option maxRecDepth 65536 in
set_option maxHeartbeats 40000000 in
theorem comes_1 {Post : Tables → Env → Array Value → State → Outcome → State → Prop} (hpost : ∀ tb e args s v u, (limb_1_1.after args s (.returned v) u = true ∧ limb_1_2.after args s (.returned v) u = true ∧ True) → FrameEnd s (.returned v) u (Jvm.fieldLocs frame_1_writes args s ++ Jvm.arrayLocs frame_1_arrays args s ++ Jvm.staticLocs frame_1_statics s) 16 128 → Post tb e args s (.returned v) u) :
    ArmFor flags0 classFile x code maxLocals ret World_1 tables_1 room_1 Calls_1 rest_1 Pre_1 Post := by
  intro l hfl _ _ p e ha hc hk s m args below hf hA hF happ hP
  obtain ⟨hcalls, hrest, hpre⟩ := hP
  obtain ⟨-, -, -, hnamed, -, -, -, hat⟩ := (Spec.applies_iff hf).mp happ
  obtain ⟨hg, hn⟩ := and_e (Cond.before_iff.mp (show (Jvm.Cond.and given_1 narrow_1).before args s = true from hpre))
  obtain ⟨g14, g15⟩ := and_e hg
  obtain ⟨g16, g17⟩ := and_e g15
  obtain ⟨g18, g19⟩ := and_e g17
  obtain ⟨g20, g21⟩ := and_e g19
  obtain ⟨g22, g23⟩ := and_e g21
  obtain ⟨g24, g25⟩ := and_e g23
  obtain ⟨w0, w1, w2, w3, w4, w5, rfl⟩ : ∃ w0 w1 w2 w3 w4 w5 : Value, args = #[w0, w1, w2, w3, w4, w5] := by
    have hs : args.size = 6 := by simpa [Cond.value, given_1] using g14
    obtain ⟨L⟩ := args
    match L, hs with
    | [w0, w1, w2, w3, w4, w5], _ => exact ⟨w0, w1, w2, w3, w4, w5, rfl⟩
  have hw := fun d (hd : d ∈ tables_1) => atoms_spec (ws := Jvm.Cond.code x code maxLocals ret :: tables_1) hat d (List.mem_cons_of_mem _ hd)
  have hfit : Fit s := fun {y c} hc i hi => by
    obtain ⟨ha, rfl⟩ := Array.getElem?_eq_some_iff.mp hc
    have q := List.all_eq_true.mp ((Array.all_eq_true_iff_forall_mem.mp hF) _ (Array.getElem_mem ha)) i (List.mem_range.mpr hi)
    simpa [Array.getElem?_eq_getElem hi] using q
  obtain ⟨i0, ei0⟩ := is_v g16
  obtain rfl : w0 = (.int i0) := Option.some.inj ei0
  obtain ⟨i1, ei1⟩ := is_v g18
  obtain rfl : w1 = (.int i1) := Option.some.inj ei1
  obtain ⟨i2, ei2⟩ := is_v g20
  obtain rfl : w2 = (.int i2) := Option.some.inj ei2
  obtain ⟨i3, ei3⟩ := is_v g22
  obtain rfl : w3 = (.int i3) := Option.some.inj ei3
  obtain ⟨i4, ei4⟩ := is_v g24
  obtain rfl : w4 = (.int i4) := Option.some.inj ei4
  obtain ⟨i5, ei5⟩ := is_v g25
  obtain rfl : w5 = (.int i5) := Option.some.inj ei5
  obtain ⟨n, o, h1, h2, h3, _, L, rfl, ⟨rfl, N⟩, hq⟩ := rm0 l s _ hw tables_1 i0 i1 i2 i3 i4 i5 s.heap s.heap.size (Nat.le_refl _) p e ha hc hk s m _ below hf ((Spec.applies_iff_loose hf).mp happ).1 ⟨rfl, State.Warmed39.refl s, rfl⟩ trivial
  refine ⟨n, _, h1, h2, h3, hpost _ _ _ _ _ _ ⟨Cond.after_iff.mpr rfl, Cond.after_iff.mpr (eq_i res_at (Term.int_eval (1)) rfl), trivial⟩ ⟨hq.1, hq.2.1, (hq.2.2.sift fun y hy => Or.inr (N y hy)).mono (by decide) (by decide)⟩⟩
theorem main_1_1 : Claimed_1_1 := comes_1 fun _ _ _ _ _ _ h hF => ⟨h.1, hF⟩
theorem main_1_2 : Claimed_1_2 := comes_1 fun _ _ _ _ _ _ h hF => ⟨h.2.1, hF⟩
end Jvm.Pilot.@@N@@
namespace Jvm.Pilot.@@N@@
open Jvm Jvm.ClassFile Sem Op Lib Jvm.Free Jvm.Stand Jvm.Pilot.@@N@@.Jvm.D
/-! MADE BY PROGRAM (witnessworld.py) out of the Statement's table words and the real class files: 12 classes; the members and pool entries that the words name. The judged class is class 1, her method 1. -/
namespace start1
open Jvm.ClassFile
def u (s : String) : CpInfo := .utf8 (stringToUtf16 s)
/-- a pool by its gaps: so many unusable entries, then the entry; so many at the end -/
def gap : Nat → List CpInfo → List CpInfo
  | 0, r => r
  | n + 1, r => .unusable :: gap n r
def poolList (es : List (Nat × CpInfo)) (last : Nat) : List CpInfo := es.foldr (fun e r => gap e.1 (e.2 :: r)) (gap last [])
def pool (es : List (Nat × CpInfo)) (last : Nat) : Array CpInfo := ⟨poolList es last⟩
def fileOf (pool : Array CpInfo) (this : Nat) (attrs : Array Attribute := #[]) (ms : Array MethodInfo := #[]) (fl : Nat := 33) (sup : Nat := 0) (ifs : Array Nat := #[]) (fds : Array FieldInfo := #[]) : ClassFile where
  minorVersion := 0
  majorVersion := 65
  constantPool := pool
  accessFlags := fl
  thisClass := this
  superClass := sup
  interfaces := ifs
  fields := fds
  methods := ms
  attributes := attrs
def plain (name : String) (sup : Option ClassId) : Class where
  name := name
  kind := .ordinary
  loader := none
  accessFlags := 33
  super := sup
  interfaces := #[]
  cf := none
  fields := #[]
  methods := #[]
  instanceTypes := #[]
  staticTypes := #[]
  resolved := #[]
  callSites := []
  init := .initialized
  statics := none
  mirror := none

def pool0 : Array CpInfo := pool [(5, u "<init>"), (0, u "()V"), (1, .class_ 10), (1, u "java/lang/Object")] 113

def k0m0 : Method := { name := "<init>", desc := "()V", sig := { parameters := [], returnType := none }, accessFlags := 1, code := none }
/-- java/lang/Object -/
def k0 : Class := { plain "java/lang/Object" none with
  accessFlags := 33
  interfaces := #[]
  cf := some (fileOf pool0 8 #[] #[{ accessFlags := 1, nameIndex := 5, descriptorIndex := 6, attributes := #[] }] 33 0 #[] #[])
  fields := #[]
  methods := #[k0m0]
  instanceTypes := #[]
  staticTypes := #[]
  resolved := Array.replicate 124 none
  statics := none }

def pool1 : Array CpInfo := pool [(2, .class_ 4), (1, u "java/lang/Object"), (0, u "<init>"), (0, u "()V"), (0, .integer 2147483647), (0, .long 2), (1, .long 3), (1, .long 4), (1, .long 9), (1, .methodref 17 18), (0, .class_ 19), (0, .nameAndType 20 21), (0, u "com/example/paretoloom/paretoloom/problems/Zdt"), (0, u "linearG"), (0, u "([D)D"), (0, .class_ 23), (0, u "com/example/paretoloom/paretoloom/problems/ZdtLinearGPinLaw"), (2, u "law"), (0, u "(IIIIII)Z")] 5

def k1m0 : Method := { name := "<init>", desc := "()V", sig := { parameters := [], returnType := none }, accessFlags := 2, code := none }
def k1c1 : Code := { maxStack := 6, maxLocals := 20, code := code, exceptionTable := #[], attributes := #[] }
def k1m1 : Method := { name := "law", desc := "(IIIIII)Z", sig := { parameters := [.int, .int, .int, .int, .int, .int], returnType := some .boolean }, accessFlags := 9, code := some k1c1 }
/-- com/example/paretoloom/paretoloom/problems/ZdtLinearGPinLaw -/
def k1 : Class := { plain "com/example/paretoloom/paretoloom/problems/ZdtLinearGPinLaw" (some 0) with
  accessFlags := 49
  interfaces := #[]
  cf := some (fileOf pool1 22 #[] #[{ accessFlags := 2, nameIndex := 5, descriptorIndex := 6, attributes := #[] }, { accessFlags := 9, nameIndex := 26, descriptorIndex := 27, attributes := #[] }] 49 2 #[] #[])
  fields := #[]
  methods := #[k1m0, k1m1]
  instanceTypes := #[]
  staticTypes := #[]
  resolved := Array.replicate 33 none
  statics := none }

def pool2 : Array CpInfo := pool [(8, .class_ 10), (1, u "com/example/paretoloom/paretoloom/core/Problem"), (29, .class_ 42), (1, u "com/example/paretoloom/paretoloom/core/Problem$1"), (33, .class_ 77), (0, u "java/lang/Object")] 25

/-- com/example/paretoloom/paretoloom/core/Problem -/
def k2 : Class := { plain "com/example/paretoloom/paretoloom/core/Problem" (some 0) with
  accessFlags := 1537
  interfaces := #[]
  cf := some (fileOf pool2 8 #[.nestMembers #[40]] #[] 1537 76 #[] #[])
  fields := #[]
  methods := #[]
  instanceTypes := #[]
  staticTypes := #[]
  resolved := Array.replicate 103 none
  statics := none }

def pool3 : Array CpInfo := pool [(2, .class_ 4), (1, u "java/lang/Object"), (3, .class_ 10), (1, u "com/example/paretoloom/paretoloom/problems/Zdt"), (0, u "variables"), (0, u "I"), (7, u "([D)D"), (26, .double 4621256167635550208), (4, .class_ 53), (0, u "com/example/paretoloom/paretoloom/core/Problem"), (0, u "REFERENCE_POINTS"), (21, u "linearG")] 15

def k3c0 : Code := { maxStack := 6, maxLocals := 4, code := prog_46_method_12_code, exceptionTable := #[], attributes := #[] }
def k3m0 : Method := { name := "linearG", desc := "([D)D", sig := { parameters := [(.array .double)], returnType := some .double }, accessFlags := 8, code := some k3c0 }
/-- com/example/paretoloom/paretoloom/problems/Zdt -/
def k3 : Class := { plain "com/example/paretoloom/paretoloom/problems/Zdt" (some 0) with
  accessFlags := 1057
  interfaces := #[2]
  cf := some (fileOf pool3 8 #[] #[{ accessFlags := 8, nameIndex := 76, descriptorIndex := 20, attributes := #[] }] 1057 2 #[52] #[{ accessFlags := 25, nameIndex := 54, descriptorIndex := 12, attributes := #[] }, { accessFlags := 18, nameIndex := 11, descriptorIndex := 12, attributes := #[] }])
  fields := #[{ name := "REFERENCE_POINTS", type := .int, accessFlags := 25, slot := 0, constantValue := 0 }, { name := "variables", type := .int, accessFlags := 18, slot := 0, constantValue := 0 }]
  methods := #[k3m0]
  instanceTypes := #[.int]
  staticTypes := #[.int]
  resolved := Array.replicate 92 none
  statics := none }

def pool4 : Array CpInfo := pool [(1, u "java/lang/Cloneable"), (0, .class_ 1), (0, u "java/lang/Object"), (0, .class_ 3)] 3

/-- java/lang/Cloneable -/
def k4 : Class := { plain "java/lang/Cloneable" (some 0) with
  accessFlags := 1537
  interfaces := #[]
  cf := some (fileOf pool4 2 #[] #[] 1537 4 #[] #[])
  fields := #[]
  methods := #[]
  instanceTypes := #[]
  staticTypes := #[]
  resolved := Array.replicate 8 none
  statics := none }

def pool5 : Array CpInfo := pool [(1, u "java/io/Serializable"), (0, .class_ 1), (0, u "java/lang/Object"), (0, .class_ 3)] 3

/-- java/io/Serializable -/
def k5 : Class := { plain "java/io/Serializable" (some 0) with
  accessFlags := 1537
  interfaces := #[]
  cf := some (fileOf pool5 2 #[] #[] 1537 4 #[] #[])
  fields := #[]
  methods := #[]
  instanceTypes := #[]
  staticTypes := #[]
  resolved := Array.replicate 8 none
  statics := none }

/-- the primitive byte -/
def k6 : Class := { plain "byte" none with kind := .primitive 'B', accessFlags := 0x411 }
/-- [B -/
def k7 : Class := { plain "[B" (some 0) with kind := .array 6 .byte, interfaces := #[4, 5], accessFlags := 1041 }

/-- the primitive double -/
def k8 : Class := { plain "double" none with kind := .primitive 'D', accessFlags := 0x411 }
/-- [D -/
def k9 : Class := { plain "[D" (some 0) with kind := .array 8 .double, interfaces := #[4, 5], accessFlags := 1041 }

/-- the primitive int -/
def k10 : Class := { plain "int" none with kind := .primitive 'I', accessFlags := 0x411 }
/-- [I -/
def k11 : Class := { plain "[I" (some 0) with kind := .array 10 .int, interfaces := #[4, 5], accessFlags := 1041 }

def heap : Heap := #[]
def classes : Array Class := #[k0, k1, k2, k3, k4, k5, k6, k7, k8, k9, k10, k11]
def interned : List (Array UInt16 × Addr) := []
def slotsUsed : Nat := 0
def theMethod : MethodId := ⟨1, 1⟩
def args0 : Array Value := #[.int 5, .int 7, .int 0, .int 3, .int 3, .int 1]
def aboutOver (below : List Frame) : State where
  vm := { classes := classes, interned := interned.toArray }
  heap := heap
  slotsUsed := slotsUsed
  threads := #[{ frames := .invoking theMethod args0 :: below }]
def below0 : List Frame := [.native { method := ⟨0, 0⟩, args := #[] }]
def about1 : State := aboutOver below0
def p0 : Program := .bare "" "" ""
def e0 : Env := launch0.env 0 0 0
theorem w_frames : about1.frames = Frame.invoking theMethod args0 :: below0 := rfl
set_option maxRecDepth 65536 in
theorem w_args : argsFit about1.vm theMethod args0 = true := by decide +kernel
set_option maxRecDepth 65536 in
theorem w_heap : heapFits about1 = true := by decide +kernel
set_option maxRecDepth 65536 in
theorem w_runnable : about1.curStatus? = some .runnable := by decide +kernel
set_option maxRecDepth 65536 in
theorem w_alone : about1.alone = true := by decide +kernel
set_option maxRecDepth 65536 in
theorem w_named : about1.methodNamed? x = some theMethod := by decide +kernel
set_option maxRecDepth 65536 in
theorem w_hears : about1.hears theMethod below0 = true := by decide +kernel
set_option maxRecDepth 65536 in
theorem w_ripe : about1.ripe theMethod args0 below0 = true := by decide +kernel
theorem w_running : about1.status = .running := rfl
set_option maxRecDepth 65536 in
theorem w_room : about1.hasRoom e0.platform room_1 = true :=
  launch0.hasRoom_least _ room_1 (by decide +kernel) (by decide +kernel) (by decide +kernel) (by decide +kernel) (by decide +kernel) (by decide +kernel)
theorem allAtoms_all (ts : List Jvm.Cond) (a : Array Jvm.Value) (st : Jvm.State) : (allAtoms ts).before a st = ts.all (fun c => c.before a st) := by
  induction ts with
  | nil => rfl
  | cons c t ih =>
    show (Jvm.Cond.and c (allAtoms t)).before a st = _
    rw [Jvm.Cond.before_and, ih, List.all_cons]
def words1 : List Jvm.Cond := Jvm.Cond.code x code maxLocals ret :: tables_1
/-- a 'code' word, met by the world's own term for the bytes: nothing is compared byte by byte -/
theorem code_word {y : MethodName} {bytes : ByteArray} {mx : Nat} {rt : Option FieldType} {a : Array Value} {s : State} {m : MethodId} {meth : Method} {c : Code} (h1 : s.methodNamed? y = some m) (h2 : s.vm.method? m = some meth) (h3 : meth.code = some c) (h4 : c.code = bytes)
    (h5 : (c.maxLocals == mx && c.exceptionTable.isEmpty && decide (c.maxStack ≤ mostOperands) && decide (meth.sig.returnType = rt) && !meth.locks && decide (parseMethodDescriptor y.desc = some meth.sig)) = true) : (Jvm.Cond.code y bytes mx rt).before a s = true := by
  simp only [Bool.and_eq_true, beq_iff_eq, Bool.not_eq_true', decide_eq_true_eq] at h5
  obtain ⟨⟨⟨⟨⟨g1, g2⟩, g3⟩, g4⟩, g5⟩, g6⟩ := h5
  simp [Cond.before, Cond.holds, Cond.value, h1, h2, h3, h4, g1, g2, g3, g4, g5, g6]
def isCode : Jvm.Cond → Bool
  | .code _ _ _ _ => true
  | _ => false
theorem all_split {L : List Jvm.Cond} {P : Jvm.Cond → Bool} (h1 : L.all (fun c => isCode c || P c) = true) (h2 : ∀ c ∈ L.filter isCode, P c = true) : L.all P = true := by
  refine List.all_eq_true.mpr fun c hc => ?_
  have h := List.all_eq_true.mp h1 c hc
  rcases Bool.eq_false_or_eq_true (isCode c) with hi | hi
  · exact h2 c (List.mem_filter.mpr ⟨hc, hi⟩)
  · simpa [hi] using h
set_option maxRecDepth 65536 in
theorem w_c0 : (Jvm.Cond.code x code maxLocals ret).before args0 about1 = true := code_word (m := ⟨1, 1⟩) (meth := k1m1) (c := k1c1) (by decide +kernel) rfl rfl rfl (by decide +kernel)
set_option maxRecDepth 65536 in
theorem w_c1 : (Jvm.Cond.code ({ cls := "com/example/paretoloom/paretoloom/problems/Zdt", name := "linearG", desc := "([D)D" } : Jvm.MethodName) prog_46_method_12_code (4 : Nat) (Option.some Jvm.ClassFile.FieldType.double)).before args0 about1 = true := code_word (m := ⟨3, 0⟩) (meth := k3m0) (c := k3c0) (by decide +kernel) rfl rfl rfl (by decide +kernel)
def codes1 : List Jvm.Cond := [Jvm.Cond.code x code maxLocals ret, Jvm.Cond.code ({ cls := "com/example/paretoloom/paretoloom/problems/Zdt", name := "linearG", desc := "([D)D" } : Jvm.MethodName) prog_46_method_12_code (4 : Nat) (Option.some Jvm.ClassFile.FieldType.double)]
set_option maxRecDepth 65536 in
theorem codes_eq : words1.filter isCode = codes1 := rfl
theorem w_codes : ∀ c ∈ words1.filter isCode, c.before args0 about1 = true := by
  rw [codes_eq]
  intro c hc
  simp only [codes1, List.mem_cons, List.not_mem_nil, or_false] at hc
  rcases hc with rfl | rfl
  · exact w_c0
  · exact w_c1
set_option maxRecDepth 65536 in
theorem w_t1 : words1.all (fun c => isCode c || c.before args0 about1) = true := by decide +kernel
theorem w_tables : (allAtoms (Jvm.Cond.code x code maxLocals ret :: tables_1)).before args0 about1 = true := by
  rw [allAtoms_all]
  show words1.all (fun c => c.before args0 about1) = true
  refine all_split ?_ w_codes
  rw [w_t1]
set_option maxRecDepth 65536 in
theorem w_case : (Jvm.Cond.and given_1 narrow_1).before args0 about1 = true := by decide +kernel
theorem w_applies : (headSpec (Jvm.Cond.code x code maxLocals ret :: tables_1) room_1).applies x e0.platform about1 = true :=
  (Spec.applies_iff w_frames).mpr ⟨w_running, w_runnable, w_alone, w_named, w_hears, w_ripe, w_room, w_tables⟩
theorem atStart : AtStart classFile x code maxLocals ret World_1 tables_1 room_1 Calls_1 rest_1 Pre_1 launch0 p0 e0 about1 theMethod args0 below0 :=
  ⟨lists_1, trivial, launch0.admits_env _ _ _, launch0.least_env, fairChoices_fair.cas, fairChoices_fair.clock, w_frames, w_args, w_heap, w_applies, trivial, trivial, w_case⟩
end start1
theorem witness_1 : WitnessClaimed_1 := ⟨start1.p0, start1.e0, start1.about1, start1.theMethod, start1.args0, start1.below0, start1.atStart⟩
end Jvm.Pilot.@@N@@
