import JvmDerived
import JvmDerived.Pilot.@@N@@Statement
import JvmDerived.Pilot.@@N@@Code
set_option linter.unusedVariables false
set_option linter.unusedSimpArgs false
@@BLOCK:NumsL.lean.txt@@
namespace Jvm.RoadKit
open Sem ClassFile Op Lib Jvm.Stand Jvm.Free Jvm.LawKit
section New
variable {p : Program} {l : Launch} {e : Env} {R : Room} {s : State} {m : MethodId} {args : Array Value} {below : List Frame} {meth : Method} {c : Code} {T : State} {locs : List Loc} {cells slots : Nat}
theorem retI (X : Stand p l e R s m args below meth c T locs cells slots) (hx : p.tables.exec = Jvm.exec) {pc : Nat} {Ls : Array Slot} {z : Int32} {rest : List Value} (hret : meth.sig.returnType = some .int) (hd : decode c.code pc = .ok (.ireturn, 1)) {fs : List Frame}
    (hl : ∀ (f : JFrame) (acts : List Action), f.method = m → f.locked = none → f.entered = [] → (doReturn e (T.setTop f) acts (some (.int z))).1 = T.setFrames fs) : Steps p.tables e below (T.setTop (mkF m pc Ls (.int z :: rest))) (T.setFrames fs) := by
  have hm' : T.vm.method? m = some meth := X.method'
  have hn : narrow .int (.int z) = .int z := rfl
  show Steps p.tables e below (T.setTop { method := m, pc := pc, locals := Ls, stack := _ :: rest, locked := none }) _
  jvm_step X.here [X.here.top, hx, hd, hm', hret, hn]
  first | (intro acts; rw [hl _ acts rfl rfl rfl]) | rw [hl _ _ rfl rfl rfl]
  exact Steps.refl _
theorem own_retL (X : Stand p l e R s m args below meth c T locs cells slots) (hx : p.tables.exec = Jvm.exec) {pc : Nat} {Ls : Array Slot} {z : Int64} {rest : List Value} (hret : meth.sig.returnType = some .long) (hd : decode c.code pc = .ok (.lreturn, 1)) {fs : List Frame}
    (hl : ∀ (f : JFrame) (acts : List Action), f.method = m → f.locked = none → f.entered = [] → (doReturn e (T.setTop f) acts (some (.long z))).1 = T.setFrames fs) : Steps p.tables e below (T.setTop (mkF m pc Ls (.long z :: rest))) (T.setFrames fs) := by
  have hm' : T.vm.method? m = some meth := X.method'
  have hn : narrow .long (.long z) = .long z := rfl
  show Steps p.tables e below (T.setTop { method := m, pc := pc, locals := Ls, stack := _ :: rest, locked := none }) _
  jvm_step X.here [X.here.top, hx, hd, hm', hret, hn]
  first | (intro acts; rw [hl _ acts rfl rfl rfl]) | rw [hl _ _ rfl rfl rfl]
  exact Steps.refl _
theorem own_retD (X : Stand p l e R s m args below meth c T locs cells slots) (hx : p.tables.exec = Jvm.exec) {pc : Nat} {Ls : Array Slot} {z : UInt64} {rest : List Value} (hret : meth.sig.returnType = some .double) (hd : decode c.code pc = .ok (.dreturn, 1)) {fs : List Frame}
    (hl : ∀ (f : JFrame) (acts : List Action), f.method = m → f.locked = none → f.entered = [] → (doReturn e (T.setTop f) acts (some (.double z))).1 = T.setFrames fs) : Steps p.tables e below (T.setTop (mkF m pc Ls (.double z :: rest))) (T.setFrames fs) := by
  have hm' : T.vm.method? m = some meth := X.method'
  have hn : narrow .double (.double z) = .double z := rfl
  show Steps p.tables e below (T.setTop { method := m, pc := pc, locals := Ls, stack := _ :: rest, locked := none }) _
  jvm_step X.here [X.here.top, hx, hd, hm', hret, hn]
  first | (intro acts; rw [hl _ acts rfl rfl rfl]) | rw [hl _ _ rfl rfl rfl]
  exact Steps.refl _
end New
end Jvm.RoadKit
namespace Own391
open Jvm.Kit
def mh (q1 q2 : Int64) : Int64 := ((((q1 >>> ((32 : Int32) &&& 0x3f).toInt64) * (q2 >>> ((32 : Int32) &&& 0x3f).toInt64)) + ((((q1 >>> ((32 : Int32) &&& 0x3f).toInt64) * (q2 &&& (4294967295 : Int64))) + ((((q1 &&& (4294967295 : Int64)) * (q2 &&& (4294967295 : Int64))).toUInt64 >>> ((32 : Int32) &&& 0x3f).toInt64.toUInt64).toInt64)) >>> ((32 : Int32) &&& 0x3f).toInt64)) + ((((((q1 >>> ((32 : Int32) &&& 0x3f).toInt64) * (q2 &&& (4294967295 : Int64))) + ((((q1 &&& (4294967295 : Int64)) * (q2 &&& (4294967295 : Int64))).toUInt64 >>> ((32 : Int32) &&& 0x3f).toInt64.toUInt64).toInt64)) &&& (4294967295 : Int64)) + ((q1 &&& (4294967295 : Int64)) * (q2 >>> ((32 : Int32) &&& 0x3f).toInt64))) >>> ((32 : Int32) &&& 0x3f).toInt64))
def tF (a b : Int64) : Int64 := if mh a b = 0 then (if a * b < 0 then (9223372036854775807 : Int64) else a * b) else (9223372036854775807 : Int64)

theorem lushr32 (z : Int64) {n : Int} (h0 : 0 ≤ n) (h1 : n < 18446744073709551616) (hz : z.toInt = n.bmod (2 ^ 64)) :
    ((z.toUInt64 >>> ((32 : Int32) &&& 0x3f).toInt64.toUInt64).toInt64).toInt = n / 4294967296 := by
  have hk : (((32 : Int32) &&& 0x3f).toInt64.toUInt64).toNat = 32 := by decide
  have e0 : (z.toBitVec.toNat : Int) = n := by
    have h2 : z.toInt = Int.bmod z.toBitVec.toNat (2 ^ 64) := BitVec.toInt_eq_toNat_bmod _
    have hlt := z.toBitVec.isLt
    rw [h2, Int.bmod_def, Int.bmod_def] at hz
    omega
  have e2 : ((z.toUInt64 >>> ((32 : Int32) &&& 0x3f).toInt64.toUInt64).toInt64).toBitVec.toNat = z.toBitVec.toNat / 2 ^ 32 := by
    simp only [UInt64.toBitVec_toInt64, UInt64.toBitVec_shiftRight, Int64.toBitVec_toUInt64]
    generalize (((32 : Int32) &&& 0x3f).toInt64.toUInt64) = k at hk
    have hk' : k.toBitVec.toNat = 32 := hk
    simp [BitVec.toNat_ushiftRight, Nat.shiftRight_eq_div_pow]
  have hlt := z.toBitVec.isLt
  have e3 : ((z.toUInt64 >>> ((32 : Int32) &&& 0x3f).toInt64.toUInt64).toInt64).toInt = ((z.toBitVec.toNat / 2 ^ 32 : Nat) : Int) := by
    have : ((z.toUInt64 >>> ((32 : Int32) &&& 0x3f).toInt64.toUInt64).toInt64).toInt = ((z.toUInt64 >>> ((32 : Int32) &&& 0x3f).toInt64.toUInt64).toInt64).toBitVec.toInt := rfl
    rw [this, BitVec.toInt_eq_toNat_cond, e2, if_pos (by omega)]
  rw [e3]
  omega

theorem mul_lt {a b c d : Int} (ha : 0 ≤ a) (hb : 0 ≤ b) (h1 : a ≤ c) (h2 : b ≤ d) : 0 ≤ a * b ∧ a * b ≤ c * d :=
  ⟨Int.mul_nonneg ha hb, Int.mul_le_mul h1 h2 hb (Int.le_trans ha h1)⟩

theorem poly (p q r t : Int) : (p * 4294967296 + q) * (r * 4294967296 + t) = p * r * 18446744073709551616 + (p * t + q * r) * 4294967296 + q * t := by grind

theorem mh_val (a b : Int64) (ha : 0 ≤ a.toInt) (hb : 0 ≤ b.toInt) : (mh a b).toInt = a.toInt * b.toInt / 18446744073709551616 := by
  have la := a.toInt_lt
  have lb := b.toInt_lt
  have e1 : (a >>> ((32 : Int32) &&& 0x3f).toInt64).toInt = a.toInt / 2 ^ 32 := i64_shr a _ (by decide)
  have e2 : (b >>> ((32 : Int32) &&& 0x3f).toInt64).toInt = b.toInt / 2 ^ 32 := i64_shr b _ (by decide)
  have e3 : (a &&& (4294967295 : Int64)).toInt = a.toInt % 2 ^ 32 := i64_mask a _ (by decide) (by decide)
  have e4 : (b &&& (4294967295 : Int64)).toInt = b.toInt % 2 ^ 32 := i64_mask b _ (by decide) (by decide)
  unfold mh
  generalize (a >>> ((32 : Int32) &&& 0x3f).toInt64) = x1 at *
  generalize (b >>> ((32 : Int32) &&& 0x3f).toInt64) = y1 at *
  generalize (a &&& (4294967295 : Int64)) = x2 at *
  generalize (b &&& (4294967295 : Int64)) = y2 at *
  have b11 := mul_lt (a := x1.toInt) (b := y1.toInt) (c := 2147483647) (d := 2147483647) (by omega) (by omega) (by omega) (by omega)
  have b12 := mul_lt (a := x1.toInt) (b := y2.toInt) (c := 2147483647) (d := 4294967295) (by omega) (by omega) (by omega) (by omega)
  have b21 := mul_lt (a := x2.toInt) (b := y1.toInt) (c := 4294967295) (d := 2147483647) (by omega) (by omega) (by omega) (by omega)
  have b22 := mul_lt (a := x2.toInt) (b := y2.toInt) (c := 4294967295) (d := 4294967295) (by omega) (by omega) (by omega) (by omega)
  have hA : a.toInt = x1.toInt * 4294967296 + x2.toInt := by omega
  have hB : b.toInt = y1.toInt * 4294967296 + y2.toInt := by omega
  have hP : a.toInt * b.toInt = x1.toInt * y1.toInt * 18446744073709551616 + (x1.toInt * y2.toInt + x2.toInt * y1.toInt) * 4294967296 + x2.toInt * y2.toInt := by
    rw [hA, hB]
    exact poly _ _ _ _
  have z2 : ((x2 * y2).toUInt64 >>> ((32 : Int32) &&& 0x3f).toInt64.toUInt64).toInt64.toInt = x2.toInt * y2.toInt / 4294967296 := lushr32 (x2 * y2) b22.1 (by omega) (Int64.toInt_mul ..)
  generalize ((x2 * y2).toUInt64 >>> ((32 : Int32) &&& 0x3f).toInt64.toUInt64).toInt64 = zz at *
  have m12 : (x1 * y2).toInt = x1.toInt * y2.toInt := i64_mul (by omega) (by omega)
  have m11 : (x1 * y1).toInt = x1.toInt * y1.toInt := i64_mul (by omega) (by omega)
  have m21 : (x2 * y1).toInt = x2.toInt * y1.toInt := i64_mul (by omega) (by omega)
  generalize x1.toInt * y1.toInt = p11 at *
  generalize x1.toInt * y2.toInt = p12 at *
  generalize x2.toInt * y1.toInt = p21 at *
  generalize x2.toInt * y2.toInt = p22 at *
  generalize x1 * y1 = v11 at *
  generalize x1 * y2 = v12 at *
  generalize x2 * y1 = v21 at *
  have t1 : (v12 + zz).toInt = p12 + p22 / 4294967296 := by rw [i64_add (by omega) (by omega)]; omega
  generalize v12 + zz = t at *
  have t2 : (t >>> ((32 : Int32) &&& 0x3f).toInt64).toInt = t.toInt / 2 ^ 32 := i64_shr t _ (by decide)
  have t3 : (t &&& (4294967295 : Int64)).toInt = t.toInt % 2 ^ 32 := i64_mask t _ (by decide) (by decide)
  generalize (t >>> ((32 : Int32) &&& 0x3f).toInt64) = th at *
  generalize (t &&& (4294967295 : Int64)) = tl at *
  have w1 : (tl + v21).toInt = tl.toInt + p21 := by rw [i64_add (by omega) (by omega)]; omega
  generalize tl + v21 = w at *
  have w2 : (w >>> ((32 : Int32) &&& 0x3f).toInt64).toInt = w.toInt / 2 ^ 32 := i64_shr w _ (by decide)
  generalize (w >>> ((32 : Int32) &&& 0x3f).toInt64) = wh at *
  have r1 : (v11 + th).toInt = p11 + th.toInt := by rw [i64_add (by omega) (by omega)]; omega
  generalize v11 + th = r at *
  have r2 : (r + wh).toInt = r.toInt + wh.toInt := i64_add (by omega) (by omega)
  rw [r2, hP]
  omega

theorem times_val (a b : Int64) (ha : 0 ≤ a.toInt) (hb : 0 ≤ b.toInt) : (tF a b).toInt = if a.toInt * b.toInt < 9223372036854775808 then a.toInt * b.toInt else 9223372036854775807 := by
  have h1 := mh_val a b ha hb
  have la := a.toInt_lt
  have lb := b.toInt_lt
  have hp := mul_lt (a := a.toInt) (b := b.toInt) (c := 9223372036854775807) (d := 9223372036854775807) ha hb (by omega) (by omega)
  have h2 : (a * b).toInt = (a.toInt * b.toInt).bmod (2 ^ 64) := Int64.toInt_mul ..
  generalize a.toInt * b.toInt = P at *
  have hM : (9223372036854775807 : Int64).toInt = 9223372036854775807 := by decide
  unfold tF
  by_cases c1 : mh a b = 0
  · rw [if_pos c1]
    rw [c1] at h1
    have h0 : (0 : Int64).toInt = 0 := by decide
    rw [h0] at h1
    rw [Int.bmod_def] at h2
    by_cases c2 : a * b < 0
    · rw [if_pos c2, hM]
      rw [Int64.lt_iff_toInt_lt, h0] at c2
      rw [if_neg]
      omega
    · rw [if_neg c2]
      rw [Int64.lt_iff_toInt_lt, h0] at c2
      rw [if_pos] <;> omega
  · rw [if_neg c1, hM, if_neg]
    intro hl
    apply c1
    apply Int64.toInt_inj.mp
    rw [h1]
    show _ = (0 : Int)
    omega

theorem div_val (b : Int64) (hb : 0 < b.toInt) : ((9223372036854775807 : Int64) / b).toInt = 9223372036854775807 / b.toInt := by
  rw [i64_div (by have hM : (9223372036854775807 : Int64).toInt = 9223372036854775807 := by decide
                  omega)]
  have hM : (9223372036854775807 : Int64).toInt = 9223372036854775807 := by decide
  rw [hM, Int.tdiv_eq_ediv_of_nonneg (by decide)]

/-- a > MAX / b: the product doesn't fit -/
theorem gt_div {a b : Int64} (hb : 0 < b.toInt) : (9223372036854775807 : Int64) / b < a ↔ 9223372036854775808 ≤ a.toInt * b.toInt := by
  rw [Int64.lt_iff_toInt_lt, div_val b hb, Int.ediv_lt_iff_lt_mul hb]
  omega

theorem shifted_nonneg (x : Int64) (s : Int32) : 0 ≤ (((x &&& (9223372036854775807 : Int64)).toUInt64 >>> ((s &&& (63 : Int32)) &&& 0x3f).toInt64.toUInt64).toInt64).toInt := by
  have e : (x &&& (9223372036854775807 : Int64)).toInt = x.toInt % 2 ^ 63 := i64_mask x _ (by decide) (by decide)
  generalize (x &&& (9223372036854775807 : Int64)) = y at *
  have h0 : 0 ≤ y := i64_nonneg.mpr (by omega)
  generalize ((s &&& (63 : Int32)) &&& 0x3f).toInt64.toUInt64 = n
  have hb := y.toBitVec.isLt
  have e1 : (y.toBitVec.toNat : Int) = y.toInt := by
    have h2 : y.toInt = Int.bmod y.toBitVec.toNat (2 ^ 64) := BitVec.toInt_eq_toNat_bmod _
    rw [Int.bmod_def] at h2
    omega
  have e2 : ((y.toUInt64 >>> n).toInt64).toBitVec.toNat ≤ y.toBitVec.toNat := by
    simp only [UInt64.toBitVec_toInt64, UInt64.toBitVec_shiftRight, Int64.toBitVec_toUInt64]
    simp only [BitVec.ushiftRight_eq', BitVec.toNat_ushiftRight, Nat.shiftRight_eq_div_pow]
    exact Nat.div_le_self _ _
  have e3 : ((y.toUInt64 >>> n).toInt64).toInt = ((y.toUInt64 >>> n).toInt64).toBitVec.toInt := rfl
  rw [e3, BitVec.toInt_eq_toNat_cond, if_pos (by omega)]
  omega
end Own391
namespace Jvm.Pilot.@@N@@
open Jvm Jvm.ClassFile Sem Op Lib Jvm.Free Jvm.Stand Jvm.LawKit Jvm.RoadKit Bundle Jvm.Pilot.@@N@@.Jvm.D

theorem own_lceq {x y : Int64} : lcmpW x y = 0 ↔ x = y := by rw [lcW]; exact lc_eq x y
theorem own_lclt {x y : Int64} : lcmpW x y < 0 ↔ x < y := by rw [lcW]; exact lc_lt x y
theorem own_lcgt {x y : Int64} : 0 < lcmpW x y ↔ y < x := by rw [lcW]; exact lc_gt x y
theorem d2_0 : decode jdk_29_method_45_code 0 = .ok (.lload_n 0, 1) := by decide +kernel
theorem d2_1 : decode jdk_29_method_45_code 1 = .ok (.bipush 32, 2) := by decide +kernel
theorem d2_3 : decode jdk_29_method_45_code 3 = .ok (.lshr, 1) := by decide +kernel
theorem d2_4 : decode jdk_29_method_45_code 4 = .ok (.lstore 4, 2) := by decide +kernel
theorem d2_6 : decode jdk_29_method_45_code 6 = .ok (.lload_n 0, 1) := by decide +kernel
theorem d2_7 : decode jdk_29_method_45_code 7 = .ok (.ldc2_w 138, 3) := by decide +kernel
theorem d2_10 : decode jdk_29_method_45_code 10 = .ok (.land, 1) := by decide +kernel
theorem d2_11 : decode jdk_29_method_45_code 11 = .ok (.lstore 6, 2) := by decide +kernel
theorem d2_13 : decode jdk_29_method_45_code 13 = .ok (.lload_n 2, 1) := by decide +kernel
theorem d2_14 : decode jdk_29_method_45_code 14 = .ok (.bipush 32, 2) := by decide +kernel
theorem d2_16 : decode jdk_29_method_45_code 16 = .ok (.lshr, 1) := by decide +kernel
theorem d2_17 : decode jdk_29_method_45_code 17 = .ok (.lstore 8, 2) := by decide +kernel
theorem d2_19 : decode jdk_29_method_45_code 19 = .ok (.lload_n 2, 1) := by decide +kernel
theorem d2_20 : decode jdk_29_method_45_code 20 = .ok (.ldc2_w 138, 3) := by decide +kernel
theorem d2_23 : decode jdk_29_method_45_code 23 = .ok (.land, 1) := by decide +kernel
theorem d2_24 : decode jdk_29_method_45_code 24 = .ok (.lstore 10, 2) := by decide +kernel
theorem d2_26 : decode jdk_29_method_45_code 26 = .ok (.lload 6, 2) := by decide +kernel
theorem d2_28 : decode jdk_29_method_45_code 28 = .ok (.lload 10, 2) := by decide +kernel
theorem d2_30 : decode jdk_29_method_45_code 30 = .ok (.lmul, 1) := by decide +kernel
theorem d2_31 : decode jdk_29_method_45_code 31 = .ok (.lstore 12, 2) := by decide +kernel
theorem d2_33 : decode jdk_29_method_45_code 33 = .ok (.lload 4, 2) := by decide +kernel
theorem d2_35 : decode jdk_29_method_45_code 35 = .ok (.lload 10, 2) := by decide +kernel
theorem d2_37 : decode jdk_29_method_45_code 37 = .ok (.lmul, 1) := by decide +kernel
theorem d2_38 : decode jdk_29_method_45_code 38 = .ok (.lload 12, 2) := by decide +kernel
theorem d2_40 : decode jdk_29_method_45_code 40 = .ok (.bipush 32, 2) := by decide +kernel
theorem d2_42 : decode jdk_29_method_45_code 42 = .ok (.lushr, 1) := by decide +kernel
theorem d2_43 : decode jdk_29_method_45_code 43 = .ok (.ladd, 1) := by decide +kernel
theorem d2_44 : decode jdk_29_method_45_code 44 = .ok (.lstore 14, 2) := by decide +kernel
theorem d2_46 : decode jdk_29_method_45_code 46 = .ok (.lload 14, 2) := by decide +kernel
theorem d2_48 : decode jdk_29_method_45_code 48 = .ok (.ldc2_w 138, 3) := by decide +kernel
theorem d2_51 : decode jdk_29_method_45_code 51 = .ok (.land, 1) := by decide +kernel
theorem d2_52 : decode jdk_29_method_45_code 52 = .ok (.lstore 16, 2) := by decide +kernel
theorem d2_54 : decode jdk_29_method_45_code 54 = .ok (.lload 14, 2) := by decide +kernel
theorem d2_56 : decode jdk_29_method_45_code 56 = .ok (.bipush 32, 2) := by decide +kernel
theorem d2_58 : decode jdk_29_method_45_code 58 = .ok (.lshr, 1) := by decide +kernel
theorem d2_59 : decode jdk_29_method_45_code 59 = .ok (.lstore 18, 2) := by decide +kernel
theorem d2_61 : decode jdk_29_method_45_code 61 = .ok (.lload 16, 2) := by decide +kernel
theorem d2_63 : decode jdk_29_method_45_code 63 = .ok (.lload 6, 2) := by decide +kernel
theorem d2_65 : decode jdk_29_method_45_code 65 = .ok (.lload 8, 2) := by decide +kernel
theorem d2_67 : decode jdk_29_method_45_code 67 = .ok (.lmul, 1) := by decide +kernel
theorem d2_68 : decode jdk_29_method_45_code 68 = .ok (.ladd, 1) := by decide +kernel
theorem d2_69 : decode jdk_29_method_45_code 69 = .ok (.lstore 16, 2) := by decide +kernel
theorem d2_71 : decode jdk_29_method_45_code 71 = .ok (.lload 4, 2) := by decide +kernel
theorem d2_73 : decode jdk_29_method_45_code 73 = .ok (.lload 8, 2) := by decide +kernel
theorem d2_75 : decode jdk_29_method_45_code 75 = .ok (.lmul, 1) := by decide +kernel
theorem d2_76 : decode jdk_29_method_45_code 76 = .ok (.lload 18, 2) := by decide +kernel
theorem d2_78 : decode jdk_29_method_45_code 78 = .ok (.ladd, 1) := by decide +kernel
theorem d2_79 : decode jdk_29_method_45_code 79 = .ok (.lload 16, 2) := by decide +kernel
theorem d2_81 : decode jdk_29_method_45_code 81 = .ok (.bipush 32, 2) := by decide +kernel
theorem d2_83 : decode jdk_29_method_45_code 83 = .ok (.lshr, 1) := by decide +kernel
theorem d2_84 : decode jdk_29_method_45_code 84 = .ok (.ladd, 1) := by decide +kernel
theorem d2_85 : decode jdk_29_method_45_code 85 = .ok (.lreturn, 1) := by decide +kernel
theorem ef_2 (m : MethodId) (x0 : Int64) (x1 : Int64) : entryFrame m #[(.long x0), (.long x1)] 20 = mkF m 0 #[.val (.long x0), .second, .val (.long x1), .second, .unset, .unset, .unset, .unset, .unset, .unset, .unset, .unset, .unset, .unset, .unset, .unset, .unset, .unset, .unset, .unset] [] := by first | (simp [entryFrame, mkF, argsToLocals, Value.category]; done) | rfl
def Q2 (Z : State) (q1 : Int64) (q2 : Int64) (h0 : Heap) (n0 : Nat) (v : Option Value) (h : Heap) (L : List Loc) : Prop := v = some (.long (Own391.mh q1 q2)) ∧ Fr n0 L ∧ h = h0
set_option maxRecDepth 65536 in
set_option maxHeartbeats 40000000 in
theorem rm2 (l : Launch) (Z : State) (a0 : Array Value) (hw : ∀ d ∈ tables_1, d.before a0 Z = true) (ws : List Jvm.Cond) (q1 : Int64) (q2 : Int64) (h0 : Heap) (n0 : Nat) (Z0 : n0 ≤ h0.size) :
    MetFree l (⟨"java/lang/Math", "multiplyHigh", "(JJ)J"⟩ : MethodName) (head1 (Jvm.Cond.code (⟨"java/lang/Math", "multiplyHigh", "(JJ)J"⟩ : MethodName) jdk_29_method_45_code 20 (some .long) :: ws) ({ frames := 0, cells := 0, slots := 0, locals := 0 } : Room)) (fun a U => a = #[(.long q1), (.long q2)] ∧ Z.Warmed39 U.vm ∧ U.heap = h0) (fun _ _ _ _ _ => True) (fun _ U o U' => ∃ v L, o = .returned v ∧ Q2 Z q1 q2 h0 n0 v U'.heap L ∧ FrameEnd U o U' L ({ frames := 0, cells := 0, slots := 0, locals := 0 } : Room).cells ({ frames := 0, cells := 0, slots := 0, locals := 0 } : Room).slots) := by
  refine MetFree.of_bodySF (Jvm.Free.JP.mathPlain rfl (by decide +kernel)) hisR ?_
  intro p e s m args below meth c s₁ Bd hml0 hP hK
  obtain ⟨rfl, hZ, hh⟩ := hP
  have hx := Bd.exec
  have hby := Bd.bytes
  have hml : c.maxLocals = 20 := hml0
  have hown : s.vm.findClass "java/lang/Math" = some m.cls := findClass_of_methodNamed Bd.named
  have hnm := (name_of_methodNamed Bd.named Bd.method).1
  have X0 : Stand p l e ({ frames := 0, cells := 0, slots := 0, locals := 0 } : Room) s m #[(.long q1), (.long q2)] below meth c s₁ [] 0 0 := Stand.of_body Bd
  have e0 : s₁.heap = h0 := by rw [← hh, Bd.state]; rfl
  have N0 := Fr.nil n0
  have pre0 : ∀ t, Steps p.tables e below (s₁.setTop (mkF m 0 #[.val (.long q1), .second, .val (.long q2), .second, .unset, .unset, .unset, .unset, .unset, .unset, .unset, .unset, .unset, .unset, .unset, .unset, .unset, .unset, .unset, .unset] [])) t → Steps p.tables e below (s₁.setTop (entryFrame m #[(.long q1), (.long q2)] 20)) t := fun t k => castTop (ef_2 m q1 q2) k
  -- 3. LAWS

  obtain ⟨fs, hr, hrun, hended, hW, hsame⟩ := X0.leave (v := some (.long ((((q1 >>> ((32 : Int32) &&& 0x3f).toInt64) * (q2 >>> ((32 : Int32) &&& 0x3f).toInt64)) + ((((q1 >>> ((32 : Int32) &&& 0x3f).toInt64) * (q2 &&& (4294967295 : Int64))) + ((((q1 &&& (4294967295 : Int64)) * (q2 &&& (4294967295 : Int64))).toUInt64 >>> ((32 : Int32) &&& 0x3f).toInt64.toUInt64).toInt64)) >>> ((32 : Int32) &&& 0x3f).toInt64)) + ((((((q1 >>> ((32 : Int32) &&& 0x3f).toInt64) * (q2 &&& (4294967295 : Int64))) + ((((q1 &&& (4294967295 : Int64)) * (q2 &&& (4294967295 : Int64))).toUInt64 >>> ((32 : Int32) &&& 0x3f).toInt64.toUInt64).toInt64)) &&& (4294967295 : Int64)) + ((q1 &&& (4294967295 : Int64)) * (q2 >>> ((32 : Int32) &&& 0x3f).toInt64))) >>> ((32 : Int32) &&& 0x3f).toInt64)))) (fun h => by rw [Bd.returns] at h; cases h)
  refine ⟨_, _, pre0 _ ?_, hrun, hended, _, _, rfl, ?_, ⟨_, rfl⟩, hW, hsame.mono (by decide) (by decide)⟩
  -- 4. STEPS
  · show Steps p.tables e below (s₁.setTop (mkF m 0 #[.val (.long q1), .second, .val (.long q2), .second, .unset, .unset, .unset, .unset, .unset, .unset, .unset, .unset, .unset, .unset, .unset, .unset, .unset, .unset, .unset, .unset] [])) _
    refine XS.lloadN X0.here hx rfl (hb hby d2_0) rfl ?_
    show Steps p.tables e below (s₁.setTop (mkF m 1 #[.val (.long q1), .second, .val (.long q2), .second, .unset, .unset, .unset, .unset, .unset, .unset, .unset, .unset, .unset, .unset, .unset, .unset, .unset, .unset, .unset, .unset] [(.long q1)])) _
    refine XS.bipush X0.here hx rfl (hb hby d2_1) ?_
    show Steps p.tables e below (s₁.setTop (mkF m 3 #[.val (.long q1), .second, .val (.long q2), .second, .unset, .unset, .unset, .unset, .unset, .unset, .unset, .unset, .unset, .unset, .unset, .unset, .unset, .unset, .unset, .unset] [(.int (32 : Int32)), (.long q1)])) _
    refine XS.lshr X0.here hx rfl (hb hby d2_3) rfl ?_
    show Steps p.tables e below (s₁.setTop (mkF m 4 #[.val (.long q1), .second, .val (.long q2), .second, .unset, .unset, .unset, .unset, .unset, .unset, .unset, .unset, .unset, .unset, .unset, .unset, .unset, .unset, .unset, .unset] [(.long (q1 >>> ((32 : Int32) &&& 0x3f).toInt64))])) _
    refine XS.lstore X0.here hx rfl (hb hby d2_4) rfl (l' := #[.val (.long q1), .second, .val (.long q2), .second, .val (.long (q1 >>> ((32 : Int32) &&& 0x3f).toInt64)), .second, .unset, .unset, .unset, .unset, .unset, .unset, .unset, .unset, .unset, .unset, .unset, .unset, .unset, .unset]) rfl ?_
    show Steps p.tables e below (s₁.setTop (mkF m 6 #[.val (.long q1), .second, .val (.long q2), .second, .val (.long (q1 >>> ((32 : Int32) &&& 0x3f).toInt64)), .second, .unset, .unset, .unset, .unset, .unset, .unset, .unset, .unset, .unset, .unset, .unset, .unset, .unset, .unset] [])) _
    refine XS.lloadN X0.here hx rfl (hb hby d2_6) rfl ?_
    show Steps p.tables e below (s₁.setTop (mkF m 7 #[.val (.long q1), .second, .val (.long q2), .second, .val (.long (q1 >>> ((32 : Int32) &&& 0x3f).toInt64)), .second, .unset, .unset, .unset, .unset, .unset, .unset, .unset, .unset, .unset, .unset, .unset, .unset, .unset, .unset] [(.long q1)])) _
    refine X0.ldc2Long hx hown (mvT hZ (hw _ (List.mem_of_getElem? (i := 9) rfl))) (g := (mkF m 7 #[.val (.long q1), .second, .val (.long q2), .second, .val (.long (q1 >>> ((32 : Int32) &&& 0x3f).toInt64)), .second, .unset, .unset, .unset, .unset, .unset, .unset, .unset, .unset, .unset, .unset, .unset, .unset, .unset, .unset] [(.long q1)])) rfl (hb hby d2_7) _ ?_
    show Steps p.tables e below (s₁.setTop (mkF m 10 #[.val (.long q1), .second, .val (.long q2), .second, .val (.long (q1 >>> ((32 : Int32) &&& 0x3f).toInt64)), .second, .unset, .unset, .unset, .unset, .unset, .unset, .unset, .unset, .unset, .unset, .unset, .unset, .unset, .unset] [(.long (4294967295 : Int64)), (.long q1)])) _
    refine XS.land X0.here hx rfl (hb hby d2_10) rfl ?_
    show Steps p.tables e below (s₁.setTop (mkF m 11 #[.val (.long q1), .second, .val (.long q2), .second, .val (.long (q1 >>> ((32 : Int32) &&& 0x3f).toInt64)), .second, .unset, .unset, .unset, .unset, .unset, .unset, .unset, .unset, .unset, .unset, .unset, .unset, .unset, .unset] [(.long (q1 &&& (4294967295 : Int64)))])) _
    refine XS.lstore X0.here hx rfl (hb hby d2_11) rfl (l' := #[.val (.long q1), .second, .val (.long q2), .second, .val (.long (q1 >>> ((32 : Int32) &&& 0x3f).toInt64)), .second, .val (.long (q1 &&& (4294967295 : Int64))), .second, .unset, .unset, .unset, .unset, .unset, .unset, .unset, .unset, .unset, .unset, .unset, .unset]) rfl ?_
    show Steps p.tables e below (s₁.setTop (mkF m 13 #[.val (.long q1), .second, .val (.long q2), .second, .val (.long (q1 >>> ((32 : Int32) &&& 0x3f).toInt64)), .second, .val (.long (q1 &&& (4294967295 : Int64))), .second, .unset, .unset, .unset, .unset, .unset, .unset, .unset, .unset, .unset, .unset, .unset, .unset] [])) _
    refine XS.lloadN X0.here hx rfl (hb hby d2_13) rfl ?_
    show Steps p.tables e below (s₁.setTop (mkF m 14 #[.val (.long q1), .second, .val (.long q2), .second, .val (.long (q1 >>> ((32 : Int32) &&& 0x3f).toInt64)), .second, .val (.long (q1 &&& (4294967295 : Int64))), .second, .unset, .unset, .unset, .unset, .unset, .unset, .unset, .unset, .unset, .unset, .unset, .unset] [(.long q2)])) _
    refine XS.bipush X0.here hx rfl (hb hby d2_14) ?_
    show Steps p.tables e below (s₁.setTop (mkF m 16 #[.val (.long q1), .second, .val (.long q2), .second, .val (.long (q1 >>> ((32 : Int32) &&& 0x3f).toInt64)), .second, .val (.long (q1 &&& (4294967295 : Int64))), .second, .unset, .unset, .unset, .unset, .unset, .unset, .unset, .unset, .unset, .unset, .unset, .unset] [(.int (32 : Int32)), (.long q2)])) _
    refine XS.lshr X0.here hx rfl (hb hby d2_16) rfl ?_
    show Steps p.tables e below (s₁.setTop (mkF m 17 #[.val (.long q1), .second, .val (.long q2), .second, .val (.long (q1 >>> ((32 : Int32) &&& 0x3f).toInt64)), .second, .val (.long (q1 &&& (4294967295 : Int64))), .second, .unset, .unset, .unset, .unset, .unset, .unset, .unset, .unset, .unset, .unset, .unset, .unset] [(.long (q2 >>> ((32 : Int32) &&& 0x3f).toInt64))])) _
    refine XS.lstore X0.here hx rfl (hb hby d2_17) rfl (l' := #[.val (.long q1), .second, .val (.long q2), .second, .val (.long (q1 >>> ((32 : Int32) &&& 0x3f).toInt64)), .second, .val (.long (q1 &&& (4294967295 : Int64))), .second, .val (.long (q2 >>> ((32 : Int32) &&& 0x3f).toInt64)), .second, .unset, .unset, .unset, .unset, .unset, .unset, .unset, .unset, .unset, .unset]) rfl ?_
    show Steps p.tables e below (s₁.setTop (mkF m 19 #[.val (.long q1), .second, .val (.long q2), .second, .val (.long (q1 >>> ((32 : Int32) &&& 0x3f).toInt64)), .second, .val (.long (q1 &&& (4294967295 : Int64))), .second, .val (.long (q2 >>> ((32 : Int32) &&& 0x3f).toInt64)), .second, .unset, .unset, .unset, .unset, .unset, .unset, .unset, .unset, .unset, .unset] [])) _
    refine XS.lloadN X0.here hx rfl (hb hby d2_19) rfl ?_
    show Steps p.tables e below (s₁.setTop (mkF m 20 #[.val (.long q1), .second, .val (.long q2), .second, .val (.long (q1 >>> ((32 : Int32) &&& 0x3f).toInt64)), .second, .val (.long (q1 &&& (4294967295 : Int64))), .second, .val (.long (q2 >>> ((32 : Int32) &&& 0x3f).toInt64)), .second, .unset, .unset, .unset, .unset, .unset, .unset, .unset, .unset, .unset, .unset] [(.long q2)])) _
    refine X0.ldc2Long hx hown (mvT hZ (hw _ (List.mem_of_getElem? (i := 9) rfl))) (g := (mkF m 20 #[.val (.long q1), .second, .val (.long q2), .second, .val (.long (q1 >>> ((32 : Int32) &&& 0x3f).toInt64)), .second, .val (.long (q1 &&& (4294967295 : Int64))), .second, .val (.long (q2 >>> ((32 : Int32) &&& 0x3f).toInt64)), .second, .unset, .unset, .unset, .unset, .unset, .unset, .unset, .unset, .unset, .unset] [(.long q2)])) rfl (hb hby d2_20) _ ?_
    show Steps p.tables e below (s₁.setTop (mkF m 23 #[.val (.long q1), .second, .val (.long q2), .second, .val (.long (q1 >>> ((32 : Int32) &&& 0x3f).toInt64)), .second, .val (.long (q1 &&& (4294967295 : Int64))), .second, .val (.long (q2 >>> ((32 : Int32) &&& 0x3f).toInt64)), .second, .unset, .unset, .unset, .unset, .unset, .unset, .unset, .unset, .unset, .unset] [(.long (4294967295 : Int64)), (.long q2)])) _
    refine XS.land X0.here hx rfl (hb hby d2_23) rfl ?_
    show Steps p.tables e below (s₁.setTop (mkF m 24 #[.val (.long q1), .second, .val (.long q2), .second, .val (.long (q1 >>> ((32 : Int32) &&& 0x3f).toInt64)), .second, .val (.long (q1 &&& (4294967295 : Int64))), .second, .val (.long (q2 >>> ((32 : Int32) &&& 0x3f).toInt64)), .second, .unset, .unset, .unset, .unset, .unset, .unset, .unset, .unset, .unset, .unset] [(.long (q2 &&& (4294967295 : Int64)))])) _
    refine XS.lstore X0.here hx rfl (hb hby d2_24) rfl (l' := #[.val (.long q1), .second, .val (.long q2), .second, .val (.long (q1 >>> ((32 : Int32) &&& 0x3f).toInt64)), .second, .val (.long (q1 &&& (4294967295 : Int64))), .second, .val (.long (q2 >>> ((32 : Int32) &&& 0x3f).toInt64)), .second, .val (.long (q2 &&& (4294967295 : Int64))), .second, .unset, .unset, .unset, .unset, .unset, .unset, .unset, .unset]) rfl ?_
    show Steps p.tables e below (s₁.setTop (mkF m 26 #[.val (.long q1), .second, .val (.long q2), .second, .val (.long (q1 >>> ((32 : Int32) &&& 0x3f).toInt64)), .second, .val (.long (q1 &&& (4294967295 : Int64))), .second, .val (.long (q2 >>> ((32 : Int32) &&& 0x3f).toInt64)), .second, .val (.long (q2 &&& (4294967295 : Int64))), .second, .unset, .unset, .unset, .unset, .unset, .unset, .unset, .unset] [])) _
    refine XS.lload X0.here hx rfl (hb hby d2_26) rfl ?_
    show Steps p.tables e below (s₁.setTop (mkF m 28 #[.val (.long q1), .second, .val (.long q2), .second, .val (.long (q1 >>> ((32 : Int32) &&& 0x3f).toInt64)), .second, .val (.long (q1 &&& (4294967295 : Int64))), .second, .val (.long (q2 >>> ((32 : Int32) &&& 0x3f).toInt64)), .second, .val (.long (q2 &&& (4294967295 : Int64))), .second, .unset, .unset, .unset, .unset, .unset, .unset, .unset, .unset] [(.long (q1 &&& (4294967295 : Int64)))])) _
    refine XS.lload X0.here hx rfl (hb hby d2_28) rfl ?_
    show Steps p.tables e below (s₁.setTop (mkF m 30 #[.val (.long q1), .second, .val (.long q2), .second, .val (.long (q1 >>> ((32 : Int32) &&& 0x3f).toInt64)), .second, .val (.long (q1 &&& (4294967295 : Int64))), .second, .val (.long (q2 >>> ((32 : Int32) &&& 0x3f).toInt64)), .second, .val (.long (q2 &&& (4294967295 : Int64))), .second, .unset, .unset, .unset, .unset, .unset, .unset, .unset, .unset] [(.long (q2 &&& (4294967295 : Int64))), (.long (q1 &&& (4294967295 : Int64)))])) _
    refine XS.lmul X0.here hx rfl (hb hby d2_30) rfl ?_
    show Steps p.tables e below (s₁.setTop (mkF m 31 #[.val (.long q1), .second, .val (.long q2), .second, .val (.long (q1 >>> ((32 : Int32) &&& 0x3f).toInt64)), .second, .val (.long (q1 &&& (4294967295 : Int64))), .second, .val (.long (q2 >>> ((32 : Int32) &&& 0x3f).toInt64)), .second, .val (.long (q2 &&& (4294967295 : Int64))), .second, .unset, .unset, .unset, .unset, .unset, .unset, .unset, .unset] [(.long ((q1 &&& (4294967295 : Int64)) * (q2 &&& (4294967295 : Int64))))])) _
    refine XS.lstore X0.here hx rfl (hb hby d2_31) rfl (l' := #[.val (.long q1), .second, .val (.long q2), .second, .val (.long (q1 >>> ((32 : Int32) &&& 0x3f).toInt64)), .second, .val (.long (q1 &&& (4294967295 : Int64))), .second, .val (.long (q2 >>> ((32 : Int32) &&& 0x3f).toInt64)), .second, .val (.long (q2 &&& (4294967295 : Int64))), .second, .val (.long ((q1 &&& (4294967295 : Int64)) * (q2 &&& (4294967295 : Int64)))), .second, .unset, .unset, .unset, .unset, .unset, .unset]) rfl ?_
    show Steps p.tables e below (s₁.setTop (mkF m 33 #[.val (.long q1), .second, .val (.long q2), .second, .val (.long (q1 >>> ((32 : Int32) &&& 0x3f).toInt64)), .second, .val (.long (q1 &&& (4294967295 : Int64))), .second, .val (.long (q2 >>> ((32 : Int32) &&& 0x3f).toInt64)), .second, .val (.long (q2 &&& (4294967295 : Int64))), .second, .val (.long ((q1 &&& (4294967295 : Int64)) * (q2 &&& (4294967295 : Int64)))), .second, .unset, .unset, .unset, .unset, .unset, .unset] [])) _
    refine XS.lload X0.here hx rfl (hb hby d2_33) rfl ?_
    show Steps p.tables e below (s₁.setTop (mkF m 35 #[.val (.long q1), .second, .val (.long q2), .second, .val (.long (q1 >>> ((32 : Int32) &&& 0x3f).toInt64)), .second, .val (.long (q1 &&& (4294967295 : Int64))), .second, .val (.long (q2 >>> ((32 : Int32) &&& 0x3f).toInt64)), .second, .val (.long (q2 &&& (4294967295 : Int64))), .second, .val (.long ((q1 &&& (4294967295 : Int64)) * (q2 &&& (4294967295 : Int64)))), .second, .unset, .unset, .unset, .unset, .unset, .unset] [(.long (q1 >>> ((32 : Int32) &&& 0x3f).toInt64))])) _
    refine XS.lload X0.here hx rfl (hb hby d2_35) rfl ?_
    show Steps p.tables e below (s₁.setTop (mkF m 37 #[.val (.long q1), .second, .val (.long q2), .second, .val (.long (q1 >>> ((32 : Int32) &&& 0x3f).toInt64)), .second, .val (.long (q1 &&& (4294967295 : Int64))), .second, .val (.long (q2 >>> ((32 : Int32) &&& 0x3f).toInt64)), .second, .val (.long (q2 &&& (4294967295 : Int64))), .second, .val (.long ((q1 &&& (4294967295 : Int64)) * (q2 &&& (4294967295 : Int64)))), .second, .unset, .unset, .unset, .unset, .unset, .unset] [(.long (q2 &&& (4294967295 : Int64))), (.long (q1 >>> ((32 : Int32) &&& 0x3f).toInt64))])) _
    refine XS.lmul X0.here hx rfl (hb hby d2_37) rfl ?_
    show Steps p.tables e below (s₁.setTop (mkF m 38 #[.val (.long q1), .second, .val (.long q2), .second, .val (.long (q1 >>> ((32 : Int32) &&& 0x3f).toInt64)), .second, .val (.long (q1 &&& (4294967295 : Int64))), .second, .val (.long (q2 >>> ((32 : Int32) &&& 0x3f).toInt64)), .second, .val (.long (q2 &&& (4294967295 : Int64))), .second, .val (.long ((q1 &&& (4294967295 : Int64)) * (q2 &&& (4294967295 : Int64)))), .second, .unset, .unset, .unset, .unset, .unset, .unset] [(.long ((q1 >>> ((32 : Int32) &&& 0x3f).toInt64) * (q2 &&& (4294967295 : Int64))))])) _
    refine XS.lload X0.here hx rfl (hb hby d2_38) rfl ?_
    show Steps p.tables e below (s₁.setTop (mkF m 40 #[.val (.long q1), .second, .val (.long q2), .second, .val (.long (q1 >>> ((32 : Int32) &&& 0x3f).toInt64)), .second, .val (.long (q1 &&& (4294967295 : Int64))), .second, .val (.long (q2 >>> ((32 : Int32) &&& 0x3f).toInt64)), .second, .val (.long (q2 &&& (4294967295 : Int64))), .second, .val (.long ((q1 &&& (4294967295 : Int64)) * (q2 &&& (4294967295 : Int64)))), .second, .unset, .unset, .unset, .unset, .unset, .unset] [(.long ((q1 &&& (4294967295 : Int64)) * (q2 &&& (4294967295 : Int64)))), (.long ((q1 >>> ((32 : Int32) &&& 0x3f).toInt64) * (q2 &&& (4294967295 : Int64))))])) _
    refine XS.bipush X0.here hx rfl (hb hby d2_40) ?_
    show Steps p.tables e below (s₁.setTop (mkF m 42 #[.val (.long q1), .second, .val (.long q2), .second, .val (.long (q1 >>> ((32 : Int32) &&& 0x3f).toInt64)), .second, .val (.long (q1 &&& (4294967295 : Int64))), .second, .val (.long (q2 >>> ((32 : Int32) &&& 0x3f).toInt64)), .second, .val (.long (q2 &&& (4294967295 : Int64))), .second, .val (.long ((q1 &&& (4294967295 : Int64)) * (q2 &&& (4294967295 : Int64)))), .second, .unset, .unset, .unset, .unset, .unset, .unset] [(.int (32 : Int32)), (.long ((q1 &&& (4294967295 : Int64)) * (q2 &&& (4294967295 : Int64)))), (.long ((q1 >>> ((32 : Int32) &&& 0x3f).toInt64) * (q2 &&& (4294967295 : Int64))))])) _
    refine XS.lushr X0.here hx rfl (hb hby d2_42) rfl ?_
    show Steps p.tables e below (s₁.setTop (mkF m 43 #[.val (.long q1), .second, .val (.long q2), .second, .val (.long (q1 >>> ((32 : Int32) &&& 0x3f).toInt64)), .second, .val (.long (q1 &&& (4294967295 : Int64))), .second, .val (.long (q2 >>> ((32 : Int32) &&& 0x3f).toInt64)), .second, .val (.long (q2 &&& (4294967295 : Int64))), .second, .val (.long ((q1 &&& (4294967295 : Int64)) * (q2 &&& (4294967295 : Int64)))), .second, .unset, .unset, .unset, .unset, .unset, .unset] [(.long ((((q1 &&& (4294967295 : Int64)) * (q2 &&& (4294967295 : Int64))).toUInt64 >>> ((32 : Int32) &&& 0x3f).toInt64.toUInt64).toInt64)), (.long ((q1 >>> ((32 : Int32) &&& 0x3f).toInt64) * (q2 &&& (4294967295 : Int64))))])) _
    refine XS.ladd X0.here hx rfl (hb hby d2_43) rfl ?_
    show Steps p.tables e below (s₁.setTop (mkF m 44 #[.val (.long q1), .second, .val (.long q2), .second, .val (.long (q1 >>> ((32 : Int32) &&& 0x3f).toInt64)), .second, .val (.long (q1 &&& (4294967295 : Int64))), .second, .val (.long (q2 >>> ((32 : Int32) &&& 0x3f).toInt64)), .second, .val (.long (q2 &&& (4294967295 : Int64))), .second, .val (.long ((q1 &&& (4294967295 : Int64)) * (q2 &&& (4294967295 : Int64)))), .second, .unset, .unset, .unset, .unset, .unset, .unset] [(.long (((q1 >>> ((32 : Int32) &&& 0x3f).toInt64) * (q2 &&& (4294967295 : Int64))) + ((((q1 &&& (4294967295 : Int64)) * (q2 &&& (4294967295 : Int64))).toUInt64 >>> ((32 : Int32) &&& 0x3f).toInt64.toUInt64).toInt64)))])) _
    refine XS.lstore X0.here hx rfl (hb hby d2_44) rfl (l' := #[.val (.long q1), .second, .val (.long q2), .second, .val (.long (q1 >>> ((32 : Int32) &&& 0x3f).toInt64)), .second, .val (.long (q1 &&& (4294967295 : Int64))), .second, .val (.long (q2 >>> ((32 : Int32) &&& 0x3f).toInt64)), .second, .val (.long (q2 &&& (4294967295 : Int64))), .second, .val (.long ((q1 &&& (4294967295 : Int64)) * (q2 &&& (4294967295 : Int64)))), .second, .val (.long (((q1 >>> ((32 : Int32) &&& 0x3f).toInt64) * (q2 &&& (4294967295 : Int64))) + ((((q1 &&& (4294967295 : Int64)) * (q2 &&& (4294967295 : Int64))).toUInt64 >>> ((32 : Int32) &&& 0x3f).toInt64.toUInt64).toInt64))), .second, .unset, .unset, .unset, .unset]) rfl ?_
    show Steps p.tables e below (s₁.setTop (mkF m 46 #[.val (.long q1), .second, .val (.long q2), .second, .val (.long (q1 >>> ((32 : Int32) &&& 0x3f).toInt64)), .second, .val (.long (q1 &&& (4294967295 : Int64))), .second, .val (.long (q2 >>> ((32 : Int32) &&& 0x3f).toInt64)), .second, .val (.long (q2 &&& (4294967295 : Int64))), .second, .val (.long ((q1 &&& (4294967295 : Int64)) * (q2 &&& (4294967295 : Int64)))), .second, .val (.long (((q1 >>> ((32 : Int32) &&& 0x3f).toInt64) * (q2 &&& (4294967295 : Int64))) + ((((q1 &&& (4294967295 : Int64)) * (q2 &&& (4294967295 : Int64))).toUInt64 >>> ((32 : Int32) &&& 0x3f).toInt64.toUInt64).toInt64))), .second, .unset, .unset, .unset, .unset] [])) _
    refine XS.lload X0.here hx rfl (hb hby d2_46) rfl ?_
    show Steps p.tables e below (s₁.setTop (mkF m 48 #[.val (.long q1), .second, .val (.long q2), .second, .val (.long (q1 >>> ((32 : Int32) &&& 0x3f).toInt64)), .second, .val (.long (q1 &&& (4294967295 : Int64))), .second, .val (.long (q2 >>> ((32 : Int32) &&& 0x3f).toInt64)), .second, .val (.long (q2 &&& (4294967295 : Int64))), .second, .val (.long ((q1 &&& (4294967295 : Int64)) * (q2 &&& (4294967295 : Int64)))), .second, .val (.long (((q1 >>> ((32 : Int32) &&& 0x3f).toInt64) * (q2 &&& (4294967295 : Int64))) + ((((q1 &&& (4294967295 : Int64)) * (q2 &&& (4294967295 : Int64))).toUInt64 >>> ((32 : Int32) &&& 0x3f).toInt64.toUInt64).toInt64))), .second, .unset, .unset, .unset, .unset] [(.long (((q1 >>> ((32 : Int32) &&& 0x3f).toInt64) * (q2 &&& (4294967295 : Int64))) + ((((q1 &&& (4294967295 : Int64)) * (q2 &&& (4294967295 : Int64))).toUInt64 >>> ((32 : Int32) &&& 0x3f).toInt64.toUInt64).toInt64)))])) _
    refine X0.ldc2Long hx hown (mvT hZ (hw _ (List.mem_of_getElem? (i := 9) rfl))) (g := (mkF m 48 #[.val (.long q1), .second, .val (.long q2), .second, .val (.long (q1 >>> ((32 : Int32) &&& 0x3f).toInt64)), .second, .val (.long (q1 &&& (4294967295 : Int64))), .second, .val (.long (q2 >>> ((32 : Int32) &&& 0x3f).toInt64)), .second, .val (.long (q2 &&& (4294967295 : Int64))), .second, .val (.long ((q1 &&& (4294967295 : Int64)) * (q2 &&& (4294967295 : Int64)))), .second, .val (.long (((q1 >>> ((32 : Int32) &&& 0x3f).toInt64) * (q2 &&& (4294967295 : Int64))) + ((((q1 &&& (4294967295 : Int64)) * (q2 &&& (4294967295 : Int64))).toUInt64 >>> ((32 : Int32) &&& 0x3f).toInt64.toUInt64).toInt64))), .second, .unset, .unset, .unset, .unset] [(.long (((q1 >>> ((32 : Int32) &&& 0x3f).toInt64) * (q2 &&& (4294967295 : Int64))) + ((((q1 &&& (4294967295 : Int64)) * (q2 &&& (4294967295 : Int64))).toUInt64 >>> ((32 : Int32) &&& 0x3f).toInt64.toUInt64).toInt64)))])) rfl (hb hby d2_48) _ ?_
    show Steps p.tables e below (s₁.setTop (mkF m 51 #[.val (.long q1), .second, .val (.long q2), .second, .val (.long (q1 >>> ((32 : Int32) &&& 0x3f).toInt64)), .second, .val (.long (q1 &&& (4294967295 : Int64))), .second, .val (.long (q2 >>> ((32 : Int32) &&& 0x3f).toInt64)), .second, .val (.long (q2 &&& (4294967295 : Int64))), .second, .val (.long ((q1 &&& (4294967295 : Int64)) * (q2 &&& (4294967295 : Int64)))), .second, .val (.long (((q1 >>> ((32 : Int32) &&& 0x3f).toInt64) * (q2 &&& (4294967295 : Int64))) + ((((q1 &&& (4294967295 : Int64)) * (q2 &&& (4294967295 : Int64))).toUInt64 >>> ((32 : Int32) &&& 0x3f).toInt64.toUInt64).toInt64))), .second, .unset, .unset, .unset, .unset] [(.long (4294967295 : Int64)), (.long (((q1 >>> ((32 : Int32) &&& 0x3f).toInt64) * (q2 &&& (4294967295 : Int64))) + ((((q1 &&& (4294967295 : Int64)) * (q2 &&& (4294967295 : Int64))).toUInt64 >>> ((32 : Int32) &&& 0x3f).toInt64.toUInt64).toInt64)))])) _
    refine XS.land X0.here hx rfl (hb hby d2_51) rfl ?_
    show Steps p.tables e below (s₁.setTop (mkF m 52 #[.val (.long q1), .second, .val (.long q2), .second, .val (.long (q1 >>> ((32 : Int32) &&& 0x3f).toInt64)), .second, .val (.long (q1 &&& (4294967295 : Int64))), .second, .val (.long (q2 >>> ((32 : Int32) &&& 0x3f).toInt64)), .second, .val (.long (q2 &&& (4294967295 : Int64))), .second, .val (.long ((q1 &&& (4294967295 : Int64)) * (q2 &&& (4294967295 : Int64)))), .second, .val (.long (((q1 >>> ((32 : Int32) &&& 0x3f).toInt64) * (q2 &&& (4294967295 : Int64))) + ((((q1 &&& (4294967295 : Int64)) * (q2 &&& (4294967295 : Int64))).toUInt64 >>> ((32 : Int32) &&& 0x3f).toInt64.toUInt64).toInt64))), .second, .unset, .unset, .unset, .unset] [(.long ((((q1 >>> ((32 : Int32) &&& 0x3f).toInt64) * (q2 &&& (4294967295 : Int64))) + ((((q1 &&& (4294967295 : Int64)) * (q2 &&& (4294967295 : Int64))).toUInt64 >>> ((32 : Int32) &&& 0x3f).toInt64.toUInt64).toInt64)) &&& (4294967295 : Int64)))])) _
    refine XS.lstore X0.here hx rfl (hb hby d2_52) rfl (l' := #[.val (.long q1), .second, .val (.long q2), .second, .val (.long (q1 >>> ((32 : Int32) &&& 0x3f).toInt64)), .second, .val (.long (q1 &&& (4294967295 : Int64))), .second, .val (.long (q2 >>> ((32 : Int32) &&& 0x3f).toInt64)), .second, .val (.long (q2 &&& (4294967295 : Int64))), .second, .val (.long ((q1 &&& (4294967295 : Int64)) * (q2 &&& (4294967295 : Int64)))), .second, .val (.long (((q1 >>> ((32 : Int32) &&& 0x3f).toInt64) * (q2 &&& (4294967295 : Int64))) + ((((q1 &&& (4294967295 : Int64)) * (q2 &&& (4294967295 : Int64))).toUInt64 >>> ((32 : Int32) &&& 0x3f).toInt64.toUInt64).toInt64))), .second, .val (.long ((((q1 >>> ((32 : Int32) &&& 0x3f).toInt64) * (q2 &&& (4294967295 : Int64))) + ((((q1 &&& (4294967295 : Int64)) * (q2 &&& (4294967295 : Int64))).toUInt64 >>> ((32 : Int32) &&& 0x3f).toInt64.toUInt64).toInt64)) &&& (4294967295 : Int64))), .second, .unset, .unset]) rfl ?_
    show Steps p.tables e below (s₁.setTop (mkF m 54 #[.val (.long q1), .second, .val (.long q2), .second, .val (.long (q1 >>> ((32 : Int32) &&& 0x3f).toInt64)), .second, .val (.long (q1 &&& (4294967295 : Int64))), .second, .val (.long (q2 >>> ((32 : Int32) &&& 0x3f).toInt64)), .second, .val (.long (q2 &&& (4294967295 : Int64))), .second, .val (.long ((q1 &&& (4294967295 : Int64)) * (q2 &&& (4294967295 : Int64)))), .second, .val (.long (((q1 >>> ((32 : Int32) &&& 0x3f).toInt64) * (q2 &&& (4294967295 : Int64))) + ((((q1 &&& (4294967295 : Int64)) * (q2 &&& (4294967295 : Int64))).toUInt64 >>> ((32 : Int32) &&& 0x3f).toInt64.toUInt64).toInt64))), .second, .val (.long ((((q1 >>> ((32 : Int32) &&& 0x3f).toInt64) * (q2 &&& (4294967295 : Int64))) + ((((q1 &&& (4294967295 : Int64)) * (q2 &&& (4294967295 : Int64))).toUInt64 >>> ((32 : Int32) &&& 0x3f).toInt64.toUInt64).toInt64)) &&& (4294967295 : Int64))), .second, .unset, .unset] [])) _
    refine XS.lload X0.here hx rfl (hb hby d2_54) rfl ?_
    show Steps p.tables e below (s₁.setTop (mkF m 56 #[.val (.long q1), .second, .val (.long q2), .second, .val (.long (q1 >>> ((32 : Int32) &&& 0x3f).toInt64)), .second, .val (.long (q1 &&& (4294967295 : Int64))), .second, .val (.long (q2 >>> ((32 : Int32) &&& 0x3f).toInt64)), .second, .val (.long (q2 &&& (4294967295 : Int64))), .second, .val (.long ((q1 &&& (4294967295 : Int64)) * (q2 &&& (4294967295 : Int64)))), .second, .val (.long (((q1 >>> ((32 : Int32) &&& 0x3f).toInt64) * (q2 &&& (4294967295 : Int64))) + ((((q1 &&& (4294967295 : Int64)) * (q2 &&& (4294967295 : Int64))).toUInt64 >>> ((32 : Int32) &&& 0x3f).toInt64.toUInt64).toInt64))), .second, .val (.long ((((q1 >>> ((32 : Int32) &&& 0x3f).toInt64) * (q2 &&& (4294967295 : Int64))) + ((((q1 &&& (4294967295 : Int64)) * (q2 &&& (4294967295 : Int64))).toUInt64 >>> ((32 : Int32) &&& 0x3f).toInt64.toUInt64).toInt64)) &&& (4294967295 : Int64))), .second, .unset, .unset] [(.long (((q1 >>> ((32 : Int32) &&& 0x3f).toInt64) * (q2 &&& (4294967295 : Int64))) + ((((q1 &&& (4294967295 : Int64)) * (q2 &&& (4294967295 : Int64))).toUInt64 >>> ((32 : Int32) &&& 0x3f).toInt64.toUInt64).toInt64)))])) _
    refine XS.bipush X0.here hx rfl (hb hby d2_56) ?_
    show Steps p.tables e below (s₁.setTop (mkF m 58 #[.val (.long q1), .second, .val (.long q2), .second, .val (.long (q1 >>> ((32 : Int32) &&& 0x3f).toInt64)), .second, .val (.long (q1 &&& (4294967295 : Int64))), .second, .val (.long (q2 >>> ((32 : Int32) &&& 0x3f).toInt64)), .second, .val (.long (q2 &&& (4294967295 : Int64))), .second, .val (.long ((q1 &&& (4294967295 : Int64)) * (q2 &&& (4294967295 : Int64)))), .second, .val (.long (((q1 >>> ((32 : Int32) &&& 0x3f).toInt64) * (q2 &&& (4294967295 : Int64))) + ((((q1 &&& (4294967295 : Int64)) * (q2 &&& (4294967295 : Int64))).toUInt64 >>> ((32 : Int32) &&& 0x3f).toInt64.toUInt64).toInt64))), .second, .val (.long ((((q1 >>> ((32 : Int32) &&& 0x3f).toInt64) * (q2 &&& (4294967295 : Int64))) + ((((q1 &&& (4294967295 : Int64)) * (q2 &&& (4294967295 : Int64))).toUInt64 >>> ((32 : Int32) &&& 0x3f).toInt64.toUInt64).toInt64)) &&& (4294967295 : Int64))), .second, .unset, .unset] [(.int (32 : Int32)), (.long (((q1 >>> ((32 : Int32) &&& 0x3f).toInt64) * (q2 &&& (4294967295 : Int64))) + ((((q1 &&& (4294967295 : Int64)) * (q2 &&& (4294967295 : Int64))).toUInt64 >>> ((32 : Int32) &&& 0x3f).toInt64.toUInt64).toInt64)))])) _
    refine XS.lshr X0.here hx rfl (hb hby d2_58) rfl ?_
    show Steps p.tables e below (s₁.setTop (mkF m 59 #[.val (.long q1), .second, .val (.long q2), .second, .val (.long (q1 >>> ((32 : Int32) &&& 0x3f).toInt64)), .second, .val (.long (q1 &&& (4294967295 : Int64))), .second, .val (.long (q2 >>> ((32 : Int32) &&& 0x3f).toInt64)), .second, .val (.long (q2 &&& (4294967295 : Int64))), .second, .val (.long ((q1 &&& (4294967295 : Int64)) * (q2 &&& (4294967295 : Int64)))), .second, .val (.long (((q1 >>> ((32 : Int32) &&& 0x3f).toInt64) * (q2 &&& (4294967295 : Int64))) + ((((q1 &&& (4294967295 : Int64)) * (q2 &&& (4294967295 : Int64))).toUInt64 >>> ((32 : Int32) &&& 0x3f).toInt64.toUInt64).toInt64))), .second, .val (.long ((((q1 >>> ((32 : Int32) &&& 0x3f).toInt64) * (q2 &&& (4294967295 : Int64))) + ((((q1 &&& (4294967295 : Int64)) * (q2 &&& (4294967295 : Int64))).toUInt64 >>> ((32 : Int32) &&& 0x3f).toInt64.toUInt64).toInt64)) &&& (4294967295 : Int64))), .second, .unset, .unset] [(.long ((((q1 >>> ((32 : Int32) &&& 0x3f).toInt64) * (q2 &&& (4294967295 : Int64))) + ((((q1 &&& (4294967295 : Int64)) * (q2 &&& (4294967295 : Int64))).toUInt64 >>> ((32 : Int32) &&& 0x3f).toInt64.toUInt64).toInt64)) >>> ((32 : Int32) &&& 0x3f).toInt64))])) _
    refine XS.lstore X0.here hx rfl (hb hby d2_59) rfl (l' := #[.val (.long q1), .second, .val (.long q2), .second, .val (.long (q1 >>> ((32 : Int32) &&& 0x3f).toInt64)), .second, .val (.long (q1 &&& (4294967295 : Int64))), .second, .val (.long (q2 >>> ((32 : Int32) &&& 0x3f).toInt64)), .second, .val (.long (q2 &&& (4294967295 : Int64))), .second, .val (.long ((q1 &&& (4294967295 : Int64)) * (q2 &&& (4294967295 : Int64)))), .second, .val (.long (((q1 >>> ((32 : Int32) &&& 0x3f).toInt64) * (q2 &&& (4294967295 : Int64))) + ((((q1 &&& (4294967295 : Int64)) * (q2 &&& (4294967295 : Int64))).toUInt64 >>> ((32 : Int32) &&& 0x3f).toInt64.toUInt64).toInt64))), .second, .val (.long ((((q1 >>> ((32 : Int32) &&& 0x3f).toInt64) * (q2 &&& (4294967295 : Int64))) + ((((q1 &&& (4294967295 : Int64)) * (q2 &&& (4294967295 : Int64))).toUInt64 >>> ((32 : Int32) &&& 0x3f).toInt64.toUInt64).toInt64)) &&& (4294967295 : Int64))), .second, .val (.long ((((q1 >>> ((32 : Int32) &&& 0x3f).toInt64) * (q2 &&& (4294967295 : Int64))) + ((((q1 &&& (4294967295 : Int64)) * (q2 &&& (4294967295 : Int64))).toUInt64 >>> ((32 : Int32) &&& 0x3f).toInt64.toUInt64).toInt64)) >>> ((32 : Int32) &&& 0x3f).toInt64)), .second]) rfl ?_
    show Steps p.tables e below (s₁.setTop (mkF m 61 #[.val (.long q1), .second, .val (.long q2), .second, .val (.long (q1 >>> ((32 : Int32) &&& 0x3f).toInt64)), .second, .val (.long (q1 &&& (4294967295 : Int64))), .second, .val (.long (q2 >>> ((32 : Int32) &&& 0x3f).toInt64)), .second, .val (.long (q2 &&& (4294967295 : Int64))), .second, .val (.long ((q1 &&& (4294967295 : Int64)) * (q2 &&& (4294967295 : Int64)))), .second, .val (.long (((q1 >>> ((32 : Int32) &&& 0x3f).toInt64) * (q2 &&& (4294967295 : Int64))) + ((((q1 &&& (4294967295 : Int64)) * (q2 &&& (4294967295 : Int64))).toUInt64 >>> ((32 : Int32) &&& 0x3f).toInt64.toUInt64).toInt64))), .second, .val (.long ((((q1 >>> ((32 : Int32) &&& 0x3f).toInt64) * (q2 &&& (4294967295 : Int64))) + ((((q1 &&& (4294967295 : Int64)) * (q2 &&& (4294967295 : Int64))).toUInt64 >>> ((32 : Int32) &&& 0x3f).toInt64.toUInt64).toInt64)) &&& (4294967295 : Int64))), .second, .val (.long ((((q1 >>> ((32 : Int32) &&& 0x3f).toInt64) * (q2 &&& (4294967295 : Int64))) + ((((q1 &&& (4294967295 : Int64)) * (q2 &&& (4294967295 : Int64))).toUInt64 >>> ((32 : Int32) &&& 0x3f).toInt64.toUInt64).toInt64)) >>> ((32 : Int32) &&& 0x3f).toInt64)), .second] [])) _
    refine XS.lload X0.here hx rfl (hb hby d2_61) rfl ?_
    show Steps p.tables e below (s₁.setTop (mkF m 63 #[.val (.long q1), .second, .val (.long q2), .second, .val (.long (q1 >>> ((32 : Int32) &&& 0x3f).toInt64)), .second, .val (.long (q1 &&& (4294967295 : Int64))), .second, .val (.long (q2 >>> ((32 : Int32) &&& 0x3f).toInt64)), .second, .val (.long (q2 &&& (4294967295 : Int64))), .second, .val (.long ((q1 &&& (4294967295 : Int64)) * (q2 &&& (4294967295 : Int64)))), .second, .val (.long (((q1 >>> ((32 : Int32) &&& 0x3f).toInt64) * (q2 &&& (4294967295 : Int64))) + ((((q1 &&& (4294967295 : Int64)) * (q2 &&& (4294967295 : Int64))).toUInt64 >>> ((32 : Int32) &&& 0x3f).toInt64.toUInt64).toInt64))), .second, .val (.long ((((q1 >>> ((32 : Int32) &&& 0x3f).toInt64) * (q2 &&& (4294967295 : Int64))) + ((((q1 &&& (4294967295 : Int64)) * (q2 &&& (4294967295 : Int64))).toUInt64 >>> ((32 : Int32) &&& 0x3f).toInt64.toUInt64).toInt64)) &&& (4294967295 : Int64))), .second, .val (.long ((((q1 >>> ((32 : Int32) &&& 0x3f).toInt64) * (q2 &&& (4294967295 : Int64))) + ((((q1 &&& (4294967295 : Int64)) * (q2 &&& (4294967295 : Int64))).toUInt64 >>> ((32 : Int32) &&& 0x3f).toInt64.toUInt64).toInt64)) >>> ((32 : Int32) &&& 0x3f).toInt64)), .second] [(.long ((((q1 >>> ((32 : Int32) &&& 0x3f).toInt64) * (q2 &&& (4294967295 : Int64))) + ((((q1 &&& (4294967295 : Int64)) * (q2 &&& (4294967295 : Int64))).toUInt64 >>> ((32 : Int32) &&& 0x3f).toInt64.toUInt64).toInt64)) &&& (4294967295 : Int64)))])) _
    refine XS.lload X0.here hx rfl (hb hby d2_63) rfl ?_
    show Steps p.tables e below (s₁.setTop (mkF m 65 #[.val (.long q1), .second, .val (.long q2), .second, .val (.long (q1 >>> ((32 : Int32) &&& 0x3f).toInt64)), .second, .val (.long (q1 &&& (4294967295 : Int64))), .second, .val (.long (q2 >>> ((32 : Int32) &&& 0x3f).toInt64)), .second, .val (.long (q2 &&& (4294967295 : Int64))), .second, .val (.long ((q1 &&& (4294967295 : Int64)) * (q2 &&& (4294967295 : Int64)))), .second, .val (.long (((q1 >>> ((32 : Int32) &&& 0x3f).toInt64) * (q2 &&& (4294967295 : Int64))) + ((((q1 &&& (4294967295 : Int64)) * (q2 &&& (4294967295 : Int64))).toUInt64 >>> ((32 : Int32) &&& 0x3f).toInt64.toUInt64).toInt64))), .second, .val (.long ((((q1 >>> ((32 : Int32) &&& 0x3f).toInt64) * (q2 &&& (4294967295 : Int64))) + ((((q1 &&& (4294967295 : Int64)) * (q2 &&& (4294967295 : Int64))).toUInt64 >>> ((32 : Int32) &&& 0x3f).toInt64.toUInt64).toInt64)) &&& (4294967295 : Int64))), .second, .val (.long ((((q1 >>> ((32 : Int32) &&& 0x3f).toInt64) * (q2 &&& (4294967295 : Int64))) + ((((q1 &&& (4294967295 : Int64)) * (q2 &&& (4294967295 : Int64))).toUInt64 >>> ((32 : Int32) &&& 0x3f).toInt64.toUInt64).toInt64)) >>> ((32 : Int32) &&& 0x3f).toInt64)), .second] [(.long (q1 &&& (4294967295 : Int64))), (.long ((((q1 >>> ((32 : Int32) &&& 0x3f).toInt64) * (q2 &&& (4294967295 : Int64))) + ((((q1 &&& (4294967295 : Int64)) * (q2 &&& (4294967295 : Int64))).toUInt64 >>> ((32 : Int32) &&& 0x3f).toInt64.toUInt64).toInt64)) &&& (4294967295 : Int64)))])) _
    refine XS.lload X0.here hx rfl (hb hby d2_65) rfl ?_
    show Steps p.tables e below (s₁.setTop (mkF m 67 #[.val (.long q1), .second, .val (.long q2), .second, .val (.long (q1 >>> ((32 : Int32) &&& 0x3f).toInt64)), .second, .val (.long (q1 &&& (4294967295 : Int64))), .second, .val (.long (q2 >>> ((32 : Int32) &&& 0x3f).toInt64)), .second, .val (.long (q2 &&& (4294967295 : Int64))), .second, .val (.long ((q1 &&& (4294967295 : Int64)) * (q2 &&& (4294967295 : Int64)))), .second, .val (.long (((q1 >>> ((32 : Int32) &&& 0x3f).toInt64) * (q2 &&& (4294967295 : Int64))) + ((((q1 &&& (4294967295 : Int64)) * (q2 &&& (4294967295 : Int64))).toUInt64 >>> ((32 : Int32) &&& 0x3f).toInt64.toUInt64).toInt64))), .second, .val (.long ((((q1 >>> ((32 : Int32) &&& 0x3f).toInt64) * (q2 &&& (4294967295 : Int64))) + ((((q1 &&& (4294967295 : Int64)) * (q2 &&& (4294967295 : Int64))).toUInt64 >>> ((32 : Int32) &&& 0x3f).toInt64.toUInt64).toInt64)) &&& (4294967295 : Int64))), .second, .val (.long ((((q1 >>> ((32 : Int32) &&& 0x3f).toInt64) * (q2 &&& (4294967295 : Int64))) + ((((q1 &&& (4294967295 : Int64)) * (q2 &&& (4294967295 : Int64))).toUInt64 >>> ((32 : Int32) &&& 0x3f).toInt64.toUInt64).toInt64)) >>> ((32 : Int32) &&& 0x3f).toInt64)), .second] [(.long (q2 >>> ((32 : Int32) &&& 0x3f).toInt64)), (.long (q1 &&& (4294967295 : Int64))), (.long ((((q1 >>> ((32 : Int32) &&& 0x3f).toInt64) * (q2 &&& (4294967295 : Int64))) + ((((q1 &&& (4294967295 : Int64)) * (q2 &&& (4294967295 : Int64))).toUInt64 >>> ((32 : Int32) &&& 0x3f).toInt64.toUInt64).toInt64)) &&& (4294967295 : Int64)))])) _
    refine XS.lmul X0.here hx rfl (hb hby d2_67) rfl ?_
    show Steps p.tables e below (s₁.setTop (mkF m 68 #[.val (.long q1), .second, .val (.long q2), .second, .val (.long (q1 >>> ((32 : Int32) &&& 0x3f).toInt64)), .second, .val (.long (q1 &&& (4294967295 : Int64))), .second, .val (.long (q2 >>> ((32 : Int32) &&& 0x3f).toInt64)), .second, .val (.long (q2 &&& (4294967295 : Int64))), .second, .val (.long ((q1 &&& (4294967295 : Int64)) * (q2 &&& (4294967295 : Int64)))), .second, .val (.long (((q1 >>> ((32 : Int32) &&& 0x3f).toInt64) * (q2 &&& (4294967295 : Int64))) + ((((q1 &&& (4294967295 : Int64)) * (q2 &&& (4294967295 : Int64))).toUInt64 >>> ((32 : Int32) &&& 0x3f).toInt64.toUInt64).toInt64))), .second, .val (.long ((((q1 >>> ((32 : Int32) &&& 0x3f).toInt64) * (q2 &&& (4294967295 : Int64))) + ((((q1 &&& (4294967295 : Int64)) * (q2 &&& (4294967295 : Int64))).toUInt64 >>> ((32 : Int32) &&& 0x3f).toInt64.toUInt64).toInt64)) &&& (4294967295 : Int64))), .second, .val (.long ((((q1 >>> ((32 : Int32) &&& 0x3f).toInt64) * (q2 &&& (4294967295 : Int64))) + ((((q1 &&& (4294967295 : Int64)) * (q2 &&& (4294967295 : Int64))).toUInt64 >>> ((32 : Int32) &&& 0x3f).toInt64.toUInt64).toInt64)) >>> ((32 : Int32) &&& 0x3f).toInt64)), .second] [(.long ((q1 &&& (4294967295 : Int64)) * (q2 >>> ((32 : Int32) &&& 0x3f).toInt64))), (.long ((((q1 >>> ((32 : Int32) &&& 0x3f).toInt64) * (q2 &&& (4294967295 : Int64))) + ((((q1 &&& (4294967295 : Int64)) * (q2 &&& (4294967295 : Int64))).toUInt64 >>> ((32 : Int32) &&& 0x3f).toInt64.toUInt64).toInt64)) &&& (4294967295 : Int64)))])) _
    refine XS.ladd X0.here hx rfl (hb hby d2_68) rfl ?_
    show Steps p.tables e below (s₁.setTop (mkF m 69 #[.val (.long q1), .second, .val (.long q2), .second, .val (.long (q1 >>> ((32 : Int32) &&& 0x3f).toInt64)), .second, .val (.long (q1 &&& (4294967295 : Int64))), .second, .val (.long (q2 >>> ((32 : Int32) &&& 0x3f).toInt64)), .second, .val (.long (q2 &&& (4294967295 : Int64))), .second, .val (.long ((q1 &&& (4294967295 : Int64)) * (q2 &&& (4294967295 : Int64)))), .second, .val (.long (((q1 >>> ((32 : Int32) &&& 0x3f).toInt64) * (q2 &&& (4294967295 : Int64))) + ((((q1 &&& (4294967295 : Int64)) * (q2 &&& (4294967295 : Int64))).toUInt64 >>> ((32 : Int32) &&& 0x3f).toInt64.toUInt64).toInt64))), .second, .val (.long ((((q1 >>> ((32 : Int32) &&& 0x3f).toInt64) * (q2 &&& (4294967295 : Int64))) + ((((q1 &&& (4294967295 : Int64)) * (q2 &&& (4294967295 : Int64))).toUInt64 >>> ((32 : Int32) &&& 0x3f).toInt64.toUInt64).toInt64)) &&& (4294967295 : Int64))), .second, .val (.long ((((q1 >>> ((32 : Int32) &&& 0x3f).toInt64) * (q2 &&& (4294967295 : Int64))) + ((((q1 &&& (4294967295 : Int64)) * (q2 &&& (4294967295 : Int64))).toUInt64 >>> ((32 : Int32) &&& 0x3f).toInt64.toUInt64).toInt64)) >>> ((32 : Int32) &&& 0x3f).toInt64)), .second] [(.long (((((q1 >>> ((32 : Int32) &&& 0x3f).toInt64) * (q2 &&& (4294967295 : Int64))) + ((((q1 &&& (4294967295 : Int64)) * (q2 &&& (4294967295 : Int64))).toUInt64 >>> ((32 : Int32) &&& 0x3f).toInt64.toUInt64).toInt64)) &&& (4294967295 : Int64)) + ((q1 &&& (4294967295 : Int64)) * (q2 >>> ((32 : Int32) &&& 0x3f).toInt64))))])) _
    refine XS.lstore X0.here hx rfl (hb hby d2_69) rfl (l' := #[.val (.long q1), .second, .val (.long q2), .second, .val (.long (q1 >>> ((32 : Int32) &&& 0x3f).toInt64)), .second, .val (.long (q1 &&& (4294967295 : Int64))), .second, .val (.long (q2 >>> ((32 : Int32) &&& 0x3f).toInt64)), .second, .val (.long (q2 &&& (4294967295 : Int64))), .second, .val (.long ((q1 &&& (4294967295 : Int64)) * (q2 &&& (4294967295 : Int64)))), .second, .val (.long (((q1 >>> ((32 : Int32) &&& 0x3f).toInt64) * (q2 &&& (4294967295 : Int64))) + ((((q1 &&& (4294967295 : Int64)) * (q2 &&& (4294967295 : Int64))).toUInt64 >>> ((32 : Int32) &&& 0x3f).toInt64.toUInt64).toInt64))), .second, .val (.long (((((q1 >>> ((32 : Int32) &&& 0x3f).toInt64) * (q2 &&& (4294967295 : Int64))) + ((((q1 &&& (4294967295 : Int64)) * (q2 &&& (4294967295 : Int64))).toUInt64 >>> ((32 : Int32) &&& 0x3f).toInt64.toUInt64).toInt64)) &&& (4294967295 : Int64)) + ((q1 &&& (4294967295 : Int64)) * (q2 >>> ((32 : Int32) &&& 0x3f).toInt64)))), .second, .val (.long ((((q1 >>> ((32 : Int32) &&& 0x3f).toInt64) * (q2 &&& (4294967295 : Int64))) + ((((q1 &&& (4294967295 : Int64)) * (q2 &&& (4294967295 : Int64))).toUInt64 >>> ((32 : Int32) &&& 0x3f).toInt64.toUInt64).toInt64)) >>> ((32 : Int32) &&& 0x3f).toInt64)), .second]) rfl ?_
    show Steps p.tables e below (s₁.setTop (mkF m 71 #[.val (.long q1), .second, .val (.long q2), .second, .val (.long (q1 >>> ((32 : Int32) &&& 0x3f).toInt64)), .second, .val (.long (q1 &&& (4294967295 : Int64))), .second, .val (.long (q2 >>> ((32 : Int32) &&& 0x3f).toInt64)), .second, .val (.long (q2 &&& (4294967295 : Int64))), .second, .val (.long ((q1 &&& (4294967295 : Int64)) * (q2 &&& (4294967295 : Int64)))), .second, .val (.long (((q1 >>> ((32 : Int32) &&& 0x3f).toInt64) * (q2 &&& (4294967295 : Int64))) + ((((q1 &&& (4294967295 : Int64)) * (q2 &&& (4294967295 : Int64))).toUInt64 >>> ((32 : Int32) &&& 0x3f).toInt64.toUInt64).toInt64))), .second, .val (.long (((((q1 >>> ((32 : Int32) &&& 0x3f).toInt64) * (q2 &&& (4294967295 : Int64))) + ((((q1 &&& (4294967295 : Int64)) * (q2 &&& (4294967295 : Int64))).toUInt64 >>> ((32 : Int32) &&& 0x3f).toInt64.toUInt64).toInt64)) &&& (4294967295 : Int64)) + ((q1 &&& (4294967295 : Int64)) * (q2 >>> ((32 : Int32) &&& 0x3f).toInt64)))), .second, .val (.long ((((q1 >>> ((32 : Int32) &&& 0x3f).toInt64) * (q2 &&& (4294967295 : Int64))) + ((((q1 &&& (4294967295 : Int64)) * (q2 &&& (4294967295 : Int64))).toUInt64 >>> ((32 : Int32) &&& 0x3f).toInt64.toUInt64).toInt64)) >>> ((32 : Int32) &&& 0x3f).toInt64)), .second] [])) _
    refine XS.lload X0.here hx rfl (hb hby d2_71) rfl ?_
    show Steps p.tables e below (s₁.setTop (mkF m 73 #[.val (.long q1), .second, .val (.long q2), .second, .val (.long (q1 >>> ((32 : Int32) &&& 0x3f).toInt64)), .second, .val (.long (q1 &&& (4294967295 : Int64))), .second, .val (.long (q2 >>> ((32 : Int32) &&& 0x3f).toInt64)), .second, .val (.long (q2 &&& (4294967295 : Int64))), .second, .val (.long ((q1 &&& (4294967295 : Int64)) * (q2 &&& (4294967295 : Int64)))), .second, .val (.long (((q1 >>> ((32 : Int32) &&& 0x3f).toInt64) * (q2 &&& (4294967295 : Int64))) + ((((q1 &&& (4294967295 : Int64)) * (q2 &&& (4294967295 : Int64))).toUInt64 >>> ((32 : Int32) &&& 0x3f).toInt64.toUInt64).toInt64))), .second, .val (.long (((((q1 >>> ((32 : Int32) &&& 0x3f).toInt64) * (q2 &&& (4294967295 : Int64))) + ((((q1 &&& (4294967295 : Int64)) * (q2 &&& (4294967295 : Int64))).toUInt64 >>> ((32 : Int32) &&& 0x3f).toInt64.toUInt64).toInt64)) &&& (4294967295 : Int64)) + ((q1 &&& (4294967295 : Int64)) * (q2 >>> ((32 : Int32) &&& 0x3f).toInt64)))), .second, .val (.long ((((q1 >>> ((32 : Int32) &&& 0x3f).toInt64) * (q2 &&& (4294967295 : Int64))) + ((((q1 &&& (4294967295 : Int64)) * (q2 &&& (4294967295 : Int64))).toUInt64 >>> ((32 : Int32) &&& 0x3f).toInt64.toUInt64).toInt64)) >>> ((32 : Int32) &&& 0x3f).toInt64)), .second] [(.long (q1 >>> ((32 : Int32) &&& 0x3f).toInt64))])) _
    refine XS.lload X0.here hx rfl (hb hby d2_73) rfl ?_
    show Steps p.tables e below (s₁.setTop (mkF m 75 #[.val (.long q1), .second, .val (.long q2), .second, .val (.long (q1 >>> ((32 : Int32) &&& 0x3f).toInt64)), .second, .val (.long (q1 &&& (4294967295 : Int64))), .second, .val (.long (q2 >>> ((32 : Int32) &&& 0x3f).toInt64)), .second, .val (.long (q2 &&& (4294967295 : Int64))), .second, .val (.long ((q1 &&& (4294967295 : Int64)) * (q2 &&& (4294967295 : Int64)))), .second, .val (.long (((q1 >>> ((32 : Int32) &&& 0x3f).toInt64) * (q2 &&& (4294967295 : Int64))) + ((((q1 &&& (4294967295 : Int64)) * (q2 &&& (4294967295 : Int64))).toUInt64 >>> ((32 : Int32) &&& 0x3f).toInt64.toUInt64).toInt64))), .second, .val (.long (((((q1 >>> ((32 : Int32) &&& 0x3f).toInt64) * (q2 &&& (4294967295 : Int64))) + ((((q1 &&& (4294967295 : Int64)) * (q2 &&& (4294967295 : Int64))).toUInt64 >>> ((32 : Int32) &&& 0x3f).toInt64.toUInt64).toInt64)) &&& (4294967295 : Int64)) + ((q1 &&& (4294967295 : Int64)) * (q2 >>> ((32 : Int32) &&& 0x3f).toInt64)))), .second, .val (.long ((((q1 >>> ((32 : Int32) &&& 0x3f).toInt64) * (q2 &&& (4294967295 : Int64))) + ((((q1 &&& (4294967295 : Int64)) * (q2 &&& (4294967295 : Int64))).toUInt64 >>> ((32 : Int32) &&& 0x3f).toInt64.toUInt64).toInt64)) >>> ((32 : Int32) &&& 0x3f).toInt64)), .second] [(.long (q2 >>> ((32 : Int32) &&& 0x3f).toInt64)), (.long (q1 >>> ((32 : Int32) &&& 0x3f).toInt64))])) _
    refine XS.lmul X0.here hx rfl (hb hby d2_75) rfl ?_
    show Steps p.tables e below (s₁.setTop (mkF m 76 #[.val (.long q1), .second, .val (.long q2), .second, .val (.long (q1 >>> ((32 : Int32) &&& 0x3f).toInt64)), .second, .val (.long (q1 &&& (4294967295 : Int64))), .second, .val (.long (q2 >>> ((32 : Int32) &&& 0x3f).toInt64)), .second, .val (.long (q2 &&& (4294967295 : Int64))), .second, .val (.long ((q1 &&& (4294967295 : Int64)) * (q2 &&& (4294967295 : Int64)))), .second, .val (.long (((q1 >>> ((32 : Int32) &&& 0x3f).toInt64) * (q2 &&& (4294967295 : Int64))) + ((((q1 &&& (4294967295 : Int64)) * (q2 &&& (4294967295 : Int64))).toUInt64 >>> ((32 : Int32) &&& 0x3f).toInt64.toUInt64).toInt64))), .second, .val (.long (((((q1 >>> ((32 : Int32) &&& 0x3f).toInt64) * (q2 &&& (4294967295 : Int64))) + ((((q1 &&& (4294967295 : Int64)) * (q2 &&& (4294967295 : Int64))).toUInt64 >>> ((32 : Int32) &&& 0x3f).toInt64.toUInt64).toInt64)) &&& (4294967295 : Int64)) + ((q1 &&& (4294967295 : Int64)) * (q2 >>> ((32 : Int32) &&& 0x3f).toInt64)))), .second, .val (.long ((((q1 >>> ((32 : Int32) &&& 0x3f).toInt64) * (q2 &&& (4294967295 : Int64))) + ((((q1 &&& (4294967295 : Int64)) * (q2 &&& (4294967295 : Int64))).toUInt64 >>> ((32 : Int32) &&& 0x3f).toInt64.toUInt64).toInt64)) >>> ((32 : Int32) &&& 0x3f).toInt64)), .second] [(.long ((q1 >>> ((32 : Int32) &&& 0x3f).toInt64) * (q2 >>> ((32 : Int32) &&& 0x3f).toInt64)))])) _
    refine XS.lload X0.here hx rfl (hb hby d2_76) rfl ?_
    show Steps p.tables e below (s₁.setTop (mkF m 78 #[.val (.long q1), .second, .val (.long q2), .second, .val (.long (q1 >>> ((32 : Int32) &&& 0x3f).toInt64)), .second, .val (.long (q1 &&& (4294967295 : Int64))), .second, .val (.long (q2 >>> ((32 : Int32) &&& 0x3f).toInt64)), .second, .val (.long (q2 &&& (4294967295 : Int64))), .second, .val (.long ((q1 &&& (4294967295 : Int64)) * (q2 &&& (4294967295 : Int64)))), .second, .val (.long (((q1 >>> ((32 : Int32) &&& 0x3f).toInt64) * (q2 &&& (4294967295 : Int64))) + ((((q1 &&& (4294967295 : Int64)) * (q2 &&& (4294967295 : Int64))).toUInt64 >>> ((32 : Int32) &&& 0x3f).toInt64.toUInt64).toInt64))), .second, .val (.long (((((q1 >>> ((32 : Int32) &&& 0x3f).toInt64) * (q2 &&& (4294967295 : Int64))) + ((((q1 &&& (4294967295 : Int64)) * (q2 &&& (4294967295 : Int64))).toUInt64 >>> ((32 : Int32) &&& 0x3f).toInt64.toUInt64).toInt64)) &&& (4294967295 : Int64)) + ((q1 &&& (4294967295 : Int64)) * (q2 >>> ((32 : Int32) &&& 0x3f).toInt64)))), .second, .val (.long ((((q1 >>> ((32 : Int32) &&& 0x3f).toInt64) * (q2 &&& (4294967295 : Int64))) + ((((q1 &&& (4294967295 : Int64)) * (q2 &&& (4294967295 : Int64))).toUInt64 >>> ((32 : Int32) &&& 0x3f).toInt64.toUInt64).toInt64)) >>> ((32 : Int32) &&& 0x3f).toInt64)), .second] [(.long ((((q1 >>> ((32 : Int32) &&& 0x3f).toInt64) * (q2 &&& (4294967295 : Int64))) + ((((q1 &&& (4294967295 : Int64)) * (q2 &&& (4294967295 : Int64))).toUInt64 >>> ((32 : Int32) &&& 0x3f).toInt64.toUInt64).toInt64)) >>> ((32 : Int32) &&& 0x3f).toInt64)), (.long ((q1 >>> ((32 : Int32) &&& 0x3f).toInt64) * (q2 >>> ((32 : Int32) &&& 0x3f).toInt64)))])) _
    refine XS.ladd X0.here hx rfl (hb hby d2_78) rfl ?_
    show Steps p.tables e below (s₁.setTop (mkF m 79 #[.val (.long q1), .second, .val (.long q2), .second, .val (.long (q1 >>> ((32 : Int32) &&& 0x3f).toInt64)), .second, .val (.long (q1 &&& (4294967295 : Int64))), .second, .val (.long (q2 >>> ((32 : Int32) &&& 0x3f).toInt64)), .second, .val (.long (q2 &&& (4294967295 : Int64))), .second, .val (.long ((q1 &&& (4294967295 : Int64)) * (q2 &&& (4294967295 : Int64)))), .second, .val (.long (((q1 >>> ((32 : Int32) &&& 0x3f).toInt64) * (q2 &&& (4294967295 : Int64))) + ((((q1 &&& (4294967295 : Int64)) * (q2 &&& (4294967295 : Int64))).toUInt64 >>> ((32 : Int32) &&& 0x3f).toInt64.toUInt64).toInt64))), .second, .val (.long (((((q1 >>> ((32 : Int32) &&& 0x3f).toInt64) * (q2 &&& (4294967295 : Int64))) + ((((q1 &&& (4294967295 : Int64)) * (q2 &&& (4294967295 : Int64))).toUInt64 >>> ((32 : Int32) &&& 0x3f).toInt64.toUInt64).toInt64)) &&& (4294967295 : Int64)) + ((q1 &&& (4294967295 : Int64)) * (q2 >>> ((32 : Int32) &&& 0x3f).toInt64)))), .second, .val (.long ((((q1 >>> ((32 : Int32) &&& 0x3f).toInt64) * (q2 &&& (4294967295 : Int64))) + ((((q1 &&& (4294967295 : Int64)) * (q2 &&& (4294967295 : Int64))).toUInt64 >>> ((32 : Int32) &&& 0x3f).toInt64.toUInt64).toInt64)) >>> ((32 : Int32) &&& 0x3f).toInt64)), .second] [(.long (((q1 >>> ((32 : Int32) &&& 0x3f).toInt64) * (q2 >>> ((32 : Int32) &&& 0x3f).toInt64)) + ((((q1 >>> ((32 : Int32) &&& 0x3f).toInt64) * (q2 &&& (4294967295 : Int64))) + ((((q1 &&& (4294967295 : Int64)) * (q2 &&& (4294967295 : Int64))).toUInt64 >>> ((32 : Int32) &&& 0x3f).toInt64.toUInt64).toInt64)) >>> ((32 : Int32) &&& 0x3f).toInt64)))])) _
    refine XS.lload X0.here hx rfl (hb hby d2_79) rfl ?_
    show Steps p.tables e below (s₁.setTop (mkF m 81 #[.val (.long q1), .second, .val (.long q2), .second, .val (.long (q1 >>> ((32 : Int32) &&& 0x3f).toInt64)), .second, .val (.long (q1 &&& (4294967295 : Int64))), .second, .val (.long (q2 >>> ((32 : Int32) &&& 0x3f).toInt64)), .second, .val (.long (q2 &&& (4294967295 : Int64))), .second, .val (.long ((q1 &&& (4294967295 : Int64)) * (q2 &&& (4294967295 : Int64)))), .second, .val (.long (((q1 >>> ((32 : Int32) &&& 0x3f).toInt64) * (q2 &&& (4294967295 : Int64))) + ((((q1 &&& (4294967295 : Int64)) * (q2 &&& (4294967295 : Int64))).toUInt64 >>> ((32 : Int32) &&& 0x3f).toInt64.toUInt64).toInt64))), .second, .val (.long (((((q1 >>> ((32 : Int32) &&& 0x3f).toInt64) * (q2 &&& (4294967295 : Int64))) + ((((q1 &&& (4294967295 : Int64)) * (q2 &&& (4294967295 : Int64))).toUInt64 >>> ((32 : Int32) &&& 0x3f).toInt64.toUInt64).toInt64)) &&& (4294967295 : Int64)) + ((q1 &&& (4294967295 : Int64)) * (q2 >>> ((32 : Int32) &&& 0x3f).toInt64)))), .second, .val (.long ((((q1 >>> ((32 : Int32) &&& 0x3f).toInt64) * (q2 &&& (4294967295 : Int64))) + ((((q1 &&& (4294967295 : Int64)) * (q2 &&& (4294967295 : Int64))).toUInt64 >>> ((32 : Int32) &&& 0x3f).toInt64.toUInt64).toInt64)) >>> ((32 : Int32) &&& 0x3f).toInt64)), .second] [(.long (((((q1 >>> ((32 : Int32) &&& 0x3f).toInt64) * (q2 &&& (4294967295 : Int64))) + ((((q1 &&& (4294967295 : Int64)) * (q2 &&& (4294967295 : Int64))).toUInt64 >>> ((32 : Int32) &&& 0x3f).toInt64.toUInt64).toInt64)) &&& (4294967295 : Int64)) + ((q1 &&& (4294967295 : Int64)) * (q2 >>> ((32 : Int32) &&& 0x3f).toInt64)))), (.long (((q1 >>> ((32 : Int32) &&& 0x3f).toInt64) * (q2 >>> ((32 : Int32) &&& 0x3f).toInt64)) + ((((q1 >>> ((32 : Int32) &&& 0x3f).toInt64) * (q2 &&& (4294967295 : Int64))) + ((((q1 &&& (4294967295 : Int64)) * (q2 &&& (4294967295 : Int64))).toUInt64 >>> ((32 : Int32) &&& 0x3f).toInt64.toUInt64).toInt64)) >>> ((32 : Int32) &&& 0x3f).toInt64)))])) _
    refine XS.bipush X0.here hx rfl (hb hby d2_81) ?_
    show Steps p.tables e below (s₁.setTop (mkF m 83 #[.val (.long q1), .second, .val (.long q2), .second, .val (.long (q1 >>> ((32 : Int32) &&& 0x3f).toInt64)), .second, .val (.long (q1 &&& (4294967295 : Int64))), .second, .val (.long (q2 >>> ((32 : Int32) &&& 0x3f).toInt64)), .second, .val (.long (q2 &&& (4294967295 : Int64))), .second, .val (.long ((q1 &&& (4294967295 : Int64)) * (q2 &&& (4294967295 : Int64)))), .second, .val (.long (((q1 >>> ((32 : Int32) &&& 0x3f).toInt64) * (q2 &&& (4294967295 : Int64))) + ((((q1 &&& (4294967295 : Int64)) * (q2 &&& (4294967295 : Int64))).toUInt64 >>> ((32 : Int32) &&& 0x3f).toInt64.toUInt64).toInt64))), .second, .val (.long (((((q1 >>> ((32 : Int32) &&& 0x3f).toInt64) * (q2 &&& (4294967295 : Int64))) + ((((q1 &&& (4294967295 : Int64)) * (q2 &&& (4294967295 : Int64))).toUInt64 >>> ((32 : Int32) &&& 0x3f).toInt64.toUInt64).toInt64)) &&& (4294967295 : Int64)) + ((q1 &&& (4294967295 : Int64)) * (q2 >>> ((32 : Int32) &&& 0x3f).toInt64)))), .second, .val (.long ((((q1 >>> ((32 : Int32) &&& 0x3f).toInt64) * (q2 &&& (4294967295 : Int64))) + ((((q1 &&& (4294967295 : Int64)) * (q2 &&& (4294967295 : Int64))).toUInt64 >>> ((32 : Int32) &&& 0x3f).toInt64.toUInt64).toInt64)) >>> ((32 : Int32) &&& 0x3f).toInt64)), .second] [(.int (32 : Int32)), (.long (((((q1 >>> ((32 : Int32) &&& 0x3f).toInt64) * (q2 &&& (4294967295 : Int64))) + ((((q1 &&& (4294967295 : Int64)) * (q2 &&& (4294967295 : Int64))).toUInt64 >>> ((32 : Int32) &&& 0x3f).toInt64.toUInt64).toInt64)) &&& (4294967295 : Int64)) + ((q1 &&& (4294967295 : Int64)) * (q2 >>> ((32 : Int32) &&& 0x3f).toInt64)))), (.long (((q1 >>> ((32 : Int32) &&& 0x3f).toInt64) * (q2 >>> ((32 : Int32) &&& 0x3f).toInt64)) + ((((q1 >>> ((32 : Int32) &&& 0x3f).toInt64) * (q2 &&& (4294967295 : Int64))) + ((((q1 &&& (4294967295 : Int64)) * (q2 &&& (4294967295 : Int64))).toUInt64 >>> ((32 : Int32) &&& 0x3f).toInt64.toUInt64).toInt64)) >>> ((32 : Int32) &&& 0x3f).toInt64)))])) _
    refine XS.lshr X0.here hx rfl (hb hby d2_83) rfl ?_
    show Steps p.tables e below (s₁.setTop (mkF m 84 #[.val (.long q1), .second, .val (.long q2), .second, .val (.long (q1 >>> ((32 : Int32) &&& 0x3f).toInt64)), .second, .val (.long (q1 &&& (4294967295 : Int64))), .second, .val (.long (q2 >>> ((32 : Int32) &&& 0x3f).toInt64)), .second, .val (.long (q2 &&& (4294967295 : Int64))), .second, .val (.long ((q1 &&& (4294967295 : Int64)) * (q2 &&& (4294967295 : Int64)))), .second, .val (.long (((q1 >>> ((32 : Int32) &&& 0x3f).toInt64) * (q2 &&& (4294967295 : Int64))) + ((((q1 &&& (4294967295 : Int64)) * (q2 &&& (4294967295 : Int64))).toUInt64 >>> ((32 : Int32) &&& 0x3f).toInt64.toUInt64).toInt64))), .second, .val (.long (((((q1 >>> ((32 : Int32) &&& 0x3f).toInt64) * (q2 &&& (4294967295 : Int64))) + ((((q1 &&& (4294967295 : Int64)) * (q2 &&& (4294967295 : Int64))).toUInt64 >>> ((32 : Int32) &&& 0x3f).toInt64.toUInt64).toInt64)) &&& (4294967295 : Int64)) + ((q1 &&& (4294967295 : Int64)) * (q2 >>> ((32 : Int32) &&& 0x3f).toInt64)))), .second, .val (.long ((((q1 >>> ((32 : Int32) &&& 0x3f).toInt64) * (q2 &&& (4294967295 : Int64))) + ((((q1 &&& (4294967295 : Int64)) * (q2 &&& (4294967295 : Int64))).toUInt64 >>> ((32 : Int32) &&& 0x3f).toInt64.toUInt64).toInt64)) >>> ((32 : Int32) &&& 0x3f).toInt64)), .second] [(.long ((((((q1 >>> ((32 : Int32) &&& 0x3f).toInt64) * (q2 &&& (4294967295 : Int64))) + ((((q1 &&& (4294967295 : Int64)) * (q2 &&& (4294967295 : Int64))).toUInt64 >>> ((32 : Int32) &&& 0x3f).toInt64.toUInt64).toInt64)) &&& (4294967295 : Int64)) + ((q1 &&& (4294967295 : Int64)) * (q2 >>> ((32 : Int32) &&& 0x3f).toInt64))) >>> ((32 : Int32) &&& 0x3f).toInt64)), (.long (((q1 >>> ((32 : Int32) &&& 0x3f).toInt64) * (q2 >>> ((32 : Int32) &&& 0x3f).toInt64)) + ((((q1 >>> ((32 : Int32) &&& 0x3f).toInt64) * (q2 &&& (4294967295 : Int64))) + ((((q1 &&& (4294967295 : Int64)) * (q2 &&& (4294967295 : Int64))).toUInt64 >>> ((32 : Int32) &&& 0x3f).toInt64.toUInt64).toInt64)) >>> ((32 : Int32) &&& 0x3f).toInt64)))])) _
    refine XS.ladd X0.here hx rfl (hb hby d2_84) rfl ?_
    show Steps p.tables e below (s₁.setTop (mkF m 85 #[.val (.long q1), .second, .val (.long q2), .second, .val (.long (q1 >>> ((32 : Int32) &&& 0x3f).toInt64)), .second, .val (.long (q1 &&& (4294967295 : Int64))), .second, .val (.long (q2 >>> ((32 : Int32) &&& 0x3f).toInt64)), .second, .val (.long (q2 &&& (4294967295 : Int64))), .second, .val (.long ((q1 &&& (4294967295 : Int64)) * (q2 &&& (4294967295 : Int64)))), .second, .val (.long (((q1 >>> ((32 : Int32) &&& 0x3f).toInt64) * (q2 &&& (4294967295 : Int64))) + ((((q1 &&& (4294967295 : Int64)) * (q2 &&& (4294967295 : Int64))).toUInt64 >>> ((32 : Int32) &&& 0x3f).toInt64.toUInt64).toInt64))), .second, .val (.long (((((q1 >>> ((32 : Int32) &&& 0x3f).toInt64) * (q2 &&& (4294967295 : Int64))) + ((((q1 &&& (4294967295 : Int64)) * (q2 &&& (4294967295 : Int64))).toUInt64 >>> ((32 : Int32) &&& 0x3f).toInt64.toUInt64).toInt64)) &&& (4294967295 : Int64)) + ((q1 &&& (4294967295 : Int64)) * (q2 >>> ((32 : Int32) &&& 0x3f).toInt64)))), .second, .val (.long ((((q1 >>> ((32 : Int32) &&& 0x3f).toInt64) * (q2 &&& (4294967295 : Int64))) + ((((q1 &&& (4294967295 : Int64)) * (q2 &&& (4294967295 : Int64))).toUInt64 >>> ((32 : Int32) &&& 0x3f).toInt64.toUInt64).toInt64)) >>> ((32 : Int32) &&& 0x3f).toInt64)), .second] [(.long ((((q1 >>> ((32 : Int32) &&& 0x3f).toInt64) * (q2 >>> ((32 : Int32) &&& 0x3f).toInt64)) + ((((q1 >>> ((32 : Int32) &&& 0x3f).toInt64) * (q2 &&& (4294967295 : Int64))) + ((((q1 &&& (4294967295 : Int64)) * (q2 &&& (4294967295 : Int64))).toUInt64 >>> ((32 : Int32) &&& 0x3f).toInt64.toUInt64).toInt64)) >>> ((32 : Int32) &&& 0x3f).toInt64)) + ((((((q1 >>> ((32 : Int32) &&& 0x3f).toInt64) * (q2 &&& (4294967295 : Int64))) + ((((q1 &&& (4294967295 : Int64)) * (q2 &&& (4294967295 : Int64))).toUInt64 >>> ((32 : Int32) &&& 0x3f).toInt64.toUInt64).toInt64)) &&& (4294967295 : Int64)) + ((q1 &&& (4294967295 : Int64)) * (q2 >>> ((32 : Int32) &&& 0x3f).toInt64))) >>> ((32 : Int32) &&& 0x3f).toInt64)))])) _
    exact own_retL X0 hx Bd.returns (hb hby d2_85) hr
  · show Q2 Z q1 q2 h0 n0 _ s₁.heap _
    rw [e0]
    exact ⟨rfl, N0, rfl⟩
theorem d1_0 : decode prog_4_method_7_code 0 = .ok (.lload_n 0, 1) := by decide +kernel
theorem d1_1 : decode prog_4_method_7_code 1 = .ok (.lload_n 2, 1) := by decide +kernel
theorem d1_2 : decode prog_4_method_7_code 2 = .ok (.lmul, 1) := by decide +kernel
theorem d1_3 : decode prog_4_method_7_code 3 = .ok (.lstore 4, 2) := by decide +kernel
theorem d1_5 : decode prog_4_method_7_code 5 = .ok (.lload_n 0, 1) := by decide +kernel
theorem d1_6 : decode prog_4_method_7_code 6 = .ok (.lload_n 2, 1) := by decide +kernel
theorem d1_7 : decode prog_4_method_7_code 7 = .ok (.invokestatic 54, 3) := by decide +kernel
theorem d1_10 : decode prog_4_method_7_code 10 = .ok (.lconst 0, 1) := by decide +kernel
theorem d1_11 : decode prog_4_method_7_code 11 = .ok (.lcmp, 1) := by decide +kernel
theorem d1_12 : decode prog_4_method_7_code 12 = .ok (.ifCond .ne 10, 3) := by decide +kernel
theorem d1_22 : decode prog_4_method_7_code 22 = .ok (.ldc2_w 60, 3) := by decide +kernel
theorem d1_25 : decode prog_4_method_7_code 25 = .ok (.goto 5, 3) := by decide +kernel
theorem d1_30 : decode prog_4_method_7_code 30 = .ok (.lreturn, 1) := by decide +kernel
theorem pn_1 : plainName "com/example/fieldgrade/fieldgrade/model/Budget" = true := by first | (simp [plainName, overriddenIn]; done) | decide +kernel
theorem pd_1_0 : parseMethodDescriptor "(JJ)J" = some ⟨[.long, .long], some .long⟩ := by decide +kernel
theorem ef_1 (m : MethodId) (x0 : Int64) (x1 : Int64) : entryFrame m #[(.long x0), (.long x1)] 6 = mkF m 0 #[.val (.long x0), .second, .val (.long x1), .second, .unset, .unset] [] := by first | (simp [entryFrame, mkF, argsToLocals, Value.category]; done) | rfl
def Q1 (Z : State) (q1 : Int64) (q2 : Int64) (h0 : Heap) (n0 : Nat) (v : Option Value) (h : Heap) (L : List Loc) : Prop := v = some (.long (Own391.tF q1 q2)) ∧ Fr n0 L ∧ h = h0
set_option maxRecDepth 65536 in
set_option maxHeartbeats 40000000 in
theorem rm1_t (l : Launch) (Z : State) (a0 : Array Value) (hw : ∀ d ∈ tables_1, d.before a0 Z = true) (ws : List Jvm.Cond) (q1 : Int64) (q2 : Int64) (h0 : Heap) (n0 : Nat) (Z0 : n0 ≤ h0.size) (hm : ¬ (lcmpW (Own391.mh q1 q2) (0 : Int64)) = (0 : Int32)) (hv : some (Value.long (9223372036854775807 : Int64)) = some (Value.long (Own391.tF q1 q2))) :
    MetFree l (⟨"com/example/fieldgrade/fieldgrade/model/Budget", "times", "(JJ)J"⟩ : MethodName) (head1 (Jvm.Cond.code (⟨"com/example/fieldgrade/fieldgrade/model/Budget", "times", "(JJ)J"⟩ : MethodName) prog_4_method_7_code 6 (some .long) :: ws) ({ frames := 1, cells := 0, slots := 0, locals := 31 } : Room)) (fun a U => a = #[(.long q1), (.long q2)] ∧ Z.Warmed39 U.vm ∧ U.heap = h0) (fun _ _ _ _ _ => True) (fun _ U o U' => ∃ v L, o = .returned v ∧ Q1 Z q1 q2 h0 n0 v U'.heap L ∧ FrameEnd U o U' L ({ frames := 1, cells := 0, slots := 0, locals := 31 } : Room).cells ({ frames := 1, cells := 0, slots := 0, locals := 31 } : Room).slots) := by
  refine MetFree.of_bodySF (plainFor_of_name pn_1) hisR ?_
  intro p e s m args below meth c s₁ Bd hml0 hP hK
  obtain ⟨rfl, hZ, hh⟩ := hP
  have hx := Bd.exec
  have hby := Bd.bytes
  have hml : c.maxLocals = 6 := hml0
  have hown : s.vm.findClass "com/example/fieldgrade/fieldgrade/model/Budget" = some m.cls := findClass_of_methodNamed Bd.named
  have hnm := (name_of_methodNamed Bd.named Bd.method).1
  have X0 : Stand p l e ({ frames := 1, cells := 0, slots := 0, locals := 31 } : Room) s m #[(.long q1), (.long q2)] below meth c s₁ [] 0 0 := Stand.of_body Bd
  have e0 : s₁.heap = h0 := by rw [← hh, Bd.state]; rfl
  have N0 := Fr.nil n0
  have pre0 : ∀ t, Steps p.tables e below (s₁.setTop (mkF m 0 #[.val (.long q1), .second, .val (.long q2), .second, .unset, .unset] [])) t → Steps p.tables e below (s₁.setTop (entryFrame m #[(.long q1), (.long q2)] 6)) t := fun t k => castTop (ef_1 m q1 q2) k
  -- 3. LAWS
  -- pc 7: java/lang/Math.multiplyHigh by its contract rm2
  obtain ⟨_, _, ⟨T3, L3, k3, n3⟩, -, X3, ⟨Lc3, hQ3, l3, y3, z3⟩, st3⟩ := Jvm.LawKit.callS X0 hx (y := (⟨"java/lang/Math", "multiplyHigh", "(JJ)J"⟩ : MethodName)) hown (mvT hZ (hw _ (List.mem_of_getElem? (i := 5) rfl))) (mvT hZ (hw _ (List.mem_of_getElem? (i := 6) rfl))) (mvT hZ (hw _ (List.mem_of_getElem? (i := 7) rfl))) (mvT hZ (hw _ (List.mem_of_getElem? (i := 8) rfl))) (by decide) (backOf (W := 0) (rm2 l Z a0 hw [] q1 q2 h0 n0 Z0) hZ (hw _ (List.mem_of_getElem? (i := 8) rfl)) (hw _ (List.mem_of_getElem? (i := 7) rfl)) (by decide) (by decide)) (g := (mkF m 7 #[.val (.long q1), .second, .val (.long q2), .second, .val (.long (q1 * q2)), .second] [(.long q2), (.long q1)])) rfl (by rw [hml]; rfl) (argsL := [(.long q1), (.long q2)]) (rest := []) (lenOf pd_1_0 rfl) rfl (by show 2 * 0 + _ ≤ _; exact Nat.le_of_eq rfl) (hb hby d1_7) (fun _ _ => ⟨rfl, e0, (by decide : 0 + 0 ≤ _), (by decide : 0 + 0 ≤ _)⟩)
  dsimp only [Pt.U, Pt.locs, Pt.cells, Pt.slots] at X3 l3 y3 z3 st3 hQ3
  subst l3 y3 z3
  obtain ⟨rfl, N3q, e3⟩ := hQ3      -- what it returned, that it wrote nothing old, and the rest of your Q2
  have N3 := Fr.app N0 N3q
  obtain ⟨fs, hr, hrun, hended, hW, hsame⟩ := X3.leave (v := some (.long (9223372036854775807 : Int64))) (fun h => by rw [Bd.returns] at h; cases h)
  refine ⟨_, _, pre0 _ ?_, hrun, hended, _, _, rfl, ?_, ⟨_, rfl⟩, hW, hsame.mono (by decide) (by decide)⟩
  -- 4. STEPS
  · show Steps p.tables e below (s₁.setTop (mkF m 0 #[.val (.long q1), .second, .val (.long q2), .second, .unset, .unset] [])) _
    refine XS.lloadN X0.here hx rfl (hb hby d1_0) rfl ?_
    show Steps p.tables e below (s₁.setTop (mkF m 1 #[.val (.long q1), .second, .val (.long q2), .second, .unset, .unset] [(.long q1)])) _
    refine XS.lloadN X0.here hx rfl (hb hby d1_1) rfl ?_
    show Steps p.tables e below (s₁.setTop (mkF m 2 #[.val (.long q1), .second, .val (.long q2), .second, .unset, .unset] [(.long q2), (.long q1)])) _
    refine XS.lmul X0.here hx rfl (hb hby d1_2) rfl ?_
    show Steps p.tables e below (s₁.setTop (mkF m 3 #[.val (.long q1), .second, .val (.long q2), .second, .unset, .unset] [(.long (q1 * q2))])) _
    refine XS.lstore X0.here hx rfl (hb hby d1_3) rfl (l' := #[.val (.long q1), .second, .val (.long q2), .second, .val (.long (q1 * q2)), .second]) rfl ?_
    show Steps p.tables e below (s₁.setTop (mkF m 5 #[.val (.long q1), .second, .val (.long q2), .second, .val (.long (q1 * q2)), .second] [])) _
    refine XS.lloadN X0.here hx rfl (hb hby d1_5) rfl ?_
    show Steps p.tables e below (s₁.setTop (mkF m 6 #[.val (.long q1), .second, .val (.long q2), .second, .val (.long (q1 * q2)), .second] [(.long q1)])) _
    refine XS.lloadN X0.here hx rfl (hb hby d1_6) rfl ?_
    show Steps p.tables e below (s₁.setTop (mkF m 7 #[.val (.long q1), .second, .val (.long q2), .second, .val (.long (q1 * q2)), .second] [(.long q2), (.long q1)])) _
    refine st3 _ ?_
    show Steps p.tables e below (T3.setTop (mkF m 10 #[.val (.long q1), .second, .val (.long q2), .second, .val (.long (q1 * q2)), .second] [(.long (Own391.mh q1 q2))])) _
    refine XS.lconst X3.here hx rfl (hb hby d1_10) ?_
    show Steps p.tables e below (T3.setTop (mkF m 11 #[.val (.long q1), .second, .val (.long q2), .second, .val (.long (q1 * q2)), .second] [(.long (0 : Int64)), (.long (Own391.mh q1 q2))])) _
    refine XS.lcmp X3.here hx rfl (hb hby d1_11) rfl ?_
    show Steps p.tables e below (T3.setTop (mkF m 12 #[.val (.long q1), .second, .val (.long q2), .second, .val (.long (q1 * q2)), .second] [(.int (lcmpW (Own391.mh q1 q2) (0 : Int64)))])) _
    refine XS.ifYes X3.here hx rfl (pc0 := 12) (pc' := 22) rfl (hb hby d1_12) rfl ((if0 _ _).trans (feq (hm : ¬ ((lcmpW (Own391.mh q1 q2) (0 : Int64)) = (0 : Int32)))).2) (by decide) (by decide) ?_
    show Steps p.tables e below (T3.setTop (mkF m 22 #[.val (.long q1), .second, .val (.long q2), .second, .val (.long (q1 * q2)), .second] [])) _
    refine X3.ldc2Long hx hown (mvT hZ (hw _ (List.mem_of_getElem? (i := 10) rfl))) (g := (mkF m 22 #[.val (.long q1), .second, .val (.long q2), .second, .val (.long (q1 * q2)), .second] [])) rfl (hb hby d1_22) _ ?_
    show Steps p.tables e below (T3.setTop (mkF m 25 #[.val (.long q1), .second, .val (.long q2), .second, .val (.long (q1 * q2)), .second] [(.long (9223372036854775807 : Int64))])) _
    refine XS.goto X3.here hx rfl (pc0 := 25) (pc' := 30) rfl (hb hby d1_25) (by decide) (by decide) ?_
    show Steps p.tables e below (T3.setTop (mkF m 30 #[.val (.long q1), .second, .val (.long q2), .second, .val (.long (q1 * q2)), .second] [(.long (9223372036854775807 : Int64))])) _
    exact own_retL X3 hx Bd.returns (hb hby d1_30) hr
  · show Q1 Z q1 q2 h0 n0 _ T3.heap _
    exact ⟨hv, N3, e3⟩
theorem d1_15 : decode prog_4_method_7_code 15 = .ok (.lload 4, 2) := by decide +kernel
theorem d1_17 : decode prog_4_method_7_code 17 = .ok (.lconst 0, 1) := by decide +kernel
theorem d1_18 : decode prog_4_method_7_code 18 = .ok (.lcmp, 1) := by decide +kernel
theorem d1_19 : decode prog_4_method_7_code 19 = .ok (.ifCond .ge 9, 3) := by decide +kernel
set_option maxRecDepth 65536 in
set_option maxHeartbeats 40000000 in
theorem rm1_ff (l : Launch) (Z : State) (a0 : Array Value) (hw : ∀ d ∈ tables_1, d.before a0 Z = true) (ws : List Jvm.Cond) (q1 : Int64) (q2 : Int64) (h0 : Heap) (n0 : Nat) (Z0 : n0 ≤ h0.size) (hm : (lcmpW (Own391.mh q1 q2) (0 : Int64)) = (0 : Int32)) (hv : some (Value.long (9223372036854775807 : Int64)) = some (Value.long (Own391.tF q1 q2))) (hc19 : (lcmpW (q1 * q2) (0 : Int64)) < (0 : Int32)) :
    MetFree l (⟨"com/example/fieldgrade/fieldgrade/model/Budget", "times", "(JJ)J"⟩ : MethodName) (head1 (Jvm.Cond.code (⟨"com/example/fieldgrade/fieldgrade/model/Budget", "times", "(JJ)J"⟩ : MethodName) prog_4_method_7_code 6 (some .long) :: ws) ({ frames := 1, cells := 0, slots := 0, locals := 31 } : Room)) (fun a U => a = #[(.long q1), (.long q2)] ∧ Z.Warmed39 U.vm ∧ U.heap = h0) (fun _ _ _ _ _ => True) (fun _ U o U' => ∃ v L, o = .returned v ∧ Q1 Z q1 q2 h0 n0 v U'.heap L ∧ FrameEnd U o U' L ({ frames := 1, cells := 0, slots := 0, locals := 31 } : Room).cells ({ frames := 1, cells := 0, slots := 0, locals := 31 } : Room).slots) := by
  refine MetFree.of_bodySF (plainFor_of_name pn_1) hisR ?_
  intro p e s m args below meth c s₁ Bd hml0 hP hK
  obtain ⟨rfl, hZ, hh⟩ := hP
  have hx := Bd.exec
  have hby := Bd.bytes
  have hml : c.maxLocals = 6 := hml0
  have hown : s.vm.findClass "com/example/fieldgrade/fieldgrade/model/Budget" = some m.cls := findClass_of_methodNamed Bd.named
  have hnm := (name_of_methodNamed Bd.named Bd.method).1
  have X0 : Stand p l e ({ frames := 1, cells := 0, slots := 0, locals := 31 } : Room) s m #[(.long q1), (.long q2)] below meth c s₁ [] 0 0 := Stand.of_body Bd
  have e0 : s₁.heap = h0 := by rw [← hh, Bd.state]; rfl
  have N0 := Fr.nil n0
  have pre0 : ∀ t, Steps p.tables e below (s₁.setTop (mkF m 0 #[.val (.long q1), .second, .val (.long q2), .second, .unset, .unset] [])) t → Steps p.tables e below (s₁.setTop (entryFrame m #[(.long q1), (.long q2)] 6)) t := fun t k => castTop (ef_1 m q1 q2) k
  -- 3. LAWS
  -- pc 7: java/lang/Math.multiplyHigh by its contract rm2
  obtain ⟨_, _, ⟨T3, L3, k3, n3⟩, -, X3, ⟨Lc3, hQ3, l3, y3, z3⟩, st3⟩ := Jvm.LawKit.callS X0 hx (y := (⟨"java/lang/Math", "multiplyHigh", "(JJ)J"⟩ : MethodName)) hown (mvT hZ (hw _ (List.mem_of_getElem? (i := 5) rfl))) (mvT hZ (hw _ (List.mem_of_getElem? (i := 6) rfl))) (mvT hZ (hw _ (List.mem_of_getElem? (i := 7) rfl))) (mvT hZ (hw _ (List.mem_of_getElem? (i := 8) rfl))) (by decide) (backOf (W := 0) (rm2 l Z a0 hw [] q1 q2 h0 n0 Z0) hZ (hw _ (List.mem_of_getElem? (i := 8) rfl)) (hw _ (List.mem_of_getElem? (i := 7) rfl)) (by decide) (by decide)) (g := (mkF m 7 #[.val (.long q1), .second, .val (.long q2), .second, .val (.long (q1 * q2)), .second] [(.long q2), (.long q1)])) rfl (by rw [hml]; rfl) (argsL := [(.long q1), (.long q2)]) (rest := []) (lenOf pd_1_0 rfl) rfl (by show 2 * 0 + _ ≤ _; exact Nat.le_of_eq rfl) (hb hby d1_7) (fun _ _ => ⟨rfl, e0, (by decide : 0 + 0 ≤ _), (by decide : 0 + 0 ≤ _)⟩)
  dsimp only [Pt.U, Pt.locs, Pt.cells, Pt.slots] at X3 l3 y3 z3 st3 hQ3
  subst l3 y3 z3
  obtain ⟨rfl, N3q, e3⟩ := hQ3      -- what it returned, that it wrote nothing old, and the rest of your Q2
  have N3 := Fr.app N0 N3q
  obtain ⟨fs, hr, hrun, hended, hW, hsame⟩ := X3.leave (v := some (.long (9223372036854775807 : Int64))) (fun h => by rw [Bd.returns] at h; cases h)
  refine ⟨_, _, pre0 _ ?_, hrun, hended, _, _, rfl, ?_, ⟨_, rfl⟩, hW, hsame.mono (by decide) (by decide)⟩
  -- 4. STEPS
  · show Steps p.tables e below (s₁.setTop (mkF m 0 #[.val (.long q1), .second, .val (.long q2), .second, .unset, .unset] [])) _
    refine XS.lloadN X0.here hx rfl (hb hby d1_0) rfl ?_
    show Steps p.tables e below (s₁.setTop (mkF m 1 #[.val (.long q1), .second, .val (.long q2), .second, .unset, .unset] [(.long q1)])) _
    refine XS.lloadN X0.here hx rfl (hb hby d1_1) rfl ?_
    show Steps p.tables e below (s₁.setTop (mkF m 2 #[.val (.long q1), .second, .val (.long q2), .second, .unset, .unset] [(.long q2), (.long q1)])) _
    refine XS.lmul X0.here hx rfl (hb hby d1_2) rfl ?_
    show Steps p.tables e below (s₁.setTop (mkF m 3 #[.val (.long q1), .second, .val (.long q2), .second, .unset, .unset] [(.long (q1 * q2))])) _
    refine XS.lstore X0.here hx rfl (hb hby d1_3) rfl (l' := #[.val (.long q1), .second, .val (.long q2), .second, .val (.long (q1 * q2)), .second]) rfl ?_
    show Steps p.tables e below (s₁.setTop (mkF m 5 #[.val (.long q1), .second, .val (.long q2), .second, .val (.long (q1 * q2)), .second] [])) _
    refine XS.lloadN X0.here hx rfl (hb hby d1_5) rfl ?_
    show Steps p.tables e below (s₁.setTop (mkF m 6 #[.val (.long q1), .second, .val (.long q2), .second, .val (.long (q1 * q2)), .second] [(.long q1)])) _
    refine XS.lloadN X0.here hx rfl (hb hby d1_6) rfl ?_
    show Steps p.tables e below (s₁.setTop (mkF m 7 #[.val (.long q1), .second, .val (.long q2), .second, .val (.long (q1 * q2)), .second] [(.long q2), (.long q1)])) _
    refine st3 _ ?_
    show Steps p.tables e below (T3.setTop (mkF m 10 #[.val (.long q1), .second, .val (.long q2), .second, .val (.long (q1 * q2)), .second] [(.long (Own391.mh q1 q2))])) _
    refine XS.lconst X3.here hx rfl (hb hby d1_10) ?_
    show Steps p.tables e below (T3.setTop (mkF m 11 #[.val (.long q1), .second, .val (.long q2), .second, .val (.long (q1 * q2)), .second] [(.long (0 : Int64)), (.long (Own391.mh q1 q2))])) _
    refine XS.lcmp X3.here hx rfl (hb hby d1_11) rfl ?_
    show Steps p.tables e below (T3.setTop (mkF m 12 #[.val (.long q1), .second, .val (.long q2), .second, .val (.long (q1 * q2)), .second] [(.int (lcmpW (Own391.mh q1 q2) (0 : Int64)))])) _
    refine XS.ifNo X3.here hx rfl (hb hby d1_12) rfl ((if0 _ _).trans (teq (hm : (lcmpW (Own391.mh q1 q2) (0 : Int64)) = (0 : Int32))).2) ?_
    show Steps p.tables e below (T3.setTop (mkF m 15 #[.val (.long q1), .second, .val (.long q2), .second, .val (.long (q1 * q2)), .second] [])) _
    refine XS.lload X3.here hx rfl (hb hby d1_15) rfl ?_
    show Steps p.tables e below (T3.setTop (mkF m 17 #[.val (.long q1), .second, .val (.long q2), .second, .val (.long (q1 * q2)), .second] [(.long (q1 * q2))])) _
    refine XS.lconst X3.here hx rfl (hb hby d1_17) ?_
    show Steps p.tables e below (T3.setTop (mkF m 18 #[.val (.long q1), .second, .val (.long q2), .second, .val (.long (q1 * q2)), .second] [(.long (0 : Int64)), (.long (q1 * q2))])) _
    refine XS.lcmp X3.here hx rfl (hb hby d1_18) rfl ?_
    show Steps p.tables e below (T3.setTop (mkF m 19 #[.val (.long q1), .second, .val (.long q2), .second, .val (.long (q1 * q2)), .second] [(.int (lcmpW (q1 * q2) (0 : Int64)))])) _
    refine XS.ifNo X3.here hx rfl (hb hby d1_19) rfl ((if0 _ _).trans (tlt hc19).2.1) ?_
    show Steps p.tables e below (T3.setTop (mkF m 22 #[.val (.long q1), .second, .val (.long q2), .second, .val (.long (q1 * q2)), .second] [])) _
    refine X3.ldc2Long hx hown (mvT hZ (hw _ (List.mem_of_getElem? (i := 10) rfl))) (g := (mkF m 22 #[.val (.long q1), .second, .val (.long q2), .second, .val (.long (q1 * q2)), .second] [])) rfl (hb hby d1_22) _ ?_
    show Steps p.tables e below (T3.setTop (mkF m 25 #[.val (.long q1), .second, .val (.long q2), .second, .val (.long (q1 * q2)), .second] [(.long (9223372036854775807 : Int64))])) _
    refine XS.goto X3.here hx rfl (pc0 := 25) (pc' := 30) rfl (hb hby d1_25) (by decide) (by decide) ?_
    show Steps p.tables e below (T3.setTop (mkF m 30 #[.val (.long q1), .second, .val (.long q2), .second, .val (.long (q1 * q2)), .second] [(.long (9223372036854775807 : Int64))])) _
    exact own_retL X3 hx Bd.returns (hb hby d1_30) hr
  · show Q1 Z q1 q2 h0 n0 _ T3.heap _
    exact ⟨hv, N3, e3⟩
theorem d1_28 : decode prog_4_method_7_code 28 = .ok (.lload 4, 2) := by decide +kernel
set_option maxRecDepth 65536 in
set_option maxHeartbeats 40000000 in
theorem rm1_ft (l : Launch) (Z : State) (a0 : Array Value) (hw : ∀ d ∈ tables_1, d.before a0 Z = true) (ws : List Jvm.Cond) (q1 : Int64) (q2 : Int64) (h0 : Heap) (n0 : Nat) (Z0 : n0 ≤ h0.size) (hm : (lcmpW (Own391.mh q1 q2) (0 : Int64)) = (0 : Int32)) (hv : some (Value.long (q1 * q2)) = some (Value.long (Own391.tF q1 q2))) (hc19 : ¬ ((lcmpW (q1 * q2) (0 : Int64)) < (0 : Int32))) :
    MetFree l (⟨"com/example/fieldgrade/fieldgrade/model/Budget", "times", "(JJ)J"⟩ : MethodName) (head1 (Jvm.Cond.code (⟨"com/example/fieldgrade/fieldgrade/model/Budget", "times", "(JJ)J"⟩ : MethodName) prog_4_method_7_code 6 (some .long) :: ws) ({ frames := 1, cells := 0, slots := 0, locals := 31 } : Room)) (fun a U => a = #[(.long q1), (.long q2)] ∧ Z.Warmed39 U.vm ∧ U.heap = h0) (fun _ _ _ _ _ => True) (fun _ U o U' => ∃ v L, o = .returned v ∧ Q1 Z q1 q2 h0 n0 v U'.heap L ∧ FrameEnd U o U' L ({ frames := 1, cells := 0, slots := 0, locals := 31 } : Room).cells ({ frames := 1, cells := 0, slots := 0, locals := 31 } : Room).slots) := by
  refine MetFree.of_bodySF (plainFor_of_name pn_1) hisR ?_
  intro p e s m args below meth c s₁ Bd hml0 hP hK
  obtain ⟨rfl, hZ, hh⟩ := hP
  have hx := Bd.exec
  have hby := Bd.bytes
  have hml : c.maxLocals = 6 := hml0
  have hown : s.vm.findClass "com/example/fieldgrade/fieldgrade/model/Budget" = some m.cls := findClass_of_methodNamed Bd.named
  have hnm := (name_of_methodNamed Bd.named Bd.method).1
  have X0 : Stand p l e ({ frames := 1, cells := 0, slots := 0, locals := 31 } : Room) s m #[(.long q1), (.long q2)] below meth c s₁ [] 0 0 := Stand.of_body Bd
  have e0 : s₁.heap = h0 := by rw [← hh, Bd.state]; rfl
  have N0 := Fr.nil n0
  have pre0 : ∀ t, Steps p.tables e below (s₁.setTop (mkF m 0 #[.val (.long q1), .second, .val (.long q2), .second, .unset, .unset] [])) t → Steps p.tables e below (s₁.setTop (entryFrame m #[(.long q1), (.long q2)] 6)) t := fun t k => castTop (ef_1 m q1 q2) k
  -- 3. LAWS
  -- pc 7: java/lang/Math.multiplyHigh by its contract rm2
  obtain ⟨_, _, ⟨T3, L3, k3, n3⟩, -, X3, ⟨Lc3, hQ3, l3, y3, z3⟩, st3⟩ := Jvm.LawKit.callS X0 hx (y := (⟨"java/lang/Math", "multiplyHigh", "(JJ)J"⟩ : MethodName)) hown (mvT hZ (hw _ (List.mem_of_getElem? (i := 5) rfl))) (mvT hZ (hw _ (List.mem_of_getElem? (i := 6) rfl))) (mvT hZ (hw _ (List.mem_of_getElem? (i := 7) rfl))) (mvT hZ (hw _ (List.mem_of_getElem? (i := 8) rfl))) (by decide) (backOf (W := 0) (rm2 l Z a0 hw [] q1 q2 h0 n0 Z0) hZ (hw _ (List.mem_of_getElem? (i := 8) rfl)) (hw _ (List.mem_of_getElem? (i := 7) rfl)) (by decide) (by decide)) (g := (mkF m 7 #[.val (.long q1), .second, .val (.long q2), .second, .val (.long (q1 * q2)), .second] [(.long q2), (.long q1)])) rfl (by rw [hml]; rfl) (argsL := [(.long q1), (.long q2)]) (rest := []) (lenOf pd_1_0 rfl) rfl (by show 2 * 0 + _ ≤ _; exact Nat.le_of_eq rfl) (hb hby d1_7) (fun _ _ => ⟨rfl, e0, (by decide : 0 + 0 ≤ _), (by decide : 0 + 0 ≤ _)⟩)
  dsimp only [Pt.U, Pt.locs, Pt.cells, Pt.slots] at X3 l3 y3 z3 st3 hQ3
  subst l3 y3 z3
  obtain ⟨rfl, N3q, e3⟩ := hQ3      -- what it returned, that it wrote nothing old, and the rest of your Q2
  have N3 := Fr.app N0 N3q
  obtain ⟨fs, hr, hrun, hended, hW, hsame⟩ := X3.leave (v := some (.long (q1 * q2))) (fun h => by rw [Bd.returns] at h; cases h)
  refine ⟨_, _, pre0 _ ?_, hrun, hended, _, _, rfl, ?_, ⟨_, rfl⟩, hW, hsame.mono (by decide) (by decide)⟩
  -- 4. STEPS
  · show Steps p.tables e below (s₁.setTop (mkF m 0 #[.val (.long q1), .second, .val (.long q2), .second, .unset, .unset] [])) _
    refine XS.lloadN X0.here hx rfl (hb hby d1_0) rfl ?_
    show Steps p.tables e below (s₁.setTop (mkF m 1 #[.val (.long q1), .second, .val (.long q2), .second, .unset, .unset] [(.long q1)])) _
    refine XS.lloadN X0.here hx rfl (hb hby d1_1) rfl ?_
    show Steps p.tables e below (s₁.setTop (mkF m 2 #[.val (.long q1), .second, .val (.long q2), .second, .unset, .unset] [(.long q2), (.long q1)])) _
    refine XS.lmul X0.here hx rfl (hb hby d1_2) rfl ?_
    show Steps p.tables e below (s₁.setTop (mkF m 3 #[.val (.long q1), .second, .val (.long q2), .second, .unset, .unset] [(.long (q1 * q2))])) _
    refine XS.lstore X0.here hx rfl (hb hby d1_3) rfl (l' := #[.val (.long q1), .second, .val (.long q2), .second, .val (.long (q1 * q2)), .second]) rfl ?_
    show Steps p.tables e below (s₁.setTop (mkF m 5 #[.val (.long q1), .second, .val (.long q2), .second, .val (.long (q1 * q2)), .second] [])) _
    refine XS.lloadN X0.here hx rfl (hb hby d1_5) rfl ?_
    show Steps p.tables e below (s₁.setTop (mkF m 6 #[.val (.long q1), .second, .val (.long q2), .second, .val (.long (q1 * q2)), .second] [(.long q1)])) _
    refine XS.lloadN X0.here hx rfl (hb hby d1_6) rfl ?_
    show Steps p.tables e below (s₁.setTop (mkF m 7 #[.val (.long q1), .second, .val (.long q2), .second, .val (.long (q1 * q2)), .second] [(.long q2), (.long q1)])) _
    refine st3 _ ?_
    show Steps p.tables e below (T3.setTop (mkF m 10 #[.val (.long q1), .second, .val (.long q2), .second, .val (.long (q1 * q2)), .second] [(.long (Own391.mh q1 q2))])) _
    refine XS.lconst X3.here hx rfl (hb hby d1_10) ?_
    show Steps p.tables e below (T3.setTop (mkF m 11 #[.val (.long q1), .second, .val (.long q2), .second, .val (.long (q1 * q2)), .second] [(.long (0 : Int64)), (.long (Own391.mh q1 q2))])) _
    refine XS.lcmp X3.here hx rfl (hb hby d1_11) rfl ?_
    show Steps p.tables e below (T3.setTop (mkF m 12 #[.val (.long q1), .second, .val (.long q2), .second, .val (.long (q1 * q2)), .second] [(.int (lcmpW (Own391.mh q1 q2) (0 : Int64)))])) _
    refine XS.ifNo X3.here hx rfl (hb hby d1_12) rfl ((if0 _ _).trans (teq (hm : (lcmpW (Own391.mh q1 q2) (0 : Int64)) = (0 : Int32))).2) ?_
    show Steps p.tables e below (T3.setTop (mkF m 15 #[.val (.long q1), .second, .val (.long q2), .second, .val (.long (q1 * q2)), .second] [])) _
    refine XS.lload X3.here hx rfl (hb hby d1_15) rfl ?_
    show Steps p.tables e below (T3.setTop (mkF m 17 #[.val (.long q1), .second, .val (.long q2), .second, .val (.long (q1 * q2)), .second] [(.long (q1 * q2))])) _
    refine XS.lconst X3.here hx rfl (hb hby d1_17) ?_
    show Steps p.tables e below (T3.setTop (mkF m 18 #[.val (.long q1), .second, .val (.long q2), .second, .val (.long (q1 * q2)), .second] [(.long (0 : Int64)), (.long (q1 * q2))])) _
    refine XS.lcmp X3.here hx rfl (hb hby d1_18) rfl ?_
    show Steps p.tables e below (T3.setTop (mkF m 19 #[.val (.long q1), .second, .val (.long q2), .second, .val (.long (q1 * q2)), .second] [(.int (lcmpW (q1 * q2) (0 : Int64)))])) _
    refine XS.ifYes X3.here hx rfl (pc0 := 19) (pc' := 28) rfl (hb hby d1_19) rfl ((if0 _ _).trans (flt hc19).2.1) (by decide) (by decide) ?_
    show Steps p.tables e below (T3.setTop (mkF m 28 #[.val (.long q1), .second, .val (.long q2), .second, .val (.long (q1 * q2)), .second] [])) _
    refine XS.lload X3.here hx rfl (hb hby d1_28) rfl ?_
    show Steps p.tables e below (T3.setTop (mkF m 30 #[.val (.long q1), .second, .val (.long q2), .second, .val (.long (q1 * q2)), .second] [(.long (q1 * q2))])) _
    exact own_retL X3 hx Bd.returns (hb hby d1_30) hr
  · show Q1 Z q1 q2 h0 n0 _ T3.heap _
    exact ⟨hv, N3, e3⟩
theorem rm1 (l : Launch) (Z : State) (a0 : Array Value) (hw : ∀ d ∈ tables_1, d.before a0 Z = true) (ws : List Jvm.Cond) (q1 : Int64) (q2 : Int64) (h0 : Heap) (n0 : Nat) (Z0 : n0 ≤ h0.size) :
    MetFree l (⟨"com/example/fieldgrade/fieldgrade/model/Budget", "times", "(JJ)J"⟩ : MethodName) (head1 (Jvm.Cond.code (⟨"com/example/fieldgrade/fieldgrade/model/Budget", "times", "(JJ)J"⟩ : MethodName) prog_4_method_7_code 6 (some .long) :: ws) ({ frames := 1, cells := 0, slots := 0, locals := 31 } : Room)) (fun a U => a = #[(.long q1), (.long q2)] ∧ Z.Warmed39 U.vm ∧ U.heap = h0) (fun _ _ _ _ _ => True) (fun _ U o U' => ∃ v L, o = .returned v ∧ Q1 Z q1 q2 h0 n0 v U'.heap L ∧ FrameEnd U o U' L (({ frames := 1, cells := 0, slots := 0, locals := 31 } : Room)).cells (({ frames := 1, cells := 0, slots := 0, locals := 31 } : Room)).slots) := by
  by_cases c1 : Own391.mh q1 q2 = 0
  · by_cases c2 : q1 * q2 < 0
    · exact rm1_ff l Z a0 hw ws q1 q2 h0 n0 Z0 (own_lceq.mpr c1) (by rw [Own391.tF, if_pos c1, if_pos c2]) (own_lclt.mpr c2)
    · exact rm1_ft l Z a0 hw ws q1 q2 h0 n0 Z0 (own_lceq.mpr c1) (by rw [Own391.tF, if_pos c1, if_neg c2]) (fun h => c2 (own_lclt.mp h))
  · exact rm1_t l Z a0 hw ws q1 q2 h0 n0 Z0 (fun h => c1 (own_lceq.mp h)) (by rw [Own391.tF, if_neg c1])
theorem pn_0 : plainName "com/example/fieldgrade/fieldgrade/model/BudgetTimesPinLaw" = true := by first | (simp [plainName, overriddenIn]; done) | decide +kernel
theorem pd_0_0 : parseMethodDescriptor "(JJ)J" = some ⟨[.long, .long], some .long⟩ := by decide +kernel
theorem ef_0 (m : MethodId) (x0 : Int64) (x1 : Int64) (x2 : Int32) (x3 : Int32) : entryFrame m #[(.long x0), (.long x1), (.int x2), (.int x3)] maxLocals = mkF m 0 #[.val (.long x0), .second, .val (.long x1), .second, .val (.int x2), .val (.int x3), .unset, .unset, .unset, .unset, .unset, .unset] [] := by first | (simp [entryFrame, mkF, argsToLocals, Value.category, maxLocals]; done) | rfl
def Q0 (Z : State) (q1 : Int64) (q2 : Int64) (p3 : Int32) (p4 : Int32) (h0 : Heap) (n0 : Nat) (v : Option Value) (h : Heap) (L : List Loc) : Prop := v = some (.int (1 : Int32)) ∧ Fr n0 L
set_option maxRecDepth 65536 in
set_option maxHeartbeats 40000000 in
theorem rm0_tf (l : Launch) (Z : State) (a0 : Array Value) (hw : ∀ d ∈ tables_1, d.before a0 Z = true) (ws : List Jvm.Cond) (q1 : Int64) (q2 : Int64) (p3 : Int32) (p4 : Int32) (h0 : Heap) (n0 : Nat) (Z0 : n0 ≤ h0.size) (hfin : (lcmpW (Own391.tF (((q1 &&& (9223372036854775807 : Int64)).toUInt64 >>> ((p3 &&& (63 : Int32)) &&& 0x3f).toInt64.toUInt64).toInt64) (((q2 &&& (9223372036854775807 : Int64)).toUInt64 >>> ((p4 &&& (63 : Int32)) &&& 0x3f).toInt64.toUInt64).toInt64)) (0 : Int64)) = (0 : Int32)) (hc30 : (lcmpW (((q1 &&& (9223372036854775807 : Int64)).toUInt64 >>> ((p3 &&& (63 : Int32)) &&& 0x3f).toInt64.toUInt64).toInt64) (0 : Int64)) = (0 : Int32)) :
    MetFree l x (head1 (Jvm.Cond.code x code maxLocals ret :: ws) room_1) (fun a U => a = #[(.long q1), (.long q2), (.int p3), (.int p4)] ∧ Z.Warmed39 U.vm ∧ U.heap = h0) (fun _ _ _ _ _ => True) (fun _ U o U' => ∃ v L, o = .returned v ∧ Q0 Z q1 q2 p3 p4 h0 n0 v U'.heap L ∧ FrameEnd U o U' L room_1.cells room_1.slots) := by
  refine MetFree.of_bodySF (plainFor_of_name pn_0) hisR ?_
  intro p e s m args below meth c s₁ Bd hml0 hP hK
  obtain ⟨rfl, hZ, hh⟩ := hP
  have hx := Bd.exec
  have hby := Bd.bytes
  have hml : c.maxLocals = 12 := hml0
  have hown : s.vm.findClass "com/example/fieldgrade/fieldgrade/model/BudgetTimesPinLaw" = some m.cls := findClass_of_methodNamed Bd.named
  have hnm := (name_of_methodNamed Bd.named Bd.method).1
  have X0 : Stand p l e room_1 s m #[(.long q1), (.long q2), (.int p3), (.int p4)] below meth c s₁ [] 0 0 := Stand.of_body Bd
  have e0 : s₁.heap = h0 := by rw [← hh, Bd.state]; rfl
  have N0 := Fr.nil n0
  have pre0 : ∀ t, Steps p.tables e below (s₁.setTop (mkF m 0 #[.val (.long q1), .second, .val (.long q2), .second, .val (.int p3), .val (.int p4), .unset, .unset, .unset, .unset, .unset, .unset] [])) t → Steps p.tables e below (s₁.setTop (entryFrame m #[(.long q1), (.long q2), (.int p3), (.int p4)] maxLocals)) t := fun t k => castTop (ef_0 m q1 q2 p3 p4) k
  -- 3. LAWS
  -- pc 77: com/example/fieldgrade/fieldgrade/model/Budget.times by its contract rm1
  obtain ⟨_, _, ⟨T5, L5, k5, n5⟩, -, X5, ⟨Lc5, hQ5, l5, y5, z5⟩, st5⟩ := Jvm.LawKit.callS X0 hx (y := (⟨"com/example/fieldgrade/fieldgrade/model/Budget", "times", "(JJ)J"⟩ : MethodName)) hown (mvT hZ (hw _ (List.mem_of_getElem? (i := 1) rfl))) (mvT hZ (hw _ (List.mem_of_getElem? (i := 2) rfl))) (mvT hZ (hw _ (List.mem_of_getElem? (i := 3) rfl))) (mvT hZ (hw _ (List.mem_of_getElem? (i := 4) rfl))) (by decide) (backOf (W := 0) (rm1 l Z a0 hw [] (((q1 &&& (9223372036854775807 : Int64)).toUInt64 >>> ((p3 &&& (63 : Int32)) &&& 0x3f).toInt64.toUInt64).toInt64) (((q2 &&& (9223372036854775807 : Int64)).toUInt64 >>> ((p4 &&& (63 : Int32)) &&& 0x3f).toInt64.toUInt64).toInt64) h0 n0 Z0) hZ (hw _ (List.mem_of_getElem? (i := 4) rfl)) (hw _ (List.mem_of_getElem? (i := 3) rfl)) (by decide) (by decide)) (g := (mkF m 77 #[.val (.long q1), .second, .val (.long q2), .second, .val (.int p3), .val (.int p4), .val (.long (((q1 &&& (9223372036854775807 : Int64)).toUInt64 >>> ((p3 &&& (63 : Int32)) &&& 0x3f).toInt64.toUInt64).toInt64)), .second, .val (.long (((q2 &&& (9223372036854775807 : Int64)).toUInt64 >>> ((p4 &&& (63 : Int32)) &&& 0x3f).toInt64.toUInt64).toInt64)), .second, .val (.long (0 : Int64)), .second] [(.long (((q2 &&& (9223372036854775807 : Int64)).toUInt64 >>> ((p4 &&& (63 : Int32)) &&& 0x3f).toInt64.toUInt64).toInt64)), (.long (((q1 &&& (9223372036854775807 : Int64)).toUInt64 >>> ((p3 &&& (63 : Int32)) &&& 0x3f).toInt64.toUInt64).toInt64))])) rfl (by rw [hml]; rfl) (argsL := [(.long (((q1 &&& (9223372036854775807 : Int64)).toUInt64 >>> ((p3 &&& (63 : Int32)) &&& 0x3f).toInt64.toUInt64).toInt64)), (.long (((q2 &&& (9223372036854775807 : Int64)).toUInt64 >>> ((p4 &&& (63 : Int32)) &&& 0x3f).toInt64.toUInt64).toInt64))]) (rest := []) (lenOf pd_0_0 rfl) rfl (by show 2 * 0 + _ ≤ _; exact Nat.le_of_eq rfl) (hb hby at_77) (fun _ _ => ⟨rfl, e0, (by decide : 0 + 0 ≤ _), (by decide : 0 + 0 ≤ _)⟩)
  dsimp only [Pt.U, Pt.locs, Pt.cells, Pt.slots] at X5 l5 y5 z5 st5 hQ5
  subst l5 y5 z5
  obtain ⟨rfl, N5q, e5⟩ := hQ5      -- what it returned, that it wrote nothing old, and the rest of your Q1
  have N5 := Fr.app N0 N5q
  obtain ⟨fs, hr, hrun, hended, hW, hsame⟩ := X5.leave (v := some (.int (1 : Int32))) (fun h => by rw [Bd.returns] at h; cases h)
  refine ⟨_, _, pre0 _ ?_, hrun, hended, _, _, rfl, ?_, ⟨_, rfl⟩, hW, hsame.mono (by decide) (by decide)⟩
  -- 4. STEPS
  · show Steps p.tables e below (s₁.setTop (mkF m 0 #[.val (.long q1), .second, .val (.long q2), .second, .val (.int p3), .val (.int p4), .unset, .unset, .unset, .unset, .unset, .unset] [])) _
    refine XS.lloadN X0.here hx rfl (hb hby at_0) rfl ?_
    show Steps p.tables e below (s₁.setTop (mkF m 1 #[.val (.long q1), .second, .val (.long q2), .second, .val (.int p3), .val (.int p4), .unset, .unset, .unset, .unset, .unset, .unset] [(.long q1)])) _
    refine X0.ldc2Long hx hown (mvT hZ (hw _ (List.mem_of_getElem? (i := 0) rfl))) (g := (mkF m 1 #[.val (.long q1), .second, .val (.long q2), .second, .val (.int p3), .val (.int p4), .unset, .unset, .unset, .unset, .unset, .unset] [(.long q1)])) rfl (hb hby at_1) _ ?_
    show Steps p.tables e below (s₁.setTop (mkF m 4 #[.val (.long q1), .second, .val (.long q2), .second, .val (.int p3), .val (.int p4), .unset, .unset, .unset, .unset, .unset, .unset] [(.long (9223372036854775807 : Int64)), (.long q1)])) _
    refine XS.land X0.here hx rfl (hb hby at_4) rfl ?_
    show Steps p.tables e below (s₁.setTop (mkF m 5 #[.val (.long q1), .second, .val (.long q2), .second, .val (.int p3), .val (.int p4), .unset, .unset, .unset, .unset, .unset, .unset] [(.long (q1 &&& (9223372036854775807 : Int64)))])) _
    refine XS.iload X0.here hx rfl (hb hby at_5) rfl ?_
    show Steps p.tables e below (s₁.setTop (mkF m 7 #[.val (.long q1), .second, .val (.long q2), .second, .val (.int p3), .val (.int p4), .unset, .unset, .unset, .unset, .unset, .unset] [(.int p3), (.long (q1 &&& (9223372036854775807 : Int64)))])) _
    refine XS.bipush X0.here hx rfl (hb hby at_7) ?_
    show Steps p.tables e below (s₁.setTop (mkF m 9 #[.val (.long q1), .second, .val (.long q2), .second, .val (.int p3), .val (.int p4), .unset, .unset, .unset, .unset, .unset, .unset] [(.int (63 : Int32)), (.int p3), (.long (q1 &&& (9223372036854775807 : Int64)))])) _
    refine XS.iand X0.here hx rfl (hb hby at_9) rfl ?_
    show Steps p.tables e below (s₁.setTop (mkF m 10 #[.val (.long q1), .second, .val (.long q2), .second, .val (.int p3), .val (.int p4), .unset, .unset, .unset, .unset, .unset, .unset] [(.int (p3 &&& (63 : Int32))), (.long (q1 &&& (9223372036854775807 : Int64)))])) _
    refine XS.lushr X0.here hx rfl (hb hby at_10) rfl ?_
    show Steps p.tables e below (s₁.setTop (mkF m 11 #[.val (.long q1), .second, .val (.long q2), .second, .val (.int p3), .val (.int p4), .unset, .unset, .unset, .unset, .unset, .unset] [(.long (((q1 &&& (9223372036854775807 : Int64)).toUInt64 >>> ((p3 &&& (63 : Int32)) &&& 0x3f).toInt64.toUInt64).toInt64))])) _
    refine XS.lstore X0.here hx rfl (hb hby at_11) rfl (l' := #[.val (.long q1), .second, .val (.long q2), .second, .val (.int p3), .val (.int p4), .val (.long (((q1 &&& (9223372036854775807 : Int64)).toUInt64 >>> ((p3 &&& (63 : Int32)) &&& 0x3f).toInt64.toUInt64).toInt64)), .second, .unset, .unset, .unset, .unset]) rfl ?_
    show Steps p.tables e below (s₁.setTop (mkF m 13 #[.val (.long q1), .second, .val (.long q2), .second, .val (.int p3), .val (.int p4), .val (.long (((q1 &&& (9223372036854775807 : Int64)).toUInt64 >>> ((p3 &&& (63 : Int32)) &&& 0x3f).toInt64.toUInt64).toInt64)), .second, .unset, .unset, .unset, .unset] [])) _
    refine XS.lloadN X0.here hx rfl (hb hby at_13) rfl ?_
    show Steps p.tables e below (s₁.setTop (mkF m 14 #[.val (.long q1), .second, .val (.long q2), .second, .val (.int p3), .val (.int p4), .val (.long (((q1 &&& (9223372036854775807 : Int64)).toUInt64 >>> ((p3 &&& (63 : Int32)) &&& 0x3f).toInt64.toUInt64).toInt64)), .second, .unset, .unset, .unset, .unset] [(.long q2)])) _
    refine X0.ldc2Long hx hown (mvT hZ (hw _ (List.mem_of_getElem? (i := 0) rfl))) (g := (mkF m 14 #[.val (.long q1), .second, .val (.long q2), .second, .val (.int p3), .val (.int p4), .val (.long (((q1 &&& (9223372036854775807 : Int64)).toUInt64 >>> ((p3 &&& (63 : Int32)) &&& 0x3f).toInt64.toUInt64).toInt64)), .second, .unset, .unset, .unset, .unset] [(.long q2)])) rfl (hb hby at_14) _ ?_
    show Steps p.tables e below (s₁.setTop (mkF m 17 #[.val (.long q1), .second, .val (.long q2), .second, .val (.int p3), .val (.int p4), .val (.long (((q1 &&& (9223372036854775807 : Int64)).toUInt64 >>> ((p3 &&& (63 : Int32)) &&& 0x3f).toInt64.toUInt64).toInt64)), .second, .unset, .unset, .unset, .unset] [(.long (9223372036854775807 : Int64)), (.long q2)])) _
    refine XS.land X0.here hx rfl (hb hby at_17) rfl ?_
    show Steps p.tables e below (s₁.setTop (mkF m 18 #[.val (.long q1), .second, .val (.long q2), .second, .val (.int p3), .val (.int p4), .val (.long (((q1 &&& (9223372036854775807 : Int64)).toUInt64 >>> ((p3 &&& (63 : Int32)) &&& 0x3f).toInt64.toUInt64).toInt64)), .second, .unset, .unset, .unset, .unset] [(.long (q2 &&& (9223372036854775807 : Int64)))])) _
    refine XS.iload X0.here hx rfl (hb hby at_18) rfl ?_
    show Steps p.tables e below (s₁.setTop (mkF m 20 #[.val (.long q1), .second, .val (.long q2), .second, .val (.int p3), .val (.int p4), .val (.long (((q1 &&& (9223372036854775807 : Int64)).toUInt64 >>> ((p3 &&& (63 : Int32)) &&& 0x3f).toInt64.toUInt64).toInt64)), .second, .unset, .unset, .unset, .unset] [(.int p4), (.long (q2 &&& (9223372036854775807 : Int64)))])) _
    refine XS.bipush X0.here hx rfl (hb hby at_20) ?_
    show Steps p.tables e below (s₁.setTop (mkF m 22 #[.val (.long q1), .second, .val (.long q2), .second, .val (.int p3), .val (.int p4), .val (.long (((q1 &&& (9223372036854775807 : Int64)).toUInt64 >>> ((p3 &&& (63 : Int32)) &&& 0x3f).toInt64.toUInt64).toInt64)), .second, .unset, .unset, .unset, .unset] [(.int (63 : Int32)), (.int p4), (.long (q2 &&& (9223372036854775807 : Int64)))])) _
    refine XS.iand X0.here hx rfl (hb hby at_22) rfl ?_
    show Steps p.tables e below (s₁.setTop (mkF m 23 #[.val (.long q1), .second, .val (.long q2), .second, .val (.int p3), .val (.int p4), .val (.long (((q1 &&& (9223372036854775807 : Int64)).toUInt64 >>> ((p3 &&& (63 : Int32)) &&& 0x3f).toInt64.toUInt64).toInt64)), .second, .unset, .unset, .unset, .unset] [(.int (p4 &&& (63 : Int32))), (.long (q2 &&& (9223372036854775807 : Int64)))])) _
    refine XS.lushr X0.here hx rfl (hb hby at_23) rfl ?_
    show Steps p.tables e below (s₁.setTop (mkF m 24 #[.val (.long q1), .second, .val (.long q2), .second, .val (.int p3), .val (.int p4), .val (.long (((q1 &&& (9223372036854775807 : Int64)).toUInt64 >>> ((p3 &&& (63 : Int32)) &&& 0x3f).toInt64.toUInt64).toInt64)), .second, .unset, .unset, .unset, .unset] [(.long (((q2 &&& (9223372036854775807 : Int64)).toUInt64 >>> ((p4 &&& (63 : Int32)) &&& 0x3f).toInt64.toUInt64).toInt64))])) _
    refine XS.lstore X0.here hx rfl (hb hby at_24) rfl (l' := #[.val (.long q1), .second, .val (.long q2), .second, .val (.int p3), .val (.int p4), .val (.long (((q1 &&& (9223372036854775807 : Int64)).toUInt64 >>> ((p3 &&& (63 : Int32)) &&& 0x3f).toInt64.toUInt64).toInt64)), .second, .val (.long (((q2 &&& (9223372036854775807 : Int64)).toUInt64 >>> ((p4 &&& (63 : Int32)) &&& 0x3f).toInt64.toUInt64).toInt64)), .second, .unset, .unset]) rfl ?_
    show Steps p.tables e below (s₁.setTop (mkF m 26 #[.val (.long q1), .second, .val (.long q2), .second, .val (.int p3), .val (.int p4), .val (.long (((q1 &&& (9223372036854775807 : Int64)).toUInt64 >>> ((p3 &&& (63 : Int32)) &&& 0x3f).toInt64.toUInt64).toInt64)), .second, .val (.long (((q2 &&& (9223372036854775807 : Int64)).toUInt64 >>> ((p4 &&& (63 : Int32)) &&& 0x3f).toInt64.toUInt64).toInt64)), .second, .unset, .unset] [])) _
    refine XS.lload X0.here hx rfl (hb hby at_26) rfl ?_
    show Steps p.tables e below (s₁.setTop (mkF m 28 #[.val (.long q1), .second, .val (.long q2), .second, .val (.int p3), .val (.int p4), .val (.long (((q1 &&& (9223372036854775807 : Int64)).toUInt64 >>> ((p3 &&& (63 : Int32)) &&& 0x3f).toInt64.toUInt64).toInt64)), .second, .val (.long (((q2 &&& (9223372036854775807 : Int64)).toUInt64 >>> ((p4 &&& (63 : Int32)) &&& 0x3f).toInt64.toUInt64).toInt64)), .second, .unset, .unset] [(.long (((q1 &&& (9223372036854775807 : Int64)).toUInt64 >>> ((p3 &&& (63 : Int32)) &&& 0x3f).toInt64.toUInt64).toInt64))])) _
    refine XS.lconst X0.here hx rfl (hb hby at_28) ?_
    show Steps p.tables e below (s₁.setTop (mkF m 29 #[.val (.long q1), .second, .val (.long q2), .second, .val (.int p3), .val (.int p4), .val (.long (((q1 &&& (9223372036854775807 : Int64)).toUInt64 >>> ((p3 &&& (63 : Int32)) &&& 0x3f).toInt64.toUInt64).toInt64)), .second, .val (.long (((q2 &&& (9223372036854775807 : Int64)).toUInt64 >>> ((p4 &&& (63 : Int32)) &&& 0x3f).toInt64.toUInt64).toInt64)), .second, .unset, .unset] [(.long (0 : Int64)), (.long (((q1 &&& (9223372036854775807 : Int64)).toUInt64 >>> ((p3 &&& (63 : Int32)) &&& 0x3f).toInt64.toUInt64).toInt64))])) _
    refine XS.lcmp X0.here hx rfl (hb hby at_29) rfl ?_
    show Steps p.tables e below (s₁.setTop (mkF m 30 #[.val (.long q1), .second, .val (.long q2), .second, .val (.int p3), .val (.int p4), .val (.long (((q1 &&& (9223372036854775807 : Int64)).toUInt64 >>> ((p3 &&& (63 : Int32)) &&& 0x3f).toInt64.toUInt64).toInt64)), .second, .val (.long (((q2 &&& (9223372036854775807 : Int64)).toUInt64 >>> ((p4 &&& (63 : Int32)) &&& 0x3f).toInt64.toUInt64).toInt64)), .second, .unset, .unset] [(.int (lcmpW (((q1 &&& (9223372036854775807 : Int64)).toUInt64 >>> ((p3 &&& (63 : Int32)) &&& 0x3f).toInt64.toUInt64).toInt64) (0 : Int64)))])) _
    refine XS.ifYes X0.here hx rfl (pc0 := 30) (pc' := 40) rfl (hb hby at_30) rfl ((if0 _ _).trans (teq hc30).1) (by decide) (by decide) ?_
    show Steps p.tables e below (s₁.setTop (mkF m 40 #[.val (.long q1), .second, .val (.long q2), .second, .val (.int p3), .val (.int p4), .val (.long (((q1 &&& (9223372036854775807 : Int64)).toUInt64 >>> ((p3 &&& (63 : Int32)) &&& 0x3f).toInt64.toUInt64).toInt64)), .second, .val (.long (((q2 &&& (9223372036854775807 : Int64)).toUInt64 >>> ((p4 &&& (63 : Int32)) &&& 0x3f).toInt64.toUInt64).toInt64)), .second, .unset, .unset] [])) _
    refine XS.lconst X0.here hx rfl (hb hby at_40) ?_
    show Steps p.tables e below (s₁.setTop (mkF m 41 #[.val (.long q1), .second, .val (.long q2), .second, .val (.int p3), .val (.int p4), .val (.long (((q1 &&& (9223372036854775807 : Int64)).toUInt64 >>> ((p3 &&& (63 : Int32)) &&& 0x3f).toInt64.toUInt64).toInt64)), .second, .val (.long (((q2 &&& (9223372036854775807 : Int64)).toUInt64 >>> ((p4 &&& (63 : Int32)) &&& 0x3f).toInt64.toUInt64).toInt64)), .second, .unset, .unset] [(.long (0 : Int64))])) _
    refine XS.lstore X0.here hx rfl (hb hby at_41) rfl (l' := #[.val (.long q1), .second, .val (.long q2), .second, .val (.int p3), .val (.int p4), .val (.long (((q1 &&& (9223372036854775807 : Int64)).toUInt64 >>> ((p3 &&& (63 : Int32)) &&& 0x3f).toInt64.toUInt64).toInt64)), .second, .val (.long (((q2 &&& (9223372036854775807 : Int64)).toUInt64 >>> ((p4 &&& (63 : Int32)) &&& 0x3f).toInt64.toUInt64).toInt64)), .second, .val (.long (0 : Int64)), .second]) rfl ?_
    show Steps p.tables e below (s₁.setTop (mkF m 43 #[.val (.long q1), .second, .val (.long q2), .second, .val (.int p3), .val (.int p4), .val (.long (((q1 &&& (9223372036854775807 : Int64)).toUInt64 >>> ((p3 &&& (63 : Int32)) &&& 0x3f).toInt64.toUInt64).toInt64)), .second, .val (.long (((q2 &&& (9223372036854775807 : Int64)).toUInt64 >>> ((p4 &&& (63 : Int32)) &&& 0x3f).toInt64.toUInt64).toInt64)), .second, .val (.long (0 : Int64)), .second] [])) _
    refine XS.goto X0.here hx rfl (pc0 := 43) (pc' := 73) rfl (hb hby at_43) (by decide) (by decide) ?_
    show Steps p.tables e below (s₁.setTop (mkF m 73 #[.val (.long q1), .second, .val (.long q2), .second, .val (.int p3), .val (.int p4), .val (.long (((q1 &&& (9223372036854775807 : Int64)).toUInt64 >>> ((p3 &&& (63 : Int32)) &&& 0x3f).toInt64.toUInt64).toInt64)), .second, .val (.long (((q2 &&& (9223372036854775807 : Int64)).toUInt64 >>> ((p4 &&& (63 : Int32)) &&& 0x3f).toInt64.toUInt64).toInt64)), .second, .val (.long (0 : Int64)), .second] [])) _
    refine XS.lload X0.here hx rfl (hb hby at_73) rfl ?_
    show Steps p.tables e below (s₁.setTop (mkF m 75 #[.val (.long q1), .second, .val (.long q2), .second, .val (.int p3), .val (.int p4), .val (.long (((q1 &&& (9223372036854775807 : Int64)).toUInt64 >>> ((p3 &&& (63 : Int32)) &&& 0x3f).toInt64.toUInt64).toInt64)), .second, .val (.long (((q2 &&& (9223372036854775807 : Int64)).toUInt64 >>> ((p4 &&& (63 : Int32)) &&& 0x3f).toInt64.toUInt64).toInt64)), .second, .val (.long (0 : Int64)), .second] [(.long (((q1 &&& (9223372036854775807 : Int64)).toUInt64 >>> ((p3 &&& (63 : Int32)) &&& 0x3f).toInt64.toUInt64).toInt64))])) _
    refine XS.lload X0.here hx rfl (hb hby at_75) rfl ?_
    show Steps p.tables e below (s₁.setTop (mkF m 77 #[.val (.long q1), .second, .val (.long q2), .second, .val (.int p3), .val (.int p4), .val (.long (((q1 &&& (9223372036854775807 : Int64)).toUInt64 >>> ((p3 &&& (63 : Int32)) &&& 0x3f).toInt64.toUInt64).toInt64)), .second, .val (.long (((q2 &&& (9223372036854775807 : Int64)).toUInt64 >>> ((p4 &&& (63 : Int32)) &&& 0x3f).toInt64.toUInt64).toInt64)), .second, .val (.long (0 : Int64)), .second] [(.long (((q2 &&& (9223372036854775807 : Int64)).toUInt64 >>> ((p4 &&& (63 : Int32)) &&& 0x3f).toInt64.toUInt64).toInt64)), (.long (((q1 &&& (9223372036854775807 : Int64)).toUInt64 >>> ((p3 &&& (63 : Int32)) &&& 0x3f).toInt64.toUInt64).toInt64))])) _
    refine st5 _ ?_
    show Steps p.tables e below (T5.setTop (mkF m 80 #[.val (.long q1), .second, .val (.long q2), .second, .val (.int p3), .val (.int p4), .val (.long (((q1 &&& (9223372036854775807 : Int64)).toUInt64 >>> ((p3 &&& (63 : Int32)) &&& 0x3f).toInt64.toUInt64).toInt64)), .second, .val (.long (((q2 &&& (9223372036854775807 : Int64)).toUInt64 >>> ((p4 &&& (63 : Int32)) &&& 0x3f).toInt64.toUInt64).toInt64)), .second, .val (.long (0 : Int64)), .second] [(.long (Own391.tF (((q1 &&& (9223372036854775807 : Int64)).toUInt64 >>> ((p3 &&& (63 : Int32)) &&& 0x3f).toInt64.toUInt64).toInt64) (((q2 &&& (9223372036854775807 : Int64)).toUInt64 >>> ((p4 &&& (63 : Int32)) &&& 0x3f).toInt64.toUInt64).toInt64)))])) _
    refine XS.lload X5.here hx rfl (hb hby at_80) rfl ?_
    show Steps p.tables e below (T5.setTop (mkF m 82 #[.val (.long q1), .second, .val (.long q2), .second, .val (.int p3), .val (.int p4), .val (.long (((q1 &&& (9223372036854775807 : Int64)).toUInt64 >>> ((p3 &&& (63 : Int32)) &&& 0x3f).toInt64.toUInt64).toInt64)), .second, .val (.long (((q2 &&& (9223372036854775807 : Int64)).toUInt64 >>> ((p4 &&& (63 : Int32)) &&& 0x3f).toInt64.toUInt64).toInt64)), .second, .val (.long (0 : Int64)), .second] [(.long (0 : Int64)), (.long (Own391.tF (((q1 &&& (9223372036854775807 : Int64)).toUInt64 >>> ((p3 &&& (63 : Int32)) &&& 0x3f).toInt64.toUInt64).toInt64) (((q2 &&& (9223372036854775807 : Int64)).toUInt64 >>> ((p4 &&& (63 : Int32)) &&& 0x3f).toInt64.toUInt64).toInt64)))])) _
    refine XS.lcmp X5.here hx rfl (hb hby at_82) rfl ?_
    show Steps p.tables e below (T5.setTop (mkF m 83 #[.val (.long q1), .second, .val (.long q2), .second, .val (.int p3), .val (.int p4), .val (.long (((q1 &&& (9223372036854775807 : Int64)).toUInt64 >>> ((p3 &&& (63 : Int32)) &&& 0x3f).toInt64.toUInt64).toInt64)), .second, .val (.long (((q2 &&& (9223372036854775807 : Int64)).toUInt64 >>> ((p4 &&& (63 : Int32)) &&& 0x3f).toInt64.toUInt64).toInt64)), .second, .val (.long (0 : Int64)), .second] [(.int (lcmpW (Own391.tF (((q1 &&& (9223372036854775807 : Int64)).toUInt64 >>> ((p3 &&& (63 : Int32)) &&& 0x3f).toInt64.toUInt64).toInt64) (((q2 &&& (9223372036854775807 : Int64)).toUInt64 >>> ((p4 &&& (63 : Int32)) &&& 0x3f).toInt64.toUInt64).toInt64)) (0 : Int64)))])) _
    refine XS.ifNo X5.here hx rfl (hb hby at_83) rfl ((if0 _ _).trans (teq (hfin : (lcmpW (Own391.tF (((q1 &&& (9223372036854775807 : Int64)).toUInt64 >>> ((p3 &&& (63 : Int32)) &&& 0x3f).toInt64.toUInt64).toInt64) (((q2 &&& (9223372036854775807 : Int64)).toUInt64 >>> ((p4 &&& (63 : Int32)) &&& 0x3f).toInt64.toUInt64).toInt64)) (0 : Int64)) = (0 : Int32))).2) ?_
    show Steps p.tables e below (T5.setTop (mkF m 86 #[.val (.long q1), .second, .val (.long q2), .second, .val (.int p3), .val (.int p4), .val (.long (((q1 &&& (9223372036854775807 : Int64)).toUInt64 >>> ((p3 &&& (63 : Int32)) &&& 0x3f).toInt64.toUInt64).toInt64)), .second, .val (.long (((q2 &&& (9223372036854775807 : Int64)).toUInt64 >>> ((p4 &&& (63 : Int32)) &&& 0x3f).toInt64.toUInt64).toInt64)), .second, .val (.long (0 : Int64)), .second] [])) _
    refine XS.iconst X5.here hx rfl (hb hby at_86) ?_
    show Steps p.tables e below (T5.setTop (mkF m 87 #[.val (.long q1), .second, .val (.long q2), .second, .val (.int p3), .val (.int p4), .val (.long (((q1 &&& (9223372036854775807 : Int64)).toUInt64 >>> ((p3 &&& (63 : Int32)) &&& 0x3f).toInt64.toUInt64).toInt64)), .second, .val (.long (((q2 &&& (9223372036854775807 : Int64)).toUInt64 >>> ((p4 &&& (63 : Int32)) &&& 0x3f).toInt64.toUInt64).toInt64)), .second, .val (.long (0 : Int64)), .second] [(.int (1 : Int32))])) _
    refine XS.goto X5.here hx rfl (pc0 := 87) (pc' := 91) rfl (hb hby at_87) (by decide) (by decide) ?_
    show Steps p.tables e below (T5.setTop (mkF m 91 #[.val (.long q1), .second, .val (.long q2), .second, .val (.int p3), .val (.int p4), .val (.long (((q1 &&& (9223372036854775807 : Int64)).toUInt64 >>> ((p3 &&& (63 : Int32)) &&& 0x3f).toInt64.toUInt64).toInt64)), .second, .val (.long (((q2 &&& (9223372036854775807 : Int64)).toUInt64 >>> ((p4 &&& (63 : Int32)) &&& 0x3f).toInt64.toUInt64).toInt64)), .second, .val (.long (0 : Int64)), .second] [(.int (1 : Int32))])) _
    exact retN X5 hx (t := .boolean) Bd.returns (by simp) (hb hby at_91) hr
  · show Q0 Z q1 q2 p3 p4 h0 n0 _ T5.heap _
    exact ⟨rfl, N5⟩
set_option maxRecDepth 65536 in
set_option maxHeartbeats 40000000 in
theorem rm0_fff (l : Launch) (Z : State) (a0 : Array Value) (hw : ∀ d ∈ tables_1, d.before a0 Z = true) (ws : List Jvm.Cond) (q1 : Int64) (q2 : Int64) (p3 : Int32) (p4 : Int32) (h0 : Heap) (n0 : Nat) (Z0 : n0 ≤ h0.size) (hfin : (lcmpW (Own391.tF (((q1 &&& (9223372036854775807 : Int64)).toUInt64 >>> ((p3 &&& (63 : Int32)) &&& 0x3f).toInt64.toUInt64).toInt64) (((q2 &&& (9223372036854775807 : Int64)).toUInt64 >>> ((p4 &&& (63 : Int32)) &&& 0x3f).toInt64.toUInt64).toInt64)) (0 : Int64)) = (0 : Int32)) (hc30 : ¬ ((lcmpW (((q1 &&& (9223372036854775807 : Int64)).toUInt64 >>> ((p3 &&& (63 : Int32)) &&& 0x3f).toInt64.toUInt64).toInt64) (0 : Int64)) = (0 : Int32))) (hc37 : (lcmpW (((q2 &&& (9223372036854775807 : Int64)).toUInt64 >>> ((p4 &&& (63 : Int32)) &&& 0x3f).toInt64.toUInt64).toInt64) (0 : Int64)) = (0 : Int32)) :
    MetFree l x (head1 (Jvm.Cond.code x code maxLocals ret :: ws) room_1) (fun a U => a = #[(.long q1), (.long q2), (.int p3), (.int p4)] ∧ Z.Warmed39 U.vm ∧ U.heap = h0) (fun _ _ _ _ _ => True) (fun _ U o U' => ∃ v L, o = .returned v ∧ Q0 Z q1 q2 p3 p4 h0 n0 v U'.heap L ∧ FrameEnd U o U' L room_1.cells room_1.slots) := by
  refine MetFree.of_bodySF (plainFor_of_name pn_0) hisR ?_
  intro p e s m args below meth c s₁ Bd hml0 hP hK
  obtain ⟨rfl, hZ, hh⟩ := hP
  have hx := Bd.exec
  have hby := Bd.bytes
  have hml : c.maxLocals = 12 := hml0
  have hown : s.vm.findClass "com/example/fieldgrade/fieldgrade/model/BudgetTimesPinLaw" = some m.cls := findClass_of_methodNamed Bd.named
  have hnm := (name_of_methodNamed Bd.named Bd.method).1
  have X0 : Stand p l e room_1 s m #[(.long q1), (.long q2), (.int p3), (.int p4)] below meth c s₁ [] 0 0 := Stand.of_body Bd
  have e0 : s₁.heap = h0 := by rw [← hh, Bd.state]; rfl
  have N0 := Fr.nil n0
  have pre0 : ∀ t, Steps p.tables e below (s₁.setTop (mkF m 0 #[.val (.long q1), .second, .val (.long q2), .second, .val (.int p3), .val (.int p4), .unset, .unset, .unset, .unset, .unset, .unset] [])) t → Steps p.tables e below (s₁.setTop (entryFrame m #[(.long q1), (.long q2), (.int p3), (.int p4)] maxLocals)) t := fun t k => castTop (ef_0 m q1 q2 p3 p4) k
  -- 3. LAWS
  -- pc 77: com/example/fieldgrade/fieldgrade/model/Budget.times by its contract rm1
  obtain ⟨_, _, ⟨T5, L5, k5, n5⟩, -, X5, ⟨Lc5, hQ5, l5, y5, z5⟩, st5⟩ := Jvm.LawKit.callS X0 hx (y := (⟨"com/example/fieldgrade/fieldgrade/model/Budget", "times", "(JJ)J"⟩ : MethodName)) hown (mvT hZ (hw _ (List.mem_of_getElem? (i := 1) rfl))) (mvT hZ (hw _ (List.mem_of_getElem? (i := 2) rfl))) (mvT hZ (hw _ (List.mem_of_getElem? (i := 3) rfl))) (mvT hZ (hw _ (List.mem_of_getElem? (i := 4) rfl))) (by decide) (backOf (W := 0) (rm1 l Z a0 hw [] (((q1 &&& (9223372036854775807 : Int64)).toUInt64 >>> ((p3 &&& (63 : Int32)) &&& 0x3f).toInt64.toUInt64).toInt64) (((q2 &&& (9223372036854775807 : Int64)).toUInt64 >>> ((p4 &&& (63 : Int32)) &&& 0x3f).toInt64.toUInt64).toInt64) h0 n0 Z0) hZ (hw _ (List.mem_of_getElem? (i := 4) rfl)) (hw _ (List.mem_of_getElem? (i := 3) rfl)) (by decide) (by decide)) (g := (mkF m 77 #[.val (.long q1), .second, .val (.long q2), .second, .val (.int p3), .val (.int p4), .val (.long (((q1 &&& (9223372036854775807 : Int64)).toUInt64 >>> ((p3 &&& (63 : Int32)) &&& 0x3f).toInt64.toUInt64).toInt64)), .second, .val (.long (((q2 &&& (9223372036854775807 : Int64)).toUInt64 >>> ((p4 &&& (63 : Int32)) &&& 0x3f).toInt64.toUInt64).toInt64)), .second, .val (.long (0 : Int64)), .second] [(.long (((q2 &&& (9223372036854775807 : Int64)).toUInt64 >>> ((p4 &&& (63 : Int32)) &&& 0x3f).toInt64.toUInt64).toInt64)), (.long (((q1 &&& (9223372036854775807 : Int64)).toUInt64 >>> ((p3 &&& (63 : Int32)) &&& 0x3f).toInt64.toUInt64).toInt64))])) rfl (by rw [hml]; rfl) (argsL := [(.long (((q1 &&& (9223372036854775807 : Int64)).toUInt64 >>> ((p3 &&& (63 : Int32)) &&& 0x3f).toInt64.toUInt64).toInt64)), (.long (((q2 &&& (9223372036854775807 : Int64)).toUInt64 >>> ((p4 &&& (63 : Int32)) &&& 0x3f).toInt64.toUInt64).toInt64))]) (rest := []) (lenOf pd_0_0 rfl) rfl (by show 2 * 0 + _ ≤ _; exact Nat.le_of_eq rfl) (hb hby at_77) (fun _ _ => ⟨rfl, e0, (by decide : 0 + 0 ≤ _), (by decide : 0 + 0 ≤ _)⟩)
  dsimp only [Pt.U, Pt.locs, Pt.cells, Pt.slots] at X5 l5 y5 z5 st5 hQ5
  subst l5 y5 z5
  obtain ⟨rfl, N5q, e5⟩ := hQ5      -- what it returned, that it wrote nothing old, and the rest of your Q1
  have N5 := Fr.app N0 N5q
  obtain ⟨fs, hr, hrun, hended, hW, hsame⟩ := X5.leave (v := some (.int (1 : Int32))) (fun h => by rw [Bd.returns] at h; cases h)
  refine ⟨_, _, pre0 _ ?_, hrun, hended, _, _, rfl, ?_, ⟨_, rfl⟩, hW, hsame.mono (by decide) (by decide)⟩
  -- 4. STEPS
  · show Steps p.tables e below (s₁.setTop (mkF m 0 #[.val (.long q1), .second, .val (.long q2), .second, .val (.int p3), .val (.int p4), .unset, .unset, .unset, .unset, .unset, .unset] [])) _
    refine XS.lloadN X0.here hx rfl (hb hby at_0) rfl ?_
    show Steps p.tables e below (s₁.setTop (mkF m 1 #[.val (.long q1), .second, .val (.long q2), .second, .val (.int p3), .val (.int p4), .unset, .unset, .unset, .unset, .unset, .unset] [(.long q1)])) _
    refine X0.ldc2Long hx hown (mvT hZ (hw _ (List.mem_of_getElem? (i := 0) rfl))) (g := (mkF m 1 #[.val (.long q1), .second, .val (.long q2), .second, .val (.int p3), .val (.int p4), .unset, .unset, .unset, .unset, .unset, .unset] [(.long q1)])) rfl (hb hby at_1) _ ?_
    show Steps p.tables e below (s₁.setTop (mkF m 4 #[.val (.long q1), .second, .val (.long q2), .second, .val (.int p3), .val (.int p4), .unset, .unset, .unset, .unset, .unset, .unset] [(.long (9223372036854775807 : Int64)), (.long q1)])) _
    refine XS.land X0.here hx rfl (hb hby at_4) rfl ?_
    show Steps p.tables e below (s₁.setTop (mkF m 5 #[.val (.long q1), .second, .val (.long q2), .second, .val (.int p3), .val (.int p4), .unset, .unset, .unset, .unset, .unset, .unset] [(.long (q1 &&& (9223372036854775807 : Int64)))])) _
    refine XS.iload X0.here hx rfl (hb hby at_5) rfl ?_
    show Steps p.tables e below (s₁.setTop (mkF m 7 #[.val (.long q1), .second, .val (.long q2), .second, .val (.int p3), .val (.int p4), .unset, .unset, .unset, .unset, .unset, .unset] [(.int p3), (.long (q1 &&& (9223372036854775807 : Int64)))])) _
    refine XS.bipush X0.here hx rfl (hb hby at_7) ?_
    show Steps p.tables e below (s₁.setTop (mkF m 9 #[.val (.long q1), .second, .val (.long q2), .second, .val (.int p3), .val (.int p4), .unset, .unset, .unset, .unset, .unset, .unset] [(.int (63 : Int32)), (.int p3), (.long (q1 &&& (9223372036854775807 : Int64)))])) _
    refine XS.iand X0.here hx rfl (hb hby at_9) rfl ?_
    show Steps p.tables e below (s₁.setTop (mkF m 10 #[.val (.long q1), .second, .val (.long q2), .second, .val (.int p3), .val (.int p4), .unset, .unset, .unset, .unset, .unset, .unset] [(.int (p3 &&& (63 : Int32))), (.long (q1 &&& (9223372036854775807 : Int64)))])) _
    refine XS.lushr X0.here hx rfl (hb hby at_10) rfl ?_
    show Steps p.tables e below (s₁.setTop (mkF m 11 #[.val (.long q1), .second, .val (.long q2), .second, .val (.int p3), .val (.int p4), .unset, .unset, .unset, .unset, .unset, .unset] [(.long (((q1 &&& (9223372036854775807 : Int64)).toUInt64 >>> ((p3 &&& (63 : Int32)) &&& 0x3f).toInt64.toUInt64).toInt64))])) _
    refine XS.lstore X0.here hx rfl (hb hby at_11) rfl (l' := #[.val (.long q1), .second, .val (.long q2), .second, .val (.int p3), .val (.int p4), .val (.long (((q1 &&& (9223372036854775807 : Int64)).toUInt64 >>> ((p3 &&& (63 : Int32)) &&& 0x3f).toInt64.toUInt64).toInt64)), .second, .unset, .unset, .unset, .unset]) rfl ?_
    show Steps p.tables e below (s₁.setTop (mkF m 13 #[.val (.long q1), .second, .val (.long q2), .second, .val (.int p3), .val (.int p4), .val (.long (((q1 &&& (9223372036854775807 : Int64)).toUInt64 >>> ((p3 &&& (63 : Int32)) &&& 0x3f).toInt64.toUInt64).toInt64)), .second, .unset, .unset, .unset, .unset] [])) _
    refine XS.lloadN X0.here hx rfl (hb hby at_13) rfl ?_
    show Steps p.tables e below (s₁.setTop (mkF m 14 #[.val (.long q1), .second, .val (.long q2), .second, .val (.int p3), .val (.int p4), .val (.long (((q1 &&& (9223372036854775807 : Int64)).toUInt64 >>> ((p3 &&& (63 : Int32)) &&& 0x3f).toInt64.toUInt64).toInt64)), .second, .unset, .unset, .unset, .unset] [(.long q2)])) _
    refine X0.ldc2Long hx hown (mvT hZ (hw _ (List.mem_of_getElem? (i := 0) rfl))) (g := (mkF m 14 #[.val (.long q1), .second, .val (.long q2), .second, .val (.int p3), .val (.int p4), .val (.long (((q1 &&& (9223372036854775807 : Int64)).toUInt64 >>> ((p3 &&& (63 : Int32)) &&& 0x3f).toInt64.toUInt64).toInt64)), .second, .unset, .unset, .unset, .unset] [(.long q2)])) rfl (hb hby at_14) _ ?_
    show Steps p.tables e below (s₁.setTop (mkF m 17 #[.val (.long q1), .second, .val (.long q2), .second, .val (.int p3), .val (.int p4), .val (.long (((q1 &&& (9223372036854775807 : Int64)).toUInt64 >>> ((p3 &&& (63 : Int32)) &&& 0x3f).toInt64.toUInt64).toInt64)), .second, .unset, .unset, .unset, .unset] [(.long (9223372036854775807 : Int64)), (.long q2)])) _
    refine XS.land X0.here hx rfl (hb hby at_17) rfl ?_
    show Steps p.tables e below (s₁.setTop (mkF m 18 #[.val (.long q1), .second, .val (.long q2), .second, .val (.int p3), .val (.int p4), .val (.long (((q1 &&& (9223372036854775807 : Int64)).toUInt64 >>> ((p3 &&& (63 : Int32)) &&& 0x3f).toInt64.toUInt64).toInt64)), .second, .unset, .unset, .unset, .unset] [(.long (q2 &&& (9223372036854775807 : Int64)))])) _
    refine XS.iload X0.here hx rfl (hb hby at_18) rfl ?_
    show Steps p.tables e below (s₁.setTop (mkF m 20 #[.val (.long q1), .second, .val (.long q2), .second, .val (.int p3), .val (.int p4), .val (.long (((q1 &&& (9223372036854775807 : Int64)).toUInt64 >>> ((p3 &&& (63 : Int32)) &&& 0x3f).toInt64.toUInt64).toInt64)), .second, .unset, .unset, .unset, .unset] [(.int p4), (.long (q2 &&& (9223372036854775807 : Int64)))])) _
    refine XS.bipush X0.here hx rfl (hb hby at_20) ?_
    show Steps p.tables e below (s₁.setTop (mkF m 22 #[.val (.long q1), .second, .val (.long q2), .second, .val (.int p3), .val (.int p4), .val (.long (((q1 &&& (9223372036854775807 : Int64)).toUInt64 >>> ((p3 &&& (63 : Int32)) &&& 0x3f).toInt64.toUInt64).toInt64)), .second, .unset, .unset, .unset, .unset] [(.int (63 : Int32)), (.int p4), (.long (q2 &&& (9223372036854775807 : Int64)))])) _
    refine XS.iand X0.here hx rfl (hb hby at_22) rfl ?_
    show Steps p.tables e below (s₁.setTop (mkF m 23 #[.val (.long q1), .second, .val (.long q2), .second, .val (.int p3), .val (.int p4), .val (.long (((q1 &&& (9223372036854775807 : Int64)).toUInt64 >>> ((p3 &&& (63 : Int32)) &&& 0x3f).toInt64.toUInt64).toInt64)), .second, .unset, .unset, .unset, .unset] [(.int (p4 &&& (63 : Int32))), (.long (q2 &&& (9223372036854775807 : Int64)))])) _
    refine XS.lushr X0.here hx rfl (hb hby at_23) rfl ?_
    show Steps p.tables e below (s₁.setTop (mkF m 24 #[.val (.long q1), .second, .val (.long q2), .second, .val (.int p3), .val (.int p4), .val (.long (((q1 &&& (9223372036854775807 : Int64)).toUInt64 >>> ((p3 &&& (63 : Int32)) &&& 0x3f).toInt64.toUInt64).toInt64)), .second, .unset, .unset, .unset, .unset] [(.long (((q2 &&& (9223372036854775807 : Int64)).toUInt64 >>> ((p4 &&& (63 : Int32)) &&& 0x3f).toInt64.toUInt64).toInt64))])) _
    refine XS.lstore X0.here hx rfl (hb hby at_24) rfl (l' := #[.val (.long q1), .second, .val (.long q2), .second, .val (.int p3), .val (.int p4), .val (.long (((q1 &&& (9223372036854775807 : Int64)).toUInt64 >>> ((p3 &&& (63 : Int32)) &&& 0x3f).toInt64.toUInt64).toInt64)), .second, .val (.long (((q2 &&& (9223372036854775807 : Int64)).toUInt64 >>> ((p4 &&& (63 : Int32)) &&& 0x3f).toInt64.toUInt64).toInt64)), .second, .unset, .unset]) rfl ?_
    show Steps p.tables e below (s₁.setTop (mkF m 26 #[.val (.long q1), .second, .val (.long q2), .second, .val (.int p3), .val (.int p4), .val (.long (((q1 &&& (9223372036854775807 : Int64)).toUInt64 >>> ((p3 &&& (63 : Int32)) &&& 0x3f).toInt64.toUInt64).toInt64)), .second, .val (.long (((q2 &&& (9223372036854775807 : Int64)).toUInt64 >>> ((p4 &&& (63 : Int32)) &&& 0x3f).toInt64.toUInt64).toInt64)), .second, .unset, .unset] [])) _
    refine XS.lload X0.here hx rfl (hb hby at_26) rfl ?_
    show Steps p.tables e below (s₁.setTop (mkF m 28 #[.val (.long q1), .second, .val (.long q2), .second, .val (.int p3), .val (.int p4), .val (.long (((q1 &&& (9223372036854775807 : Int64)).toUInt64 >>> ((p3 &&& (63 : Int32)) &&& 0x3f).toInt64.toUInt64).toInt64)), .second, .val (.long (((q2 &&& (9223372036854775807 : Int64)).toUInt64 >>> ((p4 &&& (63 : Int32)) &&& 0x3f).toInt64.toUInt64).toInt64)), .second, .unset, .unset] [(.long (((q1 &&& (9223372036854775807 : Int64)).toUInt64 >>> ((p3 &&& (63 : Int32)) &&& 0x3f).toInt64.toUInt64).toInt64))])) _
    refine XS.lconst X0.here hx rfl (hb hby at_28) ?_
    show Steps p.tables e below (s₁.setTop (mkF m 29 #[.val (.long q1), .second, .val (.long q2), .second, .val (.int p3), .val (.int p4), .val (.long (((q1 &&& (9223372036854775807 : Int64)).toUInt64 >>> ((p3 &&& (63 : Int32)) &&& 0x3f).toInt64.toUInt64).toInt64)), .second, .val (.long (((q2 &&& (9223372036854775807 : Int64)).toUInt64 >>> ((p4 &&& (63 : Int32)) &&& 0x3f).toInt64.toUInt64).toInt64)), .second, .unset, .unset] [(.long (0 : Int64)), (.long (((q1 &&& (9223372036854775807 : Int64)).toUInt64 >>> ((p3 &&& (63 : Int32)) &&& 0x3f).toInt64.toUInt64).toInt64))])) _
    refine XS.lcmp X0.here hx rfl (hb hby at_29) rfl ?_
    show Steps p.tables e below (s₁.setTop (mkF m 30 #[.val (.long q1), .second, .val (.long q2), .second, .val (.int p3), .val (.int p4), .val (.long (((q1 &&& (9223372036854775807 : Int64)).toUInt64 >>> ((p3 &&& (63 : Int32)) &&& 0x3f).toInt64.toUInt64).toInt64)), .second, .val (.long (((q2 &&& (9223372036854775807 : Int64)).toUInt64 >>> ((p4 &&& (63 : Int32)) &&& 0x3f).toInt64.toUInt64).toInt64)), .second, .unset, .unset] [(.int (lcmpW (((q1 &&& (9223372036854775807 : Int64)).toUInt64 >>> ((p3 &&& (63 : Int32)) &&& 0x3f).toInt64.toUInt64).toInt64) (0 : Int64)))])) _
    refine XS.ifNo X0.here hx rfl (hb hby at_30) rfl ((if0 _ _).trans (feq hc30).1) ?_
    show Steps p.tables e below (s₁.setTop (mkF m 33 #[.val (.long q1), .second, .val (.long q2), .second, .val (.int p3), .val (.int p4), .val (.long (((q1 &&& (9223372036854775807 : Int64)).toUInt64 >>> ((p3 &&& (63 : Int32)) &&& 0x3f).toInt64.toUInt64).toInt64)), .second, .val (.long (((q2 &&& (9223372036854775807 : Int64)).toUInt64 >>> ((p4 &&& (63 : Int32)) &&& 0x3f).toInt64.toUInt64).toInt64)), .second, .unset, .unset] [])) _
    refine XS.lload X0.here hx rfl (hb hby at_33) rfl ?_
    show Steps p.tables e below (s₁.setTop (mkF m 35 #[.val (.long q1), .second, .val (.long q2), .second, .val (.int p3), .val (.int p4), .val (.long (((q1 &&& (9223372036854775807 : Int64)).toUInt64 >>> ((p3 &&& (63 : Int32)) &&& 0x3f).toInt64.toUInt64).toInt64)), .second, .val (.long (((q2 &&& (9223372036854775807 : Int64)).toUInt64 >>> ((p4 &&& (63 : Int32)) &&& 0x3f).toInt64.toUInt64).toInt64)), .second, .unset, .unset] [(.long (((q2 &&& (9223372036854775807 : Int64)).toUInt64 >>> ((p4 &&& (63 : Int32)) &&& 0x3f).toInt64.toUInt64).toInt64))])) _
    refine XS.lconst X0.here hx rfl (hb hby at_35) ?_
    show Steps p.tables e below (s₁.setTop (mkF m 36 #[.val (.long q1), .second, .val (.long q2), .second, .val (.int p3), .val (.int p4), .val (.long (((q1 &&& (9223372036854775807 : Int64)).toUInt64 >>> ((p3 &&& (63 : Int32)) &&& 0x3f).toInt64.toUInt64).toInt64)), .second, .val (.long (((q2 &&& (9223372036854775807 : Int64)).toUInt64 >>> ((p4 &&& (63 : Int32)) &&& 0x3f).toInt64.toUInt64).toInt64)), .second, .unset, .unset] [(.long (0 : Int64)), (.long (((q2 &&& (9223372036854775807 : Int64)).toUInt64 >>> ((p4 &&& (63 : Int32)) &&& 0x3f).toInt64.toUInt64).toInt64))])) _
    refine XS.lcmp X0.here hx rfl (hb hby at_36) rfl ?_
    show Steps p.tables e below (s₁.setTop (mkF m 37 #[.val (.long q1), .second, .val (.long q2), .second, .val (.int p3), .val (.int p4), .val (.long (((q1 &&& (9223372036854775807 : Int64)).toUInt64 >>> ((p3 &&& (63 : Int32)) &&& 0x3f).toInt64.toUInt64).toInt64)), .second, .val (.long (((q2 &&& (9223372036854775807 : Int64)).toUInt64 >>> ((p4 &&& (63 : Int32)) &&& 0x3f).toInt64.toUInt64).toInt64)), .second, .unset, .unset] [(.int (lcmpW (((q2 &&& (9223372036854775807 : Int64)).toUInt64 >>> ((p4 &&& (63 : Int32)) &&& 0x3f).toInt64.toUInt64).toInt64) (0 : Int64)))])) _
    refine XS.ifNo X0.here hx rfl (hb hby at_37) rfl ((if0 _ _).trans (teq hc37).2) ?_
    show Steps p.tables e below (s₁.setTop (mkF m 40 #[.val (.long q1), .second, .val (.long q2), .second, .val (.int p3), .val (.int p4), .val (.long (((q1 &&& (9223372036854775807 : Int64)).toUInt64 >>> ((p3 &&& (63 : Int32)) &&& 0x3f).toInt64.toUInt64).toInt64)), .second, .val (.long (((q2 &&& (9223372036854775807 : Int64)).toUInt64 >>> ((p4 &&& (63 : Int32)) &&& 0x3f).toInt64.toUInt64).toInt64)), .second, .unset, .unset] [])) _
    refine XS.lconst X0.here hx rfl (hb hby at_40) ?_
    show Steps p.tables e below (s₁.setTop (mkF m 41 #[.val (.long q1), .second, .val (.long q2), .second, .val (.int p3), .val (.int p4), .val (.long (((q1 &&& (9223372036854775807 : Int64)).toUInt64 >>> ((p3 &&& (63 : Int32)) &&& 0x3f).toInt64.toUInt64).toInt64)), .second, .val (.long (((q2 &&& (9223372036854775807 : Int64)).toUInt64 >>> ((p4 &&& (63 : Int32)) &&& 0x3f).toInt64.toUInt64).toInt64)), .second, .unset, .unset] [(.long (0 : Int64))])) _
    refine XS.lstore X0.here hx rfl (hb hby at_41) rfl (l' := #[.val (.long q1), .second, .val (.long q2), .second, .val (.int p3), .val (.int p4), .val (.long (((q1 &&& (9223372036854775807 : Int64)).toUInt64 >>> ((p3 &&& (63 : Int32)) &&& 0x3f).toInt64.toUInt64).toInt64)), .second, .val (.long (((q2 &&& (9223372036854775807 : Int64)).toUInt64 >>> ((p4 &&& (63 : Int32)) &&& 0x3f).toInt64.toUInt64).toInt64)), .second, .val (.long (0 : Int64)), .second]) rfl ?_
    show Steps p.tables e below (s₁.setTop (mkF m 43 #[.val (.long q1), .second, .val (.long q2), .second, .val (.int p3), .val (.int p4), .val (.long (((q1 &&& (9223372036854775807 : Int64)).toUInt64 >>> ((p3 &&& (63 : Int32)) &&& 0x3f).toInt64.toUInt64).toInt64)), .second, .val (.long (((q2 &&& (9223372036854775807 : Int64)).toUInt64 >>> ((p4 &&& (63 : Int32)) &&& 0x3f).toInt64.toUInt64).toInt64)), .second, .val (.long (0 : Int64)), .second] [])) _
    refine XS.goto X0.here hx rfl (pc0 := 43) (pc' := 73) rfl (hb hby at_43) (by decide) (by decide) ?_
    show Steps p.tables e below (s₁.setTop (mkF m 73 #[.val (.long q1), .second, .val (.long q2), .second, .val (.int p3), .val (.int p4), .val (.long (((q1 &&& (9223372036854775807 : Int64)).toUInt64 >>> ((p3 &&& (63 : Int32)) &&& 0x3f).toInt64.toUInt64).toInt64)), .second, .val (.long (((q2 &&& (9223372036854775807 : Int64)).toUInt64 >>> ((p4 &&& (63 : Int32)) &&& 0x3f).toInt64.toUInt64).toInt64)), .second, .val (.long (0 : Int64)), .second] [])) _
    refine XS.lload X0.here hx rfl (hb hby at_73) rfl ?_
    show Steps p.tables e below (s₁.setTop (mkF m 75 #[.val (.long q1), .second, .val (.long q2), .second, .val (.int p3), .val (.int p4), .val (.long (((q1 &&& (9223372036854775807 : Int64)).toUInt64 >>> ((p3 &&& (63 : Int32)) &&& 0x3f).toInt64.toUInt64).toInt64)), .second, .val (.long (((q2 &&& (9223372036854775807 : Int64)).toUInt64 >>> ((p4 &&& (63 : Int32)) &&& 0x3f).toInt64.toUInt64).toInt64)), .second, .val (.long (0 : Int64)), .second] [(.long (((q1 &&& (9223372036854775807 : Int64)).toUInt64 >>> ((p3 &&& (63 : Int32)) &&& 0x3f).toInt64.toUInt64).toInt64))])) _
    refine XS.lload X0.here hx rfl (hb hby at_75) rfl ?_
    show Steps p.tables e below (s₁.setTop (mkF m 77 #[.val (.long q1), .second, .val (.long q2), .second, .val (.int p3), .val (.int p4), .val (.long (((q1 &&& (9223372036854775807 : Int64)).toUInt64 >>> ((p3 &&& (63 : Int32)) &&& 0x3f).toInt64.toUInt64).toInt64)), .second, .val (.long (((q2 &&& (9223372036854775807 : Int64)).toUInt64 >>> ((p4 &&& (63 : Int32)) &&& 0x3f).toInt64.toUInt64).toInt64)), .second, .val (.long (0 : Int64)), .second] [(.long (((q2 &&& (9223372036854775807 : Int64)).toUInt64 >>> ((p4 &&& (63 : Int32)) &&& 0x3f).toInt64.toUInt64).toInt64)), (.long (((q1 &&& (9223372036854775807 : Int64)).toUInt64 >>> ((p3 &&& (63 : Int32)) &&& 0x3f).toInt64.toUInt64).toInt64))])) _
    refine st5 _ ?_
    show Steps p.tables e below (T5.setTop (mkF m 80 #[.val (.long q1), .second, .val (.long q2), .second, .val (.int p3), .val (.int p4), .val (.long (((q1 &&& (9223372036854775807 : Int64)).toUInt64 >>> ((p3 &&& (63 : Int32)) &&& 0x3f).toInt64.toUInt64).toInt64)), .second, .val (.long (((q2 &&& (9223372036854775807 : Int64)).toUInt64 >>> ((p4 &&& (63 : Int32)) &&& 0x3f).toInt64.toUInt64).toInt64)), .second, .val (.long (0 : Int64)), .second] [(.long (Own391.tF (((q1 &&& (9223372036854775807 : Int64)).toUInt64 >>> ((p3 &&& (63 : Int32)) &&& 0x3f).toInt64.toUInt64).toInt64) (((q2 &&& (9223372036854775807 : Int64)).toUInt64 >>> ((p4 &&& (63 : Int32)) &&& 0x3f).toInt64.toUInt64).toInt64)))])) _
    refine XS.lload X5.here hx rfl (hb hby at_80) rfl ?_
    show Steps p.tables e below (T5.setTop (mkF m 82 #[.val (.long q1), .second, .val (.long q2), .second, .val (.int p3), .val (.int p4), .val (.long (((q1 &&& (9223372036854775807 : Int64)).toUInt64 >>> ((p3 &&& (63 : Int32)) &&& 0x3f).toInt64.toUInt64).toInt64)), .second, .val (.long (((q2 &&& (9223372036854775807 : Int64)).toUInt64 >>> ((p4 &&& (63 : Int32)) &&& 0x3f).toInt64.toUInt64).toInt64)), .second, .val (.long (0 : Int64)), .second] [(.long (0 : Int64)), (.long (Own391.tF (((q1 &&& (9223372036854775807 : Int64)).toUInt64 >>> ((p3 &&& (63 : Int32)) &&& 0x3f).toInt64.toUInt64).toInt64) (((q2 &&& (9223372036854775807 : Int64)).toUInt64 >>> ((p4 &&& (63 : Int32)) &&& 0x3f).toInt64.toUInt64).toInt64)))])) _
    refine XS.lcmp X5.here hx rfl (hb hby at_82) rfl ?_
    show Steps p.tables e below (T5.setTop (mkF m 83 #[.val (.long q1), .second, .val (.long q2), .second, .val (.int p3), .val (.int p4), .val (.long (((q1 &&& (9223372036854775807 : Int64)).toUInt64 >>> ((p3 &&& (63 : Int32)) &&& 0x3f).toInt64.toUInt64).toInt64)), .second, .val (.long (((q2 &&& (9223372036854775807 : Int64)).toUInt64 >>> ((p4 &&& (63 : Int32)) &&& 0x3f).toInt64.toUInt64).toInt64)), .second, .val (.long (0 : Int64)), .second] [(.int (lcmpW (Own391.tF (((q1 &&& (9223372036854775807 : Int64)).toUInt64 >>> ((p3 &&& (63 : Int32)) &&& 0x3f).toInt64.toUInt64).toInt64) (((q2 &&& (9223372036854775807 : Int64)).toUInt64 >>> ((p4 &&& (63 : Int32)) &&& 0x3f).toInt64.toUInt64).toInt64)) (0 : Int64)))])) _
    refine XS.ifNo X5.here hx rfl (hb hby at_83) rfl ((if0 _ _).trans (teq (hfin : (lcmpW (Own391.tF (((q1 &&& (9223372036854775807 : Int64)).toUInt64 >>> ((p3 &&& (63 : Int32)) &&& 0x3f).toInt64.toUInt64).toInt64) (((q2 &&& (9223372036854775807 : Int64)).toUInt64 >>> ((p4 &&& (63 : Int32)) &&& 0x3f).toInt64.toUInt64).toInt64)) (0 : Int64)) = (0 : Int32))).2) ?_
    show Steps p.tables e below (T5.setTop (mkF m 86 #[.val (.long q1), .second, .val (.long q2), .second, .val (.int p3), .val (.int p4), .val (.long (((q1 &&& (9223372036854775807 : Int64)).toUInt64 >>> ((p3 &&& (63 : Int32)) &&& 0x3f).toInt64.toUInt64).toInt64)), .second, .val (.long (((q2 &&& (9223372036854775807 : Int64)).toUInt64 >>> ((p4 &&& (63 : Int32)) &&& 0x3f).toInt64.toUInt64).toInt64)), .second, .val (.long (0 : Int64)), .second] [])) _
    refine XS.iconst X5.here hx rfl (hb hby at_86) ?_
    show Steps p.tables e below (T5.setTop (mkF m 87 #[.val (.long q1), .second, .val (.long q2), .second, .val (.int p3), .val (.int p4), .val (.long (((q1 &&& (9223372036854775807 : Int64)).toUInt64 >>> ((p3 &&& (63 : Int32)) &&& 0x3f).toInt64.toUInt64).toInt64)), .second, .val (.long (((q2 &&& (9223372036854775807 : Int64)).toUInt64 >>> ((p4 &&& (63 : Int32)) &&& 0x3f).toInt64.toUInt64).toInt64)), .second, .val (.long (0 : Int64)), .second] [(.int (1 : Int32))])) _
    refine XS.goto X5.here hx rfl (pc0 := 87) (pc' := 91) rfl (hb hby at_87) (by decide) (by decide) ?_
    show Steps p.tables e below (T5.setTop (mkF m 91 #[.val (.long q1), .second, .val (.long q2), .second, .val (.int p3), .val (.int p4), .val (.long (((q1 &&& (9223372036854775807 : Int64)).toUInt64 >>> ((p3 &&& (63 : Int32)) &&& 0x3f).toInt64.toUInt64).toInt64)), .second, .val (.long (((q2 &&& (9223372036854775807 : Int64)).toUInt64 >>> ((p4 &&& (63 : Int32)) &&& 0x3f).toInt64.toUInt64).toInt64)), .second, .val (.long (0 : Int64)), .second] [(.int (1 : Int32))])) _
    exact retN X5 hx (t := .boolean) Bd.returns (by simp) (hb hby at_91) hr
  · show Q0 Z q1 q2 p3 p4 h0 n0 _ T5.heap _
    exact ⟨rfl, N5⟩
set_option maxRecDepth 65536 in
set_option maxHeartbeats 40000000 in
theorem rm0_ftff (l : Launch) (Z : State) (a0 : Array Value) (hw : ∀ d ∈ tables_1, d.before a0 Z = true) (ws : List Jvm.Cond) (q1 : Int64) (q2 : Int64) (p3 : Int32) (p4 : Int32) (h0 : Heap) (n0 : Nat) (Z0 : n0 ≤ h0.size) (hfin : (lcmpW (Own391.tF (((q1 &&& (9223372036854775807 : Int64)).toUInt64 >>> ((p3 &&& (63 : Int32)) &&& 0x3f).toInt64.toUInt64).toInt64) (((q2 &&& (9223372036854775807 : Int64)).toUInt64 >>> ((p4 &&& (63 : Int32)) &&& 0x3f).toInt64.toUInt64).toInt64)) (9223372036854775807 : Int64)) = (0 : Int32)) (hc30 : ¬ ((lcmpW (((q1 &&& (9223372036854775807 : Int64)).toUInt64 >>> ((p3 &&& (63 : Int32)) &&& 0x3f).toInt64.toUInt64).toInt64) (0 : Int64)) = (0 : Int32))) (hc37 : ¬ ((lcmpW (((q2 &&& (9223372036854775807 : Int64)).toUInt64 >>> ((p4 &&& (63 : Int32)) &&& 0x3f).toInt64.toUInt64).toInt64) (0 : Int64)) = (0 : Int32))) (hnz53 : ¬ ((((q2 &&& (9223372036854775807 : Int64)).toUInt64 >>> ((p4 &&& (63 : Int32)) &&& 0x3f).toInt64.toUInt64).toInt64) = (0 : Int64))) (hc55 : (0 : Int32) < (lcmpW (((q1 &&& (9223372036854775807 : Int64)).toUInt64 >>> ((p3 &&& (63 : Int32)) &&& 0x3f).toInt64.toUInt64).toInt64) ((9223372036854775807 : Int64) / (((q2 &&& (9223372036854775807 : Int64)).toUInt64 >>> ((p4 &&& (63 : Int32)) &&& 0x3f).toInt64.toUInt64).toInt64)))) :
    MetFree l x (head1 (Jvm.Cond.code x code maxLocals ret :: ws) room_1) (fun a U => a = #[(.long q1), (.long q2), (.int p3), (.int p4)] ∧ Z.Warmed39 U.vm ∧ U.heap = h0) (fun _ _ _ _ _ => True) (fun _ U o U' => ∃ v L, o = .returned v ∧ Q0 Z q1 q2 p3 p4 h0 n0 v U'.heap L ∧ FrameEnd U o U' L room_1.cells room_1.slots) := by
  refine MetFree.of_bodySF (plainFor_of_name pn_0) hisR ?_
  intro p e s m args below meth c s₁ Bd hml0 hP hK
  obtain ⟨rfl, hZ, hh⟩ := hP
  have hx := Bd.exec
  have hby := Bd.bytes
  have hml : c.maxLocals = 12 := hml0
  have hown : s.vm.findClass "com/example/fieldgrade/fieldgrade/model/BudgetTimesPinLaw" = some m.cls := findClass_of_methodNamed Bd.named
  have hnm := (name_of_methodNamed Bd.named Bd.method).1
  have X0 : Stand p l e room_1 s m #[(.long q1), (.long q2), (.int p3), (.int p4)] below meth c s₁ [] 0 0 := Stand.of_body Bd
  have e0 : s₁.heap = h0 := by rw [← hh, Bd.state]; rfl
  have N0 := Fr.nil n0
  have pre0 : ∀ t, Steps p.tables e below (s₁.setTop (mkF m 0 #[.val (.long q1), .second, .val (.long q2), .second, .val (.int p3), .val (.int p4), .unset, .unset, .unset, .unset, .unset, .unset] [])) t → Steps p.tables e below (s₁.setTop (entryFrame m #[(.long q1), (.long q2), (.int p3), (.int p4)] maxLocals)) t := fun t k => castTop (ef_0 m q1 q2 p3 p4) k
  -- 3. LAWS
  -- pc 77: com/example/fieldgrade/fieldgrade/model/Budget.times by its contract rm1
  obtain ⟨_, _, ⟨T5, L5, k5, n5⟩, -, X5, ⟨Lc5, hQ5, l5, y5, z5⟩, st5⟩ := Jvm.LawKit.callS X0 hx (y := (⟨"com/example/fieldgrade/fieldgrade/model/Budget", "times", "(JJ)J"⟩ : MethodName)) hown (mvT hZ (hw _ (List.mem_of_getElem? (i := 1) rfl))) (mvT hZ (hw _ (List.mem_of_getElem? (i := 2) rfl))) (mvT hZ (hw _ (List.mem_of_getElem? (i := 3) rfl))) (mvT hZ (hw _ (List.mem_of_getElem? (i := 4) rfl))) (by decide) (backOf (W := 0) (rm1 l Z a0 hw [] (((q1 &&& (9223372036854775807 : Int64)).toUInt64 >>> ((p3 &&& (63 : Int32)) &&& 0x3f).toInt64.toUInt64).toInt64) (((q2 &&& (9223372036854775807 : Int64)).toUInt64 >>> ((p4 &&& (63 : Int32)) &&& 0x3f).toInt64.toUInt64).toInt64) h0 n0 Z0) hZ (hw _ (List.mem_of_getElem? (i := 4) rfl)) (hw _ (List.mem_of_getElem? (i := 3) rfl)) (by decide) (by decide)) (g := (mkF m 77 #[.val (.long q1), .second, .val (.long q2), .second, .val (.int p3), .val (.int p4), .val (.long (((q1 &&& (9223372036854775807 : Int64)).toUInt64 >>> ((p3 &&& (63 : Int32)) &&& 0x3f).toInt64.toUInt64).toInt64)), .second, .val (.long (((q2 &&& (9223372036854775807 : Int64)).toUInt64 >>> ((p4 &&& (63 : Int32)) &&& 0x3f).toInt64.toUInt64).toInt64)), .second, .val (.long (9223372036854775807 : Int64)), .second] [(.long (((q2 &&& (9223372036854775807 : Int64)).toUInt64 >>> ((p4 &&& (63 : Int32)) &&& 0x3f).toInt64.toUInt64).toInt64)), (.long (((q1 &&& (9223372036854775807 : Int64)).toUInt64 >>> ((p3 &&& (63 : Int32)) &&& 0x3f).toInt64.toUInt64).toInt64))])) rfl (by rw [hml]; rfl) (argsL := [(.long (((q1 &&& (9223372036854775807 : Int64)).toUInt64 >>> ((p3 &&& (63 : Int32)) &&& 0x3f).toInt64.toUInt64).toInt64)), (.long (((q2 &&& (9223372036854775807 : Int64)).toUInt64 >>> ((p4 &&& (63 : Int32)) &&& 0x3f).toInt64.toUInt64).toInt64))]) (rest := []) (lenOf pd_0_0 rfl) rfl (by show 2 * 0 + _ ≤ _; exact Nat.le_of_eq rfl) (hb hby at_77) (fun _ _ => ⟨rfl, e0, (by decide : 0 + 0 ≤ _), (by decide : 0 + 0 ≤ _)⟩)
  dsimp only [Pt.U, Pt.locs, Pt.cells, Pt.slots] at X5 l5 y5 z5 st5 hQ5
  subst l5 y5 z5
  obtain ⟨rfl, N5q, e5⟩ := hQ5      -- what it returned, that it wrote nothing old, and the rest of your Q1
  have N5 := Fr.app N0 N5q
  obtain ⟨fs, hr, hrun, hended, hW, hsame⟩ := X5.leave (v := some (.int (1 : Int32))) (fun h => by rw [Bd.returns] at h; cases h)
  refine ⟨_, _, pre0 _ ?_, hrun, hended, _, _, rfl, ?_, ⟨_, rfl⟩, hW, hsame.mono (by decide) (by decide)⟩
  -- 4. STEPS
  · show Steps p.tables e below (s₁.setTop (mkF m 0 #[.val (.long q1), .second, .val (.long q2), .second, .val (.int p3), .val (.int p4), .unset, .unset, .unset, .unset, .unset, .unset] [])) _
    refine XS.lloadN X0.here hx rfl (hb hby at_0) rfl ?_
    show Steps p.tables e below (s₁.setTop (mkF m 1 #[.val (.long q1), .second, .val (.long q2), .second, .val (.int p3), .val (.int p4), .unset, .unset, .unset, .unset, .unset, .unset] [(.long q1)])) _
    refine X0.ldc2Long hx hown (mvT hZ (hw _ (List.mem_of_getElem? (i := 0) rfl))) (g := (mkF m 1 #[.val (.long q1), .second, .val (.long q2), .second, .val (.int p3), .val (.int p4), .unset, .unset, .unset, .unset, .unset, .unset] [(.long q1)])) rfl (hb hby at_1) _ ?_
    show Steps p.tables e below (s₁.setTop (mkF m 4 #[.val (.long q1), .second, .val (.long q2), .second, .val (.int p3), .val (.int p4), .unset, .unset, .unset, .unset, .unset, .unset] [(.long (9223372036854775807 : Int64)), (.long q1)])) _
    refine XS.land X0.here hx rfl (hb hby at_4) rfl ?_
    show Steps p.tables e below (s₁.setTop (mkF m 5 #[.val (.long q1), .second, .val (.long q2), .second, .val (.int p3), .val (.int p4), .unset, .unset, .unset, .unset, .unset, .unset] [(.long (q1 &&& (9223372036854775807 : Int64)))])) _
    refine XS.iload X0.here hx rfl (hb hby at_5) rfl ?_
    show Steps p.tables e below (s₁.setTop (mkF m 7 #[.val (.long q1), .second, .val (.long q2), .second, .val (.int p3), .val (.int p4), .unset, .unset, .unset, .unset, .unset, .unset] [(.int p3), (.long (q1 &&& (9223372036854775807 : Int64)))])) _
    refine XS.bipush X0.here hx rfl (hb hby at_7) ?_
    show Steps p.tables e below (s₁.setTop (mkF m 9 #[.val (.long q1), .second, .val (.long q2), .second, .val (.int p3), .val (.int p4), .unset, .unset, .unset, .unset, .unset, .unset] [(.int (63 : Int32)), (.int p3), (.long (q1 &&& (9223372036854775807 : Int64)))])) _
    refine XS.iand X0.here hx rfl (hb hby at_9) rfl ?_
    show Steps p.tables e below (s₁.setTop (mkF m 10 #[.val (.long q1), .second, .val (.long q2), .second, .val (.int p3), .val (.int p4), .unset, .unset, .unset, .unset, .unset, .unset] [(.int (p3 &&& (63 : Int32))), (.long (q1 &&& (9223372036854775807 : Int64)))])) _
    refine XS.lushr X0.here hx rfl (hb hby at_10) rfl ?_
    show Steps p.tables e below (s₁.setTop (mkF m 11 #[.val (.long q1), .second, .val (.long q2), .second, .val (.int p3), .val (.int p4), .unset, .unset, .unset, .unset, .unset, .unset] [(.long (((q1 &&& (9223372036854775807 : Int64)).toUInt64 >>> ((p3 &&& (63 : Int32)) &&& 0x3f).toInt64.toUInt64).toInt64))])) _
    refine XS.lstore X0.here hx rfl (hb hby at_11) rfl (l' := #[.val (.long q1), .second, .val (.long q2), .second, .val (.int p3), .val (.int p4), .val (.long (((q1 &&& (9223372036854775807 : Int64)).toUInt64 >>> ((p3 &&& (63 : Int32)) &&& 0x3f).toInt64.toUInt64).toInt64)), .second, .unset, .unset, .unset, .unset]) rfl ?_
    show Steps p.tables e below (s₁.setTop (mkF m 13 #[.val (.long q1), .second, .val (.long q2), .second, .val (.int p3), .val (.int p4), .val (.long (((q1 &&& (9223372036854775807 : Int64)).toUInt64 >>> ((p3 &&& (63 : Int32)) &&& 0x3f).toInt64.toUInt64).toInt64)), .second, .unset, .unset, .unset, .unset] [])) _
    refine XS.lloadN X0.here hx rfl (hb hby at_13) rfl ?_
    show Steps p.tables e below (s₁.setTop (mkF m 14 #[.val (.long q1), .second, .val (.long q2), .second, .val (.int p3), .val (.int p4), .val (.long (((q1 &&& (9223372036854775807 : Int64)).toUInt64 >>> ((p3 &&& (63 : Int32)) &&& 0x3f).toInt64.toUInt64).toInt64)), .second, .unset, .unset, .unset, .unset] [(.long q2)])) _
    refine X0.ldc2Long hx hown (mvT hZ (hw _ (List.mem_of_getElem? (i := 0) rfl))) (g := (mkF m 14 #[.val (.long q1), .second, .val (.long q2), .second, .val (.int p3), .val (.int p4), .val (.long (((q1 &&& (9223372036854775807 : Int64)).toUInt64 >>> ((p3 &&& (63 : Int32)) &&& 0x3f).toInt64.toUInt64).toInt64)), .second, .unset, .unset, .unset, .unset] [(.long q2)])) rfl (hb hby at_14) _ ?_
    show Steps p.tables e below (s₁.setTop (mkF m 17 #[.val (.long q1), .second, .val (.long q2), .second, .val (.int p3), .val (.int p4), .val (.long (((q1 &&& (9223372036854775807 : Int64)).toUInt64 >>> ((p3 &&& (63 : Int32)) &&& 0x3f).toInt64.toUInt64).toInt64)), .second, .unset, .unset, .unset, .unset] [(.long (9223372036854775807 : Int64)), (.long q2)])) _
    refine XS.land X0.here hx rfl (hb hby at_17) rfl ?_
    show Steps p.tables e below (s₁.setTop (mkF m 18 #[.val (.long q1), .second, .val (.long q2), .second, .val (.int p3), .val (.int p4), .val (.long (((q1 &&& (9223372036854775807 : Int64)).toUInt64 >>> ((p3 &&& (63 : Int32)) &&& 0x3f).toInt64.toUInt64).toInt64)), .second, .unset, .unset, .unset, .unset] [(.long (q2 &&& (9223372036854775807 : Int64)))])) _
    refine XS.iload X0.here hx rfl (hb hby at_18) rfl ?_
    show Steps p.tables e below (s₁.setTop (mkF m 20 #[.val (.long q1), .second, .val (.long q2), .second, .val (.int p3), .val (.int p4), .val (.long (((q1 &&& (9223372036854775807 : Int64)).toUInt64 >>> ((p3 &&& (63 : Int32)) &&& 0x3f).toInt64.toUInt64).toInt64)), .second, .unset, .unset, .unset, .unset] [(.int p4), (.long (q2 &&& (9223372036854775807 : Int64)))])) _
    refine XS.bipush X0.here hx rfl (hb hby at_20) ?_
    show Steps p.tables e below (s₁.setTop (mkF m 22 #[.val (.long q1), .second, .val (.long q2), .second, .val (.int p3), .val (.int p4), .val (.long (((q1 &&& (9223372036854775807 : Int64)).toUInt64 >>> ((p3 &&& (63 : Int32)) &&& 0x3f).toInt64.toUInt64).toInt64)), .second, .unset, .unset, .unset, .unset] [(.int (63 : Int32)), (.int p4), (.long (q2 &&& (9223372036854775807 : Int64)))])) _
    refine XS.iand X0.here hx rfl (hb hby at_22) rfl ?_
    show Steps p.tables e below (s₁.setTop (mkF m 23 #[.val (.long q1), .second, .val (.long q2), .second, .val (.int p3), .val (.int p4), .val (.long (((q1 &&& (9223372036854775807 : Int64)).toUInt64 >>> ((p3 &&& (63 : Int32)) &&& 0x3f).toInt64.toUInt64).toInt64)), .second, .unset, .unset, .unset, .unset] [(.int (p4 &&& (63 : Int32))), (.long (q2 &&& (9223372036854775807 : Int64)))])) _
    refine XS.lushr X0.here hx rfl (hb hby at_23) rfl ?_
    show Steps p.tables e below (s₁.setTop (mkF m 24 #[.val (.long q1), .second, .val (.long q2), .second, .val (.int p3), .val (.int p4), .val (.long (((q1 &&& (9223372036854775807 : Int64)).toUInt64 >>> ((p3 &&& (63 : Int32)) &&& 0x3f).toInt64.toUInt64).toInt64)), .second, .unset, .unset, .unset, .unset] [(.long (((q2 &&& (9223372036854775807 : Int64)).toUInt64 >>> ((p4 &&& (63 : Int32)) &&& 0x3f).toInt64.toUInt64).toInt64))])) _
    refine XS.lstore X0.here hx rfl (hb hby at_24) rfl (l' := #[.val (.long q1), .second, .val (.long q2), .second, .val (.int p3), .val (.int p4), .val (.long (((q1 &&& (9223372036854775807 : Int64)).toUInt64 >>> ((p3 &&& (63 : Int32)) &&& 0x3f).toInt64.toUInt64).toInt64)), .second, .val (.long (((q2 &&& (9223372036854775807 : Int64)).toUInt64 >>> ((p4 &&& (63 : Int32)) &&& 0x3f).toInt64.toUInt64).toInt64)), .second, .unset, .unset]) rfl ?_
    show Steps p.tables e below (s₁.setTop (mkF m 26 #[.val (.long q1), .second, .val (.long q2), .second, .val (.int p3), .val (.int p4), .val (.long (((q1 &&& (9223372036854775807 : Int64)).toUInt64 >>> ((p3 &&& (63 : Int32)) &&& 0x3f).toInt64.toUInt64).toInt64)), .second, .val (.long (((q2 &&& (9223372036854775807 : Int64)).toUInt64 >>> ((p4 &&& (63 : Int32)) &&& 0x3f).toInt64.toUInt64).toInt64)), .second, .unset, .unset] [])) _
    refine XS.lload X0.here hx rfl (hb hby at_26) rfl ?_
    show Steps p.tables e below (s₁.setTop (mkF m 28 #[.val (.long q1), .second, .val (.long q2), .second, .val (.int p3), .val (.int p4), .val (.long (((q1 &&& (9223372036854775807 : Int64)).toUInt64 >>> ((p3 &&& (63 : Int32)) &&& 0x3f).toInt64.toUInt64).toInt64)), .second, .val (.long (((q2 &&& (9223372036854775807 : Int64)).toUInt64 >>> ((p4 &&& (63 : Int32)) &&& 0x3f).toInt64.toUInt64).toInt64)), .second, .unset, .unset] [(.long (((q1 &&& (9223372036854775807 : Int64)).toUInt64 >>> ((p3 &&& (63 : Int32)) &&& 0x3f).toInt64.toUInt64).toInt64))])) _
    refine XS.lconst X0.here hx rfl (hb hby at_28) ?_
    show Steps p.tables e below (s₁.setTop (mkF m 29 #[.val (.long q1), .second, .val (.long q2), .second, .val (.int p3), .val (.int p4), .val (.long (((q1 &&& (9223372036854775807 : Int64)).toUInt64 >>> ((p3 &&& (63 : Int32)) &&& 0x3f).toInt64.toUInt64).toInt64)), .second, .val (.long (((q2 &&& (9223372036854775807 : Int64)).toUInt64 >>> ((p4 &&& (63 : Int32)) &&& 0x3f).toInt64.toUInt64).toInt64)), .second, .unset, .unset] [(.long (0 : Int64)), (.long (((q1 &&& (9223372036854775807 : Int64)).toUInt64 >>> ((p3 &&& (63 : Int32)) &&& 0x3f).toInt64.toUInt64).toInt64))])) _
    refine XS.lcmp X0.here hx rfl (hb hby at_29) rfl ?_
    show Steps p.tables e below (s₁.setTop (mkF m 30 #[.val (.long q1), .second, .val (.long q2), .second, .val (.int p3), .val (.int p4), .val (.long (((q1 &&& (9223372036854775807 : Int64)).toUInt64 >>> ((p3 &&& (63 : Int32)) &&& 0x3f).toInt64.toUInt64).toInt64)), .second, .val (.long (((q2 &&& (9223372036854775807 : Int64)).toUInt64 >>> ((p4 &&& (63 : Int32)) &&& 0x3f).toInt64.toUInt64).toInt64)), .second, .unset, .unset] [(.int (lcmpW (((q1 &&& (9223372036854775807 : Int64)).toUInt64 >>> ((p3 &&& (63 : Int32)) &&& 0x3f).toInt64.toUInt64).toInt64) (0 : Int64)))])) _
    refine XS.ifNo X0.here hx rfl (hb hby at_30) rfl ((if0 _ _).trans (feq hc30).1) ?_
    show Steps p.tables e below (s₁.setTop (mkF m 33 #[.val (.long q1), .second, .val (.long q2), .second, .val (.int p3), .val (.int p4), .val (.long (((q1 &&& (9223372036854775807 : Int64)).toUInt64 >>> ((p3 &&& (63 : Int32)) &&& 0x3f).toInt64.toUInt64).toInt64)), .second, .val (.long (((q2 &&& (9223372036854775807 : Int64)).toUInt64 >>> ((p4 &&& (63 : Int32)) &&& 0x3f).toInt64.toUInt64).toInt64)), .second, .unset, .unset] [])) _
    refine XS.lload X0.here hx rfl (hb hby at_33) rfl ?_
    show Steps p.tables e below (s₁.setTop (mkF m 35 #[.val (.long q1), .second, .val (.long q2), .second, .val (.int p3), .val (.int p4), .val (.long (((q1 &&& (9223372036854775807 : Int64)).toUInt64 >>> ((p3 &&& (63 : Int32)) &&& 0x3f).toInt64.toUInt64).toInt64)), .second, .val (.long (((q2 &&& (9223372036854775807 : Int64)).toUInt64 >>> ((p4 &&& (63 : Int32)) &&& 0x3f).toInt64.toUInt64).toInt64)), .second, .unset, .unset] [(.long (((q2 &&& (9223372036854775807 : Int64)).toUInt64 >>> ((p4 &&& (63 : Int32)) &&& 0x3f).toInt64.toUInt64).toInt64))])) _
    refine XS.lconst X0.here hx rfl (hb hby at_35) ?_
    show Steps p.tables e below (s₁.setTop (mkF m 36 #[.val (.long q1), .second, .val (.long q2), .second, .val (.int p3), .val (.int p4), .val (.long (((q1 &&& (9223372036854775807 : Int64)).toUInt64 >>> ((p3 &&& (63 : Int32)) &&& 0x3f).toInt64.toUInt64).toInt64)), .second, .val (.long (((q2 &&& (9223372036854775807 : Int64)).toUInt64 >>> ((p4 &&& (63 : Int32)) &&& 0x3f).toInt64.toUInt64).toInt64)), .second, .unset, .unset] [(.long (0 : Int64)), (.long (((q2 &&& (9223372036854775807 : Int64)).toUInt64 >>> ((p4 &&& (63 : Int32)) &&& 0x3f).toInt64.toUInt64).toInt64))])) _
    refine XS.lcmp X0.here hx rfl (hb hby at_36) rfl ?_
    show Steps p.tables e below (s₁.setTop (mkF m 37 #[.val (.long q1), .second, .val (.long q2), .second, .val (.int p3), .val (.int p4), .val (.long (((q1 &&& (9223372036854775807 : Int64)).toUInt64 >>> ((p3 &&& (63 : Int32)) &&& 0x3f).toInt64.toUInt64).toInt64)), .second, .val (.long (((q2 &&& (9223372036854775807 : Int64)).toUInt64 >>> ((p4 &&& (63 : Int32)) &&& 0x3f).toInt64.toUInt64).toInt64)), .second, .unset, .unset] [(.int (lcmpW (((q2 &&& (9223372036854775807 : Int64)).toUInt64 >>> ((p4 &&& (63 : Int32)) &&& 0x3f).toInt64.toUInt64).toInt64) (0 : Int64)))])) _
    refine XS.ifYes X0.here hx rfl (pc0 := 37) (pc' := 46) rfl (hb hby at_37) rfl ((if0 _ _).trans (feq hc37).2) (by decide) (by decide) ?_
    show Steps p.tables e below (s₁.setTop (mkF m 46 #[.val (.long q1), .second, .val (.long q2), .second, .val (.int p3), .val (.int p4), .val (.long (((q1 &&& (9223372036854775807 : Int64)).toUInt64 >>> ((p3 &&& (63 : Int32)) &&& 0x3f).toInt64.toUInt64).toInt64)), .second, .val (.long (((q2 &&& (9223372036854775807 : Int64)).toUInt64 >>> ((p4 &&& (63 : Int32)) &&& 0x3f).toInt64.toUInt64).toInt64)), .second, .unset, .unset] [])) _
    refine XS.lload X0.here hx rfl (hb hby at_46) rfl ?_
    show Steps p.tables e below (s₁.setTop (mkF m 48 #[.val (.long q1), .second, .val (.long q2), .second, .val (.int p3), .val (.int p4), .val (.long (((q1 &&& (9223372036854775807 : Int64)).toUInt64 >>> ((p3 &&& (63 : Int32)) &&& 0x3f).toInt64.toUInt64).toInt64)), .second, .val (.long (((q2 &&& (9223372036854775807 : Int64)).toUInt64 >>> ((p4 &&& (63 : Int32)) &&& 0x3f).toInt64.toUInt64).toInt64)), .second, .unset, .unset] [(.long (((q1 &&& (9223372036854775807 : Int64)).toUInt64 >>> ((p3 &&& (63 : Int32)) &&& 0x3f).toInt64.toUInt64).toInt64))])) _
    refine X0.ldc2Long hx hown (mvT hZ (hw _ (List.mem_of_getElem? (i := 0) rfl))) (g := (mkF m 48 #[.val (.long q1), .second, .val (.long q2), .second, .val (.int p3), .val (.int p4), .val (.long (((q1 &&& (9223372036854775807 : Int64)).toUInt64 >>> ((p3 &&& (63 : Int32)) &&& 0x3f).toInt64.toUInt64).toInt64)), .second, .val (.long (((q2 &&& (9223372036854775807 : Int64)).toUInt64 >>> ((p4 &&& (63 : Int32)) &&& 0x3f).toInt64.toUInt64).toInt64)), .second, .unset, .unset] [(.long (((q1 &&& (9223372036854775807 : Int64)).toUInt64 >>> ((p3 &&& (63 : Int32)) &&& 0x3f).toInt64.toUInt64).toInt64))])) rfl (hb hby at_48) _ ?_
    show Steps p.tables e below (s₁.setTop (mkF m 51 #[.val (.long q1), .second, .val (.long q2), .second, .val (.int p3), .val (.int p4), .val (.long (((q1 &&& (9223372036854775807 : Int64)).toUInt64 >>> ((p3 &&& (63 : Int32)) &&& 0x3f).toInt64.toUInt64).toInt64)), .second, .val (.long (((q2 &&& (9223372036854775807 : Int64)).toUInt64 >>> ((p4 &&& (63 : Int32)) &&& 0x3f).toInt64.toUInt64).toInt64)), .second, .unset, .unset] [(.long (9223372036854775807 : Int64)), (.long (((q1 &&& (9223372036854775807 : Int64)).toUInt64 >>> ((p3 &&& (63 : Int32)) &&& 0x3f).toInt64.toUInt64).toInt64))])) _
    refine XS.lload X0.here hx rfl (hb hby at_51) rfl ?_
    show Steps p.tables e below (s₁.setTop (mkF m 53 #[.val (.long q1), .second, .val (.long q2), .second, .val (.int p3), .val (.int p4), .val (.long (((q1 &&& (9223372036854775807 : Int64)).toUInt64 >>> ((p3 &&& (63 : Int32)) &&& 0x3f).toInt64.toUInt64).toInt64)), .second, .val (.long (((q2 &&& (9223372036854775807 : Int64)).toUInt64 >>> ((p4 &&& (63 : Int32)) &&& 0x3f).toInt64.toUInt64).toInt64)), .second, .unset, .unset] [(.long (((q2 &&& (9223372036854775807 : Int64)).toUInt64 >>> ((p4 &&& (63 : Int32)) &&& 0x3f).toInt64.toUInt64).toInt64)), (.long (9223372036854775807 : Int64)), (.long (((q1 &&& (9223372036854775807 : Int64)).toUInt64 >>> ((p3 &&& (63 : Int32)) &&& 0x3f).toInt64.toUInt64).toInt64))])) _
    refine XS.ldiv X0.here hx rfl (hb hby at_53) rfl hnz53 ?_
    show Steps p.tables e below (s₁.setTop (mkF m 54 #[.val (.long q1), .second, .val (.long q2), .second, .val (.int p3), .val (.int p4), .val (.long (((q1 &&& (9223372036854775807 : Int64)).toUInt64 >>> ((p3 &&& (63 : Int32)) &&& 0x3f).toInt64.toUInt64).toInt64)), .second, .val (.long (((q2 &&& (9223372036854775807 : Int64)).toUInt64 >>> ((p4 &&& (63 : Int32)) &&& 0x3f).toInt64.toUInt64).toInt64)), .second, .unset, .unset] [(.long ((9223372036854775807 : Int64) / (((q2 &&& (9223372036854775807 : Int64)).toUInt64 >>> ((p4 &&& (63 : Int32)) &&& 0x3f).toInt64.toUInt64).toInt64))), (.long (((q1 &&& (9223372036854775807 : Int64)).toUInt64 >>> ((p3 &&& (63 : Int32)) &&& 0x3f).toInt64.toUInt64).toInt64))])) _
    refine XS.lcmp X0.here hx rfl (hb hby at_54) rfl ?_
    show Steps p.tables e below (s₁.setTop (mkF m 55 #[.val (.long q1), .second, .val (.long q2), .second, .val (.int p3), .val (.int p4), .val (.long (((q1 &&& (9223372036854775807 : Int64)).toUInt64 >>> ((p3 &&& (63 : Int32)) &&& 0x3f).toInt64.toUInt64).toInt64)), .second, .val (.long (((q2 &&& (9223372036854775807 : Int64)).toUInt64 >>> ((p4 &&& (63 : Int32)) &&& 0x3f).toInt64.toUInt64).toInt64)), .second, .unset, .unset] [(.int (lcmpW (((q1 &&& (9223372036854775807 : Int64)).toUInt64 >>> ((p3 &&& (63 : Int32)) &&& 0x3f).toInt64.toUInt64).toInt64) ((9223372036854775807 : Int64) / (((q2 &&& (9223372036854775807 : Int64)).toUInt64 >>> ((p4 &&& (63 : Int32)) &&& 0x3f).toInt64.toUInt64).toInt64))))])) _
    refine XS.ifNo X0.here hx rfl (hb hby at_55) rfl ((if0 _ _).trans (tlt hc55).2.2.2) ?_
    show Steps p.tables e below (s₁.setTop (mkF m 58 #[.val (.long q1), .second, .val (.long q2), .second, .val (.int p3), .val (.int p4), .val (.long (((q1 &&& (9223372036854775807 : Int64)).toUInt64 >>> ((p3 &&& (63 : Int32)) &&& 0x3f).toInt64.toUInt64).toInt64)), .second, .val (.long (((q2 &&& (9223372036854775807 : Int64)).toUInt64 >>> ((p4 &&& (63 : Int32)) &&& 0x3f).toInt64.toUInt64).toInt64)), .second, .unset, .unset] [])) _
    refine X0.ldc2Long hx hown (mvT hZ (hw _ (List.mem_of_getElem? (i := 0) rfl))) (g := (mkF m 58 #[.val (.long q1), .second, .val (.long q2), .second, .val (.int p3), .val (.int p4), .val (.long (((q1 &&& (9223372036854775807 : Int64)).toUInt64 >>> ((p3 &&& (63 : Int32)) &&& 0x3f).toInt64.toUInt64).toInt64)), .second, .val (.long (((q2 &&& (9223372036854775807 : Int64)).toUInt64 >>> ((p4 &&& (63 : Int32)) &&& 0x3f).toInt64.toUInt64).toInt64)), .second, .unset, .unset] [])) rfl (hb hby at_58) _ ?_
    show Steps p.tables e below (s₁.setTop (mkF m 61 #[.val (.long q1), .second, .val (.long q2), .second, .val (.int p3), .val (.int p4), .val (.long (((q1 &&& (9223372036854775807 : Int64)).toUInt64 >>> ((p3 &&& (63 : Int32)) &&& 0x3f).toInt64.toUInt64).toInt64)), .second, .val (.long (((q2 &&& (9223372036854775807 : Int64)).toUInt64 >>> ((p4 &&& (63 : Int32)) &&& 0x3f).toInt64.toUInt64).toInt64)), .second, .unset, .unset] [(.long (9223372036854775807 : Int64))])) _
    refine XS.lstore X0.here hx rfl (hb hby at_61) rfl (l' := #[.val (.long q1), .second, .val (.long q2), .second, .val (.int p3), .val (.int p4), .val (.long (((q1 &&& (9223372036854775807 : Int64)).toUInt64 >>> ((p3 &&& (63 : Int32)) &&& 0x3f).toInt64.toUInt64).toInt64)), .second, .val (.long (((q2 &&& (9223372036854775807 : Int64)).toUInt64 >>> ((p4 &&& (63 : Int32)) &&& 0x3f).toInt64.toUInt64).toInt64)), .second, .val (.long (9223372036854775807 : Int64)), .second]) rfl ?_
    show Steps p.tables e below (s₁.setTop (mkF m 63 #[.val (.long q1), .second, .val (.long q2), .second, .val (.int p3), .val (.int p4), .val (.long (((q1 &&& (9223372036854775807 : Int64)).toUInt64 >>> ((p3 &&& (63 : Int32)) &&& 0x3f).toInt64.toUInt64).toInt64)), .second, .val (.long (((q2 &&& (9223372036854775807 : Int64)).toUInt64 >>> ((p4 &&& (63 : Int32)) &&& 0x3f).toInt64.toUInt64).toInt64)), .second, .val (.long (9223372036854775807 : Int64)), .second] [])) _
    refine XS.goto X0.here hx rfl (pc0 := 63) (pc' := 73) rfl (hb hby at_63) (by decide) (by decide) ?_
    show Steps p.tables e below (s₁.setTop (mkF m 73 #[.val (.long q1), .second, .val (.long q2), .second, .val (.int p3), .val (.int p4), .val (.long (((q1 &&& (9223372036854775807 : Int64)).toUInt64 >>> ((p3 &&& (63 : Int32)) &&& 0x3f).toInt64.toUInt64).toInt64)), .second, .val (.long (((q2 &&& (9223372036854775807 : Int64)).toUInt64 >>> ((p4 &&& (63 : Int32)) &&& 0x3f).toInt64.toUInt64).toInt64)), .second, .val (.long (9223372036854775807 : Int64)), .second] [])) _
    refine XS.lload X0.here hx rfl (hb hby at_73) rfl ?_
    show Steps p.tables e below (s₁.setTop (mkF m 75 #[.val (.long q1), .second, .val (.long q2), .second, .val (.int p3), .val (.int p4), .val (.long (((q1 &&& (9223372036854775807 : Int64)).toUInt64 >>> ((p3 &&& (63 : Int32)) &&& 0x3f).toInt64.toUInt64).toInt64)), .second, .val (.long (((q2 &&& (9223372036854775807 : Int64)).toUInt64 >>> ((p4 &&& (63 : Int32)) &&& 0x3f).toInt64.toUInt64).toInt64)), .second, .val (.long (9223372036854775807 : Int64)), .second] [(.long (((q1 &&& (9223372036854775807 : Int64)).toUInt64 >>> ((p3 &&& (63 : Int32)) &&& 0x3f).toInt64.toUInt64).toInt64))])) _
    refine XS.lload X0.here hx rfl (hb hby at_75) rfl ?_
    show Steps p.tables e below (s₁.setTop (mkF m 77 #[.val (.long q1), .second, .val (.long q2), .second, .val (.int p3), .val (.int p4), .val (.long (((q1 &&& (9223372036854775807 : Int64)).toUInt64 >>> ((p3 &&& (63 : Int32)) &&& 0x3f).toInt64.toUInt64).toInt64)), .second, .val (.long (((q2 &&& (9223372036854775807 : Int64)).toUInt64 >>> ((p4 &&& (63 : Int32)) &&& 0x3f).toInt64.toUInt64).toInt64)), .second, .val (.long (9223372036854775807 : Int64)), .second] [(.long (((q2 &&& (9223372036854775807 : Int64)).toUInt64 >>> ((p4 &&& (63 : Int32)) &&& 0x3f).toInt64.toUInt64).toInt64)), (.long (((q1 &&& (9223372036854775807 : Int64)).toUInt64 >>> ((p3 &&& (63 : Int32)) &&& 0x3f).toInt64.toUInt64).toInt64))])) _
    refine st5 _ ?_
    show Steps p.tables e below (T5.setTop (mkF m 80 #[.val (.long q1), .second, .val (.long q2), .second, .val (.int p3), .val (.int p4), .val (.long (((q1 &&& (9223372036854775807 : Int64)).toUInt64 >>> ((p3 &&& (63 : Int32)) &&& 0x3f).toInt64.toUInt64).toInt64)), .second, .val (.long (((q2 &&& (9223372036854775807 : Int64)).toUInt64 >>> ((p4 &&& (63 : Int32)) &&& 0x3f).toInt64.toUInt64).toInt64)), .second, .val (.long (9223372036854775807 : Int64)), .second] [(.long (Own391.tF (((q1 &&& (9223372036854775807 : Int64)).toUInt64 >>> ((p3 &&& (63 : Int32)) &&& 0x3f).toInt64.toUInt64).toInt64) (((q2 &&& (9223372036854775807 : Int64)).toUInt64 >>> ((p4 &&& (63 : Int32)) &&& 0x3f).toInt64.toUInt64).toInt64)))])) _
    refine XS.lload X5.here hx rfl (hb hby at_80) rfl ?_
    show Steps p.tables e below (T5.setTop (mkF m 82 #[.val (.long q1), .second, .val (.long q2), .second, .val (.int p3), .val (.int p4), .val (.long (((q1 &&& (9223372036854775807 : Int64)).toUInt64 >>> ((p3 &&& (63 : Int32)) &&& 0x3f).toInt64.toUInt64).toInt64)), .second, .val (.long (((q2 &&& (9223372036854775807 : Int64)).toUInt64 >>> ((p4 &&& (63 : Int32)) &&& 0x3f).toInt64.toUInt64).toInt64)), .second, .val (.long (9223372036854775807 : Int64)), .second] [(.long (9223372036854775807 : Int64)), (.long (Own391.tF (((q1 &&& (9223372036854775807 : Int64)).toUInt64 >>> ((p3 &&& (63 : Int32)) &&& 0x3f).toInt64.toUInt64).toInt64) (((q2 &&& (9223372036854775807 : Int64)).toUInt64 >>> ((p4 &&& (63 : Int32)) &&& 0x3f).toInt64.toUInt64).toInt64)))])) _
    refine XS.lcmp X5.here hx rfl (hb hby at_82) rfl ?_
    show Steps p.tables e below (T5.setTop (mkF m 83 #[.val (.long q1), .second, .val (.long q2), .second, .val (.int p3), .val (.int p4), .val (.long (((q1 &&& (9223372036854775807 : Int64)).toUInt64 >>> ((p3 &&& (63 : Int32)) &&& 0x3f).toInt64.toUInt64).toInt64)), .second, .val (.long (((q2 &&& (9223372036854775807 : Int64)).toUInt64 >>> ((p4 &&& (63 : Int32)) &&& 0x3f).toInt64.toUInt64).toInt64)), .second, .val (.long (9223372036854775807 : Int64)), .second] [(.int (lcmpW (Own391.tF (((q1 &&& (9223372036854775807 : Int64)).toUInt64 >>> ((p3 &&& (63 : Int32)) &&& 0x3f).toInt64.toUInt64).toInt64) (((q2 &&& (9223372036854775807 : Int64)).toUInt64 >>> ((p4 &&& (63 : Int32)) &&& 0x3f).toInt64.toUInt64).toInt64)) (9223372036854775807 : Int64)))])) _
    refine XS.ifNo X5.here hx rfl (hb hby at_83) rfl ((if0 _ _).trans (teq (hfin : (lcmpW (Own391.tF (((q1 &&& (9223372036854775807 : Int64)).toUInt64 >>> ((p3 &&& (63 : Int32)) &&& 0x3f).toInt64.toUInt64).toInt64) (((q2 &&& (9223372036854775807 : Int64)).toUInt64 >>> ((p4 &&& (63 : Int32)) &&& 0x3f).toInt64.toUInt64).toInt64)) (9223372036854775807 : Int64)) = (0 : Int32))).2) ?_
    show Steps p.tables e below (T5.setTop (mkF m 86 #[.val (.long q1), .second, .val (.long q2), .second, .val (.int p3), .val (.int p4), .val (.long (((q1 &&& (9223372036854775807 : Int64)).toUInt64 >>> ((p3 &&& (63 : Int32)) &&& 0x3f).toInt64.toUInt64).toInt64)), .second, .val (.long (((q2 &&& (9223372036854775807 : Int64)).toUInt64 >>> ((p4 &&& (63 : Int32)) &&& 0x3f).toInt64.toUInt64).toInt64)), .second, .val (.long (9223372036854775807 : Int64)), .second] [])) _
    refine XS.iconst X5.here hx rfl (hb hby at_86) ?_
    show Steps p.tables e below (T5.setTop (mkF m 87 #[.val (.long q1), .second, .val (.long q2), .second, .val (.int p3), .val (.int p4), .val (.long (((q1 &&& (9223372036854775807 : Int64)).toUInt64 >>> ((p3 &&& (63 : Int32)) &&& 0x3f).toInt64.toUInt64).toInt64)), .second, .val (.long (((q2 &&& (9223372036854775807 : Int64)).toUInt64 >>> ((p4 &&& (63 : Int32)) &&& 0x3f).toInt64.toUInt64).toInt64)), .second, .val (.long (9223372036854775807 : Int64)), .second] [(.int (1 : Int32))])) _
    refine XS.goto X5.here hx rfl (pc0 := 87) (pc' := 91) rfl (hb hby at_87) (by decide) (by decide) ?_
    show Steps p.tables e below (T5.setTop (mkF m 91 #[.val (.long q1), .second, .val (.long q2), .second, .val (.int p3), .val (.int p4), .val (.long (((q1 &&& (9223372036854775807 : Int64)).toUInt64 >>> ((p3 &&& (63 : Int32)) &&& 0x3f).toInt64.toUInt64).toInt64)), .second, .val (.long (((q2 &&& (9223372036854775807 : Int64)).toUInt64 >>> ((p4 &&& (63 : Int32)) &&& 0x3f).toInt64.toUInt64).toInt64)), .second, .val (.long (9223372036854775807 : Int64)), .second] [(.int (1 : Int32))])) _
    exact retN X5 hx (t := .boolean) Bd.returns (by simp) (hb hby at_91) hr
  · show Q0 Z q1 q2 p3 p4 h0 n0 _ T5.heap _
    exact ⟨rfl, N5⟩
set_option maxRecDepth 65536 in
set_option maxHeartbeats 40000000 in
theorem rm0_fttf (l : Launch) (Z : State) (a0 : Array Value) (hw : ∀ d ∈ tables_1, d.before a0 Z = true) (ws : List Jvm.Cond) (q1 : Int64) (q2 : Int64) (p3 : Int32) (p4 : Int32) (h0 : Heap) (n0 : Nat) (Z0 : n0 ≤ h0.size) (hfin : (lcmpW (Own391.tF (((q1 &&& (9223372036854775807 : Int64)).toUInt64 >>> ((p3 &&& (63 : Int32)) &&& 0x3f).toInt64.toUInt64).toInt64) (((q2 &&& (9223372036854775807 : Int64)).toUInt64 >>> ((p4 &&& (63 : Int32)) &&& 0x3f).toInt64.toUInt64).toInt64)) ((((q1 &&& (9223372036854775807 : Int64)).toUInt64 >>> ((p3 &&& (63 : Int32)) &&& 0x3f).toInt64.toUInt64).toInt64) * (((q2 &&& (9223372036854775807 : Int64)).toUInt64 >>> ((p4 &&& (63 : Int32)) &&& 0x3f).toInt64.toUInt64).toInt64))) = (0 : Int32)) (hc30 : ¬ ((lcmpW (((q1 &&& (9223372036854775807 : Int64)).toUInt64 >>> ((p3 &&& (63 : Int32)) &&& 0x3f).toInt64.toUInt64).toInt64) (0 : Int64)) = (0 : Int32))) (hc37 : ¬ ((lcmpW (((q2 &&& (9223372036854775807 : Int64)).toUInt64 >>> ((p4 &&& (63 : Int32)) &&& 0x3f).toInt64.toUInt64).toInt64) (0 : Int64)) = (0 : Int32))) (hnz53 : ¬ ((((q2 &&& (9223372036854775807 : Int64)).toUInt64 >>> ((p4 &&& (63 : Int32)) &&& 0x3f).toInt64.toUInt64).toInt64) = (0 : Int64))) (hc55 : ¬ ((0 : Int32) < (lcmpW (((q1 &&& (9223372036854775807 : Int64)).toUInt64 >>> ((p3 &&& (63 : Int32)) &&& 0x3f).toInt64.toUInt64).toInt64) ((9223372036854775807 : Int64) / (((q2 &&& (9223372036854775807 : Int64)).toUInt64 >>> ((p4 &&& (63 : Int32)) &&& 0x3f).toInt64.toUInt64).toInt64))))) :
    MetFree l x (head1 (Jvm.Cond.code x code maxLocals ret :: ws) room_1) (fun a U => a = #[(.long q1), (.long q2), (.int p3), (.int p4)] ∧ Z.Warmed39 U.vm ∧ U.heap = h0) (fun _ _ _ _ _ => True) (fun _ U o U' => ∃ v L, o = .returned v ∧ Q0 Z q1 q2 p3 p4 h0 n0 v U'.heap L ∧ FrameEnd U o U' L room_1.cells room_1.slots) := by
  refine MetFree.of_bodySF (plainFor_of_name pn_0) hisR ?_
  intro p e s m args below meth c s₁ Bd hml0 hP hK
  obtain ⟨rfl, hZ, hh⟩ := hP
  have hx := Bd.exec
  have hby := Bd.bytes
  have hml : c.maxLocals = 12 := hml0
  have hown : s.vm.findClass "com/example/fieldgrade/fieldgrade/model/BudgetTimesPinLaw" = some m.cls := findClass_of_methodNamed Bd.named
  have hnm := (name_of_methodNamed Bd.named Bd.method).1
  have X0 : Stand p l e room_1 s m #[(.long q1), (.long q2), (.int p3), (.int p4)] below meth c s₁ [] 0 0 := Stand.of_body Bd
  have e0 : s₁.heap = h0 := by rw [← hh, Bd.state]; rfl
  have N0 := Fr.nil n0
  have pre0 : ∀ t, Steps p.tables e below (s₁.setTop (mkF m 0 #[.val (.long q1), .second, .val (.long q2), .second, .val (.int p3), .val (.int p4), .unset, .unset, .unset, .unset, .unset, .unset] [])) t → Steps p.tables e below (s₁.setTop (entryFrame m #[(.long q1), (.long q2), (.int p3), (.int p4)] maxLocals)) t := fun t k => castTop (ef_0 m q1 q2 p3 p4) k
  -- 3. LAWS
  -- pc 77: com/example/fieldgrade/fieldgrade/model/Budget.times by its contract rm1
  obtain ⟨_, _, ⟨T5, L5, k5, n5⟩, -, X5, ⟨Lc5, hQ5, l5, y5, z5⟩, st5⟩ := Jvm.LawKit.callS X0 hx (y := (⟨"com/example/fieldgrade/fieldgrade/model/Budget", "times", "(JJ)J"⟩ : MethodName)) hown (mvT hZ (hw _ (List.mem_of_getElem? (i := 1) rfl))) (mvT hZ (hw _ (List.mem_of_getElem? (i := 2) rfl))) (mvT hZ (hw _ (List.mem_of_getElem? (i := 3) rfl))) (mvT hZ (hw _ (List.mem_of_getElem? (i := 4) rfl))) (by decide) (backOf (W := 0) (rm1 l Z a0 hw [] (((q1 &&& (9223372036854775807 : Int64)).toUInt64 >>> ((p3 &&& (63 : Int32)) &&& 0x3f).toInt64.toUInt64).toInt64) (((q2 &&& (9223372036854775807 : Int64)).toUInt64 >>> ((p4 &&& (63 : Int32)) &&& 0x3f).toInt64.toUInt64).toInt64) h0 n0 Z0) hZ (hw _ (List.mem_of_getElem? (i := 4) rfl)) (hw _ (List.mem_of_getElem? (i := 3) rfl)) (by decide) (by decide)) (g := (mkF m 77 #[.val (.long q1), .second, .val (.long q2), .second, .val (.int p3), .val (.int p4), .val (.long (((q1 &&& (9223372036854775807 : Int64)).toUInt64 >>> ((p3 &&& (63 : Int32)) &&& 0x3f).toInt64.toUInt64).toInt64)), .second, .val (.long (((q2 &&& (9223372036854775807 : Int64)).toUInt64 >>> ((p4 &&& (63 : Int32)) &&& 0x3f).toInt64.toUInt64).toInt64)), .second, .val (.long ((((q1 &&& (9223372036854775807 : Int64)).toUInt64 >>> ((p3 &&& (63 : Int32)) &&& 0x3f).toInt64.toUInt64).toInt64) * (((q2 &&& (9223372036854775807 : Int64)).toUInt64 >>> ((p4 &&& (63 : Int32)) &&& 0x3f).toInt64.toUInt64).toInt64))), .second] [(.long (((q2 &&& (9223372036854775807 : Int64)).toUInt64 >>> ((p4 &&& (63 : Int32)) &&& 0x3f).toInt64.toUInt64).toInt64)), (.long (((q1 &&& (9223372036854775807 : Int64)).toUInt64 >>> ((p3 &&& (63 : Int32)) &&& 0x3f).toInt64.toUInt64).toInt64))])) rfl (by rw [hml]; rfl) (argsL := [(.long (((q1 &&& (9223372036854775807 : Int64)).toUInt64 >>> ((p3 &&& (63 : Int32)) &&& 0x3f).toInt64.toUInt64).toInt64)), (.long (((q2 &&& (9223372036854775807 : Int64)).toUInt64 >>> ((p4 &&& (63 : Int32)) &&& 0x3f).toInt64.toUInt64).toInt64))]) (rest := []) (lenOf pd_0_0 rfl) rfl (by show 2 * 0 + _ ≤ _; exact Nat.le_of_eq rfl) (hb hby at_77) (fun _ _ => ⟨rfl, e0, (by decide : 0 + 0 ≤ _), (by decide : 0 + 0 ≤ _)⟩)
  dsimp only [Pt.U, Pt.locs, Pt.cells, Pt.slots] at X5 l5 y5 z5 st5 hQ5
  subst l5 y5 z5
  obtain ⟨rfl, N5q, e5⟩ := hQ5      -- what it returned, that it wrote nothing old, and the rest of your Q1
  have N5 := Fr.app N0 N5q
  obtain ⟨fs, hr, hrun, hended, hW, hsame⟩ := X5.leave (v := some (.int (1 : Int32))) (fun h => by rw [Bd.returns] at h; cases h)
  refine ⟨_, _, pre0 _ ?_, hrun, hended, _, _, rfl, ?_, ⟨_, rfl⟩, hW, hsame.mono (by decide) (by decide)⟩
  -- 4. STEPS
  · show Steps p.tables e below (s₁.setTop (mkF m 0 #[.val (.long q1), .second, .val (.long q2), .second, .val (.int p3), .val (.int p4), .unset, .unset, .unset, .unset, .unset, .unset] [])) _
    refine XS.lloadN X0.here hx rfl (hb hby at_0) rfl ?_
    show Steps p.tables e below (s₁.setTop (mkF m 1 #[.val (.long q1), .second, .val (.long q2), .second, .val (.int p3), .val (.int p4), .unset, .unset, .unset, .unset, .unset, .unset] [(.long q1)])) _
    refine X0.ldc2Long hx hown (mvT hZ (hw _ (List.mem_of_getElem? (i := 0) rfl))) (g := (mkF m 1 #[.val (.long q1), .second, .val (.long q2), .second, .val (.int p3), .val (.int p4), .unset, .unset, .unset, .unset, .unset, .unset] [(.long q1)])) rfl (hb hby at_1) _ ?_
    show Steps p.tables e below (s₁.setTop (mkF m 4 #[.val (.long q1), .second, .val (.long q2), .second, .val (.int p3), .val (.int p4), .unset, .unset, .unset, .unset, .unset, .unset] [(.long (9223372036854775807 : Int64)), (.long q1)])) _
    refine XS.land X0.here hx rfl (hb hby at_4) rfl ?_
    show Steps p.tables e below (s₁.setTop (mkF m 5 #[.val (.long q1), .second, .val (.long q2), .second, .val (.int p3), .val (.int p4), .unset, .unset, .unset, .unset, .unset, .unset] [(.long (q1 &&& (9223372036854775807 : Int64)))])) _
    refine XS.iload X0.here hx rfl (hb hby at_5) rfl ?_
    show Steps p.tables e below (s₁.setTop (mkF m 7 #[.val (.long q1), .second, .val (.long q2), .second, .val (.int p3), .val (.int p4), .unset, .unset, .unset, .unset, .unset, .unset] [(.int p3), (.long (q1 &&& (9223372036854775807 : Int64)))])) _
    refine XS.bipush X0.here hx rfl (hb hby at_7) ?_
    show Steps p.tables e below (s₁.setTop (mkF m 9 #[.val (.long q1), .second, .val (.long q2), .second, .val (.int p3), .val (.int p4), .unset, .unset, .unset, .unset, .unset, .unset] [(.int (63 : Int32)), (.int p3), (.long (q1 &&& (9223372036854775807 : Int64)))])) _
    refine XS.iand X0.here hx rfl (hb hby at_9) rfl ?_
    show Steps p.tables e below (s₁.setTop (mkF m 10 #[.val (.long q1), .second, .val (.long q2), .second, .val (.int p3), .val (.int p4), .unset, .unset, .unset, .unset, .unset, .unset] [(.int (p3 &&& (63 : Int32))), (.long (q1 &&& (9223372036854775807 : Int64)))])) _
    refine XS.lushr X0.here hx rfl (hb hby at_10) rfl ?_
    show Steps p.tables e below (s₁.setTop (mkF m 11 #[.val (.long q1), .second, .val (.long q2), .second, .val (.int p3), .val (.int p4), .unset, .unset, .unset, .unset, .unset, .unset] [(.long (((q1 &&& (9223372036854775807 : Int64)).toUInt64 >>> ((p3 &&& (63 : Int32)) &&& 0x3f).toInt64.toUInt64).toInt64))])) _
    refine XS.lstore X0.here hx rfl (hb hby at_11) rfl (l' := #[.val (.long q1), .second, .val (.long q2), .second, .val (.int p3), .val (.int p4), .val (.long (((q1 &&& (9223372036854775807 : Int64)).toUInt64 >>> ((p3 &&& (63 : Int32)) &&& 0x3f).toInt64.toUInt64).toInt64)), .second, .unset, .unset, .unset, .unset]) rfl ?_
    show Steps p.tables e below (s₁.setTop (mkF m 13 #[.val (.long q1), .second, .val (.long q2), .second, .val (.int p3), .val (.int p4), .val (.long (((q1 &&& (9223372036854775807 : Int64)).toUInt64 >>> ((p3 &&& (63 : Int32)) &&& 0x3f).toInt64.toUInt64).toInt64)), .second, .unset, .unset, .unset, .unset] [])) _
    refine XS.lloadN X0.here hx rfl (hb hby at_13) rfl ?_
    show Steps p.tables e below (s₁.setTop (mkF m 14 #[.val (.long q1), .second, .val (.long q2), .second, .val (.int p3), .val (.int p4), .val (.long (((q1 &&& (9223372036854775807 : Int64)).toUInt64 >>> ((p3 &&& (63 : Int32)) &&& 0x3f).toInt64.toUInt64).toInt64)), .second, .unset, .unset, .unset, .unset] [(.long q2)])) _
    refine X0.ldc2Long hx hown (mvT hZ (hw _ (List.mem_of_getElem? (i := 0) rfl))) (g := (mkF m 14 #[.val (.long q1), .second, .val (.long q2), .second, .val (.int p3), .val (.int p4), .val (.long (((q1 &&& (9223372036854775807 : Int64)).toUInt64 >>> ((p3 &&& (63 : Int32)) &&& 0x3f).toInt64.toUInt64).toInt64)), .second, .unset, .unset, .unset, .unset] [(.long q2)])) rfl (hb hby at_14) _ ?_
    show Steps p.tables e below (s₁.setTop (mkF m 17 #[.val (.long q1), .second, .val (.long q2), .second, .val (.int p3), .val (.int p4), .val (.long (((q1 &&& (9223372036854775807 : Int64)).toUInt64 >>> ((p3 &&& (63 : Int32)) &&& 0x3f).toInt64.toUInt64).toInt64)), .second, .unset, .unset, .unset, .unset] [(.long (9223372036854775807 : Int64)), (.long q2)])) _
    refine XS.land X0.here hx rfl (hb hby at_17) rfl ?_
    show Steps p.tables e below (s₁.setTop (mkF m 18 #[.val (.long q1), .second, .val (.long q2), .second, .val (.int p3), .val (.int p4), .val (.long (((q1 &&& (9223372036854775807 : Int64)).toUInt64 >>> ((p3 &&& (63 : Int32)) &&& 0x3f).toInt64.toUInt64).toInt64)), .second, .unset, .unset, .unset, .unset] [(.long (q2 &&& (9223372036854775807 : Int64)))])) _
    refine XS.iload X0.here hx rfl (hb hby at_18) rfl ?_
    show Steps p.tables e below (s₁.setTop (mkF m 20 #[.val (.long q1), .second, .val (.long q2), .second, .val (.int p3), .val (.int p4), .val (.long (((q1 &&& (9223372036854775807 : Int64)).toUInt64 >>> ((p3 &&& (63 : Int32)) &&& 0x3f).toInt64.toUInt64).toInt64)), .second, .unset, .unset, .unset, .unset] [(.int p4), (.long (q2 &&& (9223372036854775807 : Int64)))])) _
    refine XS.bipush X0.here hx rfl (hb hby at_20) ?_
    show Steps p.tables e below (s₁.setTop (mkF m 22 #[.val (.long q1), .second, .val (.long q2), .second, .val (.int p3), .val (.int p4), .val (.long (((q1 &&& (9223372036854775807 : Int64)).toUInt64 >>> ((p3 &&& (63 : Int32)) &&& 0x3f).toInt64.toUInt64).toInt64)), .second, .unset, .unset, .unset, .unset] [(.int (63 : Int32)), (.int p4), (.long (q2 &&& (9223372036854775807 : Int64)))])) _
    refine XS.iand X0.here hx rfl (hb hby at_22) rfl ?_
    show Steps p.tables e below (s₁.setTop (mkF m 23 #[.val (.long q1), .second, .val (.long q2), .second, .val (.int p3), .val (.int p4), .val (.long (((q1 &&& (9223372036854775807 : Int64)).toUInt64 >>> ((p3 &&& (63 : Int32)) &&& 0x3f).toInt64.toUInt64).toInt64)), .second, .unset, .unset, .unset, .unset] [(.int (p4 &&& (63 : Int32))), (.long (q2 &&& (9223372036854775807 : Int64)))])) _
    refine XS.lushr X0.here hx rfl (hb hby at_23) rfl ?_
    show Steps p.tables e below (s₁.setTop (mkF m 24 #[.val (.long q1), .second, .val (.long q2), .second, .val (.int p3), .val (.int p4), .val (.long (((q1 &&& (9223372036854775807 : Int64)).toUInt64 >>> ((p3 &&& (63 : Int32)) &&& 0x3f).toInt64.toUInt64).toInt64)), .second, .unset, .unset, .unset, .unset] [(.long (((q2 &&& (9223372036854775807 : Int64)).toUInt64 >>> ((p4 &&& (63 : Int32)) &&& 0x3f).toInt64.toUInt64).toInt64))])) _
    refine XS.lstore X0.here hx rfl (hb hby at_24) rfl (l' := #[.val (.long q1), .second, .val (.long q2), .second, .val (.int p3), .val (.int p4), .val (.long (((q1 &&& (9223372036854775807 : Int64)).toUInt64 >>> ((p3 &&& (63 : Int32)) &&& 0x3f).toInt64.toUInt64).toInt64)), .second, .val (.long (((q2 &&& (9223372036854775807 : Int64)).toUInt64 >>> ((p4 &&& (63 : Int32)) &&& 0x3f).toInt64.toUInt64).toInt64)), .second, .unset, .unset]) rfl ?_
    show Steps p.tables e below (s₁.setTop (mkF m 26 #[.val (.long q1), .second, .val (.long q2), .second, .val (.int p3), .val (.int p4), .val (.long (((q1 &&& (9223372036854775807 : Int64)).toUInt64 >>> ((p3 &&& (63 : Int32)) &&& 0x3f).toInt64.toUInt64).toInt64)), .second, .val (.long (((q2 &&& (9223372036854775807 : Int64)).toUInt64 >>> ((p4 &&& (63 : Int32)) &&& 0x3f).toInt64.toUInt64).toInt64)), .second, .unset, .unset] [])) _
    refine XS.lload X0.here hx rfl (hb hby at_26) rfl ?_
    show Steps p.tables e below (s₁.setTop (mkF m 28 #[.val (.long q1), .second, .val (.long q2), .second, .val (.int p3), .val (.int p4), .val (.long (((q1 &&& (9223372036854775807 : Int64)).toUInt64 >>> ((p3 &&& (63 : Int32)) &&& 0x3f).toInt64.toUInt64).toInt64)), .second, .val (.long (((q2 &&& (9223372036854775807 : Int64)).toUInt64 >>> ((p4 &&& (63 : Int32)) &&& 0x3f).toInt64.toUInt64).toInt64)), .second, .unset, .unset] [(.long (((q1 &&& (9223372036854775807 : Int64)).toUInt64 >>> ((p3 &&& (63 : Int32)) &&& 0x3f).toInt64.toUInt64).toInt64))])) _
    refine XS.lconst X0.here hx rfl (hb hby at_28) ?_
    show Steps p.tables e below (s₁.setTop (mkF m 29 #[.val (.long q1), .second, .val (.long q2), .second, .val (.int p3), .val (.int p4), .val (.long (((q1 &&& (9223372036854775807 : Int64)).toUInt64 >>> ((p3 &&& (63 : Int32)) &&& 0x3f).toInt64.toUInt64).toInt64)), .second, .val (.long (((q2 &&& (9223372036854775807 : Int64)).toUInt64 >>> ((p4 &&& (63 : Int32)) &&& 0x3f).toInt64.toUInt64).toInt64)), .second, .unset, .unset] [(.long (0 : Int64)), (.long (((q1 &&& (9223372036854775807 : Int64)).toUInt64 >>> ((p3 &&& (63 : Int32)) &&& 0x3f).toInt64.toUInt64).toInt64))])) _
    refine XS.lcmp X0.here hx rfl (hb hby at_29) rfl ?_
    show Steps p.tables e below (s₁.setTop (mkF m 30 #[.val (.long q1), .second, .val (.long q2), .second, .val (.int p3), .val (.int p4), .val (.long (((q1 &&& (9223372036854775807 : Int64)).toUInt64 >>> ((p3 &&& (63 : Int32)) &&& 0x3f).toInt64.toUInt64).toInt64)), .second, .val (.long (((q2 &&& (9223372036854775807 : Int64)).toUInt64 >>> ((p4 &&& (63 : Int32)) &&& 0x3f).toInt64.toUInt64).toInt64)), .second, .unset, .unset] [(.int (lcmpW (((q1 &&& (9223372036854775807 : Int64)).toUInt64 >>> ((p3 &&& (63 : Int32)) &&& 0x3f).toInt64.toUInt64).toInt64) (0 : Int64)))])) _
    refine XS.ifNo X0.here hx rfl (hb hby at_30) rfl ((if0 _ _).trans (feq hc30).1) ?_
    show Steps p.tables e below (s₁.setTop (mkF m 33 #[.val (.long q1), .second, .val (.long q2), .second, .val (.int p3), .val (.int p4), .val (.long (((q1 &&& (9223372036854775807 : Int64)).toUInt64 >>> ((p3 &&& (63 : Int32)) &&& 0x3f).toInt64.toUInt64).toInt64)), .second, .val (.long (((q2 &&& (9223372036854775807 : Int64)).toUInt64 >>> ((p4 &&& (63 : Int32)) &&& 0x3f).toInt64.toUInt64).toInt64)), .second, .unset, .unset] [])) _
    refine XS.lload X0.here hx rfl (hb hby at_33) rfl ?_
    show Steps p.tables e below (s₁.setTop (mkF m 35 #[.val (.long q1), .second, .val (.long q2), .second, .val (.int p3), .val (.int p4), .val (.long (((q1 &&& (9223372036854775807 : Int64)).toUInt64 >>> ((p3 &&& (63 : Int32)) &&& 0x3f).toInt64.toUInt64).toInt64)), .second, .val (.long (((q2 &&& (9223372036854775807 : Int64)).toUInt64 >>> ((p4 &&& (63 : Int32)) &&& 0x3f).toInt64.toUInt64).toInt64)), .second, .unset, .unset] [(.long (((q2 &&& (9223372036854775807 : Int64)).toUInt64 >>> ((p4 &&& (63 : Int32)) &&& 0x3f).toInt64.toUInt64).toInt64))])) _
    refine XS.lconst X0.here hx rfl (hb hby at_35) ?_
    show Steps p.tables e below (s₁.setTop (mkF m 36 #[.val (.long q1), .second, .val (.long q2), .second, .val (.int p3), .val (.int p4), .val (.long (((q1 &&& (9223372036854775807 : Int64)).toUInt64 >>> ((p3 &&& (63 : Int32)) &&& 0x3f).toInt64.toUInt64).toInt64)), .second, .val (.long (((q2 &&& (9223372036854775807 : Int64)).toUInt64 >>> ((p4 &&& (63 : Int32)) &&& 0x3f).toInt64.toUInt64).toInt64)), .second, .unset, .unset] [(.long (0 : Int64)), (.long (((q2 &&& (9223372036854775807 : Int64)).toUInt64 >>> ((p4 &&& (63 : Int32)) &&& 0x3f).toInt64.toUInt64).toInt64))])) _
    refine XS.lcmp X0.here hx rfl (hb hby at_36) rfl ?_
    show Steps p.tables e below (s₁.setTop (mkF m 37 #[.val (.long q1), .second, .val (.long q2), .second, .val (.int p3), .val (.int p4), .val (.long (((q1 &&& (9223372036854775807 : Int64)).toUInt64 >>> ((p3 &&& (63 : Int32)) &&& 0x3f).toInt64.toUInt64).toInt64)), .second, .val (.long (((q2 &&& (9223372036854775807 : Int64)).toUInt64 >>> ((p4 &&& (63 : Int32)) &&& 0x3f).toInt64.toUInt64).toInt64)), .second, .unset, .unset] [(.int (lcmpW (((q2 &&& (9223372036854775807 : Int64)).toUInt64 >>> ((p4 &&& (63 : Int32)) &&& 0x3f).toInt64.toUInt64).toInt64) (0 : Int64)))])) _
    refine XS.ifYes X0.here hx rfl (pc0 := 37) (pc' := 46) rfl (hb hby at_37) rfl ((if0 _ _).trans (feq hc37).2) (by decide) (by decide) ?_
    show Steps p.tables e below (s₁.setTop (mkF m 46 #[.val (.long q1), .second, .val (.long q2), .second, .val (.int p3), .val (.int p4), .val (.long (((q1 &&& (9223372036854775807 : Int64)).toUInt64 >>> ((p3 &&& (63 : Int32)) &&& 0x3f).toInt64.toUInt64).toInt64)), .second, .val (.long (((q2 &&& (9223372036854775807 : Int64)).toUInt64 >>> ((p4 &&& (63 : Int32)) &&& 0x3f).toInt64.toUInt64).toInt64)), .second, .unset, .unset] [])) _
    refine XS.lload X0.here hx rfl (hb hby at_46) rfl ?_
    show Steps p.tables e below (s₁.setTop (mkF m 48 #[.val (.long q1), .second, .val (.long q2), .second, .val (.int p3), .val (.int p4), .val (.long (((q1 &&& (9223372036854775807 : Int64)).toUInt64 >>> ((p3 &&& (63 : Int32)) &&& 0x3f).toInt64.toUInt64).toInt64)), .second, .val (.long (((q2 &&& (9223372036854775807 : Int64)).toUInt64 >>> ((p4 &&& (63 : Int32)) &&& 0x3f).toInt64.toUInt64).toInt64)), .second, .unset, .unset] [(.long (((q1 &&& (9223372036854775807 : Int64)).toUInt64 >>> ((p3 &&& (63 : Int32)) &&& 0x3f).toInt64.toUInt64).toInt64))])) _
    refine X0.ldc2Long hx hown (mvT hZ (hw _ (List.mem_of_getElem? (i := 0) rfl))) (g := (mkF m 48 #[.val (.long q1), .second, .val (.long q2), .second, .val (.int p3), .val (.int p4), .val (.long (((q1 &&& (9223372036854775807 : Int64)).toUInt64 >>> ((p3 &&& (63 : Int32)) &&& 0x3f).toInt64.toUInt64).toInt64)), .second, .val (.long (((q2 &&& (9223372036854775807 : Int64)).toUInt64 >>> ((p4 &&& (63 : Int32)) &&& 0x3f).toInt64.toUInt64).toInt64)), .second, .unset, .unset] [(.long (((q1 &&& (9223372036854775807 : Int64)).toUInt64 >>> ((p3 &&& (63 : Int32)) &&& 0x3f).toInt64.toUInt64).toInt64))])) rfl (hb hby at_48) _ ?_
    show Steps p.tables e below (s₁.setTop (mkF m 51 #[.val (.long q1), .second, .val (.long q2), .second, .val (.int p3), .val (.int p4), .val (.long (((q1 &&& (9223372036854775807 : Int64)).toUInt64 >>> ((p3 &&& (63 : Int32)) &&& 0x3f).toInt64.toUInt64).toInt64)), .second, .val (.long (((q2 &&& (9223372036854775807 : Int64)).toUInt64 >>> ((p4 &&& (63 : Int32)) &&& 0x3f).toInt64.toUInt64).toInt64)), .second, .unset, .unset] [(.long (9223372036854775807 : Int64)), (.long (((q1 &&& (9223372036854775807 : Int64)).toUInt64 >>> ((p3 &&& (63 : Int32)) &&& 0x3f).toInt64.toUInt64).toInt64))])) _
    refine XS.lload X0.here hx rfl (hb hby at_51) rfl ?_
    show Steps p.tables e below (s₁.setTop (mkF m 53 #[.val (.long q1), .second, .val (.long q2), .second, .val (.int p3), .val (.int p4), .val (.long (((q1 &&& (9223372036854775807 : Int64)).toUInt64 >>> ((p3 &&& (63 : Int32)) &&& 0x3f).toInt64.toUInt64).toInt64)), .second, .val (.long (((q2 &&& (9223372036854775807 : Int64)).toUInt64 >>> ((p4 &&& (63 : Int32)) &&& 0x3f).toInt64.toUInt64).toInt64)), .second, .unset, .unset] [(.long (((q2 &&& (9223372036854775807 : Int64)).toUInt64 >>> ((p4 &&& (63 : Int32)) &&& 0x3f).toInt64.toUInt64).toInt64)), (.long (9223372036854775807 : Int64)), (.long (((q1 &&& (9223372036854775807 : Int64)).toUInt64 >>> ((p3 &&& (63 : Int32)) &&& 0x3f).toInt64.toUInt64).toInt64))])) _
    refine XS.ldiv X0.here hx rfl (hb hby at_53) rfl hnz53 ?_
    show Steps p.tables e below (s₁.setTop (mkF m 54 #[.val (.long q1), .second, .val (.long q2), .second, .val (.int p3), .val (.int p4), .val (.long (((q1 &&& (9223372036854775807 : Int64)).toUInt64 >>> ((p3 &&& (63 : Int32)) &&& 0x3f).toInt64.toUInt64).toInt64)), .second, .val (.long (((q2 &&& (9223372036854775807 : Int64)).toUInt64 >>> ((p4 &&& (63 : Int32)) &&& 0x3f).toInt64.toUInt64).toInt64)), .second, .unset, .unset] [(.long ((9223372036854775807 : Int64) / (((q2 &&& (9223372036854775807 : Int64)).toUInt64 >>> ((p4 &&& (63 : Int32)) &&& 0x3f).toInt64.toUInt64).toInt64))), (.long (((q1 &&& (9223372036854775807 : Int64)).toUInt64 >>> ((p3 &&& (63 : Int32)) &&& 0x3f).toInt64.toUInt64).toInt64))])) _
    refine XS.lcmp X0.here hx rfl (hb hby at_54) rfl ?_
    show Steps p.tables e below (s₁.setTop (mkF m 55 #[.val (.long q1), .second, .val (.long q2), .second, .val (.int p3), .val (.int p4), .val (.long (((q1 &&& (9223372036854775807 : Int64)).toUInt64 >>> ((p3 &&& (63 : Int32)) &&& 0x3f).toInt64.toUInt64).toInt64)), .second, .val (.long (((q2 &&& (9223372036854775807 : Int64)).toUInt64 >>> ((p4 &&& (63 : Int32)) &&& 0x3f).toInt64.toUInt64).toInt64)), .second, .unset, .unset] [(.int (lcmpW (((q1 &&& (9223372036854775807 : Int64)).toUInt64 >>> ((p3 &&& (63 : Int32)) &&& 0x3f).toInt64.toUInt64).toInt64) ((9223372036854775807 : Int64) / (((q2 &&& (9223372036854775807 : Int64)).toUInt64 >>> ((p4 &&& (63 : Int32)) &&& 0x3f).toInt64.toUInt64).toInt64))))])) _
    refine XS.ifYes X0.here hx rfl (pc0 := 55) (pc' := 66) rfl (hb hby at_55) rfl ((if0 _ _).trans (flt hc55).2.2.2) (by decide) (by decide) ?_
    show Steps p.tables e below (s₁.setTop (mkF m 66 #[.val (.long q1), .second, .val (.long q2), .second, .val (.int p3), .val (.int p4), .val (.long (((q1 &&& (9223372036854775807 : Int64)).toUInt64 >>> ((p3 &&& (63 : Int32)) &&& 0x3f).toInt64.toUInt64).toInt64)), .second, .val (.long (((q2 &&& (9223372036854775807 : Int64)).toUInt64 >>> ((p4 &&& (63 : Int32)) &&& 0x3f).toInt64.toUInt64).toInt64)), .second, .unset, .unset] [])) _
    refine XS.lload X0.here hx rfl (hb hby at_66) rfl ?_
    show Steps p.tables e below (s₁.setTop (mkF m 68 #[.val (.long q1), .second, .val (.long q2), .second, .val (.int p3), .val (.int p4), .val (.long (((q1 &&& (9223372036854775807 : Int64)).toUInt64 >>> ((p3 &&& (63 : Int32)) &&& 0x3f).toInt64.toUInt64).toInt64)), .second, .val (.long (((q2 &&& (9223372036854775807 : Int64)).toUInt64 >>> ((p4 &&& (63 : Int32)) &&& 0x3f).toInt64.toUInt64).toInt64)), .second, .unset, .unset] [(.long (((q1 &&& (9223372036854775807 : Int64)).toUInt64 >>> ((p3 &&& (63 : Int32)) &&& 0x3f).toInt64.toUInt64).toInt64))])) _
    refine XS.lload X0.here hx rfl (hb hby at_68) rfl ?_
    show Steps p.tables e below (s₁.setTop (mkF m 70 #[.val (.long q1), .second, .val (.long q2), .second, .val (.int p3), .val (.int p4), .val (.long (((q1 &&& (9223372036854775807 : Int64)).toUInt64 >>> ((p3 &&& (63 : Int32)) &&& 0x3f).toInt64.toUInt64).toInt64)), .second, .val (.long (((q2 &&& (9223372036854775807 : Int64)).toUInt64 >>> ((p4 &&& (63 : Int32)) &&& 0x3f).toInt64.toUInt64).toInt64)), .second, .unset, .unset] [(.long (((q2 &&& (9223372036854775807 : Int64)).toUInt64 >>> ((p4 &&& (63 : Int32)) &&& 0x3f).toInt64.toUInt64).toInt64)), (.long (((q1 &&& (9223372036854775807 : Int64)).toUInt64 >>> ((p3 &&& (63 : Int32)) &&& 0x3f).toInt64.toUInt64).toInt64))])) _
    refine XS.lmul X0.here hx rfl (hb hby at_70) rfl ?_
    show Steps p.tables e below (s₁.setTop (mkF m 71 #[.val (.long q1), .second, .val (.long q2), .second, .val (.int p3), .val (.int p4), .val (.long (((q1 &&& (9223372036854775807 : Int64)).toUInt64 >>> ((p3 &&& (63 : Int32)) &&& 0x3f).toInt64.toUInt64).toInt64)), .second, .val (.long (((q2 &&& (9223372036854775807 : Int64)).toUInt64 >>> ((p4 &&& (63 : Int32)) &&& 0x3f).toInt64.toUInt64).toInt64)), .second, .unset, .unset] [(.long ((((q1 &&& (9223372036854775807 : Int64)).toUInt64 >>> ((p3 &&& (63 : Int32)) &&& 0x3f).toInt64.toUInt64).toInt64) * (((q2 &&& (9223372036854775807 : Int64)).toUInt64 >>> ((p4 &&& (63 : Int32)) &&& 0x3f).toInt64.toUInt64).toInt64)))])) _
    refine XS.lstore X0.here hx rfl (hb hby at_71) rfl (l' := #[.val (.long q1), .second, .val (.long q2), .second, .val (.int p3), .val (.int p4), .val (.long (((q1 &&& (9223372036854775807 : Int64)).toUInt64 >>> ((p3 &&& (63 : Int32)) &&& 0x3f).toInt64.toUInt64).toInt64)), .second, .val (.long (((q2 &&& (9223372036854775807 : Int64)).toUInt64 >>> ((p4 &&& (63 : Int32)) &&& 0x3f).toInt64.toUInt64).toInt64)), .second, .val (.long ((((q1 &&& (9223372036854775807 : Int64)).toUInt64 >>> ((p3 &&& (63 : Int32)) &&& 0x3f).toInt64.toUInt64).toInt64) * (((q2 &&& (9223372036854775807 : Int64)).toUInt64 >>> ((p4 &&& (63 : Int32)) &&& 0x3f).toInt64.toUInt64).toInt64))), .second]) rfl ?_
    show Steps p.tables e below (s₁.setTop (mkF m 73 #[.val (.long q1), .second, .val (.long q2), .second, .val (.int p3), .val (.int p4), .val (.long (((q1 &&& (9223372036854775807 : Int64)).toUInt64 >>> ((p3 &&& (63 : Int32)) &&& 0x3f).toInt64.toUInt64).toInt64)), .second, .val (.long (((q2 &&& (9223372036854775807 : Int64)).toUInt64 >>> ((p4 &&& (63 : Int32)) &&& 0x3f).toInt64.toUInt64).toInt64)), .second, .val (.long ((((q1 &&& (9223372036854775807 : Int64)).toUInt64 >>> ((p3 &&& (63 : Int32)) &&& 0x3f).toInt64.toUInt64).toInt64) * (((q2 &&& (9223372036854775807 : Int64)).toUInt64 >>> ((p4 &&& (63 : Int32)) &&& 0x3f).toInt64.toUInt64).toInt64))), .second] [])) _
    refine XS.lload X0.here hx rfl (hb hby at_73) rfl ?_
    show Steps p.tables e below (s₁.setTop (mkF m 75 #[.val (.long q1), .second, .val (.long q2), .second, .val (.int p3), .val (.int p4), .val (.long (((q1 &&& (9223372036854775807 : Int64)).toUInt64 >>> ((p3 &&& (63 : Int32)) &&& 0x3f).toInt64.toUInt64).toInt64)), .second, .val (.long (((q2 &&& (9223372036854775807 : Int64)).toUInt64 >>> ((p4 &&& (63 : Int32)) &&& 0x3f).toInt64.toUInt64).toInt64)), .second, .val (.long ((((q1 &&& (9223372036854775807 : Int64)).toUInt64 >>> ((p3 &&& (63 : Int32)) &&& 0x3f).toInt64.toUInt64).toInt64) * (((q2 &&& (9223372036854775807 : Int64)).toUInt64 >>> ((p4 &&& (63 : Int32)) &&& 0x3f).toInt64.toUInt64).toInt64))), .second] [(.long (((q1 &&& (9223372036854775807 : Int64)).toUInt64 >>> ((p3 &&& (63 : Int32)) &&& 0x3f).toInt64.toUInt64).toInt64))])) _
    refine XS.lload X0.here hx rfl (hb hby at_75) rfl ?_
    show Steps p.tables e below (s₁.setTop (mkF m 77 #[.val (.long q1), .second, .val (.long q2), .second, .val (.int p3), .val (.int p4), .val (.long (((q1 &&& (9223372036854775807 : Int64)).toUInt64 >>> ((p3 &&& (63 : Int32)) &&& 0x3f).toInt64.toUInt64).toInt64)), .second, .val (.long (((q2 &&& (9223372036854775807 : Int64)).toUInt64 >>> ((p4 &&& (63 : Int32)) &&& 0x3f).toInt64.toUInt64).toInt64)), .second, .val (.long ((((q1 &&& (9223372036854775807 : Int64)).toUInt64 >>> ((p3 &&& (63 : Int32)) &&& 0x3f).toInt64.toUInt64).toInt64) * (((q2 &&& (9223372036854775807 : Int64)).toUInt64 >>> ((p4 &&& (63 : Int32)) &&& 0x3f).toInt64.toUInt64).toInt64))), .second] [(.long (((q2 &&& (9223372036854775807 : Int64)).toUInt64 >>> ((p4 &&& (63 : Int32)) &&& 0x3f).toInt64.toUInt64).toInt64)), (.long (((q1 &&& (9223372036854775807 : Int64)).toUInt64 >>> ((p3 &&& (63 : Int32)) &&& 0x3f).toInt64.toUInt64).toInt64))])) _
    refine st5 _ ?_
    show Steps p.tables e below (T5.setTop (mkF m 80 #[.val (.long q1), .second, .val (.long q2), .second, .val (.int p3), .val (.int p4), .val (.long (((q1 &&& (9223372036854775807 : Int64)).toUInt64 >>> ((p3 &&& (63 : Int32)) &&& 0x3f).toInt64.toUInt64).toInt64)), .second, .val (.long (((q2 &&& (9223372036854775807 : Int64)).toUInt64 >>> ((p4 &&& (63 : Int32)) &&& 0x3f).toInt64.toUInt64).toInt64)), .second, .val (.long ((((q1 &&& (9223372036854775807 : Int64)).toUInt64 >>> ((p3 &&& (63 : Int32)) &&& 0x3f).toInt64.toUInt64).toInt64) * (((q2 &&& (9223372036854775807 : Int64)).toUInt64 >>> ((p4 &&& (63 : Int32)) &&& 0x3f).toInt64.toUInt64).toInt64))), .second] [(.long (Own391.tF (((q1 &&& (9223372036854775807 : Int64)).toUInt64 >>> ((p3 &&& (63 : Int32)) &&& 0x3f).toInt64.toUInt64).toInt64) (((q2 &&& (9223372036854775807 : Int64)).toUInt64 >>> ((p4 &&& (63 : Int32)) &&& 0x3f).toInt64.toUInt64).toInt64)))])) _
    refine XS.lload X5.here hx rfl (hb hby at_80) rfl ?_
    show Steps p.tables e below (T5.setTop (mkF m 82 #[.val (.long q1), .second, .val (.long q2), .second, .val (.int p3), .val (.int p4), .val (.long (((q1 &&& (9223372036854775807 : Int64)).toUInt64 >>> ((p3 &&& (63 : Int32)) &&& 0x3f).toInt64.toUInt64).toInt64)), .second, .val (.long (((q2 &&& (9223372036854775807 : Int64)).toUInt64 >>> ((p4 &&& (63 : Int32)) &&& 0x3f).toInt64.toUInt64).toInt64)), .second, .val (.long ((((q1 &&& (9223372036854775807 : Int64)).toUInt64 >>> ((p3 &&& (63 : Int32)) &&& 0x3f).toInt64.toUInt64).toInt64) * (((q2 &&& (9223372036854775807 : Int64)).toUInt64 >>> ((p4 &&& (63 : Int32)) &&& 0x3f).toInt64.toUInt64).toInt64))), .second] [(.long ((((q1 &&& (9223372036854775807 : Int64)).toUInt64 >>> ((p3 &&& (63 : Int32)) &&& 0x3f).toInt64.toUInt64).toInt64) * (((q2 &&& (9223372036854775807 : Int64)).toUInt64 >>> ((p4 &&& (63 : Int32)) &&& 0x3f).toInt64.toUInt64).toInt64))), (.long (Own391.tF (((q1 &&& (9223372036854775807 : Int64)).toUInt64 >>> ((p3 &&& (63 : Int32)) &&& 0x3f).toInt64.toUInt64).toInt64) (((q2 &&& (9223372036854775807 : Int64)).toUInt64 >>> ((p4 &&& (63 : Int32)) &&& 0x3f).toInt64.toUInt64).toInt64)))])) _
    refine XS.lcmp X5.here hx rfl (hb hby at_82) rfl ?_
    show Steps p.tables e below (T5.setTop (mkF m 83 #[.val (.long q1), .second, .val (.long q2), .second, .val (.int p3), .val (.int p4), .val (.long (((q1 &&& (9223372036854775807 : Int64)).toUInt64 >>> ((p3 &&& (63 : Int32)) &&& 0x3f).toInt64.toUInt64).toInt64)), .second, .val (.long (((q2 &&& (9223372036854775807 : Int64)).toUInt64 >>> ((p4 &&& (63 : Int32)) &&& 0x3f).toInt64.toUInt64).toInt64)), .second, .val (.long ((((q1 &&& (9223372036854775807 : Int64)).toUInt64 >>> ((p3 &&& (63 : Int32)) &&& 0x3f).toInt64.toUInt64).toInt64) * (((q2 &&& (9223372036854775807 : Int64)).toUInt64 >>> ((p4 &&& (63 : Int32)) &&& 0x3f).toInt64.toUInt64).toInt64))), .second] [(.int (lcmpW (Own391.tF (((q1 &&& (9223372036854775807 : Int64)).toUInt64 >>> ((p3 &&& (63 : Int32)) &&& 0x3f).toInt64.toUInt64).toInt64) (((q2 &&& (9223372036854775807 : Int64)).toUInt64 >>> ((p4 &&& (63 : Int32)) &&& 0x3f).toInt64.toUInt64).toInt64)) ((((q1 &&& (9223372036854775807 : Int64)).toUInt64 >>> ((p3 &&& (63 : Int32)) &&& 0x3f).toInt64.toUInt64).toInt64) * (((q2 &&& (9223372036854775807 : Int64)).toUInt64 >>> ((p4 &&& (63 : Int32)) &&& 0x3f).toInt64.toUInt64).toInt64))))])) _
    refine XS.ifNo X5.here hx rfl (hb hby at_83) rfl ((if0 _ _).trans (teq (hfin : (lcmpW (Own391.tF (((q1 &&& (9223372036854775807 : Int64)).toUInt64 >>> ((p3 &&& (63 : Int32)) &&& 0x3f).toInt64.toUInt64).toInt64) (((q2 &&& (9223372036854775807 : Int64)).toUInt64 >>> ((p4 &&& (63 : Int32)) &&& 0x3f).toInt64.toUInt64).toInt64)) ((((q1 &&& (9223372036854775807 : Int64)).toUInt64 >>> ((p3 &&& (63 : Int32)) &&& 0x3f).toInt64.toUInt64).toInt64) * (((q2 &&& (9223372036854775807 : Int64)).toUInt64 >>> ((p4 &&& (63 : Int32)) &&& 0x3f).toInt64.toUInt64).toInt64))) = (0 : Int32))).2) ?_
    show Steps p.tables e below (T5.setTop (mkF m 86 #[.val (.long q1), .second, .val (.long q2), .second, .val (.int p3), .val (.int p4), .val (.long (((q1 &&& (9223372036854775807 : Int64)).toUInt64 >>> ((p3 &&& (63 : Int32)) &&& 0x3f).toInt64.toUInt64).toInt64)), .second, .val (.long (((q2 &&& (9223372036854775807 : Int64)).toUInt64 >>> ((p4 &&& (63 : Int32)) &&& 0x3f).toInt64.toUInt64).toInt64)), .second, .val (.long ((((q1 &&& (9223372036854775807 : Int64)).toUInt64 >>> ((p3 &&& (63 : Int32)) &&& 0x3f).toInt64.toUInt64).toInt64) * (((q2 &&& (9223372036854775807 : Int64)).toUInt64 >>> ((p4 &&& (63 : Int32)) &&& 0x3f).toInt64.toUInt64).toInt64))), .second] [])) _
    refine XS.iconst X5.here hx rfl (hb hby at_86) ?_
    show Steps p.tables e below (T5.setTop (mkF m 87 #[.val (.long q1), .second, .val (.long q2), .second, .val (.int p3), .val (.int p4), .val (.long (((q1 &&& (9223372036854775807 : Int64)).toUInt64 >>> ((p3 &&& (63 : Int32)) &&& 0x3f).toInt64.toUInt64).toInt64)), .second, .val (.long (((q2 &&& (9223372036854775807 : Int64)).toUInt64 >>> ((p4 &&& (63 : Int32)) &&& 0x3f).toInt64.toUInt64).toInt64)), .second, .val (.long ((((q1 &&& (9223372036854775807 : Int64)).toUInt64 >>> ((p3 &&& (63 : Int32)) &&& 0x3f).toInt64.toUInt64).toInt64) * (((q2 &&& (9223372036854775807 : Int64)).toUInt64 >>> ((p4 &&& (63 : Int32)) &&& 0x3f).toInt64.toUInt64).toInt64))), .second] [(.int (1 : Int32))])) _
    refine XS.goto X5.here hx rfl (pc0 := 87) (pc' := 91) rfl (hb hby at_87) (by decide) (by decide) ?_
    show Steps p.tables e below (T5.setTop (mkF m 91 #[.val (.long q1), .second, .val (.long q2), .second, .val (.int p3), .val (.int p4), .val (.long (((q1 &&& (9223372036854775807 : Int64)).toUInt64 >>> ((p3 &&& (63 : Int32)) &&& 0x3f).toInt64.toUInt64).toInt64)), .second, .val (.long (((q2 &&& (9223372036854775807 : Int64)).toUInt64 >>> ((p4 &&& (63 : Int32)) &&& 0x3f).toInt64.toUInt64).toInt64)), .second, .val (.long ((((q1 &&& (9223372036854775807 : Int64)).toUInt64 >>> ((p3 &&& (63 : Int32)) &&& 0x3f).toInt64.toUInt64).toInt64) * (((q2 &&& (9223372036854775807 : Int64)).toUInt64 >>> ((p4 &&& (63 : Int32)) &&& 0x3f).toInt64.toUInt64).toInt64))), .second] [(.int (1 : Int32))])) _
    exact retN X5 hx (t := .boolean) Bd.returns (by simp) (hb hby at_91) hr
  · show Q0 Z q1 q2 p3 p4 h0 n0 _ T5.heap _
    exact ⟨rfl, N5⟩
theorem rm0 (l : Launch) (Z : State) (a0 : Array Value) (hw : ∀ d ∈ tables_1, d.before a0 Z = true) (ws : List Jvm.Cond) (q1 : Int64) (q2 : Int64) (p3 : Int32) (p4 : Int32) (h0 : Heap) (n0 : Nat) (Z0 : n0 ≤ h0.size) :
    MetFree l x (head1 (Jvm.Cond.code x code maxLocals ret :: ws) room_1) (fun a U => a = #[(.long q1), (.long q2), (.int p3), (.int p4)] ∧ Z.Warmed39 U.vm ∧ U.heap = h0) (fun _ _ _ _ _ => True) (fun _ U o U' => ∃ v L, o = .returned v ∧ Q0 Z q1 q2 p3 p4 h0 n0 v U'.heap L ∧ FrameEnd U o U' L room_1.cells room_1.slots) := by
  have ha := Own391.shifted_nonneg q1 p3
  have hb := Own391.shifted_nonneg q2 p4
  have ht := Own391.times_val _ _ ha hb
  have kA := rm0_tf l Z a0 hw ws q1 q2 p3 p4 h0 n0 Z0
  have kB := rm0_fff l Z a0 hw ws q1 q2 p3 p4 h0 n0 Z0
  have kC := rm0_ftff l Z a0 hw ws q1 q2 p3 p4 h0 n0 Z0
  have kD := rm0_fttf l Z a0 hw ws q1 q2 p3 p4 h0 n0 Z0
  generalize (((q1 &&& (9223372036854775807 : Int64)).toUInt64 >>> ((p3 &&& (63 : Int32)) &&& 0x3f).toInt64.toUInt64).toInt64) = a at *
  generalize (((q2 &&& (9223372036854775807 : Int64)).toUInt64 >>> ((p4 &&& (63 : Int32)) &&& 0x3f).toInt64.toUInt64).toInt64) = b at *
  have z0 : (0 : Int64).toInt = 0 := by decide
  have zM : (9223372036854775807 : Int64).toInt = 9223372036854775807 := by decide
  by_cases c1 : a = 0
  · refine kA (own_lceq.mpr (Int64.toInt_inj.mp ?_)) (own_lceq.mpr c1)
    rw [ht, c1, z0, Int.zero_mul]; rfl
  · by_cases c2 : b = 0
    · refine kB (own_lceq.mpr (Int64.toInt_inj.mp ?_)) (fun h => c1 (own_lceq.mp h)) (own_lceq.mpr c2)
      rw [ht, c2, z0, Int.mul_zero]; rfl
    · have b0 : 0 < b.toInt := by
        have : b.toInt ≠ 0 := fun q => c2 (Int64.toInt_inj.mp (q.trans z0.symm))
        omega
      by_cases c3 : (9223372036854775807 : Int64) / b < a
      · refine kC (own_lceq.mpr (Int64.toInt_inj.mp ?_)) (fun h => c1 (own_lceq.mp h)) (fun h => c2 (own_lceq.mp h)) c2 (own_lcgt.mpr c3)
        have := (Own391.gt_div b0).mp c3
        rw [ht, zM, if_neg (by omega)]
      · refine kD (own_lceq.mpr (Int64.toInt_inj.mp ?_)) (fun h => c1 (own_lceq.mp h)) (fun h => c2 (own_lceq.mp h)) c2 (fun h => c3 (own_lcgt.mp h))
        have hlt : ¬ 9223372036854775808 ≤ a.toInt * b.toInt := fun h => c3 ((Own391.gt_div b0).mpr h)
        have hnn : 0 ≤ a.toInt * b.toInt := Int.mul_nonneg ha hb
        rw [ht, if_pos (by omega), Jvm.Kit.i64_mul (by omega) (by omega)]
set_option maxRecDepth 65536 in
set_option maxHeartbeats 40000000 in
theorem comes_1 {Post : Tables → Env → Array Value → State → Outcome → State → Prop} (hpost : ∀ tb e args s v u, (limb_1_1.after args s (.returned v) u = true ∧ limb_1_2.after args s (.returned v) u = true ∧ True) → FrameEnd s (.returned v) u (Jvm.fieldLocs frame_1_writes args s ++ Jvm.arrayLocs frame_1_arrays args s ++ Jvm.staticLocs frame_1_statics s) 0 0 → Post tb e args s (.returned v) u) :
    ArmFor flags0 classFile x code maxLocals ret World_1 tables_1 room_1 Calls_1 rest_1 Pre_1 Post := by
  intro l hfl _ _ p e ha hc hk s m args below hf hA hF happ hP
  obtain ⟨hcalls, hrest, hpre⟩ := hP
  obtain ⟨-, -, -, hnamed, -, -, -, hat⟩ := (Spec.applies_iff hf).mp happ
  obtain ⟨hg, hn⟩ := and_e (Cond.before_iff.mp (show (Jvm.Cond.and given_1 narrow_1).before args s = true from hpre))
  obtain ⟨g6, g7⟩ := and_e hg
  obtain ⟨g8, g9⟩ := and_e g7
  obtain ⟨g10, g11⟩ := and_e g9
  obtain ⟨g12, g13⟩ := and_e g11
  obtain ⟨w0, w1, w2, w3, rfl⟩ : ∃ w0 w1 w2 w3 : Value, args = #[w0, w1, w2, w3] := by
    have hs : args.size = 4 := by simpa [Cond.value, given_1] using g6
    obtain ⟨L⟩ := args
    match L, hs with
    | [w0, w1, w2, w3], _ => exact ⟨w0, w1, w2, w3, rfl⟩
  have hw := fun d (hd : d ∈ tables_1) => atoms_spec (ws := Jvm.Cond.code x code maxLocals ret :: tables_1) hat d (List.mem_cons_of_mem _ hd)
  have hfit : Fit s := fun {y c} hc i hi => by
    obtain ⟨ha, rfl⟩ := Array.getElem?_eq_some_iff.mp hc
    have q := List.all_eq_true.mp ((Array.all_eq_true_iff_forall_mem.mp hF) _ (Array.getElem_mem ha)) i (List.mem_range.mpr hi)
    simpa [Array.getElem?_eq_getElem hi] using q
  obtain ⟨i0, ei0⟩ := isL_v g8
  obtain rfl : w0 = (.long i0) := Option.some.inj ei0
  obtain ⟨i1, ei1⟩ := isL_v g10
  obtain rfl : w1 = (.long i1) := Option.some.inj ei1
  obtain ⟨i2, ei2⟩ := is_v g12
  obtain rfl : w2 = (.int i2) := Option.some.inj ei2
  obtain ⟨i3, ei3⟩ := is_v g13
  obtain rfl : w3 = (.int i3) := Option.some.inj ei3
  obtain ⟨n, o, h1, h2, h3, _, L, rfl, ⟨rfl, N⟩, hq⟩ := rm0 l s _ hw tables_1 i0 i1 i2 i3 s.heap s.heap.size (Nat.le_refl _) p e ha hc hk s m _ below hf ((Spec.applies_iff_loose hf).mp happ).1 ⟨rfl, State.Warmed39.refl s, rfl⟩ trivial
  refine ⟨n, _, h1, h2, h3, hpost _ _ _ _ _ _ ⟨Cond.after_iff.mpr rfl, Cond.after_iff.mpr (eq_i res_at (Term.int_eval (1)) rfl), trivial⟩ ⟨hq.1, hq.2.1, (hq.2.2.sift fun y hy => Or.inr (N y hy)).mono (by decide) (by decide)⟩⟩
theorem main_1_1 : Claimed_1_1 := comes_1 fun _ _ _ _ _ _ h hF => ⟨h.1, hF⟩
theorem main_1_2 : Claimed_1_2 := comes_1 fun _ _ _ _ _ _ h hF => ⟨h.2.1, hF⟩
end Jvm.Pilot.@@N@@
namespace Jvm.Pilot.@@N@@
open Jvm Jvm.ClassFile Sem Op Lib Jvm.Free Jvm.Stand Jvm.Pilot.@@N@@.Jvm.D
/-! MADE BY PROGRAM (witnessworld.py) out of the Statement's table words and the real class files: 10 classes; the members and pool entries that the words name. The judged class is class 1, her method 1. -/
namespace start1
open Jvm.ClassFile
def u (s : String) : CpInfo := .utf8 (stringToUtf16 s)
/-- a pool by its gaps: so many unusable entries, then the entry; so many at the end -/
def gap : Nat → List CpInfo → List CpInfo
  | 0, r => r
  | n + 1, r => .unusable :: gap n r
def poolList (es : List (Nat × CpInfo)) (last : Nat) : List CpInfo := es.foldr (fun e r => gap e.1 (e.2 :: r)) (gap last [])
def pool (es : List (Nat × CpInfo)) (last : Nat) : Array CpInfo := ⟨poolList es last⟩
def fileOf (pool : Array CpInfo) (this : Nat) (attrs : Array Attribute := #[]) (ms : Array MethodInfo := #[]) (fl : Nat := 33) (sup : Nat := 0) (ifs : Array Nat := #[]) (fds : Array FieldInfo := #[]) : ClassFile where
  minorVersion := 0
  majorVersion := 65
  constantPool := pool
  accessFlags := fl
  thisClass := this
  superClass := sup
  interfaces := ifs
  fields := fds
  methods := ms
  attributes := attrs
def plain (name : String) (sup : Option ClassId) : Class where
  name := name
  kind := .ordinary
  loader := none
  accessFlags := 33
  super := sup
  interfaces := #[]
  cf := none
  fields := #[]
  methods := #[]
  instanceTypes := #[]
  staticTypes := #[]
  resolved := #[]
  callSites := []
  init := .initialized
  statics := none
  mirror := none

def pool0 : Array CpInfo := pool [(5, u "<init>"), (0, u "()V"), (1, .class_ 10), (1, u "java/lang/Object")] 113

def k0m0 : Method := { name := "<init>", desc := "()V", sig := { parameters := [], returnType := none }, accessFlags := 1, code := none }
/-- java/lang/Object -/
def k0 : Class := { plain "java/lang/Object" none with
  accessFlags := 33
  interfaces := #[]
  cf := some (fileOf pool0 8 #[] #[{ accessFlags := 1, nameIndex := 5, descriptorIndex := 6, attributes := #[] }] 33 0 #[] #[])
  fields := #[]
  methods := #[k0m0]
  instanceTypes := #[]
  staticTypes := #[]
  resolved := Array.replicate 124 none
  statics := none }

def pool1 : Array CpInfo := pool [(2, .class_ 4), (1, u "java/lang/Object"), (0, u "<init>"), (0, u "()V"), (2, .long 9223372036854775807), (1, .methodref 12 13), (0, .class_ 14), (0, .nameAndType 15 16), (0, u "com/example/fieldgrade/fieldgrade/model/Budget"), (0, u "times"), (0, u "(JJ)J"), (0, .class_ 18), (0, u "com/example/fieldgrade/fieldgrade/model/BudgetTimesPinLaw"), (2, u "law"), (0, u "(JJII)Z")] 3

def k1m0 : Method := { name := "<init>", desc := "()V", sig := { parameters := [], returnType := none }, accessFlags := 1, code := none }
def k1c1 : Code := { maxStack := 6, maxLocals := 12, code := code, exceptionTable := #[], attributes := #[] }
def k1m1 : Method := { name := "law", desc := "(JJII)Z", sig := { parameters := [.long, .long, .int, .int], returnType := some .boolean }, accessFlags := 9, code := some k1c1 }
/-- com/example/fieldgrade/fieldgrade/model/BudgetTimesPinLaw -/
def k1 : Class := { plain "com/example/fieldgrade/fieldgrade/model/BudgetTimesPinLaw" (some 0) with
  accessFlags := 49
  interfaces := #[]
  cf := some (fileOf pool1 17 #[] #[{ accessFlags := 1, nameIndex := 5, descriptorIndex := 6, attributes := #[] }, { accessFlags := 9, nameIndex := 21, descriptorIndex := 22, attributes := #[] }] 49 2 #[] #[])
  fields := #[]
  methods := #[k1m0, k1m1]
  instanceTypes := #[]
  staticTypes := #[]
  resolved := Array.replicate 26 none
  statics := none }

def pool2 : Array CpInfo := pool [(1, .class_ 2), (0, u "com/example/fieldgrade/fieldgrade/model/Budget"), (7, .class_ 12), (1, u "java/lang/Object"), (3, u "work"), (0, u "Ljava/lang/String;"), (2, u "steps"), (0, u "J"), (2, u "spent"), (29, .methodref 55 56), (0, .class_ 57), (0, .nameAndType 58 59), (0, u "java/lang/Math"), (0, u "multiplyHigh"), (0, u "(JJ)J"), (0, .long 9223372036854775807), (1, u "STEPS"), (1, u "PART"), (2, u "SITUATION"), (2, u "INPUT"), (0, u "COUNTED"), (2, u "TOTAL"), (0, u "COUNT"), (2, u "CHART"), (2, u "DIE"), (0, u "GCD"), (8, u "times")] 2

def k2c0 : Code := { maxStack := 4, maxLocals := 6, code := prog_4_method_7_code, exceptionTable := #[], attributes := #[] }
def k2m0 : Method := { name := "times", desc := "(JJ)J", sig := { parameters := [.long, .long], returnType := some .long }, accessFlags := 9, code := some k2c0 }
/-- com/example/fieldgrade/fieldgrade/model/Budget -/
def k2 : Class := { plain "com/example/fieldgrade/fieldgrade/model/Budget" (some 0) with
  accessFlags := 49
  interfaces := #[]
  cf := some (fileOf pool2 1 #[] #[{ accessFlags := 9, nameIndex := 91, descriptorIndex := 59, attributes := #[] }] 49 10 #[] #[{ accessFlags := 25, nameIndex := 62, descriptorIndex := 21, attributes := #[] }, { accessFlags := 25, nameIndex := 64, descriptorIndex := 21, attributes := #[] }, { accessFlags := 25, nameIndex := 67, descriptorIndex := 21, attributes := #[] }, { accessFlags := 25, nameIndex := 70, descriptorIndex := 21, attributes := #[] }, { accessFlags := 25, nameIndex := 71, descriptorIndex := 21, attributes := #[] }, { accessFlags := 25, nameIndex := 74, descriptorIndex := 21, attributes := #[] }, { accessFlags := 25, nameIndex := 75, descriptorIndex := 21, attributes := #[] }, { accessFlags := 25, nameIndex := 78, descriptorIndex := 21, attributes := #[] }, { accessFlags := 25, nameIndex := 81, descriptorIndex := 21, attributes := #[] }, { accessFlags := 25, nameIndex := 82, descriptorIndex := 21, attributes := #[] }, { accessFlags := 18, nameIndex := 16, descriptorIndex := 17, attributes := #[] }, { accessFlags := 18, nameIndex := 20, descriptorIndex := 21, attributes := #[] }, { accessFlags := 2, nameIndex := 24, descriptorIndex := 21, attributes := #[] }])
  fields := #[{ name := "STEPS", type := .long, accessFlags := 25, slot := 0, constantValue := 0 }, { name := "PART", type := .long, accessFlags := 25, slot := 1, constantValue := 0 }, { name := "SITUATION", type := .long, accessFlags := 25, slot := 2, constantValue := 0 }, { name := "INPUT", type := .long, accessFlags := 25, slot := 3, constantValue := 0 }, { name := "COUNTED", type := .long, accessFlags := 25, slot := 4, constantValue := 0 }, { name := "TOTAL", type := .long, accessFlags := 25, slot := 5, constantValue := 0 }, { name := "COUNT", type := .long, accessFlags := 25, slot := 6, constantValue := 0 }, { name := "CHART", type := .long, accessFlags := 25, slot := 7, constantValue := 0 }, { name := "DIE", type := .long, accessFlags := 25, slot := 8, constantValue := 0 }, { name := "GCD", type := .long, accessFlags := 25, slot := 9, constantValue := 0 }, { name := "work", type := (.object "java/lang/String"), accessFlags := 18, slot := 0, constantValue := 0 }, { name := "steps", type := .long, accessFlags := 18, slot := 1, constantValue := 0 }, { name := "spent", type := .long, accessFlags := 2, slot := 2, constantValue := 0 }]
  methods := #[k2m0]
  instanceTypes := #[(.object "java/lang/String"), .long, .long]
  staticTypes := #[.long, .long, .long, .long, .long, .long, .long, .long, .long, .long]
  resolved := Array.replicate 94 none
  statics := none }

def pool3 : Array CpInfo := pool [(1, .class_ 2), (0, u "java/lang/Math"), (1, .class_ 6), (1, u "java/lang/Object"), (0, u "<init>"), (0, u "()V"), (89, .class_ 100), (1, u "java/lang/Math$RandomNumberGeneratorHolder"), (20, u "(JJ)J"), (16, .long 4294967295), (3, u "multiplyHigh"), (29, u "negativeZeroFloatBits"), (0, u "J"), (2, u "negativeZeroDoubleBits"), (68, u "$assertionsDisabled"), (0, u "Z"), (91, u "twoToTheDoubleScaleDown"), (0, u "D"), (4, u "twoToTheDoubleScaleUp"), (9, u "E"), (3, u "PI"), (2, u "TAU"), (2, u "DEGREES_TO_RADIANS"), (0, u "RADIANS_TO_DEGREES")] 94

def k3m0 : Method := { name := "<init>", desc := "()V", sig := { parameters := [], returnType := none }, accessFlags := 2, code := none }
def k3c1 : Code := { maxStack := 6, maxLocals := 20, code := jdk_29_method_45_code, exceptionTable := #[], attributes := #[] }
def k3m1 : Method := { name := "multiplyHigh", desc := "(JJ)J", sig := { parameters := [.long, .long], returnType := some .long }, accessFlags := 9, code := some k3c1 }
/-- java/lang/Math -/
def k3 : Class := { plain "java/lang/Math" (some 0) with
  accessFlags := 49
  interfaces := #[]
  cf := some (fileOf pool3 1 #[.nestMembers #[98]] #[{ accessFlags := 2, nameIndex := 7, descriptorIndex := 8, attributes := #[] }, { accessFlags := 9, nameIndex := 142, descriptorIndex := 121, attributes := #[] }] 49 4 #[] #[{ accessFlags := 25, nameIndex := 354, descriptorIndex := 339, attributes := #[] }, { accessFlags := 25, nameIndex := 358, descriptorIndex := 339, attributes := #[] }, { accessFlags := 25, nameIndex := 361, descriptorIndex := 339, attributes := #[] }, { accessFlags := 26, nameIndex := 364, descriptorIndex := 339, attributes := #[] }, { accessFlags := 26, nameIndex := 365, descriptorIndex := 339, attributes := #[] }, { accessFlags := 26, nameIndex := 172, descriptorIndex := 173, attributes := #[] }, { accessFlags := 26, nameIndex := 176, descriptorIndex := 173, attributes := #[] }, { accessFlags := 8, nameIndex := 344, descriptorIndex := 339, attributes := #[] }, { accessFlags := 8, nameIndex := 338, descriptorIndex := 339, attributes := #[] }, { accessFlags := 4120, nameIndex := 245, descriptorIndex := 246, attributes := #[] }])
  fields := #[{ name := "E", type := .double, accessFlags := 25, slot := 0, constantValue := 0 }, { name := "PI", type := .double, accessFlags := 25, slot := 1, constantValue := 0 }, { name := "TAU", type := .double, accessFlags := 25, slot := 2, constantValue := 0 }, { name := "DEGREES_TO_RADIANS", type := .double, accessFlags := 26, slot := 3, constantValue := 0 }, { name := "RADIANS_TO_DEGREES", type := .double, accessFlags := 26, slot := 4, constantValue := 0 }, { name := "negativeZeroFloatBits", type := .long, accessFlags := 26, slot := 5, constantValue := 0 }, { name := "negativeZeroDoubleBits", type := .long, accessFlags := 26, slot := 6, constantValue := 0 }, { name := "twoToTheDoubleScaleUp", type := .double, accessFlags := 8, slot := 7, constantValue := 0 }, { name := "twoToTheDoubleScaleDown", type := .double, accessFlags := 8, slot := 8, constantValue := 0 }, { name := "$assertionsDisabled", type := .boolean, accessFlags := 4120, slot := 9, constantValue := 0 }]
  methods := #[k3m0, k3m1]
  instanceTypes := #[]
  staticTypes := #[.double, .double, .double, .double, .double, .long, .long, .double, .double, .boolean]
  resolved := Array.replicate 460 none
  statics := none }

def pool4 : Array CpInfo := pool [(1, u "java/lang/Cloneable"), (0, .class_ 1), (0, u "java/lang/Object"), (0, .class_ 3)] 3

/-- java/lang/Cloneable -/
def k4 : Class := { plain "java/lang/Cloneable" (some 0) with
  accessFlags := 1537
  interfaces := #[]
  cf := some (fileOf pool4 2 #[] #[] 1537 4 #[] #[])
  fields := #[]
  methods := #[]
  instanceTypes := #[]
  staticTypes := #[]
  resolved := Array.replicate 8 none
  statics := none }

def pool5 : Array CpInfo := pool [(1, u "java/io/Serializable"), (0, .class_ 1), (0, u "java/lang/Object"), (0, .class_ 3)] 3

/-- java/io/Serializable -/
def k5 : Class := { plain "java/io/Serializable" (some 0) with
  accessFlags := 1537
  interfaces := #[]
  cf := some (fileOf pool5 2 #[] #[] 1537 4 #[] #[])
  fields := #[]
  methods := #[]
  instanceTypes := #[]
  staticTypes := #[]
  resolved := Array.replicate 8 none
  statics := none }

/-- the primitive byte -/
def k6 : Class := { plain "byte" none with kind := .primitive 'B', accessFlags := 0x411 }
/-- [B -/
def k7 : Class := { plain "[B" (some 0) with kind := .array 6 .byte, interfaces := #[4, 5], accessFlags := 1041 }

/-- the primitive int -/
def k8 : Class := { plain "int" none with kind := .primitive 'I', accessFlags := 0x411 }
/-- [I -/
def k9 : Class := { plain "[I" (some 0) with kind := .array 8 .int, interfaces := #[4, 5], accessFlags := 1041 }

def heap : Heap := #[]
def classes : Array Class := #[k0, k1, k2, k3, k4, k5, k6, k7, k8, k9]
def interned : List (Array UInt16 × Addr) := []
def slotsUsed : Nat := 0
def theMethod : MethodId := ⟨1, 1⟩
def args0 : Array Value := #[.long 5, .long 300, .int 1, .int 2]
def aboutOver (below : List Frame) : State where
  vm := { classes := classes, interned := interned.toArray }
  heap := heap
  slotsUsed := slotsUsed
  threads := #[{ frames := .invoking theMethod args0 :: below }]
def below0 : List Frame := [.native { method := ⟨0, 0⟩, args := #[] }]
def about1 : State := aboutOver below0
def p0 : Program := .bare "" "" ""
def e0 : Env := launch0.env 0 0 0
theorem w_frames : about1.frames = Frame.invoking theMethod args0 :: below0 := rfl
set_option maxRecDepth 65536 in
theorem w_args : argsFit about1.vm theMethod args0 = true := by decide +kernel
set_option maxRecDepth 65536 in
theorem w_heap : heapFits about1 = true := by decide +kernel
set_option maxRecDepth 65536 in
theorem w_runnable : about1.curStatus? = some .runnable := by decide +kernel
set_option maxRecDepth 65536 in
theorem w_alone : about1.alone = true := by decide +kernel
set_option maxRecDepth 65536 in
theorem w_named : about1.methodNamed? x = some theMethod := by decide +kernel
set_option maxRecDepth 65536 in
theorem w_hears : about1.hears theMethod below0 = true := by decide +kernel
set_option maxRecDepth 65536 in
theorem w_ripe : about1.ripe theMethod args0 below0 = true := by decide +kernel
theorem w_running : about1.status = .running := rfl
set_option maxRecDepth 65536 in
theorem w_room : about1.hasRoom e0.platform room_1 = true :=
  launch0.hasRoom_least _ room_1 (by decide +kernel) (by decide +kernel) (by decide +kernel) (by decide +kernel) (by decide +kernel) (by decide +kernel)
theorem allAtoms_all (ts : List Jvm.Cond) (a : Array Jvm.Value) (st : Jvm.State) : (allAtoms ts).before a st = ts.all (fun c => c.before a st) := by
  induction ts with
  | nil => rfl
  | cons c t ih =>
    show (Jvm.Cond.and c (allAtoms t)).before a st = _
    rw [Jvm.Cond.before_and, ih, List.all_cons]
def words1 : List Jvm.Cond := Jvm.Cond.code x code maxLocals ret :: tables_1
/-- a 'code' word, met by the world's own term for the bytes: nothing is compared byte by byte -/
theorem code_word {y : MethodName} {bytes : ByteArray} {mx : Nat} {rt : Option FieldType} {a : Array Value} {s : State} {m : MethodId} {meth : Method} {c : Code} (h1 : s.methodNamed? y = some m) (h2 : s.vm.method? m = some meth) (h3 : meth.code = some c) (h4 : c.code = bytes)
    (h5 : (c.maxLocals == mx && c.exceptionTable.isEmpty && decide (c.maxStack ≤ mostOperands) && decide (meth.sig.returnType = rt) && !meth.locks && decide (parseMethodDescriptor y.desc = some meth.sig)) = true) : (Jvm.Cond.code y bytes mx rt).before a s = true := by
  simp only [Bool.and_eq_true, beq_iff_eq, Bool.not_eq_true', decide_eq_true_eq] at h5
  obtain ⟨⟨⟨⟨⟨g1, g2⟩, g3⟩, g4⟩, g5⟩, g6⟩ := h5
  simp [Cond.before, Cond.holds, Cond.value, h1, h2, h3, h4, g1, g2, g3, g4, g5, g6]
def isCode : Jvm.Cond → Bool
  | .code _ _ _ _ => true
  | _ => false
theorem all_split {L : List Jvm.Cond} {P : Jvm.Cond → Bool} (h1 : L.all (fun c => isCode c || P c) = true) (h2 : ∀ c ∈ L.filter isCode, P c = true) : L.all P = true := by
  refine List.all_eq_true.mpr fun c hc => ?_
  have h := List.all_eq_true.mp h1 c hc
  rcases Bool.eq_false_or_eq_true (isCode c) with hi | hi
  · exact h2 c (List.mem_filter.mpr ⟨hc, hi⟩)
  · simpa [hi] using h
set_option maxRecDepth 65536 in
theorem w_c0 : (Jvm.Cond.code x code maxLocals ret).before args0 about1 = true := code_word (m := ⟨1, 1⟩) (meth := k1m1) (c := k1c1) (by decide +kernel) rfl rfl rfl (by decide +kernel)
set_option maxRecDepth 65536 in
theorem w_c1 : (Jvm.Cond.code ({ cls := "com/example/fieldgrade/fieldgrade/model/Budget", name := "times", desc := "(JJ)J" } : Jvm.MethodName) prog_4_method_7_code (6 : Nat) (Option.some Jvm.ClassFile.FieldType.long)).before args0 about1 = true := code_word (m := ⟨2, 0⟩) (meth := k2m0) (c := k2c0) (by decide +kernel) rfl rfl rfl (by decide +kernel)
set_option maxRecDepth 65536 in
theorem w_c2 : (Jvm.Cond.code ({ cls := "java/lang/Math", name := "multiplyHigh", desc := "(JJ)J" } : Jvm.MethodName) jdk_29_method_45_code (20 : Nat) (Option.some Jvm.ClassFile.FieldType.long)).before args0 about1 = true := code_word (m := ⟨3, 1⟩) (meth := k3m1) (c := k3c1) (by decide +kernel) rfl rfl rfl (by decide +kernel)
def codes1 : List Jvm.Cond := [Jvm.Cond.code x code maxLocals ret, Jvm.Cond.code ({ cls := "com/example/fieldgrade/fieldgrade/model/Budget", name := "times", desc := "(JJ)J" } : Jvm.MethodName) prog_4_method_7_code (6 : Nat) (Option.some Jvm.ClassFile.FieldType.long), Jvm.Cond.code ({ cls := "java/lang/Math", name := "multiplyHigh", desc := "(JJ)J" } : Jvm.MethodName) jdk_29_method_45_code (20 : Nat) (Option.some Jvm.ClassFile.FieldType.long)]
set_option maxRecDepth 65536 in
theorem codes_eq : words1.filter isCode = codes1 := rfl
theorem w_codes : ∀ c ∈ words1.filter isCode, c.before args0 about1 = true := by
  rw [codes_eq]
  intro c hc
  simp only [codes1, List.mem_cons, List.not_mem_nil, or_false] at hc
  rcases hc with rfl | rfl | rfl
  · exact w_c0
  · exact w_c1
  · exact w_c2
set_option maxRecDepth 65536 in
theorem w_t1 : words1.all (fun c => isCode c || c.before args0 about1) = true := by decide +kernel
theorem w_tables : (allAtoms (Jvm.Cond.code x code maxLocals ret :: tables_1)).before args0 about1 = true := by
  rw [allAtoms_all]
  show words1.all (fun c => c.before args0 about1) = true
  refine all_split ?_ w_codes
  rw [w_t1]
set_option maxRecDepth 65536 in
theorem w_case : (Jvm.Cond.and given_1 narrow_1).before args0 about1 = true := by decide +kernel
theorem w_applies : (headSpec (Jvm.Cond.code x code maxLocals ret :: tables_1) room_1).applies x e0.platform about1 = true :=
  (Spec.applies_iff w_frames).mpr ⟨w_running, w_runnable, w_alone, w_named, w_hears, w_ripe, w_room, w_tables⟩
theorem atStart : AtStart classFile x code maxLocals ret World_1 tables_1 room_1 Calls_1 rest_1 Pre_1 launch0 p0 e0 about1 theMethod args0 below0 :=
  ⟨lists_1, trivial, launch0.admits_env _ _ _, launch0.least_env, fairChoices_fair.cas, fairChoices_fair.clock, w_frames, w_args, w_heap, w_applies, trivial, trivial, w_case⟩
end start1
theorem witness_1 : WitnessClaimed_1 := ⟨start1.p0, start1.e0, start1.about1, start1.theMethod, start1.args0, start1.below0, start1.atStart⟩
end Jvm.Pilot.@@N@@
