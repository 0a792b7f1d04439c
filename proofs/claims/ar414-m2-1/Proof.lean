import JvmDerived
import JvmDerived.Pilot.@@N@@Statement
import JvmDerived.Pilot.@@N@@Code
set_option linter.unusedVariables false
set_option linter.unusedSimpArgs false
@@BLOCK:NumsL.lean.txt@@
namespace Jvm.RoadKit
open Sem ClassFile Op Lib Jvm.Stand Jvm.Free Jvm.LawKit
section New
variable {p : Program} {l : Launch} {e : Env} {R : Room} {s : State} {m : MethodId} {args : Array Value} {below : List Frame} {meth : Method} {c : Code} {T : State} {locs : List Loc} {cells slots : Nat}
theorem retI (X : Stand p l e R s m args below meth c T locs cells slots) (hx : p.tables.exec = Jvm.exec) {pc : Nat} {Ls : Array Slot} {z : Int32} {rest : List Value} (hret : meth.sig.returnType = some .int) (hd : decode c.code pc = .ok (.ireturn, 1)) {fs : List Frame}
    (hl : ∀ (f : JFrame) (acts : List Action), f.method = m → f.locked = none → f.entered = [] → (doReturn e (T.setTop f) acts (some (.int z))).1 = T.setFrames fs) : Steps p.tables e below (T.setTop (mkF m pc Ls (.int z :: rest))) (T.setFrames fs) := by
  have hm' : T.vm.method? m = some meth := X.method'
  have hn : narrow .int (.int z) = .int z := rfl
  show Steps p.tables e below (T.setTop { method := m, pc := pc, locals := Ls, stack := _ :: rest, locked := none }) _
  jvm_step X.here [X.here.top, hx, hd, hm', hret, hn]
  first | (intro acts; rw [hl _ acts rfl rfl rfl]) | rw [hl _ _ rfl rfl rfl]
  exact Steps.refl _
theorem own_retL (X : Stand p l e R s m args below meth c T locs cells slots) (hx : p.tables.exec = Jvm.exec) {pc : Nat} {Ls : Array Slot} {z : Int64} {rest : List Value} (hret : meth.sig.returnType = some .long) (hd : decode c.code pc = .ok (.lreturn, 1)) {fs : List Frame}
    (hl : ∀ (f : JFrame) (acts : List Action), f.method = m → f.locked = none → f.entered = [] → (doReturn e (T.setTop f) acts (some (.long z))).1 = T.setFrames fs) : Steps p.tables e below (T.setTop (mkF m pc Ls (.long z :: rest))) (T.setFrames fs) := by
  have hm' : T.vm.method? m = some meth := X.method'
  have hn : narrow .long (.long z) = .long z := rfl
  show Steps p.tables e below (T.setTop { method := m, pc := pc, locals := Ls, stack := _ :: rest, locked := none }) _
  jvm_step X.here [X.here.top, hx, hd, hm', hret, hn]
  first | (intro acts; rw [hl _ acts rfl rfl rfl]) | rw [hl _ _ rfl rfl rfl]
  exact Steps.refl _
theorem own_retD (X : Stand p l e R s m args below meth c T locs cells slots) (hx : p.tables.exec = Jvm.exec) {pc : Nat} {Ls : Array Slot} {z : UInt64} {rest : List Value} (hret : meth.sig.returnType = some .double) (hd : decode c.code pc = .ok (.dreturn, 1)) {fs : List Frame}
    (hl : ∀ (f : JFrame) (acts : List Action), f.method = m → f.locked = none → f.entered = [] → (doReturn e (T.setTop f) acts (some (.double z))).1 = T.setFrames fs) : Steps p.tables e below (T.setTop (mkF m pc Ls (.double z :: rest))) (T.setFrames fs) := by
  have hm' : T.vm.method? m = some meth := X.method'
  have hn : narrow .double (.double z) = .double z := rfl
  show Steps p.tables e below (T.setTop { method := m, pc := pc, locals := Ls, stack := _ :: rest, locked := none }) _
  jvm_step X.here [X.here.top, hx, hd, hm', hret, hn]
  first | (intro acts; rw [hl _ acts rfl rfl rfl]) | rw [hl _ _ rfl rfl rfl]
  exact Steps.refl _
end New
end Jvm.RoadKit
namespace Jvm.Pilot.@@N@@
open Jvm Jvm.ClassFile Sem Op Lib Jvm.Free Jvm.Stand Jvm.LawKit Jvm.RoadKit Bundle Jvm.Pilot.@@N@@.Jvm.D
namespace StrChars
def lo8 (x : Int32) : Int32 := x.toInt8.toInt32
theorem lo8_mask {x : Int32} (h0 : ¬ x < 0) (h1 : ¬ 255 < x) : lo8 x &&& 255 = x := by
  have t : ∀ k : Fin 256, lo8 (Int32.ofNat k.val) &&& 255 = Int32.ofNat k.val := by decide +kernel
  rw [Int32.lt_iff_toInt_lt] at h0 h1
  have e0 : (0 : Int32).toInt = 0 := rfl
  have e1 : (255 : Int32).toInt = 255 := rfl
  obtain ⟨k, hk⟩ : ∃ k : Nat, x.toInt = k := ⟨x.toInt.toNat, by omega⟩
  have hx : x = Int32.ofNat k := Int32.toInt_inj.mp (by rw [hk, Int32.toInt_ofNat_small (by omega)])
  rw [hx]
  exact t ⟨k, by omega⟩
def hi8 (x : Int32) : Int32 := lo8 (x >>> ((8 : Int32) &&& 31))
/-- what StringUTF16.getChar makes of two bytes -/
def pairCh (u v : Int32) : Int32 := (((u &&& 255) <<< ((0 : Int32) &&& 31)) ||| ((v &&& 255) <<< ((8 : Int32) &&& 31))).toUInt32.toUInt16.toUInt32.toInt32
theorem shr0 (c : Int32) : c >>> ((0 : Int32) &&& 31) = c := by
  have e : ((0 : Int32) &&& 31) = 0 := by decide
  rw [e]
  apply Int32.toBitVec_inj.mp
  rw [Int32.toBitVec_shiftRight]
  have e1 : ((0 : Int32).toBitVec.smod 32) = 0#32 := by decide
  rw [e1, BitVec.sshiftRight_eq']
  exact BitVec.sshiftRight_zero
theorem lo8_and (x : Int32) : (lo8 x &&& 255).toBitVec.toNat = x.toBitVec.toNat % 256 := by
  have h : (lo8 x).toBitVec = (x.toBitVec.signExtend 8).signExtend 32 := by rw [lo8, Int8.toBitVec_toInt32, Int32.toBitVec_toInt8]
  rw [Int32.toBitVec_and, BitVec.toNat_and, h]
  have e : ((x.toBitVec.signExtend 8).signExtend 32).toNat % 256 = x.toBitVec.toNat % 256 := by
    rw [BitVec.toNat_signExtend]
    have hlt := x.toBitVec.isLt
    simp only [BitVec.toNat_setWidth, BitVec.toNat_signExtend]
    split <;> split <;> omega
  rw [← e]
  exact Nat.and_two_pow_sub_one_eq_mod _ 8
theorem pair_says {c : Int32} (h0 : ¬ c < 0) (h1 : ¬ 65535 < c) : pairCh (lo8 c) (hi8 c) = c := by
  rw [Int32.lt_iff_toInt_lt] at h0 h1
  have e0 : (0 : Int32).toInt = 0 := rfl
  have e1 : (65535 : Int32).toInt = 65535 := rfl
  have hc : c.toInt = c.toBitVec.toNat := by
    have := c.toBitVec.isLt
    have e : c.toInt = c.toBitVec.toInt := rfl
    rw [e] at h0 h1
    rw [e]
    rw [BitVec.toInt_eq_toNat_cond] at h0 h1 ⊢
    split at h0 <;> split <;> omega
  have hn : c.toBitVec.toNat < 65536 := by omega
  have a1 := lo8_and c
  have a2 : (hi8 c &&& 255).toBitVec.toNat = c.toBitVec.toNat / 256 := by
    rw [hi8, lo8_and]
    have e : ((8 : Int32) &&& 31) = 8 := by decide
    rw [e, Int32.toBitVec_shiftRight]
    have e2 : ((8 : Int32).toBitVec.smod 32) = 8#32 := by decide
    rw [e2, BitVec.sshiftRight_eq', BitVec.toNat_sshiftRight_of_msb_false (by rw [BitVec.msb_eq_false_iff_two_mul_lt]; omega)]
    show c.toBitVec.toNat >>> 8 % 256 = _
    rw [Nat.shiftRight_eq_div_pow]
    omega
  unfold pairCh
  apply Int32.toBitVec_inj.mp
  apply BitVec.eq_of_toNat_eq
  have f0 : ((0 : Int32) &&& 31) = 0 := by decide
  have f8 : ((8 : Int32) &&& 31) = 8 := by decide
  rw [f0, f8]
  have g : (((lo8 c &&& 255) <<< (0 : Int32)) ||| ((hi8 c &&& 255) <<< (8 : Int32))).toBitVec.toNat = c.toBitVec.toNat := by
    rw [Int32.toBitVec_or, Int32.toBitVec_shiftLeft, Int32.toBitVec_shiftLeft]
    have s0 : ((0 : Int32).toBitVec.smod 32) = 0#32 := by decide
    have s8 : ((8 : Int32).toBitVec.smod 32) = 8#32 := by decide
    rw [s0, s8, BitVec.toNat_or]
    simp only [BitVec.shiftLeft_eq', BitVec.toNat_shiftLeft, a1, a2]
    show (c.toBitVec.toNat % 256) <<< 0 % 2 ^ 32 ||| (c.toBitVec.toNat / 256) <<< 8 % 2 ^ 32 = _
    rw [Nat.shiftLeft_zero, Nat.mod_eq_of_lt (show c.toBitVec.toNat % 256 < 2 ^ 32 by omega), Nat.mod_eq_of_lt (show (c.toBitVec.toNat / 256) <<< 8 < 2 ^ 32 by rw [Nat.shiftLeft_eq]; omega), Nat.or_comm, ← Nat.shiftLeft_add_eq_or_of_lt (by omega), Nat.shiftLeft_eq]
    omega
  show BitVec.toNat (((((lo8 c &&& 255) <<< (0 : Int32)) ||| ((hi8 c &&& 255) <<< (8 : Int32))).toBitVec.setWidth 16).setWidth 32) = _
  rw [BitVec.toNat_setWidth, BitVec.toNat_setWidth, g]
  omega
theorem shr1 {n : Nat} (h : 2 * n < 2 ^ 31) : Int32.ofNat (2 * n) >>> ((1 : Int32) &&& 31) = Int32.ofNat n := by
  have e : ((1 : Int32) &&& 31) = 1 := by decide
  rw [e]
  apply Int32.toBitVec_inj.mp
  rw [Int32.toBitVec_shiftRight]
  have e1 : ((1 : Int32).toBitVec.smod 32) = 1#32 := by decide
  have hm : (BitVec.ofNat 32 (2 * n)).toNat = 2 * n := by rw [BitVec.toNat_ofNat, Nat.mod_eq_of_lt (by omega)]
  rw [e1, BitVec.sshiftRight_eq']
  apply BitVec.eq_of_toNat_eq
  show ((BitVec.ofNat 32 (2 * n)).sshiftRight 1).toNat = (BitVec.ofNat 32 n).toNat
  rw [BitVec.toNat_sshiftRight_of_msb_false (by rw [BitVec.msb_eq_false_iff_two_mul_lt, hm]; omega), hm, BitVec.toNat_ofNat, Nat.shiftRight_eq_div_pow]
  omega
end StrChars
theorem wI {d : Jvm.Cond} (i : Nat) (h : tables_1[i]? = some d) : d ∈ tables_1 := List.mem_of_getElem? h
def own_QR (r : Value) (h0 : Heap) (n0 : Nat) (v : Option Value) (h : Heap) (L : List Loc) : Prop := v = some r ∧ Fr n0 L ∧ h = h0
def own_Q1 (h0 : Heap) (n0 : Nat) (v : Option Value) (h : Heap) (L : List Loc) : Prop := v = some (.int (1 : Int32)) ∧ Fr n0 L
theorem own_keq {h h' : Heap} (e : h' = h) : Keep h h' [] := by rw [e]; exact Keep.refl _ _
theorem own_nm {x a : Addr} {L : List Addr} (h1 : x ≠ a) (h2 : x ∉ L) : x ∉ a :: L := fun q => (List.mem_cons.mp q).elim h1 h2
theorem own_trS {h0 : Heap} {ws L : List Addr} {x : Addr} (h1 : x ∈ ws ∨ h0.size ≤ x) (h2 : ∀ y ∈ L, y ∈ ws ∨ h0.size ≤ y) : ∀ y ∈ x :: L, y ∈ ws ∨ h0.size ≤ y := fun y q => (List.mem_cons.mp q).elim (fun e => e ▸ h1) (h2 y)
theorem own_EW {Z : State} {a0 : Array Value} (hw : ∀ d ∈ tables_1, d.before a0 Z = true) : EW Z a0 consts_1 := EW.cons (hw _ (wI 15 rfl)) (by decide) EW.nil
theorem own_wS {Z : State} {a0 : Array Value} (hw : ∀ d ∈ tables_1, d.before a0 Z = true) : ∀ a ∈ Bundle.stringAtoms, a.before a0 Z = true := fun d hd => hw d ((by decide +kernel : ∀ d ∈ Bundle.stringAtoms, d ∈ tables_1) d hd)
/-- a String whose value is still null is no booked one -/
theorem own_safeN {Z : State} {EL : List (String × Nat)} {vm : Vm} {h : Heap} {x : Addr} (hal : Z.vm.Alike vm) (E : Exa Z h x "java/lang/String") (F : Fld Z h x "java/lang/String" "value" "[B" .null) : Safe Z EL vm h x := fun B => by
  obtain ⟨cell, k, e1, e2, e3, -, -⟩ := E
  obtain ⟨cell2, cf, k2, i, f, f1, f2, -, -, -, -, f7⟩ := F
  cases e1.symm.trans f1
  obtain ⟨p, -, u, a, -, q, -, G, rfl | rfl⟩ := B
  · cases (show h[q.sa]? = some q.sC from G.ha).symm.trans e1
    obtain ⟨cS, ⟨⟨-, -, -, ⟨c1, k1, i1, g1, -⟩, -, -, -, v1, -⟩, -⟩, -⟩ := G
    obtain ⟨k3, e4, -⟩ := State.fieldFound?_setVm (s := ({ Z with heap := h } : State)) hal (show ({ Z with heap := h } : State).fieldFound? "java/lang/String" "value" "[B" = some (cf, k2, i, f) from f2)
    have e5 := (show (Wst Z vm h).fieldFound? _ _ _ = _ from e4).symm.trans g1
    simp only [Option.some.injEq, Prod.mk.injEq] at e5
    rw [← e5.2.2.2, f7] at v1
    cases v1
  · cases (show h[q.sd]? = some q.SA from G.hd).symm.trans e1
    obtain ⟨cS, -, -, f, -⟩ := G
    have f' : vm.findClass "[B" = some q.SA.cls := f
    rw [hal.findClass] at f'
    obtain ⟨k4, q1, q2⟩ := Vm.findClass_spec f'
    obtain ⟨k5, q3, q4⟩ := Vm.findClass_spec e2
    cases q1.symm.trans q3
    exact absurd (q2.symm.trans q4) (by decide)
/-- a callee that interns nothing, said in the wide form -/
theorem own_toW {l : Launch} {y : MethodName} {S : Spec} {Z : State} {a0 : Array Value} {EL : List (String × Nat)} {as' : Array Value} {h0 : Heap} {Q : Option Value → Heap → List Loc → Prop} {cs ss : Nat} (hEL : EW Z a0 EL)
    (hM : MetFree l y S (fun a U => a = as' ∧ Z.Warmed39 U.vm ∧ U.heap = h0) (fun _ _ _ _ _ => True) (fun _ U o U' => ∃ v L, o = .returned v ∧ Q v U'.heap L ∧ FrameEnd U o U' L cs ss)) (hK : ∀ v h L, Q v h L → Keep h0 h []) :
    MetFree l y S (fun a U => a = as' ∧ Z.Warmed39 U.vm ∧ U.heap = h0 ∧ CHv Z EL U.vm h0) (fun _ _ _ _ _ => True) (fun _ U o U' => ∃ v L, o = .returned v ∧ Q v U'.heap L ∧ CHr Z EL U.vm U.heap U'.vm U'.heap ∧ ReturnedEndW U o U' L cs ss) := by
  intro p e ha hc hk s m args below hf happ hP hK'
  obtain ⟨hP1, hP2, hP3, H0⟩ := hP
  obtain ⟨n, o, h1, h2, h3, v, L, e1, hQ, hF⟩ := hM p e ha hc hk s m args below hf happ ⟨hP1, hP2, hP3⟩ trivial
  refine ⟨n, o, h1, h2, h3, v, L, e1, hQ, ?_, ReturnedEndW.of_narrow hF.1 hF.2.1 hF.2.2⟩
  have K := hK v _ L hQ
  rw [hP3]
  generalize (stepsAlone p.tables e n s) = U' at *
  have hW : (Wst Z s.vm h0).Warmed39 U'.vm := hF.2.1.wide
  have q := CHv.later (h' := U'.heap) hP2 hW hEL ⟨K.1, fun x c r => K.2.1 x c r (fun z => nomatch z)⟩ (Or.inl hF.2.1.interned_eq) H0
  exact ⟨q.1, K.1, q.2⟩
theorem own_and255 (x : Int32) : ¬ (x &&& 255) < 0 ∧ ¬ (255 : Int32) < (x &&& 255) := by
  have e : (x &&& 255).toInt = x.toInt % 2 ^ 8 := Jvm.Kit.i32_mask x 255 (by decide) (by decide)
  have z : (0 : Int32).toInt = 0 := by decide
  have y : (255 : Int32).toInt = 255 := by decide
  rw [Int32.lt_iff_toInt_lt, Int32.lt_iff_toInt_lt]
  omega
theorem own_nar (x : Int32) : nar .char ((x &&& (255 : Int32)).toUInt32.toUInt16.toUInt32.toInt32) = x &&& 255 := by simp only [nar, i2c_mask]
theorem own_le255 (x : Int32) : ¬ (255 : Int32) < ((x &&& (255 : Int32)).toUInt32.toUInt16.toUInt32.toInt32) := by rw [i2c_mask]; exact (own_and255 x).2

def own_Q0 (h0 : Heap) (n0 : Nat) (v : Option Value) (h : Heap) (L : List Loc) : Prop := v = none ∧ Fr n0 L ∧ h = h0
def own_QK (a : Addr) (r : Int32) (h0 : Heap) (n0 : Nat) (v : Option Value) (h : Heap) (L : List Loc) : Prop := v = some (.int r) ∧ Fr n0 L ∧ Keep h0 h [a]
def own_QAR (Z : State) (b : Addr) (k : ClassId) (z : Int32) (vs : List Value) (h0 : Heap) (n0 : Nat) (v : Option Value) (h : Heap) (L : List Loc) : Prop := v = some (.int z) ∧ Fr n0 L ∧ Keep h0 h [b] ∧ Arv Z h b k .byte z vs (.int (0 : Int32))
def own_QA (Z : State) (b : Addr) (k : ClassId) (z : Int32) (vs : List Value) (dv : Value) (h0 : Heap) (n0 : Nat) (v : Option Value) (h : Heap) (L : List Loc) : Prop := v = none ∧ Fr n0 L ∧ Keep h0 h [b] ∧ Arv Z h b k .byte z vs dv
def own_QC (Z : State) (c : Int32) (vs : List Value) (h0 : Heap) (n0 : Nat) (v : Option Value) (h : Heap) (L : List Loc) : Prop := ∃ b : Addr, v = some (.ref b) ∧ Fr n0 L ∧ n0 ≤ b ∧ h0.size ≤ b ∧ Keep h0 h [] ∧ ∃ k : ClassId, Arv Z h b k .byte c vs (.int (0 : Int32))
theorem own_at {c : Cell} {vs : List Value} {d v : Value} {z j : Int32} (H : Has c vs d) (S : c.slots.size = z.toNatClampNeg) (q : ¬ j < 0 ∧ j < z) (i : Nat) (hj : j.toNatClampNeg = i) (hv : vs.getD i d = v) : c.slots[j.toNatClampNeg]? = some v := by
  have h1 : j.toNatClampNeg < c.slots.size := Nat.lt_of_not_le fun r => inb_of S q (Or.inr r)
  have h2 := H _ h1
  rw [h2, hj, hv]
theorem own_nb (x : Int32) : nar .byte (x.toInt8.toInt32) = StrChars.lo8 x := by simp [nar, StrChars.lo8]
theorem own_nlo (c : Int32) : ((c >>> ((0 : Int32) &&& 31)).toInt8.toInt32).toInt8.toInt32 = StrChars.lo8 c := by
  have q := own_nb (c >>> ((0 : Int32) &&& 31))
  rw [StrChars.shr0] at q ⊢
  exact q
theorem own_nhi (c : Int32) : ((c >>> ((8 : Int32) &&& 31)).toInt8.toInt32).toInt8.toInt32 = StrChars.hi8 c := own_nb (c >>> ((8 : Int32) &&& 31))
theorem own_c16 (x : Int32) : nar .char (x.toUInt32.toUInt16.toUInt32.toInt32) = x.toUInt32.toUInt16.toUInt32.toInt32 := by
  show (x.toUInt32.toUInt16.toUInt32.toInt32).toUInt32.toUInt16.toUInt32.toInt32 = _
  rw [UInt32.toUInt32_toInt32, UInt16.toUInt16_toUInt32]
theorem own_pair {c : Int32} (h : ¬ c < 0 ∧ ¬ (65535 : Int32) < c) : nar .char ((((StrChars.lo8 c &&& (255 : Int32)) <<< ((0 : Int32) &&& 31)) ||| ((StrChars.hi8 c &&& (255 : Int32)) <<< ((8 : Int32) &&& 31))).toUInt32.toUInt16.toUInt32.toInt32) = c := by
  rw [own_c16]
  exact StrChars.pair_says h.1 h.2
theorem own_irr (x : Int32) : ¬ x < x := by
  rw [Int32.lt_iff_toInt_lt]
  omega
theorem own_l1 {cs : List Int32} (h : cs.length = 1) : ∃ a, cs = [a] := by
  match cs, h with
  | [a], _ => exact ⟨a, rfl⟩
theorem own_l2 {cs : List Int32} (h : cs.length = 2) : ∃ a b, cs = [a, b] := by
  match cs, h with
  | [a, b], _ => exact ⟨a, b, rfl⟩
theorem own_l3 {cs : List Int32} (h : cs.length = 3) : ∃ a b c, cs = [a, b, c] := by
  match cs, h with
  | [a, b, c], _ => exact ⟨a, b, c, rfl⟩
theorem d23_0 : decode jdk_52_method_5_code 0 = .ok (.getstatic 44, 3) := by decide +kernel
theorem d23_3 : decode jdk_52_method_5_code 3 = .ok (.ifCond .ne 25, 3) := by decide +kernel
theorem d23_28 : decode jdk_52_method_5_code 28 = .ok (.iload_n 1, 1) := by decide +kernel
theorem d23_29 : decode jdk_52_method_5_code 29 = .ok (.iconst 1, 1) := by decide +kernel
theorem d23_30 : decode jdk_52_method_5_code 30 = .ok (.ishl, 1) := by decide +kernel
theorem d23_31 : decode jdk_52_method_5_code 31 = .ok (.istore_n 1, 1) := by decide +kernel
theorem d23_32 : decode jdk_52_method_5_code 32 = .ok (.aload_n 0, 1) := by decide +kernel
theorem d23_33 : decode jdk_52_method_5_code 33 = .ok (.iload_n 1, 1) := by decide +kernel
theorem d23_34 : decode jdk_52_method_5_code 34 = .ok (.iinc 1 1, 3) := by decide +kernel
theorem d23_37 : decode jdk_52_method_5_code 37 = .ok (.baload, 1) := by decide +kernel
theorem d23_38 : decode jdk_52_method_5_code 38 = .ok (.sipush 255, 3) := by decide +kernel
theorem d23_41 : decode jdk_52_method_5_code 41 = .ok (.iand, 1) := by decide +kernel
theorem d23_42 : decode jdk_52_method_5_code 42 = .ok (.getstatic 59, 3) := by decide +kernel
theorem d23_45 : decode jdk_52_method_5_code 45 = .ok (.ishl, 1) := by decide +kernel
theorem d23_46 : decode jdk_52_method_5_code 46 = .ok (.aload_n 0, 1) := by decide +kernel
theorem d23_47 : decode jdk_52_method_5_code 47 = .ok (.iload_n 1, 1) := by decide +kernel
theorem d23_48 : decode jdk_52_method_5_code 48 = .ok (.baload, 1) := by decide +kernel
theorem d23_49 : decode jdk_52_method_5_code 49 = .ok (.sipush 255, 3) := by decide +kernel
theorem d23_52 : decode jdk_52_method_5_code 52 = .ok (.iand, 1) := by decide +kernel
theorem d23_53 : decode jdk_52_method_5_code 53 = .ok (.getstatic 63, 3) := by decide +kernel
theorem d23_56 : decode jdk_52_method_5_code 56 = .ok (.ishl, 1) := by decide +kernel
theorem d23_57 : decode jdk_52_method_5_code 57 = .ok (.ior, 1) := by decide +kernel
theorem d23_58 : decode jdk_52_method_5_code 58 = .ok (.i2c, 1) := by decide +kernel
theorem d23_59 : decode jdk_52_method_5_code 59 = .ok (.ireturn, 1) := by decide +kernel
theorem pn_23 : plainName "java/lang/StringUTF16" = true := by first | (simp [plainName, overriddenIn]; done) | decide +kernel
theorem ef_23 (m : MethodId) (x0 : Addr) (x1 : Int32) : entryFrame m #[(.ref x0), (.int x1)] 2 = mkF m 0 #[.val (.ref x0), .val (.int x1)] [] := by first | (simp [entryFrame, mkF, argsToLocals, Value.category]; done) | rfl
abbrev oL0 (p2 : Int32) (a1 : Addr) : Array Slot := #[.val (.ref a1), .val (.int ((p2 <<< ((1 : Int32) &&& 31)) + (1 : Int32)))]
set_option maxRecDepth 65536 in
set_option maxHeartbeats 40000000 in
theorem rm23 (l : Launch) (Z : State) (a0 : Array Value) (hw : ∀ d ∈ tables_1, d.before a0 Z = true) (ws : List Jvm.Cond) (a1 : Addr) (p2 : Int32) (i : Nat) (x : Int32) (y : Int32) (r : Int32) (k_a1 : ClassId) (z_a1 : Int32) (vs_a1 : List Value) (dv_a1 : Value) (h0 : Heap) (n0 : Nat) (Z0 : n0 ≤ h0.size) (S__assertionsDisabled : Sta Z Z.heap "java/lang/StringUTF16" "$assertionsDisabled" "Z" (.int (1 : Int32))) (X00 : Old Z n0 h0) (S_HI_BYTE_SHIFT : Sta Z Z.heap "java/lang/StringUTF16" "HI_BYTE_SHIFT" "I" (.int (0 : Int32))) (S_LO_BYTE_SHIFT : Sta Z Z.heap "java/lang/StringUTF16" "LO_BYTE_SHIFT" "I" (.int (8 : Int32))) (V_a1 : Arv Z h0 a1 k_a1 .byte z_a1 vs_a1 dv_a1) (hb1 : ¬ (p2 <<< ((1 : Int32) &&& 31)) < 0 ∧ (p2 <<< ((1 : Int32) &&& 31)) < z_a1) (hj1 : (p2 <<< ((1 : Int32) &&& 31)).toNatClampNeg = i) (hv1 : vs_a1.getD i dv_a1 = .int x) (hb2 : ¬ ((p2 <<< ((1 : Int32) &&& 31)) + (1 : Int32)) < 0 ∧ ((p2 <<< ((1 : Int32) &&& 31)) + (1 : Int32)) < z_a1) (hj2 : ((p2 <<< ((1 : Int32) &&& 31)) + (1 : Int32)).toNatClampNeg = i + 1) (hv2 : vs_a1.getD (i + 1) dv_a1 = .int y) (hR : nar .char ((((x &&& (255 : Int32)) <<< ((0 : Int32) &&& 31)) ||| ((y &&& (255 : Int32)) <<< ((8 : Int32) &&& 31))).toUInt32.toUInt16.toUInt32.toInt32) = r) :
    MetFree l (⟨"java/lang/StringUTF16", "getChar", "([BI)C"⟩ : MethodName) (head1 (Jvm.Cond.code (⟨"java/lang/StringUTF16", "getChar", "([BI)C"⟩ : MethodName) jdk_52_method_5_code 2 (some .char) :: ws) ({ frames := 0, cells := 0, slots := 0, locals := 0 } : Room)) (fun a U => a = #[(.ref a1), (.int p2)] ∧ Z.Warmed39 U.vm ∧ U.heap = h0) (fun _ _ _ _ _ => True) (fun _ U o U' => ∃ v L, o = .returned v ∧ own_QR (.int r) h0 n0 v U'.heap L ∧ FrameEnd U o U' L ({ frames := 0, cells := 0, slots := 0, locals := 0 } : Room).cells ({ frames := 0, cells := 0, slots := 0, locals := 0 } : Room).slots) := by
  refine MetFree.of_bodySF (plainFor_of_name pn_23) hisR ?_
  intro p e s m args below meth c s₁ Bd hml0 hP hK
  obtain ⟨rfl, hZ, hh⟩ := hP
  have hx := Bd.exec
  have hby := Bd.bytes
  have hml : c.maxLocals = 2 := hml0
  have hown : s.vm.findClass "java/lang/StringUTF16" = some m.cls := findClass_of_methodNamed Bd.named
  have hnm := (name_of_methodNamed Bd.named Bd.method).1
  have X0 : Stand p l e ({ frames := 0, cells := 0, slots := 0, locals := 0 } : Room) s m #[(.ref a1), (.int p2)] below meth c s₁ [] 0 0 := Stand.of_body Bd
  have e0 : s₁.heap = h0 := by rw [← hh, Bd.state]; rfl
  have N0 := Fr.nil n0
  have pre0 : ∀ t, Steps p.tables e below (s₁.setTop (mkF m 0 #[.val (.ref a1), .val (.int p2)] [])) t → Steps p.tables e below (s₁.setTop (entryFrame m #[(.ref a1), (.int p2)] 2)) t := fun t k => castTop (ef_23 m a1 p2) k
  obtain ⟨T3, X3, e3, st3⟩ := getS2 X0 hx hZ hown (host := "") (Or.inl (hw _ (wI 97 rfl))) Via.refl e0 (S__assertionsDisabled.ext X00.2) (g := (mkF m 0 #[.val (.ref a1), .val (.int p2)] [])) rfl (hb hby d23_0)
  obtain ⟨cl_a1_10, Ar_a1_10, q_a1_10, S_a1_10, N_a1_10, H_a1_10, G_a1_10⟩ := id V_a1
  have hin_a1_10 : ¬ ((p2 <<< ((1 : Int32) &&& 31)) < 0 ∨ cl_a1_10.slots.size ≤ ((p2 <<< ((1 : Int32) &&& 31))).toNatClampNeg) := inb_of S_a1_10 hb1
  have hat_a1_10 : cl_a1_10.slots[((p2 <<< ((1 : Int32) &&& 31))).toNatClampNeg]? = some (.int x) := own_at H_a1_10 S_a1_10 hb1 i hj1 hv1
  obtain ⟨T4, X4, e4, st4⟩ := getS2 X3 hx hZ hown (host := "") (Or.inl (hw _ (wI 98 rfl))) Via.refl e3 (S_HI_BYTE_SHIFT.ext X00.2) (g := (mkF m 42 (oL0 p2 a1) [(.int (x &&& (255 : Int32)))])) rfl (hb hby d23_42)
  obtain ⟨cl_a1_17, Ar_a1_17, q_a1_17, S_a1_17, N_a1_17, H_a1_17, G_a1_17⟩ := id V_a1
  have hin_a1_17 : ¬ (((p2 <<< ((1 : Int32) &&& 31)) + (1 : Int32)) < 0 ∨ cl_a1_17.slots.size ≤ (((p2 <<< ((1 : Int32) &&& 31)) + (1 : Int32))).toNatClampNeg) := inb_of S_a1_17 hb2
  have hat_a1_17 : cl_a1_17.slots[(((p2 <<< ((1 : Int32) &&& 31)) + (1 : Int32))).toNatClampNeg]? = some (.int y) := own_at H_a1_17 S_a1_17 hb2 (i + 1) hj2 hv2
  obtain ⟨T5, X5, e5, st5⟩ := getS2 X4 hx hZ hown (host := "") (Or.inl (hw _ (wI 99 rfl))) Via.refl e4 (S_LO_BYTE_SHIFT.ext X00.2) (g := (mkF m 53 (oL0 p2 a1) [(.int (y &&& (255 : Int32))), (.int ((x &&& (255 : Int32)) <<< ((0 : Int32) &&& 31)))])) rfl (hb hby d23_53)
  obtain ⟨fs, hr, hrun, hended, hW, hsame⟩ := X5.leave (v := some (.int (nar .char ((((x &&& (255 : Int32)) <<< ((0 : Int32) &&& 31)) ||| ((y &&& (255 : Int32)) <<< ((8 : Int32) &&& 31))).toUInt32.toUInt16.toUInt32.toInt32)))) (fun h => by rw [Bd.returns] at h; cases h)
  refine ⟨_, _, pre0 _ ?_, hrun, hended, _, _, rfl, ?_, ⟨_, rfl⟩, hW, hsame.mono (by decide) (by decide)⟩
  · show Steps p.tables e below (s₁.setTop (mkF m 0 #[.val (.ref a1), .val (.int p2)] [])) _
    refine st3 _ ?_
    refine XS.ifYes X3.here hx rfl (pc0 := 3) (pc' := 28) rfl (hb hby d23_3) rfl ((if0 _ _).trans (feq (by decide : ¬ ((1 : Int32) = (0 : Int32)))).2) (by decide) (by decide) ?_
    refine XS.iloadN X3.here hx rfl (hb hby d23_28) rfl ?_
    refine XS.iconst X3.here hx rfl (hb hby d23_29) ?_
    refine XS.ishl X3.here hx rfl (hb hby d23_30) rfl ?_
    show Steps p.tables e below (T3.setTop (mkF m 31 #[.val (.ref a1), .val (.int p2)] [(.int (p2 <<< ((1 : Int32) &&& 31)))])) _
    refine XS.istoreN X3.here hx rfl (hb hby d23_31) rfl (l' := #[.val (.ref a1), .val (.int (p2 <<< ((1 : Int32) &&& 31)))]) rfl ?_
    refine XS.aloadN X3.here hx rfl (hb hby d23_32) rfl rfl ?_
    refine XS.iloadN X3.here hx rfl (hb hby d23_33) rfl ?_
    refine XS.iinc X3.here hx rfl (hb hby d23_34) rfl (l' := (oL0 p2 a1)) rfl ?_
    refine X3.baloadBytes hx (j := (p2 <<< ((1 : Int32) &&& 31))) (v := (.int x)) (by rw [e3]; exact Ar_a1_10.1) (State.isArrayOf_alike hZ.alike Ar_a1_10.2.1) Ar_a1_10.2.2 hin_a1_10 hat_a1_10 (g := (mkF m 37 (oL0 p2 a1) [(.int (p2 <<< ((1 : Int32) &&& 31))), (.ref a1)])) rfl rfl (hb hby d23_37) _ ?_
    show Steps p.tables e below (T3.setTop (mkF m 38 (oL0 p2 a1) [(.int x)])) _
    refine XS.sipush X3.here hx rfl (hb hby d23_38) ?_
    refine XS.iand X3.here hx rfl (hb hby d23_41) rfl ?_
    refine st4 _ ?_
    refine XS.ishl X4.here hx rfl (hb hby d23_45) rfl ?_
    refine XS.aloadN X4.here hx rfl (hb hby d23_46) rfl rfl ?_
    show Steps p.tables e below (T4.setTop (mkF m 47 (oL0 p2 a1) [(.ref a1), (.int ((x &&& (255 : Int32)) <<< ((0 : Int32) &&& 31)))])) _
    refine XS.iloadN X4.here hx rfl (hb hby d23_47) rfl ?_
    refine X4.baloadBytes hx (j := ((p2 <<< ((1 : Int32) &&& 31)) + (1 : Int32))) (v := (.int y)) (by rw [e4]; exact Ar_a1_17.1) (State.isArrayOf_alike hZ.alike Ar_a1_17.2.1) Ar_a1_17.2.2 hin_a1_17 hat_a1_17 (g := (mkF m 48 (oL0 p2 a1) [(.int ((p2 <<< ((1 : Int32) &&& 31)) + (1 : Int32))), (.ref a1), (.int ((x &&& (255 : Int32)) <<< ((0 : Int32) &&& 31)))])) rfl rfl (hb hby d23_48) _ ?_
    refine XS.sipush X4.here hx rfl (hb hby d23_49) ?_
    refine XS.iand X4.here hx rfl (hb hby d23_52) rfl ?_
    refine st5 _ ?_
    show Steps p.tables e below (T5.setTop (mkF m 56 (oL0 p2 a1) [(.int (8 : Int32)), (.int (y &&& (255 : Int32))), (.int ((x &&& (255 : Int32)) <<< ((0 : Int32) &&& 31)))])) _
    refine XS.ishl X5.here hx rfl (hb hby d23_56) rfl ?_
    refine XS.ior X5.here hx rfl (hb hby d23_57) rfl ?_
    refine XS.i2c X5.here hx rfl (hb hby d23_58) rfl ?_
    exact retN X5 hx (t := .char) Bd.returns (by simp) (hb hby d23_59) hr
  · show own_QR (.int r) h0 n0 _ T5.heap _
    rw [e5]
    exact ⟨congrArg (fun z => some (Value.int z)) hR, N0, rfl⟩
theorem d22_0 : decode jdk_52_method_4_code 0 = .ok (.getstatic 44, 3) := by decide +kernel
theorem d22_3 : decode jdk_52_method_4_code 3 = .ok (.ifCond .ne 25, 3) := by decide +kernel
theorem d22_28 : decode jdk_52_method_4_code 28 = .ok (.iload_n 1, 1) := by decide +kernel
theorem d22_29 : decode jdk_52_method_4_code 29 = .ok (.iconst 1, 1) := by decide +kernel
theorem d22_30 : decode jdk_52_method_4_code 30 = .ok (.ishl, 1) := by decide +kernel
theorem d22_31 : decode jdk_52_method_4_code 31 = .ok (.istore_n 1, 1) := by decide +kernel
theorem d22_32 : decode jdk_52_method_4_code 32 = .ok (.aload_n 0, 1) := by decide +kernel
theorem d22_33 : decode jdk_52_method_4_code 33 = .ok (.iload_n 1, 1) := by decide +kernel
theorem d22_34 : decode jdk_52_method_4_code 34 = .ok (.iinc 1 1, 3) := by decide +kernel
theorem d22_37 : decode jdk_52_method_4_code 37 = .ok (.iload_n 2, 1) := by decide +kernel
theorem d22_38 : decode jdk_52_method_4_code 38 = .ok (.getstatic 59, 3) := by decide +kernel
theorem d22_41 : decode jdk_52_method_4_code 41 = .ok (.ishr, 1) := by decide +kernel
theorem d22_42 : decode jdk_52_method_4_code 42 = .ok (.i2b, 1) := by decide +kernel
theorem d22_43 : decode jdk_52_method_4_code 43 = .ok (.bastore, 1) := by decide +kernel
theorem d22_44 : decode jdk_52_method_4_code 44 = .ok (.aload_n 0, 1) := by decide +kernel
theorem d22_45 : decode jdk_52_method_4_code 45 = .ok (.iload_n 1, 1) := by decide +kernel
theorem d22_46 : decode jdk_52_method_4_code 46 = .ok (.iload_n 2, 1) := by decide +kernel
theorem d22_47 : decode jdk_52_method_4_code 47 = .ok (.getstatic 63, 3) := by decide +kernel
theorem d22_50 : decode jdk_52_method_4_code 50 = .ok (.ishr, 1) := by decide +kernel
theorem d22_51 : decode jdk_52_method_4_code 51 = .ok (.i2b, 1) := by decide +kernel
theorem d22_52 : decode jdk_52_method_4_code 52 = .ok (.bastore, 1) := by decide +kernel
theorem d22_53 : decode jdk_52_method_4_code 53 = .ok (.return_, 1) := by decide +kernel
theorem pn_22 : plainName "java/lang/StringUTF16" = true := by first | (simp [plainName, overriddenIn]; done) | decide +kernel
theorem ef_22 (m : MethodId) (x0 : Addr) (x1 : Int32) (x2 : Int32) : entryFrame m #[(.ref x0), (.int x1), (.int x2)] 3 = mkF m 0 #[.val (.ref x0), .val (.int x1), .val (.int x2)] [] := by first | (simp [entryFrame, mkF, argsToLocals, Value.category]; done) | rfl
abbrev oL1 (p2 p3 : Int32) (a1 : Addr) : Array Slot := #[.val (.ref a1), .val (.int ((p2 <<< ((1 : Int32) &&& 31)) + (1 : Int32))), .val (.int p3)]
set_option maxRecDepth 65536 in
set_option maxHeartbeats 40000000 in
theorem rm22 (l : Launch) (Z : State) (a0 : Array Value) (hw : ∀ d ∈ tables_1, d.before a0 Z = true) (ws : List Jvm.Cond) (a1 : Addr) (p2 : Int32) (p3 : Int32) (i : Nat) (k_a1 : ClassId) (z_a1 : Int32) (vs_a1 : List Value) (dv_a1 : Value) (h0 : Heap) (n0 : Nat) (Z0 : n0 ≤ h0.size) (S__assertionsDisabled : Sta Z Z.heap "java/lang/StringUTF16" "$assertionsDisabled" "Z" (.int (1 : Int32))) (X00 : Old Z n0 h0) (S_HI_BYTE_SHIFT : Sta Z Z.heap "java/lang/StringUTF16" "HI_BYTE_SHIFT" "I" (.int (0 : Int32))) (S_LO_BYTE_SHIFT : Sta Z Z.heap "java/lang/StringUTF16" "LO_BYTE_SHIFT" "I" (.int (8 : Int32))) (V_a1 : Arv Z h0 a1 k_a1 .byte z_a1 vs_a1 dv_a1) (hb1 : ¬ (p2 <<< ((1 : Int32) &&& 31)) < 0 ∧ (p2 <<< ((1 : Int32) &&& 31)) < z_a1) (hj1 : (p2 <<< ((1 : Int32) &&& 31)).toNatClampNeg = i) (hi1 : i < vs_a1.length) (hb2 : ¬ ((p2 <<< ((1 : Int32) &&& 31)) + (1 : Int32)) < 0 ∧ ((p2 <<< ((1 : Int32) &&& 31)) + (1 : Int32)) < z_a1) (hj2 : ((p2 <<< ((1 : Int32) &&& 31)) + (1 : Int32)).toNatClampNeg = i + 1) (hi2 : i + 1 < vs_a1.length) (g_a1 : n0 ≤ a1) :
    MetFree l (⟨"java/lang/StringUTF16", "putChar", "([BII)V"⟩ : MethodName) (head1 (Jvm.Cond.code (⟨"java/lang/StringUTF16", "putChar", "([BII)V"⟩ : MethodName) jdk_52_method_4_code 3 none :: ws) ({ frames := 0, cells := 0, slots := 0, locals := 0 } : Room)) (fun a U => a = #[(.ref a1), (.int p2), (.int p3)] ∧ Z.Warmed39 U.vm ∧ U.heap = h0) (fun _ _ _ _ _ => True) (fun _ U o U' => ∃ v L, o = .returned v ∧ own_QA Z a1 k_a1 z_a1 ((vs_a1.set i (.int (StrChars.lo8 p3))).set (i + 1) (.int (StrChars.hi8 p3))) dv_a1 h0 n0 v U'.heap L ∧ FrameEnd U o U' L ({ frames := 0, cells := 0, slots := 0, locals := 0 } : Room).cells ({ frames := 0, cells := 0, slots := 0, locals := 0 } : Room).slots) := by
  refine MetFree.of_bodySF (plainFor_of_name pn_22) hisR ?_
  intro p e s m args below meth c s₁ Bd hml0 hP hK
  obtain ⟨rfl, hZ, hh⟩ := hP
  have hx := Bd.exec
  have hby := Bd.bytes
  have hml : c.maxLocals = 3 := hml0
  have hown : s.vm.findClass "java/lang/StringUTF16" = some m.cls := findClass_of_methodNamed Bd.named
  have hnm := (name_of_methodNamed Bd.named Bd.method).1
  have X0 : Stand p l e ({ frames := 0, cells := 0, slots := 0, locals := 0 } : Room) s m #[(.ref a1), (.int p2), (.int p3)] below meth c s₁ [] 0 0 := Stand.of_body Bd
  have e0 : s₁.heap = h0 := by rw [← hh, Bd.state]; rfl
  have N0 := Fr.nil n0
  have pre0 : ∀ t, Steps p.tables e below (s₁.setTop (mkF m 0 #[.val (.ref a1), .val (.int p2), .val (.int p3)] [])) t → Steps p.tables e below (s₁.setTop (entryFrame m #[(.ref a1), (.int p2), (.int p3)] 3)) t := fun t k => castTop (ef_22 m a1 p2 p3) k
  obtain ⟨T4, X4, e4, st4⟩ := getS2 X0 hx hZ hown (host := "") (Or.inl (hw _ (wI 97 rfl))) Via.refl e0 (S__assertionsDisabled.ext X00.2) (g := (mkF m 0 #[.val (.ref a1), .val (.int p2), .val (.int p3)] [])) rfl (hb hby d22_0)
  obtain ⟨T5, X5, e5, st5⟩ := getS2 X4 hx hZ hown (host := "") (Or.inl (hw _ (wI 98 rfl))) Via.refl e4 (S_HI_BYTE_SHIFT.ext X00.2) (g := (mkF m 38 (oL1 p2 p3 a1) [(.int p3), (.int (p2 <<< ((1 : Int32) &&& 31))), (.ref a1)])) rfl (hb hby d22_38)
  obtain ⟨cl_a1_14, Ar_a1_14, q_a1_14, S_a1_14, N_a1_14, H_a1_14, G_a1_14⟩ := id V_a1
  have hin_a1_14 : ¬ ((p2 <<< ((1 : Int32) &&& 31)) < 0 ∨ cl_a1_14.slots.size ≤ ((p2 <<< ((1 : Int32) &&& 31))).toNatClampNeg) := inb_of S_a1_14 hb1
  obtain ⟨T6, h6, X6, e6, W6, st6⟩ := stB X5 hx hZ e5 Ar_a1_14 (j := (p2 <<< ((1 : Int32) &&& 31))) hin_a1_14 (g := (mkF m 43 (oL1 p2 p3 a1) [(.int ((p3 >>> ((0 : Int32) &&& 31)).toInt8.toInt32)), (.int (p2 <<< ((1 : Int32) &&& 31))), (.ref a1)])) rfl rfl (hb hby d22_43)
  have V_a1_6 := Arv.set Ar_a1_14 q_a1_14 S_a1_14 N_a1_14 H_a1_14 G_a1_14 (fits_nar_byte _) W6 i hj1 hi1
  have K6 : Keep h0 h6 [a1] := (Keep.refl h0 [a1]).wr W6 (Or.inl (List.mem_of_getElem? (i := 0) rfl))
  have N6 := Fr.snoc X6 N0 g_a1
  obtain ⟨T7, X7, e7, st7⟩ := getS2 X6 hx hZ hown (host := "") (Or.inl (hw _ (wI 99 rfl))) Via.refl e6 (S_LO_BYTE_SHIFT.ext (X00.keep K6 (allS g_a1 all0)).2) (g := (mkF m 47 (oL1 p2 p3 a1) [(.int p3), (.int ((p2 <<< ((1 : Int32) &&& 31)) + (1 : Int32))), (.ref a1)])) rfl (hb hby d22_47)
  obtain ⟨cl_a1_21, Ar_a1_21, q_a1_21, S_a1_21, N_a1_21, H_a1_21, G_a1_21⟩ := id V_a1_6
  have hin_a1_21 : ¬ (((p2 <<< ((1 : Int32) &&& 31)) + (1 : Int32)) < 0 ∨ cl_a1_21.slots.size ≤ (((p2 <<< ((1 : Int32) &&& 31)) + (1 : Int32))).toNatClampNeg) := inb_of S_a1_21 hb2
  obtain ⟨T8, h8, X8, e8, W8, st8⟩ := stB X7 hx hZ e7 Ar_a1_21 (j := ((p2 <<< ((1 : Int32) &&& 31)) + (1 : Int32))) hin_a1_21 (g := (mkF m 52 (oL1 p2 p3 a1) [(.int ((p3 >>> ((8 : Int32) &&& 31)).toInt8.toInt32)), (.int ((p2 <<< ((1 : Int32) &&& 31)) + (1 : Int32))), (.ref a1)])) rfl rfl (hb hby d22_52)
  have V_a1_8 := Arv.set Ar_a1_21 q_a1_21 S_a1_21 N_a1_21 H_a1_21 G_a1_21 (fits_nar_byte _) W8 (i + 1) hj2 (by rw [List.length_set]; exact hi2)
  have K8 : Keep h0 h8 [a1] := K6.wr W8 (Or.inl (List.mem_of_getElem? (i := 0) rfl))
  have N8 := Fr.snoc X8 N6 g_a1
  obtain ⟨fs, hr, hrun, hended, hW, hsame⟩ := X8.leave (v := none) (fun _ => rfl)
  refine ⟨_, _, pre0 _ ?_, hrun, hended, _, _, rfl, ?_, ⟨_, rfl⟩, hW, hsame.mono (by decide) (by decide)⟩
  · show Steps p.tables e below (s₁.setTop (mkF m 0 #[.val (.ref a1), .val (.int p2), .val (.int p3)] [])) _
    refine st4 _ ?_
    refine XS.ifYes X4.here hx rfl (pc0 := 3) (pc' := 28) rfl (hb hby d22_3) rfl ((if0 _ _).trans (feq (by decide : ¬ ((1 : Int32) = (0 : Int32)))).2) (by decide) (by decide) ?_
    refine XS.iloadN X4.here hx rfl (hb hby d22_28) rfl ?_
    refine XS.iconst X4.here hx rfl (hb hby d22_29) ?_
    refine XS.ishl X4.here hx rfl (hb hby d22_30) rfl ?_
    show Steps p.tables e below (T4.setTop (mkF m 31 #[.val (.ref a1), .val (.int p2), .val (.int p3)] [(.int (p2 <<< ((1 : Int32) &&& 31)))])) _
    refine XS.istoreN X4.here hx rfl (hb hby d22_31) rfl (l' := #[.val (.ref a1), .val (.int (p2 <<< ((1 : Int32) &&& 31))), .val (.int p3)]) rfl ?_
    refine XS.aloadN X4.here hx rfl (hb hby d22_32) rfl rfl ?_
    refine XS.iloadN X4.here hx rfl (hb hby d22_33) rfl ?_
    refine XS.iinc X4.here hx rfl (hb hby d22_34) rfl (l' := (oL1 p2 p3 a1)) rfl ?_
    refine XS.iloadN X4.here hx rfl (hb hby d22_37) rfl ?_
    show Steps p.tables e below (T4.setTop (mkF m 38 (oL1 p2 p3 a1) [(.int p3), (.int (p2 <<< ((1 : Int32) &&& 31))), (.ref a1)])) _
    refine st5 _ ?_
    refine XS.ishr X5.here hx rfl (hb hby d22_41) rfl ?_
    refine XS.i2b X5.here hx rfl (hb hby d22_42) rfl ?_
    refine st6 _ ?_
    refine XS.aloadN X6.here hx rfl (hb hby d22_44) rfl rfl ?_
    show Steps p.tables e below (T6.setTop (mkF m 45 (oL1 p2 p3 a1) [(.ref a1)])) _
    refine XS.iloadN X6.here hx rfl (hb hby d22_45) rfl ?_
    refine XS.iloadN X6.here hx rfl (hb hby d22_46) rfl ?_
    refine st7 _ ?_
    refine XS.ishr X7.here hx rfl (hb hby d22_50) rfl ?_
    refine XS.i2b X7.here hx rfl (hb hby d22_51) rfl ?_
    show Steps p.tables e below (T7.setTop (mkF m 52 (oL1 p2 p3 a1) [(.int ((p3 >>> ((8 : Int32) &&& 31)).toInt8.toInt32)), (.int ((p2 <<< ((1 : Int32) &&& 31)) + (1 : Int32))), (.ref a1)])) _
    refine st8 _ ?_
    exact X8.returnOut hx Bd.returns (hb hby d22_53) hr
  · show own_QA Z a1 k_a1 z_a1 ((vs_a1.set i (.int (StrChars.lo8 p3))).set (i + 1) (.int (StrChars.hi8 p3))) dv_a1 h0 n0 _ T8.heap _
    rw [e8]
    exact ⟨rfl, N8, K8, (by have q := V_a1_8; rw [own_nlo, own_nhi] at q; exact q)⟩
theorem d27_0 : decode jdk_52_method_6_code 0 = .ok (.aload_n 0, 1) := by decide +kernel
theorem d27_1 : decode jdk_52_method_6_code 1 = .ok (.arraylength, 1) := by decide +kernel
theorem d27_2 : decode jdk_52_method_6_code 2 = .ok (.iconst 1, 1) := by decide +kernel
theorem d27_3 : decode jdk_52_method_6_code 3 = .ok (.ishr, 1) := by decide +kernel
theorem d27_4 : decode jdk_52_method_6_code 4 = .ok (.ireturn, 1) := by decide +kernel
theorem pn_27 : plainName "java/lang/StringUTF16" = true := by first | (simp [plainName, overriddenIn]; done) | decide +kernel
theorem ef_27 (m : MethodId) (x0 : Addr) : entryFrame m #[(.ref x0)] 1 = mkF m 0 #[.val (.ref x0)] [] := by first | (simp [entryFrame, mkF, argsToLocals, Value.category]; done) | rfl
set_option maxRecDepth 65536 in
set_option maxHeartbeats 40000000 in
theorem rm27 (l : Launch) (Z : State) (a0 : Array Value) (hw : ∀ d ∈ tables_1, d.before a0 Z = true) (ws : List Jvm.Cond) (a1 : Addr) (r : Int32) (k_a1 : ClassId) (z_a1 : Int32) (vs_a1 : List Value) (dv_a1 : Value) (h0 : Heap) (n0 : Nat) (Z0 : n0 ≤ h0.size) (V_a1 : Arv Z h0 a1 k_a1 .byte z_a1 vs_a1 dv_a1) (hR : (z_a1 >>> ((1 : Int32) &&& 31)) = r) :
    MetFree l (⟨"java/lang/StringUTF16", "length", "([B)I"⟩ : MethodName) (head1 (Jvm.Cond.code (⟨"java/lang/StringUTF16", "length", "([B)I"⟩ : MethodName) jdk_52_method_6_code 1 (some .int) :: ws) ({ frames := 0, cells := 0, slots := 0, locals := 0 } : Room)) (fun a U => a = #[(.ref a1)] ∧ Z.Warmed39 U.vm ∧ U.heap = h0) (fun _ _ _ _ _ => True) (fun _ U o U' => ∃ v L, o = .returned v ∧ own_QR (.int r) h0 n0 v U'.heap L ∧ FrameEnd U o U' L ({ frames := 0, cells := 0, slots := 0, locals := 0 } : Room).cells ({ frames := 0, cells := 0, slots := 0, locals := 0 } : Room).slots) := by
  refine MetFree.of_bodySF (plainFor_of_name pn_27) hisR ?_
  intro p e s m args below meth c s₁ Bd hml0 hP hK
  obtain ⟨rfl, hZ, hh⟩ := hP
  have hx := Bd.exec
  have hby := Bd.bytes
  have hml : c.maxLocals = 1 := hml0
  have hown : s.vm.findClass "java/lang/StringUTF16" = some m.cls := findClass_of_methodNamed Bd.named
  have hnm := (name_of_methodNamed Bd.named Bd.method).1
  have X0 : Stand p l e ({ frames := 0, cells := 0, slots := 0, locals := 0 } : Room) s m #[(.ref a1)] below meth c s₁ [] 0 0 := Stand.of_body Bd
  have e0 : s₁.heap = h0 := by rw [← hh, Bd.state]; rfl
  have N0 := Fr.nil n0
  have pre0 : ∀ t, Steps p.tables e below (s₁.setTop (mkF m 0 #[.val (.ref a1)] [])) t → Steps p.tables e below (s₁.setTop (entryFrame m #[(.ref a1)] 1)) t := fun t k => castTop (ef_27 m a1) k
  obtain ⟨cl_a1_1, Ar_a1, -, S_a1, N_a1, -, -⟩ := id V_a1
  obtain ⟨fs, hr, hrun, hended, hW, hsame⟩ := X0.leave (v := some (.int (z_a1 >>> ((1 : Int32) &&& 31)))) (fun h => by rw [Bd.returns] at h; cases h)
  refine ⟨_, _, pre0 _ ?_, hrun, hended, _, _, rfl, ?_, ⟨_, rfl⟩, hW, hsame.mono (by decide) (by decide)⟩
  · show Steps p.tables e below (s₁.setTop (mkF m 0 #[.val (.ref a1)] [])) _
    refine XS.aloadN X0.here hx rfl (hb hby d27_0) rfl rfl ?_
    refine X0.arraylength hx (by rw [e0]; exact Ar_a1.1) (State.isArrayOf_alike hZ.alike Ar_a1.2.1) (g := (mkF m 1 #[.val (.ref a1)] [(.ref a1)])) rfl rfl (hb hby d27_1) _ ?_
    rw [len_of S_a1 N_a1]
    refine XS.iconst X0.here hx rfl (hb hby d27_2) ?_
    refine XS.ishr X0.here hx rfl (hb hby d27_3) rfl ?_
    exact retI X0 hx Bd.returns (hb hby d27_4) hr
  · show own_QR (.int r) h0 n0 _ s₁.heap _
    rw [e0]
    exact ⟨congrArg (fun z => some (Value.int z)) hR, N0, rfl⟩
theorem d21_0 : decode jdk_52_method_3_code 0 = .ok (.iload_n 0, 1) := by decide +kernel
theorem d21_1 : decode jdk_52_method_3_code 1 = .ok (.ifCond .ge 11, 3) := by decide +kernel
theorem d21_12 : decode jdk_52_method_3_code 12 = .ok (.iload_n 0, 1) := by decide +kernel
theorem d21_13 : decode jdk_52_method_3_code 13 = .ok (.ldc 20, 2) := by decide +kernel
theorem d21_15 : decode jdk_52_method_3_code 15 = .ok (.if_icmp .lt 40, 3) := by decide +kernel
theorem d21_55 : decode jdk_52_method_3_code 55 = .ok (.iload_n 0, 1) := by decide +kernel
theorem d21_56 : decode jdk_52_method_3_code 56 = .ok (.iconst 1, 1) := by decide +kernel
theorem d21_57 : decode jdk_52_method_3_code 57 = .ok (.ishl, 1) := by decide +kernel
theorem d21_58 : decode jdk_52_method_3_code 58 = .ok (.ireturn, 1) := by decide +kernel
theorem pn_21 : plainName "java/lang/StringUTF16" = true := by first | (simp [plainName, overriddenIn]; done) | decide +kernel
theorem ef_21 (m : MethodId) (x0 : Int32) : entryFrame m #[(.int x0)] 1 = mkF m 0 #[.val (.int x0)] [] := by first | (simp [entryFrame, mkF, argsToLocals, Value.category]; done) | rfl
set_option maxRecDepth 65536 in
set_option maxHeartbeats 40000000 in
theorem rm21 (l : Launch) (Z : State) (a0 : Array Value) (hw : ∀ d ∈ tables_1, d.before a0 Z = true) (ws : List Jvm.Cond) (p1 : Int32) (r : Int32) (h0 : Heap) (n0 : Nat) (Z0 : n0 ≤ h0.size) (hR : (p1 <<< ((1 : Int32) &&& 31)) = r) (hc1 : ¬ (p1 < (0 : Int32))) (hc15 : p1 < (1073741823 : Int32)) :
    MetFree l (⟨"java/lang/StringUTF16", "newBytesLength", "(I)I"⟩ : MethodName) (head1 (Jvm.Cond.code (⟨"java/lang/StringUTF16", "newBytesLength", "(I)I"⟩ : MethodName) jdk_52_method_3_code 1 (some .int) :: ws) ({ frames := 0, cells := 0, slots := 0, locals := 0 } : Room)) (fun a U => a = #[(.int p1)] ∧ Z.Warmed39 U.vm ∧ U.heap = h0) (fun _ _ _ _ _ => True) (fun _ U o U' => ∃ v L, o = .returned v ∧ own_QR (.int r) h0 n0 v U'.heap L ∧ FrameEnd U o U' L ({ frames := 0, cells := 0, slots := 0, locals := 0 } : Room).cells ({ frames := 0, cells := 0, slots := 0, locals := 0 } : Room).slots) := by
  refine MetFree.of_bodySF (plainFor_of_name pn_21) hisR ?_
  intro p e s m args below meth c s₁ Bd hml0 hP hK
  obtain ⟨rfl, hZ, hh⟩ := hP
  have hx := Bd.exec
  have hby := Bd.bytes
  have hml : c.maxLocals = 1 := hml0
  have hown : s.vm.findClass "java/lang/StringUTF16" = some m.cls := findClass_of_methodNamed Bd.named
  have hnm := (name_of_methodNamed Bd.named Bd.method).1
  have X0 : Stand p l e ({ frames := 0, cells := 0, slots := 0, locals := 0 } : Room) s m #[(.int p1)] below meth c s₁ [] 0 0 := Stand.of_body Bd
  have e0 : s₁.heap = h0 := by rw [← hh, Bd.state]; rfl
  have N0 := Fr.nil n0
  have pre0 : ∀ t, Steps p.tables e below (s₁.setTop (mkF m 0 #[.val (.int p1)] [])) t → Steps p.tables e below (s₁.setTop (entryFrame m #[(.int p1)] 1)) t := fun t k => castTop (ef_21 m p1) k

  obtain ⟨fs, hr, hrun, hended, hW, hsame⟩ := X0.leave (v := some (.int (p1 <<< ((1 : Int32) &&& 31)))) (fun h => by rw [Bd.returns] at h; cases h)
  refine ⟨_, _, pre0 _ ?_, hrun, hended, _, _, rfl, ?_, ⟨_, rfl⟩, hW, hsame.mono (by decide) (by decide)⟩
  · show Steps p.tables e below (s₁.setTop (mkF m 0 #[.val (.int p1)] [])) _
    refine XS.iloadN X0.here hx rfl (hb hby d21_0) rfl ?_
    refine XS.ifYes X0.here hx rfl (pc0 := 1) (pc' := 12) rfl (hb hby d21_1) rfl ((if0 _ _).trans (flt hc1).2.1) (by decide) (by decide) ?_
    refine XS.iloadN X0.here hx rfl (hb hby d21_12) rfl ?_
    refine X0.ldcInt hx hown (mvT hZ (hw _ (wI 93 rfl))) (g := (mkF m 13 #[.val (.int p1)] [(.int p1)])) rfl (hb hby d21_13) _ ?_
    refine XS.icmpYes X0.here hx rfl (pc0 := 15) (pc' := 55) rfl (hb hby d21_15) rfl (tlt hc15).1 (by decide) (by decide) ?_
    show Steps p.tables e below (s₁.setTop (mkF m 55 #[.val (.int p1)] [])) _
    refine XS.iloadN X0.here hx rfl (hb hby d21_55) rfl ?_
    refine XS.iconst X0.here hx rfl (hb hby d21_56) ?_
    refine XS.ishl X0.here hx rfl (hb hby d21_57) rfl ?_
    exact retI X0 hx Bd.returns (hb hby d21_58) hr
  · show own_QR (.int r) h0 n0 _ s₁.heap _
    rw [e0]
    exact ⟨congrArg (fun z => some (Value.int z)) hR, N0, rfl⟩
theorem d20_0 : decode jdk_52_method_2_code 0 = .ok (.iload_n 0, 1) := by decide +kernel
theorem d20_1 : decode jdk_52_method_2_code 1 = .ok (.invokestatic 11, 3) := by decide +kernel
theorem d20_4 : decode jdk_52_method_2_code 4 = .ok (.newarray .byte, 2) := by decide +kernel
theorem d20_6 : decode jdk_52_method_2_code 6 = .ok (.areturn, 1) := by decide +kernel
theorem pn_20 : plainName "java/lang/StringUTF16" = true := by first | (simp [plainName, overriddenIn]; done) | decide +kernel
theorem pd_20_4 : parseMethodDescriptor "(I)I" = some ⟨[.int], some .int⟩ := by decide +kernel
theorem ef_20 (m : MethodId) (x0 : Int32) : entryFrame m #[(.int x0)] 1 = mkF m 0 #[.val (.int x0)] [] := by first | (simp [entryFrame, mkF, argsToLocals, Value.category]; done) | rfl
set_option maxRecDepth 65536 in
set_option maxHeartbeats 40000000 in
theorem rm20_1 (l : Launch) (Z : State) (a0 : Array Value) (hw : ∀ d ∈ tables_1, d.before a0 Z = true) (ws : List Jvm.Cond) (_q1 : Int32)  (h0 : Heap) (n0 : Nat) (Z0 : n0 ≤ h0.size) :
    MetFree l (⟨"java/lang/StringUTF16", "newBytesFor", "(I)[B"⟩ : MethodName) (head1 (Jvm.Cond.code (⟨"java/lang/StringUTF16", "newBytesFor", "(I)[B"⟩ : MethodName) jdk_52_method_2_code 1 (some (.array .byte)) :: ws) ({ frames := 1, cells := 1, slots := 6, locals := 12 } : Room)) (fun a U => a = #[(.int (1 : Int32))] ∧ Z.Warmed39 U.vm ∧ U.heap = h0) (fun _ _ _ _ _ => True) (fun _ U o U' => ∃ v L, o = .returned v ∧ own_QC Z (2 : Int32) [(.int (0 : Int32)), (.int (0 : Int32))] h0 n0 v U'.heap L ∧ FrameEnd U o U' L ({ frames := 1, cells := 1, slots := 6, locals := 12 } : Room).cells ({ frames := 1, cells := 1, slots := 6, locals := 12 } : Room).slots) := by
  refine MetFree.of_bodySF (plainFor_of_name pn_20) hisR ?_
  intro p e s m args below meth c s₁ Bd hml0 hP hK
  obtain ⟨rfl, hZ, hh⟩ := hP
  have hx := Bd.exec
  have hby := Bd.bytes
  have hml : c.maxLocals = 1 := hml0
  have hown : s.vm.findClass "java/lang/StringUTF16" = some m.cls := findClass_of_methodNamed Bd.named
  have hnm := (name_of_methodNamed Bd.named Bd.method).1
  have X0 : Stand p l e ({ frames := 1, cells := 1, slots := 6, locals := 12 } : Room) s m #[(.int (1 : Int32))] below meth c s₁ [] 0 0 := Stand.of_body Bd
  have e0 : s₁.heap = h0 := by rw [← hh, Bd.state]; rfl
  have N0 := Fr.nil n0
  have pre0 : ∀ t, Steps p.tables e below (s₁.setTop (mkF m 0 #[.val (.int (1 : Int32))] [])) t → Steps p.tables e below (s₁.setTop (entryFrame m #[(.int (1 : Int32))] 1)) t := fun t k => castTop (ef_20 m (1 : Int32)) k
  obtain ⟨_, _, ⟨T1, L1, k1, n1⟩, -, X1, ⟨Lc1, hQ1, l1, y1, z1⟩, st1⟩ := Jvm.LawKit.callS X0 hx (y := (⟨"java/lang/StringUTF16", "newBytesLength", "(I)I"⟩ : MethodName)) hown (mvT hZ (hw _ (wI 90 rfl))) (mvT hZ (hw _ (wI 91 rfl))) (mvT hZ (hw _ (wI 69 rfl))) (mvT hZ (hw _ (wI 92 rfl))) (by decide) (backOf (W := 0) (rm21 l Z a0 hw [] (1 : Int32) (2 : Int32) h0 n0 Z0 (by decide) (by decide) (by decide)) hZ (hw _ (wI 92 rfl)) (hw _ (wI 69 rfl)) (by decide) (by decide)) (g := (mkF m 1 #[.val (.int (1 : Int32))] [(.int (1 : Int32))])) rfl (by rw [hml]; rfl) (argsL := [(.int (1 : Int32))]) (rest := []) (lenOf pd_20_4 rfl) rfl (by show 2 * 0 + _ ≤ _; exact Nat.le_of_eq rfl) (hb hby d20_1) (fun _ _ => ⟨rfl, e0, (by decide : 0 + 0 ≤ _), (by decide : 0 + 0 ≤ _)⟩)
  dsimp only [Pt.U, Pt.locs, Pt.cells, Pt.slots] at X1 l1 y1 z1 st1 hQ1
  subst l1 y1 z1
  obtain ⟨rfl, N1q, eq1⟩ := hQ1
  have N1 := Fr.app N0 N1q
  have Kq1 : Keep h0 T1.heap [] := (own_keq eq1)
  have K1 : Keep h0 T1.heap [] := (Keep.refl h0 []).trans Kq1 all0
  obtain ⟨T2, h2, k2, X2, e2, E2, A2, st2⟩ := newP X1 hx hZ (hw _ (wI 16 rfl)) rfl (g := (mkF m 4 #[.val (.int (1 : Int32))] [(.int (2 : Int32))])) rfl (hb hby d20_4) rfl (by decide) (cap := 2) (by decide) (by decide) (by decide) (by decide)
  obtain ⟨b2, g2⟩ : ∃ z, z = T1.heap.size := ⟨_, rfl⟩
  rw [← g2] at A2 st2
  have V_b2 : Arv Z h2 b2 k2 .byte (2 : Int32) [(.int (0 : Int32)), (.int (0 : Int32))] (.int (0 : Int32)) := (Arv.new A2 (by decide)).pad (pad_rep [] (.int (0 : Int32)) 2)
  have g_b2 : n0 ≤ b2 := Nat.le_trans (Nat.le_trans Z0 Kq1.1) (Nat.le_of_eq g2.symm)
  have sz_b2 : h0.size ≤ b2 := (Nat.le_trans K1.1 (Nat.le_of_eq g2.symm))
  have K2 : Keep h0 h2 [] := K1.ext E2
  obtain ⟨fs, hr, hrun, hended, hW, hsame⟩ := X2.leave (v := some (.ref b2)) (fun h => by rw [Bd.returns] at h; cases h)
  refine ⟨_, _, pre0 _ ?_, hrun, hended, _, _, rfl, ?_, ⟨_, rfl⟩, hW, hsame.mono (by decide) (by decide)⟩
  · show Steps p.tables e below (s₁.setTop (mkF m 0 #[.val (.int (1 : Int32))] [])) _
    refine XS.iloadN X0.here hx rfl (hb hby d20_0) rfl ?_
    refine st1 _ ?_
    refine st2 _ ?_
    jvm_step X2.here [X2.here.top, hx, (hb hby d20_6), X2.method', Bd.returns, Value.isRef, FieldType.isReference]
    first | (intro acts; rw [hr _ acts rfl rfl rfl]) | rw [hr _ _ rfl rfl rfl]
    exact Steps.refl _
  · show own_QC Z (2 : Int32) [(.int (0 : Int32)), (.int (0 : Int32))] h0 n0 _ T2.heap _
    rw [e2]
    exact ⟨b2, rfl, N1, g_b2, sz_b2, K2, k2, V_b2⟩
set_option maxRecDepth 65536 in
set_option maxHeartbeats 40000000 in
theorem rm20_2 (l : Launch) (Z : State) (a0 : Array Value) (hw : ∀ d ∈ tables_1, d.before a0 Z = true) (ws : List Jvm.Cond) (_q1 : Int32)  (h0 : Heap) (n0 : Nat) (Z0 : n0 ≤ h0.size) :
    MetFree l (⟨"java/lang/StringUTF16", "newBytesFor", "(I)[B"⟩ : MethodName) (head1 (Jvm.Cond.code (⟨"java/lang/StringUTF16", "newBytesFor", "(I)[B"⟩ : MethodName) jdk_52_method_2_code 1 (some (.array .byte)) :: ws) ({ frames := 1, cells := 1, slots := 6, locals := 12 } : Room)) (fun a U => a = #[(.int (2 : Int32))] ∧ Z.Warmed39 U.vm ∧ U.heap = h0) (fun _ _ _ _ _ => True) (fun _ U o U' => ∃ v L, o = .returned v ∧ own_QC Z (4 : Int32) [(.int (0 : Int32)), (.int (0 : Int32)), (.int (0 : Int32)), (.int (0 : Int32))] h0 n0 v U'.heap L ∧ FrameEnd U o U' L ({ frames := 1, cells := 1, slots := 6, locals := 12 } : Room).cells ({ frames := 1, cells := 1, slots := 6, locals := 12 } : Room).slots) := by
  refine MetFree.of_bodySF (plainFor_of_name pn_20) hisR ?_
  intro p e s m args below meth c s₁ Bd hml0 hP hK
  obtain ⟨rfl, hZ, hh⟩ := hP
  have hx := Bd.exec
  have hby := Bd.bytes
  have hml : c.maxLocals = 1 := hml0
  have hown : s.vm.findClass "java/lang/StringUTF16" = some m.cls := findClass_of_methodNamed Bd.named
  have hnm := (name_of_methodNamed Bd.named Bd.method).1
  have X0 : Stand p l e ({ frames := 1, cells := 1, slots := 6, locals := 12 } : Room) s m #[(.int (2 : Int32))] below meth c s₁ [] 0 0 := Stand.of_body Bd
  have e0 : s₁.heap = h0 := by rw [← hh, Bd.state]; rfl
  have N0 := Fr.nil n0
  have pre0 : ∀ t, Steps p.tables e below (s₁.setTop (mkF m 0 #[.val (.int (2 : Int32))] [])) t → Steps p.tables e below (s₁.setTop (entryFrame m #[(.int (2 : Int32))] 1)) t := fun t k => castTop (ef_20 m (2 : Int32)) k
  obtain ⟨_, _, ⟨T1, L1, k1, n1⟩, -, X1, ⟨Lc1, hQ1, l1, y1, z1⟩, st1⟩ := Jvm.LawKit.callS X0 hx (y := (⟨"java/lang/StringUTF16", "newBytesLength", "(I)I"⟩ : MethodName)) hown (mvT hZ (hw _ (wI 90 rfl))) (mvT hZ (hw _ (wI 91 rfl))) (mvT hZ (hw _ (wI 69 rfl))) (mvT hZ (hw _ (wI 92 rfl))) (by decide) (backOf (W := 0) (rm21 l Z a0 hw [] (2 : Int32) (4 : Int32) h0 n0 Z0 (by decide) (by decide) (by decide)) hZ (hw _ (wI 92 rfl)) (hw _ (wI 69 rfl)) (by decide) (by decide)) (g := (mkF m 1 #[.val (.int (2 : Int32))] [(.int (2 : Int32))])) rfl (by rw [hml]; rfl) (argsL := [(.int (2 : Int32))]) (rest := []) (lenOf pd_20_4 rfl) rfl (by show 2 * 0 + _ ≤ _; exact Nat.le_of_eq rfl) (hb hby d20_1) (fun _ _ => ⟨rfl, e0, (by decide : 0 + 0 ≤ _), (by decide : 0 + 0 ≤ _)⟩)
  dsimp only [Pt.U, Pt.locs, Pt.cells, Pt.slots] at X1 l1 y1 z1 st1 hQ1
  subst l1 y1 z1
  obtain ⟨rfl, N1q, eq1⟩ := hQ1
  have N1 := Fr.app N0 N1q
  have Kq1 : Keep h0 T1.heap [] := (own_keq eq1)
  have K1 : Keep h0 T1.heap [] := (Keep.refl h0 []).trans Kq1 all0
  obtain ⟨T2, h2, k2, X2, e2, E2, A2, st2⟩ := newP X1 hx hZ (hw _ (wI 16 rfl)) rfl (g := (mkF m 4 #[.val (.int (2 : Int32))] [(.int (4 : Int32))])) rfl (hb hby d20_4) rfl (by decide) (cap := 4) (by decide) (by decide) (by decide) (by decide)
  obtain ⟨b2, g2⟩ : ∃ z, z = T1.heap.size := ⟨_, rfl⟩
  rw [← g2] at A2 st2
  have V_b2 : Arv Z h2 b2 k2 .byte (4 : Int32) [(.int (0 : Int32)), (.int (0 : Int32)), (.int (0 : Int32)), (.int (0 : Int32))] (.int (0 : Int32)) := (Arv.new A2 (by decide)).pad (pad_rep [] (.int (0 : Int32)) 4)
  have g_b2 : n0 ≤ b2 := Nat.le_trans (Nat.le_trans Z0 Kq1.1) (Nat.le_of_eq g2.symm)
  have sz_b2 : h0.size ≤ b2 := (Nat.le_trans K1.1 (Nat.le_of_eq g2.symm))
  have K2 : Keep h0 h2 [] := K1.ext E2
  obtain ⟨fs, hr, hrun, hended, hW, hsame⟩ := X2.leave (v := some (.ref b2)) (fun h => by rw [Bd.returns] at h; cases h)
  refine ⟨_, _, pre0 _ ?_, hrun, hended, _, _, rfl, ?_, ⟨_, rfl⟩, hW, hsame.mono (by decide) (by decide)⟩
  · show Steps p.tables e below (s₁.setTop (mkF m 0 #[.val (.int (2 : Int32))] [])) _
    refine XS.iloadN X0.here hx rfl (hb hby d20_0) rfl ?_
    refine st1 _ ?_
    refine st2 _ ?_
    jvm_step X2.here [X2.here.top, hx, (hb hby d20_6), X2.method', Bd.returns, Value.isRef, FieldType.isReference]
    first | (intro acts; rw [hr _ acts rfl rfl rfl]) | rw [hr _ _ rfl rfl rfl]
    exact Steps.refl _
  · show own_QC Z (4 : Int32) [(.int (0 : Int32)), (.int (0 : Int32)), (.int (0 : Int32)), (.int (0 : Int32))] h0 n0 _ T2.heap _
    rw [e2]
    exact ⟨b2, rfl, N1, g_b2, sz_b2, K2, k2, V_b2⟩
set_option maxRecDepth 65536 in
set_option maxHeartbeats 40000000 in
theorem rm20_3 (l : Launch) (Z : State) (a0 : Array Value) (hw : ∀ d ∈ tables_1, d.before a0 Z = true) (ws : List Jvm.Cond) (_q1 : Int32)  (h0 : Heap) (n0 : Nat) (Z0 : n0 ≤ h0.size) :
    MetFree l (⟨"java/lang/StringUTF16", "newBytesFor", "(I)[B"⟩ : MethodName) (head1 (Jvm.Cond.code (⟨"java/lang/StringUTF16", "newBytesFor", "(I)[B"⟩ : MethodName) jdk_52_method_2_code 1 (some (.array .byte)) :: ws) ({ frames := 1, cells := 1, slots := 6, locals := 12 } : Room)) (fun a U => a = #[(.int (3 : Int32))] ∧ Z.Warmed39 U.vm ∧ U.heap = h0) (fun _ _ _ _ _ => True) (fun _ U o U' => ∃ v L, o = .returned v ∧ own_QC Z (6 : Int32) [(.int (0 : Int32)), (.int (0 : Int32)), (.int (0 : Int32)), (.int (0 : Int32)), (.int (0 : Int32)), (.int (0 : Int32))] h0 n0 v U'.heap L ∧ FrameEnd U o U' L ({ frames := 1, cells := 1, slots := 6, locals := 12 } : Room).cells ({ frames := 1, cells := 1, slots := 6, locals := 12 } : Room).slots) := by
  refine MetFree.of_bodySF (plainFor_of_name pn_20) hisR ?_
  intro p e s m args below meth c s₁ Bd hml0 hP hK
  obtain ⟨rfl, hZ, hh⟩ := hP
  have hx := Bd.exec
  have hby := Bd.bytes
  have hml : c.maxLocals = 1 := hml0
  have hown : s.vm.findClass "java/lang/StringUTF16" = some m.cls := findClass_of_methodNamed Bd.named
  have hnm := (name_of_methodNamed Bd.named Bd.method).1
  have X0 : Stand p l e ({ frames := 1, cells := 1, slots := 6, locals := 12 } : Room) s m #[(.int (3 : Int32))] below meth c s₁ [] 0 0 := Stand.of_body Bd
  have e0 : s₁.heap = h0 := by rw [← hh, Bd.state]; rfl
  have N0 := Fr.nil n0
  have pre0 : ∀ t, Steps p.tables e below (s₁.setTop (mkF m 0 #[.val (.int (3 : Int32))] [])) t → Steps p.tables e below (s₁.setTop (entryFrame m #[(.int (3 : Int32))] 1)) t := fun t k => castTop (ef_20 m (3 : Int32)) k
  obtain ⟨_, _, ⟨T1, L1, k1, n1⟩, -, X1, ⟨Lc1, hQ1, l1, y1, z1⟩, st1⟩ := Jvm.LawKit.callS X0 hx (y := (⟨"java/lang/StringUTF16", "newBytesLength", "(I)I"⟩ : MethodName)) hown (mvT hZ (hw _ (wI 90 rfl))) (mvT hZ (hw _ (wI 91 rfl))) (mvT hZ (hw _ (wI 69 rfl))) (mvT hZ (hw _ (wI 92 rfl))) (by decide) (backOf (W := 0) (rm21 l Z a0 hw [] (3 : Int32) (6 : Int32) h0 n0 Z0 (by decide) (by decide) (by decide)) hZ (hw _ (wI 92 rfl)) (hw _ (wI 69 rfl)) (by decide) (by decide)) (g := (mkF m 1 #[.val (.int (3 : Int32))] [(.int (3 : Int32))])) rfl (by rw [hml]; rfl) (argsL := [(.int (3 : Int32))]) (rest := []) (lenOf pd_20_4 rfl) rfl (by show 2 * 0 + _ ≤ _; exact Nat.le_of_eq rfl) (hb hby d20_1) (fun _ _ => ⟨rfl, e0, (by decide : 0 + 0 ≤ _), (by decide : 0 + 0 ≤ _)⟩)
  dsimp only [Pt.U, Pt.locs, Pt.cells, Pt.slots] at X1 l1 y1 z1 st1 hQ1
  subst l1 y1 z1
  obtain ⟨rfl, N1q, eq1⟩ := hQ1
  have N1 := Fr.app N0 N1q
  have Kq1 : Keep h0 T1.heap [] := (own_keq eq1)
  have K1 : Keep h0 T1.heap [] := (Keep.refl h0 []).trans Kq1 all0
  obtain ⟨T2, h2, k2, X2, e2, E2, A2, st2⟩ := newP X1 hx hZ (hw _ (wI 16 rfl)) rfl (g := (mkF m 4 #[.val (.int (3 : Int32))] [(.int (6 : Int32))])) rfl (hb hby d20_4) rfl (by decide) (cap := 6) (by decide) (by decide) (by decide) (by decide)
  obtain ⟨b2, g2⟩ : ∃ z, z = T1.heap.size := ⟨_, rfl⟩
  rw [← g2] at A2 st2
  have V_b2 : Arv Z h2 b2 k2 .byte (6 : Int32) [(.int (0 : Int32)), (.int (0 : Int32)), (.int (0 : Int32)), (.int (0 : Int32)), (.int (0 : Int32)), (.int (0 : Int32))] (.int (0 : Int32)) := (Arv.new A2 (by decide)).pad (pad_rep [] (.int (0 : Int32)) 6)
  have g_b2 : n0 ≤ b2 := Nat.le_trans (Nat.le_trans Z0 Kq1.1) (Nat.le_of_eq g2.symm)
  have sz_b2 : h0.size ≤ b2 := (Nat.le_trans K1.1 (Nat.le_of_eq g2.symm))
  have K2 : Keep h0 h2 [] := K1.ext E2
  obtain ⟨fs, hr, hrun, hended, hW, hsame⟩ := X2.leave (v := some (.ref b2)) (fun h => by rw [Bd.returns] at h; cases h)
  refine ⟨_, _, pre0 _ ?_, hrun, hended, _, _, rfl, ?_, ⟨_, rfl⟩, hW, hsame.mono (by decide) (by decide)⟩
  · show Steps p.tables e below (s₁.setTop (mkF m 0 #[.val (.int (3 : Int32))] [])) _
    refine XS.iloadN X0.here hx rfl (hb hby d20_0) rfl ?_
    refine st1 _ ?_
    refine st2 _ ?_
    jvm_step X2.here [X2.here.top, hx, (hb hby d20_6), X2.method', Bd.returns, Value.isRef, FieldType.isReference]
    first | (intro acts; rw [hr _ acts rfl rfl rfl]) | rw [hr _ _ rfl rfl rfl]
    exact Steps.refl _
  · show own_QC Z (6 : Int32) [(.int (0 : Int32)), (.int (0 : Int32)), (.int (0 : Int32)), (.int (0 : Int32)), (.int (0 : Int32)), (.int (0 : Int32))] h0 n0 _ T2.heap _
    rw [e2]
    exact ⟨b2, rfl, N1, g_b2, sz_b2, K2, k2, V_b2⟩
theorem d11_0 : decode jdk_43_method_4_code 0 = .ok (.iload_n 0, 1) := by decide +kernel
theorem d11_1 : decode jdk_43_method_4_code 1 = .ok (.ifCond .lt 14, 3) := by decide +kernel
theorem d11_4 : decode jdk_43_method_4_code 4 = .ok (.iload_n 0, 1) := by decide +kernel
theorem d11_5 : decode jdk_43_method_4_code 5 = .ok (.sipush 255, 3) := by decide +kernel
theorem d11_8 : decode jdk_43_method_4_code 8 = .ok (.if_icmp .gt 7, 3) := by decide +kernel
theorem d11_11 : decode jdk_43_method_4_code 11 = .ok (.iconst 1, 1) := by decide +kernel
theorem d11_12 : decode jdk_43_method_4_code 12 = .ok (.goto 4, 3) := by decide +kernel
theorem d11_16 : decode jdk_43_method_4_code 16 = .ok (.ireturn, 1) := by decide +kernel
theorem pn_11 : plainName "java/lang/StringLatin1" = true := by first | (simp [plainName, overriddenIn]; done) | decide +kernel
theorem ef_11 (m : MethodId) (x0 : Int32) : entryFrame m #[(.int x0)] 1 = mkF m 0 #[.val (.int x0)] [] := by first | (simp [entryFrame, mkF, argsToLocals, Value.category]; done) | rfl
set_option maxRecDepth 65536 in
set_option maxHeartbeats 40000000 in
theorem rm11 (l : Launch) (Z : State) (a0 : Array Value) (hw : ∀ d ∈ tables_1, d.before a0 Z = true) (ws : List Jvm.Cond) (p1 : Int32) (h0 : Heap) (n0 : Nat) (Z0 : n0 ≤ h0.size) (hc1 : ¬ (p1 < (0 : Int32))) (hc8 : ¬ ((255 : Int32) < p1)) :
    MetFree l (⟨"java/lang/StringLatin1", "canEncode", "(I)Z"⟩ : MethodName) (head1 (Jvm.Cond.code (⟨"java/lang/StringLatin1", "canEncode", "(I)Z"⟩ : MethodName) jdk_43_method_4_code 1 (some .boolean) :: ws) ({ frames := 0, cells := 0, slots := 0, locals := 0 } : Room)) (fun a U => a = #[(.int p1)] ∧ Z.Warmed39 U.vm ∧ U.heap = h0) (fun _ _ _ _ _ => True) (fun _ U o U' => ∃ v L, o = .returned v ∧ own_QR (.int (1 : Int32)) h0 n0 v U'.heap L ∧ FrameEnd U o U' L ({ frames := 0, cells := 0, slots := 0, locals := 0 } : Room).cells ({ frames := 0, cells := 0, slots := 0, locals := 0 } : Room).slots) := by
  refine MetFree.of_bodySF (plainFor_of_name pn_11) hisR ?_
  intro p e s m args below meth c s₁ Bd hml0 hP hK
  obtain ⟨rfl, hZ, hh⟩ := hP
  have hx := Bd.exec
  have hby := Bd.bytes
  have hml : c.maxLocals = 1 := hml0
  have hown : s.vm.findClass "java/lang/StringLatin1" = some m.cls := findClass_of_methodNamed Bd.named
  have hnm := (name_of_methodNamed Bd.named Bd.method).1
  have X0 : Stand p l e ({ frames := 0, cells := 0, slots := 0, locals := 0 } : Room) s m #[(.int p1)] below meth c s₁ [] 0 0 := Stand.of_body Bd
  have e0 : s₁.heap = h0 := by rw [← hh, Bd.state]; rfl
  have N0 := Fr.nil n0
  have pre0 : ∀ t, Steps p.tables e below (s₁.setTop (mkF m 0 #[.val (.int p1)] [])) t → Steps p.tables e below (s₁.setTop (entryFrame m #[(.int p1)] 1)) t := fun t k => castTop (ef_11 m p1) k

  obtain ⟨fs, hr, hrun, hended, hW, hsame⟩ := X0.leave (v := some (.int (1 : Int32))) (fun h => by rw [Bd.returns] at h; cases h)
  refine ⟨_, _, pre0 _ ?_, hrun, hended, _, _, rfl, ?_, ⟨_, rfl⟩, hW, hsame.mono (by decide) (by decide)⟩
  · show Steps p.tables e below (s₁.setTop (mkF m 0 #[.val (.int p1)] [])) _
    refine XS.iloadN X0.here hx rfl (hb hby d11_0) rfl ?_
    refine XS.ifNo X0.here hx rfl (hb hby d11_1) rfl ((if0 _ _).trans (flt hc1).1) ?_
    refine XS.iloadN X0.here hx rfl (hb hby d11_4) rfl ?_
    refine XS.sipush X0.here hx rfl (hb hby d11_5) ?_
    refine XS.icmpNo X0.here hx rfl (hb hby d11_8) rfl (flt hc8).2.2.1 ?_
    show Steps p.tables e below (s₁.setTop (mkF m 11 #[.val (.int p1)] [])) _
    refine XS.iconst X0.here hx rfl (hb hby d11_11) ?_
    refine XS.goto X0.here hx rfl (pc0 := 12) (pc' := 16) rfl (hb hby d11_12) (by decide) (by decide) ?_
    exact retN X0 hx (t := .boolean) Bd.returns (by simp) (hb hby d11_16) hr
  · show own_QR (.int (1 : Int32)) h0 n0 _ s₁.heap _
    rw [e0]
    exact ⟨rfl, N0, rfl⟩
theorem d12_0 : decode jdk_29_method_65_code 0 = .ok (.iload_n 0, 1) := by decide +kernel
theorem d12_1 : decode jdk_29_method_65_code 1 = .ok (.iload_n 1, 1) := by decide +kernel
theorem d12_2 : decode jdk_29_method_65_code 2 = .ok (.if_icmp .lt 7, 3) := by decide +kernel
theorem d12_5 : decode jdk_29_method_65_code 5 = .ok (.iload_n 0, 1) := by decide +kernel
theorem d12_6 : decode jdk_29_method_65_code 6 = .ok (.goto 4, 3) := by decide +kernel
theorem d12_10 : decode jdk_29_method_65_code 10 = .ok (.ireturn, 1) := by decide +kernel
theorem ef_12 (m : MethodId) (x0 : Int32) (x1 : Int32) : entryFrame m #[(.int x0), (.int x1)] 2 = mkF m 0 #[.val (.int x0), .val (.int x1)] [] := by first | (simp [entryFrame, mkF, argsToLocals, Value.category]; done) | rfl
set_option maxRecDepth 65536 in
set_option maxHeartbeats 40000000 in
theorem rm12 (l : Launch) (Z : State) (a0 : Array Value) (hw : ∀ d ∈ tables_1, d.before a0 Z = true) (ws : List Jvm.Cond) (p1 : Int32) (p2 : Int32) (h0 : Heap) (n0 : Nat) (Z0 : n0 ≤ h0.size) (hc2 : ¬ (p1 < p2)) :
    MetFree l (⟨"java/lang/Math", "max", "(II)I"⟩ : MethodName) (head1 (Jvm.Cond.code (⟨"java/lang/Math", "max", "(II)I"⟩ : MethodName) jdk_29_method_65_code 2 (some .int) :: ws) ({ frames := 0, cells := 0, slots := 0, locals := 0 } : Room)) (fun a U => a = #[(.int p1), (.int p2)] ∧ Z.Warmed39 U.vm ∧ U.heap = h0) (fun _ _ _ _ _ => True) (fun _ U o U' => ∃ v L, o = .returned v ∧ own_QR (.int p1) h0 n0 v U'.heap L ∧ FrameEnd U o U' L ({ frames := 0, cells := 0, slots := 0, locals := 0 } : Room).cells ({ frames := 0, cells := 0, slots := 0, locals := 0 } : Room).slots) := by
  refine MetFree.of_bodySF (Jvm.Free.JP.mathPlain rfl (by decide +kernel)) hisR ?_
  intro p e s m args below meth c s₁ Bd hml0 hP hK
  obtain ⟨rfl, hZ, hh⟩ := hP
  have hx := Bd.exec
  have hby := Bd.bytes
  have hml : c.maxLocals = 2 := hml0
  have hown : s.vm.findClass "java/lang/Math" = some m.cls := findClass_of_methodNamed Bd.named
  have hnm := (name_of_methodNamed Bd.named Bd.method).1
  have X0 : Stand p l e ({ frames := 0, cells := 0, slots := 0, locals := 0 } : Room) s m #[(.int p1), (.int p2)] below meth c s₁ [] 0 0 := Stand.of_body Bd
  have e0 : s₁.heap = h0 := by rw [← hh, Bd.state]; rfl
  have N0 := Fr.nil n0
  have pre0 : ∀ t, Steps p.tables e below (s₁.setTop (mkF m 0 #[.val (.int p1), .val (.int p2)] [])) t → Steps p.tables e below (s₁.setTop (entryFrame m #[(.int p1), (.int p2)] 2)) t := fun t k => castTop (ef_12 m p1 p2) k

  obtain ⟨fs, hr, hrun, hended, hW, hsame⟩ := X0.leave (v := some (.int p1)) (fun h => by rw [Bd.returns] at h; cases h)
  refine ⟨_, _, pre0 _ ?_, hrun, hended, _, _, rfl, ?_, ⟨_, rfl⟩, hW, hsame.mono (by decide) (by decide)⟩
  · show Steps p.tables e below (s₁.setTop (mkF m 0 #[.val (.int p1), .val (.int p2)] [])) _
    refine XS.iloadN X0.here hx rfl (hb hby d12_0) rfl ?_
    refine XS.iloadN X0.here hx rfl (hb hby d12_1) rfl ?_
    refine XS.icmpNo X0.here hx rfl (hb hby d12_2) rfl (flt hc2).1 ?_
    refine XS.iloadN X0.here hx rfl (hb hby d12_5) rfl ?_
    refine XS.goto X0.here hx rfl (pc0 := 6) (pc' := 10) rfl (hb hby d12_6) (by decide) (by decide) ?_
    show Steps p.tables e below (s₁.setTop (mkF m 10 #[.val (.int p1), .val (.int p2)] [(.int p1)])) _
    exact retI X0 hx Bd.returns (hb hby d12_10) hr
  · show own_QR (.int p1) h0 n0 _ s₁.heap _
    rw [e0]
    exact ⟨rfl, N0, rfl⟩
theorem d13_0 : decode jdk_29_method_69_code 0 = .ok (.iload_n 0, 1) := by decide +kernel
theorem d13_1 : decode jdk_29_method_69_code 1 = .ok (.iload_n 1, 1) := by decide +kernel
theorem d13_2 : decode jdk_29_method_69_code 2 = .ok (.if_icmp .gt 7, 3) := by decide +kernel
theorem d13_5 : decode jdk_29_method_69_code 5 = .ok (.iload_n 0, 1) := by decide +kernel
theorem d13_6 : decode jdk_29_method_69_code 6 = .ok (.goto 4, 3) := by decide +kernel
theorem d13_10 : decode jdk_29_method_69_code 10 = .ok (.ireturn, 1) := by decide +kernel
theorem ef_13 (m : MethodId) (x0 : Int32) (x1 : Int32) : entryFrame m #[(.int x0), (.int x1)] 2 = mkF m 0 #[.val (.int x0), .val (.int x1)] [] := by first | (simp [entryFrame, mkF, argsToLocals, Value.category]; done) | rfl
set_option maxRecDepth 65536 in
set_option maxHeartbeats 40000000 in
theorem rm13 (l : Launch) (Z : State) (a0 : Array Value) (hw : ∀ d ∈ tables_1, d.before a0 Z = true) (ws : List Jvm.Cond) (p1 : Int32) (p2 : Int32) (h0 : Heap) (n0 : Nat) (Z0 : n0 ≤ h0.size) (hc2 : ¬ (p2 < p1)) :
    MetFree l (⟨"java/lang/Math", "min", "(II)I"⟩ : MethodName) (head1 (Jvm.Cond.code (⟨"java/lang/Math", "min", "(II)I"⟩ : MethodName) jdk_29_method_69_code 2 (some .int) :: ws) ({ frames := 0, cells := 0, slots := 0, locals := 0 } : Room)) (fun a U => a = #[(.int p1), (.int p2)] ∧ Z.Warmed39 U.vm ∧ U.heap = h0) (fun _ _ _ _ _ => True) (fun _ U o U' => ∃ v L, o = .returned v ∧ own_QR (.int p1) h0 n0 v U'.heap L ∧ FrameEnd U o U' L ({ frames := 0, cells := 0, slots := 0, locals := 0 } : Room).cells ({ frames := 0, cells := 0, slots := 0, locals := 0 } : Room).slots) := by
  refine MetFree.of_bodySF (Jvm.Free.JP.mathPlain rfl (by decide +kernel)) hisR ?_
  intro p e s m args below meth c s₁ Bd hml0 hP hK
  obtain ⟨rfl, hZ, hh⟩ := hP
  have hx := Bd.exec
  have hby := Bd.bytes
  have hml : c.maxLocals = 2 := hml0
  have hown : s.vm.findClass "java/lang/Math" = some m.cls := findClass_of_methodNamed Bd.named
  have hnm := (name_of_methodNamed Bd.named Bd.method).1
  have X0 : Stand p l e ({ frames := 0, cells := 0, slots := 0, locals := 0 } : Room) s m #[(.int p1), (.int p2)] below meth c s₁ [] 0 0 := Stand.of_body Bd
  have e0 : s₁.heap = h0 := by rw [← hh, Bd.state]; rfl
  have N0 := Fr.nil n0
  have pre0 : ∀ t, Steps p.tables e below (s₁.setTop (mkF m 0 #[.val (.int p1), .val (.int p2)] [])) t → Steps p.tables e below (s₁.setTop (entryFrame m #[(.int p1), (.int p2)] 2)) t := fun t k => castTop (ef_13 m p1 p2) k

  obtain ⟨fs, hr, hrun, hended, hW, hsame⟩ := X0.leave (v := some (.int p1)) (fun h => by rw [Bd.returns] at h; cases h)
  refine ⟨_, _, pre0 _ ?_, hrun, hended, _, _, rfl, ?_, ⟨_, rfl⟩, hW, hsame.mono (by decide) (by decide)⟩
  · show Steps p.tables e below (s₁.setTop (mkF m 0 #[.val (.int p1), .val (.int p2)] [])) _
    refine XS.iloadN X0.here hx rfl (hb hby d13_0) rfl ?_
    refine XS.iloadN X0.here hx rfl (hb hby d13_1) rfl ?_
    refine XS.icmpNo X0.here hx rfl (hb hby d13_2) rfl (flt hc2).2.2.1 ?_
    refine XS.iloadN X0.here hx rfl (hb hby d13_5) rfl ?_
    refine XS.goto X0.here hx rfl (pc0 := 6) (pc' := 10) rfl (hb hby d13_6) (by decide) (by decide) ?_
    show Steps p.tables e below (s₁.setTop (mkF m 10 #[.val (.int p1), .val (.int p2)] [(.int p1)])) _
    exact retI X0 hx Bd.returns (hb hby d13_10) hr
  · show own_QR (.int p1) h0 n0 _ s₁.heap _
    rw [e0]
    exact ⟨rfl, N0, rfl⟩
def own_ok (c : Int32) : Int32 := if c = 34 then 0 else if c = 10 then 0 else 1
theorem d17_0 : decode method_2_code 0 = .ok (.iload_n 0, 1) := by decide +kernel
theorem d17_1 : decode method_2_code 1 = .ok (.bipush 34, 2) := by decide +kernel
theorem d17_3 : decode method_2_code 3 = .ok (.if_icmp .eq 13, 3) := by decide +kernel
theorem d17_16 : decode method_2_code 16 = .ok (.iconst 0, 1) := by decide +kernel
theorem d17_17 : decode method_2_code 17 = .ok (.ireturn, 1) := by decide +kernel
theorem pn_17 : plainName "com/example/crisp_bisim/crispbisim/formats/TextCursorIsQuotablePinLaw" = true := by first | (simp [plainName, overriddenIn]; done) | decide +kernel
theorem ef_17 (m : MethodId) (x0 : Int32) : entryFrame m #[(.int x0)] 1 = mkF m 0 #[.val (.int x0)] [] := by first | (simp [entryFrame, mkF, argsToLocals, Value.category]; done) | rfl
set_option maxRecDepth 65536 in
set_option maxHeartbeats 40000000 in
theorem rm17_t (l : Launch) (Z : State) (a0 : Array Value) (hw : ∀ d ∈ tables_1, d.before a0 Z = true) (ws : List Jvm.Cond) (p1 : Int32) (h0 : Heap) (n0 : Nat) (Z0 : n0 ≤ h0.size) (hc3 : p1 = (34 : Int32)) :
    MetFree l (⟨"com/example/crisp_bisim/crispbisim/formats/TextCursorIsQuotablePinLaw", "ok", "(C)Z"⟩ : MethodName) (head1 (Jvm.Cond.code (⟨"com/example/crisp_bisim/crispbisim/formats/TextCursorIsQuotablePinLaw", "ok", "(C)Z"⟩ : MethodName) method_2_code 1 (some .boolean) :: ws) ({ frames := 0, cells := 0, slots := 0, locals := 0 } : Room)) (fun a U => a = #[(.int p1)] ∧ Z.Warmed39 U.vm ∧ U.heap = h0) (fun _ _ _ _ _ => True) (fun _ U o U' => ∃ v L, o = .returned v ∧ own_QR (.int (0 : Int32)) h0 n0 v U'.heap L ∧ FrameEnd U o U' L ({ frames := 0, cells := 0, slots := 0, locals := 0 } : Room).cells ({ frames := 0, cells := 0, slots := 0, locals := 0 } : Room).slots) := by
  refine MetFree.of_bodySF (plainFor_of_name pn_17) hisR ?_
  intro p e s m args below meth c s₁ Bd hml0 hP hK
  obtain ⟨rfl, hZ, hh⟩ := hP
  have hx := Bd.exec
  have hby := Bd.bytes
  have hml : c.maxLocals = 1 := hml0
  have hown : s.vm.findClass "com/example/crisp_bisim/crispbisim/formats/TextCursorIsQuotablePinLaw" = some m.cls := findClass_of_methodNamed Bd.named
  have hnm := (name_of_methodNamed Bd.named Bd.method).1
  have X0 : Stand p l e ({ frames := 0, cells := 0, slots := 0, locals := 0 } : Room) s m #[(.int p1)] below meth c s₁ [] 0 0 := Stand.of_body Bd
  have e0 : s₁.heap = h0 := by rw [← hh, Bd.state]; rfl
  have N0 := Fr.nil n0
  have pre0 : ∀ t, Steps p.tables e below (s₁.setTop (mkF m 0 #[.val (.int p1)] [])) t → Steps p.tables e below (s₁.setTop (entryFrame m #[(.int p1)] 1)) t := fun t k => castTop (ef_17 m p1) k

  obtain ⟨fs, hr, hrun, hended, hW, hsame⟩ := X0.leave (v := some (.int (0 : Int32))) (fun h => by rw [Bd.returns] at h; cases h)
  refine ⟨_, _, pre0 _ ?_, hrun, hended, _, _, rfl, ?_, ⟨_, rfl⟩, hW, hsame.mono (by decide) (by decide)⟩
  · show Steps p.tables e below (s₁.setTop (mkF m 0 #[.val (.int p1)] [])) _
    refine XS.iloadN X0.here hx rfl (hb hby d17_0) rfl ?_
    refine XS.bipush X0.here hx rfl (hb hby d17_1) ?_
    refine XS.icmpYes X0.here hx rfl (pc0 := 3) (pc' := 16) rfl (hb hby d17_3) rfl (teq hc3).1 (by decide) (by decide) ?_
    refine XS.iconst X0.here hx rfl (hb hby d17_16) ?_
    exact retN X0 hx (t := .boolean) Bd.returns (by simp) (hb hby d17_17) hr
  · show own_QR (.int (0 : Int32)) h0 n0 _ s₁.heap _
    rw [e0]
    exact ⟨rfl, N0, rfl⟩
theorem d17_6 : decode method_2_code 6 = .ok (.iload_n 0, 1) := by decide +kernel
theorem d17_7 : decode method_2_code 7 = .ok (.bipush 10, 2) := by decide +kernel
theorem d17_9 : decode method_2_code 9 = .ok (.if_icmp .eq 7, 3) := by decide +kernel
set_option maxRecDepth 65536 in
set_option maxHeartbeats 40000000 in
theorem rm17_ft (l : Launch) (Z : State) (a0 : Array Value) (hw : ∀ d ∈ tables_1, d.before a0 Z = true) (ws : List Jvm.Cond) (p1 : Int32) (h0 : Heap) (n0 : Nat) (Z0 : n0 ≤ h0.size) (hc3 : ¬ (p1 = (34 : Int32))) (hc9 : p1 = (10 : Int32)) :
    MetFree l (⟨"com/example/crisp_bisim/crispbisim/formats/TextCursorIsQuotablePinLaw", "ok", "(C)Z"⟩ : MethodName) (head1 (Jvm.Cond.code (⟨"com/example/crisp_bisim/crispbisim/formats/TextCursorIsQuotablePinLaw", "ok", "(C)Z"⟩ : MethodName) method_2_code 1 (some .boolean) :: ws) ({ frames := 0, cells := 0, slots := 0, locals := 0 } : Room)) (fun a U => a = #[(.int p1)] ∧ Z.Warmed39 U.vm ∧ U.heap = h0) (fun _ _ _ _ _ => True) (fun _ U o U' => ∃ v L, o = .returned v ∧ own_QR (.int (0 : Int32)) h0 n0 v U'.heap L ∧ FrameEnd U o U' L ({ frames := 0, cells := 0, slots := 0, locals := 0 } : Room).cells ({ frames := 0, cells := 0, slots := 0, locals := 0 } : Room).slots) := by
  refine MetFree.of_bodySF (plainFor_of_name pn_17) hisR ?_
  intro p e s m args below meth c s₁ Bd hml0 hP hK
  obtain ⟨rfl, hZ, hh⟩ := hP
  have hx := Bd.exec
  have hby := Bd.bytes
  have hml : c.maxLocals = 1 := hml0
  have hown : s.vm.findClass "com/example/crisp_bisim/crispbisim/formats/TextCursorIsQuotablePinLaw" = some m.cls := findClass_of_methodNamed Bd.named
  have hnm := (name_of_methodNamed Bd.named Bd.method).1
  have X0 : Stand p l e ({ frames := 0, cells := 0, slots := 0, locals := 0 } : Room) s m #[(.int p1)] below meth c s₁ [] 0 0 := Stand.of_body Bd
  have e0 : s₁.heap = h0 := by rw [← hh, Bd.state]; rfl
  have N0 := Fr.nil n0
  have pre0 : ∀ t, Steps p.tables e below (s₁.setTop (mkF m 0 #[.val (.int p1)] [])) t → Steps p.tables e below (s₁.setTop (entryFrame m #[(.int p1)] 1)) t := fun t k => castTop (ef_17 m p1) k

  obtain ⟨fs, hr, hrun, hended, hW, hsame⟩ := X0.leave (v := some (.int (0 : Int32))) (fun h => by rw [Bd.returns] at h; cases h)
  refine ⟨_, _, pre0 _ ?_, hrun, hended, _, _, rfl, ?_, ⟨_, rfl⟩, hW, hsame.mono (by decide) (by decide)⟩
  · show Steps p.tables e below (s₁.setTop (mkF m 0 #[.val (.int p1)] [])) _
    refine XS.iloadN X0.here hx rfl (hb hby d17_0) rfl ?_
    refine XS.bipush X0.here hx rfl (hb hby d17_1) ?_
    refine XS.icmpNo X0.here hx rfl (hb hby d17_3) rfl (feq hc3).1 ?_
    refine XS.iloadN X0.here hx rfl (hb hby d17_6) rfl ?_
    refine XS.bipush X0.here hx rfl (hb hby d17_7) ?_
    show Steps p.tables e below (s₁.setTop (mkF m 9 #[.val (.int p1)] [(.int (10 : Int32)), (.int p1)])) _
    refine XS.icmpYes X0.here hx rfl (pc0 := 9) (pc' := 16) rfl (hb hby d17_9) rfl (teq hc9).1 (by decide) (by decide) ?_
    refine XS.iconst X0.here hx rfl (hb hby d17_16) ?_
    exact retN X0 hx (t := .boolean) Bd.returns (by simp) (hb hby d17_17) hr
  · show own_QR (.int (0 : Int32)) h0 n0 _ s₁.heap _
    rw [e0]
    exact ⟨rfl, N0, rfl⟩
theorem d17_12 : decode method_2_code 12 = .ok (.iconst 1, 1) := by decide +kernel
theorem d17_13 : decode method_2_code 13 = .ok (.goto 4, 3) := by decide +kernel
set_option maxRecDepth 65536 in
set_option maxHeartbeats 40000000 in
theorem rm17_ff (l : Launch) (Z : State) (a0 : Array Value) (hw : ∀ d ∈ tables_1, d.before a0 Z = true) (ws : List Jvm.Cond) (p1 : Int32) (h0 : Heap) (n0 : Nat) (Z0 : n0 ≤ h0.size) (hc3 : ¬ (p1 = (34 : Int32))) (hc9 : ¬ (p1 = (10 : Int32))) :
    MetFree l (⟨"com/example/crisp_bisim/crispbisim/formats/TextCursorIsQuotablePinLaw", "ok", "(C)Z"⟩ : MethodName) (head1 (Jvm.Cond.code (⟨"com/example/crisp_bisim/crispbisim/formats/TextCursorIsQuotablePinLaw", "ok", "(C)Z"⟩ : MethodName) method_2_code 1 (some .boolean) :: ws) ({ frames := 0, cells := 0, slots := 0, locals := 0 } : Room)) (fun a U => a = #[(.int p1)] ∧ Z.Warmed39 U.vm ∧ U.heap = h0) (fun _ _ _ _ _ => True) (fun _ U o U' => ∃ v L, o = .returned v ∧ own_QR (.int (1 : Int32)) h0 n0 v U'.heap L ∧ FrameEnd U o U' L ({ frames := 0, cells := 0, slots := 0, locals := 0 } : Room).cells ({ frames := 0, cells := 0, slots := 0, locals := 0 } : Room).slots) := by
  refine MetFree.of_bodySF (plainFor_of_name pn_17) hisR ?_
  intro p e s m args below meth c s₁ Bd hml0 hP hK
  obtain ⟨rfl, hZ, hh⟩ := hP
  have hx := Bd.exec
  have hby := Bd.bytes
  have hml : c.maxLocals = 1 := hml0
  have hown : s.vm.findClass "com/example/crisp_bisim/crispbisim/formats/TextCursorIsQuotablePinLaw" = some m.cls := findClass_of_methodNamed Bd.named
  have hnm := (name_of_methodNamed Bd.named Bd.method).1
  have X0 : Stand p l e ({ frames := 0, cells := 0, slots := 0, locals := 0 } : Room) s m #[(.int p1)] below meth c s₁ [] 0 0 := Stand.of_body Bd
  have e0 : s₁.heap = h0 := by rw [← hh, Bd.state]; rfl
  have N0 := Fr.nil n0
  have pre0 : ∀ t, Steps p.tables e below (s₁.setTop (mkF m 0 #[.val (.int p1)] [])) t → Steps p.tables e below (s₁.setTop (entryFrame m #[(.int p1)] 1)) t := fun t k => castTop (ef_17 m p1) k

  obtain ⟨fs, hr, hrun, hended, hW, hsame⟩ := X0.leave (v := some (.int (1 : Int32))) (fun h => by rw [Bd.returns] at h; cases h)
  refine ⟨_, _, pre0 _ ?_, hrun, hended, _, _, rfl, ?_, ⟨_, rfl⟩, hW, hsame.mono (by decide) (by decide)⟩
  · show Steps p.tables e below (s₁.setTop (mkF m 0 #[.val (.int p1)] [])) _
    refine XS.iloadN X0.here hx rfl (hb hby d17_0) rfl ?_
    refine XS.bipush X0.here hx rfl (hb hby d17_1) ?_
    refine XS.icmpNo X0.here hx rfl (hb hby d17_3) rfl (feq hc3).1 ?_
    refine XS.iloadN X0.here hx rfl (hb hby d17_6) rfl ?_
    refine XS.bipush X0.here hx rfl (hb hby d17_7) ?_
    show Steps p.tables e below (s₁.setTop (mkF m 9 #[.val (.int p1)] [(.int (10 : Int32)), (.int p1)])) _
    refine XS.icmpNo X0.here hx rfl (hb hby d17_9) rfl (feq hc9).1 ?_
    refine XS.iconst X0.here hx rfl (hb hby d17_12) ?_
    refine XS.goto X0.here hx rfl (pc0 := 13) (pc' := 17) rfl (hb hby d17_13) (by decide) (by decide) ?_
    exact retN X0 hx (t := .boolean) Bd.returns (by simp) (hb hby d17_17) hr
  · show own_QR (.int (1 : Int32)) h0 n0 _ s₁.heap _
    rw [e0]
    exact ⟨rfl, N0, rfl⟩
theorem rm17 (l : Launch) (Z : State) (a0 : Array Value) (hw : ∀ d ∈ tables_1, d.before a0 Z = true) (ws : List Jvm.Cond) (p1 : Int32) (h0 : Heap) (n0 : Nat) (Z0 : n0 ≤ h0.size) :
    MetFree l (⟨"com/example/crisp_bisim/crispbisim/formats/TextCursorIsQuotablePinLaw", "ok", "(C)Z"⟩ : MethodName) (head1 (Jvm.Cond.code (⟨"com/example/crisp_bisim/crispbisim/formats/TextCursorIsQuotablePinLaw", "ok", "(C)Z"⟩ : MethodName) method_2_code 1 (some .boolean) :: ws) ({ frames := 0, cells := 0, slots := 0, locals := 0 } : Room)) (fun a U => a = #[(.int p1)] ∧ Z.Warmed39 U.vm ∧ U.heap = h0) (fun _ _ _ _ _ => True) (fun _ U o U' => ∃ v L, o = .returned v ∧ own_QR (.int (own_ok p1)) h0 n0 v U'.heap L ∧ FrameEnd U o U' L ({ frames := 0, cells := 0, slots := 0, locals := 0 } : Room).cells ({ frames := 0, cells := 0, slots := 0, locals := 0 } : Room).slots) := by
  by_cases q : p1 = 34
  · have e : own_ok p1 = 0 := by simp [own_ok, q]
    rw [e]; exact rm17_t l Z a0 hw ws p1 h0 n0 Z0 q
  · by_cases r : p1 = 10
    · have e : own_ok p1 = 0 := by simp [own_ok, r]
      rw [e]; exact rm17_ft l Z a0 hw ws p1 h0 n0 Z0 q r
    · have e : own_ok p1 = 1 := by simp [own_ok, q, r]
      rw [e]; exact rm17_ff l Z a0 hw ws p1 h0 n0 Z0 q r
theorem d15_0 : decode jdk_52_method_21_code 0 = .ok (.iconst 0, 1) := by decide +kernel
theorem d15_1 : decode jdk_52_method_21_code 1 = .ok (.istore 5, 2) := by decide +kernel
theorem d15_3 : decode jdk_52_method_21_code 3 = .ok (.iload 5, 2) := by decide +kernel
theorem d15_5 : decode jdk_52_method_21_code 5 = .ok (.iload 4, 2) := by decide +kernel
theorem d15_7 : decode jdk_52_method_21_code 7 = .ok (.if_icmp .ge 37, 3) := by decide +kernel
theorem d15_10 : decode jdk_52_method_21_code 10 = .ok (.aload_n 0, 1) := by decide +kernel
theorem d15_11 : decode jdk_52_method_21_code 11 = .ok (.iload_n 1, 1) := by decide +kernel
theorem d15_12 : decode jdk_52_method_21_code 12 = .ok (.caload, 1) := by decide +kernel
theorem d15_13 : decode jdk_52_method_21_code 13 = .ok (.istore 6, 2) := by decide +kernel
theorem d15_15 : decode jdk_52_method_21_code 15 = .ok (.iload 6, 2) := by decide +kernel
theorem d15_17 : decode jdk_52_method_21_code 17 = .ok (.sipush 255, 3) := by decide +kernel
theorem d15_20 : decode jdk_52_method_21_code 20 = .ok (.if_icmp .le 6, 3) := by decide +kernel
theorem d15_23 : decode jdk_52_method_21_code 23 = .ok (.iload 5, 2) := by decide +kernel
theorem d15_25 : decode jdk_52_method_21_code 25 = .ok (.ireturn, 1) := by decide +kernel
theorem pn_15 : plainName "java/lang/StringUTF16" = true := by first | (simp [plainName, overriddenIn]; done) | decide +kernel
theorem ef_15 (m : MethodId) (x0 : Addr) (x1 : Int32) (x2 : Addr) (x3 : Int32) (x4 : Int32) : entryFrame m #[(.ref x0), (.int x1), (.ref x2), (.int x3), (.int x4)] 7 = mkF m 0 #[.val (.ref x0), .val (.int x1), .val (.ref x2), .val (.int x3), .val (.int x4), .unset, .unset] [] := by first | (simp [entryFrame, mkF, argsToLocals, Value.category]; done) | rfl
abbrev oL2 (a1 a2 : Addr) : Array Slot := #[.val (.ref a1), .val (.int (0 : Int32)), .val (.ref a2), .val (.int (0 : Int32)), .val (.int (1 : Int32)), .unset, .unset]
abbrev oL3 (a1 a2 : Addr) : Array Slot := #[.val (.ref a1), .val (.int (0 : Int32)), .val (.ref a2), .val (.int (0 : Int32)), .val (.int (1 : Int32)), .val (.int (0 : Int32)), .unset]
abbrev oL4 (c0 : Int32) (a1 a2 : Addr) : Array Slot := #[.val (.ref a1), .val (.int (0 : Int32)), .val (.ref a2), .val (.int (0 : Int32)), .val (.int (1 : Int32)), .val (.int (0 : Int32)), .val (.int c0)]
set_option maxRecDepth 65536 in
set_option maxHeartbeats 40000000 in
theorem rm15_1_0 (l : Launch) (Z : State) (a0 : Array Value) (hw : ∀ d ∈ tables_1, d.before a0 Z = true) (ws : List Jvm.Cond) (a1 : Addr) (_q2 : Int32) (a2 : Addr) (_q4 : Int32) (_q5 : Int32) (c0 : Int32) (k_a1 : ClassId) (k_a2 : ClassId) (h0 : Heap) (n0 : Nat) (Z0 : n0 ≤ h0.size) (V_a1 : Arv Z h0 a1 k_a1 .char (1 : Int32) [(.int c0)] (.int (0 : Int32))) (V_a2 : Arv Z h0 a2 k_a2 .byte (1 : Int32) [(.int (0 : Int32))] (.int (0 : Int32))) (ne_a1_a2 : a1 ≠ a2) (g_a2 : n0 ≤ a2) (hc20 : (255 : Int32) < c0) :
    MetFree l (⟨"java/lang/StringUTF16", "compress", "([CI[BII)I"⟩ : MethodName) (head1 (Jvm.Cond.code (⟨"java/lang/StringUTF16", "compress", "([CI[BII)I"⟩ : MethodName) jdk_52_method_21_code 7 (some .int) :: ws) ({ frames := 0, cells := 0, slots := 0, locals := 0 } : Room)) (fun a U => a = #[(.ref a1), (.int (0 : Int32)), (.ref a2), (.int (0 : Int32)), (.int (1 : Int32))] ∧ Z.Warmed39 U.vm ∧ U.heap = h0) (fun _ _ _ _ _ => True) (fun _ U o U' => ∃ v L, o = .returned v ∧ own_QK a2 (0 : Int32) h0 n0 v U'.heap L ∧ FrameEnd U o U' L ({ frames := 0, cells := 0, slots := 0, locals := 0 } : Room).cells ({ frames := 0, cells := 0, slots := 0, locals := 0 } : Room).slots) := by
  refine MetFree.of_bodySF (plainFor_of_name pn_15) hisR ?_
  intro p e s m args below meth c s₁ Bd hml0 hP hK
  obtain ⟨rfl, hZ, hh⟩ := hP
  have hx := Bd.exec
  have hby := Bd.bytes
  have hml : c.maxLocals = 7 := hml0
  have hown : s.vm.findClass "java/lang/StringUTF16" = some m.cls := findClass_of_methodNamed Bd.named
  have hnm := (name_of_methodNamed Bd.named Bd.method).1
  have X0 : Stand p l e ({ frames := 0, cells := 0, slots := 0, locals := 0 } : Room) s m #[(.ref a1), (.int (0 : Int32)), (.ref a2), (.int (0 : Int32)), (.int (1 : Int32))] below meth c s₁ [] 0 0 := Stand.of_body Bd
  have e0 : s₁.heap = h0 := by rw [← hh, Bd.state]; rfl
  have N0 := Fr.nil n0
  have pre0 : ∀ t, Steps p.tables e below (s₁.setTop (mkF m 0 (oL2 a1 a2) [])) t → Steps p.tables e below (s₁.setTop (entryFrame m #[(.ref a1), (.int (0 : Int32)), (.ref a2), (.int (0 : Int32)), (.int (1 : Int32))] 7)) t := fun t k => castTop (ef_15 m a1 (0 : Int32) a2 (0 : Int32) (1 : Int32)) k
  obtain ⟨cl_a1_8, Ar_a1_8, q_a1_8, S_a1_8, N_a1_8, H_a1_8, G_a1_8⟩ := id V_a1
  have hin_a1_8 : ¬ ((0 : Int32) < 0 ∨ cl_a1_8.slots.size ≤ ((0 : Int32)).toNatClampNeg) := inb_of S_a1_8 ⟨by decide, by decide⟩
  have hat_a1_8 : cl_a1_8.slots[((0 : Int32)).toNatClampNeg]? = some (.int c0) := own_at H_a1_8 S_a1_8 ⟨by decide, by decide⟩ 0 (by decide) rfl
  obtain ⟨fs, hr, hrun, hended, hW, hsame⟩ := X0.leave (v := some (.int (0 : Int32))) (fun h => by rw [Bd.returns] at h; cases h)
  refine ⟨_, _, pre0 _ ?_, hrun, hended, _, _, rfl, ?_, ⟨_, rfl⟩, hW, hsame.mono (by decide) (by decide)⟩
  · show Steps p.tables e below (s₁.setTop (mkF m 0 (oL2 a1 a2) [])) _
    refine XS.iconst X0.here hx rfl (hb hby d15_0) ?_
    refine XS.istore X0.here hx rfl (hb hby d15_1) rfl (l' := (oL3 a1 a2)) rfl ?_
    refine XS.iload X0.here hx rfl (hb hby d15_3) rfl ?_
    refine XS.iload X0.here hx rfl (hb hby d15_5) rfl ?_
    refine XS.icmpNo X0.here hx rfl (hb hby d15_7) rfl (tlt (by decide : (0 : Int32) < (1 : Int32))).2.1 ?_
    show Steps p.tables e below (s₁.setTop (mkF m 10 (oL3 a1 a2) [])) _
    refine XS.aloadN X0.here hx rfl (hb hby d15_10) rfl rfl ?_
    refine XS.iloadN X0.here hx rfl (hb hby d15_11) rfl ?_
    refine X0.caload hx (j := (0 : Int32)) (v := (.int c0)) (by rw [e0]; exact Ar_a1_8.1) (State.isArrayOf_alike hZ.alike Ar_a1_8.2.1) Ar_a1_8.2.2 hin_a1_8 hat_a1_8 (g := (mkF m 12 (oL3 a1 a2) [(.int (0 : Int32)), (.ref a1)])) rfl rfl (hb hby d15_12) _ ?_
    refine XS.istore X0.here hx rfl (hb hby d15_13) rfl (l' := (oL4 c0 a1 a2)) rfl ?_
    refine XS.iload X0.here hx rfl (hb hby d15_15) rfl ?_
    show Steps p.tables e below (s₁.setTop (mkF m 17 (oL4 c0 a1 a2) [(.int c0)])) _
    refine XS.sipush X0.here hx rfl (hb hby d15_17) ?_
    refine XS.icmpNo X0.here hx rfl (hb hby d15_20) rfl (tlt hc20).2.2.2 ?_
    refine XS.iload X0.here hx rfl (hb hby d15_23) rfl ?_
    exact retI X0 hx Bd.returns (hb hby d15_25) hr
  · show own_QK a2 (0 : Int32) h0 n0 _ s₁.heap _
    rw [e0]
    exact ⟨rfl, N0, Keep.refl _ _⟩
theorem d15_26 : decode jdk_52_method_21_code 26 = .ok (.aload_n 2, 1) := by decide +kernel
theorem d15_27 : decode jdk_52_method_21_code 27 = .ok (.iload_n 3, 1) := by decide +kernel
theorem d15_28 : decode jdk_52_method_21_code 28 = .ok (.iload 6, 2) := by decide +kernel
theorem d15_30 : decode jdk_52_method_21_code 30 = .ok (.i2b, 1) := by decide +kernel
theorem d15_31 : decode jdk_52_method_21_code 31 = .ok (.bastore, 1) := by decide +kernel
theorem d15_32 : decode jdk_52_method_21_code 32 = .ok (.iinc 1 1, 3) := by decide +kernel
theorem d15_35 : decode jdk_52_method_21_code 35 = .ok (.iinc 3 1, 3) := by decide +kernel
theorem d15_38 : decode jdk_52_method_21_code 38 = .ok (.iinc 5 1, 3) := by decide +kernel
theorem d15_41 : decode jdk_52_method_21_code 41 = .ok (.goto (-38), 3) := by decide +kernel
theorem d15_44 : decode jdk_52_method_21_code 44 = .ok (.iload 4, 2) := by decide +kernel
theorem d15_46 : decode jdk_52_method_21_code 46 = .ok (.ireturn, 1) := by decide +kernel
abbrev oL5 (c0 : Int32) (a1 a2 : Addr) : Array Slot := #[.val (.ref a1), .val (.int ((0 : Int32) + (1 : Int32))), .val (.ref a2), .val (.int ((0 : Int32) + (1 : Int32))), .val (.int (1 : Int32)), .val (.int ((0 : Int32) + (1 : Int32))), .val (.int c0)]
set_option maxRecDepth 65536 in
set_option maxHeartbeats 40000000 in
theorem rm15_1_L (l : Launch) (Z : State) (a0 : Array Value) (hw : ∀ d ∈ tables_1, d.before a0 Z = true) (ws : List Jvm.Cond) (a1 : Addr) (_q2 : Int32) (a2 : Addr) (_q4 : Int32) (_q5 : Int32) (c0 : Int32) (k_a1 : ClassId) (k_a2 : ClassId) (h0 : Heap) (n0 : Nat) (Z0 : n0 ≤ h0.size) (V_a1 : Arv Z h0 a1 k_a1 .char (1 : Int32) [(.int c0)] (.int (0 : Int32))) (V_a2 : Arv Z h0 a2 k_a2 .byte (1 : Int32) [(.int (0 : Int32))] (.int (0 : Int32))) (ne_a1_a2 : a1 ≠ a2) (g_a2 : n0 ≤ a2) (hc20 : ¬ ((255 : Int32) < c0)) :
    MetFree l (⟨"java/lang/StringUTF16", "compress", "([CI[BII)I"⟩ : MethodName) (head1 (Jvm.Cond.code (⟨"java/lang/StringUTF16", "compress", "([CI[BII)I"⟩ : MethodName) jdk_52_method_21_code 7 (some .int) :: ws) ({ frames := 0, cells := 0, slots := 0, locals := 0 } : Room)) (fun a U => a = #[(.ref a1), (.int (0 : Int32)), (.ref a2), (.int (0 : Int32)), (.int (1 : Int32))] ∧ Z.Warmed39 U.vm ∧ U.heap = h0) (fun _ _ _ _ _ => True) (fun _ U o U' => ∃ v L, o = .returned v ∧ own_QAR Z a2 k_a2 (1 : Int32) [(.int (StrChars.lo8 c0))] h0 n0 v U'.heap L ∧ FrameEnd U o U' L ({ frames := 0, cells := 0, slots := 0, locals := 0 } : Room).cells ({ frames := 0, cells := 0, slots := 0, locals := 0 } : Room).slots) := by
  refine MetFree.of_bodySF (plainFor_of_name pn_15) hisR ?_
  intro p e s m args below meth c s₁ Bd hml0 hP hK
  obtain ⟨rfl, hZ, hh⟩ := hP
  have hx := Bd.exec
  have hby := Bd.bytes
  have hml : c.maxLocals = 7 := hml0
  have hown : s.vm.findClass "java/lang/StringUTF16" = some m.cls := findClass_of_methodNamed Bd.named
  have hnm := (name_of_methodNamed Bd.named Bd.method).1
  have X0 : Stand p l e ({ frames := 0, cells := 0, slots := 0, locals := 0 } : Room) s m #[(.ref a1), (.int (0 : Int32)), (.ref a2), (.int (0 : Int32)), (.int (1 : Int32))] below meth c s₁ [] 0 0 := Stand.of_body Bd
  have e0 : s₁.heap = h0 := by rw [← hh, Bd.state]; rfl
  have N0 := Fr.nil n0
  have pre0 : ∀ t, Steps p.tables e below (s₁.setTop (mkF m 0 (oL2 a1 a2) [])) t → Steps p.tables e below (s₁.setTop (entryFrame m #[(.ref a1), (.int (0 : Int32)), (.ref a2), (.int (0 : Int32)), (.int (1 : Int32))] 7)) t := fun t k => castTop (ef_15 m a1 (0 : Int32) a2 (0 : Int32) (1 : Int32)) k
  obtain ⟨cl_a1_8, Ar_a1_8, q_a1_8, S_a1_8, N_a1_8, H_a1_8, G_a1_8⟩ := id V_a1
  have hin_a1_8 : ¬ ((0 : Int32) < 0 ∨ cl_a1_8.slots.size ≤ ((0 : Int32)).toNatClampNeg) := inb_of S_a1_8 ⟨by decide, by decide⟩
  have hat_a1_8 : cl_a1_8.slots[((0 : Int32)).toNatClampNeg]? = some (.int c0) := own_at H_a1_8 S_a1_8 ⟨by decide, by decide⟩ 0 (by decide) rfl
  obtain ⟨cl_a2_17, Ar_a2_17, q_a2_17, S_a2_17, N_a2_17, H_a2_17, G_a2_17⟩ := id V_a2
  have hin_a2_17 : ¬ ((0 : Int32) < 0 ∨ cl_a2_17.slots.size ≤ ((0 : Int32)).toNatClampNeg) := inb_of S_a2_17 ⟨by decide, by decide⟩
  obtain ⟨T3, h3, X3, e3, W3, st3⟩ := stB X0 hx hZ e0 Ar_a2_17 (j := (0 : Int32)) hin_a2_17 (g := (mkF m 31 (oL4 c0 a1 a2) [(.int (c0.toInt8.toInt32)), (.int (0 : Int32)), (.ref a2)])) rfl rfl (hb hby d15_31)
  have V_a2_3 : Arv Z h3 a2 k_a2 .byte (1 : Int32) [(.int (nar .byte (c0.toInt8.toInt32)))] (.int (0 : Int32)) := Arv.set Ar_a2_17 q_a2_17 S_a2_17 N_a2_17 H_a2_17 G_a2_17 (fits_nar_byte _) W3 0 (by decide) (Nat.le_of_ble_eq_true rfl)
  have K3 : Keep h0 h3 [a2] := (Keep.refl h0 [a2]).wr W3 (Or.inl (List.mem_of_getElem? (i := 0) rfl))
  have N3 := Fr.snoc X3 N0 g_a2
  obtain ⟨fs, hr, hrun, hended, hW, hsame⟩ := X3.leave (v := some (.int (1 : Int32))) (fun h => by rw [Bd.returns] at h; cases h)
  refine ⟨_, _, pre0 _ ?_, hrun, hended, _, _, rfl, ?_, ⟨_, rfl⟩, hW, hsame.mono (by decide) (by decide)⟩
  · show Steps p.tables e below (s₁.setTop (mkF m 0 (oL2 a1 a2) [])) _
    refine XS.iconst X0.here hx rfl (hb hby d15_0) ?_
    refine XS.istore X0.here hx rfl (hb hby d15_1) rfl (l' := (oL3 a1 a2)) rfl ?_
    refine XS.iload X0.here hx rfl (hb hby d15_3) rfl ?_
    refine XS.iload X0.here hx rfl (hb hby d15_5) rfl ?_
    refine XS.icmpNo X0.here hx rfl (hb hby d15_7) rfl (tlt (by decide : (0 : Int32) < (1 : Int32))).2.1 ?_
    show Steps p.tables e below (s₁.setTop (mkF m 10 (oL3 a1 a2) [])) _
    refine XS.aloadN X0.here hx rfl (hb hby d15_10) rfl rfl ?_
    refine XS.iloadN X0.here hx rfl (hb hby d15_11) rfl ?_
    refine X0.caload hx (j := (0 : Int32)) (v := (.int c0)) (by rw [e0]; exact Ar_a1_8.1) (State.isArrayOf_alike hZ.alike Ar_a1_8.2.1) Ar_a1_8.2.2 hin_a1_8 hat_a1_8 (g := (mkF m 12 (oL3 a1 a2) [(.int (0 : Int32)), (.ref a1)])) rfl rfl (hb hby d15_12) _ ?_
    refine XS.istore X0.here hx rfl (hb hby d15_13) rfl (l' := (oL4 c0 a1 a2)) rfl ?_
    refine XS.iload X0.here hx rfl (hb hby d15_15) rfl ?_
    show Steps p.tables e below (s₁.setTop (mkF m 17 (oL4 c0 a1 a2) [(.int c0)])) _
    refine XS.sipush X0.here hx rfl (hb hby d15_17) ?_
    refine XS.icmpYes X0.here hx rfl (pc0 := 20) (pc' := 26) rfl (hb hby d15_20) rfl (flt hc20).2.2.2 (by decide) (by decide) ?_
    refine XS.aloadN X0.here hx rfl (hb hby d15_26) rfl rfl ?_
    refine XS.iloadN X0.here hx rfl (hb hby d15_27) rfl ?_
    refine XS.iload X0.here hx rfl (hb hby d15_28) rfl ?_
    show Steps p.tables e below (s₁.setTop (mkF m 30 (oL4 c0 a1 a2) [(.int c0), (.int (0 : Int32)), (.ref a2)])) _
    refine XS.i2b X0.here hx rfl (hb hby d15_30) rfl ?_
    refine st3 _ ?_
    refine XS.iinc X3.here hx rfl (hb hby d15_32) rfl (l' := #[.val (.ref a1), .val (.int ((0 : Int32) + (1 : Int32))), .val (.ref a2), .val (.int (0 : Int32)), .val (.int (1 : Int32)), .val (.int (0 : Int32)), .val (.int c0)]) rfl ?_
    refine XS.iinc X3.here hx rfl (hb hby d15_35) rfl (l' := #[.val (.ref a1), .val (.int ((0 : Int32) + (1 : Int32))), .val (.ref a2), .val (.int ((0 : Int32) + (1 : Int32))), .val (.int (1 : Int32)), .val (.int (0 : Int32)), .val (.int c0)]) rfl ?_
    refine XS.iinc X3.here hx rfl (hb hby d15_38) rfl (l' := (oL5 c0 a1 a2)) rfl ?_
    show Steps p.tables e below (T3.setTop (mkF m 41 (oL5 c0 a1 a2) [])) _
    refine XS.goto X3.here hx rfl (pc0 := 41) (pc' := 3) rfl (hb hby d15_41) (by decide) (by decide) ?_
    refine XS.iload X3.here hx rfl (hb hby d15_3) rfl ?_
    refine XS.iload X3.here hx rfl (hb hby d15_5) rfl ?_
    refine XS.icmpYes X3.here hx rfl (pc0 := 7) (pc' := 44) rfl (hb hby d15_7) rfl (flt (by decide : ¬ (((0 : Int32) + (1 : Int32)) < (1 : Int32)))).2.1 (by decide) (by decide) ?_
    refine XS.iload X3.here hx rfl (hb hby d15_44) rfl ?_
    show Steps p.tables e below (T3.setTop (mkF m 46 (oL5 c0 a1 a2) [(.int (1 : Int32))])) _
    exact retI X3 hx Bd.returns (hb hby d15_46) hr
  · show own_QAR Z a2 k_a2 (1 : Int32) [(.int (StrChars.lo8 c0))] h0 n0 _ T3.heap _
    rw [e3]
    exact ⟨rfl, N3, K3, (by have q := V_a2_3; simp only [own_nb] at q; exact q)⟩
abbrev oL6 (a1 a2 : Addr) : Array Slot := #[.val (.ref a1), .val (.int (0 : Int32)), .val (.ref a2), .val (.int (0 : Int32)), .val (.int (2 : Int32)), .unset, .unset]
abbrev oL7 (a1 a2 : Addr) : Array Slot := #[.val (.ref a1), .val (.int (0 : Int32)), .val (.ref a2), .val (.int (0 : Int32)), .val (.int (2 : Int32)), .val (.int (0 : Int32)), .unset]
abbrev oL8 (c0 : Int32) (a1 a2 : Addr) : Array Slot := #[.val (.ref a1), .val (.int (0 : Int32)), .val (.ref a2), .val (.int (0 : Int32)), .val (.int (2 : Int32)), .val (.int (0 : Int32)), .val (.int c0)]
set_option maxRecDepth 65536 in
set_option maxHeartbeats 40000000 in
theorem rm15_2_0 (l : Launch) (Z : State) (a0 : Array Value) (hw : ∀ d ∈ tables_1, d.before a0 Z = true) (ws : List Jvm.Cond) (a1 : Addr) (_q2 : Int32) (a2 : Addr) (_q4 : Int32) (_q5 : Int32) (c0 : Int32) (c1 : Int32) (k_a1 : ClassId) (k_a2 : ClassId) (h0 : Heap) (n0 : Nat) (Z0 : n0 ≤ h0.size) (V_a1 : Arv Z h0 a1 k_a1 .char (2 : Int32) [(.int c0), (.int c1)] (.int (0 : Int32))) (V_a2 : Arv Z h0 a2 k_a2 .byte (2 : Int32) [(.int (0 : Int32)), (.int (0 : Int32))] (.int (0 : Int32))) (ne_a1_a2 : a1 ≠ a2) (g_a2 : n0 ≤ a2) (hc20 : (255 : Int32) < c0) :
    MetFree l (⟨"java/lang/StringUTF16", "compress", "([CI[BII)I"⟩ : MethodName) (head1 (Jvm.Cond.code (⟨"java/lang/StringUTF16", "compress", "([CI[BII)I"⟩ : MethodName) jdk_52_method_21_code 7 (some .int) :: ws) ({ frames := 0, cells := 0, slots := 0, locals := 0 } : Room)) (fun a U => a = #[(.ref a1), (.int (0 : Int32)), (.ref a2), (.int (0 : Int32)), (.int (2 : Int32))] ∧ Z.Warmed39 U.vm ∧ U.heap = h0) (fun _ _ _ _ _ => True) (fun _ U o U' => ∃ v L, o = .returned v ∧ own_QK a2 (0 : Int32) h0 n0 v U'.heap L ∧ FrameEnd U o U' L ({ frames := 0, cells := 0, slots := 0, locals := 0 } : Room).cells ({ frames := 0, cells := 0, slots := 0, locals := 0 } : Room).slots) := by
  refine MetFree.of_bodySF (plainFor_of_name pn_15) hisR ?_
  intro p e s m args below meth c s₁ Bd hml0 hP hK
  obtain ⟨rfl, hZ, hh⟩ := hP
  have hx := Bd.exec
  have hby := Bd.bytes
  have hml : c.maxLocals = 7 := hml0
  have hown : s.vm.findClass "java/lang/StringUTF16" = some m.cls := findClass_of_methodNamed Bd.named
  have hnm := (name_of_methodNamed Bd.named Bd.method).1
  have X0 : Stand p l e ({ frames := 0, cells := 0, slots := 0, locals := 0 } : Room) s m #[(.ref a1), (.int (0 : Int32)), (.ref a2), (.int (0 : Int32)), (.int (2 : Int32))] below meth c s₁ [] 0 0 := Stand.of_body Bd
  have e0 : s₁.heap = h0 := by rw [← hh, Bd.state]; rfl
  have N0 := Fr.nil n0
  have pre0 : ∀ t, Steps p.tables e below (s₁.setTop (mkF m 0 (oL6 a1 a2) [])) t → Steps p.tables e below (s₁.setTop (entryFrame m #[(.ref a1), (.int (0 : Int32)), (.ref a2), (.int (0 : Int32)), (.int (2 : Int32))] 7)) t := fun t k => castTop (ef_15 m a1 (0 : Int32) a2 (0 : Int32) (2 : Int32)) k
  obtain ⟨cl_a1_8, Ar_a1_8, q_a1_8, S_a1_8, N_a1_8, H_a1_8, G_a1_8⟩ := id V_a1
  have hin_a1_8 : ¬ ((0 : Int32) < 0 ∨ cl_a1_8.slots.size ≤ ((0 : Int32)).toNatClampNeg) := inb_of S_a1_8 ⟨by decide, by decide⟩
  have hat_a1_8 : cl_a1_8.slots[((0 : Int32)).toNatClampNeg]? = some (.int c0) := own_at H_a1_8 S_a1_8 ⟨by decide, by decide⟩ 0 (by decide) rfl
  obtain ⟨fs, hr, hrun, hended, hW, hsame⟩ := X0.leave (v := some (.int (0 : Int32))) (fun h => by rw [Bd.returns] at h; cases h)
  refine ⟨_, _, pre0 _ ?_, hrun, hended, _, _, rfl, ?_, ⟨_, rfl⟩, hW, hsame.mono (by decide) (by decide)⟩
  · show Steps p.tables e below (s₁.setTop (mkF m 0 (oL6 a1 a2) [])) _
    refine XS.iconst X0.here hx rfl (hb hby d15_0) ?_
    refine XS.istore X0.here hx rfl (hb hby d15_1) rfl (l' := (oL7 a1 a2)) rfl ?_
    refine XS.iload X0.here hx rfl (hb hby d15_3) rfl ?_
    refine XS.iload X0.here hx rfl (hb hby d15_5) rfl ?_
    refine XS.icmpNo X0.here hx rfl (hb hby d15_7) rfl (tlt (by decide : (0 : Int32) < (2 : Int32))).2.1 ?_
    show Steps p.tables e below (s₁.setTop (mkF m 10 (oL7 a1 a2) [])) _
    refine XS.aloadN X0.here hx rfl (hb hby d15_10) rfl rfl ?_
    refine XS.iloadN X0.here hx rfl (hb hby d15_11) rfl ?_
    refine X0.caload hx (j := (0 : Int32)) (v := (.int c0)) (by rw [e0]; exact Ar_a1_8.1) (State.isArrayOf_alike hZ.alike Ar_a1_8.2.1) Ar_a1_8.2.2 hin_a1_8 hat_a1_8 (g := (mkF m 12 (oL7 a1 a2) [(.int (0 : Int32)), (.ref a1)])) rfl rfl (hb hby d15_12) _ ?_
    refine XS.istore X0.here hx rfl (hb hby d15_13) rfl (l' := (oL8 c0 a1 a2)) rfl ?_
    refine XS.iload X0.here hx rfl (hb hby d15_15) rfl ?_
    show Steps p.tables e below (s₁.setTop (mkF m 17 (oL8 c0 a1 a2) [(.int c0)])) _
    refine XS.sipush X0.here hx rfl (hb hby d15_17) ?_
    refine XS.icmpNo X0.here hx rfl (hb hby d15_20) rfl (tlt hc20).2.2.2 ?_
    refine XS.iload X0.here hx rfl (hb hby d15_23) rfl ?_
    exact retI X0 hx Bd.returns (hb hby d15_25) hr
  · show own_QK a2 (0 : Int32) h0 n0 _ s₁.heap _
    rw [e0]
    exact ⟨rfl, N0, Keep.refl _ _⟩
abbrev oL9 (c0 : Int32) (a1 a2 : Addr) : Array Slot := #[.val (.ref a1), .val (.int ((0 : Int32) + (1 : Int32))), .val (.ref a2), .val (.int ((0 : Int32) + (1 : Int32))), .val (.int (2 : Int32)), .val (.int ((0 : Int32) + (1 : Int32))), .val (.int c0)]
abbrev oL10 (c1 : Int32) (a1 a2 : Addr) : Array Slot := #[.val (.ref a1), .val (.int ((0 : Int32) + (1 : Int32))), .val (.ref a2), .val (.int ((0 : Int32) + (1 : Int32))), .val (.int (2 : Int32)), .val (.int ((0 : Int32) + (1 : Int32))), .val (.int c1)]
set_option maxRecDepth 65536 in
set_option maxHeartbeats 40000000 in
theorem rm15_2_1 (l : Launch) (Z : State) (a0 : Array Value) (hw : ∀ d ∈ tables_1, d.before a0 Z = true) (ws : List Jvm.Cond) (a1 : Addr) (_q2 : Int32) (a2 : Addr) (_q4 : Int32) (_q5 : Int32) (c0 : Int32) (c1 : Int32) (k_a1 : ClassId) (k_a2 : ClassId) (h0 : Heap) (n0 : Nat) (Z0 : n0 ≤ h0.size) (V_a1 : Arv Z h0 a1 k_a1 .char (2 : Int32) [(.int c0), (.int c1)] (.int (0 : Int32))) (V_a2 : Arv Z h0 a2 k_a2 .byte (2 : Int32) [(.int (0 : Int32)), (.int (0 : Int32))] (.int (0 : Int32))) (ne_a1_a2 : a1 ≠ a2) (g_a2 : n0 ≤ a2) (hc20 : ¬ ((255 : Int32) < c0)) (hc20_31 : (255 : Int32) < c1) :
    MetFree l (⟨"java/lang/StringUTF16", "compress", "([CI[BII)I"⟩ : MethodName) (head1 (Jvm.Cond.code (⟨"java/lang/StringUTF16", "compress", "([CI[BII)I"⟩ : MethodName) jdk_52_method_21_code 7 (some .int) :: ws) ({ frames := 0, cells := 0, slots := 0, locals := 0 } : Room)) (fun a U => a = #[(.ref a1), (.int (0 : Int32)), (.ref a2), (.int (0 : Int32)), (.int (2 : Int32))] ∧ Z.Warmed39 U.vm ∧ U.heap = h0) (fun _ _ _ _ _ => True) (fun _ U o U' => ∃ v L, o = .returned v ∧ own_QK a2 (1 : Int32) h0 n0 v U'.heap L ∧ FrameEnd U o U' L ({ frames := 0, cells := 0, slots := 0, locals := 0 } : Room).cells ({ frames := 0, cells := 0, slots := 0, locals := 0 } : Room).slots) := by
  refine MetFree.of_bodySF (plainFor_of_name pn_15) hisR ?_
  intro p e s m args below meth c s₁ Bd hml0 hP hK
  obtain ⟨rfl, hZ, hh⟩ := hP
  have hx := Bd.exec
  have hby := Bd.bytes
  have hml : c.maxLocals = 7 := hml0
  have hown : s.vm.findClass "java/lang/StringUTF16" = some m.cls := findClass_of_methodNamed Bd.named
  have hnm := (name_of_methodNamed Bd.named Bd.method).1
  have X0 : Stand p l e ({ frames := 0, cells := 0, slots := 0, locals := 0 } : Room) s m #[(.ref a1), (.int (0 : Int32)), (.ref a2), (.int (0 : Int32)), (.int (2 : Int32))] below meth c s₁ [] 0 0 := Stand.of_body Bd
  have e0 : s₁.heap = h0 := by rw [← hh, Bd.state]; rfl
  have N0 := Fr.nil n0
  have pre0 : ∀ t, Steps p.tables e below (s₁.setTop (mkF m 0 (oL6 a1 a2) [])) t → Steps p.tables e below (s₁.setTop (entryFrame m #[(.ref a1), (.int (0 : Int32)), (.ref a2), (.int (0 : Int32)), (.int (2 : Int32))] 7)) t := fun t k => castTop (ef_15 m a1 (0 : Int32) a2 (0 : Int32) (2 : Int32)) k
  obtain ⟨cl_a1_8, Ar_a1_8, q_a1_8, S_a1_8, N_a1_8, H_a1_8, G_a1_8⟩ := id V_a1
  have hin_a1_8 : ¬ ((0 : Int32) < 0 ∨ cl_a1_8.slots.size ≤ ((0 : Int32)).toNatClampNeg) := inb_of S_a1_8 ⟨by decide, by decide⟩
  have hat_a1_8 : cl_a1_8.slots[((0 : Int32)).toNatClampNeg]? = some (.int c0) := own_at H_a1_8 S_a1_8 ⟨by decide, by decide⟩ 0 (by decide) rfl
  obtain ⟨cl_a2_17, Ar_a2_17, q_a2_17, S_a2_17, N_a2_17, H_a2_17, G_a2_17⟩ := id V_a2
  have hin_a2_17 : ¬ ((0 : Int32) < 0 ∨ cl_a2_17.slots.size ≤ ((0 : Int32)).toNatClampNeg) := inb_of S_a2_17 ⟨by decide, by decide⟩
  obtain ⟨T3, h3, X3, e3, W3, st3⟩ := stB X0 hx hZ e0 Ar_a2_17 (j := (0 : Int32)) hin_a2_17 (g := (mkF m 31 (oL8 c0 a1 a2) [(.int (c0.toInt8.toInt32)), (.int (0 : Int32)), (.ref a2)])) rfl rfl (hb hby d15_31)
  have V_a2_3 : Arv Z h3 a2 k_a2 .byte (2 : Int32) [(.int (nar .byte (c0.toInt8.toInt32))), (.int (0 : Int32))] (.int (0 : Int32)) := Arv.set Ar_a2_17 q_a2_17 S_a2_17 N_a2_17 H_a2_17 G_a2_17 (fits_nar_byte _) W3 0 (by decide) (Nat.le_of_ble_eq_true rfl)
  have K3 : Keep h0 h3 [a2] := (Keep.refl h0 [a2]).wr W3 (Or.inl (List.mem_of_getElem? (i := 0) rfl))
  have N3 := Fr.snoc X3 N0 g_a2
  obtain ⟨cl_a1_27, Ar_a1_27, q_a1_27, S_a1_27, N_a1_27, H_a1_27, G_a1_27⟩ := (V_a1.other W3 ne_a1_a2)
  have hin_a1_27 : ¬ (((0 : Int32) + (1 : Int32)) < 0 ∨ cl_a1_27.slots.size ≤ (((0 : Int32) + (1 : Int32))).toNatClampNeg) := inb_of S_a1_27 ⟨by decide, by decide⟩
  have hat_a1_27 : cl_a1_27.slots[(((0 : Int32) + (1 : Int32))).toNatClampNeg]? = some (.int c1) := own_at H_a1_27 S_a1_27 ⟨by decide, by decide⟩ 1 (by decide) rfl
  obtain ⟨fs, hr, hrun, hended, hW, hsame⟩ := X3.leave (v := some (.int ((0 : Int32) + (1 : Int32)))) (fun h => by rw [Bd.returns] at h; cases h)
  refine ⟨_, _, pre0 _ ?_, hrun, hended, _, _, rfl, ?_, ⟨_, rfl⟩, hW, hsame.mono (by decide) (by decide)⟩
  · show Steps p.tables e below (s₁.setTop (mkF m 0 (oL6 a1 a2) [])) _
    refine XS.iconst X0.here hx rfl (hb hby d15_0) ?_
    refine XS.istore X0.here hx rfl (hb hby d15_1) rfl (l' := (oL7 a1 a2)) rfl ?_
    refine XS.iload X0.here hx rfl (hb hby d15_3) rfl ?_
    refine XS.iload X0.here hx rfl (hb hby d15_5) rfl ?_
    refine XS.icmpNo X0.here hx rfl (hb hby d15_7) rfl (tlt (by decide : (0 : Int32) < (2 : Int32))).2.1 ?_
    show Steps p.tables e below (s₁.setTop (mkF m 10 (oL7 a1 a2) [])) _
    refine XS.aloadN X0.here hx rfl (hb hby d15_10) rfl rfl ?_
    refine XS.iloadN X0.here hx rfl (hb hby d15_11) rfl ?_
    refine X0.caload hx (j := (0 : Int32)) (v := (.int c0)) (by rw [e0]; exact Ar_a1_8.1) (State.isArrayOf_alike hZ.alike Ar_a1_8.2.1) Ar_a1_8.2.2 hin_a1_8 hat_a1_8 (g := (mkF m 12 (oL7 a1 a2) [(.int (0 : Int32)), (.ref a1)])) rfl rfl (hb hby d15_12) _ ?_
    refine XS.istore X0.here hx rfl (hb hby d15_13) rfl (l' := (oL8 c0 a1 a2)) rfl ?_
    refine XS.iload X0.here hx rfl (hb hby d15_15) rfl ?_
    show Steps p.tables e below (s₁.setTop (mkF m 17 (oL8 c0 a1 a2) [(.int c0)])) _
    refine XS.sipush X0.here hx rfl (hb hby d15_17) ?_
    refine XS.icmpYes X0.here hx rfl (pc0 := 20) (pc' := 26) rfl (hb hby d15_20) rfl (flt hc20).2.2.2 (by decide) (by decide) ?_
    refine XS.aloadN X0.here hx rfl (hb hby d15_26) rfl rfl ?_
    refine XS.iloadN X0.here hx rfl (hb hby d15_27) rfl ?_
    refine XS.iload X0.here hx rfl (hb hby d15_28) rfl ?_
    show Steps p.tables e below (s₁.setTop (mkF m 30 (oL8 c0 a1 a2) [(.int c0), (.int (0 : Int32)), (.ref a2)])) _
    refine XS.i2b X0.here hx rfl (hb hby d15_30) rfl ?_
    refine st3 _ ?_
    refine XS.iinc X3.here hx rfl (hb hby d15_32) rfl (l' := #[.val (.ref a1), .val (.int ((0 : Int32) + (1 : Int32))), .val (.ref a2), .val (.int (0 : Int32)), .val (.int (2 : Int32)), .val (.int (0 : Int32)), .val (.int c0)]) rfl ?_
    refine XS.iinc X3.here hx rfl (hb hby d15_35) rfl (l' := #[.val (.ref a1), .val (.int ((0 : Int32) + (1 : Int32))), .val (.ref a2), .val (.int ((0 : Int32) + (1 : Int32))), .val (.int (2 : Int32)), .val (.int (0 : Int32)), .val (.int c0)]) rfl ?_
    refine XS.iinc X3.here hx rfl (hb hby d15_38) rfl (l' := (oL9 c0 a1 a2)) rfl ?_
    show Steps p.tables e below (T3.setTop (mkF m 41 (oL9 c0 a1 a2) [])) _
    refine XS.goto X3.here hx rfl (pc0 := 41) (pc' := 3) rfl (hb hby d15_41) (by decide) (by decide) ?_
    refine XS.iload X3.here hx rfl (hb hby d15_3) rfl ?_
    refine XS.iload X3.here hx rfl (hb hby d15_5) rfl ?_
    refine XS.icmpNo X3.here hx rfl (hb hby d15_7) rfl (tlt (by decide : ((0 : Int32) + (1 : Int32)) < (2 : Int32))).2.1 ?_
    refine XS.aloadN X3.here hx rfl (hb hby d15_10) rfl rfl ?_
    show Steps p.tables e below (T3.setTop (mkF m 11 (oL9 c0 a1 a2) [(.ref a1)])) _
    refine XS.iloadN X3.here hx rfl (hb hby d15_11) rfl ?_
    refine X3.caload hx (j := ((0 : Int32) + (1 : Int32))) (v := (.int c1)) (by rw [e3]; exact Ar_a1_27.1) (State.isArrayOf_alike hZ.alike Ar_a1_27.2.1) Ar_a1_27.2.2 hin_a1_27 hat_a1_27 (g := (mkF m 12 (oL9 c0 a1 a2) [(.int ((0 : Int32) + (1 : Int32))), (.ref a1)])) rfl rfl (hb hby d15_12) _ ?_
    refine XS.istore X3.here hx rfl (hb hby d15_13) rfl (l' := (oL10 c1 a1 a2)) rfl ?_
    refine XS.iload X3.here hx rfl (hb hby d15_15) rfl ?_
    refine XS.sipush X3.here hx rfl (hb hby d15_17) ?_
    show Steps p.tables e below (T3.setTop (mkF m 20 (oL10 c1 a1 a2) [(.int (255 : Int32)), (.int c1)])) _
    refine XS.icmpNo X3.here hx rfl (hb hby d15_20) rfl (tlt hc20_31).2.2.2 ?_
    refine XS.iload X3.here hx rfl (hb hby d15_23) rfl ?_
    exact retI X3 hx Bd.returns (hb hby d15_25) hr
  · show own_QK a2 (1 : Int32) h0 n0 _ T3.heap _
    rw [e3]
    exact ⟨congrArg (fun z => some (Value.int z)) (by decide), N3, K3⟩
abbrev oL11 (c1 : Int32) (a1 a2 : Addr) : Array Slot := #[.val (.ref a1), .val (.int (((0 : Int32) + (1 : Int32)) + (1 : Int32))), .val (.ref a2), .val (.int (((0 : Int32) + (1 : Int32)) + (1 : Int32))), .val (.int (2 : Int32)), .val (.int (((0 : Int32) + (1 : Int32)) + (1 : Int32))), .val (.int c1)]
set_option maxRecDepth 65536 in
set_option maxHeartbeats 40000000 in
theorem rm15_2_L (l : Launch) (Z : State) (a0 : Array Value) (hw : ∀ d ∈ tables_1, d.before a0 Z = true) (ws : List Jvm.Cond) (a1 : Addr) (_q2 : Int32) (a2 : Addr) (_q4 : Int32) (_q5 : Int32) (c0 : Int32) (c1 : Int32) (k_a1 : ClassId) (k_a2 : ClassId) (h0 : Heap) (n0 : Nat) (Z0 : n0 ≤ h0.size) (V_a1 : Arv Z h0 a1 k_a1 .char (2 : Int32) [(.int c0), (.int c1)] (.int (0 : Int32))) (V_a2 : Arv Z h0 a2 k_a2 .byte (2 : Int32) [(.int (0 : Int32)), (.int (0 : Int32))] (.int (0 : Int32))) (ne_a1_a2 : a1 ≠ a2) (g_a2 : n0 ≤ a2) (hc20 : ¬ ((255 : Int32) < c0)) (hc20_31 : ¬ ((255 : Int32) < c1)) :
    MetFree l (⟨"java/lang/StringUTF16", "compress", "([CI[BII)I"⟩ : MethodName) (head1 (Jvm.Cond.code (⟨"java/lang/StringUTF16", "compress", "([CI[BII)I"⟩ : MethodName) jdk_52_method_21_code 7 (some .int) :: ws) ({ frames := 0, cells := 0, slots := 0, locals := 0 } : Room)) (fun a U => a = #[(.ref a1), (.int (0 : Int32)), (.ref a2), (.int (0 : Int32)), (.int (2 : Int32))] ∧ Z.Warmed39 U.vm ∧ U.heap = h0) (fun _ _ _ _ _ => True) (fun _ U o U' => ∃ v L, o = .returned v ∧ own_QAR Z a2 k_a2 (2 : Int32) [(.int (StrChars.lo8 c0)), (.int (StrChars.lo8 c1))] h0 n0 v U'.heap L ∧ FrameEnd U o U' L ({ frames := 0, cells := 0, slots := 0, locals := 0 } : Room).cells ({ frames := 0, cells := 0, slots := 0, locals := 0 } : Room).slots) := by
  refine MetFree.of_bodySF (plainFor_of_name pn_15) hisR ?_
  intro p e s m args below meth c s₁ Bd hml0 hP hK
  obtain ⟨rfl, hZ, hh⟩ := hP
  have hx := Bd.exec
  have hby := Bd.bytes
  have hml : c.maxLocals = 7 := hml0
  have hown : s.vm.findClass "java/lang/StringUTF16" = some m.cls := findClass_of_methodNamed Bd.named
  have hnm := (name_of_methodNamed Bd.named Bd.method).1
  have X0 : Stand p l e ({ frames := 0, cells := 0, slots := 0, locals := 0 } : Room) s m #[(.ref a1), (.int (0 : Int32)), (.ref a2), (.int (0 : Int32)), (.int (2 : Int32))] below meth c s₁ [] 0 0 := Stand.of_body Bd
  have e0 : s₁.heap = h0 := by rw [← hh, Bd.state]; rfl
  have N0 := Fr.nil n0
  have pre0 : ∀ t, Steps p.tables e below (s₁.setTop (mkF m 0 (oL6 a1 a2) [])) t → Steps p.tables e below (s₁.setTop (entryFrame m #[(.ref a1), (.int (0 : Int32)), (.ref a2), (.int (0 : Int32)), (.int (2 : Int32))] 7)) t := fun t k => castTop (ef_15 m a1 (0 : Int32) a2 (0 : Int32) (2 : Int32)) k
  obtain ⟨cl_a1_8, Ar_a1_8, q_a1_8, S_a1_8, N_a1_8, H_a1_8, G_a1_8⟩ := id V_a1
  have hin_a1_8 : ¬ ((0 : Int32) < 0 ∨ cl_a1_8.slots.size ≤ ((0 : Int32)).toNatClampNeg) := inb_of S_a1_8 ⟨by decide, by decide⟩
  have hat_a1_8 : cl_a1_8.slots[((0 : Int32)).toNatClampNeg]? = some (.int c0) := own_at H_a1_8 S_a1_8 ⟨by decide, by decide⟩ 0 (by decide) rfl
  obtain ⟨cl_a2_17, Ar_a2_17, q_a2_17, S_a2_17, N_a2_17, H_a2_17, G_a2_17⟩ := id V_a2
  have hin_a2_17 : ¬ ((0 : Int32) < 0 ∨ cl_a2_17.slots.size ≤ ((0 : Int32)).toNatClampNeg) := inb_of S_a2_17 ⟨by decide, by decide⟩
  obtain ⟨T3, h3, X3, e3, W3, st3⟩ := stB X0 hx hZ e0 Ar_a2_17 (j := (0 : Int32)) hin_a2_17 (g := (mkF m 31 (oL8 c0 a1 a2) [(.int (c0.toInt8.toInt32)), (.int (0 : Int32)), (.ref a2)])) rfl rfl (hb hby d15_31)
  have V_a2_3 : Arv Z h3 a2 k_a2 .byte (2 : Int32) [(.int (nar .byte (c0.toInt8.toInt32))), (.int (0 : Int32))] (.int (0 : Int32)) := Arv.set Ar_a2_17 q_a2_17 S_a2_17 N_a2_17 H_a2_17 G_a2_17 (fits_nar_byte _) W3 0 (by decide) (Nat.le_of_ble_eq_true rfl)
  have K3 : Keep h0 h3 [a2] := (Keep.refl h0 [a2]).wr W3 (Or.inl (List.mem_of_getElem? (i := 0) rfl))
  have N3 := Fr.snoc X3 N0 g_a2
  obtain ⟨cl_a1_27, Ar_a1_27, q_a1_27, S_a1_27, N_a1_27, H_a1_27, G_a1_27⟩ := (V_a1.other W3 ne_a1_a2)
  have hin_a1_27 : ¬ (((0 : Int32) + (1 : Int32)) < 0 ∨ cl_a1_27.slots.size ≤ (((0 : Int32) + (1 : Int32))).toNatClampNeg) := inb_of S_a1_27 ⟨by decide, by decide⟩
  have hat_a1_27 : cl_a1_27.slots[(((0 : Int32) + (1 : Int32))).toNatClampNeg]? = some (.int c1) := own_at H_a1_27 S_a1_27 ⟨by decide, by decide⟩ 1 (by decide) rfl
  obtain ⟨cl_a2_36, Ar_a2_36, q_a2_36, S_a2_36, N_a2_36, H_a2_36, G_a2_36⟩ := id V_a2_3
  have hin_a2_36 : ¬ (((0 : Int32) + (1 : Int32)) < 0 ∨ cl_a2_36.slots.size ≤ (((0 : Int32) + (1 : Int32))).toNatClampNeg) := inb_of S_a2_36 ⟨by decide, by decide⟩
  obtain ⟨T4, h4, X4, e4, W4, st4⟩ := stB X3 hx hZ e3 Ar_a2_36 (j := ((0 : Int32) + (1 : Int32))) hin_a2_36 (g := (mkF m 31 (oL10 c1 a1 a2) [(.int (c1.toInt8.toInt32)), (.int ((0 : Int32) + (1 : Int32))), (.ref a2)])) rfl rfl (hb hby d15_31)
  have V_a2_4 : Arv Z h4 a2 k_a2 .byte (2 : Int32) [(.int (nar .byte (c0.toInt8.toInt32))), (.int (nar .byte (c1.toInt8.toInt32)))] (.int (0 : Int32)) := Arv.set Ar_a2_36 q_a2_36 S_a2_36 N_a2_36 H_a2_36 G_a2_36 (fits_nar_byte _) W4 1 (by decide) (Nat.le_of_ble_eq_true rfl)
  have K4 : Keep h0 h4 [a2] := K3.wr W4 (Or.inl (List.mem_of_getElem? (i := 0) rfl))
  have N4 := Fr.snoc X4 N3 g_a2
  obtain ⟨fs, hr, hrun, hended, hW, hsame⟩ := X4.leave (v := some (.int (2 : Int32))) (fun h => by rw [Bd.returns] at h; cases h)
  refine ⟨_, _, pre0 _ ?_, hrun, hended, _, _, rfl, ?_, ⟨_, rfl⟩, hW, hsame.mono (by decide) (by decide)⟩
  · show Steps p.tables e below (s₁.setTop (mkF m 0 (oL6 a1 a2) [])) _
    refine XS.iconst X0.here hx rfl (hb hby d15_0) ?_
    refine XS.istore X0.here hx rfl (hb hby d15_1) rfl (l' := (oL7 a1 a2)) rfl ?_
    refine XS.iload X0.here hx rfl (hb hby d15_3) rfl ?_
    refine XS.iload X0.here hx rfl (hb hby d15_5) rfl ?_
    refine XS.icmpNo X0.here hx rfl (hb hby d15_7) rfl (tlt (by decide : (0 : Int32) < (2 : Int32))).2.1 ?_
    show Steps p.tables e below (s₁.setTop (mkF m 10 (oL7 a1 a2) [])) _
    refine XS.aloadN X0.here hx rfl (hb hby d15_10) rfl rfl ?_
    refine XS.iloadN X0.here hx rfl (hb hby d15_11) rfl ?_
    refine X0.caload hx (j := (0 : Int32)) (v := (.int c0)) (by rw [e0]; exact Ar_a1_8.1) (State.isArrayOf_alike hZ.alike Ar_a1_8.2.1) Ar_a1_8.2.2 hin_a1_8 hat_a1_8 (g := (mkF m 12 (oL7 a1 a2) [(.int (0 : Int32)), (.ref a1)])) rfl rfl (hb hby d15_12) _ ?_
    refine XS.istore X0.here hx rfl (hb hby d15_13) rfl (l' := (oL8 c0 a1 a2)) rfl ?_
    refine XS.iload X0.here hx rfl (hb hby d15_15) rfl ?_
    show Steps p.tables e below (s₁.setTop (mkF m 17 (oL8 c0 a1 a2) [(.int c0)])) _
    refine XS.sipush X0.here hx rfl (hb hby d15_17) ?_
    refine XS.icmpYes X0.here hx rfl (pc0 := 20) (pc' := 26) rfl (hb hby d15_20) rfl (flt hc20).2.2.2 (by decide) (by decide) ?_
    refine XS.aloadN X0.here hx rfl (hb hby d15_26) rfl rfl ?_
    refine XS.iloadN X0.here hx rfl (hb hby d15_27) rfl ?_
    refine XS.iload X0.here hx rfl (hb hby d15_28) rfl ?_
    show Steps p.tables e below (s₁.setTop (mkF m 30 (oL8 c0 a1 a2) [(.int c0), (.int (0 : Int32)), (.ref a2)])) _
    refine XS.i2b X0.here hx rfl (hb hby d15_30) rfl ?_
    refine st3 _ ?_
    refine XS.iinc X3.here hx rfl (hb hby d15_32) rfl (l' := #[.val (.ref a1), .val (.int ((0 : Int32) + (1 : Int32))), .val (.ref a2), .val (.int (0 : Int32)), .val (.int (2 : Int32)), .val (.int (0 : Int32)), .val (.int c0)]) rfl ?_
    refine XS.iinc X3.here hx rfl (hb hby d15_35) rfl (l' := #[.val (.ref a1), .val (.int ((0 : Int32) + (1 : Int32))), .val (.ref a2), .val (.int ((0 : Int32) + (1 : Int32))), .val (.int (2 : Int32)), .val (.int (0 : Int32)), .val (.int c0)]) rfl ?_
    refine XS.iinc X3.here hx rfl (hb hby d15_38) rfl (l' := (oL9 c0 a1 a2)) rfl ?_
    show Steps p.tables e below (T3.setTop (mkF m 41 (oL9 c0 a1 a2) [])) _
    refine XS.goto X3.here hx rfl (pc0 := 41) (pc' := 3) rfl (hb hby d15_41) (by decide) (by decide) ?_
    refine XS.iload X3.here hx rfl (hb hby d15_3) rfl ?_
    refine XS.iload X3.here hx rfl (hb hby d15_5) rfl ?_
    refine XS.icmpNo X3.here hx rfl (hb hby d15_7) rfl (tlt (by decide : ((0 : Int32) + (1 : Int32)) < (2 : Int32))).2.1 ?_
    refine XS.aloadN X3.here hx rfl (hb hby d15_10) rfl rfl ?_
    show Steps p.tables e below (T3.setTop (mkF m 11 (oL9 c0 a1 a2) [(.ref a1)])) _
    refine XS.iloadN X3.here hx rfl (hb hby d15_11) rfl ?_
    refine X3.caload hx (j := ((0 : Int32) + (1 : Int32))) (v := (.int c1)) (by rw [e3]; exact Ar_a1_27.1) (State.isArrayOf_alike hZ.alike Ar_a1_27.2.1) Ar_a1_27.2.2 hin_a1_27 hat_a1_27 (g := (mkF m 12 (oL9 c0 a1 a2) [(.int ((0 : Int32) + (1 : Int32))), (.ref a1)])) rfl rfl (hb hby d15_12) _ ?_
    refine XS.istore X3.here hx rfl (hb hby d15_13) rfl (l' := (oL10 c1 a1 a2)) rfl ?_
    refine XS.iload X3.here hx rfl (hb hby d15_15) rfl ?_
    refine XS.sipush X3.here hx rfl (hb hby d15_17) ?_
    show Steps p.tables e below (T3.setTop (mkF m 20 (oL10 c1 a1 a2) [(.int (255 : Int32)), (.int c1)])) _
    refine XS.icmpYes X3.here hx rfl (pc0 := 20) (pc' := 26) rfl (hb hby d15_20) rfl (flt hc20_31).2.2.2 (by decide) (by decide) ?_
    refine XS.aloadN X3.here hx rfl (hb hby d15_26) rfl rfl ?_
    refine XS.iloadN X3.here hx rfl (hb hby d15_27) rfl ?_
    refine XS.iload X3.here hx rfl (hb hby d15_28) rfl ?_
    refine XS.i2b X3.here hx rfl (hb hby d15_30) rfl ?_
    show Steps p.tables e below (T3.setTop (mkF m 31 (oL10 c1 a1 a2) [(.int (c1.toInt8.toInt32)), (.int ((0 : Int32) + (1 : Int32))), (.ref a2)])) _
    refine st4 _ ?_
    refine XS.iinc X4.here hx rfl (hb hby d15_32) rfl (l' := #[.val (.ref a1), .val (.int (((0 : Int32) + (1 : Int32)) + (1 : Int32))), .val (.ref a2), .val (.int ((0 : Int32) + (1 : Int32))), .val (.int (2 : Int32)), .val (.int ((0 : Int32) + (1 : Int32))), .val (.int c1)]) rfl ?_
    refine XS.iinc X4.here hx rfl (hb hby d15_35) rfl (l' := #[.val (.ref a1), .val (.int (((0 : Int32) + (1 : Int32)) + (1 : Int32))), .val (.ref a2), .val (.int (((0 : Int32) + (1 : Int32)) + (1 : Int32))), .val (.int (2 : Int32)), .val (.int ((0 : Int32) + (1 : Int32))), .val (.int c1)]) rfl ?_
    refine XS.iinc X4.here hx rfl (hb hby d15_38) rfl (l' := (oL11 c1 a1 a2)) rfl ?_
    refine XS.goto X4.here hx rfl (pc0 := 41) (pc' := 3) rfl (hb hby d15_41) (by decide) (by decide) ?_
    show Steps p.tables e below (T4.setTop (mkF m 3 (oL11 c1 a1 a2) [])) _
    refine XS.iload X4.here hx rfl (hb hby d15_3) rfl ?_
    refine XS.iload X4.here hx rfl (hb hby d15_5) rfl ?_
    refine XS.icmpYes X4.here hx rfl (pc0 := 7) (pc' := 44) rfl (hb hby d15_7) rfl (flt (by decide : ¬ ((((0 : Int32) + (1 : Int32)) + (1 : Int32)) < (2 : Int32)))).2.1 (by decide) (by decide) ?_
    refine XS.iload X4.here hx rfl (hb hby d15_44) rfl ?_
    exact retI X4 hx Bd.returns (hb hby d15_46) hr
  · show own_QAR Z a2 k_a2 (2 : Int32) [(.int (StrChars.lo8 c0)), (.int (StrChars.lo8 c1))] h0 n0 _ T4.heap _
    rw [e4]
    exact ⟨rfl, N4, K4, (by have q := V_a2_4; simp only [own_nb] at q; exact q)⟩
abbrev oL12 (a1 a2 : Addr) : Array Slot := #[.val (.ref a1), .val (.int (0 : Int32)), .val (.ref a2), .val (.int (0 : Int32)), .val (.int (3 : Int32)), .unset, .unset]
abbrev oL13 (a1 a2 : Addr) : Array Slot := #[.val (.ref a1), .val (.int (0 : Int32)), .val (.ref a2), .val (.int (0 : Int32)), .val (.int (3 : Int32)), .val (.int (0 : Int32)), .unset]
abbrev oL14 (c0 : Int32) (a1 a2 : Addr) : Array Slot := #[.val (.ref a1), .val (.int (0 : Int32)), .val (.ref a2), .val (.int (0 : Int32)), .val (.int (3 : Int32)), .val (.int (0 : Int32)), .val (.int c0)]
set_option maxRecDepth 65536 in
set_option maxHeartbeats 40000000 in
theorem rm15_3_0 (l : Launch) (Z : State) (a0 : Array Value) (hw : ∀ d ∈ tables_1, d.before a0 Z = true) (ws : List Jvm.Cond) (a1 : Addr) (_q2 : Int32) (a2 : Addr) (_q4 : Int32) (_q5 : Int32) (c0 : Int32) (c1 : Int32) (c2 : Int32) (k_a1 : ClassId) (k_a2 : ClassId) (h0 : Heap) (n0 : Nat) (Z0 : n0 ≤ h0.size) (V_a1 : Arv Z h0 a1 k_a1 .char (3 : Int32) [(.int c0), (.int c1), (.int c2)] (.int (0 : Int32))) (V_a2 : Arv Z h0 a2 k_a2 .byte (3 : Int32) [(.int (0 : Int32)), (.int (0 : Int32)), (.int (0 : Int32))] (.int (0 : Int32))) (ne_a1_a2 : a1 ≠ a2) (g_a2 : n0 ≤ a2) (hc20 : (255 : Int32) < c0) :
    MetFree l (⟨"java/lang/StringUTF16", "compress", "([CI[BII)I"⟩ : MethodName) (head1 (Jvm.Cond.code (⟨"java/lang/StringUTF16", "compress", "([CI[BII)I"⟩ : MethodName) jdk_52_method_21_code 7 (some .int) :: ws) ({ frames := 0, cells := 0, slots := 0, locals := 0 } : Room)) (fun a U => a = #[(.ref a1), (.int (0 : Int32)), (.ref a2), (.int (0 : Int32)), (.int (3 : Int32))] ∧ Z.Warmed39 U.vm ∧ U.heap = h0) (fun _ _ _ _ _ => True) (fun _ U o U' => ∃ v L, o = .returned v ∧ own_QK a2 (0 : Int32) h0 n0 v U'.heap L ∧ FrameEnd U o U' L ({ frames := 0, cells := 0, slots := 0, locals := 0 } : Room).cells ({ frames := 0, cells := 0, slots := 0, locals := 0 } : Room).slots) := by
  refine MetFree.of_bodySF (plainFor_of_name pn_15) hisR ?_
  intro p e s m args below meth c s₁ Bd hml0 hP hK
  obtain ⟨rfl, hZ, hh⟩ := hP
  have hx := Bd.exec
  have hby := Bd.bytes
  have hml : c.maxLocals = 7 := hml0
  have hown : s.vm.findClass "java/lang/StringUTF16" = some m.cls := findClass_of_methodNamed Bd.named
  have hnm := (name_of_methodNamed Bd.named Bd.method).1
  have X0 : Stand p l e ({ frames := 0, cells := 0, slots := 0, locals := 0 } : Room) s m #[(.ref a1), (.int (0 : Int32)), (.ref a2), (.int (0 : Int32)), (.int (3 : Int32))] below meth c s₁ [] 0 0 := Stand.of_body Bd
  have e0 : s₁.heap = h0 := by rw [← hh, Bd.state]; rfl
  have N0 := Fr.nil n0
  have pre0 : ∀ t, Steps p.tables e below (s₁.setTop (mkF m 0 (oL12 a1 a2) [])) t → Steps p.tables e below (s₁.setTop (entryFrame m #[(.ref a1), (.int (0 : Int32)), (.ref a2), (.int (0 : Int32)), (.int (3 : Int32))] 7)) t := fun t k => castTop (ef_15 m a1 (0 : Int32) a2 (0 : Int32) (3 : Int32)) k
  obtain ⟨cl_a1_8, Ar_a1_8, q_a1_8, S_a1_8, N_a1_8, H_a1_8, G_a1_8⟩ := id V_a1
  have hin_a1_8 : ¬ ((0 : Int32) < 0 ∨ cl_a1_8.slots.size ≤ ((0 : Int32)).toNatClampNeg) := inb_of S_a1_8 ⟨by decide, by decide⟩
  have hat_a1_8 : cl_a1_8.slots[((0 : Int32)).toNatClampNeg]? = some (.int c0) := own_at H_a1_8 S_a1_8 ⟨by decide, by decide⟩ 0 (by decide) rfl
  obtain ⟨fs, hr, hrun, hended, hW, hsame⟩ := X0.leave (v := some (.int (0 : Int32))) (fun h => by rw [Bd.returns] at h; cases h)
  refine ⟨_, _, pre0 _ ?_, hrun, hended, _, _, rfl, ?_, ⟨_, rfl⟩, hW, hsame.mono (by decide) (by decide)⟩
  · show Steps p.tables e below (s₁.setTop (mkF m 0 (oL12 a1 a2) [])) _
    refine XS.iconst X0.here hx rfl (hb hby d15_0) ?_
    refine XS.istore X0.here hx rfl (hb hby d15_1) rfl (l' := (oL13 a1 a2)) rfl ?_
    refine XS.iload X0.here hx rfl (hb hby d15_3) rfl ?_
    refine XS.iload X0.here hx rfl (hb hby d15_5) rfl ?_
    refine XS.icmpNo X0.here hx rfl (hb hby d15_7) rfl (tlt (by decide : (0 : Int32) < (3 : Int32))).2.1 ?_
    show Steps p.tables e below (s₁.setTop (mkF m 10 (oL13 a1 a2) [])) _
    refine XS.aloadN X0.here hx rfl (hb hby d15_10) rfl rfl ?_
    refine XS.iloadN X0.here hx rfl (hb hby d15_11) rfl ?_
    refine X0.caload hx (j := (0 : Int32)) (v := (.int c0)) (by rw [e0]; exact Ar_a1_8.1) (State.isArrayOf_alike hZ.alike Ar_a1_8.2.1) Ar_a1_8.2.2 hin_a1_8 hat_a1_8 (g := (mkF m 12 (oL13 a1 a2) [(.int (0 : Int32)), (.ref a1)])) rfl rfl (hb hby d15_12) _ ?_
    refine XS.istore X0.here hx rfl (hb hby d15_13) rfl (l' := (oL14 c0 a1 a2)) rfl ?_
    refine XS.iload X0.here hx rfl (hb hby d15_15) rfl ?_
    show Steps p.tables e below (s₁.setTop (mkF m 17 (oL14 c0 a1 a2) [(.int c0)])) _
    refine XS.sipush X0.here hx rfl (hb hby d15_17) ?_
    refine XS.icmpNo X0.here hx rfl (hb hby d15_20) rfl (tlt hc20).2.2.2 ?_
    refine XS.iload X0.here hx rfl (hb hby d15_23) rfl ?_
    exact retI X0 hx Bd.returns (hb hby d15_25) hr
  · show own_QK a2 (0 : Int32) h0 n0 _ s₁.heap _
    rw [e0]
    exact ⟨rfl, N0, Keep.refl _ _⟩
abbrev oL15 (c0 : Int32) (a1 a2 : Addr) : Array Slot := #[.val (.ref a1), .val (.int ((0 : Int32) + (1 : Int32))), .val (.ref a2), .val (.int ((0 : Int32) + (1 : Int32))), .val (.int (3 : Int32)), .val (.int ((0 : Int32) + (1 : Int32))), .val (.int c0)]
abbrev oL16 (c1 : Int32) (a1 a2 : Addr) : Array Slot := #[.val (.ref a1), .val (.int ((0 : Int32) + (1 : Int32))), .val (.ref a2), .val (.int ((0 : Int32) + (1 : Int32))), .val (.int (3 : Int32)), .val (.int ((0 : Int32) + (1 : Int32))), .val (.int c1)]
set_option maxRecDepth 65536 in
set_option maxHeartbeats 40000000 in
theorem rm15_3_1 (l : Launch) (Z : State) (a0 : Array Value) (hw : ∀ d ∈ tables_1, d.before a0 Z = true) (ws : List Jvm.Cond) (a1 : Addr) (_q2 : Int32) (a2 : Addr) (_q4 : Int32) (_q5 : Int32) (c0 : Int32) (c1 : Int32) (c2 : Int32) (k_a1 : ClassId) (k_a2 : ClassId) (h0 : Heap) (n0 : Nat) (Z0 : n0 ≤ h0.size) (V_a1 : Arv Z h0 a1 k_a1 .char (3 : Int32) [(.int c0), (.int c1), (.int c2)] (.int (0 : Int32))) (V_a2 : Arv Z h0 a2 k_a2 .byte (3 : Int32) [(.int (0 : Int32)), (.int (0 : Int32)), (.int (0 : Int32))] (.int (0 : Int32))) (ne_a1_a2 : a1 ≠ a2) (g_a2 : n0 ≤ a2) (hc20 : ¬ ((255 : Int32) < c0)) (hc20_31 : (255 : Int32) < c1) :
    MetFree l (⟨"java/lang/StringUTF16", "compress", "([CI[BII)I"⟩ : MethodName) (head1 (Jvm.Cond.code (⟨"java/lang/StringUTF16", "compress", "([CI[BII)I"⟩ : MethodName) jdk_52_method_21_code 7 (some .int) :: ws) ({ frames := 0, cells := 0, slots := 0, locals := 0 } : Room)) (fun a U => a = #[(.ref a1), (.int (0 : Int32)), (.ref a2), (.int (0 : Int32)), (.int (3 : Int32))] ∧ Z.Warmed39 U.vm ∧ U.heap = h0) (fun _ _ _ _ _ => True) (fun _ U o U' => ∃ v L, o = .returned v ∧ own_QK a2 (1 : Int32) h0 n0 v U'.heap L ∧ FrameEnd U o U' L ({ frames := 0, cells := 0, slots := 0, locals := 0 } : Room).cells ({ frames := 0, cells := 0, slots := 0, locals := 0 } : Room).slots) := by
  refine MetFree.of_bodySF (plainFor_of_name pn_15) hisR ?_
  intro p e s m args below meth c s₁ Bd hml0 hP hK
  obtain ⟨rfl, hZ, hh⟩ := hP
  have hx := Bd.exec
  have hby := Bd.bytes
  have hml : c.maxLocals = 7 := hml0
  have hown : s.vm.findClass "java/lang/StringUTF16" = some m.cls := findClass_of_methodNamed Bd.named
  have hnm := (name_of_methodNamed Bd.named Bd.method).1
  have X0 : Stand p l e ({ frames := 0, cells := 0, slots := 0, locals := 0 } : Room) s m #[(.ref a1), (.int (0 : Int32)), (.ref a2), (.int (0 : Int32)), (.int (3 : Int32))] below meth c s₁ [] 0 0 := Stand.of_body Bd
  have e0 : s₁.heap = h0 := by rw [← hh, Bd.state]; rfl
  have N0 := Fr.nil n0
  have pre0 : ∀ t, Steps p.tables e below (s₁.setTop (mkF m 0 (oL12 a1 a2) [])) t → Steps p.tables e below (s₁.setTop (entryFrame m #[(.ref a1), (.int (0 : Int32)), (.ref a2), (.int (0 : Int32)), (.int (3 : Int32))] 7)) t := fun t k => castTop (ef_15 m a1 (0 : Int32) a2 (0 : Int32) (3 : Int32)) k
  obtain ⟨cl_a1_8, Ar_a1_8, q_a1_8, S_a1_8, N_a1_8, H_a1_8, G_a1_8⟩ := id V_a1
  have hin_a1_8 : ¬ ((0 : Int32) < 0 ∨ cl_a1_8.slots.size ≤ ((0 : Int32)).toNatClampNeg) := inb_of S_a1_8 ⟨by decide, by decide⟩
  have hat_a1_8 : cl_a1_8.slots[((0 : Int32)).toNatClampNeg]? = some (.int c0) := own_at H_a1_8 S_a1_8 ⟨by decide, by decide⟩ 0 (by decide) rfl
  obtain ⟨cl_a2_17, Ar_a2_17, q_a2_17, S_a2_17, N_a2_17, H_a2_17, G_a2_17⟩ := id V_a2
  have hin_a2_17 : ¬ ((0 : Int32) < 0 ∨ cl_a2_17.slots.size ≤ ((0 : Int32)).toNatClampNeg) := inb_of S_a2_17 ⟨by decide, by decide⟩
  obtain ⟨T3, h3, X3, e3, W3, st3⟩ := stB X0 hx hZ e0 Ar_a2_17 (j := (0 : Int32)) hin_a2_17 (g := (mkF m 31 (oL14 c0 a1 a2) [(.int (c0.toInt8.toInt32)), (.int (0 : Int32)), (.ref a2)])) rfl rfl (hb hby d15_31)
  have V_a2_3 : Arv Z h3 a2 k_a2 .byte (3 : Int32) [(.int (nar .byte (c0.toInt8.toInt32))), (.int (0 : Int32)), (.int (0 : Int32))] (.int (0 : Int32)) := Arv.set Ar_a2_17 q_a2_17 S_a2_17 N_a2_17 H_a2_17 G_a2_17 (fits_nar_byte _) W3 0 (by decide) (Nat.le_of_ble_eq_true rfl)
  have K3 : Keep h0 h3 [a2] := (Keep.refl h0 [a2]).wr W3 (Or.inl (List.mem_of_getElem? (i := 0) rfl))
  have N3 := Fr.snoc X3 N0 g_a2
  obtain ⟨cl_a1_27, Ar_a1_27, q_a1_27, S_a1_27, N_a1_27, H_a1_27, G_a1_27⟩ := (V_a1.other W3 ne_a1_a2)
  have hin_a1_27 : ¬ (((0 : Int32) + (1 : Int32)) < 0 ∨ cl_a1_27.slots.size ≤ (((0 : Int32) + (1 : Int32))).toNatClampNeg) := inb_of S_a1_27 ⟨by decide, by decide⟩
  have hat_a1_27 : cl_a1_27.slots[(((0 : Int32) + (1 : Int32))).toNatClampNeg]? = some (.int c1) := own_at H_a1_27 S_a1_27 ⟨by decide, by decide⟩ 1 (by decide) rfl
  obtain ⟨fs, hr, hrun, hended, hW, hsame⟩ := X3.leave (v := some (.int ((0 : Int32) + (1 : Int32)))) (fun h => by rw [Bd.returns] at h; cases h)
  refine ⟨_, _, pre0 _ ?_, hrun, hended, _, _, rfl, ?_, ⟨_, rfl⟩, hW, hsame.mono (by decide) (by decide)⟩
  · show Steps p.tables e below (s₁.setTop (mkF m 0 (oL12 a1 a2) [])) _
    refine XS.iconst X0.here hx rfl (hb hby d15_0) ?_
    refine XS.istore X0.here hx rfl (hb hby d15_1) rfl (l' := (oL13 a1 a2)) rfl ?_
    refine XS.iload X0.here hx rfl (hb hby d15_3) rfl ?_
    refine XS.iload X0.here hx rfl (hb hby d15_5) rfl ?_
    refine XS.icmpNo X0.here hx rfl (hb hby d15_7) rfl (tlt (by decide : (0 : Int32) < (3 : Int32))).2.1 ?_
    show Steps p.tables e below (s₁.setTop (mkF m 10 (oL13 a1 a2) [])) _
    refine XS.aloadN X0.here hx rfl (hb hby d15_10) rfl rfl ?_
    refine XS.iloadN X0.here hx rfl (hb hby d15_11) rfl ?_
    refine X0.caload hx (j := (0 : Int32)) (v := (.int c0)) (by rw [e0]; exact Ar_a1_8.1) (State.isArrayOf_alike hZ.alike Ar_a1_8.2.1) Ar_a1_8.2.2 hin_a1_8 hat_a1_8 (g := (mkF m 12 (oL13 a1 a2) [(.int (0 : Int32)), (.ref a1)])) rfl rfl (hb hby d15_12) _ ?_
    refine XS.istore X0.here hx rfl (hb hby d15_13) rfl (l' := (oL14 c0 a1 a2)) rfl ?_
    refine XS.iload X0.here hx rfl (hb hby d15_15) rfl ?_
    show Steps p.tables e below (s₁.setTop (mkF m 17 (oL14 c0 a1 a2) [(.int c0)])) _
    refine XS.sipush X0.here hx rfl (hb hby d15_17) ?_
    refine XS.icmpYes X0.here hx rfl (pc0 := 20) (pc' := 26) rfl (hb hby d15_20) rfl (flt hc20).2.2.2 (by decide) (by decide) ?_
    refine XS.aloadN X0.here hx rfl (hb hby d15_26) rfl rfl ?_
    refine XS.iloadN X0.here hx rfl (hb hby d15_27) rfl ?_
    refine XS.iload X0.here hx rfl (hb hby d15_28) rfl ?_
    show Steps p.tables e below (s₁.setTop (mkF m 30 (oL14 c0 a1 a2) [(.int c0), (.int (0 : Int32)), (.ref a2)])) _
    refine XS.i2b X0.here hx rfl (hb hby d15_30) rfl ?_
    refine st3 _ ?_
    refine XS.iinc X3.here hx rfl (hb hby d15_32) rfl (l' := #[.val (.ref a1), .val (.int ((0 : Int32) + (1 : Int32))), .val (.ref a2), .val (.int (0 : Int32)), .val (.int (3 : Int32)), .val (.int (0 : Int32)), .val (.int c0)]) rfl ?_
    refine XS.iinc X3.here hx rfl (hb hby d15_35) rfl (l' := #[.val (.ref a1), .val (.int ((0 : Int32) + (1 : Int32))), .val (.ref a2), .val (.int ((0 : Int32) + (1 : Int32))), .val (.int (3 : Int32)), .val (.int (0 : Int32)), .val (.int c0)]) rfl ?_
    refine XS.iinc X3.here hx rfl (hb hby d15_38) rfl (l' := (oL15 c0 a1 a2)) rfl ?_
    show Steps p.tables e below (T3.setTop (mkF m 41 (oL15 c0 a1 a2) [])) _
    refine XS.goto X3.here hx rfl (pc0 := 41) (pc' := 3) rfl (hb hby d15_41) (by decide) (by decide) ?_
    refine XS.iload X3.here hx rfl (hb hby d15_3) rfl ?_
    refine XS.iload X3.here hx rfl (hb hby d15_5) rfl ?_
    refine XS.icmpNo X3.here hx rfl (hb hby d15_7) rfl (tlt (by decide : ((0 : Int32) + (1 : Int32)) < (3 : Int32))).2.1 ?_
    refine XS.aloadN X3.here hx rfl (hb hby d15_10) rfl rfl ?_
    show Steps p.tables e below (T3.setTop (mkF m 11 (oL15 c0 a1 a2) [(.ref a1)])) _
    refine XS.iloadN X3.here hx rfl (hb hby d15_11) rfl ?_
    refine X3.caload hx (j := ((0 : Int32) + (1 : Int32))) (v := (.int c1)) (by rw [e3]; exact Ar_a1_27.1) (State.isArrayOf_alike hZ.alike Ar_a1_27.2.1) Ar_a1_27.2.2 hin_a1_27 hat_a1_27 (g := (mkF m 12 (oL15 c0 a1 a2) [(.int ((0 : Int32) + (1 : Int32))), (.ref a1)])) rfl rfl (hb hby d15_12) _ ?_
    refine XS.istore X3.here hx rfl (hb hby d15_13) rfl (l' := (oL16 c1 a1 a2)) rfl ?_
    refine XS.iload X3.here hx rfl (hb hby d15_15) rfl ?_
    refine XS.sipush X3.here hx rfl (hb hby d15_17) ?_
    show Steps p.tables e below (T3.setTop (mkF m 20 (oL16 c1 a1 a2) [(.int (255 : Int32)), (.int c1)])) _
    refine XS.icmpNo X3.here hx rfl (hb hby d15_20) rfl (tlt hc20_31).2.2.2 ?_
    refine XS.iload X3.here hx rfl (hb hby d15_23) rfl ?_
    exact retI X3 hx Bd.returns (hb hby d15_25) hr
  · show own_QK a2 (1 : Int32) h0 n0 _ T3.heap _
    rw [e3]
    exact ⟨congrArg (fun z => some (Value.int z)) (by decide), N3, K3⟩
abbrev oL17 (c1 : Int32) (a1 a2 : Addr) : Array Slot := #[.val (.ref a1), .val (.int (((0 : Int32) + (1 : Int32)) + (1 : Int32))), .val (.ref a2), .val (.int (((0 : Int32) + (1 : Int32)) + (1 : Int32))), .val (.int (3 : Int32)), .val (.int (((0 : Int32) + (1 : Int32)) + (1 : Int32))), .val (.int c1)]
abbrev oL18 (c2 : Int32) (a1 a2 : Addr) : Array Slot := #[.val (.ref a1), .val (.int (((0 : Int32) + (1 : Int32)) + (1 : Int32))), .val (.ref a2), .val (.int (((0 : Int32) + (1 : Int32)) + (1 : Int32))), .val (.int (3 : Int32)), .val (.int (((0 : Int32) + (1 : Int32)) + (1 : Int32))), .val (.int c2)]
set_option maxRecDepth 65536 in
set_option maxHeartbeats 40000000 in
theorem rm15_3_2 (l : Launch) (Z : State) (a0 : Array Value) (hw : ∀ d ∈ tables_1, d.before a0 Z = true) (ws : List Jvm.Cond) (a1 : Addr) (_q2 : Int32) (a2 : Addr) (_q4 : Int32) (_q5 : Int32) (c0 : Int32) (c1 : Int32) (c2 : Int32) (k_a1 : ClassId) (k_a2 : ClassId) (h0 : Heap) (n0 : Nat) (Z0 : n0 ≤ h0.size) (V_a1 : Arv Z h0 a1 k_a1 .char (3 : Int32) [(.int c0), (.int c1), (.int c2)] (.int (0 : Int32))) (V_a2 : Arv Z h0 a2 k_a2 .byte (3 : Int32) [(.int (0 : Int32)), (.int (0 : Int32)), (.int (0 : Int32))] (.int (0 : Int32))) (ne_a1_a2 : a1 ≠ a2) (g_a2 : n0 ≤ a2) (hc20 : ¬ ((255 : Int32) < c0)) (hc20_31 : ¬ ((255 : Int32) < c1)) (hc20_50 : (255 : Int32) < c2) :
    MetFree l (⟨"java/lang/StringUTF16", "compress", "([CI[BII)I"⟩ : MethodName) (head1 (Jvm.Cond.code (⟨"java/lang/StringUTF16", "compress", "([CI[BII)I"⟩ : MethodName) jdk_52_method_21_code 7 (some .int) :: ws) ({ frames := 0, cells := 0, slots := 0, locals := 0 } : Room)) (fun a U => a = #[(.ref a1), (.int (0 : Int32)), (.ref a2), (.int (0 : Int32)), (.int (3 : Int32))] ∧ Z.Warmed39 U.vm ∧ U.heap = h0) (fun _ _ _ _ _ => True) (fun _ U o U' => ∃ v L, o = .returned v ∧ own_QK a2 (2 : Int32) h0 n0 v U'.heap L ∧ FrameEnd U o U' L ({ frames := 0, cells := 0, slots := 0, locals := 0 } : Room).cells ({ frames := 0, cells := 0, slots := 0, locals := 0 } : Room).slots) := by
  refine MetFree.of_bodySF (plainFor_of_name pn_15) hisR ?_
  intro p e s m args below meth c s₁ Bd hml0 hP hK
  obtain ⟨rfl, hZ, hh⟩ := hP
  have hx := Bd.exec
  have hby := Bd.bytes
  have hml : c.maxLocals = 7 := hml0
  have hown : s.vm.findClass "java/lang/StringUTF16" = some m.cls := findClass_of_methodNamed Bd.named
  have hnm := (name_of_methodNamed Bd.named Bd.method).1
  have X0 : Stand p l e ({ frames := 0, cells := 0, slots := 0, locals := 0 } : Room) s m #[(.ref a1), (.int (0 : Int32)), (.ref a2), (.int (0 : Int32)), (.int (3 : Int32))] below meth c s₁ [] 0 0 := Stand.of_body Bd
  have e0 : s₁.heap = h0 := by rw [← hh, Bd.state]; rfl
  have N0 := Fr.nil n0
  have pre0 : ∀ t, Steps p.tables e below (s₁.setTop (mkF m 0 (oL12 a1 a2) [])) t → Steps p.tables e below (s₁.setTop (entryFrame m #[(.ref a1), (.int (0 : Int32)), (.ref a2), (.int (0 : Int32)), (.int (3 : Int32))] 7)) t := fun t k => castTop (ef_15 m a1 (0 : Int32) a2 (0 : Int32) (3 : Int32)) k
  obtain ⟨cl_a1_8, Ar_a1_8, q_a1_8, S_a1_8, N_a1_8, H_a1_8, G_a1_8⟩ := id V_a1
  have hin_a1_8 : ¬ ((0 : Int32) < 0 ∨ cl_a1_8.slots.size ≤ ((0 : Int32)).toNatClampNeg) := inb_of S_a1_8 ⟨by decide, by decide⟩
  have hat_a1_8 : cl_a1_8.slots[((0 : Int32)).toNatClampNeg]? = some (.int c0) := own_at H_a1_8 S_a1_8 ⟨by decide, by decide⟩ 0 (by decide) rfl
  obtain ⟨cl_a2_17, Ar_a2_17, q_a2_17, S_a2_17, N_a2_17, H_a2_17, G_a2_17⟩ := id V_a2
  have hin_a2_17 : ¬ ((0 : Int32) < 0 ∨ cl_a2_17.slots.size ≤ ((0 : Int32)).toNatClampNeg) := inb_of S_a2_17 ⟨by decide, by decide⟩
  obtain ⟨T3, h3, X3, e3, W3, st3⟩ := stB X0 hx hZ e0 Ar_a2_17 (j := (0 : Int32)) hin_a2_17 (g := (mkF m 31 (oL14 c0 a1 a2) [(.int (c0.toInt8.toInt32)), (.int (0 : Int32)), (.ref a2)])) rfl rfl (hb hby d15_31)
  have V_a2_3 : Arv Z h3 a2 k_a2 .byte (3 : Int32) [(.int (nar .byte (c0.toInt8.toInt32))), (.int (0 : Int32)), (.int (0 : Int32))] (.int (0 : Int32)) := Arv.set Ar_a2_17 q_a2_17 S_a2_17 N_a2_17 H_a2_17 G_a2_17 (fits_nar_byte _) W3 0 (by decide) (Nat.le_of_ble_eq_true rfl)
  have K3 : Keep h0 h3 [a2] := (Keep.refl h0 [a2]).wr W3 (Or.inl (List.mem_of_getElem? (i := 0) rfl))
  have N3 := Fr.snoc X3 N0 g_a2
  obtain ⟨cl_a1_27, Ar_a1_27, q_a1_27, S_a1_27, N_a1_27, H_a1_27, G_a1_27⟩ := (V_a1.other W3 ne_a1_a2)
  have hin_a1_27 : ¬ (((0 : Int32) + (1 : Int32)) < 0 ∨ cl_a1_27.slots.size ≤ (((0 : Int32) + (1 : Int32))).toNatClampNeg) := inb_of S_a1_27 ⟨by decide, by decide⟩
  have hat_a1_27 : cl_a1_27.slots[(((0 : Int32) + (1 : Int32))).toNatClampNeg]? = some (.int c1) := own_at H_a1_27 S_a1_27 ⟨by decide, by decide⟩ 1 (by decide) rfl
  obtain ⟨cl_a2_36, Ar_a2_36, q_a2_36, S_a2_36, N_a2_36, H_a2_36, G_a2_36⟩ := id V_a2_3
  have hin_a2_36 : ¬ (((0 : Int32) + (1 : Int32)) < 0 ∨ cl_a2_36.slots.size ≤ (((0 : Int32) + (1 : Int32))).toNatClampNeg) := inb_of S_a2_36 ⟨by decide, by decide⟩
  obtain ⟨T4, h4, X4, e4, W4, st4⟩ := stB X3 hx hZ e3 Ar_a2_36 (j := ((0 : Int32) + (1 : Int32))) hin_a2_36 (g := (mkF m 31 (oL16 c1 a1 a2) [(.int (c1.toInt8.toInt32)), (.int ((0 : Int32) + (1 : Int32))), (.ref a2)])) rfl rfl (hb hby d15_31)
  have V_a2_4 : Arv Z h4 a2 k_a2 .byte (3 : Int32) [(.int (nar .byte (c0.toInt8.toInt32))), (.int (nar .byte (c1.toInt8.toInt32))), (.int (0 : Int32))] (.int (0 : Int32)) := Arv.set Ar_a2_36 q_a2_36 S_a2_36 N_a2_36 H_a2_36 G_a2_36 (fits_nar_byte _) W4 1 (by decide) (Nat.le_of_ble_eq_true rfl)
  have K4 : Keep h0 h4 [a2] := K3.wr W4 (Or.inl (List.mem_of_getElem? (i := 0) rfl))
  have N4 := Fr.snoc X4 N3 g_a2
  obtain ⟨cl_a1_46, Ar_a1_46, q_a1_46, S_a1_46, N_a1_46, H_a1_46, G_a1_46⟩ := ((V_a1.other W3 ne_a1_a2).other W4 ne_a1_a2)
  have hin_a1_46 : ¬ ((((0 : Int32) + (1 : Int32)) + (1 : Int32)) < 0 ∨ cl_a1_46.slots.size ≤ ((((0 : Int32) + (1 : Int32)) + (1 : Int32))).toNatClampNeg) := inb_of S_a1_46 ⟨by decide, by decide⟩
  have hat_a1_46 : cl_a1_46.slots[((((0 : Int32) + (1 : Int32)) + (1 : Int32))).toNatClampNeg]? = some (.int c2) := own_at H_a1_46 S_a1_46 ⟨by decide, by decide⟩ 2 (by decide) rfl
  obtain ⟨fs, hr, hrun, hended, hW, hsame⟩ := X4.leave (v := some (.int (((0 : Int32) + (1 : Int32)) + (1 : Int32)))) (fun h => by rw [Bd.returns] at h; cases h)
  refine ⟨_, _, pre0 _ ?_, hrun, hended, _, _, rfl, ?_, ⟨_, rfl⟩, hW, hsame.mono (by decide) (by decide)⟩
  · show Steps p.tables e below (s₁.setTop (mkF m 0 (oL12 a1 a2) [])) _
    refine XS.iconst X0.here hx rfl (hb hby d15_0) ?_
    refine XS.istore X0.here hx rfl (hb hby d15_1) rfl (l' := (oL13 a1 a2)) rfl ?_
    refine XS.iload X0.here hx rfl (hb hby d15_3) rfl ?_
    refine XS.iload X0.here hx rfl (hb hby d15_5) rfl ?_
    refine XS.icmpNo X0.here hx rfl (hb hby d15_7) rfl (tlt (by decide : (0 : Int32) < (3 : Int32))).2.1 ?_
    show Steps p.tables e below (s₁.setTop (mkF m 10 (oL13 a1 a2) [])) _
    refine XS.aloadN X0.here hx rfl (hb hby d15_10) rfl rfl ?_
    refine XS.iloadN X0.here hx rfl (hb hby d15_11) rfl ?_
    refine X0.caload hx (j := (0 : Int32)) (v := (.int c0)) (by rw [e0]; exact Ar_a1_8.1) (State.isArrayOf_alike hZ.alike Ar_a1_8.2.1) Ar_a1_8.2.2 hin_a1_8 hat_a1_8 (g := (mkF m 12 (oL13 a1 a2) [(.int (0 : Int32)), (.ref a1)])) rfl rfl (hb hby d15_12) _ ?_
    refine XS.istore X0.here hx rfl (hb hby d15_13) rfl (l' := (oL14 c0 a1 a2)) rfl ?_
    refine XS.iload X0.here hx rfl (hb hby d15_15) rfl ?_
    show Steps p.tables e below (s₁.setTop (mkF m 17 (oL14 c0 a1 a2) [(.int c0)])) _
    refine XS.sipush X0.here hx rfl (hb hby d15_17) ?_
    refine XS.icmpYes X0.here hx rfl (pc0 := 20) (pc' := 26) rfl (hb hby d15_20) rfl (flt hc20).2.2.2 (by decide) (by decide) ?_
    refine XS.aloadN X0.here hx rfl (hb hby d15_26) rfl rfl ?_
    refine XS.iloadN X0.here hx rfl (hb hby d15_27) rfl ?_
    refine XS.iload X0.here hx rfl (hb hby d15_28) rfl ?_
    show Steps p.tables e below (s₁.setTop (mkF m 30 (oL14 c0 a1 a2) [(.int c0), (.int (0 : Int32)), (.ref a2)])) _
    refine XS.i2b X0.here hx rfl (hb hby d15_30) rfl ?_
    refine st3 _ ?_
    refine XS.iinc X3.here hx rfl (hb hby d15_32) rfl (l' := #[.val (.ref a1), .val (.int ((0 : Int32) + (1 : Int32))), .val (.ref a2), .val (.int (0 : Int32)), .val (.int (3 : Int32)), .val (.int (0 : Int32)), .val (.int c0)]) rfl ?_
    refine XS.iinc X3.here hx rfl (hb hby d15_35) rfl (l' := #[.val (.ref a1), .val (.int ((0 : Int32) + (1 : Int32))), .val (.ref a2), .val (.int ((0 : Int32) + (1 : Int32))), .val (.int (3 : Int32)), .val (.int (0 : Int32)), .val (.int c0)]) rfl ?_
    refine XS.iinc X3.here hx rfl (hb hby d15_38) rfl (l' := (oL15 c0 a1 a2)) rfl ?_
    show Steps p.tables e below (T3.setTop (mkF m 41 (oL15 c0 a1 a2) [])) _
    refine XS.goto X3.here hx rfl (pc0 := 41) (pc' := 3) rfl (hb hby d15_41) (by decide) (by decide) ?_
    refine XS.iload X3.here hx rfl (hb hby d15_3) rfl ?_
    refine XS.iload X3.here hx rfl (hb hby d15_5) rfl ?_
    refine XS.icmpNo X3.here hx rfl (hb hby d15_7) rfl (tlt (by decide : ((0 : Int32) + (1 : Int32)) < (3 : Int32))).2.1 ?_
    refine XS.aloadN X3.here hx rfl (hb hby d15_10) rfl rfl ?_
    show Steps p.tables e below (T3.setTop (mkF m 11 (oL15 c0 a1 a2) [(.ref a1)])) _
    refine XS.iloadN X3.here hx rfl (hb hby d15_11) rfl ?_
    refine X3.caload hx (j := ((0 : Int32) + (1 : Int32))) (v := (.int c1)) (by rw [e3]; exact Ar_a1_27.1) (State.isArrayOf_alike hZ.alike Ar_a1_27.2.1) Ar_a1_27.2.2 hin_a1_27 hat_a1_27 (g := (mkF m 12 (oL15 c0 a1 a2) [(.int ((0 : Int32) + (1 : Int32))), (.ref a1)])) rfl rfl (hb hby d15_12) _ ?_
    refine XS.istore X3.here hx rfl (hb hby d15_13) rfl (l' := (oL16 c1 a1 a2)) rfl ?_
    refine XS.iload X3.here hx rfl (hb hby d15_15) rfl ?_
    refine XS.sipush X3.here hx rfl (hb hby d15_17) ?_
    show Steps p.tables e below (T3.setTop (mkF m 20 (oL16 c1 a1 a2) [(.int (255 : Int32)), (.int c1)])) _
    refine XS.icmpYes X3.here hx rfl (pc0 := 20) (pc' := 26) rfl (hb hby d15_20) rfl (flt hc20_31).2.2.2 (by decide) (by decide) ?_
    refine XS.aloadN X3.here hx rfl (hb hby d15_26) rfl rfl ?_
    refine XS.iloadN X3.here hx rfl (hb hby d15_27) rfl ?_
    refine XS.iload X3.here hx rfl (hb hby d15_28) rfl ?_
    refine XS.i2b X3.here hx rfl (hb hby d15_30) rfl ?_
    show Steps p.tables e below (T3.setTop (mkF m 31 (oL16 c1 a1 a2) [(.int (c1.toInt8.toInt32)), (.int ((0 : Int32) + (1 : Int32))), (.ref a2)])) _
    refine st4 _ ?_
    refine XS.iinc X4.here hx rfl (hb hby d15_32) rfl (l' := #[.val (.ref a1), .val (.int (((0 : Int32) + (1 : Int32)) + (1 : Int32))), .val (.ref a2), .val (.int ((0 : Int32) + (1 : Int32))), .val (.int (3 : Int32)), .val (.int ((0 : Int32) + (1 : Int32))), .val (.int c1)]) rfl ?_
    refine XS.iinc X4.here hx rfl (hb hby d15_35) rfl (l' := #[.val (.ref a1), .val (.int (((0 : Int32) + (1 : Int32)) + (1 : Int32))), .val (.ref a2), .val (.int (((0 : Int32) + (1 : Int32)) + (1 : Int32))), .val (.int (3 : Int32)), .val (.int ((0 : Int32) + (1 : Int32))), .val (.int c1)]) rfl ?_
    refine XS.iinc X4.here hx rfl (hb hby d15_38) rfl (l' := (oL17 c1 a1 a2)) rfl ?_
    refine XS.goto X4.here hx rfl (pc0 := 41) (pc' := 3) rfl (hb hby d15_41) (by decide) (by decide) ?_
    show Steps p.tables e below (T4.setTop (mkF m 3 (oL17 c1 a1 a2) [])) _
    refine XS.iload X4.here hx rfl (hb hby d15_3) rfl ?_
    refine XS.iload X4.here hx rfl (hb hby d15_5) rfl ?_
    refine XS.icmpNo X4.here hx rfl (hb hby d15_7) rfl (tlt (by decide : (((0 : Int32) + (1 : Int32)) + (1 : Int32)) < (3 : Int32))).2.1 ?_
    refine XS.aloadN X4.here hx rfl (hb hby d15_10) rfl rfl ?_
    refine XS.iloadN X4.here hx rfl (hb hby d15_11) rfl ?_
    show Steps p.tables e below (T4.setTop (mkF m 12 (oL17 c1 a1 a2) [(.int (((0 : Int32) + (1 : Int32)) + (1 : Int32))), (.ref a1)])) _
    refine X4.caload hx (j := (((0 : Int32) + (1 : Int32)) + (1 : Int32))) (v := (.int c2)) (by rw [e4]; exact Ar_a1_46.1) (State.isArrayOf_alike hZ.alike Ar_a1_46.2.1) Ar_a1_46.2.2 hin_a1_46 hat_a1_46 (g := (mkF m 12 (oL17 c1 a1 a2) [(.int (((0 : Int32) + (1 : Int32)) + (1 : Int32))), (.ref a1)])) rfl rfl (hb hby d15_12) _ ?_
    refine XS.istore X4.here hx rfl (hb hby d15_13) rfl (l' := (oL18 c2 a1 a2)) rfl ?_
    refine XS.iload X4.here hx rfl (hb hby d15_15) rfl ?_
    refine XS.sipush X4.here hx rfl (hb hby d15_17) ?_
    refine XS.icmpNo X4.here hx rfl (hb hby d15_20) rfl (tlt hc20_50).2.2.2 ?_
    show Steps p.tables e below (T4.setTop (mkF m 23 (oL18 c2 a1 a2) [])) _
    refine XS.iload X4.here hx rfl (hb hby d15_23) rfl ?_
    exact retI X4 hx Bd.returns (hb hby d15_25) hr
  · show own_QK a2 (2 : Int32) h0 n0 _ T4.heap _
    rw [e4]
    exact ⟨congrArg (fun z => some (Value.int z)) (by decide), N4, K4⟩
abbrev oL19 (c2 : Int32) (a1 a2 : Addr) : Array Slot := #[.val (.ref a1), .val (.int ((((0 : Int32) + (1 : Int32)) + (1 : Int32)) + (1 : Int32))), .val (.ref a2), .val (.int ((((0 : Int32) + (1 : Int32)) + (1 : Int32)) + (1 : Int32))), .val (.int (3 : Int32)), .val (.int ((((0 : Int32) + (1 : Int32)) + (1 : Int32)) + (1 : Int32))), .val (.int c2)]
set_option maxRecDepth 65536 in
set_option maxHeartbeats 40000000 in
theorem rm15_3_L (l : Launch) (Z : State) (a0 : Array Value) (hw : ∀ d ∈ tables_1, d.before a0 Z = true) (ws : List Jvm.Cond) (a1 : Addr) (_q2 : Int32) (a2 : Addr) (_q4 : Int32) (_q5 : Int32) (c0 : Int32) (c1 : Int32) (c2 : Int32) (k_a1 : ClassId) (k_a2 : ClassId) (h0 : Heap) (n0 : Nat) (Z0 : n0 ≤ h0.size) (V_a1 : Arv Z h0 a1 k_a1 .char (3 : Int32) [(.int c0), (.int c1), (.int c2)] (.int (0 : Int32))) (V_a2 : Arv Z h0 a2 k_a2 .byte (3 : Int32) [(.int (0 : Int32)), (.int (0 : Int32)), (.int (0 : Int32))] (.int (0 : Int32))) (ne_a1_a2 : a1 ≠ a2) (g_a2 : n0 ≤ a2) (hc20 : ¬ ((255 : Int32) < c0)) (hc20_31 : ¬ ((255 : Int32) < c1)) (hc20_50 : ¬ ((255 : Int32) < c2)) :
    MetFree l (⟨"java/lang/StringUTF16", "compress", "([CI[BII)I"⟩ : MethodName) (head1 (Jvm.Cond.code (⟨"java/lang/StringUTF16", "compress", "([CI[BII)I"⟩ : MethodName) jdk_52_method_21_code 7 (some .int) :: ws) ({ frames := 0, cells := 0, slots := 0, locals := 0 } : Room)) (fun a U => a = #[(.ref a1), (.int (0 : Int32)), (.ref a2), (.int (0 : Int32)), (.int (3 : Int32))] ∧ Z.Warmed39 U.vm ∧ U.heap = h0) (fun _ _ _ _ _ => True) (fun _ U o U' => ∃ v L, o = .returned v ∧ own_QAR Z a2 k_a2 (3 : Int32) [(.int (StrChars.lo8 c0)), (.int (StrChars.lo8 c1)), (.int (StrChars.lo8 c2))] h0 n0 v U'.heap L ∧ FrameEnd U o U' L ({ frames := 0, cells := 0, slots := 0, locals := 0 } : Room).cells ({ frames := 0, cells := 0, slots := 0, locals := 0 } : Room).slots) := by
  refine MetFree.of_bodySF (plainFor_of_name pn_15) hisR ?_
  intro p e s m args below meth c s₁ Bd hml0 hP hK
  obtain ⟨rfl, hZ, hh⟩ := hP
  have hx := Bd.exec
  have hby := Bd.bytes
  have hml : c.maxLocals = 7 := hml0
  have hown : s.vm.findClass "java/lang/StringUTF16" = some m.cls := findClass_of_methodNamed Bd.named
  have hnm := (name_of_methodNamed Bd.named Bd.method).1
  have X0 : Stand p l e ({ frames := 0, cells := 0, slots := 0, locals := 0 } : Room) s m #[(.ref a1), (.int (0 : Int32)), (.ref a2), (.int (0 : Int32)), (.int (3 : Int32))] below meth c s₁ [] 0 0 := Stand.of_body Bd
  have e0 : s₁.heap = h0 := by rw [← hh, Bd.state]; rfl
  have N0 := Fr.nil n0
  have pre0 : ∀ t, Steps p.tables e below (s₁.setTop (mkF m 0 (oL12 a1 a2) [])) t → Steps p.tables e below (s₁.setTop (entryFrame m #[(.ref a1), (.int (0 : Int32)), (.ref a2), (.int (0 : Int32)), (.int (3 : Int32))] 7)) t := fun t k => castTop (ef_15 m a1 (0 : Int32) a2 (0 : Int32) (3 : Int32)) k
  obtain ⟨cl_a1_8, Ar_a1_8, q_a1_8, S_a1_8, N_a1_8, H_a1_8, G_a1_8⟩ := id V_a1
  have hin_a1_8 : ¬ ((0 : Int32) < 0 ∨ cl_a1_8.slots.size ≤ ((0 : Int32)).toNatClampNeg) := inb_of S_a1_8 ⟨by decide, by decide⟩
  have hat_a1_8 : cl_a1_8.slots[((0 : Int32)).toNatClampNeg]? = some (.int c0) := own_at H_a1_8 S_a1_8 ⟨by decide, by decide⟩ 0 (by decide) rfl
  obtain ⟨cl_a2_17, Ar_a2_17, q_a2_17, S_a2_17, N_a2_17, H_a2_17, G_a2_17⟩ := id V_a2
  have hin_a2_17 : ¬ ((0 : Int32) < 0 ∨ cl_a2_17.slots.size ≤ ((0 : Int32)).toNatClampNeg) := inb_of S_a2_17 ⟨by decide, by decide⟩
  obtain ⟨T3, h3, X3, e3, W3, st3⟩ := stB X0 hx hZ e0 Ar_a2_17 (j := (0 : Int32)) hin_a2_17 (g := (mkF m 31 (oL14 c0 a1 a2) [(.int (c0.toInt8.toInt32)), (.int (0 : Int32)), (.ref a2)])) rfl rfl (hb hby d15_31)
  have V_a2_3 : Arv Z h3 a2 k_a2 .byte (3 : Int32) [(.int (nar .byte (c0.toInt8.toInt32))), (.int (0 : Int32)), (.int (0 : Int32))] (.int (0 : Int32)) := Arv.set Ar_a2_17 q_a2_17 S_a2_17 N_a2_17 H_a2_17 G_a2_17 (fits_nar_byte _) W3 0 (by decide) (Nat.le_of_ble_eq_true rfl)
  have K3 : Keep h0 h3 [a2] := (Keep.refl h0 [a2]).wr W3 (Or.inl (List.mem_of_getElem? (i := 0) rfl))
  have N3 := Fr.snoc X3 N0 g_a2
  obtain ⟨cl_a1_27, Ar_a1_27, q_a1_27, S_a1_27, N_a1_27, H_a1_27, G_a1_27⟩ := (V_a1.other W3 ne_a1_a2)
  have hin_a1_27 : ¬ (((0 : Int32) + (1 : Int32)) < 0 ∨ cl_a1_27.slots.size ≤ (((0 : Int32) + (1 : Int32))).toNatClampNeg) := inb_of S_a1_27 ⟨by decide, by decide⟩
  have hat_a1_27 : cl_a1_27.slots[(((0 : Int32) + (1 : Int32))).toNatClampNeg]? = some (.int c1) := own_at H_a1_27 S_a1_27 ⟨by decide, by decide⟩ 1 (by decide) rfl
  obtain ⟨cl_a2_36, Ar_a2_36, q_a2_36, S_a2_36, N_a2_36, H_a2_36, G_a2_36⟩ := id V_a2_3
  have hin_a2_36 : ¬ (((0 : Int32) + (1 : Int32)) < 0 ∨ cl_a2_36.slots.size ≤ (((0 : Int32) + (1 : Int32))).toNatClampNeg) := inb_of S_a2_36 ⟨by decide, by decide⟩
  obtain ⟨T4, h4, X4, e4, W4, st4⟩ := stB X3 hx hZ e3 Ar_a2_36 (j := ((0 : Int32) + (1 : Int32))) hin_a2_36 (g := (mkF m 31 (oL16 c1 a1 a2) [(.int (c1.toInt8.toInt32)), (.int ((0 : Int32) + (1 : Int32))), (.ref a2)])) rfl rfl (hb hby d15_31)
  have V_a2_4 : Arv Z h4 a2 k_a2 .byte (3 : Int32) [(.int (nar .byte (c0.toInt8.toInt32))), (.int (nar .byte (c1.toInt8.toInt32))), (.int (0 : Int32))] (.int (0 : Int32)) := Arv.set Ar_a2_36 q_a2_36 S_a2_36 N_a2_36 H_a2_36 G_a2_36 (fits_nar_byte _) W4 1 (by decide) (Nat.le_of_ble_eq_true rfl)
  have K4 : Keep h0 h4 [a2] := K3.wr W4 (Or.inl (List.mem_of_getElem? (i := 0) rfl))
  have N4 := Fr.snoc X4 N3 g_a2
  obtain ⟨cl_a1_46, Ar_a1_46, q_a1_46, S_a1_46, N_a1_46, H_a1_46, G_a1_46⟩ := ((V_a1.other W3 ne_a1_a2).other W4 ne_a1_a2)
  have hin_a1_46 : ¬ ((((0 : Int32) + (1 : Int32)) + (1 : Int32)) < 0 ∨ cl_a1_46.slots.size ≤ ((((0 : Int32) + (1 : Int32)) + (1 : Int32))).toNatClampNeg) := inb_of S_a1_46 ⟨by decide, by decide⟩
  have hat_a1_46 : cl_a1_46.slots[((((0 : Int32) + (1 : Int32)) + (1 : Int32))).toNatClampNeg]? = some (.int c2) := own_at H_a1_46 S_a1_46 ⟨by decide, by decide⟩ 2 (by decide) rfl
  obtain ⟨cl_a2_55, Ar_a2_55, q_a2_55, S_a2_55, N_a2_55, H_a2_55, G_a2_55⟩ := id V_a2_4
  have hin_a2_55 : ¬ ((((0 : Int32) + (1 : Int32)) + (1 : Int32)) < 0 ∨ cl_a2_55.slots.size ≤ ((((0 : Int32) + (1 : Int32)) + (1 : Int32))).toNatClampNeg) := inb_of S_a2_55 ⟨by decide, by decide⟩
  obtain ⟨T5, h5, X5, e5, W5, st5⟩ := stB X4 hx hZ e4 Ar_a2_55 (j := (((0 : Int32) + (1 : Int32)) + (1 : Int32))) hin_a2_55 (g := (mkF m 31 (oL18 c2 a1 a2) [(.int (c2.toInt8.toInt32)), (.int (((0 : Int32) + (1 : Int32)) + (1 : Int32))), (.ref a2)])) rfl rfl (hb hby d15_31)
  have V_a2_5 : Arv Z h5 a2 k_a2 .byte (3 : Int32) [(.int (nar .byte (c0.toInt8.toInt32))), (.int (nar .byte (c1.toInt8.toInt32))), (.int (nar .byte (c2.toInt8.toInt32)))] (.int (0 : Int32)) := Arv.set Ar_a2_55 q_a2_55 S_a2_55 N_a2_55 H_a2_55 G_a2_55 (fits_nar_byte _) W5 2 (by decide) (Nat.le_of_ble_eq_true rfl)
  have K5 : Keep h0 h5 [a2] := K4.wr W5 (Or.inl (List.mem_of_getElem? (i := 0) rfl))
  have N5 := Fr.snoc X5 N4 g_a2
  obtain ⟨fs, hr, hrun, hended, hW, hsame⟩ := X5.leave (v := some (.int (3 : Int32))) (fun h => by rw [Bd.returns] at h; cases h)
  refine ⟨_, _, pre0 _ ?_, hrun, hended, _, _, rfl, ?_, ⟨_, rfl⟩, hW, hsame.mono (by decide) (by decide)⟩
  · show Steps p.tables e below (s₁.setTop (mkF m 0 (oL12 a1 a2) [])) _
    refine XS.iconst X0.here hx rfl (hb hby d15_0) ?_
    refine XS.istore X0.here hx rfl (hb hby d15_1) rfl (l' := (oL13 a1 a2)) rfl ?_
    refine XS.iload X0.here hx rfl (hb hby d15_3) rfl ?_
    refine XS.iload X0.here hx rfl (hb hby d15_5) rfl ?_
    refine XS.icmpNo X0.here hx rfl (hb hby d15_7) rfl (tlt (by decide : (0 : Int32) < (3 : Int32))).2.1 ?_
    show Steps p.tables e below (s₁.setTop (mkF m 10 (oL13 a1 a2) [])) _
    refine XS.aloadN X0.here hx rfl (hb hby d15_10) rfl rfl ?_
    refine XS.iloadN X0.here hx rfl (hb hby d15_11) rfl ?_
    refine X0.caload hx (j := (0 : Int32)) (v := (.int c0)) (by rw [e0]; exact Ar_a1_8.1) (State.isArrayOf_alike hZ.alike Ar_a1_8.2.1) Ar_a1_8.2.2 hin_a1_8 hat_a1_8 (g := (mkF m 12 (oL13 a1 a2) [(.int (0 : Int32)), (.ref a1)])) rfl rfl (hb hby d15_12) _ ?_
    refine XS.istore X0.here hx rfl (hb hby d15_13) rfl (l' := (oL14 c0 a1 a2)) rfl ?_
    refine XS.iload X0.here hx rfl (hb hby d15_15) rfl ?_
    show Steps p.tables e below (s₁.setTop (mkF m 17 (oL14 c0 a1 a2) [(.int c0)])) _
    refine XS.sipush X0.here hx rfl (hb hby d15_17) ?_
    refine XS.icmpYes X0.here hx rfl (pc0 := 20) (pc' := 26) rfl (hb hby d15_20) rfl (flt hc20).2.2.2 (by decide) (by decide) ?_
    refine XS.aloadN X0.here hx rfl (hb hby d15_26) rfl rfl ?_
    refine XS.iloadN X0.here hx rfl (hb hby d15_27) rfl ?_
    refine XS.iload X0.here hx rfl (hb hby d15_28) rfl ?_
    show Steps p.tables e below (s₁.setTop (mkF m 30 (oL14 c0 a1 a2) [(.int c0), (.int (0 : Int32)), (.ref a2)])) _
    refine XS.i2b X0.here hx rfl (hb hby d15_30) rfl ?_
    refine st3 _ ?_
    refine XS.iinc X3.here hx rfl (hb hby d15_32) rfl (l' := #[.val (.ref a1), .val (.int ((0 : Int32) + (1 : Int32))), .val (.ref a2), .val (.int (0 : Int32)), .val (.int (3 : Int32)), .val (.int (0 : Int32)), .val (.int c0)]) rfl ?_
    refine XS.iinc X3.here hx rfl (hb hby d15_35) rfl (l' := #[.val (.ref a1), .val (.int ((0 : Int32) + (1 : Int32))), .val (.ref a2), .val (.int ((0 : Int32) + (1 : Int32))), .val (.int (3 : Int32)), .val (.int (0 : Int32)), .val (.int c0)]) rfl ?_
    refine XS.iinc X3.here hx rfl (hb hby d15_38) rfl (l' := (oL15 c0 a1 a2)) rfl ?_
    show Steps p.tables e below (T3.setTop (mkF m 41 (oL15 c0 a1 a2) [])) _
    refine XS.goto X3.here hx rfl (pc0 := 41) (pc' := 3) rfl (hb hby d15_41) (by decide) (by decide) ?_
    refine XS.iload X3.here hx rfl (hb hby d15_3) rfl ?_
    refine XS.iload X3.here hx rfl (hb hby d15_5) rfl ?_
    refine XS.icmpNo X3.here hx rfl (hb hby d15_7) rfl (tlt (by decide : ((0 : Int32) + (1 : Int32)) < (3 : Int32))).2.1 ?_
    refine XS.aloadN X3.here hx rfl (hb hby d15_10) rfl rfl ?_
    show Steps p.tables e below (T3.setTop (mkF m 11 (oL15 c0 a1 a2) [(.ref a1)])) _
    refine XS.iloadN X3.here hx rfl (hb hby d15_11) rfl ?_
    refine X3.caload hx (j := ((0 : Int32) + (1 : Int32))) (v := (.int c1)) (by rw [e3]; exact Ar_a1_27.1) (State.isArrayOf_alike hZ.alike Ar_a1_27.2.1) Ar_a1_27.2.2 hin_a1_27 hat_a1_27 (g := (mkF m 12 (oL15 c0 a1 a2) [(.int ((0 : Int32) + (1 : Int32))), (.ref a1)])) rfl rfl (hb hby d15_12) _ ?_
    refine XS.istore X3.here hx rfl (hb hby d15_13) rfl (l' := (oL16 c1 a1 a2)) rfl ?_
    refine XS.iload X3.here hx rfl (hb hby d15_15) rfl ?_
    refine XS.sipush X3.here hx rfl (hb hby d15_17) ?_
    show Steps p.tables e below (T3.setTop (mkF m 20 (oL16 c1 a1 a2) [(.int (255 : Int32)), (.int c1)])) _
    refine XS.icmpYes X3.here hx rfl (pc0 := 20) (pc' := 26) rfl (hb hby d15_20) rfl (flt hc20_31).2.2.2 (by decide) (by decide) ?_
    refine XS.aloadN X3.here hx rfl (hb hby d15_26) rfl rfl ?_
    refine XS.iloadN X3.here hx rfl (hb hby d15_27) rfl ?_
    refine XS.iload X3.here hx rfl (hb hby d15_28) rfl ?_
    refine XS.i2b X3.here hx rfl (hb hby d15_30) rfl ?_
    show Steps p.tables e below (T3.setTop (mkF m 31 (oL16 c1 a1 a2) [(.int (c1.toInt8.toInt32)), (.int ((0 : Int32) + (1 : Int32))), (.ref a2)])) _
    refine st4 _ ?_
    refine XS.iinc X4.here hx rfl (hb hby d15_32) rfl (l' := #[.val (.ref a1), .val (.int (((0 : Int32) + (1 : Int32)) + (1 : Int32))), .val (.ref a2), .val (.int ((0 : Int32) + (1 : Int32))), .val (.int (3 : Int32)), .val (.int ((0 : Int32) + (1 : Int32))), .val (.int c1)]) rfl ?_
    refine XS.iinc X4.here hx rfl (hb hby d15_35) rfl (l' := #[.val (.ref a1), .val (.int (((0 : Int32) + (1 : Int32)) + (1 : Int32))), .val (.ref a2), .val (.int (((0 : Int32) + (1 : Int32)) + (1 : Int32))), .val (.int (3 : Int32)), .val (.int ((0 : Int32) + (1 : Int32))), .val (.int c1)]) rfl ?_
    refine XS.iinc X4.here hx rfl (hb hby d15_38) rfl (l' := (oL17 c1 a1 a2)) rfl ?_
    refine XS.goto X4.here hx rfl (pc0 := 41) (pc' := 3) rfl (hb hby d15_41) (by decide) (by decide) ?_
    show Steps p.tables e below (T4.setTop (mkF m 3 (oL17 c1 a1 a2) [])) _
    refine XS.iload X4.here hx rfl (hb hby d15_3) rfl ?_
    refine XS.iload X4.here hx rfl (hb hby d15_5) rfl ?_
    refine XS.icmpNo X4.here hx rfl (hb hby d15_7) rfl (tlt (by decide : (((0 : Int32) + (1 : Int32)) + (1 : Int32)) < (3 : Int32))).2.1 ?_
    refine XS.aloadN X4.here hx rfl (hb hby d15_10) rfl rfl ?_
    refine XS.iloadN X4.here hx rfl (hb hby d15_11) rfl ?_
    show Steps p.tables e below (T4.setTop (mkF m 12 (oL17 c1 a1 a2) [(.int (((0 : Int32) + (1 : Int32)) + (1 : Int32))), (.ref a1)])) _
    refine X4.caload hx (j := (((0 : Int32) + (1 : Int32)) + (1 : Int32))) (v := (.int c2)) (by rw [e4]; exact Ar_a1_46.1) (State.isArrayOf_alike hZ.alike Ar_a1_46.2.1) Ar_a1_46.2.2 hin_a1_46 hat_a1_46 (g := (mkF m 12 (oL17 c1 a1 a2) [(.int (((0 : Int32) + (1 : Int32)) + (1 : Int32))), (.ref a1)])) rfl rfl (hb hby d15_12) _ ?_
    refine XS.istore X4.here hx rfl (hb hby d15_13) rfl (l' := (oL18 c2 a1 a2)) rfl ?_
    refine XS.iload X4.here hx rfl (hb hby d15_15) rfl ?_
    refine XS.sipush X4.here hx rfl (hb hby d15_17) ?_
    refine XS.icmpYes X4.here hx rfl (pc0 := 20) (pc' := 26) rfl (hb hby d15_20) rfl (flt hc20_50).2.2.2 (by decide) (by decide) ?_
    show Steps p.tables e below (T4.setTop (mkF m 26 (oL18 c2 a1 a2) [])) _
    refine XS.aloadN X4.here hx rfl (hb hby d15_26) rfl rfl ?_
    refine XS.iloadN X4.here hx rfl (hb hby d15_27) rfl ?_
    refine XS.iload X4.here hx rfl (hb hby d15_28) rfl ?_
    refine XS.i2b X4.here hx rfl (hb hby d15_30) rfl ?_
    refine st5 _ ?_
    show Steps p.tables e below (T5.setTop (mkF m 32 (oL18 c2 a1 a2) [])) _
    refine XS.iinc X5.here hx rfl (hb hby d15_32) rfl (l' := #[.val (.ref a1), .val (.int ((((0 : Int32) + (1 : Int32)) + (1 : Int32)) + (1 : Int32))), .val (.ref a2), .val (.int (((0 : Int32) + (1 : Int32)) + (1 : Int32))), .val (.int (3 : Int32)), .val (.int (((0 : Int32) + (1 : Int32)) + (1 : Int32))), .val (.int c2)]) rfl ?_
    refine XS.iinc X5.here hx rfl (hb hby d15_35) rfl (l' := #[.val (.ref a1), .val (.int ((((0 : Int32) + (1 : Int32)) + (1 : Int32)) + (1 : Int32))), .val (.ref a2), .val (.int ((((0 : Int32) + (1 : Int32)) + (1 : Int32)) + (1 : Int32))), .val (.int (3 : Int32)), .val (.int (((0 : Int32) + (1 : Int32)) + (1 : Int32))), .val (.int c2)]) rfl ?_
    refine XS.iinc X5.here hx rfl (hb hby d15_38) rfl (l' := (oL19 c2 a1 a2)) rfl ?_
    refine XS.goto X5.here hx rfl (pc0 := 41) (pc' := 3) rfl (hb hby d15_41) (by decide) (by decide) ?_
    refine XS.iload X5.here hx rfl (hb hby d15_3) rfl ?_
    show Steps p.tables e below (T5.setTop (mkF m 5 (oL19 c2 a1 a2) [(.int ((((0 : Int32) + (1 : Int32)) + (1 : Int32)) + (1 : Int32)))])) _
    refine XS.iload X5.here hx rfl (hb hby d15_5) rfl ?_
    refine XS.icmpYes X5.here hx rfl (pc0 := 7) (pc' := 44) rfl (hb hby d15_7) rfl (flt (by decide : ¬ (((((0 : Int32) + (1 : Int32)) + (1 : Int32)) + (1 : Int32)) < (3 : Int32)))).2.1 (by decide) (by decide) ?_
    refine XS.iload X5.here hx rfl (hb hby d15_44) rfl ?_
    exact retI X5 hx Bd.returns (hb hby d15_46) hr
  · show own_QAR Z a2 k_a2 (3 : Int32) [(.int (StrChars.lo8 c0)), (.int (StrChars.lo8 c1)), (.int (StrChars.lo8 c2))] h0 n0 _ T5.heap _
    rw [e5]
    exact ⟨rfl, N5, K5, (by have q := V_a2_5; simp only [own_nb] at q; exact q)⟩
theorem d19_0 : decode jdk_52_method_14_code 0 = .ok (.iload_n 2, 1) := by decide +kernel
theorem d19_1 : decode jdk_52_method_14_code 1 = .ok (.invokestatic 107, 3) := by decide +kernel
theorem d19_4 : decode jdk_52_method_14_code 4 = .ok (.astore_n 3, 1) := by decide +kernel
theorem d19_5 : decode jdk_52_method_14_code 5 = .ok (.iconst 0, 1) := by decide +kernel
theorem d19_6 : decode jdk_52_method_14_code 6 = .ok (.istore 4, 2) := by decide +kernel
theorem d19_8 : decode jdk_52_method_14_code 8 = .ok (.iload 4, 2) := by decide +kernel
theorem d19_10 : decode jdk_52_method_14_code 10 = .ok (.iload_n 2, 1) := by decide +kernel
theorem d19_11 : decode jdk_52_method_14_code 11 = .ok (.if_icmp .ge 21, 3) := by decide +kernel
theorem d19_14 : decode jdk_52_method_14_code 14 = .ok (.aload_n 3, 1) := by decide +kernel
theorem d19_15 : decode jdk_52_method_14_code 15 = .ok (.iload 4, 2) := by decide +kernel
theorem d19_17 : decode jdk_52_method_14_code 17 = .ok (.aload_n 0, 1) := by decide +kernel
theorem d19_18 : decode jdk_52_method_14_code 18 = .ok (.iload_n 1, 1) := by decide +kernel
theorem d19_19 : decode jdk_52_method_14_code 19 = .ok (.caload, 1) := by decide +kernel
theorem d19_20 : decode jdk_52_method_14_code 20 = .ok (.invokestatic 111, 3) := by decide +kernel
theorem d19_23 : decode jdk_52_method_14_code 23 = .ok (.iinc 1 1, 3) := by decide +kernel
theorem d19_26 : decode jdk_52_method_14_code 26 = .ok (.iinc 4 1, 3) := by decide +kernel
theorem d19_29 : decode jdk_52_method_14_code 29 = .ok (.goto (-21), 3) := by decide +kernel
theorem d19_32 : decode jdk_52_method_14_code 32 = .ok (.aload_n 3, 1) := by decide +kernel
theorem d19_33 : decode jdk_52_method_14_code 33 = .ok (.areturn, 1) := by decide +kernel
theorem pn_19 : plainName "java/lang/StringUTF16" = true := by first | (simp [plainName, overriddenIn]; done) | decide +kernel
theorem pd_19_15 : parseMethodDescriptor "(I)[B" = some ⟨[.int], some (.array .byte)⟩ := by decide +kernel
theorem pd_19_16 : parseMethodDescriptor "([BII)V" = some ⟨[(.array .byte), .int, .int], none⟩ := by decide +kernel
theorem ef_19 (m : MethodId) (x0 : Addr) (x1 : Int32) (x2 : Int32) : entryFrame m #[(.ref x0), (.int x1), (.int x2)] 5 = mkF m 0 #[.val (.ref x0), .val (.int x1), .val (.int x2), .unset, .unset] [] := by first | (simp [entryFrame, mkF, argsToLocals, Value.category]; done) | rfl
abbrev oL20 (a1 : Addr) : Array Slot := #[.val (.ref a1), .val (.int (0 : Int32)), .val (.int (1 : Int32)), .unset, .unset]
abbrev oL21 (a1 bX : Addr) : Array Slot := #[.val (.ref a1), .val (.int (0 : Int32)), .val (.int (1 : Int32)), .val (.ref bX), .val (.int (0 : Int32))]
abbrev oL22 (a1 bX : Addr) : Array Slot := #[.val (.ref a1), .val (.int ((0 : Int32) + (1 : Int32))), .val (.int (1 : Int32)), .val (.ref bX), .val (.int (0 : Int32))]
abbrev oL23 (a1 bX : Addr) : Array Slot := #[.val (.ref a1), .val (.int ((0 : Int32) + (1 : Int32))), .val (.int (1 : Int32)), .val (.ref bX), .val (.int ((0 : Int32) + (1 : Int32)))]
set_option maxRecDepth 65536 in
set_option maxHeartbeats 40000000 in
theorem rm19_1 (l : Launch) (Z : State) (a0 : Array Value) (hw : ∀ d ∈ tables_1, d.before a0 Z = true) (ws : List Jvm.Cond) (a1 : Addr) (_q2 : Int32) (_q3 : Int32) (c0 : Int32) (k_a1 : ClassId) (h0 : Heap) (n0 : Nat) (Z0 : n0 ≤ h0.size) (S__assertionsDisabled : Sta Z Z.heap "java/lang/StringUTF16" "$assertionsDisabled" "Z" (.int (1 : Int32))) (X00 : Old Z n0 h0) (S_HI_BYTE_SHIFT : Sta Z Z.heap "java/lang/StringUTF16" "HI_BYTE_SHIFT" "I" (.int (0 : Int32))) (S_LO_BYTE_SHIFT : Sta Z Z.heap "java/lang/StringUTF16" "LO_BYTE_SHIFT" "I" (.int (8 : Int32))) (V_a1 : Arv Z h0 a1 k_a1 .char (1 : Int32) [(.int c0)] (.int (0 : Int32))) :
    MetFree l (⟨"java/lang/StringUTF16", "toBytes", "([CII)[B"⟩ : MethodName) (head1 (Jvm.Cond.code (⟨"java/lang/StringUTF16", "toBytes", "([CII)[B"⟩ : MethodName) jdk_52_method_14_code 5 (some (.array .byte)) :: ws) ({ frames := 2, cells := 1, slots := 6, locals := 24 } : Room)) (fun a U => a = #[(.ref a1), (.int (0 : Int32)), (.int (1 : Int32))] ∧ Z.Warmed39 U.vm ∧ U.heap = h0) (fun _ _ _ _ _ => True) (fun _ U o U' => ∃ v L, o = .returned v ∧ own_QC Z (2 : Int32) [(.int (StrChars.lo8 c0)), (.int (StrChars.hi8 c0))] h0 n0 v U'.heap L ∧ FrameEnd U o U' L ({ frames := 2, cells := 1, slots := 6, locals := 24 } : Room).cells ({ frames := 2, cells := 1, slots := 6, locals := 24 } : Room).slots) := by
  refine MetFree.of_bodySF (plainFor_of_name pn_19) hisR ?_
  intro p e s m args below meth c s₁ Bd hml0 hP hK
  obtain ⟨rfl, hZ, hh⟩ := hP
  have hx := Bd.exec
  have hby := Bd.bytes
  have hml : c.maxLocals = 5 := hml0
  have hown : s.vm.findClass "java/lang/StringUTF16" = some m.cls := findClass_of_methodNamed Bd.named
  have hnm := (name_of_methodNamed Bd.named Bd.method).1
  have X0 : Stand p l e ({ frames := 2, cells := 1, slots := 6, locals := 24 } : Room) s m #[(.ref a1), (.int (0 : Int32)), (.int (1 : Int32))] below meth c s₁ [] 0 0 := Stand.of_body Bd
  have e0 : s₁.heap = h0 := by rw [← hh, Bd.state]; rfl
  have N0 := Fr.nil n0
  have pre0 : ∀ t, Steps p.tables e below (s₁.setTop (mkF m 0 (oL20 a1) [])) t → Steps p.tables e below (s₁.setTop (entryFrame m #[(.ref a1), (.int (0 : Int32)), (.int (1 : Int32))] 5)) t := fun t k => castTop (ef_19 m a1 (0 : Int32) (1 : Int32)) k
  obtain ⟨_, _, ⟨T2, L2, k2, n2⟩, -, X2, ⟨Lc2, hQ2, l2, y2, z2⟩, st2⟩ := Jvm.LawKit.callS X0 hx (y := (⟨"java/lang/StringUTF16", "newBytesFor", "(I)[B"⟩ : MethodName)) hown (mvT hZ (hw _ (wI 87 rfl))) (mvT hZ (hw _ (wI 88 rfl))) (mvT hZ (hw _ (wI 69 rfl))) (mvT hZ (hw _ (wI 89 rfl))) (by decide) (backOf (W := 0) (rm20_1 l Z a0 hw [] (1 : Int32)  h0 n0 Z0) hZ (hw _ (wI 89 rfl)) (hw _ (wI 69 rfl)) (by decide) (by decide)) (g := (mkF m 1 (oL20 a1) [(.int (1 : Int32))])) rfl (by rw [hml]; rfl) (argsL := [(.int (1 : Int32))]) (rest := []) (lenOf pd_19_15 rfl) rfl (by show 2 * 0 + _ ≤ _; exact Nat.le_of_eq rfl) (hb hby d19_1) (fun _ _ => ⟨rfl, e0, (by decide : 0 + 1 ≤ _), (by decide : 0 + 6 ≤ _)⟩)
  dsimp only [Pt.U, Pt.locs, Pt.cells, Pt.slots] at X2 l2 y2 z2 st2 hQ2
  subst l2 y2 z2
  obtain ⟨bX, rfl, N2q, g_bX, gz_bX, Kt2, kX, Vx⟩ := hQ2
  have N2 := Fr.app N0 N2q
  have sz_bX : h0.size ≤ bX := gz_bX
  have Kq2 : Keep h0 T2.heap [] := Kt2
  have K2 : Keep h0 T2.heap [] := (Keep.refl h0 []).trans Kq2 all0
  obtain ⟨cl_a1_13, Ar_a1_13, q_a1_13, S_a1_13, N_a1_13, H_a1_13, G_a1_13⟩ := (V_a1.keep Kq2 (fun q => nomatch q))
  have hin_a1_13 : ¬ ((0 : Int32) < 0 ∨ cl_a1_13.slots.size ≤ ((0 : Int32)).toNatClampNeg) := inb_of S_a1_13 ⟨by decide, by decide⟩
  have hat_a1_13 : cl_a1_13.slots[((0 : Int32)).toNatClampNeg]? = some (.int c0) := own_at H_a1_13 S_a1_13 ⟨by decide, by decide⟩ 0 (by decide) rfl
  obtain ⟨_, _, ⟨T3, L3, k3, n3⟩, -, X3, ⟨Lc3, hQ3, l3, y3, z3⟩, st3⟩ := Jvm.LawKit.callS X2 hx (y := (⟨"java/lang/StringUTF16", "putChar", "([BII)V"⟩ : MethodName)) hown (mvT hZ (hw _ (wI 94 rfl))) (mvT hZ (hw _ (wI 95 rfl))) (mvT hZ (hw _ (wI 69 rfl))) (mvT hZ (hw _ (wI 96 rfl))) (by decide) (backOf (W := 0) (rm22 l Z a0 hw [] bX (0 : Int32) c0 0 kX (2 : Int32) [(.int (0 : Int32)), (.int (0 : Int32))] (.int (0 : Int32)) T2.heap n0 (Nat.le_trans Z0 Kq2.1) S__assertionsDisabled (X00.keep K2 all0) S_HI_BYTE_SHIFT S_LO_BYTE_SHIFT Vx ⟨by decide, by decide⟩ (by decide) (Nat.le_of_ble_eq_true rfl) ⟨by decide, by decide⟩ (by decide) (Nat.le_of_ble_eq_true rfl) g_bX) hZ (hw _ (wI 96 rfl)) (hw _ (wI 69 rfl)) (by decide) (by decide)) (g := (mkF m 20 (oL21 a1 bX) [(.int c0), (.int (0 : Int32)), (.ref bX)])) rfl (by rw [hml]; rfl) (argsL := [(.ref bX), (.int (0 : Int32)), (.int c0)]) (rest := []) (lenOf pd_19_16 rfl) rfl (by show 2 * 0 + _ ≤ _; exact Nat.le_of_eq rfl) (hb hby d19_20) (fun _ _ => ⟨rfl, rfl, (by decide : 1 + 0 ≤ _), (by decide : 6 + 0 ≤ _)⟩)
  dsimp only [Pt.U, Pt.locs, Pt.cells, Pt.slots] at X3 l3 y3 z3 st3 hQ3
  subst l3 y3 z3
  obtain ⟨rfl, N3q, Kc3, Vq3⟩ := hQ3
  have N3 := Fr.app N2 N3q
  have Vn3 : Arv Z T3.heap bX kX .byte (2 : Int32) [(.int (StrChars.lo8 c0)), (.int (StrChars.hi8 c0))] (.int (0 : Int32)) := Vq3
  have Kq3 : Keep T2.heap T3.heap [bX] := Kc3
  have K3 : Keep h0 T3.heap [] := K2.trans Kq3 (own_trS (Or.inr sz_bX) all0)
  have End_0 := Vn3
  obtain ⟨fs, hr, hrun, hended, hW, hsame⟩ := X3.leave (v := some (.ref bX)) (fun h => by rw [Bd.returns] at h; cases h)
  refine ⟨_, _, pre0 _ ?_, hrun, hended, _, _, rfl, ?_, ⟨_, rfl⟩, hW, hsame.mono (by decide) (by decide)⟩
  · show Steps p.tables e below (s₁.setTop (mkF m 0 (oL20 a1) [])) _
    refine XS.iloadN X0.here hx rfl (hb hby d19_0) rfl ?_
    refine st2 _ ?_
    refine XS.astoreN X2.here hx rfl (hb hby d19_4) rfl rfl (l' := #[.val (.ref a1), .val (.int (0 : Int32)), .val (.int (1 : Int32)), .val (.ref bX), .unset]) rfl ?_
    refine XS.iconst X2.here hx rfl (hb hby d19_5) ?_
    refine XS.istore X2.here hx rfl (hb hby d19_6) rfl (l' := (oL21 a1 bX)) rfl ?_
    show Steps p.tables e below (T2.setTop (mkF m 8 (oL21 a1 bX) [])) _
    refine XS.iload X2.here hx rfl (hb hby d19_8) rfl ?_
    refine XS.iloadN X2.here hx rfl (hb hby d19_10) rfl ?_
    refine XS.icmpNo X2.here hx rfl (hb hby d19_11) rfl (tlt (by decide : (0 : Int32) < (1 : Int32))).2.1 ?_
    refine XS.aloadN X2.here hx rfl (hb hby d19_14) rfl rfl ?_
    refine XS.iload X2.here hx rfl (hb hby d19_15) rfl ?_
    show Steps p.tables e below (T2.setTop (mkF m 17 (oL21 a1 bX) [(.int (0 : Int32)), (.ref bX)])) _
    refine XS.aloadN X2.here hx rfl (hb hby d19_17) rfl rfl ?_
    refine XS.iloadN X2.here hx rfl (hb hby d19_18) rfl ?_
    refine X2.caload hx (j := (0 : Int32)) (v := (.int c0)) Ar_a1_13.1 (State.isArrayOf_alike hZ.alike Ar_a1_13.2.1) Ar_a1_13.2.2 hin_a1_13 hat_a1_13 (g := (mkF m 19 (oL21 a1 bX) [(.int (0 : Int32)), (.ref a1), (.int (0 : Int32)), (.ref bX)])) rfl rfl (hb hby d19_19) _ ?_
    refine st3 _ ?_
    refine XS.iinc X3.here hx rfl (hb hby d19_23) rfl (l' := (oL22 a1 bX)) rfl ?_
    show Steps p.tables e below (T3.setTop (mkF m 26 (oL22 a1 bX) [])) _
    refine XS.iinc X3.here hx rfl (hb hby d19_26) rfl (l' := (oL23 a1 bX)) rfl ?_
    refine XS.goto X3.here hx rfl (pc0 := 29) (pc' := 8) rfl (hb hby d19_29) (by decide) (by decide) ?_
    refine XS.iload X3.here hx rfl (hb hby d19_8) rfl ?_
    refine XS.iloadN X3.here hx rfl (hb hby d19_10) rfl ?_
    refine XS.icmpYes X3.here hx rfl (pc0 := 11) (pc' := 32) rfl (hb hby d19_11) rfl (flt (by decide : ¬ (((0 : Int32) + (1 : Int32)) < (1 : Int32)))).2.1 (by decide) (by decide) ?_
    show Steps p.tables e below (T3.setTop (mkF m 32 (oL23 a1 bX) [])) _
    refine XS.aloadN X3.here hx rfl (hb hby d19_32) rfl rfl ?_
    jvm_step X3.here [X3.here.top, hx, (hb hby d19_33), X3.method', Bd.returns, Value.isRef, FieldType.isReference]
    first | (intro acts; rw [hr _ acts rfl rfl rfl]) | rw [hr _ _ rfl rfl rfl]
    exact Steps.refl _
  · show own_QC Z (2 : Int32) [(.int (StrChars.lo8 c0)), (.int (StrChars.hi8 c0))] h0 n0 _ T3.heap _
    exact ⟨bX, rfl, N3, g_bX, sz_bX, K3, kX, End_0⟩
abbrev oL24 (a1 : Addr) : Array Slot := #[.val (.ref a1), .val (.int (0 : Int32)), .val (.int (2 : Int32)), .unset, .unset]
abbrev oL25 (a1 bX : Addr) : Array Slot := #[.val (.ref a1), .val (.int (0 : Int32)), .val (.int (2 : Int32)), .val (.ref bX), .val (.int (0 : Int32))]
abbrev oL26 (a1 bX : Addr) : Array Slot := #[.val (.ref a1), .val (.int ((0 : Int32) + (1 : Int32))), .val (.int (2 : Int32)), .val (.ref bX), .val (.int ((0 : Int32) + (1 : Int32)))]
abbrev oL27 (a1 bX : Addr) : Array Slot := #[.val (.ref a1), .val (.int ((0 : Int32) + (1 : Int32))), .val (.int (2 : Int32)), .val (.ref bX), .val (.int (0 : Int32))]
abbrev oL28 (a1 bX : Addr) : Array Slot := #[.val (.ref a1), .val (.int (((0 : Int32) + (1 : Int32)) + (1 : Int32))), .val (.int (2 : Int32)), .val (.ref bX), .val (.int (((0 : Int32) + (1 : Int32)) + (1 : Int32)))]
set_option maxRecDepth 65536 in
set_option maxHeartbeats 40000000 in
theorem rm19_2 (l : Launch) (Z : State) (a0 : Array Value) (hw : ∀ d ∈ tables_1, d.before a0 Z = true) (ws : List Jvm.Cond) (a1 : Addr) (_q2 : Int32) (_q3 : Int32) (c0 : Int32) (c1 : Int32) (k_a1 : ClassId) (h0 : Heap) (n0 : Nat) (Z0 : n0 ≤ h0.size) (S__assertionsDisabled : Sta Z Z.heap "java/lang/StringUTF16" "$assertionsDisabled" "Z" (.int (1 : Int32))) (X00 : Old Z n0 h0) (S_HI_BYTE_SHIFT : Sta Z Z.heap "java/lang/StringUTF16" "HI_BYTE_SHIFT" "I" (.int (0 : Int32))) (S_LO_BYTE_SHIFT : Sta Z Z.heap "java/lang/StringUTF16" "LO_BYTE_SHIFT" "I" (.int (8 : Int32))) (V_a1 : Arv Z h0 a1 k_a1 .char (2 : Int32) [(.int c0), (.int c1)] (.int (0 : Int32))) :
    MetFree l (⟨"java/lang/StringUTF16", "toBytes", "([CII)[B"⟩ : MethodName) (head1 (Jvm.Cond.code (⟨"java/lang/StringUTF16", "toBytes", "([CII)[B"⟩ : MethodName) jdk_52_method_14_code 5 (some (.array .byte)) :: ws) ({ frames := 2, cells := 1, slots := 6, locals := 24 } : Room)) (fun a U => a = #[(.ref a1), (.int (0 : Int32)), (.int (2 : Int32))] ∧ Z.Warmed39 U.vm ∧ U.heap = h0) (fun _ _ _ _ _ => True) (fun _ U o U' => ∃ v L, o = .returned v ∧ own_QC Z (4 : Int32) [(.int (StrChars.lo8 c0)), (.int (StrChars.hi8 c0)), (.int (StrChars.lo8 c1)), (.int (StrChars.hi8 c1))] h0 n0 v U'.heap L ∧ FrameEnd U o U' L ({ frames := 2, cells := 1, slots := 6, locals := 24 } : Room).cells ({ frames := 2, cells := 1, slots := 6, locals := 24 } : Room).slots) := by
  refine MetFree.of_bodySF (plainFor_of_name pn_19) hisR ?_
  intro p e s m args below meth c s₁ Bd hml0 hP hK
  obtain ⟨rfl, hZ, hh⟩ := hP
  have hx := Bd.exec
  have hby := Bd.bytes
  have hml : c.maxLocals = 5 := hml0
  have hown : s.vm.findClass "java/lang/StringUTF16" = some m.cls := findClass_of_methodNamed Bd.named
  have hnm := (name_of_methodNamed Bd.named Bd.method).1
  have X0 : Stand p l e ({ frames := 2, cells := 1, slots := 6, locals := 24 } : Room) s m #[(.ref a1), (.int (0 : Int32)), (.int (2 : Int32))] below meth c s₁ [] 0 0 := Stand.of_body Bd
  have e0 : s₁.heap = h0 := by rw [← hh, Bd.state]; rfl
  have N0 := Fr.nil n0
  have pre0 : ∀ t, Steps p.tables e below (s₁.setTop (mkF m 0 (oL24 a1) [])) t → Steps p.tables e below (s₁.setTop (entryFrame m #[(.ref a1), (.int (0 : Int32)), (.int (2 : Int32))] 5)) t := fun t k => castTop (ef_19 m a1 (0 : Int32) (2 : Int32)) k
  obtain ⟨_, _, ⟨T2, L2, k2, n2⟩, -, X2, ⟨Lc2, hQ2, l2, y2, z2⟩, st2⟩ := Jvm.LawKit.callS X0 hx (y := (⟨"java/lang/StringUTF16", "newBytesFor", "(I)[B"⟩ : MethodName)) hown (mvT hZ (hw _ (wI 87 rfl))) (mvT hZ (hw _ (wI 88 rfl))) (mvT hZ (hw _ (wI 69 rfl))) (mvT hZ (hw _ (wI 89 rfl))) (by decide) (backOf (W := 0) (rm20_2 l Z a0 hw [] (2 : Int32)  h0 n0 Z0) hZ (hw _ (wI 89 rfl)) (hw _ (wI 69 rfl)) (by decide) (by decide)) (g := (mkF m 1 (oL24 a1) [(.int (2 : Int32))])) rfl (by rw [hml]; rfl) (argsL := [(.int (2 : Int32))]) (rest := []) (lenOf pd_19_15 rfl) rfl (by show 2 * 0 + _ ≤ _; exact Nat.le_of_eq rfl) (hb hby d19_1) (fun _ _ => ⟨rfl, e0, (by decide : 0 + 1 ≤ _), (by decide : 0 + 6 ≤ _)⟩)
  dsimp only [Pt.U, Pt.locs, Pt.cells, Pt.slots] at X2 l2 y2 z2 st2 hQ2
  subst l2 y2 z2
  obtain ⟨bX, rfl, N2q, g_bX, gz_bX, Kt2, kX, Vx⟩ := hQ2
  have N2 := Fr.app N0 N2q
  have sz_bX : h0.size ≤ bX := gz_bX
  have Kq2 : Keep h0 T2.heap [] := Kt2
  have K2 : Keep h0 T2.heap [] := (Keep.refl h0 []).trans Kq2 all0
  obtain ⟨cl_a1_13, Ar_a1_13, q_a1_13, S_a1_13, N_a1_13, H_a1_13, G_a1_13⟩ := (V_a1.keep Kq2 (fun q => nomatch q))
  have hin_a1_13 : ¬ ((0 : Int32) < 0 ∨ cl_a1_13.slots.size ≤ ((0 : Int32)).toNatClampNeg) := inb_of S_a1_13 ⟨by decide, by decide⟩
  have hat_a1_13 : cl_a1_13.slots[((0 : Int32)).toNatClampNeg]? = some (.int c0) := own_at H_a1_13 S_a1_13 ⟨by decide, by decide⟩ 0 (by decide) rfl
  obtain ⟨_, _, ⟨T3, L3, k3, n3⟩, -, X3, ⟨Lc3, hQ3, l3, y3, z3⟩, st3⟩ := Jvm.LawKit.callS X2 hx (y := (⟨"java/lang/StringUTF16", "putChar", "([BII)V"⟩ : MethodName)) hown (mvT hZ (hw _ (wI 94 rfl))) (mvT hZ (hw _ (wI 95 rfl))) (mvT hZ (hw _ (wI 69 rfl))) (mvT hZ (hw _ (wI 96 rfl))) (by decide) (backOf (W := 0) (rm22 l Z a0 hw [] bX (0 : Int32) c0 0 kX (4 : Int32) [(.int (0 : Int32)), (.int (0 : Int32)), (.int (0 : Int32)), (.int (0 : Int32))] (.int (0 : Int32)) T2.heap n0 (Nat.le_trans Z0 Kq2.1) S__assertionsDisabled (X00.keep K2 all0) S_HI_BYTE_SHIFT S_LO_BYTE_SHIFT Vx ⟨by decide, by decide⟩ (by decide) (Nat.le_of_ble_eq_true rfl) ⟨by decide, by decide⟩ (by decide) (Nat.le_of_ble_eq_true rfl) g_bX) hZ (hw _ (wI 96 rfl)) (hw _ (wI 69 rfl)) (by decide) (by decide)) (g := (mkF m 20 (oL25 a1 bX) [(.int c0), (.int (0 : Int32)), (.ref bX)])) rfl (by rw [hml]; rfl) (argsL := [(.ref bX), (.int (0 : Int32)), (.int c0)]) (rest := []) (lenOf pd_19_16 rfl) rfl (by show 2 * 0 + _ ≤ _; exact Nat.le_of_eq rfl) (hb hby d19_20) (fun _ _ => ⟨rfl, rfl, (by decide : 1 + 0 ≤ _), (by decide : 6 + 0 ≤ _)⟩)
  dsimp only [Pt.U, Pt.locs, Pt.cells, Pt.slots] at X3 l3 y3 z3 st3 hQ3
  subst l3 y3 z3
  obtain ⟨rfl, N3q, Kc3, Vq3⟩ := hQ3
  have N3 := Fr.app N2 N3q
  have Vn3 : Arv Z T3.heap bX kX .byte (4 : Int32) [(.int (StrChars.lo8 c0)), (.int (StrChars.hi8 c0)), (.int (0 : Int32)), (.int (0 : Int32))] (.int (0 : Int32)) := Vq3
  have Kq3 : Keep T2.heap T3.heap [bX] := Kc3
  have K3 : Keep h0 T3.heap [] := K2.trans Kq3 (own_trS (Or.inr sz_bX) all0)
  obtain ⟨cl_a1_25, Ar_a1_25, q_a1_25, S_a1_25, N_a1_25, H_a1_25, G_a1_25⟩ := ((V_a1.keep Kq2 (fun q => nomatch q)).keep Kq3 (fun q => absurd (List.mem_singleton.mp q) (Nat.ne_of_lt (Nat.lt_of_lt_of_le V_a1.lt gz_bX))))
  have hin_a1_25 : ¬ (((0 : Int32) + (1 : Int32)) < 0 ∨ cl_a1_25.slots.size ≤ (((0 : Int32) + (1 : Int32))).toNatClampNeg) := inb_of S_a1_25 ⟨by decide, by decide⟩
  have hat_a1_25 : cl_a1_25.slots[(((0 : Int32) + (1 : Int32))).toNatClampNeg]? = some (.int c1) := own_at H_a1_25 S_a1_25 ⟨by decide, by decide⟩ 1 (by decide) rfl
  obtain ⟨_, _, ⟨T4, L4, k4, n4⟩, -, X4, ⟨Lc4, hQ4, l4, y4, z4⟩, st4⟩ := Jvm.LawKit.callS X3 hx (y := (⟨"java/lang/StringUTF16", "putChar", "([BII)V"⟩ : MethodName)) hown (mvT hZ (hw _ (wI 94 rfl))) (mvT hZ (hw _ (wI 95 rfl))) (mvT hZ (hw _ (wI 69 rfl))) (mvT hZ (hw _ (wI 96 rfl))) (by decide) (backOf (W := 0) (rm22 l Z a0 hw [] bX ((0 : Int32) + (1 : Int32)) c1 2 kX (4 : Int32) [(.int (StrChars.lo8 c0)), (.int (StrChars.hi8 c0)), (.int (0 : Int32)), (.int (0 : Int32))] (.int (0 : Int32)) T3.heap n0 (Nat.le_trans (Nat.le_trans Z0 Kq2.1) Kq3.1) S__assertionsDisabled (X00.keep K3 all0) S_HI_BYTE_SHIFT S_LO_BYTE_SHIFT Vn3 ⟨by decide, by decide⟩ (by decide) (Nat.le_of_ble_eq_true rfl) ⟨by decide, by decide⟩ (by decide) (Nat.le_of_ble_eq_true rfl) g_bX) hZ (hw _ (wI 96 rfl)) (hw _ (wI 69 rfl)) (by decide) (by decide)) (g := (mkF m 20 (oL26 a1 bX) [(.int c1), (.int ((0 : Int32) + (1 : Int32))), (.ref bX)])) rfl (by rw [hml]; rfl) (argsL := [(.ref bX), (.int ((0 : Int32) + (1 : Int32))), (.int c1)]) (rest := []) (lenOf pd_19_16 rfl) rfl (by show 2 * 0 + _ ≤ _; exact Nat.le_of_eq rfl) (hb hby d19_20) (fun _ _ => ⟨rfl, rfl, (by decide : 1 + 0 ≤ _), (by decide : 6 + 0 ≤ _)⟩)
  dsimp only [Pt.U, Pt.locs, Pt.cells, Pt.slots] at X4 l4 y4 z4 st4 hQ4
  subst l4 y4 z4
  obtain ⟨rfl, N4q, Kc4, Vq4⟩ := hQ4
  have N4 := Fr.app N3 N4q
  have Vn4 : Arv Z T4.heap bX kX .byte (4 : Int32) [(.int (StrChars.lo8 c0)), (.int (StrChars.hi8 c0)), (.int (StrChars.lo8 c1)), (.int (StrChars.hi8 c1))] (.int (0 : Int32)) := Vq4
  have Kq4 : Keep T3.heap T4.heap [bX] := Kc4
  have K4 : Keep h0 T4.heap [] := K3.trans Kq4 (own_trS (Or.inr sz_bX) all0)
  have End_0 := Vn4
  obtain ⟨fs, hr, hrun, hended, hW, hsame⟩ := X4.leave (v := some (.ref bX)) (fun h => by rw [Bd.returns] at h; cases h)
  refine ⟨_, _, pre0 _ ?_, hrun, hended, _, _, rfl, ?_, ⟨_, rfl⟩, hW, hsame.mono (by decide) (by decide)⟩
  · show Steps p.tables e below (s₁.setTop (mkF m 0 (oL24 a1) [])) _
    refine XS.iloadN X0.here hx rfl (hb hby d19_0) rfl ?_
    refine st2 _ ?_
    refine XS.astoreN X2.here hx rfl (hb hby d19_4) rfl rfl (l' := #[.val (.ref a1), .val (.int (0 : Int32)), .val (.int (2 : Int32)), .val (.ref bX), .unset]) rfl ?_
    refine XS.iconst X2.here hx rfl (hb hby d19_5) ?_
    refine XS.istore X2.here hx rfl (hb hby d19_6) rfl (l' := (oL25 a1 bX)) rfl ?_
    show Steps p.tables e below (T2.setTop (mkF m 8 (oL25 a1 bX) [])) _
    refine XS.iload X2.here hx rfl (hb hby d19_8) rfl ?_
    refine XS.iloadN X2.here hx rfl (hb hby d19_10) rfl ?_
    refine XS.icmpNo X2.here hx rfl (hb hby d19_11) rfl (tlt (by decide : (0 : Int32) < (2 : Int32))).2.1 ?_
    refine XS.aloadN X2.here hx rfl (hb hby d19_14) rfl rfl ?_
    refine XS.iload X2.here hx rfl (hb hby d19_15) rfl ?_
    show Steps p.tables e below (T2.setTop (mkF m 17 (oL25 a1 bX) [(.int (0 : Int32)), (.ref bX)])) _
    refine XS.aloadN X2.here hx rfl (hb hby d19_17) rfl rfl ?_
    refine XS.iloadN X2.here hx rfl (hb hby d19_18) rfl ?_
    refine X2.caload hx (j := (0 : Int32)) (v := (.int c0)) Ar_a1_13.1 (State.isArrayOf_alike hZ.alike Ar_a1_13.2.1) Ar_a1_13.2.2 hin_a1_13 hat_a1_13 (g := (mkF m 19 (oL25 a1 bX) [(.int (0 : Int32)), (.ref a1), (.int (0 : Int32)), (.ref bX)])) rfl rfl (hb hby d19_19) _ ?_
    refine st3 _ ?_
    refine XS.iinc X3.here hx rfl (hb hby d19_23) rfl (l' := (oL27 a1 bX)) rfl ?_
    show Steps p.tables e below (T3.setTop (mkF m 26 (oL27 a1 bX) [])) _
    refine XS.iinc X3.here hx rfl (hb hby d19_26) rfl (l' := (oL26 a1 bX)) rfl ?_
    refine XS.goto X3.here hx rfl (pc0 := 29) (pc' := 8) rfl (hb hby d19_29) (by decide) (by decide) ?_
    refine XS.iload X3.here hx rfl (hb hby d19_8) rfl ?_
    refine XS.iloadN X3.here hx rfl (hb hby d19_10) rfl ?_
    refine XS.icmpNo X3.here hx rfl (hb hby d19_11) rfl (tlt (by decide : ((0 : Int32) + (1 : Int32)) < (2 : Int32))).2.1 ?_
    show Steps p.tables e below (T3.setTop (mkF m 14 (oL26 a1 bX) [])) _
    refine XS.aloadN X3.here hx rfl (hb hby d19_14) rfl rfl ?_
    refine XS.iload X3.here hx rfl (hb hby d19_15) rfl ?_
    refine XS.aloadN X3.here hx rfl (hb hby d19_17) rfl rfl ?_
    refine XS.iloadN X3.here hx rfl (hb hby d19_18) rfl ?_
    refine X3.caload hx (j := ((0 : Int32) + (1 : Int32))) (v := (.int c1)) Ar_a1_25.1 (State.isArrayOf_alike hZ.alike Ar_a1_25.2.1) Ar_a1_25.2.2 hin_a1_25 hat_a1_25 (g := (mkF m 19 (oL26 a1 bX) [(.int ((0 : Int32) + (1 : Int32))), (.ref a1), (.int ((0 : Int32) + (1 : Int32))), (.ref bX)])) rfl rfl (hb hby d19_19) _ ?_
    show Steps p.tables e below (T3.setTop (mkF m 20 (oL26 a1 bX) [(.int c1), (.int ((0 : Int32) + (1 : Int32))), (.ref bX)])) _
    refine st4 _ ?_
    refine XS.iinc X4.here hx rfl (hb hby d19_23) rfl (l' := #[.val (.ref a1), .val (.int (((0 : Int32) + (1 : Int32)) + (1 : Int32))), .val (.int (2 : Int32)), .val (.ref bX), .val (.int ((0 : Int32) + (1 : Int32)))]) rfl ?_
    refine XS.iinc X4.here hx rfl (hb hby d19_26) rfl (l' := (oL28 a1 bX)) rfl ?_
    refine XS.goto X4.here hx rfl (pc0 := 29) (pc' := 8) rfl (hb hby d19_29) (by decide) (by decide) ?_
    refine XS.iload X4.here hx rfl (hb hby d19_8) rfl ?_
    show Steps p.tables e below (T4.setTop (mkF m 10 (oL28 a1 bX) [(.int (((0 : Int32) + (1 : Int32)) + (1 : Int32)))])) _
    refine XS.iloadN X4.here hx rfl (hb hby d19_10) rfl ?_
    refine XS.icmpYes X4.here hx rfl (pc0 := 11) (pc' := 32) rfl (hb hby d19_11) rfl (flt (by decide : ¬ ((((0 : Int32) + (1 : Int32)) + (1 : Int32)) < (2 : Int32)))).2.1 (by decide) (by decide) ?_
    refine XS.aloadN X4.here hx rfl (hb hby d19_32) rfl rfl ?_
    jvm_step X4.here [X4.here.top, hx, (hb hby d19_33), X4.method', Bd.returns, Value.isRef, FieldType.isReference]
    first | (intro acts; rw [hr _ acts rfl rfl rfl]) | rw [hr _ _ rfl rfl rfl]
    exact Steps.refl _
  · show own_QC Z (4 : Int32) [(.int (StrChars.lo8 c0)), (.int (StrChars.hi8 c0)), (.int (StrChars.lo8 c1)), (.int (StrChars.hi8 c1))] h0 n0 _ T4.heap _
    exact ⟨bX, rfl, N4, g_bX, sz_bX, K4, kX, End_0⟩
abbrev oL29 (a1 : Addr) : Array Slot := #[.val (.ref a1), .val (.int (0 : Int32)), .val (.int (3 : Int32)), .unset, .unset]
abbrev oL30 (a1 bX : Addr) : Array Slot := #[.val (.ref a1), .val (.int (0 : Int32)), .val (.int (3 : Int32)), .val (.ref bX), .val (.int (0 : Int32))]
abbrev oL31 (a1 bX : Addr) : Array Slot := #[.val (.ref a1), .val (.int ((0 : Int32) + (1 : Int32))), .val (.int (3 : Int32)), .val (.ref bX), .val (.int ((0 : Int32) + (1 : Int32)))]
abbrev oL32 (a1 bX : Addr) : Array Slot := #[.val (.ref a1), .val (.int (((0 : Int32) + (1 : Int32)) + (1 : Int32))), .val (.int (3 : Int32)), .val (.ref bX), .val (.int (((0 : Int32) + (1 : Int32)) + (1 : Int32)))]
abbrev oL33 (a1 bX : Addr) : Array Slot := #[.val (.ref a1), .val (.int ((0 : Int32) + (1 : Int32))), .val (.int (3 : Int32)), .val (.ref bX), .val (.int (0 : Int32))]
abbrev oL34 (a1 bX : Addr) : Array Slot := #[.val (.ref a1), .val (.int ((((0 : Int32) + (1 : Int32)) + (1 : Int32)) + (1 : Int32))), .val (.int (3 : Int32)), .val (.ref bX), .val (.int ((((0 : Int32) + (1 : Int32)) + (1 : Int32)) + (1 : Int32)))]
set_option maxRecDepth 65536 in
set_option maxHeartbeats 40000000 in
theorem rm19_3 (l : Launch) (Z : State) (a0 : Array Value) (hw : ∀ d ∈ tables_1, d.before a0 Z = true) (ws : List Jvm.Cond) (a1 : Addr) (_q2 : Int32) (_q3 : Int32) (c0 : Int32) (c1 : Int32) (c2 : Int32) (k_a1 : ClassId) (h0 : Heap) (n0 : Nat) (Z0 : n0 ≤ h0.size) (S__assertionsDisabled : Sta Z Z.heap "java/lang/StringUTF16" "$assertionsDisabled" "Z" (.int (1 : Int32))) (X00 : Old Z n0 h0) (S_HI_BYTE_SHIFT : Sta Z Z.heap "java/lang/StringUTF16" "HI_BYTE_SHIFT" "I" (.int (0 : Int32))) (S_LO_BYTE_SHIFT : Sta Z Z.heap "java/lang/StringUTF16" "LO_BYTE_SHIFT" "I" (.int (8 : Int32))) (V_a1 : Arv Z h0 a1 k_a1 .char (3 : Int32) [(.int c0), (.int c1), (.int c2)] (.int (0 : Int32))) :
    MetFree l (⟨"java/lang/StringUTF16", "toBytes", "([CII)[B"⟩ : MethodName) (head1 (Jvm.Cond.code (⟨"java/lang/StringUTF16", "toBytes", "([CII)[B"⟩ : MethodName) jdk_52_method_14_code 5 (some (.array .byte)) :: ws) ({ frames := 2, cells := 1, slots := 6, locals := 24 } : Room)) (fun a U => a = #[(.ref a1), (.int (0 : Int32)), (.int (3 : Int32))] ∧ Z.Warmed39 U.vm ∧ U.heap = h0) (fun _ _ _ _ _ => True) (fun _ U o U' => ∃ v L, o = .returned v ∧ own_QC Z (6 : Int32) [(.int (StrChars.lo8 c0)), (.int (StrChars.hi8 c0)), (.int (StrChars.lo8 c1)), (.int (StrChars.hi8 c1)), (.int (StrChars.lo8 c2)), (.int (StrChars.hi8 c2))] h0 n0 v U'.heap L ∧ FrameEnd U o U' L ({ frames := 2, cells := 1, slots := 6, locals := 24 } : Room).cells ({ frames := 2, cells := 1, slots := 6, locals := 24 } : Room).slots) := by
  refine MetFree.of_bodySF (plainFor_of_name pn_19) hisR ?_
  intro p e s m args below meth c s₁ Bd hml0 hP hK
  obtain ⟨rfl, hZ, hh⟩ := hP
  have hx := Bd.exec
  have hby := Bd.bytes
  have hml : c.maxLocals = 5 := hml0
  have hown : s.vm.findClass "java/lang/StringUTF16" = some m.cls := findClass_of_methodNamed Bd.named
  have hnm := (name_of_methodNamed Bd.named Bd.method).1
  have X0 : Stand p l e ({ frames := 2, cells := 1, slots := 6, locals := 24 } : Room) s m #[(.ref a1), (.int (0 : Int32)), (.int (3 : Int32))] below meth c s₁ [] 0 0 := Stand.of_body Bd
  have e0 : s₁.heap = h0 := by rw [← hh, Bd.state]; rfl
  have N0 := Fr.nil n0
  have pre0 : ∀ t, Steps p.tables e below (s₁.setTop (mkF m 0 (oL29 a1) [])) t → Steps p.tables e below (s₁.setTop (entryFrame m #[(.ref a1), (.int (0 : Int32)), (.int (3 : Int32))] 5)) t := fun t k => castTop (ef_19 m a1 (0 : Int32) (3 : Int32)) k
  obtain ⟨_, _, ⟨T2, L2, k2, n2⟩, -, X2, ⟨Lc2, hQ2, l2, y2, z2⟩, st2⟩ := Jvm.LawKit.callS X0 hx (y := (⟨"java/lang/StringUTF16", "newBytesFor", "(I)[B"⟩ : MethodName)) hown (mvT hZ (hw _ (wI 87 rfl))) (mvT hZ (hw _ (wI 88 rfl))) (mvT hZ (hw _ (wI 69 rfl))) (mvT hZ (hw _ (wI 89 rfl))) (by decide) (backOf (W := 0) (rm20_3 l Z a0 hw [] (3 : Int32)  h0 n0 Z0) hZ (hw _ (wI 89 rfl)) (hw _ (wI 69 rfl)) (by decide) (by decide)) (g := (mkF m 1 (oL29 a1) [(.int (3 : Int32))])) rfl (by rw [hml]; rfl) (argsL := [(.int (3 : Int32))]) (rest := []) (lenOf pd_19_15 rfl) rfl (by show 2 * 0 + _ ≤ _; exact Nat.le_of_eq rfl) (hb hby d19_1) (fun _ _ => ⟨rfl, e0, (by decide : 0 + 1 ≤ _), (by decide : 0 + 6 ≤ _)⟩)
  dsimp only [Pt.U, Pt.locs, Pt.cells, Pt.slots] at X2 l2 y2 z2 st2 hQ2
  subst l2 y2 z2
  obtain ⟨bX, rfl, N2q, g_bX, gz_bX, Kt2, kX, Vx⟩ := hQ2
  have N2 := Fr.app N0 N2q
  have sz_bX : h0.size ≤ bX := gz_bX
  have Kq2 : Keep h0 T2.heap [] := Kt2
  have K2 : Keep h0 T2.heap [] := (Keep.refl h0 []).trans Kq2 all0
  obtain ⟨cl_a1_13, Ar_a1_13, q_a1_13, S_a1_13, N_a1_13, H_a1_13, G_a1_13⟩ := (V_a1.keep Kq2 (fun q => nomatch q))
  have hin_a1_13 : ¬ ((0 : Int32) < 0 ∨ cl_a1_13.slots.size ≤ ((0 : Int32)).toNatClampNeg) := inb_of S_a1_13 ⟨by decide, by decide⟩
  have hat_a1_13 : cl_a1_13.slots[((0 : Int32)).toNatClampNeg]? = some (.int c0) := own_at H_a1_13 S_a1_13 ⟨by decide, by decide⟩ 0 (by decide) rfl
  obtain ⟨_, _, ⟨T3, L3, k3, n3⟩, -, X3, ⟨Lc3, hQ3, l3, y3, z3⟩, st3⟩ := Jvm.LawKit.callS X2 hx (y := (⟨"java/lang/StringUTF16", "putChar", "([BII)V"⟩ : MethodName)) hown (mvT hZ (hw _ (wI 94 rfl))) (mvT hZ (hw _ (wI 95 rfl))) (mvT hZ (hw _ (wI 69 rfl))) (mvT hZ (hw _ (wI 96 rfl))) (by decide) (backOf (W := 0) (rm22 l Z a0 hw [] bX (0 : Int32) c0 0 kX (6 : Int32) [(.int (0 : Int32)), (.int (0 : Int32)), (.int (0 : Int32)), (.int (0 : Int32)), (.int (0 : Int32)), (.int (0 : Int32))] (.int (0 : Int32)) T2.heap n0 (Nat.le_trans Z0 Kq2.1) S__assertionsDisabled (X00.keep K2 all0) S_HI_BYTE_SHIFT S_LO_BYTE_SHIFT Vx ⟨by decide, by decide⟩ (by decide) (Nat.le_of_ble_eq_true rfl) ⟨by decide, by decide⟩ (by decide) (Nat.le_of_ble_eq_true rfl) g_bX) hZ (hw _ (wI 96 rfl)) (hw _ (wI 69 rfl)) (by decide) (by decide)) (g := (mkF m 20 (oL30 a1 bX) [(.int c0), (.int (0 : Int32)), (.ref bX)])) rfl (by rw [hml]; rfl) (argsL := [(.ref bX), (.int (0 : Int32)), (.int c0)]) (rest := []) (lenOf pd_19_16 rfl) rfl (by show 2 * 0 + _ ≤ _; exact Nat.le_of_eq rfl) (hb hby d19_20) (fun _ _ => ⟨rfl, rfl, (by decide : 1 + 0 ≤ _), (by decide : 6 + 0 ≤ _)⟩)
  dsimp only [Pt.U, Pt.locs, Pt.cells, Pt.slots] at X3 l3 y3 z3 st3 hQ3
  subst l3 y3 z3
  obtain ⟨rfl, N3q, Kc3, Vq3⟩ := hQ3
  have N3 := Fr.app N2 N3q
  have Vn3 : Arv Z T3.heap bX kX .byte (6 : Int32) [(.int (StrChars.lo8 c0)), (.int (StrChars.hi8 c0)), (.int (0 : Int32)), (.int (0 : Int32)), (.int (0 : Int32)), (.int (0 : Int32))] (.int (0 : Int32)) := Vq3
  have Kq3 : Keep T2.heap T3.heap [bX] := Kc3
  have K3 : Keep h0 T3.heap [] := K2.trans Kq3 (own_trS (Or.inr sz_bX) all0)
  obtain ⟨cl_a1_25, Ar_a1_25, q_a1_25, S_a1_25, N_a1_25, H_a1_25, G_a1_25⟩ := ((V_a1.keep Kq2 (fun q => nomatch q)).keep Kq3 (fun q => absurd (List.mem_singleton.mp q) (Nat.ne_of_lt (Nat.lt_of_lt_of_le V_a1.lt gz_bX))))
  have hin_a1_25 : ¬ (((0 : Int32) + (1 : Int32)) < 0 ∨ cl_a1_25.slots.size ≤ (((0 : Int32) + (1 : Int32))).toNatClampNeg) := inb_of S_a1_25 ⟨by decide, by decide⟩
  have hat_a1_25 : cl_a1_25.slots[(((0 : Int32) + (1 : Int32))).toNatClampNeg]? = some (.int c1) := own_at H_a1_25 S_a1_25 ⟨by decide, by decide⟩ 1 (by decide) rfl
  obtain ⟨_, _, ⟨T4, L4, k4, n4⟩, -, X4, ⟨Lc4, hQ4, l4, y4, z4⟩, st4⟩ := Jvm.LawKit.callS X3 hx (y := (⟨"java/lang/StringUTF16", "putChar", "([BII)V"⟩ : MethodName)) hown (mvT hZ (hw _ (wI 94 rfl))) (mvT hZ (hw _ (wI 95 rfl))) (mvT hZ (hw _ (wI 69 rfl))) (mvT hZ (hw _ (wI 96 rfl))) (by decide) (backOf (W := 0) (rm22 l Z a0 hw [] bX ((0 : Int32) + (1 : Int32)) c1 2 kX (6 : Int32) [(.int (StrChars.lo8 c0)), (.int (StrChars.hi8 c0)), (.int (0 : Int32)), (.int (0 : Int32)), (.int (0 : Int32)), (.int (0 : Int32))] (.int (0 : Int32)) T3.heap n0 (Nat.le_trans (Nat.le_trans Z0 Kq2.1) Kq3.1) S__assertionsDisabled (X00.keep K3 all0) S_HI_BYTE_SHIFT S_LO_BYTE_SHIFT Vn3 ⟨by decide, by decide⟩ (by decide) (Nat.le_of_ble_eq_true rfl) ⟨by decide, by decide⟩ (by decide) (Nat.le_of_ble_eq_true rfl) g_bX) hZ (hw _ (wI 96 rfl)) (hw _ (wI 69 rfl)) (by decide) (by decide)) (g := (mkF m 20 (oL31 a1 bX) [(.int c1), (.int ((0 : Int32) + (1 : Int32))), (.ref bX)])) rfl (by rw [hml]; rfl) (argsL := [(.ref bX), (.int ((0 : Int32) + (1 : Int32))), (.int c1)]) (rest := []) (lenOf pd_19_16 rfl) rfl (by show 2 * 0 + _ ≤ _; exact Nat.le_of_eq rfl) (hb hby d19_20) (fun _ _ => ⟨rfl, rfl, (by decide : 1 + 0 ≤ _), (by decide : 6 + 0 ≤ _)⟩)
  dsimp only [Pt.U, Pt.locs, Pt.cells, Pt.slots] at X4 l4 y4 z4 st4 hQ4
  subst l4 y4 z4
  obtain ⟨rfl, N4q, Kc4, Vq4⟩ := hQ4
  have N4 := Fr.app N3 N4q
  have Vn4 : Arv Z T4.heap bX kX .byte (6 : Int32) [(.int (StrChars.lo8 c0)), (.int (StrChars.hi8 c0)), (.int (StrChars.lo8 c1)), (.int (StrChars.hi8 c1)), (.int (0 : Int32)), (.int (0 : Int32))] (.int (0 : Int32)) := Vq4
  have Kq4 : Keep T3.heap T4.heap [bX] := Kc4
  have K4 : Keep h0 T4.heap [] := K3.trans Kq4 (own_trS (Or.inr sz_bX) all0)
  obtain ⟨cl_a1_37, Ar_a1_37, q_a1_37, S_a1_37, N_a1_37, H_a1_37, G_a1_37⟩ := (((V_a1.keep Kq2 (fun q => nomatch q)).keep Kq3 (fun q => absurd (List.mem_singleton.mp q) (Nat.ne_of_lt (Nat.lt_of_lt_of_le V_a1.lt gz_bX)))).keep Kq4 (fun q => absurd (List.mem_singleton.mp q) (Nat.ne_of_lt (Nat.lt_of_lt_of_le V_a1.lt gz_bX))))
  have hin_a1_37 : ¬ ((((0 : Int32) + (1 : Int32)) + (1 : Int32)) < 0 ∨ cl_a1_37.slots.size ≤ ((((0 : Int32) + (1 : Int32)) + (1 : Int32))).toNatClampNeg) := inb_of S_a1_37 ⟨by decide, by decide⟩
  have hat_a1_37 : cl_a1_37.slots[((((0 : Int32) + (1 : Int32)) + (1 : Int32))).toNatClampNeg]? = some (.int c2) := own_at H_a1_37 S_a1_37 ⟨by decide, by decide⟩ 2 (by decide) rfl
  obtain ⟨_, _, ⟨T5, L5, k5, n5⟩, -, X5, ⟨Lc5, hQ5, l5, y5, z5⟩, st5⟩ := Jvm.LawKit.callS X4 hx (y := (⟨"java/lang/StringUTF16", "putChar", "([BII)V"⟩ : MethodName)) hown (mvT hZ (hw _ (wI 94 rfl))) (mvT hZ (hw _ (wI 95 rfl))) (mvT hZ (hw _ (wI 69 rfl))) (mvT hZ (hw _ (wI 96 rfl))) (by decide) (backOf (W := 0) (rm22 l Z a0 hw [] bX (((0 : Int32) + (1 : Int32)) + (1 : Int32)) c2 4 kX (6 : Int32) [(.int (StrChars.lo8 c0)), (.int (StrChars.hi8 c0)), (.int (StrChars.lo8 c1)), (.int (StrChars.hi8 c1)), (.int (0 : Int32)), (.int (0 : Int32))] (.int (0 : Int32)) T4.heap n0 (Nat.le_trans (Nat.le_trans (Nat.le_trans Z0 Kq2.1) Kq3.1) Kq4.1) S__assertionsDisabled (X00.keep K4 all0) S_HI_BYTE_SHIFT S_LO_BYTE_SHIFT Vn4 ⟨by decide, by decide⟩ (by decide) (Nat.le_of_ble_eq_true rfl) ⟨by decide, by decide⟩ (by decide) (Nat.le_of_ble_eq_true rfl) g_bX) hZ (hw _ (wI 96 rfl)) (hw _ (wI 69 rfl)) (by decide) (by decide)) (g := (mkF m 20 (oL32 a1 bX) [(.int c2), (.int (((0 : Int32) + (1 : Int32)) + (1 : Int32))), (.ref bX)])) rfl (by rw [hml]; rfl) (argsL := [(.ref bX), (.int (((0 : Int32) + (1 : Int32)) + (1 : Int32))), (.int c2)]) (rest := []) (lenOf pd_19_16 rfl) rfl (by show 2 * 0 + _ ≤ _; exact Nat.le_of_eq rfl) (hb hby d19_20) (fun _ _ => ⟨rfl, rfl, (by decide : 1 + 0 ≤ _), (by decide : 6 + 0 ≤ _)⟩)
  dsimp only [Pt.U, Pt.locs, Pt.cells, Pt.slots] at X5 l5 y5 z5 st5 hQ5
  subst l5 y5 z5
  obtain ⟨rfl, N5q, Kc5, Vq5⟩ := hQ5
  have N5 := Fr.app N4 N5q
  have Vn5 : Arv Z T5.heap bX kX .byte (6 : Int32) [(.int (StrChars.lo8 c0)), (.int (StrChars.hi8 c0)), (.int (StrChars.lo8 c1)), (.int (StrChars.hi8 c1)), (.int (StrChars.lo8 c2)), (.int (StrChars.hi8 c2))] (.int (0 : Int32)) := Vq5
  have Kq5 : Keep T4.heap T5.heap [bX] := Kc5
  have K5 : Keep h0 T5.heap [] := K4.trans Kq5 (own_trS (Or.inr sz_bX) all0)
  have End_0 := Vn5
  obtain ⟨fs, hr, hrun, hended, hW, hsame⟩ := X5.leave (v := some (.ref bX)) (fun h => by rw [Bd.returns] at h; cases h)
  refine ⟨_, _, pre0 _ ?_, hrun, hended, _, _, rfl, ?_, ⟨_, rfl⟩, hW, hsame.mono (by decide) (by decide)⟩
  · show Steps p.tables e below (s₁.setTop (mkF m 0 (oL29 a1) [])) _
    refine XS.iloadN X0.here hx rfl (hb hby d19_0) rfl ?_
    refine st2 _ ?_
    refine XS.astoreN X2.here hx rfl (hb hby d19_4) rfl rfl (l' := #[.val (.ref a1), .val (.int (0 : Int32)), .val (.int (3 : Int32)), .val (.ref bX), .unset]) rfl ?_
    refine XS.iconst X2.here hx rfl (hb hby d19_5) ?_
    refine XS.istore X2.here hx rfl (hb hby d19_6) rfl (l' := (oL30 a1 bX)) rfl ?_
    show Steps p.tables e below (T2.setTop (mkF m 8 (oL30 a1 bX) [])) _
    refine XS.iload X2.here hx rfl (hb hby d19_8) rfl ?_
    refine XS.iloadN X2.here hx rfl (hb hby d19_10) rfl ?_
    refine XS.icmpNo X2.here hx rfl (hb hby d19_11) rfl (tlt (by decide : (0 : Int32) < (3 : Int32))).2.1 ?_
    refine XS.aloadN X2.here hx rfl (hb hby d19_14) rfl rfl ?_
    refine XS.iload X2.here hx rfl (hb hby d19_15) rfl ?_
    show Steps p.tables e below (T2.setTop (mkF m 17 (oL30 a1 bX) [(.int (0 : Int32)), (.ref bX)])) _
    refine XS.aloadN X2.here hx rfl (hb hby d19_17) rfl rfl ?_
    refine XS.iloadN X2.here hx rfl (hb hby d19_18) rfl ?_
    refine X2.caload hx (j := (0 : Int32)) (v := (.int c0)) Ar_a1_13.1 (State.isArrayOf_alike hZ.alike Ar_a1_13.2.1) Ar_a1_13.2.2 hin_a1_13 hat_a1_13 (g := (mkF m 19 (oL30 a1 bX) [(.int (0 : Int32)), (.ref a1), (.int (0 : Int32)), (.ref bX)])) rfl rfl (hb hby d19_19) _ ?_
    refine st3 _ ?_
    refine XS.iinc X3.here hx rfl (hb hby d19_23) rfl (l' := (oL33 a1 bX)) rfl ?_
    show Steps p.tables e below (T3.setTop (mkF m 26 (oL33 a1 bX) [])) _
    refine XS.iinc X3.here hx rfl (hb hby d19_26) rfl (l' := (oL31 a1 bX)) rfl ?_
    refine XS.goto X3.here hx rfl (pc0 := 29) (pc' := 8) rfl (hb hby d19_29) (by decide) (by decide) ?_
    refine XS.iload X3.here hx rfl (hb hby d19_8) rfl ?_
    refine XS.iloadN X3.here hx rfl (hb hby d19_10) rfl ?_
    refine XS.icmpNo X3.here hx rfl (hb hby d19_11) rfl (tlt (by decide : ((0 : Int32) + (1 : Int32)) < (3 : Int32))).2.1 ?_
    show Steps p.tables e below (T3.setTop (mkF m 14 (oL31 a1 bX) [])) _
    refine XS.aloadN X3.here hx rfl (hb hby d19_14) rfl rfl ?_
    refine XS.iload X3.here hx rfl (hb hby d19_15) rfl ?_
    refine XS.aloadN X3.here hx rfl (hb hby d19_17) rfl rfl ?_
    refine XS.iloadN X3.here hx rfl (hb hby d19_18) rfl ?_
    refine X3.caload hx (j := ((0 : Int32) + (1 : Int32))) (v := (.int c1)) Ar_a1_25.1 (State.isArrayOf_alike hZ.alike Ar_a1_25.2.1) Ar_a1_25.2.2 hin_a1_25 hat_a1_25 (g := (mkF m 19 (oL31 a1 bX) [(.int ((0 : Int32) + (1 : Int32))), (.ref a1), (.int ((0 : Int32) + (1 : Int32))), (.ref bX)])) rfl rfl (hb hby d19_19) _ ?_
    show Steps p.tables e below (T3.setTop (mkF m 20 (oL31 a1 bX) [(.int c1), (.int ((0 : Int32) + (1 : Int32))), (.ref bX)])) _
    refine st4 _ ?_
    refine XS.iinc X4.here hx rfl (hb hby d19_23) rfl (l' := #[.val (.ref a1), .val (.int (((0 : Int32) + (1 : Int32)) + (1 : Int32))), .val (.int (3 : Int32)), .val (.ref bX), .val (.int ((0 : Int32) + (1 : Int32)))]) rfl ?_
    refine XS.iinc X4.here hx rfl (hb hby d19_26) rfl (l' := (oL32 a1 bX)) rfl ?_
    refine XS.goto X4.here hx rfl (pc0 := 29) (pc' := 8) rfl (hb hby d19_29) (by decide) (by decide) ?_
    refine XS.iload X4.here hx rfl (hb hby d19_8) rfl ?_
    show Steps p.tables e below (T4.setTop (mkF m 10 (oL32 a1 bX) [(.int (((0 : Int32) + (1 : Int32)) + (1 : Int32)))])) _
    refine XS.iloadN X4.here hx rfl (hb hby d19_10) rfl ?_
    refine XS.icmpNo X4.here hx rfl (hb hby d19_11) rfl (tlt (by decide : (((0 : Int32) + (1 : Int32)) + (1 : Int32)) < (3 : Int32))).2.1 ?_
    refine XS.aloadN X4.here hx rfl (hb hby d19_14) rfl rfl ?_
    refine XS.iload X4.here hx rfl (hb hby d19_15) rfl ?_
    refine XS.aloadN X4.here hx rfl (hb hby d19_17) rfl rfl ?_
    show Steps p.tables e below (T4.setTop (mkF m 18 (oL32 a1 bX) [(.ref a1), (.int (((0 : Int32) + (1 : Int32)) + (1 : Int32))), (.ref bX)])) _
    refine XS.iloadN X4.here hx rfl (hb hby d19_18) rfl ?_
    refine X4.caload hx (j := (((0 : Int32) + (1 : Int32)) + (1 : Int32))) (v := (.int c2)) Ar_a1_37.1 (State.isArrayOf_alike hZ.alike Ar_a1_37.2.1) Ar_a1_37.2.2 hin_a1_37 hat_a1_37 (g := (mkF m 19 (oL32 a1 bX) [(.int (((0 : Int32) + (1 : Int32)) + (1 : Int32))), (.ref a1), (.int (((0 : Int32) + (1 : Int32)) + (1 : Int32))), (.ref bX)])) rfl rfl (hb hby d19_19) _ ?_
    refine st5 _ ?_
    refine XS.iinc X5.here hx rfl (hb hby d19_23) rfl (l' := #[.val (.ref a1), .val (.int ((((0 : Int32) + (1 : Int32)) + (1 : Int32)) + (1 : Int32))), .val (.int (3 : Int32)), .val (.ref bX), .val (.int (((0 : Int32) + (1 : Int32)) + (1 : Int32)))]) rfl ?_
    refine XS.iinc X5.here hx rfl (hb hby d19_26) rfl (l' := (oL34 a1 bX)) rfl ?_
    show Steps p.tables e below (T5.setTop (mkF m 29 (oL34 a1 bX) [])) _
    refine XS.goto X5.here hx rfl (pc0 := 29) (pc' := 8) rfl (hb hby d19_29) (by decide) (by decide) ?_
    refine XS.iload X5.here hx rfl (hb hby d19_8) rfl ?_
    refine XS.iloadN X5.here hx rfl (hb hby d19_10) rfl ?_
    refine XS.icmpYes X5.here hx rfl (pc0 := 11) (pc' := 32) rfl (hb hby d19_11) rfl (flt (by decide : ¬ (((((0 : Int32) + (1 : Int32)) + (1 : Int32)) + (1 : Int32)) < (3 : Int32)))).2.1 (by decide) (by decide) ?_
    refine XS.aloadN X5.here hx rfl (hb hby d19_32) rfl rfl ?_
    show Steps p.tables e below (T5.setTop (mkF m 33 (oL34 a1 bX) [(.ref bX)])) _
    jvm_step X5.here [X5.here.top, hx, (hb hby d19_33), X5.method', Bd.returns, Value.isRef, FieldType.isReference]
    first | (intro acts; rw [hr _ acts rfl rfl rfl]) | rw [hr _ _ rfl rfl rfl]
    exact Steps.refl _
  · show own_QC Z (6 : Int32) [(.int (StrChars.lo8 c0)), (.int (StrChars.hi8 c0)), (.int (StrChars.lo8 c1)), (.int (StrChars.hi8 c1)), (.int (StrChars.lo8 c2)), (.int (StrChars.hi8 c2))] h0 n0 _ T5.heap _
    exact ⟨bX, rfl, N5, g_bX, sz_bX, K5, kX, End_0⟩
def own_b16 : List Int32 → List Value
  | [] => []
  | c :: cs => .int (StrChars.lo8 c) :: .int (StrChars.hi8 c) :: own_b16 cs
/-- how the chars stand in the String's byte[] -/
def own_cod (cs : List Int32) (cd z : Int32) (vs : List Value) : Prop := (cd = 0 ∧ z = Int32.ofNat cs.length ∧ vs = (cs.map StrChars.lo8).map Value.int ∧ ∀ c ∈ cs, ¬ (255 : Int32) < c) ∨ (cd = 1 ∧ z = Int32.ofNat (2 * cs.length) ∧ vs = own_b16 cs)
def own_Q14 (Z : State) (cs : List Int32) (h0 : Heap) (n0 : Nat) (v : Option Value) (h : Heap) (L : List Loc) : Prop := ∃ b : Addr, v = some (.ref b) ∧ Fr n0 L ∧ n0 ≤ b ∧ h0.size ≤ b ∧ Keep h0 h [] ∧ ∃ (k : ClassId) (cd z : Int32) (vs : List Value), Arv Z h b k .byte z vs (.int (0 : Int32)) ∧ own_cod cs cd z vs
theorem d14_0 : decode jdk_52_method_16_code 0 = .ok (.iload_n 2, 1) := by decide +kernel
theorem d14_1 : decode jdk_52_method_16_code 1 = .ok (.newarray .byte, 2) := by decide +kernel
theorem d14_3 : decode jdk_52_method_16_code 3 = .ok (.astore_n 3, 1) := by decide +kernel
theorem d14_4 : decode jdk_52_method_16_code 4 = .ok (.aload_n 0, 1) := by decide +kernel
theorem d14_5 : decode jdk_52_method_16_code 5 = .ok (.iload_n 1, 1) := by decide +kernel
theorem d14_6 : decode jdk_52_method_16_code 6 = .ok (.aload_n 3, 1) := by decide +kernel
theorem d14_7 : decode jdk_52_method_16_code 7 = .ok (.iconst 0, 1) := by decide +kernel
theorem d14_8 : decode jdk_52_method_16_code 8 = .ok (.iload_n 2, 1) := by decide +kernel
theorem d14_9 : decode jdk_52_method_16_code 9 = .ok (.invokestatic 115, 3) := by decide +kernel
theorem d14_12 : decode jdk_52_method_16_code 12 = .ok (.istore 4, 2) := by decide +kernel
theorem d14_14 : decode jdk_52_method_16_code 14 = .ok (.iload 4, 2) := by decide +kernel
theorem d14_16 : decode jdk_52_method_16_code 16 = .ok (.iload_n 2, 1) := by decide +kernel
theorem d14_17 : decode jdk_52_method_16_code 17 = .ok (.if_icmp .eq 40, 3) := by decide +kernel
theorem d14_20 : decode jdk_52_method_16_code 20 = .ok (.aload_n 0, 1) := by decide +kernel
theorem d14_21 : decode jdk_52_method_16_code 21 = .ok (.iload_n 1, 1) := by decide +kernel
theorem d14_22 : decode jdk_52_method_16_code 22 = .ok (.iload_n 2, 1) := by decide +kernel
theorem d14_23 : decode jdk_52_method_16_code 23 = .ok (.invokestatic 119, 3) := by decide +kernel
theorem d14_26 : decode jdk_52_method_16_code 26 = .ok (.astore 5, 2) := by decide +kernel
theorem d14_28 : decode jdk_52_method_16_code 28 = .ok (.aload 5, 2) := by decide +kernel
theorem d14_30 : decode jdk_52_method_16_code 30 = .ok (.iload 4, 2) := by decide +kernel
theorem d14_32 : decode jdk_52_method_16_code 32 = .ok (.invokestatic 71, 3) := by decide +kernel
theorem d14_35 : decode jdk_52_method_16_code 35 = .ok (.sipush 255, 3) := by decide +kernel
theorem d14_38 : decode jdk_52_method_16_code 38 = .ok (.if_icmp .gt 16, 3) := by decide +kernel
theorem d14_54 : decode jdk_52_method_16_code 54 = .ok (.aload 5, 2) := by decide +kernel
theorem d14_56 : decode jdk_52_method_16_code 56 = .ok (.areturn, 1) := by decide +kernel
theorem pn_14 : plainName "java/lang/StringUTF16" = true := by first | (simp [plainName, overriddenIn]; done) | decide +kernel
theorem pd_14_12 : parseMethodDescriptor "([CI[BII)I" = some ⟨[(.array .char), .int, (.array .byte), .int, .int], some .int⟩ := by decide +kernel
theorem pd_14_11 : parseMethodDescriptor "([CII)[B" = some ⟨[(.array .char), .int, .int], some (.array .byte)⟩ := by decide +kernel
theorem pd_14_17 : parseMethodDescriptor "([BI)C" = some ⟨[(.array .byte), .int], some .char⟩ := by decide +kernel
theorem ef_14 (m : MethodId) (x0 : Addr) (x1 : Int32) (x2 : Int32) : entryFrame m #[(.ref x0), (.int x1), (.int x2)] 6 = mkF m 0 #[.val (.ref x0), .val (.int x1), .val (.int x2), .unset, .unset, .unset] [] := by first | (simp [entryFrame, mkF, argsToLocals, Value.category]; done) | rfl
abbrev oL35 (a1 : Addr) : Array Slot := #[.val (.ref a1), .val (.int (0 : Int32)), .val (.int (3 : Int32)), .unset, .unset, .unset]
abbrev oL36 (a1 b2 : Addr) : Array Slot := #[.val (.ref a1), .val (.int (0 : Int32)), .val (.int (3 : Int32)), .val (.ref b2), .unset, .unset]
abbrev oL37 (a1 b2 : Addr) : Array Slot := #[.val (.ref a1), .val (.int (0 : Int32)), .val (.int (3 : Int32)), .val (.ref b2), .val (.int (0 : Int32)), .unset]
abbrev oL38 (a1 b2 bX : Addr) : Array Slot := #[.val (.ref a1), .val (.int (0 : Int32)), .val (.int (3 : Int32)), .val (.ref b2), .val (.int (0 : Int32)), .val (.ref bX)]
set_option maxRecDepth 65536 in
set_option maxHeartbeats 40000000 in
theorem rm14_3_0 (l : Launch) (Z : State) (a0 : Array Value) (hw : ∀ d ∈ tables_1, d.before a0 Z = true) (ws : List Jvm.Cond) (a1 : Addr) (_q2 : Int32) (_q3 : Int32) (c0 : Int32) (c1 : Int32) (c2 : Int32) (k_a1 : ClassId) (h0 : Heap) (n0 : Nat) (Z0 : n0 ≤ h0.size) (S__assertionsDisabled : Sta Z Z.heap "java/lang/StringUTF16" "$assertionsDisabled" "Z" (.int (1 : Int32))) (X00 : Old Z n0 h0) (S_HI_BYTE_SHIFT : Sta Z Z.heap "java/lang/StringUTF16" "HI_BYTE_SHIFT" "I" (.int (0 : Int32))) (S_LO_BYTE_SHIFT : Sta Z Z.heap "java/lang/StringUTF16" "LO_BYTE_SHIFT" "I" (.int (8 : Int32))) (V_a1 : Arv Z h0 a1 k_a1 .char (3 : Int32) [(.int c0), (.int c1), (.int c2)] (.int (0 : Int32))) (u0 : (255 : Int32) < c0) (hci : ¬ c0 < 0 ∧ ¬ (65535 : Int32) < c0) (hc38 : (255 : Int32) < c0) :
    MetFree l (⟨"java/lang/StringUTF16", "compress", "([CII)[B"⟩ : MethodName) (head1 (Jvm.Cond.code (⟨"java/lang/StringUTF16", "compress", "([CII)[B"⟩ : MethodName) jdk_52_method_16_code 6 (some (.array .byte)) :: ws) ({ frames := 3, cells := 2, slots := 9, locals := 40 } : Room)) (fun a U => a = #[(.ref a1), (.int (0 : Int32)), (.int (3 : Int32))] ∧ Z.Warmed39 U.vm ∧ U.heap = h0) (fun _ _ _ _ _ => True) (fun _ U o U' => ∃ v L, o = .returned v ∧ own_Q14 Z [c0, c1, c2] h0 n0 v U'.heap L ∧ FrameEnd U o U' L ({ frames := 3, cells := 2, slots := 9, locals := 40 } : Room).cells ({ frames := 3, cells := 2, slots := 9, locals := 40 } : Room).slots) := by
  refine MetFree.of_bodySF (plainFor_of_name pn_14) hisR ?_
  intro p e s m args below meth c s₁ Bd hml0 hP hK
  obtain ⟨rfl, hZ, hh⟩ := hP
  have hx := Bd.exec
  have hby := Bd.bytes
  have hml : c.maxLocals = 6 := hml0
  have hown : s.vm.findClass "java/lang/StringUTF16" = some m.cls := findClass_of_methodNamed Bd.named
  have hnm := (name_of_methodNamed Bd.named Bd.method).1
  have X0 : Stand p l e ({ frames := 3, cells := 2, slots := 9, locals := 40 } : Room) s m #[(.ref a1), (.int (0 : Int32)), (.int (3 : Int32))] below meth c s₁ [] 0 0 := Stand.of_body Bd
  have e0 : s₁.heap = h0 := by rw [← hh, Bd.state]; rfl
  have N0 := Fr.nil n0
  have pre0 : ∀ t, Steps p.tables e below (s₁.setTop (mkF m 0 (oL35 a1) [])) t → Steps p.tables e below (s₁.setTop (entryFrame m #[(.ref a1), (.int (0 : Int32)), (.int (3 : Int32))] 6)) t := fun t k => castTop (ef_14 m a1 (0 : Int32) (3 : Int32)) k
  obtain ⟨T2, h2, k2, X2, e2, E2, A2, st2⟩ := newP X0 hx hZ (hw _ (wI 16 rfl)) e0 (g := (mkF m 1 (oL35 a1) [(.int (3 : Int32))])) rfl (hb hby d14_1) rfl (by decide) (cap := 3) (by decide) (by decide) (by decide) (by decide)
  obtain ⟨b2, g2⟩ : ∃ z, z = h0.size := ⟨_, rfl⟩
  rw [← g2] at A2 st2
  have V_b2 : Arv Z h2 b2 k2 .byte (3 : Int32) [(.int (0 : Int32)), (.int (0 : Int32)), (.int (0 : Int32))] (.int (0 : Int32)) := (Arv.new A2 (by decide)).pad (pad_rep [] (.int (0 : Int32)) 3)
  have g_b2 : n0 ≤ b2 := Nat.le_trans Z0 (Nat.le_of_eq g2.symm)
  have sz_b2 : h0.size ≤ b2 := (Nat.le_trans (Keep.refl h0 []).1 (Nat.le_of_eq g2.symm))
  have K2 : Keep h0 h2 [] := (Keep.refl h0 []).ext E2
  obtain ⟨_, _, ⟨T3, L3, k3, n3⟩, -, X3, ⟨Lc3, hQ3, l3, y3, z3⟩, st3⟩ := Jvm.LawKit.callS X2 hx (y := (⟨"java/lang/StringUTF16", "compress", "([CI[BII)I"⟩ : MethodName)) hown (mvT hZ (hw _ (wI 71 rfl))) (mvT hZ (hw _ (wI 72 rfl))) (mvT hZ (hw _ (wI 69 rfl))) (mvT hZ (hw _ (wI 73 rfl))) (by decide) (backOf (W := 0) (rm15_3_0 l Z a0 hw [] a1 (0 : Int32) b2 (0 : Int32) (3 : Int32) c0 c1 c2 k_a1 k2 h2 n0 (Nat.le_trans Z0 E2.1) (V_a1.ext E2) V_b2 (Nat.ne_of_lt (Nat.lt_of_lt_of_le V_a1.lt sz_b2)) g_b2 u0) hZ (hw _ (wI 73 rfl)) (hw _ (wI 69 rfl)) (by decide) (by decide)) (g := (mkF m 9 (oL36 a1 b2) [(.int (3 : Int32)), (.int (0 : Int32)), (.ref b2), (.int (0 : Int32)), (.ref a1)])) rfl (by rw [hml]; rfl) (argsL := [(.ref a1), (.int (0 : Int32)), (.ref b2), (.int (0 : Int32)), (.int (3 : Int32))]) (rest := []) (lenOf pd_14_12 rfl) rfl (by show 2 * 0 + _ ≤ _; exact Nat.le_of_eq rfl) (hb hby d14_9) (fun _ _ => ⟨rfl, e2, (by decide : 1 + 0 ≤ _), (by decide : 3 + 0 ≤ _)⟩)
  dsimp only [Pt.U, Pt.locs, Pt.cells, Pt.slots] at X3 l3 y3 z3 st3 hQ3
  subst l3 y3 z3
  obtain ⟨rfl, N3q, Kc3⟩ := hQ3
  have N3 := Fr.app N0 N3q
  have Kq3 : Keep h2 T3.heap [b2] := Kc3
  have K3 : Keep h0 T3.heap [] := K2.trans Kq3 (own_trS (Or.inr sz_b2) all0)
  obtain ⟨_, _, ⟨T4, L4, k4, n4⟩, -, X4, ⟨Lc4, hQ4, l4, y4, z4⟩, st4⟩ := Jvm.LawKit.callS X3 hx (y := (⟨"java/lang/StringUTF16", "toBytes", "([CII)[B"⟩ : MethodName)) hown (mvT hZ (hw _ (wI 84 rfl))) (mvT hZ (hw _ (wI 85 rfl))) (mvT hZ (hw _ (wI 69 rfl))) (mvT hZ (hw _ (wI 86 rfl))) (by decide) (backOf (W := 0) (rm19_3 l Z a0 hw [] a1 (0 : Int32) (3 : Int32) c0 c1 c2 k_a1 T3.heap n0 (Nat.le_trans (Nat.le_trans Z0 E2.1) Kq3.1) S__assertionsDisabled (X00.keep K3 all0) S_HI_BYTE_SHIFT S_LO_BYTE_SHIFT ((V_a1.ext E2).keep Kq3 (fun q => absurd (List.mem_singleton.mp q) (Nat.ne_of_lt (Nat.lt_of_lt_of_le V_a1.lt (Nat.le_of_eq g2.symm)))))) hZ (hw _ (wI 86 rfl)) (hw _ (wI 69 rfl)) (by decide) (by decide)) (g := (mkF m 23 (oL37 a1 b2) [(.int (3 : Int32)), (.int (0 : Int32)), (.ref a1)])) rfl (by rw [hml]; rfl) (argsL := [(.ref a1), (.int (0 : Int32)), (.int (3 : Int32))]) (rest := []) (lenOf pd_14_11 rfl) rfl (by show 2 * 0 + _ ≤ _; exact Nat.le_of_eq rfl) (hb hby d14_23) (fun _ _ => ⟨rfl, rfl, (by decide : 1 + 1 ≤ _), (by decide : 3 + 6 ≤ _)⟩)
  dsimp only [Pt.U, Pt.locs, Pt.cells, Pt.slots] at X4 l4 y4 z4 st4 hQ4
  subst l4 y4 z4
  obtain ⟨bX, rfl, N4q, g_bX, gz_bX, Kt4, kX, Vx⟩ := hQ4
  have N4 := Fr.app N3 N4q
  have sz_bX : h0.size ≤ bX := Nat.le_trans K3.1 gz_bX
  have Kq4 : Keep T3.heap T4.heap [] := Kt4
  have K4 : Keep h0 T4.heap [] := K3.trans Kq4 all0
  obtain ⟨_, _, ⟨T5, L5, k5, n5⟩, -, X5, ⟨Lc5, hQ5, l5, y5, z5⟩, st5⟩ := Jvm.LawKit.callS X4 hx (y := (⟨"java/lang/StringUTF16", "getChar", "([BI)C"⟩ : MethodName)) hown (mvT hZ (hw _ (wI 100 rfl))) (mvT hZ (hw _ (wI 101 rfl))) (mvT hZ (hw _ (wI 69 rfl))) (mvT hZ (hw _ (wI 102 rfl))) (by decide) (backOf (W := 0) (rm23 l Z a0 hw [] bX (0 : Int32) 0 (StrChars.lo8 c0) (StrChars.hi8 c0) c0 kX (6 : Int32) [(.int (StrChars.lo8 c0)), (.int (StrChars.hi8 c0)), (.int (StrChars.lo8 c1)), (.int (StrChars.hi8 c1)), (.int (StrChars.lo8 c2)), (.int (StrChars.hi8 c2))] (.int (0 : Int32)) T4.heap n0 (Nat.le_trans (Nat.le_trans (Nat.le_trans Z0 E2.1) Kq3.1) Kq4.1) S__assertionsDisabled (X00.keep K4 all0) S_HI_BYTE_SHIFT S_LO_BYTE_SHIFT Vx ⟨by decide, by decide⟩ (by decide) rfl ⟨by decide, by decide⟩ (by decide) rfl (own_pair hci)) hZ (hw _ (wI 102 rfl)) (hw _ (wI 69 rfl)) (by decide) (by decide)) (g := (mkF m 32 (oL38 a1 b2 bX) [(.int (0 : Int32)), (.ref bX)])) rfl (by rw [hml]; rfl) (argsL := [(.ref bX), (.int (0 : Int32))]) (rest := []) (lenOf pd_14_17 rfl) rfl (by show 2 * 0 + _ ≤ _; exact Nat.le_of_eq rfl) (hb hby d14_32) (fun _ _ => ⟨rfl, rfl, (by decide : 2 + 0 ≤ _), (by decide : 9 + 0 ≤ _)⟩)
  dsimp only [Pt.U, Pt.locs, Pt.cells, Pt.slots] at X5 l5 y5 z5 st5 hQ5
  subst l5 y5 z5
  obtain ⟨rfl, N5q, eq5⟩ := hQ5
  have N5 := Fr.app N4 N5q
  have Kq5 : Keep T4.heap T5.heap [] := (own_keq eq5)
  have K5 : Keep h0 T5.heap [] := K4.trans Kq5 all0
  have End_0 := (Vx.keep Kq5 (fun q => nomatch q))
  obtain ⟨fs, hr, hrun, hended, hW, hsame⟩ := X5.leave (v := some (.ref bX)) (fun h => by rw [Bd.returns] at h; cases h)
  refine ⟨_, _, pre0 _ ?_, hrun, hended, _, _, rfl, ?_, ⟨_, rfl⟩, hW, hsame.mono (by decide) (by decide)⟩
  · show Steps p.tables e below (s₁.setTop (mkF m 0 (oL35 a1) [])) _
    refine XS.iloadN X0.here hx rfl (hb hby d14_0) rfl ?_
    refine st2 _ ?_
    refine XS.astoreN X2.here hx rfl (hb hby d14_3) rfl rfl (l' := (oL36 a1 b2)) rfl ?_
    refine XS.aloadN X2.here hx rfl (hb hby d14_4) rfl rfl ?_
    refine XS.iloadN X2.here hx rfl (hb hby d14_5) rfl ?_
    show Steps p.tables e below (T2.setTop (mkF m 6 (oL36 a1 b2) [(.int (0 : Int32)), (.ref a1)])) _
    refine XS.aloadN X2.here hx rfl (hb hby d14_6) rfl rfl ?_
    refine XS.iconst X2.here hx rfl (hb hby d14_7) ?_
    refine XS.iloadN X2.here hx rfl (hb hby d14_8) rfl ?_
    refine st3 _ ?_
    refine XS.istore X3.here hx rfl (hb hby d14_12) rfl (l' := (oL37 a1 b2)) rfl ?_
    show Steps p.tables e below (T3.setTop (mkF m 14 (oL37 a1 b2) [])) _
    refine XS.iload X3.here hx rfl (hb hby d14_14) rfl ?_
    refine XS.iloadN X3.here hx rfl (hb hby d14_16) rfl ?_
    refine XS.icmpNo X3.here hx rfl (hb hby d14_17) rfl (feq (by decide : ¬ ((0 : Int32) = (3 : Int32)))).1 ?_
    refine XS.aloadN X3.here hx rfl (hb hby d14_20) rfl rfl ?_
    refine XS.iloadN X3.here hx rfl (hb hby d14_21) rfl ?_
    show Steps p.tables e below (T3.setTop (mkF m 22 (oL37 a1 b2) [(.int (0 : Int32)), (.ref a1)])) _
    refine XS.iloadN X3.here hx rfl (hb hby d14_22) rfl ?_
    refine st4 _ ?_
    refine XS.astore X4.here hx rfl (hb hby d14_26) rfl rfl (l' := (oL38 a1 b2 bX)) rfl ?_
    refine XS.aload X4.here hx rfl (hb hby d14_28) rfl rfl ?_
    refine XS.iload X4.here hx rfl (hb hby d14_30) rfl ?_
    show Steps p.tables e below (T4.setTop (mkF m 32 (oL38 a1 b2 bX) [(.int (0 : Int32)), (.ref bX)])) _
    refine st5 _ ?_
    refine XS.sipush X5.here hx rfl (hb hby d14_35) ?_
    refine XS.icmpYes X5.here hx rfl (pc0 := 38) (pc' := 54) rfl (hb hby d14_38) rfl (tlt hc38).2.2.1 (by decide) (by decide) ?_
    refine XS.aload X5.here hx rfl (hb hby d14_54) rfl rfl ?_
    jvm_step X5.here [X5.here.top, hx, (hb hby d14_56), X5.method', Bd.returns, Value.isRef, FieldType.isReference]
    first | (intro acts; rw [hr _ acts rfl rfl rfl]) | rw [hr _ _ rfl rfl rfl]
    exact Steps.refl _
  · show own_Q14 Z [c0, c1, c2] h0 n0 _ T5.heap _
    exact ⟨bX, rfl, N5, g_bX, sz_bX, K5, kX, 1, _, _, End_0, Or.inr ⟨rfl, rfl, rfl⟩⟩
abbrev oL39 (a1 b2 : Addr) : Array Slot := #[.val (.ref a1), .val (.int (0 : Int32)), .val (.int (3 : Int32)), .val (.ref b2), .val (.int (1 : Int32)), .unset]
abbrev oL40 (a1 b2 bX : Addr) : Array Slot := #[.val (.ref a1), .val (.int (0 : Int32)), .val (.int (3 : Int32)), .val (.ref b2), .val (.int (1 : Int32)), .val (.ref bX)]
set_option maxRecDepth 65536 in
set_option maxHeartbeats 40000000 in
theorem rm14_3_1 (l : Launch) (Z : State) (a0 : Array Value) (hw : ∀ d ∈ tables_1, d.before a0 Z = true) (ws : List Jvm.Cond) (a1 : Addr) (_q2 : Int32) (_q3 : Int32) (c0 : Int32) (c1 : Int32) (c2 : Int32) (k_a1 : ClassId) (h0 : Heap) (n0 : Nat) (Z0 : n0 ≤ h0.size) (S__assertionsDisabled : Sta Z Z.heap "java/lang/StringUTF16" "$assertionsDisabled" "Z" (.int (1 : Int32))) (X00 : Old Z n0 h0) (S_HI_BYTE_SHIFT : Sta Z Z.heap "java/lang/StringUTF16" "HI_BYTE_SHIFT" "I" (.int (0 : Int32))) (S_LO_BYTE_SHIFT : Sta Z Z.heap "java/lang/StringUTF16" "LO_BYTE_SHIFT" "I" (.int (8 : Int32))) (V_a1 : Arv Z h0 a1 k_a1 .char (3 : Int32) [(.int c0), (.int c1), (.int c2)] (.int (0 : Int32))) (u0 : ¬ ((255 : Int32) < c0)) (u1 : (255 : Int32) < c1) (hci : ¬ c1 < 0 ∧ ¬ (65535 : Int32) < c1) (hc38 : (255 : Int32) < c1) :
    MetFree l (⟨"java/lang/StringUTF16", "compress", "([CII)[B"⟩ : MethodName) (head1 (Jvm.Cond.code (⟨"java/lang/StringUTF16", "compress", "([CII)[B"⟩ : MethodName) jdk_52_method_16_code 6 (some (.array .byte)) :: ws) ({ frames := 3, cells := 2, slots := 9, locals := 40 } : Room)) (fun a U => a = #[(.ref a1), (.int (0 : Int32)), (.int (3 : Int32))] ∧ Z.Warmed39 U.vm ∧ U.heap = h0) (fun _ _ _ _ _ => True) (fun _ U o U' => ∃ v L, o = .returned v ∧ own_Q14 Z [c0, c1, c2] h0 n0 v U'.heap L ∧ FrameEnd U o U' L ({ frames := 3, cells := 2, slots := 9, locals := 40 } : Room).cells ({ frames := 3, cells := 2, slots := 9, locals := 40 } : Room).slots) := by
  refine MetFree.of_bodySF (plainFor_of_name pn_14) hisR ?_
  intro p e s m args below meth c s₁ Bd hml0 hP hK
  obtain ⟨rfl, hZ, hh⟩ := hP
  have hx := Bd.exec
  have hby := Bd.bytes
  have hml : c.maxLocals = 6 := hml0
  have hown : s.vm.findClass "java/lang/StringUTF16" = some m.cls := findClass_of_methodNamed Bd.named
  have hnm := (name_of_methodNamed Bd.named Bd.method).1
  have X0 : Stand p l e ({ frames := 3, cells := 2, slots := 9, locals := 40 } : Room) s m #[(.ref a1), (.int (0 : Int32)), (.int (3 : Int32))] below meth c s₁ [] 0 0 := Stand.of_body Bd
  have e0 : s₁.heap = h0 := by rw [← hh, Bd.state]; rfl
  have N0 := Fr.nil n0
  have pre0 : ∀ t, Steps p.tables e below (s₁.setTop (mkF m 0 (oL35 a1) [])) t → Steps p.tables e below (s₁.setTop (entryFrame m #[(.ref a1), (.int (0 : Int32)), (.int (3 : Int32))] 6)) t := fun t k => castTop (ef_14 m a1 (0 : Int32) (3 : Int32)) k
  obtain ⟨T2, h2, k2, X2, e2, E2, A2, st2⟩ := newP X0 hx hZ (hw _ (wI 16 rfl)) e0 (g := (mkF m 1 (oL35 a1) [(.int (3 : Int32))])) rfl (hb hby d14_1) rfl (by decide) (cap := 3) (by decide) (by decide) (by decide) (by decide)
  obtain ⟨b2, g2⟩ : ∃ z, z = h0.size := ⟨_, rfl⟩
  rw [← g2] at A2 st2
  have V_b2 : Arv Z h2 b2 k2 .byte (3 : Int32) [(.int (0 : Int32)), (.int (0 : Int32)), (.int (0 : Int32))] (.int (0 : Int32)) := (Arv.new A2 (by decide)).pad (pad_rep [] (.int (0 : Int32)) 3)
  have g_b2 : n0 ≤ b2 := Nat.le_trans Z0 (Nat.le_of_eq g2.symm)
  have sz_b2 : h0.size ≤ b2 := (Nat.le_trans (Keep.refl h0 []).1 (Nat.le_of_eq g2.symm))
  have K2 : Keep h0 h2 [] := (Keep.refl h0 []).ext E2
  obtain ⟨_, _, ⟨T3, L3, k3, n3⟩, -, X3, ⟨Lc3, hQ3, l3, y3, z3⟩, st3⟩ := Jvm.LawKit.callS X2 hx (y := (⟨"java/lang/StringUTF16", "compress", "([CI[BII)I"⟩ : MethodName)) hown (mvT hZ (hw _ (wI 71 rfl))) (mvT hZ (hw _ (wI 72 rfl))) (mvT hZ (hw _ (wI 69 rfl))) (mvT hZ (hw _ (wI 73 rfl))) (by decide) (backOf (W := 0) (rm15_3_1 l Z a0 hw [] a1 (0 : Int32) b2 (0 : Int32) (3 : Int32) c0 c1 c2 k_a1 k2 h2 n0 (Nat.le_trans Z0 E2.1) (V_a1.ext E2) V_b2 (Nat.ne_of_lt (Nat.lt_of_lt_of_le V_a1.lt sz_b2)) g_b2 u0 u1) hZ (hw _ (wI 73 rfl)) (hw _ (wI 69 rfl)) (by decide) (by decide)) (g := (mkF m 9 (oL36 a1 b2) [(.int (3 : Int32)), (.int (0 : Int32)), (.ref b2), (.int (0 : Int32)), (.ref a1)])) rfl (by rw [hml]; rfl) (argsL := [(.ref a1), (.int (0 : Int32)), (.ref b2), (.int (0 : Int32)), (.int (3 : Int32))]) (rest := []) (lenOf pd_14_12 rfl) rfl (by show 2 * 0 + _ ≤ _; exact Nat.le_of_eq rfl) (hb hby d14_9) (fun _ _ => ⟨rfl, e2, (by decide : 1 + 0 ≤ _), (by decide : 3 + 0 ≤ _)⟩)
  dsimp only [Pt.U, Pt.locs, Pt.cells, Pt.slots] at X3 l3 y3 z3 st3 hQ3
  subst l3 y3 z3
  obtain ⟨rfl, N3q, Kc3⟩ := hQ3
  have N3 := Fr.app N0 N3q
  have Kq3 : Keep h2 T3.heap [b2] := Kc3
  have K3 : Keep h0 T3.heap [] := K2.trans Kq3 (own_trS (Or.inr sz_b2) all0)
  obtain ⟨_, _, ⟨T4, L4, k4, n4⟩, -, X4, ⟨Lc4, hQ4, l4, y4, z4⟩, st4⟩ := Jvm.LawKit.callS X3 hx (y := (⟨"java/lang/StringUTF16", "toBytes", "([CII)[B"⟩ : MethodName)) hown (mvT hZ (hw _ (wI 84 rfl))) (mvT hZ (hw _ (wI 85 rfl))) (mvT hZ (hw _ (wI 69 rfl))) (mvT hZ (hw _ (wI 86 rfl))) (by decide) (backOf (W := 0) (rm19_3 l Z a0 hw [] a1 (0 : Int32) (3 : Int32) c0 c1 c2 k_a1 T3.heap n0 (Nat.le_trans (Nat.le_trans Z0 E2.1) Kq3.1) S__assertionsDisabled (X00.keep K3 all0) S_HI_BYTE_SHIFT S_LO_BYTE_SHIFT ((V_a1.ext E2).keep Kq3 (fun q => absurd (List.mem_singleton.mp q) (Nat.ne_of_lt (Nat.lt_of_lt_of_le V_a1.lt (Nat.le_of_eq g2.symm)))))) hZ (hw _ (wI 86 rfl)) (hw _ (wI 69 rfl)) (by decide) (by decide)) (g := (mkF m 23 (oL39 a1 b2) [(.int (3 : Int32)), (.int (0 : Int32)), (.ref a1)])) rfl (by rw [hml]; rfl) (argsL := [(.ref a1), (.int (0 : Int32)), (.int (3 : Int32))]) (rest := []) (lenOf pd_14_11 rfl) rfl (by show 2 * 0 + _ ≤ _; exact Nat.le_of_eq rfl) (hb hby d14_23) (fun _ _ => ⟨rfl, rfl, (by decide : 1 + 1 ≤ _), (by decide : 3 + 6 ≤ _)⟩)
  dsimp only [Pt.U, Pt.locs, Pt.cells, Pt.slots] at X4 l4 y4 z4 st4 hQ4
  subst l4 y4 z4
  obtain ⟨bX, rfl, N4q, g_bX, gz_bX, Kt4, kX, Vx⟩ := hQ4
  have N4 := Fr.app N3 N4q
  have sz_bX : h0.size ≤ bX := Nat.le_trans K3.1 gz_bX
  have Kq4 : Keep T3.heap T4.heap [] := Kt4
  have K4 : Keep h0 T4.heap [] := K3.trans Kq4 all0
  obtain ⟨_, _, ⟨T5, L5, k5, n5⟩, -, X5, ⟨Lc5, hQ5, l5, y5, z5⟩, st5⟩ := Jvm.LawKit.callS X4 hx (y := (⟨"java/lang/StringUTF16", "getChar", "([BI)C"⟩ : MethodName)) hown (mvT hZ (hw _ (wI 100 rfl))) (mvT hZ (hw _ (wI 101 rfl))) (mvT hZ (hw _ (wI 69 rfl))) (mvT hZ (hw _ (wI 102 rfl))) (by decide) (backOf (W := 0) (rm23 l Z a0 hw [] bX (1 : Int32) 2 (StrChars.lo8 c1) (StrChars.hi8 c1) c1 kX (6 : Int32) [(.int (StrChars.lo8 c0)), (.int (StrChars.hi8 c0)), (.int (StrChars.lo8 c1)), (.int (StrChars.hi8 c1)), (.int (StrChars.lo8 c2)), (.int (StrChars.hi8 c2))] (.int (0 : Int32)) T4.heap n0 (Nat.le_trans (Nat.le_trans (Nat.le_trans Z0 E2.1) Kq3.1) Kq4.1) S__assertionsDisabled (X00.keep K4 all0) S_HI_BYTE_SHIFT S_LO_BYTE_SHIFT Vx ⟨by decide, by decide⟩ (by decide) rfl ⟨by decide, by decide⟩ (by decide) rfl (own_pair hci)) hZ (hw _ (wI 102 rfl)) (hw _ (wI 69 rfl)) (by decide) (by decide)) (g := (mkF m 32 (oL40 a1 b2 bX) [(.int (1 : Int32)), (.ref bX)])) rfl (by rw [hml]; rfl) (argsL := [(.ref bX), (.int (1 : Int32))]) (rest := []) (lenOf pd_14_17 rfl) rfl (by show 2 * 0 + _ ≤ _; exact Nat.le_of_eq rfl) (hb hby d14_32) (fun _ _ => ⟨rfl, rfl, (by decide : 2 + 0 ≤ _), (by decide : 9 + 0 ≤ _)⟩)
  dsimp only [Pt.U, Pt.locs, Pt.cells, Pt.slots] at X5 l5 y5 z5 st5 hQ5
  subst l5 y5 z5
  obtain ⟨rfl, N5q, eq5⟩ := hQ5
  have N5 := Fr.app N4 N5q
  have Kq5 : Keep T4.heap T5.heap [] := (own_keq eq5)
  have K5 : Keep h0 T5.heap [] := K4.trans Kq5 all0
  have End_0 := (Vx.keep Kq5 (fun q => nomatch q))
  obtain ⟨fs, hr, hrun, hended, hW, hsame⟩ := X5.leave (v := some (.ref bX)) (fun h => by rw [Bd.returns] at h; cases h)
  refine ⟨_, _, pre0 _ ?_, hrun, hended, _, _, rfl, ?_, ⟨_, rfl⟩, hW, hsame.mono (by decide) (by decide)⟩
  · show Steps p.tables e below (s₁.setTop (mkF m 0 (oL35 a1) [])) _
    refine XS.iloadN X0.here hx rfl (hb hby d14_0) rfl ?_
    refine st2 _ ?_
    refine XS.astoreN X2.here hx rfl (hb hby d14_3) rfl rfl (l' := (oL36 a1 b2)) rfl ?_
    refine XS.aloadN X2.here hx rfl (hb hby d14_4) rfl rfl ?_
    refine XS.iloadN X2.here hx rfl (hb hby d14_5) rfl ?_
    show Steps p.tables e below (T2.setTop (mkF m 6 (oL36 a1 b2) [(.int (0 : Int32)), (.ref a1)])) _
    refine XS.aloadN X2.here hx rfl (hb hby d14_6) rfl rfl ?_
    refine XS.iconst X2.here hx rfl (hb hby d14_7) ?_
    refine XS.iloadN X2.here hx rfl (hb hby d14_8) rfl ?_
    refine st3 _ ?_
    refine XS.istore X3.here hx rfl (hb hby d14_12) rfl (l' := (oL39 a1 b2)) rfl ?_
    show Steps p.tables e below (T3.setTop (mkF m 14 (oL39 a1 b2) [])) _
    refine XS.iload X3.here hx rfl (hb hby d14_14) rfl ?_
    refine XS.iloadN X3.here hx rfl (hb hby d14_16) rfl ?_
    refine XS.icmpNo X3.here hx rfl (hb hby d14_17) rfl (feq (by decide : ¬ ((1 : Int32) = (3 : Int32)))).1 ?_
    refine XS.aloadN X3.here hx rfl (hb hby d14_20) rfl rfl ?_
    refine XS.iloadN X3.here hx rfl (hb hby d14_21) rfl ?_
    show Steps p.tables e below (T3.setTop (mkF m 22 (oL39 a1 b2) [(.int (0 : Int32)), (.ref a1)])) _
    refine XS.iloadN X3.here hx rfl (hb hby d14_22) rfl ?_
    refine st4 _ ?_
    refine XS.astore X4.here hx rfl (hb hby d14_26) rfl rfl (l' := (oL40 a1 b2 bX)) rfl ?_
    refine XS.aload X4.here hx rfl (hb hby d14_28) rfl rfl ?_
    refine XS.iload X4.here hx rfl (hb hby d14_30) rfl ?_
    show Steps p.tables e below (T4.setTop (mkF m 32 (oL40 a1 b2 bX) [(.int (1 : Int32)), (.ref bX)])) _
    refine st5 _ ?_
    refine XS.sipush X5.here hx rfl (hb hby d14_35) ?_
    refine XS.icmpYes X5.here hx rfl (pc0 := 38) (pc' := 54) rfl (hb hby d14_38) rfl (tlt hc38).2.2.1 (by decide) (by decide) ?_
    refine XS.aload X5.here hx rfl (hb hby d14_54) rfl rfl ?_
    jvm_step X5.here [X5.here.top, hx, (hb hby d14_56), X5.method', Bd.returns, Value.isRef, FieldType.isReference]
    first | (intro acts; rw [hr _ acts rfl rfl rfl]) | rw [hr _ _ rfl rfl rfl]
    exact Steps.refl _
  · show own_Q14 Z [c0, c1, c2] h0 n0 _ T5.heap _
    exact ⟨bX, rfl, N5, g_bX, sz_bX, K5, kX, 1, _, _, End_0, Or.inr ⟨rfl, rfl, rfl⟩⟩
abbrev oL41 (a1 b2 : Addr) : Array Slot := #[.val (.ref a1), .val (.int (0 : Int32)), .val (.int (3 : Int32)), .val (.ref b2), .val (.int (2 : Int32)), .unset]
abbrev oL42 (a1 b2 bX : Addr) : Array Slot := #[.val (.ref a1), .val (.int (0 : Int32)), .val (.int (3 : Int32)), .val (.ref b2), .val (.int (2 : Int32)), .val (.ref bX)]
set_option maxRecDepth 65536 in
set_option maxHeartbeats 40000000 in
theorem rm14_3_2 (l : Launch) (Z : State) (a0 : Array Value) (hw : ∀ d ∈ tables_1, d.before a0 Z = true) (ws : List Jvm.Cond) (a1 : Addr) (_q2 : Int32) (_q3 : Int32) (c0 : Int32) (c1 : Int32) (c2 : Int32) (k_a1 : ClassId) (h0 : Heap) (n0 : Nat) (Z0 : n0 ≤ h0.size) (S__assertionsDisabled : Sta Z Z.heap "java/lang/StringUTF16" "$assertionsDisabled" "Z" (.int (1 : Int32))) (X00 : Old Z n0 h0) (S_HI_BYTE_SHIFT : Sta Z Z.heap "java/lang/StringUTF16" "HI_BYTE_SHIFT" "I" (.int (0 : Int32))) (S_LO_BYTE_SHIFT : Sta Z Z.heap "java/lang/StringUTF16" "LO_BYTE_SHIFT" "I" (.int (8 : Int32))) (V_a1 : Arv Z h0 a1 k_a1 .char (3 : Int32) [(.int c0), (.int c1), (.int c2)] (.int (0 : Int32))) (u0 : ¬ ((255 : Int32) < c0)) (u1 : ¬ ((255 : Int32) < c1)) (u2 : (255 : Int32) < c2) (hci : ¬ c2 < 0 ∧ ¬ (65535 : Int32) < c2) (hc38 : (255 : Int32) < c2) :
    MetFree l (⟨"java/lang/StringUTF16", "compress", "([CII)[B"⟩ : MethodName) (head1 (Jvm.Cond.code (⟨"java/lang/StringUTF16", "compress", "([CII)[B"⟩ : MethodName) jdk_52_method_16_code 6 (some (.array .byte)) :: ws) ({ frames := 3, cells := 2, slots := 9, locals := 40 } : Room)) (fun a U => a = #[(.ref a1), (.int (0 : Int32)), (.int (3 : Int32))] ∧ Z.Warmed39 U.vm ∧ U.heap = h0) (fun _ _ _ _ _ => True) (fun _ U o U' => ∃ v L, o = .returned v ∧ own_Q14 Z [c0, c1, c2] h0 n0 v U'.heap L ∧ FrameEnd U o U' L ({ frames := 3, cells := 2, slots := 9, locals := 40 } : Room).cells ({ frames := 3, cells := 2, slots := 9, locals := 40 } : Room).slots) := by
  refine MetFree.of_bodySF (plainFor_of_name pn_14) hisR ?_
  intro p e s m args below meth c s₁ Bd hml0 hP hK
  obtain ⟨rfl, hZ, hh⟩ := hP
  have hx := Bd.exec
  have hby := Bd.bytes
  have hml : c.maxLocals = 6 := hml0
  have hown : s.vm.findClass "java/lang/StringUTF16" = some m.cls := findClass_of_methodNamed Bd.named
  have hnm := (name_of_methodNamed Bd.named Bd.method).1
  have X0 : Stand p l e ({ frames := 3, cells := 2, slots := 9, locals := 40 } : Room) s m #[(.ref a1), (.int (0 : Int32)), (.int (3 : Int32))] below meth c s₁ [] 0 0 := Stand.of_body Bd
  have e0 : s₁.heap = h0 := by rw [← hh, Bd.state]; rfl
  have N0 := Fr.nil n0
  have pre0 : ∀ t, Steps p.tables e below (s₁.setTop (mkF m 0 (oL35 a1) [])) t → Steps p.tables e below (s₁.setTop (entryFrame m #[(.ref a1), (.int (0 : Int32)), (.int (3 : Int32))] 6)) t := fun t k => castTop (ef_14 m a1 (0 : Int32) (3 : Int32)) k
  obtain ⟨T2, h2, k2, X2, e2, E2, A2, st2⟩ := newP X0 hx hZ (hw _ (wI 16 rfl)) e0 (g := (mkF m 1 (oL35 a1) [(.int (3 : Int32))])) rfl (hb hby d14_1) rfl (by decide) (cap := 3) (by decide) (by decide) (by decide) (by decide)
  obtain ⟨b2, g2⟩ : ∃ z, z = h0.size := ⟨_, rfl⟩
  rw [← g2] at A2 st2
  have V_b2 : Arv Z h2 b2 k2 .byte (3 : Int32) [(.int (0 : Int32)), (.int (0 : Int32)), (.int (0 : Int32))] (.int (0 : Int32)) := (Arv.new A2 (by decide)).pad (pad_rep [] (.int (0 : Int32)) 3)
  have g_b2 : n0 ≤ b2 := Nat.le_trans Z0 (Nat.le_of_eq g2.symm)
  have sz_b2 : h0.size ≤ b2 := (Nat.le_trans (Keep.refl h0 []).1 (Nat.le_of_eq g2.symm))
  have K2 : Keep h0 h2 [] := (Keep.refl h0 []).ext E2
  obtain ⟨_, _, ⟨T3, L3, k3, n3⟩, -, X3, ⟨Lc3, hQ3, l3, y3, z3⟩, st3⟩ := Jvm.LawKit.callS X2 hx (y := (⟨"java/lang/StringUTF16", "compress", "([CI[BII)I"⟩ : MethodName)) hown (mvT hZ (hw _ (wI 71 rfl))) (mvT hZ (hw _ (wI 72 rfl))) (mvT hZ (hw _ (wI 69 rfl))) (mvT hZ (hw _ (wI 73 rfl))) (by decide) (backOf (W := 0) (rm15_3_2 l Z a0 hw [] a1 (0 : Int32) b2 (0 : Int32) (3 : Int32) c0 c1 c2 k_a1 k2 h2 n0 (Nat.le_trans Z0 E2.1) (V_a1.ext E2) V_b2 (Nat.ne_of_lt (Nat.lt_of_lt_of_le V_a1.lt sz_b2)) g_b2 u0 u1 u2) hZ (hw _ (wI 73 rfl)) (hw _ (wI 69 rfl)) (by decide) (by decide)) (g := (mkF m 9 (oL36 a1 b2) [(.int (3 : Int32)), (.int (0 : Int32)), (.ref b2), (.int (0 : Int32)), (.ref a1)])) rfl (by rw [hml]; rfl) (argsL := [(.ref a1), (.int (0 : Int32)), (.ref b2), (.int (0 : Int32)), (.int (3 : Int32))]) (rest := []) (lenOf pd_14_12 rfl) rfl (by show 2 * 0 + _ ≤ _; exact Nat.le_of_eq rfl) (hb hby d14_9) (fun _ _ => ⟨rfl, e2, (by decide : 1 + 0 ≤ _), (by decide : 3 + 0 ≤ _)⟩)
  dsimp only [Pt.U, Pt.locs, Pt.cells, Pt.slots] at X3 l3 y3 z3 st3 hQ3
  subst l3 y3 z3
  obtain ⟨rfl, N3q, Kc3⟩ := hQ3
  have N3 := Fr.app N0 N3q
  have Kq3 : Keep h2 T3.heap [b2] := Kc3
  have K3 : Keep h0 T3.heap [] := K2.trans Kq3 (own_trS (Or.inr sz_b2) all0)
  obtain ⟨_, _, ⟨T4, L4, k4, n4⟩, -, X4, ⟨Lc4, hQ4, l4, y4, z4⟩, st4⟩ := Jvm.LawKit.callS X3 hx (y := (⟨"java/lang/StringUTF16", "toBytes", "([CII)[B"⟩ : MethodName)) hown (mvT hZ (hw _ (wI 84 rfl))) (mvT hZ (hw _ (wI 85 rfl))) (mvT hZ (hw _ (wI 69 rfl))) (mvT hZ (hw _ (wI 86 rfl))) (by decide) (backOf (W := 0) (rm19_3 l Z a0 hw [] a1 (0 : Int32) (3 : Int32) c0 c1 c2 k_a1 T3.heap n0 (Nat.le_trans (Nat.le_trans Z0 E2.1) Kq3.1) S__assertionsDisabled (X00.keep K3 all0) S_HI_BYTE_SHIFT S_LO_BYTE_SHIFT ((V_a1.ext E2).keep Kq3 (fun q => absurd (List.mem_singleton.mp q) (Nat.ne_of_lt (Nat.lt_of_lt_of_le V_a1.lt (Nat.le_of_eq g2.symm)))))) hZ (hw _ (wI 86 rfl)) (hw _ (wI 69 rfl)) (by decide) (by decide)) (g := (mkF m 23 (oL41 a1 b2) [(.int (3 : Int32)), (.int (0 : Int32)), (.ref a1)])) rfl (by rw [hml]; rfl) (argsL := [(.ref a1), (.int (0 : Int32)), (.int (3 : Int32))]) (rest := []) (lenOf pd_14_11 rfl) rfl (by show 2 * 0 + _ ≤ _; exact Nat.le_of_eq rfl) (hb hby d14_23) (fun _ _ => ⟨rfl, rfl, (by decide : 1 + 1 ≤ _), (by decide : 3 + 6 ≤ _)⟩)
  dsimp only [Pt.U, Pt.locs, Pt.cells, Pt.slots] at X4 l4 y4 z4 st4 hQ4
  subst l4 y4 z4
  obtain ⟨bX, rfl, N4q, g_bX, gz_bX, Kt4, kX, Vx⟩ := hQ4
  have N4 := Fr.app N3 N4q
  have sz_bX : h0.size ≤ bX := Nat.le_trans K3.1 gz_bX
  have Kq4 : Keep T3.heap T4.heap [] := Kt4
  have K4 : Keep h0 T4.heap [] := K3.trans Kq4 all0
  obtain ⟨_, _, ⟨T5, L5, k5, n5⟩, -, X5, ⟨Lc5, hQ5, l5, y5, z5⟩, st5⟩ := Jvm.LawKit.callS X4 hx (y := (⟨"java/lang/StringUTF16", "getChar", "([BI)C"⟩ : MethodName)) hown (mvT hZ (hw _ (wI 100 rfl))) (mvT hZ (hw _ (wI 101 rfl))) (mvT hZ (hw _ (wI 69 rfl))) (mvT hZ (hw _ (wI 102 rfl))) (by decide) (backOf (W := 0) (rm23 l Z a0 hw [] bX (2 : Int32) 4 (StrChars.lo8 c2) (StrChars.hi8 c2) c2 kX (6 : Int32) [(.int (StrChars.lo8 c0)), (.int (StrChars.hi8 c0)), (.int (StrChars.lo8 c1)), (.int (StrChars.hi8 c1)), (.int (StrChars.lo8 c2)), (.int (StrChars.hi8 c2))] (.int (0 : Int32)) T4.heap n0 (Nat.le_trans (Nat.le_trans (Nat.le_trans Z0 E2.1) Kq3.1) Kq4.1) S__assertionsDisabled (X00.keep K4 all0) S_HI_BYTE_SHIFT S_LO_BYTE_SHIFT Vx ⟨by decide, by decide⟩ (by decide) rfl ⟨by decide, by decide⟩ (by decide) rfl (own_pair hci)) hZ (hw _ (wI 102 rfl)) (hw _ (wI 69 rfl)) (by decide) (by decide)) (g := (mkF m 32 (oL42 a1 b2 bX) [(.int (2 : Int32)), (.ref bX)])) rfl (by rw [hml]; rfl) (argsL := [(.ref bX), (.int (2 : Int32))]) (rest := []) (lenOf pd_14_17 rfl) rfl (by show 2 * 0 + _ ≤ _; exact Nat.le_of_eq rfl) (hb hby d14_32) (fun _ _ => ⟨rfl, rfl, (by decide : 2 + 0 ≤ _), (by decide : 9 + 0 ≤ _)⟩)
  dsimp only [Pt.U, Pt.locs, Pt.cells, Pt.slots] at X5 l5 y5 z5 st5 hQ5
  subst l5 y5 z5
  obtain ⟨rfl, N5q, eq5⟩ := hQ5
  have N5 := Fr.app N4 N5q
  have Kq5 : Keep T4.heap T5.heap [] := (own_keq eq5)
  have K5 : Keep h0 T5.heap [] := K4.trans Kq5 all0
  have End_0 := (Vx.keep Kq5 (fun q => nomatch q))
  obtain ⟨fs, hr, hrun, hended, hW, hsame⟩ := X5.leave (v := some (.ref bX)) (fun h => by rw [Bd.returns] at h; cases h)
  refine ⟨_, _, pre0 _ ?_, hrun, hended, _, _, rfl, ?_, ⟨_, rfl⟩, hW, hsame.mono (by decide) (by decide)⟩
  · show Steps p.tables e below (s₁.setTop (mkF m 0 (oL35 a1) [])) _
    refine XS.iloadN X0.here hx rfl (hb hby d14_0) rfl ?_
    refine st2 _ ?_
    refine XS.astoreN X2.here hx rfl (hb hby d14_3) rfl rfl (l' := (oL36 a1 b2)) rfl ?_
    refine XS.aloadN X2.here hx rfl (hb hby d14_4) rfl rfl ?_
    refine XS.iloadN X2.here hx rfl (hb hby d14_5) rfl ?_
    show Steps p.tables e below (T2.setTop (mkF m 6 (oL36 a1 b2) [(.int (0 : Int32)), (.ref a1)])) _
    refine XS.aloadN X2.here hx rfl (hb hby d14_6) rfl rfl ?_
    refine XS.iconst X2.here hx rfl (hb hby d14_7) ?_
    refine XS.iloadN X2.here hx rfl (hb hby d14_8) rfl ?_
    refine st3 _ ?_
    refine XS.istore X3.here hx rfl (hb hby d14_12) rfl (l' := (oL41 a1 b2)) rfl ?_
    show Steps p.tables e below (T3.setTop (mkF m 14 (oL41 a1 b2) [])) _
    refine XS.iload X3.here hx rfl (hb hby d14_14) rfl ?_
    refine XS.iloadN X3.here hx rfl (hb hby d14_16) rfl ?_
    refine XS.icmpNo X3.here hx rfl (hb hby d14_17) rfl (feq (by decide : ¬ ((2 : Int32) = (3 : Int32)))).1 ?_
    refine XS.aloadN X3.here hx rfl (hb hby d14_20) rfl rfl ?_
    refine XS.iloadN X3.here hx rfl (hb hby d14_21) rfl ?_
    show Steps p.tables e below (T3.setTop (mkF m 22 (oL41 a1 b2) [(.int (0 : Int32)), (.ref a1)])) _
    refine XS.iloadN X3.here hx rfl (hb hby d14_22) rfl ?_
    refine st4 _ ?_
    refine XS.astore X4.here hx rfl (hb hby d14_26) rfl rfl (l' := (oL42 a1 b2 bX)) rfl ?_
    refine XS.aload X4.here hx rfl (hb hby d14_28) rfl rfl ?_
    refine XS.iload X4.here hx rfl (hb hby d14_30) rfl ?_
    show Steps p.tables e below (T4.setTop (mkF m 32 (oL42 a1 b2 bX) [(.int (2 : Int32)), (.ref bX)])) _
    refine st5 _ ?_
    refine XS.sipush X5.here hx rfl (hb hby d14_35) ?_
    refine XS.icmpYes X5.here hx rfl (pc0 := 38) (pc' := 54) rfl (hb hby d14_38) rfl (tlt hc38).2.2.1 (by decide) (by decide) ?_
    refine XS.aload X5.here hx rfl (hb hby d14_54) rfl rfl ?_
    jvm_step X5.here [X5.here.top, hx, (hb hby d14_56), X5.method', Bd.returns, Value.isRef, FieldType.isReference]
    first | (intro acts; rw [hr _ acts rfl rfl rfl]) | rw [hr _ _ rfl rfl rfl]
    exact Steps.refl _
  · show own_Q14 Z [c0, c1, c2] h0 n0 _ T5.heap _
    exact ⟨bX, rfl, N5, g_bX, sz_bX, K5, kX, 1, _, _, End_0, Or.inr ⟨rfl, rfl, rfl⟩⟩
theorem d14_57 : decode jdk_52_method_16_code 57 = .ok (.aload_n 3, 1) := by decide +kernel
theorem d14_58 : decode jdk_52_method_16_code 58 = .ok (.areturn, 1) := by decide +kernel
abbrev oL43 (a1 b2 : Addr) : Array Slot := #[.val (.ref a1), .val (.int (0 : Int32)), .val (.int (3 : Int32)), .val (.ref b2), .val (.int (3 : Int32)), .unset]
set_option maxRecDepth 65536 in
set_option maxHeartbeats 40000000 in
theorem rm14_3_L (l : Launch) (Z : State) (a0 : Array Value) (hw : ∀ d ∈ tables_1, d.before a0 Z = true) (ws : List Jvm.Cond) (a1 : Addr) (_q2 : Int32) (_q3 : Int32) (c0 : Int32) (c1 : Int32) (c2 : Int32) (k_a1 : ClassId) (h0 : Heap) (n0 : Nat) (Z0 : n0 ≤ h0.size) (S__assertionsDisabled : Sta Z Z.heap "java/lang/StringUTF16" "$assertionsDisabled" "Z" (.int (1 : Int32))) (X00 : Old Z n0 h0) (S_HI_BYTE_SHIFT : Sta Z Z.heap "java/lang/StringUTF16" "HI_BYTE_SHIFT" "I" (.int (0 : Int32))) (S_LO_BYTE_SHIFT : Sta Z Z.heap "java/lang/StringUTF16" "LO_BYTE_SHIFT" "I" (.int (8 : Int32))) (V_a1 : Arv Z h0 a1 k_a1 .char (3 : Int32) [(.int c0), (.int c1), (.int c2)] (.int (0 : Int32))) (hlat : ∀ c ∈ [c0, c1, c2], ¬ (255 : Int32) < c) :
    MetFree l (⟨"java/lang/StringUTF16", "compress", "([CII)[B"⟩ : MethodName) (head1 (Jvm.Cond.code (⟨"java/lang/StringUTF16", "compress", "([CII)[B"⟩ : MethodName) jdk_52_method_16_code 6 (some (.array .byte)) :: ws) ({ frames := 3, cells := 2, slots := 9, locals := 40 } : Room)) (fun a U => a = #[(.ref a1), (.int (0 : Int32)), (.int (3 : Int32))] ∧ Z.Warmed39 U.vm ∧ U.heap = h0) (fun _ _ _ _ _ => True) (fun _ U o U' => ∃ v L, o = .returned v ∧ own_Q14 Z [c0, c1, c2] h0 n0 v U'.heap L ∧ FrameEnd U o U' L ({ frames := 3, cells := 2, slots := 9, locals := 40 } : Room).cells ({ frames := 3, cells := 2, slots := 9, locals := 40 } : Room).slots) := by
  refine MetFree.of_bodySF (plainFor_of_name pn_14) hisR ?_
  intro p e s m args below meth c s₁ Bd hml0 hP hK
  obtain ⟨rfl, hZ, hh⟩ := hP
  have hx := Bd.exec
  have hby := Bd.bytes
  have hml : c.maxLocals = 6 := hml0
  have hown : s.vm.findClass "java/lang/StringUTF16" = some m.cls := findClass_of_methodNamed Bd.named
  have hnm := (name_of_methodNamed Bd.named Bd.method).1
  have X0 : Stand p l e ({ frames := 3, cells := 2, slots := 9, locals := 40 } : Room) s m #[(.ref a1), (.int (0 : Int32)), (.int (3 : Int32))] below meth c s₁ [] 0 0 := Stand.of_body Bd
  have e0 : s₁.heap = h0 := by rw [← hh, Bd.state]; rfl
  have N0 := Fr.nil n0
  have pre0 : ∀ t, Steps p.tables e below (s₁.setTop (mkF m 0 (oL35 a1) [])) t → Steps p.tables e below (s₁.setTop (entryFrame m #[(.ref a1), (.int (0 : Int32)), (.int (3 : Int32))] 6)) t := fun t k => castTop (ef_14 m a1 (0 : Int32) (3 : Int32)) k
  obtain ⟨T2, h2, k2, X2, e2, E2, A2, st2⟩ := newP X0 hx hZ (hw _ (wI 16 rfl)) e0 (g := (mkF m 1 (oL35 a1) [(.int (3 : Int32))])) rfl (hb hby d14_1) rfl (by decide) (cap := 3) (by decide) (by decide) (by decide) (by decide)
  obtain ⟨b2, g2⟩ : ∃ z, z = h0.size := ⟨_, rfl⟩
  rw [← g2] at A2 st2
  have V_b2 : Arv Z h2 b2 k2 .byte (3 : Int32) [(.int (0 : Int32)), (.int (0 : Int32)), (.int (0 : Int32))] (.int (0 : Int32)) := (Arv.new A2 (by decide)).pad (pad_rep [] (.int (0 : Int32)) 3)
  have g_b2 : n0 ≤ b2 := Nat.le_trans Z0 (Nat.le_of_eq g2.symm)
  have sz_b2 : h0.size ≤ b2 := (Nat.le_trans (Keep.refl h0 []).1 (Nat.le_of_eq g2.symm))
  have K2 : Keep h0 h2 [] := (Keep.refl h0 []).ext E2
  obtain ⟨_, _, ⟨T3, L3, k3, n3⟩, -, X3, ⟨Lc3, hQ3, l3, y3, z3⟩, st3⟩ := Jvm.LawKit.callS X2 hx (y := (⟨"java/lang/StringUTF16", "compress", "([CI[BII)I"⟩ : MethodName)) hown (mvT hZ (hw _ (wI 71 rfl))) (mvT hZ (hw _ (wI 72 rfl))) (mvT hZ (hw _ (wI 69 rfl))) (mvT hZ (hw _ (wI 73 rfl))) (by decide) (backOf (W := 0) (rm15_3_L l Z a0 hw [] a1 (0 : Int32) b2 (0 : Int32) (3 : Int32) c0 c1 c2 k_a1 k2 h2 n0 (Nat.le_trans Z0 E2.1) (V_a1.ext E2) V_b2 (Nat.ne_of_lt (Nat.lt_of_lt_of_le V_a1.lt sz_b2)) g_b2 (hlat c0 (by simp)) (hlat c1 (by simp)) (hlat c2 (by simp))) hZ (hw _ (wI 73 rfl)) (hw _ (wI 69 rfl)) (by decide) (by decide)) (g := (mkF m 9 (oL36 a1 b2) [(.int (3 : Int32)), (.int (0 : Int32)), (.ref b2), (.int (0 : Int32)), (.ref a1)])) rfl (by rw [hml]; rfl) (argsL := [(.ref a1), (.int (0 : Int32)), (.ref b2), (.int (0 : Int32)), (.int (3 : Int32))]) (rest := []) (lenOf pd_14_12 rfl) rfl (by show 2 * 0 + _ ≤ _; exact Nat.le_of_eq rfl) (hb hby d14_9) (fun _ _ => ⟨rfl, e2, (by decide : 1 + 0 ≤ _), (by decide : 3 + 0 ≤ _)⟩)
  dsimp only [Pt.U, Pt.locs, Pt.cells, Pt.slots] at X3 l3 y3 z3 st3 hQ3
  subst l3 y3 z3
  obtain ⟨rfl, N3q, Kc3, Vq3⟩ := hQ3
  have N3 := Fr.app N0 N3q
  have Kq3 : Keep h2 T3.heap [b2] := Kc3
  have K3 : Keep h0 T3.heap [] := K2.trans Kq3 (own_trS (Or.inr sz_b2) all0)
  have End_0 := Vq3
  obtain ⟨fs, hr, hrun, hended, hW, hsame⟩ := X3.leave (v := some (.ref b2)) (fun h => by rw [Bd.returns] at h; cases h)
  refine ⟨_, _, pre0 _ ?_, hrun, hended, _, _, rfl, ?_, ⟨_, rfl⟩, hW, hsame.mono (by decide) (by decide)⟩
  · show Steps p.tables e below (s₁.setTop (mkF m 0 (oL35 a1) [])) _
    refine XS.iloadN X0.here hx rfl (hb hby d14_0) rfl ?_
    refine st2 _ ?_
    refine XS.astoreN X2.here hx rfl (hb hby d14_3) rfl rfl (l' := (oL36 a1 b2)) rfl ?_
    refine XS.aloadN X2.here hx rfl (hb hby d14_4) rfl rfl ?_
    refine XS.iloadN X2.here hx rfl (hb hby d14_5) rfl ?_
    show Steps p.tables e below (T2.setTop (mkF m 6 (oL36 a1 b2) [(.int (0 : Int32)), (.ref a1)])) _
    refine XS.aloadN X2.here hx rfl (hb hby d14_6) rfl rfl ?_
    refine XS.iconst X2.here hx rfl (hb hby d14_7) ?_
    refine XS.iloadN X2.here hx rfl (hb hby d14_8) rfl ?_
    refine st3 _ ?_
    refine XS.istore X3.here hx rfl (hb hby d14_12) rfl (l' := (oL43 a1 b2)) rfl ?_
    show Steps p.tables e below (T3.setTop (mkF m 14 (oL43 a1 b2) [])) _
    refine XS.iload X3.here hx rfl (hb hby d14_14) rfl ?_
    refine XS.iloadN X3.here hx rfl (hb hby d14_16) rfl ?_
    refine XS.icmpYes X3.here hx rfl (pc0 := 17) (pc' := 57) rfl (hb hby d14_17) rfl (teq (rfl : (3 : Int32) = (3 : Int32))).1 (by decide) (by decide) ?_
    refine XS.aloadN X3.here hx rfl (hb hby d14_57) rfl rfl ?_
    jvm_step X3.here [X3.here.top, hx, (hb hby d14_58), X3.method', Bd.returns, Value.isRef, FieldType.isReference]
    first | (intro acts; rw [hr _ acts rfl rfl rfl]) | rw [hr _ _ rfl rfl rfl]
    exact Steps.refl _
  · show own_Q14 Z [c0, c1, c2] h0 n0 _ T3.heap _
    exact ⟨b2, rfl, N3, g_b2, sz_b2, K3, k2, 0, _, _, End_0, Or.inl ⟨rfl, rfl, rfl, hlat⟩⟩
abbrev oL44 (a1 : Addr) : Array Slot := #[.val (.ref a1), .val (.int (0 : Int32)), .val (.int (2 : Int32)), .unset, .unset, .unset]
abbrev oL45 (a1 b2 : Addr) : Array Slot := #[.val (.ref a1), .val (.int (0 : Int32)), .val (.int (2 : Int32)), .val (.ref b2), .unset, .unset]
abbrev oL46 (a1 b2 : Addr) : Array Slot := #[.val (.ref a1), .val (.int (0 : Int32)), .val (.int (2 : Int32)), .val (.ref b2), .val (.int (0 : Int32)), .unset]
abbrev oL47 (a1 b2 bX : Addr) : Array Slot := #[.val (.ref a1), .val (.int (0 : Int32)), .val (.int (2 : Int32)), .val (.ref b2), .val (.int (0 : Int32)), .val (.ref bX)]
set_option maxRecDepth 65536 in
set_option maxHeartbeats 40000000 in
theorem rm14_2_0 (l : Launch) (Z : State) (a0 : Array Value) (hw : ∀ d ∈ tables_1, d.before a0 Z = true) (ws : List Jvm.Cond) (a1 : Addr) (_q2 : Int32) (_q3 : Int32) (c0 : Int32) (c1 : Int32) (k_a1 : ClassId) (h0 : Heap) (n0 : Nat) (Z0 : n0 ≤ h0.size) (S__assertionsDisabled : Sta Z Z.heap "java/lang/StringUTF16" "$assertionsDisabled" "Z" (.int (1 : Int32))) (X00 : Old Z n0 h0) (S_HI_BYTE_SHIFT : Sta Z Z.heap "java/lang/StringUTF16" "HI_BYTE_SHIFT" "I" (.int (0 : Int32))) (S_LO_BYTE_SHIFT : Sta Z Z.heap "java/lang/StringUTF16" "LO_BYTE_SHIFT" "I" (.int (8 : Int32))) (V_a1 : Arv Z h0 a1 k_a1 .char (2 : Int32) [(.int c0), (.int c1)] (.int (0 : Int32))) (u0 : (255 : Int32) < c0) (hci : ¬ c0 < 0 ∧ ¬ (65535 : Int32) < c0) (hc38 : (255 : Int32) < c0) :
    MetFree l (⟨"java/lang/StringUTF16", "compress", "([CII)[B"⟩ : MethodName) (head1 (Jvm.Cond.code (⟨"java/lang/StringUTF16", "compress", "([CII)[B"⟩ : MethodName) jdk_52_method_16_code 6 (some (.array .byte)) :: ws) ({ frames := 3, cells := 2, slots := 9, locals := 40 } : Room)) (fun a U => a = #[(.ref a1), (.int (0 : Int32)), (.int (2 : Int32))] ∧ Z.Warmed39 U.vm ∧ U.heap = h0) (fun _ _ _ _ _ => True) (fun _ U o U' => ∃ v L, o = .returned v ∧ own_Q14 Z [c0, c1] h0 n0 v U'.heap L ∧ FrameEnd U o U' L ({ frames := 3, cells := 2, slots := 9, locals := 40 } : Room).cells ({ frames := 3, cells := 2, slots := 9, locals := 40 } : Room).slots) := by
  refine MetFree.of_bodySF (plainFor_of_name pn_14) hisR ?_
  intro p e s m args below meth c s₁ Bd hml0 hP hK
  obtain ⟨rfl, hZ, hh⟩ := hP
  have hx := Bd.exec
  have hby := Bd.bytes
  have hml : c.maxLocals = 6 := hml0
  have hown : s.vm.findClass "java/lang/StringUTF16" = some m.cls := findClass_of_methodNamed Bd.named
  have hnm := (name_of_methodNamed Bd.named Bd.method).1
  have X0 : Stand p l e ({ frames := 3, cells := 2, slots := 9, locals := 40 } : Room) s m #[(.ref a1), (.int (0 : Int32)), (.int (2 : Int32))] below meth c s₁ [] 0 0 := Stand.of_body Bd
  have e0 : s₁.heap = h0 := by rw [← hh, Bd.state]; rfl
  have N0 := Fr.nil n0
  have pre0 : ∀ t, Steps p.tables e below (s₁.setTop (mkF m 0 (oL44 a1) [])) t → Steps p.tables e below (s₁.setTop (entryFrame m #[(.ref a1), (.int (0 : Int32)), (.int (2 : Int32))] 6)) t := fun t k => castTop (ef_14 m a1 (0 : Int32) (2 : Int32)) k
  obtain ⟨T2, h2, k2, X2, e2, E2, A2, st2⟩ := newP X0 hx hZ (hw _ (wI 16 rfl)) e0 (g := (mkF m 1 (oL44 a1) [(.int (2 : Int32))])) rfl (hb hby d14_1) rfl (by decide) (cap := 2) (by decide) (by decide) (by decide) (by decide)
  obtain ⟨b2, g2⟩ : ∃ z, z = h0.size := ⟨_, rfl⟩
  rw [← g2] at A2 st2
  have V_b2 : Arv Z h2 b2 k2 .byte (2 : Int32) [(.int (0 : Int32)), (.int (0 : Int32))] (.int (0 : Int32)) := (Arv.new A2 (by decide)).pad (pad_rep [] (.int (0 : Int32)) 2)
  have g_b2 : n0 ≤ b2 := Nat.le_trans Z0 (Nat.le_of_eq g2.symm)
  have sz_b2 : h0.size ≤ b2 := (Nat.le_trans (Keep.refl h0 []).1 (Nat.le_of_eq g2.symm))
  have K2 : Keep h0 h2 [] := (Keep.refl h0 []).ext E2
  obtain ⟨_, _, ⟨T3, L3, k3, n3⟩, -, X3, ⟨Lc3, hQ3, l3, y3, z3⟩, st3⟩ := Jvm.LawKit.callS X2 hx (y := (⟨"java/lang/StringUTF16", "compress", "([CI[BII)I"⟩ : MethodName)) hown (mvT hZ (hw _ (wI 71 rfl))) (mvT hZ (hw _ (wI 72 rfl))) (mvT hZ (hw _ (wI 69 rfl))) (mvT hZ (hw _ (wI 73 rfl))) (by decide) (backOf (W := 0) (rm15_2_0 l Z a0 hw [] a1 (0 : Int32) b2 (0 : Int32) (2 : Int32) c0 c1 k_a1 k2 h2 n0 (Nat.le_trans Z0 E2.1) (V_a1.ext E2) V_b2 (Nat.ne_of_lt (Nat.lt_of_lt_of_le V_a1.lt sz_b2)) g_b2 u0) hZ (hw _ (wI 73 rfl)) (hw _ (wI 69 rfl)) (by decide) (by decide)) (g := (mkF m 9 (oL45 a1 b2) [(.int (2 : Int32)), (.int (0 : Int32)), (.ref b2), (.int (0 : Int32)), (.ref a1)])) rfl (by rw [hml]; rfl) (argsL := [(.ref a1), (.int (0 : Int32)), (.ref b2), (.int (0 : Int32)), (.int (2 : Int32))]) (rest := []) (lenOf pd_14_12 rfl) rfl (by show 2 * 0 + _ ≤ _; exact Nat.le_of_eq rfl) (hb hby d14_9) (fun _ _ => ⟨rfl, e2, (by decide : 1 + 0 ≤ _), (by decide : 2 + 0 ≤ _)⟩)
  dsimp only [Pt.U, Pt.locs, Pt.cells, Pt.slots] at X3 l3 y3 z3 st3 hQ3
  subst l3 y3 z3
  obtain ⟨rfl, N3q, Kc3⟩ := hQ3
  have N3 := Fr.app N0 N3q
  have Kq3 : Keep h2 T3.heap [b2] := Kc3
  have K3 : Keep h0 T3.heap [] := K2.trans Kq3 (own_trS (Or.inr sz_b2) all0)
  obtain ⟨_, _, ⟨T4, L4, k4, n4⟩, -, X4, ⟨Lc4, hQ4, l4, y4, z4⟩, st4⟩ := Jvm.LawKit.callS X3 hx (y := (⟨"java/lang/StringUTF16", "toBytes", "([CII)[B"⟩ : MethodName)) hown (mvT hZ (hw _ (wI 84 rfl))) (mvT hZ (hw _ (wI 85 rfl))) (mvT hZ (hw _ (wI 69 rfl))) (mvT hZ (hw _ (wI 86 rfl))) (by decide) (backOf (W := 0) (rm19_2 l Z a0 hw [] a1 (0 : Int32) (2 : Int32) c0 c1 k_a1 T3.heap n0 (Nat.le_trans (Nat.le_trans Z0 E2.1) Kq3.1) S__assertionsDisabled (X00.keep K3 all0) S_HI_BYTE_SHIFT S_LO_BYTE_SHIFT ((V_a1.ext E2).keep Kq3 (fun q => absurd (List.mem_singleton.mp q) (Nat.ne_of_lt (Nat.lt_of_lt_of_le V_a1.lt (Nat.le_of_eq g2.symm)))))) hZ (hw _ (wI 86 rfl)) (hw _ (wI 69 rfl)) (by decide) (by decide)) (g := (mkF m 23 (oL46 a1 b2) [(.int (2 : Int32)), (.int (0 : Int32)), (.ref a1)])) rfl (by rw [hml]; rfl) (argsL := [(.ref a1), (.int (0 : Int32)), (.int (2 : Int32))]) (rest := []) (lenOf pd_14_11 rfl) rfl (by show 2 * 0 + _ ≤ _; exact Nat.le_of_eq rfl) (hb hby d14_23) (fun _ _ => ⟨rfl, rfl, (by decide : 1 + 1 ≤ _), (by decide : 2 + 6 ≤ _)⟩)
  dsimp only [Pt.U, Pt.locs, Pt.cells, Pt.slots] at X4 l4 y4 z4 st4 hQ4
  subst l4 y4 z4
  obtain ⟨bX, rfl, N4q, g_bX, gz_bX, Kt4, kX, Vx⟩ := hQ4
  have N4 := Fr.app N3 N4q
  have sz_bX : h0.size ≤ bX := Nat.le_trans K3.1 gz_bX
  have Kq4 : Keep T3.heap T4.heap [] := Kt4
  have K4 : Keep h0 T4.heap [] := K3.trans Kq4 all0
  obtain ⟨_, _, ⟨T5, L5, k5, n5⟩, -, X5, ⟨Lc5, hQ5, l5, y5, z5⟩, st5⟩ := Jvm.LawKit.callS X4 hx (y := (⟨"java/lang/StringUTF16", "getChar", "([BI)C"⟩ : MethodName)) hown (mvT hZ (hw _ (wI 100 rfl))) (mvT hZ (hw _ (wI 101 rfl))) (mvT hZ (hw _ (wI 69 rfl))) (mvT hZ (hw _ (wI 102 rfl))) (by decide) (backOf (W := 0) (rm23 l Z a0 hw [] bX (0 : Int32) 0 (StrChars.lo8 c0) (StrChars.hi8 c0) c0 kX (4 : Int32) [(.int (StrChars.lo8 c0)), (.int (StrChars.hi8 c0)), (.int (StrChars.lo8 c1)), (.int (StrChars.hi8 c1))] (.int (0 : Int32)) T4.heap n0 (Nat.le_trans (Nat.le_trans (Nat.le_trans Z0 E2.1) Kq3.1) Kq4.1) S__assertionsDisabled (X00.keep K4 all0) S_HI_BYTE_SHIFT S_LO_BYTE_SHIFT Vx ⟨by decide, by decide⟩ (by decide) rfl ⟨by decide, by decide⟩ (by decide) rfl (own_pair hci)) hZ (hw _ (wI 102 rfl)) (hw _ (wI 69 rfl)) (by decide) (by decide)) (g := (mkF m 32 (oL47 a1 b2 bX) [(.int (0 : Int32)), (.ref bX)])) rfl (by rw [hml]; rfl) (argsL := [(.ref bX), (.int (0 : Int32))]) (rest := []) (lenOf pd_14_17 rfl) rfl (by show 2 * 0 + _ ≤ _; exact Nat.le_of_eq rfl) (hb hby d14_32) (fun _ _ => ⟨rfl, rfl, (by decide : 2 + 0 ≤ _), (by decide : 8 + 0 ≤ _)⟩)
  dsimp only [Pt.U, Pt.locs, Pt.cells, Pt.slots] at X5 l5 y5 z5 st5 hQ5
  subst l5 y5 z5
  obtain ⟨rfl, N5q, eq5⟩ := hQ5
  have N5 := Fr.app N4 N5q
  have Kq5 : Keep T4.heap T5.heap [] := (own_keq eq5)
  have K5 : Keep h0 T5.heap [] := K4.trans Kq5 all0
  have End_0 := (Vx.keep Kq5 (fun q => nomatch q))
  obtain ⟨fs, hr, hrun, hended, hW, hsame⟩ := X5.leave (v := some (.ref bX)) (fun h => by rw [Bd.returns] at h; cases h)
  refine ⟨_, _, pre0 _ ?_, hrun, hended, _, _, rfl, ?_, ⟨_, rfl⟩, hW, hsame.mono (by decide) (by decide)⟩
  · show Steps p.tables e below (s₁.setTop (mkF m 0 (oL44 a1) [])) _
    refine XS.iloadN X0.here hx rfl (hb hby d14_0) rfl ?_
    refine st2 _ ?_
    refine XS.astoreN X2.here hx rfl (hb hby d14_3) rfl rfl (l' := (oL45 a1 b2)) rfl ?_
    refine XS.aloadN X2.here hx rfl (hb hby d14_4) rfl rfl ?_
    refine XS.iloadN X2.here hx rfl (hb hby d14_5) rfl ?_
    show Steps p.tables e below (T2.setTop (mkF m 6 (oL45 a1 b2) [(.int (0 : Int32)), (.ref a1)])) _
    refine XS.aloadN X2.here hx rfl (hb hby d14_6) rfl rfl ?_
    refine XS.iconst X2.here hx rfl (hb hby d14_7) ?_
    refine XS.iloadN X2.here hx rfl (hb hby d14_8) rfl ?_
    refine st3 _ ?_
    refine XS.istore X3.here hx rfl (hb hby d14_12) rfl (l' := (oL46 a1 b2)) rfl ?_
    show Steps p.tables e below (T3.setTop (mkF m 14 (oL46 a1 b2) [])) _
    refine XS.iload X3.here hx rfl (hb hby d14_14) rfl ?_
    refine XS.iloadN X3.here hx rfl (hb hby d14_16) rfl ?_
    refine XS.icmpNo X3.here hx rfl (hb hby d14_17) rfl (feq (by decide : ¬ ((0 : Int32) = (2 : Int32)))).1 ?_
    refine XS.aloadN X3.here hx rfl (hb hby d14_20) rfl rfl ?_
    refine XS.iloadN X3.here hx rfl (hb hby d14_21) rfl ?_
    show Steps p.tables e below (T3.setTop (mkF m 22 (oL46 a1 b2) [(.int (0 : Int32)), (.ref a1)])) _
    refine XS.iloadN X3.here hx rfl (hb hby d14_22) rfl ?_
    refine st4 _ ?_
    refine XS.astore X4.here hx rfl (hb hby d14_26) rfl rfl (l' := (oL47 a1 b2 bX)) rfl ?_
    refine XS.aload X4.here hx rfl (hb hby d14_28) rfl rfl ?_
    refine XS.iload X4.here hx rfl (hb hby d14_30) rfl ?_
    show Steps p.tables e below (T4.setTop (mkF m 32 (oL47 a1 b2 bX) [(.int (0 : Int32)), (.ref bX)])) _
    refine st5 _ ?_
    refine XS.sipush X5.here hx rfl (hb hby d14_35) ?_
    refine XS.icmpYes X5.here hx rfl (pc0 := 38) (pc' := 54) rfl (hb hby d14_38) rfl (tlt hc38).2.2.1 (by decide) (by decide) ?_
    refine XS.aload X5.here hx rfl (hb hby d14_54) rfl rfl ?_
    jvm_step X5.here [X5.here.top, hx, (hb hby d14_56), X5.method', Bd.returns, Value.isRef, FieldType.isReference]
    first | (intro acts; rw [hr _ acts rfl rfl rfl]) | rw [hr _ _ rfl rfl rfl]
    exact Steps.refl _
  · show own_Q14 Z [c0, c1] h0 n0 _ T5.heap _
    exact ⟨bX, rfl, N5, g_bX, sz_bX, K5, kX, 1, _, _, End_0, Or.inr ⟨rfl, rfl, rfl⟩⟩
abbrev oL48 (a1 b2 : Addr) : Array Slot := #[.val (.ref a1), .val (.int (0 : Int32)), .val (.int (2 : Int32)), .val (.ref b2), .val (.int (1 : Int32)), .unset]
abbrev oL49 (a1 b2 bX : Addr) : Array Slot := #[.val (.ref a1), .val (.int (0 : Int32)), .val (.int (2 : Int32)), .val (.ref b2), .val (.int (1 : Int32)), .val (.ref bX)]
set_option maxRecDepth 65536 in
set_option maxHeartbeats 40000000 in
theorem rm14_2_1 (l : Launch) (Z : State) (a0 : Array Value) (hw : ∀ d ∈ tables_1, d.before a0 Z = true) (ws : List Jvm.Cond) (a1 : Addr) (_q2 : Int32) (_q3 : Int32) (c0 : Int32) (c1 : Int32) (k_a1 : ClassId) (h0 : Heap) (n0 : Nat) (Z0 : n0 ≤ h0.size) (S__assertionsDisabled : Sta Z Z.heap "java/lang/StringUTF16" "$assertionsDisabled" "Z" (.int (1 : Int32))) (X00 : Old Z n0 h0) (S_HI_BYTE_SHIFT : Sta Z Z.heap "java/lang/StringUTF16" "HI_BYTE_SHIFT" "I" (.int (0 : Int32))) (S_LO_BYTE_SHIFT : Sta Z Z.heap "java/lang/StringUTF16" "LO_BYTE_SHIFT" "I" (.int (8 : Int32))) (V_a1 : Arv Z h0 a1 k_a1 .char (2 : Int32) [(.int c0), (.int c1)] (.int (0 : Int32))) (u0 : ¬ ((255 : Int32) < c0)) (u1 : (255 : Int32) < c1) (hci : ¬ c1 < 0 ∧ ¬ (65535 : Int32) < c1) (hc38 : (255 : Int32) < c1) :
    MetFree l (⟨"java/lang/StringUTF16", "compress", "([CII)[B"⟩ : MethodName) (head1 (Jvm.Cond.code (⟨"java/lang/StringUTF16", "compress", "([CII)[B"⟩ : MethodName) jdk_52_method_16_code 6 (some (.array .byte)) :: ws) ({ frames := 3, cells := 2, slots := 9, locals := 40 } : Room)) (fun a U => a = #[(.ref a1), (.int (0 : Int32)), (.int (2 : Int32))] ∧ Z.Warmed39 U.vm ∧ U.heap = h0) (fun _ _ _ _ _ => True) (fun _ U o U' => ∃ v L, o = .returned v ∧ own_Q14 Z [c0, c1] h0 n0 v U'.heap L ∧ FrameEnd U o U' L ({ frames := 3, cells := 2, slots := 9, locals := 40 } : Room).cells ({ frames := 3, cells := 2, slots := 9, locals := 40 } : Room).slots) := by
  refine MetFree.of_bodySF (plainFor_of_name pn_14) hisR ?_
  intro p e s m args below meth c s₁ Bd hml0 hP hK
  obtain ⟨rfl, hZ, hh⟩ := hP
  have hx := Bd.exec
  have hby := Bd.bytes
  have hml : c.maxLocals = 6 := hml0
  have hown : s.vm.findClass "java/lang/StringUTF16" = some m.cls := findClass_of_methodNamed Bd.named
  have hnm := (name_of_methodNamed Bd.named Bd.method).1
  have X0 : Stand p l e ({ frames := 3, cells := 2, slots := 9, locals := 40 } : Room) s m #[(.ref a1), (.int (0 : Int32)), (.int (2 : Int32))] below meth c s₁ [] 0 0 := Stand.of_body Bd
  have e0 : s₁.heap = h0 := by rw [← hh, Bd.state]; rfl
  have N0 := Fr.nil n0
  have pre0 : ∀ t, Steps p.tables e below (s₁.setTop (mkF m 0 (oL44 a1) [])) t → Steps p.tables e below (s₁.setTop (entryFrame m #[(.ref a1), (.int (0 : Int32)), (.int (2 : Int32))] 6)) t := fun t k => castTop (ef_14 m a1 (0 : Int32) (2 : Int32)) k
  obtain ⟨T2, h2, k2, X2, e2, E2, A2, st2⟩ := newP X0 hx hZ (hw _ (wI 16 rfl)) e0 (g := (mkF m 1 (oL44 a1) [(.int (2 : Int32))])) rfl (hb hby d14_1) rfl (by decide) (cap := 2) (by decide) (by decide) (by decide) (by decide)
  obtain ⟨b2, g2⟩ : ∃ z, z = h0.size := ⟨_, rfl⟩
  rw [← g2] at A2 st2
  have V_b2 : Arv Z h2 b2 k2 .byte (2 : Int32) [(.int (0 : Int32)), (.int (0 : Int32))] (.int (0 : Int32)) := (Arv.new A2 (by decide)).pad (pad_rep [] (.int (0 : Int32)) 2)
  have g_b2 : n0 ≤ b2 := Nat.le_trans Z0 (Nat.le_of_eq g2.symm)
  have sz_b2 : h0.size ≤ b2 := (Nat.le_trans (Keep.refl h0 []).1 (Nat.le_of_eq g2.symm))
  have K2 : Keep h0 h2 [] := (Keep.refl h0 []).ext E2
  obtain ⟨_, _, ⟨T3, L3, k3, n3⟩, -, X3, ⟨Lc3, hQ3, l3, y3, z3⟩, st3⟩ := Jvm.LawKit.callS X2 hx (y := (⟨"java/lang/StringUTF16", "compress", "([CI[BII)I"⟩ : MethodName)) hown (mvT hZ (hw _ (wI 71 rfl))) (mvT hZ (hw _ (wI 72 rfl))) (mvT hZ (hw _ (wI 69 rfl))) (mvT hZ (hw _ (wI 73 rfl))) (by decide) (backOf (W := 0) (rm15_2_1 l Z a0 hw [] a1 (0 : Int32) b2 (0 : Int32) (2 : Int32) c0 c1 k_a1 k2 h2 n0 (Nat.le_trans Z0 E2.1) (V_a1.ext E2) V_b2 (Nat.ne_of_lt (Nat.lt_of_lt_of_le V_a1.lt sz_b2)) g_b2 u0 u1) hZ (hw _ (wI 73 rfl)) (hw _ (wI 69 rfl)) (by decide) (by decide)) (g := (mkF m 9 (oL45 a1 b2) [(.int (2 : Int32)), (.int (0 : Int32)), (.ref b2), (.int (0 : Int32)), (.ref a1)])) rfl (by rw [hml]; rfl) (argsL := [(.ref a1), (.int (0 : Int32)), (.ref b2), (.int (0 : Int32)), (.int (2 : Int32))]) (rest := []) (lenOf pd_14_12 rfl) rfl (by show 2 * 0 + _ ≤ _; exact Nat.le_of_eq rfl) (hb hby d14_9) (fun _ _ => ⟨rfl, e2, (by decide : 1 + 0 ≤ _), (by decide : 2 + 0 ≤ _)⟩)
  dsimp only [Pt.U, Pt.locs, Pt.cells, Pt.slots] at X3 l3 y3 z3 st3 hQ3
  subst l3 y3 z3
  obtain ⟨rfl, N3q, Kc3⟩ := hQ3
  have N3 := Fr.app N0 N3q
  have Kq3 : Keep h2 T3.heap [b2] := Kc3
  have K3 : Keep h0 T3.heap [] := K2.trans Kq3 (own_trS (Or.inr sz_b2) all0)
  obtain ⟨_, _, ⟨T4, L4, k4, n4⟩, -, X4, ⟨Lc4, hQ4, l4, y4, z4⟩, st4⟩ := Jvm.LawKit.callS X3 hx (y := (⟨"java/lang/StringUTF16", "toBytes", "([CII)[B"⟩ : MethodName)) hown (mvT hZ (hw _ (wI 84 rfl))) (mvT hZ (hw _ (wI 85 rfl))) (mvT hZ (hw _ (wI 69 rfl))) (mvT hZ (hw _ (wI 86 rfl))) (by decide) (backOf (W := 0) (rm19_2 l Z a0 hw [] a1 (0 : Int32) (2 : Int32) c0 c1 k_a1 T3.heap n0 (Nat.le_trans (Nat.le_trans Z0 E2.1) Kq3.1) S__assertionsDisabled (X00.keep K3 all0) S_HI_BYTE_SHIFT S_LO_BYTE_SHIFT ((V_a1.ext E2).keep Kq3 (fun q => absurd (List.mem_singleton.mp q) (Nat.ne_of_lt (Nat.lt_of_lt_of_le V_a1.lt (Nat.le_of_eq g2.symm)))))) hZ (hw _ (wI 86 rfl)) (hw _ (wI 69 rfl)) (by decide) (by decide)) (g := (mkF m 23 (oL48 a1 b2) [(.int (2 : Int32)), (.int (0 : Int32)), (.ref a1)])) rfl (by rw [hml]; rfl) (argsL := [(.ref a1), (.int (0 : Int32)), (.int (2 : Int32))]) (rest := []) (lenOf pd_14_11 rfl) rfl (by show 2 * 0 + _ ≤ _; exact Nat.le_of_eq rfl) (hb hby d14_23) (fun _ _ => ⟨rfl, rfl, (by decide : 1 + 1 ≤ _), (by decide : 2 + 6 ≤ _)⟩)
  dsimp only [Pt.U, Pt.locs, Pt.cells, Pt.slots] at X4 l4 y4 z4 st4 hQ4
  subst l4 y4 z4
  obtain ⟨bX, rfl, N4q, g_bX, gz_bX, Kt4, kX, Vx⟩ := hQ4
  have N4 := Fr.app N3 N4q
  have sz_bX : h0.size ≤ bX := Nat.le_trans K3.1 gz_bX
  have Kq4 : Keep T3.heap T4.heap [] := Kt4
  have K4 : Keep h0 T4.heap [] := K3.trans Kq4 all0
  obtain ⟨_, _, ⟨T5, L5, k5, n5⟩, -, X5, ⟨Lc5, hQ5, l5, y5, z5⟩, st5⟩ := Jvm.LawKit.callS X4 hx (y := (⟨"java/lang/StringUTF16", "getChar", "([BI)C"⟩ : MethodName)) hown (mvT hZ (hw _ (wI 100 rfl))) (mvT hZ (hw _ (wI 101 rfl))) (mvT hZ (hw _ (wI 69 rfl))) (mvT hZ (hw _ (wI 102 rfl))) (by decide) (backOf (W := 0) (rm23 l Z a0 hw [] bX (1 : Int32) 2 (StrChars.lo8 c1) (StrChars.hi8 c1) c1 kX (4 : Int32) [(.int (StrChars.lo8 c0)), (.int (StrChars.hi8 c0)), (.int (StrChars.lo8 c1)), (.int (StrChars.hi8 c1))] (.int (0 : Int32)) T4.heap n0 (Nat.le_trans (Nat.le_trans (Nat.le_trans Z0 E2.1) Kq3.1) Kq4.1) S__assertionsDisabled (X00.keep K4 all0) S_HI_BYTE_SHIFT S_LO_BYTE_SHIFT Vx ⟨by decide, by decide⟩ (by decide) rfl ⟨by decide, by decide⟩ (by decide) rfl (own_pair hci)) hZ (hw _ (wI 102 rfl)) (hw _ (wI 69 rfl)) (by decide) (by decide)) (g := (mkF m 32 (oL49 a1 b2 bX) [(.int (1 : Int32)), (.ref bX)])) rfl (by rw [hml]; rfl) (argsL := [(.ref bX), (.int (1 : Int32))]) (rest := []) (lenOf pd_14_17 rfl) rfl (by show 2 * 0 + _ ≤ _; exact Nat.le_of_eq rfl) (hb hby d14_32) (fun _ _ => ⟨rfl, rfl, (by decide : 2 + 0 ≤ _), (by decide : 8 + 0 ≤ _)⟩)
  dsimp only [Pt.U, Pt.locs, Pt.cells, Pt.slots] at X5 l5 y5 z5 st5 hQ5
  subst l5 y5 z5
  obtain ⟨rfl, N5q, eq5⟩ := hQ5
  have N5 := Fr.app N4 N5q
  have Kq5 : Keep T4.heap T5.heap [] := (own_keq eq5)
  have K5 : Keep h0 T5.heap [] := K4.trans Kq5 all0
  have End_0 := (Vx.keep Kq5 (fun q => nomatch q))
  obtain ⟨fs, hr, hrun, hended, hW, hsame⟩ := X5.leave (v := some (.ref bX)) (fun h => by rw [Bd.returns] at h; cases h)
  refine ⟨_, _, pre0 _ ?_, hrun, hended, _, _, rfl, ?_, ⟨_, rfl⟩, hW, hsame.mono (by decide) (by decide)⟩
  · show Steps p.tables e below (s₁.setTop (mkF m 0 (oL44 a1) [])) _
    refine XS.iloadN X0.here hx rfl (hb hby d14_0) rfl ?_
    refine st2 _ ?_
    refine XS.astoreN X2.here hx rfl (hb hby d14_3) rfl rfl (l' := (oL45 a1 b2)) rfl ?_
    refine XS.aloadN X2.here hx rfl (hb hby d14_4) rfl rfl ?_
    refine XS.iloadN X2.here hx rfl (hb hby d14_5) rfl ?_
    show Steps p.tables e below (T2.setTop (mkF m 6 (oL45 a1 b2) [(.int (0 : Int32)), (.ref a1)])) _
    refine XS.aloadN X2.here hx rfl (hb hby d14_6) rfl rfl ?_
    refine XS.iconst X2.here hx rfl (hb hby d14_7) ?_
    refine XS.iloadN X2.here hx rfl (hb hby d14_8) rfl ?_
    refine st3 _ ?_
    refine XS.istore X3.here hx rfl (hb hby d14_12) rfl (l' := (oL48 a1 b2)) rfl ?_
    show Steps p.tables e below (T3.setTop (mkF m 14 (oL48 a1 b2) [])) _
    refine XS.iload X3.here hx rfl (hb hby d14_14) rfl ?_
    refine XS.iloadN X3.here hx rfl (hb hby d14_16) rfl ?_
    refine XS.icmpNo X3.here hx rfl (hb hby d14_17) rfl (feq (by decide : ¬ ((1 : Int32) = (2 : Int32)))).1 ?_
    refine XS.aloadN X3.here hx rfl (hb hby d14_20) rfl rfl ?_
    refine XS.iloadN X3.here hx rfl (hb hby d14_21) rfl ?_
    show Steps p.tables e below (T3.setTop (mkF m 22 (oL48 a1 b2) [(.int (0 : Int32)), (.ref a1)])) _
    refine XS.iloadN X3.here hx rfl (hb hby d14_22) rfl ?_
    refine st4 _ ?_
    refine XS.astore X4.here hx rfl (hb hby d14_26) rfl rfl (l' := (oL49 a1 b2 bX)) rfl ?_
    refine XS.aload X4.here hx rfl (hb hby d14_28) rfl rfl ?_
    refine XS.iload X4.here hx rfl (hb hby d14_30) rfl ?_
    show Steps p.tables e below (T4.setTop (mkF m 32 (oL49 a1 b2 bX) [(.int (1 : Int32)), (.ref bX)])) _
    refine st5 _ ?_
    refine XS.sipush X5.here hx rfl (hb hby d14_35) ?_
    refine XS.icmpYes X5.here hx rfl (pc0 := 38) (pc' := 54) rfl (hb hby d14_38) rfl (tlt hc38).2.2.1 (by decide) (by decide) ?_
    refine XS.aload X5.here hx rfl (hb hby d14_54) rfl rfl ?_
    jvm_step X5.here [X5.here.top, hx, (hb hby d14_56), X5.method', Bd.returns, Value.isRef, FieldType.isReference]
    first | (intro acts; rw [hr _ acts rfl rfl rfl]) | rw [hr _ _ rfl rfl rfl]
    exact Steps.refl _
  · show own_Q14 Z [c0, c1] h0 n0 _ T5.heap _
    exact ⟨bX, rfl, N5, g_bX, sz_bX, K5, kX, 1, _, _, End_0, Or.inr ⟨rfl, rfl, rfl⟩⟩
abbrev oL50 (a1 b2 : Addr) : Array Slot := #[.val (.ref a1), .val (.int (0 : Int32)), .val (.int (2 : Int32)), .val (.ref b2), .val (.int (2 : Int32)), .unset]
set_option maxRecDepth 65536 in
set_option maxHeartbeats 40000000 in
theorem rm14_2_L (l : Launch) (Z : State) (a0 : Array Value) (hw : ∀ d ∈ tables_1, d.before a0 Z = true) (ws : List Jvm.Cond) (a1 : Addr) (_q2 : Int32) (_q3 : Int32) (c0 : Int32) (c1 : Int32) (k_a1 : ClassId) (h0 : Heap) (n0 : Nat) (Z0 : n0 ≤ h0.size) (S__assertionsDisabled : Sta Z Z.heap "java/lang/StringUTF16" "$assertionsDisabled" "Z" (.int (1 : Int32))) (X00 : Old Z n0 h0) (S_HI_BYTE_SHIFT : Sta Z Z.heap "java/lang/StringUTF16" "HI_BYTE_SHIFT" "I" (.int (0 : Int32))) (S_LO_BYTE_SHIFT : Sta Z Z.heap "java/lang/StringUTF16" "LO_BYTE_SHIFT" "I" (.int (8 : Int32))) (V_a1 : Arv Z h0 a1 k_a1 .char (2 : Int32) [(.int c0), (.int c1)] (.int (0 : Int32))) (hlat : ∀ c ∈ [c0, c1], ¬ (255 : Int32) < c) :
    MetFree l (⟨"java/lang/StringUTF16", "compress", "([CII)[B"⟩ : MethodName) (head1 (Jvm.Cond.code (⟨"java/lang/StringUTF16", "compress", "([CII)[B"⟩ : MethodName) jdk_52_method_16_code 6 (some (.array .byte)) :: ws) ({ frames := 3, cells := 2, slots := 9, locals := 40 } : Room)) (fun a U => a = #[(.ref a1), (.int (0 : Int32)), (.int (2 : Int32))] ∧ Z.Warmed39 U.vm ∧ U.heap = h0) (fun _ _ _ _ _ => True) (fun _ U o U' => ∃ v L, o = .returned v ∧ own_Q14 Z [c0, c1] h0 n0 v U'.heap L ∧ FrameEnd U o U' L ({ frames := 3, cells := 2, slots := 9, locals := 40 } : Room).cells ({ frames := 3, cells := 2, slots := 9, locals := 40 } : Room).slots) := by
  refine MetFree.of_bodySF (plainFor_of_name pn_14) hisR ?_
  intro p e s m args below meth c s₁ Bd hml0 hP hK
  obtain ⟨rfl, hZ, hh⟩ := hP
  have hx := Bd.exec
  have hby := Bd.bytes
  have hml : c.maxLocals = 6 := hml0
  have hown : s.vm.findClass "java/lang/StringUTF16" = some m.cls := findClass_of_methodNamed Bd.named
  have hnm := (name_of_methodNamed Bd.named Bd.method).1
  have X0 : Stand p l e ({ frames := 3, cells := 2, slots := 9, locals := 40 } : Room) s m #[(.ref a1), (.int (0 : Int32)), (.int (2 : Int32))] below meth c s₁ [] 0 0 := Stand.of_body Bd
  have e0 : s₁.heap = h0 := by rw [← hh, Bd.state]; rfl
  have N0 := Fr.nil n0
  have pre0 : ∀ t, Steps p.tables e below (s₁.setTop (mkF m 0 (oL44 a1) [])) t → Steps p.tables e below (s₁.setTop (entryFrame m #[(.ref a1), (.int (0 : Int32)), (.int (2 : Int32))] 6)) t := fun t k => castTop (ef_14 m a1 (0 : Int32) (2 : Int32)) k
  obtain ⟨T2, h2, k2, X2, e2, E2, A2, st2⟩ := newP X0 hx hZ (hw _ (wI 16 rfl)) e0 (g := (mkF m 1 (oL44 a1) [(.int (2 : Int32))])) rfl (hb hby d14_1) rfl (by decide) (cap := 2) (by decide) (by decide) (by decide) (by decide)
  obtain ⟨b2, g2⟩ : ∃ z, z = h0.size := ⟨_, rfl⟩
  rw [← g2] at A2 st2
  have V_b2 : Arv Z h2 b2 k2 .byte (2 : Int32) [(.int (0 : Int32)), (.int (0 : Int32))] (.int (0 : Int32)) := (Arv.new A2 (by decide)).pad (pad_rep [] (.int (0 : Int32)) 2)
  have g_b2 : n0 ≤ b2 := Nat.le_trans Z0 (Nat.le_of_eq g2.symm)
  have sz_b2 : h0.size ≤ b2 := (Nat.le_trans (Keep.refl h0 []).1 (Nat.le_of_eq g2.symm))
  have K2 : Keep h0 h2 [] := (Keep.refl h0 []).ext E2
  obtain ⟨_, _, ⟨T3, L3, k3, n3⟩, -, X3, ⟨Lc3, hQ3, l3, y3, z3⟩, st3⟩ := Jvm.LawKit.callS X2 hx (y := (⟨"java/lang/StringUTF16", "compress", "([CI[BII)I"⟩ : MethodName)) hown (mvT hZ (hw _ (wI 71 rfl))) (mvT hZ (hw _ (wI 72 rfl))) (mvT hZ (hw _ (wI 69 rfl))) (mvT hZ (hw _ (wI 73 rfl))) (by decide) (backOf (W := 0) (rm15_2_L l Z a0 hw [] a1 (0 : Int32) b2 (0 : Int32) (2 : Int32) c0 c1 k_a1 k2 h2 n0 (Nat.le_trans Z0 E2.1) (V_a1.ext E2) V_b2 (Nat.ne_of_lt (Nat.lt_of_lt_of_le V_a1.lt sz_b2)) g_b2 (hlat c0 (by simp)) (hlat c1 (by simp))) hZ (hw _ (wI 73 rfl)) (hw _ (wI 69 rfl)) (by decide) (by decide)) (g := (mkF m 9 (oL45 a1 b2) [(.int (2 : Int32)), (.int (0 : Int32)), (.ref b2), (.int (0 : Int32)), (.ref a1)])) rfl (by rw [hml]; rfl) (argsL := [(.ref a1), (.int (0 : Int32)), (.ref b2), (.int (0 : Int32)), (.int (2 : Int32))]) (rest := []) (lenOf pd_14_12 rfl) rfl (by show 2 * 0 + _ ≤ _; exact Nat.le_of_eq rfl) (hb hby d14_9) (fun _ _ => ⟨rfl, e2, (by decide : 1 + 0 ≤ _), (by decide : 2 + 0 ≤ _)⟩)
  dsimp only [Pt.U, Pt.locs, Pt.cells, Pt.slots] at X3 l3 y3 z3 st3 hQ3
  subst l3 y3 z3
  obtain ⟨rfl, N3q, Kc3, Vq3⟩ := hQ3
  have N3 := Fr.app N0 N3q
  have Kq3 : Keep h2 T3.heap [b2] := Kc3
  have K3 : Keep h0 T3.heap [] := K2.trans Kq3 (own_trS (Or.inr sz_b2) all0)
  have End_0 := Vq3
  obtain ⟨fs, hr, hrun, hended, hW, hsame⟩ := X3.leave (v := some (.ref b2)) (fun h => by rw [Bd.returns] at h; cases h)
  refine ⟨_, _, pre0 _ ?_, hrun, hended, _, _, rfl, ?_, ⟨_, rfl⟩, hW, hsame.mono (by decide) (by decide)⟩
  · show Steps p.tables e below (s₁.setTop (mkF m 0 (oL44 a1) [])) _
    refine XS.iloadN X0.here hx rfl (hb hby d14_0) rfl ?_
    refine st2 _ ?_
    refine XS.astoreN X2.here hx rfl (hb hby d14_3) rfl rfl (l' := (oL45 a1 b2)) rfl ?_
    refine XS.aloadN X2.here hx rfl (hb hby d14_4) rfl rfl ?_
    refine XS.iloadN X2.here hx rfl (hb hby d14_5) rfl ?_
    show Steps p.tables e below (T2.setTop (mkF m 6 (oL45 a1 b2) [(.int (0 : Int32)), (.ref a1)])) _
    refine XS.aloadN X2.here hx rfl (hb hby d14_6) rfl rfl ?_
    refine XS.iconst X2.here hx rfl (hb hby d14_7) ?_
    refine XS.iloadN X2.here hx rfl (hb hby d14_8) rfl ?_
    refine st3 _ ?_
    refine XS.istore X3.here hx rfl (hb hby d14_12) rfl (l' := (oL50 a1 b2)) rfl ?_
    show Steps p.tables e below (T3.setTop (mkF m 14 (oL50 a1 b2) [])) _
    refine XS.iload X3.here hx rfl (hb hby d14_14) rfl ?_
    refine XS.iloadN X3.here hx rfl (hb hby d14_16) rfl ?_
    refine XS.icmpYes X3.here hx rfl (pc0 := 17) (pc' := 57) rfl (hb hby d14_17) rfl (teq (rfl : (2 : Int32) = (2 : Int32))).1 (by decide) (by decide) ?_
    refine XS.aloadN X3.here hx rfl (hb hby d14_57) rfl rfl ?_
    jvm_step X3.here [X3.here.top, hx, (hb hby d14_58), X3.method', Bd.returns, Value.isRef, FieldType.isReference]
    first | (intro acts; rw [hr _ acts rfl rfl rfl]) | rw [hr _ _ rfl rfl rfl]
    exact Steps.refl _
  · show own_Q14 Z [c0, c1] h0 n0 _ T3.heap _
    exact ⟨b2, rfl, N3, g_b2, sz_b2, K3, k2, 0, _, _, End_0, Or.inl ⟨rfl, rfl, rfl, hlat⟩⟩
abbrev oL51 (a1 : Addr) : Array Slot := #[.val (.ref a1), .val (.int (0 : Int32)), .val (.int (1 : Int32)), .unset, .unset, .unset]
abbrev oL52 (a1 b2 : Addr) : Array Slot := #[.val (.ref a1), .val (.int (0 : Int32)), .val (.int (1 : Int32)), .val (.ref b2), .unset, .unset]
abbrev oL53 (a1 b2 : Addr) : Array Slot := #[.val (.ref a1), .val (.int (0 : Int32)), .val (.int (1 : Int32)), .val (.ref b2), .val (.int (0 : Int32)), .unset]
abbrev oL54 (a1 b2 bX : Addr) : Array Slot := #[.val (.ref a1), .val (.int (0 : Int32)), .val (.int (1 : Int32)), .val (.ref b2), .val (.int (0 : Int32)), .val (.ref bX)]
set_option maxRecDepth 65536 in
set_option maxHeartbeats 40000000 in
theorem rm14_1_0 (l : Launch) (Z : State) (a0 : Array Value) (hw : ∀ d ∈ tables_1, d.before a0 Z = true) (ws : List Jvm.Cond) (a1 : Addr) (_q2 : Int32) (_q3 : Int32) (c0 : Int32) (k_a1 : ClassId) (h0 : Heap) (n0 : Nat) (Z0 : n0 ≤ h0.size) (S__assertionsDisabled : Sta Z Z.heap "java/lang/StringUTF16" "$assertionsDisabled" "Z" (.int (1 : Int32))) (X00 : Old Z n0 h0) (S_HI_BYTE_SHIFT : Sta Z Z.heap "java/lang/StringUTF16" "HI_BYTE_SHIFT" "I" (.int (0 : Int32))) (S_LO_BYTE_SHIFT : Sta Z Z.heap "java/lang/StringUTF16" "LO_BYTE_SHIFT" "I" (.int (8 : Int32))) (V_a1 : Arv Z h0 a1 k_a1 .char (1 : Int32) [(.int c0)] (.int (0 : Int32))) (u0 : (255 : Int32) < c0) (hci : ¬ c0 < 0 ∧ ¬ (65535 : Int32) < c0) (hc38 : (255 : Int32) < c0) :
    MetFree l (⟨"java/lang/StringUTF16", "compress", "([CII)[B"⟩ : MethodName) (head1 (Jvm.Cond.code (⟨"java/lang/StringUTF16", "compress", "([CII)[B"⟩ : MethodName) jdk_52_method_16_code 6 (some (.array .byte)) :: ws) ({ frames := 3, cells := 2, slots := 9, locals := 40 } : Room)) (fun a U => a = #[(.ref a1), (.int (0 : Int32)), (.int (1 : Int32))] ∧ Z.Warmed39 U.vm ∧ U.heap = h0) (fun _ _ _ _ _ => True) (fun _ U o U' => ∃ v L, o = .returned v ∧ own_Q14 Z [c0] h0 n0 v U'.heap L ∧ FrameEnd U o U' L ({ frames := 3, cells := 2, slots := 9, locals := 40 } : Room).cells ({ frames := 3, cells := 2, slots := 9, locals := 40 } : Room).slots) := by
  refine MetFree.of_bodySF (plainFor_of_name pn_14) hisR ?_
  intro p e s m args below meth c s₁ Bd hml0 hP hK
  obtain ⟨rfl, hZ, hh⟩ := hP
  have hx := Bd.exec
  have hby := Bd.bytes
  have hml : c.maxLocals = 6 := hml0
  have hown : s.vm.findClass "java/lang/StringUTF16" = some m.cls := findClass_of_methodNamed Bd.named
  have hnm := (name_of_methodNamed Bd.named Bd.method).1
  have X0 : Stand p l e ({ frames := 3, cells := 2, slots := 9, locals := 40 } : Room) s m #[(.ref a1), (.int (0 : Int32)), (.int (1 : Int32))] below meth c s₁ [] 0 0 := Stand.of_body Bd
  have e0 : s₁.heap = h0 := by rw [← hh, Bd.state]; rfl
  have N0 := Fr.nil n0
  have pre0 : ∀ t, Steps p.tables e below (s₁.setTop (mkF m 0 (oL51 a1) [])) t → Steps p.tables e below (s₁.setTop (entryFrame m #[(.ref a1), (.int (0 : Int32)), (.int (1 : Int32))] 6)) t := fun t k => castTop (ef_14 m a1 (0 : Int32) (1 : Int32)) k
  obtain ⟨T2, h2, k2, X2, e2, E2, A2, st2⟩ := newP X0 hx hZ (hw _ (wI 16 rfl)) e0 (g := (mkF m 1 (oL51 a1) [(.int (1 : Int32))])) rfl (hb hby d14_1) rfl (by decide) (cap := 1) (by decide) (by decide) (by decide) (by decide)
  obtain ⟨b2, g2⟩ : ∃ z, z = h0.size := ⟨_, rfl⟩
  rw [← g2] at A2 st2
  have V_b2 : Arv Z h2 b2 k2 .byte (1 : Int32) [(.int (0 : Int32))] (.int (0 : Int32)) := (Arv.new A2 (by decide)).pad (pad_rep [] (.int (0 : Int32)) 1)
  have g_b2 : n0 ≤ b2 := Nat.le_trans Z0 (Nat.le_of_eq g2.symm)
  have sz_b2 : h0.size ≤ b2 := (Nat.le_trans (Keep.refl h0 []).1 (Nat.le_of_eq g2.symm))
  have K2 : Keep h0 h2 [] := (Keep.refl h0 []).ext E2
  obtain ⟨_, _, ⟨T3, L3, k3, n3⟩, -, X3, ⟨Lc3, hQ3, l3, y3, z3⟩, st3⟩ := Jvm.LawKit.callS X2 hx (y := (⟨"java/lang/StringUTF16", "compress", "([CI[BII)I"⟩ : MethodName)) hown (mvT hZ (hw _ (wI 71 rfl))) (mvT hZ (hw _ (wI 72 rfl))) (mvT hZ (hw _ (wI 69 rfl))) (mvT hZ (hw _ (wI 73 rfl))) (by decide) (backOf (W := 0) (rm15_1_0 l Z a0 hw [] a1 (0 : Int32) b2 (0 : Int32) (1 : Int32) c0 k_a1 k2 h2 n0 (Nat.le_trans Z0 E2.1) (V_a1.ext E2) V_b2 (Nat.ne_of_lt (Nat.lt_of_lt_of_le V_a1.lt sz_b2)) g_b2 u0) hZ (hw _ (wI 73 rfl)) (hw _ (wI 69 rfl)) (by decide) (by decide)) (g := (mkF m 9 (oL52 a1 b2) [(.int (1 : Int32)), (.int (0 : Int32)), (.ref b2), (.int (0 : Int32)), (.ref a1)])) rfl (by rw [hml]; rfl) (argsL := [(.ref a1), (.int (0 : Int32)), (.ref b2), (.int (0 : Int32)), (.int (1 : Int32))]) (rest := []) (lenOf pd_14_12 rfl) rfl (by show 2 * 0 + _ ≤ _; exact Nat.le_of_eq rfl) (hb hby d14_9) (fun _ _ => ⟨rfl, e2, (by decide : 1 + 0 ≤ _), (by decide : 1 + 0 ≤ _)⟩)
  dsimp only [Pt.U, Pt.locs, Pt.cells, Pt.slots] at X3 l3 y3 z3 st3 hQ3
  subst l3 y3 z3
  obtain ⟨rfl, N3q, Kc3⟩ := hQ3
  have N3 := Fr.app N0 N3q
  have Kq3 : Keep h2 T3.heap [b2] := Kc3
  have K3 : Keep h0 T3.heap [] := K2.trans Kq3 (own_trS (Or.inr sz_b2) all0)
  obtain ⟨_, _, ⟨T4, L4, k4, n4⟩, -, X4, ⟨Lc4, hQ4, l4, y4, z4⟩, st4⟩ := Jvm.LawKit.callS X3 hx (y := (⟨"java/lang/StringUTF16", "toBytes", "([CII)[B"⟩ : MethodName)) hown (mvT hZ (hw _ (wI 84 rfl))) (mvT hZ (hw _ (wI 85 rfl))) (mvT hZ (hw _ (wI 69 rfl))) (mvT hZ (hw _ (wI 86 rfl))) (by decide) (backOf (W := 0) (rm19_1 l Z a0 hw [] a1 (0 : Int32) (1 : Int32) c0 k_a1 T3.heap n0 (Nat.le_trans (Nat.le_trans Z0 E2.1) Kq3.1) S__assertionsDisabled (X00.keep K3 all0) S_HI_BYTE_SHIFT S_LO_BYTE_SHIFT ((V_a1.ext E2).keep Kq3 (fun q => absurd (List.mem_singleton.mp q) (Nat.ne_of_lt (Nat.lt_of_lt_of_le V_a1.lt (Nat.le_of_eq g2.symm)))))) hZ (hw _ (wI 86 rfl)) (hw _ (wI 69 rfl)) (by decide) (by decide)) (g := (mkF m 23 (oL53 a1 b2) [(.int (1 : Int32)), (.int (0 : Int32)), (.ref a1)])) rfl (by rw [hml]; rfl) (argsL := [(.ref a1), (.int (0 : Int32)), (.int (1 : Int32))]) (rest := []) (lenOf pd_14_11 rfl) rfl (by show 2 * 0 + _ ≤ _; exact Nat.le_of_eq rfl) (hb hby d14_23) (fun _ _ => ⟨rfl, rfl, (by decide : 1 + 1 ≤ _), (by decide : 1 + 6 ≤ _)⟩)
  dsimp only [Pt.U, Pt.locs, Pt.cells, Pt.slots] at X4 l4 y4 z4 st4 hQ4
  subst l4 y4 z4
  obtain ⟨bX, rfl, N4q, g_bX, gz_bX, Kt4, kX, Vx⟩ := hQ4
  have N4 := Fr.app N3 N4q
  have sz_bX : h0.size ≤ bX := Nat.le_trans K3.1 gz_bX
  have Kq4 : Keep T3.heap T4.heap [] := Kt4
  have K4 : Keep h0 T4.heap [] := K3.trans Kq4 all0
  obtain ⟨_, _, ⟨T5, L5, k5, n5⟩, -, X5, ⟨Lc5, hQ5, l5, y5, z5⟩, st5⟩ := Jvm.LawKit.callS X4 hx (y := (⟨"java/lang/StringUTF16", "getChar", "([BI)C"⟩ : MethodName)) hown (mvT hZ (hw _ (wI 100 rfl))) (mvT hZ (hw _ (wI 101 rfl))) (mvT hZ (hw _ (wI 69 rfl))) (mvT hZ (hw _ (wI 102 rfl))) (by decide) (backOf (W := 0) (rm23 l Z a0 hw [] bX (0 : Int32) 0 (StrChars.lo8 c0) (StrChars.hi8 c0) c0 kX (2 : Int32) [(.int (StrChars.lo8 c0)), (.int (StrChars.hi8 c0))] (.int (0 : Int32)) T4.heap n0 (Nat.le_trans (Nat.le_trans (Nat.le_trans Z0 E2.1) Kq3.1) Kq4.1) S__assertionsDisabled (X00.keep K4 all0) S_HI_BYTE_SHIFT S_LO_BYTE_SHIFT Vx ⟨by decide, by decide⟩ (by decide) rfl ⟨by decide, by decide⟩ (by decide) rfl (own_pair hci)) hZ (hw _ (wI 102 rfl)) (hw _ (wI 69 rfl)) (by decide) (by decide)) (g := (mkF m 32 (oL54 a1 b2 bX) [(.int (0 : Int32)), (.ref bX)])) rfl (by rw [hml]; rfl) (argsL := [(.ref bX), (.int (0 : Int32))]) (rest := []) (lenOf pd_14_17 rfl) rfl (by show 2 * 0 + _ ≤ _; exact Nat.le_of_eq rfl) (hb hby d14_32) (fun _ _ => ⟨rfl, rfl, (by decide : 2 + 0 ≤ _), (by decide : 7 + 0 ≤ _)⟩)
  dsimp only [Pt.U, Pt.locs, Pt.cells, Pt.slots] at X5 l5 y5 z5 st5 hQ5
  subst l5 y5 z5
  obtain ⟨rfl, N5q, eq5⟩ := hQ5
  have N5 := Fr.app N4 N5q
  have Kq5 : Keep T4.heap T5.heap [] := (own_keq eq5)
  have K5 : Keep h0 T5.heap [] := K4.trans Kq5 all0
  have End_0 := (Vx.keep Kq5 (fun q => nomatch q))
  obtain ⟨fs, hr, hrun, hended, hW, hsame⟩ := X5.leave (v := some (.ref bX)) (fun h => by rw [Bd.returns] at h; cases h)
  refine ⟨_, _, pre0 _ ?_, hrun, hended, _, _, rfl, ?_, ⟨_, rfl⟩, hW, hsame.mono (by decide) (by decide)⟩
  · show Steps p.tables e below (s₁.setTop (mkF m 0 (oL51 a1) [])) _
    refine XS.iloadN X0.here hx rfl (hb hby d14_0) rfl ?_
    refine st2 _ ?_
    refine XS.astoreN X2.here hx rfl (hb hby d14_3) rfl rfl (l' := (oL52 a1 b2)) rfl ?_
    refine XS.aloadN X2.here hx rfl (hb hby d14_4) rfl rfl ?_
    refine XS.iloadN X2.here hx rfl (hb hby d14_5) rfl ?_
    show Steps p.tables e below (T2.setTop (mkF m 6 (oL52 a1 b2) [(.int (0 : Int32)), (.ref a1)])) _
    refine XS.aloadN X2.here hx rfl (hb hby d14_6) rfl rfl ?_
    refine XS.iconst X2.here hx rfl (hb hby d14_7) ?_
    refine XS.iloadN X2.here hx rfl (hb hby d14_8) rfl ?_
    refine st3 _ ?_
    refine XS.istore X3.here hx rfl (hb hby d14_12) rfl (l' := (oL53 a1 b2)) rfl ?_
    show Steps p.tables e below (T3.setTop (mkF m 14 (oL53 a1 b2) [])) _
    refine XS.iload X3.here hx rfl (hb hby d14_14) rfl ?_
    refine XS.iloadN X3.here hx rfl (hb hby d14_16) rfl ?_
    refine XS.icmpNo X3.here hx rfl (hb hby d14_17) rfl (feq (by decide : ¬ ((0 : Int32) = (1 : Int32)))).1 ?_
    refine XS.aloadN X3.here hx rfl (hb hby d14_20) rfl rfl ?_
    refine XS.iloadN X3.here hx rfl (hb hby d14_21) rfl ?_
    show Steps p.tables e below (T3.setTop (mkF m 22 (oL53 a1 b2) [(.int (0 : Int32)), (.ref a1)])) _
    refine XS.iloadN X3.here hx rfl (hb hby d14_22) rfl ?_
    refine st4 _ ?_
    refine XS.astore X4.here hx rfl (hb hby d14_26) rfl rfl (l' := (oL54 a1 b2 bX)) rfl ?_
    refine XS.aload X4.here hx rfl (hb hby d14_28) rfl rfl ?_
    refine XS.iload X4.here hx rfl (hb hby d14_30) rfl ?_
    show Steps p.tables e below (T4.setTop (mkF m 32 (oL54 a1 b2 bX) [(.int (0 : Int32)), (.ref bX)])) _
    refine st5 _ ?_
    refine XS.sipush X5.here hx rfl (hb hby d14_35) ?_
    refine XS.icmpYes X5.here hx rfl (pc0 := 38) (pc' := 54) rfl (hb hby d14_38) rfl (tlt hc38).2.2.1 (by decide) (by decide) ?_
    refine XS.aload X5.here hx rfl (hb hby d14_54) rfl rfl ?_
    jvm_step X5.here [X5.here.top, hx, (hb hby d14_56), X5.method', Bd.returns, Value.isRef, FieldType.isReference]
    first | (intro acts; rw [hr _ acts rfl rfl rfl]) | rw [hr _ _ rfl rfl rfl]
    exact Steps.refl _
  · show own_Q14 Z [c0] h0 n0 _ T5.heap _
    exact ⟨bX, rfl, N5, g_bX, sz_bX, K5, kX, 1, _, _, End_0, Or.inr ⟨rfl, rfl, rfl⟩⟩
abbrev oL55 (a1 b2 : Addr) : Array Slot := #[.val (.ref a1), .val (.int (0 : Int32)), .val (.int (1 : Int32)), .val (.ref b2), .val (.int (1 : Int32)), .unset]
set_option maxRecDepth 65536 in
set_option maxHeartbeats 40000000 in
theorem rm14_1_L (l : Launch) (Z : State) (a0 : Array Value) (hw : ∀ d ∈ tables_1, d.before a0 Z = true) (ws : List Jvm.Cond) (a1 : Addr) (_q2 : Int32) (_q3 : Int32) (c0 : Int32) (k_a1 : ClassId) (h0 : Heap) (n0 : Nat) (Z0 : n0 ≤ h0.size) (S__assertionsDisabled : Sta Z Z.heap "java/lang/StringUTF16" "$assertionsDisabled" "Z" (.int (1 : Int32))) (X00 : Old Z n0 h0) (S_HI_BYTE_SHIFT : Sta Z Z.heap "java/lang/StringUTF16" "HI_BYTE_SHIFT" "I" (.int (0 : Int32))) (S_LO_BYTE_SHIFT : Sta Z Z.heap "java/lang/StringUTF16" "LO_BYTE_SHIFT" "I" (.int (8 : Int32))) (V_a1 : Arv Z h0 a1 k_a1 .char (1 : Int32) [(.int c0)] (.int (0 : Int32))) (hlat : ∀ c ∈ [c0], ¬ (255 : Int32) < c) :
    MetFree l (⟨"java/lang/StringUTF16", "compress", "([CII)[B"⟩ : MethodName) (head1 (Jvm.Cond.code (⟨"java/lang/StringUTF16", "compress", "([CII)[B"⟩ : MethodName) jdk_52_method_16_code 6 (some (.array .byte)) :: ws) ({ frames := 3, cells := 2, slots := 9, locals := 40 } : Room)) (fun a U => a = #[(.ref a1), (.int (0 : Int32)), (.int (1 : Int32))] ∧ Z.Warmed39 U.vm ∧ U.heap = h0) (fun _ _ _ _ _ => True) (fun _ U o U' => ∃ v L, o = .returned v ∧ own_Q14 Z [c0] h0 n0 v U'.heap L ∧ FrameEnd U o U' L ({ frames := 3, cells := 2, slots := 9, locals := 40 } : Room).cells ({ frames := 3, cells := 2, slots := 9, locals := 40 } : Room).slots) := by
  refine MetFree.of_bodySF (plainFor_of_name pn_14) hisR ?_
  intro p e s m args below meth c s₁ Bd hml0 hP hK
  obtain ⟨rfl, hZ, hh⟩ := hP
  have hx := Bd.exec
  have hby := Bd.bytes
  have hml : c.maxLocals = 6 := hml0
  have hown : s.vm.findClass "java/lang/StringUTF16" = some m.cls := findClass_of_methodNamed Bd.named
  have hnm := (name_of_methodNamed Bd.named Bd.method).1
  have X0 : Stand p l e ({ frames := 3, cells := 2, slots := 9, locals := 40 } : Room) s m #[(.ref a1), (.int (0 : Int32)), (.int (1 : Int32))] below meth c s₁ [] 0 0 := Stand.of_body Bd
  have e0 : s₁.heap = h0 := by rw [← hh, Bd.state]; rfl
  have N0 := Fr.nil n0
  have pre0 : ∀ t, Steps p.tables e below (s₁.setTop (mkF m 0 (oL51 a1) [])) t → Steps p.tables e below (s₁.setTop (entryFrame m #[(.ref a1), (.int (0 : Int32)), (.int (1 : Int32))] 6)) t := fun t k => castTop (ef_14 m a1 (0 : Int32) (1 : Int32)) k
  obtain ⟨T2, h2, k2, X2, e2, E2, A2, st2⟩ := newP X0 hx hZ (hw _ (wI 16 rfl)) e0 (g := (mkF m 1 (oL51 a1) [(.int (1 : Int32))])) rfl (hb hby d14_1) rfl (by decide) (cap := 1) (by decide) (by decide) (by decide) (by decide)
  obtain ⟨b2, g2⟩ : ∃ z, z = h0.size := ⟨_, rfl⟩
  rw [← g2] at A2 st2
  have V_b2 : Arv Z h2 b2 k2 .byte (1 : Int32) [(.int (0 : Int32))] (.int (0 : Int32)) := (Arv.new A2 (by decide)).pad (pad_rep [] (.int (0 : Int32)) 1)
  have g_b2 : n0 ≤ b2 := Nat.le_trans Z0 (Nat.le_of_eq g2.symm)
  have sz_b2 : h0.size ≤ b2 := (Nat.le_trans (Keep.refl h0 []).1 (Nat.le_of_eq g2.symm))
  have K2 : Keep h0 h2 [] := (Keep.refl h0 []).ext E2
  obtain ⟨_, _, ⟨T3, L3, k3, n3⟩, -, X3, ⟨Lc3, hQ3, l3, y3, z3⟩, st3⟩ := Jvm.LawKit.callS X2 hx (y := (⟨"java/lang/StringUTF16", "compress", "([CI[BII)I"⟩ : MethodName)) hown (mvT hZ (hw _ (wI 71 rfl))) (mvT hZ (hw _ (wI 72 rfl))) (mvT hZ (hw _ (wI 69 rfl))) (mvT hZ (hw _ (wI 73 rfl))) (by decide) (backOf (W := 0) (rm15_1_L l Z a0 hw [] a1 (0 : Int32) b2 (0 : Int32) (1 : Int32) c0 k_a1 k2 h2 n0 (Nat.le_trans Z0 E2.1) (V_a1.ext E2) V_b2 (Nat.ne_of_lt (Nat.lt_of_lt_of_le V_a1.lt sz_b2)) g_b2 (hlat c0 (by simp))) hZ (hw _ (wI 73 rfl)) (hw _ (wI 69 rfl)) (by decide) (by decide)) (g := (mkF m 9 (oL52 a1 b2) [(.int (1 : Int32)), (.int (0 : Int32)), (.ref b2), (.int (0 : Int32)), (.ref a1)])) rfl (by rw [hml]; rfl) (argsL := [(.ref a1), (.int (0 : Int32)), (.ref b2), (.int (0 : Int32)), (.int (1 : Int32))]) (rest := []) (lenOf pd_14_12 rfl) rfl (by show 2 * 0 + _ ≤ _; exact Nat.le_of_eq rfl) (hb hby d14_9) (fun _ _ => ⟨rfl, e2, (by decide : 1 + 0 ≤ _), (by decide : 1 + 0 ≤ _)⟩)
  dsimp only [Pt.U, Pt.locs, Pt.cells, Pt.slots] at X3 l3 y3 z3 st3 hQ3
  subst l3 y3 z3
  obtain ⟨rfl, N3q, Kc3, Vq3⟩ := hQ3
  have N3 := Fr.app N0 N3q
  have Kq3 : Keep h2 T3.heap [b2] := Kc3
  have K3 : Keep h0 T3.heap [] := K2.trans Kq3 (own_trS (Or.inr sz_b2) all0)
  have End_0 := Vq3
  obtain ⟨fs, hr, hrun, hended, hW, hsame⟩ := X3.leave (v := some (.ref b2)) (fun h => by rw [Bd.returns] at h; cases h)
  refine ⟨_, _, pre0 _ ?_, hrun, hended, _, _, rfl, ?_, ⟨_, rfl⟩, hW, hsame.mono (by decide) (by decide)⟩
  · show Steps p.tables e below (s₁.setTop (mkF m 0 (oL51 a1) [])) _
    refine XS.iloadN X0.here hx rfl (hb hby d14_0) rfl ?_
    refine st2 _ ?_
    refine XS.astoreN X2.here hx rfl (hb hby d14_3) rfl rfl (l' := (oL52 a1 b2)) rfl ?_
    refine XS.aloadN X2.here hx rfl (hb hby d14_4) rfl rfl ?_
    refine XS.iloadN X2.here hx rfl (hb hby d14_5) rfl ?_
    show Steps p.tables e below (T2.setTop (mkF m 6 (oL52 a1 b2) [(.int (0 : Int32)), (.ref a1)])) _
    refine XS.aloadN X2.here hx rfl (hb hby d14_6) rfl rfl ?_
    refine XS.iconst X2.here hx rfl (hb hby d14_7) ?_
    refine XS.iloadN X2.here hx rfl (hb hby d14_8) rfl ?_
    refine st3 _ ?_
    refine XS.istore X3.here hx rfl (hb hby d14_12) rfl (l' := (oL55 a1 b2)) rfl ?_
    show Steps p.tables e below (T3.setTop (mkF m 14 (oL55 a1 b2) [])) _
    refine XS.iload X3.here hx rfl (hb hby d14_14) rfl ?_
    refine XS.iloadN X3.here hx rfl (hb hby d14_16) rfl ?_
    refine XS.icmpYes X3.here hx rfl (pc0 := 17) (pc' := 57) rfl (hb hby d14_17) rfl (teq (rfl : (1 : Int32) = (1 : Int32))).1 (by decide) (by decide) ?_
    refine XS.aloadN X3.here hx rfl (hb hby d14_57) rfl rfl ?_
    jvm_step X3.here [X3.here.top, hx, (hb hby d14_58), X3.method', Bd.returns, Value.isRef, FieldType.isReference]
    first | (intro acts; rw [hr _ acts rfl rfl rfl]) | rw [hr _ _ rfl rfl rfl]
    exact Steps.refl _
  · show own_Q14 Z [c0] h0 n0 _ T3.heap _
    exact ⟨b2, rfl, N3, g_b2, sz_b2, K3, k2, 0, _, _, End_0, Or.inl ⟨rfl, rfl, rfl, hlat⟩⟩
theorem rm14 (l : Launch) (Z : State) (a0 : Array Value) (hw : ∀ d ∈ tables_1, d.before a0 Z = true) (ws : List Jvm.Cond) (a1 : Addr) (_q2 : Int32) (_q3 : Int32) (cs : List Int32) (k_a1 : ClassId) (h0 : Heap) (n0 : Nat) (Z0 : n0 ≤ h0.size) (S__assertionsDisabled : Sta Z Z.heap "java/lang/StringUTF16" "$assertionsDisabled" "Z" (.int (1 : Int32))) (X00 : Old Z n0 h0) (S_HI_BYTE_SHIFT : Sta Z Z.heap "java/lang/StringUTF16" "HI_BYTE_SHIFT" "I" (.int (0 : Int32))) (S_LO_BYTE_SHIFT : Sta Z Z.heap "java/lang/StringUTF16" "LO_BYTE_SHIFT" "I" (.int (8 : Int32))) (V_a1 : Arv Z h0 a1 k_a1 .char (Int32.ofNat cs.length) (cs.map Value.int) (.int (0 : Int32))) (hl : cs.length = 1 ∨ cs.length = 2 ∨ cs.length = 3) (hcs : ∀ c ∈ cs, ¬ c < 0 ∧ ¬ (65535 : Int32) < c) :
    MetFree l (⟨"java/lang/StringUTF16", "compress", "([CII)[B"⟩ : MethodName) (head1 (Jvm.Cond.code (⟨"java/lang/StringUTF16", "compress", "([CII)[B"⟩ : MethodName) jdk_52_method_16_code 6 (some (.array .byte)) :: ws) ({ frames := 3, cells := 2, slots := 9, locals := 40 } : Room)) (fun a U => a = #[(.ref a1), (.int (0 : Int32)), (.int (Int32.ofNat cs.length))] ∧ Z.Warmed39 U.vm ∧ U.heap = h0) (fun _ _ _ _ _ => True) (fun _ U o U' => ∃ v L, o = .returned v ∧ own_Q14 Z cs h0 n0 v U'.heap L ∧ FrameEnd U o U' L ({ frames := 3, cells := 2, slots := 9, locals := 40 } : Room).cells ({ frames := 3, cells := 2, slots := 9, locals := 40 } : Room).slots) := by
  rcases hl with hl | hl | hl
  · obtain ⟨c0, rfl⟩ := own_l1 hl
    by_cases u0 : (255 : Int32) < c0
    · exact rm14_1_0 l Z a0 hw ws a1 0 1 c0 k_a1 h0 n0 Z0 S__assertionsDisabled X00 S_HI_BYTE_SHIFT S_LO_BYTE_SHIFT V_a1 u0 (hcs c0 (by simp)) u0
    · exact rm14_1_L l Z a0 hw ws a1 0 1 c0 k_a1 h0 n0 Z0 S__assertionsDisabled X00 S_HI_BYTE_SHIFT S_LO_BYTE_SHIFT V_a1 (by intro c hc; simp only [List.mem_cons, List.not_mem_nil, or_false] at hc; rcases hc with rfl <;> assumption)
  · obtain ⟨c0, c1, rfl⟩ := own_l2 hl
    by_cases u0 : (255 : Int32) < c0
    · exact rm14_2_0 l Z a0 hw ws a1 0 2 c0 c1 k_a1 h0 n0 Z0 S__assertionsDisabled X00 S_HI_BYTE_SHIFT S_LO_BYTE_SHIFT V_a1 u0 (hcs c0 (by simp)) u0
    · by_cases u1 : (255 : Int32) < c1
      · exact rm14_2_1 l Z a0 hw ws a1 0 2 c0 c1 k_a1 h0 n0 Z0 S__assertionsDisabled X00 S_HI_BYTE_SHIFT S_LO_BYTE_SHIFT V_a1 u0 u1 (hcs c1 (by simp)) u1
      · exact rm14_2_L l Z a0 hw ws a1 0 2 c0 c1 k_a1 h0 n0 Z0 S__assertionsDisabled X00 S_HI_BYTE_SHIFT S_LO_BYTE_SHIFT V_a1 (by intro c hc; simp only [List.mem_cons, List.not_mem_nil, or_false] at hc; rcases hc with rfl | rfl <;> assumption)
  · obtain ⟨c0, c1, c2, rfl⟩ := own_l3 hl
    by_cases u0 : (255 : Int32) < c0
    · exact rm14_3_0 l Z a0 hw ws a1 0 3 c0 c1 c2 k_a1 h0 n0 Z0 S__assertionsDisabled X00 S_HI_BYTE_SHIFT S_LO_BYTE_SHIFT V_a1 u0 (hcs c0 (by simp)) u0
    · by_cases u1 : (255 : Int32) < c1
      · exact rm14_3_1 l Z a0 hw ws a1 0 3 c0 c1 c2 k_a1 h0 n0 Z0 S__assertionsDisabled X00 S_HI_BYTE_SHIFT S_LO_BYTE_SHIFT V_a1 u0 u1 (hcs c1 (by simp)) u1
      · by_cases u2 : (255 : Int32) < c2
        · exact rm14_3_2 l Z a0 hw ws a1 0 3 c0 c1 c2 k_a1 h0 n0 Z0 S__assertionsDisabled X00 S_HI_BYTE_SHIFT S_LO_BYTE_SHIFT V_a1 u0 u1 u2 (hcs c2 (by simp)) u2
        · exact rm14_3_L l Z a0 hw ws a1 0 3 c0 c1 c2 k_a1 h0 n0 Z0 S__assertionsDisabled X00 S_HI_BYTE_SHIFT S_LO_BYTE_SHIFT V_a1 (by intro c hc; simp only [List.mem_cons, List.not_mem_nil, or_false] at hc; rcases hc with rfl | rfl | rfl <;> assumption)
theorem d16_0 : decode jdk_52_method_15_code 0 = .ok (.iload_n 1, 1) := by decide +kernel
theorem d16_1 : decode jdk_52_method_15_code 1 = .ok (.aload_n 0, 1) := by decide +kernel
theorem d16_2 : decode jdk_52_method_15_code 2 = .ok (.arraylength, 1) := by decide +kernel
theorem d16_3 : decode jdk_52_method_15_code 3 = .ok (.isub, 1) := by decide +kernel
theorem d16_4 : decode jdk_52_method_15_code 4 = .ok (.bipush 31, 2) := by decide +kernel
theorem d16_6 : decode jdk_52_method_15_code 6 = .ok (.iushr, 1) := by decide +kernel
theorem d16_7 : decode jdk_52_method_15_code 7 = .ok (.i2b, 1) := by decide +kernel
theorem d16_8 : decode jdk_52_method_15_code 8 = .ok (.ireturn, 1) := by decide +kernel
theorem pn_16 : plainName "java/lang/StringUTF16" = true := by first | (simp [plainName, overriddenIn]; done) | decide +kernel
theorem ef_16 (m : MethodId) (x0 : Addr) (x1 : Int32) : entryFrame m #[(.ref x0), (.int x1)] 2 = mkF m 0 #[.val (.ref x0), .val (.int x1)] [] := by first | (simp [entryFrame, mkF, argsToLocals, Value.category]; done) | rfl
set_option maxRecDepth 65536 in
set_option maxHeartbeats 40000000 in
theorem rm16 (l : Launch) (Z : State) (a0 : Array Value) (hw : ∀ d ∈ tables_1, d.before a0 Z = true) (ws : List Jvm.Cond) (a1 : Addr) (p2 : Int32) (r : Int32) (k_a1 : ClassId) (z_a1 : Int32) (vs_a1 : List Value) (dv_a1 : Value) (h0 : Heap) (n0 : Nat) (Z0 : n0 ≤ h0.size) (V_a1 : Arv Z h0 a1 k_a1 .byte z_a1 vs_a1 dv_a1) (hR : nar .byte ((((p2 - z_a1).toUInt32 >>> ((31 : Int32) &&& 31).toUInt32).toInt32).toInt8.toInt32) = r) :
    MetFree l (⟨"java/lang/StringUTF16", "coderFromArrayLen", "([BI)B"⟩ : MethodName) (head1 (Jvm.Cond.code (⟨"java/lang/StringUTF16", "coderFromArrayLen", "([BI)B"⟩ : MethodName) jdk_52_method_15_code 2 (some .byte) :: ws) ({ frames := 0, cells := 0, slots := 0, locals := 0 } : Room)) (fun a U => a = #[(.ref a1), (.int p2)] ∧ Z.Warmed39 U.vm ∧ U.heap = h0) (fun _ _ _ _ _ => True) (fun _ U o U' => ∃ v L, o = .returned v ∧ own_QR (.int r) h0 n0 v U'.heap L ∧ FrameEnd U o U' L ({ frames := 0, cells := 0, slots := 0, locals := 0 } : Room).cells ({ frames := 0, cells := 0, slots := 0, locals := 0 } : Room).slots) := by
  refine MetFree.of_bodySF (plainFor_of_name pn_16) hisR ?_
  intro p e s m args below meth c s₁ Bd hml0 hP hK
  obtain ⟨rfl, hZ, hh⟩ := hP
  have hx := Bd.exec
  have hby := Bd.bytes
  have hml : c.maxLocals = 2 := hml0
  have hown : s.vm.findClass "java/lang/StringUTF16" = some m.cls := findClass_of_methodNamed Bd.named
  have hnm := (name_of_methodNamed Bd.named Bd.method).1
  have X0 : Stand p l e ({ frames := 0, cells := 0, slots := 0, locals := 0 } : Room) s m #[(.ref a1), (.int p2)] below meth c s₁ [] 0 0 := Stand.of_body Bd
  have e0 : s₁.heap = h0 := by rw [← hh, Bd.state]; rfl
  have N0 := Fr.nil n0
  have pre0 : ∀ t, Steps p.tables e below (s₁.setTop (mkF m 0 #[.val (.ref a1), .val (.int p2)] [])) t → Steps p.tables e below (s₁.setTop (entryFrame m #[(.ref a1), (.int p2)] 2)) t := fun t k => castTop (ef_16 m a1 p2) k
  obtain ⟨cl_a1_2, Ar_a1, -, S_a1, N_a1, -, -⟩ := id V_a1
  obtain ⟨fs, hr, hrun, hended, hW, hsame⟩ := X0.leave (v := some (.int (nar .byte ((((p2 - z_a1).toUInt32 >>> ((31 : Int32) &&& 31).toUInt32).toInt32).toInt8.toInt32)))) (fun h => by rw [Bd.returns] at h; cases h)
  refine ⟨_, _, pre0 _ ?_, hrun, hended, _, _, rfl, ?_, ⟨_, rfl⟩, hW, hsame.mono (by decide) (by decide)⟩
  · show Steps p.tables e below (s₁.setTop (mkF m 0 #[.val (.ref a1), .val (.int p2)] [])) _
    refine XS.iloadN X0.here hx rfl (hb hby d16_0) rfl ?_
    refine XS.aloadN X0.here hx rfl (hb hby d16_1) rfl rfl ?_
    refine X0.arraylength hx (by rw [e0]; exact Ar_a1.1) (State.isArrayOf_alike hZ.alike Ar_a1.2.1) (g := (mkF m 2 #[.val (.ref a1), .val (.int p2)] [(.ref a1), (.int p2)])) rfl rfl (hb hby d16_2) _ ?_
    rw [len_of S_a1 N_a1]
    refine XS.isub X0.here hx rfl (hb hby d16_3) rfl ?_
    refine XS.bipush X0.here hx rfl (hb hby d16_4) ?_
    show Steps p.tables e below (s₁.setTop (mkF m 6 #[.val (.ref a1), .val (.int p2)] [(.int (31 : Int32)), (.int (p2 - z_a1))])) _
    refine XS.iushr X0.here hx rfl (hb hby d16_6) rfl ?_
    refine XS.i2b X0.here hx rfl (hb hby d16_7) rfl ?_
    exact retN X0 hx (t := .byte) Bd.returns (by simp) (hb hby d16_8) hr
  · show own_QR (.int r) h0 n0 _ s₁.heap _
    rw [e0]
    exact ⟨congrArg (fun z => some (Value.int z)) hR, N0, rfl⟩
theorem own_cdr {cs : List Int32} {cd z : Int32} {vs : List Value} (h : own_cod cs cd z vs) (hl : cs.length = 1 ∨ cs.length = 2 ∨ cs.length = 3) : nar .byte ((((Int32.ofNat cs.length - z).toUInt32 >>> ((31 : Int32) &&& 31).toUInt32).toInt32).toInt8.toInt32) = cd := by
  rcases h with ⟨rfl, rfl, -, -⟩ | ⟨rfl, rfl, -⟩ <;> rcases hl with hl | hl | hl <;> rw [hl] <;> decide
theorem own_ncd {cs : List Int32} {cd z : Int32} {vs : List Value} (h : own_cod cs cd z vs) : nar .byte cd = cd := by
  rcases h with ⟨rfl, -⟩ | ⟨rfl, -⟩ <;> decide
theorem own_ne0 {cs : List Int32} (hl : cs.length = 1 ∨ cs.length = 2 ∨ cs.length = 3) : ¬ (Int32.ofNat cs.length = (0 : Int32)) := by
  rcases hl with hl | hl | hl <;> rw [hl] <;> decide
def own_QI (Z : State) (a1 : Addr) (cs : List Int32) (h0 : Heap) (n0 : Nat) (v : Option Value) (h : Heap) (L : List Loc) : Prop := v = none ∧ Fr n0 L ∧ Keep h0 h [a1] ∧ ∃ (t : Addr) (k : ClassId) (cd z : Int32) (vs : List Value), n0 ≤ t ∧ h0.size ≤ t ∧ Fld Z h a1 "java/lang/String" "value" "[B" (.ref t) ∧ Fld Z h a1 "java/lang/String" "coder" "B" (.int cd) ∧ Arv Z h t k .byte z vs (.int (0 : Int32)) ∧ own_cod cs cd z vs
theorem d2_0 : decode jdk_42_method_149_code 0 = .ok (.aload_n 0, 1) := by decide +kernel
theorem d2_1 : decode jdk_42_method_149_code 1 = .ok (.invokespecial 1, 3) := by decide +kernel
theorem d2_4 : decode jdk_42_method_149_code 4 = .ok (.iload_n 3, 1) := by decide +kernel
theorem d2_5 : decode jdk_42_method_149_code 5 = .ok (.ifCond .ne 22, 3) := by decide +kernel
theorem d2_27 : decode jdk_42_method_149_code 27 = .ok (.getstatic 38, 3) := by decide +kernel
theorem d2_30 : decode jdk_42_method_149_code 30 = .ok (.ifCond .eq 28, 3) := by decide +kernel
theorem d2_33 : decode jdk_42_method_149_code 33 = .ok (.aload_n 1, 1) := by decide +kernel
theorem d2_34 : decode jdk_42_method_149_code 34 = .ok (.iload_n 2, 1) := by decide +kernel
theorem d2_35 : decode jdk_42_method_149_code 35 = .ok (.iload_n 3, 1) := by decide +kernel
theorem d2_36 : decode jdk_42_method_149_code 36 = .ok (.invokestatic 177, 3) := by decide +kernel
theorem d2_39 : decode jdk_42_method_149_code 39 = .ok (.astore 5, 2) := by decide +kernel
theorem d2_41 : decode jdk_42_method_149_code 41 = .ok (.aload_n 0, 1) := by decide +kernel
theorem d2_42 : decode jdk_42_method_149_code 42 = .ok (.aload 5, 2) := by decide +kernel
theorem d2_44 : decode jdk_42_method_149_code 44 = .ok (.iload_n 3, 1) := by decide +kernel
theorem d2_45 : decode jdk_42_method_149_code 45 = .ok (.invokestatic 47, 3) := by decide +kernel
theorem d2_48 : decode jdk_42_method_149_code 48 = .ok (.putfield 15, 3) := by decide +kernel
theorem d2_51 : decode jdk_42_method_149_code 51 = .ok (.aload_n 0, 1) := by decide +kernel
theorem d2_52 : decode jdk_42_method_149_code 52 = .ok (.aload 5, 2) := by decide +kernel
theorem d2_54 : decode jdk_42_method_149_code 54 = .ok (.putfield 9, 3) := by decide +kernel
theorem d2_57 : decode jdk_42_method_149_code 57 = .ok (.return_, 1) := by decide +kernel
theorem pn_2 : plainName "java/lang/String" = true := by first | (simp [plainName, overriddenIn]; done) | decide +kernel
theorem pd_2_11 : parseMethodDescriptor "([CII)[B" = some ⟨[(.array .char), .int, .int], some (.array .byte)⟩ := by decide +kernel
theorem pd_2_13 : parseMethodDescriptor "([BI)B" = some ⟨[(.array .byte), .int], some .byte⟩ := by decide +kernel
theorem ef_2_null4 (m : MethodId) (x0 : Addr) (x1 : Addr) (x2 : Int32) (x3 : Int32) : entryFrame m #[(.ref x0), (.ref x1), (.int x2), (.int x3), .null] 6 = mkF m 0 #[.val (.ref x0), .val (.ref x1), .val (.int x2), .val (.int x3), .val .null, .unset] [] := by first | (simp [entryFrame, mkF, argsToLocals, Value.category]; done) | rfl
abbrev oL56 (a1 a2 : Addr) (cs : List Int32) : Array Slot := #[.val (.ref a1), .val (.ref a2), .val (.int (0 : Int32)), .val (.int (Int32.ofNat cs.length)), .val .null, .unset]
abbrev oL57 (a1 a2 tX : Addr) (cs : List Int32) : Array Slot := #[.val (.ref a1), .val (.ref a2), .val (.int (0 : Int32)), .val (.int (Int32.ofNat cs.length)), .val .null, .val (.ref tX)]
set_option maxRecDepth 65536 in
set_option maxHeartbeats 40000000 in
theorem rm2 (l : Launch) (Z : State) (a0 : Array Value) (hw : ∀ d ∈ tables_1, d.before a0 Z = true) (ws : List Jvm.Cond) (a1 : Addr) (a2 : Addr) (_q3 : Int32) (_q4 : Int32) (G1 : Int32) (cs : List Int32) (k_a2 : ClassId) (h0 : Heap) (n0 : Nat) (Z0 : n0 ≤ h0.size) (S_COMPACT_STRINGS : Sta Z Z.heap "java/lang/String" "COMPACT_STRINGS" "Z" (.int G1)) (X00 : Old Z n0 h0) (P3 : ¬ (G1 = (0 : Int32))) (S__assertionsDisabled : Sta Z Z.heap "java/lang/StringUTF16" "$assertionsDisabled" "Z" (.int (1 : Int32))) (S_HI_BYTE_SHIFT : Sta Z Z.heap "java/lang/StringUTF16" "HI_BYTE_SHIFT" "I" (.int (0 : Int32))) (S_LO_BYTE_SHIFT : Sta Z Z.heap "java/lang/StringUTF16" "LO_BYTE_SHIFT" "I" (.int (8 : Int32))) (E_a1 : Exa Z h0 a1 "java/lang/String") (F_value_a1 : Fld Z h0 a1 "java/lang/String" "value" "[B" .null) (F_coder_a1 : Fld Z h0 a1 "java/lang/String" "coder" "B" (.int (0 : Int32))) (V_a2 : Arv Z h0 a2 k_a2 .char (Int32.ofNat cs.length) (cs.map Value.int) (.int (0 : Int32))) (g_a1 : n0 ≤ a1) (hl : cs.length = 1 ∨ cs.length = 2 ∨ cs.length = 3) (hcs : ∀ c ∈ cs, ¬ c < 0 ∧ ¬ (65535 : Int32) < c) (hc5 : ¬ ((Int32.ofNat cs.length) = (0 : Int32))) :
    MetFree l (⟨"java/lang/String", "<init>", "([CIILjava/lang/Void;)V"⟩ : MethodName) (head1 (Jvm.Cond.code (⟨"java/lang/String", "<init>", "([CIILjava/lang/Void;)V"⟩ : MethodName) jdk_42_method_149_code 6 none :: ws) ({ frames := 4, cells := 2, slots := 9, locals := 57 } : Room)) (fun a U => a = #[(.ref a1), (.ref a2), (.int (0 : Int32)), (.int (Int32.ofNat cs.length)), .null] ∧ Z.Warmed39 U.vm ∧ U.heap = h0) (fun _ _ _ _ _ => True) (fun _ U o U' => ∃ v L, o = .returned v ∧ own_QI Z a1 cs h0 n0 v U'.heap L ∧ FrameEnd U o U' L ({ frames := 4, cells := 2, slots := 9, locals := 57 } : Room).cells ({ frames := 4, cells := 2, slots := 9, locals := 57 } : Room).slots) := by
  refine MetFree.of_bodySF (plainFor_of_name pn_2) hisR ?_
  intro p e s m args below meth c s₁ Bd hml0 hP hK
  obtain ⟨rfl, hZ, hh⟩ := hP
  have hx := Bd.exec
  have hby := Bd.bytes
  have hml : c.maxLocals = 6 := hml0
  have hown : s.vm.findClass "java/lang/String" = some m.cls := findClass_of_methodNamed Bd.named
  have hnm := (name_of_methodNamed Bd.named Bd.method).1
  have X0 : Stand p l e ({ frames := 4, cells := 2, slots := 9, locals := 57 } : Room) s m #[(.ref a1), (.ref a2), (.int (0 : Int32)), (.int (Int32.ofNat cs.length)), .null] below meth c s₁ [] 0 0 := Stand.of_body Bd
  have e0 : s₁.heap = h0 := by rw [← hh, Bd.state]; rfl
  have N0 := Fr.nil n0
  have pre0 : ∀ t, Steps p.tables e below (s₁.setTop (mkF m 0 (oL56 a1 a2 cs) [])) t → Steps p.tables e below (s₁.setTop (entryFrame m #[(.ref a1), (.ref a2), (.int (0 : Int32)), (.int (Int32.ofNat cs.length)), .null] 6)) t := fun t k => castTop (ef_2_null4 m a1 a2 (0 : Int32) (Int32.ofNat cs.length)) k
  obtain ⟨T3, X3, e3, st3⟩ := initO X0 hx hZ hown (hw _ (wI 12 rfl)) (hw _ (wI 13 rfl)) (hw _ (wI 14 rfl)) e0 (g := (mkF m 1 (oL56 a1 a2 cs) [(.ref a1)])) rfl (by rw [hml]; rfl) rfl (hb hby d2_1) (by decide) (W := 0) (by show 2 * 0 + _ ≤ _; exact Nat.le_of_eq rfl) (by decide)
  obtain ⟨T4, X4, e4, st4⟩ := getS2 X3 hx hZ hown (host := "") (Or.inl (hw _ (wI 42 rfl))) Via.refl e3 (S_COMPACT_STRINGS.ext X00.2) (g := (mkF m 27 (oL56 a1 a2 cs) [])) rfl (hb hby d2_27)
  obtain ⟨_, _, ⟨T5, L5, k5, n5⟩, -, X5, ⟨Lc5, hQ5, l5, y5, z5⟩, st5⟩ := Jvm.LawKit.callS X4 hx (y := (⟨"java/lang/StringUTF16", "compress", "([CII)[B"⟩ : MethodName)) hown (mvT hZ (hw _ (wI 67 rfl))) (mvT hZ (hw _ (wI 68 rfl))) (mvT hZ (hw _ (wI 69 rfl))) (mvT hZ (hw _ (wI 70 rfl))) (by decide) (backOf (W := 0) (rm14 l Z a0 hw [] a2 (0 : Int32) (Int32.ofNat cs.length) cs k_a2 h0 n0 Z0 S__assertionsDisabled X00 S_HI_BYTE_SHIFT S_LO_BYTE_SHIFT V_a2 hl hcs) hZ (hw _ (wI 70 rfl)) (hw _ (wI 69 rfl)) (by decide) (by decide)) (g := (mkF m 36 (oL56 a1 a2 cs) [(.int (Int32.ofNat cs.length)), (.int (0 : Int32)), (.ref a2)])) rfl (by rw [hml]; rfl) (argsL := [(.ref a2), (.int (0 : Int32)), (.int (Int32.ofNat cs.length))]) (rest := []) (lenOf pd_2_11 rfl) rfl (by show 2 * 0 + _ ≤ _; exact Nat.le_of_eq rfl) (hb hby d2_36) (fun _ _ => ⟨rfl, e4, (by decide : 0 + 2 ≤ _), (by decide : 0 + 9 ≤ _)⟩)
  dsimp only [Pt.U, Pt.locs, Pt.cells, Pt.slots] at X5 l5 y5 z5 st5 hQ5
  subst l5 y5 z5
  obtain ⟨tX, rfl, N5q, g_tX, gz_tX, Kt5, kX, cdX, zX, vX, Vx, cod⟩ := hQ5
  have N5 := Fr.app N0 N5q
  have Kq5 : Keep h0 T5.heap [] := Kt5
  have K5 : Keep h0 T5.heap [a1] := (Keep.refl h0 [a1]).trans Kq5 all0
  obtain ⟨_, _, ⟨T6, L6, k6, n6⟩, -, X6, ⟨Lc6, hQ6, l6, y6, z6⟩, st6⟩ := Jvm.LawKit.callS X5 hx (y := (⟨"java/lang/StringUTF16", "coderFromArrayLen", "([BI)B"⟩ : MethodName)) hown (mvT hZ (hw _ (wI 74 rfl))) (mvT hZ (hw _ (wI 75 rfl))) (mvT hZ (hw _ (wI 69 rfl))) (mvT hZ (hw _ (wI 76 rfl))) (by decide) (backOf (W := 1) (rm16 l Z a0 hw [] tX (Int32.ofNat cs.length) cdX kX zX vX (.int (0 : Int32)) T5.heap n0 (Nat.le_trans Z0 Kq5.1) Vx (own_cdr cod hl)) hZ (hw _ (wI 76 rfl)) (hw _ (wI 69 rfl)) (by decide) (by decide)) (g := (mkF m 45 (oL57 a1 a2 tX cs) [(.int (Int32.ofNat cs.length)), (.ref tX), (.ref a1)])) rfl (by rw [hml]; rfl) (argsL := [(.ref tX), (.int (Int32.ofNat cs.length))]) (rest := [(.ref a1)]) (lenOf pd_2_13 rfl) rfl (by show 2 * 0 + _ ≤ _; exact Nat.le_of_eq rfl) (hb hby d2_45) (fun _ _ => ⟨rfl, rfl, (by decide : 2 + 0 ≤ _), (by decide : 9 + 0 ≤ _)⟩)
  dsimp only [Pt.U, Pt.locs, Pt.cells, Pt.slots] at X6 l6 y6 z6 st6 hQ6
  subst l6 y6 z6
  obtain ⟨rfl, N6q, eq6⟩ := hQ6
  have N6 := Fr.app N5 N6q
  have Kq6 : Keep T5.heap T6.heap [] := (own_keq eq6)
  have K6 : Keep h0 T6.heap [a1] := K5.trans Kq6 all0
  obtain ⟨T7, h7, X7, e7, W7, st7⟩ := putFN X6 hx hZ hown (hw _ (wI 22 rfl)) Via.refl rfl ((F_coder_a1.keep Kq5 (fun q => nomatch q)).keep Kq6 (fun q => nomatch q)) ((E_a1.keep Kq5).keep Kq6) (Or.inr ⟨(hw _ (wI 18 rfl)), rfl, hnm⟩) (hw _ (wI 2 rfl)) (ty := .byte) (v' := .int (nar .byte cdX)) (by decide) rfl (fits_nar_byte _) (g := (mkF m 48 (oL57 a1 a2 tX cs) [(.int cdX), (.ref a1)])) rfl rfl (hb hby d2_48)
  have Fw7 := ((F_coder_a1.keep Kq5 (fun q => nomatch q)).keep Kq6 (fun q => nomatch q)).same W7
  have K7 : Keep h0 h7 [a1] := K6.wr W7 (Or.inl (List.mem_of_getElem? (i := 0) rfl))
  have N7 := Fr.snoc X7 N6 g_a1
  obtain ⟨T8, h8, X8, e8, W8, st8⟩ := putF X7 hx hZ hown (host := "") (Or.inl (hw _ (wI 21 rfl))) Via.refl e7 (((F_value_a1.keep Kq5 (fun q => nomatch q)).keep Kq6 (fun q => nomatch q)).other W7 (Or.inr (slot_ne (Or.inr (hw _ (wI 17 rfl))) (Or.inr (hw _ (wI 18 rfl))) (by decide) (t := (.array .byte)) (t' := .byte) (by decide) (by decide)))) (((E_a1.keep Kq5).keep Kq6).wr W7) (Or.inr ⟨(hw _ (wI 17 rfl)), rfl, hnm⟩) (hw _ (wI 2 rfl)) (ty := (.array .byte)) (by decide) rfl rfl (g := (mkF m 54 (oL57 a1 a2 tX cs) [(.ref tX), (.ref a1)])) rfl rfl (hb hby d2_54)
  have Fw8 := (((F_value_a1.keep Kq5 (fun q => nomatch q)).keep Kq6 (fun q => nomatch q)).other W7 (Or.inr (slot_ne (Or.inr (hw _ (wI 17 rfl))) (Or.inr (hw _ (wI 18 rfl))) (by decide) (t := (.array .byte)) (t' := .byte) (by decide) (by decide)))).same W8
  have K8 : Keep h0 h8 [a1] := K7.wr W8 (Or.inl (List.mem_of_getElem? (i := 0) rfl))
  have N8 := Fr.snoc X8 N7 g_a1
  have End_0 := Fw8
  have End_1 := (Fw7.other W8 (Or.inr (slot_ne (Or.inr (hw _ (wI 18 rfl))) (Or.inr (hw _ (wI 17 rfl))) (by decide) (t := .byte) (t' := (.array .byte)) (by decide) (by decide))))
  have End_2 := (((Vx.keep Kq6 (fun q => nomatch q)).other W7 (Ne.symm (Nat.ne_of_lt (Nat.lt_of_lt_of_le E_a1.lt gz_tX)))).other W8 (Ne.symm (Nat.ne_of_lt (Nat.lt_of_lt_of_le E_a1.lt gz_tX))))
  obtain ⟨fs, hr, hrun, hended, hW, hsame⟩ := X8.leave (v := none) (fun _ => rfl)
  refine ⟨_, _, pre0 _ ?_, hrun, hended, _, _, rfl, ?_, ⟨_, rfl⟩, hW, hsame.mono (by decide) (by decide)⟩
  · show Steps p.tables e below (s₁.setTop (mkF m 0 (oL56 a1 a2 cs) [])) _
    refine XS.aloadN X0.here hx rfl (hb hby d2_0) rfl rfl ?_
    refine st3 _ ?_
    refine XS.iloadN X3.here hx rfl (hb hby d2_4) rfl ?_
    refine XS.ifYes X3.here hx rfl (pc0 := 5) (pc' := 27) rfl (hb hby d2_5) rfl ((if0 _ _).trans (feq hc5).2) (by decide) (by decide) ?_
    refine st4 _ ?_
    show Steps p.tables e below (T4.setTop (mkF m 30 (oL56 a1 a2 cs) [(.int G1)])) _
    refine XS.ifNo X4.here hx rfl (hb hby d2_30) rfl ((if0 _ _).trans (feq P3).1) ?_
    refine XS.aloadN X4.here hx rfl (hb hby d2_33) rfl rfl ?_
    refine XS.iloadN X4.here hx rfl (hb hby d2_34) rfl ?_
    refine XS.iloadN X4.here hx rfl (hb hby d2_35) rfl ?_
    refine st5 _ ?_
    show Steps p.tables e below (T5.setTop (mkF m 39 (oL56 a1 a2 cs) [(.ref tX)])) _
    refine XS.astore X5.here hx rfl (hb hby d2_39) rfl rfl (l' := (oL57 a1 a2 tX cs)) rfl ?_
    refine XS.aloadN X5.here hx rfl (hb hby d2_41) rfl rfl ?_
    refine XS.aload X5.here hx rfl (hb hby d2_42) rfl rfl ?_
    refine XS.iloadN X5.here hx rfl (hb hby d2_44) rfl ?_
    refine st6 _ ?_
    show Steps p.tables e below (T6.setTop (mkF m 48 (oL57 a1 a2 tX cs) [(.int cdX), (.ref a1)])) _
    refine st7 _ ?_
    refine XS.aloadN X7.here hx rfl (hb hby d2_51) rfl rfl ?_
    refine XS.aload X7.here hx rfl (hb hby d2_52) rfl rfl ?_
    refine st8 _ ?_
    exact X8.returnOut hx Bd.returns (hb hby d2_57) hr
  · show own_QI Z a1 cs h0 n0 _ T8.heap _
    rw [e8]
    exact ⟨rfl, N8, K8, tX, kX, cdX, zX, vX, g_tX, gz_tX, End_0, (by have q := End_1; rw [own_ncd cod] at q; exact q), End_2, cod⟩
theorem d1_0 : decode jdk_42_method_3_code 0 = .ok (.aload_n 0, 1) := by decide +kernel
theorem d1_1 : decode jdk_42_method_3_code 1 = .ok (.aload_n 1, 1) := by decide +kernel
theorem d1_2 : decode jdk_42_method_3_code 2 = .ok (.iconst 0, 1) := by decide +kernel
theorem d1_3 : decode jdk_42_method_3_code 3 = .ok (.aload_n 1, 1) := by decide +kernel
theorem d1_4 : decode jdk_42_method_3_code 4 = .ok (.arraylength, 1) := by decide +kernel
theorem d1_5 : decode jdk_42_method_3_code 5 = .ok (.aconst_null, 1) := by decide +kernel
theorem d1_6 : decode jdk_42_method_3_code 6 = .ok (.invokespecial 27, 3) := by decide +kernel
theorem d1_9 : decode jdk_42_method_3_code 9 = .ok (.return_, 1) := by decide +kernel
theorem pn_1 : plainName "java/lang/String" = true := by first | (simp [plainName, overriddenIn]; done) | decide +kernel
theorem pd_1_1 : parseMethodDescriptor "([CIILjava/lang/Void;)V" = some ⟨[(.array .char), .int, .int, (.object "java/lang/Void")], none⟩ := by decide +kernel
theorem ef_1 (m : MethodId) (x0 : Addr) (x1 : Addr) : entryFrame m #[(.ref x0), (.ref x1)] 2 = mkF m 0 #[.val (.ref x0), .val (.ref x1)] [] := by first | (simp [entryFrame, mkF, argsToLocals, Value.category]; done) | rfl
set_option maxRecDepth 65536 in
set_option maxHeartbeats 40000000 in
theorem rm1 (l : Launch) (Z : State) (a0 : Array Value) (hw : ∀ d ∈ tables_1, d.before a0 Z = true) (ws : List Jvm.Cond) (a1 : Addr) (a2 : Addr) (G1 : Int32) (cs : List Int32) (k_a2 : ClassId) (h0 : Heap) (n0 : Nat) (Z0 : n0 ≤ h0.size) (S_COMPACT_STRINGS : Sta Z Z.heap "java/lang/String" "COMPACT_STRINGS" "Z" (.int G1)) (X00 : Old Z n0 h0) (P3 : ¬ (G1 = (0 : Int32))) (S__assertionsDisabled : Sta Z Z.heap "java/lang/StringUTF16" "$assertionsDisabled" "Z" (.int (1 : Int32))) (S_HI_BYTE_SHIFT : Sta Z Z.heap "java/lang/StringUTF16" "HI_BYTE_SHIFT" "I" (.int (0 : Int32))) (S_LO_BYTE_SHIFT : Sta Z Z.heap "java/lang/StringUTF16" "LO_BYTE_SHIFT" "I" (.int (8 : Int32))) (E_a1 : Exa Z h0 a1 "java/lang/String") (F_value_a1 : Fld Z h0 a1 "java/lang/String" "value" "[B" .null) (F_coder_a1 : Fld Z h0 a1 "java/lang/String" "coder" "B" (.int (0 : Int32))) (V_a2 : Arv Z h0 a2 k_a2 .char (Int32.ofNat cs.length) (cs.map Value.int) (.int (0 : Int32))) (g_a1 : n0 ≤ a1) (hl : cs.length = 1 ∨ cs.length = 2 ∨ cs.length = 3) (hcs : ∀ c ∈ cs, ¬ c < 0 ∧ ¬ (65535 : Int32) < c) :
    MetFree l (⟨"java/lang/String", "<init>", "([C)V"⟩ : MethodName) (head1 (Jvm.Cond.code (⟨"java/lang/String", "<init>", "([C)V"⟩ : MethodName) jdk_42_method_3_code 2 none :: ws) ({ frames := 5, cells := 2, slots := 9, locals := 74 } : Room)) (fun a U => a = #[(.ref a1), (.ref a2)] ∧ Z.Warmed39 U.vm ∧ U.heap = h0) (fun _ _ _ _ _ => True) (fun _ U o U' => ∃ v L, o = .returned v ∧ own_QI Z a1 cs h0 n0 v U'.heap L ∧ FrameEnd U o U' L ({ frames := 5, cells := 2, slots := 9, locals := 74 } : Room).cells ({ frames := 5, cells := 2, slots := 9, locals := 74 } : Room).slots) := by
  refine MetFree.of_bodySF (plainFor_of_name pn_1) hisR ?_
  intro p e s m args below meth c s₁ Bd hml0 hP hK
  obtain ⟨rfl, hZ, hh⟩ := hP
  have hx := Bd.exec
  have hby := Bd.bytes
  have hml : c.maxLocals = 2 := hml0
  have hown : s.vm.findClass "java/lang/String" = some m.cls := findClass_of_methodNamed Bd.named
  have hnm := (name_of_methodNamed Bd.named Bd.method).1
  have X0 : Stand p l e ({ frames := 5, cells := 2, slots := 9, locals := 74 } : Room) s m #[(.ref a1), (.ref a2)] below meth c s₁ [] 0 0 := Stand.of_body Bd
  have e0 : s₁.heap = h0 := by rw [← hh, Bd.state]; rfl
  have N0 := Fr.nil n0
  have pre0 : ∀ t, Steps p.tables e below (s₁.setTop (mkF m 0 #[.val (.ref a1), .val (.ref a2)] [])) t → Steps p.tables e below (s₁.setTop (entryFrame m #[(.ref a1), (.ref a2)] 2)) t := fun t k => castTop (ef_1 m a1 a2) k
  obtain ⟨cl_a2_4, Ar_a2, -, S_a2, N_a2, -, -⟩ := id V_a2
  obtain ⟨_, _, ⟨T3, L3, k3, n3⟩, -, X3, ⟨Lc3, hQ3, l3, y3, z3⟩, st3⟩ := X0.specialBack hx (y := (⟨"java/lang/String", "<init>", "([CIILjava/lang/Void;)V"⟩ : MethodName)) rfl hown (mvT hZ (hw _ (wI 8 rfl))) (mvT hZ (hw _ (wI 9 rfl))) (mvT hZ (hw _ (wI 11 rfl))) (by decide) (backOf (W := 0) (rm2 l Z a0 hw [] a1 a2 (0 : Int32) (Int32.ofNat cs.length) G1 cs k_a2 h0 n0 Z0 S_COMPACT_STRINGS X00 P3 S__assertionsDisabled S_HI_BYTE_SHIFT S_LO_BYTE_SHIFT E_a1 F_value_a1 F_coder_a1 V_a2 g_a1 hl hcs (own_ne0 hl)) hZ (hw _ (wI 11 rfl)) (hw _ (wI 3 rfl)) (by decide) (by decide)) (g := (mkF m 6 #[.val (.ref a1), .val (.ref a2)] [.null, (.int (Int32.ofNat cs.length)), (.int (0 : Int32)), (.ref a2), (.ref a1)])) rfl (by rw [hml]; rfl) (Steps.refl _) (a := a1) (argsL := [(.ref a2), (.int (0 : Int32)), (.int (Int32.ofNat cs.length)), .null]) (rest := []) (lenOf pd_1_1 rfl) rfl (by show 2 * 0 + _ ≤ _; exact Nat.le_of_eq rfl) (hb hby d1_6) (fun _ _ => ⟨rfl, e0, (by decide : 0 + 2 ≤ _), (by decide : 0 + 9 ≤ _)⟩)
  dsimp only [Pt.U, Pt.locs, Pt.cells, Pt.slots] at X3 l3 y3 z3 st3 hQ3
  subst l3 y3 z3
  obtain ⟨rfl, N3q, Kc3, Rc⟩ := hQ3
  have N3 := Fr.app N0 N3q
  have Kq3 : Keep h0 T3.heap [a1] := Kc3
  have K3 : Keep h0 T3.heap [a1] := (Keep.refl h0 [a1]).trans Kq3 (own_trS (Or.inl (List.mem_of_getElem? (i := 0) rfl)) all0)
  obtain ⟨fs, hr, hrun, hended, hW, hsame⟩ := X3.leave (v := none) (fun _ => rfl)
  refine ⟨_, _, pre0 _ ?_, hrun, hended, _, _, rfl, ?_, ⟨_, rfl⟩, hW, hsame.mono (by decide) (by decide)⟩
  · show Steps p.tables e below (s₁.setTop (mkF m 0 #[.val (.ref a1), .val (.ref a2)] [])) _
    refine XS.aloadN X0.here hx rfl (hb hby d1_0) rfl rfl ?_
    refine XS.aloadN X0.here hx rfl (hb hby d1_1) rfl rfl ?_
    refine XS.iconst X0.here hx rfl (hb hby d1_2) ?_
    refine XS.aloadN X0.here hx rfl (hb hby d1_3) rfl rfl ?_
    refine X0.arraylength hx (by rw [e0]; exact Ar_a2.1) (State.isArrayOf_alike hZ.alike Ar_a2.2.1) (g := (mkF m 4 #[.val (.ref a1), .val (.ref a2)] [(.ref a2), (.int (0 : Int32)), (.ref a2), (.ref a1)])) rfl rfl (hb hby d1_4) _ ?_
    rw [len_of S_a2 N_a2]
    show Steps p.tables e below (s₁.setTop (mkF m 5 #[.val (.ref a1), .val (.ref a2)] [(.int (Int32.ofNat cs.length)), (.int (0 : Int32)), (.ref a2), (.ref a1)])) _
    refine XS.aconstNull X0.here hx rfl (hb hby d1_5) ?_
    refine st3.trans ?_
    exact X3.returnOut hx Bd.returns (hb hby d1_9) hr
  · show own_QI Z a1 cs h0 n0 _ T3.heap _
    exact ⟨rfl, N3, K3, Rc⟩
def own_Q00 (Z : State) (a1 : Addr) (h0 : Heap) (n0 : Nat) (v : Option Value) (h : Heap) (L : List Loc) : Prop := v = none ∧ Fr n0 L ∧ Keep h0 h [a1] ∧ ∃ (t : Addr) (k : ClassId), Fld Z h a1 "java/lang/String" "value" "[B" (.ref t) ∧ Fld Z h a1 "java/lang/String" "coder" "B" (.int (0 : Int32)) ∧ Arv Z h t k .byte (0 : Int32) [] (.int (0 : Int32))
theorem d2_8 : decode jdk_42_method_149_code 8 = .ok (.aload_n 0, 1) := by decide +kernel
theorem d2_9 : decode jdk_42_method_149_code 9 = .ok (.ldc 7, 2) := by decide +kernel
theorem d2_11 : decode jdk_42_method_149_code 11 = .ok (.getfield 9, 3) := by decide +kernel
theorem d2_14 : decode jdk_42_method_149_code 14 = .ok (.putfield 9, 3) := by decide +kernel
theorem d2_17 : decode jdk_42_method_149_code 17 = .ok (.aload_n 0, 1) := by decide +kernel
theorem d2_18 : decode jdk_42_method_149_code 18 = .ok (.ldc 7, 2) := by decide +kernel
theorem d2_20 : decode jdk_42_method_149_code 20 = .ok (.getfield 15, 3) := by decide +kernel
theorem d2_23 : decode jdk_42_method_149_code 23 = .ok (.putfield 15, 3) := by decide +kernel
theorem d2_26 : decode jdk_42_method_149_code 26 = .ok (.return_, 1) := by decide +kernel
abbrev oL58 (p3 p4 : Int32) (a1 a2 : Addr) : Array Slot := #[.val (.ref a1), .val (.ref a2), .val (.int p3), .val (.int p4), .val .null, .unset]
set_option maxRecDepth 65536 in
set_option maxHeartbeats 40000000 in
theorem rm2e (l : Launch) (Z : State) (a0 : Array Value) (hw : ∀ d ∈ tables_1, d.before a0 Z = true) (ws : List Jvm.Cond) (a1 : Addr) (a2 : Addr) (p3 : Int32) (p4 : Int32) (h0 : Heap) (n0 : Nat) (Z0 : n0 ≤ h0.size) (E_a1 : Exa Z h0 a1 "java/lang/String") (F_value_a1 : Fld Z h0 a1 "java/lang/String" "value" "[B" .null) (F_coder_a1 : Fld Z h0 a1 "java/lang/String" "coder" "B" (.int (0 : Int32))) (g_a1 : n0 ≤ a1) (hc5 : p4 = (0 : Int32)) :
    MetFree l (⟨"java/lang/String", "<init>", "([CIILjava/lang/Void;)V"⟩ : MethodName) (head1 (Jvm.Cond.code (⟨"java/lang/String", "<init>", "([CIILjava/lang/Void;)V"⟩ : MethodName) jdk_42_method_149_code 6 none :: ws) ({ frames := 1, cells := 2, slots := 4, locals := 12 } : Room)) (fun a U => a = #[(.ref a1), (.ref a2), (.int p3), (.int p4), .null] ∧ Z.Warmed39 U.vm ∧ U.heap = h0 ∧ CHv Z consts_1 U.vm h0) (fun _ _ _ _ _ => True) (fun _ U o U' => ∃ v L, o = .returned v ∧ own_Q00 Z a1 h0 n0 v U'.heap L ∧ CHr Z consts_1 U.vm U.heap U'.vm U'.heap ∧ ReturnedEndW U o U' L ({ frames := 1, cells := 2, slots := 4, locals := 12 } : Room).cells ({ frames := 1, cells := 2, slots := 4, locals := 12 } : Room).slots) := by
  refine MetFree.of_bodySF (plainFor_of_name pn_2) hisR ?_
  intro p e s m args below meth c s₁ Bd hml0 hP hK
  obtain ⟨rfl, hZ, hh, H0⟩ := hP
  have hx := Bd.exec
  have hby := Bd.bytes
  have hml : c.maxLocals = 6 := hml0
  have hown : s.vm.findClass "java/lang/String" = some m.cls := findClass_of_methodNamed Bd.named
  have hnm := (name_of_methodNamed Bd.named Bd.method).1
  have X0 : Stand p l e ({ frames := 1, cells := 2, slots := 4, locals := 12 } : Room) (s.setVm s.vm) m #[(.ref a1), (.ref a2), (.int p3), (.int p4), .null] below meth c s₁ [] 0 0 := Stand.of_body Bd
  have e0 : s₁.heap = h0 := by rw [← hh, Bd.state]; rfl
  have N0 := Fr.nil n0
  have pre0 : ∀ t, Steps p.tables e below (s₁.setTop (mkF m 0 (oL58 p3 p4 a1 a2) [])) t → Steps p.tables e below (s₁.setTop (entryFrame m #[(.ref a1), (.ref a2), (.int p3), (.int p4), .null] 6)) t := fun t k => castTop (ef_2_null4 m a1 a2 p3 p4) k
  have hS : s.Since s.vm 0 := (State.WarmedH.refl s).since 0
  have hk := Nat.zero_le h0.size
  have R0 : CHr Z consts_1 s.vm h0 s.vm h0 := CHr.refl H0
  have Sf_a1_0 := own_safeN (EL := consts_1) (vm := s.vm) hZ.alike E_a1 F_value_a1
  obtain ⟨T5, X5, e5, st5⟩ := initO X0 hx hZ hown (hw _ (wI 12 rfl)) (hw _ (wI 13 rfl)) (hw _ (wI 14 rfl)) e0 (g := (mkF m 1 (oL58 p3 p4 a1 a2) [(.ref a1)])) rfl (by rw [hml]; rfl) rfl (hb hby d2_1) (by decide) (W := 0) (by show 2 * 0 + _ ≤ _; exact Nat.le_of_eq rfl) (by decide)
  obtain ⟨b6, T6, h6, k1_6, v6, kc6, X6, e6, E6, hS, hk, hZ6, hown6, E_b6, F_coder_b6, F_value_b6, V_v6, lt_b6, lt_v6, Cr6, Lit_b6, Sep6, st6⟩ := ldcCH X5 hx hZ hown (hw _ (wI 15 rfl)) (own_wS hw) e5 hS hk (own_EW hw) (by decide) R0.1 (vs := []) (z := (0 : Int32)) ⟨by decide, by decide⟩ (by decide) (by decide) (g := (mkF m 9 (oL58 p3 p4 a1 a2) [(.ref a1)])) rfl (hb hby d2_9) (n := 0) (by decide) (by decide) (by decide) (by decide)
  have Sf_a1_6 := Cr6.safe E_a1.lt Sf_a1_0
  have R6 := R0.trans Cr6
  have K6 : Keep h0 h6 [a1] := (Keep.refl h0 [a1]).ext E6
  obtain ⟨T7, X7, e7, st7⟩ := getF X6 hx hZ6 hown6 (host := "") (Or.inl (hw _ (wI 21 rfl))) Via.refl e6 F_value_b6 (g := (mkF m 11 (oL58 p3 p4 a1 a2) [(.ref b6), (.ref a1)])) rfl rfl (hb hby d2_11)
  obtain ⟨T8, h8, X8, e8, W8, st8⟩ := putF X7 hx hZ6 hown6 (host := "") (Or.inl (hw _ (wI 21 rfl))) Via.refl e7 (F_value_a1.ext E6) (E_a1.ext E6) (Or.inr ⟨(hw _ (wI 17 rfl)), rfl, hnm⟩) (hw _ (wI 2 rfl)) (ty := (.array .byte)) (by decide) rfl rfl (g := (mkF m 14 (oL58 p3 p4 a1 a2) [(.ref v6), (.ref a1)])) rfl rfl (hb hby d2_14)
  have R8 := R6.trans (CHr.wr W8 Sf_a1_6 R6.1)
  have Sf_a1_8 := Safe.wr W8 Sf_a1_6 R6.1 Sf_a1_6
  have Fw8 := (F_value_a1.ext E6).same W8
  have K8 : Keep h0 h8 [a1] := K6.wr W8 (Or.inl (List.mem_of_getElem? (i := 0) rfl))
  have N8 := Fr.snoc X8 N0 g_a1
  obtain ⟨T9, X9, e9, st9⟩ := getF X8 hx hZ6 hown6 (host := "") (Or.inl (hw _ (wI 22 rfl))) Via.refl e8 (F_coder_b6.other W8 (Or.inl (Ne.symm (Sep6 _ Sf_a1_6).1))) (g := (mkF m 20 (oL58 p3 p4 a1 a2) [(.ref b6), (.ref a1)])) rfl rfl (hb hby d2_20)
  obtain ⟨T10, h10, X10, e10, W10, st10⟩ := putFN X9 hx hZ6 hown6 (hw _ (wI 22 rfl)) Via.refl e9 ((F_coder_a1.ext E6).other W8 (Or.inr (slot_ne (Or.inr (hw _ (wI 18 rfl))) (Or.inr (hw _ (wI 17 rfl))) (by decide) (t := .byte) (t' := (.array .byte)) (by decide) (by decide)))) ((E_a1.ext E6).wr W8) (Or.inr ⟨(hw _ (wI 18 rfl)), rfl, hnm⟩) (hw _ (wI 2 rfl)) (ty := .byte) (v' := .int (nar .byte (0 : Int32))) (by decide) rfl (fits_nar_byte _) (g := (mkF m 23 (oL58 p3 p4 a1 a2) [(.int (0 : Int32)), (.ref a1)])) rfl rfl (hb hby d2_23)
  have R10 := R8.trans (CHr.wr W10 Sf_a1_8 R8.1)
  have Sf_a1_10 := Safe.wr W10 Sf_a1_8 R8.1 Sf_a1_8
  have Fw10 := ((F_coder_a1.ext E6).other W8 (Or.inr (slot_ne (Or.inr (hw _ (wI 18 rfl))) (Or.inr (hw _ (wI 17 rfl))) (by decide) (t := .byte) (t' := (.array .byte)) (by decide) (by decide)))).same W10
  have K10 : Keep h0 h10 [a1] := K8.wr W10 (Or.inl (List.mem_of_getElem? (i := 0) rfl))
  have N10 := Fr.snoc X10 N8 g_a1
  have End_0 := (Fw8.other W10 (Or.inr (slot_ne (Or.inr (hw _ (wI 17 rfl))) (Or.inr (hw _ (wI 18 rfl))) (by decide) (t := (.array .byte)) (t' := .byte) (by decide) (by decide))))
  have End_1 := Fw10
  have End_2 := ((V_v6.other W8 (Ne.symm (Sep6 _ Sf_a1_6).2)).other W10 (Ne.symm (Sep6 _ Sf_a1_6).2))
  obtain ⟨fs, hr, hrun, hended, hRW⟩ := X10.leaveW hS (by rw [e10]; exact (Nat.le_trans (Nat.le_trans hk (Keep.of_wr W8).1) (Keep.of_wr W10).1)) (v := none) (fun _ => rfl)
  refine ⟨_, _, pre0 _ ?_, hrun, hended, _, _, rfl, ?_, ?_, hRW.1, hRW.2.1, hRW.2.2.1, hRW.2.2.2.mono (by decide) (by decide)⟩
  · show Steps p.tables e below (s₁.setTop (mkF m 0 (oL58 p3 p4 a1 a2) [])) _
    refine XS.aloadN X0.here hx rfl (hb hby d2_0) rfl rfl ?_
    refine st5 _ ?_
    refine XS.iloadN X5.here hx rfl (hb hby d2_4) rfl ?_
    refine XS.ifNo X5.here hx rfl (hb hby d2_5) rfl ((if0 _ _).trans (teq hc5).2) ?_
    refine XS.aloadN X5.here hx rfl (hb hby d2_8) rfl rfl ?_
    show Steps p.tables e below (T5.setTop (mkF m 9 (oL58 p3 p4 a1 a2) [(.ref a1)])) _
    refine st6 _ ?_
    refine st7 _ ?_
    refine st8 _ ?_
    refine XS.aloadN X8.here hx rfl (hb hby d2_17) rfl rfl ?_
    refine ldcAgain X8 hx hZ6 hown6 (hw _ (wI 15 rfl)) Lit_b6 (g := (mkF m 18 (oL58 p3 p4 a1 a2) [(.ref a1)])) rfl (hb hby d2_18) _ ?_
    show Steps p.tables e below (T8.setTop (mkF m 20 (oL58 p3 p4 a1 a2) [(.ref b6), (.ref a1)])) _
    refine st9 _ ?_
    refine st10 _ ?_
    exact X10.returnOut hx Bd.returns (hb hby d2_26) hr
  · show own_Q00 Z a1 h0 n0 _ T10.heap _
    rw [e10]
    exact ⟨rfl, N10, K10, v6, kc6, End_0, End_1, End_2⟩
  · show CHr Z consts_1 s.vm s.heap T10.vm T10.heap
    rw [hh, e10]
    exact R10.trans (CHv.at X10 hZ6 (own_EW hw) R10.1)
set_option maxRecDepth 65536 in
set_option maxHeartbeats 40000000 in
theorem rm1e (l : Launch) (Z : State) (a0 : Array Value) (hw : ∀ d ∈ tables_1, d.before a0 Z = true) (ws : List Jvm.Cond) (a1 : Addr) (a2 : Addr) (k_a2 : ClassId) (z_a2 : Int32) (vs_a2 : List Value) (dv_a2 : Value) (h0 : Heap) (n0 : Nat) (Z0 : n0 ≤ h0.size) (hz0 : z_a2 = (0 : Int32)) (E_a1 : Exa Z h0 a1 "java/lang/String") (F_value_a1 : Fld Z h0 a1 "java/lang/String" "value" "[B" .null) (F_coder_a1 : Fld Z h0 a1 "java/lang/String" "coder" "B" (.int (0 : Int32))) (g_a1 : n0 ≤ a1) (V_a2 : Arv Z h0 a2 k_a2 .char z_a2 vs_a2 dv_a2) :
    MetFree l (⟨"java/lang/String", "<init>", "([C)V"⟩ : MethodName) (head1 (Jvm.Cond.code (⟨"java/lang/String", "<init>", "([C)V"⟩ : MethodName) jdk_42_method_3_code 2 none :: ws) ({ frames := 2, cells := 2, slots := 4, locals := 29 } : Room)) (fun a U => a = #[(.ref a1), (.ref a2)] ∧ Z.Warmed39 U.vm ∧ U.heap = h0 ∧ CHv Z consts_1 U.vm h0) (fun _ _ _ _ _ => True) (fun _ U o U' => ∃ v L, o = .returned v ∧ own_Q00 Z a1 h0 n0 v U'.heap L ∧ CHr Z consts_1 U.vm U.heap U'.vm U'.heap ∧ ReturnedEndW U o U' L ({ frames := 2, cells := 2, slots := 4, locals := 29 } : Room).cells ({ frames := 2, cells := 2, slots := 4, locals := 29 } : Room).slots) := by
  refine MetFree.of_bodySF (plainFor_of_name pn_1) hisR ?_
  intro p e s m args below meth c s₁ Bd hml0 hP hK
  obtain ⟨rfl, hZ, hh, H0⟩ := hP
  have hx := Bd.exec
  have hby := Bd.bytes
  have hml : c.maxLocals = 2 := hml0
  have hown : s.vm.findClass "java/lang/String" = some m.cls := findClass_of_methodNamed Bd.named
  have hnm := (name_of_methodNamed Bd.named Bd.method).1
  have X0 : Stand p l e ({ frames := 2, cells := 2, slots := 4, locals := 29 } : Room) (s.setVm s.vm) m #[(.ref a1), (.ref a2)] below meth c s₁ [] 0 0 := Stand.of_body Bd
  have e0 : s₁.heap = h0 := by rw [← hh, Bd.state]; rfl
  have N0 := Fr.nil n0
  have pre0 : ∀ t, Steps p.tables e below (s₁.setTop (mkF m 0 #[.val (.ref a1), .val (.ref a2)] [])) t → Steps p.tables e below (s₁.setTop (entryFrame m #[(.ref a1), (.ref a2)] 2)) t := fun t k => castTop (ef_1 m a1 a2) k
  have hS : s.Since s.vm 0 := (State.WarmedH.refl s).since 0
  have hk := Nat.zero_le h0.size
  have R0 : CHr Z consts_1 s.vm h0 s.vm h0 := CHr.refl H0
  have Sf_a1_0 := own_safeN (EL := consts_1) (vm := s.vm) hZ.alike E_a1 F_value_a1
  obtain ⟨cl_a2_4, Ar_a2, -, S_a2, N_a2, -, -⟩ := V_a2
  obtain ⟨_, _, ⟨T3, L3, k3, n3⟩, -, X3, hSc3, hgr3, ⟨Lc3, hQ3, l3, y3, z3, Cr3⟩, st3⟩ := X0.specialBackS hx (y := (⟨"java/lang/String", "<init>", "([CIILjava/lang/Void;)V"⟩ : MethodName)) rfl hown (mvT hZ (hw _ (wI 8 rfl))) (mvT hZ (hw _ (wI 9 rfl))) (mvT hZ (hw _ (wI 11 rfl))) (by decide) (backOfSH (W := 0) (rm2e l Z a0 hw [] a1 a2 (0 : Int32) z_a2  h0 n0 Z0 E_a1 F_value_a1 F_coder_a1 g_a1 hz0) hZ (hw _ (wI 11 rfl)) (hw _ (wI 3 rfl)) (by decide) (by decide) (own_EW hw) R0.1) (g := (mkF m 6 #[.val (.ref a1), .val (.ref a2)] [.null, (.int z_a2), (.int (0 : Int32)), (.ref a2), (.ref a1)])) rfl (by rw [hml]; rfl) (Steps.refl _) (a := a1) (argsL := [(.ref a2), (.int (0 : Int32)), (.int z_a2), .null]) (rest := []) (lenOf pd_1_1 rfl) rfl (by show 2 * 0 + _ ≤ _; exact Nat.le_of_eq rfl) (hb hby d1_6) (fun _ _ => ⟨rfl, e0, (by decide : 0 + 2 ≤ _), (by decide : 0 + 4 ≤ _)⟩)
  dsimp only [Pt.U, Pt.locs, Pt.cells, Pt.slots] at hSc3 hgr3 Cr3
  dsimp only [Pt.U, Pt.locs, Pt.cells, Pt.slots] at X3 l3 y3 z3 st3 hQ3
  subst l3 y3 z3
  obtain ⟨rfl, N3q, Kc3, Rc⟩ := hQ3
  have N3 := Fr.app N0 N3q
  obtain ⟨X3, hS, hZ3, hown3⟩ := rebS hS (by rw [e0]; exact hk) X3 hSc3 hgr3 hZ hown
  have hk := Nat.le_refl T3.heap.size
  have Kq3 : Keep h0 T3.heap [a1] := Kc3
  have K3 : Keep h0 T3.heap [a1] := (Keep.refl h0 [a1]).trans Kq3 (own_trS (Or.inl (List.mem_of_getElem? (i := 0) rfl)) all0)
  have R3 := R0.trans Cr3
  have Sf_a1_3 := Cr3.safe E_a1.lt Sf_a1_0
  obtain ⟨fs, hr, hrun, hended, hRW⟩ := X3.leaveW hS (hk) (v := none) (fun _ => rfl)
  refine ⟨_, _, pre0 _ ?_, hrun, hended, _, _, rfl, ?_, ?_, hRW.1, hRW.2.1, hRW.2.2.1, hRW.2.2.2.mono (by decide) (by decide)⟩
  · show Steps p.tables e below (s₁.setTop (mkF m 0 #[.val (.ref a1), .val (.ref a2)] [])) _
    refine XS.aloadN X0.here hx rfl (hb hby d1_0) rfl rfl ?_
    refine XS.aloadN X0.here hx rfl (hb hby d1_1) rfl rfl ?_
    refine XS.iconst X0.here hx rfl (hb hby d1_2) ?_
    refine XS.aloadN X0.here hx rfl (hb hby d1_3) rfl rfl ?_
    refine X0.arraylength hx (by rw [e0]; exact Ar_a2.1) (State.isArrayOf_alike hZ.alike Ar_a2.2.1) (g := (mkF m 4 #[.val (.ref a1), .val (.ref a2)] [(.ref a2), (.int (0 : Int32)), (.ref a2), (.ref a1)])) rfl rfl (hb hby d1_4) _ ?_
    rw [len_of S_a2 N_a2]
    show Steps p.tables e below (s₁.setTop (mkF m 5 #[.val (.ref a1), .val (.ref a2)] [(.int z_a2), (.int (0 : Int32)), (.ref a2), (.ref a1)])) _
    refine XS.aconstNull X0.here hx rfl (hb hby d1_5) ?_
    refine st3.trans ?_
    exact X3.returnOut hx Bd.returns (hb hby d1_9) hr
  · show own_Q00 Z a1 h0 n0 _ T3.heap _
    exact ⟨rfl, N3, K3, Rc⟩
  · show CHr Z consts_1 s.vm s.heap T3.vm T3.heap
    rw [hh]
    exact R3.trans (CHv.at X3 hZ3 (own_EW hw) R3.1)
/-- the place of the first x, from i on, or -1 -/
def own_ix (x : Int32) : List Int32 → Int32 → Int32
  | [], _ => -1
  | c :: cs, i => if c = x then i else own_ix x cs (i + 1)
theorem d18_0 : decode jdk_43_method_23_code 0 = .ok (.iload_n 1, 1) := by decide +kernel
theorem d18_1 : decode jdk_43_method_23_code 1 = .ok (.i2b, 1) := by decide +kernel
theorem d18_2 : decode jdk_43_method_23_code 2 = .ok (.istore 4, 2) := by decide +kernel
theorem d18_4 : decode jdk_43_method_23_code 4 = .ok (.iload_n 2, 1) := by decide +kernel
theorem d18_5 : decode jdk_43_method_23_code 5 = .ok (.istore 5, 2) := by decide +kernel
theorem d18_7 : decode jdk_43_method_23_code 7 = .ok (.iload 5, 2) := by decide +kernel
theorem d18_9 : decode jdk_43_method_23_code 9 = .ok (.iload_n 3, 1) := by decide +kernel
theorem d18_10 : decode jdk_43_method_23_code 10 = .ok (.if_icmp .ge 21, 3) := by decide +kernel
theorem d18_13 : decode jdk_43_method_23_code 13 = .ok (.aload_n 0, 1) := by decide +kernel
theorem d18_14 : decode jdk_43_method_23_code 14 = .ok (.iload 5, 2) := by decide +kernel
theorem d18_16 : decode jdk_43_method_23_code 16 = .ok (.baload, 1) := by decide +kernel
theorem d18_17 : decode jdk_43_method_23_code 17 = .ok (.iload 4, 2) := by decide +kernel
theorem d18_19 : decode jdk_43_method_23_code 19 = .ok (.if_icmp .ne 6, 3) := by decide +kernel
theorem d18_22 : decode jdk_43_method_23_code 22 = .ok (.iload 5, 2) := by decide +kernel
theorem d18_24 : decode jdk_43_method_23_code 24 = .ok (.ireturn, 1) := by decide +kernel
theorem pn_18 : plainName "java/lang/StringLatin1" = true := by first | (simp [plainName, overriddenIn]; done) | decide +kernel
theorem ef_18 (m : MethodId) (x0 : Addr) (x1 : Int32) (x2 : Int32) (x3 : Int32) : entryFrame m #[(.ref x0), (.int x1), (.int x2), (.int x3)] 6 = mkF m 0 #[.val (.ref x0), .val (.int x1), .val (.int x2), .val (.int x3), .unset, .unset] [] := by first | (simp [entryFrame, mkF, argsToLocals, Value.category]; done) | rfl
abbrev oL59 (p2 : Int32) (a1 : Addr) : Array Slot := #[.val (.ref a1), .val (.int p2), .val (.int (0 : Int32)), .val (.int (1 : Int32)), .unset, .unset]
abbrev oL60 (p2 : Int32) (a1 : Addr) : Array Slot := #[.val (.ref a1), .val (.int p2), .val (.int (0 : Int32)), .val (.int (1 : Int32)), .val (.int (p2.toInt8.toInt32)), .val (.int (0 : Int32))]
set_option maxRecDepth 65536 in
set_option maxHeartbeats 40000000 in
theorem rm18_1_0 (l : Launch) (Z : State) (a0 : Array Value) (hw : ∀ d ∈ tables_1, d.before a0 Z = true) (ws : List Jvm.Cond) (a1 : Addr) (p2 : Int32) (_q3 : Int32) (_q4 : Int32) (y0 : Int32) (k_a1 : ClassId) (h0 : Heap) (n0 : Nat) (Z0 : n0 ≤ h0.size) (V_a1 : Arv Z h0 a1 k_a1 .byte (1 : Int32) [(.int y0)] (.int (0 : Int32))) (hc19 : y0 = (p2.toInt8.toInt32)) :
    MetFree l (⟨"java/lang/StringLatin1", "indexOfChar", "([BIII)I"⟩ : MethodName) (head1 (Jvm.Cond.code (⟨"java/lang/StringLatin1", "indexOfChar", "([BIII)I"⟩ : MethodName) jdk_43_method_23_code 6 (some .int) :: ws) ({ frames := 0, cells := 0, slots := 0, locals := 0 } : Room)) (fun a U => a = #[(.ref a1), (.int p2), (.int (0 : Int32)), (.int (1 : Int32))] ∧ Z.Warmed39 U.vm ∧ U.heap = h0) (fun _ _ _ _ _ => True) (fun _ U o U' => ∃ v L, o = .returned v ∧ own_QR (.int (0 : Int32)) h0 n0 v U'.heap L ∧ FrameEnd U o U' L ({ frames := 0, cells := 0, slots := 0, locals := 0 } : Room).cells ({ frames := 0, cells := 0, slots := 0, locals := 0 } : Room).slots) := by
  refine MetFree.of_bodySF (plainFor_of_name pn_18) hisR ?_
  intro p e s m args below meth c s₁ Bd hml0 hP hK
  obtain ⟨rfl, hZ, hh⟩ := hP
  have hx := Bd.exec
  have hby := Bd.bytes
  have hml : c.maxLocals = 6 := hml0
  have hown : s.vm.findClass "java/lang/StringLatin1" = some m.cls := findClass_of_methodNamed Bd.named
  have hnm := (name_of_methodNamed Bd.named Bd.method).1
  have X0 : Stand p l e ({ frames := 0, cells := 0, slots := 0, locals := 0 } : Room) s m #[(.ref a1), (.int p2), (.int (0 : Int32)), (.int (1 : Int32))] below meth c s₁ [] 0 0 := Stand.of_body Bd
  have e0 : s₁.heap = h0 := by rw [← hh, Bd.state]; rfl
  have N0 := Fr.nil n0
  have pre0 : ∀ t, Steps p.tables e below (s₁.setTop (mkF m 0 (oL59 p2 a1) [])) t → Steps p.tables e below (s₁.setTop (entryFrame m #[(.ref a1), (.int p2), (.int (0 : Int32)), (.int (1 : Int32))] 6)) t := fun t k => castTop (ef_18 m a1 p2 (0 : Int32) (1 : Int32)) k
  obtain ⟨cl_a1_11, Ar_a1_11, q_a1_11, S_a1_11, N_a1_11, H_a1_11, G_a1_11⟩ := id V_a1
  have hin_a1_11 : ¬ ((0 : Int32) < 0 ∨ cl_a1_11.slots.size ≤ ((0 : Int32)).toNatClampNeg) := inb_of S_a1_11 ⟨by decide, by decide⟩
  have hat_a1_11 : cl_a1_11.slots[((0 : Int32)).toNatClampNeg]? = some (.int y0) := own_at H_a1_11 S_a1_11 ⟨by decide, by decide⟩ 0 (by decide) rfl
  obtain ⟨fs, hr, hrun, hended, hW, hsame⟩ := X0.leave (v := some (.int (0 : Int32))) (fun h => by rw [Bd.returns] at h; cases h)
  refine ⟨_, _, pre0 _ ?_, hrun, hended, _, _, rfl, ?_, ⟨_, rfl⟩, hW, hsame.mono (by decide) (by decide)⟩
  · show Steps p.tables e below (s₁.setTop (mkF m 0 (oL59 p2 a1) [])) _
    refine XS.iloadN X0.here hx rfl (hb hby d18_0) rfl ?_
    refine XS.i2b X0.here hx rfl (hb hby d18_1) rfl ?_
    refine XS.istore X0.here hx rfl (hb hby d18_2) rfl (l' := #[.val (.ref a1), .val (.int p2), .val (.int (0 : Int32)), .val (.int (1 : Int32)), .val (.int (p2.toInt8.toInt32)), .unset]) rfl ?_
    refine XS.iloadN X0.here hx rfl (hb hby d18_4) rfl ?_
    refine XS.istore X0.here hx rfl (hb hby d18_5) rfl (l' := (oL60 p2 a1)) rfl ?_
    show Steps p.tables e below (s₁.setTop (mkF m 7 (oL60 p2 a1) [])) _
    refine XS.iload X0.here hx rfl (hb hby d18_7) rfl ?_
    refine XS.iloadN X0.here hx rfl (hb hby d18_9) rfl ?_
    refine XS.icmpNo X0.here hx rfl (hb hby d18_10) rfl (tlt (by decide : (0 : Int32) < (1 : Int32))).2.1 ?_
    refine XS.aloadN X0.here hx rfl (hb hby d18_13) rfl rfl ?_
    refine XS.iload X0.here hx rfl (hb hby d18_14) rfl ?_
    show Steps p.tables e below (s₁.setTop (mkF m 16 (oL60 p2 a1) [(.int (0 : Int32)), (.ref a1)])) _
    refine X0.baloadBytes hx (j := (0 : Int32)) (v := (.int y0)) (by rw [e0]; exact Ar_a1_11.1) (State.isArrayOf_alike hZ.alike Ar_a1_11.2.1) Ar_a1_11.2.2 hin_a1_11 hat_a1_11 (g := (mkF m 16 (oL60 p2 a1) [(.int (0 : Int32)), (.ref a1)])) rfl rfl (hb hby d18_16) _ ?_
    refine XS.iload X0.here hx rfl (hb hby d18_17) rfl ?_
    refine XS.icmpNo X0.here hx rfl (hb hby d18_19) rfl (teq hc19).2 ?_
    refine XS.iload X0.here hx rfl (hb hby d18_22) rfl ?_
    exact retI X0 hx Bd.returns (hb hby d18_24) hr
  · show own_QR (.int (0 : Int32)) h0 n0 _ s₁.heap _
    rw [e0]
    exact ⟨rfl, N0, rfl⟩
theorem d18_25 : decode jdk_43_method_23_code 25 = .ok (.iinc 5 1, 3) := by decide +kernel
theorem d18_28 : decode jdk_43_method_23_code 28 = .ok (.goto (-21), 3) := by decide +kernel
theorem d18_31 : decode jdk_43_method_23_code 31 = .ok (.iconst (-1), 1) := by decide +kernel
theorem d18_32 : decode jdk_43_method_23_code 32 = .ok (.ireturn, 1) := by decide +kernel
abbrev oL61 (p2 : Int32) (a1 : Addr) : Array Slot := #[.val (.ref a1), .val (.int p2), .val (.int (0 : Int32)), .val (.int (1 : Int32)), .val (.int (p2.toInt8.toInt32)), .val (.int ((0 : Int32) + (1 : Int32)))]
set_option maxRecDepth 65536 in
set_option maxHeartbeats 40000000 in
theorem rm18_1_N (l : Launch) (Z : State) (a0 : Array Value) (hw : ∀ d ∈ tables_1, d.before a0 Z = true) (ws : List Jvm.Cond) (a1 : Addr) (p2 : Int32) (_q3 : Int32) (_q4 : Int32) (y0 : Int32) (k_a1 : ClassId) (h0 : Heap) (n0 : Nat) (Z0 : n0 ≤ h0.size) (V_a1 : Arv Z h0 a1 k_a1 .byte (1 : Int32) [(.int y0)] (.int (0 : Int32))) (hc19 : ¬ (y0 = (p2.toInt8.toInt32))) :
    MetFree l (⟨"java/lang/StringLatin1", "indexOfChar", "([BIII)I"⟩ : MethodName) (head1 (Jvm.Cond.code (⟨"java/lang/StringLatin1", "indexOfChar", "([BIII)I"⟩ : MethodName) jdk_43_method_23_code 6 (some .int) :: ws) ({ frames := 0, cells := 0, slots := 0, locals := 0 } : Room)) (fun a U => a = #[(.ref a1), (.int p2), (.int (0 : Int32)), (.int (1 : Int32))] ∧ Z.Warmed39 U.vm ∧ U.heap = h0) (fun _ _ _ _ _ => True) (fun _ U o U' => ∃ v L, o = .returned v ∧ own_QR (.int (-1 : Int32)) h0 n0 v U'.heap L ∧ FrameEnd U o U' L ({ frames := 0, cells := 0, slots := 0, locals := 0 } : Room).cells ({ frames := 0, cells := 0, slots := 0, locals := 0 } : Room).slots) := by
  refine MetFree.of_bodySF (plainFor_of_name pn_18) hisR ?_
  intro p e s m args below meth c s₁ Bd hml0 hP hK
  obtain ⟨rfl, hZ, hh⟩ := hP
  have hx := Bd.exec
  have hby := Bd.bytes
  have hml : c.maxLocals = 6 := hml0
  have hown : s.vm.findClass "java/lang/StringLatin1" = some m.cls := findClass_of_methodNamed Bd.named
  have hnm := (name_of_methodNamed Bd.named Bd.method).1
  have X0 : Stand p l e ({ frames := 0, cells := 0, slots := 0, locals := 0 } : Room) s m #[(.ref a1), (.int p2), (.int (0 : Int32)), (.int (1 : Int32))] below meth c s₁ [] 0 0 := Stand.of_body Bd
  have e0 : s₁.heap = h0 := by rw [← hh, Bd.state]; rfl
  have N0 := Fr.nil n0
  have pre0 : ∀ t, Steps p.tables e below (s₁.setTop (mkF m 0 (oL59 p2 a1) [])) t → Steps p.tables e below (s₁.setTop (entryFrame m #[(.ref a1), (.int p2), (.int (0 : Int32)), (.int (1 : Int32))] 6)) t := fun t k => castTop (ef_18 m a1 p2 (0 : Int32) (1 : Int32)) k
  obtain ⟨cl_a1_11, Ar_a1_11, q_a1_11, S_a1_11, N_a1_11, H_a1_11, G_a1_11⟩ := id V_a1
  have hin_a1_11 : ¬ ((0 : Int32) < 0 ∨ cl_a1_11.slots.size ≤ ((0 : Int32)).toNatClampNeg) := inb_of S_a1_11 ⟨by decide, by decide⟩
  have hat_a1_11 : cl_a1_11.slots[((0 : Int32)).toNatClampNeg]? = some (.int y0) := own_at H_a1_11 S_a1_11 ⟨by decide, by decide⟩ 0 (by decide) rfl
  obtain ⟨fs, hr, hrun, hended, hW, hsame⟩ := X0.leave (v := some (.int (-1 : Int32))) (fun h => by rw [Bd.returns] at h; cases h)
  refine ⟨_, _, pre0 _ ?_, hrun, hended, _, _, rfl, ?_, ⟨_, rfl⟩, hW, hsame.mono (by decide) (by decide)⟩
  · show Steps p.tables e below (s₁.setTop (mkF m 0 (oL59 p2 a1) [])) _
    refine XS.iloadN X0.here hx rfl (hb hby d18_0) rfl ?_
    refine XS.i2b X0.here hx rfl (hb hby d18_1) rfl ?_
    refine XS.istore X0.here hx rfl (hb hby d18_2) rfl (l' := #[.val (.ref a1), .val (.int p2), .val (.int (0 : Int32)), .val (.int (1 : Int32)), .val (.int (p2.toInt8.toInt32)), .unset]) rfl ?_
    refine XS.iloadN X0.here hx rfl (hb hby d18_4) rfl ?_
    refine XS.istore X0.here hx rfl (hb hby d18_5) rfl (l' := (oL60 p2 a1)) rfl ?_
    show Steps p.tables e below (s₁.setTop (mkF m 7 (oL60 p2 a1) [])) _
    refine XS.iload X0.here hx rfl (hb hby d18_7) rfl ?_
    refine XS.iloadN X0.here hx rfl (hb hby d18_9) rfl ?_
    refine XS.icmpNo X0.here hx rfl (hb hby d18_10) rfl (tlt (by decide : (0 : Int32) < (1 : Int32))).2.1 ?_
    refine XS.aloadN X0.here hx rfl (hb hby d18_13) rfl rfl ?_
    refine XS.iload X0.here hx rfl (hb hby d18_14) rfl ?_
    show Steps p.tables e below (s₁.setTop (mkF m 16 (oL60 p2 a1) [(.int (0 : Int32)), (.ref a1)])) _
    refine X0.baloadBytes hx (j := (0 : Int32)) (v := (.int y0)) (by rw [e0]; exact Ar_a1_11.1) (State.isArrayOf_alike hZ.alike Ar_a1_11.2.1) Ar_a1_11.2.2 hin_a1_11 hat_a1_11 (g := (mkF m 16 (oL60 p2 a1) [(.int (0 : Int32)), (.ref a1)])) rfl rfl (hb hby d18_16) _ ?_
    refine XS.iload X0.here hx rfl (hb hby d18_17) rfl ?_
    refine XS.icmpYes X0.here hx rfl (pc0 := 19) (pc' := 25) rfl (hb hby d18_19) rfl (feq hc19).2 (by decide) (by decide) ?_
    refine XS.iinc X0.here hx rfl (hb hby d18_25) rfl (l' := (oL61 p2 a1)) rfl ?_
    refine XS.goto X0.here hx rfl (pc0 := 28) (pc' := 7) rfl (hb hby d18_28) (by decide) (by decide) ?_
    show Steps p.tables e below (s₁.setTop (mkF m 7 (oL61 p2 a1) [])) _
    refine XS.iload X0.here hx rfl (hb hby d18_7) rfl ?_
    refine XS.iloadN X0.here hx rfl (hb hby d18_9) rfl ?_
    refine XS.icmpYes X0.here hx rfl (pc0 := 10) (pc' := 31) rfl (hb hby d18_10) rfl (flt (by decide : ¬ (((0 : Int32) + (1 : Int32)) < (1 : Int32)))).2.1 (by decide) (by decide) ?_
    refine XS.iconst X0.here hx rfl (hb hby d18_31) ?_
    exact retI X0 hx Bd.returns (hb hby d18_32) hr
  · show own_QR (.int (-1 : Int32)) h0 n0 _ s₁.heap _
    rw [e0]
    exact ⟨rfl, N0, rfl⟩
abbrev oL62 (p2 : Int32) (a1 : Addr) : Array Slot := #[.val (.ref a1), .val (.int p2), .val (.int (0 : Int32)), .val (.int (2 : Int32)), .unset, .unset]
abbrev oL63 (p2 : Int32) (a1 : Addr) : Array Slot := #[.val (.ref a1), .val (.int p2), .val (.int (0 : Int32)), .val (.int (2 : Int32)), .val (.int (p2.toInt8.toInt32)), .val (.int (0 : Int32))]
set_option maxRecDepth 65536 in
set_option maxHeartbeats 40000000 in
theorem rm18_2_0 (l : Launch) (Z : State) (a0 : Array Value) (hw : ∀ d ∈ tables_1, d.before a0 Z = true) (ws : List Jvm.Cond) (a1 : Addr) (p2 : Int32) (_q3 : Int32) (_q4 : Int32) (y0 : Int32) (y1 : Int32) (k_a1 : ClassId) (h0 : Heap) (n0 : Nat) (Z0 : n0 ≤ h0.size) (V_a1 : Arv Z h0 a1 k_a1 .byte (2 : Int32) [(.int y0), (.int y1)] (.int (0 : Int32))) (hc19 : y0 = (p2.toInt8.toInt32)) :
    MetFree l (⟨"java/lang/StringLatin1", "indexOfChar", "([BIII)I"⟩ : MethodName) (head1 (Jvm.Cond.code (⟨"java/lang/StringLatin1", "indexOfChar", "([BIII)I"⟩ : MethodName) jdk_43_method_23_code 6 (some .int) :: ws) ({ frames := 0, cells := 0, slots := 0, locals := 0 } : Room)) (fun a U => a = #[(.ref a1), (.int p2), (.int (0 : Int32)), (.int (2 : Int32))] ∧ Z.Warmed39 U.vm ∧ U.heap = h0) (fun _ _ _ _ _ => True) (fun _ U o U' => ∃ v L, o = .returned v ∧ own_QR (.int (0 : Int32)) h0 n0 v U'.heap L ∧ FrameEnd U o U' L ({ frames := 0, cells := 0, slots := 0, locals := 0 } : Room).cells ({ frames := 0, cells := 0, slots := 0, locals := 0 } : Room).slots) := by
  refine MetFree.of_bodySF (plainFor_of_name pn_18) hisR ?_
  intro p e s m args below meth c s₁ Bd hml0 hP hK
  obtain ⟨rfl, hZ, hh⟩ := hP
  have hx := Bd.exec
  have hby := Bd.bytes
  have hml : c.maxLocals = 6 := hml0
  have hown : s.vm.findClass "java/lang/StringLatin1" = some m.cls := findClass_of_methodNamed Bd.named
  have hnm := (name_of_methodNamed Bd.named Bd.method).1
  have X0 : Stand p l e ({ frames := 0, cells := 0, slots := 0, locals := 0 } : Room) s m #[(.ref a1), (.int p2), (.int (0 : Int32)), (.int (2 : Int32))] below meth c s₁ [] 0 0 := Stand.of_body Bd
  have e0 : s₁.heap = h0 := by rw [← hh, Bd.state]; rfl
  have N0 := Fr.nil n0
  have pre0 : ∀ t, Steps p.tables e below (s₁.setTop (mkF m 0 (oL62 p2 a1) [])) t → Steps p.tables e below (s₁.setTop (entryFrame m #[(.ref a1), (.int p2), (.int (0 : Int32)), (.int (2 : Int32))] 6)) t := fun t k => castTop (ef_18 m a1 p2 (0 : Int32) (2 : Int32)) k
  obtain ⟨cl_a1_11, Ar_a1_11, q_a1_11, S_a1_11, N_a1_11, H_a1_11, G_a1_11⟩ := id V_a1
  have hin_a1_11 : ¬ ((0 : Int32) < 0 ∨ cl_a1_11.slots.size ≤ ((0 : Int32)).toNatClampNeg) := inb_of S_a1_11 ⟨by decide, by decide⟩
  have hat_a1_11 : cl_a1_11.slots[((0 : Int32)).toNatClampNeg]? = some (.int y0) := own_at H_a1_11 S_a1_11 ⟨by decide, by decide⟩ 0 (by decide) rfl
  obtain ⟨fs, hr, hrun, hended, hW, hsame⟩ := X0.leave (v := some (.int (0 : Int32))) (fun h => by rw [Bd.returns] at h; cases h)
  refine ⟨_, _, pre0 _ ?_, hrun, hended, _, _, rfl, ?_, ⟨_, rfl⟩, hW, hsame.mono (by decide) (by decide)⟩
  · show Steps p.tables e below (s₁.setTop (mkF m 0 (oL62 p2 a1) [])) _
    refine XS.iloadN X0.here hx rfl (hb hby d18_0) rfl ?_
    refine XS.i2b X0.here hx rfl (hb hby d18_1) rfl ?_
    refine XS.istore X0.here hx rfl (hb hby d18_2) rfl (l' := #[.val (.ref a1), .val (.int p2), .val (.int (0 : Int32)), .val (.int (2 : Int32)), .val (.int (p2.toInt8.toInt32)), .unset]) rfl ?_
    refine XS.iloadN X0.here hx rfl (hb hby d18_4) rfl ?_
    refine XS.istore X0.here hx rfl (hb hby d18_5) rfl (l' := (oL63 p2 a1)) rfl ?_
    show Steps p.tables e below (s₁.setTop (mkF m 7 (oL63 p2 a1) [])) _
    refine XS.iload X0.here hx rfl (hb hby d18_7) rfl ?_
    refine XS.iloadN X0.here hx rfl (hb hby d18_9) rfl ?_
    refine XS.icmpNo X0.here hx rfl (hb hby d18_10) rfl (tlt (by decide : (0 : Int32) < (2 : Int32))).2.1 ?_
    refine XS.aloadN X0.here hx rfl (hb hby d18_13) rfl rfl ?_
    refine XS.iload X0.here hx rfl (hb hby d18_14) rfl ?_
    show Steps p.tables e below (s₁.setTop (mkF m 16 (oL63 p2 a1) [(.int (0 : Int32)), (.ref a1)])) _
    refine X0.baloadBytes hx (j := (0 : Int32)) (v := (.int y0)) (by rw [e0]; exact Ar_a1_11.1) (State.isArrayOf_alike hZ.alike Ar_a1_11.2.1) Ar_a1_11.2.2 hin_a1_11 hat_a1_11 (g := (mkF m 16 (oL63 p2 a1) [(.int (0 : Int32)), (.ref a1)])) rfl rfl (hb hby d18_16) _ ?_
    refine XS.iload X0.here hx rfl (hb hby d18_17) rfl ?_
    refine XS.icmpNo X0.here hx rfl (hb hby d18_19) rfl (teq hc19).2 ?_
    refine XS.iload X0.here hx rfl (hb hby d18_22) rfl ?_
    exact retI X0 hx Bd.returns (hb hby d18_24) hr
  · show own_QR (.int (0 : Int32)) h0 n0 _ s₁.heap _
    rw [e0]
    exact ⟨rfl, N0, rfl⟩
abbrev oL64 (p2 : Int32) (a1 : Addr) : Array Slot := #[.val (.ref a1), .val (.int p2), .val (.int (0 : Int32)), .val (.int (2 : Int32)), .val (.int (p2.toInt8.toInt32)), .val (.int ((0 : Int32) + (1 : Int32)))]
set_option maxRecDepth 65536 in
set_option maxHeartbeats 40000000 in
theorem rm18_2_1 (l : Launch) (Z : State) (a0 : Array Value) (hw : ∀ d ∈ tables_1, d.before a0 Z = true) (ws : List Jvm.Cond) (a1 : Addr) (p2 : Int32) (_q3 : Int32) (_q4 : Int32) (y0 : Int32) (y1 : Int32) (k_a1 : ClassId) (h0 : Heap) (n0 : Nat) (Z0 : n0 ≤ h0.size) (V_a1 : Arv Z h0 a1 k_a1 .byte (2 : Int32) [(.int y0), (.int y1)] (.int (0 : Int32))) (hc19 : ¬ (y0 = (p2.toInt8.toInt32))) (hc19_23 : y1 = (p2.toInt8.toInt32)) :
    MetFree l (⟨"java/lang/StringLatin1", "indexOfChar", "([BIII)I"⟩ : MethodName) (head1 (Jvm.Cond.code (⟨"java/lang/StringLatin1", "indexOfChar", "([BIII)I"⟩ : MethodName) jdk_43_method_23_code 6 (some .int) :: ws) ({ frames := 0, cells := 0, slots := 0, locals := 0 } : Room)) (fun a U => a = #[(.ref a1), (.int p2), (.int (0 : Int32)), (.int (2 : Int32))] ∧ Z.Warmed39 U.vm ∧ U.heap = h0) (fun _ _ _ _ _ => True) (fun _ U o U' => ∃ v L, o = .returned v ∧ own_QR (.int (1 : Int32)) h0 n0 v U'.heap L ∧ FrameEnd U o U' L ({ frames := 0, cells := 0, slots := 0, locals := 0 } : Room).cells ({ frames := 0, cells := 0, slots := 0, locals := 0 } : Room).slots) := by
  refine MetFree.of_bodySF (plainFor_of_name pn_18) hisR ?_
  intro p e s m args below meth c s₁ Bd hml0 hP hK
  obtain ⟨rfl, hZ, hh⟩ := hP
  have hx := Bd.exec
  have hby := Bd.bytes
  have hml : c.maxLocals = 6 := hml0
  have hown : s.vm.findClass "java/lang/StringLatin1" = some m.cls := findClass_of_methodNamed Bd.named
  have hnm := (name_of_methodNamed Bd.named Bd.method).1
  have X0 : Stand p l e ({ frames := 0, cells := 0, slots := 0, locals := 0 } : Room) s m #[(.ref a1), (.int p2), (.int (0 : Int32)), (.int (2 : Int32))] below meth c s₁ [] 0 0 := Stand.of_body Bd
  have e0 : s₁.heap = h0 := by rw [← hh, Bd.state]; rfl
  have N0 := Fr.nil n0
  have pre0 : ∀ t, Steps p.tables e below (s₁.setTop (mkF m 0 (oL62 p2 a1) [])) t → Steps p.tables e below (s₁.setTop (entryFrame m #[(.ref a1), (.int p2), (.int (0 : Int32)), (.int (2 : Int32))] 6)) t := fun t k => castTop (ef_18 m a1 p2 (0 : Int32) (2 : Int32)) k
  obtain ⟨cl_a1_11, Ar_a1_11, q_a1_11, S_a1_11, N_a1_11, H_a1_11, G_a1_11⟩ := id V_a1
  have hin_a1_11 : ¬ ((0 : Int32) < 0 ∨ cl_a1_11.slots.size ≤ ((0 : Int32)).toNatClampNeg) := inb_of S_a1_11 ⟨by decide, by decide⟩
  have hat_a1_11 : cl_a1_11.slots[((0 : Int32)).toNatClampNeg]? = some (.int y0) := own_at H_a1_11 S_a1_11 ⟨by decide, by decide⟩ 0 (by decide) rfl
  obtain ⟨cl_a1_21, Ar_a1_21, q_a1_21, S_a1_21, N_a1_21, H_a1_21, G_a1_21⟩ := id V_a1
  have hin_a1_21 : ¬ (((0 : Int32) + (1 : Int32)) < 0 ∨ cl_a1_21.slots.size ≤ (((0 : Int32) + (1 : Int32))).toNatClampNeg) := inb_of S_a1_21 ⟨by decide, by decide⟩
  have hat_a1_21 : cl_a1_21.slots[(((0 : Int32) + (1 : Int32))).toNatClampNeg]? = some (.int y1) := own_at H_a1_21 S_a1_21 ⟨by decide, by decide⟩ 1 (by decide) rfl
  obtain ⟨fs, hr, hrun, hended, hW, hsame⟩ := X0.leave (v := some (.int ((0 : Int32) + (1 : Int32)))) (fun h => by rw [Bd.returns] at h; cases h)
  refine ⟨_, _, pre0 _ ?_, hrun, hended, _, _, rfl, ?_, ⟨_, rfl⟩, hW, hsame.mono (by decide) (by decide)⟩
  · show Steps p.tables e below (s₁.setTop (mkF m 0 (oL62 p2 a1) [])) _
    refine XS.iloadN X0.here hx rfl (hb hby d18_0) rfl ?_
    refine XS.i2b X0.here hx rfl (hb hby d18_1) rfl ?_
    refine XS.istore X0.here hx rfl (hb hby d18_2) rfl (l' := #[.val (.ref a1), .val (.int p2), .val (.int (0 : Int32)), .val (.int (2 : Int32)), .val (.int (p2.toInt8.toInt32)), .unset]) rfl ?_
    refine XS.iloadN X0.here hx rfl (hb hby d18_4) rfl ?_
    refine XS.istore X0.here hx rfl (hb hby d18_5) rfl (l' := (oL63 p2 a1)) rfl ?_
    show Steps p.tables e below (s₁.setTop (mkF m 7 (oL63 p2 a1) [])) _
    refine XS.iload X0.here hx rfl (hb hby d18_7) rfl ?_
    refine XS.iloadN X0.here hx rfl (hb hby d18_9) rfl ?_
    refine XS.icmpNo X0.here hx rfl (hb hby d18_10) rfl (tlt (by decide : (0 : Int32) < (2 : Int32))).2.1 ?_
    refine XS.aloadN X0.here hx rfl (hb hby d18_13) rfl rfl ?_
    refine XS.iload X0.here hx rfl (hb hby d18_14) rfl ?_
    show Steps p.tables e below (s₁.setTop (mkF m 16 (oL63 p2 a1) [(.int (0 : Int32)), (.ref a1)])) _
    refine X0.baloadBytes hx (j := (0 : Int32)) (v := (.int y0)) (by rw [e0]; exact Ar_a1_11.1) (State.isArrayOf_alike hZ.alike Ar_a1_11.2.1) Ar_a1_11.2.2 hin_a1_11 hat_a1_11 (g := (mkF m 16 (oL63 p2 a1) [(.int (0 : Int32)), (.ref a1)])) rfl rfl (hb hby d18_16) _ ?_
    refine XS.iload X0.here hx rfl (hb hby d18_17) rfl ?_
    refine XS.icmpYes X0.here hx rfl (pc0 := 19) (pc' := 25) rfl (hb hby d18_19) rfl (feq hc19).2 (by decide) (by decide) ?_
    refine XS.iinc X0.here hx rfl (hb hby d18_25) rfl (l' := (oL64 p2 a1)) rfl ?_
    refine XS.goto X0.here hx rfl (pc0 := 28) (pc' := 7) rfl (hb hby d18_28) (by decide) (by decide) ?_
    show Steps p.tables e below (s₁.setTop (mkF m 7 (oL64 p2 a1) [])) _
    refine XS.iload X0.here hx rfl (hb hby d18_7) rfl ?_
    refine XS.iloadN X0.here hx rfl (hb hby d18_9) rfl ?_
    refine XS.icmpNo X0.here hx rfl (hb hby d18_10) rfl (tlt (by decide : ((0 : Int32) + (1 : Int32)) < (2 : Int32))).2.1 ?_
    refine XS.aloadN X0.here hx rfl (hb hby d18_13) rfl rfl ?_
    refine XS.iload X0.here hx rfl (hb hby d18_14) rfl ?_
    show Steps p.tables e below (s₁.setTop (mkF m 16 (oL64 p2 a1) [(.int ((0 : Int32) + (1 : Int32))), (.ref a1)])) _
    refine X0.baloadBytes hx (j := ((0 : Int32) + (1 : Int32))) (v := (.int y1)) (by rw [e0]; exact Ar_a1_21.1) (State.isArrayOf_alike hZ.alike Ar_a1_21.2.1) Ar_a1_21.2.2 hin_a1_21 hat_a1_21 (g := (mkF m 16 (oL64 p2 a1) [(.int ((0 : Int32) + (1 : Int32))), (.ref a1)])) rfl rfl (hb hby d18_16) _ ?_
    refine XS.iload X0.here hx rfl (hb hby d18_17) rfl ?_
    refine XS.icmpNo X0.here hx rfl (hb hby d18_19) rfl (teq hc19_23).2 ?_
    refine XS.iload X0.here hx rfl (hb hby d18_22) rfl ?_
    exact retI X0 hx Bd.returns (hb hby d18_24) hr
  · show own_QR (.int (1 : Int32)) h0 n0 _ s₁.heap _
    rw [e0]
    exact ⟨congrArg (fun z => some (Value.int z)) (by decide), N0, rfl⟩
abbrev oL65 (p2 : Int32) (a1 : Addr) : Array Slot := #[.val (.ref a1), .val (.int p2), .val (.int (0 : Int32)), .val (.int (2 : Int32)), .val (.int (p2.toInt8.toInt32)), .val (.int (((0 : Int32) + (1 : Int32)) + (1 : Int32)))]
set_option maxRecDepth 65536 in
set_option maxHeartbeats 40000000 in
theorem rm18_2_N (l : Launch) (Z : State) (a0 : Array Value) (hw : ∀ d ∈ tables_1, d.before a0 Z = true) (ws : List Jvm.Cond) (a1 : Addr) (p2 : Int32) (_q3 : Int32) (_q4 : Int32) (y0 : Int32) (y1 : Int32) (k_a1 : ClassId) (h0 : Heap) (n0 : Nat) (Z0 : n0 ≤ h0.size) (V_a1 : Arv Z h0 a1 k_a1 .byte (2 : Int32) [(.int y0), (.int y1)] (.int (0 : Int32))) (hc19 : ¬ (y0 = (p2.toInt8.toInt32))) (hc19_23 : ¬ (y1 = (p2.toInt8.toInt32))) :
    MetFree l (⟨"java/lang/StringLatin1", "indexOfChar", "([BIII)I"⟩ : MethodName) (head1 (Jvm.Cond.code (⟨"java/lang/StringLatin1", "indexOfChar", "([BIII)I"⟩ : MethodName) jdk_43_method_23_code 6 (some .int) :: ws) ({ frames := 0, cells := 0, slots := 0, locals := 0 } : Room)) (fun a U => a = #[(.ref a1), (.int p2), (.int (0 : Int32)), (.int (2 : Int32))] ∧ Z.Warmed39 U.vm ∧ U.heap = h0) (fun _ _ _ _ _ => True) (fun _ U o U' => ∃ v L, o = .returned v ∧ own_QR (.int (-1 : Int32)) h0 n0 v U'.heap L ∧ FrameEnd U o U' L ({ frames := 0, cells := 0, slots := 0, locals := 0 } : Room).cells ({ frames := 0, cells := 0, slots := 0, locals := 0 } : Room).slots) := by
  refine MetFree.of_bodySF (plainFor_of_name pn_18) hisR ?_
  intro p e s m args below meth c s₁ Bd hml0 hP hK
  obtain ⟨rfl, hZ, hh⟩ := hP
  have hx := Bd.exec
  have hby := Bd.bytes
  have hml : c.maxLocals = 6 := hml0
  have hown : s.vm.findClass "java/lang/StringLatin1" = some m.cls := findClass_of_methodNamed Bd.named
  have hnm := (name_of_methodNamed Bd.named Bd.method).1
  have X0 : Stand p l e ({ frames := 0, cells := 0, slots := 0, locals := 0 } : Room) s m #[(.ref a1), (.int p2), (.int (0 : Int32)), (.int (2 : Int32))] below meth c s₁ [] 0 0 := Stand.of_body Bd
  have e0 : s₁.heap = h0 := by rw [← hh, Bd.state]; rfl
  have N0 := Fr.nil n0
  have pre0 : ∀ t, Steps p.tables e below (s₁.setTop (mkF m 0 (oL62 p2 a1) [])) t → Steps p.tables e below (s₁.setTop (entryFrame m #[(.ref a1), (.int p2), (.int (0 : Int32)), (.int (2 : Int32))] 6)) t := fun t k => castTop (ef_18 m a1 p2 (0 : Int32) (2 : Int32)) k
  obtain ⟨cl_a1_11, Ar_a1_11, q_a1_11, S_a1_11, N_a1_11, H_a1_11, G_a1_11⟩ := id V_a1
  have hin_a1_11 : ¬ ((0 : Int32) < 0 ∨ cl_a1_11.slots.size ≤ ((0 : Int32)).toNatClampNeg) := inb_of S_a1_11 ⟨by decide, by decide⟩
  have hat_a1_11 : cl_a1_11.slots[((0 : Int32)).toNatClampNeg]? = some (.int y0) := own_at H_a1_11 S_a1_11 ⟨by decide, by decide⟩ 0 (by decide) rfl
  obtain ⟨cl_a1_21, Ar_a1_21, q_a1_21, S_a1_21, N_a1_21, H_a1_21, G_a1_21⟩ := id V_a1
  have hin_a1_21 : ¬ (((0 : Int32) + (1 : Int32)) < 0 ∨ cl_a1_21.slots.size ≤ (((0 : Int32) + (1 : Int32))).toNatClampNeg) := inb_of S_a1_21 ⟨by decide, by decide⟩
  have hat_a1_21 : cl_a1_21.slots[(((0 : Int32) + (1 : Int32))).toNatClampNeg]? = some (.int y1) := own_at H_a1_21 S_a1_21 ⟨by decide, by decide⟩ 1 (by decide) rfl
  obtain ⟨fs, hr, hrun, hended, hW, hsame⟩ := X0.leave (v := some (.int (-1 : Int32))) (fun h => by rw [Bd.returns] at h; cases h)
  refine ⟨_, _, pre0 _ ?_, hrun, hended, _, _, rfl, ?_, ⟨_, rfl⟩, hW, hsame.mono (by decide) (by decide)⟩
  · show Steps p.tables e below (s₁.setTop (mkF m 0 (oL62 p2 a1) [])) _
    refine XS.iloadN X0.here hx rfl (hb hby d18_0) rfl ?_
    refine XS.i2b X0.here hx rfl (hb hby d18_1) rfl ?_
    refine XS.istore X0.here hx rfl (hb hby d18_2) rfl (l' := #[.val (.ref a1), .val (.int p2), .val (.int (0 : Int32)), .val (.int (2 : Int32)), .val (.int (p2.toInt8.toInt32)), .unset]) rfl ?_
    refine XS.iloadN X0.here hx rfl (hb hby d18_4) rfl ?_
    refine XS.istore X0.here hx rfl (hb hby d18_5) rfl (l' := (oL63 p2 a1)) rfl ?_
    show Steps p.tables e below (s₁.setTop (mkF m 7 (oL63 p2 a1) [])) _
    refine XS.iload X0.here hx rfl (hb hby d18_7) rfl ?_
    refine XS.iloadN X0.here hx rfl (hb hby d18_9) rfl ?_
    refine XS.icmpNo X0.here hx rfl (hb hby d18_10) rfl (tlt (by decide : (0 : Int32) < (2 : Int32))).2.1 ?_
    refine XS.aloadN X0.here hx rfl (hb hby d18_13) rfl rfl ?_
    refine XS.iload X0.here hx rfl (hb hby d18_14) rfl ?_
    show Steps p.tables e below (s₁.setTop (mkF m 16 (oL63 p2 a1) [(.int (0 : Int32)), (.ref a1)])) _
    refine X0.baloadBytes hx (j := (0 : Int32)) (v := (.int y0)) (by rw [e0]; exact Ar_a1_11.1) (State.isArrayOf_alike hZ.alike Ar_a1_11.2.1) Ar_a1_11.2.2 hin_a1_11 hat_a1_11 (g := (mkF m 16 (oL63 p2 a1) [(.int (0 : Int32)), (.ref a1)])) rfl rfl (hb hby d18_16) _ ?_
    refine XS.iload X0.here hx rfl (hb hby d18_17) rfl ?_
    refine XS.icmpYes X0.here hx rfl (pc0 := 19) (pc' := 25) rfl (hb hby d18_19) rfl (feq hc19).2 (by decide) (by decide) ?_
    refine XS.iinc X0.here hx rfl (hb hby d18_25) rfl (l' := (oL64 p2 a1)) rfl ?_
    refine XS.goto X0.here hx rfl (pc0 := 28) (pc' := 7) rfl (hb hby d18_28) (by decide) (by decide) ?_
    show Steps p.tables e below (s₁.setTop (mkF m 7 (oL64 p2 a1) [])) _
    refine XS.iload X0.here hx rfl (hb hby d18_7) rfl ?_
    refine XS.iloadN X0.here hx rfl (hb hby d18_9) rfl ?_
    refine XS.icmpNo X0.here hx rfl (hb hby d18_10) rfl (tlt (by decide : ((0 : Int32) + (1 : Int32)) < (2 : Int32))).2.1 ?_
    refine XS.aloadN X0.here hx rfl (hb hby d18_13) rfl rfl ?_
    refine XS.iload X0.here hx rfl (hb hby d18_14) rfl ?_
    show Steps p.tables e below (s₁.setTop (mkF m 16 (oL64 p2 a1) [(.int ((0 : Int32) + (1 : Int32))), (.ref a1)])) _
    refine X0.baloadBytes hx (j := ((0 : Int32) + (1 : Int32))) (v := (.int y1)) (by rw [e0]; exact Ar_a1_21.1) (State.isArrayOf_alike hZ.alike Ar_a1_21.2.1) Ar_a1_21.2.2 hin_a1_21 hat_a1_21 (g := (mkF m 16 (oL64 p2 a1) [(.int ((0 : Int32) + (1 : Int32))), (.ref a1)])) rfl rfl (hb hby d18_16) _ ?_
    refine XS.iload X0.here hx rfl (hb hby d18_17) rfl ?_
    refine XS.icmpYes X0.here hx rfl (pc0 := 19) (pc' := 25) rfl (hb hby d18_19) rfl (feq hc19_23).2 (by decide) (by decide) ?_
    refine XS.iinc X0.here hx rfl (hb hby d18_25) rfl (l' := (oL65 p2 a1)) rfl ?_
    refine XS.goto X0.here hx rfl (pc0 := 28) (pc' := 7) rfl (hb hby d18_28) (by decide) (by decide) ?_
    show Steps p.tables e below (s₁.setTop (mkF m 7 (oL65 p2 a1) [])) _
    refine XS.iload X0.here hx rfl (hb hby d18_7) rfl ?_
    refine XS.iloadN X0.here hx rfl (hb hby d18_9) rfl ?_
    refine XS.icmpYes X0.here hx rfl (pc0 := 10) (pc' := 31) rfl (hb hby d18_10) rfl (flt (by decide : ¬ ((((0 : Int32) + (1 : Int32)) + (1 : Int32)) < (2 : Int32)))).2.1 (by decide) (by decide) ?_
    refine XS.iconst X0.here hx rfl (hb hby d18_31) ?_
    exact retI X0 hx Bd.returns (hb hby d18_32) hr
  · show own_QR (.int (-1 : Int32)) h0 n0 _ s₁.heap _
    rw [e0]
    exact ⟨rfl, N0, rfl⟩
abbrev oL66 (p2 : Int32) (a1 : Addr) : Array Slot := #[.val (.ref a1), .val (.int p2), .val (.int (0 : Int32)), .val (.int (3 : Int32)), .unset, .unset]
abbrev oL67 (p2 : Int32) (a1 : Addr) : Array Slot := #[.val (.ref a1), .val (.int p2), .val (.int (0 : Int32)), .val (.int (3 : Int32)), .val (.int (p2.toInt8.toInt32)), .val (.int (0 : Int32))]
set_option maxRecDepth 65536 in
set_option maxHeartbeats 40000000 in
theorem rm18_3_0 (l : Launch) (Z : State) (a0 : Array Value) (hw : ∀ d ∈ tables_1, d.before a0 Z = true) (ws : List Jvm.Cond) (a1 : Addr) (p2 : Int32) (_q3 : Int32) (_q4 : Int32) (y0 : Int32) (y1 : Int32) (y2 : Int32) (k_a1 : ClassId) (h0 : Heap) (n0 : Nat) (Z0 : n0 ≤ h0.size) (V_a1 : Arv Z h0 a1 k_a1 .byte (3 : Int32) [(.int y0), (.int y1), (.int y2)] (.int (0 : Int32))) (hc19 : y0 = (p2.toInt8.toInt32)) :
    MetFree l (⟨"java/lang/StringLatin1", "indexOfChar", "([BIII)I"⟩ : MethodName) (head1 (Jvm.Cond.code (⟨"java/lang/StringLatin1", "indexOfChar", "([BIII)I"⟩ : MethodName) jdk_43_method_23_code 6 (some .int) :: ws) ({ frames := 0, cells := 0, slots := 0, locals := 0 } : Room)) (fun a U => a = #[(.ref a1), (.int p2), (.int (0 : Int32)), (.int (3 : Int32))] ∧ Z.Warmed39 U.vm ∧ U.heap = h0) (fun _ _ _ _ _ => True) (fun _ U o U' => ∃ v L, o = .returned v ∧ own_QR (.int (0 : Int32)) h0 n0 v U'.heap L ∧ FrameEnd U o U' L ({ frames := 0, cells := 0, slots := 0, locals := 0 } : Room).cells ({ frames := 0, cells := 0, slots := 0, locals := 0 } : Room).slots) := by
  refine MetFree.of_bodySF (plainFor_of_name pn_18) hisR ?_
  intro p e s m args below meth c s₁ Bd hml0 hP hK
  obtain ⟨rfl, hZ, hh⟩ := hP
  have hx := Bd.exec
  have hby := Bd.bytes
  have hml : c.maxLocals = 6 := hml0
  have hown : s.vm.findClass "java/lang/StringLatin1" = some m.cls := findClass_of_methodNamed Bd.named
  have hnm := (name_of_methodNamed Bd.named Bd.method).1
  have X0 : Stand p l e ({ frames := 0, cells := 0, slots := 0, locals := 0 } : Room) s m #[(.ref a1), (.int p2), (.int (0 : Int32)), (.int (3 : Int32))] below meth c s₁ [] 0 0 := Stand.of_body Bd
  have e0 : s₁.heap = h0 := by rw [← hh, Bd.state]; rfl
  have N0 := Fr.nil n0
  have pre0 : ∀ t, Steps p.tables e below (s₁.setTop (mkF m 0 (oL66 p2 a1) [])) t → Steps p.tables e below (s₁.setTop (entryFrame m #[(.ref a1), (.int p2), (.int (0 : Int32)), (.int (3 : Int32))] 6)) t := fun t k => castTop (ef_18 m a1 p2 (0 : Int32) (3 : Int32)) k
  obtain ⟨cl_a1_11, Ar_a1_11, q_a1_11, S_a1_11, N_a1_11, H_a1_11, G_a1_11⟩ := id V_a1
  have hin_a1_11 : ¬ ((0 : Int32) < 0 ∨ cl_a1_11.slots.size ≤ ((0 : Int32)).toNatClampNeg) := inb_of S_a1_11 ⟨by decide, by decide⟩
  have hat_a1_11 : cl_a1_11.slots[((0 : Int32)).toNatClampNeg]? = some (.int y0) := own_at H_a1_11 S_a1_11 ⟨by decide, by decide⟩ 0 (by decide) rfl
  obtain ⟨fs, hr, hrun, hended, hW, hsame⟩ := X0.leave (v := some (.int (0 : Int32))) (fun h => by rw [Bd.returns] at h; cases h)
  refine ⟨_, _, pre0 _ ?_, hrun, hended, _, _, rfl, ?_, ⟨_, rfl⟩, hW, hsame.mono (by decide) (by decide)⟩
  · show Steps p.tables e below (s₁.setTop (mkF m 0 (oL66 p2 a1) [])) _
    refine XS.iloadN X0.here hx rfl (hb hby d18_0) rfl ?_
    refine XS.i2b X0.here hx rfl (hb hby d18_1) rfl ?_
    refine XS.istore X0.here hx rfl (hb hby d18_2) rfl (l' := #[.val (.ref a1), .val (.int p2), .val (.int (0 : Int32)), .val (.int (3 : Int32)), .val (.int (p2.toInt8.toInt32)), .unset]) rfl ?_
    refine XS.iloadN X0.here hx rfl (hb hby d18_4) rfl ?_
    refine XS.istore X0.here hx rfl (hb hby d18_5) rfl (l' := (oL67 p2 a1)) rfl ?_
    show Steps p.tables e below (s₁.setTop (mkF m 7 (oL67 p2 a1) [])) _
    refine XS.iload X0.here hx rfl (hb hby d18_7) rfl ?_
    refine XS.iloadN X0.here hx rfl (hb hby d18_9) rfl ?_
    refine XS.icmpNo X0.here hx rfl (hb hby d18_10) rfl (tlt (by decide : (0 : Int32) < (3 : Int32))).2.1 ?_
    refine XS.aloadN X0.here hx rfl (hb hby d18_13) rfl rfl ?_
    refine XS.iload X0.here hx rfl (hb hby d18_14) rfl ?_
    show Steps p.tables e below (s₁.setTop (mkF m 16 (oL67 p2 a1) [(.int (0 : Int32)), (.ref a1)])) _
    refine X0.baloadBytes hx (j := (0 : Int32)) (v := (.int y0)) (by rw [e0]; exact Ar_a1_11.1) (State.isArrayOf_alike hZ.alike Ar_a1_11.2.1) Ar_a1_11.2.2 hin_a1_11 hat_a1_11 (g := (mkF m 16 (oL67 p2 a1) [(.int (0 : Int32)), (.ref a1)])) rfl rfl (hb hby d18_16) _ ?_
    refine XS.iload X0.here hx rfl (hb hby d18_17) rfl ?_
    refine XS.icmpNo X0.here hx rfl (hb hby d18_19) rfl (teq hc19).2 ?_
    refine XS.iload X0.here hx rfl (hb hby d18_22) rfl ?_
    exact retI X0 hx Bd.returns (hb hby d18_24) hr
  · show own_QR (.int (0 : Int32)) h0 n0 _ s₁.heap _
    rw [e0]
    exact ⟨rfl, N0, rfl⟩
abbrev oL68 (p2 : Int32) (a1 : Addr) : Array Slot := #[.val (.ref a1), .val (.int p2), .val (.int (0 : Int32)), .val (.int (3 : Int32)), .val (.int (p2.toInt8.toInt32)), .val (.int ((0 : Int32) + (1 : Int32)))]
set_option maxRecDepth 65536 in
set_option maxHeartbeats 40000000 in
theorem rm18_3_1 (l : Launch) (Z : State) (a0 : Array Value) (hw : ∀ d ∈ tables_1, d.before a0 Z = true) (ws : List Jvm.Cond) (a1 : Addr) (p2 : Int32) (_q3 : Int32) (_q4 : Int32) (y0 : Int32) (y1 : Int32) (y2 : Int32) (k_a1 : ClassId) (h0 : Heap) (n0 : Nat) (Z0 : n0 ≤ h0.size) (V_a1 : Arv Z h0 a1 k_a1 .byte (3 : Int32) [(.int y0), (.int y1), (.int y2)] (.int (0 : Int32))) (hc19 : ¬ (y0 = (p2.toInt8.toInt32))) (hc19_23 : y1 = (p2.toInt8.toInt32)) :
    MetFree l (⟨"java/lang/StringLatin1", "indexOfChar", "([BIII)I"⟩ : MethodName) (head1 (Jvm.Cond.code (⟨"java/lang/StringLatin1", "indexOfChar", "([BIII)I"⟩ : MethodName) jdk_43_method_23_code 6 (some .int) :: ws) ({ frames := 0, cells := 0, slots := 0, locals := 0 } : Room)) (fun a U => a = #[(.ref a1), (.int p2), (.int (0 : Int32)), (.int (3 : Int32))] ∧ Z.Warmed39 U.vm ∧ U.heap = h0) (fun _ _ _ _ _ => True) (fun _ U o U' => ∃ v L, o = .returned v ∧ own_QR (.int (1 : Int32)) h0 n0 v U'.heap L ∧ FrameEnd U o U' L ({ frames := 0, cells := 0, slots := 0, locals := 0 } : Room).cells ({ frames := 0, cells := 0, slots := 0, locals := 0 } : Room).slots) := by
  refine MetFree.of_bodySF (plainFor_of_name pn_18) hisR ?_
  intro p e s m args below meth c s₁ Bd hml0 hP hK
  obtain ⟨rfl, hZ, hh⟩ := hP
  have hx := Bd.exec
  have hby := Bd.bytes
  have hml : c.maxLocals = 6 := hml0
  have hown : s.vm.findClass "java/lang/StringLatin1" = some m.cls := findClass_of_methodNamed Bd.named
  have hnm := (name_of_methodNamed Bd.named Bd.method).1
  have X0 : Stand p l e ({ frames := 0, cells := 0, slots := 0, locals := 0 } : Room) s m #[(.ref a1), (.int p2), (.int (0 : Int32)), (.int (3 : Int32))] below meth c s₁ [] 0 0 := Stand.of_body Bd
  have e0 : s₁.heap = h0 := by rw [← hh, Bd.state]; rfl
  have N0 := Fr.nil n0
  have pre0 : ∀ t, Steps p.tables e below (s₁.setTop (mkF m 0 (oL66 p2 a1) [])) t → Steps p.tables e below (s₁.setTop (entryFrame m #[(.ref a1), (.int p2), (.int (0 : Int32)), (.int (3 : Int32))] 6)) t := fun t k => castTop (ef_18 m a1 p2 (0 : Int32) (3 : Int32)) k
  obtain ⟨cl_a1_11, Ar_a1_11, q_a1_11, S_a1_11, N_a1_11, H_a1_11, G_a1_11⟩ := id V_a1
  have hin_a1_11 : ¬ ((0 : Int32) < 0 ∨ cl_a1_11.slots.size ≤ ((0 : Int32)).toNatClampNeg) := inb_of S_a1_11 ⟨by decide, by decide⟩
  have hat_a1_11 : cl_a1_11.slots[((0 : Int32)).toNatClampNeg]? = some (.int y0) := own_at H_a1_11 S_a1_11 ⟨by decide, by decide⟩ 0 (by decide) rfl
  obtain ⟨cl_a1_21, Ar_a1_21, q_a1_21, S_a1_21, N_a1_21, H_a1_21, G_a1_21⟩ := id V_a1
  have hin_a1_21 : ¬ (((0 : Int32) + (1 : Int32)) < 0 ∨ cl_a1_21.slots.size ≤ (((0 : Int32) + (1 : Int32))).toNatClampNeg) := inb_of S_a1_21 ⟨by decide, by decide⟩
  have hat_a1_21 : cl_a1_21.slots[(((0 : Int32) + (1 : Int32))).toNatClampNeg]? = some (.int y1) := own_at H_a1_21 S_a1_21 ⟨by decide, by decide⟩ 1 (by decide) rfl
  obtain ⟨fs, hr, hrun, hended, hW, hsame⟩ := X0.leave (v := some (.int ((0 : Int32) + (1 : Int32)))) (fun h => by rw [Bd.returns] at h; cases h)
  refine ⟨_, _, pre0 _ ?_, hrun, hended, _, _, rfl, ?_, ⟨_, rfl⟩, hW, hsame.mono (by decide) (by decide)⟩
  · show Steps p.tables e below (s₁.setTop (mkF m 0 (oL66 p2 a1) [])) _
    refine XS.iloadN X0.here hx rfl (hb hby d18_0) rfl ?_
    refine XS.i2b X0.here hx rfl (hb hby d18_1) rfl ?_
    refine XS.istore X0.here hx rfl (hb hby d18_2) rfl (l' := #[.val (.ref a1), .val (.int p2), .val (.int (0 : Int32)), .val (.int (3 : Int32)), .val (.int (p2.toInt8.toInt32)), .unset]) rfl ?_
    refine XS.iloadN X0.here hx rfl (hb hby d18_4) rfl ?_
    refine XS.istore X0.here hx rfl (hb hby d18_5) rfl (l' := (oL67 p2 a1)) rfl ?_
    show Steps p.tables e below (s₁.setTop (mkF m 7 (oL67 p2 a1) [])) _
    refine XS.iload X0.here hx rfl (hb hby d18_7) rfl ?_
    refine XS.iloadN X0.here hx rfl (hb hby d18_9) rfl ?_
    refine XS.icmpNo X0.here hx rfl (hb hby d18_10) rfl (tlt (by decide : (0 : Int32) < (3 : Int32))).2.1 ?_
    refine XS.aloadN X0.here hx rfl (hb hby d18_13) rfl rfl ?_
    refine XS.iload X0.here hx rfl (hb hby d18_14) rfl ?_
    show Steps p.tables e below (s₁.setTop (mkF m 16 (oL67 p2 a1) [(.int (0 : Int32)), (.ref a1)])) _
    refine X0.baloadBytes hx (j := (0 : Int32)) (v := (.int y0)) (by rw [e0]; exact Ar_a1_11.1) (State.isArrayOf_alike hZ.alike Ar_a1_11.2.1) Ar_a1_11.2.2 hin_a1_11 hat_a1_11 (g := (mkF m 16 (oL67 p2 a1) [(.int (0 : Int32)), (.ref a1)])) rfl rfl (hb hby d18_16) _ ?_
    refine XS.iload X0.here hx rfl (hb hby d18_17) rfl ?_
    refine XS.icmpYes X0.here hx rfl (pc0 := 19) (pc' := 25) rfl (hb hby d18_19) rfl (feq hc19).2 (by decide) (by decide) ?_
    refine XS.iinc X0.here hx rfl (hb hby d18_25) rfl (l' := (oL68 p2 a1)) rfl ?_
    refine XS.goto X0.here hx rfl (pc0 := 28) (pc' := 7) rfl (hb hby d18_28) (by decide) (by decide) ?_
    show Steps p.tables e below (s₁.setTop (mkF m 7 (oL68 p2 a1) [])) _
    refine XS.iload X0.here hx rfl (hb hby d18_7) rfl ?_
    refine XS.iloadN X0.here hx rfl (hb hby d18_9) rfl ?_
    refine XS.icmpNo X0.here hx rfl (hb hby d18_10) rfl (tlt (by decide : ((0 : Int32) + (1 : Int32)) < (3 : Int32))).2.1 ?_
    refine XS.aloadN X0.here hx rfl (hb hby d18_13) rfl rfl ?_
    refine XS.iload X0.here hx rfl (hb hby d18_14) rfl ?_
    show Steps p.tables e below (s₁.setTop (mkF m 16 (oL68 p2 a1) [(.int ((0 : Int32) + (1 : Int32))), (.ref a1)])) _
    refine X0.baloadBytes hx (j := ((0 : Int32) + (1 : Int32))) (v := (.int y1)) (by rw [e0]; exact Ar_a1_21.1) (State.isArrayOf_alike hZ.alike Ar_a1_21.2.1) Ar_a1_21.2.2 hin_a1_21 hat_a1_21 (g := (mkF m 16 (oL68 p2 a1) [(.int ((0 : Int32) + (1 : Int32))), (.ref a1)])) rfl rfl (hb hby d18_16) _ ?_
    refine XS.iload X0.here hx rfl (hb hby d18_17) rfl ?_
    refine XS.icmpNo X0.here hx rfl (hb hby d18_19) rfl (teq hc19_23).2 ?_
    refine XS.iload X0.here hx rfl (hb hby d18_22) rfl ?_
    exact retI X0 hx Bd.returns (hb hby d18_24) hr
  · show own_QR (.int (1 : Int32)) h0 n0 _ s₁.heap _
    rw [e0]
    exact ⟨congrArg (fun z => some (Value.int z)) (by decide), N0, rfl⟩
abbrev oL69 (p2 : Int32) (a1 : Addr) : Array Slot := #[.val (.ref a1), .val (.int p2), .val (.int (0 : Int32)), .val (.int (3 : Int32)), .val (.int (p2.toInt8.toInt32)), .val (.int (((0 : Int32) + (1 : Int32)) + (1 : Int32)))]
set_option maxRecDepth 65536 in
set_option maxHeartbeats 40000000 in
theorem rm18_3_2 (l : Launch) (Z : State) (a0 : Array Value) (hw : ∀ d ∈ tables_1, d.before a0 Z = true) (ws : List Jvm.Cond) (a1 : Addr) (p2 : Int32) (_q3 : Int32) (_q4 : Int32) (y0 : Int32) (y1 : Int32) (y2 : Int32) (k_a1 : ClassId) (h0 : Heap) (n0 : Nat) (Z0 : n0 ≤ h0.size) (V_a1 : Arv Z h0 a1 k_a1 .byte (3 : Int32) [(.int y0), (.int y1), (.int y2)] (.int (0 : Int32))) (hc19 : ¬ (y0 = (p2.toInt8.toInt32))) (hc19_23 : ¬ (y1 = (p2.toInt8.toInt32))) (hc19_33 : y2 = (p2.toInt8.toInt32)) :
    MetFree l (⟨"java/lang/StringLatin1", "indexOfChar", "([BIII)I"⟩ : MethodName) (head1 (Jvm.Cond.code (⟨"java/lang/StringLatin1", "indexOfChar", "([BIII)I"⟩ : MethodName) jdk_43_method_23_code 6 (some .int) :: ws) ({ frames := 0, cells := 0, slots := 0, locals := 0 } : Room)) (fun a U => a = #[(.ref a1), (.int p2), (.int (0 : Int32)), (.int (3 : Int32))] ∧ Z.Warmed39 U.vm ∧ U.heap = h0) (fun _ _ _ _ _ => True) (fun _ U o U' => ∃ v L, o = .returned v ∧ own_QR (.int (2 : Int32)) h0 n0 v U'.heap L ∧ FrameEnd U o U' L ({ frames := 0, cells := 0, slots := 0, locals := 0 } : Room).cells ({ frames := 0, cells := 0, slots := 0, locals := 0 } : Room).slots) := by
  refine MetFree.of_bodySF (plainFor_of_name pn_18) hisR ?_
  intro p e s m args below meth c s₁ Bd hml0 hP hK
  obtain ⟨rfl, hZ, hh⟩ := hP
  have hx := Bd.exec
  have hby := Bd.bytes
  have hml : c.maxLocals = 6 := hml0
  have hown : s.vm.findClass "java/lang/StringLatin1" = some m.cls := findClass_of_methodNamed Bd.named
  have hnm := (name_of_methodNamed Bd.named Bd.method).1
  have X0 : Stand p l e ({ frames := 0, cells := 0, slots := 0, locals := 0 } : Room) s m #[(.ref a1), (.int p2), (.int (0 : Int32)), (.int (3 : Int32))] below meth c s₁ [] 0 0 := Stand.of_body Bd
  have e0 : s₁.heap = h0 := by rw [← hh, Bd.state]; rfl
  have N0 := Fr.nil n0
  have pre0 : ∀ t, Steps p.tables e below (s₁.setTop (mkF m 0 (oL66 p2 a1) [])) t → Steps p.tables e below (s₁.setTop (entryFrame m #[(.ref a1), (.int p2), (.int (0 : Int32)), (.int (3 : Int32))] 6)) t := fun t k => castTop (ef_18 m a1 p2 (0 : Int32) (3 : Int32)) k
  obtain ⟨cl_a1_11, Ar_a1_11, q_a1_11, S_a1_11, N_a1_11, H_a1_11, G_a1_11⟩ := id V_a1
  have hin_a1_11 : ¬ ((0 : Int32) < 0 ∨ cl_a1_11.slots.size ≤ ((0 : Int32)).toNatClampNeg) := inb_of S_a1_11 ⟨by decide, by decide⟩
  have hat_a1_11 : cl_a1_11.slots[((0 : Int32)).toNatClampNeg]? = some (.int y0) := own_at H_a1_11 S_a1_11 ⟨by decide, by decide⟩ 0 (by decide) rfl
  obtain ⟨cl_a1_21, Ar_a1_21, q_a1_21, S_a1_21, N_a1_21, H_a1_21, G_a1_21⟩ := id V_a1
  have hin_a1_21 : ¬ (((0 : Int32) + (1 : Int32)) < 0 ∨ cl_a1_21.slots.size ≤ (((0 : Int32) + (1 : Int32))).toNatClampNeg) := inb_of S_a1_21 ⟨by decide, by decide⟩
  have hat_a1_21 : cl_a1_21.slots[(((0 : Int32) + (1 : Int32))).toNatClampNeg]? = some (.int y1) := own_at H_a1_21 S_a1_21 ⟨by decide, by decide⟩ 1 (by decide) rfl
  obtain ⟨cl_a1_31, Ar_a1_31, q_a1_31, S_a1_31, N_a1_31, H_a1_31, G_a1_31⟩ := id V_a1
  have hin_a1_31 : ¬ ((((0 : Int32) + (1 : Int32)) + (1 : Int32)) < 0 ∨ cl_a1_31.slots.size ≤ ((((0 : Int32) + (1 : Int32)) + (1 : Int32))).toNatClampNeg) := inb_of S_a1_31 ⟨by decide, by decide⟩
  have hat_a1_31 : cl_a1_31.slots[((((0 : Int32) + (1 : Int32)) + (1 : Int32))).toNatClampNeg]? = some (.int y2) := own_at H_a1_31 S_a1_31 ⟨by decide, by decide⟩ 2 (by decide) rfl
  obtain ⟨fs, hr, hrun, hended, hW, hsame⟩ := X0.leave (v := some (.int (((0 : Int32) + (1 : Int32)) + (1 : Int32)))) (fun h => by rw [Bd.returns] at h; cases h)
  refine ⟨_, _, pre0 _ ?_, hrun, hended, _, _, rfl, ?_, ⟨_, rfl⟩, hW, hsame.mono (by decide) (by decide)⟩
  · show Steps p.tables e below (s₁.setTop (mkF m 0 (oL66 p2 a1) [])) _
    refine XS.iloadN X0.here hx rfl (hb hby d18_0) rfl ?_
    refine XS.i2b X0.here hx rfl (hb hby d18_1) rfl ?_
    refine XS.istore X0.here hx rfl (hb hby d18_2) rfl (l' := #[.val (.ref a1), .val (.int p2), .val (.int (0 : Int32)), .val (.int (3 : Int32)), .val (.int (p2.toInt8.toInt32)), .unset]) rfl ?_
    refine XS.iloadN X0.here hx rfl (hb hby d18_4) rfl ?_
    refine XS.istore X0.here hx rfl (hb hby d18_5) rfl (l' := (oL67 p2 a1)) rfl ?_
    show Steps p.tables e below (s₁.setTop (mkF m 7 (oL67 p2 a1) [])) _
    refine XS.iload X0.here hx rfl (hb hby d18_7) rfl ?_
    refine XS.iloadN X0.here hx rfl (hb hby d18_9) rfl ?_
    refine XS.icmpNo X0.here hx rfl (hb hby d18_10) rfl (tlt (by decide : (0 : Int32) < (3 : Int32))).2.1 ?_
    refine XS.aloadN X0.here hx rfl (hb hby d18_13) rfl rfl ?_
    refine XS.iload X0.here hx rfl (hb hby d18_14) rfl ?_
    show Steps p.tables e below (s₁.setTop (mkF m 16 (oL67 p2 a1) [(.int (0 : Int32)), (.ref a1)])) _
    refine X0.baloadBytes hx (j := (0 : Int32)) (v := (.int y0)) (by rw [e0]; exact Ar_a1_11.1) (State.isArrayOf_alike hZ.alike Ar_a1_11.2.1) Ar_a1_11.2.2 hin_a1_11 hat_a1_11 (g := (mkF m 16 (oL67 p2 a1) [(.int (0 : Int32)), (.ref a1)])) rfl rfl (hb hby d18_16) _ ?_
    refine XS.iload X0.here hx rfl (hb hby d18_17) rfl ?_
    refine XS.icmpYes X0.here hx rfl (pc0 := 19) (pc' := 25) rfl (hb hby d18_19) rfl (feq hc19).2 (by decide) (by decide) ?_
    refine XS.iinc X0.here hx rfl (hb hby d18_25) rfl (l' := (oL68 p2 a1)) rfl ?_
    refine XS.goto X0.here hx rfl (pc0 := 28) (pc' := 7) rfl (hb hby d18_28) (by decide) (by decide) ?_
    show Steps p.tables e below (s₁.setTop (mkF m 7 (oL68 p2 a1) [])) _
    refine XS.iload X0.here hx rfl (hb hby d18_7) rfl ?_
    refine XS.iloadN X0.here hx rfl (hb hby d18_9) rfl ?_
    refine XS.icmpNo X0.here hx rfl (hb hby d18_10) rfl (tlt (by decide : ((0 : Int32) + (1 : Int32)) < (3 : Int32))).2.1 ?_
    refine XS.aloadN X0.here hx rfl (hb hby d18_13) rfl rfl ?_
    refine XS.iload X0.here hx rfl (hb hby d18_14) rfl ?_
    show Steps p.tables e below (s₁.setTop (mkF m 16 (oL68 p2 a1) [(.int ((0 : Int32) + (1 : Int32))), (.ref a1)])) _
    refine X0.baloadBytes hx (j := ((0 : Int32) + (1 : Int32))) (v := (.int y1)) (by rw [e0]; exact Ar_a1_21.1) (State.isArrayOf_alike hZ.alike Ar_a1_21.2.1) Ar_a1_21.2.2 hin_a1_21 hat_a1_21 (g := (mkF m 16 (oL68 p2 a1) [(.int ((0 : Int32) + (1 : Int32))), (.ref a1)])) rfl rfl (hb hby d18_16) _ ?_
    refine XS.iload X0.here hx rfl (hb hby d18_17) rfl ?_
    refine XS.icmpYes X0.here hx rfl (pc0 := 19) (pc' := 25) rfl (hb hby d18_19) rfl (feq hc19_23).2 (by decide) (by decide) ?_
    refine XS.iinc X0.here hx rfl (hb hby d18_25) rfl (l' := (oL69 p2 a1)) rfl ?_
    refine XS.goto X0.here hx rfl (pc0 := 28) (pc' := 7) rfl (hb hby d18_28) (by decide) (by decide) ?_
    show Steps p.tables e below (s₁.setTop (mkF m 7 (oL69 p2 a1) [])) _
    refine XS.iload X0.here hx rfl (hb hby d18_7) rfl ?_
    refine XS.iloadN X0.here hx rfl (hb hby d18_9) rfl ?_
    refine XS.icmpNo X0.here hx rfl (hb hby d18_10) rfl (tlt (by decide : (((0 : Int32) + (1 : Int32)) + (1 : Int32)) < (3 : Int32))).2.1 ?_
    refine XS.aloadN X0.here hx rfl (hb hby d18_13) rfl rfl ?_
    refine XS.iload X0.here hx rfl (hb hby d18_14) rfl ?_
    show Steps p.tables e below (s₁.setTop (mkF m 16 (oL69 p2 a1) [(.int (((0 : Int32) + (1 : Int32)) + (1 : Int32))), (.ref a1)])) _
    refine X0.baloadBytes hx (j := (((0 : Int32) + (1 : Int32)) + (1 : Int32))) (v := (.int y2)) (by rw [e0]; exact Ar_a1_31.1) (State.isArrayOf_alike hZ.alike Ar_a1_31.2.1) Ar_a1_31.2.2 hin_a1_31 hat_a1_31 (g := (mkF m 16 (oL69 p2 a1) [(.int (((0 : Int32) + (1 : Int32)) + (1 : Int32))), (.ref a1)])) rfl rfl (hb hby d18_16) _ ?_
    refine XS.iload X0.here hx rfl (hb hby d18_17) rfl ?_
    refine XS.icmpNo X0.here hx rfl (hb hby d18_19) rfl (teq hc19_33).2 ?_
    refine XS.iload X0.here hx rfl (hb hby d18_22) rfl ?_
    exact retI X0 hx Bd.returns (hb hby d18_24) hr
  · show own_QR (.int (2 : Int32)) h0 n0 _ s₁.heap _
    rw [e0]
    exact ⟨congrArg (fun z => some (Value.int z)) (by decide), N0, rfl⟩
abbrev oL70 (p2 : Int32) (a1 : Addr) : Array Slot := #[.val (.ref a1), .val (.int p2), .val (.int (0 : Int32)), .val (.int (3 : Int32)), .val (.int (p2.toInt8.toInt32)), .val (.int ((((0 : Int32) + (1 : Int32)) + (1 : Int32)) + (1 : Int32)))]
set_option maxRecDepth 65536 in
set_option maxHeartbeats 40000000 in
theorem rm18_3_N (l : Launch) (Z : State) (a0 : Array Value) (hw : ∀ d ∈ tables_1, d.before a0 Z = true) (ws : List Jvm.Cond) (a1 : Addr) (p2 : Int32) (_q3 : Int32) (_q4 : Int32) (y0 : Int32) (y1 : Int32) (y2 : Int32) (k_a1 : ClassId) (h0 : Heap) (n0 : Nat) (Z0 : n0 ≤ h0.size) (V_a1 : Arv Z h0 a1 k_a1 .byte (3 : Int32) [(.int y0), (.int y1), (.int y2)] (.int (0 : Int32))) (hc19 : ¬ (y0 = (p2.toInt8.toInt32))) (hc19_23 : ¬ (y1 = (p2.toInt8.toInt32))) (hc19_33 : ¬ (y2 = (p2.toInt8.toInt32))) :
    MetFree l (⟨"java/lang/StringLatin1", "indexOfChar", "([BIII)I"⟩ : MethodName) (head1 (Jvm.Cond.code (⟨"java/lang/StringLatin1", "indexOfChar", "([BIII)I"⟩ : MethodName) jdk_43_method_23_code 6 (some .int) :: ws) ({ frames := 0, cells := 0, slots := 0, locals := 0 } : Room)) (fun a U => a = #[(.ref a1), (.int p2), (.int (0 : Int32)), (.int (3 : Int32))] ∧ Z.Warmed39 U.vm ∧ U.heap = h0) (fun _ _ _ _ _ => True) (fun _ U o U' => ∃ v L, o = .returned v ∧ own_QR (.int (-1 : Int32)) h0 n0 v U'.heap L ∧ FrameEnd U o U' L ({ frames := 0, cells := 0, slots := 0, locals := 0 } : Room).cells ({ frames := 0, cells := 0, slots := 0, locals := 0 } : Room).slots) := by
  refine MetFree.of_bodySF (plainFor_of_name pn_18) hisR ?_
  intro p e s m args below meth c s₁ Bd hml0 hP hK
  obtain ⟨rfl, hZ, hh⟩ := hP
  have hx := Bd.exec
  have hby := Bd.bytes
  have hml : c.maxLocals = 6 := hml0
  have hown : s.vm.findClass "java/lang/StringLatin1" = some m.cls := findClass_of_methodNamed Bd.named
  have hnm := (name_of_methodNamed Bd.named Bd.method).1
  have X0 : Stand p l e ({ frames := 0, cells := 0, slots := 0, locals := 0 } : Room) s m #[(.ref a1), (.int p2), (.int (0 : Int32)), (.int (3 : Int32))] below meth c s₁ [] 0 0 := Stand.of_body Bd
  have e0 : s₁.heap = h0 := by rw [← hh, Bd.state]; rfl
  have N0 := Fr.nil n0
  have pre0 : ∀ t, Steps p.tables e below (s₁.setTop (mkF m 0 (oL66 p2 a1) [])) t → Steps p.tables e below (s₁.setTop (entryFrame m #[(.ref a1), (.int p2), (.int (0 : Int32)), (.int (3 : Int32))] 6)) t := fun t k => castTop (ef_18 m a1 p2 (0 : Int32) (3 : Int32)) k
  obtain ⟨cl_a1_11, Ar_a1_11, q_a1_11, S_a1_11, N_a1_11, H_a1_11, G_a1_11⟩ := id V_a1
  have hin_a1_11 : ¬ ((0 : Int32) < 0 ∨ cl_a1_11.slots.size ≤ ((0 : Int32)).toNatClampNeg) := inb_of S_a1_11 ⟨by decide, by decide⟩
  have hat_a1_11 : cl_a1_11.slots[((0 : Int32)).toNatClampNeg]? = some (.int y0) := own_at H_a1_11 S_a1_11 ⟨by decide, by decide⟩ 0 (by decide) rfl
  obtain ⟨cl_a1_21, Ar_a1_21, q_a1_21, S_a1_21, N_a1_21, H_a1_21, G_a1_21⟩ := id V_a1
  have hin_a1_21 : ¬ (((0 : Int32) + (1 : Int32)) < 0 ∨ cl_a1_21.slots.size ≤ (((0 : Int32) + (1 : Int32))).toNatClampNeg) := inb_of S_a1_21 ⟨by decide, by decide⟩
  have hat_a1_21 : cl_a1_21.slots[(((0 : Int32) + (1 : Int32))).toNatClampNeg]? = some (.int y1) := own_at H_a1_21 S_a1_21 ⟨by decide, by decide⟩ 1 (by decide) rfl
  obtain ⟨cl_a1_31, Ar_a1_31, q_a1_31, S_a1_31, N_a1_31, H_a1_31, G_a1_31⟩ := id V_a1
  have hin_a1_31 : ¬ ((((0 : Int32) + (1 : Int32)) + (1 : Int32)) < 0 ∨ cl_a1_31.slots.size ≤ ((((0 : Int32) + (1 : Int32)) + (1 : Int32))).toNatClampNeg) := inb_of S_a1_31 ⟨by decide, by decide⟩
  have hat_a1_31 : cl_a1_31.slots[((((0 : Int32) + (1 : Int32)) + (1 : Int32))).toNatClampNeg]? = some (.int y2) := own_at H_a1_31 S_a1_31 ⟨by decide, by decide⟩ 2 (by decide) rfl
  obtain ⟨fs, hr, hrun, hended, hW, hsame⟩ := X0.leave (v := some (.int (-1 : Int32))) (fun h => by rw [Bd.returns] at h; cases h)
  refine ⟨_, _, pre0 _ ?_, hrun, hended, _, _, rfl, ?_, ⟨_, rfl⟩, hW, hsame.mono (by decide) (by decide)⟩
  · show Steps p.tables e below (s₁.setTop (mkF m 0 (oL66 p2 a1) [])) _
    refine XS.iloadN X0.here hx rfl (hb hby d18_0) rfl ?_
    refine XS.i2b X0.here hx rfl (hb hby d18_1) rfl ?_
    refine XS.istore X0.here hx rfl (hb hby d18_2) rfl (l' := #[.val (.ref a1), .val (.int p2), .val (.int (0 : Int32)), .val (.int (3 : Int32)), .val (.int (p2.toInt8.toInt32)), .unset]) rfl ?_
    refine XS.iloadN X0.here hx rfl (hb hby d18_4) rfl ?_
    refine XS.istore X0.here hx rfl (hb hby d18_5) rfl (l' := (oL67 p2 a1)) rfl ?_
    show Steps p.tables e below (s₁.setTop (mkF m 7 (oL67 p2 a1) [])) _
    refine XS.iload X0.here hx rfl (hb hby d18_7) rfl ?_
    refine XS.iloadN X0.here hx rfl (hb hby d18_9) rfl ?_
    refine XS.icmpNo X0.here hx rfl (hb hby d18_10) rfl (tlt (by decide : (0 : Int32) < (3 : Int32))).2.1 ?_
    refine XS.aloadN X0.here hx rfl (hb hby d18_13) rfl rfl ?_
    refine XS.iload X0.here hx rfl (hb hby d18_14) rfl ?_
    show Steps p.tables e below (s₁.setTop (mkF m 16 (oL67 p2 a1) [(.int (0 : Int32)), (.ref a1)])) _
    refine X0.baloadBytes hx (j := (0 : Int32)) (v := (.int y0)) (by rw [e0]; exact Ar_a1_11.1) (State.isArrayOf_alike hZ.alike Ar_a1_11.2.1) Ar_a1_11.2.2 hin_a1_11 hat_a1_11 (g := (mkF m 16 (oL67 p2 a1) [(.int (0 : Int32)), (.ref a1)])) rfl rfl (hb hby d18_16) _ ?_
    refine XS.iload X0.here hx rfl (hb hby d18_17) rfl ?_
    refine XS.icmpYes X0.here hx rfl (pc0 := 19) (pc' := 25) rfl (hb hby d18_19) rfl (feq hc19).2 (by decide) (by decide) ?_
    refine XS.iinc X0.here hx rfl (hb hby d18_25) rfl (l' := (oL68 p2 a1)) rfl ?_
    refine XS.goto X0.here hx rfl (pc0 := 28) (pc' := 7) rfl (hb hby d18_28) (by decide) (by decide) ?_
    show Steps p.tables e below (s₁.setTop (mkF m 7 (oL68 p2 a1) [])) _
    refine XS.iload X0.here hx rfl (hb hby d18_7) rfl ?_
    refine XS.iloadN X0.here hx rfl (hb hby d18_9) rfl ?_
    refine XS.icmpNo X0.here hx rfl (hb hby d18_10) rfl (tlt (by decide : ((0 : Int32) + (1 : Int32)) < (3 : Int32))).2.1 ?_
    refine XS.aloadN X0.here hx rfl (hb hby d18_13) rfl rfl ?_
    refine XS.iload X0.here hx rfl (hb hby d18_14) rfl ?_
    show Steps p.tables e below (s₁.setTop (mkF m 16 (oL68 p2 a1) [(.int ((0 : Int32) + (1 : Int32))), (.ref a1)])) _
    refine X0.baloadBytes hx (j := ((0 : Int32) + (1 : Int32))) (v := (.int y1)) (by rw [e0]; exact Ar_a1_21.1) (State.isArrayOf_alike hZ.alike Ar_a1_21.2.1) Ar_a1_21.2.2 hin_a1_21 hat_a1_21 (g := (mkF m 16 (oL68 p2 a1) [(.int ((0 : Int32) + (1 : Int32))), (.ref a1)])) rfl rfl (hb hby d18_16) _ ?_
    refine XS.iload X0.here hx rfl (hb hby d18_17) rfl ?_
    refine XS.icmpYes X0.here hx rfl (pc0 := 19) (pc' := 25) rfl (hb hby d18_19) rfl (feq hc19_23).2 (by decide) (by decide) ?_
    refine XS.iinc X0.here hx rfl (hb hby d18_25) rfl (l' := (oL69 p2 a1)) rfl ?_
    refine XS.goto X0.here hx rfl (pc0 := 28) (pc' := 7) rfl (hb hby d18_28) (by decide) (by decide) ?_
    show Steps p.tables e below (s₁.setTop (mkF m 7 (oL69 p2 a1) [])) _
    refine XS.iload X0.here hx rfl (hb hby d18_7) rfl ?_
    refine XS.iloadN X0.here hx rfl (hb hby d18_9) rfl ?_
    refine XS.icmpNo X0.here hx rfl (hb hby d18_10) rfl (tlt (by decide : (((0 : Int32) + (1 : Int32)) + (1 : Int32)) < (3 : Int32))).2.1 ?_
    refine XS.aloadN X0.here hx rfl (hb hby d18_13) rfl rfl ?_
    refine XS.iload X0.here hx rfl (hb hby d18_14) rfl ?_
    show Steps p.tables e below (s₁.setTop (mkF m 16 (oL69 p2 a1) [(.int (((0 : Int32) + (1 : Int32)) + (1 : Int32))), (.ref a1)])) _
    refine X0.baloadBytes hx (j := (((0 : Int32) + (1 : Int32)) + (1 : Int32))) (v := (.int y2)) (by rw [e0]; exact Ar_a1_31.1) (State.isArrayOf_alike hZ.alike Ar_a1_31.2.1) Ar_a1_31.2.2 hin_a1_31 hat_a1_31 (g := (mkF m 16 (oL69 p2 a1) [(.int (((0 : Int32) + (1 : Int32)) + (1 : Int32))), (.ref a1)])) rfl rfl (hb hby d18_16) _ ?_
    refine XS.iload X0.here hx rfl (hb hby d18_17) rfl ?_
    refine XS.icmpYes X0.here hx rfl (pc0 := 19) (pc' := 25) rfl (hb hby d18_19) rfl (feq hc19_33).2 (by decide) (by decide) ?_
    refine XS.iinc X0.here hx rfl (hb hby d18_25) rfl (l' := (oL70 p2 a1)) rfl ?_
    refine XS.goto X0.here hx rfl (pc0 := 28) (pc' := 7) rfl (hb hby d18_28) (by decide) (by decide) ?_
    show Steps p.tables e below (s₁.setTop (mkF m 7 (oL70 p2 a1) [])) _
    refine XS.iload X0.here hx rfl (hb hby d18_7) rfl ?_
    refine XS.iloadN X0.here hx rfl (hb hby d18_9) rfl ?_
    refine XS.icmpYes X0.here hx rfl (pc0 := 10) (pc' := 31) rfl (hb hby d18_10) rfl (flt (by decide : ¬ (((((0 : Int32) + (1 : Int32)) + (1 : Int32)) + (1 : Int32)) < (3 : Int32)))).2.1 (by decide) (by decide) ?_
    refine XS.iconst X0.here hx rfl (hb hby d18_31) ?_
    exact retI X0 hx Bd.returns (hb hby d18_32) hr
  · show own_QR (.int (-1 : Int32)) h0 n0 _ s₁.heap _
    rw [e0]
    exact ⟨rfl, N0, rfl⟩
theorem rm18 (l : Launch) (Z : State) (a0 : Array Value) (hw : ∀ d ∈ tables_1, d.before a0 Z = true) (ws : List Jvm.Cond) (a1 : Addr) (p2 : Int32) (_q3 : Int32) (_q4 : Int32) (ys : List Int32) (k_a1 : ClassId) (h0 : Heap) (n0 : Nat) (Z0 : n0 ≤ h0.size) (V_a1 : Arv Z h0 a1 k_a1 .byte (Int32.ofNat ys.length) (ys.map Value.int) (.int (0 : Int32))) (hl : ys.length = 1 ∨ ys.length = 2 ∨ ys.length = 3) :
    MetFree l (⟨"java/lang/StringLatin1", "indexOfChar", "([BIII)I"⟩ : MethodName) (head1 (Jvm.Cond.code (⟨"java/lang/StringLatin1", "indexOfChar", "([BIII)I"⟩ : MethodName) jdk_43_method_23_code 6 (some .int) :: ws) ({ frames := 0, cells := 0, slots := 0, locals := 0 } : Room)) (fun a U => a = #[(.ref a1), (.int p2), (.int (0 : Int32)), (.int (Int32.ofNat ys.length))] ∧ Z.Warmed39 U.vm ∧ U.heap = h0) (fun _ _ _ _ _ => True) (fun _ U o U' => ∃ v L, o = .returned v ∧ own_QR (.int (own_ix (p2.toInt8.toInt32) ys (0 : Int32))) h0 n0 v U'.heap L ∧ FrameEnd U o U' L ({ frames := 0, cells := 0, slots := 0, locals := 0 } : Room).cells ({ frames := 0, cells := 0, slots := 0, locals := 0 } : Room).slots) := by
  rcases hl with hl | hl | hl
  · obtain ⟨y0, rfl⟩ := own_l1 hl
    by_cases u0 : y0 = (p2.toInt8.toInt32)
    · have e : own_ix (p2.toInt8.toInt32) [y0] 0 = 0 := by simp [own_ix, u0]
      rw [e]; exact rm18_1_0 l Z a0 hw ws a1 p2 0 0 y0 k_a1 h0 n0 Z0 V_a1 u0
    · have e : own_ix (p2.toInt8.toInt32) [y0] 0 = -1 := by simp [own_ix, u0]
      rw [e]; exact rm18_1_N l Z a0 hw ws a1 p2 0 0 y0 k_a1 h0 n0 Z0 V_a1 u0
  · obtain ⟨y0, y1, rfl⟩ := own_l2 hl
    by_cases u0 : y0 = (p2.toInt8.toInt32)
    · have e : own_ix (p2.toInt8.toInt32) [y0, y1] 0 = 0 := by simp [own_ix, u0]
      rw [e]; exact rm18_2_0 l Z a0 hw ws a1 p2 0 0 y0 y1 k_a1 h0 n0 Z0 V_a1 u0
    · by_cases u1 : y1 = (p2.toInt8.toInt32)
      · have e : own_ix (p2.toInt8.toInt32) [y0, y1] 0 = 1 := by simp [own_ix, u0, u1]
        rw [e]; exact rm18_2_1 l Z a0 hw ws a1 p2 0 0 y0 y1 k_a1 h0 n0 Z0 V_a1 u0 u1
      · have e : own_ix (p2.toInt8.toInt32) [y0, y1] 0 = -1 := by simp [own_ix, u0, u1]
        rw [e]; exact rm18_2_N l Z a0 hw ws a1 p2 0 0 y0 y1 k_a1 h0 n0 Z0 V_a1 u0 u1
  · obtain ⟨y0, y1, y2, rfl⟩ := own_l3 hl
    by_cases u0 : y0 = (p2.toInt8.toInt32)
    · have e : own_ix (p2.toInt8.toInt32) [y0, y1, y2] 0 = 0 := by simp [own_ix, u0]
      rw [e]; exact rm18_3_0 l Z a0 hw ws a1 p2 0 0 y0 y1 y2 k_a1 h0 n0 Z0 V_a1 u0
    · by_cases u1 : y1 = (p2.toInt8.toInt32)
      · have e : own_ix (p2.toInt8.toInt32) [y0, y1, y2] 0 = 1 := by simp [own_ix, u0, u1]
        rw [e]; exact rm18_3_1 l Z a0 hw ws a1 p2 0 0 y0 y1 y2 k_a1 h0 n0 Z0 V_a1 u0 u1
      · by_cases u2 : y2 = (p2.toInt8.toInt32)
        · have e : own_ix (p2.toInt8.toInt32) [y0, y1, y2] 0 = 2 := by simp [own_ix, u0, u1, u2]
          rw [e]; exact rm18_3_2 l Z a0 hw ws a1 p2 0 0 y0 y1 y2 k_a1 h0 n0 Z0 V_a1 u0 u1 u2
        · have e : own_ix (p2.toInt8.toInt32) [y0, y1, y2] 0 = -1 := by simp [own_ix, u0, u1, u2]
          rw [e]; exact rm18_3_N l Z a0 hw ws a1 p2 0 0 y0 y1 y2 k_a1 h0 n0 Z0 V_a1 u0 u1 u2
theorem d10_0 : decode jdk_43_method_22_code 0 = .ok (.iload_n 1, 1) := by decide +kernel
theorem d10_1 : decode jdk_43_method_22_code 1 = .ok (.invokestatic 88, 3) := by decide +kernel
theorem d10_4 : decode jdk_43_method_22_code 4 = .ok (.ifCond .ne 5, 3) := by decide +kernel
theorem d10_9 : decode jdk_43_method_22_code 9 = .ok (.iload_n 2, 1) := by decide +kernel
theorem d10_10 : decode jdk_43_method_22_code 10 = .ok (.iconst 0, 1) := by decide +kernel
theorem d10_11 : decode jdk_43_method_22_code 11 = .ok (.invokestatic 92, 3) := by decide +kernel
theorem d10_14 : decode jdk_43_method_22_code 14 = .ok (.istore_n 2, 1) := by decide +kernel
theorem d10_15 : decode jdk_43_method_22_code 15 = .ok (.iload_n 3, 1) := by decide +kernel
theorem d10_16 : decode jdk_43_method_22_code 16 = .ok (.aload_n 0, 1) := by decide +kernel
theorem d10_17 : decode jdk_43_method_22_code 17 = .ok (.arraylength, 1) := by decide +kernel
theorem d10_18 : decode jdk_43_method_22_code 18 = .ok (.invokestatic 38, 3) := by decide +kernel
theorem d10_21 : decode jdk_43_method_22_code 21 = .ok (.istore_n 3, 1) := by decide +kernel
theorem d10_22 : decode jdk_43_method_22_code 22 = .ok (.iload_n 2, 1) := by decide +kernel
theorem d10_23 : decode jdk_43_method_22_code 23 = .ok (.iload_n 3, 1) := by decide +kernel
theorem d10_24 : decode jdk_43_method_22_code 24 = .ok (.if_icmp .lt 5, 3) := by decide +kernel
theorem d10_29 : decode jdk_43_method_22_code 29 = .ok (.aload_n 0, 1) := by decide +kernel
theorem d10_30 : decode jdk_43_method_22_code 30 = .ok (.iload_n 1, 1) := by decide +kernel
theorem d10_31 : decode jdk_43_method_22_code 31 = .ok (.iload_n 2, 1) := by decide +kernel
theorem d10_32 : decode jdk_43_method_22_code 32 = .ok (.iload_n 3, 1) := by decide +kernel
theorem d10_33 : decode jdk_43_method_22_code 33 = .ok (.invokestatic 95, 3) := by decide +kernel
theorem d10_36 : decode jdk_43_method_22_code 36 = .ok (.ireturn, 1) := by decide +kernel
theorem pn_10 : plainName "java/lang/StringLatin1" = true := by first | (simp [plainName, overriddenIn]; done) | decide +kernel
theorem pd_10_10 : parseMethodDescriptor "(I)Z" = some ⟨[.int], some .boolean⟩ := by decide +kernel
theorem pd_10_5 : parseMethodDescriptor "(II)I" = some ⟨[.int, .int], some .int⟩ := by decide +kernel
theorem pd_10_9 : parseMethodDescriptor "([BIII)I" = some ⟨[(.array .byte), .int, .int, .int], some .int⟩ := by decide +kernel
theorem ef_10 (m : MethodId) (x0 : Addr) (x1 : Int32) (x2 : Int32) (x3 : Int32) : entryFrame m #[(.ref x0), (.int x1), (.int x2), (.int x3)] 4 = mkF m 0 #[.val (.ref x0), .val (.int x1), .val (.int x2), .val (.int x3)] [] := by first | (simp [entryFrame, mkF, argsToLocals, Value.category]; done) | rfl
abbrev oL71 (p2 : Int32) (a1 : Addr) (ys : List Int32) : Array Slot := #[.val (.ref a1), .val (.int p2), .val (.int (0 : Int32)), .val (.int (Int32.ofNat ys.length))]
set_option maxRecDepth 65536 in
set_option maxHeartbeats 40000000 in
theorem rm10 (l : Launch) (Z : State) (a0 : Array Value) (hw : ∀ d ∈ tables_1, d.before a0 Z = true) (ws : List Jvm.Cond) (a1 : Addr) (p2 : Int32) (_q3 : Int32) (_q4 : Int32) (ys : List Int32) (k_a1 : ClassId) (h0 : Heap) (n0 : Nat) (Z0 : n0 ≤ h0.size) (V_a1 : Arv Z h0 a1 k_a1 .byte (Int32.ofNat ys.length) (ys.map Value.int) (.int (0 : Int32))) (hl : ys.length = 1 ∨ ys.length = 2 ∨ ys.length = 3) (hk : ¬ p2 < 0 ∧ ¬ (255 : Int32) < p2) (hc24 : (0 : Int32) < (Int32.ofNat ys.length)) :
    MetFree l (⟨"java/lang/StringLatin1", "indexOf", "([BIII)I"⟩ : MethodName) (head1 (Jvm.Cond.code (⟨"java/lang/StringLatin1", "indexOf", "([BIII)I"⟩ : MethodName) jdk_43_method_22_code 4 (some .int) :: ws) ({ frames := 1, cells := 0, slots := 0, locals := 17 } : Room)) (fun a U => a = #[(.ref a1), (.int p2), (.int (0 : Int32)), (.int (Int32.ofNat ys.length))] ∧ Z.Warmed39 U.vm ∧ U.heap = h0) (fun _ _ _ _ _ => True) (fun _ U o U' => ∃ v L, o = .returned v ∧ own_QR (.int (own_ix (p2.toInt8.toInt32) ys (0 : Int32))) h0 n0 v U'.heap L ∧ FrameEnd U o U' L ({ frames := 1, cells := 0, slots := 0, locals := 17 } : Room).cells ({ frames := 1, cells := 0, slots := 0, locals := 17 } : Room).slots) := by
  refine MetFree.of_bodySF (plainFor_of_name pn_10) hisR ?_
  intro p e s m args below meth c s₁ Bd hml0 hP hK
  obtain ⟨rfl, hZ, hh⟩ := hP
  have hx := Bd.exec
  have hby := Bd.bytes
  have hml : c.maxLocals = 4 := hml0
  have hown : s.vm.findClass "java/lang/StringLatin1" = some m.cls := findClass_of_methodNamed Bd.named
  have hnm := (name_of_methodNamed Bd.named Bd.method).1
  have X0 : Stand p l e ({ frames := 1, cells := 0, slots := 0, locals := 17 } : Room) s m #[(.ref a1), (.int p2), (.int (0 : Int32)), (.int (Int32.ofNat ys.length))] below meth c s₁ [] 0 0 := Stand.of_body Bd
  have e0 : s₁.heap = h0 := by rw [← hh, Bd.state]; rfl
  have N0 := Fr.nil n0
  have pre0 : ∀ t, Steps p.tables e below (s₁.setTop (mkF m 0 (oL71 p2 a1 ys) [])) t → Steps p.tables e below (s₁.setTop (entryFrame m #[(.ref a1), (.int p2), (.int (0 : Int32)), (.int (Int32.ofNat ys.length))] 4)) t := fun t k => castTop (ef_10 m a1 p2 (0 : Int32) (Int32.ofNat ys.length)) k
  obtain ⟨_, _, ⟨T3, L3, k3, n3⟩, -, X3, ⟨Lc3, hQ3, l3, y3, z3⟩, st3⟩ := Jvm.LawKit.callS X0 hx (y := (⟨"java/lang/StringLatin1", "canEncode", "(I)Z"⟩ : MethodName)) hown (mvT hZ (hw _ (wI 57 rfl))) (mvT hZ (hw _ (wI 58 rfl))) (mvT hZ (hw _ (wI 55 rfl))) (mvT hZ (hw _ (wI 59 rfl))) (by decide) (backOf (W := 0) (rm11 l Z a0 hw [] p2  h0 n0 Z0 hk.1 hk.2) hZ (hw _ (wI 59 rfl)) (hw _ (wI 55 rfl)) (by decide) (by decide)) (g := (mkF m 1 (oL71 p2 a1 ys) [(.int p2)])) rfl (by rw [hml]; rfl) (argsL := [(.int p2)]) (rest := []) (lenOf pd_10_10 rfl) rfl (by show 2 * 0 + _ ≤ _; exact Nat.le_of_eq rfl) (hb hby d10_1) (fun _ _ => ⟨rfl, e0, (by decide : 0 + 0 ≤ _), (by decide : 0 + 0 ≤ _)⟩)
  dsimp only [Pt.U, Pt.locs, Pt.cells, Pt.slots] at X3 l3 y3 z3 st3 hQ3
  subst l3 y3 z3
  obtain ⟨rfl, N3q, eq3⟩ := hQ3
  have N3 := Fr.app N0 N3q
  have Kq3 : Keep h0 T3.heap [] := (own_keq eq3)
  have K3 : Keep h0 T3.heap [] := (Keep.refl h0 []).trans Kq3 all0
  obtain ⟨_, _, ⟨T4, L4, k4, n4⟩, -, X4, ⟨Lc4, hQ4, l4, y4, z4⟩, st4⟩ := Jvm.LawKit.callS X3 hx (y := (⟨"java/lang/Math", "max", "(II)I"⟩ : MethodName)) hown (mvT hZ (hw _ (wI 60 rfl))) (mvT hZ (hw _ (wI 61 rfl))) (mvT hZ (hw _ (wI 62 rfl))) (mvT hZ (hw _ (wI 63 rfl))) (by decide) (backOf (W := 0) (rm12 l Z a0 hw [] (0 : Int32) (0 : Int32)  T3.heap n0 (Nat.le_trans Z0 Kq3.1) (by decide)) hZ (hw _ (wI 63 rfl)) (hw _ (wI 62 rfl)) (by decide) (by decide)) (g := (mkF m 11 (oL71 p2 a1 ys) [(.int (0 : Int32)), (.int (0 : Int32))])) rfl (by rw [hml]; rfl) (argsL := [(.int (0 : Int32)), (.int (0 : Int32))]) (rest := []) (lenOf pd_10_5 rfl) rfl (by show 2 * 0 + _ ≤ _; exact Nat.le_of_eq rfl) (hb hby d10_11) (fun _ _ => ⟨rfl, rfl, (by decide : 0 + 0 ≤ _), (by decide : 0 + 0 ≤ _)⟩)
  dsimp only [Pt.U, Pt.locs, Pt.cells, Pt.slots] at X4 l4 y4 z4 st4 hQ4
  subst l4 y4 z4
  obtain ⟨rfl, N4q, eq4⟩ := hQ4
  have N4 := Fr.app N3 N4q
  have Kq4 : Keep T3.heap T4.heap [] := (own_keq eq4)
  have K4 : Keep h0 T4.heap [] := K3.trans Kq4 all0
  obtain ⟨cl_a1_17, Ar_a1, -, S_a1, N_a1, -, -⟩ := ((V_a1.keep Kq3 (fun q => nomatch q)).keep Kq4 (fun q => nomatch q))
  obtain ⟨_, _, ⟨T5, L5, k5, n5⟩, -, X5, ⟨Lc5, hQ5, l5, y5, z5⟩, st5⟩ := Jvm.LawKit.callS X4 hx (y := (⟨"java/lang/Math", "min", "(II)I"⟩ : MethodName)) hown (mvT hZ (hw _ (wI 64 rfl))) (mvT hZ (hw _ (wI 65 rfl))) (mvT hZ (hw _ (wI 62 rfl))) (mvT hZ (hw _ (wI 66 rfl))) (by decide) (backOf (W := 0) (rm13 l Z a0 hw [] (Int32.ofNat ys.length) (Int32.ofNat ys.length)  T4.heap n0 (Nat.le_trans (Nat.le_trans Z0 Kq3.1) Kq4.1) (own_irr _)) hZ (hw _ (wI 66 rfl)) (hw _ (wI 62 rfl)) (by decide) (by decide)) (g := (mkF m 18 (oL71 p2 a1 ys) [(.int (Int32.ofNat ys.length)), (.int (Int32.ofNat ys.length))])) rfl (by rw [hml]; rfl) (argsL := [(.int (Int32.ofNat ys.length)), (.int (Int32.ofNat ys.length))]) (rest := []) (lenOf pd_10_5 rfl) rfl (by show 2 * 0 + _ ≤ _; exact Nat.le_of_eq rfl) (hb hby d10_18) (fun _ _ => ⟨rfl, rfl, (by decide : 0 + 0 ≤ _), (by decide : 0 + 0 ≤ _)⟩)
  dsimp only [Pt.U, Pt.locs, Pt.cells, Pt.slots] at X5 l5 y5 z5 st5 hQ5
  subst l5 y5 z5
  obtain ⟨rfl, N5q, eq5⟩ := hQ5
  have N5 := Fr.app N4 N5q
  have Kq5 : Keep T4.heap T5.heap [] := (own_keq eq5)
  have K5 : Keep h0 T5.heap [] := K4.trans Kq5 all0
  obtain ⟨_, _, ⟨T6, L6, k6, n6⟩, -, X6, ⟨Lc6, hQ6, l6, y6, z6⟩, st6⟩ := Jvm.LawKit.callS X5 hx (y := (⟨"java/lang/StringLatin1", "indexOfChar", "([BIII)I"⟩ : MethodName)) hown (mvT hZ (hw _ (wI 81 rfl))) (mvT hZ (hw _ (wI 82 rfl))) (mvT hZ (hw _ (wI 55 rfl))) (mvT hZ (hw _ (wI 83 rfl))) (by decide) (backOf (W := 0) (rm18 l Z a0 hw [] a1 p2 (0 : Int32) (Int32.ofNat ys.length) ys k_a1 T5.heap n0 (Nat.le_trans (Nat.le_trans (Nat.le_trans Z0 Kq3.1) Kq4.1) Kq5.1) (((V_a1.keep Kq3 (fun q => nomatch q)).keep Kq4 (fun q => nomatch q)).keep Kq5 (fun q => nomatch q)) hl) hZ (hw _ (wI 83 rfl)) (hw _ (wI 55 rfl)) (by decide) (by decide)) (g := (mkF m 33 (oL71 p2 a1 ys) [(.int (Int32.ofNat ys.length)), (.int (0 : Int32)), (.int p2), (.ref a1)])) rfl (by rw [hml]; rfl) (argsL := [(.ref a1), (.int p2), (.int (0 : Int32)), (.int (Int32.ofNat ys.length))]) (rest := []) (lenOf pd_10_9 rfl) rfl (by show 2 * 0 + _ ≤ _; exact Nat.le_of_eq rfl) (hb hby d10_33) (fun _ _ => ⟨rfl, rfl, (by decide : 0 + 0 ≤ _), (by decide : 0 + 0 ≤ _)⟩)
  dsimp only [Pt.U, Pt.locs, Pt.cells, Pt.slots] at X6 l6 y6 z6 st6 hQ6
  subst l6 y6 z6
  obtain ⟨rfl, N6q, eq6⟩ := hQ6
  have N6 := Fr.app N5 N6q
  have Kq6 : Keep T5.heap T6.heap [] := (own_keq eq6)
  have K6 : Keep h0 T6.heap [] := K5.trans Kq6 all0
  obtain ⟨fs, hr, hrun, hended, hW, hsame⟩ := X6.leave (v := some (.int (own_ix (p2.toInt8.toInt32) ys (0 : Int32)))) (fun h => by rw [Bd.returns] at h; cases h)
  refine ⟨_, _, pre0 _ ?_, hrun, hended, _, _, rfl, ?_, ⟨_, rfl⟩, hW, hsame.mono (by decide) (by decide)⟩
  · show Steps p.tables e below (s₁.setTop (mkF m 0 (oL71 p2 a1 ys) [])) _
    refine XS.iloadN X0.here hx rfl (hb hby d10_0) rfl ?_
    refine st3 _ ?_
    refine XS.ifYes X3.here hx rfl (pc0 := 4) (pc' := 9) rfl (hb hby d10_4) rfl ((if0 _ _).trans (feq (by decide : ¬ ((1 : Int32) = (0 : Int32)))).2) (by decide) (by decide) ?_
    refine XS.iloadN X3.here hx rfl (hb hby d10_9) rfl ?_
    refine XS.iconst X3.here hx rfl (hb hby d10_10) ?_
    show Steps p.tables e below (T3.setTop (mkF m 11 (oL71 p2 a1 ys) [(.int (0 : Int32)), (.int (0 : Int32))])) _
    refine st4 _ ?_
    refine XS.istoreN X4.here hx rfl (hb hby d10_14) rfl (l' := (oL71 p2 a1 ys)) rfl ?_
    refine XS.iloadN X4.here hx rfl (hb hby d10_15) rfl ?_
    refine XS.aloadN X4.here hx rfl (hb hby d10_16) rfl rfl ?_
    refine X4.arraylength hx Ar_a1.1 (State.isArrayOf_alike hZ.alike Ar_a1.2.1) (g := (mkF m 17 (oL71 p2 a1 ys) [(.ref a1), (.int (Int32.ofNat ys.length))])) rfl rfl (hb hby d10_17) _ ?_
    rw [len_of S_a1 N_a1]
    show Steps p.tables e below (T4.setTop (mkF m 18 (oL71 p2 a1 ys) [(.int (Int32.ofNat ys.length)), (.int (Int32.ofNat ys.length))])) _
    refine st5 _ ?_
    refine XS.istoreN X5.here hx rfl (hb hby d10_21) rfl (l' := (oL71 p2 a1 ys)) rfl ?_
    refine XS.iloadN X5.here hx rfl (hb hby d10_22) rfl ?_
    refine XS.iloadN X5.here hx rfl (hb hby d10_23) rfl ?_
    refine XS.icmpYes X5.here hx rfl (pc0 := 24) (pc' := 29) rfl (hb hby d10_24) rfl (tlt hc24).1 (by decide) (by decide) ?_
    show Steps p.tables e below (T5.setTop (mkF m 29 (oL71 p2 a1 ys) [])) _
    refine XS.aloadN X5.here hx rfl (hb hby d10_29) rfl rfl ?_
    refine XS.iloadN X5.here hx rfl (hb hby d10_30) rfl ?_
    refine XS.iloadN X5.here hx rfl (hb hby d10_31) rfl ?_
    refine XS.iloadN X5.here hx rfl (hb hby d10_32) rfl ?_
    refine st6 _ ?_
    show Steps p.tables e below (T6.setTop (mkF m 36 (oL71 p2 a1 ys) [(.int (own_ix (p2.toInt8.toInt32) ys (0 : Int32)))])) _
    exact retI X6 hx Bd.returns (hb hby d10_36) hr
  · show own_QR (.int (own_ix (p2.toInt8.toInt32) ys (0 : Int32))) h0 n0 _ T6.heap _
    exact ⟨rfl, N6, (eq6.trans (eq5.trans (eq4.trans eq3)))⟩
theorem d10_27 : decode jdk_43_method_22_code 27 = .ok (.iconst (-1), 1) := by decide +kernel
theorem d10_28 : decode jdk_43_method_22_code 28 = .ok (.ireturn, 1) := by decide +kernel
abbrev oL72 (p2 : Int32) (a1 : Addr) : Array Slot := #[.val (.ref a1), .val (.int p2), .val (.int (0 : Int32)), .val (.int (0 : Int32))]
set_option maxRecDepth 65536 in
set_option maxHeartbeats 40000000 in
theorem rm10e (l : Launch) (Z : State) (a0 : Array Value) (hw : ∀ d ∈ tables_1, d.before a0 Z = true) (ws : List Jvm.Cond) (a1 : Addr) (p2 : Int32) (_q3 : Int32) (_q4 : Int32) (k_a1 : ClassId) (h0 : Heap) (n0 : Nat) (Z0 : n0 ≤ h0.size) (V_a1 : Arv Z h0 a1 k_a1 .byte (0 : Int32) ([] : List Value) (.int (0 : Int32))) (hk : ¬ p2 < 0 ∧ ¬ (255 : Int32) < p2) :
    MetFree l (⟨"java/lang/StringLatin1", "indexOf", "([BIII)I"⟩ : MethodName) (head1 (Jvm.Cond.code (⟨"java/lang/StringLatin1", "indexOf", "([BIII)I"⟩ : MethodName) jdk_43_method_22_code 4 (some .int) :: ws) ({ frames := 1, cells := 0, slots := 0, locals := 17 } : Room)) (fun a U => a = #[(.ref a1), (.int p2), (.int (0 : Int32)), (.int (0 : Int32))] ∧ Z.Warmed39 U.vm ∧ U.heap = h0) (fun _ _ _ _ _ => True) (fun _ U o U' => ∃ v L, o = .returned v ∧ own_QR (.int (-1 : Int32)) h0 n0 v U'.heap L ∧ FrameEnd U o U' L ({ frames := 1, cells := 0, slots := 0, locals := 17 } : Room).cells ({ frames := 1, cells := 0, slots := 0, locals := 17 } : Room).slots) := by
  refine MetFree.of_bodySF (plainFor_of_name pn_10) hisR ?_
  intro p e s m args below meth c s₁ Bd hml0 hP hK
  obtain ⟨rfl, hZ, hh⟩ := hP
  have hx := Bd.exec
  have hby := Bd.bytes
  have hml : c.maxLocals = 4 := hml0
  have hown : s.vm.findClass "java/lang/StringLatin1" = some m.cls := findClass_of_methodNamed Bd.named
  have hnm := (name_of_methodNamed Bd.named Bd.method).1
  have X0 : Stand p l e ({ frames := 1, cells := 0, slots := 0, locals := 17 } : Room) s m #[(.ref a1), (.int p2), (.int (0 : Int32)), (.int (0 : Int32))] below meth c s₁ [] 0 0 := Stand.of_body Bd
  have e0 : s₁.heap = h0 := by rw [← hh, Bd.state]; rfl
  have N0 := Fr.nil n0
  have pre0 : ∀ t, Steps p.tables e below (s₁.setTop (mkF m 0 (oL72 p2 a1) [])) t → Steps p.tables e below (s₁.setTop (entryFrame m #[(.ref a1), (.int p2), (.int (0 : Int32)), (.int (0 : Int32))] 4)) t := fun t k => castTop (ef_10 m a1 p2 (0 : Int32) (0 : Int32)) k
  obtain ⟨_, _, ⟨T3, L3, k3, n3⟩, -, X3, ⟨Lc3, hQ3, l3, y3, z3⟩, st3⟩ := Jvm.LawKit.callS X0 hx (y := (⟨"java/lang/StringLatin1", "canEncode", "(I)Z"⟩ : MethodName)) hown (mvT hZ (hw _ (wI 57 rfl))) (mvT hZ (hw _ (wI 58 rfl))) (mvT hZ (hw _ (wI 55 rfl))) (mvT hZ (hw _ (wI 59 rfl))) (by decide) (backOf (W := 0) (rm11 l Z a0 hw [] p2  h0 n0 Z0 hk.1 hk.2) hZ (hw _ (wI 59 rfl)) (hw _ (wI 55 rfl)) (by decide) (by decide)) (g := (mkF m 1 (oL72 p2 a1) [(.int p2)])) rfl (by rw [hml]; rfl) (argsL := [(.int p2)]) (rest := []) (lenOf pd_10_10 rfl) rfl (by show 2 * 0 + _ ≤ _; exact Nat.le_of_eq rfl) (hb hby d10_1) (fun _ _ => ⟨rfl, e0, (by decide : 0 + 0 ≤ _), (by decide : 0 + 0 ≤ _)⟩)
  dsimp only [Pt.U, Pt.locs, Pt.cells, Pt.slots] at X3 l3 y3 z3 st3 hQ3
  subst l3 y3 z3
  obtain ⟨rfl, N3q, eq3⟩ := hQ3
  have N3 := Fr.app N0 N3q
  have Kq3 : Keep h0 T3.heap [] := (own_keq eq3)
  have K3 : Keep h0 T3.heap [] := (Keep.refl h0 []).trans Kq3 all0
  obtain ⟨_, _, ⟨T4, L4, k4, n4⟩, -, X4, ⟨Lc4, hQ4, l4, y4, z4⟩, st4⟩ := Jvm.LawKit.callS X3 hx (y := (⟨"java/lang/Math", "max", "(II)I"⟩ : MethodName)) hown (mvT hZ (hw _ (wI 60 rfl))) (mvT hZ (hw _ (wI 61 rfl))) (mvT hZ (hw _ (wI 62 rfl))) (mvT hZ (hw _ (wI 63 rfl))) (by decide) (backOf (W := 0) (rm12 l Z a0 hw [] (0 : Int32) (0 : Int32)  T3.heap n0 (Nat.le_trans Z0 Kq3.1) (by decide)) hZ (hw _ (wI 63 rfl)) (hw _ (wI 62 rfl)) (by decide) (by decide)) (g := (mkF m 11 (oL72 p2 a1) [(.int (0 : Int32)), (.int (0 : Int32))])) rfl (by rw [hml]; rfl) (argsL := [(.int (0 : Int32)), (.int (0 : Int32))]) (rest := []) (lenOf pd_10_5 rfl) rfl (by show 2 * 0 + _ ≤ _; exact Nat.le_of_eq rfl) (hb hby d10_11) (fun _ _ => ⟨rfl, rfl, (by decide : 0 + 0 ≤ _), (by decide : 0 + 0 ≤ _)⟩)
  dsimp only [Pt.U, Pt.locs, Pt.cells, Pt.slots] at X4 l4 y4 z4 st4 hQ4
  subst l4 y4 z4
  obtain ⟨rfl, N4q, eq4⟩ := hQ4
  have N4 := Fr.app N3 N4q
  have Kq4 : Keep T3.heap T4.heap [] := (own_keq eq4)
  have K4 : Keep h0 T4.heap [] := K3.trans Kq4 all0
  obtain ⟨cl_a1_17, Ar_a1, -, S_a1, N_a1, -, -⟩ := ((V_a1.keep Kq3 (fun q => nomatch q)).keep Kq4 (fun q => nomatch q))
  obtain ⟨_, _, ⟨T5, L5, k5, n5⟩, -, X5, ⟨Lc5, hQ5, l5, y5, z5⟩, st5⟩ := Jvm.LawKit.callS X4 hx (y := (⟨"java/lang/Math", "min", "(II)I"⟩ : MethodName)) hown (mvT hZ (hw _ (wI 64 rfl))) (mvT hZ (hw _ (wI 65 rfl))) (mvT hZ (hw _ (wI 62 rfl))) (mvT hZ (hw _ (wI 66 rfl))) (by decide) (backOf (W := 0) (rm13 l Z a0 hw [] (0 : Int32) (0 : Int32)  T4.heap n0 (Nat.le_trans (Nat.le_trans Z0 Kq3.1) Kq4.1) (own_irr _)) hZ (hw _ (wI 66 rfl)) (hw _ (wI 62 rfl)) (by decide) (by decide)) (g := (mkF m 18 (oL72 p2 a1) [(.int (0 : Int32)), (.int (0 : Int32))])) rfl (by rw [hml]; rfl) (argsL := [(.int (0 : Int32)), (.int (0 : Int32))]) (rest := []) (lenOf pd_10_5 rfl) rfl (by show 2 * 0 + _ ≤ _; exact Nat.le_of_eq rfl) (hb hby d10_18) (fun _ _ => ⟨rfl, rfl, (by decide : 0 + 0 ≤ _), (by decide : 0 + 0 ≤ _)⟩)
  dsimp only [Pt.U, Pt.locs, Pt.cells, Pt.slots] at X5 l5 y5 z5 st5 hQ5
  subst l5 y5 z5
  obtain ⟨rfl, N5q, eq5⟩ := hQ5
  have N5 := Fr.app N4 N5q
  have Kq5 : Keep T4.heap T5.heap [] := (own_keq eq5)
  have K5 : Keep h0 T5.heap [] := K4.trans Kq5 all0
  obtain ⟨fs, hr, hrun, hended, hW, hsame⟩ := X5.leave (v := some (.int (-1 : Int32))) (fun h => by rw [Bd.returns] at h; cases h)
  refine ⟨_, _, pre0 _ ?_, hrun, hended, _, _, rfl, ?_, ⟨_, rfl⟩, hW, hsame.mono (by decide) (by decide)⟩
  · show Steps p.tables e below (s₁.setTop (mkF m 0 (oL72 p2 a1) [])) _
    refine XS.iloadN X0.here hx rfl (hb hby d10_0) rfl ?_
    refine st3 _ ?_
    refine XS.ifYes X3.here hx rfl (pc0 := 4) (pc' := 9) rfl (hb hby d10_4) rfl ((if0 _ _).trans (feq (by decide : ¬ ((1 : Int32) = (0 : Int32)))).2) (by decide) (by decide) ?_
    refine XS.iloadN X3.here hx rfl (hb hby d10_9) rfl ?_
    refine XS.iconst X3.here hx rfl (hb hby d10_10) ?_
    show Steps p.tables e below (T3.setTop (mkF m 11 (oL72 p2 a1) [(.int (0 : Int32)), (.int (0 : Int32))])) _
    refine st4 _ ?_
    refine XS.istoreN X4.here hx rfl (hb hby d10_14) rfl (l' := (oL72 p2 a1)) rfl ?_
    refine XS.iloadN X4.here hx rfl (hb hby d10_15) rfl ?_
    refine XS.aloadN X4.here hx rfl (hb hby d10_16) rfl rfl ?_
    refine X4.arraylength hx Ar_a1.1 (State.isArrayOf_alike hZ.alike Ar_a1.2.1) (g := (mkF m 17 (oL72 p2 a1) [(.ref a1), (.int (0 : Int32))])) rfl rfl (hb hby d10_17) _ ?_
    rw [len_of S_a1 N_a1]
    show Steps p.tables e below (T4.setTop (mkF m 18 (oL72 p2 a1) [(.int (0 : Int32)), (.int (0 : Int32))])) _
    refine st5 _ ?_
    refine XS.istoreN X5.here hx rfl (hb hby d10_21) rfl (l' := (oL72 p2 a1)) rfl ?_
    refine XS.iloadN X5.here hx rfl (hb hby d10_22) rfl ?_
    refine XS.iloadN X5.here hx rfl (hb hby d10_23) rfl ?_
    refine XS.icmpNo X5.here hx rfl (hb hby d10_24) rfl (flt (by decide : ¬ ((0 : Int32) < (0 : Int32)))).1 ?_
    show Steps p.tables e below (T5.setTop (mkF m 27 (oL72 p2 a1) [])) _
    refine XS.iconst X5.here hx rfl (hb hby d10_27) ?_
    exact retI X5 hx Bd.returns (hb hby d10_28) hr
  · show own_QR (.int (-1 : Int32)) h0 n0 _ T5.heap _
    exact ⟨rfl, N5, (eq5.trans (eq4.trans eq3))⟩
theorem d7_0 : decode jdk_42_method_154_code 0 = .ok (.getstatic 38, 3) := by decide +kernel
theorem d7_3 : decode jdk_42_method_154_code 3 = .ok (.ifCond .eq 14, 3) := by decide +kernel
theorem d7_6 : decode jdk_42_method_154_code 6 = .ok (.aload_n 0, 1) := by decide +kernel
theorem d7_7 : decode jdk_42_method_154_code 7 = .ok (.getfield 15, 3) := by decide +kernel
theorem d7_10 : decode jdk_42_method_154_code 10 = .ok (.ifCond .ne 7, 3) := by decide +kernel
theorem d7_13 : decode jdk_42_method_154_code 13 = .ok (.iconst 1, 1) := by decide +kernel
theorem d7_14 : decode jdk_42_method_154_code 14 = .ok (.goto 4, 3) := by decide +kernel
theorem d7_18 : decode jdk_42_method_154_code 18 = .ok (.ireturn, 1) := by decide +kernel
theorem pn_7 : plainName "java/lang/String" = true := by first | (simp [plainName, overriddenIn]; done) | decide +kernel
theorem ef_7 (m : MethodId) (x0 : Addr) : entryFrame m #[(.ref x0)] 1 = mkF m 0 #[.val (.ref x0)] [] := by first | (simp [entryFrame, mkF, argsToLocals, Value.category]; done) | rfl
set_option maxRecDepth 65536 in
set_option maxHeartbeats 40000000 in
theorem rm7_0 (l : Launch) (Z : State) (a0 : Array Value) (hw : ∀ d ∈ tables_1, d.before a0 Z = true) (ws : List Jvm.Cond) (a1 : Addr) (G1 : Int32) (h0 : Heap) (n0 : Nat) (Z0 : n0 ≤ h0.size) (S_COMPACT_STRINGS : Sta Z Z.heap "java/lang/String" "COMPACT_STRINGS" "Z" (.int G1)) (X00 : Old Z n0 h0) (P3 : ¬ (G1 = (0 : Int32))) (E_a1 : Exa Z h0 a1 "java/lang/String") (F_coder_a1 : Fld Z h0 a1 "java/lang/String" "coder" "B" (.int (0 : Int32))) :
    MetFree l (⟨"java/lang/String", "isLatin1", "()Z"⟩ : MethodName) (head1 (Jvm.Cond.code (⟨"java/lang/String", "isLatin1", "()Z"⟩ : MethodName) jdk_42_method_154_code 1 (some .boolean) :: ws) ({ frames := 0, cells := 0, slots := 0, locals := 0 } : Room)) (fun a U => a = #[(.ref a1)] ∧ Z.Warmed39 U.vm ∧ U.heap = h0) (fun _ _ _ _ _ => True) (fun _ U o U' => ∃ v L, o = .returned v ∧ own_QR (.int (1 : Int32)) h0 n0 v U'.heap L ∧ FrameEnd U o U' L ({ frames := 0, cells := 0, slots := 0, locals := 0 } : Room).cells ({ frames := 0, cells := 0, slots := 0, locals := 0 } : Room).slots) := by
  refine MetFree.of_bodySF (plainFor_of_name pn_7) hisR ?_
  intro p e s m args below meth c s₁ Bd hml0 hP hK
  obtain ⟨rfl, hZ, hh⟩ := hP
  have hx := Bd.exec
  have hby := Bd.bytes
  have hml : c.maxLocals = 1 := hml0
  have hown : s.vm.findClass "java/lang/String" = some m.cls := findClass_of_methodNamed Bd.named
  have hnm := (name_of_methodNamed Bd.named Bd.method).1
  have X0 : Stand p l e ({ frames := 0, cells := 0, slots := 0, locals := 0 } : Room) s m #[(.ref a1)] below meth c s₁ [] 0 0 := Stand.of_body Bd
  have e0 : s₁.heap = h0 := by rw [← hh, Bd.state]; rfl
  have N0 := Fr.nil n0
  have pre0 : ∀ t, Steps p.tables e below (s₁.setTop (mkF m 0 #[.val (.ref a1)] [])) t → Steps p.tables e below (s₁.setTop (entryFrame m #[(.ref a1)] 1)) t := fun t k => castTop (ef_7 m a1) k
  obtain ⟨T2, X2, e2, st2⟩ := getS2 X0 hx hZ hown (host := "") (Or.inl (hw _ (wI 42 rfl))) Via.refl e0 (S_COMPACT_STRINGS.ext X00.2) (g := (mkF m 0 #[.val (.ref a1)] [])) rfl (hb hby d7_0)
  obtain ⟨T3, X3, e3, st3⟩ := getF X2 hx hZ hown (host := "") (Or.inl (hw _ (wI 22 rfl))) Via.refl e2 F_coder_a1 (g := (mkF m 7 #[.val (.ref a1)] [(.ref a1)])) rfl rfl (hb hby d7_7)
  obtain ⟨fs, hr, hrun, hended, hW, hsame⟩ := X3.leave (v := some (.int (1 : Int32))) (fun h => by rw [Bd.returns] at h; cases h)
  refine ⟨_, _, pre0 _ ?_, hrun, hended, _, _, rfl, ?_, ⟨_, rfl⟩, hW, hsame.mono (by decide) (by decide)⟩
  · show Steps p.tables e below (s₁.setTop (mkF m 0 #[.val (.ref a1)] [])) _
    refine st2 _ ?_
    refine XS.ifNo X2.here hx rfl (hb hby d7_3) rfl ((if0 _ _).trans (feq P3).1) ?_
    refine XS.aloadN X2.here hx rfl (hb hby d7_6) rfl rfl ?_
    refine st3 _ ?_
    refine XS.ifNo X3.here hx rfl (hb hby d7_10) rfl ((if0 _ _).trans (teq (rfl : (0 : Int32) = (0 : Int32))).2) ?_
    show Steps p.tables e below (T3.setTop (mkF m 13 #[.val (.ref a1)] [])) _
    refine XS.iconst X3.here hx rfl (hb hby d7_13) ?_
    refine XS.goto X3.here hx rfl (pc0 := 14) (pc' := 18) rfl (hb hby d7_14) (by decide) (by decide) ?_
    exact retN X3 hx (t := .boolean) Bd.returns (by simp) (hb hby d7_18) hr
  · show own_QR (.int (1 : Int32)) h0 n0 _ T3.heap _
    rw [e3]
    exact ⟨rfl, N0, rfl⟩
theorem d7_17 : decode jdk_42_method_154_code 17 = .ok (.iconst 0, 1) := by decide +kernel
set_option maxRecDepth 65536 in
set_option maxHeartbeats 40000000 in
theorem rm7_1 (l : Launch) (Z : State) (a0 : Array Value) (hw : ∀ d ∈ tables_1, d.before a0 Z = true) (ws : List Jvm.Cond) (a1 : Addr) (G1 : Int32) (h0 : Heap) (n0 : Nat) (Z0 : n0 ≤ h0.size) (S_COMPACT_STRINGS : Sta Z Z.heap "java/lang/String" "COMPACT_STRINGS" "Z" (.int G1)) (X00 : Old Z n0 h0) (P3 : ¬ (G1 = (0 : Int32))) (E_a1 : Exa Z h0 a1 "java/lang/String") (F_coder_a1 : Fld Z h0 a1 "java/lang/String" "coder" "B" (.int (1 : Int32))) :
    MetFree l (⟨"java/lang/String", "isLatin1", "()Z"⟩ : MethodName) (head1 (Jvm.Cond.code (⟨"java/lang/String", "isLatin1", "()Z"⟩ : MethodName) jdk_42_method_154_code 1 (some .boolean) :: ws) ({ frames := 0, cells := 0, slots := 0, locals := 0 } : Room)) (fun a U => a = #[(.ref a1)] ∧ Z.Warmed39 U.vm ∧ U.heap = h0) (fun _ _ _ _ _ => True) (fun _ U o U' => ∃ v L, o = .returned v ∧ own_QR (.int (0 : Int32)) h0 n0 v U'.heap L ∧ FrameEnd U o U' L ({ frames := 0, cells := 0, slots := 0, locals := 0 } : Room).cells ({ frames := 0, cells := 0, slots := 0, locals := 0 } : Room).slots) := by
  refine MetFree.of_bodySF (plainFor_of_name pn_7) hisR ?_
  intro p e s m args below meth c s₁ Bd hml0 hP hK
  obtain ⟨rfl, hZ, hh⟩ := hP
  have hx := Bd.exec
  have hby := Bd.bytes
  have hml : c.maxLocals = 1 := hml0
  have hown : s.vm.findClass "java/lang/String" = some m.cls := findClass_of_methodNamed Bd.named
  have hnm := (name_of_methodNamed Bd.named Bd.method).1
  have X0 : Stand p l e ({ frames := 0, cells := 0, slots := 0, locals := 0 } : Room) s m #[(.ref a1)] below meth c s₁ [] 0 0 := Stand.of_body Bd
  have e0 : s₁.heap = h0 := by rw [← hh, Bd.state]; rfl
  have N0 := Fr.nil n0
  have pre0 : ∀ t, Steps p.tables e below (s₁.setTop (mkF m 0 #[.val (.ref a1)] [])) t → Steps p.tables e below (s₁.setTop (entryFrame m #[(.ref a1)] 1)) t := fun t k => castTop (ef_7 m a1) k
  obtain ⟨T2, X2, e2, st2⟩ := getS2 X0 hx hZ hown (host := "") (Or.inl (hw _ (wI 42 rfl))) Via.refl e0 (S_COMPACT_STRINGS.ext X00.2) (g := (mkF m 0 #[.val (.ref a1)] [])) rfl (hb hby d7_0)
  obtain ⟨T3, X3, e3, st3⟩ := getF X2 hx hZ hown (host := "") (Or.inl (hw _ (wI 22 rfl))) Via.refl e2 F_coder_a1 (g := (mkF m 7 #[.val (.ref a1)] [(.ref a1)])) rfl rfl (hb hby d7_7)
  obtain ⟨fs, hr, hrun, hended, hW, hsame⟩ := X3.leave (v := some (.int (0 : Int32))) (fun h => by rw [Bd.returns] at h; cases h)
  refine ⟨_, _, pre0 _ ?_, hrun, hended, _, _, rfl, ?_, ⟨_, rfl⟩, hW, hsame.mono (by decide) (by decide)⟩
  · show Steps p.tables e below (s₁.setTop (mkF m 0 #[.val (.ref a1)] [])) _
    refine st2 _ ?_
    refine XS.ifNo X2.here hx rfl (hb hby d7_3) rfl ((if0 _ _).trans (feq P3).1) ?_
    refine XS.aloadN X2.here hx rfl (hb hby d7_6) rfl rfl ?_
    refine st3 _ ?_
    refine XS.ifYes X3.here hx rfl (pc0 := 10) (pc' := 17) rfl (hb hby d7_10) rfl ((if0 _ _).trans (feq (by decide : ¬ ((1 : Int32) = (0 : Int32)))).2) (by decide) (by decide) ?_
    show Steps p.tables e below (T3.setTop (mkF m 17 #[.val (.ref a1)] [])) _
    refine XS.iconst X3.here hx rfl (hb hby d7_17) ?_
    exact retN X3 hx (t := .boolean) Bd.returns (by simp) (hb hby d7_18) hr
  · show own_QR (.int (0 : Int32)) h0 n0 _ T3.heap _
    rw [e3]
    exact ⟨rfl, N0, rfl⟩
theorem d9_0 : decode jdk_42_method_152_code 0 = .ok (.getstatic 38, 3) := by decide +kernel
theorem d9_3 : decode jdk_42_method_152_code 3 = .ok (.ifCond .eq 10, 3) := by decide +kernel
theorem d9_6 : decode jdk_42_method_152_code 6 = .ok (.aload_n 0, 1) := by decide +kernel
theorem d9_7 : decode jdk_42_method_152_code 7 = .ok (.getfield 15, 3) := by decide +kernel
theorem d9_10 : decode jdk_42_method_152_code 10 = .ok (.goto 4, 3) := by decide +kernel
theorem d9_14 : decode jdk_42_method_152_code 14 = .ok (.ireturn, 1) := by decide +kernel
theorem pn_9 : plainName "java/lang/String" = true := by first | (simp [plainName, overriddenIn]; done) | decide +kernel
theorem ef_9 (m : MethodId) (x0 : Addr) : entryFrame m #[(.ref x0)] 1 = mkF m 0 #[.val (.ref x0)] [] := by first | (simp [entryFrame, mkF, argsToLocals, Value.category]; done) | rfl
set_option maxRecDepth 65536 in
set_option maxHeartbeats 40000000 in
theorem rm9 (l : Launch) (Z : State) (a0 : Array Value) (hw : ∀ d ∈ tables_1, d.before a0 Z = true) (ws : List Jvm.Cond) (a1 : Addr) (G1 : Int32) (cd : Int32) (h0 : Heap) (n0 : Nat) (Z0 : n0 ≤ h0.size) (S_COMPACT_STRINGS : Sta Z Z.heap "java/lang/String" "COMPACT_STRINGS" "Z" (.int G1)) (X00 : Old Z n0 h0) (P3 : ¬ (G1 = (0 : Int32))) (E_a1 : Exa Z h0 a1 "java/lang/String") (F_coder_a1 : Fld Z h0 a1 "java/lang/String" "coder" "B" (.int cd)) (hcd : nar .byte cd = cd) :
    MetFree l (⟨"java/lang/String", "coder", "()B"⟩ : MethodName) (head1 (Jvm.Cond.code (⟨"java/lang/String", "coder", "()B"⟩ : MethodName) jdk_42_method_152_code 1 (some .byte) :: ws) ({ frames := 0, cells := 0, slots := 0, locals := 0 } : Room)) (fun a U => a = #[(.ref a1)] ∧ Z.Warmed39 U.vm ∧ U.heap = h0) (fun _ _ _ _ _ => True) (fun _ U o U' => ∃ v L, o = .returned v ∧ own_QR (.int cd) h0 n0 v U'.heap L ∧ FrameEnd U o U' L ({ frames := 0, cells := 0, slots := 0, locals := 0 } : Room).cells ({ frames := 0, cells := 0, slots := 0, locals := 0 } : Room).slots) := by
  refine MetFree.of_bodySF (plainFor_of_name pn_9) hisR ?_
  intro p e s m args below meth c s₁ Bd hml0 hP hK
  obtain ⟨rfl, hZ, hh⟩ := hP
  have hx := Bd.exec
  have hby := Bd.bytes
  have hml : c.maxLocals = 1 := hml0
  have hown : s.vm.findClass "java/lang/String" = some m.cls := findClass_of_methodNamed Bd.named
  have hnm := (name_of_methodNamed Bd.named Bd.method).1
  have X0 : Stand p l e ({ frames := 0, cells := 0, slots := 0, locals := 0 } : Room) s m #[(.ref a1)] below meth c s₁ [] 0 0 := Stand.of_body Bd
  have e0 : s₁.heap = h0 := by rw [← hh, Bd.state]; rfl
  have N0 := Fr.nil n0
  have pre0 : ∀ t, Steps p.tables e below (s₁.setTop (mkF m 0 #[.val (.ref a1)] [])) t → Steps p.tables e below (s₁.setTop (entryFrame m #[(.ref a1)] 1)) t := fun t k => castTop (ef_9 m a1) k
  obtain ⟨T2, X2, e2, st2⟩ := getS2 X0 hx hZ hown (host := "") (Or.inl (hw _ (wI 42 rfl))) Via.refl e0 (S_COMPACT_STRINGS.ext X00.2) (g := (mkF m 0 #[.val (.ref a1)] [])) rfl (hb hby d9_0)
  obtain ⟨T3, X3, e3, st3⟩ := getF X2 hx hZ hown (host := "") (Or.inl (hw _ (wI 22 rfl))) Via.refl e2 F_coder_a1 (g := (mkF m 7 #[.val (.ref a1)] [(.ref a1)])) rfl rfl (hb hby d9_7)
  obtain ⟨fs, hr, hrun, hended, hW, hsame⟩ := X3.leave (v := some (.int (nar .byte cd))) (fun h => by rw [Bd.returns] at h; cases h)
  refine ⟨_, _, pre0 _ ?_, hrun, hended, _, _, rfl, ?_, ⟨_, rfl⟩, hW, hsame.mono (by decide) (by decide)⟩
  · show Steps p.tables e below (s₁.setTop (mkF m 0 #[.val (.ref a1)] [])) _
    refine st2 _ ?_
    refine XS.ifNo X2.here hx rfl (hb hby d9_3) rfl ((if0 _ _).trans (feq P3).1) ?_
    refine XS.aloadN X2.here hx rfl (hb hby d9_6) rfl rfl ?_
    refine st3 _ ?_
    refine XS.goto X3.here hx rfl (pc0 := 10) (pc' := 14) rfl (hb hby d9_10) (by decide) (by decide) ?_
    show Steps p.tables e below (T3.setTop (mkF m 14 #[.val (.ref a1)] [(.int cd)])) _
    exact retN X3 hx (t := .byte) Bd.returns (by simp) (hb hby d9_14) hr
  · show own_QR (.int cd) h0 n0 _ T3.heap _
    rw [e3]
    exact ⟨congrArg (fun z => some (Value.int z)) hcd, N0, rfl⟩
theorem d8_0 : decode jdk_42_method_54_code 0 = .ok (.aload_n 0, 1) := by decide +kernel
theorem d8_1 : decode jdk_42_method_54_code 1 = .ok (.getfield 9, 3) := by decide +kernel
theorem d8_4 : decode jdk_42_method_54_code 4 = .ok (.arraylength, 1) := by decide +kernel
theorem d8_5 : decode jdk_42_method_54_code 5 = .ok (.aload_n 0, 1) := by decide +kernel
theorem d8_6 : decode jdk_42_method_54_code 6 = .ok (.invokevirtual 335, 3) := by decide +kernel
theorem d8_9 : decode jdk_42_method_54_code 9 = .ok (.ishr, 1) := by decide +kernel
theorem d8_10 : decode jdk_42_method_54_code 10 = .ok (.ireturn, 1) := by decide +kernel
theorem pn_8 : plainName "java/lang/String" = true := by first | (simp [plainName, overriddenIn]; done) | decide +kernel
theorem pd_8_8 : parseMethodDescriptor "()B" = some ⟨[], some .byte⟩ := by decide +kernel
theorem ef_8 (m : MethodId) (x0 : Addr) : entryFrame m #[(.ref x0)] 1 = mkF m 0 #[.val (.ref x0)] [] := by first | (simp [entryFrame, mkF, argsToLocals, Value.category]; done) | rfl
set_option maxRecDepth 65536 in
set_option maxHeartbeats 40000000 in
theorem rm8 (l : Launch) (Z : State) (a0 : Array Value) (hw : ∀ d ∈ tables_1, d.before a0 Z = true) (ws : List Jvm.Cond) (a1 : Addr) (G1 : Int32) (sv : Addr) (cd : Int32) (r : Int32) (k_sv : ClassId) (z_sv : Int32) (vs_sv : List Value) (dv_sv : Value) (h0 : Heap) (n0 : Nat) (Z0 : n0 ≤ h0.size) (S_COMPACT_STRINGS : Sta Z Z.heap "java/lang/String" "COMPACT_STRINGS" "Z" (.int G1)) (X00 : Old Z n0 h0) (P3 : ¬ (G1 = (0 : Int32))) (E_a1 : Exa Z h0 a1 "java/lang/String") (F_value_a1 : Fld Z h0 a1 "java/lang/String" "value" "[B" (.ref sv)) (F_coder_a1 : Fld Z h0 a1 "java/lang/String" "coder" "B" (.int cd)) (V_sv : Arv Z h0 sv k_sv .byte z_sv vs_sv dv_sv) (hcd : nar .byte cd = cd) (hR : (z_sv >>> (cd &&& 31)) = r) :
    MetFree l (⟨"java/lang/String", "length", "()I"⟩ : MethodName) (head1 (Jvm.Cond.code (⟨"java/lang/String", "length", "()I"⟩ : MethodName) jdk_42_method_54_code 1 (some .int) :: ws) ({ frames := 1, cells := 0, slots := 0, locals := 13 } : Room)) (fun a U => a = #[(.ref a1)] ∧ Z.Warmed39 U.vm ∧ U.heap = h0) (fun _ _ _ _ _ => True) (fun _ U o U' => ∃ v L, o = .returned v ∧ own_QR (.int r) h0 n0 v U'.heap L ∧ FrameEnd U o U' L ({ frames := 1, cells := 0, slots := 0, locals := 13 } : Room).cells ({ frames := 1, cells := 0, slots := 0, locals := 13 } : Room).slots) := by
  refine MetFree.of_bodySF (plainFor_of_name pn_8) hisR ?_
  intro p e s m args below meth c s₁ Bd hml0 hP hK
  obtain ⟨rfl, hZ, hh⟩ := hP
  have hx := Bd.exec
  have hby := Bd.bytes
  have hml : c.maxLocals = 1 := hml0
  have hown : s.vm.findClass "java/lang/String" = some m.cls := findClass_of_methodNamed Bd.named
  have hnm := (name_of_methodNamed Bd.named Bd.method).1
  have X0 : Stand p l e ({ frames := 1, cells := 0, slots := 0, locals := 13 } : Room) s m #[(.ref a1)] below meth c s₁ [] 0 0 := Stand.of_body Bd
  have e0 : s₁.heap = h0 := by rw [← hh, Bd.state]; rfl
  have N0 := Fr.nil n0
  have pre0 : ∀ t, Steps p.tables e below (s₁.setTop (mkF m 0 #[.val (.ref a1)] [])) t → Steps p.tables e below (s₁.setTop (entryFrame m #[(.ref a1)] 1)) t := fun t k => castTop (ef_8 m a1) k
  obtain ⟨T2, X2, e2, st2⟩ := getF X0 hx hZ hown (host := "") (Or.inl (hw _ (wI 21 rfl))) Via.refl e0 F_value_a1 (g := (mkF m 1 #[.val (.ref a1)] [(.ref a1)])) rfl rfl (hb hby d8_1)
  obtain ⟨cl_sv_4, Ar_sv, -, S_sv, N_sv, -, -⟩ := id V_sv
  obtain ⟨cq3, kq3, q3a, q3b, q3c⟩ := isOf hZ e2 E_a1
  obtain ⟨_, _, ⟨T3, L3, k3, n3⟩, -, X3, ⟨Lc3, hQ3, l3, y3, z3⟩, st3⟩ := X2.virtualBack hx (y := (⟨"java/lang/String", "coder", "()B"⟩ : MethodName)) (z := (⟨"java/lang/String", "coder", "()B"⟩ : MethodName)) hown (mvT hZ (hw _ (wI 48 rfl))) (mvT hZ (hw _ (wI 49 rfl))) (notFace_of_selects (args := #[]) (mvT hZ (hw _ (wI 51 rfl)))) (mvT hZ (hw _ (wI 51 rfl))) (mvT hZ (hw _ (wI 50 rfl))) (by decide) (backOf (W := 1) (rm9 l Z a0 hw [] a1 G1 cd h0 n0 Z0 S_COMPACT_STRINGS X00 P3 E_a1 F_coder_a1 hcd) hZ (hw _ (wI 52 rfl)) (hw _ (wI 3 rfl)) (by decide) (by decide)) q3a q3c (g := (mkF m 6 #[.val (.ref a1)] [(.ref a1), (.int z_sv)])) rfl (by rw [hml]; rfl) (Steps.refl _) (argsL := []) (rest := [(.int z_sv)]) (lenOf pd_8_8 rfl) rfl (by show 2 * 0 + _ ≤ _; exact Nat.le_of_eq rfl) (hb hby d8_6) (fun _ _ => ⟨rfl, e2, (by decide : 0 + 0 ≤ _), (by decide : 0 + 0 ≤ _)⟩)
  dsimp only [Pt.U, Pt.locs, Pt.cells, Pt.slots] at X3 l3 y3 z3 st3 hQ3
  subst l3 y3 z3
  obtain ⟨rfl, N3q, eq3⟩ := hQ3
  have N3 := Fr.app N0 N3q
  have Kq3 : Keep h0 T3.heap [] := (own_keq eq3)
  have K3 : Keep h0 T3.heap [] := (Keep.refl h0 []).trans Kq3 all0
  obtain ⟨fs, hr, hrun, hended, hW, hsame⟩ := X3.leave (v := some (.int (z_sv >>> (cd &&& 31)))) (fun h => by rw [Bd.returns] at h; cases h)
  refine ⟨_, _, pre0 _ ?_, hrun, hended, _, _, rfl, ?_, ⟨_, rfl⟩, hW, hsame.mono (by decide) (by decide)⟩
  · show Steps p.tables e below (s₁.setTop (mkF m 0 #[.val (.ref a1)] [])) _
    refine XS.aloadN X0.here hx rfl (hb hby d8_0) rfl rfl ?_
    refine st2 _ ?_
    refine X2.arraylength hx (by rw [e2]; exact Ar_sv.1) (State.isArrayOf_alike hZ.alike Ar_sv.2.1) (g := (mkF m 4 #[.val (.ref a1)] [(.ref sv)])) rfl rfl (hb hby d8_4) _ ?_
    rw [len_of S_sv N_sv]
    refine XS.aloadN X2.here hx rfl (hb hby d8_5) rfl rfl ?_
    refine st3.trans ?_
    show Steps p.tables e below (T3.setTop (mkF m 9 #[.val (.ref a1)] [(.int cd), (.int z_sv)])) _
    refine XS.ishr X3.here hx rfl (hb hby d8_9) rfl ?_
    exact retI X3 hx Bd.returns (hb hby d8_10) hr
  · show own_QR (.int r) h0 n0 _ T3.heap _
    exact ⟨congrArg (fun z => some (Value.int z)) hR, N3, eq3⟩
theorem own_pos {cs : List Int32} (hl : cs.length = 1 ∨ cs.length = 2 ∨ cs.length = 3) : (0 : Int32) < Int32.ofNat cs.length := by
  rcases hl with hl | hl | hl <;> rw [hl] <;> decide
theorem own_shr1 {cs : List Int32} (hl : cs.length = 1 ∨ cs.length = 2 ∨ cs.length = 3) : Int32.ofNat (2 * cs.length) >>> ((1 : Int32) &&& 31) = Int32.ofNat cs.length := by
  rcases hl with hl | hl | hl <;> rw [hl] <;> decide
theorem own_sh0 (z : Int32) : z >>> ((0 : Int32) &&& 31) = z := StrChars.shr0 z
theorem d6_0 : decode jdk_42_method_80_code 0 = .ok (.aload_n 0, 1) := by decide +kernel
theorem d6_1 : decode jdk_42_method_80_code 1 = .ok (.invokevirtual 492, 3) := by decide +kernel
theorem d6_4 : decode jdk_42_method_80_code 4 = .ok (.ifCond .eq 19, 3) := by decide +kernel
theorem d6_7 : decode jdk_42_method_80_code 7 = .ok (.aload_n 0, 1) := by decide +kernel
theorem d6_8 : decode jdk_42_method_80_code 8 = .ok (.getfield 9, 3) := by decide +kernel
theorem d6_11 : decode jdk_42_method_80_code 11 = .ok (.iload_n 1, 1) := by decide +kernel
theorem d6_12 : decode jdk_42_method_80_code 12 = .ok (.iload_n 2, 1) := by decide +kernel
theorem d6_13 : decode jdk_42_method_80_code 13 = .ok (.aload_n 0, 1) := by decide +kernel
theorem d6_14 : decode jdk_42_method_80_code 14 = .ok (.invokevirtual 505, 3) := by decide +kernel
theorem d6_17 : decode jdk_42_method_80_code 17 = .ok (.invokestatic 637, 3) := by decide +kernel
theorem d6_20 : decode jdk_42_method_80_code 20 = .ok (.goto 16, 3) := by decide +kernel
theorem d6_36 : decode jdk_42_method_80_code 36 = .ok (.ireturn, 1) := by decide +kernel
theorem pn_6 : plainName "java/lang/String" = true := by first | (simp [plainName, overriddenIn]; done) | decide +kernel
theorem pd_6_6 : parseMethodDescriptor "()Z" = some ⟨[], some .boolean⟩ := by decide +kernel
theorem pd_6_7 : parseMethodDescriptor "()I" = some ⟨[], some .int⟩ := by decide +kernel
theorem pd_6_9 : parseMethodDescriptor "([BIII)I" = some ⟨[(.array .byte), .int, .int, .int], some .int⟩ := by decide +kernel
theorem ef_6 (m : MethodId) (x0 : Addr) (x1 : Int32) (x2 : Int32) : entryFrame m #[(.ref x0), (.int x1), (.int x2)] 3 = mkF m 0 #[.val (.ref x0), .val (.int x1), .val (.int x2)] [] := by first | (simp [entryFrame, mkF, argsToLocals, Value.category]; done) | rfl
abbrev oL73 (p2 : Int32) (a1 : Addr) : Array Slot := #[.val (.ref a1), .val (.int p2), .val (.int (0 : Int32))]
set_option maxRecDepth 65536 in
set_option maxHeartbeats 40000000 in
theorem rm6_L (l : Launch) (Z : State) (a0 : Array Value) (hw : ∀ d ∈ tables_1, d.before a0 Z = true) (ws : List Jvm.Cond) (a1 : Addr) (p2 : Int32) (_q3 : Int32) (G1 : Int32) (sv : Addr) (ys : List Int32) (k_sv : ClassId) (h0 : Heap) (n0 : Nat) (Z0 : n0 ≤ h0.size) (S_COMPACT_STRINGS : Sta Z Z.heap "java/lang/String" "COMPACT_STRINGS" "Z" (.int G1)) (X00 : Old Z n0 h0) (P3 : ¬ (G1 = (0 : Int32))) (E_a1 : Exa Z h0 a1 "java/lang/String") (F_value_a1 : Fld Z h0 a1 "java/lang/String" "value" "[B" (.ref sv)) (F_coder_a1 : Fld Z h0 a1 "java/lang/String" "coder" "B" (.int (0 : Int32))) (V_sv : Arv Z h0 sv k_sv .byte (Int32.ofNat ys.length) (ys.map Value.int) (.int (0 : Int32))) (hl : ys.length = 1 ∨ ys.length = 2 ∨ ys.length = 3) (hk : ¬ p2 < 0 ∧ ¬ (255 : Int32) < p2) :
    MetFree l (⟨"java/lang/String", "indexOf", "(II)I"⟩ : MethodName) (head1 (Jvm.Cond.code (⟨"java/lang/String", "indexOf", "(II)I"⟩ : MethodName) jdk_42_method_80_code 3 (some .int) :: ws) ({ frames := 5, cells := 0, slots := 0, locals := 73 } : Room)) (fun a U => a = #[(.ref a1), (.int p2), (.int (0 : Int32))] ∧ Z.Warmed39 U.vm ∧ U.heap = h0) (fun _ _ _ _ _ => True) (fun _ U o U' => ∃ v L, o = .returned v ∧ own_QR (.int (own_ix (p2.toInt8.toInt32) ys (0 : Int32))) h0 n0 v U'.heap L ∧ FrameEnd U o U' L ({ frames := 5, cells := 0, slots := 0, locals := 73 } : Room).cells ({ frames := 5, cells := 0, slots := 0, locals := 73 } : Room).slots) := by
  refine MetFree.of_bodySF (plainFor_of_name pn_6) hisR ?_
  intro p e s m args below meth c s₁ Bd hml0 hP hK
  obtain ⟨rfl, hZ, hh⟩ := hP
  have hx := Bd.exec
  have hby := Bd.bytes
  have hml : c.maxLocals = 3 := hml0
  have hown : s.vm.findClass "java/lang/String" = some m.cls := findClass_of_methodNamed Bd.named
  have hnm := (name_of_methodNamed Bd.named Bd.method).1
  have X0 : Stand p l e ({ frames := 5, cells := 0, slots := 0, locals := 73 } : Room) s m #[(.ref a1), (.int p2), (.int (0 : Int32))] below meth c s₁ [] 0 0 := Stand.of_body Bd
  have e0 : s₁.heap = h0 := by rw [← hh, Bd.state]; rfl
  have N0 := Fr.nil n0
  have pre0 : ∀ t, Steps p.tables e below (s₁.setTop (mkF m 0 (oL73 p2 a1) [])) t → Steps p.tables e below (s₁.setTop (entryFrame m #[(.ref a1), (.int p2), (.int (0 : Int32))] 3)) t := fun t k => castTop (ef_6 m a1 p2 (0 : Int32)) k
  obtain ⟨cq3, kq3, q3a, q3b, q3c⟩ := isOf hZ e0 E_a1
  obtain ⟨_, _, ⟨T3, L3, k3, n3⟩, -, X3, ⟨Lc3, hQ3, l3, y3, z3⟩, st3⟩ := X0.virtualBack hx (y := (⟨"java/lang/String", "isLatin1", "()Z"⟩ : MethodName)) (z := (⟨"java/lang/String", "isLatin1", "()Z"⟩ : MethodName)) hown (mvT hZ (hw _ (wI 37 rfl))) (mvT hZ (hw _ (wI 38 rfl))) (notFace_of_selects (args := #[]) (mvT hZ (hw _ (wI 40 rfl)))) (mvT hZ (hw _ (wI 40 rfl))) (mvT hZ (hw _ (wI 39 rfl))) (by decide) (backOf (W := 0) (rm7_0 l Z a0 hw [] a1 G1 h0 n0 Z0 S_COMPACT_STRINGS X00 P3 E_a1 F_coder_a1) hZ (hw _ (wI 41 rfl)) (hw _ (wI 3 rfl)) (by decide) (by decide)) q3a q3c (g := (mkF m 1 (oL73 p2 a1) [(.ref a1)])) rfl (by rw [hml]; rfl) (Steps.refl _) (argsL := []) (rest := []) (lenOf pd_6_6 rfl) rfl (by show 2 * 0 + _ ≤ _; exact Nat.le_of_eq rfl) (hb hby d6_1) (fun _ _ => ⟨rfl, e0, (by decide : 0 + 0 ≤ _), (by decide : 0 + 0 ≤ _)⟩)
  dsimp only [Pt.U, Pt.locs, Pt.cells, Pt.slots] at X3 l3 y3 z3 st3 hQ3
  subst l3 y3 z3
  obtain ⟨rfl, N3q, eq3⟩ := hQ3
  have N3 := Fr.app N0 N3q
  have Kq3 : Keep h0 T3.heap [] := (own_keq eq3)
  have K3 : Keep h0 T3.heap [] := (Keep.refl h0 []).trans Kq3 all0
  obtain ⟨T4, X4, e4, st4⟩ := getF X3 hx hZ hown (host := "") (Or.inl (hw _ (wI 21 rfl))) Via.refl rfl (F_value_a1.keep Kq3 (fun q => nomatch q)) (g := (mkF m 8 (oL73 p2 a1) [(.ref a1)])) rfl rfl (hb hby d6_8)
  obtain ⟨cq5, kq5, q5a, q5b, q5c⟩ := isOf hZ e4 (E_a1.keep Kq3)
  obtain ⟨_, _, ⟨T5, L5, k5, n5⟩, -, X5, ⟨Lc5, hQ5, l5, y5, z5⟩, st5⟩ := X4.virtualBack hx (y := (⟨"java/lang/String", "length", "()I"⟩ : MethodName)) (z := (⟨"java/lang/String", "length", "()I"⟩ : MethodName)) hown (mvT hZ (hw _ (wI 43 rfl))) (mvT hZ (hw _ (wI 44 rfl))) (notFace_of_selects (args := #[]) (mvT hZ (hw _ (wI 46 rfl)))) (mvT hZ (hw _ (wI 46 rfl))) (mvT hZ (hw _ (wI 45 rfl))) (by decide) (backOf (W := 3) (rm8 l Z a0 hw [] a1 G1 sv (0 : Int32) (Int32.ofNat ys.length) k_sv (Int32.ofNat ys.length) (ys.map Value.int) (.int (0 : Int32)) T3.heap n0 (Nat.le_trans Z0 Kq3.1) S_COMPACT_STRINGS (X00.keep K3 all0) P3 (E_a1.keep Kq3) (F_value_a1.keep Kq3 (fun q => nomatch q)) (F_coder_a1.keep Kq3 (fun q => nomatch q)) (V_sv.keep Kq3 (fun q => nomatch q)) (by decide) (own_sh0 _)) hZ (hw _ (wI 47 rfl)) (hw _ (wI 3 rfl)) (by decide) (by decide)) q5a q5c (g := (mkF m 14 (oL73 p2 a1) [(.ref a1), (.int (0 : Int32)), (.int p2), (.ref sv)])) rfl (by rw [hml]; rfl) (Steps.refl _) (argsL := []) (rest := [(.int (0 : Int32)), (.int p2), (.ref sv)]) (lenOf pd_6_7 rfl) rfl (by show 2 * 0 + _ ≤ _; exact Nat.le_of_eq rfl) (hb hby d6_14) (fun _ _ => ⟨rfl, e4, (by decide : 0 + 0 ≤ _), (by decide : 0 + 0 ≤ _)⟩)
  dsimp only [Pt.U, Pt.locs, Pt.cells, Pt.slots] at X5 l5 y5 z5 st5 hQ5
  subst l5 y5 z5
  obtain ⟨rfl, N5q, eq5⟩ := hQ5
  have N5 := Fr.app N3 N5q
  have Kq5 : Keep T3.heap T5.heap [] := (own_keq eq5)
  have K5 : Keep h0 T5.heap [] := K3.trans Kq5 all0
  obtain ⟨_, _, ⟨T6, L6, k6, n6⟩, -, X6, ⟨Lc6, hQ6, l6, y6, z6⟩, st6⟩ := Jvm.LawKit.callS X5 hx (y := (⟨"java/lang/StringLatin1", "indexOf", "([BIII)I"⟩ : MethodName)) hown (mvT hZ (hw _ (wI 53 rfl))) (mvT hZ (hw _ (wI 54 rfl))) (mvT hZ (hw _ (wI 55 rfl))) (mvT hZ (hw _ (wI 56 rfl))) (by decide) (backOf (W := 0) (rm10 l Z a0 hw [] sv p2 (0 : Int32) (Int32.ofNat ys.length) ys k_sv T5.heap n0 (Nat.le_trans (Nat.le_trans Z0 Kq3.1) Kq5.1) ((V_sv.keep Kq3 (fun q => nomatch q)).keep Kq5 (fun q => nomatch q)) hl hk (own_pos hl)) hZ (hw _ (wI 56 rfl)) (hw _ (wI 55 rfl)) (by decide) (by decide)) (g := (mkF m 17 (oL73 p2 a1) [(.int (Int32.ofNat ys.length)), (.int (0 : Int32)), (.int p2), (.ref sv)])) rfl (by rw [hml]; rfl) (argsL := [(.ref sv), (.int p2), (.int (0 : Int32)), (.int (Int32.ofNat ys.length))]) (rest := []) (lenOf pd_6_9 rfl) rfl (by show 2 * 0 + _ ≤ _; exact Nat.le_of_eq rfl) (hb hby d6_17) (fun _ _ => ⟨rfl, rfl, (by decide : 0 + 0 ≤ _), (by decide : 0 + 0 ≤ _)⟩)
  dsimp only [Pt.U, Pt.locs, Pt.cells, Pt.slots] at X6 l6 y6 z6 st6 hQ6
  subst l6 y6 z6
  obtain ⟨rfl, N6q, eq6⟩ := hQ6
  have N6 := Fr.app N5 N6q
  have Kq6 : Keep T5.heap T6.heap [] := (own_keq eq6)
  have K6 : Keep h0 T6.heap [] := K5.trans Kq6 all0
  obtain ⟨fs, hr, hrun, hended, hW, hsame⟩ := X6.leave (v := some (.int (own_ix (p2.toInt8.toInt32) ys (0 : Int32)))) (fun h => by rw [Bd.returns] at h; cases h)
  refine ⟨_, _, pre0 _ ?_, hrun, hended, _, _, rfl, ?_, ⟨_, rfl⟩, hW, hsame.mono (by decide) (by decide)⟩
  · show Steps p.tables e below (s₁.setTop (mkF m 0 (oL73 p2 a1) [])) _
    refine XS.aloadN X0.here hx rfl (hb hby d6_0) rfl rfl ?_
    refine st3.trans ?_
    refine XS.ifNo X3.here hx rfl (hb hby d6_4) rfl ((if0 _ _).trans (feq (by decide : ¬ ((1 : Int32) = (0 : Int32)))).1) ?_
    refine XS.aloadN X3.here hx rfl (hb hby d6_7) rfl rfl ?_
    refine st4 _ ?_
    show Steps p.tables e below (T4.setTop (mkF m 11 (oL73 p2 a1) [(.ref sv)])) _
    refine XS.iloadN X4.here hx rfl (hb hby d6_11) rfl ?_
    refine XS.iloadN X4.here hx rfl (hb hby d6_12) rfl ?_
    refine XS.aloadN X4.here hx rfl (hb hby d6_13) rfl rfl ?_
    refine st5.trans ?_
    refine st6 _ ?_
    show Steps p.tables e below (T6.setTop (mkF m 20 (oL73 p2 a1) [(.int (own_ix (p2.toInt8.toInt32) ys (0 : Int32)))])) _
    refine XS.goto X6.here hx rfl (pc0 := 20) (pc' := 36) rfl (hb hby d6_20) (by decide) (by decide) ?_
    exact retI X6 hx Bd.returns (hb hby d6_36) hr
  · show own_QR (.int (own_ix (p2.toInt8.toInt32) ys (0 : Int32))) h0 n0 _ T6.heap _
    exact ⟨rfl, N6, (eq6.trans (eq5.trans eq3))⟩
set_option maxRecDepth 65536 in
set_option maxHeartbeats 40000000 in
theorem rm6_E (l : Launch) (Z : State) (a0 : Array Value) (hw : ∀ d ∈ tables_1, d.before a0 Z = true) (ws : List Jvm.Cond) (a1 : Addr) (p2 : Int32) (_q3 : Int32) (G1 : Int32) (sv : Addr) (k_sv : ClassId) (h0 : Heap) (n0 : Nat) (Z0 : n0 ≤ h0.size) (S_COMPACT_STRINGS : Sta Z Z.heap "java/lang/String" "COMPACT_STRINGS" "Z" (.int G1)) (X00 : Old Z n0 h0) (P3 : ¬ (G1 = (0 : Int32))) (E_a1 : Exa Z h0 a1 "java/lang/String") (F_value_a1 : Fld Z h0 a1 "java/lang/String" "value" "[B" (.ref sv)) (F_coder_a1 : Fld Z h0 a1 "java/lang/String" "coder" "B" (.int (0 : Int32))) (V_sv : Arv Z h0 sv k_sv .byte (0 : Int32) ([] : List Value) (.int (0 : Int32))) (hk : ¬ p2 < 0 ∧ ¬ (255 : Int32) < p2) :
    MetFree l (⟨"java/lang/String", "indexOf", "(II)I"⟩ : MethodName) (head1 (Jvm.Cond.code (⟨"java/lang/String", "indexOf", "(II)I"⟩ : MethodName) jdk_42_method_80_code 3 (some .int) :: ws) ({ frames := 5, cells := 0, slots := 0, locals := 73 } : Room)) (fun a U => a = #[(.ref a1), (.int p2), (.int (0 : Int32))] ∧ Z.Warmed39 U.vm ∧ U.heap = h0) (fun _ _ _ _ _ => True) (fun _ U o U' => ∃ v L, o = .returned v ∧ own_QR (.int (-1 : Int32)) h0 n0 v U'.heap L ∧ FrameEnd U o U' L ({ frames := 5, cells := 0, slots := 0, locals := 73 } : Room).cells ({ frames := 5, cells := 0, slots := 0, locals := 73 } : Room).slots) := by
  refine MetFree.of_bodySF (plainFor_of_name pn_6) hisR ?_
  intro p e s m args below meth c s₁ Bd hml0 hP hK
  obtain ⟨rfl, hZ, hh⟩ := hP
  have hx := Bd.exec
  have hby := Bd.bytes
  have hml : c.maxLocals = 3 := hml0
  have hown : s.vm.findClass "java/lang/String" = some m.cls := findClass_of_methodNamed Bd.named
  have hnm := (name_of_methodNamed Bd.named Bd.method).1
  have X0 : Stand p l e ({ frames := 5, cells := 0, slots := 0, locals := 73 } : Room) s m #[(.ref a1), (.int p2), (.int (0 : Int32))] below meth c s₁ [] 0 0 := Stand.of_body Bd
  have e0 : s₁.heap = h0 := by rw [← hh, Bd.state]; rfl
  have N0 := Fr.nil n0
  have pre0 : ∀ t, Steps p.tables e below (s₁.setTop (mkF m 0 (oL73 p2 a1) [])) t → Steps p.tables e below (s₁.setTop (entryFrame m #[(.ref a1), (.int p2), (.int (0 : Int32))] 3)) t := fun t k => castTop (ef_6 m a1 p2 (0 : Int32)) k
  obtain ⟨cq3, kq3, q3a, q3b, q3c⟩ := isOf hZ e0 E_a1
  obtain ⟨_, _, ⟨T3, L3, k3, n3⟩, -, X3, ⟨Lc3, hQ3, l3, y3, z3⟩, st3⟩ := X0.virtualBack hx (y := (⟨"java/lang/String", "isLatin1", "()Z"⟩ : MethodName)) (z := (⟨"java/lang/String", "isLatin1", "()Z"⟩ : MethodName)) hown (mvT hZ (hw _ (wI 37 rfl))) (mvT hZ (hw _ (wI 38 rfl))) (notFace_of_selects (args := #[]) (mvT hZ (hw _ (wI 40 rfl)))) (mvT hZ (hw _ (wI 40 rfl))) (mvT hZ (hw _ (wI 39 rfl))) (by decide) (backOf (W := 0) (rm7_0 l Z a0 hw [] a1 G1 h0 n0 Z0 S_COMPACT_STRINGS X00 P3 E_a1 F_coder_a1) hZ (hw _ (wI 41 rfl)) (hw _ (wI 3 rfl)) (by decide) (by decide)) q3a q3c (g := (mkF m 1 (oL73 p2 a1) [(.ref a1)])) rfl (by rw [hml]; rfl) (Steps.refl _) (argsL := []) (rest := []) (lenOf pd_6_6 rfl) rfl (by show 2 * 0 + _ ≤ _; exact Nat.le_of_eq rfl) (hb hby d6_1) (fun _ _ => ⟨rfl, e0, (by decide : 0 + 0 ≤ _), (by decide : 0 + 0 ≤ _)⟩)
  dsimp only [Pt.U, Pt.locs, Pt.cells, Pt.slots] at X3 l3 y3 z3 st3 hQ3
  subst l3 y3 z3
  obtain ⟨rfl, N3q, eq3⟩ := hQ3
  have N3 := Fr.app N0 N3q
  have Kq3 : Keep h0 T3.heap [] := (own_keq eq3)
  have K3 : Keep h0 T3.heap [] := (Keep.refl h0 []).trans Kq3 all0
  obtain ⟨T4, X4, e4, st4⟩ := getF X3 hx hZ hown (host := "") (Or.inl (hw _ (wI 21 rfl))) Via.refl rfl (F_value_a1.keep Kq3 (fun q => nomatch q)) (g := (mkF m 8 (oL73 p2 a1) [(.ref a1)])) rfl rfl (hb hby d6_8)
  obtain ⟨cq5, kq5, q5a, q5b, q5c⟩ := isOf hZ e4 (E_a1.keep Kq3)
  obtain ⟨_, _, ⟨T5, L5, k5, n5⟩, -, X5, ⟨Lc5, hQ5, l5, y5, z5⟩, st5⟩ := X4.virtualBack hx (y := (⟨"java/lang/String", "length", "()I"⟩ : MethodName)) (z := (⟨"java/lang/String", "length", "()I"⟩ : MethodName)) hown (mvT hZ (hw _ (wI 43 rfl))) (mvT hZ (hw _ (wI 44 rfl))) (notFace_of_selects (args := #[]) (mvT hZ (hw _ (wI 46 rfl)))) (mvT hZ (hw _ (wI 46 rfl))) (mvT hZ (hw _ (wI 45 rfl))) (by decide) (backOf (W := 3) (rm8 l Z a0 hw [] a1 G1 sv (0 : Int32) (0 : Int32) k_sv (0 : Int32) ([] : List Value) (.int (0 : Int32)) T3.heap n0 (Nat.le_trans Z0 Kq3.1) S_COMPACT_STRINGS (X00.keep K3 all0) P3 (E_a1.keep Kq3) (F_value_a1.keep Kq3 (fun q => nomatch q)) (F_coder_a1.keep Kq3 (fun q => nomatch q)) (V_sv.keep Kq3 (fun q => nomatch q)) (by decide) (own_sh0 _)) hZ (hw _ (wI 47 rfl)) (hw _ (wI 3 rfl)) (by decide) (by decide)) q5a q5c (g := (mkF m 14 (oL73 p2 a1) [(.ref a1), (.int (0 : Int32)), (.int p2), (.ref sv)])) rfl (by rw [hml]; rfl) (Steps.refl _) (argsL := []) (rest := [(.int (0 : Int32)), (.int p2), (.ref sv)]) (lenOf pd_6_7 rfl) rfl (by show 2 * 0 + _ ≤ _; exact Nat.le_of_eq rfl) (hb hby d6_14) (fun _ _ => ⟨rfl, e4, (by decide : 0 + 0 ≤ _), (by decide : 0 + 0 ≤ _)⟩)
  dsimp only [Pt.U, Pt.locs, Pt.cells, Pt.slots] at X5 l5 y5 z5 st5 hQ5
  subst l5 y5 z5
  obtain ⟨rfl, N5q, eq5⟩ := hQ5
  have N5 := Fr.app N3 N5q
  have Kq5 : Keep T3.heap T5.heap [] := (own_keq eq5)
  have K5 : Keep h0 T5.heap [] := K3.trans Kq5 all0
  obtain ⟨_, _, ⟨T6, L6, k6, n6⟩, -, X6, ⟨Lc6, hQ6, l6, y6, z6⟩, st6⟩ := Jvm.LawKit.callS X5 hx (y := (⟨"java/lang/StringLatin1", "indexOf", "([BIII)I"⟩ : MethodName)) hown (mvT hZ (hw _ (wI 53 rfl))) (mvT hZ (hw _ (wI 54 rfl))) (mvT hZ (hw _ (wI 55 rfl))) (mvT hZ (hw _ (wI 56 rfl))) (by decide) (backOf (W := 0) (rm10e l Z a0 hw [] sv p2 (0 : Int32) (0 : Int32) k_sv T5.heap n0 (Nat.le_trans (Nat.le_trans Z0 Kq3.1) Kq5.1) ((V_sv.keep Kq3 (fun q => nomatch q)).keep Kq5 (fun q => nomatch q)) hk) hZ (hw _ (wI 56 rfl)) (hw _ (wI 55 rfl)) (by decide) (by decide)) (g := (mkF m 17 (oL73 p2 a1) [(.int (0 : Int32)), (.int (0 : Int32)), (.int p2), (.ref sv)])) rfl (by rw [hml]; rfl) (argsL := [(.ref sv), (.int p2), (.int (0 : Int32)), (.int (0 : Int32))]) (rest := []) (lenOf pd_6_9 rfl) rfl (by show 2 * 0 + _ ≤ _; exact Nat.le_of_eq rfl) (hb hby d6_17) (fun _ _ => ⟨rfl, rfl, (by decide : 0 + 0 ≤ _), (by decide : 0 + 0 ≤ _)⟩)
  dsimp only [Pt.U, Pt.locs, Pt.cells, Pt.slots] at X6 l6 y6 z6 st6 hQ6
  subst l6 y6 z6
  obtain ⟨rfl, N6q, eq6⟩ := hQ6
  have N6 := Fr.app N5 N6q
  have Kq6 : Keep T5.heap T6.heap [] := (own_keq eq6)
  have K6 : Keep h0 T6.heap [] := K5.trans Kq6 all0
  obtain ⟨fs, hr, hrun, hended, hW, hsame⟩ := X6.leave (v := some (.int (-1 : Int32))) (fun h => by rw [Bd.returns] at h; cases h)
  refine ⟨_, _, pre0 _ ?_, hrun, hended, _, _, rfl, ?_, ⟨_, rfl⟩, hW, hsame.mono (by decide) (by decide)⟩
  · show Steps p.tables e below (s₁.setTop (mkF m 0 (oL73 p2 a1) [])) _
    refine XS.aloadN X0.here hx rfl (hb hby d6_0) rfl rfl ?_
    refine st3.trans ?_
    refine XS.ifNo X3.here hx rfl (hb hby d6_4) rfl ((if0 _ _).trans (feq (by decide : ¬ ((1 : Int32) = (0 : Int32)))).1) ?_
    refine XS.aloadN X3.here hx rfl (hb hby d6_7) rfl rfl ?_
    refine st4 _ ?_
    show Steps p.tables e below (T4.setTop (mkF m 11 (oL73 p2 a1) [(.ref sv)])) _
    refine XS.iloadN X4.here hx rfl (hb hby d6_11) rfl ?_
    refine XS.iloadN X4.here hx rfl (hb hby d6_12) rfl ?_
    refine XS.aloadN X4.here hx rfl (hb hby d6_13) rfl rfl ?_
    refine st5.trans ?_
    refine st6 _ ?_
    show Steps p.tables e below (T6.setTop (mkF m 20 (oL73 p2 a1) [(.int (-1 : Int32))])) _
    refine XS.goto X6.here hx rfl (pc0 := 20) (pc' := 36) rfl (hb hby d6_20) (by decide) (by decide) ?_
    exact retI X6 hx Bd.returns (hb hby d6_36) hr
  · show own_QR (.int (-1 : Int32)) h0 n0 _ T6.heap _
    exact ⟨rfl, N6, (eq6.trans (eq5.trans eq3))⟩
theorem d29_0 : decode jdk_41_method_12_code 0 = .ok (.iload_n 0, 1) := by decide +kernel
theorem d29_1 : decode jdk_41_method_12_code 1 = .ok (.ifCond .lt 13, 3) := by decide +kernel
theorem d29_4 : decode jdk_41_method_12_code 4 = .ok (.iload_n 0, 1) := by decide +kernel
theorem d29_5 : decode jdk_41_method_12_code 5 = .ok (.iload_n 1, 1) := by decide +kernel
theorem d29_6 : decode jdk_41_method_12_code 6 = .ok (.if_icmp .gt 8, 3) := by decide +kernel
theorem d29_9 : decode jdk_41_method_12_code 9 = .ok (.iload_n 1, 1) := by decide +kernel
theorem d29_10 : decode jdk_41_method_12_code 10 = .ok (.iload_n 2, 1) := by decide +kernel
theorem d29_11 : decode jdk_41_method_12_code 11 = .ok (.if_icmp .le 11, 3) := by decide +kernel
theorem d29_22 : decode jdk_41_method_12_code 22 = .ok (.iload_n 0, 1) := by decide +kernel
theorem d29_23 : decode jdk_41_method_12_code 23 = .ok (.ireturn, 1) := by decide +kernel
theorem pn_29 : plainName "jdk/internal/util/Preconditions" = true := by first | (simp [plainName, overriddenIn]; done) | decide +kernel
theorem ef_29 (m : MethodId) (x0 : Int32) (x1 : Int32) (x2 : Int32) (x3 : Addr) : entryFrame m #[(.int x0), (.int x1), (.int x2), (.ref x3)] 4 = mkF m 0 #[.val (.int x0), .val (.int x1), .val (.int x2), .val (.ref x3)] [] := by first | (simp [entryFrame, mkF, argsToLocals, Value.category]; done) | rfl
abbrev oL74 (p1 p2 : Int32) (a3 : Addr) : Array Slot := #[.val (.int (0 : Int32)), .val (.int p1), .val (.int p2), .val (.ref a3)]
set_option maxRecDepth 65536 in
set_option maxHeartbeats 40000000 in
theorem rm29_r (l : Launch) (Z : State) (a0 : Array Value) (hw : ∀ d ∈ tables_1, d.before a0 Z = true) (ws : List Jvm.Cond) (_q1 : Int32) (p1 : Int32) (p2 : Int32) (a3 : Addr) (h0 : Heap) (n0 : Nat) (Z0 : n0 ≤ h0.size) (hc6 : ¬ (p1 < (0 : Int32))) (hc11 : ¬ (p2 < p1)) :
    MetFree l (⟨"jdk/internal/util/Preconditions", "checkFromToIndex", "(IIILjava/util/function/BiFunction;)I"⟩ : MethodName) (head1 (Jvm.Cond.code (⟨"jdk/internal/util/Preconditions", "checkFromToIndex", "(IIILjava/util/function/BiFunction;)I"⟩ : MethodName) jdk_41_method_12_code 4 (some .int) :: ws) ({ frames := 0, cells := 0, slots := 0, locals := 0 } : Room)) (fun a U => a = #[(.int (0 : Int32)), (.int p1), (.int p2), (.ref a3)] ∧ Z.Warmed39 U.vm ∧ U.heap = h0) (fun _ _ _ _ _ => True) (fun _ U o U' => ∃ v L, o = .returned v ∧ own_QR (.int (0 : Int32)) h0 n0 v U'.heap L ∧ FrameEnd U o U' L ({ frames := 0, cells := 0, slots := 0, locals := 0 } : Room).cells ({ frames := 0, cells := 0, slots := 0, locals := 0 } : Room).slots) := by
  refine MetFree.of_bodySF (plainFor_of_name pn_29) hisR ?_
  intro p e s m args below meth c s₁ Bd hml0 hP hK
  obtain ⟨rfl, hZ, hh⟩ := hP
  have hx := Bd.exec
  have hby := Bd.bytes
  have hml : c.maxLocals = 4 := hml0
  have hown : s.vm.findClass "jdk/internal/util/Preconditions" = some m.cls := findClass_of_methodNamed Bd.named
  have hnm := (name_of_methodNamed Bd.named Bd.method).1
  have X0 : Stand p l e ({ frames := 0, cells := 0, slots := 0, locals := 0 } : Room) s m #[(.int (0 : Int32)), (.int p1), (.int p2), (.ref a3)] below meth c s₁ [] 0 0 := Stand.of_body Bd
  have e0 : s₁.heap = h0 := by rw [← hh, Bd.state]; rfl
  have N0 := Fr.nil n0
  have pre0 : ∀ t, Steps p.tables e below (s₁.setTop (mkF m 0 (oL74 p1 p2 a3) [])) t → Steps p.tables e below (s₁.setTop (entryFrame m #[(.int (0 : Int32)), (.int p1), (.int p2), (.ref a3)] 4)) t := fun t k => castTop (ef_29 m (0 : Int32) p1 p2 a3) k

  obtain ⟨fs, hr, hrun, hended, hW, hsame⟩ := X0.leave (v := some (.int (0 : Int32))) (fun h => by rw [Bd.returns] at h; cases h)
  refine ⟨_, _, pre0 _ ?_, hrun, hended, _, _, rfl, ?_, ⟨_, rfl⟩, hW, hsame.mono (by decide) (by decide)⟩
  · show Steps p.tables e below (s₁.setTop (mkF m 0 (oL74 p1 p2 a3) [])) _
    refine XS.iloadN X0.here hx rfl (hb hby d29_0) rfl ?_
    refine XS.ifNo X0.here hx rfl (hb hby d29_1) rfl ((if0 _ _).trans (flt (by decide : ¬ ((0 : Int32) < (0 : Int32)))).1) ?_
    refine XS.iloadN X0.here hx rfl (hb hby d29_4) rfl ?_
    refine XS.iloadN X0.here hx rfl (hb hby d29_5) rfl ?_
    refine XS.icmpNo X0.here hx rfl (hb hby d29_6) rfl (flt hc6).2.2.1 ?_
    show Steps p.tables e below (s₁.setTop (mkF m 9 (oL74 p1 p2 a3) [])) _
    refine XS.iloadN X0.here hx rfl (hb hby d29_9) rfl ?_
    refine XS.iloadN X0.here hx rfl (hb hby d29_10) rfl ?_
    refine XS.icmpYes X0.here hx rfl (pc0 := 11) (pc' := 22) rfl (hb hby d29_11) rfl (flt hc11).2.2.2 (by decide) (by decide) ?_
    refine XS.iloadN X0.here hx rfl (hb hby d29_22) rfl ?_
    exact retI X0 hx Bd.returns (hb hby d29_23) hr
  · show own_QR (.int (0 : Int32)) h0 n0 _ s₁.heap _
    rw [e0]
    exact ⟨rfl, N0, rfl⟩
theorem ef_29_null4 (m : MethodId) (x0 : Int32) (x1 : Int32) (x2 : Int32) : entryFrame m #[(.int x0), (.int x1), (.int x2), .null] 4 = mkF m 0 #[.val (.int x0), .val (.int x1), .val (.int x2), .val .null] [] := by first | (simp [entryFrame, mkF, argsToLocals, Value.category]; done) | rfl
abbrev oL75 (p1 p2 : Int32) : Array Slot := #[.val (.int (0 : Int32)), .val (.int p1), .val (.int p2), .val .null]
set_option maxRecDepth 65536 in
set_option maxHeartbeats 40000000 in
theorem rm29_n (l : Launch) (Z : State) (a0 : Array Value) (hw : ∀ d ∈ tables_1, d.before a0 Z = true) (ws : List Jvm.Cond) (_q1 : Int32) (p1 : Int32) (p2 : Int32) (h0 : Heap) (n0 : Nat) (Z0 : n0 ≤ h0.size) (hc6 : ¬ (p1 < (0 : Int32))) (hc11 : ¬ (p2 < p1)) :
    MetFree l (⟨"jdk/internal/util/Preconditions", "checkFromToIndex", "(IIILjava/util/function/BiFunction;)I"⟩ : MethodName) (head1 (Jvm.Cond.code (⟨"jdk/internal/util/Preconditions", "checkFromToIndex", "(IIILjava/util/function/BiFunction;)I"⟩ : MethodName) jdk_41_method_12_code 4 (some .int) :: ws) ({ frames := 0, cells := 0, slots := 0, locals := 0 } : Room)) (fun a U => a = #[(.int (0 : Int32)), (.int p1), (.int p2), .null] ∧ Z.Warmed39 U.vm ∧ U.heap = h0) (fun _ _ _ _ _ => True) (fun _ U o U' => ∃ v L, o = .returned v ∧ own_QR (.int (0 : Int32)) h0 n0 v U'.heap L ∧ FrameEnd U o U' L ({ frames := 0, cells := 0, slots := 0, locals := 0 } : Room).cells ({ frames := 0, cells := 0, slots := 0, locals := 0 } : Room).slots) := by
  refine MetFree.of_bodySF (plainFor_of_name pn_29) hisR ?_
  intro p e s m args below meth c s₁ Bd hml0 hP hK
  obtain ⟨rfl, hZ, hh⟩ := hP
  have hx := Bd.exec
  have hby := Bd.bytes
  have hml : c.maxLocals = 4 := hml0
  have hown : s.vm.findClass "jdk/internal/util/Preconditions" = some m.cls := findClass_of_methodNamed Bd.named
  have hnm := (name_of_methodNamed Bd.named Bd.method).1
  have X0 : Stand p l e ({ frames := 0, cells := 0, slots := 0, locals := 0 } : Room) s m #[(.int (0 : Int32)), (.int p1), (.int p2), .null] below meth c s₁ [] 0 0 := Stand.of_body Bd
  have e0 : s₁.heap = h0 := by rw [← hh, Bd.state]; rfl
  have N0 := Fr.nil n0
  have pre0 : ∀ t, Steps p.tables e below (s₁.setTop (mkF m 0 (oL75 p1 p2) [])) t → Steps p.tables e below (s₁.setTop (entryFrame m #[(.int (0 : Int32)), (.int p1), (.int p2), .null] 4)) t := fun t k => castTop (ef_29_null4 m (0 : Int32) p1 p2) k

  obtain ⟨fs, hr, hrun, hended, hW, hsame⟩ := X0.leave (v := some (.int (0 : Int32))) (fun h => by rw [Bd.returns] at h; cases h)
  refine ⟨_, _, pre0 _ ?_, hrun, hended, _, _, rfl, ?_, ⟨_, rfl⟩, hW, hsame.mono (by decide) (by decide)⟩
  · show Steps p.tables e below (s₁.setTop (mkF m 0 (oL75 p1 p2) [])) _
    refine XS.iloadN X0.here hx rfl (hb hby d29_0) rfl ?_
    refine XS.ifNo X0.here hx rfl (hb hby d29_1) rfl ((if0 _ _).trans (flt (by decide : ¬ ((0 : Int32) < (0 : Int32)))).1) ?_
    refine XS.iloadN X0.here hx rfl (hb hby d29_4) rfl ?_
    refine XS.iloadN X0.here hx rfl (hb hby d29_5) rfl ?_
    refine XS.icmpNo X0.here hx rfl (hb hby d29_6) rfl (flt hc6).2.2.1 ?_
    show Steps p.tables e below (s₁.setTop (mkF m 9 (oL75 p1 p2) [])) _
    refine XS.iloadN X0.here hx rfl (hb hby d29_9) rfl ?_
    refine XS.iloadN X0.here hx rfl (hb hby d29_10) rfl ?_
    refine XS.icmpYes X0.here hx rfl (pc0 := 11) (pc' := 22) rfl (hb hby d29_11) rfl (flt hc11).2.2.2 (by decide) (by decide) ?_
    refine XS.iloadN X0.here hx rfl (hb hby d29_22) rfl ?_
    exact retI X0 hx Bd.returns (hb hby d29_23) hr
  · show own_QR (.int (0 : Int32)) h0 n0 _ s₁.heap _
    rw [e0]
    exact ⟨rfl, N0, rfl⟩
theorem d28_0 : decode jdk_42_method_158_code 0 = .ok (.iload_n 0, 1) := by decide +kernel
theorem d28_1 : decode jdk_42_method_158_code 1 = .ok (.iload_n 1, 1) := by decide +kernel
theorem d28_2 : decode jdk_42_method_158_code 2 = .ok (.iload_n 2, 1) := by decide +kernel
theorem d28_3 : decode jdk_42_method_158_code 3 = .ok (.getstatic 1053, 3) := by decide +kernel
theorem d28_6 : decode jdk_42_method_158_code 6 = .ok (.invokestatic 1062, 3) := by decide +kernel
theorem d28_9 : decode jdk_42_method_158_code 9 = .ok (.pop, 1) := by decide +kernel
theorem d28_10 : decode jdk_42_method_158_code 10 = .ok (.return_, 1) := by decide +kernel
theorem pn_28 : plainName "java/lang/String" = true := by first | (simp [plainName, overriddenIn]; done) | decide +kernel
theorem pd_28_21 : parseMethodDescriptor "(IIILjava/util/function/BiFunction;)I" = some ⟨[.int, .int, .int, (.object "java/util/function/BiFunction")], some .int⟩ := by decide +kernel
theorem ef_28 (m : MethodId) (x0 : Int32) (x1 : Int32) (x2 : Int32) : entryFrame m #[(.int x0), (.int x1), (.int x2)] 3 = mkF m 0 #[.val (.int x0), .val (.int x1), .val (.int x2)] [] := by first | (simp [entryFrame, mkF, argsToLocals, Value.category]; done) | rfl
abbrev oL76 (p1 p2 : Int32) : Array Slot := #[.val (.int (0 : Int32)), .val (.int p1), .val (.int p2)]
set_option maxRecDepth 65536 in
set_option maxHeartbeats 40000000 in
theorem rm28_r (l : Launch) (Z : State) (a0 : Array Value) (hw : ∀ d ∈ tables_1, d.before a0 Z = true) (ws : List Jvm.Cond) (_q1 : Int32) (p1 : Int32) (p2 : Int32) (fa : Addr) (h0 : Heap) (n0 : Nat) (Z0 : n0 ≤ h0.size) (S_SIOOBE_FORMATTER : Sta Z Z.heap "jdk/internal/util/Preconditions" "SIOOBE_FORMATTER" "Ljava/util/function/BiFunction;" (.ref fa)) (X00 : Old Z n0 h0) (hc6 : ¬ (p1 < (0 : Int32))) (hc11 : ¬ (p2 < p1)) :
    MetFree l (⟨"java/lang/String", "checkBoundsBeginEnd", "(III)V"⟩ : MethodName) (head1 (Jvm.Cond.code (⟨"java/lang/String", "checkBoundsBeginEnd", "(III)V"⟩ : MethodName) jdk_42_method_158_code 3 none :: ws) ({ frames := 1, cells := 0, slots := 0, locals := 15 } : Room)) (fun a U => a = #[(.int (0 : Int32)), (.int p1), (.int p2)] ∧ Z.Warmed39 U.vm ∧ U.heap = h0) (fun _ _ _ _ _ => True) (fun _ U o U' => ∃ v L, o = .returned v ∧ own_Q0 h0 n0 v U'.heap L ∧ FrameEnd U o U' L ({ frames := 1, cells := 0, slots := 0, locals := 15 } : Room).cells ({ frames := 1, cells := 0, slots := 0, locals := 15 } : Room).slots) := by
  refine MetFree.of_bodySF (plainFor_of_name pn_28) hisR ?_
  intro p e s m args below meth c s₁ Bd hml0 hP hK
  obtain ⟨rfl, hZ, hh⟩ := hP
  have hx := Bd.exec
  have hby := Bd.bytes
  have hml : c.maxLocals = 3 := hml0
  have hown : s.vm.findClass "java/lang/String" = some m.cls := findClass_of_methodNamed Bd.named
  have hnm := (name_of_methodNamed Bd.named Bd.method).1
  have X0 : Stand p l e ({ frames := 1, cells := 0, slots := 0, locals := 15 } : Room) s m #[(.int (0 : Int32)), (.int p1), (.int p2)] below meth c s₁ [] 0 0 := Stand.of_body Bd
  have e0 : s₁.heap = h0 := by rw [← hh, Bd.state]; rfl
  have N0 := Fr.nil n0
  have pre0 : ∀ t, Steps p.tables e below (s₁.setTop (mkF m 0 (oL76 p1 p2) [])) t → Steps p.tables e below (s₁.setTop (entryFrame m #[(.int (0 : Int32)), (.int p1), (.int p2)] 3)) t := fun t k => castTop (ef_28 m (0 : Int32) p1 p2) k
  obtain ⟨T3, X3, e3, st3⟩ := getS2 X0 hx hZ hown (host := "") (Or.inl (hw _ (wI 121 rfl))) Via.refl e0 (S_SIOOBE_FORMATTER.ext X00.2) (g := (mkF m 3 (oL76 p1 p2) [(.int p2), (.int p1), (.int (0 : Int32))])) rfl (hb hby d28_3)
  obtain ⟨_, _, ⟨T4, L4, k4, n4⟩, -, X4, ⟨Lc4, hQ4, l4, y4, z4⟩, st4⟩ := Jvm.LawKit.callS X3 hx (y := (⟨"jdk/internal/util/Preconditions", "checkFromToIndex", "(IIILjava/util/function/BiFunction;)I"⟩ : MethodName)) hown (mvT hZ (hw _ (wI 123 rfl))) (mvT hZ (hw _ (wI 124 rfl))) (mvT hZ (hw _ (wI 122 rfl))) (mvT hZ (hw _ (wI 125 rfl))) (by decide) (backOf (W := 0) (rm29_r l Z a0 hw [] (0 : Int32) p1 p2 fa  h0 n0 Z0 hc6 hc11) hZ (hw _ (wI 125 rfl)) (hw _ (wI 122 rfl)) (by decide) (by decide)) (g := (mkF m 6 (oL76 p1 p2) [(.ref fa), (.int p2), (.int p1), (.int (0 : Int32))])) rfl (by rw [hml]; rfl) (argsL := [(.int (0 : Int32)), (.int p1), (.int p2), (.ref fa)]) (rest := []) (lenOf pd_28_21 rfl) rfl (by show 2 * 0 + _ ≤ _; exact Nat.le_of_eq rfl) (hb hby d28_6) (fun _ _ => ⟨rfl, e3, (by decide : 0 + 0 ≤ _), (by decide : 0 + 0 ≤ _)⟩)
  dsimp only [Pt.U, Pt.locs, Pt.cells, Pt.slots] at X4 l4 y4 z4 st4 hQ4
  subst l4 y4 z4
  obtain ⟨rfl, N4q, eq4⟩ := hQ4
  have N4 := Fr.app N0 N4q
  have Kq4 : Keep h0 T4.heap [] := (own_keq eq4)
  have K4 : Keep h0 T4.heap [] := (Keep.refl h0 []).trans Kq4 all0
  obtain ⟨fs, hr, hrun, hended, hW, hsame⟩ := X4.leave (v := none) (fun _ => rfl)
  refine ⟨_, _, pre0 _ ?_, hrun, hended, _, _, rfl, ?_, ⟨_, rfl⟩, hW, hsame.mono (by decide) (by decide)⟩
  · show Steps p.tables e below (s₁.setTop (mkF m 0 (oL76 p1 p2) [])) _
    refine XS.iloadN X0.here hx rfl (hb hby d28_0) rfl ?_
    refine XS.iloadN X0.here hx rfl (hb hby d28_1) rfl ?_
    refine XS.iloadN X0.here hx rfl (hb hby d28_2) rfl ?_
    refine st3 _ ?_
    refine st4 _ ?_
    show Steps p.tables e below (T4.setTop (mkF m 9 (oL76 p1 p2) [(.int (0 : Int32))])) _
    refine XS.pop X4.here hx rfl (hb hby d28_9) rfl rfl ?_
    exact X4.returnOut hx Bd.returns (hb hby d28_10) hr
  · show own_Q0 h0 n0 _ T4.heap _
    exact ⟨rfl, N4, eq4⟩
set_option maxRecDepth 65536 in
set_option maxHeartbeats 40000000 in
theorem rm28_n (l : Launch) (Z : State) (a0 : Array Value) (hw : ∀ d ∈ tables_1, d.before a0 Z = true) (ws : List Jvm.Cond) (_q1 : Int32) (p1 : Int32) (p2 : Int32) (h0 : Heap) (n0 : Nat) (Z0 : n0 ≤ h0.size) (S_SIOOBE_FORMATTER : Sta Z Z.heap "jdk/internal/util/Preconditions" "SIOOBE_FORMATTER" "Ljava/util/function/BiFunction;" .null) (X00 : Old Z n0 h0) (hc6 : ¬ (p1 < (0 : Int32))) (hc11 : ¬ (p2 < p1)) :
    MetFree l (⟨"java/lang/String", "checkBoundsBeginEnd", "(III)V"⟩ : MethodName) (head1 (Jvm.Cond.code (⟨"java/lang/String", "checkBoundsBeginEnd", "(III)V"⟩ : MethodName) jdk_42_method_158_code 3 none :: ws) ({ frames := 1, cells := 0, slots := 0, locals := 15 } : Room)) (fun a U => a = #[(.int (0 : Int32)), (.int p1), (.int p2)] ∧ Z.Warmed39 U.vm ∧ U.heap = h0) (fun _ _ _ _ _ => True) (fun _ U o U' => ∃ v L, o = .returned v ∧ own_Q0 h0 n0 v U'.heap L ∧ FrameEnd U o U' L ({ frames := 1, cells := 0, slots := 0, locals := 15 } : Room).cells ({ frames := 1, cells := 0, slots := 0, locals := 15 } : Room).slots) := by
  refine MetFree.of_bodySF (plainFor_of_name pn_28) hisR ?_
  intro p e s m args below meth c s₁ Bd hml0 hP hK
  obtain ⟨rfl, hZ, hh⟩ := hP
  have hx := Bd.exec
  have hby := Bd.bytes
  have hml : c.maxLocals = 3 := hml0
  have hown : s.vm.findClass "java/lang/String" = some m.cls := findClass_of_methodNamed Bd.named
  have hnm := (name_of_methodNamed Bd.named Bd.method).1
  have X0 : Stand p l e ({ frames := 1, cells := 0, slots := 0, locals := 15 } : Room) s m #[(.int (0 : Int32)), (.int p1), (.int p2)] below meth c s₁ [] 0 0 := Stand.of_body Bd
  have e0 : s₁.heap = h0 := by rw [← hh, Bd.state]; rfl
  have N0 := Fr.nil n0
  have pre0 : ∀ t, Steps p.tables e below (s₁.setTop (mkF m 0 (oL76 p1 p2) [])) t → Steps p.tables e below (s₁.setTop (entryFrame m #[(.int (0 : Int32)), (.int p1), (.int p2)] 3)) t := fun t k => castTop (ef_28 m (0 : Int32) p1 p2) k
  obtain ⟨T3, X3, e3, st3⟩ := getS2 X0 hx hZ hown (host := "") (Or.inl (hw _ (wI 121 rfl))) Via.refl e0 (S_SIOOBE_FORMATTER.ext X00.2) (g := (mkF m 3 (oL76 p1 p2) [(.int p2), (.int p1), (.int (0 : Int32))])) rfl (hb hby d28_3)
  obtain ⟨_, _, ⟨T4, L4, k4, n4⟩, -, X4, ⟨Lc4, hQ4, l4, y4, z4⟩, st4⟩ := Jvm.LawKit.callS X3 hx (y := (⟨"jdk/internal/util/Preconditions", "checkFromToIndex", "(IIILjava/util/function/BiFunction;)I"⟩ : MethodName)) hown (mvT hZ (hw _ (wI 123 rfl))) (mvT hZ (hw _ (wI 124 rfl))) (mvT hZ (hw _ (wI 122 rfl))) (mvT hZ (hw _ (wI 125 rfl))) (by decide) (backOf (W := 0) (rm29_n l Z a0 hw [] (0 : Int32) p1 p2  h0 n0 Z0 hc6 hc11) hZ (hw _ (wI 125 rfl)) (hw _ (wI 122 rfl)) (by decide) (by decide)) (g := (mkF m 6 (oL76 p1 p2) [.null, (.int p2), (.int p1), (.int (0 : Int32))])) rfl (by rw [hml]; rfl) (argsL := [(.int (0 : Int32)), (.int p1), (.int p2), .null]) (rest := []) (lenOf pd_28_21 rfl) rfl (by show 2 * 0 + _ ≤ _; exact Nat.le_of_eq rfl) (hb hby d28_6) (fun _ _ => ⟨rfl, e3, (by decide : 0 + 0 ≤ _), (by decide : 0 + 0 ≤ _)⟩)
  dsimp only [Pt.U, Pt.locs, Pt.cells, Pt.slots] at X4 l4 y4 z4 st4 hQ4
  subst l4 y4 z4
  obtain ⟨rfl, N4q, eq4⟩ := hQ4
  have N4 := Fr.app N0 N4q
  have Kq4 : Keep h0 T4.heap [] := (own_keq eq4)
  have K4 : Keep h0 T4.heap [] := (Keep.refl h0 []).trans Kq4 all0
  obtain ⟨fs, hr, hrun, hended, hW, hsame⟩ := X4.leave (v := none) (fun _ => rfl)
  refine ⟨_, _, pre0 _ ?_, hrun, hended, _, _, rfl, ?_, ⟨_, rfl⟩, hW, hsame.mono (by decide) (by decide)⟩
  · show Steps p.tables e below (s₁.setTop (mkF m 0 (oL76 p1 p2) [])) _
    refine XS.iloadN X0.here hx rfl (hb hby d28_0) rfl ?_
    refine XS.iloadN X0.here hx rfl (hb hby d28_1) rfl ?_
    refine XS.iloadN X0.here hx rfl (hb hby d28_2) rfl ?_
    refine st3 _ ?_
    refine st4 _ ?_
    show Steps p.tables e below (T4.setTop (mkF m 9 (oL76 p1 p2) [(.int (0 : Int32))])) _
    refine XS.pop X4.here hx rfl (hb hby d28_9) rfl rfl ?_
    exact X4.returnOut hx Bd.returns (hb hby d28_10) hr
  · show own_Q0 h0 n0 _ T4.heap _
    exact ⟨rfl, N4, eq4⟩
theorem rm28 (l : Launch) (Z : State) (a0 : Array Value) (hw : ∀ d ∈ tables_1, d.before a0 Z = true) (ws : List Jvm.Cond) (_q1 : Int32) (p1 : Int32) (p2 : Int32) (fm : Value) (h0 : Heap) (n0 : Nat) (Z0 : n0 ≤ h0.size) (S_SIOOBE_FORMATTER : Sta Z Z.heap "jdk/internal/util/Preconditions" "SIOOBE_FORMATTER" "Ljava/util/function/BiFunction;" fm) (X00 : Old Z n0 h0) (rf : fm.isRef = true) (hc6 : ¬ (p1 < (0 : Int32))) (hc11 : ¬ (p2 < p1)) :
    MetFree l (⟨"java/lang/String", "checkBoundsBeginEnd", "(III)V"⟩ : MethodName) (head1 (Jvm.Cond.code (⟨"java/lang/String", "checkBoundsBeginEnd", "(III)V"⟩ : MethodName) jdk_42_method_158_code 3 none :: ws) ({ frames := 1, cells := 0, slots := 0, locals := 15 } : Room)) (fun a U => a = #[(.int (0 : Int32)), (.int p1), (.int p2)] ∧ Z.Warmed39 U.vm ∧ U.heap = h0) (fun _ _ _ _ _ => True) (fun _ U o U' => ∃ v L, o = .returned v ∧ own_Q0 h0 n0 v U'.heap L ∧ FrameEnd U o U' L ({ frames := 1, cells := 0, slots := 0, locals := 15 } : Room).cells ({ frames := 1, cells := 0, slots := 0, locals := 15 } : Room).slots) := by
  cases fm with
  | null => exact rm28_n l Z a0 hw ws _q1 p1 p2 h0 n0 Z0 S_SIOOBE_FORMATTER X00 hc6 hc11
  | ref fa => exact rm28_r l Z a0 hw ws _q1 p1 p2 fa h0 n0 Z0 S_SIOOBE_FORMATTER X00 hc6 hc11
  | _ => exact absurd rf (by simp [Value.isRef])
theorem own_nn {cs : List Int32} (hl : cs.length = 1 ∨ cs.length = 2 ∨ cs.length = 3) : ¬ Int32.ofNat cs.length < (0 : Int32) := by
  rcases hl with hl | hl | hl <;> rw [hl] <;> decide
theorem d26_0 : decode jdk_52_method_93_code 0 = .ok (.iload_n 0, 1) := by decide +kernel
theorem d26_1 : decode jdk_52_method_93_code 1 = .ok (.iload_n 1, 1) := by decide +kernel
theorem d26_2 : decode jdk_52_method_93_code 2 = .ok (.aload_n 2, 1) := by decide +kernel
theorem d26_3 : decode jdk_52_method_93_code 3 = .ok (.invokestatic 48, 3) := by decide +kernel
theorem d26_6 : decode jdk_52_method_93_code 6 = .ok (.invokestatic 241, 3) := by decide +kernel
theorem d26_9 : decode jdk_52_method_93_code 9 = .ok (.return_, 1) := by decide +kernel
theorem pn_26 : plainName "java/lang/StringUTF16" = true := by first | (simp [plainName, overriddenIn]; done) | decide +kernel
theorem pd_26_19 : parseMethodDescriptor "([B)I" = some ⟨[(.array .byte)], some .int⟩ := by decide +kernel
theorem pd_26_20 : parseMethodDescriptor "(III)V" = some ⟨[.int, .int, .int], none⟩ := by decide +kernel
theorem ef_26 (m : MethodId) (x0 : Int32) (x1 : Int32) (x2 : Addr) : entryFrame m #[(.int x0), (.int x1), (.ref x2)] 3 = mkF m 0 #[.val (.int x0), .val (.int x1), .val (.ref x2)] [] := by first | (simp [entryFrame, mkF, argsToLocals, Value.category]; done) | rfl
abbrev oL77 (a1 : Addr) (cs : List Int32) : Array Slot := #[.val (.int (0 : Int32)), .val (.int (Int32.ofNat cs.length)), .val (.ref a1)]
set_option maxRecDepth 65536 in
set_option maxHeartbeats 40000000 in
theorem rm26 (l : Launch) (Z : State) (a0 : Array Value) (hw : ∀ d ∈ tables_1, d.before a0 Z = true) (ws : List Jvm.Cond) (_q1 : Int32) (_q2 : Int32) (a1 : Addr) (fm : Value) (cs : List Int32) (k_a1 : ClassId) (h0 : Heap) (n0 : Nat) (Z0 : n0 ≤ h0.size) (V_a1 : Arv Z h0 a1 k_a1 .byte (Int32.ofNat (2 * cs.length)) (own_b16 cs) (.int (0 : Int32))) (S_SIOOBE_FORMATTER : Sta Z Z.heap "jdk/internal/util/Preconditions" "SIOOBE_FORMATTER" "Ljava/util/function/BiFunction;" fm) (X00 : Old Z n0 h0) (rf : fm.isRef = true) (hl : cs.length = 1 ∨ cs.length = 2 ∨ cs.length = 3) :
    MetFree l (⟨"java/lang/StringUTF16", "checkBoundsBeginEnd", "(II[B)V"⟩ : MethodName) (head1 (Jvm.Cond.code (⟨"java/lang/StringUTF16", "checkBoundsBeginEnd", "(II[B)V"⟩ : MethodName) jdk_52_method_93_code 3 none :: ws) ({ frames := 2, cells := 0, slots := 0, locals := 29 } : Room)) (fun a U => a = #[(.int (0 : Int32)), (.int (Int32.ofNat cs.length)), (.ref a1)] ∧ Z.Warmed39 U.vm ∧ U.heap = h0) (fun _ _ _ _ _ => True) (fun _ U o U' => ∃ v L, o = .returned v ∧ own_Q0 h0 n0 v U'.heap L ∧ FrameEnd U o U' L ({ frames := 2, cells := 0, slots := 0, locals := 29 } : Room).cells ({ frames := 2, cells := 0, slots := 0, locals := 29 } : Room).slots) := by
  refine MetFree.of_bodySF (plainFor_of_name pn_26) hisR ?_
  intro p e s m args below meth c s₁ Bd hml0 hP hK
  obtain ⟨rfl, hZ, hh⟩ := hP
  have hx := Bd.exec
  have hby := Bd.bytes
  have hml : c.maxLocals = 3 := hml0
  have hown : s.vm.findClass "java/lang/StringUTF16" = some m.cls := findClass_of_methodNamed Bd.named
  have hnm := (name_of_methodNamed Bd.named Bd.method).1
  have X0 : Stand p l e ({ frames := 2, cells := 0, slots := 0, locals := 29 } : Room) s m #[(.int (0 : Int32)), (.int (Int32.ofNat cs.length)), (.ref a1)] below meth c s₁ [] 0 0 := Stand.of_body Bd
  have e0 : s₁.heap = h0 := by rw [← hh, Bd.state]; rfl
  have N0 := Fr.nil n0
  have pre0 : ∀ t, Steps p.tables e below (s₁.setTop (mkF m 0 (oL77 a1 cs) [])) t → Steps p.tables e below (s₁.setTop (entryFrame m #[(.int (0 : Int32)), (.int (Int32.ofNat cs.length)), (.ref a1)] 3)) t := fun t k => castTop (ef_26 m (0 : Int32) (Int32.ofNat cs.length) a1) k
  obtain ⟨_, _, ⟨T2, L2, k2, n2⟩, -, X2, ⟨Lc2, hQ2, l2, y2, z2⟩, st2⟩ := Jvm.LawKit.callS X0 hx (y := (⟨"java/lang/StringUTF16", "length", "([B)I"⟩ : MethodName)) hown (mvT hZ (hw _ (wI 115 rfl))) (mvT hZ (hw _ (wI 116 rfl))) (mvT hZ (hw _ (wI 69 rfl))) (mvT hZ (hw _ (wI 117 rfl))) (by decide) (backOf (W := 2) (rm27 l Z a0 hw [] a1 (Int32.ofNat cs.length) k_a1 (Int32.ofNat (2 * cs.length)) (own_b16 cs) (.int (0 : Int32)) h0 n0 Z0 V_a1 (own_shr1 hl)) hZ (hw _ (wI 117 rfl)) (hw _ (wI 69 rfl)) (by decide) (by decide)) (g := (mkF m 3 (oL77 a1 cs) [(.ref a1), (.int (Int32.ofNat cs.length)), (.int (0 : Int32))])) rfl (by rw [hml]; rfl) (argsL := [(.ref a1)]) (rest := [(.int (Int32.ofNat cs.length)), (.int (0 : Int32))]) (lenOf pd_26_19 rfl) rfl (by show 2 * 0 + _ ≤ _; exact Nat.le_of_eq rfl) (hb hby d26_3) (fun _ _ => ⟨rfl, e0, (by decide : 0 + 0 ≤ _), (by decide : 0 + 0 ≤ _)⟩)
  dsimp only [Pt.U, Pt.locs, Pt.cells, Pt.slots] at X2 l2 y2 z2 st2 hQ2
  subst l2 y2 z2
  obtain ⟨rfl, N2q, eq2⟩ := hQ2
  have N2 := Fr.app N0 N2q
  have Kq2 : Keep h0 T2.heap [] := (own_keq eq2)
  have K2 : Keep h0 T2.heap [] := (Keep.refl h0 []).trans Kq2 all0
  obtain ⟨_, _, ⟨T3, L3, k3, n3⟩, -, X3, ⟨Lc3, hQ3, l3, y3, z3⟩, st3⟩ := Jvm.LawKit.callS X2 hx (y := (⟨"java/lang/String", "checkBoundsBeginEnd", "(III)V"⟩ : MethodName)) hown (mvT hZ (hw _ (wI 118 rfl))) (mvT hZ (hw _ (wI 119 rfl))) (mvT hZ (hw _ (wI 3 rfl))) (mvT hZ (hw _ (wI 120 rfl))) (by decide) (backOf (W := 0) (rm28 l Z a0 hw [] (0 : Int32) (Int32.ofNat cs.length) (Int32.ofNat cs.length) fm T2.heap n0 (Nat.le_trans Z0 Kq2.1) S_SIOOBE_FORMATTER (X00.keep K2 all0) rf (own_nn hl) (own_irr _)) hZ (hw _ (wI 120 rfl)) (hw _ (wI 3 rfl)) (by decide) (by decide)) (g := (mkF m 6 (oL77 a1 cs) [(.int (Int32.ofNat cs.length)), (.int (Int32.ofNat cs.length)), (.int (0 : Int32))])) rfl (by rw [hml]; rfl) (argsL := [(.int (0 : Int32)), (.int (Int32.ofNat cs.length)), (.int (Int32.ofNat cs.length))]) (rest := []) (lenOf pd_26_20 rfl) rfl (by show 2 * 0 + _ ≤ _; exact Nat.le_of_eq rfl) (hb hby d26_6) (fun _ _ => ⟨rfl, rfl, (by decide : 0 + 0 ≤ _), (by decide : 0 + 0 ≤ _)⟩)
  dsimp only [Pt.U, Pt.locs, Pt.cells, Pt.slots] at X3 l3 y3 z3 st3 hQ3
  subst l3 y3 z3
  obtain ⟨rfl, N3q, eq3⟩ := hQ3
  have N3 := Fr.app N2 N3q
  have Kq3 : Keep T2.heap T3.heap [] := (own_keq eq3)
  have K3 : Keep h0 T3.heap [] := K2.trans Kq3 all0
  obtain ⟨fs, hr, hrun, hended, hW, hsame⟩ := X3.leave (v := none) (fun _ => rfl)
  refine ⟨_, _, pre0 _ ?_, hrun, hended, _, _, rfl, ?_, ⟨_, rfl⟩, hW, hsame.mono (by decide) (by decide)⟩
  · show Steps p.tables e below (s₁.setTop (mkF m 0 (oL77 a1 cs) [])) _
    refine XS.iloadN X0.here hx rfl (hb hby d26_0) rfl ?_
    refine XS.iloadN X0.here hx rfl (hb hby d26_1) rfl ?_
    refine XS.aloadN X0.here hx rfl (hb hby d26_2) rfl rfl ?_
    refine st2 _ ?_
    refine st3 _ ?_
    show Steps p.tables e below (T3.setTop (mkF m 9 (oL77 a1 cs) [])) _
    exact X3.returnOut hx Bd.returns (hb hby d26_9) hr
  · show own_Q0 h0 n0 _ T3.heap _
    exact ⟨rfl, N3, (eq3.trans eq2)⟩
theorem d30_0 : decode jdk_52_method_48_code 0 = .ok (.iload_n 2, 1) := by decide +kernel
theorem d30_1 : decode jdk_52_method_48_code 1 = .ok (.istore 4, 2) := by decide +kernel
theorem d30_3 : decode jdk_52_method_48_code 3 = .ok (.iload 4, 2) := by decide +kernel
theorem d30_5 : decode jdk_52_method_48_code 5 = .ok (.iload_n 3, 1) := by decide +kernel
theorem d30_6 : decode jdk_52_method_48_code 6 = .ok (.if_icmp .ge 22, 3) := by decide +kernel
theorem d30_9 : decode jdk_52_method_48_code 9 = .ok (.aload_n 0, 1) := by decide +kernel
theorem d30_10 : decode jdk_52_method_48_code 10 = .ok (.iload 4, 2) := by decide +kernel
theorem d30_12 : decode jdk_52_method_48_code 12 = .ok (.invokestatic 71, 3) := by decide +kernel
theorem d30_15 : decode jdk_52_method_48_code 15 = .ok (.iload_n 1, 1) := by decide +kernel
theorem d30_16 : decode jdk_52_method_48_code 16 = .ok (.if_icmp .ne 6, 3) := by decide +kernel
theorem d30_19 : decode jdk_52_method_48_code 19 = .ok (.iload 4, 2) := by decide +kernel
theorem d30_21 : decode jdk_52_method_48_code 21 = .ok (.ireturn, 1) := by decide +kernel
theorem pn_30 : plainName "java/lang/StringUTF16" = true := by first | (simp [plainName, overriddenIn]; done) | decide +kernel
theorem pd_30_17 : parseMethodDescriptor "([BI)C" = some ⟨[(.array .byte), .int], some .char⟩ := by decide +kernel
theorem ef_30 (m : MethodId) (x0 : Addr) (x1 : Int32) (x2 : Int32) (x3 : Int32) : entryFrame m #[(.ref x0), (.int x1), (.int x2), (.int x3)] 5 = mkF m 0 #[.val (.ref x0), .val (.int x1), .val (.int x2), .val (.int x3), .unset] [] := by first | (simp [entryFrame, mkF, argsToLocals, Value.category]; done) | rfl
abbrev oL78 (p2 : Int32) (a1 : Addr) : Array Slot := #[.val (.ref a1), .val (.int p2), .val (.int (0 : Int32)), .val (.int (1 : Int32)), .unset]
abbrev oL79 (p2 : Int32) (a1 : Addr) : Array Slot := #[.val (.ref a1), .val (.int p2), .val (.int (0 : Int32)), .val (.int (1 : Int32)), .val (.int (0 : Int32))]
set_option maxRecDepth 65536 in
set_option maxHeartbeats 40000000 in
theorem rm30_1_0 (l : Launch) (Z : State) (a0 : Array Value) (hw : ∀ d ∈ tables_1, d.before a0 Z = true) (ws : List Jvm.Cond) (a1 : Addr) (p2 : Int32) (_q3 : Int32) (_q4 : Int32) (c0 : Int32) (k_a1 : ClassId) (h0 : Heap) (n0 : Nat) (Z0 : n0 ≤ h0.size) (S__assertionsDisabled : Sta Z Z.heap "java/lang/StringUTF16" "$assertionsDisabled" "Z" (.int (1 : Int32))) (X00 : Old Z n0 h0) (S_HI_BYTE_SHIFT : Sta Z Z.heap "java/lang/StringUTF16" "HI_BYTE_SHIFT" "I" (.int (0 : Int32))) (S_LO_BYTE_SHIFT : Sta Z Z.heap "java/lang/StringUTF16" "LO_BYTE_SHIFT" "I" (.int (8 : Int32))) (V_a1 : Arv Z h0 a1 k_a1 .byte (2 : Int32) [(.int (StrChars.lo8 c0)), (.int (StrChars.hi8 c0))] (.int (0 : Int32))) (hcs : ∀ c ∈ [c0], ¬ c < 0 ∧ ¬ (65535 : Int32) < c) (hc16 : c0 = p2) :
    MetFree l (⟨"java/lang/StringUTF16", "indexOfCharUnsafe", "([BIII)I"⟩ : MethodName) (head1 (Jvm.Cond.code (⟨"java/lang/StringUTF16", "indexOfCharUnsafe", "([BIII)I"⟩ : MethodName) jdk_52_method_48_code 5 (some .int) :: ws) ({ frames := 1, cells := 0, slots := 0, locals := 13 } : Room)) (fun a U => a = #[(.ref a1), (.int p2), (.int (0 : Int32)), (.int (1 : Int32))] ∧ Z.Warmed39 U.vm ∧ U.heap = h0) (fun _ _ _ _ _ => True) (fun _ U o U' => ∃ v L, o = .returned v ∧ own_QR (.int (0 : Int32)) h0 n0 v U'.heap L ∧ FrameEnd U o U' L ({ frames := 1, cells := 0, slots := 0, locals := 13 } : Room).cells ({ frames := 1, cells := 0, slots := 0, locals := 13 } : Room).slots) := by
  refine MetFree.of_bodySF (plainFor_of_name pn_30) hisR ?_
  intro p e s m args below meth c s₁ Bd hml0 hP hK
  obtain ⟨rfl, hZ, hh⟩ := hP
  have hx := Bd.exec
  have hby := Bd.bytes
  have hml : c.maxLocals = 5 := hml0
  have hown : s.vm.findClass "java/lang/StringUTF16" = some m.cls := findClass_of_methodNamed Bd.named
  have hnm := (name_of_methodNamed Bd.named Bd.method).1
  have X0 : Stand p l e ({ frames := 1, cells := 0, slots := 0, locals := 13 } : Room) s m #[(.ref a1), (.int p2), (.int (0 : Int32)), (.int (1 : Int32))] below meth c s₁ [] 0 0 := Stand.of_body Bd
  have e0 : s₁.heap = h0 := by rw [← hh, Bd.state]; rfl
  have N0 := Fr.nil n0
  have pre0 : ∀ t, Steps p.tables e below (s₁.setTop (mkF m 0 (oL78 p2 a1) [])) t → Steps p.tables e below (s₁.setTop (entryFrame m #[(.ref a1), (.int p2), (.int (0 : Int32)), (.int (1 : Int32))] 5)) t := fun t k => castTop (ef_30 m a1 p2 (0 : Int32) (1 : Int32)) k
  obtain ⟨_, _, ⟨T3, L3, k3, n3⟩, -, X3, ⟨Lc3, hQ3, l3, y3, z3⟩, st3⟩ := Jvm.LawKit.callS X0 hx (y := (⟨"java/lang/StringUTF16", "getChar", "([BI)C"⟩ : MethodName)) hown (mvT hZ (hw _ (wI 100 rfl))) (mvT hZ (hw _ (wI 101 rfl))) (mvT hZ (hw _ (wI 69 rfl))) (mvT hZ (hw _ (wI 102 rfl))) (by decide) (backOf (W := 0) (rm23 l Z a0 hw [] a1 (0 : Int32) 0 (StrChars.lo8 c0) (StrChars.hi8 c0) c0 k_a1 (2 : Int32) [(.int (StrChars.lo8 c0)), (.int (StrChars.hi8 c0))] (.int (0 : Int32)) h0 n0 Z0 S__assertionsDisabled X00 S_HI_BYTE_SHIFT S_LO_BYTE_SHIFT V_a1 ⟨by decide, by decide⟩ (by decide) rfl ⟨by decide, by decide⟩ (by decide) rfl (own_pair (hcs c0 (by simp)))) hZ (hw _ (wI 102 rfl)) (hw _ (wI 69 rfl)) (by decide) (by decide)) (g := (mkF m 12 (oL79 p2 a1) [(.int (0 : Int32)), (.ref a1)])) rfl (by rw [hml]; rfl) (argsL := [(.ref a1), (.int (0 : Int32))]) (rest := []) (lenOf pd_30_17 rfl) rfl (by show 2 * 0 + _ ≤ _; exact Nat.le_of_eq rfl) (hb hby d30_12) (fun _ _ => ⟨rfl, e0, (by decide : 0 + 0 ≤ _), (by decide : 0 + 0 ≤ _)⟩)
  dsimp only [Pt.U, Pt.locs, Pt.cells, Pt.slots] at X3 l3 y3 z3 st3 hQ3
  subst l3 y3 z3
  obtain ⟨rfl, N3q, eq3⟩ := hQ3
  have N3 := Fr.app N0 N3q
  have Kq3 : Keep h0 T3.heap [] := (own_keq eq3)
  have K3 : Keep h0 T3.heap [] := (Keep.refl h0 []).trans Kq3 all0
  obtain ⟨fs, hr, hrun, hended, hW, hsame⟩ := X3.leave (v := some (.int (0 : Int32))) (fun h => by rw [Bd.returns] at h; cases h)
  refine ⟨_, _, pre0 _ ?_, hrun, hended, _, _, rfl, ?_, ⟨_, rfl⟩, hW, hsame.mono (by decide) (by decide)⟩
  · show Steps p.tables e below (s₁.setTop (mkF m 0 (oL78 p2 a1) [])) _
    refine XS.iloadN X0.here hx rfl (hb hby d30_0) rfl ?_
    refine XS.istore X0.here hx rfl (hb hby d30_1) rfl (l' := (oL79 p2 a1)) rfl ?_
    refine XS.iload X0.here hx rfl (hb hby d30_3) rfl ?_
    refine XS.iloadN X0.here hx rfl (hb hby d30_5) rfl ?_
    refine XS.icmpNo X0.here hx rfl (hb hby d30_6) rfl (tlt (by decide : (0 : Int32) < (1 : Int32))).2.1 ?_
    show Steps p.tables e below (s₁.setTop (mkF m 9 (oL79 p2 a1) [])) _
    refine XS.aloadN X0.here hx rfl (hb hby d30_9) rfl rfl ?_
    refine XS.iload X0.here hx rfl (hb hby d30_10) rfl ?_
    refine st3 _ ?_
    refine XS.iloadN X3.here hx rfl (hb hby d30_15) rfl ?_
    refine XS.icmpNo X3.here hx rfl (hb hby d30_16) rfl (teq hc16).2 ?_
    show Steps p.tables e below (T3.setTop (mkF m 19 (oL79 p2 a1) [])) _
    refine XS.iload X3.here hx rfl (hb hby d30_19) rfl ?_
    exact retI X3 hx Bd.returns (hb hby d30_21) hr
  · show own_QR (.int (0 : Int32)) h0 n0 _ T3.heap _
    exact ⟨congrArg (fun z => some (Value.int z)) (by decide), N3, eq3⟩
theorem d30_22 : decode jdk_52_method_48_code 22 = .ok (.iinc 4 1, 3) := by decide +kernel
theorem d30_25 : decode jdk_52_method_48_code 25 = .ok (.goto (-22), 3) := by decide +kernel
theorem d30_28 : decode jdk_52_method_48_code 28 = .ok (.iconst (-1), 1) := by decide +kernel
theorem d30_29 : decode jdk_52_method_48_code 29 = .ok (.ireturn, 1) := by decide +kernel
abbrev oL80 (p2 : Int32) (a1 : Addr) : Array Slot := #[.val (.ref a1), .val (.int p2), .val (.int (0 : Int32)), .val (.int (1 : Int32)), .val (.int ((0 : Int32) + (1 : Int32)))]
set_option maxRecDepth 65536 in
set_option maxHeartbeats 40000000 in
theorem rm30_1_N (l : Launch) (Z : State) (a0 : Array Value) (hw : ∀ d ∈ tables_1, d.before a0 Z = true) (ws : List Jvm.Cond) (a1 : Addr) (p2 : Int32) (_q3 : Int32) (_q4 : Int32) (c0 : Int32) (k_a1 : ClassId) (h0 : Heap) (n0 : Nat) (Z0 : n0 ≤ h0.size) (S__assertionsDisabled : Sta Z Z.heap "java/lang/StringUTF16" "$assertionsDisabled" "Z" (.int (1 : Int32))) (X00 : Old Z n0 h0) (S_HI_BYTE_SHIFT : Sta Z Z.heap "java/lang/StringUTF16" "HI_BYTE_SHIFT" "I" (.int (0 : Int32))) (S_LO_BYTE_SHIFT : Sta Z Z.heap "java/lang/StringUTF16" "LO_BYTE_SHIFT" "I" (.int (8 : Int32))) (V_a1 : Arv Z h0 a1 k_a1 .byte (2 : Int32) [(.int (StrChars.lo8 c0)), (.int (StrChars.hi8 c0))] (.int (0 : Int32))) (hcs : ∀ c ∈ [c0], ¬ c < 0 ∧ ¬ (65535 : Int32) < c) (hc16 : ¬ (c0 = p2)) :
    MetFree l (⟨"java/lang/StringUTF16", "indexOfCharUnsafe", "([BIII)I"⟩ : MethodName) (head1 (Jvm.Cond.code (⟨"java/lang/StringUTF16", "indexOfCharUnsafe", "([BIII)I"⟩ : MethodName) jdk_52_method_48_code 5 (some .int) :: ws) ({ frames := 1, cells := 0, slots := 0, locals := 13 } : Room)) (fun a U => a = #[(.ref a1), (.int p2), (.int (0 : Int32)), (.int (1 : Int32))] ∧ Z.Warmed39 U.vm ∧ U.heap = h0) (fun _ _ _ _ _ => True) (fun _ U o U' => ∃ v L, o = .returned v ∧ own_QR (.int (-1 : Int32)) h0 n0 v U'.heap L ∧ FrameEnd U o U' L ({ frames := 1, cells := 0, slots := 0, locals := 13 } : Room).cells ({ frames := 1, cells := 0, slots := 0, locals := 13 } : Room).slots) := by
  refine MetFree.of_bodySF (plainFor_of_name pn_30) hisR ?_
  intro p e s m args below meth c s₁ Bd hml0 hP hK
  obtain ⟨rfl, hZ, hh⟩ := hP
  have hx := Bd.exec
  have hby := Bd.bytes
  have hml : c.maxLocals = 5 := hml0
  have hown : s.vm.findClass "java/lang/StringUTF16" = some m.cls := findClass_of_methodNamed Bd.named
  have hnm := (name_of_methodNamed Bd.named Bd.method).1
  have X0 : Stand p l e ({ frames := 1, cells := 0, slots := 0, locals := 13 } : Room) s m #[(.ref a1), (.int p2), (.int (0 : Int32)), (.int (1 : Int32))] below meth c s₁ [] 0 0 := Stand.of_body Bd
  have e0 : s₁.heap = h0 := by rw [← hh, Bd.state]; rfl
  have N0 := Fr.nil n0
  have pre0 : ∀ t, Steps p.tables e below (s₁.setTop (mkF m 0 (oL78 p2 a1) [])) t → Steps p.tables e below (s₁.setTop (entryFrame m #[(.ref a1), (.int p2), (.int (0 : Int32)), (.int (1 : Int32))] 5)) t := fun t k => castTop (ef_30 m a1 p2 (0 : Int32) (1 : Int32)) k
  obtain ⟨_, _, ⟨T3, L3, k3, n3⟩, -, X3, ⟨Lc3, hQ3, l3, y3, z3⟩, st3⟩ := Jvm.LawKit.callS X0 hx (y := (⟨"java/lang/StringUTF16", "getChar", "([BI)C"⟩ : MethodName)) hown (mvT hZ (hw _ (wI 100 rfl))) (mvT hZ (hw _ (wI 101 rfl))) (mvT hZ (hw _ (wI 69 rfl))) (mvT hZ (hw _ (wI 102 rfl))) (by decide) (backOf (W := 0) (rm23 l Z a0 hw [] a1 (0 : Int32) 0 (StrChars.lo8 c0) (StrChars.hi8 c0) c0 k_a1 (2 : Int32) [(.int (StrChars.lo8 c0)), (.int (StrChars.hi8 c0))] (.int (0 : Int32)) h0 n0 Z0 S__assertionsDisabled X00 S_HI_BYTE_SHIFT S_LO_BYTE_SHIFT V_a1 ⟨by decide, by decide⟩ (by decide) rfl ⟨by decide, by decide⟩ (by decide) rfl (own_pair (hcs c0 (by simp)))) hZ (hw _ (wI 102 rfl)) (hw _ (wI 69 rfl)) (by decide) (by decide)) (g := (mkF m 12 (oL79 p2 a1) [(.int (0 : Int32)), (.ref a1)])) rfl (by rw [hml]; rfl) (argsL := [(.ref a1), (.int (0 : Int32))]) (rest := []) (lenOf pd_30_17 rfl) rfl (by show 2 * 0 + _ ≤ _; exact Nat.le_of_eq rfl) (hb hby d30_12) (fun _ _ => ⟨rfl, e0, (by decide : 0 + 0 ≤ _), (by decide : 0 + 0 ≤ _)⟩)
  dsimp only [Pt.U, Pt.locs, Pt.cells, Pt.slots] at X3 l3 y3 z3 st3 hQ3
  subst l3 y3 z3
  obtain ⟨rfl, N3q, eq3⟩ := hQ3
  have N3 := Fr.app N0 N3q
  have Kq3 : Keep h0 T3.heap [] := (own_keq eq3)
  have K3 : Keep h0 T3.heap [] := (Keep.refl h0 []).trans Kq3 all0
  obtain ⟨fs, hr, hrun, hended, hW, hsame⟩ := X3.leave (v := some (.int (-1 : Int32))) (fun h => by rw [Bd.returns] at h; cases h)
  refine ⟨_, _, pre0 _ ?_, hrun, hended, _, _, rfl, ?_, ⟨_, rfl⟩, hW, hsame.mono (by decide) (by decide)⟩
  · show Steps p.tables e below (s₁.setTop (mkF m 0 (oL78 p2 a1) [])) _
    refine XS.iloadN X0.here hx rfl (hb hby d30_0) rfl ?_
    refine XS.istore X0.here hx rfl (hb hby d30_1) rfl (l' := (oL79 p2 a1)) rfl ?_
    refine XS.iload X0.here hx rfl (hb hby d30_3) rfl ?_
    refine XS.iloadN X0.here hx rfl (hb hby d30_5) rfl ?_
    refine XS.icmpNo X0.here hx rfl (hb hby d30_6) rfl (tlt (by decide : (0 : Int32) < (1 : Int32))).2.1 ?_
    show Steps p.tables e below (s₁.setTop (mkF m 9 (oL79 p2 a1) [])) _
    refine XS.aloadN X0.here hx rfl (hb hby d30_9) rfl rfl ?_
    refine XS.iload X0.here hx rfl (hb hby d30_10) rfl ?_
    refine st3 _ ?_
    refine XS.iloadN X3.here hx rfl (hb hby d30_15) rfl ?_
    refine XS.icmpYes X3.here hx rfl (pc0 := 16) (pc' := 22) rfl (hb hby d30_16) rfl (feq hc16).2 (by decide) (by decide) ?_
    show Steps p.tables e below (T3.setTop (mkF m 22 (oL79 p2 a1) [])) _
    refine XS.iinc X3.here hx rfl (hb hby d30_22) rfl (l' := (oL80 p2 a1)) rfl ?_
    refine XS.goto X3.here hx rfl (pc0 := 25) (pc' := 3) rfl (hb hby d30_25) (by decide) (by decide) ?_
    refine XS.iload X3.here hx rfl (hb hby d30_3) rfl ?_
    refine XS.iloadN X3.here hx rfl (hb hby d30_5) rfl ?_
    refine XS.icmpYes X3.here hx rfl (pc0 := 6) (pc' := 28) rfl (hb hby d30_6) rfl (flt (by decide : ¬ (((0 : Int32) + (1 : Int32)) < (1 : Int32)))).2.1 (by decide) (by decide) ?_
    show Steps p.tables e below (T3.setTop (mkF m 28 (oL80 p2 a1) [])) _
    refine XS.iconst X3.here hx rfl (hb hby d30_28) ?_
    exact retI X3 hx Bd.returns (hb hby d30_29) hr
  · show own_QR (.int (-1 : Int32)) h0 n0 _ T3.heap _
    exact ⟨congrArg (fun z => some (Value.int z)) (by decide), N3, eq3⟩
abbrev oL81 (p2 : Int32) (a1 : Addr) : Array Slot := #[.val (.ref a1), .val (.int p2), .val (.int (0 : Int32)), .val (.int (2 : Int32)), .unset]
abbrev oL82 (p2 : Int32) (a1 : Addr) : Array Slot := #[.val (.ref a1), .val (.int p2), .val (.int (0 : Int32)), .val (.int (2 : Int32)), .val (.int (0 : Int32))]
set_option maxRecDepth 65536 in
set_option maxHeartbeats 40000000 in
theorem rm30_2_0 (l : Launch) (Z : State) (a0 : Array Value) (hw : ∀ d ∈ tables_1, d.before a0 Z = true) (ws : List Jvm.Cond) (a1 : Addr) (p2 : Int32) (_q3 : Int32) (_q4 : Int32) (c0 : Int32) (c1 : Int32) (k_a1 : ClassId) (h0 : Heap) (n0 : Nat) (Z0 : n0 ≤ h0.size) (S__assertionsDisabled : Sta Z Z.heap "java/lang/StringUTF16" "$assertionsDisabled" "Z" (.int (1 : Int32))) (X00 : Old Z n0 h0) (S_HI_BYTE_SHIFT : Sta Z Z.heap "java/lang/StringUTF16" "HI_BYTE_SHIFT" "I" (.int (0 : Int32))) (S_LO_BYTE_SHIFT : Sta Z Z.heap "java/lang/StringUTF16" "LO_BYTE_SHIFT" "I" (.int (8 : Int32))) (V_a1 : Arv Z h0 a1 k_a1 .byte (4 : Int32) [(.int (StrChars.lo8 c0)), (.int (StrChars.hi8 c0)), (.int (StrChars.lo8 c1)), (.int (StrChars.hi8 c1))] (.int (0 : Int32))) (hcs : ∀ c ∈ [c0, c1], ¬ c < 0 ∧ ¬ (65535 : Int32) < c) (hc16 : c0 = p2) :
    MetFree l (⟨"java/lang/StringUTF16", "indexOfCharUnsafe", "([BIII)I"⟩ : MethodName) (head1 (Jvm.Cond.code (⟨"java/lang/StringUTF16", "indexOfCharUnsafe", "([BIII)I"⟩ : MethodName) jdk_52_method_48_code 5 (some .int) :: ws) ({ frames := 1, cells := 0, slots := 0, locals := 13 } : Room)) (fun a U => a = #[(.ref a1), (.int p2), (.int (0 : Int32)), (.int (2 : Int32))] ∧ Z.Warmed39 U.vm ∧ U.heap = h0) (fun _ _ _ _ _ => True) (fun _ U o U' => ∃ v L, o = .returned v ∧ own_QR (.int (0 : Int32)) h0 n0 v U'.heap L ∧ FrameEnd U o U' L ({ frames := 1, cells := 0, slots := 0, locals := 13 } : Room).cells ({ frames := 1, cells := 0, slots := 0, locals := 13 } : Room).slots) := by
  refine MetFree.of_bodySF (plainFor_of_name pn_30) hisR ?_
  intro p e s m args below meth c s₁ Bd hml0 hP hK
  obtain ⟨rfl, hZ, hh⟩ := hP
  have hx := Bd.exec
  have hby := Bd.bytes
  have hml : c.maxLocals = 5 := hml0
  have hown : s.vm.findClass "java/lang/StringUTF16" = some m.cls := findClass_of_methodNamed Bd.named
  have hnm := (name_of_methodNamed Bd.named Bd.method).1
  have X0 : Stand p l e ({ frames := 1, cells := 0, slots := 0, locals := 13 } : Room) s m #[(.ref a1), (.int p2), (.int (0 : Int32)), (.int (2 : Int32))] below meth c s₁ [] 0 0 := Stand.of_body Bd
  have e0 : s₁.heap = h0 := by rw [← hh, Bd.state]; rfl
  have N0 := Fr.nil n0
  have pre0 : ∀ t, Steps p.tables e below (s₁.setTop (mkF m 0 (oL81 p2 a1) [])) t → Steps p.tables e below (s₁.setTop (entryFrame m #[(.ref a1), (.int p2), (.int (0 : Int32)), (.int (2 : Int32))] 5)) t := fun t k => castTop (ef_30 m a1 p2 (0 : Int32) (2 : Int32)) k
  obtain ⟨_, _, ⟨T3, L3, k3, n3⟩, -, X3, ⟨Lc3, hQ3, l3, y3, z3⟩, st3⟩ := Jvm.LawKit.callS X0 hx (y := (⟨"java/lang/StringUTF16", "getChar", "([BI)C"⟩ : MethodName)) hown (mvT hZ (hw _ (wI 100 rfl))) (mvT hZ (hw _ (wI 101 rfl))) (mvT hZ (hw _ (wI 69 rfl))) (mvT hZ (hw _ (wI 102 rfl))) (by decide) (backOf (W := 0) (rm23 l Z a0 hw [] a1 (0 : Int32) 0 (StrChars.lo8 c0) (StrChars.hi8 c0) c0 k_a1 (4 : Int32) [(.int (StrChars.lo8 c0)), (.int (StrChars.hi8 c0)), (.int (StrChars.lo8 c1)), (.int (StrChars.hi8 c1))] (.int (0 : Int32)) h0 n0 Z0 S__assertionsDisabled X00 S_HI_BYTE_SHIFT S_LO_BYTE_SHIFT V_a1 ⟨by decide, by decide⟩ (by decide) rfl ⟨by decide, by decide⟩ (by decide) rfl (own_pair (hcs c0 (by simp)))) hZ (hw _ (wI 102 rfl)) (hw _ (wI 69 rfl)) (by decide) (by decide)) (g := (mkF m 12 (oL82 p2 a1) [(.int (0 : Int32)), (.ref a1)])) rfl (by rw [hml]; rfl) (argsL := [(.ref a1), (.int (0 : Int32))]) (rest := []) (lenOf pd_30_17 rfl) rfl (by show 2 * 0 + _ ≤ _; exact Nat.le_of_eq rfl) (hb hby d30_12) (fun _ _ => ⟨rfl, e0, (by decide : 0 + 0 ≤ _), (by decide : 0 + 0 ≤ _)⟩)
  dsimp only [Pt.U, Pt.locs, Pt.cells, Pt.slots] at X3 l3 y3 z3 st3 hQ3
  subst l3 y3 z3
  obtain ⟨rfl, N3q, eq3⟩ := hQ3
  have N3 := Fr.app N0 N3q
  have Kq3 : Keep h0 T3.heap [] := (own_keq eq3)
  have K3 : Keep h0 T3.heap [] := (Keep.refl h0 []).trans Kq3 all0
  obtain ⟨fs, hr, hrun, hended, hW, hsame⟩ := X3.leave (v := some (.int (0 : Int32))) (fun h => by rw [Bd.returns] at h; cases h)
  refine ⟨_, _, pre0 _ ?_, hrun, hended, _, _, rfl, ?_, ⟨_, rfl⟩, hW, hsame.mono (by decide) (by decide)⟩
  · show Steps p.tables e below (s₁.setTop (mkF m 0 (oL81 p2 a1) [])) _
    refine XS.iloadN X0.here hx rfl (hb hby d30_0) rfl ?_
    refine XS.istore X0.here hx rfl (hb hby d30_1) rfl (l' := (oL82 p2 a1)) rfl ?_
    refine XS.iload X0.here hx rfl (hb hby d30_3) rfl ?_
    refine XS.iloadN X0.here hx rfl (hb hby d30_5) rfl ?_
    refine XS.icmpNo X0.here hx rfl (hb hby d30_6) rfl (tlt (by decide : (0 : Int32) < (2 : Int32))).2.1 ?_
    show Steps p.tables e below (s₁.setTop (mkF m 9 (oL82 p2 a1) [])) _
    refine XS.aloadN X0.here hx rfl (hb hby d30_9) rfl rfl ?_
    refine XS.iload X0.here hx rfl (hb hby d30_10) rfl ?_
    refine st3 _ ?_
    refine XS.iloadN X3.here hx rfl (hb hby d30_15) rfl ?_
    refine XS.icmpNo X3.here hx rfl (hb hby d30_16) rfl (teq hc16).2 ?_
    show Steps p.tables e below (T3.setTop (mkF m 19 (oL82 p2 a1) [])) _
    refine XS.iload X3.here hx rfl (hb hby d30_19) rfl ?_
    exact retI X3 hx Bd.returns (hb hby d30_21) hr
  · show own_QR (.int (0 : Int32)) h0 n0 _ T3.heap _
    exact ⟨congrArg (fun z => some (Value.int z)) (by decide), N3, eq3⟩
abbrev oL83 (p2 : Int32) (a1 : Addr) : Array Slot := #[.val (.ref a1), .val (.int p2), .val (.int (0 : Int32)), .val (.int (2 : Int32)), .val (.int ((0 : Int32) + (1 : Int32)))]
set_option maxRecDepth 65536 in
set_option maxHeartbeats 40000000 in
theorem rm30_2_1 (l : Launch) (Z : State) (a0 : Array Value) (hw : ∀ d ∈ tables_1, d.before a0 Z = true) (ws : List Jvm.Cond) (a1 : Addr) (p2 : Int32) (_q3 : Int32) (_q4 : Int32) (c0 : Int32) (c1 : Int32) (k_a1 : ClassId) (h0 : Heap) (n0 : Nat) (Z0 : n0 ≤ h0.size) (S__assertionsDisabled : Sta Z Z.heap "java/lang/StringUTF16" "$assertionsDisabled" "Z" (.int (1 : Int32))) (X00 : Old Z n0 h0) (S_HI_BYTE_SHIFT : Sta Z Z.heap "java/lang/StringUTF16" "HI_BYTE_SHIFT" "I" (.int (0 : Int32))) (S_LO_BYTE_SHIFT : Sta Z Z.heap "java/lang/StringUTF16" "LO_BYTE_SHIFT" "I" (.int (8 : Int32))) (V_a1 : Arv Z h0 a1 k_a1 .byte (4 : Int32) [(.int (StrChars.lo8 c0)), (.int (StrChars.hi8 c0)), (.int (StrChars.lo8 c1)), (.int (StrChars.hi8 c1))] (.int (0 : Int32))) (hcs : ∀ c ∈ [c0, c1], ¬ c < 0 ∧ ¬ (65535 : Int32) < c) (hc16 : ¬ (c0 = p2)) (hc16_20 : c1 = p2) :
    MetFree l (⟨"java/lang/StringUTF16", "indexOfCharUnsafe", "([BIII)I"⟩ : MethodName) (head1 (Jvm.Cond.code (⟨"java/lang/StringUTF16", "indexOfCharUnsafe", "([BIII)I"⟩ : MethodName) jdk_52_method_48_code 5 (some .int) :: ws) ({ frames := 1, cells := 0, slots := 0, locals := 13 } : Room)) (fun a U => a = #[(.ref a1), (.int p2), (.int (0 : Int32)), (.int (2 : Int32))] ∧ Z.Warmed39 U.vm ∧ U.heap = h0) (fun _ _ _ _ _ => True) (fun _ U o U' => ∃ v L, o = .returned v ∧ own_QR (.int (1 : Int32)) h0 n0 v U'.heap L ∧ FrameEnd U o U' L ({ frames := 1, cells := 0, slots := 0, locals := 13 } : Room).cells ({ frames := 1, cells := 0, slots := 0, locals := 13 } : Room).slots) := by
  refine MetFree.of_bodySF (plainFor_of_name pn_30) hisR ?_
  intro p e s m args below meth c s₁ Bd hml0 hP hK
  obtain ⟨rfl, hZ, hh⟩ := hP
  have hx := Bd.exec
  have hby := Bd.bytes
  have hml : c.maxLocals = 5 := hml0
  have hown : s.vm.findClass "java/lang/StringUTF16" = some m.cls := findClass_of_methodNamed Bd.named
  have hnm := (name_of_methodNamed Bd.named Bd.method).1
  have X0 : Stand p l e ({ frames := 1, cells := 0, slots := 0, locals := 13 } : Room) s m #[(.ref a1), (.int p2), (.int (0 : Int32)), (.int (2 : Int32))] below meth c s₁ [] 0 0 := Stand.of_body Bd
  have e0 : s₁.heap = h0 := by rw [← hh, Bd.state]; rfl
  have N0 := Fr.nil n0
  have pre0 : ∀ t, Steps p.tables e below (s₁.setTop (mkF m 0 (oL81 p2 a1) [])) t → Steps p.tables e below (s₁.setTop (entryFrame m #[(.ref a1), (.int p2), (.int (0 : Int32)), (.int (2 : Int32))] 5)) t := fun t k => castTop (ef_30 m a1 p2 (0 : Int32) (2 : Int32)) k
  obtain ⟨_, _, ⟨T3, L3, k3, n3⟩, -, X3, ⟨Lc3, hQ3, l3, y3, z3⟩, st3⟩ := Jvm.LawKit.callS X0 hx (y := (⟨"java/lang/StringUTF16", "getChar", "([BI)C"⟩ : MethodName)) hown (mvT hZ (hw _ (wI 100 rfl))) (mvT hZ (hw _ (wI 101 rfl))) (mvT hZ (hw _ (wI 69 rfl))) (mvT hZ (hw _ (wI 102 rfl))) (by decide) (backOf (W := 0) (rm23 l Z a0 hw [] a1 (0 : Int32) 0 (StrChars.lo8 c0) (StrChars.hi8 c0) c0 k_a1 (4 : Int32) [(.int (StrChars.lo8 c0)), (.int (StrChars.hi8 c0)), (.int (StrChars.lo8 c1)), (.int (StrChars.hi8 c1))] (.int (0 : Int32)) h0 n0 Z0 S__assertionsDisabled X00 S_HI_BYTE_SHIFT S_LO_BYTE_SHIFT V_a1 ⟨by decide, by decide⟩ (by decide) rfl ⟨by decide, by decide⟩ (by decide) rfl (own_pair (hcs c0 (by simp)))) hZ (hw _ (wI 102 rfl)) (hw _ (wI 69 rfl)) (by decide) (by decide)) (g := (mkF m 12 (oL82 p2 a1) [(.int (0 : Int32)), (.ref a1)])) rfl (by rw [hml]; rfl) (argsL := [(.ref a1), (.int (0 : Int32))]) (rest := []) (lenOf pd_30_17 rfl) rfl (by show 2 * 0 + _ ≤ _; exact Nat.le_of_eq rfl) (hb hby d30_12) (fun _ _ => ⟨rfl, e0, (by decide : 0 + 0 ≤ _), (by decide : 0 + 0 ≤ _)⟩)
  dsimp only [Pt.U, Pt.locs, Pt.cells, Pt.slots] at X3 l3 y3 z3 st3 hQ3
  subst l3 y3 z3
  obtain ⟨rfl, N3q, eq3⟩ := hQ3
  have N3 := Fr.app N0 N3q
  have Kq3 : Keep h0 T3.heap [] := (own_keq eq3)
  have K3 : Keep h0 T3.heap [] := (Keep.refl h0 []).trans Kq3 all0
  obtain ⟨_, _, ⟨T4, L4, k4, n4⟩, -, X4, ⟨Lc4, hQ4, l4, y4, z4⟩, st4⟩ := Jvm.LawKit.callS X3 hx (y := (⟨"java/lang/StringUTF16", "getChar", "([BI)C"⟩ : MethodName)) hown (mvT hZ (hw _ (wI 100 rfl))) (mvT hZ (hw _ (wI 101 rfl))) (mvT hZ (hw _ (wI 69 rfl))) (mvT hZ (hw _ (wI 102 rfl))) (by decide) (backOf (W := 0) (rm23 l Z a0 hw [] a1 ((0 : Int32) + (1 : Int32)) 2 (StrChars.lo8 c1) (StrChars.hi8 c1) c1 k_a1 (4 : Int32) [(.int (StrChars.lo8 c0)), (.int (StrChars.hi8 c0)), (.int (StrChars.lo8 c1)), (.int (StrChars.hi8 c1))] (.int (0 : Int32)) T3.heap n0 (Nat.le_trans Z0 Kq3.1) S__assertionsDisabled (X00.keep K3 all0) S_HI_BYTE_SHIFT S_LO_BYTE_SHIFT (V_a1.keep Kq3 (fun q => nomatch q)) ⟨by decide, by decide⟩ (by decide) rfl ⟨by decide, by decide⟩ (by decide) rfl (own_pair (hcs c1 (by simp)))) hZ (hw _ (wI 102 rfl)) (hw _ (wI 69 rfl)) (by decide) (by decide)) (g := (mkF m 12 (oL83 p2 a1) [(.int ((0 : Int32) + (1 : Int32))), (.ref a1)])) rfl (by rw [hml]; rfl) (argsL := [(.ref a1), (.int ((0 : Int32) + (1 : Int32)))]) (rest := []) (lenOf pd_30_17 rfl) rfl (by show 2 * 0 + _ ≤ _; exact Nat.le_of_eq rfl) (hb hby d30_12) (fun _ _ => ⟨rfl, rfl, (by decide : 0 + 0 ≤ _), (by decide : 0 + 0 ≤ _)⟩)
  dsimp only [Pt.U, Pt.locs, Pt.cells, Pt.slots] at X4 l4 y4 z4 st4 hQ4
  subst l4 y4 z4
  obtain ⟨rfl, N4q, eq4⟩ := hQ4
  have N4 := Fr.app N3 N4q
  have Kq4 : Keep T3.heap T4.heap [] := (own_keq eq4)
  have K4 : Keep h0 T4.heap [] := K3.trans Kq4 all0
  obtain ⟨fs, hr, hrun, hended, hW, hsame⟩ := X4.leave (v := some (.int ((0 : Int32) + (1 : Int32)))) (fun h => by rw [Bd.returns] at h; cases h)
  refine ⟨_, _, pre0 _ ?_, hrun, hended, _, _, rfl, ?_, ⟨_, rfl⟩, hW, hsame.mono (by decide) (by decide)⟩
  · show Steps p.tables e below (s₁.setTop (mkF m 0 (oL81 p2 a1) [])) _
    refine XS.iloadN X0.here hx rfl (hb hby d30_0) rfl ?_
    refine XS.istore X0.here hx rfl (hb hby d30_1) rfl (l' := (oL82 p2 a1)) rfl ?_
    refine XS.iload X0.here hx rfl (hb hby d30_3) rfl ?_
    refine XS.iloadN X0.here hx rfl (hb hby d30_5) rfl ?_
    refine XS.icmpNo X0.here hx rfl (hb hby d30_6) rfl (tlt (by decide : (0 : Int32) < (2 : Int32))).2.1 ?_
    show Steps p.tables e below (s₁.setTop (mkF m 9 (oL82 p2 a1) [])) _
    refine XS.aloadN X0.here hx rfl (hb hby d30_9) rfl rfl ?_
    refine XS.iload X0.here hx rfl (hb hby d30_10) rfl ?_
    refine st3 _ ?_
    refine XS.iloadN X3.here hx rfl (hb hby d30_15) rfl ?_
    refine XS.icmpYes X3.here hx rfl (pc0 := 16) (pc' := 22) rfl (hb hby d30_16) rfl (feq hc16).2 (by decide) (by decide) ?_
    show Steps p.tables e below (T3.setTop (mkF m 22 (oL82 p2 a1) [])) _
    refine XS.iinc X3.here hx rfl (hb hby d30_22) rfl (l' := (oL83 p2 a1)) rfl ?_
    refine XS.goto X3.here hx rfl (pc0 := 25) (pc' := 3) rfl (hb hby d30_25) (by decide) (by decide) ?_
    refine XS.iload X3.here hx rfl (hb hby d30_3) rfl ?_
    refine XS.iloadN X3.here hx rfl (hb hby d30_5) rfl ?_
    refine XS.icmpNo X3.here hx rfl (hb hby d30_6) rfl (tlt (by decide : ((0 : Int32) + (1 : Int32)) < (2 : Int32))).2.1 ?_
    show Steps p.tables e below (T3.setTop (mkF m 9 (oL83 p2 a1) [])) _
    refine XS.aloadN X3.here hx rfl (hb hby d30_9) rfl rfl ?_
    refine XS.iload X3.here hx rfl (hb hby d30_10) rfl ?_
    refine st4 _ ?_
    refine XS.iloadN X4.here hx rfl (hb hby d30_15) rfl ?_
    refine XS.icmpNo X4.here hx rfl (hb hby d30_16) rfl (teq hc16_20).2 ?_
    show Steps p.tables e below (T4.setTop (mkF m 19 (oL83 p2 a1) [])) _
    refine XS.iload X4.here hx rfl (hb hby d30_19) rfl ?_
    exact retI X4 hx Bd.returns (hb hby d30_21) hr
  · show own_QR (.int (1 : Int32)) h0 n0 _ T4.heap _
    exact ⟨congrArg (fun z => some (Value.int z)) (by decide), N4, (eq4.trans eq3)⟩
abbrev oL84 (p2 : Int32) (a1 : Addr) : Array Slot := #[.val (.ref a1), .val (.int p2), .val (.int (0 : Int32)), .val (.int (2 : Int32)), .val (.int (((0 : Int32) + (1 : Int32)) + (1 : Int32)))]
set_option maxRecDepth 65536 in
set_option maxHeartbeats 40000000 in
theorem rm30_2_N (l : Launch) (Z : State) (a0 : Array Value) (hw : ∀ d ∈ tables_1, d.before a0 Z = true) (ws : List Jvm.Cond) (a1 : Addr) (p2 : Int32) (_q3 : Int32) (_q4 : Int32) (c0 : Int32) (c1 : Int32) (k_a1 : ClassId) (h0 : Heap) (n0 : Nat) (Z0 : n0 ≤ h0.size) (S__assertionsDisabled : Sta Z Z.heap "java/lang/StringUTF16" "$assertionsDisabled" "Z" (.int (1 : Int32))) (X00 : Old Z n0 h0) (S_HI_BYTE_SHIFT : Sta Z Z.heap "java/lang/StringUTF16" "HI_BYTE_SHIFT" "I" (.int (0 : Int32))) (S_LO_BYTE_SHIFT : Sta Z Z.heap "java/lang/StringUTF16" "LO_BYTE_SHIFT" "I" (.int (8 : Int32))) (V_a1 : Arv Z h0 a1 k_a1 .byte (4 : Int32) [(.int (StrChars.lo8 c0)), (.int (StrChars.hi8 c0)), (.int (StrChars.lo8 c1)), (.int (StrChars.hi8 c1))] (.int (0 : Int32))) (hcs : ∀ c ∈ [c0, c1], ¬ c < 0 ∧ ¬ (65535 : Int32) < c) (hc16 : ¬ (c0 = p2)) (hc16_20 : ¬ (c1 = p2)) :
    MetFree l (⟨"java/lang/StringUTF16", "indexOfCharUnsafe", "([BIII)I"⟩ : MethodName) (head1 (Jvm.Cond.code (⟨"java/lang/StringUTF16", "indexOfCharUnsafe", "([BIII)I"⟩ : MethodName) jdk_52_method_48_code 5 (some .int) :: ws) ({ frames := 1, cells := 0, slots := 0, locals := 13 } : Room)) (fun a U => a = #[(.ref a1), (.int p2), (.int (0 : Int32)), (.int (2 : Int32))] ∧ Z.Warmed39 U.vm ∧ U.heap = h0) (fun _ _ _ _ _ => True) (fun _ U o U' => ∃ v L, o = .returned v ∧ own_QR (.int (-1 : Int32)) h0 n0 v U'.heap L ∧ FrameEnd U o U' L ({ frames := 1, cells := 0, slots := 0, locals := 13 } : Room).cells ({ frames := 1, cells := 0, slots := 0, locals := 13 } : Room).slots) := by
  refine MetFree.of_bodySF (plainFor_of_name pn_30) hisR ?_
  intro p e s m args below meth c s₁ Bd hml0 hP hK
  obtain ⟨rfl, hZ, hh⟩ := hP
  have hx := Bd.exec
  have hby := Bd.bytes
  have hml : c.maxLocals = 5 := hml0
  have hown : s.vm.findClass "java/lang/StringUTF16" = some m.cls := findClass_of_methodNamed Bd.named
  have hnm := (name_of_methodNamed Bd.named Bd.method).1
  have X0 : Stand p l e ({ frames := 1, cells := 0, slots := 0, locals := 13 } : Room) s m #[(.ref a1), (.int p2), (.int (0 : Int32)), (.int (2 : Int32))] below meth c s₁ [] 0 0 := Stand.of_body Bd
  have e0 : s₁.heap = h0 := by rw [← hh, Bd.state]; rfl
  have N0 := Fr.nil n0
  have pre0 : ∀ t, Steps p.tables e below (s₁.setTop (mkF m 0 (oL81 p2 a1) [])) t → Steps p.tables e below (s₁.setTop (entryFrame m #[(.ref a1), (.int p2), (.int (0 : Int32)), (.int (2 : Int32))] 5)) t := fun t k => castTop (ef_30 m a1 p2 (0 : Int32) (2 : Int32)) k
  obtain ⟨_, _, ⟨T3, L3, k3, n3⟩, -, X3, ⟨Lc3, hQ3, l3, y3, z3⟩, st3⟩ := Jvm.LawKit.callS X0 hx (y := (⟨"java/lang/StringUTF16", "getChar", "([BI)C"⟩ : MethodName)) hown (mvT hZ (hw _ (wI 100 rfl))) (mvT hZ (hw _ (wI 101 rfl))) (mvT hZ (hw _ (wI 69 rfl))) (mvT hZ (hw _ (wI 102 rfl))) (by decide) (backOf (W := 0) (rm23 l Z a0 hw [] a1 (0 : Int32) 0 (StrChars.lo8 c0) (StrChars.hi8 c0) c0 k_a1 (4 : Int32) [(.int (StrChars.lo8 c0)), (.int (StrChars.hi8 c0)), (.int (StrChars.lo8 c1)), (.int (StrChars.hi8 c1))] (.int (0 : Int32)) h0 n0 Z0 S__assertionsDisabled X00 S_HI_BYTE_SHIFT S_LO_BYTE_SHIFT V_a1 ⟨by decide, by decide⟩ (by decide) rfl ⟨by decide, by decide⟩ (by decide) rfl (own_pair (hcs c0 (by simp)))) hZ (hw _ (wI 102 rfl)) (hw _ (wI 69 rfl)) (by decide) (by decide)) (g := (mkF m 12 (oL82 p2 a1) [(.int (0 : Int32)), (.ref a1)])) rfl (by rw [hml]; rfl) (argsL := [(.ref a1), (.int (0 : Int32))]) (rest := []) (lenOf pd_30_17 rfl) rfl (by show 2 * 0 + _ ≤ _; exact Nat.le_of_eq rfl) (hb hby d30_12) (fun _ _ => ⟨rfl, e0, (by decide : 0 + 0 ≤ _), (by decide : 0 + 0 ≤ _)⟩)
  dsimp only [Pt.U, Pt.locs, Pt.cells, Pt.slots] at X3 l3 y3 z3 st3 hQ3
  subst l3 y3 z3
  obtain ⟨rfl, N3q, eq3⟩ := hQ3
  have N3 := Fr.app N0 N3q
  have Kq3 : Keep h0 T3.heap [] := (own_keq eq3)
  have K3 : Keep h0 T3.heap [] := (Keep.refl h0 []).trans Kq3 all0
  obtain ⟨_, _, ⟨T4, L4, k4, n4⟩, -, X4, ⟨Lc4, hQ4, l4, y4, z4⟩, st4⟩ := Jvm.LawKit.callS X3 hx (y := (⟨"java/lang/StringUTF16", "getChar", "([BI)C"⟩ : MethodName)) hown (mvT hZ (hw _ (wI 100 rfl))) (mvT hZ (hw _ (wI 101 rfl))) (mvT hZ (hw _ (wI 69 rfl))) (mvT hZ (hw _ (wI 102 rfl))) (by decide) (backOf (W := 0) (rm23 l Z a0 hw [] a1 ((0 : Int32) + (1 : Int32)) 2 (StrChars.lo8 c1) (StrChars.hi8 c1) c1 k_a1 (4 : Int32) [(.int (StrChars.lo8 c0)), (.int (StrChars.hi8 c0)), (.int (StrChars.lo8 c1)), (.int (StrChars.hi8 c1))] (.int (0 : Int32)) T3.heap n0 (Nat.le_trans Z0 Kq3.1) S__assertionsDisabled (X00.keep K3 all0) S_HI_BYTE_SHIFT S_LO_BYTE_SHIFT (V_a1.keep Kq3 (fun q => nomatch q)) ⟨by decide, by decide⟩ (by decide) rfl ⟨by decide, by decide⟩ (by decide) rfl (own_pair (hcs c1 (by simp)))) hZ (hw _ (wI 102 rfl)) (hw _ (wI 69 rfl)) (by decide) (by decide)) (g := (mkF m 12 (oL83 p2 a1) [(.int ((0 : Int32) + (1 : Int32))), (.ref a1)])) rfl (by rw [hml]; rfl) (argsL := [(.ref a1), (.int ((0 : Int32) + (1 : Int32)))]) (rest := []) (lenOf pd_30_17 rfl) rfl (by show 2 * 0 + _ ≤ _; exact Nat.le_of_eq rfl) (hb hby d30_12) (fun _ _ => ⟨rfl, rfl, (by decide : 0 + 0 ≤ _), (by decide : 0 + 0 ≤ _)⟩)
  dsimp only [Pt.U, Pt.locs, Pt.cells, Pt.slots] at X4 l4 y4 z4 st4 hQ4
  subst l4 y4 z4
  obtain ⟨rfl, N4q, eq4⟩ := hQ4
  have N4 := Fr.app N3 N4q
  have Kq4 : Keep T3.heap T4.heap [] := (own_keq eq4)
  have K4 : Keep h0 T4.heap [] := K3.trans Kq4 all0
  obtain ⟨fs, hr, hrun, hended, hW, hsame⟩ := X4.leave (v := some (.int (-1 : Int32))) (fun h => by rw [Bd.returns] at h; cases h)
  refine ⟨_, _, pre0 _ ?_, hrun, hended, _, _, rfl, ?_, ⟨_, rfl⟩, hW, hsame.mono (by decide) (by decide)⟩
  · show Steps p.tables e below (s₁.setTop (mkF m 0 (oL81 p2 a1) [])) _
    refine XS.iloadN X0.here hx rfl (hb hby d30_0) rfl ?_
    refine XS.istore X0.here hx rfl (hb hby d30_1) rfl (l' := (oL82 p2 a1)) rfl ?_
    refine XS.iload X0.here hx rfl (hb hby d30_3) rfl ?_
    refine XS.iloadN X0.here hx rfl (hb hby d30_5) rfl ?_
    refine XS.icmpNo X0.here hx rfl (hb hby d30_6) rfl (tlt (by decide : (0 : Int32) < (2 : Int32))).2.1 ?_
    show Steps p.tables e below (s₁.setTop (mkF m 9 (oL82 p2 a1) [])) _
    refine XS.aloadN X0.here hx rfl (hb hby d30_9) rfl rfl ?_
    refine XS.iload X0.here hx rfl (hb hby d30_10) rfl ?_
    refine st3 _ ?_
    refine XS.iloadN X3.here hx rfl (hb hby d30_15) rfl ?_
    refine XS.icmpYes X3.here hx rfl (pc0 := 16) (pc' := 22) rfl (hb hby d30_16) rfl (feq hc16).2 (by decide) (by decide) ?_
    show Steps p.tables e below (T3.setTop (mkF m 22 (oL82 p2 a1) [])) _
    refine XS.iinc X3.here hx rfl (hb hby d30_22) rfl (l' := (oL83 p2 a1)) rfl ?_
    refine XS.goto X3.here hx rfl (pc0 := 25) (pc' := 3) rfl (hb hby d30_25) (by decide) (by decide) ?_
    refine XS.iload X3.here hx rfl (hb hby d30_3) rfl ?_
    refine XS.iloadN X3.here hx rfl (hb hby d30_5) rfl ?_
    refine XS.icmpNo X3.here hx rfl (hb hby d30_6) rfl (tlt (by decide : ((0 : Int32) + (1 : Int32)) < (2 : Int32))).2.1 ?_
    show Steps p.tables e below (T3.setTop (mkF m 9 (oL83 p2 a1) [])) _
    refine XS.aloadN X3.here hx rfl (hb hby d30_9) rfl rfl ?_
    refine XS.iload X3.here hx rfl (hb hby d30_10) rfl ?_
    refine st4 _ ?_
    refine XS.iloadN X4.here hx rfl (hb hby d30_15) rfl ?_
    refine XS.icmpYes X4.here hx rfl (pc0 := 16) (pc' := 22) rfl (hb hby d30_16) rfl (feq hc16_20).2 (by decide) (by decide) ?_
    show Steps p.tables e below (T4.setTop (mkF m 22 (oL83 p2 a1) [])) _
    refine XS.iinc X4.here hx rfl (hb hby d30_22) rfl (l' := (oL84 p2 a1)) rfl ?_
    refine XS.goto X4.here hx rfl (pc0 := 25) (pc' := 3) rfl (hb hby d30_25) (by decide) (by decide) ?_
    refine XS.iload X4.here hx rfl (hb hby d30_3) rfl ?_
    refine XS.iloadN X4.here hx rfl (hb hby d30_5) rfl ?_
    refine XS.icmpYes X4.here hx rfl (pc0 := 6) (pc' := 28) rfl (hb hby d30_6) rfl (flt (by decide : ¬ ((((0 : Int32) + (1 : Int32)) + (1 : Int32)) < (2 : Int32)))).2.1 (by decide) (by decide) ?_
    show Steps p.tables e below (T4.setTop (mkF m 28 (oL84 p2 a1) [])) _
    refine XS.iconst X4.here hx rfl (hb hby d30_28) ?_
    exact retI X4 hx Bd.returns (hb hby d30_29) hr
  · show own_QR (.int (-1 : Int32)) h0 n0 _ T4.heap _
    exact ⟨congrArg (fun z => some (Value.int z)) (by decide), N4, (eq4.trans eq3)⟩
abbrev oL85 (p2 : Int32) (a1 : Addr) : Array Slot := #[.val (.ref a1), .val (.int p2), .val (.int (0 : Int32)), .val (.int (3 : Int32)), .unset]
abbrev oL86 (p2 : Int32) (a1 : Addr) : Array Slot := #[.val (.ref a1), .val (.int p2), .val (.int (0 : Int32)), .val (.int (3 : Int32)), .val (.int (0 : Int32))]
set_option maxRecDepth 65536 in
set_option maxHeartbeats 40000000 in
theorem rm30_3_0 (l : Launch) (Z : State) (a0 : Array Value) (hw : ∀ d ∈ tables_1, d.before a0 Z = true) (ws : List Jvm.Cond) (a1 : Addr) (p2 : Int32) (_q3 : Int32) (_q4 : Int32) (c0 : Int32) (c1 : Int32) (c2 : Int32) (k_a1 : ClassId) (h0 : Heap) (n0 : Nat) (Z0 : n0 ≤ h0.size) (S__assertionsDisabled : Sta Z Z.heap "java/lang/StringUTF16" "$assertionsDisabled" "Z" (.int (1 : Int32))) (X00 : Old Z n0 h0) (S_HI_BYTE_SHIFT : Sta Z Z.heap "java/lang/StringUTF16" "HI_BYTE_SHIFT" "I" (.int (0 : Int32))) (S_LO_BYTE_SHIFT : Sta Z Z.heap "java/lang/StringUTF16" "LO_BYTE_SHIFT" "I" (.int (8 : Int32))) (V_a1 : Arv Z h0 a1 k_a1 .byte (6 : Int32) [(.int (StrChars.lo8 c0)), (.int (StrChars.hi8 c0)), (.int (StrChars.lo8 c1)), (.int (StrChars.hi8 c1)), (.int (StrChars.lo8 c2)), (.int (StrChars.hi8 c2))] (.int (0 : Int32))) (hcs : ∀ c ∈ [c0, c1, c2], ¬ c < 0 ∧ ¬ (65535 : Int32) < c) (hc16 : c0 = p2) :
    MetFree l (⟨"java/lang/StringUTF16", "indexOfCharUnsafe", "([BIII)I"⟩ : MethodName) (head1 (Jvm.Cond.code (⟨"java/lang/StringUTF16", "indexOfCharUnsafe", "([BIII)I"⟩ : MethodName) jdk_52_method_48_code 5 (some .int) :: ws) ({ frames := 1, cells := 0, slots := 0, locals := 13 } : Room)) (fun a U => a = #[(.ref a1), (.int p2), (.int (0 : Int32)), (.int (3 : Int32))] ∧ Z.Warmed39 U.vm ∧ U.heap = h0) (fun _ _ _ _ _ => True) (fun _ U o U' => ∃ v L, o = .returned v ∧ own_QR (.int (0 : Int32)) h0 n0 v U'.heap L ∧ FrameEnd U o U' L ({ frames := 1, cells := 0, slots := 0, locals := 13 } : Room).cells ({ frames := 1, cells := 0, slots := 0, locals := 13 } : Room).slots) := by
  refine MetFree.of_bodySF (plainFor_of_name pn_30) hisR ?_
  intro p e s m args below meth c s₁ Bd hml0 hP hK
  obtain ⟨rfl, hZ, hh⟩ := hP
  have hx := Bd.exec
  have hby := Bd.bytes
  have hml : c.maxLocals = 5 := hml0
  have hown : s.vm.findClass "java/lang/StringUTF16" = some m.cls := findClass_of_methodNamed Bd.named
  have hnm := (name_of_methodNamed Bd.named Bd.method).1
  have X0 : Stand p l e ({ frames := 1, cells := 0, slots := 0, locals := 13 } : Room) s m #[(.ref a1), (.int p2), (.int (0 : Int32)), (.int (3 : Int32))] below meth c s₁ [] 0 0 := Stand.of_body Bd
  have e0 : s₁.heap = h0 := by rw [← hh, Bd.state]; rfl
  have N0 := Fr.nil n0
  have pre0 : ∀ t, Steps p.tables e below (s₁.setTop (mkF m 0 (oL85 p2 a1) [])) t → Steps p.tables e below (s₁.setTop (entryFrame m #[(.ref a1), (.int p2), (.int (0 : Int32)), (.int (3 : Int32))] 5)) t := fun t k => castTop (ef_30 m a1 p2 (0 : Int32) (3 : Int32)) k
  obtain ⟨_, _, ⟨T3, L3, k3, n3⟩, -, X3, ⟨Lc3, hQ3, l3, y3, z3⟩, st3⟩ := Jvm.LawKit.callS X0 hx (y := (⟨"java/lang/StringUTF16", "getChar", "([BI)C"⟩ : MethodName)) hown (mvT hZ (hw _ (wI 100 rfl))) (mvT hZ (hw _ (wI 101 rfl))) (mvT hZ (hw _ (wI 69 rfl))) (mvT hZ (hw _ (wI 102 rfl))) (by decide) (backOf (W := 0) (rm23 l Z a0 hw [] a1 (0 : Int32) 0 (StrChars.lo8 c0) (StrChars.hi8 c0) c0 k_a1 (6 : Int32) [(.int (StrChars.lo8 c0)), (.int (StrChars.hi8 c0)), (.int (StrChars.lo8 c1)), (.int (StrChars.hi8 c1)), (.int (StrChars.lo8 c2)), (.int (StrChars.hi8 c2))] (.int (0 : Int32)) h0 n0 Z0 S__assertionsDisabled X00 S_HI_BYTE_SHIFT S_LO_BYTE_SHIFT V_a1 ⟨by decide, by decide⟩ (by decide) rfl ⟨by decide, by decide⟩ (by decide) rfl (own_pair (hcs c0 (by simp)))) hZ (hw _ (wI 102 rfl)) (hw _ (wI 69 rfl)) (by decide) (by decide)) (g := (mkF m 12 (oL86 p2 a1) [(.int (0 : Int32)), (.ref a1)])) rfl (by rw [hml]; rfl) (argsL := [(.ref a1), (.int (0 : Int32))]) (rest := []) (lenOf pd_30_17 rfl) rfl (by show 2 * 0 + _ ≤ _; exact Nat.le_of_eq rfl) (hb hby d30_12) (fun _ _ => ⟨rfl, e0, (by decide : 0 + 0 ≤ _), (by decide : 0 + 0 ≤ _)⟩)
  dsimp only [Pt.U, Pt.locs, Pt.cells, Pt.slots] at X3 l3 y3 z3 st3 hQ3
  subst l3 y3 z3
  obtain ⟨rfl, N3q, eq3⟩ := hQ3
  have N3 := Fr.app N0 N3q
  have Kq3 : Keep h0 T3.heap [] := (own_keq eq3)
  have K3 : Keep h0 T3.heap [] := (Keep.refl h0 []).trans Kq3 all0
  obtain ⟨fs, hr, hrun, hended, hW, hsame⟩ := X3.leave (v := some (.int (0 : Int32))) (fun h => by rw [Bd.returns] at h; cases h)
  refine ⟨_, _, pre0 _ ?_, hrun, hended, _, _, rfl, ?_, ⟨_, rfl⟩, hW, hsame.mono (by decide) (by decide)⟩
  · show Steps p.tables e below (s₁.setTop (mkF m 0 (oL85 p2 a1) [])) _
    refine XS.iloadN X0.here hx rfl (hb hby d30_0) rfl ?_
    refine XS.istore X0.here hx rfl (hb hby d30_1) rfl (l' := (oL86 p2 a1)) rfl ?_
    refine XS.iload X0.here hx rfl (hb hby d30_3) rfl ?_
    refine XS.iloadN X0.here hx rfl (hb hby d30_5) rfl ?_
    refine XS.icmpNo X0.here hx rfl (hb hby d30_6) rfl (tlt (by decide : (0 : Int32) < (3 : Int32))).2.1 ?_
    show Steps p.tables e below (s₁.setTop (mkF m 9 (oL86 p2 a1) [])) _
    refine XS.aloadN X0.here hx rfl (hb hby d30_9) rfl rfl ?_
    refine XS.iload X0.here hx rfl (hb hby d30_10) rfl ?_
    refine st3 _ ?_
    refine XS.iloadN X3.here hx rfl (hb hby d30_15) rfl ?_
    refine XS.icmpNo X3.here hx rfl (hb hby d30_16) rfl (teq hc16).2 ?_
    show Steps p.tables e below (T3.setTop (mkF m 19 (oL86 p2 a1) [])) _
    refine XS.iload X3.here hx rfl (hb hby d30_19) rfl ?_
    exact retI X3 hx Bd.returns (hb hby d30_21) hr
  · show own_QR (.int (0 : Int32)) h0 n0 _ T3.heap _
    exact ⟨congrArg (fun z => some (Value.int z)) (by decide), N3, eq3⟩
abbrev oL87 (p2 : Int32) (a1 : Addr) : Array Slot := #[.val (.ref a1), .val (.int p2), .val (.int (0 : Int32)), .val (.int (3 : Int32)), .val (.int ((0 : Int32) + (1 : Int32)))]
set_option maxRecDepth 65536 in
set_option maxHeartbeats 40000000 in
theorem rm30_3_1 (l : Launch) (Z : State) (a0 : Array Value) (hw : ∀ d ∈ tables_1, d.before a0 Z = true) (ws : List Jvm.Cond) (a1 : Addr) (p2 : Int32) (_q3 : Int32) (_q4 : Int32) (c0 : Int32) (c1 : Int32) (c2 : Int32) (k_a1 : ClassId) (h0 : Heap) (n0 : Nat) (Z0 : n0 ≤ h0.size) (S__assertionsDisabled : Sta Z Z.heap "java/lang/StringUTF16" "$assertionsDisabled" "Z" (.int (1 : Int32))) (X00 : Old Z n0 h0) (S_HI_BYTE_SHIFT : Sta Z Z.heap "java/lang/StringUTF16" "HI_BYTE_SHIFT" "I" (.int (0 : Int32))) (S_LO_BYTE_SHIFT : Sta Z Z.heap "java/lang/StringUTF16" "LO_BYTE_SHIFT" "I" (.int (8 : Int32))) (V_a1 : Arv Z h0 a1 k_a1 .byte (6 : Int32) [(.int (StrChars.lo8 c0)), (.int (StrChars.hi8 c0)), (.int (StrChars.lo8 c1)), (.int (StrChars.hi8 c1)), (.int (StrChars.lo8 c2)), (.int (StrChars.hi8 c2))] (.int (0 : Int32))) (hcs : ∀ c ∈ [c0, c1, c2], ¬ c < 0 ∧ ¬ (65535 : Int32) < c) (hc16 : ¬ (c0 = p2)) (hc16_20 : c1 = p2) :
    MetFree l (⟨"java/lang/StringUTF16", "indexOfCharUnsafe", "([BIII)I"⟩ : MethodName) (head1 (Jvm.Cond.code (⟨"java/lang/StringUTF16", "indexOfCharUnsafe", "([BIII)I"⟩ : MethodName) jdk_52_method_48_code 5 (some .int) :: ws) ({ frames := 1, cells := 0, slots := 0, locals := 13 } : Room)) (fun a U => a = #[(.ref a1), (.int p2), (.int (0 : Int32)), (.int (3 : Int32))] ∧ Z.Warmed39 U.vm ∧ U.heap = h0) (fun _ _ _ _ _ => True) (fun _ U o U' => ∃ v L, o = .returned v ∧ own_QR (.int (1 : Int32)) h0 n0 v U'.heap L ∧ FrameEnd U o U' L ({ frames := 1, cells := 0, slots := 0, locals := 13 } : Room).cells ({ frames := 1, cells := 0, slots := 0, locals := 13 } : Room).slots) := by
  refine MetFree.of_bodySF (plainFor_of_name pn_30) hisR ?_
  intro p e s m args below meth c s₁ Bd hml0 hP hK
  obtain ⟨rfl, hZ, hh⟩ := hP
  have hx := Bd.exec
  have hby := Bd.bytes
  have hml : c.maxLocals = 5 := hml0
  have hown : s.vm.findClass "java/lang/StringUTF16" = some m.cls := findClass_of_methodNamed Bd.named
  have hnm := (name_of_methodNamed Bd.named Bd.method).1
  have X0 : Stand p l e ({ frames := 1, cells := 0, slots := 0, locals := 13 } : Room) s m #[(.ref a1), (.int p2), (.int (0 : Int32)), (.int (3 : Int32))] below meth c s₁ [] 0 0 := Stand.of_body Bd
  have e0 : s₁.heap = h0 := by rw [← hh, Bd.state]; rfl
  have N0 := Fr.nil n0
  have pre0 : ∀ t, Steps p.tables e below (s₁.setTop (mkF m 0 (oL85 p2 a1) [])) t → Steps p.tables e below (s₁.setTop (entryFrame m #[(.ref a1), (.int p2), (.int (0 : Int32)), (.int (3 : Int32))] 5)) t := fun t k => castTop (ef_30 m a1 p2 (0 : Int32) (3 : Int32)) k
  obtain ⟨_, _, ⟨T3, L3, k3, n3⟩, -, X3, ⟨Lc3, hQ3, l3, y3, z3⟩, st3⟩ := Jvm.LawKit.callS X0 hx (y := (⟨"java/lang/StringUTF16", "getChar", "([BI)C"⟩ : MethodName)) hown (mvT hZ (hw _ (wI 100 rfl))) (mvT hZ (hw _ (wI 101 rfl))) (mvT hZ (hw _ (wI 69 rfl))) (mvT hZ (hw _ (wI 102 rfl))) (by decide) (backOf (W := 0) (rm23 l Z a0 hw [] a1 (0 : Int32) 0 (StrChars.lo8 c0) (StrChars.hi8 c0) c0 k_a1 (6 : Int32) [(.int (StrChars.lo8 c0)), (.int (StrChars.hi8 c0)), (.int (StrChars.lo8 c1)), (.int (StrChars.hi8 c1)), (.int (StrChars.lo8 c2)), (.int (StrChars.hi8 c2))] (.int (0 : Int32)) h0 n0 Z0 S__assertionsDisabled X00 S_HI_BYTE_SHIFT S_LO_BYTE_SHIFT V_a1 ⟨by decide, by decide⟩ (by decide) rfl ⟨by decide, by decide⟩ (by decide) rfl (own_pair (hcs c0 (by simp)))) hZ (hw _ (wI 102 rfl)) (hw _ (wI 69 rfl)) (by decide) (by decide)) (g := (mkF m 12 (oL86 p2 a1) [(.int (0 : Int32)), (.ref a1)])) rfl (by rw [hml]; rfl) (argsL := [(.ref a1), (.int (0 : Int32))]) (rest := []) (lenOf pd_30_17 rfl) rfl (by show 2 * 0 + _ ≤ _; exact Nat.le_of_eq rfl) (hb hby d30_12) (fun _ _ => ⟨rfl, e0, (by decide : 0 + 0 ≤ _), (by decide : 0 + 0 ≤ _)⟩)
  dsimp only [Pt.U, Pt.locs, Pt.cells, Pt.slots] at X3 l3 y3 z3 st3 hQ3
  subst l3 y3 z3
  obtain ⟨rfl, N3q, eq3⟩ := hQ3
  have N3 := Fr.app N0 N3q
  have Kq3 : Keep h0 T3.heap [] := (own_keq eq3)
  have K3 : Keep h0 T3.heap [] := (Keep.refl h0 []).trans Kq3 all0
  obtain ⟨_, _, ⟨T4, L4, k4, n4⟩, -, X4, ⟨Lc4, hQ4, l4, y4, z4⟩, st4⟩ := Jvm.LawKit.callS X3 hx (y := (⟨"java/lang/StringUTF16", "getChar", "([BI)C"⟩ : MethodName)) hown (mvT hZ (hw _ (wI 100 rfl))) (mvT hZ (hw _ (wI 101 rfl))) (mvT hZ (hw _ (wI 69 rfl))) (mvT hZ (hw _ (wI 102 rfl))) (by decide) (backOf (W := 0) (rm23 l Z a0 hw [] a1 ((0 : Int32) + (1 : Int32)) 2 (StrChars.lo8 c1) (StrChars.hi8 c1) c1 k_a1 (6 : Int32) [(.int (StrChars.lo8 c0)), (.int (StrChars.hi8 c0)), (.int (StrChars.lo8 c1)), (.int (StrChars.hi8 c1)), (.int (StrChars.lo8 c2)), (.int (StrChars.hi8 c2))] (.int (0 : Int32)) T3.heap n0 (Nat.le_trans Z0 Kq3.1) S__assertionsDisabled (X00.keep K3 all0) S_HI_BYTE_SHIFT S_LO_BYTE_SHIFT (V_a1.keep Kq3 (fun q => nomatch q)) ⟨by decide, by decide⟩ (by decide) rfl ⟨by decide, by decide⟩ (by decide) rfl (own_pair (hcs c1 (by simp)))) hZ (hw _ (wI 102 rfl)) (hw _ (wI 69 rfl)) (by decide) (by decide)) (g := (mkF m 12 (oL87 p2 a1) [(.int ((0 : Int32) + (1 : Int32))), (.ref a1)])) rfl (by rw [hml]; rfl) (argsL := [(.ref a1), (.int ((0 : Int32) + (1 : Int32)))]) (rest := []) (lenOf pd_30_17 rfl) rfl (by show 2 * 0 + _ ≤ _; exact Nat.le_of_eq rfl) (hb hby d30_12) (fun _ _ => ⟨rfl, rfl, (by decide : 0 + 0 ≤ _), (by decide : 0 + 0 ≤ _)⟩)
  dsimp only [Pt.U, Pt.locs, Pt.cells, Pt.slots] at X4 l4 y4 z4 st4 hQ4
  subst l4 y4 z4
  obtain ⟨rfl, N4q, eq4⟩ := hQ4
  have N4 := Fr.app N3 N4q
  have Kq4 : Keep T3.heap T4.heap [] := (own_keq eq4)
  have K4 : Keep h0 T4.heap [] := K3.trans Kq4 all0
  obtain ⟨fs, hr, hrun, hended, hW, hsame⟩ := X4.leave (v := some (.int ((0 : Int32) + (1 : Int32)))) (fun h => by rw [Bd.returns] at h; cases h)
  refine ⟨_, _, pre0 _ ?_, hrun, hended, _, _, rfl, ?_, ⟨_, rfl⟩, hW, hsame.mono (by decide) (by decide)⟩
  · show Steps p.tables e below (s₁.setTop (mkF m 0 (oL85 p2 a1) [])) _
    refine XS.iloadN X0.here hx rfl (hb hby d30_0) rfl ?_
    refine XS.istore X0.here hx rfl (hb hby d30_1) rfl (l' := (oL86 p2 a1)) rfl ?_
    refine XS.iload X0.here hx rfl (hb hby d30_3) rfl ?_
    refine XS.iloadN X0.here hx rfl (hb hby d30_5) rfl ?_
    refine XS.icmpNo X0.here hx rfl (hb hby d30_6) rfl (tlt (by decide : (0 : Int32) < (3 : Int32))).2.1 ?_
    show Steps p.tables e below (s₁.setTop (mkF m 9 (oL86 p2 a1) [])) _
    refine XS.aloadN X0.here hx rfl (hb hby d30_9) rfl rfl ?_
    refine XS.iload X0.here hx rfl (hb hby d30_10) rfl ?_
    refine st3 _ ?_
    refine XS.iloadN X3.here hx rfl (hb hby d30_15) rfl ?_
    refine XS.icmpYes X3.here hx rfl (pc0 := 16) (pc' := 22) rfl (hb hby d30_16) rfl (feq hc16).2 (by decide) (by decide) ?_
    show Steps p.tables e below (T3.setTop (mkF m 22 (oL86 p2 a1) [])) _
    refine XS.iinc X3.here hx rfl (hb hby d30_22) rfl (l' := (oL87 p2 a1)) rfl ?_
    refine XS.goto X3.here hx rfl (pc0 := 25) (pc' := 3) rfl (hb hby d30_25) (by decide) (by decide) ?_
    refine XS.iload X3.here hx rfl (hb hby d30_3) rfl ?_
    refine XS.iloadN X3.here hx rfl (hb hby d30_5) rfl ?_
    refine XS.icmpNo X3.here hx rfl (hb hby d30_6) rfl (tlt (by decide : ((0 : Int32) + (1 : Int32)) < (3 : Int32))).2.1 ?_
    show Steps p.tables e below (T3.setTop (mkF m 9 (oL87 p2 a1) [])) _
    refine XS.aloadN X3.here hx rfl (hb hby d30_9) rfl rfl ?_
    refine XS.iload X3.here hx rfl (hb hby d30_10) rfl ?_
    refine st4 _ ?_
    refine XS.iloadN X4.here hx rfl (hb hby d30_15) rfl ?_
    refine XS.icmpNo X4.here hx rfl (hb hby d30_16) rfl (teq hc16_20).2 ?_
    show Steps p.tables e below (T4.setTop (mkF m 19 (oL87 p2 a1) [])) _
    refine XS.iload X4.here hx rfl (hb hby d30_19) rfl ?_
    exact retI X4 hx Bd.returns (hb hby d30_21) hr
  · show own_QR (.int (1 : Int32)) h0 n0 _ T4.heap _
    exact ⟨congrArg (fun z => some (Value.int z)) (by decide), N4, (eq4.trans eq3)⟩
abbrev oL88 (p2 : Int32) (a1 : Addr) : Array Slot := #[.val (.ref a1), .val (.int p2), .val (.int (0 : Int32)), .val (.int (3 : Int32)), .val (.int (((0 : Int32) + (1 : Int32)) + (1 : Int32)))]
set_option maxRecDepth 65536 in
set_option maxHeartbeats 40000000 in
theorem rm30_3_2 (l : Launch) (Z : State) (a0 : Array Value) (hw : ∀ d ∈ tables_1, d.before a0 Z = true) (ws : List Jvm.Cond) (a1 : Addr) (p2 : Int32) (_q3 : Int32) (_q4 : Int32) (c0 : Int32) (c1 : Int32) (c2 : Int32) (k_a1 : ClassId) (h0 : Heap) (n0 : Nat) (Z0 : n0 ≤ h0.size) (S__assertionsDisabled : Sta Z Z.heap "java/lang/StringUTF16" "$assertionsDisabled" "Z" (.int (1 : Int32))) (X00 : Old Z n0 h0) (S_HI_BYTE_SHIFT : Sta Z Z.heap "java/lang/StringUTF16" "HI_BYTE_SHIFT" "I" (.int (0 : Int32))) (S_LO_BYTE_SHIFT : Sta Z Z.heap "java/lang/StringUTF16" "LO_BYTE_SHIFT" "I" (.int (8 : Int32))) (V_a1 : Arv Z h0 a1 k_a1 .byte (6 : Int32) [(.int (StrChars.lo8 c0)), (.int (StrChars.hi8 c0)), (.int (StrChars.lo8 c1)), (.int (StrChars.hi8 c1)), (.int (StrChars.lo8 c2)), (.int (StrChars.hi8 c2))] (.int (0 : Int32))) (hcs : ∀ c ∈ [c0, c1, c2], ¬ c < 0 ∧ ¬ (65535 : Int32) < c) (hc16 : ¬ (c0 = p2)) (hc16_20 : ¬ (c1 = p2)) (hc16_30 : c2 = p2) :
    MetFree l (⟨"java/lang/StringUTF16", "indexOfCharUnsafe", "([BIII)I"⟩ : MethodName) (head1 (Jvm.Cond.code (⟨"java/lang/StringUTF16", "indexOfCharUnsafe", "([BIII)I"⟩ : MethodName) jdk_52_method_48_code 5 (some .int) :: ws) ({ frames := 1, cells := 0, slots := 0, locals := 13 } : Room)) (fun a U => a = #[(.ref a1), (.int p2), (.int (0 : Int32)), (.int (3 : Int32))] ∧ Z.Warmed39 U.vm ∧ U.heap = h0) (fun _ _ _ _ _ => True) (fun _ U o U' => ∃ v L, o = .returned v ∧ own_QR (.int (2 : Int32)) h0 n0 v U'.heap L ∧ FrameEnd U o U' L ({ frames := 1, cells := 0, slots := 0, locals := 13 } : Room).cells ({ frames := 1, cells := 0, slots := 0, locals := 13 } : Room).slots) := by
  refine MetFree.of_bodySF (plainFor_of_name pn_30) hisR ?_
  intro p e s m args below meth c s₁ Bd hml0 hP hK
  obtain ⟨rfl, hZ, hh⟩ := hP
  have hx := Bd.exec
  have hby := Bd.bytes
  have hml : c.maxLocals = 5 := hml0
  have hown : s.vm.findClass "java/lang/StringUTF16" = some m.cls := findClass_of_methodNamed Bd.named
  have hnm := (name_of_methodNamed Bd.named Bd.method).1
  have X0 : Stand p l e ({ frames := 1, cells := 0, slots := 0, locals := 13 } : Room) s m #[(.ref a1), (.int p2), (.int (0 : Int32)), (.int (3 : Int32))] below meth c s₁ [] 0 0 := Stand.of_body Bd
  have e0 : s₁.heap = h0 := by rw [← hh, Bd.state]; rfl
  have N0 := Fr.nil n0
  have pre0 : ∀ t, Steps p.tables e below (s₁.setTop (mkF m 0 (oL85 p2 a1) [])) t → Steps p.tables e below (s₁.setTop (entryFrame m #[(.ref a1), (.int p2), (.int (0 : Int32)), (.int (3 : Int32))] 5)) t := fun t k => castTop (ef_30 m a1 p2 (0 : Int32) (3 : Int32)) k
  obtain ⟨_, _, ⟨T3, L3, k3, n3⟩, -, X3, ⟨Lc3, hQ3, l3, y3, z3⟩, st3⟩ := Jvm.LawKit.callS X0 hx (y := (⟨"java/lang/StringUTF16", "getChar", "([BI)C"⟩ : MethodName)) hown (mvT hZ (hw _ (wI 100 rfl))) (mvT hZ (hw _ (wI 101 rfl))) (mvT hZ (hw _ (wI 69 rfl))) (mvT hZ (hw _ (wI 102 rfl))) (by decide) (backOf (W := 0) (rm23 l Z a0 hw [] a1 (0 : Int32) 0 (StrChars.lo8 c0) (StrChars.hi8 c0) c0 k_a1 (6 : Int32) [(.int (StrChars.lo8 c0)), (.int (StrChars.hi8 c0)), (.int (StrChars.lo8 c1)), (.int (StrChars.hi8 c1)), (.int (StrChars.lo8 c2)), (.int (StrChars.hi8 c2))] (.int (0 : Int32)) h0 n0 Z0 S__assertionsDisabled X00 S_HI_BYTE_SHIFT S_LO_BYTE_SHIFT V_a1 ⟨by decide, by decide⟩ (by decide) rfl ⟨by decide, by decide⟩ (by decide) rfl (own_pair (hcs c0 (by simp)))) hZ (hw _ (wI 102 rfl)) (hw _ (wI 69 rfl)) (by decide) (by decide)) (g := (mkF m 12 (oL86 p2 a1) [(.int (0 : Int32)), (.ref a1)])) rfl (by rw [hml]; rfl) (argsL := [(.ref a1), (.int (0 : Int32))]) (rest := []) (lenOf pd_30_17 rfl) rfl (by show 2 * 0 + _ ≤ _; exact Nat.le_of_eq rfl) (hb hby d30_12) (fun _ _ => ⟨rfl, e0, (by decide : 0 + 0 ≤ _), (by decide : 0 + 0 ≤ _)⟩)
  dsimp only [Pt.U, Pt.locs, Pt.cells, Pt.slots] at X3 l3 y3 z3 st3 hQ3
  subst l3 y3 z3
  obtain ⟨rfl, N3q, eq3⟩ := hQ3
  have N3 := Fr.app N0 N3q
  have Kq3 : Keep h0 T3.heap [] := (own_keq eq3)
  have K3 : Keep h0 T3.heap [] := (Keep.refl h0 []).trans Kq3 all0
  obtain ⟨_, _, ⟨T4, L4, k4, n4⟩, -, X4, ⟨Lc4, hQ4, l4, y4, z4⟩, st4⟩ := Jvm.LawKit.callS X3 hx (y := (⟨"java/lang/StringUTF16", "getChar", "([BI)C"⟩ : MethodName)) hown (mvT hZ (hw _ (wI 100 rfl))) (mvT hZ (hw _ (wI 101 rfl))) (mvT hZ (hw _ (wI 69 rfl))) (mvT hZ (hw _ (wI 102 rfl))) (by decide) (backOf (W := 0) (rm23 l Z a0 hw [] a1 ((0 : Int32) + (1 : Int32)) 2 (StrChars.lo8 c1) (StrChars.hi8 c1) c1 k_a1 (6 : Int32) [(.int (StrChars.lo8 c0)), (.int (StrChars.hi8 c0)), (.int (StrChars.lo8 c1)), (.int (StrChars.hi8 c1)), (.int (StrChars.lo8 c2)), (.int (StrChars.hi8 c2))] (.int (0 : Int32)) T3.heap n0 (Nat.le_trans Z0 Kq3.1) S__assertionsDisabled (X00.keep K3 all0) S_HI_BYTE_SHIFT S_LO_BYTE_SHIFT (V_a1.keep Kq3 (fun q => nomatch q)) ⟨by decide, by decide⟩ (by decide) rfl ⟨by decide, by decide⟩ (by decide) rfl (own_pair (hcs c1 (by simp)))) hZ (hw _ (wI 102 rfl)) (hw _ (wI 69 rfl)) (by decide) (by decide)) (g := (mkF m 12 (oL87 p2 a1) [(.int ((0 : Int32) + (1 : Int32))), (.ref a1)])) rfl (by rw [hml]; rfl) (argsL := [(.ref a1), (.int ((0 : Int32) + (1 : Int32)))]) (rest := []) (lenOf pd_30_17 rfl) rfl (by show 2 * 0 + _ ≤ _; exact Nat.le_of_eq rfl) (hb hby d30_12) (fun _ _ => ⟨rfl, rfl, (by decide : 0 + 0 ≤ _), (by decide : 0 + 0 ≤ _)⟩)
  dsimp only [Pt.U, Pt.locs, Pt.cells, Pt.slots] at X4 l4 y4 z4 st4 hQ4
  subst l4 y4 z4
  obtain ⟨rfl, N4q, eq4⟩ := hQ4
  have N4 := Fr.app N3 N4q
  have Kq4 : Keep T3.heap T4.heap [] := (own_keq eq4)
  have K4 : Keep h0 T4.heap [] := K3.trans Kq4 all0
  obtain ⟨_, _, ⟨T5, L5, k5, n5⟩, -, X5, ⟨Lc5, hQ5, l5, y5, z5⟩, st5⟩ := Jvm.LawKit.callS X4 hx (y := (⟨"java/lang/StringUTF16", "getChar", "([BI)C"⟩ : MethodName)) hown (mvT hZ (hw _ (wI 100 rfl))) (mvT hZ (hw _ (wI 101 rfl))) (mvT hZ (hw _ (wI 69 rfl))) (mvT hZ (hw _ (wI 102 rfl))) (by decide) (backOf (W := 0) (rm23 l Z a0 hw [] a1 (((0 : Int32) + (1 : Int32)) + (1 : Int32)) 4 (StrChars.lo8 c2) (StrChars.hi8 c2) c2 k_a1 (6 : Int32) [(.int (StrChars.lo8 c0)), (.int (StrChars.hi8 c0)), (.int (StrChars.lo8 c1)), (.int (StrChars.hi8 c1)), (.int (StrChars.lo8 c2)), (.int (StrChars.hi8 c2))] (.int (0 : Int32)) T4.heap n0 (Nat.le_trans (Nat.le_trans Z0 Kq3.1) Kq4.1) S__assertionsDisabled (X00.keep K4 all0) S_HI_BYTE_SHIFT S_LO_BYTE_SHIFT ((V_a1.keep Kq3 (fun q => nomatch q)).keep Kq4 (fun q => nomatch q)) ⟨by decide, by decide⟩ (by decide) rfl ⟨by decide, by decide⟩ (by decide) rfl (own_pair (hcs c2 (by simp)))) hZ (hw _ (wI 102 rfl)) (hw _ (wI 69 rfl)) (by decide) (by decide)) (g := (mkF m 12 (oL88 p2 a1) [(.int (((0 : Int32) + (1 : Int32)) + (1 : Int32))), (.ref a1)])) rfl (by rw [hml]; rfl) (argsL := [(.ref a1), (.int (((0 : Int32) + (1 : Int32)) + (1 : Int32)))]) (rest := []) (lenOf pd_30_17 rfl) rfl (by show 2 * 0 + _ ≤ _; exact Nat.le_of_eq rfl) (hb hby d30_12) (fun _ _ => ⟨rfl, rfl, (by decide : 0 + 0 ≤ _), (by decide : 0 + 0 ≤ _)⟩)
  dsimp only [Pt.U, Pt.locs, Pt.cells, Pt.slots] at X5 l5 y5 z5 st5 hQ5
  subst l5 y5 z5
  obtain ⟨rfl, N5q, eq5⟩ := hQ5
  have N5 := Fr.app N4 N5q
  have Kq5 : Keep T4.heap T5.heap [] := (own_keq eq5)
  have K5 : Keep h0 T5.heap [] := K4.trans Kq5 all0
  obtain ⟨fs, hr, hrun, hended, hW, hsame⟩ := X5.leave (v := some (.int (((0 : Int32) + (1 : Int32)) + (1 : Int32)))) (fun h => by rw [Bd.returns] at h; cases h)
  refine ⟨_, _, pre0 _ ?_, hrun, hended, _, _, rfl, ?_, ⟨_, rfl⟩, hW, hsame.mono (by decide) (by decide)⟩
  · show Steps p.tables e below (s₁.setTop (mkF m 0 (oL85 p2 a1) [])) _
    refine XS.iloadN X0.here hx rfl (hb hby d30_0) rfl ?_
    refine XS.istore X0.here hx rfl (hb hby d30_1) rfl (l' := (oL86 p2 a1)) rfl ?_
    refine XS.iload X0.here hx rfl (hb hby d30_3) rfl ?_
    refine XS.iloadN X0.here hx rfl (hb hby d30_5) rfl ?_
    refine XS.icmpNo X0.here hx rfl (hb hby d30_6) rfl (tlt (by decide : (0 : Int32) < (3 : Int32))).2.1 ?_
    show Steps p.tables e below (s₁.setTop (mkF m 9 (oL86 p2 a1) [])) _
    refine XS.aloadN X0.here hx rfl (hb hby d30_9) rfl rfl ?_
    refine XS.iload X0.here hx rfl (hb hby d30_10) rfl ?_
    refine st3 _ ?_
    refine XS.iloadN X3.here hx rfl (hb hby d30_15) rfl ?_
    refine XS.icmpYes X3.here hx rfl (pc0 := 16) (pc' := 22) rfl (hb hby d30_16) rfl (feq hc16).2 (by decide) (by decide) ?_
    show Steps p.tables e below (T3.setTop (mkF m 22 (oL86 p2 a1) [])) _
    refine XS.iinc X3.here hx rfl (hb hby d30_22) rfl (l' := (oL87 p2 a1)) rfl ?_
    refine XS.goto X3.here hx rfl (pc0 := 25) (pc' := 3) rfl (hb hby d30_25) (by decide) (by decide) ?_
    refine XS.iload X3.here hx rfl (hb hby d30_3) rfl ?_
    refine XS.iloadN X3.here hx rfl (hb hby d30_5) rfl ?_
    refine XS.icmpNo X3.here hx rfl (hb hby d30_6) rfl (tlt (by decide : ((0 : Int32) + (1 : Int32)) < (3 : Int32))).2.1 ?_
    show Steps p.tables e below (T3.setTop (mkF m 9 (oL87 p2 a1) [])) _
    refine XS.aloadN X3.here hx rfl (hb hby d30_9) rfl rfl ?_
    refine XS.iload X3.here hx rfl (hb hby d30_10) rfl ?_
    refine st4 _ ?_
    refine XS.iloadN X4.here hx rfl (hb hby d30_15) rfl ?_
    refine XS.icmpYes X4.here hx rfl (pc0 := 16) (pc' := 22) rfl (hb hby d30_16) rfl (feq hc16_20).2 (by decide) (by decide) ?_
    show Steps p.tables e below (T4.setTop (mkF m 22 (oL87 p2 a1) [])) _
    refine XS.iinc X4.here hx rfl (hb hby d30_22) rfl (l' := (oL88 p2 a1)) rfl ?_
    refine XS.goto X4.here hx rfl (pc0 := 25) (pc' := 3) rfl (hb hby d30_25) (by decide) (by decide) ?_
    refine XS.iload X4.here hx rfl (hb hby d30_3) rfl ?_
    refine XS.iloadN X4.here hx rfl (hb hby d30_5) rfl ?_
    refine XS.icmpNo X4.here hx rfl (hb hby d30_6) rfl (tlt (by decide : (((0 : Int32) + (1 : Int32)) + (1 : Int32)) < (3 : Int32))).2.1 ?_
    show Steps p.tables e below (T4.setTop (mkF m 9 (oL88 p2 a1) [])) _
    refine XS.aloadN X4.here hx rfl (hb hby d30_9) rfl rfl ?_
    refine XS.iload X4.here hx rfl (hb hby d30_10) rfl ?_
    refine st5 _ ?_
    refine XS.iloadN X5.here hx rfl (hb hby d30_15) rfl ?_
    refine XS.icmpNo X5.here hx rfl (hb hby d30_16) rfl (teq hc16_30).2 ?_
    show Steps p.tables e below (T5.setTop (mkF m 19 (oL88 p2 a1) [])) _
    refine XS.iload X5.here hx rfl (hb hby d30_19) rfl ?_
    exact retI X5 hx Bd.returns (hb hby d30_21) hr
  · show own_QR (.int (2 : Int32)) h0 n0 _ T5.heap _
    exact ⟨congrArg (fun z => some (Value.int z)) (by decide), N5, (eq5.trans (eq4.trans eq3))⟩
abbrev oL89 (p2 : Int32) (a1 : Addr) : Array Slot := #[.val (.ref a1), .val (.int p2), .val (.int (0 : Int32)), .val (.int (3 : Int32)), .val (.int ((((0 : Int32) + (1 : Int32)) + (1 : Int32)) + (1 : Int32)))]
set_option maxRecDepth 65536 in
set_option maxHeartbeats 40000000 in
theorem rm30_3_N (l : Launch) (Z : State) (a0 : Array Value) (hw : ∀ d ∈ tables_1, d.before a0 Z = true) (ws : List Jvm.Cond) (a1 : Addr) (p2 : Int32) (_q3 : Int32) (_q4 : Int32) (c0 : Int32) (c1 : Int32) (c2 : Int32) (k_a1 : ClassId) (h0 : Heap) (n0 : Nat) (Z0 : n0 ≤ h0.size) (S__assertionsDisabled : Sta Z Z.heap "java/lang/StringUTF16" "$assertionsDisabled" "Z" (.int (1 : Int32))) (X00 : Old Z n0 h0) (S_HI_BYTE_SHIFT : Sta Z Z.heap "java/lang/StringUTF16" "HI_BYTE_SHIFT" "I" (.int (0 : Int32))) (S_LO_BYTE_SHIFT : Sta Z Z.heap "java/lang/StringUTF16" "LO_BYTE_SHIFT" "I" (.int (8 : Int32))) (V_a1 : Arv Z h0 a1 k_a1 .byte (6 : Int32) [(.int (StrChars.lo8 c0)), (.int (StrChars.hi8 c0)), (.int (StrChars.lo8 c1)), (.int (StrChars.hi8 c1)), (.int (StrChars.lo8 c2)), (.int (StrChars.hi8 c2))] (.int (0 : Int32))) (hcs : ∀ c ∈ [c0, c1, c2], ¬ c < 0 ∧ ¬ (65535 : Int32) < c) (hc16 : ¬ (c0 = p2)) (hc16_20 : ¬ (c1 = p2)) (hc16_30 : ¬ (c2 = p2)) :
    MetFree l (⟨"java/lang/StringUTF16", "indexOfCharUnsafe", "([BIII)I"⟩ : MethodName) (head1 (Jvm.Cond.code (⟨"java/lang/StringUTF16", "indexOfCharUnsafe", "([BIII)I"⟩ : MethodName) jdk_52_method_48_code 5 (some .int) :: ws) ({ frames := 1, cells := 0, slots := 0, locals := 13 } : Room)) (fun a U => a = #[(.ref a1), (.int p2), (.int (0 : Int32)), (.int (3 : Int32))] ∧ Z.Warmed39 U.vm ∧ U.heap = h0) (fun _ _ _ _ _ => True) (fun _ U o U' => ∃ v L, o = .returned v ∧ own_QR (.int (-1 : Int32)) h0 n0 v U'.heap L ∧ FrameEnd U o U' L ({ frames := 1, cells := 0, slots := 0, locals := 13 } : Room).cells ({ frames := 1, cells := 0, slots := 0, locals := 13 } : Room).slots) := by
  refine MetFree.of_bodySF (plainFor_of_name pn_30) hisR ?_
  intro p e s m args below meth c s₁ Bd hml0 hP hK
  obtain ⟨rfl, hZ, hh⟩ := hP
  have hx := Bd.exec
  have hby := Bd.bytes
  have hml : c.maxLocals = 5 := hml0
  have hown : s.vm.findClass "java/lang/StringUTF16" = some m.cls := findClass_of_methodNamed Bd.named
  have hnm := (name_of_methodNamed Bd.named Bd.method).1
  have X0 : Stand p l e ({ frames := 1, cells := 0, slots := 0, locals := 13 } : Room) s m #[(.ref a1), (.int p2), (.int (0 : Int32)), (.int (3 : Int32))] below meth c s₁ [] 0 0 := Stand.of_body Bd
  have e0 : s₁.heap = h0 := by rw [← hh, Bd.state]; rfl
  have N0 := Fr.nil n0
  have pre0 : ∀ t, Steps p.tables e below (s₁.setTop (mkF m 0 (oL85 p2 a1) [])) t → Steps p.tables e below (s₁.setTop (entryFrame m #[(.ref a1), (.int p2), (.int (0 : Int32)), (.int (3 : Int32))] 5)) t := fun t k => castTop (ef_30 m a1 p2 (0 : Int32) (3 : Int32)) k
  obtain ⟨_, _, ⟨T3, L3, k3, n3⟩, -, X3, ⟨Lc3, hQ3, l3, y3, z3⟩, st3⟩ := Jvm.LawKit.callS X0 hx (y := (⟨"java/lang/StringUTF16", "getChar", "([BI)C"⟩ : MethodName)) hown (mvT hZ (hw _ (wI 100 rfl))) (mvT hZ (hw _ (wI 101 rfl))) (mvT hZ (hw _ (wI 69 rfl))) (mvT hZ (hw _ (wI 102 rfl))) (by decide) (backOf (W := 0) (rm23 l Z a0 hw [] a1 (0 : Int32) 0 (StrChars.lo8 c0) (StrChars.hi8 c0) c0 k_a1 (6 : Int32) [(.int (StrChars.lo8 c0)), (.int (StrChars.hi8 c0)), (.int (StrChars.lo8 c1)), (.int (StrChars.hi8 c1)), (.int (StrChars.lo8 c2)), (.int (StrChars.hi8 c2))] (.int (0 : Int32)) h0 n0 Z0 S__assertionsDisabled X00 S_HI_BYTE_SHIFT S_LO_BYTE_SHIFT V_a1 ⟨by decide, by decide⟩ (by decide) rfl ⟨by decide, by decide⟩ (by decide) rfl (own_pair (hcs c0 (by simp)))) hZ (hw _ (wI 102 rfl)) (hw _ (wI 69 rfl)) (by decide) (by decide)) (g := (mkF m 12 (oL86 p2 a1) [(.int (0 : Int32)), (.ref a1)])) rfl (by rw [hml]; rfl) (argsL := [(.ref a1), (.int (0 : Int32))]) (rest := []) (lenOf pd_30_17 rfl) rfl (by show 2 * 0 + _ ≤ _; exact Nat.le_of_eq rfl) (hb hby d30_12) (fun _ _ => ⟨rfl, e0, (by decide : 0 + 0 ≤ _), (by decide : 0 + 0 ≤ _)⟩)
  dsimp only [Pt.U, Pt.locs, Pt.cells, Pt.slots] at X3 l3 y3 z3 st3 hQ3
  subst l3 y3 z3
  obtain ⟨rfl, N3q, eq3⟩ := hQ3
  have N3 := Fr.app N0 N3q
  have Kq3 : Keep h0 T3.heap [] := (own_keq eq3)
  have K3 : Keep h0 T3.heap [] := (Keep.refl h0 []).trans Kq3 all0
  obtain ⟨_, _, ⟨T4, L4, k4, n4⟩, -, X4, ⟨Lc4, hQ4, l4, y4, z4⟩, st4⟩ := Jvm.LawKit.callS X3 hx (y := (⟨"java/lang/StringUTF16", "getChar", "([BI)C"⟩ : MethodName)) hown (mvT hZ (hw _ (wI 100 rfl))) (mvT hZ (hw _ (wI 101 rfl))) (mvT hZ (hw _ (wI 69 rfl))) (mvT hZ (hw _ (wI 102 rfl))) (by decide) (backOf (W := 0) (rm23 l Z a0 hw [] a1 ((0 : Int32) + (1 : Int32)) 2 (StrChars.lo8 c1) (StrChars.hi8 c1) c1 k_a1 (6 : Int32) [(.int (StrChars.lo8 c0)), (.int (StrChars.hi8 c0)), (.int (StrChars.lo8 c1)), (.int (StrChars.hi8 c1)), (.int (StrChars.lo8 c2)), (.int (StrChars.hi8 c2))] (.int (0 : Int32)) T3.heap n0 (Nat.le_trans Z0 Kq3.1) S__assertionsDisabled (X00.keep K3 all0) S_HI_BYTE_SHIFT S_LO_BYTE_SHIFT (V_a1.keep Kq3 (fun q => nomatch q)) ⟨by decide, by decide⟩ (by decide) rfl ⟨by decide, by decide⟩ (by decide) rfl (own_pair (hcs c1 (by simp)))) hZ (hw _ (wI 102 rfl)) (hw _ (wI 69 rfl)) (by decide) (by decide)) (g := (mkF m 12 (oL87 p2 a1) [(.int ((0 : Int32) + (1 : Int32))), (.ref a1)])) rfl (by rw [hml]; rfl) (argsL := [(.ref a1), (.int ((0 : Int32) + (1 : Int32)))]) (rest := []) (lenOf pd_30_17 rfl) rfl (by show 2 * 0 + _ ≤ _; exact Nat.le_of_eq rfl) (hb hby d30_12) (fun _ _ => ⟨rfl, rfl, (by decide : 0 + 0 ≤ _), (by decide : 0 + 0 ≤ _)⟩)
  dsimp only [Pt.U, Pt.locs, Pt.cells, Pt.slots] at X4 l4 y4 z4 st4 hQ4
  subst l4 y4 z4
  obtain ⟨rfl, N4q, eq4⟩ := hQ4
  have N4 := Fr.app N3 N4q
  have Kq4 : Keep T3.heap T4.heap [] := (own_keq eq4)
  have K4 : Keep h0 T4.heap [] := K3.trans Kq4 all0
  obtain ⟨_, _, ⟨T5, L5, k5, n5⟩, -, X5, ⟨Lc5, hQ5, l5, y5, z5⟩, st5⟩ := Jvm.LawKit.callS X4 hx (y := (⟨"java/lang/StringUTF16", "getChar", "([BI)C"⟩ : MethodName)) hown (mvT hZ (hw _ (wI 100 rfl))) (mvT hZ (hw _ (wI 101 rfl))) (mvT hZ (hw _ (wI 69 rfl))) (mvT hZ (hw _ (wI 102 rfl))) (by decide) (backOf (W := 0) (rm23 l Z a0 hw [] a1 (((0 : Int32) + (1 : Int32)) + (1 : Int32)) 4 (StrChars.lo8 c2) (StrChars.hi8 c2) c2 k_a1 (6 : Int32) [(.int (StrChars.lo8 c0)), (.int (StrChars.hi8 c0)), (.int (StrChars.lo8 c1)), (.int (StrChars.hi8 c1)), (.int (StrChars.lo8 c2)), (.int (StrChars.hi8 c2))] (.int (0 : Int32)) T4.heap n0 (Nat.le_trans (Nat.le_trans Z0 Kq3.1) Kq4.1) S__assertionsDisabled (X00.keep K4 all0) S_HI_BYTE_SHIFT S_LO_BYTE_SHIFT ((V_a1.keep Kq3 (fun q => nomatch q)).keep Kq4 (fun q => nomatch q)) ⟨by decide, by decide⟩ (by decide) rfl ⟨by decide, by decide⟩ (by decide) rfl (own_pair (hcs c2 (by simp)))) hZ (hw _ (wI 102 rfl)) (hw _ (wI 69 rfl)) (by decide) (by decide)) (g := (mkF m 12 (oL88 p2 a1) [(.int (((0 : Int32) + (1 : Int32)) + (1 : Int32))), (.ref a1)])) rfl (by rw [hml]; rfl) (argsL := [(.ref a1), (.int (((0 : Int32) + (1 : Int32)) + (1 : Int32)))]) (rest := []) (lenOf pd_30_17 rfl) rfl (by show 2 * 0 + _ ≤ _; exact Nat.le_of_eq rfl) (hb hby d30_12) (fun _ _ => ⟨rfl, rfl, (by decide : 0 + 0 ≤ _), (by decide : 0 + 0 ≤ _)⟩)
  dsimp only [Pt.U, Pt.locs, Pt.cells, Pt.slots] at X5 l5 y5 z5 st5 hQ5
  subst l5 y5 z5
  obtain ⟨rfl, N5q, eq5⟩ := hQ5
  have N5 := Fr.app N4 N5q
  have Kq5 : Keep T4.heap T5.heap [] := (own_keq eq5)
  have K5 : Keep h0 T5.heap [] := K4.trans Kq5 all0
  obtain ⟨fs, hr, hrun, hended, hW, hsame⟩ := X5.leave (v := some (.int (-1 : Int32))) (fun h => by rw [Bd.returns] at h; cases h)
  refine ⟨_, _, pre0 _ ?_, hrun, hended, _, _, rfl, ?_, ⟨_, rfl⟩, hW, hsame.mono (by decide) (by decide)⟩
  · show Steps p.tables e below (s₁.setTop (mkF m 0 (oL85 p2 a1) [])) _
    refine XS.iloadN X0.here hx rfl (hb hby d30_0) rfl ?_
    refine XS.istore X0.here hx rfl (hb hby d30_1) rfl (l' := (oL86 p2 a1)) rfl ?_
    refine XS.iload X0.here hx rfl (hb hby d30_3) rfl ?_
    refine XS.iloadN X0.here hx rfl (hb hby d30_5) rfl ?_
    refine XS.icmpNo X0.here hx rfl (hb hby d30_6) rfl (tlt (by decide : (0 : Int32) < (3 : Int32))).2.1 ?_
    show Steps p.tables e below (s₁.setTop (mkF m 9 (oL86 p2 a1) [])) _
    refine XS.aloadN X0.here hx rfl (hb hby d30_9) rfl rfl ?_
    refine XS.iload X0.here hx rfl (hb hby d30_10) rfl ?_
    refine st3 _ ?_
    refine XS.iloadN X3.here hx rfl (hb hby d30_15) rfl ?_
    refine XS.icmpYes X3.here hx rfl (pc0 := 16) (pc' := 22) rfl (hb hby d30_16) rfl (feq hc16).2 (by decide) (by decide) ?_
    show Steps p.tables e below (T3.setTop (mkF m 22 (oL86 p2 a1) [])) _
    refine XS.iinc X3.here hx rfl (hb hby d30_22) rfl (l' := (oL87 p2 a1)) rfl ?_
    refine XS.goto X3.here hx rfl (pc0 := 25) (pc' := 3) rfl (hb hby d30_25) (by decide) (by decide) ?_
    refine XS.iload X3.here hx rfl (hb hby d30_3) rfl ?_
    refine XS.iloadN X3.here hx rfl (hb hby d30_5) rfl ?_
    refine XS.icmpNo X3.here hx rfl (hb hby d30_6) rfl (tlt (by decide : ((0 : Int32) + (1 : Int32)) < (3 : Int32))).2.1 ?_
    show Steps p.tables e below (T3.setTop (mkF m 9 (oL87 p2 a1) [])) _
    refine XS.aloadN X3.here hx rfl (hb hby d30_9) rfl rfl ?_
    refine XS.iload X3.here hx rfl (hb hby d30_10) rfl ?_
    refine st4 _ ?_
    refine XS.iloadN X4.here hx rfl (hb hby d30_15) rfl ?_
    refine XS.icmpYes X4.here hx rfl (pc0 := 16) (pc' := 22) rfl (hb hby d30_16) rfl (feq hc16_20).2 (by decide) (by decide) ?_
    show Steps p.tables e below (T4.setTop (mkF m 22 (oL87 p2 a1) [])) _
    refine XS.iinc X4.here hx rfl (hb hby d30_22) rfl (l' := (oL88 p2 a1)) rfl ?_
    refine XS.goto X4.here hx rfl (pc0 := 25) (pc' := 3) rfl (hb hby d30_25) (by decide) (by decide) ?_
    refine XS.iload X4.here hx rfl (hb hby d30_3) rfl ?_
    refine XS.iloadN X4.here hx rfl (hb hby d30_5) rfl ?_
    refine XS.icmpNo X4.here hx rfl (hb hby d30_6) rfl (tlt (by decide : (((0 : Int32) + (1 : Int32)) + (1 : Int32)) < (3 : Int32))).2.1 ?_
    show Steps p.tables e below (T4.setTop (mkF m 9 (oL88 p2 a1) [])) _
    refine XS.aloadN X4.here hx rfl (hb hby d30_9) rfl rfl ?_
    refine XS.iload X4.here hx rfl (hb hby d30_10) rfl ?_
    refine st5 _ ?_
    refine XS.iloadN X5.here hx rfl (hb hby d30_15) rfl ?_
    refine XS.icmpYes X5.here hx rfl (pc0 := 16) (pc' := 22) rfl (hb hby d30_16) rfl (feq hc16_30).2 (by decide) (by decide) ?_
    show Steps p.tables e below (T5.setTop (mkF m 22 (oL88 p2 a1) [])) _
    refine XS.iinc X5.here hx rfl (hb hby d30_22) rfl (l' := (oL89 p2 a1)) rfl ?_
    refine XS.goto X5.here hx rfl (pc0 := 25) (pc' := 3) rfl (hb hby d30_25) (by decide) (by decide) ?_
    refine XS.iload X5.here hx rfl (hb hby d30_3) rfl ?_
    refine XS.iloadN X5.here hx rfl (hb hby d30_5) rfl ?_
    refine XS.icmpYes X5.here hx rfl (pc0 := 6) (pc' := 28) rfl (hb hby d30_6) rfl (flt (by decide : ¬ (((((0 : Int32) + (1 : Int32)) + (1 : Int32)) + (1 : Int32)) < (3 : Int32)))).2.1 (by decide) (by decide) ?_
    show Steps p.tables e below (T5.setTop (mkF m 28 (oL89 p2 a1) [])) _
    refine XS.iconst X5.here hx rfl (hb hby d30_28) ?_
    exact retI X5 hx Bd.returns (hb hby d30_29) hr
  · show own_QR (.int (-1 : Int32)) h0 n0 _ T5.heap _
    exact ⟨congrArg (fun z => some (Value.int z)) (by decide), N5, (eq5.trans (eq4.trans eq3))⟩
theorem rm30 (l : Launch) (Z : State) (a0 : Array Value) (hw : ∀ d ∈ tables_1, d.before a0 Z = true) (ws : List Jvm.Cond) (a1 : Addr) (p2 : Int32) (_q3 : Int32) (_q4 : Int32) (cs : List Int32) (k_a1 : ClassId) (h0 : Heap) (n0 : Nat) (Z0 : n0 ≤ h0.size) (S__assertionsDisabled : Sta Z Z.heap "java/lang/StringUTF16" "$assertionsDisabled" "Z" (.int (1 : Int32))) (X00 : Old Z n0 h0) (S_HI_BYTE_SHIFT : Sta Z Z.heap "java/lang/StringUTF16" "HI_BYTE_SHIFT" "I" (.int (0 : Int32))) (S_LO_BYTE_SHIFT : Sta Z Z.heap "java/lang/StringUTF16" "LO_BYTE_SHIFT" "I" (.int (8 : Int32))) (V_a1 : Arv Z h0 a1 k_a1 .byte (Int32.ofNat (2 * cs.length)) (own_b16 cs) (.int (0 : Int32))) (hl : cs.length = 1 ∨ cs.length = 2 ∨ cs.length = 3) (hcs : ∀ c ∈ cs, ¬ c < 0 ∧ ¬ (65535 : Int32) < c) :
    MetFree l (⟨"java/lang/StringUTF16", "indexOfCharUnsafe", "([BIII)I"⟩ : MethodName) (head1 (Jvm.Cond.code (⟨"java/lang/StringUTF16", "indexOfCharUnsafe", "([BIII)I"⟩ : MethodName) jdk_52_method_48_code 5 (some .int) :: ws) ({ frames := 1, cells := 0, slots := 0, locals := 13 } : Room)) (fun a U => a = #[(.ref a1), (.int p2), (.int (0 : Int32)), (.int (Int32.ofNat cs.length))] ∧ Z.Warmed39 U.vm ∧ U.heap = h0) (fun _ _ _ _ _ => True) (fun _ U o U' => ∃ v L, o = .returned v ∧ own_QR (.int (own_ix p2 cs (0 : Int32))) h0 n0 v U'.heap L ∧ FrameEnd U o U' L ({ frames := 1, cells := 0, slots := 0, locals := 13 } : Room).cells ({ frames := 1, cells := 0, slots := 0, locals := 13 } : Room).slots) := by
  rcases hl with hl | hl | hl
  · obtain ⟨c0, rfl⟩ := own_l1 hl
    by_cases u0 : c0 = p2
    · have e : own_ix p2 [c0] 0 = 0 := by simp [own_ix, u0]
      rw [e]; exact rm30_1_0 l Z a0 hw ws a1 p2 0 0 c0 k_a1 h0 n0 Z0 S__assertionsDisabled X00 S_HI_BYTE_SHIFT S_LO_BYTE_SHIFT V_a1 hcs u0
    · have e : own_ix p2 [c0] 0 = -1 := by simp [own_ix, u0]
      rw [e]; exact rm30_1_N l Z a0 hw ws a1 p2 0 0 c0 k_a1 h0 n0 Z0 S__assertionsDisabled X00 S_HI_BYTE_SHIFT S_LO_BYTE_SHIFT V_a1 hcs u0
  · obtain ⟨c0, c1, rfl⟩ := own_l2 hl
    by_cases u0 : c0 = p2
    · have e : own_ix p2 [c0, c1] 0 = 0 := by simp [own_ix, u0]
      rw [e]; exact rm30_2_0 l Z a0 hw ws a1 p2 0 0 c0 c1 k_a1 h0 n0 Z0 S__assertionsDisabled X00 S_HI_BYTE_SHIFT S_LO_BYTE_SHIFT V_a1 hcs u0
    · by_cases u1 : c1 = p2
      · have e : own_ix p2 [c0, c1] 0 = 1 := by simp [own_ix, u0, u1]
        rw [e]; exact rm30_2_1 l Z a0 hw ws a1 p2 0 0 c0 c1 k_a1 h0 n0 Z0 S__assertionsDisabled X00 S_HI_BYTE_SHIFT S_LO_BYTE_SHIFT V_a1 hcs u0 u1
      · have e : own_ix p2 [c0, c1] 0 = -1 := by simp [own_ix, u0, u1]
        rw [e]; exact rm30_2_N l Z a0 hw ws a1 p2 0 0 c0 c1 k_a1 h0 n0 Z0 S__assertionsDisabled X00 S_HI_BYTE_SHIFT S_LO_BYTE_SHIFT V_a1 hcs u0 u1
  · obtain ⟨c0, c1, c2, rfl⟩ := own_l3 hl
    by_cases u0 : c0 = p2
    · have e : own_ix p2 [c0, c1, c2] 0 = 0 := by simp [own_ix, u0]
      rw [e]; exact rm30_3_0 l Z a0 hw ws a1 p2 0 0 c0 c1 c2 k_a1 h0 n0 Z0 S__assertionsDisabled X00 S_HI_BYTE_SHIFT S_LO_BYTE_SHIFT V_a1 hcs u0
    · by_cases u1 : c1 = p2
      · have e : own_ix p2 [c0, c1, c2] 0 = 1 := by simp [own_ix, u0, u1]
        rw [e]; exact rm30_3_1 l Z a0 hw ws a1 p2 0 0 c0 c1 c2 k_a1 h0 n0 Z0 S__assertionsDisabled X00 S_HI_BYTE_SHIFT S_LO_BYTE_SHIFT V_a1 hcs u0 u1
      · by_cases u2 : c2 = p2
        · have e : own_ix p2 [c0, c1, c2] 0 = 2 := by simp [own_ix, u0, u1, u2]
          rw [e]; exact rm30_3_2 l Z a0 hw ws a1 p2 0 0 c0 c1 c2 k_a1 h0 n0 Z0 S__assertionsDisabled X00 S_HI_BYTE_SHIFT S_LO_BYTE_SHIFT V_a1 hcs u0 u1 u2
        · have e : own_ix p2 [c0, c1, c2] 0 = -1 := by simp [own_ix, u0, u1, u2]
          rw [e]; exact rm30_3_N l Z a0 hw ws a1 p2 0 0 c0 c1 c2 k_a1 h0 n0 Z0 S__assertionsDisabled X00 S_HI_BYTE_SHIFT S_LO_BYTE_SHIFT V_a1 hcs u0 u1 u2
theorem d25_0 : decode jdk_52_method_47_code 0 = .ok (.iload_n 2, 1) := by decide +kernel
theorem d25_1 : decode jdk_52_method_47_code 1 = .ok (.iload_n 3, 1) := by decide +kernel
theorem d25_2 : decode jdk_52_method_47_code 2 = .ok (.aload_n 0, 1) := by decide +kernel
theorem d25_3 : decode jdk_52_method_47_code 3 = .ok (.invokestatic 96, 3) := by decide +kernel
theorem d25_6 : decode jdk_52_method_47_code 6 = .ok (.aload_n 0, 1) := by decide +kernel
theorem d25_7 : decode jdk_52_method_47_code 7 = .ok (.iload_n 1, 1) := by decide +kernel
theorem d25_8 : decode jdk_52_method_47_code 8 = .ok (.iload_n 2, 1) := by decide +kernel
theorem d25_9 : decode jdk_52_method_47_code 9 = .ok (.iload_n 3, 1) := by decide +kernel
theorem d25_10 : decode jdk_52_method_47_code 10 = .ok (.invokestatic 244, 3) := by decide +kernel
theorem d25_13 : decode jdk_52_method_47_code 13 = .ok (.ireturn, 1) := by decide +kernel
theorem pn_25 : plainName "java/lang/StringUTF16" = true := by first | (simp [plainName, overriddenIn]; done) | decide +kernel
theorem pd_25_18 : parseMethodDescriptor "(II[B)V" = some ⟨[.int, .int, (.array .byte)], none⟩ := by decide +kernel
theorem pd_25_9 : parseMethodDescriptor "([BIII)I" = some ⟨[(.array .byte), .int, .int, .int], some .int⟩ := by decide +kernel
theorem ef_25 (m : MethodId) (x0 : Addr) (x1 : Int32) (x2 : Int32) (x3 : Int32) : entryFrame m #[(.ref x0), (.int x1), (.int x2), (.int x3)] 4 = mkF m 0 #[.val (.ref x0), .val (.int x1), .val (.int x2), .val (.int x3)] [] := by first | (simp [entryFrame, mkF, argsToLocals, Value.category]; done) | rfl
abbrev oL90 (p2 : Int32) (a1 : Addr) (cs : List Int32) : Array Slot := #[.val (.ref a1), .val (.int p2), .val (.int (0 : Int32)), .val (.int (Int32.ofNat cs.length))]
set_option maxRecDepth 65536 in
set_option maxHeartbeats 40000000 in
theorem rm25 (l : Launch) (Z : State) (a0 : Array Value) (hw : ∀ d ∈ tables_1, d.before a0 Z = true) (ws : List Jvm.Cond) (a1 : Addr) (p2 : Int32) (_q3 : Int32) (_q4 : Int32) (fm : Value) (cs : List Int32) (k_a1 : ClassId) (h0 : Heap) (n0 : Nat) (Z0 : n0 ≤ h0.size) (S__assertionsDisabled : Sta Z Z.heap "java/lang/StringUTF16" "$assertionsDisabled" "Z" (.int (1 : Int32))) (X00 : Old Z n0 h0) (S_HI_BYTE_SHIFT : Sta Z Z.heap "java/lang/StringUTF16" "HI_BYTE_SHIFT" "I" (.int (0 : Int32))) (S_LO_BYTE_SHIFT : Sta Z Z.heap "java/lang/StringUTF16" "LO_BYTE_SHIFT" "I" (.int (8 : Int32))) (V_a1 : Arv Z h0 a1 k_a1 .byte (Int32.ofNat (2 * cs.length)) (own_b16 cs) (.int (0 : Int32))) (S_SIOOBE_FORMATTER : Sta Z Z.heap "jdk/internal/util/Preconditions" "SIOOBE_FORMATTER" "Ljava/util/function/BiFunction;" fm) (rf : fm.isRef = true) (hl : cs.length = 1 ∨ cs.length = 2 ∨ cs.length = 3) (hcs : ∀ c ∈ cs, ¬ c < 0 ∧ ¬ (65535 : Int32) < c) :
    MetFree l (⟨"java/lang/StringUTF16", "indexOfChar", "([BIII)I"⟩ : MethodName) (head1 (Jvm.Cond.code (⟨"java/lang/StringUTF16", "indexOfChar", "([BIII)I"⟩ : MethodName) jdk_52_method_47_code 4 (some .int) :: ws) ({ frames := 3, cells := 0, slots := 0, locals := 43 } : Room)) (fun a U => a = #[(.ref a1), (.int p2), (.int (0 : Int32)), (.int (Int32.ofNat cs.length))] ∧ Z.Warmed39 U.vm ∧ U.heap = h0) (fun _ _ _ _ _ => True) (fun _ U o U' => ∃ v L, o = .returned v ∧ own_QR (.int (own_ix p2 cs (0 : Int32))) h0 n0 v U'.heap L ∧ FrameEnd U o U' L ({ frames := 3, cells := 0, slots := 0, locals := 43 } : Room).cells ({ frames := 3, cells := 0, slots := 0, locals := 43 } : Room).slots) := by
  refine MetFree.of_bodySF (plainFor_of_name pn_25) hisR ?_
  intro p e s m args below meth c s₁ Bd hml0 hP hK
  obtain ⟨rfl, hZ, hh⟩ := hP
  have hx := Bd.exec
  have hby := Bd.bytes
  have hml : c.maxLocals = 4 := hml0
  have hown : s.vm.findClass "java/lang/StringUTF16" = some m.cls := findClass_of_methodNamed Bd.named
  have hnm := (name_of_methodNamed Bd.named Bd.method).1
  have X0 : Stand p l e ({ frames := 3, cells := 0, slots := 0, locals := 43 } : Room) s m #[(.ref a1), (.int p2), (.int (0 : Int32)), (.int (Int32.ofNat cs.length))] below meth c s₁ [] 0 0 := Stand.of_body Bd
  have e0 : s₁.heap = h0 := by rw [← hh, Bd.state]; rfl
  have N0 := Fr.nil n0
  have pre0 : ∀ t, Steps p.tables e below (s₁.setTop (mkF m 0 (oL90 p2 a1 cs) [])) t → Steps p.tables e below (s₁.setTop (entryFrame m #[(.ref a1), (.int p2), (.int (0 : Int32)), (.int (Int32.ofNat cs.length))] 4)) t := fun t k => castTop (ef_25 m a1 p2 (0 : Int32) (Int32.ofNat cs.length)) k
  obtain ⟨_, _, ⟨T3, L3, k3, n3⟩, -, X3, ⟨Lc3, hQ3, l3, y3, z3⟩, st3⟩ := Jvm.LawKit.callS X0 hx (y := (⟨"java/lang/StringUTF16", "checkBoundsBeginEnd", "(II[B)V"⟩ : MethodName)) hown (mvT hZ (hw _ (wI 112 rfl))) (mvT hZ (hw _ (wI 113 rfl))) (mvT hZ (hw _ (wI 69 rfl))) (mvT hZ (hw _ (wI 114 rfl))) (by decide) (backOf (W := 0) (rm26 l Z a0 hw [] (0 : Int32) (Int32.ofNat cs.length) a1 fm cs k_a1 h0 n0 Z0 V_a1 S_SIOOBE_FORMATTER X00 rf hl) hZ (hw _ (wI 114 rfl)) (hw _ (wI 69 rfl)) (by decide) (by decide)) (g := (mkF m 3 (oL90 p2 a1 cs) [(.ref a1), (.int (Int32.ofNat cs.length)), (.int (0 : Int32))])) rfl (by rw [hml]; rfl) (argsL := [(.int (0 : Int32)), (.int (Int32.ofNat cs.length)), (.ref a1)]) (rest := []) (lenOf pd_25_18 rfl) rfl (by show 2 * 0 + _ ≤ _; exact Nat.le_of_eq rfl) (hb hby d25_3) (fun _ _ => ⟨rfl, e0, (by decide : 0 + 0 ≤ _), (by decide : 0 + 0 ≤ _)⟩)
  dsimp only [Pt.U, Pt.locs, Pt.cells, Pt.slots] at X3 l3 y3 z3 st3 hQ3
  subst l3 y3 z3
  obtain ⟨rfl, N3q, eq3⟩ := hQ3
  have N3 := Fr.app N0 N3q
  have Kq3 : Keep h0 T3.heap [] := (own_keq eq3)
  have K3 : Keep h0 T3.heap [] := (Keep.refl h0 []).trans Kq3 all0
  obtain ⟨_, _, ⟨T4, L4, k4, n4⟩, -, X4, ⟨Lc4, hQ4, l4, y4, z4⟩, st4⟩ := Jvm.LawKit.callS X3 hx (y := (⟨"java/lang/StringUTF16", "indexOfCharUnsafe", "([BIII)I"⟩ : MethodName)) hown (mvT hZ (hw _ (wI 126 rfl))) (mvT hZ (hw _ (wI 127 rfl))) (mvT hZ (hw _ (wI 69 rfl))) (mvT hZ (hw _ (wI 128 rfl))) (by decide) (backOf (W := 0) (rm30 l Z a0 hw [] a1 p2 (0 : Int32) (Int32.ofNat cs.length) cs k_a1 T3.heap n0 (Nat.le_trans Z0 Kq3.1) S__assertionsDisabled (X00.keep K3 all0) S_HI_BYTE_SHIFT S_LO_BYTE_SHIFT (V_a1.keep Kq3 (fun q => nomatch q)) hl hcs) hZ (hw _ (wI 128 rfl)) (hw _ (wI 69 rfl)) (by decide) (by decide)) (g := (mkF m 10 (oL90 p2 a1 cs) [(.int (Int32.ofNat cs.length)), (.int (0 : Int32)), (.int p2), (.ref a1)])) rfl (by rw [hml]; rfl) (argsL := [(.ref a1), (.int p2), (.int (0 : Int32)), (.int (Int32.ofNat cs.length))]) (rest := []) (lenOf pd_25_9 rfl) rfl (by show 2 * 0 + _ ≤ _; exact Nat.le_of_eq rfl) (hb hby d25_10) (fun _ _ => ⟨rfl, rfl, (by decide : 0 + 0 ≤ _), (by decide : 0 + 0 ≤ _)⟩)
  dsimp only [Pt.U, Pt.locs, Pt.cells, Pt.slots] at X4 l4 y4 z4 st4 hQ4
  subst l4 y4 z4
  obtain ⟨rfl, N4q, eq4⟩ := hQ4
  have N4 := Fr.app N3 N4q
  have Kq4 : Keep T3.heap T4.heap [] := (own_keq eq4)
  have K4 : Keep h0 T4.heap [] := K3.trans Kq4 all0
  obtain ⟨fs, hr, hrun, hended, hW, hsame⟩ := X4.leave (v := some (.int (own_ix p2 cs (0 : Int32)))) (fun h => by rw [Bd.returns] at h; cases h)
  refine ⟨_, _, pre0 _ ?_, hrun, hended, _, _, rfl, ?_, ⟨_, rfl⟩, hW, hsame.mono (by decide) (by decide)⟩
  · show Steps p.tables e below (s₁.setTop (mkF m 0 (oL90 p2 a1 cs) [])) _
    refine XS.iloadN X0.here hx rfl (hb hby d25_0) rfl ?_
    refine XS.iloadN X0.here hx rfl (hb hby d25_1) rfl ?_
    refine XS.aloadN X0.here hx rfl (hb hby d25_2) rfl rfl ?_
    refine st3 _ ?_
    refine XS.aloadN X3.here hx rfl (hb hby d25_6) rfl rfl ?_
    show Steps p.tables e below (T3.setTop (mkF m 7 (oL90 p2 a1 cs) [(.ref a1)])) _
    refine XS.iloadN X3.here hx rfl (hb hby d25_7) rfl ?_
    refine XS.iloadN X3.here hx rfl (hb hby d25_8) rfl ?_
    refine XS.iloadN X3.here hx rfl (hb hby d25_9) rfl ?_
    refine st4 _ ?_
    exact retI X4 hx Bd.returns (hb hby d25_13) hr
  · show own_QR (.int (own_ix p2 cs (0 : Int32))) h0 n0 _ T4.heap _
    exact ⟨rfl, N4, (eq4.trans eq3)⟩
theorem d24_0 : decode jdk_52_method_40_code 0 = .ok (.iload_n 2, 1) := by decide +kernel
theorem d24_1 : decode jdk_52_method_40_code 1 = .ok (.iconst 0, 1) := by decide +kernel
theorem d24_2 : decode jdk_52_method_40_code 2 = .ok (.invokestatic 224, 3) := by decide +kernel
theorem d24_5 : decode jdk_52_method_40_code 5 = .ok (.istore_n 2, 1) := by decide +kernel
theorem d24_6 : decode jdk_52_method_40_code 6 = .ok (.iload_n 3, 1) := by decide +kernel
theorem d24_7 : decode jdk_52_method_40_code 7 = .ok (.aload_n 0, 1) := by decide +kernel
theorem d24_8 : decode jdk_52_method_40_code 8 = .ok (.arraylength, 1) := by decide +kernel
theorem d24_9 : decode jdk_52_method_40_code 9 = .ok (.iconst 1, 1) := by decide +kernel
theorem d24_10 : decode jdk_52_method_40_code 10 = .ok (.ishr, 1) := by decide +kernel
theorem d24_11 : decode jdk_52_method_40_code 11 = .ok (.invokestatic 183, 3) := by decide +kernel
theorem d24_14 : decode jdk_52_method_40_code 14 = .ok (.istore_n 3, 1) := by decide +kernel
theorem d24_15 : decode jdk_52_method_40_code 15 = .ok (.iload_n 2, 1) := by decide +kernel
theorem d24_16 : decode jdk_52_method_40_code 16 = .ok (.iload_n 3, 1) := by decide +kernel
theorem d24_17 : decode jdk_52_method_40_code 17 = .ok (.if_icmp .lt 5, 3) := by decide +kernel
theorem d24_22 : decode jdk_52_method_40_code 22 = .ok (.iload_n 1, 1) := by decide +kernel
theorem d24_23 : decode jdk_52_method_40_code 23 = .ok (.ldc 227, 2) := by decide +kernel
theorem d24_25 : decode jdk_52_method_40_code 25 = .ok (.if_icmp .ge 11, 3) := by decide +kernel
theorem d24_28 : decode jdk_52_method_40_code 28 = .ok (.aload_n 0, 1) := by decide +kernel
theorem d24_29 : decode jdk_52_method_40_code 29 = .ok (.iload_n 1, 1) := by decide +kernel
theorem d24_30 : decode jdk_52_method_40_code 30 = .ok (.iload_n 2, 1) := by decide +kernel
theorem d24_31 : decode jdk_52_method_40_code 31 = .ok (.iload_n 3, 1) := by decide +kernel
theorem d24_32 : decode jdk_52_method_40_code 32 = .ok (.invokestatic 228, 3) := by decide +kernel
theorem d24_35 : decode jdk_52_method_40_code 35 = .ok (.ireturn, 1) := by decide +kernel
theorem pn_24 : plainName "java/lang/StringUTF16" = true := by first | (simp [plainName, overriddenIn]; done) | decide +kernel
theorem pd_24_5 : parseMethodDescriptor "(II)I" = some ⟨[.int, .int], some .int⟩ := by decide +kernel
theorem pd_24_9 : parseMethodDescriptor "([BIII)I" = some ⟨[(.array .byte), .int, .int, .int], some .int⟩ := by decide +kernel
theorem ef_24 (m : MethodId) (x0 : Addr) (x1 : Int32) (x2 : Int32) (x3 : Int32) : entryFrame m #[(.ref x0), (.int x1), (.int x2), (.int x3)] 4 = mkF m 0 #[.val (.ref x0), .val (.int x1), .val (.int x2), .val (.int x3)] [] := by first | (simp [entryFrame, mkF, argsToLocals, Value.category]; done) | rfl
set_option maxRecDepth 65536 in
set_option maxHeartbeats 40000000 in
theorem rm24 (l : Launch) (Z : State) (a0 : Array Value) (hw : ∀ d ∈ tables_1, d.before a0 Z = true) (ws : List Jvm.Cond) (a1 : Addr) (p2 : Int32) (_q3 : Int32) (_q4 : Int32) (fm : Value) (cs : List Int32) (k_a1 : ClassId) (h0 : Heap) (n0 : Nat) (Z0 : n0 ≤ h0.size) (S__assertionsDisabled : Sta Z Z.heap "java/lang/StringUTF16" "$assertionsDisabled" "Z" (.int (1 : Int32))) (X00 : Old Z n0 h0) (S_HI_BYTE_SHIFT : Sta Z Z.heap "java/lang/StringUTF16" "HI_BYTE_SHIFT" "I" (.int (0 : Int32))) (S_LO_BYTE_SHIFT : Sta Z Z.heap "java/lang/StringUTF16" "LO_BYTE_SHIFT" "I" (.int (8 : Int32))) (V_a1 : Arv Z h0 a1 k_a1 .byte (Int32.ofNat (2 * cs.length)) (own_b16 cs) (.int (0 : Int32))) (S_SIOOBE_FORMATTER : Sta Z Z.heap "jdk/internal/util/Preconditions" "SIOOBE_FORMATTER" "Ljava/util/function/BiFunction;" fm) (rf : fm.isRef = true) (hl : cs.length = 1 ∨ cs.length = 2 ∨ cs.length = 3) (hcs : ∀ c ∈ cs, ¬ c < 0 ∧ ¬ (65535 : Int32) < c) (hc17 : (0 : Int32) < (Int32.ofNat cs.length)) (hc25 : p2 < (65536 : Int32)) :
    MetFree l (⟨"java/lang/StringUTF16", "indexOf", "([BIII)I"⟩ : MethodName) (head1 (Jvm.Cond.code (⟨"java/lang/StringUTF16", "indexOf", "([BIII)I"⟩ : MethodName) jdk_52_method_40_code 4 (some .int) :: ws) ({ frames := 4, cells := 0, slots := 0, locals := 58 } : Room)) (fun a U => a = #[(.ref a1), (.int p2), (.int (0 : Int32)), (.int (Int32.ofNat cs.length))] ∧ Z.Warmed39 U.vm ∧ U.heap = h0) (fun _ _ _ _ _ => True) (fun _ U o U' => ∃ v L, o = .returned v ∧ own_QR (.int (own_ix p2 cs (0 : Int32))) h0 n0 v U'.heap L ∧ FrameEnd U o U' L ({ frames := 4, cells := 0, slots := 0, locals := 58 } : Room).cells ({ frames := 4, cells := 0, slots := 0, locals := 58 } : Room).slots) := by
  refine MetFree.of_bodySF (plainFor_of_name pn_24) hisR ?_
  intro p e s m args below meth c s₁ Bd hml0 hP hK
  obtain ⟨rfl, hZ, hh⟩ := hP
  have hx := Bd.exec
  have hby := Bd.bytes
  have hml : c.maxLocals = 4 := hml0
  have hown : s.vm.findClass "java/lang/StringUTF16" = some m.cls := findClass_of_methodNamed Bd.named
  have hnm := (name_of_methodNamed Bd.named Bd.method).1
  have X0 : Stand p l e ({ frames := 4, cells := 0, slots := 0, locals := 58 } : Room) s m #[(.ref a1), (.int p2), (.int (0 : Int32)), (.int (Int32.ofNat cs.length))] below meth c s₁ [] 0 0 := Stand.of_body Bd
  have e0 : s₁.heap = h0 := by rw [← hh, Bd.state]; rfl
  have N0 := Fr.nil n0
  have pre0 : ∀ t, Steps p.tables e below (s₁.setTop (mkF m 0 (oL90 p2 a1 cs) [])) t → Steps p.tables e below (s₁.setTop (entryFrame m #[(.ref a1), (.int p2), (.int (0 : Int32)), (.int (Int32.ofNat cs.length))] 4)) t := fun t k => castTop (ef_24 m a1 p2 (0 : Int32) (Int32.ofNat cs.length)) k
  obtain ⟨_, _, ⟨T3, L3, k3, n3⟩, -, X3, ⟨Lc3, hQ3, l3, y3, z3⟩, st3⟩ := Jvm.LawKit.callS X0 hx (y := (⟨"java/lang/Math", "max", "(II)I"⟩ : MethodName)) hown (mvT hZ (hw _ (wI 106 rfl))) (mvT hZ (hw _ (wI 61 rfl))) (mvT hZ (hw _ (wI 62 rfl))) (mvT hZ (hw _ (wI 63 rfl))) (by decide) (backOf (W := 0) (rm12 l Z a0 hw [] (0 : Int32) (0 : Int32)  h0 n0 Z0 (by decide)) hZ (hw _ (wI 63 rfl)) (hw _ (wI 62 rfl)) (by decide) (by decide)) (g := (mkF m 2 (oL90 p2 a1 cs) [(.int (0 : Int32)), (.int (0 : Int32))])) rfl (by rw [hml]; rfl) (argsL := [(.int (0 : Int32)), (.int (0 : Int32))]) (rest := []) (lenOf pd_24_5 rfl) rfl (by show 2 * 0 + _ ≤ _; exact Nat.le_of_eq rfl) (hb hby d24_2) (fun _ _ => ⟨rfl, e0, (by decide : 0 + 0 ≤ _), (by decide : 0 + 0 ≤ _)⟩)
  dsimp only [Pt.U, Pt.locs, Pt.cells, Pt.slots] at X3 l3 y3 z3 st3 hQ3
  subst l3 y3 z3
  obtain ⟨rfl, N3q, eq3⟩ := hQ3
  have N3 := Fr.app N0 N3q
  have Kq3 : Keep h0 T3.heap [] := (own_keq eq3)
  have K3 : Keep h0 T3.heap [] := (Keep.refl h0 []).trans Kq3 all0
  obtain ⟨cl_a1_8, Ar_a1, -, S_a1, N_a1, -, -⟩ := (V_a1.keep Kq3 (fun q => nomatch q))
  obtain ⟨_, _, ⟨T4, L4, k4, n4⟩, -, X4, ⟨Lc4, hQ4, l4, y4, z4⟩, st4⟩ := Jvm.LawKit.callS X3 hx (y := (⟨"java/lang/Math", "min", "(II)I"⟩ : MethodName)) hown (mvT hZ (hw _ (wI 107 rfl))) (mvT hZ (hw _ (wI 65 rfl))) (mvT hZ (hw _ (wI 62 rfl))) (mvT hZ (hw _ (wI 66 rfl))) (by decide) (backOf (W := 0) (rm13 l Z a0 hw [] (Int32.ofNat cs.length) ((Int32.ofNat (2 * cs.length)) >>> ((1 : Int32) &&& 31))  T3.heap n0 (Nat.le_trans Z0 Kq3.1) (by rw [own_shr1 hl]; exact own_irr _)) hZ (hw _ (wI 66 rfl)) (hw _ (wI 62 rfl)) (by decide) (by decide)) (g := (mkF m 11 (oL90 p2 a1 cs) [(.int ((Int32.ofNat (2 * cs.length)) >>> ((1 : Int32) &&& 31))), (.int (Int32.ofNat cs.length))])) rfl (by rw [hml]; rfl) (argsL := [(.int (Int32.ofNat cs.length)), (.int ((Int32.ofNat (2 * cs.length)) >>> ((1 : Int32) &&& 31)))]) (rest := []) (lenOf pd_24_5 rfl) rfl (by show 2 * 0 + _ ≤ _; exact Nat.le_of_eq rfl) (hb hby d24_11) (fun _ _ => ⟨rfl, rfl, (by decide : 0 + 0 ≤ _), (by decide : 0 + 0 ≤ _)⟩)
  dsimp only [Pt.U, Pt.locs, Pt.cells, Pt.slots] at X4 l4 y4 z4 st4 hQ4
  subst l4 y4 z4
  obtain ⟨rfl, N4q, eq4⟩ := hQ4
  have N4 := Fr.app N3 N4q
  have Kq4 : Keep T3.heap T4.heap [] := (own_keq eq4)
  have K4 : Keep h0 T4.heap [] := K3.trans Kq4 all0
  obtain ⟨_, _, ⟨T5, L5, k5, n5⟩, -, X5, ⟨Lc5, hQ5, l5, y5, z5⟩, st5⟩ := Jvm.LawKit.callS X4 hx (y := (⟨"java/lang/StringUTF16", "indexOfChar", "([BIII)I"⟩ : MethodName)) hown (mvT hZ (hw _ (wI 109 rfl))) (mvT hZ (hw _ (wI 110 rfl))) (mvT hZ (hw _ (wI 69 rfl))) (mvT hZ (hw _ (wI 111 rfl))) (by decide) (backOf (W := 0) (rm25 l Z a0 hw [] a1 p2 (0 : Int32) (Int32.ofNat cs.length) fm cs k_a1 T4.heap n0 (Nat.le_trans (Nat.le_trans Z0 Kq3.1) Kq4.1) S__assertionsDisabled (X00.keep K4 all0) S_HI_BYTE_SHIFT S_LO_BYTE_SHIFT ((V_a1.keep Kq3 (fun q => nomatch q)).keep Kq4 (fun q => nomatch q)) S_SIOOBE_FORMATTER rf hl hcs) hZ (hw _ (wI 111 rfl)) (hw _ (wI 69 rfl)) (by decide) (by decide)) (g := (mkF m 32 (oL90 p2 a1 cs) [(.int (Int32.ofNat cs.length)), (.int (0 : Int32)), (.int p2), (.ref a1)])) rfl (by rw [hml]; rfl) (argsL := [(.ref a1), (.int p2), (.int (0 : Int32)), (.int (Int32.ofNat cs.length))]) (rest := []) (lenOf pd_24_9 rfl) rfl (by show 2 * 0 + _ ≤ _; exact Nat.le_of_eq rfl) (hb hby d24_32) (fun _ _ => ⟨rfl, rfl, (by decide : 0 + 0 ≤ _), (by decide : 0 + 0 ≤ _)⟩)
  dsimp only [Pt.U, Pt.locs, Pt.cells, Pt.slots] at X5 l5 y5 z5 st5 hQ5
  subst l5 y5 z5
  obtain ⟨rfl, N5q, eq5⟩ := hQ5
  have N5 := Fr.app N4 N5q
  have Kq5 : Keep T4.heap T5.heap [] := (own_keq eq5)
  have K5 : Keep h0 T5.heap [] := K4.trans Kq5 all0
  obtain ⟨fs, hr, hrun, hended, hW, hsame⟩ := X5.leave (v := some (.int (own_ix p2 cs (0 : Int32)))) (fun h => by rw [Bd.returns] at h; cases h)
  refine ⟨_, _, pre0 _ ?_, hrun, hended, _, _, rfl, ?_, ⟨_, rfl⟩, hW, hsame.mono (by decide) (by decide)⟩
  · show Steps p.tables e below (s₁.setTop (mkF m 0 (oL90 p2 a1 cs) [])) _
    refine XS.iloadN X0.here hx rfl (hb hby d24_0) rfl ?_
    refine XS.iconst X0.here hx rfl (hb hby d24_1) ?_
    refine st3 _ ?_
    refine XS.istoreN X3.here hx rfl (hb hby d24_5) rfl (l' := (oL90 p2 a1 cs)) rfl ?_
    refine XS.iloadN X3.here hx rfl (hb hby d24_6) rfl ?_
    show Steps p.tables e below (T3.setTop (mkF m 7 (oL90 p2 a1 cs) [(.int (Int32.ofNat cs.length))])) _
    refine XS.aloadN X3.here hx rfl (hb hby d24_7) rfl rfl ?_
    refine X3.arraylength hx Ar_a1.1 (State.isArrayOf_alike hZ.alike Ar_a1.2.1) (g := (mkF m 8 (oL90 p2 a1 cs) [(.ref a1), (.int (Int32.ofNat cs.length))])) rfl rfl (hb hby d24_8) _ ?_
    rw [len_of S_a1 N_a1]
    refine XS.iconst X3.here hx rfl (hb hby d24_9) ?_
    refine XS.ishr X3.here hx rfl (hb hby d24_10) rfl ?_
    refine st4 _ ?_
    show Steps p.tables e below (T4.setTop (mkF m 14 (oL90 p2 a1 cs) [(.int (Int32.ofNat cs.length))])) _
    refine XS.istoreN X4.here hx rfl (hb hby d24_14) rfl (l' := (oL90 p2 a1 cs)) rfl ?_
    refine XS.iloadN X4.here hx rfl (hb hby d24_15) rfl ?_
    refine XS.iloadN X4.here hx rfl (hb hby d24_16) rfl ?_
    refine XS.icmpYes X4.here hx rfl (pc0 := 17) (pc' := 22) rfl (hb hby d24_17) rfl (tlt hc17).1 (by decide) (by decide) ?_
    refine XS.iloadN X4.here hx rfl (hb hby d24_22) rfl ?_
    show Steps p.tables e below (T4.setTop (mkF m 23 (oL90 p2 a1 cs) [(.int p2)])) _
    refine X4.ldcInt hx hown (mvT hZ (hw _ (wI 108 rfl))) (g := (mkF m 23 (oL90 p2 a1 cs) [(.int p2)])) rfl (hb hby d24_23) _ ?_
    refine XS.icmpNo X4.here hx rfl (hb hby d24_25) rfl (tlt hc25).2.1 ?_
    refine XS.aloadN X4.here hx rfl (hb hby d24_28) rfl rfl ?_
    refine XS.iloadN X4.here hx rfl (hb hby d24_29) rfl ?_
    refine XS.iloadN X4.here hx rfl (hb hby d24_30) rfl ?_
    show Steps p.tables e below (T4.setTop (mkF m 31 (oL90 p2 a1 cs) [(.int (0 : Int32)), (.int p2), (.ref a1)])) _
    refine XS.iloadN X4.here hx rfl (hb hby d24_31) rfl ?_
    refine st5 _ ?_
    exact retI X5 hx Bd.returns (hb hby d24_35) hr
  · show own_QR (.int (own_ix p2 cs (0 : Int32))) h0 n0 _ T5.heap _
    exact ⟨rfl, N5, (eq5.trans (eq4.trans eq3))⟩
theorem own_k16 {x : Int32} (h : ¬ x < 0 ∧ ¬ (255 : Int32) < x) : x < (65536 : Int32) := by
  have q := h.2
  rw [Int32.lt_iff_toInt_lt] at q ⊢
  have e1 : (255 : Int32).toInt = 255 := rfl
  have e2 : (65536 : Int32).toInt = 65536 := rfl
  omega
theorem d6_23 : decode jdk_42_method_80_code 23 = .ok (.aload_n 0, 1) := by decide +kernel
theorem d6_24 : decode jdk_42_method_80_code 24 = .ok (.getfield 9, 3) := by decide +kernel
theorem d6_27 : decode jdk_42_method_80_code 27 = .ok (.iload_n 1, 1) := by decide +kernel
theorem d6_28 : decode jdk_42_method_80_code 28 = .ok (.iload_n 2, 1) := by decide +kernel
theorem d6_29 : decode jdk_42_method_80_code 29 = .ok (.aload_n 0, 1) := by decide +kernel
theorem d6_30 : decode jdk_42_method_80_code 30 = .ok (.invokevirtual 505, 3) := by decide +kernel
theorem d6_33 : decode jdk_42_method_80_code 33 = .ok (.invokestatic 640, 3) := by decide +kernel
set_option maxRecDepth 65536 in
set_option maxHeartbeats 40000000 in
theorem rm6_U (l : Launch) (Z : State) (a0 : Array Value) (hw : ∀ d ∈ tables_1, d.before a0 Z = true) (ws : List Jvm.Cond) (a1 : Addr) (p2 : Int32) (_q3 : Int32) (G1 : Int32) (sv : Addr) (fm : Value) (cs : List Int32) (k_sv : ClassId) (h0 : Heap) (n0 : Nat) (Z0 : n0 ≤ h0.size) (S_COMPACT_STRINGS : Sta Z Z.heap "java/lang/String" "COMPACT_STRINGS" "Z" (.int G1)) (X00 : Old Z n0 h0) (P3 : ¬ (G1 = (0 : Int32))) (S__assertionsDisabled : Sta Z Z.heap "java/lang/StringUTF16" "$assertionsDisabled" "Z" (.int (1 : Int32))) (S_HI_BYTE_SHIFT : Sta Z Z.heap "java/lang/StringUTF16" "HI_BYTE_SHIFT" "I" (.int (0 : Int32))) (S_LO_BYTE_SHIFT : Sta Z Z.heap "java/lang/StringUTF16" "LO_BYTE_SHIFT" "I" (.int (8 : Int32))) (E_a1 : Exa Z h0 a1 "java/lang/String") (F_value_a1 : Fld Z h0 a1 "java/lang/String" "value" "[B" (.ref sv)) (F_coder_a1 : Fld Z h0 a1 "java/lang/String" "coder" "B" (.int (1 : Int32))) (V_sv : Arv Z h0 sv k_sv .byte (Int32.ofNat (2 * cs.length)) (own_b16 cs) (.int (0 : Int32))) (S_SIOOBE_FORMATTER : Sta Z Z.heap "jdk/internal/util/Preconditions" "SIOOBE_FORMATTER" "Ljava/util/function/BiFunction;" fm) (rf : fm.isRef = true) (hl : cs.length = 1 ∨ cs.length = 2 ∨ cs.length = 3) (hcs : ∀ c ∈ cs, ¬ c < 0 ∧ ¬ (65535 : Int32) < c) (hk : ¬ p2 < 0 ∧ ¬ (255 : Int32) < p2) :
    MetFree l (⟨"java/lang/String", "indexOf", "(II)I"⟩ : MethodName) (head1 (Jvm.Cond.code (⟨"java/lang/String", "indexOf", "(II)I"⟩ : MethodName) jdk_42_method_80_code 3 (some .int) :: ws) ({ frames := 5, cells := 0, slots := 0, locals := 73 } : Room)) (fun a U => a = #[(.ref a1), (.int p2), (.int (0 : Int32))] ∧ Z.Warmed39 U.vm ∧ U.heap = h0) (fun _ _ _ _ _ => True) (fun _ U o U' => ∃ v L, o = .returned v ∧ own_QR (.int (own_ix p2 cs (0 : Int32))) h0 n0 v U'.heap L ∧ FrameEnd U o U' L ({ frames := 5, cells := 0, slots := 0, locals := 73 } : Room).cells ({ frames := 5, cells := 0, slots := 0, locals := 73 } : Room).slots) := by
  refine MetFree.of_bodySF (plainFor_of_name pn_6) hisR ?_
  intro p e s m args below meth c s₁ Bd hml0 hP hK
  obtain ⟨rfl, hZ, hh⟩ := hP
  have hx := Bd.exec
  have hby := Bd.bytes
  have hml : c.maxLocals = 3 := hml0
  have hown : s.vm.findClass "java/lang/String" = some m.cls := findClass_of_methodNamed Bd.named
  have hnm := (name_of_methodNamed Bd.named Bd.method).1
  have X0 : Stand p l e ({ frames := 5, cells := 0, slots := 0, locals := 73 } : Room) s m #[(.ref a1), (.int p2), (.int (0 : Int32))] below meth c s₁ [] 0 0 := Stand.of_body Bd
  have e0 : s₁.heap = h0 := by rw [← hh, Bd.state]; rfl
  have N0 := Fr.nil n0
  have pre0 : ∀ t, Steps p.tables e below (s₁.setTop (mkF m 0 (oL73 p2 a1) [])) t → Steps p.tables e below (s₁.setTop (entryFrame m #[(.ref a1), (.int p2), (.int (0 : Int32))] 3)) t := fun t k => castTop (ef_6 m a1 p2 (0 : Int32)) k
  obtain ⟨cq3, kq3, q3a, q3b, q3c⟩ := isOf hZ e0 E_a1
  obtain ⟨_, _, ⟨T3, L3, k3, n3⟩, -, X3, ⟨Lc3, hQ3, l3, y3, z3⟩, st3⟩ := X0.virtualBack hx (y := (⟨"java/lang/String", "isLatin1", "()Z"⟩ : MethodName)) (z := (⟨"java/lang/String", "isLatin1", "()Z"⟩ : MethodName)) hown (mvT hZ (hw _ (wI 37 rfl))) (mvT hZ (hw _ (wI 38 rfl))) (notFace_of_selects (args := #[]) (mvT hZ (hw _ (wI 40 rfl)))) (mvT hZ (hw _ (wI 40 rfl))) (mvT hZ (hw _ (wI 39 rfl))) (by decide) (backOf (W := 0) (rm7_1 l Z a0 hw [] a1 G1 h0 n0 Z0 S_COMPACT_STRINGS X00 P3 E_a1 F_coder_a1) hZ (hw _ (wI 41 rfl)) (hw _ (wI 3 rfl)) (by decide) (by decide)) q3a q3c (g := (mkF m 1 (oL73 p2 a1) [(.ref a1)])) rfl (by rw [hml]; rfl) (Steps.refl _) (argsL := []) (rest := []) (lenOf pd_6_6 rfl) rfl (by show 2 * 0 + _ ≤ _; exact Nat.le_of_eq rfl) (hb hby d6_1) (fun _ _ => ⟨rfl, e0, (by decide : 0 + 0 ≤ _), (by decide : 0 + 0 ≤ _)⟩)
  dsimp only [Pt.U, Pt.locs, Pt.cells, Pt.slots] at X3 l3 y3 z3 st3 hQ3
  subst l3 y3 z3
  obtain ⟨rfl, N3q, eq3⟩ := hQ3
  have N3 := Fr.app N0 N3q
  have Kq3 : Keep h0 T3.heap [] := (own_keq eq3)
  have K3 : Keep h0 T3.heap [] := (Keep.refl h0 []).trans Kq3 all0
  obtain ⟨T4, X4, e4, st4⟩ := getF X3 hx hZ hown (host := "") (Or.inl (hw _ (wI 21 rfl))) Via.refl rfl (F_value_a1.keep Kq3 (fun q => nomatch q)) (g := (mkF m 24 (oL73 p2 a1) [(.ref a1)])) rfl rfl (hb hby d6_24)
  obtain ⟨cq5, kq5, q5a, q5b, q5c⟩ := isOf hZ e4 (E_a1.keep Kq3)
  obtain ⟨_, _, ⟨T5, L5, k5, n5⟩, -, X5, ⟨Lc5, hQ5, l5, y5, z5⟩, st5⟩ := X4.virtualBack hx (y := (⟨"java/lang/String", "length", "()I"⟩ : MethodName)) (z := (⟨"java/lang/String", "length", "()I"⟩ : MethodName)) hown (mvT hZ (hw _ (wI 43 rfl))) (mvT hZ (hw _ (wI 44 rfl))) (notFace_of_selects (args := #[]) (mvT hZ (hw _ (wI 46 rfl)))) (mvT hZ (hw _ (wI 46 rfl))) (mvT hZ (hw _ (wI 45 rfl))) (by decide) (backOf (W := 3) (rm8 l Z a0 hw [] a1 G1 sv (1 : Int32) (Int32.ofNat cs.length) k_sv (Int32.ofNat (2 * cs.length)) (own_b16 cs) (.int (0 : Int32)) T3.heap n0 (Nat.le_trans Z0 Kq3.1) S_COMPACT_STRINGS (X00.keep K3 all0) P3 (E_a1.keep Kq3) (F_value_a1.keep Kq3 (fun q => nomatch q)) (F_coder_a1.keep Kq3 (fun q => nomatch q)) (V_sv.keep Kq3 (fun q => nomatch q)) (by decide) (own_shr1 hl)) hZ (hw _ (wI 47 rfl)) (hw _ (wI 3 rfl)) (by decide) (by decide)) q5a q5c (g := (mkF m 30 (oL73 p2 a1) [(.ref a1), (.int (0 : Int32)), (.int p2), (.ref sv)])) rfl (by rw [hml]; rfl) (Steps.refl _) (argsL := []) (rest := [(.int (0 : Int32)), (.int p2), (.ref sv)]) (lenOf pd_6_7 rfl) rfl (by show 2 * 0 + _ ≤ _; exact Nat.le_of_eq rfl) (hb hby d6_30) (fun _ _ => ⟨rfl, e4, (by decide : 0 + 0 ≤ _), (by decide : 0 + 0 ≤ _)⟩)
  dsimp only [Pt.U, Pt.locs, Pt.cells, Pt.slots] at X5 l5 y5 z5 st5 hQ5
  subst l5 y5 z5
  obtain ⟨rfl, N5q, eq5⟩ := hQ5
  have N5 := Fr.app N3 N5q
  have Kq5 : Keep T3.heap T5.heap [] := (own_keq eq5)
  have K5 : Keep h0 T5.heap [] := K3.trans Kq5 all0
  obtain ⟨_, _, ⟨T6, L6, k6, n6⟩, -, X6, ⟨Lc6, hQ6, l6, y6, z6⟩, st6⟩ := Jvm.LawKit.callS X5 hx (y := (⟨"java/lang/StringUTF16", "indexOf", "([BIII)I"⟩ : MethodName)) hown (mvT hZ (hw _ (wI 103 rfl))) (mvT hZ (hw _ (wI 104 rfl))) (mvT hZ (hw _ (wI 69 rfl))) (mvT hZ (hw _ (wI 105 rfl))) (by decide) (backOf (W := 0) (rm24 l Z a0 hw [] sv p2 (0 : Int32) (Int32.ofNat cs.length) fm cs k_sv T5.heap n0 (Nat.le_trans (Nat.le_trans Z0 Kq3.1) Kq5.1) S__assertionsDisabled (X00.keep K5 all0) S_HI_BYTE_SHIFT S_LO_BYTE_SHIFT ((V_sv.keep Kq3 (fun q => nomatch q)).keep Kq5 (fun q => nomatch q)) S_SIOOBE_FORMATTER rf hl hcs (own_pos hl) (own_k16 hk)) hZ (hw _ (wI 105 rfl)) (hw _ (wI 69 rfl)) (by decide) (by decide)) (g := (mkF m 33 (oL73 p2 a1) [(.int (Int32.ofNat cs.length)), (.int (0 : Int32)), (.int p2), (.ref sv)])) rfl (by rw [hml]; rfl) (argsL := [(.ref sv), (.int p2), (.int (0 : Int32)), (.int (Int32.ofNat cs.length))]) (rest := []) (lenOf pd_6_9 rfl) rfl (by show 2 * 0 + _ ≤ _; exact Nat.le_of_eq rfl) (hb hby d6_33) (fun _ _ => ⟨rfl, rfl, (by decide : 0 + 0 ≤ _), (by decide : 0 + 0 ≤ _)⟩)
  dsimp only [Pt.U, Pt.locs, Pt.cells, Pt.slots] at X6 l6 y6 z6 st6 hQ6
  subst l6 y6 z6
  obtain ⟨rfl, N6q, eq6⟩ := hQ6
  have N6 := Fr.app N5 N6q
  have Kq6 : Keep T5.heap T6.heap [] := (own_keq eq6)
  have K6 : Keep h0 T6.heap [] := K5.trans Kq6 all0
  obtain ⟨fs, hr, hrun, hended, hW, hsame⟩ := X6.leave (v := some (.int (own_ix p2 cs (0 : Int32)))) (fun h => by rw [Bd.returns] at h; cases h)
  refine ⟨_, _, pre0 _ ?_, hrun, hended, _, _, rfl, ?_, ⟨_, rfl⟩, hW, hsame.mono (by decide) (by decide)⟩
  · show Steps p.tables e below (s₁.setTop (mkF m 0 (oL73 p2 a1) [])) _
    refine XS.aloadN X0.here hx rfl (hb hby d6_0) rfl rfl ?_
    refine st3.trans ?_
    refine XS.ifYes X3.here hx rfl (pc0 := 4) (pc' := 23) rfl (hb hby d6_4) rfl ((if0 _ _).trans (teq (rfl : (0 : Int32) = (0 : Int32))).1) (by decide) (by decide) ?_
    refine XS.aloadN X3.here hx rfl (hb hby d6_23) rfl rfl ?_
    refine st4 _ ?_
    show Steps p.tables e below (T4.setTop (mkF m 27 (oL73 p2 a1) [(.ref sv)])) _
    refine XS.iloadN X4.here hx rfl (hb hby d6_27) rfl ?_
    refine XS.iloadN X4.here hx rfl (hb hby d6_28) rfl ?_
    refine XS.aloadN X4.here hx rfl (hb hby d6_29) rfl rfl ?_
    refine st5.trans ?_
    refine st6 _ ?_
    show Steps p.tables e below (T6.setTop (mkF m 36 (oL73 p2 a1) [(.int (own_ix p2 cs (0 : Int32)))])) _
    exact retI X6 hx Bd.returns (hb hby d6_36) hr
  · show own_QR (.int (own_ix p2 cs (0 : Int32))) h0 n0 _ T6.heap _
    exact ⟨rfl, N6, (eq6.trans (eq5.trans eq3))⟩
theorem d5_0 : decode jdk_42_method_79_code 0 = .ok (.aload_n 0, 1) := by decide +kernel
theorem d5_1 : decode jdk_42_method_79_code 1 = .ok (.iload_n 1, 1) := by decide +kernel
theorem d5_2 : decode jdk_42_method_79_code 2 = .ok (.iconst 0, 1) := by decide +kernel
theorem d5_3 : decode jdk_42_method_79_code 3 = .ok (.invokevirtual 633, 3) := by decide +kernel
theorem d5_6 : decode jdk_42_method_79_code 6 = .ok (.ireturn, 1) := by decide +kernel
theorem pn_5 : plainName "java/lang/String" = true := by first | (simp [plainName, overriddenIn]; done) | decide +kernel
theorem pd_5_5 : parseMethodDescriptor "(II)I" = some ⟨[.int, .int], some .int⟩ := by decide +kernel
theorem ef_5 (m : MethodId) (x0 : Addr) (x1 : Int32) : entryFrame m #[(.ref x0), (.int x1)] 2 = mkF m 0 #[.val (.ref x0), .val (.int x1)] [] := by first | (simp [entryFrame, mkF, argsToLocals, Value.category]; done) | rfl
set_option maxRecDepth 65536 in
set_option maxHeartbeats 40000000 in
theorem rm5_L (l : Launch) (Z : State) (a0 : Array Value) (hw : ∀ d ∈ tables_1, d.before a0 Z = true) (ws : List Jvm.Cond) (a1 : Addr) (p2 : Int32) (G1 : Int32) (sv : Addr) (ys : List Int32) (k_sv : ClassId) (h0 : Heap) (n0 : Nat) (Z0 : n0 ≤ h0.size) (S_COMPACT_STRINGS : Sta Z Z.heap "java/lang/String" "COMPACT_STRINGS" "Z" (.int G1)) (X00 : Old Z n0 h0) (P3 : ¬ (G1 = (0 : Int32))) (E_a1 : Exa Z h0 a1 "java/lang/String") (F_value_a1 : Fld Z h0 a1 "java/lang/String" "value" "[B" (.ref sv)) (F_coder_a1 : Fld Z h0 a1 "java/lang/String" "coder" "B" (.int (0 : Int32))) (V_sv : Arv Z h0 sv k_sv .byte (Int32.ofNat ys.length) (ys.map Value.int) (.int (0 : Int32))) (hl : ys.length = 1 ∨ ys.length = 2 ∨ ys.length = 3) (hk : ¬ p2 < 0 ∧ ¬ (255 : Int32) < p2) :
    MetFree l (⟨"java/lang/String", "indexOf", "(I)I"⟩ : MethodName) (head1 (Jvm.Cond.code (⟨"java/lang/String", "indexOf", "(I)I"⟩ : MethodName) jdk_42_method_79_code 2 (some .int) :: ws) ({ frames := 6, cells := 0, slots := 0, locals := 87 } : Room)) (fun a U => a = #[(.ref a1), (.int p2)] ∧ Z.Warmed39 U.vm ∧ U.heap = h0) (fun _ _ _ _ _ => True) (fun _ U o U' => ∃ v L, o = .returned v ∧ own_QR (.int (own_ix (p2.toInt8.toInt32) ys (0 : Int32))) h0 n0 v U'.heap L ∧ FrameEnd U o U' L ({ frames := 6, cells := 0, slots := 0, locals := 87 } : Room).cells ({ frames := 6, cells := 0, slots := 0, locals := 87 } : Room).slots) := by
  refine MetFree.of_bodySF (plainFor_of_name pn_5) hisR ?_
  intro p e s m args below meth c s₁ Bd hml0 hP hK
  obtain ⟨rfl, hZ, hh⟩ := hP
  have hx := Bd.exec
  have hby := Bd.bytes
  have hml : c.maxLocals = 2 := hml0
  have hown : s.vm.findClass "java/lang/String" = some m.cls := findClass_of_methodNamed Bd.named
  have hnm := (name_of_methodNamed Bd.named Bd.method).1
  have X0 : Stand p l e ({ frames := 6, cells := 0, slots := 0, locals := 87 } : Room) s m #[(.ref a1), (.int p2)] below meth c s₁ [] 0 0 := Stand.of_body Bd
  have e0 : s₁.heap = h0 := by rw [← hh, Bd.state]; rfl
  have N0 := Fr.nil n0
  have pre0 : ∀ t, Steps p.tables e below (s₁.setTop (mkF m 0 #[.val (.ref a1), .val (.int p2)] [])) t → Steps p.tables e below (s₁.setTop (entryFrame m #[(.ref a1), (.int p2)] 2)) t := fun t k => castTop (ef_5 m a1 p2) k
  obtain ⟨cq3, kq3, q3a, q3b, q3c⟩ := isOf hZ e0 E_a1
  obtain ⟨_, _, ⟨T3, L3, k3, n3⟩, -, X3, ⟨Lc3, hQ3, l3, y3, z3⟩, st3⟩ := X0.virtualBack hx (y := (⟨"java/lang/String", "indexOf", "(II)I"⟩ : MethodName)) (z := (⟨"java/lang/String", "indexOf", "(II)I"⟩ : MethodName)) hown (mvT hZ (hw _ (wI 32 rfl))) (mvT hZ (hw _ (wI 33 rfl))) (notFace_of_selects (args := #[]) (mvT hZ (hw _ (wI 35 rfl)))) (mvT hZ (hw _ (wI 35 rfl))) (mvT hZ (hw _ (wI 34 rfl))) (by decide) (backOf (W := 0) (rm6_L l Z a0 hw [] a1 p2 (0 : Int32) G1 sv ys k_sv h0 n0 Z0 S_COMPACT_STRINGS X00 P3 E_a1 F_value_a1 F_coder_a1 V_sv hl hk) hZ (hw _ (wI 36 rfl)) (hw _ (wI 3 rfl)) (by decide) (by decide)) q3a q3c (g := (mkF m 3 #[.val (.ref a1), .val (.int p2)] [(.int (0 : Int32)), (.int p2), (.ref a1)])) rfl (by rw [hml]; rfl) (Steps.refl _) (argsL := [(.int p2), (.int (0 : Int32))]) (rest := []) (lenOf pd_5_5 rfl) rfl (by show 2 * 0 + _ ≤ _; exact Nat.le_of_eq rfl) (hb hby d5_3) (fun _ _ => ⟨rfl, e0, (by decide : 0 + 0 ≤ _), (by decide : 0 + 0 ≤ _)⟩)
  dsimp only [Pt.U, Pt.locs, Pt.cells, Pt.slots] at X3 l3 y3 z3 st3 hQ3
  subst l3 y3 z3
  obtain ⟨rfl, N3q, eq3⟩ := hQ3
  have N3 := Fr.app N0 N3q
  have Kq3 : Keep h0 T3.heap [] := (own_keq eq3)
  have K3 : Keep h0 T3.heap [] := (Keep.refl h0 []).trans Kq3 all0
  obtain ⟨fs, hr, hrun, hended, hW, hsame⟩ := X3.leave (v := some (.int (own_ix (p2.toInt8.toInt32) ys (0 : Int32)))) (fun h => by rw [Bd.returns] at h; cases h)
  refine ⟨_, _, pre0 _ ?_, hrun, hended, _, _, rfl, ?_, ⟨_, rfl⟩, hW, hsame.mono (by decide) (by decide)⟩
  · show Steps p.tables e below (s₁.setTop (mkF m 0 #[.val (.ref a1), .val (.int p2)] [])) _
    refine XS.aloadN X0.here hx rfl (hb hby d5_0) rfl rfl ?_
    refine XS.iloadN X0.here hx rfl (hb hby d5_1) rfl ?_
    refine XS.iconst X0.here hx rfl (hb hby d5_2) ?_
    refine st3.trans ?_
    exact retI X3 hx Bd.returns (hb hby d5_6) hr
  · show own_QR (.int (own_ix (p2.toInt8.toInt32) ys (0 : Int32))) h0 n0 _ T3.heap _
    exact ⟨rfl, N3, eq3⟩
set_option maxRecDepth 65536 in
set_option maxHeartbeats 40000000 in
theorem rm5_E (l : Launch) (Z : State) (a0 : Array Value) (hw : ∀ d ∈ tables_1, d.before a0 Z = true) (ws : List Jvm.Cond) (a1 : Addr) (p2 : Int32) (G1 : Int32) (sv : Addr) (k_sv : ClassId) (h0 : Heap) (n0 : Nat) (Z0 : n0 ≤ h0.size) (S_COMPACT_STRINGS : Sta Z Z.heap "java/lang/String" "COMPACT_STRINGS" "Z" (.int G1)) (X00 : Old Z n0 h0) (P3 : ¬ (G1 = (0 : Int32))) (E_a1 : Exa Z h0 a1 "java/lang/String") (F_value_a1 : Fld Z h0 a1 "java/lang/String" "value" "[B" (.ref sv)) (F_coder_a1 : Fld Z h0 a1 "java/lang/String" "coder" "B" (.int (0 : Int32))) (V_sv : Arv Z h0 sv k_sv .byte (0 : Int32) ([] : List Value) (.int (0 : Int32))) (hk : ¬ p2 < 0 ∧ ¬ (255 : Int32) < p2) :
    MetFree l (⟨"java/lang/String", "indexOf", "(I)I"⟩ : MethodName) (head1 (Jvm.Cond.code (⟨"java/lang/String", "indexOf", "(I)I"⟩ : MethodName) jdk_42_method_79_code 2 (some .int) :: ws) ({ frames := 6, cells := 0, slots := 0, locals := 87 } : Room)) (fun a U => a = #[(.ref a1), (.int p2)] ∧ Z.Warmed39 U.vm ∧ U.heap = h0) (fun _ _ _ _ _ => True) (fun _ U o U' => ∃ v L, o = .returned v ∧ own_QR (.int (-1 : Int32)) h0 n0 v U'.heap L ∧ FrameEnd U o U' L ({ frames := 6, cells := 0, slots := 0, locals := 87 } : Room).cells ({ frames := 6, cells := 0, slots := 0, locals := 87 } : Room).slots) := by
  refine MetFree.of_bodySF (plainFor_of_name pn_5) hisR ?_
  intro p e s m args below meth c s₁ Bd hml0 hP hK
  obtain ⟨rfl, hZ, hh⟩ := hP
  have hx := Bd.exec
  have hby := Bd.bytes
  have hml : c.maxLocals = 2 := hml0
  have hown : s.vm.findClass "java/lang/String" = some m.cls := findClass_of_methodNamed Bd.named
  have hnm := (name_of_methodNamed Bd.named Bd.method).1
  have X0 : Stand p l e ({ frames := 6, cells := 0, slots := 0, locals := 87 } : Room) s m #[(.ref a1), (.int p2)] below meth c s₁ [] 0 0 := Stand.of_body Bd
  have e0 : s₁.heap = h0 := by rw [← hh, Bd.state]; rfl
  have N0 := Fr.nil n0
  have pre0 : ∀ t, Steps p.tables e below (s₁.setTop (mkF m 0 #[.val (.ref a1), .val (.int p2)] [])) t → Steps p.tables e below (s₁.setTop (entryFrame m #[(.ref a1), (.int p2)] 2)) t := fun t k => castTop (ef_5 m a1 p2) k
  obtain ⟨cq3, kq3, q3a, q3b, q3c⟩ := isOf hZ e0 E_a1
  obtain ⟨_, _, ⟨T3, L3, k3, n3⟩, -, X3, ⟨Lc3, hQ3, l3, y3, z3⟩, st3⟩ := X0.virtualBack hx (y := (⟨"java/lang/String", "indexOf", "(II)I"⟩ : MethodName)) (z := (⟨"java/lang/String", "indexOf", "(II)I"⟩ : MethodName)) hown (mvT hZ (hw _ (wI 32 rfl))) (mvT hZ (hw _ (wI 33 rfl))) (notFace_of_selects (args := #[]) (mvT hZ (hw _ (wI 35 rfl)))) (mvT hZ (hw _ (wI 35 rfl))) (mvT hZ (hw _ (wI 34 rfl))) (by decide) (backOf (W := 0) (rm6_E l Z a0 hw [] a1 p2 (0 : Int32) G1 sv k_sv h0 n0 Z0 S_COMPACT_STRINGS X00 P3 E_a1 F_value_a1 F_coder_a1 V_sv hk) hZ (hw _ (wI 36 rfl)) (hw _ (wI 3 rfl)) (by decide) (by decide)) q3a q3c (g := (mkF m 3 #[.val (.ref a1), .val (.int p2)] [(.int (0 : Int32)), (.int p2), (.ref a1)])) rfl (by rw [hml]; rfl) (Steps.refl _) (argsL := [(.int p2), (.int (0 : Int32))]) (rest := []) (lenOf pd_5_5 rfl) rfl (by show 2 * 0 + _ ≤ _; exact Nat.le_of_eq rfl) (hb hby d5_3) (fun _ _ => ⟨rfl, e0, (by decide : 0 + 0 ≤ _), (by decide : 0 + 0 ≤ _)⟩)
  dsimp only [Pt.U, Pt.locs, Pt.cells, Pt.slots] at X3 l3 y3 z3 st3 hQ3
  subst l3 y3 z3
  obtain ⟨rfl, N3q, eq3⟩ := hQ3
  have N3 := Fr.app N0 N3q
  have Kq3 : Keep h0 T3.heap [] := (own_keq eq3)
  have K3 : Keep h0 T3.heap [] := (Keep.refl h0 []).trans Kq3 all0
  obtain ⟨fs, hr, hrun, hended, hW, hsame⟩ := X3.leave (v := some (.int (-1 : Int32))) (fun h => by rw [Bd.returns] at h; cases h)
  refine ⟨_, _, pre0 _ ?_, hrun, hended, _, _, rfl, ?_, ⟨_, rfl⟩, hW, hsame.mono (by decide) (by decide)⟩
  · show Steps p.tables e below (s₁.setTop (mkF m 0 #[.val (.ref a1), .val (.int p2)] [])) _
    refine XS.aloadN X0.here hx rfl (hb hby d5_0) rfl rfl ?_
    refine XS.iloadN X0.here hx rfl (hb hby d5_1) rfl ?_
    refine XS.iconst X0.here hx rfl (hb hby d5_2) ?_
    refine st3.trans ?_
    exact retI X3 hx Bd.returns (hb hby d5_6) hr
  · show own_QR (.int (-1 : Int32)) h0 n0 _ T3.heap _
    exact ⟨rfl, N3, eq3⟩
set_option maxRecDepth 65536 in
set_option maxHeartbeats 40000000 in
theorem rm5_U (l : Launch) (Z : State) (a0 : Array Value) (hw : ∀ d ∈ tables_1, d.before a0 Z = true) (ws : List Jvm.Cond) (a1 : Addr) (p2 : Int32) (G1 : Int32) (sv : Addr) (fm : Value) (cs : List Int32) (k_sv : ClassId) (h0 : Heap) (n0 : Nat) (Z0 : n0 ≤ h0.size) (S_COMPACT_STRINGS : Sta Z Z.heap "java/lang/String" "COMPACT_STRINGS" "Z" (.int G1)) (X00 : Old Z n0 h0) (P3 : ¬ (G1 = (0 : Int32))) (S__assertionsDisabled : Sta Z Z.heap "java/lang/StringUTF16" "$assertionsDisabled" "Z" (.int (1 : Int32))) (S_HI_BYTE_SHIFT : Sta Z Z.heap "java/lang/StringUTF16" "HI_BYTE_SHIFT" "I" (.int (0 : Int32))) (S_LO_BYTE_SHIFT : Sta Z Z.heap "java/lang/StringUTF16" "LO_BYTE_SHIFT" "I" (.int (8 : Int32))) (E_a1 : Exa Z h0 a1 "java/lang/String") (F_value_a1 : Fld Z h0 a1 "java/lang/String" "value" "[B" (.ref sv)) (F_coder_a1 : Fld Z h0 a1 "java/lang/String" "coder" "B" (.int (1 : Int32))) (V_sv : Arv Z h0 sv k_sv .byte (Int32.ofNat (2 * cs.length)) (own_b16 cs) (.int (0 : Int32))) (S_SIOOBE_FORMATTER : Sta Z Z.heap "jdk/internal/util/Preconditions" "SIOOBE_FORMATTER" "Ljava/util/function/BiFunction;" fm) (rf : fm.isRef = true) (hl : cs.length = 1 ∨ cs.length = 2 ∨ cs.length = 3) (hcs : ∀ c ∈ cs, ¬ c < 0 ∧ ¬ (65535 : Int32) < c) (hk : ¬ p2 < 0 ∧ ¬ (255 : Int32) < p2) :
    MetFree l (⟨"java/lang/String", "indexOf", "(I)I"⟩ : MethodName) (head1 (Jvm.Cond.code (⟨"java/lang/String", "indexOf", "(I)I"⟩ : MethodName) jdk_42_method_79_code 2 (some .int) :: ws) ({ frames := 6, cells := 0, slots := 0, locals := 87 } : Room)) (fun a U => a = #[(.ref a1), (.int p2)] ∧ Z.Warmed39 U.vm ∧ U.heap = h0) (fun _ _ _ _ _ => True) (fun _ U o U' => ∃ v L, o = .returned v ∧ own_QR (.int (own_ix p2 cs (0 : Int32))) h0 n0 v U'.heap L ∧ FrameEnd U o U' L ({ frames := 6, cells := 0, slots := 0, locals := 87 } : Room).cells ({ frames := 6, cells := 0, slots := 0, locals := 87 } : Room).slots) := by
  refine MetFree.of_bodySF (plainFor_of_name pn_5) hisR ?_
  intro p e s m args below meth c s₁ Bd hml0 hP hK
  obtain ⟨rfl, hZ, hh⟩ := hP
  have hx := Bd.exec
  have hby := Bd.bytes
  have hml : c.maxLocals = 2 := hml0
  have hown : s.vm.findClass "java/lang/String" = some m.cls := findClass_of_methodNamed Bd.named
  have hnm := (name_of_methodNamed Bd.named Bd.method).1
  have X0 : Stand p l e ({ frames := 6, cells := 0, slots := 0, locals := 87 } : Room) s m #[(.ref a1), (.int p2)] below meth c s₁ [] 0 0 := Stand.of_body Bd
  have e0 : s₁.heap = h0 := by rw [← hh, Bd.state]; rfl
  have N0 := Fr.nil n0
  have pre0 : ∀ t, Steps p.tables e below (s₁.setTop (mkF m 0 #[.val (.ref a1), .val (.int p2)] [])) t → Steps p.tables e below (s₁.setTop (entryFrame m #[(.ref a1), (.int p2)] 2)) t := fun t k => castTop (ef_5 m a1 p2) k
  obtain ⟨cq3, kq3, q3a, q3b, q3c⟩ := isOf hZ e0 E_a1
  obtain ⟨_, _, ⟨T3, L3, k3, n3⟩, -, X3, ⟨Lc3, hQ3, l3, y3, z3⟩, st3⟩ := X0.virtualBack hx (y := (⟨"java/lang/String", "indexOf", "(II)I"⟩ : MethodName)) (z := (⟨"java/lang/String", "indexOf", "(II)I"⟩ : MethodName)) hown (mvT hZ (hw _ (wI 32 rfl))) (mvT hZ (hw _ (wI 33 rfl))) (notFace_of_selects (args := #[]) (mvT hZ (hw _ (wI 35 rfl)))) (mvT hZ (hw _ (wI 35 rfl))) (mvT hZ (hw _ (wI 34 rfl))) (by decide) (backOf (W := 0) (rm6_U l Z a0 hw [] a1 p2 (0 : Int32) G1 sv fm cs k_sv h0 n0 Z0 S_COMPACT_STRINGS X00 P3 S__assertionsDisabled S_HI_BYTE_SHIFT S_LO_BYTE_SHIFT E_a1 F_value_a1 F_coder_a1 V_sv S_SIOOBE_FORMATTER rf hl hcs hk) hZ (hw _ (wI 36 rfl)) (hw _ (wI 3 rfl)) (by decide) (by decide)) q3a q3c (g := (mkF m 3 #[.val (.ref a1), .val (.int p2)] [(.int (0 : Int32)), (.int p2), (.ref a1)])) rfl (by rw [hml]; rfl) (Steps.refl _) (argsL := [(.int p2), (.int (0 : Int32))]) (rest := []) (lenOf pd_5_5 rfl) rfl (by show 2 * 0 + _ ≤ _; exact Nat.le_of_eq rfl) (hb hby d5_3) (fun _ _ => ⟨rfl, e0, (by decide : 0 + 0 ≤ _), (by decide : 0 + 0 ≤ _)⟩)
  dsimp only [Pt.U, Pt.locs, Pt.cells, Pt.slots] at X3 l3 y3 z3 st3 hQ3
  subst l3 y3 z3
  obtain ⟨rfl, N3q, eq3⟩ := hQ3
  have N3 := Fr.app N0 N3q
  have Kq3 : Keep h0 T3.heap [] := (own_keq eq3)
  have K3 : Keep h0 T3.heap [] := (Keep.refl h0 []).trans Kq3 all0
  obtain ⟨fs, hr, hrun, hended, hW, hsame⟩ := X3.leave (v := some (.int (own_ix p2 cs (0 : Int32)))) (fun h => by rw [Bd.returns] at h; cases h)
  refine ⟨_, _, pre0 _ ?_, hrun, hended, _, _, rfl, ?_, ⟨_, rfl⟩, hW, hsame.mono (by decide) (by decide)⟩
  · show Steps p.tables e below (s₁.setTop (mkF m 0 #[.val (.ref a1), .val (.int p2)] [])) _
    refine XS.aloadN X0.here hx rfl (hb hby d5_0) rfl rfl ?_
    refine XS.iloadN X0.here hx rfl (hb hby d5_1) rfl ?_
    refine XS.iconst X0.here hx rfl (hb hby d5_2) ?_
    refine st3.trans ?_
    exact retI X3 hx Bd.returns (hb hby d5_6) hr
  · show own_QR (.int (own_ix p2 cs (0 : Int32))) h0 n0 _ T3.heap _
    exact ⟨rfl, N3, eq3⟩
theorem own_ixb {x : Int32} (hx : ¬ x < 0 ∧ ¬ (255 : Int32) < x) : ∀ (cs : List Int32) (i : Int32), (∀ c ∈ cs, ¬ c < 0 ∧ ¬ (255 : Int32) < c) → own_ix (x.toInt8.toInt32) (cs.map StrChars.lo8) i = own_ix x cs i
  | [], _, _ => rfl
  | c :: cs, i, h => by
    have r := own_ixb hx cs (i + 1) (fun d hd => h d (List.mem_cons_of_mem _ hd))
    have hc := h c (List.mem_cons_self ..)
    have e : StrChars.lo8 c = x.toInt8.toInt32 ↔ c = x := ⟨fun q => by
      have q2 : StrChars.lo8 c = StrChars.lo8 x := q
      rw [← StrChars.lo8_mask hc.1 hc.2, ← StrChars.lo8_mask hx.1 hx.2, q2], fun q => by rw [q]; rfl⟩
    simp only [List.map_cons, own_ix, e, r]
theorem rm5 (l : Launch) (Z : State) (a0 : Array Value) (hw : ∀ d ∈ tables_1, d.before a0 Z = true) (ws : List Jvm.Cond) (a1 : Addr) (p2 : Int32) (G1 : Int32) (fm : Value) (sv : Addr) (cd z : Int32) (vs : List Value) (cs : List Int32) (k_sv : ClassId) (h0 : Heap) (n0 : Nat) (Z0 : n0 ≤ h0.size) (S_COMPACT_STRINGS : Sta Z Z.heap "java/lang/String" "COMPACT_STRINGS" "Z" (.int G1)) (X00 : Old Z n0 h0) (P3 : ¬ (G1 = (0 : Int32))) (S__assertionsDisabled : Sta Z Z.heap "java/lang/StringUTF16" "$assertionsDisabled" "Z" (.int (1 : Int32))) (S_HI_BYTE_SHIFT : Sta Z Z.heap "java/lang/StringUTF16" "HI_BYTE_SHIFT" "I" (.int (0 : Int32))) (S_LO_BYTE_SHIFT : Sta Z Z.heap "java/lang/StringUTF16" "LO_BYTE_SHIFT" "I" (.int (8 : Int32))) (E_a1 : Exa Z h0 a1 "java/lang/String") (F_value_a1 : Fld Z h0 a1 "java/lang/String" "value" "[B" (.ref sv)) (F_coder_a1 : Fld Z h0 a1 "java/lang/String" "coder" "B" (.int cd)) (V_sv : Arv Z h0 sv k_sv .byte z vs (.int (0 : Int32))) (S_SIOOBE_FORMATTER : Sta Z Z.heap "jdk/internal/util/Preconditions" "SIOOBE_FORMATTER" "Ljava/util/function/BiFunction;" fm) (rf : fm.isRef = true) (cod : own_cod cs cd z vs) (hl : cs.length = 0 ∨ cs.length = 1 ∨ cs.length = 2 ∨ cs.length = 3) (hne : cs = [] → cd = 0) (hcs : ∀ c ∈ cs, ¬ c < 0 ∧ ¬ (65535 : Int32) < c) (hk : ¬ p2 < 0 ∧ ¬ (255 : Int32) < p2) :
    MetFree l (⟨"java/lang/String", "indexOf", "(I)I"⟩ : MethodName) (head1 (Jvm.Cond.code (⟨"java/lang/String", "indexOf", "(I)I"⟩ : MethodName) jdk_42_method_79_code 2 (some .int) :: ws) ({ frames := 6, cells := 0, slots := 0, locals := 87 } : Room)) (fun a U => a = #[(.ref a1), (.int p2)] ∧ Z.Warmed39 U.vm ∧ U.heap = h0) (fun _ _ _ _ _ => True) (fun _ U o U' => ∃ v L, o = .returned v ∧ own_QR (.int (own_ix p2 cs (0 : Int32))) h0 n0 v U'.heap L ∧ FrameEnd U o U' L ({ frames := 6, cells := 0, slots := 0, locals := 87 } : Room).cells ({ frames := 6, cells := 0, slots := 0, locals := 87 } : Room).slots) := by
  rcases hl with hl | hl
  · have e0 : cs = [] := List.length_eq_zero_iff.mp hl
    subst e0
    rcases cod with ⟨rfl, rfl, rfl, -⟩ | ⟨rfl, rfl, rfl⟩
    · exact rm5_E l Z a0 hw ws a1 p2 G1 sv k_sv h0 n0 Z0 S_COMPACT_STRINGS X00 P3 E_a1 F_value_a1 F_coder_a1 V_sv hk
    · exact absurd (hne rfl) (by decide)
  · rcases cod with ⟨rfl, rfl, rfl, hlat⟩ | ⟨rfl, rfl, rfl⟩
    · rw [← own_ixb hk cs 0 (fun c hc => ⟨(hcs c hc).1, hlat c hc⟩)]
      have hl' : (cs.map StrChars.lo8).length = 1 ∨ (cs.map StrChars.lo8).length = 2 ∨ (cs.map StrChars.lo8).length = 3 := by rw [List.length_map]; exact hl
      have V' : Arv Z h0 sv k_sv .byte (Int32.ofNat (cs.map StrChars.lo8).length) ((cs.map StrChars.lo8).map Value.int) (.int (0 : Int32)) := by rw [List.length_map]; exact V_sv
      exact rm5_L l Z a0 hw ws a1 p2 G1 sv (cs.map StrChars.lo8) k_sv h0 n0 Z0 S_COMPACT_STRINGS X00 P3 E_a1 F_value_a1 F_coder_a1 V' hl' hk
    · exact rm5_U l Z a0 hw ws a1 p2 G1 sv fm cs k_sv h0 n0 Z0 S_COMPACT_STRINGS X00 P3 S__assertionsDisabled S_HI_BYTE_SHIFT S_LO_BYTE_SHIFT E_a1 F_value_a1 F_coder_a1 V_sv S_SIOOBE_FORMATTER rf hl hcs hk
def own_q (cs : List Int32) : Int32 := if own_ix 34 cs 0 < 0 then (if own_ix 10 cs 0 < 0 then 1 else 0) else 0
theorem d4_0 : decode prog_61_method_10_code 0 = .ok (.aload_n 0, 1) := by decide +kernel
theorem d4_1 : decode prog_61_method_10_code 1 = .ok (.bipush 34, 2) := by decide +kernel
theorem d4_3 : decode prog_61_method_10_code 3 = .ok (.invokevirtual 98, 3) := by decide +kernel
theorem d4_6 : decode prog_61_method_10_code 6 = .ok (.ifCond .ge 16, 3) := by decide +kernel
theorem d4_22 : decode prog_61_method_10_code 22 = .ok (.iconst 0, 1) := by decide +kernel
theorem d4_23 : decode prog_61_method_10_code 23 = .ok (.ireturn, 1) := by decide +kernel
theorem pn_4 : plainName "com/example/crisp_bisim/crispbisim/formats/TextCursor" = true := by first | (simp [plainName, overriddenIn]; done) | decide +kernel
theorem pd_4_4 : parseMethodDescriptor "(I)I" = some ⟨[.int], some .int⟩ := by decide +kernel
theorem ef_4 (m : MethodId) (x0 : Addr) : entryFrame m #[(.ref x0)] 1 = mkF m 0 #[.val (.ref x0)] [] := by first | (simp [entryFrame, mkF, argsToLocals, Value.category]; done) | rfl
set_option maxRecDepth 65536 in
set_option maxHeartbeats 40000000 in
theorem rm4_t (l : Launch) (Z : State) (a0 : Array Value) (hw : ∀ d ∈ tables_1, d.before a0 Z = true) (ws : List Jvm.Cond) (a1 : Addr) (G1 : Int32) (fm : Value) (sv : Addr) (cd : Int32) (z : Int32) (vs : List Value) (cs : List Int32) (k_sv : ClassId) (h0 : Heap) (n0 : Nat) (Z0 : n0 ≤ h0.size) (S_COMPACT_STRINGS : Sta Z Z.heap "java/lang/String" "COMPACT_STRINGS" "Z" (.int G1)) (X00 : Old Z n0 h0) (P3 : ¬ (G1 = (0 : Int32))) (S__assertionsDisabled : Sta Z Z.heap "java/lang/StringUTF16" "$assertionsDisabled" "Z" (.int (1 : Int32))) (S_HI_BYTE_SHIFT : Sta Z Z.heap "java/lang/StringUTF16" "HI_BYTE_SHIFT" "I" (.int (0 : Int32))) (S_LO_BYTE_SHIFT : Sta Z Z.heap "java/lang/StringUTF16" "LO_BYTE_SHIFT" "I" (.int (8 : Int32))) (E_a1 : Exa Z h0 a1 "java/lang/String") (F_value_a1 : Fld Z h0 a1 "java/lang/String" "value" "[B" (.ref sv)) (F_coder_a1 : Fld Z h0 a1 "java/lang/String" "coder" "B" (.int cd)) (V_sv : Arv Z h0 sv k_sv .byte z vs (.int (0 : Int32))) (S_SIOOBE_FORMATTER : Sta Z Z.heap "jdk/internal/util/Preconditions" "SIOOBE_FORMATTER" "Ljava/util/function/BiFunction;" fm) (rf : fm.isRef = true) (cod : own_cod cs cd z vs) (hl : cs.length = 0 ∨ cs.length = 1 ∨ cs.length = 2 ∨ cs.length = 3) (hne : cs = [] → cd = 0) (hcs : ∀ c ∈ cs, ¬ c < 0 ∧ ¬ (65535 : Int32) < c) (hc6 : ¬ ((own_ix (34 : Int32) cs (0 : Int32)) < (0 : Int32))) :
    MetFree l (⟨"com/example/crisp_bisim/crispbisim/formats/TextCursor", "isQuotable", "(Ljava/lang/String;)Z"⟩ : MethodName) (head1 (Jvm.Cond.code (⟨"com/example/crisp_bisim/crispbisim/formats/TextCursor", "isQuotable", "(Ljava/lang/String;)Z"⟩ : MethodName) prog_61_method_10_code 1 (some .boolean) :: ws) ({ frames := 7, cells := 0, slots := 0, locals := 100 } : Room)) (fun a U => a = #[(.ref a1)] ∧ Z.Warmed39 U.vm ∧ U.heap = h0) (fun _ _ _ _ _ => True) (fun _ U o U' => ∃ v L, o = .returned v ∧ own_QR (.int (0 : Int32)) h0 n0 v U'.heap L ∧ FrameEnd U o U' L ({ frames := 7, cells := 0, slots := 0, locals := 100 } : Room).cells ({ frames := 7, cells := 0, slots := 0, locals := 100 } : Room).slots) := by
  refine MetFree.of_bodySF (plainFor_of_name pn_4) hisR ?_
  intro p e s m args below meth c s₁ Bd hml0 hP hK
  obtain ⟨rfl, hZ, hh⟩ := hP
  have hx := Bd.exec
  have hby := Bd.bytes
  have hml : c.maxLocals = 1 := hml0
  have hown : s.vm.findClass "com/example/crisp_bisim/crispbisim/formats/TextCursor" = some m.cls := findClass_of_methodNamed Bd.named
  have hnm := (name_of_methodNamed Bd.named Bd.method).1
  have X0 : Stand p l e ({ frames := 7, cells := 0, slots := 0, locals := 100 } : Room) s m #[(.ref a1)] below meth c s₁ [] 0 0 := Stand.of_body Bd
  have e0 : s₁.heap = h0 := by rw [← hh, Bd.state]; rfl
  have N0 := Fr.nil n0
  have pre0 : ∀ t, Steps p.tables e below (s₁.setTop (mkF m 0 #[.val (.ref a1)] [])) t → Steps p.tables e below (s₁.setTop (entryFrame m #[(.ref a1)] 1)) t := fun t k => castTop (ef_4 m a1) k
  obtain ⟨cq2, kq2, q2a, q2b, q2c⟩ := isOf hZ e0 E_a1
  obtain ⟨_, _, ⟨T2, L2, k2, n2⟩, -, X2, ⟨Lc2, hQ2, l2, y2, z2⟩, st2⟩ := X0.virtualBack hx (y := (⟨"java/lang/String", "indexOf", "(I)I"⟩ : MethodName)) (z := (⟨"java/lang/String", "indexOf", "(I)I"⟩ : MethodName)) hown (mvT hZ (hw _ (wI 27 rfl))) (mvT hZ (hw _ (wI 28 rfl))) (notFace_of_selects (args := #[]) (mvT hZ (hw _ (wI 30 rfl)))) (mvT hZ (hw _ (wI 30 rfl))) (mvT hZ (hw _ (wI 29 rfl))) (by decide) (backOf (W := 0) (rm5 l Z a0 hw [] a1 (34 : Int32) G1 fm sv cd z vs cs k_sv h0 n0 Z0 S_COMPACT_STRINGS X00 P3 S__assertionsDisabled S_HI_BYTE_SHIFT S_LO_BYTE_SHIFT E_a1 F_value_a1 F_coder_a1 V_sv S_SIOOBE_FORMATTER rf cod hl hne hcs (by decide)) hZ (hw _ (wI 31 rfl)) (hw _ (wI 3 rfl)) (by decide) (by decide)) q2a q2c (g := (mkF m 3 #[.val (.ref a1)] [(.int (34 : Int32)), (.ref a1)])) rfl (by rw [hml]; rfl) (Steps.refl _) (argsL := [(.int (34 : Int32))]) (rest := []) (lenOf pd_4_4 rfl) rfl (by show 2 * 0 + _ ≤ _; exact Nat.le_of_eq rfl) (hb hby d4_3) (fun _ _ => ⟨rfl, e0, (by decide : 0 + 0 ≤ _), (by decide : 0 + 0 ≤ _)⟩)
  dsimp only [Pt.U, Pt.locs, Pt.cells, Pt.slots] at X2 l2 y2 z2 st2 hQ2
  subst l2 y2 z2
  obtain ⟨rfl, N2q, eq2⟩ := hQ2
  have N2 := Fr.app N0 N2q
  have Kq2 : Keep h0 T2.heap [] := (own_keq eq2)
  have K2 : Keep h0 T2.heap [] := (Keep.refl h0 []).trans Kq2 all0
  obtain ⟨fs, hr, hrun, hended, hW, hsame⟩ := X2.leave (v := some (.int (0 : Int32))) (fun h => by rw [Bd.returns] at h; cases h)
  refine ⟨_, _, pre0 _ ?_, hrun, hended, _, _, rfl, ?_, ⟨_, rfl⟩, hW, hsame.mono (by decide) (by decide)⟩
  · show Steps p.tables e below (s₁.setTop (mkF m 0 #[.val (.ref a1)] [])) _
    refine XS.aloadN X0.here hx rfl (hb hby d4_0) rfl rfl ?_
    refine XS.bipush X0.here hx rfl (hb hby d4_1) ?_
    refine st2.trans ?_
    refine XS.ifYes X2.here hx rfl (pc0 := 6) (pc' := 22) rfl (hb hby d4_6) rfl ((if0 _ _).trans (flt hc6).2.1) (by decide) (by decide) ?_
    refine XS.iconst X2.here hx rfl (hb hby d4_22) ?_
    show Steps p.tables e below (T2.setTop (mkF m 23 #[.val (.ref a1)] [(.int (0 : Int32))])) _
    exact retN X2 hx (t := .boolean) Bd.returns (by simp) (hb hby d4_23) hr
  · show own_QR (.int (0 : Int32)) h0 n0 _ T2.heap _
    exact ⟨rfl, N2, eq2⟩
theorem d4_9 : decode prog_61_method_10_code 9 = .ok (.aload_n 0, 1) := by decide +kernel
theorem d4_10 : decode prog_61_method_10_code 10 = .ok (.bipush 10, 2) := by decide +kernel
theorem d4_12 : decode prog_61_method_10_code 12 = .ok (.invokevirtual 98, 3) := by decide +kernel
theorem d4_15 : decode prog_61_method_10_code 15 = .ok (.ifCond .ge 7, 3) := by decide +kernel
set_option maxRecDepth 65536 in
set_option maxHeartbeats 40000000 in
theorem rm4_ft (l : Launch) (Z : State) (a0 : Array Value) (hw : ∀ d ∈ tables_1, d.before a0 Z = true) (ws : List Jvm.Cond) (a1 : Addr) (G1 : Int32) (fm : Value) (sv : Addr) (cd : Int32) (z : Int32) (vs : List Value) (cs : List Int32) (k_sv : ClassId) (h0 : Heap) (n0 : Nat) (Z0 : n0 ≤ h0.size) (S_COMPACT_STRINGS : Sta Z Z.heap "java/lang/String" "COMPACT_STRINGS" "Z" (.int G1)) (X00 : Old Z n0 h0) (P3 : ¬ (G1 = (0 : Int32))) (S__assertionsDisabled : Sta Z Z.heap "java/lang/StringUTF16" "$assertionsDisabled" "Z" (.int (1 : Int32))) (S_HI_BYTE_SHIFT : Sta Z Z.heap "java/lang/StringUTF16" "HI_BYTE_SHIFT" "I" (.int (0 : Int32))) (S_LO_BYTE_SHIFT : Sta Z Z.heap "java/lang/StringUTF16" "LO_BYTE_SHIFT" "I" (.int (8 : Int32))) (E_a1 : Exa Z h0 a1 "java/lang/String") (F_value_a1 : Fld Z h0 a1 "java/lang/String" "value" "[B" (.ref sv)) (F_coder_a1 : Fld Z h0 a1 "java/lang/String" "coder" "B" (.int cd)) (V_sv : Arv Z h0 sv k_sv .byte z vs (.int (0 : Int32))) (S_SIOOBE_FORMATTER : Sta Z Z.heap "jdk/internal/util/Preconditions" "SIOOBE_FORMATTER" "Ljava/util/function/BiFunction;" fm) (rf : fm.isRef = true) (cod : own_cod cs cd z vs) (hl : cs.length = 0 ∨ cs.length = 1 ∨ cs.length = 2 ∨ cs.length = 3) (hne : cs = [] → cd = 0) (hcs : ∀ c ∈ cs, ¬ c < 0 ∧ ¬ (65535 : Int32) < c) (hc6 : (own_ix (34 : Int32) cs (0 : Int32)) < (0 : Int32)) (hc15 : ¬ ((own_ix (10 : Int32) cs (0 : Int32)) < (0 : Int32))) :
    MetFree l (⟨"com/example/crisp_bisim/crispbisim/formats/TextCursor", "isQuotable", "(Ljava/lang/String;)Z"⟩ : MethodName) (head1 (Jvm.Cond.code (⟨"com/example/crisp_bisim/crispbisim/formats/TextCursor", "isQuotable", "(Ljava/lang/String;)Z"⟩ : MethodName) prog_61_method_10_code 1 (some .boolean) :: ws) ({ frames := 7, cells := 0, slots := 0, locals := 100 } : Room)) (fun a U => a = #[(.ref a1)] ∧ Z.Warmed39 U.vm ∧ U.heap = h0) (fun _ _ _ _ _ => True) (fun _ U o U' => ∃ v L, o = .returned v ∧ own_QR (.int (0 : Int32)) h0 n0 v U'.heap L ∧ FrameEnd U o U' L ({ frames := 7, cells := 0, slots := 0, locals := 100 } : Room).cells ({ frames := 7, cells := 0, slots := 0, locals := 100 } : Room).slots) := by
  refine MetFree.of_bodySF (plainFor_of_name pn_4) hisR ?_
  intro p e s m args below meth c s₁ Bd hml0 hP hK
  obtain ⟨rfl, hZ, hh⟩ := hP
  have hx := Bd.exec
  have hby := Bd.bytes
  have hml : c.maxLocals = 1 := hml0
  have hown : s.vm.findClass "com/example/crisp_bisim/crispbisim/formats/TextCursor" = some m.cls := findClass_of_methodNamed Bd.named
  have hnm := (name_of_methodNamed Bd.named Bd.method).1
  have X0 : Stand p l e ({ frames := 7, cells := 0, slots := 0, locals := 100 } : Room) s m #[(.ref a1)] below meth c s₁ [] 0 0 := Stand.of_body Bd
  have e0 : s₁.heap = h0 := by rw [← hh, Bd.state]; rfl
  have N0 := Fr.nil n0
  have pre0 : ∀ t, Steps p.tables e below (s₁.setTop (mkF m 0 #[.val (.ref a1)] [])) t → Steps p.tables e below (s₁.setTop (entryFrame m #[(.ref a1)] 1)) t := fun t k => castTop (ef_4 m a1) k
  obtain ⟨cq2, kq2, q2a, q2b, q2c⟩ := isOf hZ e0 E_a1
  obtain ⟨_, _, ⟨T2, L2, k2, n2⟩, -, X2, ⟨Lc2, hQ2, l2, y2, z2⟩, st2⟩ := X0.virtualBack hx (y := (⟨"java/lang/String", "indexOf", "(I)I"⟩ : MethodName)) (z := (⟨"java/lang/String", "indexOf", "(I)I"⟩ : MethodName)) hown (mvT hZ (hw _ (wI 27 rfl))) (mvT hZ (hw _ (wI 28 rfl))) (notFace_of_selects (args := #[]) (mvT hZ (hw _ (wI 30 rfl)))) (mvT hZ (hw _ (wI 30 rfl))) (mvT hZ (hw _ (wI 29 rfl))) (by decide) (backOf (W := 0) (rm5 l Z a0 hw [] a1 (34 : Int32) G1 fm sv cd z vs cs k_sv h0 n0 Z0 S_COMPACT_STRINGS X00 P3 S__assertionsDisabled S_HI_BYTE_SHIFT S_LO_BYTE_SHIFT E_a1 F_value_a1 F_coder_a1 V_sv S_SIOOBE_FORMATTER rf cod hl hne hcs (by decide)) hZ (hw _ (wI 31 rfl)) (hw _ (wI 3 rfl)) (by decide) (by decide)) q2a q2c (g := (mkF m 3 #[.val (.ref a1)] [(.int (34 : Int32)), (.ref a1)])) rfl (by rw [hml]; rfl) (Steps.refl _) (argsL := [(.int (34 : Int32))]) (rest := []) (lenOf pd_4_4 rfl) rfl (by show 2 * 0 + _ ≤ _; exact Nat.le_of_eq rfl) (hb hby d4_3) (fun _ _ => ⟨rfl, e0, (by decide : 0 + 0 ≤ _), (by decide : 0 + 0 ≤ _)⟩)
  dsimp only [Pt.U, Pt.locs, Pt.cells, Pt.slots] at X2 l2 y2 z2 st2 hQ2
  subst l2 y2 z2
  obtain ⟨rfl, N2q, eq2⟩ := hQ2
  have N2 := Fr.app N0 N2q
  have Kq2 : Keep h0 T2.heap [] := (own_keq eq2)
  have K2 : Keep h0 T2.heap [] := (Keep.refl h0 []).trans Kq2 all0
  obtain ⟨cq3, kq3, q3a, q3b, q3c⟩ := isOf hZ rfl (E_a1.keep Kq2)
  obtain ⟨_, _, ⟨T3, L3, k3, n3⟩, -, X3, ⟨Lc3, hQ3, l3, y3, z3⟩, st3⟩ := X2.virtualBack hx (y := (⟨"java/lang/String", "indexOf", "(I)I"⟩ : MethodName)) (z := (⟨"java/lang/String", "indexOf", "(I)I"⟩ : MethodName)) hown (mvT hZ (hw _ (wI 27 rfl))) (mvT hZ (hw _ (wI 28 rfl))) (notFace_of_selects (args := #[]) (mvT hZ (hw _ (wI 30 rfl)))) (mvT hZ (hw _ (wI 30 rfl))) (mvT hZ (hw _ (wI 29 rfl))) (by decide) (backOf (W := 0) (rm5 l Z a0 hw [] a1 (10 : Int32) G1 fm sv cd z vs cs k_sv T2.heap n0 (Nat.le_trans Z0 Kq2.1) S_COMPACT_STRINGS (X00.keep K2 all0) P3 S__assertionsDisabled S_HI_BYTE_SHIFT S_LO_BYTE_SHIFT (E_a1.keep Kq2) (F_value_a1.keep Kq2 (fun q => nomatch q)) (F_coder_a1.keep Kq2 (fun q => nomatch q)) (V_sv.keep Kq2 (fun q => nomatch q)) S_SIOOBE_FORMATTER rf cod hl hne hcs (by decide)) hZ (hw _ (wI 31 rfl)) (hw _ (wI 3 rfl)) (by decide) (by decide)) q3a q3c (g := (mkF m 12 #[.val (.ref a1)] [(.int (10 : Int32)), (.ref a1)])) rfl (by rw [hml]; rfl) (Steps.refl _) (argsL := [(.int (10 : Int32))]) (rest := []) (lenOf pd_4_4 rfl) rfl (by show 2 * 0 + _ ≤ _; exact Nat.le_of_eq rfl) (hb hby d4_12) (fun _ _ => ⟨rfl, rfl, (by decide : 0 + 0 ≤ _), (by decide : 0 + 0 ≤ _)⟩)
  dsimp only [Pt.U, Pt.locs, Pt.cells, Pt.slots] at X3 l3 y3 z3 st3 hQ3
  subst l3 y3 z3
  obtain ⟨rfl, N3q, eq3⟩ := hQ3
  have N3 := Fr.app N2 N3q
  have Kq3 : Keep T2.heap T3.heap [] := (own_keq eq3)
  have K3 : Keep h0 T3.heap [] := K2.trans Kq3 all0
  obtain ⟨fs, hr, hrun, hended, hW, hsame⟩ := X3.leave (v := some (.int (0 : Int32))) (fun h => by rw [Bd.returns] at h; cases h)
  refine ⟨_, _, pre0 _ ?_, hrun, hended, _, _, rfl, ?_, ⟨_, rfl⟩, hW, hsame.mono (by decide) (by decide)⟩
  · show Steps p.tables e below (s₁.setTop (mkF m 0 #[.val (.ref a1)] [])) _
    refine XS.aloadN X0.here hx rfl (hb hby d4_0) rfl rfl ?_
    refine XS.bipush X0.here hx rfl (hb hby d4_1) ?_
    refine st2.trans ?_
    refine XS.ifNo X2.here hx rfl (hb hby d4_6) rfl ((if0 _ _).trans (tlt hc6).2.1) ?_
    refine XS.aloadN X2.here hx rfl (hb hby d4_9) rfl rfl ?_
    show Steps p.tables e below (T2.setTop (mkF m 10 #[.val (.ref a1)] [(.ref a1)])) _
    refine XS.bipush X2.here hx rfl (hb hby d4_10) ?_
    refine st3.trans ?_
    refine XS.ifYes X3.here hx rfl (pc0 := 15) (pc' := 22) rfl (hb hby d4_15) rfl ((if0 _ _).trans (flt hc15).2.1) (by decide) (by decide) ?_
    refine XS.iconst X3.here hx rfl (hb hby d4_22) ?_
    exact retN X3 hx (t := .boolean) Bd.returns (by simp) (hb hby d4_23) hr
  · show own_QR (.int (0 : Int32)) h0 n0 _ T3.heap _
    exact ⟨rfl, N3, (eq3.trans eq2)⟩
theorem d4_18 : decode prog_61_method_10_code 18 = .ok (.iconst 1, 1) := by decide +kernel
theorem d4_19 : decode prog_61_method_10_code 19 = .ok (.goto 4, 3) := by decide +kernel
set_option maxRecDepth 65536 in
set_option maxHeartbeats 40000000 in
theorem rm4_ff (l : Launch) (Z : State) (a0 : Array Value) (hw : ∀ d ∈ tables_1, d.before a0 Z = true) (ws : List Jvm.Cond) (a1 : Addr) (G1 : Int32) (fm : Value) (sv : Addr) (cd : Int32) (z : Int32) (vs : List Value) (cs : List Int32) (k_sv : ClassId) (h0 : Heap) (n0 : Nat) (Z0 : n0 ≤ h0.size) (S_COMPACT_STRINGS : Sta Z Z.heap "java/lang/String" "COMPACT_STRINGS" "Z" (.int G1)) (X00 : Old Z n0 h0) (P3 : ¬ (G1 = (0 : Int32))) (S__assertionsDisabled : Sta Z Z.heap "java/lang/StringUTF16" "$assertionsDisabled" "Z" (.int (1 : Int32))) (S_HI_BYTE_SHIFT : Sta Z Z.heap "java/lang/StringUTF16" "HI_BYTE_SHIFT" "I" (.int (0 : Int32))) (S_LO_BYTE_SHIFT : Sta Z Z.heap "java/lang/StringUTF16" "LO_BYTE_SHIFT" "I" (.int (8 : Int32))) (E_a1 : Exa Z h0 a1 "java/lang/String") (F_value_a1 : Fld Z h0 a1 "java/lang/String" "value" "[B" (.ref sv)) (F_coder_a1 : Fld Z h0 a1 "java/lang/String" "coder" "B" (.int cd)) (V_sv : Arv Z h0 sv k_sv .byte z vs (.int (0 : Int32))) (S_SIOOBE_FORMATTER : Sta Z Z.heap "jdk/internal/util/Preconditions" "SIOOBE_FORMATTER" "Ljava/util/function/BiFunction;" fm) (rf : fm.isRef = true) (cod : own_cod cs cd z vs) (hl : cs.length = 0 ∨ cs.length = 1 ∨ cs.length = 2 ∨ cs.length = 3) (hne : cs = [] → cd = 0) (hcs : ∀ c ∈ cs, ¬ c < 0 ∧ ¬ (65535 : Int32) < c) (hc6 : (own_ix (34 : Int32) cs (0 : Int32)) < (0 : Int32)) (hc15 : (own_ix (10 : Int32) cs (0 : Int32)) < (0 : Int32)) :
    MetFree l (⟨"com/example/crisp_bisim/crispbisim/formats/TextCursor", "isQuotable", "(Ljava/lang/String;)Z"⟩ : MethodName) (head1 (Jvm.Cond.code (⟨"com/example/crisp_bisim/crispbisim/formats/TextCursor", "isQuotable", "(Ljava/lang/String;)Z"⟩ : MethodName) prog_61_method_10_code 1 (some .boolean) :: ws) ({ frames := 7, cells := 0, slots := 0, locals := 100 } : Room)) (fun a U => a = #[(.ref a1)] ∧ Z.Warmed39 U.vm ∧ U.heap = h0) (fun _ _ _ _ _ => True) (fun _ U o U' => ∃ v L, o = .returned v ∧ own_QR (.int (1 : Int32)) h0 n0 v U'.heap L ∧ FrameEnd U o U' L ({ frames := 7, cells := 0, slots := 0, locals := 100 } : Room).cells ({ frames := 7, cells := 0, slots := 0, locals := 100 } : Room).slots) := by
  refine MetFree.of_bodySF (plainFor_of_name pn_4) hisR ?_
  intro p e s m args below meth c s₁ Bd hml0 hP hK
  obtain ⟨rfl, hZ, hh⟩ := hP
  have hx := Bd.exec
  have hby := Bd.bytes
  have hml : c.maxLocals = 1 := hml0
  have hown : s.vm.findClass "com/example/crisp_bisim/crispbisim/formats/TextCursor" = some m.cls := findClass_of_methodNamed Bd.named
  have hnm := (name_of_methodNamed Bd.named Bd.method).1
  have X0 : Stand p l e ({ frames := 7, cells := 0, slots := 0, locals := 100 } : Room) s m #[(.ref a1)] below meth c s₁ [] 0 0 := Stand.of_body Bd
  have e0 : s₁.heap = h0 := by rw [← hh, Bd.state]; rfl
  have N0 := Fr.nil n0
  have pre0 : ∀ t, Steps p.tables e below (s₁.setTop (mkF m 0 #[.val (.ref a1)] [])) t → Steps p.tables e below (s₁.setTop (entryFrame m #[(.ref a1)] 1)) t := fun t k => castTop (ef_4 m a1) k
  obtain ⟨cq2, kq2, q2a, q2b, q2c⟩ := isOf hZ e0 E_a1
  obtain ⟨_, _, ⟨T2, L2, k2, n2⟩, -, X2, ⟨Lc2, hQ2, l2, y2, z2⟩, st2⟩ := X0.virtualBack hx (y := (⟨"java/lang/String", "indexOf", "(I)I"⟩ : MethodName)) (z := (⟨"java/lang/String", "indexOf", "(I)I"⟩ : MethodName)) hown (mvT hZ (hw _ (wI 27 rfl))) (mvT hZ (hw _ (wI 28 rfl))) (notFace_of_selects (args := #[]) (mvT hZ (hw _ (wI 30 rfl)))) (mvT hZ (hw _ (wI 30 rfl))) (mvT hZ (hw _ (wI 29 rfl))) (by decide) (backOf (W := 0) (rm5 l Z a0 hw [] a1 (34 : Int32) G1 fm sv cd z vs cs k_sv h0 n0 Z0 S_COMPACT_STRINGS X00 P3 S__assertionsDisabled S_HI_BYTE_SHIFT S_LO_BYTE_SHIFT E_a1 F_value_a1 F_coder_a1 V_sv S_SIOOBE_FORMATTER rf cod hl hne hcs (by decide)) hZ (hw _ (wI 31 rfl)) (hw _ (wI 3 rfl)) (by decide) (by decide)) q2a q2c (g := (mkF m 3 #[.val (.ref a1)] [(.int (34 : Int32)), (.ref a1)])) rfl (by rw [hml]; rfl) (Steps.refl _) (argsL := [(.int (34 : Int32))]) (rest := []) (lenOf pd_4_4 rfl) rfl (by show 2 * 0 + _ ≤ _; exact Nat.le_of_eq rfl) (hb hby d4_3) (fun _ _ => ⟨rfl, e0, (by decide : 0 + 0 ≤ _), (by decide : 0 + 0 ≤ _)⟩)
  dsimp only [Pt.U, Pt.locs, Pt.cells, Pt.slots] at X2 l2 y2 z2 st2 hQ2
  subst l2 y2 z2
  obtain ⟨rfl, N2q, eq2⟩ := hQ2
  have N2 := Fr.app N0 N2q
  have Kq2 : Keep h0 T2.heap [] := (own_keq eq2)
  have K2 : Keep h0 T2.heap [] := (Keep.refl h0 []).trans Kq2 all0
  obtain ⟨cq3, kq3, q3a, q3b, q3c⟩ := isOf hZ rfl (E_a1.keep Kq2)
  obtain ⟨_, _, ⟨T3, L3, k3, n3⟩, -, X3, ⟨Lc3, hQ3, l3, y3, z3⟩, st3⟩ := X2.virtualBack hx (y := (⟨"java/lang/String", "indexOf", "(I)I"⟩ : MethodName)) (z := (⟨"java/lang/String", "indexOf", "(I)I"⟩ : MethodName)) hown (mvT hZ (hw _ (wI 27 rfl))) (mvT hZ (hw _ (wI 28 rfl))) (notFace_of_selects (args := #[]) (mvT hZ (hw _ (wI 30 rfl)))) (mvT hZ (hw _ (wI 30 rfl))) (mvT hZ (hw _ (wI 29 rfl))) (by decide) (backOf (W := 0) (rm5 l Z a0 hw [] a1 (10 : Int32) G1 fm sv cd z vs cs k_sv T2.heap n0 (Nat.le_trans Z0 Kq2.1) S_COMPACT_STRINGS (X00.keep K2 all0) P3 S__assertionsDisabled S_HI_BYTE_SHIFT S_LO_BYTE_SHIFT (E_a1.keep Kq2) (F_value_a1.keep Kq2 (fun q => nomatch q)) (F_coder_a1.keep Kq2 (fun q => nomatch q)) (V_sv.keep Kq2 (fun q => nomatch q)) S_SIOOBE_FORMATTER rf cod hl hne hcs (by decide)) hZ (hw _ (wI 31 rfl)) (hw _ (wI 3 rfl)) (by decide) (by decide)) q3a q3c (g := (mkF m 12 #[.val (.ref a1)] [(.int (10 : Int32)), (.ref a1)])) rfl (by rw [hml]; rfl) (Steps.refl _) (argsL := [(.int (10 : Int32))]) (rest := []) (lenOf pd_4_4 rfl) rfl (by show 2 * 0 + _ ≤ _; exact Nat.le_of_eq rfl) (hb hby d4_12) (fun _ _ => ⟨rfl, rfl, (by decide : 0 + 0 ≤ _), (by decide : 0 + 0 ≤ _)⟩)
  dsimp only [Pt.U, Pt.locs, Pt.cells, Pt.slots] at X3 l3 y3 z3 st3 hQ3
  subst l3 y3 z3
  obtain ⟨rfl, N3q, eq3⟩ := hQ3
  have N3 := Fr.app N2 N3q
  have Kq3 : Keep T2.heap T3.heap [] := (own_keq eq3)
  have K3 : Keep h0 T3.heap [] := K2.trans Kq3 all0
  obtain ⟨fs, hr, hrun, hended, hW, hsame⟩ := X3.leave (v := some (.int (1 : Int32))) (fun h => by rw [Bd.returns] at h; cases h)
  refine ⟨_, _, pre0 _ ?_, hrun, hended, _, _, rfl, ?_, ⟨_, rfl⟩, hW, hsame.mono (by decide) (by decide)⟩
  · show Steps p.tables e below (s₁.setTop (mkF m 0 #[.val (.ref a1)] [])) _
    refine XS.aloadN X0.here hx rfl (hb hby d4_0) rfl rfl ?_
    refine XS.bipush X0.here hx rfl (hb hby d4_1) ?_
    refine st2.trans ?_
    refine XS.ifNo X2.here hx rfl (hb hby d4_6) rfl ((if0 _ _).trans (tlt hc6).2.1) ?_
    refine XS.aloadN X2.here hx rfl (hb hby d4_9) rfl rfl ?_
    show Steps p.tables e below (T2.setTop (mkF m 10 #[.val (.ref a1)] [(.ref a1)])) _
    refine XS.bipush X2.here hx rfl (hb hby d4_10) ?_
    refine st3.trans ?_
    refine XS.ifNo X3.here hx rfl (hb hby d4_15) rfl ((if0 _ _).trans (tlt hc15).2.1) ?_
    refine XS.iconst X3.here hx rfl (hb hby d4_18) ?_
    refine XS.goto X3.here hx rfl (pc0 := 19) (pc' := 23) rfl (hb hby d4_19) (by decide) (by decide) ?_
    show Steps p.tables e below (T3.setTop (mkF m 23 #[.val (.ref a1)] [(.int (1 : Int32))])) _
    exact retN X3 hx (t := .boolean) Bd.returns (by simp) (hb hby d4_23) hr
  · show own_QR (.int (1 : Int32)) h0 n0 _ T3.heap _
    exact ⟨rfl, N3, (eq3.trans eq2)⟩
theorem rm4 (l : Launch) (Z : State) (a0 : Array Value) (hw : ∀ d ∈ tables_1, d.before a0 Z = true) (ws : List Jvm.Cond) (a1 : Addr) (G1 : Int32) (fm : Value) (sv : Addr) (cd z : Int32) (vs : List Value) (cs : List Int32) (k_sv : ClassId) (h0 : Heap) (n0 : Nat) (Z0 : n0 ≤ h0.size) (S_COMPACT_STRINGS : Sta Z Z.heap "java/lang/String" "COMPACT_STRINGS" "Z" (.int G1)) (X00 : Old Z n0 h0) (P3 : ¬ (G1 = (0 : Int32))) (S__assertionsDisabled : Sta Z Z.heap "java/lang/StringUTF16" "$assertionsDisabled" "Z" (.int (1 : Int32))) (S_HI_BYTE_SHIFT : Sta Z Z.heap "java/lang/StringUTF16" "HI_BYTE_SHIFT" "I" (.int (0 : Int32))) (S_LO_BYTE_SHIFT : Sta Z Z.heap "java/lang/StringUTF16" "LO_BYTE_SHIFT" "I" (.int (8 : Int32))) (E_a1 : Exa Z h0 a1 "java/lang/String") (F_value_a1 : Fld Z h0 a1 "java/lang/String" "value" "[B" (.ref sv)) (F_coder_a1 : Fld Z h0 a1 "java/lang/String" "coder" "B" (.int cd)) (V_sv : Arv Z h0 sv k_sv .byte z vs (.int (0 : Int32))) (S_SIOOBE_FORMATTER : Sta Z Z.heap "jdk/internal/util/Preconditions" "SIOOBE_FORMATTER" "Ljava/util/function/BiFunction;" fm) (rf : fm.isRef = true) (cod : own_cod cs cd z vs) (hl : cs.length = 0 ∨ cs.length = 1 ∨ cs.length = 2 ∨ cs.length = 3) (hne : cs = [] → cd = 0) (hcs : ∀ c ∈ cs, ¬ c < 0 ∧ ¬ (65535 : Int32) < c) :
    MetFree l (⟨"com/example/crisp_bisim/crispbisim/formats/TextCursor", "isQuotable", "(Ljava/lang/String;)Z"⟩ : MethodName) (head1 (Jvm.Cond.code (⟨"com/example/crisp_bisim/crispbisim/formats/TextCursor", "isQuotable", "(Ljava/lang/String;)Z"⟩ : MethodName) prog_61_method_10_code 1 (some .boolean) :: ws) ({ frames := 7, cells := 0, slots := 0, locals := 100 } : Room)) (fun a U => a = #[(.ref a1)] ∧ Z.Warmed39 U.vm ∧ U.heap = h0) (fun _ _ _ _ _ => True) (fun _ U o U' => ∃ v L, o = .returned v ∧ own_QR (.int (own_q cs)) h0 n0 v U'.heap L ∧ FrameEnd U o U' L ({ frames := 7, cells := 0, slots := 0, locals := 100 } : Room).cells ({ frames := 7, cells := 0, slots := 0, locals := 100 } : Room).slots) := by
  by_cases q : own_ix 34 cs 0 < 0
  · by_cases r : own_ix 10 cs 0 < 0
    · have e : own_q cs = 1 := by simp [own_q, q, r]
      rw [e]; exact rm4_ff l Z a0 hw ws a1 G1 fm sv cd z vs cs k_sv h0 n0 Z0 S_COMPACT_STRINGS X00 P3 S__assertionsDisabled S_HI_BYTE_SHIFT S_LO_BYTE_SHIFT E_a1 F_value_a1 F_coder_a1 V_sv S_SIOOBE_FORMATTER rf cod hl hne hcs q r
    · have e : own_q cs = 0 := by simp [own_q, q, r]
      rw [e]; exact rm4_ft l Z a0 hw ws a1 G1 fm sv cd z vs cs k_sv h0 n0 Z0 S_COMPACT_STRINGS X00 P3 S__assertionsDisabled S_HI_BYTE_SHIFT S_LO_BYTE_SHIFT E_a1 F_value_a1 F_coder_a1 V_sv S_SIOOBE_FORMATTER rf cod hl hne hcs q r
  · have e : own_q cs = 0 := by simp [own_q, q]
    rw [e]; exact rm4_t l Z a0 hw ws a1 G1 fm sv cd z vs cs k_sv h0 n0 Z0 S_COMPACT_STRINGS X00 P3 S__assertionsDisabled S_HI_BYTE_SHIFT S_LO_BYTE_SHIFT E_a1 F_value_a1 F_coder_a1 V_sv S_SIOOBE_FORMATTER rf cod hl hne hcs q
abbrev own_x (p : Int32) : Int32 := ((p &&& (65535 : Int32)).toUInt32.toUInt16.toUInt32.toInt32)
theorem own_xnar (p : Int32) : nar .char (own_x p) = own_x p := own_c16 _
theorem own_xr (p : Int32) : ¬ own_x p < 0 ∧ ¬ (65535 : Int32) < own_x p := by
  have h : ∀ u : UInt16, ¬ (u.toUInt32.toInt32 : Int32) < 0 ∧ ¬ (65535 : Int32) < u.toUInt32.toInt32 := fun u => by
    have q : (u.toUInt32.toInt32).toInt = (u.toNat : Int) := by
      have e : u.toUInt32.toInt32.toInt = u.toUInt32.toBitVec.toInt := rfl
      have l := u.toNat_lt
      rw [e, BitVec.toInt_eq_toNat_cond]
      have n : u.toUInt32.toBitVec.toNat = u.toNat := by simp
      rw [n, if_pos (by omega)]
    have l := u.toNat_lt
    have e1 : (0 : Int32).toInt = 0 := rfl
    have e2 : (65535 : Int32).toInt = 65535 := rfl
    rw [Int32.lt_iff_toInt_lt, Int32.lt_iff_toInt_lt, q, e1, e2]
    omega
  exact h _
theorem own_h0 : ∀ c ∈ ([] : List Int32), ¬ c < 0 ∧ ¬ (65535 : Int32) < c := fun _ q => nomatch q
theorem own_hS (p : Int32) {L : List Int32} (r : ∀ c ∈ L, ¬ c < 0 ∧ ¬ (65535 : Int32) < c) : ∀ c ∈ own_x p :: L, ¬ c < 0 ∧ ¬ (65535 : Int32) < c := fun c q => by
  rcases List.mem_cons.mp q with rfl | q
  · exact own_xr p
  · exact r c q
def own_Q1K (h0 : Heap) (n0 : Nat) (v : Option Value) (h : Heap) (L : List Loc) : Prop := v = some (.int (1 : Int32)) ∧ Fr n0 L ∧ Keep h0 h []
theorem pn_0 : plainName "com/example/crisp_bisim/crispbisim/formats/TextCursorIsQuotablePinLaw" = true := by first | (simp [plainName, overriddenIn]; done) | decide +kernel
theorem pd_0_0 : parseMethodDescriptor "([C)V" = some ⟨[(.array .char)], none⟩ := by decide +kernel
theorem pd_0_3 : parseMethodDescriptor "(Ljava/lang/String;)Z" = some ⟨[(.object "java/lang/String")], some .boolean⟩ := by decide +kernel
theorem ef_0 (m : MethodId) (x0 : Int32) (x1 : Int32) (x2 : Int32) (x3 : Int32) : entryFrame m #[(.int x0), (.int x1), (.int x2), (.int x3)] maxLocals = mkF m 0 #[.val (.int x0), .val (.int x1), .val (.int x2), .val (.int x3), .unset, .unset, .unset, .unset, .unset, .unset] [] := by first | (simp [entryFrame, mkF, argsToLocals, Value.category, maxLocals]; done) | rfl
abbrev oL91 (p1 p2 p3 p4 : Int32) : Array Slot := #[.val (.int p1), .val (.int p2), .val (.int p3), .val (.int p4), .unset, .unset, .unset, .unset, .unset, .unset]
abbrev oL92 (p1 p2 p3 p4 : Int32) : Array Slot := #[.val (.int p1), .val (.int p2), .val (.int p3), .val (.int p4), .val (.int (p1 &&& (3 : Int32))), .val (.int (own_x p2)), .val (.int (own_x p3)), .val (.int (own_x p4)), .unset, .unset]
abbrev oL93 (p1 p2 p3 p4 : Int32) (b5 : Addr) : Array Slot := #[.val (.int p1), .val (.int p2), .val (.int p3), .val (.int p4), .val (.int (p1 &&& (3 : Int32))), .val (.int (own_x p2)), .val (.int (own_x p3)), .val (.int (own_x p4)), .val (.ref b5), .val (.int (1 : Int32))]
abbrev oL94 (p1 p2 p3 p4 : Int32) : Array Slot := #[.val (.int p1), .val (.int p2), .val (.int p3), .val (.int p4), .val (.int (p1 &&& (3 : Int32))), .unset, .unset, .unset, .unset, .unset]
abbrev oL95 (p1 p2 p3 p4 : Int32) : Array Slot := #[.val (.int p1), .val (.int p2), .val (.int p3), .val (.int p4), .val (.int (p1 &&& (3 : Int32))), .val (.int (own_x p2)), .unset, .unset, .unset, .unset]
abbrev oL96 (p1 p2 p3 p4 : Int32) : Array Slot := #[.val (.int p1), .val (.int p2), .val (.int p3), .val (.int p4), .val (.int (p1 &&& (3 : Int32))), .val (.int (own_x p2)), .val (.int (own_x p3)), .unset, .unset, .unset]
abbrev oL97 (p1 p2 p3 p4 : Int32) (b5 : Addr) : Array Slot := #[.val (.int p1), .val (.int p2), .val (.int p3), .val (.int p4), .val (.int (p1 &&& (3 : Int32))), .val (.int (own_x p2)), .val (.int (own_x p3)), .val (.int (own_x p4)), .val (.ref b5), .unset]
set_option maxRecDepth 65536 in
set_option maxHeartbeats 40000000 in
theorem rm0_0 (l : Launch) (Z : State) (a0 : Array Value) (hw : ∀ d ∈ tables_1, d.before a0 Z = true) (ws : List Jvm.Cond) (p1 : Int32) (p2 : Int32) (p3 : Int32) (p4 : Int32) (G1 : Int32) (fm : Value) (h0 : Heap) (n0 : Nat) (Z0 : n0 ≤ h0.size) (S_COMPACT_STRINGS : Sta Z Z.heap "java/lang/String" "COMPACT_STRINGS" "Z" (.int G1)) (X00 : Old Z n0 h0) (P3 : ¬ (G1 = (0 : Int32))) (S__assertionsDisabled : Sta Z Z.heap "java/lang/StringUTF16" "$assertionsDisabled" "Z" (.int (1 : Int32))) (S_HI_BYTE_SHIFT : Sta Z Z.heap "java/lang/StringUTF16" "HI_BYTE_SHIFT" "I" (.int (0 : Int32))) (S_LO_BYTE_SHIFT : Sta Z Z.heap "java/lang/StringUTF16" "LO_BYTE_SHIFT" "I" (.int (8 : Int32))) (S_SIOOBE_FORMATTER : Sta Z Z.heap "jdk/internal/util/Preconditions" "SIOOBE_FORMATTER" "Ljava/util/function/BiFunction;" fm) (rf : fm.isRef = true) (hc28 : (p1 &&& (3 : Int32)) = (0 : Int32)) (hc151 : (p1 &&& (3 : Int32)) < (1 : Int32)) (hc165 : (p1 &&& (3 : Int32)) < (2 : Int32)) (hc179 : (p1 &&& (3 : Int32)) < (3 : Int32)) (hc204 : (own_q ([] : List Int32)) = (1 : Int32)) :
    MetFree l x (head1 (Jvm.Cond.code x code maxLocals ret :: ws) room_1) (fun a U => a = #[(.int p1), (.int p2), (.int p3), (.int p4)] ∧ Z.Warmed39 U.vm ∧ U.heap = h0 ∧ CHv Z consts_1 U.vm h0) (fun _ _ _ _ _ => True) (fun _ U o U' => ∃ v L, o = .returned v ∧ own_Q1K h0 n0 v U'.heap L ∧ CHr Z consts_1 U.vm U.heap U'.vm U'.heap ∧ ReturnedEndW U o U' L room_1.cells room_1.slots) := by
  refine MetFree.of_bodySF (plainFor_of_name pn_0) hisR ?_
  intro p e s m args below meth c s₁ Bd hml0 hP hK
  obtain ⟨rfl, hZ, hh, H0⟩ := hP
  have hx := Bd.exec
  have hby := Bd.bytes
  have hml : c.maxLocals = 10 := hml0
  have hown : s.vm.findClass "com/example/crisp_bisim/crispbisim/formats/TextCursorIsQuotablePinLaw" = some m.cls := findClass_of_methodNamed Bd.named
  have hnm := (name_of_methodNamed Bd.named Bd.method).1
  have X0 : Stand p l e room_1 (s.setVm s.vm) m #[(.int p1), (.int p2), (.int p3), (.int p4)] below meth c s₁ [] 0 0 := Stand.of_body Bd
  have e0 : s₁.heap = h0 := by rw [← hh, Bd.state]; rfl
  have N0 := Fr.nil n0
  have pre0 : ∀ t, Steps p.tables e below (s₁.setTop (mkF m 0 (oL91 p1 p2 p3 p4) [])) t → Steps p.tables e below (s₁.setTop (entryFrame m #[(.int p1), (.int p2), (.int p3), (.int p4)] maxLocals)) t := fun t k => castTop (ef_0 m p1 p2 p3 p4) k
  have hS : s.Since s.vm 0 := (State.WarmedH.refl s).since 0
  have hk := Nat.zero_le h0.size
  have R0 : CHr Z consts_1 s.vm h0 s.vm h0 := CHr.refl H0
  obtain ⟨T5, h5, X5, e5, E5, A5, D5, Un5, st5⟩ := newO X0 hx hZ hown (hw _ (wI 1 rfl)) (hw _ (wI 2 rfl)) (hw _ (wI 3 rfl)) e0 (g := (mkF m 31 (oL92 p1 p2 p3 p4) [])) rfl (hb hby at_31) (by decide) (by decide)
  obtain ⟨b5, g5⟩ : ∃ z, z = h0.size := ⟨_, rfl⟩
  rw [← g5] at A5 D5 Un5 st5
  have U_b5 : Unt h5 b5 := Un5
  have F_value_b5 : Fld Z h5 b5 "java/lang/String" "value" "[B" .null := D5 (Or.inr (hw _ (wI 17 rfl))) (ty := (.array .byte)) (by decide)
  have F_coder_b5 : Fld Z h5 b5 "java/lang/String" "coder" "B" (.int (0 : Int32)) := D5 (Or.inr (hw _ (wI 18 rfl))) (ty := .byte) (by decide)
  have R5 := R0.trans (CHr.ext E5 R0.1)
  have Sf_b5_5 := Safe.ext E5 R0.1 (Safe.new (Nat.le_of_eq g5.symm))
  have E_b5 := A5
  have g_b5 : n0 ≤ b5 := Nat.le_trans Z0 (Nat.le_of_eq g5.symm)
  have sz_b5 : h0.size ≤ b5 := (Nat.le_trans (Keep.refl h0 []).1 (Nat.le_of_eq g5.symm))
  have K5 : Keep h0 h5 [] := (Keep.refl h0 []).ext E5
  obtain ⟨T6, h6, k6, X6, e6, E6, A6, st6⟩ := newP X5 hx hZ (hw _ (wI 4 rfl)) e5 (g := (mkF m 36 (oL92 p1 p2 p3 p4) [(.int (0 : Int32)), (.ref b5), (.ref b5)])) rfl (hb hby at_36) rfl (by decide) (cap := 0) (by decide) (by decide) (by decide) (by decide)
  obtain ⟨b6, g6⟩ : ∃ z, z = h5.size := ⟨_, rfl⟩
  rw [← g6] at A6 st6
  have V_b6 := Arv.new A6 (by decide)
  have g_b6 : n0 ≤ b6 := Nat.le_trans (Nat.le_trans Z0 E5.1) (Nat.le_of_eq g6.symm)
  have sz_b6 : h0.size ≤ b6 := (Nat.le_trans K5.1 (Nat.le_of_eq g6.symm))
  have R6 := R5.trans (CHr.ext E6 R5.1)
  have Sf_b5_6 := Safe.ext E6 R5.1 Sf_b5_5
  have Sf_b6_6 := Safe.ext E6 R5.1 (Safe.new (Nat.le_of_eq g6.symm))
  have K6 : Keep h0 h6 [] := K5.ext E6
  obtain ⟨_, _, ⟨T7, L7, k7, n7⟩, -, X7, hSc7, hgr7, ⟨Lc7, hQ7, l7, y7, z7, Cr7⟩, st7⟩ := X6.specialBackS hx (y := (⟨"java/lang/String", "<init>", "([C)V"⟩ : MethodName)) rfl hown (mvT hZ (hw _ (wI 5 rfl))) (mvT hZ (hw _ (wI 6 rfl))) (mvT hZ (hw _ (wI 7 rfl))) (by decide) (backOfSH (W := 1) (rm1e l Z a0 hw [] b5 b6 k6 (0 : Int32) [] (.int (0 : Int32)) h6 n0 (Nat.le_trans (Nat.le_trans Z0 E5.1) E6.1) rfl (E_b5.ext E6) (F_value_b5.ext E6) (F_coder_b5.ext E6) g_b5 V_b6) hZ (hw _ (wI 7 rfl)) (hw _ (wI 3 rfl)) (by decide) (by decide) (own_EW hw) R6.1) (g := (mkF m 38 (oL92 p1 p2 p3 p4) [(.ref b6), (.ref b5), (.ref b5)])) rfl (by rw [hml]; rfl) (Steps.refl _) (a := b5) (argsL := [(.ref b6)]) (rest := [(.ref b5)]) (lenOf pd_0_0 rfl) rfl (by show 2 * 0 + _ ≤ _; exact Nat.le_of_eq rfl) (hb hby at_38) (fun _ _ => ⟨rfl, e6, (by decide : 2 + 2 ≤ _), (by decide : 4 + 4 ≤ _)⟩)
  dsimp only [Pt.U, Pt.locs, Pt.cells, Pt.slots] at hSc7 hgr7 Cr7
  dsimp only [Pt.U, Pt.locs, Pt.cells, Pt.slots] at X7 l7 y7 z7 st7 hQ7
  subst l7 y7 z7
  obtain ⟨rfl, N7q, Kc7, t7, kt7, Fv7, Fc7, V7⟩ := hQ7
  have N7 := Fr.app N0 N7q
  obtain ⟨X7, hS, hZ7, hown7⟩ := rebS hS (by rw [e6]; exact (Nat.le_trans (Nat.le_trans hk E5.1) E6.1)) X7 hSc7 hgr7 hZ hown
  have hk := Nat.le_refl T7.heap.size
  have Kq7 : Keep h6 T7.heap [b5] := Kc7
  have K7 : Keep h0 T7.heap [] := K6.trans Kq7 (own_trS (Or.inr sz_b5) all0)
  have R7 := R6.trans Cr7
  have Sf_b5_7 := Cr7.safe (E_b5.ext E6).lt Sf_b5_6
  have Sf_b6_7 := Cr7.safe V_b6.lt Sf_b6_6
  obtain ⟨_, _, ⟨T8, L8, k8, n8⟩, -, X8, ⟨Lc8, hQ8, l8, y8, z8⟩, st8⟩ := Jvm.LawKit.callS X7 hx (y := (⟨"com/example/crisp_bisim/crispbisim/formats/TextCursor", "isQuotable", "(Ljava/lang/String;)Z"⟩ : MethodName)) hown7 (mvT hZ7 (hw _ (wI 23 rfl))) (mvT hZ7 (hw _ (wI 24 rfl))) (mvT hZ7 (hw _ (wI 25 rfl))) (mvT hZ7 (hw _ (wI 26 rfl))) (by decide) (backOf (W := 0) (rm4 l Z a0 hw [] b5 G1 fm t7 0 0 [] [] kt7 T7.heap n0 (Nat.le_trans (Nat.le_trans (Nat.le_trans Z0 E5.1) E6.1) Kq7.1) S_COMPACT_STRINGS (X00.keep K7 all0) P3 S__assertionsDisabled S_HI_BYTE_SHIFT S_LO_BYTE_SHIFT ((E_b5.ext E6).keep Kq7) Fv7 Fc7 V7 S_SIOOBE_FORMATTER rf (Or.inl ⟨rfl, rfl, rfl, fun _ q => nomatch q⟩) (Or.inl rfl) (fun _ => rfl) own_h0) hZ7 (hw _ (wI 26 rfl)) (hw _ (wI 25 rfl)) (by decide) (by decide)) (g := (mkF m 199 (oL93 p1 p2 p3 p4 b5) [(.ref b5)])) rfl (by rw [hml]; rfl) (argsL := [(.ref b5)]) (rest := []) (lenOf pd_0_3 rfl) rfl (by show 2 * 0 + _ ≤ _; exact Nat.le_of_eq rfl) (hb hby at_199) (fun _ _ => ⟨rfl, rfl, (by decide : 4 + 0 ≤ _), (by decide : 8 + 0 ≤ _)⟩)
  dsimp only [Pt.U, Pt.locs, Pt.cells, Pt.slots] at X8 l8 y8 z8 st8 hQ8
  subst l8 y8 z8
  obtain ⟨rfl, N8q, eq8⟩ := hQ8
  have N8 := Fr.app N7 N8q
  have Kq8 : Keep T7.heap T8.heap [] := (own_keq eq8)
  have K8 : Keep h0 T8.heap [] := K7.trans Kq8 all0
  have R8 := R7.trans (CHr.keep Kq8 sf0 R7.1)
  have Sf_b5_8 := Safe.keep Kq8 sf0 R7.1 Sf_b5_7
  have Sf_b6_8 := Safe.keep Kq8 sf0 R7.1 Sf_b6_7
  obtain ⟨fs, hr, hrun, hended, hRW⟩ := X8.leaveW hS ((Nat.le_trans hk Kq8.1)) (v := some (.int (1 : Int32))) (fun h => by rw [Bd.returns] at h; cases h)
  refine ⟨_, _, pre0 _ ?_, hrun, hended, _, _, rfl, ?_, ?_, hRW.1, hRW.2.1, hRW.2.2.1, hRW.2.2.2.mono (by decide) (by decide)⟩
  · show Steps p.tables e below (s₁.setTop (mkF m 0 (oL91 p1 p2 p3 p4) [])) _
    refine XS.iloadN X0.here hx rfl (hb hby at_0) rfl ?_
    refine XS.iconst X0.here hx rfl (hb hby at_1) ?_
    refine XS.iand X0.here hx rfl (hb hby at_2) rfl ?_
    refine XS.istore X0.here hx rfl (hb hby at_3) rfl (l' := (oL94 p1 p2 p3 p4)) rfl ?_
    refine XS.iloadN X0.here hx rfl (hb hby at_5) rfl ?_
    show Steps p.tables e below (s₁.setTop (mkF m 6 (oL94 p1 p2 p3 p4) [(.int p2)])) _
    refine X0.ldcInt hx hown (mvT hZ (hw _ (wI 0 rfl))) (g := (mkF m 6 (oL94 p1 p2 p3 p4) [(.int p2)])) rfl (hb hby at_6) _ ?_
    refine XS.iand X0.here hx rfl (hb hby at_8) rfl ?_
    refine XS.i2c X0.here hx rfl (hb hby at_9) rfl ?_
    refine XS.istore X0.here hx rfl (hb hby at_10) rfl (l' := (oL95 p1 p2 p3 p4)) rfl ?_
    refine XS.iloadN X0.here hx rfl (hb hby at_12) rfl ?_
    show Steps p.tables e below (s₁.setTop (mkF m 13 (oL95 p1 p2 p3 p4) [(.int p3)])) _
    refine X0.ldcInt hx hown (mvT hZ (hw _ (wI 0 rfl))) (g := (mkF m 13 (oL95 p1 p2 p3 p4) [(.int p3)])) rfl (hb hby at_13) _ ?_
    refine XS.iand X0.here hx rfl (hb hby at_15) rfl ?_
    refine XS.i2c X0.here hx rfl (hb hby at_16) rfl ?_
    refine XS.istore X0.here hx rfl (hb hby at_17) rfl (l' := (oL96 p1 p2 p3 p4)) rfl ?_
    refine XS.iloadN X0.here hx rfl (hb hby at_19) rfl ?_
    show Steps p.tables e below (s₁.setTop (mkF m 20 (oL96 p1 p2 p3 p4) [(.int p4)])) _
    refine X0.ldcInt hx hown (mvT hZ (hw _ (wI 0 rfl))) (g := (mkF m 20 (oL96 p1 p2 p3 p4) [(.int p4)])) rfl (hb hby at_20) _ ?_
    refine XS.iand X0.here hx rfl (hb hby at_22) rfl ?_
    refine XS.i2c X0.here hx rfl (hb hby at_23) rfl ?_
    refine XS.istore X0.here hx rfl (hb hby at_24) rfl (l' := (oL92 p1 p2 p3 p4)) rfl ?_
    refine XS.iload X0.here hx rfl (hb hby at_26) rfl ?_
    show Steps p.tables e below (s₁.setTop (mkF m 28 (oL92 p1 p2 p3 p4) [(.int (p1 &&& (3 : Int32)))])) _
    refine XS.ifNo X0.here hx rfl (hb hby at_28) rfl ((if0 _ _).trans (teq hc28).2) ?_
    refine st5 _ ?_
    refine XS.dup X5.here hx rfl (hb hby at_34) rfl rfl ?_
    refine XS.iconst X5.here hx rfl (hb hby at_35) ?_
    refine st6 _ ?_
    show Steps p.tables e below (T6.setTop (mkF m 38 (oL92 p1 p2 p3 p4) [(.ref b6), (.ref b5), (.ref b5)])) _
    refine st7.trans ?_
    refine XS.astore X7.here hx rfl (hb hby at_41) rfl rfl (l' := (oL97 p1 p2 p3 p4 b5)) rfl ?_
    refine XS.goto X7.here hx rfl (pc0 := 43) (pc' := 148) rfl (hb hby at_43) (by decide) (by decide) ?_
    refine XS.iload X7.here hx rfl (hb hby at_148) rfl ?_
    refine XS.iconst X7.here hx rfl (hb hby at_150) ?_
    show Steps p.tables e below (T7.setTop (mkF m 151 (oL97 p1 p2 p3 p4 b5) [(.int (1 : Int32)), (.int (p1 &&& (3 : Int32)))])) _
    refine XS.icmpYes X7.here hx rfl (pc0 := 151) (pc' := 162) rfl (hb hby at_151) rfl (tlt hc151).1 (by decide) (by decide) ?_
    refine XS.iload X7.here hx rfl (hb hby at_162) rfl ?_
    refine XS.iconst X7.here hx rfl (hb hby at_164) ?_
    refine XS.icmpYes X7.here hx rfl (pc0 := 165) (pc' := 176) rfl (hb hby at_165) rfl (tlt hc165).1 (by decide) (by decide) ?_
    refine XS.iload X7.here hx rfl (hb hby at_176) rfl ?_
    show Steps p.tables e below (T7.setTop (mkF m 178 (oL97 p1 p2 p3 p4 b5) [(.int (p1 &&& (3 : Int32)))])) _
    refine XS.iconst X7.here hx rfl (hb hby at_178) ?_
    refine XS.icmpYes X7.here hx rfl (pc0 := 179) (pc' := 190) rfl (hb hby at_179) rfl (tlt hc179).1 (by decide) (by decide) ?_
    refine XS.iconst X7.here hx rfl (hb hby at_190) ?_
    refine XS.goto X7.here hx rfl (pc0 := 191) (pc' := 195) rfl (hb hby at_191) (by decide) (by decide) ?_
    refine XS.istore X7.here hx rfl (hb hby at_195) rfl (l' := (oL93 p1 p2 p3 p4 b5)) rfl ?_
    show Steps p.tables e below (T7.setTop (mkF m 197 (oL93 p1 p2 p3 p4 b5) [])) _
    refine XS.aload X7.here hx rfl (hb hby at_197) rfl rfl ?_
    refine st8 _ ?_
    refine XS.iload X8.here hx rfl (hb hby at_202) rfl ?_
    refine XS.icmpNo X8.here hx rfl (hb hby at_204) rfl (teq hc204).2 ?_
    refine XS.iconst X8.here hx rfl (hb hby at_207) ?_
    show Steps p.tables e below (T8.setTop (mkF m 208 (oL93 p1 p2 p3 p4 b5) [(.int (1 : Int32))])) _
    refine XS.goto X8.here hx rfl (pc0 := 208) (pc' := 212) rfl (hb hby at_208) (by decide) (by decide) ?_
    exact retN X8 hx (t := .boolean) Bd.returns (by simp) (hb hby at_212) hr
  · show own_Q1K h0 n0 _ T8.heap _
    exact ⟨rfl, N8, K8⟩
  · show CHr Z consts_1 s.vm s.heap T8.vm T8.heap
    rw [hh]
    exact R8.trans (CHv.at X8 hZ7 (own_EW hw) R8.1)
theorem pd_0_14 : parseMethodDescriptor "(C)Z" = some ⟨[.char], some .boolean⟩ := by decide +kernel
abbrev oL98 (p1 p2 p3 p4 : Int32) (b5 : Addr) : Array Slot := #[.val (.int p1), .val (.int p2), .val (.int p3), .val (.int p4), .val (.int (p1 &&& (3 : Int32))), .val (.int (own_x p2)), .val (.int (own_x p3)), .val (.int (own_x p4)), .unset, .val (.ref b5)]
abbrev oL99 (p1 p2 p3 p4 : Int32) (b5 b7 : Addr) : Array Slot := #[.val (.int p1), .val (.int p2), .val (.int p3), .val (.int p4), .val (.int (p1 &&& (3 : Int32))), .val (.int (own_x p2)), .val (.int (own_x p3)), .val (.int (own_x p4)), .val (.ref b7), .val (.ref b5)]
abbrev oL100 (p1 p2 p3 p4 : Int32) (b7 : Addr) : Array Slot := #[.val (.int p1), .val (.int p2), .val (.int p3), .val (.int p4), .val (.int (p1 &&& (3 : Int32))), .val (.int (own_x p2)), .val (.int (own_x p3)), .val (.int (own_x p4)), .val (.ref b7), .val (.int (0 : Int32))]
set_option maxRecDepth 65536 in
set_option maxHeartbeats 40000000 in
theorem rm0_1_0 (l : Launch) (Z : State) (a0 : Array Value) (hw : ∀ d ∈ tables_1, d.before a0 Z = true) (ws : List Jvm.Cond) (p1 : Int32) (p2 : Int32) (p3 : Int32) (p4 : Int32) (G1 : Int32) (fm : Value) (h0 : Heap) (n0 : Nat) (Z0 : n0 ≤ h0.size) (S_COMPACT_STRINGS : Sta Z Z.heap "java/lang/String" "COMPACT_STRINGS" "Z" (.int G1)) (X00 : Old Z n0 h0) (P3 : ¬ (G1 = (0 : Int32))) (S__assertionsDisabled : Sta Z Z.heap "java/lang/StringUTF16" "$assertionsDisabled" "Z" (.int (1 : Int32))) (S_HI_BYTE_SHIFT : Sta Z Z.heap "java/lang/StringUTF16" "HI_BYTE_SHIFT" "I" (.int (0 : Int32))) (S_LO_BYTE_SHIFT : Sta Z Z.heap "java/lang/StringUTF16" "LO_BYTE_SHIFT" "I" (.int (8 : Int32))) (S_SIOOBE_FORMATTER : Sta Z Z.heap "jdk/internal/util/Preconditions" "SIOOBE_FORMATTER" "Ljava/util/function/BiFunction;" fm) (rf : fm.isRef = true) (hc28 : ¬ ((p1 &&& (3 : Int32)) = (0 : Int32))) (hc49 : (p1 &&& (3 : Int32)) = (1 : Int32)) (hc151 : ¬ ((p1 &&& (3 : Int32)) < (1 : Int32))) (hc159 : (own_ok (own_x p2)) = (0 : Int32)) (hc204 : (own_q [(own_x p2)]) = (0 : Int32)) :
    MetFree l x (head1 (Jvm.Cond.code x code maxLocals ret :: ws) room_1) (fun a U => a = #[(.int p1), (.int p2), (.int p3), (.int p4)] ∧ Z.Warmed39 U.vm ∧ U.heap = h0) (fun _ _ _ _ _ => True) (fun _ U o U' => ∃ v L, o = .returned v ∧ own_Q1K h0 n0 v U'.heap L ∧ FrameEnd U o U' L room_1.cells room_1.slots) := by
  refine MetFree.of_bodySF (plainFor_of_name pn_0) hisR ?_
  intro p e s m args below meth c s₁ Bd hml0 hP hK
  obtain ⟨rfl, hZ, hh⟩ := hP
  have hx := Bd.exec
  have hby := Bd.bytes
  have hml : c.maxLocals = 10 := hml0
  have hown : s.vm.findClass "com/example/crisp_bisim/crispbisim/formats/TextCursorIsQuotablePinLaw" = some m.cls := findClass_of_methodNamed Bd.named
  have hnm := (name_of_methodNamed Bd.named Bd.method).1
  have X0 : Stand p l e room_1 s m #[(.int p1), (.int p2), (.int p3), (.int p4)] below meth c s₁ [] 0 0 := Stand.of_body Bd
  have e0 : s₁.heap = h0 := by rw [← hh, Bd.state]; rfl
  have N0 := Fr.nil n0
  have pre0 : ∀ t, Steps p.tables e below (s₁.setTop (mkF m 0 (oL91 p1 p2 p3 p4) [])) t → Steps p.tables e below (s₁.setTop (entryFrame m #[(.int p1), (.int p2), (.int p3), (.int p4)] maxLocals)) t := fun t k => castTop (ef_0 m p1 p2 p3 p4) k
  obtain ⟨T5, h5, k5, X5, e5, E5, A5, st5⟩ := newP X0 hx hZ (hw _ (wI 4 rfl)) e0 (g := (mkF m 53 (oL92 p1 p2 p3 p4) [(.int (1 : Int32))])) rfl (hb hby at_53) rfl (by decide) (cap := 1) (by decide) (by decide) (by decide) (by decide)
  obtain ⟨b5, g5⟩ : ∃ z, z = h0.size := ⟨_, rfl⟩
  rw [← g5] at A5 st5
  have V_b5 : Arv Z h5 b5 k5 .char (1 : Int32) [(.int (0 : Int32))] (.int (0 : Int32)) := (Arv.new A5 (by decide)).pad (pad_rep [] (.int (0 : Int32)) 1)
  have g_b5 : n0 ≤ b5 := Nat.le_trans Z0 (Nat.le_of_eq g5.symm)
  have sz_b5 : h0.size ≤ b5 := (Nat.le_trans (Keep.refl h0 []).1 (Nat.le_of_eq g5.symm))
  have K5 : Keep h0 h5 [] := (Keep.refl h0 []).ext E5
  obtain ⟨cl_b5_31, Ar_b5_31, q_b5_31, S_b5_31, N_b5_31, H_b5_31, G_b5_31⟩ := id V_b5
  have hin_b5_31 : ¬ ((0 : Int32) < 0 ∨ cl_b5_31.slots.size ≤ ((0 : Int32)).toNatClampNeg) := inb_of S_b5_31 ⟨by decide, by decide⟩
  obtain ⟨T6, h6, X6, e6, W6, st6⟩ := stC X5 hx hZ e5 Ar_b5_31 (j := (0 : Int32)) hin_b5_31 (g := (mkF m 62 (oL98 p1 p2 p3 p4 b5) [(.int (own_x p2)), (.int (0 : Int32)), (.ref b5)])) rfl rfl (hb hby at_62)
  have V_b5_6 : Arv Z h6 b5 k5 .char (1 : Int32) [(.int (nar .char (own_x p2)))] (.int (0 : Int32)) := Arv.set Ar_b5_31 q_b5_31 S_b5_31 N_b5_31 H_b5_31 G_b5_31 (fits_nar_char _) W6 0 (by decide) (Nat.le_of_ble_eq_true rfl)
  have K6 : Keep h0 h6 [] := K5.wr W6 (Or.inr sz_b5)
  have N6 := Fr.snoc X6 N0 g_b5
  obtain ⟨T7, h7, X7, e7, E7, A7, D7, Un7, st7⟩ := newO X6 hx hZ hown (hw _ (wI 1 rfl)) (hw _ (wI 2 rfl)) (hw _ (wI 3 rfl)) e6 (g := (mkF m 63 (oL98 p1 p2 p3 p4 b5) [])) rfl (hb hby at_63) (by decide) (by decide)
  obtain ⟨b7, g7⟩ : ∃ z, z = h6.size := ⟨_, rfl⟩
  rw [← g7] at A7 D7 Un7 st7
  have U_b7 : Unt h7 b7 := Un7
  have F_value_b7 : Fld Z h7 b7 "java/lang/String" "value" "[B" .null := D7 (Or.inr (hw _ (wI 17 rfl))) (ty := (.array .byte)) (by decide)
  have F_coder_b7 : Fld Z h7 b7 "java/lang/String" "coder" "B" (.int (0 : Int32)) := D7 (Or.inr (hw _ (wI 18 rfl))) (ty := .byte) (by decide)
  have E_b7 := A7
  have g_b7 : n0 ≤ b7 := Nat.le_trans (Nat.le_trans (Nat.le_trans Z0 E5.1) (Keep.of_wr W6).1) (Nat.le_of_eq g7.symm)
  have sz_b7 : h0.size ≤ b7 := (Nat.le_trans K6.1 (Nat.le_of_eq g7.symm))
  have K7 : Keep h0 h7 [] := K6.ext E7
  have Vb8 : Arv Z h7 b5 k5 .char (Int32.ofNat ([(own_x p2)] : List Int32).length) ([(own_x p2)].map Value.int) (.int (0 : Int32)) := by
    have q : Arv Z h7 b5 k5 .char (1 : Int32) [(.int (nar .char (own_x p2)))] (.int (0 : Int32)) := (V_b5_6.ext E7)
    simp only [own_xnar] at q
    exact q
  obtain ⟨_, _, ⟨T8, L8, k8, n8⟩, -, X8, ⟨Lc8, hQ8, l8, y8, z8⟩, st8⟩ := X7.specialBack hx (y := (⟨"java/lang/String", "<init>", "([C)V"⟩ : MethodName)) rfl hown (mvT hZ (hw _ (wI 5 rfl))) (mvT hZ (hw _ (wI 6 rfl))) (mvT hZ (hw _ (wI 7 rfl))) (by decide) (backOf (W := 1) (rm1 l Z a0 hw [] b7 b5 G1 [(own_x p2)] k5 h7 n0 (Nat.le_trans (Nat.le_trans (Nat.le_trans Z0 E5.1) (Keep.of_wr W6).1) E7.1) S_COMPACT_STRINGS (X00.keep K7 all0) P3 S__assertionsDisabled S_HI_BYTE_SHIFT S_LO_BYTE_SHIFT E_b7 F_value_b7 F_coder_b7 Vb8 g_b7 (Or.inl rfl) (own_hS p2 own_h0)) hZ (hw _ (wI 7 rfl)) (hw _ (wI 3 rfl)) (by decide) (by decide)) (g := (mkF m 69 (oL98 p1 p2 p3 p4 b5) [(.ref b5), (.ref b7), (.ref b7)])) rfl (by rw [hml]; rfl) (Steps.refl _) (a := b7) (argsL := [(.ref b5)]) (rest := [(.ref b7)]) (lenOf pd_0_0 rfl) rfl (by show 2 * 0 + _ ≤ _; exact Nat.le_of_eq rfl) (hb hby at_69) (fun _ _ => ⟨rfl, e7, (by decide : 2 + 2 ≤ _), (by decide : 5 + 9 ≤ _)⟩)
  dsimp only [Pt.U, Pt.locs, Pt.cells, Pt.slots] at X8 l8 y8 z8 st8 hQ8
  subst l8 y8 z8
  obtain ⟨rfl, N8q, Kc8, t8, kt8, cd8, z8, vs8, g_t8, gz_t8, Fv8, Fc8, V8, cod8⟩ := hQ8
  have N8 := Fr.app N6 N8q
  have Kq8 : Keep h7 T8.heap [b7] := Kc8
  have K8 : Keep h0 T8.heap [] := K7.trans Kq8 (own_trS (Or.inr sz_b7) all0)
  obtain ⟨_, _, ⟨T9, L9, k9, n9⟩, -, X9, ⟨Lc9, hQ9, l9, y9, z9⟩, st9⟩ := Jvm.LawKit.callS X8 hx (y := (⟨"com/example/crisp_bisim/crispbisim/formats/TextCursorIsQuotablePinLaw", "ok", "(C)Z"⟩ : MethodName)) hown (mvT hZ (hw _ (wI 77 rfl))) (mvT hZ (hw _ (wI 78 rfl))) (mvT hZ (hw _ (wI 79 rfl))) (mvT hZ (hw _ (wI 80 rfl))) (by decide) (backOf (W := 0) (rm17 l Z a0 hw [] (own_x p2)  T8.heap n0 (Nat.le_trans (Nat.le_trans (Nat.le_trans (Nat.le_trans Z0 E5.1) (Keep.of_wr W6).1) E7.1) Kq8.1)) hZ (hw _ (wI 80 rfl)) (hw _ (wI 79 rfl)) (by decide) (by decide)) (g := (mkF m 156 (oL99 p1 p2 p3 p4 b5 b7) [(.int (own_x p2))])) rfl (by rw [hml]; rfl) (argsL := [(.int (own_x p2))]) (rest := []) (lenOf pd_0_14 rfl) rfl (by show 2 * 0 + _ ≤ _; exact Nat.le_of_eq rfl) (hb hby at_156) (fun _ _ => ⟨rfl, rfl, (by decide : 4 + 0 ≤ _), (by decide : 14 + 0 ≤ _)⟩)
  dsimp only [Pt.U, Pt.locs, Pt.cells, Pt.slots] at X9 l9 y9 z9 st9 hQ9
  subst l9 y9 z9
  obtain ⟨rfl, N9q, eq9⟩ := hQ9
  have N9 := Fr.app N8 N9q
  have Kq9 : Keep T8.heap T9.heap [] := (own_keq eq9)
  have K9 : Keep h0 T9.heap [] := K8.trans Kq9 all0
  obtain ⟨_, _, ⟨T10, L10, k10, n10⟩, -, X10, ⟨Lc10, hQ10, l10, y10, z10⟩, st10⟩ := Jvm.LawKit.callS X9 hx (y := (⟨"com/example/crisp_bisim/crispbisim/formats/TextCursor", "isQuotable", "(Ljava/lang/String;)Z"⟩ : MethodName)) hown (mvT hZ (hw _ (wI 23 rfl))) (mvT hZ (hw _ (wI 24 rfl))) (mvT hZ (hw _ (wI 25 rfl))) (mvT hZ (hw _ (wI 26 rfl))) (by decide) (backOf (W := 0) (rm4 l Z a0 hw [] b7 G1 fm t8 cd8 z8 vs8 [(own_x p2)] kt8 T9.heap n0 (Nat.le_trans (Nat.le_trans (Nat.le_trans (Nat.le_trans (Nat.le_trans Z0 E5.1) (Keep.of_wr W6).1) E7.1) Kq8.1) Kq9.1) S_COMPACT_STRINGS (X00.keep K9 all0) P3 S__assertionsDisabled S_HI_BYTE_SHIFT S_LO_BYTE_SHIFT ((E_b7.keep Kq8).keep Kq9) (Fv8.keep Kq9 (fun q => nomatch q)) (Fc8.keep Kq9 (fun q => nomatch q)) (V8.keep Kq9 (fun q => nomatch q)) S_SIOOBE_FORMATTER rf cod8 (Or.inr (Or.inl rfl)) (fun q => by cases q) (own_hS p2 own_h0)) hZ (hw _ (wI 26 rfl)) (hw _ (wI 25 rfl)) (by decide) (by decide)) (g := (mkF m 199 (oL100 p1 p2 p3 p4 b7) [(.ref b7)])) rfl (by rw [hml]; rfl) (argsL := [(.ref b7)]) (rest := []) (lenOf pd_0_3 rfl) rfl (by show 2 * 0 + _ ≤ _; exact Nat.le_of_eq rfl) (hb hby at_199) (fun _ _ => ⟨rfl, rfl, (by decide : 4 + 0 ≤ _), (by decide : 14 + 0 ≤ _)⟩)
  dsimp only [Pt.U, Pt.locs, Pt.cells, Pt.slots] at X10 l10 y10 z10 st10 hQ10
  subst l10 y10 z10
  obtain ⟨rfl, N10q, eq10⟩ := hQ10
  have N10 := Fr.app N9 N10q
  have Kq10 : Keep T9.heap T10.heap [] := (own_keq eq10)
  have K10 : Keep h0 T10.heap [] := K9.trans Kq10 all0
  obtain ⟨fs, hr, hrun, hended, hW, hsame⟩ := X10.leave (v := some (.int (1 : Int32))) (fun h => by rw [Bd.returns] at h; cases h)
  refine ⟨_, _, pre0 _ ?_, hrun, hended, _, _, rfl, ?_, ⟨_, rfl⟩, hW, hsame.mono (by decide) (by decide)⟩
  · show Steps p.tables e below (s₁.setTop (mkF m 0 (oL91 p1 p2 p3 p4) [])) _
    refine XS.iloadN X0.here hx rfl (hb hby at_0) rfl ?_
    refine XS.iconst X0.here hx rfl (hb hby at_1) ?_
    refine XS.iand X0.here hx rfl (hb hby at_2) rfl ?_
    refine XS.istore X0.here hx rfl (hb hby at_3) rfl (l' := (oL94 p1 p2 p3 p4)) rfl ?_
    refine XS.iloadN X0.here hx rfl (hb hby at_5) rfl ?_
    show Steps p.tables e below (s₁.setTop (mkF m 6 (oL94 p1 p2 p3 p4) [(.int p2)])) _
    refine X0.ldcInt hx hown (mvT hZ (hw _ (wI 0 rfl))) (g := (mkF m 6 (oL94 p1 p2 p3 p4) [(.int p2)])) rfl (hb hby at_6) _ ?_
    refine XS.iand X0.here hx rfl (hb hby at_8) rfl ?_
    refine XS.i2c X0.here hx rfl (hb hby at_9) rfl ?_
    refine XS.istore X0.here hx rfl (hb hby at_10) rfl (l' := (oL95 p1 p2 p3 p4)) rfl ?_
    refine XS.iloadN X0.here hx rfl (hb hby at_12) rfl ?_
    show Steps p.tables e below (s₁.setTop (mkF m 13 (oL95 p1 p2 p3 p4) [(.int p3)])) _
    refine X0.ldcInt hx hown (mvT hZ (hw _ (wI 0 rfl))) (g := (mkF m 13 (oL95 p1 p2 p3 p4) [(.int p3)])) rfl (hb hby at_13) _ ?_
    refine XS.iand X0.here hx rfl (hb hby at_15) rfl ?_
    refine XS.i2c X0.here hx rfl (hb hby at_16) rfl ?_
    refine XS.istore X0.here hx rfl (hb hby at_17) rfl (l' := (oL96 p1 p2 p3 p4)) rfl ?_
    refine XS.iloadN X0.here hx rfl (hb hby at_19) rfl ?_
    show Steps p.tables e below (s₁.setTop (mkF m 20 (oL96 p1 p2 p3 p4) [(.int p4)])) _
    refine X0.ldcInt hx hown (mvT hZ (hw _ (wI 0 rfl))) (g := (mkF m 20 (oL96 p1 p2 p3 p4) [(.int p4)])) rfl (hb hby at_20) _ ?_
    refine XS.iand X0.here hx rfl (hb hby at_22) rfl ?_
    refine XS.i2c X0.here hx rfl (hb hby at_23) rfl ?_
    refine XS.istore X0.here hx rfl (hb hby at_24) rfl (l' := (oL92 p1 p2 p3 p4)) rfl ?_
    refine XS.iload X0.here hx rfl (hb hby at_26) rfl ?_
    show Steps p.tables e below (s₁.setTop (mkF m 28 (oL92 p1 p2 p3 p4) [(.int (p1 &&& (3 : Int32)))])) _
    refine XS.ifYes X0.here hx rfl (pc0 := 28) (pc' := 46) rfl (hb hby at_28) rfl ((if0 _ _).trans (feq hc28).2) (by decide) (by decide) ?_
    refine XS.iload X0.here hx rfl (hb hby at_46) rfl ?_
    refine XS.iconst X0.here hx rfl (hb hby at_48) ?_
    refine XS.icmpNo X0.here hx rfl (hb hby at_49) rfl (teq hc49).2 ?_
    refine XS.iconst X0.here hx rfl (hb hby at_52) ?_
    show Steps p.tables e below (s₁.setTop (mkF m 53 (oL92 p1 p2 p3 p4) [(.int (1 : Int32))])) _
    refine st5 _ ?_
    refine XS.astore X5.here hx rfl (hb hby at_55) rfl rfl (l' := (oL98 p1 p2 p3 p4 b5)) rfl ?_
    refine XS.aload X5.here hx rfl (hb hby at_57) rfl rfl ?_
    refine XS.iconst X5.here hx rfl (hb hby at_59) ?_
    refine XS.iload X5.here hx rfl (hb hby at_60) rfl ?_
    show Steps p.tables e below (T5.setTop (mkF m 62 (oL98 p1 p2 p3 p4 b5) [(.int (own_x p2)), (.int (0 : Int32)), (.ref b5)])) _
    refine st6 _ ?_
    refine st7 _ ?_
    refine XS.dup X7.here hx rfl (hb hby at_66) rfl rfl ?_
    refine XS.aload X7.here hx rfl (hb hby at_67) rfl rfl ?_
    refine st8.trans ?_
    show Steps p.tables e below (T8.setTop (mkF m 72 (oL98 p1 p2 p3 p4 b5) [(.ref b7)])) _
    refine XS.astore X8.here hx rfl (hb hby at_72) rfl rfl (l' := (oL99 p1 p2 p3 p4 b5 b7)) rfl ?_
    refine XS.goto X8.here hx rfl (pc0 := 74) (pc' := 148) rfl (hb hby at_74) (by decide) (by decide) ?_
    refine XS.iload X8.here hx rfl (hb hby at_148) rfl ?_
    refine XS.iconst X8.here hx rfl (hb hby at_150) ?_
    refine XS.icmpNo X8.here hx rfl (hb hby at_151) rfl (flt hc151).1 ?_
    show Steps p.tables e below (T8.setTop (mkF m 154 (oL99 p1 p2 p3 p4 b5 b7) [])) _
    refine XS.iload X8.here hx rfl (hb hby at_154) rfl ?_
    refine st9 _ ?_
    refine XS.ifYes X9.here hx rfl (pc0 := 159) (pc' := 194) rfl (hb hby at_159) rfl ((if0 _ _).trans (teq hc159).1) (by decide) (by decide) ?_
    refine XS.iconst X9.here hx rfl (hb hby at_194) ?_
    refine XS.istore X9.here hx rfl (hb hby at_195) rfl (l' := (oL100 p1 p2 p3 p4 b7)) rfl ?_
    show Steps p.tables e below (T9.setTop (mkF m 197 (oL100 p1 p2 p3 p4 b7) [])) _
    refine XS.aload X9.here hx rfl (hb hby at_197) rfl rfl ?_
    refine st10 _ ?_
    refine XS.iload X10.here hx rfl (hb hby at_202) rfl ?_
    refine XS.icmpNo X10.here hx rfl (hb hby at_204) rfl (teq hc204).2 ?_
    refine XS.iconst X10.here hx rfl (hb hby at_207) ?_
    show Steps p.tables e below (T10.setTop (mkF m 208 (oL100 p1 p2 p3 p4 b7) [(.int (1 : Int32))])) _
    refine XS.goto X10.here hx rfl (pc0 := 208) (pc' := 212) rfl (hb hby at_208) (by decide) (by decide) ?_
    exact retN X10 hx (t := .boolean) Bd.returns (by simp) (hb hby at_212) hr
  · show own_Q1K h0 n0 _ T10.heap _
    exact ⟨rfl, N10, K10⟩
abbrev oL101 (p1 p2 p3 p4 : Int32) (b7 : Addr) : Array Slot := #[.val (.int p1), .val (.int p2), .val (.int p3), .val (.int p4), .val (.int (p1 &&& (3 : Int32))), .val (.int (own_x p2)), .val (.int (own_x p3)), .val (.int (own_x p4)), .val (.ref b7), .val (.int (1 : Int32))]
set_option maxRecDepth 65536 in
set_option maxHeartbeats 40000000 in
theorem rm0_1_o (l : Launch) (Z : State) (a0 : Array Value) (hw : ∀ d ∈ tables_1, d.before a0 Z = true) (ws : List Jvm.Cond) (p1 : Int32) (p2 : Int32) (p3 : Int32) (p4 : Int32) (G1 : Int32) (fm : Value) (h0 : Heap) (n0 : Nat) (Z0 : n0 ≤ h0.size) (S_COMPACT_STRINGS : Sta Z Z.heap "java/lang/String" "COMPACT_STRINGS" "Z" (.int G1)) (X00 : Old Z n0 h0) (P3 : ¬ (G1 = (0 : Int32))) (S__assertionsDisabled : Sta Z Z.heap "java/lang/StringUTF16" "$assertionsDisabled" "Z" (.int (1 : Int32))) (S_HI_BYTE_SHIFT : Sta Z Z.heap "java/lang/StringUTF16" "HI_BYTE_SHIFT" "I" (.int (0 : Int32))) (S_LO_BYTE_SHIFT : Sta Z Z.heap "java/lang/StringUTF16" "LO_BYTE_SHIFT" "I" (.int (8 : Int32))) (S_SIOOBE_FORMATTER : Sta Z Z.heap "jdk/internal/util/Preconditions" "SIOOBE_FORMATTER" "Ljava/util/function/BiFunction;" fm) (rf : fm.isRef = true) (hc28 : ¬ ((p1 &&& (3 : Int32)) = (0 : Int32))) (hc49 : (p1 &&& (3 : Int32)) = (1 : Int32)) (hc151 : ¬ ((p1 &&& (3 : Int32)) < (1 : Int32))) (hc159 : ¬ ((own_ok (own_x p2)) = (0 : Int32))) (hc165 : (p1 &&& (3 : Int32)) < (2 : Int32)) (hc179 : (p1 &&& (3 : Int32)) < (3 : Int32)) (hc204 : (own_q [(own_x p2)]) = (1 : Int32)) :
    MetFree l x (head1 (Jvm.Cond.code x code maxLocals ret :: ws) room_1) (fun a U => a = #[(.int p1), (.int p2), (.int p3), (.int p4)] ∧ Z.Warmed39 U.vm ∧ U.heap = h0) (fun _ _ _ _ _ => True) (fun _ U o U' => ∃ v L, o = .returned v ∧ own_Q1K h0 n0 v U'.heap L ∧ FrameEnd U o U' L room_1.cells room_1.slots) := by
  refine MetFree.of_bodySF (plainFor_of_name pn_0) hisR ?_
  intro p e s m args below meth c s₁ Bd hml0 hP hK
  obtain ⟨rfl, hZ, hh⟩ := hP
  have hx := Bd.exec
  have hby := Bd.bytes
  have hml : c.maxLocals = 10 := hml0
  have hown : s.vm.findClass "com/example/crisp_bisim/crispbisim/formats/TextCursorIsQuotablePinLaw" = some m.cls := findClass_of_methodNamed Bd.named
  have hnm := (name_of_methodNamed Bd.named Bd.method).1
  have X0 : Stand p l e room_1 s m #[(.int p1), (.int p2), (.int p3), (.int p4)] below meth c s₁ [] 0 0 := Stand.of_body Bd
  have e0 : s₁.heap = h0 := by rw [← hh, Bd.state]; rfl
  have N0 := Fr.nil n0
  have pre0 : ∀ t, Steps p.tables e below (s₁.setTop (mkF m 0 (oL91 p1 p2 p3 p4) [])) t → Steps p.tables e below (s₁.setTop (entryFrame m #[(.int p1), (.int p2), (.int p3), (.int p4)] maxLocals)) t := fun t k => castTop (ef_0 m p1 p2 p3 p4) k
  obtain ⟨T5, h5, k5, X5, e5, E5, A5, st5⟩ := newP X0 hx hZ (hw _ (wI 4 rfl)) e0 (g := (mkF m 53 (oL92 p1 p2 p3 p4) [(.int (1 : Int32))])) rfl (hb hby at_53) rfl (by decide) (cap := 1) (by decide) (by decide) (by decide) (by decide)
  obtain ⟨b5, g5⟩ : ∃ z, z = h0.size := ⟨_, rfl⟩
  rw [← g5] at A5 st5
  have V_b5 : Arv Z h5 b5 k5 .char (1 : Int32) [(.int (0 : Int32))] (.int (0 : Int32)) := (Arv.new A5 (by decide)).pad (pad_rep [] (.int (0 : Int32)) 1)
  have g_b5 : n0 ≤ b5 := Nat.le_trans Z0 (Nat.le_of_eq g5.symm)
  have sz_b5 : h0.size ≤ b5 := (Nat.le_trans (Keep.refl h0 []).1 (Nat.le_of_eq g5.symm))
  have K5 : Keep h0 h5 [] := (Keep.refl h0 []).ext E5
  obtain ⟨cl_b5_31, Ar_b5_31, q_b5_31, S_b5_31, N_b5_31, H_b5_31, G_b5_31⟩ := id V_b5
  have hin_b5_31 : ¬ ((0 : Int32) < 0 ∨ cl_b5_31.slots.size ≤ ((0 : Int32)).toNatClampNeg) := inb_of S_b5_31 ⟨by decide, by decide⟩
  obtain ⟨T6, h6, X6, e6, W6, st6⟩ := stC X5 hx hZ e5 Ar_b5_31 (j := (0 : Int32)) hin_b5_31 (g := (mkF m 62 (oL98 p1 p2 p3 p4 b5) [(.int (own_x p2)), (.int (0 : Int32)), (.ref b5)])) rfl rfl (hb hby at_62)
  have V_b5_6 : Arv Z h6 b5 k5 .char (1 : Int32) [(.int (nar .char (own_x p2)))] (.int (0 : Int32)) := Arv.set Ar_b5_31 q_b5_31 S_b5_31 N_b5_31 H_b5_31 G_b5_31 (fits_nar_char _) W6 0 (by decide) (Nat.le_of_ble_eq_true rfl)
  have K6 : Keep h0 h6 [] := K5.wr W6 (Or.inr sz_b5)
  have N6 := Fr.snoc X6 N0 g_b5
  obtain ⟨T7, h7, X7, e7, E7, A7, D7, Un7, st7⟩ := newO X6 hx hZ hown (hw _ (wI 1 rfl)) (hw _ (wI 2 rfl)) (hw _ (wI 3 rfl)) e6 (g := (mkF m 63 (oL98 p1 p2 p3 p4 b5) [])) rfl (hb hby at_63) (by decide) (by decide)
  obtain ⟨b7, g7⟩ : ∃ z, z = h6.size := ⟨_, rfl⟩
  rw [← g7] at A7 D7 Un7 st7
  have U_b7 : Unt h7 b7 := Un7
  have F_value_b7 : Fld Z h7 b7 "java/lang/String" "value" "[B" .null := D7 (Or.inr (hw _ (wI 17 rfl))) (ty := (.array .byte)) (by decide)
  have F_coder_b7 : Fld Z h7 b7 "java/lang/String" "coder" "B" (.int (0 : Int32)) := D7 (Or.inr (hw _ (wI 18 rfl))) (ty := .byte) (by decide)
  have E_b7 := A7
  have g_b7 : n0 ≤ b7 := Nat.le_trans (Nat.le_trans (Nat.le_trans Z0 E5.1) (Keep.of_wr W6).1) (Nat.le_of_eq g7.symm)
  have sz_b7 : h0.size ≤ b7 := (Nat.le_trans K6.1 (Nat.le_of_eq g7.symm))
  have K7 : Keep h0 h7 [] := K6.ext E7
  have Vb8 : Arv Z h7 b5 k5 .char (Int32.ofNat ([(own_x p2)] : List Int32).length) ([(own_x p2)].map Value.int) (.int (0 : Int32)) := by
    have q : Arv Z h7 b5 k5 .char (1 : Int32) [(.int (nar .char (own_x p2)))] (.int (0 : Int32)) := (V_b5_6.ext E7)
    simp only [own_xnar] at q
    exact q
  obtain ⟨_, _, ⟨T8, L8, k8, n8⟩, -, X8, ⟨Lc8, hQ8, l8, y8, z8⟩, st8⟩ := X7.specialBack hx (y := (⟨"java/lang/String", "<init>", "([C)V"⟩ : MethodName)) rfl hown (mvT hZ (hw _ (wI 5 rfl))) (mvT hZ (hw _ (wI 6 rfl))) (mvT hZ (hw _ (wI 7 rfl))) (by decide) (backOf (W := 1) (rm1 l Z a0 hw [] b7 b5 G1 [(own_x p2)] k5 h7 n0 (Nat.le_trans (Nat.le_trans (Nat.le_trans Z0 E5.1) (Keep.of_wr W6).1) E7.1) S_COMPACT_STRINGS (X00.keep K7 all0) P3 S__assertionsDisabled S_HI_BYTE_SHIFT S_LO_BYTE_SHIFT E_b7 F_value_b7 F_coder_b7 Vb8 g_b7 (Or.inl rfl) (own_hS p2 own_h0)) hZ (hw _ (wI 7 rfl)) (hw _ (wI 3 rfl)) (by decide) (by decide)) (g := (mkF m 69 (oL98 p1 p2 p3 p4 b5) [(.ref b5), (.ref b7), (.ref b7)])) rfl (by rw [hml]; rfl) (Steps.refl _) (a := b7) (argsL := [(.ref b5)]) (rest := [(.ref b7)]) (lenOf pd_0_0 rfl) rfl (by show 2 * 0 + _ ≤ _; exact Nat.le_of_eq rfl) (hb hby at_69) (fun _ _ => ⟨rfl, e7, (by decide : 2 + 2 ≤ _), (by decide : 5 + 9 ≤ _)⟩)
  dsimp only [Pt.U, Pt.locs, Pt.cells, Pt.slots] at X8 l8 y8 z8 st8 hQ8
  subst l8 y8 z8
  obtain ⟨rfl, N8q, Kc8, t8, kt8, cd8, z8, vs8, g_t8, gz_t8, Fv8, Fc8, V8, cod8⟩ := hQ8
  have N8 := Fr.app N6 N8q
  have Kq8 : Keep h7 T8.heap [b7] := Kc8
  have K8 : Keep h0 T8.heap [] := K7.trans Kq8 (own_trS (Or.inr sz_b7) all0)
  obtain ⟨_, _, ⟨T9, L9, k9, n9⟩, -, X9, ⟨Lc9, hQ9, l9, y9, z9⟩, st9⟩ := Jvm.LawKit.callS X8 hx (y := (⟨"com/example/crisp_bisim/crispbisim/formats/TextCursorIsQuotablePinLaw", "ok", "(C)Z"⟩ : MethodName)) hown (mvT hZ (hw _ (wI 77 rfl))) (mvT hZ (hw _ (wI 78 rfl))) (mvT hZ (hw _ (wI 79 rfl))) (mvT hZ (hw _ (wI 80 rfl))) (by decide) (backOf (W := 0) (rm17 l Z a0 hw [] (own_x p2)  T8.heap n0 (Nat.le_trans (Nat.le_trans (Nat.le_trans (Nat.le_trans Z0 E5.1) (Keep.of_wr W6).1) E7.1) Kq8.1)) hZ (hw _ (wI 80 rfl)) (hw _ (wI 79 rfl)) (by decide) (by decide)) (g := (mkF m 156 (oL99 p1 p2 p3 p4 b5 b7) [(.int (own_x p2))])) rfl (by rw [hml]; rfl) (argsL := [(.int (own_x p2))]) (rest := []) (lenOf pd_0_14 rfl) rfl (by show 2 * 0 + _ ≤ _; exact Nat.le_of_eq rfl) (hb hby at_156) (fun _ _ => ⟨rfl, rfl, (by decide : 4 + 0 ≤ _), (by decide : 14 + 0 ≤ _)⟩)
  dsimp only [Pt.U, Pt.locs, Pt.cells, Pt.slots] at X9 l9 y9 z9 st9 hQ9
  subst l9 y9 z9
  obtain ⟨rfl, N9q, eq9⟩ := hQ9
  have N9 := Fr.app N8 N9q
  have Kq9 : Keep T8.heap T9.heap [] := (own_keq eq9)
  have K9 : Keep h0 T9.heap [] := K8.trans Kq9 all0
  obtain ⟨_, _, ⟨T10, L10, k10, n10⟩, -, X10, ⟨Lc10, hQ10, l10, y10, z10⟩, st10⟩ := Jvm.LawKit.callS X9 hx (y := (⟨"com/example/crisp_bisim/crispbisim/formats/TextCursor", "isQuotable", "(Ljava/lang/String;)Z"⟩ : MethodName)) hown (mvT hZ (hw _ (wI 23 rfl))) (mvT hZ (hw _ (wI 24 rfl))) (mvT hZ (hw _ (wI 25 rfl))) (mvT hZ (hw _ (wI 26 rfl))) (by decide) (backOf (W := 0) (rm4 l Z a0 hw [] b7 G1 fm t8 cd8 z8 vs8 [(own_x p2)] kt8 T9.heap n0 (Nat.le_trans (Nat.le_trans (Nat.le_trans (Nat.le_trans (Nat.le_trans Z0 E5.1) (Keep.of_wr W6).1) E7.1) Kq8.1) Kq9.1) S_COMPACT_STRINGS (X00.keep K9 all0) P3 S__assertionsDisabled S_HI_BYTE_SHIFT S_LO_BYTE_SHIFT ((E_b7.keep Kq8).keep Kq9) (Fv8.keep Kq9 (fun q => nomatch q)) (Fc8.keep Kq9 (fun q => nomatch q)) (V8.keep Kq9 (fun q => nomatch q)) S_SIOOBE_FORMATTER rf cod8 (Or.inr (Or.inl rfl)) (fun q => by cases q) (own_hS p2 own_h0)) hZ (hw _ (wI 26 rfl)) (hw _ (wI 25 rfl)) (by decide) (by decide)) (g := (mkF m 199 (oL101 p1 p2 p3 p4 b7) [(.ref b7)])) rfl (by rw [hml]; rfl) (argsL := [(.ref b7)]) (rest := []) (lenOf pd_0_3 rfl) rfl (by show 2 * 0 + _ ≤ _; exact Nat.le_of_eq rfl) (hb hby at_199) (fun _ _ => ⟨rfl, rfl, (by decide : 4 + 0 ≤ _), (by decide : 14 + 0 ≤ _)⟩)
  dsimp only [Pt.U, Pt.locs, Pt.cells, Pt.slots] at X10 l10 y10 z10 st10 hQ10
  subst l10 y10 z10
  obtain ⟨rfl, N10q, eq10⟩ := hQ10
  have N10 := Fr.app N9 N10q
  have Kq10 : Keep T9.heap T10.heap [] := (own_keq eq10)
  have K10 : Keep h0 T10.heap [] := K9.trans Kq10 all0
  obtain ⟨fs, hr, hrun, hended, hW, hsame⟩ := X10.leave (v := some (.int (1 : Int32))) (fun h => by rw [Bd.returns] at h; cases h)
  refine ⟨_, _, pre0 _ ?_, hrun, hended, _, _, rfl, ?_, ⟨_, rfl⟩, hW, hsame.mono (by decide) (by decide)⟩
  · show Steps p.tables e below (s₁.setTop (mkF m 0 (oL91 p1 p2 p3 p4) [])) _
    refine XS.iloadN X0.here hx rfl (hb hby at_0) rfl ?_
    refine XS.iconst X0.here hx rfl (hb hby at_1) ?_
    refine XS.iand X0.here hx rfl (hb hby at_2) rfl ?_
    refine XS.istore X0.here hx rfl (hb hby at_3) rfl (l' := (oL94 p1 p2 p3 p4)) rfl ?_
    refine XS.iloadN X0.here hx rfl (hb hby at_5) rfl ?_
    show Steps p.tables e below (s₁.setTop (mkF m 6 (oL94 p1 p2 p3 p4) [(.int p2)])) _
    refine X0.ldcInt hx hown (mvT hZ (hw _ (wI 0 rfl))) (g := (mkF m 6 (oL94 p1 p2 p3 p4) [(.int p2)])) rfl (hb hby at_6) _ ?_
    refine XS.iand X0.here hx rfl (hb hby at_8) rfl ?_
    refine XS.i2c X0.here hx rfl (hb hby at_9) rfl ?_
    refine XS.istore X0.here hx rfl (hb hby at_10) rfl (l' := (oL95 p1 p2 p3 p4)) rfl ?_
    refine XS.iloadN X0.here hx rfl (hb hby at_12) rfl ?_
    show Steps p.tables e below (s₁.setTop (mkF m 13 (oL95 p1 p2 p3 p4) [(.int p3)])) _
    refine X0.ldcInt hx hown (mvT hZ (hw _ (wI 0 rfl))) (g := (mkF m 13 (oL95 p1 p2 p3 p4) [(.int p3)])) rfl (hb hby at_13) _ ?_
    refine XS.iand X0.here hx rfl (hb hby at_15) rfl ?_
    refine XS.i2c X0.here hx rfl (hb hby at_16) rfl ?_
    refine XS.istore X0.here hx rfl (hb hby at_17) rfl (l' := (oL96 p1 p2 p3 p4)) rfl ?_
    refine XS.iloadN X0.here hx rfl (hb hby at_19) rfl ?_
    show Steps p.tables e below (s₁.setTop (mkF m 20 (oL96 p1 p2 p3 p4) [(.int p4)])) _
    refine X0.ldcInt hx hown (mvT hZ (hw _ (wI 0 rfl))) (g := (mkF m 20 (oL96 p1 p2 p3 p4) [(.int p4)])) rfl (hb hby at_20) _ ?_
    refine XS.iand X0.here hx rfl (hb hby at_22) rfl ?_
    refine XS.i2c X0.here hx rfl (hb hby at_23) rfl ?_
    refine XS.istore X0.here hx rfl (hb hby at_24) rfl (l' := (oL92 p1 p2 p3 p4)) rfl ?_
    refine XS.iload X0.here hx rfl (hb hby at_26) rfl ?_
    show Steps p.tables e below (s₁.setTop (mkF m 28 (oL92 p1 p2 p3 p4) [(.int (p1 &&& (3 : Int32)))])) _
    refine XS.ifYes X0.here hx rfl (pc0 := 28) (pc' := 46) rfl (hb hby at_28) rfl ((if0 _ _).trans (feq hc28).2) (by decide) (by decide) ?_
    refine XS.iload X0.here hx rfl (hb hby at_46) rfl ?_
    refine XS.iconst X0.here hx rfl (hb hby at_48) ?_
    refine XS.icmpNo X0.here hx rfl (hb hby at_49) rfl (teq hc49).2 ?_
    refine XS.iconst X0.here hx rfl (hb hby at_52) ?_
    show Steps p.tables e below (s₁.setTop (mkF m 53 (oL92 p1 p2 p3 p4) [(.int (1 : Int32))])) _
    refine st5 _ ?_
    refine XS.astore X5.here hx rfl (hb hby at_55) rfl rfl (l' := (oL98 p1 p2 p3 p4 b5)) rfl ?_
    refine XS.aload X5.here hx rfl (hb hby at_57) rfl rfl ?_
    refine XS.iconst X5.here hx rfl (hb hby at_59) ?_
    refine XS.iload X5.here hx rfl (hb hby at_60) rfl ?_
    show Steps p.tables e below (T5.setTop (mkF m 62 (oL98 p1 p2 p3 p4 b5) [(.int (own_x p2)), (.int (0 : Int32)), (.ref b5)])) _
    refine st6 _ ?_
    refine st7 _ ?_
    refine XS.dup X7.here hx rfl (hb hby at_66) rfl rfl ?_
    refine XS.aload X7.here hx rfl (hb hby at_67) rfl rfl ?_
    refine st8.trans ?_
    show Steps p.tables e below (T8.setTop (mkF m 72 (oL98 p1 p2 p3 p4 b5) [(.ref b7)])) _
    refine XS.astore X8.here hx rfl (hb hby at_72) rfl rfl (l' := (oL99 p1 p2 p3 p4 b5 b7)) rfl ?_
    refine XS.goto X8.here hx rfl (pc0 := 74) (pc' := 148) rfl (hb hby at_74) (by decide) (by decide) ?_
    refine XS.iload X8.here hx rfl (hb hby at_148) rfl ?_
    refine XS.iconst X8.here hx rfl (hb hby at_150) ?_
    refine XS.icmpNo X8.here hx rfl (hb hby at_151) rfl (flt hc151).1 ?_
    show Steps p.tables e below (T8.setTop (mkF m 154 (oL99 p1 p2 p3 p4 b5 b7) [])) _
    refine XS.iload X8.here hx rfl (hb hby at_154) rfl ?_
    refine st9 _ ?_
    refine XS.ifNo X9.here hx rfl (hb hby at_159) rfl ((if0 _ _).trans (feq hc159).1) ?_
    refine XS.iload X9.here hx rfl (hb hby at_162) rfl ?_
    refine XS.iconst X9.here hx rfl (hb hby at_164) ?_
    show Steps p.tables e below (T9.setTop (mkF m 165 (oL99 p1 p2 p3 p4 b5 b7) [(.int (2 : Int32)), (.int (p1 &&& (3 : Int32)))])) _
    refine XS.icmpYes X9.here hx rfl (pc0 := 165) (pc' := 176) rfl (hb hby at_165) rfl (tlt hc165).1 (by decide) (by decide) ?_
    refine XS.iload X9.here hx rfl (hb hby at_176) rfl ?_
    refine XS.iconst X9.here hx rfl (hb hby at_178) ?_
    refine XS.icmpYes X9.here hx rfl (pc0 := 179) (pc' := 190) rfl (hb hby at_179) rfl (tlt hc179).1 (by decide) (by decide) ?_
    refine XS.iconst X9.here hx rfl (hb hby at_190) ?_
    show Steps p.tables e below (T9.setTop (mkF m 191 (oL99 p1 p2 p3 p4 b5 b7) [(.int (1 : Int32))])) _
    refine XS.goto X9.here hx rfl (pc0 := 191) (pc' := 195) rfl (hb hby at_191) (by decide) (by decide) ?_
    refine XS.istore X9.here hx rfl (hb hby at_195) rfl (l' := (oL101 p1 p2 p3 p4 b7)) rfl ?_
    refine XS.aload X9.here hx rfl (hb hby at_197) rfl rfl ?_
    refine st10 _ ?_
    refine XS.iload X10.here hx rfl (hb hby at_202) rfl ?_
    show Steps p.tables e below (T10.setTop (mkF m 204 (oL101 p1 p2 p3 p4 b7) [(.int (1 : Int32)), (.int (own_q [(own_x p2)]))])) _
    refine XS.icmpNo X10.here hx rfl (hb hby at_204) rfl (teq hc204).2 ?_
    refine XS.iconst X10.here hx rfl (hb hby at_207) ?_
    refine XS.goto X10.here hx rfl (pc0 := 208) (pc' := 212) rfl (hb hby at_208) (by decide) (by decide) ?_
    exact retN X10 hx (t := .boolean) Bd.returns (by simp) (hb hby at_212) hr
  · show own_Q1K h0 n0 _ T10.heap _
    exact ⟨rfl, N10, K10⟩
abbrev oL102 (p1 p2 p3 p4 : Int32) (b5 b8 : Addr) : Array Slot := #[.val (.int p1), .val (.int p2), .val (.int p3), .val (.int p4), .val (.int (p1 &&& (3 : Int32))), .val (.int (own_x p2)), .val (.int (own_x p3)), .val (.int (own_x p4)), .val (.ref b8), .val (.ref b5)]
abbrev oL103 (p1 p2 p3 p4 : Int32) (b8 : Addr) : Array Slot := #[.val (.int p1), .val (.int p2), .val (.int p3), .val (.int p4), .val (.int (p1 &&& (3 : Int32))), .val (.int (own_x p2)), .val (.int (own_x p3)), .val (.int (own_x p4)), .val (.ref b8), .val (.int (0 : Int32))]
set_option maxRecDepth 65536 in
set_option maxHeartbeats 40000000 in
theorem rm0_2_0 (l : Launch) (Z : State) (a0 : Array Value) (hw : ∀ d ∈ tables_1, d.before a0 Z = true) (ws : List Jvm.Cond) (p1 : Int32) (p2 : Int32) (p3 : Int32) (p4 : Int32) (G1 : Int32) (fm : Value) (h0 : Heap) (n0 : Nat) (Z0 : n0 ≤ h0.size) (S_COMPACT_STRINGS : Sta Z Z.heap "java/lang/String" "COMPACT_STRINGS" "Z" (.int G1)) (X00 : Old Z n0 h0) (P3 : ¬ (G1 = (0 : Int32))) (S__assertionsDisabled : Sta Z Z.heap "java/lang/StringUTF16" "$assertionsDisabled" "Z" (.int (1 : Int32))) (S_HI_BYTE_SHIFT : Sta Z Z.heap "java/lang/StringUTF16" "HI_BYTE_SHIFT" "I" (.int (0 : Int32))) (S_LO_BYTE_SHIFT : Sta Z Z.heap "java/lang/StringUTF16" "LO_BYTE_SHIFT" "I" (.int (8 : Int32))) (S_SIOOBE_FORMATTER : Sta Z Z.heap "jdk/internal/util/Preconditions" "SIOOBE_FORMATTER" "Ljava/util/function/BiFunction;" fm) (rf : fm.isRef = true) (hc28 : ¬ ((p1 &&& (3 : Int32)) = (0 : Int32))) (hc49 : ¬ ((p1 &&& (3 : Int32)) = (1 : Int32))) (hc80 : (p1 &&& (3 : Int32)) = (2 : Int32)) (hc151 : ¬ ((p1 &&& (3 : Int32)) < (1 : Int32))) (hc159 : (own_ok (own_x p2)) = (0 : Int32)) (hc204 : (own_q [(own_x p2), (own_x p3)]) = (0 : Int32)) :
    MetFree l x (head1 (Jvm.Cond.code x code maxLocals ret :: ws) room_1) (fun a U => a = #[(.int p1), (.int p2), (.int p3), (.int p4)] ∧ Z.Warmed39 U.vm ∧ U.heap = h0) (fun _ _ _ _ _ => True) (fun _ U o U' => ∃ v L, o = .returned v ∧ own_Q1K h0 n0 v U'.heap L ∧ FrameEnd U o U' L room_1.cells room_1.slots) := by
  refine MetFree.of_bodySF (plainFor_of_name pn_0) hisR ?_
  intro p e s m args below meth c s₁ Bd hml0 hP hK
  obtain ⟨rfl, hZ, hh⟩ := hP
  have hx := Bd.exec
  have hby := Bd.bytes
  have hml : c.maxLocals = 10 := hml0
  have hown : s.vm.findClass "com/example/crisp_bisim/crispbisim/formats/TextCursorIsQuotablePinLaw" = some m.cls := findClass_of_methodNamed Bd.named
  have hnm := (name_of_methodNamed Bd.named Bd.method).1
  have X0 : Stand p l e room_1 s m #[(.int p1), (.int p2), (.int p3), (.int p4)] below meth c s₁ [] 0 0 := Stand.of_body Bd
  have e0 : s₁.heap = h0 := by rw [← hh, Bd.state]; rfl
  have N0 := Fr.nil n0
  have pre0 : ∀ t, Steps p.tables e below (s₁.setTop (mkF m 0 (oL91 p1 p2 p3 p4) [])) t → Steps p.tables e below (s₁.setTop (entryFrame m #[(.int p1), (.int p2), (.int p3), (.int p4)] maxLocals)) t := fun t k => castTop (ef_0 m p1 p2 p3 p4) k
  obtain ⟨T5, h5, k5, X5, e5, E5, A5, st5⟩ := newP X0 hx hZ (hw _ (wI 4 rfl)) e0 (g := (mkF m 84 (oL92 p1 p2 p3 p4) [(.int (2 : Int32))])) rfl (hb hby at_84) rfl (by decide) (cap := 2) (by decide) (by decide) (by decide) (by decide)
  obtain ⟨b5, g5⟩ : ∃ z, z = h0.size := ⟨_, rfl⟩
  rw [← g5] at A5 st5
  have V_b5 : Arv Z h5 b5 k5 .char (2 : Int32) [(.int (0 : Int32)), (.int (0 : Int32))] (.int (0 : Int32)) := (Arv.new A5 (by decide)).pad (pad_rep [] (.int (0 : Int32)) 2)
  have g_b5 : n0 ≤ b5 := Nat.le_trans Z0 (Nat.le_of_eq g5.symm)
  have sz_b5 : h0.size ≤ b5 := (Nat.le_trans (Keep.refl h0 []).1 (Nat.le_of_eq g5.symm))
  have K5 : Keep h0 h5 [] := (Keep.refl h0 []).ext E5
  obtain ⟨cl_b5_34, Ar_b5_34, q_b5_34, S_b5_34, N_b5_34, H_b5_34, G_b5_34⟩ := id V_b5
  have hin_b5_34 : ¬ ((0 : Int32) < 0 ∨ cl_b5_34.slots.size ≤ ((0 : Int32)).toNatClampNeg) := inb_of S_b5_34 ⟨by decide, by decide⟩
  obtain ⟨T6, h6, X6, e6, W6, st6⟩ := stC X5 hx hZ e5 Ar_b5_34 (j := (0 : Int32)) hin_b5_34 (g := (mkF m 93 (oL98 p1 p2 p3 p4 b5) [(.int (own_x p2)), (.int (0 : Int32)), (.ref b5)])) rfl rfl (hb hby at_93)
  have V_b5_6 : Arv Z h6 b5 k5 .char (2 : Int32) [(.int (nar .char (own_x p2))), (.int (0 : Int32))] (.int (0 : Int32)) := Arv.set Ar_b5_34 q_b5_34 S_b5_34 N_b5_34 H_b5_34 G_b5_34 (fits_nar_char _) W6 0 (by decide) (Nat.le_of_ble_eq_true rfl)
  have K6 : Keep h0 h6 [] := K5.wr W6 (Or.inr sz_b5)
  have N6 := Fr.snoc X6 N0 g_b5
  obtain ⟨cl_b5_38, Ar_b5_38, q_b5_38, S_b5_38, N_b5_38, H_b5_38, G_b5_38⟩ := id V_b5_6
  have hin_b5_38 : ¬ ((1 : Int32) < 0 ∨ cl_b5_38.slots.size ≤ ((1 : Int32)).toNatClampNeg) := inb_of S_b5_38 ⟨by decide, by decide⟩
  obtain ⟨T7, h7, X7, e7, W7, st7⟩ := stC X6 hx hZ e6 Ar_b5_38 (j := (1 : Int32)) hin_b5_38 (g := (mkF m 99 (oL98 p1 p2 p3 p4 b5) [(.int (own_x p3)), (.int (1 : Int32)), (.ref b5)])) rfl rfl (hb hby at_99)
  have V_b5_7 : Arv Z h7 b5 k5 .char (2 : Int32) [(.int (nar .char (own_x p2))), (.int (nar .char (own_x p3)))] (.int (0 : Int32)) := Arv.set Ar_b5_38 q_b5_38 S_b5_38 N_b5_38 H_b5_38 G_b5_38 (fits_nar_char _) W7 1 (by decide) (Nat.le_of_ble_eq_true rfl)
  have K7 : Keep h0 h7 [] := K6.wr W7 (Or.inr sz_b5)
  have N7 := Fr.snoc X7 N6 g_b5
  obtain ⟨T8, h8, X8, e8, E8, A8, D8, Un8, st8⟩ := newO X7 hx hZ hown (hw _ (wI 1 rfl)) (hw _ (wI 2 rfl)) (hw _ (wI 3 rfl)) e7 (g := (mkF m 100 (oL98 p1 p2 p3 p4 b5) [])) rfl (hb hby at_100) (by decide) (by decide)
  obtain ⟨b8, g8⟩ : ∃ z, z = h7.size := ⟨_, rfl⟩
  rw [← g8] at A8 D8 Un8 st8
  have U_b8 : Unt h8 b8 := Un8
  have F_value_b8 : Fld Z h8 b8 "java/lang/String" "value" "[B" .null := D8 (Or.inr (hw _ (wI 17 rfl))) (ty := (.array .byte)) (by decide)
  have F_coder_b8 : Fld Z h8 b8 "java/lang/String" "coder" "B" (.int (0 : Int32)) := D8 (Or.inr (hw _ (wI 18 rfl))) (ty := .byte) (by decide)
  have E_b8 := A8
  have g_b8 : n0 ≤ b8 := Nat.le_trans (Nat.le_trans (Nat.le_trans (Nat.le_trans Z0 E5.1) (Keep.of_wr W6).1) (Keep.of_wr W7).1) (Nat.le_of_eq g8.symm)
  have sz_b8 : h0.size ≤ b8 := (Nat.le_trans K7.1 (Nat.le_of_eq g8.symm))
  have K8 : Keep h0 h8 [] := K7.ext E8
  have Vb9 : Arv Z h8 b5 k5 .char (Int32.ofNat ([(own_x p2), (own_x p3)] : List Int32).length) ([(own_x p2), (own_x p3)].map Value.int) (.int (0 : Int32)) := by
    have q : Arv Z h8 b5 k5 .char (2 : Int32) [(.int (nar .char (own_x p2))), (.int (nar .char (own_x p3)))] (.int (0 : Int32)) := (V_b5_7.ext E8)
    simp only [own_xnar] at q
    exact q
  obtain ⟨_, _, ⟨T9, L9, k9, n9⟩, -, X9, ⟨Lc9, hQ9, l9, y9, z9⟩, st9⟩ := X8.specialBack hx (y := (⟨"java/lang/String", "<init>", "([C)V"⟩ : MethodName)) rfl hown (mvT hZ (hw _ (wI 5 rfl))) (mvT hZ (hw _ (wI 6 rfl))) (mvT hZ (hw _ (wI 7 rfl))) (by decide) (backOf (W := 1) (rm1 l Z a0 hw [] b8 b5 G1 [(own_x p2), (own_x p3)] k5 h8 n0 (Nat.le_trans (Nat.le_trans (Nat.le_trans (Nat.le_trans Z0 E5.1) (Keep.of_wr W6).1) (Keep.of_wr W7).1) E8.1) S_COMPACT_STRINGS (X00.keep K8 all0) P3 S__assertionsDisabled S_HI_BYTE_SHIFT S_LO_BYTE_SHIFT E_b8 F_value_b8 F_coder_b8 Vb9 g_b8 (Or.inr (Or.inl rfl)) (own_hS p2 (own_hS p3 own_h0))) hZ (hw _ (wI 7 rfl)) (hw _ (wI 3 rfl)) (by decide) (by decide)) (g := (mkF m 106 (oL98 p1 p2 p3 p4 b5) [(.ref b5), (.ref b8), (.ref b8)])) rfl (by rw [hml]; rfl) (Steps.refl _) (a := b8) (argsL := [(.ref b5)]) (rest := [(.ref b8)]) (lenOf pd_0_0 rfl) rfl (by show 2 * 0 + _ ≤ _; exact Nat.le_of_eq rfl) (hb hby at_106) (fun _ _ => ⟨rfl, e8, (by decide : 2 + 2 ≤ _), (by decide : 6 + 9 ≤ _)⟩)
  dsimp only [Pt.U, Pt.locs, Pt.cells, Pt.slots] at X9 l9 y9 z9 st9 hQ9
  subst l9 y9 z9
  obtain ⟨rfl, N9q, Kc9, t9, kt9, cd9, z9, vs9, g_t9, gz_t9, Fv9, Fc9, V9, cod9⟩ := hQ9
  have N9 := Fr.app N7 N9q
  have Kq9 : Keep h8 T9.heap [b8] := Kc9
  have K9 : Keep h0 T9.heap [] := K8.trans Kq9 (own_trS (Or.inr sz_b8) all0)
  obtain ⟨_, _, ⟨T10, L10, k10, n10⟩, -, X10, ⟨Lc10, hQ10, l10, y10, z10⟩, st10⟩ := Jvm.LawKit.callS X9 hx (y := (⟨"com/example/crisp_bisim/crispbisim/formats/TextCursorIsQuotablePinLaw", "ok", "(C)Z"⟩ : MethodName)) hown (mvT hZ (hw _ (wI 77 rfl))) (mvT hZ (hw _ (wI 78 rfl))) (mvT hZ (hw _ (wI 79 rfl))) (mvT hZ (hw _ (wI 80 rfl))) (by decide) (backOf (W := 0) (rm17 l Z a0 hw [] (own_x p2)  T9.heap n0 (Nat.le_trans (Nat.le_trans (Nat.le_trans (Nat.le_trans (Nat.le_trans Z0 E5.1) (Keep.of_wr W6).1) (Keep.of_wr W7).1) E8.1) Kq9.1)) hZ (hw _ (wI 80 rfl)) (hw _ (wI 79 rfl)) (by decide) (by decide)) (g := (mkF m 156 (oL102 p1 p2 p3 p4 b5 b8) [(.int (own_x p2))])) rfl (by rw [hml]; rfl) (argsL := [(.int (own_x p2))]) (rest := []) (lenOf pd_0_14 rfl) rfl (by show 2 * 0 + _ ≤ _; exact Nat.le_of_eq rfl) (hb hby at_156) (fun _ _ => ⟨rfl, rfl, (by decide : 4 + 0 ≤ _), (by decide : 15 + 0 ≤ _)⟩)
  dsimp only [Pt.U, Pt.locs, Pt.cells, Pt.slots] at X10 l10 y10 z10 st10 hQ10
  subst l10 y10 z10
  obtain ⟨rfl, N10q, eq10⟩ := hQ10
  have N10 := Fr.app N9 N10q
  have Kq10 : Keep T9.heap T10.heap [] := (own_keq eq10)
  have K10 : Keep h0 T10.heap [] := K9.trans Kq10 all0
  obtain ⟨_, _, ⟨T11, L11, k11, n11⟩, -, X11, ⟨Lc11, hQ11, l11, y11, z11⟩, st11⟩ := Jvm.LawKit.callS X10 hx (y := (⟨"com/example/crisp_bisim/crispbisim/formats/TextCursor", "isQuotable", "(Ljava/lang/String;)Z"⟩ : MethodName)) hown (mvT hZ (hw _ (wI 23 rfl))) (mvT hZ (hw _ (wI 24 rfl))) (mvT hZ (hw _ (wI 25 rfl))) (mvT hZ (hw _ (wI 26 rfl))) (by decide) (backOf (W := 0) (rm4 l Z a0 hw [] b8 G1 fm t9 cd9 z9 vs9 [(own_x p2), (own_x p3)] kt9 T10.heap n0 (Nat.le_trans (Nat.le_trans (Nat.le_trans (Nat.le_trans (Nat.le_trans (Nat.le_trans Z0 E5.1) (Keep.of_wr W6).1) (Keep.of_wr W7).1) E8.1) Kq9.1) Kq10.1) S_COMPACT_STRINGS (X00.keep K10 all0) P3 S__assertionsDisabled S_HI_BYTE_SHIFT S_LO_BYTE_SHIFT ((E_b8.keep Kq9).keep Kq10) (Fv9.keep Kq10 (fun q => nomatch q)) (Fc9.keep Kq10 (fun q => nomatch q)) (V9.keep Kq10 (fun q => nomatch q)) S_SIOOBE_FORMATTER rf cod9 (Or.inr (Or.inr (Or.inl rfl))) (fun q => by cases q) (own_hS p2 (own_hS p3 own_h0))) hZ (hw _ (wI 26 rfl)) (hw _ (wI 25 rfl)) (by decide) (by decide)) (g := (mkF m 199 (oL103 p1 p2 p3 p4 b8) [(.ref b8)])) rfl (by rw [hml]; rfl) (argsL := [(.ref b8)]) (rest := []) (lenOf pd_0_3 rfl) rfl (by show 2 * 0 + _ ≤ _; exact Nat.le_of_eq rfl) (hb hby at_199) (fun _ _ => ⟨rfl, rfl, (by decide : 4 + 0 ≤ _), (by decide : 15 + 0 ≤ _)⟩)
  dsimp only [Pt.U, Pt.locs, Pt.cells, Pt.slots] at X11 l11 y11 z11 st11 hQ11
  subst l11 y11 z11
  obtain ⟨rfl, N11q, eq11⟩ := hQ11
  have N11 := Fr.app N10 N11q
  have Kq11 : Keep T10.heap T11.heap [] := (own_keq eq11)
  have K11 : Keep h0 T11.heap [] := K10.trans Kq11 all0
  obtain ⟨fs, hr, hrun, hended, hW, hsame⟩ := X11.leave (v := some (.int (1 : Int32))) (fun h => by rw [Bd.returns] at h; cases h)
  refine ⟨_, _, pre0 _ ?_, hrun, hended, _, _, rfl, ?_, ⟨_, rfl⟩, hW, hsame.mono (by decide) (by decide)⟩
  · show Steps p.tables e below (s₁.setTop (mkF m 0 (oL91 p1 p2 p3 p4) [])) _
    refine XS.iloadN X0.here hx rfl (hb hby at_0) rfl ?_
    refine XS.iconst X0.here hx rfl (hb hby at_1) ?_
    refine XS.iand X0.here hx rfl (hb hby at_2) rfl ?_
    refine XS.istore X0.here hx rfl (hb hby at_3) rfl (l' := (oL94 p1 p2 p3 p4)) rfl ?_
    refine XS.iloadN X0.here hx rfl (hb hby at_5) rfl ?_
    show Steps p.tables e below (s₁.setTop (mkF m 6 (oL94 p1 p2 p3 p4) [(.int p2)])) _
    refine X0.ldcInt hx hown (mvT hZ (hw _ (wI 0 rfl))) (g := (mkF m 6 (oL94 p1 p2 p3 p4) [(.int p2)])) rfl (hb hby at_6) _ ?_
    refine XS.iand X0.here hx rfl (hb hby at_8) rfl ?_
    refine XS.i2c X0.here hx rfl (hb hby at_9) rfl ?_
    refine XS.istore X0.here hx rfl (hb hby at_10) rfl (l' := (oL95 p1 p2 p3 p4)) rfl ?_
    refine XS.iloadN X0.here hx rfl (hb hby at_12) rfl ?_
    show Steps p.tables e below (s₁.setTop (mkF m 13 (oL95 p1 p2 p3 p4) [(.int p3)])) _
    refine X0.ldcInt hx hown (mvT hZ (hw _ (wI 0 rfl))) (g := (mkF m 13 (oL95 p1 p2 p3 p4) [(.int p3)])) rfl (hb hby at_13) _ ?_
    refine XS.iand X0.here hx rfl (hb hby at_15) rfl ?_
    refine XS.i2c X0.here hx rfl (hb hby at_16) rfl ?_
    refine XS.istore X0.here hx rfl (hb hby at_17) rfl (l' := (oL96 p1 p2 p3 p4)) rfl ?_
    refine XS.iloadN X0.here hx rfl (hb hby at_19) rfl ?_
    show Steps p.tables e below (s₁.setTop (mkF m 20 (oL96 p1 p2 p3 p4) [(.int p4)])) _
    refine X0.ldcInt hx hown (mvT hZ (hw _ (wI 0 rfl))) (g := (mkF m 20 (oL96 p1 p2 p3 p4) [(.int p4)])) rfl (hb hby at_20) _ ?_
    refine XS.iand X0.here hx rfl (hb hby at_22) rfl ?_
    refine XS.i2c X0.here hx rfl (hb hby at_23) rfl ?_
    refine XS.istore X0.here hx rfl (hb hby at_24) rfl (l' := (oL92 p1 p2 p3 p4)) rfl ?_
    refine XS.iload X0.here hx rfl (hb hby at_26) rfl ?_
    show Steps p.tables e below (s₁.setTop (mkF m 28 (oL92 p1 p2 p3 p4) [(.int (p1 &&& (3 : Int32)))])) _
    refine XS.ifYes X0.here hx rfl (pc0 := 28) (pc' := 46) rfl (hb hby at_28) rfl ((if0 _ _).trans (feq hc28).2) (by decide) (by decide) ?_
    refine XS.iload X0.here hx rfl (hb hby at_46) rfl ?_
    refine XS.iconst X0.here hx rfl (hb hby at_48) ?_
    refine XS.icmpYes X0.here hx rfl (pc0 := 49) (pc' := 77) rfl (hb hby at_49) rfl (feq hc49).2 (by decide) (by decide) ?_
    refine XS.iload X0.here hx rfl (hb hby at_77) rfl ?_
    show Steps p.tables e below (s₁.setTop (mkF m 79 (oL92 p1 p2 p3 p4) [(.int (p1 &&& (3 : Int32)))])) _
    refine XS.iconst X0.here hx rfl (hb hby at_79) ?_
    refine XS.icmpNo X0.here hx rfl (hb hby at_80) rfl (teq hc80).2 ?_
    refine XS.iconst X0.here hx rfl (hb hby at_83) ?_
    refine st5 _ ?_
    refine XS.astore X5.here hx rfl (hb hby at_86) rfl rfl (l' := (oL98 p1 p2 p3 p4 b5)) rfl ?_
    show Steps p.tables e below (T5.setTop (mkF m 88 (oL98 p1 p2 p3 p4 b5) [])) _
    refine XS.aload X5.here hx rfl (hb hby at_88) rfl rfl ?_
    refine XS.iconst X5.here hx rfl (hb hby at_90) ?_
    refine XS.iload X5.here hx rfl (hb hby at_91) rfl ?_
    refine st6 _ ?_
    refine XS.aload X6.here hx rfl (hb hby at_94) rfl rfl ?_
    show Steps p.tables e below (T6.setTop (mkF m 96 (oL98 p1 p2 p3 p4 b5) [(.ref b5)])) _
    refine XS.iconst X6.here hx rfl (hb hby at_96) ?_
    refine XS.iload X6.here hx rfl (hb hby at_97) rfl ?_
    refine st7 _ ?_
    refine st8 _ ?_
    refine XS.dup X8.here hx rfl (hb hby at_103) rfl rfl ?_
    show Steps p.tables e below (T8.setTop (mkF m 104 (oL98 p1 p2 p3 p4 b5) [(.ref b8), (.ref b8)])) _
    refine XS.aload X8.here hx rfl (hb hby at_104) rfl rfl ?_
    refine st9.trans ?_
    refine XS.astore X9.here hx rfl (hb hby at_109) rfl rfl (l' := (oL102 p1 p2 p3 p4 b5 b8)) rfl ?_
    refine XS.goto X9.here hx rfl (pc0 := 111) (pc' := 148) rfl (hb hby at_111) (by decide) (by decide) ?_
    refine XS.iload X9.here hx rfl (hb hby at_148) rfl ?_
    show Steps p.tables e below (T9.setTop (mkF m 150 (oL102 p1 p2 p3 p4 b5 b8) [(.int (p1 &&& (3 : Int32)))])) _
    refine XS.iconst X9.here hx rfl (hb hby at_150) ?_
    refine XS.icmpNo X9.here hx rfl (hb hby at_151) rfl (flt hc151).1 ?_
    refine XS.iload X9.here hx rfl (hb hby at_154) rfl ?_
    refine st10 _ ?_
    refine XS.ifYes X10.here hx rfl (pc0 := 159) (pc' := 194) rfl (hb hby at_159) rfl ((if0 _ _).trans (teq hc159).1) (by decide) (by decide) ?_
    show Steps p.tables e below (T10.setTop (mkF m 194 (oL102 p1 p2 p3 p4 b5 b8) [])) _
    refine XS.iconst X10.here hx rfl (hb hby at_194) ?_
    refine XS.istore X10.here hx rfl (hb hby at_195) rfl (l' := (oL103 p1 p2 p3 p4 b8)) rfl ?_
    refine XS.aload X10.here hx rfl (hb hby at_197) rfl rfl ?_
    refine st11 _ ?_
    refine XS.iload X11.here hx rfl (hb hby at_202) rfl ?_
    show Steps p.tables e below (T11.setTop (mkF m 204 (oL103 p1 p2 p3 p4 b8) [(.int (0 : Int32)), (.int (own_q [(own_x p2), (own_x p3)]))])) _
    refine XS.icmpNo X11.here hx rfl (hb hby at_204) rfl (teq hc204).2 ?_
    refine XS.iconst X11.here hx rfl (hb hby at_207) ?_
    refine XS.goto X11.here hx rfl (pc0 := 208) (pc' := 212) rfl (hb hby at_208) (by decide) (by decide) ?_
    exact retN X11 hx (t := .boolean) Bd.returns (by simp) (hb hby at_212) hr
  · show own_Q1K h0 n0 _ T11.heap _
    exact ⟨rfl, N11, K11⟩
set_option maxRecDepth 65536 in
set_option maxHeartbeats 40000000 in
theorem rm0_2_1 (l : Launch) (Z : State) (a0 : Array Value) (hw : ∀ d ∈ tables_1, d.before a0 Z = true) (ws : List Jvm.Cond) (p1 : Int32) (p2 : Int32) (p3 : Int32) (p4 : Int32) (G1 : Int32) (fm : Value) (h0 : Heap) (n0 : Nat) (Z0 : n0 ≤ h0.size) (S_COMPACT_STRINGS : Sta Z Z.heap "java/lang/String" "COMPACT_STRINGS" "Z" (.int G1)) (X00 : Old Z n0 h0) (P3 : ¬ (G1 = (0 : Int32))) (S__assertionsDisabled : Sta Z Z.heap "java/lang/StringUTF16" "$assertionsDisabled" "Z" (.int (1 : Int32))) (S_HI_BYTE_SHIFT : Sta Z Z.heap "java/lang/StringUTF16" "HI_BYTE_SHIFT" "I" (.int (0 : Int32))) (S_LO_BYTE_SHIFT : Sta Z Z.heap "java/lang/StringUTF16" "LO_BYTE_SHIFT" "I" (.int (8 : Int32))) (S_SIOOBE_FORMATTER : Sta Z Z.heap "jdk/internal/util/Preconditions" "SIOOBE_FORMATTER" "Ljava/util/function/BiFunction;" fm) (rf : fm.isRef = true) (hc28 : ¬ ((p1 &&& (3 : Int32)) = (0 : Int32))) (hc49 : ¬ ((p1 &&& (3 : Int32)) = (1 : Int32))) (hc80 : (p1 &&& (3 : Int32)) = (2 : Int32)) (hc151 : ¬ ((p1 &&& (3 : Int32)) < (1 : Int32))) (hc159 : ¬ ((own_ok (own_x p2)) = (0 : Int32))) (hc165 : ¬ ((p1 &&& (3 : Int32)) < (2 : Int32))) (hc173 : (own_ok (own_x p3)) = (0 : Int32)) (hc204 : (own_q [(own_x p2), (own_x p3)]) = (0 : Int32)) :
    MetFree l x (head1 (Jvm.Cond.code x code maxLocals ret :: ws) room_1) (fun a U => a = #[(.int p1), (.int p2), (.int p3), (.int p4)] ∧ Z.Warmed39 U.vm ∧ U.heap = h0) (fun _ _ _ _ _ => True) (fun _ U o U' => ∃ v L, o = .returned v ∧ own_Q1K h0 n0 v U'.heap L ∧ FrameEnd U o U' L room_1.cells room_1.slots) := by
  refine MetFree.of_bodySF (plainFor_of_name pn_0) hisR ?_
  intro p e s m args below meth c s₁ Bd hml0 hP hK
  obtain ⟨rfl, hZ, hh⟩ := hP
  have hx := Bd.exec
  have hby := Bd.bytes
  have hml : c.maxLocals = 10 := hml0
  have hown : s.vm.findClass "com/example/crisp_bisim/crispbisim/formats/TextCursorIsQuotablePinLaw" = some m.cls := findClass_of_methodNamed Bd.named
  have hnm := (name_of_methodNamed Bd.named Bd.method).1
  have X0 : Stand p l e room_1 s m #[(.int p1), (.int p2), (.int p3), (.int p4)] below meth c s₁ [] 0 0 := Stand.of_body Bd
  have e0 : s₁.heap = h0 := by rw [← hh, Bd.state]; rfl
  have N0 := Fr.nil n0
  have pre0 : ∀ t, Steps p.tables e below (s₁.setTop (mkF m 0 (oL91 p1 p2 p3 p4) [])) t → Steps p.tables e below (s₁.setTop (entryFrame m #[(.int p1), (.int p2), (.int p3), (.int p4)] maxLocals)) t := fun t k => castTop (ef_0 m p1 p2 p3 p4) k
  obtain ⟨T5, h5, k5, X5, e5, E5, A5, st5⟩ := newP X0 hx hZ (hw _ (wI 4 rfl)) e0 (g := (mkF m 84 (oL92 p1 p2 p3 p4) [(.int (2 : Int32))])) rfl (hb hby at_84) rfl (by decide) (cap := 2) (by decide) (by decide) (by decide) (by decide)
  obtain ⟨b5, g5⟩ : ∃ z, z = h0.size := ⟨_, rfl⟩
  rw [← g5] at A5 st5
  have V_b5 : Arv Z h5 b5 k5 .char (2 : Int32) [(.int (0 : Int32)), (.int (0 : Int32))] (.int (0 : Int32)) := (Arv.new A5 (by decide)).pad (pad_rep [] (.int (0 : Int32)) 2)
  have g_b5 : n0 ≤ b5 := Nat.le_trans Z0 (Nat.le_of_eq g5.symm)
  have sz_b5 : h0.size ≤ b5 := (Nat.le_trans (Keep.refl h0 []).1 (Nat.le_of_eq g5.symm))
  have K5 : Keep h0 h5 [] := (Keep.refl h0 []).ext E5
  obtain ⟨cl_b5_34, Ar_b5_34, q_b5_34, S_b5_34, N_b5_34, H_b5_34, G_b5_34⟩ := id V_b5
  have hin_b5_34 : ¬ ((0 : Int32) < 0 ∨ cl_b5_34.slots.size ≤ ((0 : Int32)).toNatClampNeg) := inb_of S_b5_34 ⟨by decide, by decide⟩
  obtain ⟨T6, h6, X6, e6, W6, st6⟩ := stC X5 hx hZ e5 Ar_b5_34 (j := (0 : Int32)) hin_b5_34 (g := (mkF m 93 (oL98 p1 p2 p3 p4 b5) [(.int (own_x p2)), (.int (0 : Int32)), (.ref b5)])) rfl rfl (hb hby at_93)
  have V_b5_6 : Arv Z h6 b5 k5 .char (2 : Int32) [(.int (nar .char (own_x p2))), (.int (0 : Int32))] (.int (0 : Int32)) := Arv.set Ar_b5_34 q_b5_34 S_b5_34 N_b5_34 H_b5_34 G_b5_34 (fits_nar_char _) W6 0 (by decide) (Nat.le_of_ble_eq_true rfl)
  have K6 : Keep h0 h6 [] := K5.wr W6 (Or.inr sz_b5)
  have N6 := Fr.snoc X6 N0 g_b5
  obtain ⟨cl_b5_38, Ar_b5_38, q_b5_38, S_b5_38, N_b5_38, H_b5_38, G_b5_38⟩ := id V_b5_6
  have hin_b5_38 : ¬ ((1 : Int32) < 0 ∨ cl_b5_38.slots.size ≤ ((1 : Int32)).toNatClampNeg) := inb_of S_b5_38 ⟨by decide, by decide⟩
  obtain ⟨T7, h7, X7, e7, W7, st7⟩ := stC X6 hx hZ e6 Ar_b5_38 (j := (1 : Int32)) hin_b5_38 (g := (mkF m 99 (oL98 p1 p2 p3 p4 b5) [(.int (own_x p3)), (.int (1 : Int32)), (.ref b5)])) rfl rfl (hb hby at_99)
  have V_b5_7 : Arv Z h7 b5 k5 .char (2 : Int32) [(.int (nar .char (own_x p2))), (.int (nar .char (own_x p3)))] (.int (0 : Int32)) := Arv.set Ar_b5_38 q_b5_38 S_b5_38 N_b5_38 H_b5_38 G_b5_38 (fits_nar_char _) W7 1 (by decide) (Nat.le_of_ble_eq_true rfl)
  have K7 : Keep h0 h7 [] := K6.wr W7 (Or.inr sz_b5)
  have N7 := Fr.snoc X7 N6 g_b5
  obtain ⟨T8, h8, X8, e8, E8, A8, D8, Un8, st8⟩ := newO X7 hx hZ hown (hw _ (wI 1 rfl)) (hw _ (wI 2 rfl)) (hw _ (wI 3 rfl)) e7 (g := (mkF m 100 (oL98 p1 p2 p3 p4 b5) [])) rfl (hb hby at_100) (by decide) (by decide)
  obtain ⟨b8, g8⟩ : ∃ z, z = h7.size := ⟨_, rfl⟩
  rw [← g8] at A8 D8 Un8 st8
  have U_b8 : Unt h8 b8 := Un8
  have F_value_b8 : Fld Z h8 b8 "java/lang/String" "value" "[B" .null := D8 (Or.inr (hw _ (wI 17 rfl))) (ty := (.array .byte)) (by decide)
  have F_coder_b8 : Fld Z h8 b8 "java/lang/String" "coder" "B" (.int (0 : Int32)) := D8 (Or.inr (hw _ (wI 18 rfl))) (ty := .byte) (by decide)
  have E_b8 := A8
  have g_b8 : n0 ≤ b8 := Nat.le_trans (Nat.le_trans (Nat.le_trans (Nat.le_trans Z0 E5.1) (Keep.of_wr W6).1) (Keep.of_wr W7).1) (Nat.le_of_eq g8.symm)
  have sz_b8 : h0.size ≤ b8 := (Nat.le_trans K7.1 (Nat.le_of_eq g8.symm))
  have K8 : Keep h0 h8 [] := K7.ext E8
  have Vb9 : Arv Z h8 b5 k5 .char (Int32.ofNat ([(own_x p2), (own_x p3)] : List Int32).length) ([(own_x p2), (own_x p3)].map Value.int) (.int (0 : Int32)) := by
    have q : Arv Z h8 b5 k5 .char (2 : Int32) [(.int (nar .char (own_x p2))), (.int (nar .char (own_x p3)))] (.int (0 : Int32)) := (V_b5_7.ext E8)
    simp only [own_xnar] at q
    exact q
  obtain ⟨_, _, ⟨T9, L9, k9, n9⟩, -, X9, ⟨Lc9, hQ9, l9, y9, z9⟩, st9⟩ := X8.specialBack hx (y := (⟨"java/lang/String", "<init>", "([C)V"⟩ : MethodName)) rfl hown (mvT hZ (hw _ (wI 5 rfl))) (mvT hZ (hw _ (wI 6 rfl))) (mvT hZ (hw _ (wI 7 rfl))) (by decide) (backOf (W := 1) (rm1 l Z a0 hw [] b8 b5 G1 [(own_x p2), (own_x p3)] k5 h8 n0 (Nat.le_trans (Nat.le_trans (Nat.le_trans (Nat.le_trans Z0 E5.1) (Keep.of_wr W6).1) (Keep.of_wr W7).1) E8.1) S_COMPACT_STRINGS (X00.keep K8 all0) P3 S__assertionsDisabled S_HI_BYTE_SHIFT S_LO_BYTE_SHIFT E_b8 F_value_b8 F_coder_b8 Vb9 g_b8 (Or.inr (Or.inl rfl)) (own_hS p2 (own_hS p3 own_h0))) hZ (hw _ (wI 7 rfl)) (hw _ (wI 3 rfl)) (by decide) (by decide)) (g := (mkF m 106 (oL98 p1 p2 p3 p4 b5) [(.ref b5), (.ref b8), (.ref b8)])) rfl (by rw [hml]; rfl) (Steps.refl _) (a := b8) (argsL := [(.ref b5)]) (rest := [(.ref b8)]) (lenOf pd_0_0 rfl) rfl (by show 2 * 0 + _ ≤ _; exact Nat.le_of_eq rfl) (hb hby at_106) (fun _ _ => ⟨rfl, e8, (by decide : 2 + 2 ≤ _), (by decide : 6 + 9 ≤ _)⟩)
  dsimp only [Pt.U, Pt.locs, Pt.cells, Pt.slots] at X9 l9 y9 z9 st9 hQ9
  subst l9 y9 z9
  obtain ⟨rfl, N9q, Kc9, t9, kt9, cd9, z9, vs9, g_t9, gz_t9, Fv9, Fc9, V9, cod9⟩ := hQ9
  have N9 := Fr.app N7 N9q
  have Kq9 : Keep h8 T9.heap [b8] := Kc9
  have K9 : Keep h0 T9.heap [] := K8.trans Kq9 (own_trS (Or.inr sz_b8) all0)
  obtain ⟨_, _, ⟨T10, L10, k10, n10⟩, -, X10, ⟨Lc10, hQ10, l10, y10, z10⟩, st10⟩ := Jvm.LawKit.callS X9 hx (y := (⟨"com/example/crisp_bisim/crispbisim/formats/TextCursorIsQuotablePinLaw", "ok", "(C)Z"⟩ : MethodName)) hown (mvT hZ (hw _ (wI 77 rfl))) (mvT hZ (hw _ (wI 78 rfl))) (mvT hZ (hw _ (wI 79 rfl))) (mvT hZ (hw _ (wI 80 rfl))) (by decide) (backOf (W := 0) (rm17 l Z a0 hw [] (own_x p2)  T9.heap n0 (Nat.le_trans (Nat.le_trans (Nat.le_trans (Nat.le_trans (Nat.le_trans Z0 E5.1) (Keep.of_wr W6).1) (Keep.of_wr W7).1) E8.1) Kq9.1)) hZ (hw _ (wI 80 rfl)) (hw _ (wI 79 rfl)) (by decide) (by decide)) (g := (mkF m 156 (oL102 p1 p2 p3 p4 b5 b8) [(.int (own_x p2))])) rfl (by rw [hml]; rfl) (argsL := [(.int (own_x p2))]) (rest := []) (lenOf pd_0_14 rfl) rfl (by show 2 * 0 + _ ≤ _; exact Nat.le_of_eq rfl) (hb hby at_156) (fun _ _ => ⟨rfl, rfl, (by decide : 4 + 0 ≤ _), (by decide : 15 + 0 ≤ _)⟩)
  dsimp only [Pt.U, Pt.locs, Pt.cells, Pt.slots] at X10 l10 y10 z10 st10 hQ10
  subst l10 y10 z10
  obtain ⟨rfl, N10q, eq10⟩ := hQ10
  have N10 := Fr.app N9 N10q
  have Kq10 : Keep T9.heap T10.heap [] := (own_keq eq10)
  have K10 : Keep h0 T10.heap [] := K9.trans Kq10 all0
  obtain ⟨_, _, ⟨T11, L11, k11, n11⟩, -, X11, ⟨Lc11, hQ11, l11, y11, z11⟩, st11⟩ := Jvm.LawKit.callS X10 hx (y := (⟨"com/example/crisp_bisim/crispbisim/formats/TextCursorIsQuotablePinLaw", "ok", "(C)Z"⟩ : MethodName)) hown (mvT hZ (hw _ (wI 77 rfl))) (mvT hZ (hw _ (wI 78 rfl))) (mvT hZ (hw _ (wI 79 rfl))) (mvT hZ (hw _ (wI 80 rfl))) (by decide) (backOf (W := 0) (rm17 l Z a0 hw [] (own_x p3)  T10.heap n0 (Nat.le_trans (Nat.le_trans (Nat.le_trans (Nat.le_trans (Nat.le_trans (Nat.le_trans Z0 E5.1) (Keep.of_wr W6).1) (Keep.of_wr W7).1) E8.1) Kq9.1) Kq10.1)) hZ (hw _ (wI 80 rfl)) (hw _ (wI 79 rfl)) (by decide) (by decide)) (g := (mkF m 170 (oL102 p1 p2 p3 p4 b5 b8) [(.int (own_x p3))])) rfl (by rw [hml]; rfl) (argsL := [(.int (own_x p3))]) (rest := []) (lenOf pd_0_14 rfl) rfl (by show 2 * 0 + _ ≤ _; exact Nat.le_of_eq rfl) (hb hby at_170) (fun _ _ => ⟨rfl, rfl, (by decide : 4 + 0 ≤ _), (by decide : 15 + 0 ≤ _)⟩)
  dsimp only [Pt.U, Pt.locs, Pt.cells, Pt.slots] at X11 l11 y11 z11 st11 hQ11
  subst l11 y11 z11
  obtain ⟨rfl, N11q, eq11⟩ := hQ11
  have N11 := Fr.app N10 N11q
  have Kq11 : Keep T10.heap T11.heap [] := (own_keq eq11)
  have K11 : Keep h0 T11.heap [] := K10.trans Kq11 all0
  obtain ⟨_, _, ⟨T12, L12, k12, n12⟩, -, X12, ⟨Lc12, hQ12, l12, y12, z12⟩, st12⟩ := Jvm.LawKit.callS X11 hx (y := (⟨"com/example/crisp_bisim/crispbisim/formats/TextCursor", "isQuotable", "(Ljava/lang/String;)Z"⟩ : MethodName)) hown (mvT hZ (hw _ (wI 23 rfl))) (mvT hZ (hw _ (wI 24 rfl))) (mvT hZ (hw _ (wI 25 rfl))) (mvT hZ (hw _ (wI 26 rfl))) (by decide) (backOf (W := 0) (rm4 l Z a0 hw [] b8 G1 fm t9 cd9 z9 vs9 [(own_x p2), (own_x p3)] kt9 T11.heap n0 (Nat.le_trans (Nat.le_trans (Nat.le_trans (Nat.le_trans (Nat.le_trans (Nat.le_trans (Nat.le_trans Z0 E5.1) (Keep.of_wr W6).1) (Keep.of_wr W7).1) E8.1) Kq9.1) Kq10.1) Kq11.1) S_COMPACT_STRINGS (X00.keep K11 all0) P3 S__assertionsDisabled S_HI_BYTE_SHIFT S_LO_BYTE_SHIFT (((E_b8.keep Kq9).keep Kq10).keep Kq11) ((Fv9.keep Kq10 (fun q => nomatch q)).keep Kq11 (fun q => nomatch q)) ((Fc9.keep Kq10 (fun q => nomatch q)).keep Kq11 (fun q => nomatch q)) ((V9.keep Kq10 (fun q => nomatch q)).keep Kq11 (fun q => nomatch q)) S_SIOOBE_FORMATTER rf cod9 (Or.inr (Or.inr (Or.inl rfl))) (fun q => by cases q) (own_hS p2 (own_hS p3 own_h0))) hZ (hw _ (wI 26 rfl)) (hw _ (wI 25 rfl)) (by decide) (by decide)) (g := (mkF m 199 (oL103 p1 p2 p3 p4 b8) [(.ref b8)])) rfl (by rw [hml]; rfl) (argsL := [(.ref b8)]) (rest := []) (lenOf pd_0_3 rfl) rfl (by show 2 * 0 + _ ≤ _; exact Nat.le_of_eq rfl) (hb hby at_199) (fun _ _ => ⟨rfl, rfl, (by decide : 4 + 0 ≤ _), (by decide : 15 + 0 ≤ _)⟩)
  dsimp only [Pt.U, Pt.locs, Pt.cells, Pt.slots] at X12 l12 y12 z12 st12 hQ12
  subst l12 y12 z12
  obtain ⟨rfl, N12q, eq12⟩ := hQ12
  have N12 := Fr.app N11 N12q
  have Kq12 : Keep T11.heap T12.heap [] := (own_keq eq12)
  have K12 : Keep h0 T12.heap [] := K11.trans Kq12 all0
  obtain ⟨fs, hr, hrun, hended, hW, hsame⟩ := X12.leave (v := some (.int (1 : Int32))) (fun h => by rw [Bd.returns] at h; cases h)
  refine ⟨_, _, pre0 _ ?_, hrun, hended, _, _, rfl, ?_, ⟨_, rfl⟩, hW, hsame.mono (by decide) (by decide)⟩
  · show Steps p.tables e below (s₁.setTop (mkF m 0 (oL91 p1 p2 p3 p4) [])) _
    refine XS.iloadN X0.here hx rfl (hb hby at_0) rfl ?_
    refine XS.iconst X0.here hx rfl (hb hby at_1) ?_
    refine XS.iand X0.here hx rfl (hb hby at_2) rfl ?_
    refine XS.istore X0.here hx rfl (hb hby at_3) rfl (l' := (oL94 p1 p2 p3 p4)) rfl ?_
    refine XS.iloadN X0.here hx rfl (hb hby at_5) rfl ?_
    show Steps p.tables e below (s₁.setTop (mkF m 6 (oL94 p1 p2 p3 p4) [(.int p2)])) _
    refine X0.ldcInt hx hown (mvT hZ (hw _ (wI 0 rfl))) (g := (mkF m 6 (oL94 p1 p2 p3 p4) [(.int p2)])) rfl (hb hby at_6) _ ?_
    refine XS.iand X0.here hx rfl (hb hby at_8) rfl ?_
    refine XS.i2c X0.here hx rfl (hb hby at_9) rfl ?_
    refine XS.istore X0.here hx rfl (hb hby at_10) rfl (l' := (oL95 p1 p2 p3 p4)) rfl ?_
    refine XS.iloadN X0.here hx rfl (hb hby at_12) rfl ?_
    show Steps p.tables e below (s₁.setTop (mkF m 13 (oL95 p1 p2 p3 p4) [(.int p3)])) _
    refine X0.ldcInt hx hown (mvT hZ (hw _ (wI 0 rfl))) (g := (mkF m 13 (oL95 p1 p2 p3 p4) [(.int p3)])) rfl (hb hby at_13) _ ?_
    refine XS.iand X0.here hx rfl (hb hby at_15) rfl ?_
    refine XS.i2c X0.here hx rfl (hb hby at_16) rfl ?_
    refine XS.istore X0.here hx rfl (hb hby at_17) rfl (l' := (oL96 p1 p2 p3 p4)) rfl ?_
    refine XS.iloadN X0.here hx rfl (hb hby at_19) rfl ?_
    show Steps p.tables e below (s₁.setTop (mkF m 20 (oL96 p1 p2 p3 p4) [(.int p4)])) _
    refine X0.ldcInt hx hown (mvT hZ (hw _ (wI 0 rfl))) (g := (mkF m 20 (oL96 p1 p2 p3 p4) [(.int p4)])) rfl (hb hby at_20) _ ?_
    refine XS.iand X0.here hx rfl (hb hby at_22) rfl ?_
    refine XS.i2c X0.here hx rfl (hb hby at_23) rfl ?_
    refine XS.istore X0.here hx rfl (hb hby at_24) rfl (l' := (oL92 p1 p2 p3 p4)) rfl ?_
    refine XS.iload X0.here hx rfl (hb hby at_26) rfl ?_
    show Steps p.tables e below (s₁.setTop (mkF m 28 (oL92 p1 p2 p3 p4) [(.int (p1 &&& (3 : Int32)))])) _
    refine XS.ifYes X0.here hx rfl (pc0 := 28) (pc' := 46) rfl (hb hby at_28) rfl ((if0 _ _).trans (feq hc28).2) (by decide) (by decide) ?_
    refine XS.iload X0.here hx rfl (hb hby at_46) rfl ?_
    refine XS.iconst X0.here hx rfl (hb hby at_48) ?_
    refine XS.icmpYes X0.here hx rfl (pc0 := 49) (pc' := 77) rfl (hb hby at_49) rfl (feq hc49).2 (by decide) (by decide) ?_
    refine XS.iload X0.here hx rfl (hb hby at_77) rfl ?_
    show Steps p.tables e below (s₁.setTop (mkF m 79 (oL92 p1 p2 p3 p4) [(.int (p1 &&& (3 : Int32)))])) _
    refine XS.iconst X0.here hx rfl (hb hby at_79) ?_
    refine XS.icmpNo X0.here hx rfl (hb hby at_80) rfl (teq hc80).2 ?_
    refine XS.iconst X0.here hx rfl (hb hby at_83) ?_
    refine st5 _ ?_
    refine XS.astore X5.here hx rfl (hb hby at_86) rfl rfl (l' := (oL98 p1 p2 p3 p4 b5)) rfl ?_
    show Steps p.tables e below (T5.setTop (mkF m 88 (oL98 p1 p2 p3 p4 b5) [])) _
    refine XS.aload X5.here hx rfl (hb hby at_88) rfl rfl ?_
    refine XS.iconst X5.here hx rfl (hb hby at_90) ?_
    refine XS.iload X5.here hx rfl (hb hby at_91) rfl ?_
    refine st6 _ ?_
    refine XS.aload X6.here hx rfl (hb hby at_94) rfl rfl ?_
    show Steps p.tables e below (T6.setTop (mkF m 96 (oL98 p1 p2 p3 p4 b5) [(.ref b5)])) _
    refine XS.iconst X6.here hx rfl (hb hby at_96) ?_
    refine XS.iload X6.here hx rfl (hb hby at_97) rfl ?_
    refine st7 _ ?_
    refine st8 _ ?_
    refine XS.dup X8.here hx rfl (hb hby at_103) rfl rfl ?_
    show Steps p.tables e below (T8.setTop (mkF m 104 (oL98 p1 p2 p3 p4 b5) [(.ref b8), (.ref b8)])) _
    refine XS.aload X8.here hx rfl (hb hby at_104) rfl rfl ?_
    refine st9.trans ?_
    refine XS.astore X9.here hx rfl (hb hby at_109) rfl rfl (l' := (oL102 p1 p2 p3 p4 b5 b8)) rfl ?_
    refine XS.goto X9.here hx rfl (pc0 := 111) (pc' := 148) rfl (hb hby at_111) (by decide) (by decide) ?_
    refine XS.iload X9.here hx rfl (hb hby at_148) rfl ?_
    show Steps p.tables e below (T9.setTop (mkF m 150 (oL102 p1 p2 p3 p4 b5 b8) [(.int (p1 &&& (3 : Int32)))])) _
    refine XS.iconst X9.here hx rfl (hb hby at_150) ?_
    refine XS.icmpNo X9.here hx rfl (hb hby at_151) rfl (flt hc151).1 ?_
    refine XS.iload X9.here hx rfl (hb hby at_154) rfl ?_
    refine st10 _ ?_
    refine XS.ifNo X10.here hx rfl (hb hby at_159) rfl ((if0 _ _).trans (feq hc159).1) ?_
    show Steps p.tables e below (T10.setTop (mkF m 162 (oL102 p1 p2 p3 p4 b5 b8) [])) _
    refine XS.iload X10.here hx rfl (hb hby at_162) rfl ?_
    refine XS.iconst X10.here hx rfl (hb hby at_164) ?_
    refine XS.icmpNo X10.here hx rfl (hb hby at_165) rfl (flt hc165).1 ?_
    refine XS.iload X10.here hx rfl (hb hby at_168) rfl ?_
    refine st11 _ ?_
    show Steps p.tables e below (T11.setTop (mkF m 173 (oL102 p1 p2 p3 p4 b5 b8) [(.int (own_ok (own_x p3)))])) _
    refine XS.ifYes X11.here hx rfl (pc0 := 173) (pc' := 194) rfl (hb hby at_173) rfl ((if0 _ _).trans (teq hc173).1) (by decide) (by decide) ?_
    refine XS.iconst X11.here hx rfl (hb hby at_194) ?_
    refine XS.istore X11.here hx rfl (hb hby at_195) rfl (l' := (oL103 p1 p2 p3 p4 b8)) rfl ?_
    refine XS.aload X11.here hx rfl (hb hby at_197) rfl rfl ?_
    refine st12 _ ?_
    show Steps p.tables e below (T12.setTop (mkF m 202 (oL103 p1 p2 p3 p4 b8) [(.int (own_q [(own_x p2), (own_x p3)]))])) _
    refine XS.iload X12.here hx rfl (hb hby at_202) rfl ?_
    refine XS.icmpNo X12.here hx rfl (hb hby at_204) rfl (teq hc204).2 ?_
    refine XS.iconst X12.here hx rfl (hb hby at_207) ?_
    refine XS.goto X12.here hx rfl (pc0 := 208) (pc' := 212) rfl (hb hby at_208) (by decide) (by decide) ?_
    exact retN X12 hx (t := .boolean) Bd.returns (by simp) (hb hby at_212) hr
  · show own_Q1K h0 n0 _ T12.heap _
    exact ⟨rfl, N12, K12⟩
abbrev oL104 (p1 p2 p3 p4 : Int32) (b8 : Addr) : Array Slot := #[.val (.int p1), .val (.int p2), .val (.int p3), .val (.int p4), .val (.int (p1 &&& (3 : Int32))), .val (.int (own_x p2)), .val (.int (own_x p3)), .val (.int (own_x p4)), .val (.ref b8), .val (.int (1 : Int32))]
set_option maxRecDepth 65536 in
set_option maxHeartbeats 40000000 in
theorem rm0_2_o (l : Launch) (Z : State) (a0 : Array Value) (hw : ∀ d ∈ tables_1, d.before a0 Z = true) (ws : List Jvm.Cond) (p1 : Int32) (p2 : Int32) (p3 : Int32) (p4 : Int32) (G1 : Int32) (fm : Value) (h0 : Heap) (n0 : Nat) (Z0 : n0 ≤ h0.size) (S_COMPACT_STRINGS : Sta Z Z.heap "java/lang/String" "COMPACT_STRINGS" "Z" (.int G1)) (X00 : Old Z n0 h0) (P3 : ¬ (G1 = (0 : Int32))) (S__assertionsDisabled : Sta Z Z.heap "java/lang/StringUTF16" "$assertionsDisabled" "Z" (.int (1 : Int32))) (S_HI_BYTE_SHIFT : Sta Z Z.heap "java/lang/StringUTF16" "HI_BYTE_SHIFT" "I" (.int (0 : Int32))) (S_LO_BYTE_SHIFT : Sta Z Z.heap "java/lang/StringUTF16" "LO_BYTE_SHIFT" "I" (.int (8 : Int32))) (S_SIOOBE_FORMATTER : Sta Z Z.heap "jdk/internal/util/Preconditions" "SIOOBE_FORMATTER" "Ljava/util/function/BiFunction;" fm) (rf : fm.isRef = true) (hc28 : ¬ ((p1 &&& (3 : Int32)) = (0 : Int32))) (hc49 : ¬ ((p1 &&& (3 : Int32)) = (1 : Int32))) (hc80 : (p1 &&& (3 : Int32)) = (2 : Int32)) (hc151 : ¬ ((p1 &&& (3 : Int32)) < (1 : Int32))) (hc159 : ¬ ((own_ok (own_x p2)) = (0 : Int32))) (hc165 : ¬ ((p1 &&& (3 : Int32)) < (2 : Int32))) (hc173 : ¬ ((own_ok (own_x p3)) = (0 : Int32))) (hc179 : (p1 &&& (3 : Int32)) < (3 : Int32)) (hc204 : (own_q [(own_x p2), (own_x p3)]) = (1 : Int32)) :
    MetFree l x (head1 (Jvm.Cond.code x code maxLocals ret :: ws) room_1) (fun a U => a = #[(.int p1), (.int p2), (.int p3), (.int p4)] ∧ Z.Warmed39 U.vm ∧ U.heap = h0) (fun _ _ _ _ _ => True) (fun _ U o U' => ∃ v L, o = .returned v ∧ own_Q1K h0 n0 v U'.heap L ∧ FrameEnd U o U' L room_1.cells room_1.slots) := by
  refine MetFree.of_bodySF (plainFor_of_name pn_0) hisR ?_
  intro p e s m args below meth c s₁ Bd hml0 hP hK
  obtain ⟨rfl, hZ, hh⟩ := hP
  have hx := Bd.exec
  have hby := Bd.bytes
  have hml : c.maxLocals = 10 := hml0
  have hown : s.vm.findClass "com/example/crisp_bisim/crispbisim/formats/TextCursorIsQuotablePinLaw" = some m.cls := findClass_of_methodNamed Bd.named
  have hnm := (name_of_methodNamed Bd.named Bd.method).1
  have X0 : Stand p l e room_1 s m #[(.int p1), (.int p2), (.int p3), (.int p4)] below meth c s₁ [] 0 0 := Stand.of_body Bd
  have e0 : s₁.heap = h0 := by rw [← hh, Bd.state]; rfl
  have N0 := Fr.nil n0
  have pre0 : ∀ t, Steps p.tables e below (s₁.setTop (mkF m 0 (oL91 p1 p2 p3 p4) [])) t → Steps p.tables e below (s₁.setTop (entryFrame m #[(.int p1), (.int p2), (.int p3), (.int p4)] maxLocals)) t := fun t k => castTop (ef_0 m p1 p2 p3 p4) k
  obtain ⟨T5, h5, k5, X5, e5, E5, A5, st5⟩ := newP X0 hx hZ (hw _ (wI 4 rfl)) e0 (g := (mkF m 84 (oL92 p1 p2 p3 p4) [(.int (2 : Int32))])) rfl (hb hby at_84) rfl (by decide) (cap := 2) (by decide) (by decide) (by decide) (by decide)
  obtain ⟨b5, g5⟩ : ∃ z, z = h0.size := ⟨_, rfl⟩
  rw [← g5] at A5 st5
  have V_b5 : Arv Z h5 b5 k5 .char (2 : Int32) [(.int (0 : Int32)), (.int (0 : Int32))] (.int (0 : Int32)) := (Arv.new A5 (by decide)).pad (pad_rep [] (.int (0 : Int32)) 2)
  have g_b5 : n0 ≤ b5 := Nat.le_trans Z0 (Nat.le_of_eq g5.symm)
  have sz_b5 : h0.size ≤ b5 := (Nat.le_trans (Keep.refl h0 []).1 (Nat.le_of_eq g5.symm))
  have K5 : Keep h0 h5 [] := (Keep.refl h0 []).ext E5
  obtain ⟨cl_b5_34, Ar_b5_34, q_b5_34, S_b5_34, N_b5_34, H_b5_34, G_b5_34⟩ := id V_b5
  have hin_b5_34 : ¬ ((0 : Int32) < 0 ∨ cl_b5_34.slots.size ≤ ((0 : Int32)).toNatClampNeg) := inb_of S_b5_34 ⟨by decide, by decide⟩
  obtain ⟨T6, h6, X6, e6, W6, st6⟩ := stC X5 hx hZ e5 Ar_b5_34 (j := (0 : Int32)) hin_b5_34 (g := (mkF m 93 (oL98 p1 p2 p3 p4 b5) [(.int (own_x p2)), (.int (0 : Int32)), (.ref b5)])) rfl rfl (hb hby at_93)
  have V_b5_6 : Arv Z h6 b5 k5 .char (2 : Int32) [(.int (nar .char (own_x p2))), (.int (0 : Int32))] (.int (0 : Int32)) := Arv.set Ar_b5_34 q_b5_34 S_b5_34 N_b5_34 H_b5_34 G_b5_34 (fits_nar_char _) W6 0 (by decide) (Nat.le_of_ble_eq_true rfl)
  have K6 : Keep h0 h6 [] := K5.wr W6 (Or.inr sz_b5)
  have N6 := Fr.snoc X6 N0 g_b5
  obtain ⟨cl_b5_38, Ar_b5_38, q_b5_38, S_b5_38, N_b5_38, H_b5_38, G_b5_38⟩ := id V_b5_6
  have hin_b5_38 : ¬ ((1 : Int32) < 0 ∨ cl_b5_38.slots.size ≤ ((1 : Int32)).toNatClampNeg) := inb_of S_b5_38 ⟨by decide, by decide⟩
  obtain ⟨T7, h7, X7, e7, W7, st7⟩ := stC X6 hx hZ e6 Ar_b5_38 (j := (1 : Int32)) hin_b5_38 (g := (mkF m 99 (oL98 p1 p2 p3 p4 b5) [(.int (own_x p3)), (.int (1 : Int32)), (.ref b5)])) rfl rfl (hb hby at_99)
  have V_b5_7 : Arv Z h7 b5 k5 .char (2 : Int32) [(.int (nar .char (own_x p2))), (.int (nar .char (own_x p3)))] (.int (0 : Int32)) := Arv.set Ar_b5_38 q_b5_38 S_b5_38 N_b5_38 H_b5_38 G_b5_38 (fits_nar_char _) W7 1 (by decide) (Nat.le_of_ble_eq_true rfl)
  have K7 : Keep h0 h7 [] := K6.wr W7 (Or.inr sz_b5)
  have N7 := Fr.snoc X7 N6 g_b5
  obtain ⟨T8, h8, X8, e8, E8, A8, D8, Un8, st8⟩ := newO X7 hx hZ hown (hw _ (wI 1 rfl)) (hw _ (wI 2 rfl)) (hw _ (wI 3 rfl)) e7 (g := (mkF m 100 (oL98 p1 p2 p3 p4 b5) [])) rfl (hb hby at_100) (by decide) (by decide)
  obtain ⟨b8, g8⟩ : ∃ z, z = h7.size := ⟨_, rfl⟩
  rw [← g8] at A8 D8 Un8 st8
  have U_b8 : Unt h8 b8 := Un8
  have F_value_b8 : Fld Z h8 b8 "java/lang/String" "value" "[B" .null := D8 (Or.inr (hw _ (wI 17 rfl))) (ty := (.array .byte)) (by decide)
  have F_coder_b8 : Fld Z h8 b8 "java/lang/String" "coder" "B" (.int (0 : Int32)) := D8 (Or.inr (hw _ (wI 18 rfl))) (ty := .byte) (by decide)
  have E_b8 := A8
  have g_b8 : n0 ≤ b8 := Nat.le_trans (Nat.le_trans (Nat.le_trans (Nat.le_trans Z0 E5.1) (Keep.of_wr W6).1) (Keep.of_wr W7).1) (Nat.le_of_eq g8.symm)
  have sz_b8 : h0.size ≤ b8 := (Nat.le_trans K7.1 (Nat.le_of_eq g8.symm))
  have K8 : Keep h0 h8 [] := K7.ext E8
  have Vb9 : Arv Z h8 b5 k5 .char (Int32.ofNat ([(own_x p2), (own_x p3)] : List Int32).length) ([(own_x p2), (own_x p3)].map Value.int) (.int (0 : Int32)) := by
    have q : Arv Z h8 b5 k5 .char (2 : Int32) [(.int (nar .char (own_x p2))), (.int (nar .char (own_x p3)))] (.int (0 : Int32)) := (V_b5_7.ext E8)
    simp only [own_xnar] at q
    exact q
  obtain ⟨_, _, ⟨T9, L9, k9, n9⟩, -, X9, ⟨Lc9, hQ9, l9, y9, z9⟩, st9⟩ := X8.specialBack hx (y := (⟨"java/lang/String", "<init>", "([C)V"⟩ : MethodName)) rfl hown (mvT hZ (hw _ (wI 5 rfl))) (mvT hZ (hw _ (wI 6 rfl))) (mvT hZ (hw _ (wI 7 rfl))) (by decide) (backOf (W := 1) (rm1 l Z a0 hw [] b8 b5 G1 [(own_x p2), (own_x p3)] k5 h8 n0 (Nat.le_trans (Nat.le_trans (Nat.le_trans (Nat.le_trans Z0 E5.1) (Keep.of_wr W6).1) (Keep.of_wr W7).1) E8.1) S_COMPACT_STRINGS (X00.keep K8 all0) P3 S__assertionsDisabled S_HI_BYTE_SHIFT S_LO_BYTE_SHIFT E_b8 F_value_b8 F_coder_b8 Vb9 g_b8 (Or.inr (Or.inl rfl)) (own_hS p2 (own_hS p3 own_h0))) hZ (hw _ (wI 7 rfl)) (hw _ (wI 3 rfl)) (by decide) (by decide)) (g := (mkF m 106 (oL98 p1 p2 p3 p4 b5) [(.ref b5), (.ref b8), (.ref b8)])) rfl (by rw [hml]; rfl) (Steps.refl _) (a := b8) (argsL := [(.ref b5)]) (rest := [(.ref b8)]) (lenOf pd_0_0 rfl) rfl (by show 2 * 0 + _ ≤ _; exact Nat.le_of_eq rfl) (hb hby at_106) (fun _ _ => ⟨rfl, e8, (by decide : 2 + 2 ≤ _), (by decide : 6 + 9 ≤ _)⟩)
  dsimp only [Pt.U, Pt.locs, Pt.cells, Pt.slots] at X9 l9 y9 z9 st9 hQ9
  subst l9 y9 z9
  obtain ⟨rfl, N9q, Kc9, t9, kt9, cd9, z9, vs9, g_t9, gz_t9, Fv9, Fc9, V9, cod9⟩ := hQ9
  have N9 := Fr.app N7 N9q
  have Kq9 : Keep h8 T9.heap [b8] := Kc9
  have K9 : Keep h0 T9.heap [] := K8.trans Kq9 (own_trS (Or.inr sz_b8) all0)
  obtain ⟨_, _, ⟨T10, L10, k10, n10⟩, -, X10, ⟨Lc10, hQ10, l10, y10, z10⟩, st10⟩ := Jvm.LawKit.callS X9 hx (y := (⟨"com/example/crisp_bisim/crispbisim/formats/TextCursorIsQuotablePinLaw", "ok", "(C)Z"⟩ : MethodName)) hown (mvT hZ (hw _ (wI 77 rfl))) (mvT hZ (hw _ (wI 78 rfl))) (mvT hZ (hw _ (wI 79 rfl))) (mvT hZ (hw _ (wI 80 rfl))) (by decide) (backOf (W := 0) (rm17 l Z a0 hw [] (own_x p2)  T9.heap n0 (Nat.le_trans (Nat.le_trans (Nat.le_trans (Nat.le_trans (Nat.le_trans Z0 E5.1) (Keep.of_wr W6).1) (Keep.of_wr W7).1) E8.1) Kq9.1)) hZ (hw _ (wI 80 rfl)) (hw _ (wI 79 rfl)) (by decide) (by decide)) (g := (mkF m 156 (oL102 p1 p2 p3 p4 b5 b8) [(.int (own_x p2))])) rfl (by rw [hml]; rfl) (argsL := [(.int (own_x p2))]) (rest := []) (lenOf pd_0_14 rfl) rfl (by show 2 * 0 + _ ≤ _; exact Nat.le_of_eq rfl) (hb hby at_156) (fun _ _ => ⟨rfl, rfl, (by decide : 4 + 0 ≤ _), (by decide : 15 + 0 ≤ _)⟩)
  dsimp only [Pt.U, Pt.locs, Pt.cells, Pt.slots] at X10 l10 y10 z10 st10 hQ10
  subst l10 y10 z10
  obtain ⟨rfl, N10q, eq10⟩ := hQ10
  have N10 := Fr.app N9 N10q
  have Kq10 : Keep T9.heap T10.heap [] := (own_keq eq10)
  have K10 : Keep h0 T10.heap [] := K9.trans Kq10 all0
  obtain ⟨_, _, ⟨T11, L11, k11, n11⟩, -, X11, ⟨Lc11, hQ11, l11, y11, z11⟩, st11⟩ := Jvm.LawKit.callS X10 hx (y := (⟨"com/example/crisp_bisim/crispbisim/formats/TextCursorIsQuotablePinLaw", "ok", "(C)Z"⟩ : MethodName)) hown (mvT hZ (hw _ (wI 77 rfl))) (mvT hZ (hw _ (wI 78 rfl))) (mvT hZ (hw _ (wI 79 rfl))) (mvT hZ (hw _ (wI 80 rfl))) (by decide) (backOf (W := 0) (rm17 l Z a0 hw [] (own_x p3)  T10.heap n0 (Nat.le_trans (Nat.le_trans (Nat.le_trans (Nat.le_trans (Nat.le_trans (Nat.le_trans Z0 E5.1) (Keep.of_wr W6).1) (Keep.of_wr W7).1) E8.1) Kq9.1) Kq10.1)) hZ (hw _ (wI 80 rfl)) (hw _ (wI 79 rfl)) (by decide) (by decide)) (g := (mkF m 170 (oL102 p1 p2 p3 p4 b5 b8) [(.int (own_x p3))])) rfl (by rw [hml]; rfl) (argsL := [(.int (own_x p3))]) (rest := []) (lenOf pd_0_14 rfl) rfl (by show 2 * 0 + _ ≤ _; exact Nat.le_of_eq rfl) (hb hby at_170) (fun _ _ => ⟨rfl, rfl, (by decide : 4 + 0 ≤ _), (by decide : 15 + 0 ≤ _)⟩)
  dsimp only [Pt.U, Pt.locs, Pt.cells, Pt.slots] at X11 l11 y11 z11 st11 hQ11
  subst l11 y11 z11
  obtain ⟨rfl, N11q, eq11⟩ := hQ11
  have N11 := Fr.app N10 N11q
  have Kq11 : Keep T10.heap T11.heap [] := (own_keq eq11)
  have K11 : Keep h0 T11.heap [] := K10.trans Kq11 all0
  obtain ⟨_, _, ⟨T12, L12, k12, n12⟩, -, X12, ⟨Lc12, hQ12, l12, y12, z12⟩, st12⟩ := Jvm.LawKit.callS X11 hx (y := (⟨"com/example/crisp_bisim/crispbisim/formats/TextCursor", "isQuotable", "(Ljava/lang/String;)Z"⟩ : MethodName)) hown (mvT hZ (hw _ (wI 23 rfl))) (mvT hZ (hw _ (wI 24 rfl))) (mvT hZ (hw _ (wI 25 rfl))) (mvT hZ (hw _ (wI 26 rfl))) (by decide) (backOf (W := 0) (rm4 l Z a0 hw [] b8 G1 fm t9 cd9 z9 vs9 [(own_x p2), (own_x p3)] kt9 T11.heap n0 (Nat.le_trans (Nat.le_trans (Nat.le_trans (Nat.le_trans (Nat.le_trans (Nat.le_trans (Nat.le_trans Z0 E5.1) (Keep.of_wr W6).1) (Keep.of_wr W7).1) E8.1) Kq9.1) Kq10.1) Kq11.1) S_COMPACT_STRINGS (X00.keep K11 all0) P3 S__assertionsDisabled S_HI_BYTE_SHIFT S_LO_BYTE_SHIFT (((E_b8.keep Kq9).keep Kq10).keep Kq11) ((Fv9.keep Kq10 (fun q => nomatch q)).keep Kq11 (fun q => nomatch q)) ((Fc9.keep Kq10 (fun q => nomatch q)).keep Kq11 (fun q => nomatch q)) ((V9.keep Kq10 (fun q => nomatch q)).keep Kq11 (fun q => nomatch q)) S_SIOOBE_FORMATTER rf cod9 (Or.inr (Or.inr (Or.inl rfl))) (fun q => by cases q) (own_hS p2 (own_hS p3 own_h0))) hZ (hw _ (wI 26 rfl)) (hw _ (wI 25 rfl)) (by decide) (by decide)) (g := (mkF m 199 (oL104 p1 p2 p3 p4 b8) [(.ref b8)])) rfl (by rw [hml]; rfl) (argsL := [(.ref b8)]) (rest := []) (lenOf pd_0_3 rfl) rfl (by show 2 * 0 + _ ≤ _; exact Nat.le_of_eq rfl) (hb hby at_199) (fun _ _ => ⟨rfl, rfl, (by decide : 4 + 0 ≤ _), (by decide : 15 + 0 ≤ _)⟩)
  dsimp only [Pt.U, Pt.locs, Pt.cells, Pt.slots] at X12 l12 y12 z12 st12 hQ12
  subst l12 y12 z12
  obtain ⟨rfl, N12q, eq12⟩ := hQ12
  have N12 := Fr.app N11 N12q
  have Kq12 : Keep T11.heap T12.heap [] := (own_keq eq12)
  have K12 : Keep h0 T12.heap [] := K11.trans Kq12 all0
  obtain ⟨fs, hr, hrun, hended, hW, hsame⟩ := X12.leave (v := some (.int (1 : Int32))) (fun h => by rw [Bd.returns] at h; cases h)
  refine ⟨_, _, pre0 _ ?_, hrun, hended, _, _, rfl, ?_, ⟨_, rfl⟩, hW, hsame.mono (by decide) (by decide)⟩
  · show Steps p.tables e below (s₁.setTop (mkF m 0 (oL91 p1 p2 p3 p4) [])) _
    refine XS.iloadN X0.here hx rfl (hb hby at_0) rfl ?_
    refine XS.iconst X0.here hx rfl (hb hby at_1) ?_
    refine XS.iand X0.here hx rfl (hb hby at_2) rfl ?_
    refine XS.istore X0.here hx rfl (hb hby at_3) rfl (l' := (oL94 p1 p2 p3 p4)) rfl ?_
    refine XS.iloadN X0.here hx rfl (hb hby at_5) rfl ?_
    show Steps p.tables e below (s₁.setTop (mkF m 6 (oL94 p1 p2 p3 p4) [(.int p2)])) _
    refine X0.ldcInt hx hown (mvT hZ (hw _ (wI 0 rfl))) (g := (mkF m 6 (oL94 p1 p2 p3 p4) [(.int p2)])) rfl (hb hby at_6) _ ?_
    refine XS.iand X0.here hx rfl (hb hby at_8) rfl ?_
    refine XS.i2c X0.here hx rfl (hb hby at_9) rfl ?_
    refine XS.istore X0.here hx rfl (hb hby at_10) rfl (l' := (oL95 p1 p2 p3 p4)) rfl ?_
    refine XS.iloadN X0.here hx rfl (hb hby at_12) rfl ?_
    show Steps p.tables e below (s₁.setTop (mkF m 13 (oL95 p1 p2 p3 p4) [(.int p3)])) _
    refine X0.ldcInt hx hown (mvT hZ (hw _ (wI 0 rfl))) (g := (mkF m 13 (oL95 p1 p2 p3 p4) [(.int p3)])) rfl (hb hby at_13) _ ?_
    refine XS.iand X0.here hx rfl (hb hby at_15) rfl ?_
    refine XS.i2c X0.here hx rfl (hb hby at_16) rfl ?_
    refine XS.istore X0.here hx rfl (hb hby at_17) rfl (l' := (oL96 p1 p2 p3 p4)) rfl ?_
    refine XS.iloadN X0.here hx rfl (hb hby at_19) rfl ?_
    show Steps p.tables e below (s₁.setTop (mkF m 20 (oL96 p1 p2 p3 p4) [(.int p4)])) _
    refine X0.ldcInt hx hown (mvT hZ (hw _ (wI 0 rfl))) (g := (mkF m 20 (oL96 p1 p2 p3 p4) [(.int p4)])) rfl (hb hby at_20) _ ?_
    refine XS.iand X0.here hx rfl (hb hby at_22) rfl ?_
    refine XS.i2c X0.here hx rfl (hb hby at_23) rfl ?_
    refine XS.istore X0.here hx rfl (hb hby at_24) rfl (l' := (oL92 p1 p2 p3 p4)) rfl ?_
    refine XS.iload X0.here hx rfl (hb hby at_26) rfl ?_
    show Steps p.tables e below (s₁.setTop (mkF m 28 (oL92 p1 p2 p3 p4) [(.int (p1 &&& (3 : Int32)))])) _
    refine XS.ifYes X0.here hx rfl (pc0 := 28) (pc' := 46) rfl (hb hby at_28) rfl ((if0 _ _).trans (feq hc28).2) (by decide) (by decide) ?_
    refine XS.iload X0.here hx rfl (hb hby at_46) rfl ?_
    refine XS.iconst X0.here hx rfl (hb hby at_48) ?_
    refine XS.icmpYes X0.here hx rfl (pc0 := 49) (pc' := 77) rfl (hb hby at_49) rfl (feq hc49).2 (by decide) (by decide) ?_
    refine XS.iload X0.here hx rfl (hb hby at_77) rfl ?_
    show Steps p.tables e below (s₁.setTop (mkF m 79 (oL92 p1 p2 p3 p4) [(.int (p1 &&& (3 : Int32)))])) _
    refine XS.iconst X0.here hx rfl (hb hby at_79) ?_
    refine XS.icmpNo X0.here hx rfl (hb hby at_80) rfl (teq hc80).2 ?_
    refine XS.iconst X0.here hx rfl (hb hby at_83) ?_
    refine st5 _ ?_
    refine XS.astore X5.here hx rfl (hb hby at_86) rfl rfl (l' := (oL98 p1 p2 p3 p4 b5)) rfl ?_
    show Steps p.tables e below (T5.setTop (mkF m 88 (oL98 p1 p2 p3 p4 b5) [])) _
    refine XS.aload X5.here hx rfl (hb hby at_88) rfl rfl ?_
    refine XS.iconst X5.here hx rfl (hb hby at_90) ?_
    refine XS.iload X5.here hx rfl (hb hby at_91) rfl ?_
    refine st6 _ ?_
    refine XS.aload X6.here hx rfl (hb hby at_94) rfl rfl ?_
    show Steps p.tables e below (T6.setTop (mkF m 96 (oL98 p1 p2 p3 p4 b5) [(.ref b5)])) _
    refine XS.iconst X6.here hx rfl (hb hby at_96) ?_
    refine XS.iload X6.here hx rfl (hb hby at_97) rfl ?_
    refine st7 _ ?_
    refine st8 _ ?_
    refine XS.dup X8.here hx rfl (hb hby at_103) rfl rfl ?_
    show Steps p.tables e below (T8.setTop (mkF m 104 (oL98 p1 p2 p3 p4 b5) [(.ref b8), (.ref b8)])) _
    refine XS.aload X8.here hx rfl (hb hby at_104) rfl rfl ?_
    refine st9.trans ?_
    refine XS.astore X9.here hx rfl (hb hby at_109) rfl rfl (l' := (oL102 p1 p2 p3 p4 b5 b8)) rfl ?_
    refine XS.goto X9.here hx rfl (pc0 := 111) (pc' := 148) rfl (hb hby at_111) (by decide) (by decide) ?_
    refine XS.iload X9.here hx rfl (hb hby at_148) rfl ?_
    show Steps p.tables e below (T9.setTop (mkF m 150 (oL102 p1 p2 p3 p4 b5 b8) [(.int (p1 &&& (3 : Int32)))])) _
    refine XS.iconst X9.here hx rfl (hb hby at_150) ?_
    refine XS.icmpNo X9.here hx rfl (hb hby at_151) rfl (flt hc151).1 ?_
    refine XS.iload X9.here hx rfl (hb hby at_154) rfl ?_
    refine st10 _ ?_
    refine XS.ifNo X10.here hx rfl (hb hby at_159) rfl ((if0 _ _).trans (feq hc159).1) ?_
    show Steps p.tables e below (T10.setTop (mkF m 162 (oL102 p1 p2 p3 p4 b5 b8) [])) _
    refine XS.iload X10.here hx rfl (hb hby at_162) rfl ?_
    refine XS.iconst X10.here hx rfl (hb hby at_164) ?_
    refine XS.icmpNo X10.here hx rfl (hb hby at_165) rfl (flt hc165).1 ?_
    refine XS.iload X10.here hx rfl (hb hby at_168) rfl ?_
    refine st11 _ ?_
    show Steps p.tables e below (T11.setTop (mkF m 173 (oL102 p1 p2 p3 p4 b5 b8) [(.int (own_ok (own_x p3)))])) _
    refine XS.ifNo X11.here hx rfl (hb hby at_173) rfl ((if0 _ _).trans (feq hc173).1) ?_
    refine XS.iload X11.here hx rfl (hb hby at_176) rfl ?_
    refine XS.iconst X11.here hx rfl (hb hby at_178) ?_
    refine XS.icmpYes X11.here hx rfl (pc0 := 179) (pc' := 190) rfl (hb hby at_179) rfl (tlt hc179).1 (by decide) (by decide) ?_
    refine XS.iconst X11.here hx rfl (hb hby at_190) ?_
    show Steps p.tables e below (T11.setTop (mkF m 191 (oL102 p1 p2 p3 p4 b5 b8) [(.int (1 : Int32))])) _
    refine XS.goto X11.here hx rfl (pc0 := 191) (pc' := 195) rfl (hb hby at_191) (by decide) (by decide) ?_
    refine XS.istore X11.here hx rfl (hb hby at_195) rfl (l' := (oL104 p1 p2 p3 p4 b8)) rfl ?_
    refine XS.aload X11.here hx rfl (hb hby at_197) rfl rfl ?_
    refine st12 _ ?_
    refine XS.iload X12.here hx rfl (hb hby at_202) rfl ?_
    show Steps p.tables e below (T12.setTop (mkF m 204 (oL104 p1 p2 p3 p4 b8) [(.int (1 : Int32)), (.int (own_q [(own_x p2), (own_x p3)]))])) _
    refine XS.icmpNo X12.here hx rfl (hb hby at_204) rfl (teq hc204).2 ?_
    refine XS.iconst X12.here hx rfl (hb hby at_207) ?_
    refine XS.goto X12.here hx rfl (pc0 := 208) (pc' := 212) rfl (hb hby at_208) (by decide) (by decide) ?_
    exact retN X12 hx (t := .boolean) Bd.returns (by simp) (hb hby at_212) hr
  · show own_Q1K h0 n0 _ T12.heap _
    exact ⟨rfl, N12, K12⟩
abbrev oL105 (p1 p2 p3 p4 : Int32) (b5 b9 : Addr) : Array Slot := #[.val (.int p1), .val (.int p2), .val (.int p3), .val (.int p4), .val (.int (p1 &&& (3 : Int32))), .val (.int (own_x p2)), .val (.int (own_x p3)), .val (.int (own_x p4)), .val (.ref b9), .val (.ref b5)]
abbrev oL106 (p1 p2 p3 p4 : Int32) (b9 : Addr) : Array Slot := #[.val (.int p1), .val (.int p2), .val (.int p3), .val (.int p4), .val (.int (p1 &&& (3 : Int32))), .val (.int (own_x p2)), .val (.int (own_x p3)), .val (.int (own_x p4)), .val (.ref b9), .val (.int (0 : Int32))]
set_option maxRecDepth 65536 in
set_option maxHeartbeats 40000000 in
theorem rm0_3_0 (l : Launch) (Z : State) (a0 : Array Value) (hw : ∀ d ∈ tables_1, d.before a0 Z = true) (ws : List Jvm.Cond) (p1 : Int32) (p2 : Int32) (p3 : Int32) (p4 : Int32) (G1 : Int32) (fm : Value) (h0 : Heap) (n0 : Nat) (Z0 : n0 ≤ h0.size) (S_COMPACT_STRINGS : Sta Z Z.heap "java/lang/String" "COMPACT_STRINGS" "Z" (.int G1)) (X00 : Old Z n0 h0) (P3 : ¬ (G1 = (0 : Int32))) (S__assertionsDisabled : Sta Z Z.heap "java/lang/StringUTF16" "$assertionsDisabled" "Z" (.int (1 : Int32))) (S_HI_BYTE_SHIFT : Sta Z Z.heap "java/lang/StringUTF16" "HI_BYTE_SHIFT" "I" (.int (0 : Int32))) (S_LO_BYTE_SHIFT : Sta Z Z.heap "java/lang/StringUTF16" "LO_BYTE_SHIFT" "I" (.int (8 : Int32))) (S_SIOOBE_FORMATTER : Sta Z Z.heap "jdk/internal/util/Preconditions" "SIOOBE_FORMATTER" "Ljava/util/function/BiFunction;" fm) (rf : fm.isRef = true) (hc28 : ¬ ((p1 &&& (3 : Int32)) = (0 : Int32))) (hc49 : ¬ ((p1 &&& (3 : Int32)) = (1 : Int32))) (hc80 : ¬ ((p1 &&& (3 : Int32)) = (2 : Int32))) (hc151 : ¬ ((p1 &&& (3 : Int32)) < (1 : Int32))) (hc159 : (own_ok (own_x p2)) = (0 : Int32)) (hc204 : (own_q [(own_x p2), (own_x p3), (own_x p4)]) = (0 : Int32)) :
    MetFree l x (head1 (Jvm.Cond.code x code maxLocals ret :: ws) room_1) (fun a U => a = #[(.int p1), (.int p2), (.int p3), (.int p4)] ∧ Z.Warmed39 U.vm ∧ U.heap = h0) (fun _ _ _ _ _ => True) (fun _ U o U' => ∃ v L, o = .returned v ∧ own_Q1K h0 n0 v U'.heap L ∧ FrameEnd U o U' L room_1.cells room_1.slots) := by
  refine MetFree.of_bodySF (plainFor_of_name pn_0) hisR ?_
  intro p e s m args below meth c s₁ Bd hml0 hP hK
  obtain ⟨rfl, hZ, hh⟩ := hP
  have hx := Bd.exec
  have hby := Bd.bytes
  have hml : c.maxLocals = 10 := hml0
  have hown : s.vm.findClass "com/example/crisp_bisim/crispbisim/formats/TextCursorIsQuotablePinLaw" = some m.cls := findClass_of_methodNamed Bd.named
  have hnm := (name_of_methodNamed Bd.named Bd.method).1
  have X0 : Stand p l e room_1 s m #[(.int p1), (.int p2), (.int p3), (.int p4)] below meth c s₁ [] 0 0 := Stand.of_body Bd
  have e0 : s₁.heap = h0 := by rw [← hh, Bd.state]; rfl
  have N0 := Fr.nil n0
  have pre0 : ∀ t, Steps p.tables e below (s₁.setTop (mkF m 0 (oL91 p1 p2 p3 p4) [])) t → Steps p.tables e below (s₁.setTop (entryFrame m #[(.int p1), (.int p2), (.int p3), (.int p4)] maxLocals)) t := fun t k => castTop (ef_0 m p1 p2 p3 p4) k
  obtain ⟨T5, h5, k5, X5, e5, E5, A5, st5⟩ := newP X0 hx hZ (hw _ (wI 4 rfl)) e0 (g := (mkF m 115 (oL92 p1 p2 p3 p4) [(.int (3 : Int32))])) rfl (hb hby at_115) rfl (by decide) (cap := 3) (by decide) (by decide) (by decide) (by decide)
  obtain ⟨b5, g5⟩ : ∃ z, z = h0.size := ⟨_, rfl⟩
  rw [← g5] at A5 st5
  have V_b5 : Arv Z h5 b5 k5 .char (3 : Int32) [(.int (0 : Int32)), (.int (0 : Int32)), (.int (0 : Int32))] (.int (0 : Int32)) := (Arv.new A5 (by decide)).pad (pad_rep [] (.int (0 : Int32)) 3)
  have g_b5 : n0 ≤ b5 := Nat.le_trans Z0 (Nat.le_of_eq g5.symm)
  have sz_b5 : h0.size ≤ b5 := (Nat.le_trans (Keep.refl h0 []).1 (Nat.le_of_eq g5.symm))
  have K5 : Keep h0 h5 [] := (Keep.refl h0 []).ext E5
  obtain ⟨cl_b5_34, Ar_b5_34, q_b5_34, S_b5_34, N_b5_34, H_b5_34, G_b5_34⟩ := id V_b5
  have hin_b5_34 : ¬ ((0 : Int32) < 0 ∨ cl_b5_34.slots.size ≤ ((0 : Int32)).toNatClampNeg) := inb_of S_b5_34 ⟨by decide, by decide⟩
  obtain ⟨T6, h6, X6, e6, W6, st6⟩ := stC X5 hx hZ e5 Ar_b5_34 (j := (0 : Int32)) hin_b5_34 (g := (mkF m 124 (oL98 p1 p2 p3 p4 b5) [(.int (own_x p2)), (.int (0 : Int32)), (.ref b5)])) rfl rfl (hb hby at_124)
  have V_b5_6 : Arv Z h6 b5 k5 .char (3 : Int32) [(.int (nar .char (own_x p2))), (.int (0 : Int32)), (.int (0 : Int32))] (.int (0 : Int32)) := Arv.set Ar_b5_34 q_b5_34 S_b5_34 N_b5_34 H_b5_34 G_b5_34 (fits_nar_char _) W6 0 (by decide) (Nat.le_of_ble_eq_true rfl)
  have K6 : Keep h0 h6 [] := K5.wr W6 (Or.inr sz_b5)
  have N6 := Fr.snoc X6 N0 g_b5
  obtain ⟨cl_b5_38, Ar_b5_38, q_b5_38, S_b5_38, N_b5_38, H_b5_38, G_b5_38⟩ := id V_b5_6
  have hin_b5_38 : ¬ ((1 : Int32) < 0 ∨ cl_b5_38.slots.size ≤ ((1 : Int32)).toNatClampNeg) := inb_of S_b5_38 ⟨by decide, by decide⟩
  obtain ⟨T7, h7, X7, e7, W7, st7⟩ := stC X6 hx hZ e6 Ar_b5_38 (j := (1 : Int32)) hin_b5_38 (g := (mkF m 130 (oL98 p1 p2 p3 p4 b5) [(.int (own_x p3)), (.int (1 : Int32)), (.ref b5)])) rfl rfl (hb hby at_130)
  have V_b5_7 : Arv Z h7 b5 k5 .char (3 : Int32) [(.int (nar .char (own_x p2))), (.int (nar .char (own_x p3))), (.int (0 : Int32))] (.int (0 : Int32)) := Arv.set Ar_b5_38 q_b5_38 S_b5_38 N_b5_38 H_b5_38 G_b5_38 (fits_nar_char _) W7 1 (by decide) (Nat.le_of_ble_eq_true rfl)
  have K7 : Keep h0 h7 [] := K6.wr W7 (Or.inr sz_b5)
  have N7 := Fr.snoc X7 N6 g_b5
  obtain ⟨cl_b5_42, Ar_b5_42, q_b5_42, S_b5_42, N_b5_42, H_b5_42, G_b5_42⟩ := id V_b5_7
  have hin_b5_42 : ¬ ((2 : Int32) < 0 ∨ cl_b5_42.slots.size ≤ ((2 : Int32)).toNatClampNeg) := inb_of S_b5_42 ⟨by decide, by decide⟩
  obtain ⟨T8, h8, X8, e8, W8, st8⟩ := stC X7 hx hZ e7 Ar_b5_42 (j := (2 : Int32)) hin_b5_42 (g := (mkF m 136 (oL98 p1 p2 p3 p4 b5) [(.int (own_x p4)), (.int (2 : Int32)), (.ref b5)])) rfl rfl (hb hby at_136)
  have V_b5_8 : Arv Z h8 b5 k5 .char (3 : Int32) [(.int (nar .char (own_x p2))), (.int (nar .char (own_x p3))), (.int (nar .char (own_x p4)))] (.int (0 : Int32)) := Arv.set Ar_b5_42 q_b5_42 S_b5_42 N_b5_42 H_b5_42 G_b5_42 (fits_nar_char _) W8 2 (by decide) (Nat.le_of_ble_eq_true rfl)
  have K8 : Keep h0 h8 [] := K7.wr W8 (Or.inr sz_b5)
  have N8 := Fr.snoc X8 N7 g_b5
  obtain ⟨T9, h9, X9, e9, E9, A9, D9, Un9, st9⟩ := newO X8 hx hZ hown (hw _ (wI 1 rfl)) (hw _ (wI 2 rfl)) (hw _ (wI 3 rfl)) e8 (g := (mkF m 137 (oL98 p1 p2 p3 p4 b5) [])) rfl (hb hby at_137) (by decide) (by decide)
  obtain ⟨b9, g9⟩ : ∃ z, z = h8.size := ⟨_, rfl⟩
  rw [← g9] at A9 D9 Un9 st9
  have U_b9 : Unt h9 b9 := Un9
  have F_value_b9 : Fld Z h9 b9 "java/lang/String" "value" "[B" .null := D9 (Or.inr (hw _ (wI 17 rfl))) (ty := (.array .byte)) (by decide)
  have F_coder_b9 : Fld Z h9 b9 "java/lang/String" "coder" "B" (.int (0 : Int32)) := D9 (Or.inr (hw _ (wI 18 rfl))) (ty := .byte) (by decide)
  have E_b9 := A9
  have g_b9 : n0 ≤ b9 := Nat.le_trans (Nat.le_trans (Nat.le_trans (Nat.le_trans (Nat.le_trans Z0 E5.1) (Keep.of_wr W6).1) (Keep.of_wr W7).1) (Keep.of_wr W8).1) (Nat.le_of_eq g9.symm)
  have sz_b9 : h0.size ≤ b9 := (Nat.le_trans K8.1 (Nat.le_of_eq g9.symm))
  have K9 : Keep h0 h9 [] := K8.ext E9
  have Vb10 : Arv Z h9 b5 k5 .char (Int32.ofNat ([(own_x p2), (own_x p3), (own_x p4)] : List Int32).length) ([(own_x p2), (own_x p3), (own_x p4)].map Value.int) (.int (0 : Int32)) := by
    have q : Arv Z h9 b5 k5 .char (3 : Int32) [(.int (nar .char (own_x p2))), (.int (nar .char (own_x p3))), (.int (nar .char (own_x p4)))] (.int (0 : Int32)) := (V_b5_8.ext E9)
    simp only [own_xnar] at q
    exact q
  obtain ⟨_, _, ⟨T10, L10, k10, n10⟩, -, X10, ⟨Lc10, hQ10, l10, y10, z10⟩, st10⟩ := X9.specialBack hx (y := (⟨"java/lang/String", "<init>", "([C)V"⟩ : MethodName)) rfl hown (mvT hZ (hw _ (wI 5 rfl))) (mvT hZ (hw _ (wI 6 rfl))) (mvT hZ (hw _ (wI 7 rfl))) (by decide) (backOf (W := 1) (rm1 l Z a0 hw [] b9 b5 G1 [(own_x p2), (own_x p3), (own_x p4)] k5 h9 n0 (Nat.le_trans (Nat.le_trans (Nat.le_trans (Nat.le_trans (Nat.le_trans Z0 E5.1) (Keep.of_wr W6).1) (Keep.of_wr W7).1) (Keep.of_wr W8).1) E9.1) S_COMPACT_STRINGS (X00.keep K9 all0) P3 S__assertionsDisabled S_HI_BYTE_SHIFT S_LO_BYTE_SHIFT E_b9 F_value_b9 F_coder_b9 Vb10 g_b9 (Or.inr (Or.inr rfl)) (own_hS p2 (own_hS p3 (own_hS p4 own_h0)))) hZ (hw _ (wI 7 rfl)) (hw _ (wI 3 rfl)) (by decide) (by decide)) (g := (mkF m 143 (oL98 p1 p2 p3 p4 b5) [(.ref b5), (.ref b9), (.ref b9)])) rfl (by rw [hml]; rfl) (Steps.refl _) (a := b9) (argsL := [(.ref b5)]) (rest := [(.ref b9)]) (lenOf pd_0_0 rfl) rfl (by show 2 * 0 + _ ≤ _; exact Nat.le_of_eq rfl) (hb hby at_143) (fun _ _ => ⟨rfl, e9, (by decide : 2 + 2 ≤ _), (by decide : 7 + 9 ≤ _)⟩)
  dsimp only [Pt.U, Pt.locs, Pt.cells, Pt.slots] at X10 l10 y10 z10 st10 hQ10
  subst l10 y10 z10
  obtain ⟨rfl, N10q, Kc10, t10, kt10, cd10, z10, vs10, g_t10, gz_t10, Fv10, Fc10, V10, cod10⟩ := hQ10
  have N10 := Fr.app N8 N10q
  have Kq10 : Keep h9 T10.heap [b9] := Kc10
  have K10 : Keep h0 T10.heap [] := K9.trans Kq10 (own_trS (Or.inr sz_b9) all0)
  obtain ⟨_, _, ⟨T11, L11, k11, n11⟩, -, X11, ⟨Lc11, hQ11, l11, y11, z11⟩, st11⟩ := Jvm.LawKit.callS X10 hx (y := (⟨"com/example/crisp_bisim/crispbisim/formats/TextCursorIsQuotablePinLaw", "ok", "(C)Z"⟩ : MethodName)) hown (mvT hZ (hw _ (wI 77 rfl))) (mvT hZ (hw _ (wI 78 rfl))) (mvT hZ (hw _ (wI 79 rfl))) (mvT hZ (hw _ (wI 80 rfl))) (by decide) (backOf (W := 0) (rm17 l Z a0 hw [] (own_x p2)  T10.heap n0 (Nat.le_trans (Nat.le_trans (Nat.le_trans (Nat.le_trans (Nat.le_trans (Nat.le_trans Z0 E5.1) (Keep.of_wr W6).1) (Keep.of_wr W7).1) (Keep.of_wr W8).1) E9.1) Kq10.1)) hZ (hw _ (wI 80 rfl)) (hw _ (wI 79 rfl)) (by decide) (by decide)) (g := (mkF m 156 (oL105 p1 p2 p3 p4 b5 b9) [(.int (own_x p2))])) rfl (by rw [hml]; rfl) (argsL := [(.int (own_x p2))]) (rest := []) (lenOf pd_0_14 rfl) rfl (by show 2 * 0 + _ ≤ _; exact Nat.le_of_eq rfl) (hb hby at_156) (fun _ _ => ⟨rfl, rfl, (by decide : 4 + 0 ≤ _), (by decide : 16 + 0 ≤ _)⟩)
  dsimp only [Pt.U, Pt.locs, Pt.cells, Pt.slots] at X11 l11 y11 z11 st11 hQ11
  subst l11 y11 z11
  obtain ⟨rfl, N11q, eq11⟩ := hQ11
  have N11 := Fr.app N10 N11q
  have Kq11 : Keep T10.heap T11.heap [] := (own_keq eq11)
  have K11 : Keep h0 T11.heap [] := K10.trans Kq11 all0
  obtain ⟨_, _, ⟨T12, L12, k12, n12⟩, -, X12, ⟨Lc12, hQ12, l12, y12, z12⟩, st12⟩ := Jvm.LawKit.callS X11 hx (y := (⟨"com/example/crisp_bisim/crispbisim/formats/TextCursor", "isQuotable", "(Ljava/lang/String;)Z"⟩ : MethodName)) hown (mvT hZ (hw _ (wI 23 rfl))) (mvT hZ (hw _ (wI 24 rfl))) (mvT hZ (hw _ (wI 25 rfl))) (mvT hZ (hw _ (wI 26 rfl))) (by decide) (backOf (W := 0) (rm4 l Z a0 hw [] b9 G1 fm t10 cd10 z10 vs10 [(own_x p2), (own_x p3), (own_x p4)] kt10 T11.heap n0 (Nat.le_trans (Nat.le_trans (Nat.le_trans (Nat.le_trans (Nat.le_trans (Nat.le_trans (Nat.le_trans Z0 E5.1) (Keep.of_wr W6).1) (Keep.of_wr W7).1) (Keep.of_wr W8).1) E9.1) Kq10.1) Kq11.1) S_COMPACT_STRINGS (X00.keep K11 all0) P3 S__assertionsDisabled S_HI_BYTE_SHIFT S_LO_BYTE_SHIFT ((E_b9.keep Kq10).keep Kq11) (Fv10.keep Kq11 (fun q => nomatch q)) (Fc10.keep Kq11 (fun q => nomatch q)) (V10.keep Kq11 (fun q => nomatch q)) S_SIOOBE_FORMATTER rf cod10 (Or.inr (Or.inr (Or.inr rfl))) (fun q => by cases q) (own_hS p2 (own_hS p3 (own_hS p4 own_h0)))) hZ (hw _ (wI 26 rfl)) (hw _ (wI 25 rfl)) (by decide) (by decide)) (g := (mkF m 199 (oL106 p1 p2 p3 p4 b9) [(.ref b9)])) rfl (by rw [hml]; rfl) (argsL := [(.ref b9)]) (rest := []) (lenOf pd_0_3 rfl) rfl (by show 2 * 0 + _ ≤ _; exact Nat.le_of_eq rfl) (hb hby at_199) (fun _ _ => ⟨rfl, rfl, (by decide : 4 + 0 ≤ _), (by decide : 16 + 0 ≤ _)⟩)
  dsimp only [Pt.U, Pt.locs, Pt.cells, Pt.slots] at X12 l12 y12 z12 st12 hQ12
  subst l12 y12 z12
  obtain ⟨rfl, N12q, eq12⟩ := hQ12
  have N12 := Fr.app N11 N12q
  have Kq12 : Keep T11.heap T12.heap [] := (own_keq eq12)
  have K12 : Keep h0 T12.heap [] := K11.trans Kq12 all0
  obtain ⟨fs, hr, hrun, hended, hW, hsame⟩ := X12.leave (v := some (.int (1 : Int32))) (fun h => by rw [Bd.returns] at h; cases h)
  refine ⟨_, _, pre0 _ ?_, hrun, hended, _, _, rfl, ?_, ⟨_, rfl⟩, hW, hsame.mono (by decide) (by decide)⟩
  · show Steps p.tables e below (s₁.setTop (mkF m 0 (oL91 p1 p2 p3 p4) [])) _
    refine XS.iloadN X0.here hx rfl (hb hby at_0) rfl ?_
    refine XS.iconst X0.here hx rfl (hb hby at_1) ?_
    refine XS.iand X0.here hx rfl (hb hby at_2) rfl ?_
    refine XS.istore X0.here hx rfl (hb hby at_3) rfl (l' := (oL94 p1 p2 p3 p4)) rfl ?_
    refine XS.iloadN X0.here hx rfl (hb hby at_5) rfl ?_
    show Steps p.tables e below (s₁.setTop (mkF m 6 (oL94 p1 p2 p3 p4) [(.int p2)])) _
    refine X0.ldcInt hx hown (mvT hZ (hw _ (wI 0 rfl))) (g := (mkF m 6 (oL94 p1 p2 p3 p4) [(.int p2)])) rfl (hb hby at_6) _ ?_
    refine XS.iand X0.here hx rfl (hb hby at_8) rfl ?_
    refine XS.i2c X0.here hx rfl (hb hby at_9) rfl ?_
    refine XS.istore X0.here hx rfl (hb hby at_10) rfl (l' := (oL95 p1 p2 p3 p4)) rfl ?_
    refine XS.iloadN X0.here hx rfl (hb hby at_12) rfl ?_
    show Steps p.tables e below (s₁.setTop (mkF m 13 (oL95 p1 p2 p3 p4) [(.int p3)])) _
    refine X0.ldcInt hx hown (mvT hZ (hw _ (wI 0 rfl))) (g := (mkF m 13 (oL95 p1 p2 p3 p4) [(.int p3)])) rfl (hb hby at_13) _ ?_
    refine XS.iand X0.here hx rfl (hb hby at_15) rfl ?_
    refine XS.i2c X0.here hx rfl (hb hby at_16) rfl ?_
    refine XS.istore X0.here hx rfl (hb hby at_17) rfl (l' := (oL96 p1 p2 p3 p4)) rfl ?_
    refine XS.iloadN X0.here hx rfl (hb hby at_19) rfl ?_
    show Steps p.tables e below (s₁.setTop (mkF m 20 (oL96 p1 p2 p3 p4) [(.int p4)])) _
    refine X0.ldcInt hx hown (mvT hZ (hw _ (wI 0 rfl))) (g := (mkF m 20 (oL96 p1 p2 p3 p4) [(.int p4)])) rfl (hb hby at_20) _ ?_
    refine XS.iand X0.here hx rfl (hb hby at_22) rfl ?_
    refine XS.i2c X0.here hx rfl (hb hby at_23) rfl ?_
    refine XS.istore X0.here hx rfl (hb hby at_24) rfl (l' := (oL92 p1 p2 p3 p4)) rfl ?_
    refine XS.iload X0.here hx rfl (hb hby at_26) rfl ?_
    show Steps p.tables e below (s₁.setTop (mkF m 28 (oL92 p1 p2 p3 p4) [(.int (p1 &&& (3 : Int32)))])) _
    refine XS.ifYes X0.here hx rfl (pc0 := 28) (pc' := 46) rfl (hb hby at_28) rfl ((if0 _ _).trans (feq hc28).2) (by decide) (by decide) ?_
    refine XS.iload X0.here hx rfl (hb hby at_46) rfl ?_
    refine XS.iconst X0.here hx rfl (hb hby at_48) ?_
    refine XS.icmpYes X0.here hx rfl (pc0 := 49) (pc' := 77) rfl (hb hby at_49) rfl (feq hc49).2 (by decide) (by decide) ?_
    refine XS.iload X0.here hx rfl (hb hby at_77) rfl ?_
    show Steps p.tables e below (s₁.setTop (mkF m 79 (oL92 p1 p2 p3 p4) [(.int (p1 &&& (3 : Int32)))])) _
    refine XS.iconst X0.here hx rfl (hb hby at_79) ?_
    refine XS.icmpYes X0.here hx rfl (pc0 := 80) (pc' := 114) rfl (hb hby at_80) rfl (feq hc80).2 (by decide) (by decide) ?_
    refine XS.iconst X0.here hx rfl (hb hby at_114) ?_
    refine st5 _ ?_
    refine XS.astore X5.here hx rfl (hb hby at_117) rfl rfl (l' := (oL98 p1 p2 p3 p4 b5)) rfl ?_
    show Steps p.tables e below (T5.setTop (mkF m 119 (oL98 p1 p2 p3 p4 b5) [])) _
    refine XS.aload X5.here hx rfl (hb hby at_119) rfl rfl ?_
    refine XS.iconst X5.here hx rfl (hb hby at_121) ?_
    refine XS.iload X5.here hx rfl (hb hby at_122) rfl ?_
    refine st6 _ ?_
    refine XS.aload X6.here hx rfl (hb hby at_125) rfl rfl ?_
    show Steps p.tables e below (T6.setTop (mkF m 127 (oL98 p1 p2 p3 p4 b5) [(.ref b5)])) _
    refine XS.iconst X6.here hx rfl (hb hby at_127) ?_
    refine XS.iload X6.here hx rfl (hb hby at_128) rfl ?_
    refine st7 _ ?_
    refine XS.aload X7.here hx rfl (hb hby at_131) rfl rfl ?_
    refine XS.iconst X7.here hx rfl (hb hby at_133) ?_
    show Steps p.tables e below (T7.setTop (mkF m 134 (oL98 p1 p2 p3 p4 b5) [(.int (2 : Int32)), (.ref b5)])) _
    refine XS.iload X7.here hx rfl (hb hby at_134) rfl ?_
    refine st8 _ ?_
    refine st9 _ ?_
    refine XS.dup X9.here hx rfl (hb hby at_140) rfl rfl ?_
    refine XS.aload X9.here hx rfl (hb hby at_141) rfl rfl ?_
    show Steps p.tables e below (T9.setTop (mkF m 143 (oL98 p1 p2 p3 p4 b5) [(.ref b5), (.ref b9), (.ref b9)])) _
    refine st10.trans ?_
    refine XS.astore X10.here hx rfl (hb hby at_146) rfl rfl (l' := (oL105 p1 p2 p3 p4 b5 b9)) rfl ?_
    refine XS.iload X10.here hx rfl (hb hby at_148) rfl ?_
    refine XS.iconst X10.here hx rfl (hb hby at_150) ?_
    refine XS.icmpNo X10.here hx rfl (hb hby at_151) rfl (flt hc151).1 ?_
    show Steps p.tables e below (T10.setTop (mkF m 154 (oL105 p1 p2 p3 p4 b5 b9) [])) _
    refine XS.iload X10.here hx rfl (hb hby at_154) rfl ?_
    refine st11 _ ?_
    refine XS.ifYes X11.here hx rfl (pc0 := 159) (pc' := 194) rfl (hb hby at_159) rfl ((if0 _ _).trans (teq hc159).1) (by decide) (by decide) ?_
    refine XS.iconst X11.here hx rfl (hb hby at_194) ?_
    refine XS.istore X11.here hx rfl (hb hby at_195) rfl (l' := (oL106 p1 p2 p3 p4 b9)) rfl ?_
    show Steps p.tables e below (T11.setTop (mkF m 197 (oL106 p1 p2 p3 p4 b9) [])) _
    refine XS.aload X11.here hx rfl (hb hby at_197) rfl rfl ?_
    refine st12 _ ?_
    refine XS.iload X12.here hx rfl (hb hby at_202) rfl ?_
    refine XS.icmpNo X12.here hx rfl (hb hby at_204) rfl (teq hc204).2 ?_
    refine XS.iconst X12.here hx rfl (hb hby at_207) ?_
    show Steps p.tables e below (T12.setTop (mkF m 208 (oL106 p1 p2 p3 p4 b9) [(.int (1 : Int32))])) _
    refine XS.goto X12.here hx rfl (pc0 := 208) (pc' := 212) rfl (hb hby at_208) (by decide) (by decide) ?_
    exact retN X12 hx (t := .boolean) Bd.returns (by simp) (hb hby at_212) hr
  · show own_Q1K h0 n0 _ T12.heap _
    exact ⟨rfl, N12, K12⟩
set_option maxRecDepth 65536 in
set_option maxHeartbeats 40000000 in
theorem rm0_3_1 (l : Launch) (Z : State) (a0 : Array Value) (hw : ∀ d ∈ tables_1, d.before a0 Z = true) (ws : List Jvm.Cond) (p1 : Int32) (p2 : Int32) (p3 : Int32) (p4 : Int32) (G1 : Int32) (fm : Value) (h0 : Heap) (n0 : Nat) (Z0 : n0 ≤ h0.size) (S_COMPACT_STRINGS : Sta Z Z.heap "java/lang/String" "COMPACT_STRINGS" "Z" (.int G1)) (X00 : Old Z n0 h0) (P3 : ¬ (G1 = (0 : Int32))) (S__assertionsDisabled : Sta Z Z.heap "java/lang/StringUTF16" "$assertionsDisabled" "Z" (.int (1 : Int32))) (S_HI_BYTE_SHIFT : Sta Z Z.heap "java/lang/StringUTF16" "HI_BYTE_SHIFT" "I" (.int (0 : Int32))) (S_LO_BYTE_SHIFT : Sta Z Z.heap "java/lang/StringUTF16" "LO_BYTE_SHIFT" "I" (.int (8 : Int32))) (S_SIOOBE_FORMATTER : Sta Z Z.heap "jdk/internal/util/Preconditions" "SIOOBE_FORMATTER" "Ljava/util/function/BiFunction;" fm) (rf : fm.isRef = true) (hc28 : ¬ ((p1 &&& (3 : Int32)) = (0 : Int32))) (hc49 : ¬ ((p1 &&& (3 : Int32)) = (1 : Int32))) (hc80 : ¬ ((p1 &&& (3 : Int32)) = (2 : Int32))) (hc151 : ¬ ((p1 &&& (3 : Int32)) < (1 : Int32))) (hc159 : ¬ ((own_ok (own_x p2)) = (0 : Int32))) (hc165 : ¬ ((p1 &&& (3 : Int32)) < (2 : Int32))) (hc173 : (own_ok (own_x p3)) = (0 : Int32)) (hc204 : (own_q [(own_x p2), (own_x p3), (own_x p4)]) = (0 : Int32)) :
    MetFree l x (head1 (Jvm.Cond.code x code maxLocals ret :: ws) room_1) (fun a U => a = #[(.int p1), (.int p2), (.int p3), (.int p4)] ∧ Z.Warmed39 U.vm ∧ U.heap = h0) (fun _ _ _ _ _ => True) (fun _ U o U' => ∃ v L, o = .returned v ∧ own_Q1K h0 n0 v U'.heap L ∧ FrameEnd U o U' L room_1.cells room_1.slots) := by
  refine MetFree.of_bodySF (plainFor_of_name pn_0) hisR ?_
  intro p e s m args below meth c s₁ Bd hml0 hP hK
  obtain ⟨rfl, hZ, hh⟩ := hP
  have hx := Bd.exec
  have hby := Bd.bytes
  have hml : c.maxLocals = 10 := hml0
  have hown : s.vm.findClass "com/example/crisp_bisim/crispbisim/formats/TextCursorIsQuotablePinLaw" = some m.cls := findClass_of_methodNamed Bd.named
  have hnm := (name_of_methodNamed Bd.named Bd.method).1
  have X0 : Stand p l e room_1 s m #[(.int p1), (.int p2), (.int p3), (.int p4)] below meth c s₁ [] 0 0 := Stand.of_body Bd
  have e0 : s₁.heap = h0 := by rw [← hh, Bd.state]; rfl
  have N0 := Fr.nil n0
  have pre0 : ∀ t, Steps p.tables e below (s₁.setTop (mkF m 0 (oL91 p1 p2 p3 p4) [])) t → Steps p.tables e below (s₁.setTop (entryFrame m #[(.int p1), (.int p2), (.int p3), (.int p4)] maxLocals)) t := fun t k => castTop (ef_0 m p1 p2 p3 p4) k
  obtain ⟨T5, h5, k5, X5, e5, E5, A5, st5⟩ := newP X0 hx hZ (hw _ (wI 4 rfl)) e0 (g := (mkF m 115 (oL92 p1 p2 p3 p4) [(.int (3 : Int32))])) rfl (hb hby at_115) rfl (by decide) (cap := 3) (by decide) (by decide) (by decide) (by decide)
  obtain ⟨b5, g5⟩ : ∃ z, z = h0.size := ⟨_, rfl⟩
  rw [← g5] at A5 st5
  have V_b5 : Arv Z h5 b5 k5 .char (3 : Int32) [(.int (0 : Int32)), (.int (0 : Int32)), (.int (0 : Int32))] (.int (0 : Int32)) := (Arv.new A5 (by decide)).pad (pad_rep [] (.int (0 : Int32)) 3)
  have g_b5 : n0 ≤ b5 := Nat.le_trans Z0 (Nat.le_of_eq g5.symm)
  have sz_b5 : h0.size ≤ b5 := (Nat.le_trans (Keep.refl h0 []).1 (Nat.le_of_eq g5.symm))
  have K5 : Keep h0 h5 [] := (Keep.refl h0 []).ext E5
  obtain ⟨cl_b5_34, Ar_b5_34, q_b5_34, S_b5_34, N_b5_34, H_b5_34, G_b5_34⟩ := id V_b5
  have hin_b5_34 : ¬ ((0 : Int32) < 0 ∨ cl_b5_34.slots.size ≤ ((0 : Int32)).toNatClampNeg) := inb_of S_b5_34 ⟨by decide, by decide⟩
  obtain ⟨T6, h6, X6, e6, W6, st6⟩ := stC X5 hx hZ e5 Ar_b5_34 (j := (0 : Int32)) hin_b5_34 (g := (mkF m 124 (oL98 p1 p2 p3 p4 b5) [(.int (own_x p2)), (.int (0 : Int32)), (.ref b5)])) rfl rfl (hb hby at_124)
  have V_b5_6 : Arv Z h6 b5 k5 .char (3 : Int32) [(.int (nar .char (own_x p2))), (.int (0 : Int32)), (.int (0 : Int32))] (.int (0 : Int32)) := Arv.set Ar_b5_34 q_b5_34 S_b5_34 N_b5_34 H_b5_34 G_b5_34 (fits_nar_char _) W6 0 (by decide) (Nat.le_of_ble_eq_true rfl)
  have K6 : Keep h0 h6 [] := K5.wr W6 (Or.inr sz_b5)
  have N6 := Fr.snoc X6 N0 g_b5
  obtain ⟨cl_b5_38, Ar_b5_38, q_b5_38, S_b5_38, N_b5_38, H_b5_38, G_b5_38⟩ := id V_b5_6
  have hin_b5_38 : ¬ ((1 : Int32) < 0 ∨ cl_b5_38.slots.size ≤ ((1 : Int32)).toNatClampNeg) := inb_of S_b5_38 ⟨by decide, by decide⟩
  obtain ⟨T7, h7, X7, e7, W7, st7⟩ := stC X6 hx hZ e6 Ar_b5_38 (j := (1 : Int32)) hin_b5_38 (g := (mkF m 130 (oL98 p1 p2 p3 p4 b5) [(.int (own_x p3)), (.int (1 : Int32)), (.ref b5)])) rfl rfl (hb hby at_130)
  have V_b5_7 : Arv Z h7 b5 k5 .char (3 : Int32) [(.int (nar .char (own_x p2))), (.int (nar .char (own_x p3))), (.int (0 : Int32))] (.int (0 : Int32)) := Arv.set Ar_b5_38 q_b5_38 S_b5_38 N_b5_38 H_b5_38 G_b5_38 (fits_nar_char _) W7 1 (by decide) (Nat.le_of_ble_eq_true rfl)
  have K7 : Keep h0 h7 [] := K6.wr W7 (Or.inr sz_b5)
  have N7 := Fr.snoc X7 N6 g_b5
  obtain ⟨cl_b5_42, Ar_b5_42, q_b5_42, S_b5_42, N_b5_42, H_b5_42, G_b5_42⟩ := id V_b5_7
  have hin_b5_42 : ¬ ((2 : Int32) < 0 ∨ cl_b5_42.slots.size ≤ ((2 : Int32)).toNatClampNeg) := inb_of S_b5_42 ⟨by decide, by decide⟩
  obtain ⟨T8, h8, X8, e8, W8, st8⟩ := stC X7 hx hZ e7 Ar_b5_42 (j := (2 : Int32)) hin_b5_42 (g := (mkF m 136 (oL98 p1 p2 p3 p4 b5) [(.int (own_x p4)), (.int (2 : Int32)), (.ref b5)])) rfl rfl (hb hby at_136)
  have V_b5_8 : Arv Z h8 b5 k5 .char (3 : Int32) [(.int (nar .char (own_x p2))), (.int (nar .char (own_x p3))), (.int (nar .char (own_x p4)))] (.int (0 : Int32)) := Arv.set Ar_b5_42 q_b5_42 S_b5_42 N_b5_42 H_b5_42 G_b5_42 (fits_nar_char _) W8 2 (by decide) (Nat.le_of_ble_eq_true rfl)
  have K8 : Keep h0 h8 [] := K7.wr W8 (Or.inr sz_b5)
  have N8 := Fr.snoc X8 N7 g_b5
  obtain ⟨T9, h9, X9, e9, E9, A9, D9, Un9, st9⟩ := newO X8 hx hZ hown (hw _ (wI 1 rfl)) (hw _ (wI 2 rfl)) (hw _ (wI 3 rfl)) e8 (g := (mkF m 137 (oL98 p1 p2 p3 p4 b5) [])) rfl (hb hby at_137) (by decide) (by decide)
  obtain ⟨b9, g9⟩ : ∃ z, z = h8.size := ⟨_, rfl⟩
  rw [← g9] at A9 D9 Un9 st9
  have U_b9 : Unt h9 b9 := Un9
  have F_value_b9 : Fld Z h9 b9 "java/lang/String" "value" "[B" .null := D9 (Or.inr (hw _ (wI 17 rfl))) (ty := (.array .byte)) (by decide)
  have F_coder_b9 : Fld Z h9 b9 "java/lang/String" "coder" "B" (.int (0 : Int32)) := D9 (Or.inr (hw _ (wI 18 rfl))) (ty := .byte) (by decide)
  have E_b9 := A9
  have g_b9 : n0 ≤ b9 := Nat.le_trans (Nat.le_trans (Nat.le_trans (Nat.le_trans (Nat.le_trans Z0 E5.1) (Keep.of_wr W6).1) (Keep.of_wr W7).1) (Keep.of_wr W8).1) (Nat.le_of_eq g9.symm)
  have sz_b9 : h0.size ≤ b9 := (Nat.le_trans K8.1 (Nat.le_of_eq g9.symm))
  have K9 : Keep h0 h9 [] := K8.ext E9
  have Vb10 : Arv Z h9 b5 k5 .char (Int32.ofNat ([(own_x p2), (own_x p3), (own_x p4)] : List Int32).length) ([(own_x p2), (own_x p3), (own_x p4)].map Value.int) (.int (0 : Int32)) := by
    have q : Arv Z h9 b5 k5 .char (3 : Int32) [(.int (nar .char (own_x p2))), (.int (nar .char (own_x p3))), (.int (nar .char (own_x p4)))] (.int (0 : Int32)) := (V_b5_8.ext E9)
    simp only [own_xnar] at q
    exact q
  obtain ⟨_, _, ⟨T10, L10, k10, n10⟩, -, X10, ⟨Lc10, hQ10, l10, y10, z10⟩, st10⟩ := X9.specialBack hx (y := (⟨"java/lang/String", "<init>", "([C)V"⟩ : MethodName)) rfl hown (mvT hZ (hw _ (wI 5 rfl))) (mvT hZ (hw _ (wI 6 rfl))) (mvT hZ (hw _ (wI 7 rfl))) (by decide) (backOf (W := 1) (rm1 l Z a0 hw [] b9 b5 G1 [(own_x p2), (own_x p3), (own_x p4)] k5 h9 n0 (Nat.le_trans (Nat.le_trans (Nat.le_trans (Nat.le_trans (Nat.le_trans Z0 E5.1) (Keep.of_wr W6).1) (Keep.of_wr W7).1) (Keep.of_wr W8).1) E9.1) S_COMPACT_STRINGS (X00.keep K9 all0) P3 S__assertionsDisabled S_HI_BYTE_SHIFT S_LO_BYTE_SHIFT E_b9 F_value_b9 F_coder_b9 Vb10 g_b9 (Or.inr (Or.inr rfl)) (own_hS p2 (own_hS p3 (own_hS p4 own_h0)))) hZ (hw _ (wI 7 rfl)) (hw _ (wI 3 rfl)) (by decide) (by decide)) (g := (mkF m 143 (oL98 p1 p2 p3 p4 b5) [(.ref b5), (.ref b9), (.ref b9)])) rfl (by rw [hml]; rfl) (Steps.refl _) (a := b9) (argsL := [(.ref b5)]) (rest := [(.ref b9)]) (lenOf pd_0_0 rfl) rfl (by show 2 * 0 + _ ≤ _; exact Nat.le_of_eq rfl) (hb hby at_143) (fun _ _ => ⟨rfl, e9, (by decide : 2 + 2 ≤ _), (by decide : 7 + 9 ≤ _)⟩)
  dsimp only [Pt.U, Pt.locs, Pt.cells, Pt.slots] at X10 l10 y10 z10 st10 hQ10
  subst l10 y10 z10
  obtain ⟨rfl, N10q, Kc10, t10, kt10, cd10, z10, vs10, g_t10, gz_t10, Fv10, Fc10, V10, cod10⟩ := hQ10
  have N10 := Fr.app N8 N10q
  have Kq10 : Keep h9 T10.heap [b9] := Kc10
  have K10 : Keep h0 T10.heap [] := K9.trans Kq10 (own_trS (Or.inr sz_b9) all0)
  obtain ⟨_, _, ⟨T11, L11, k11, n11⟩, -, X11, ⟨Lc11, hQ11, l11, y11, z11⟩, st11⟩ := Jvm.LawKit.callS X10 hx (y := (⟨"com/example/crisp_bisim/crispbisim/formats/TextCursorIsQuotablePinLaw", "ok", "(C)Z"⟩ : MethodName)) hown (mvT hZ (hw _ (wI 77 rfl))) (mvT hZ (hw _ (wI 78 rfl))) (mvT hZ (hw _ (wI 79 rfl))) (mvT hZ (hw _ (wI 80 rfl))) (by decide) (backOf (W := 0) (rm17 l Z a0 hw [] (own_x p2)  T10.heap n0 (Nat.le_trans (Nat.le_trans (Nat.le_trans (Nat.le_trans (Nat.le_trans (Nat.le_trans Z0 E5.1) (Keep.of_wr W6).1) (Keep.of_wr W7).1) (Keep.of_wr W8).1) E9.1) Kq10.1)) hZ (hw _ (wI 80 rfl)) (hw _ (wI 79 rfl)) (by decide) (by decide)) (g := (mkF m 156 (oL105 p1 p2 p3 p4 b5 b9) [(.int (own_x p2))])) rfl (by rw [hml]; rfl) (argsL := [(.int (own_x p2))]) (rest := []) (lenOf pd_0_14 rfl) rfl (by show 2 * 0 + _ ≤ _; exact Nat.le_of_eq rfl) (hb hby at_156) (fun _ _ => ⟨rfl, rfl, (by decide : 4 + 0 ≤ _), (by decide : 16 + 0 ≤ _)⟩)
  dsimp only [Pt.U, Pt.locs, Pt.cells, Pt.slots] at X11 l11 y11 z11 st11 hQ11
  subst l11 y11 z11
  obtain ⟨rfl, N11q, eq11⟩ := hQ11
  have N11 := Fr.app N10 N11q
  have Kq11 : Keep T10.heap T11.heap [] := (own_keq eq11)
  have K11 : Keep h0 T11.heap [] := K10.trans Kq11 all0
  obtain ⟨_, _, ⟨T12, L12, k12, n12⟩, -, X12, ⟨Lc12, hQ12, l12, y12, z12⟩, st12⟩ := Jvm.LawKit.callS X11 hx (y := (⟨"com/example/crisp_bisim/crispbisim/formats/TextCursorIsQuotablePinLaw", "ok", "(C)Z"⟩ : MethodName)) hown (mvT hZ (hw _ (wI 77 rfl))) (mvT hZ (hw _ (wI 78 rfl))) (mvT hZ (hw _ (wI 79 rfl))) (mvT hZ (hw _ (wI 80 rfl))) (by decide) (backOf (W := 0) (rm17 l Z a0 hw [] (own_x p3)  T11.heap n0 (Nat.le_trans (Nat.le_trans (Nat.le_trans (Nat.le_trans (Nat.le_trans (Nat.le_trans (Nat.le_trans Z0 E5.1) (Keep.of_wr W6).1) (Keep.of_wr W7).1) (Keep.of_wr W8).1) E9.1) Kq10.1) Kq11.1)) hZ (hw _ (wI 80 rfl)) (hw _ (wI 79 rfl)) (by decide) (by decide)) (g := (mkF m 170 (oL105 p1 p2 p3 p4 b5 b9) [(.int (own_x p3))])) rfl (by rw [hml]; rfl) (argsL := [(.int (own_x p3))]) (rest := []) (lenOf pd_0_14 rfl) rfl (by show 2 * 0 + _ ≤ _; exact Nat.le_of_eq rfl) (hb hby at_170) (fun _ _ => ⟨rfl, rfl, (by decide : 4 + 0 ≤ _), (by decide : 16 + 0 ≤ _)⟩)
  dsimp only [Pt.U, Pt.locs, Pt.cells, Pt.slots] at X12 l12 y12 z12 st12 hQ12
  subst l12 y12 z12
  obtain ⟨rfl, N12q, eq12⟩ := hQ12
  have N12 := Fr.app N11 N12q
  have Kq12 : Keep T11.heap T12.heap [] := (own_keq eq12)
  have K12 : Keep h0 T12.heap [] := K11.trans Kq12 all0
  obtain ⟨_, _, ⟨T13, L13, k13, n13⟩, -, X13, ⟨Lc13, hQ13, l13, y13, z13⟩, st13⟩ := Jvm.LawKit.callS X12 hx (y := (⟨"com/example/crisp_bisim/crispbisim/formats/TextCursor", "isQuotable", "(Ljava/lang/String;)Z"⟩ : MethodName)) hown (mvT hZ (hw _ (wI 23 rfl))) (mvT hZ (hw _ (wI 24 rfl))) (mvT hZ (hw _ (wI 25 rfl))) (mvT hZ (hw _ (wI 26 rfl))) (by decide) (backOf (W := 0) (rm4 l Z a0 hw [] b9 G1 fm t10 cd10 z10 vs10 [(own_x p2), (own_x p3), (own_x p4)] kt10 T12.heap n0 (Nat.le_trans (Nat.le_trans (Nat.le_trans (Nat.le_trans (Nat.le_trans (Nat.le_trans (Nat.le_trans (Nat.le_trans Z0 E5.1) (Keep.of_wr W6).1) (Keep.of_wr W7).1) (Keep.of_wr W8).1) E9.1) Kq10.1) Kq11.1) Kq12.1) S_COMPACT_STRINGS (X00.keep K12 all0) P3 S__assertionsDisabled S_HI_BYTE_SHIFT S_LO_BYTE_SHIFT (((E_b9.keep Kq10).keep Kq11).keep Kq12) ((Fv10.keep Kq11 (fun q => nomatch q)).keep Kq12 (fun q => nomatch q)) ((Fc10.keep Kq11 (fun q => nomatch q)).keep Kq12 (fun q => nomatch q)) ((V10.keep Kq11 (fun q => nomatch q)).keep Kq12 (fun q => nomatch q)) S_SIOOBE_FORMATTER rf cod10 (Or.inr (Or.inr (Or.inr rfl))) (fun q => by cases q) (own_hS p2 (own_hS p3 (own_hS p4 own_h0)))) hZ (hw _ (wI 26 rfl)) (hw _ (wI 25 rfl)) (by decide) (by decide)) (g := (mkF m 199 (oL106 p1 p2 p3 p4 b9) [(.ref b9)])) rfl (by rw [hml]; rfl) (argsL := [(.ref b9)]) (rest := []) (lenOf pd_0_3 rfl) rfl (by show 2 * 0 + _ ≤ _; exact Nat.le_of_eq rfl) (hb hby at_199) (fun _ _ => ⟨rfl, rfl, (by decide : 4 + 0 ≤ _), (by decide : 16 + 0 ≤ _)⟩)
  dsimp only [Pt.U, Pt.locs, Pt.cells, Pt.slots] at X13 l13 y13 z13 st13 hQ13
  subst l13 y13 z13
  obtain ⟨rfl, N13q, eq13⟩ := hQ13
  have N13 := Fr.app N12 N13q
  have Kq13 : Keep T12.heap T13.heap [] := (own_keq eq13)
  have K13 : Keep h0 T13.heap [] := K12.trans Kq13 all0
  obtain ⟨fs, hr, hrun, hended, hW, hsame⟩ := X13.leave (v := some (.int (1 : Int32))) (fun h => by rw [Bd.returns] at h; cases h)
  refine ⟨_, _, pre0 _ ?_, hrun, hended, _, _, rfl, ?_, ⟨_, rfl⟩, hW, hsame.mono (by decide) (by decide)⟩
  · show Steps p.tables e below (s₁.setTop (mkF m 0 (oL91 p1 p2 p3 p4) [])) _
    refine XS.iloadN X0.here hx rfl (hb hby at_0) rfl ?_
    refine XS.iconst X0.here hx rfl (hb hby at_1) ?_
    refine XS.iand X0.here hx rfl (hb hby at_2) rfl ?_
    refine XS.istore X0.here hx rfl (hb hby at_3) rfl (l' := (oL94 p1 p2 p3 p4)) rfl ?_
    refine XS.iloadN X0.here hx rfl (hb hby at_5) rfl ?_
    show Steps p.tables e below (s₁.setTop (mkF m 6 (oL94 p1 p2 p3 p4) [(.int p2)])) _
    refine X0.ldcInt hx hown (mvT hZ (hw _ (wI 0 rfl))) (g := (mkF m 6 (oL94 p1 p2 p3 p4) [(.int p2)])) rfl (hb hby at_6) _ ?_
    refine XS.iand X0.here hx rfl (hb hby at_8) rfl ?_
    refine XS.i2c X0.here hx rfl (hb hby at_9) rfl ?_
    refine XS.istore X0.here hx rfl (hb hby at_10) rfl (l' := (oL95 p1 p2 p3 p4)) rfl ?_
    refine XS.iloadN X0.here hx rfl (hb hby at_12) rfl ?_
    show Steps p.tables e below (s₁.setTop (mkF m 13 (oL95 p1 p2 p3 p4) [(.int p3)])) _
    refine X0.ldcInt hx hown (mvT hZ (hw _ (wI 0 rfl))) (g := (mkF m 13 (oL95 p1 p2 p3 p4) [(.int p3)])) rfl (hb hby at_13) _ ?_
    refine XS.iand X0.here hx rfl (hb hby at_15) rfl ?_
    refine XS.i2c X0.here hx rfl (hb hby at_16) rfl ?_
    refine XS.istore X0.here hx rfl (hb hby at_17) rfl (l' := (oL96 p1 p2 p3 p4)) rfl ?_
    refine XS.iloadN X0.here hx rfl (hb hby at_19) rfl ?_
    show Steps p.tables e below (s₁.setTop (mkF m 20 (oL96 p1 p2 p3 p4) [(.int p4)])) _
    refine X0.ldcInt hx hown (mvT hZ (hw _ (wI 0 rfl))) (g := (mkF m 20 (oL96 p1 p2 p3 p4) [(.int p4)])) rfl (hb hby at_20) _ ?_
    refine XS.iand X0.here hx rfl (hb hby at_22) rfl ?_
    refine XS.i2c X0.here hx rfl (hb hby at_23) rfl ?_
    refine XS.istore X0.here hx rfl (hb hby at_24) rfl (l' := (oL92 p1 p2 p3 p4)) rfl ?_
    refine XS.iload X0.here hx rfl (hb hby at_26) rfl ?_
    show Steps p.tables e below (s₁.setTop (mkF m 28 (oL92 p1 p2 p3 p4) [(.int (p1 &&& (3 : Int32)))])) _
    refine XS.ifYes X0.here hx rfl (pc0 := 28) (pc' := 46) rfl (hb hby at_28) rfl ((if0 _ _).trans (feq hc28).2) (by decide) (by decide) ?_
    refine XS.iload X0.here hx rfl (hb hby at_46) rfl ?_
    refine XS.iconst X0.here hx rfl (hb hby at_48) ?_
    refine XS.icmpYes X0.here hx rfl (pc0 := 49) (pc' := 77) rfl (hb hby at_49) rfl (feq hc49).2 (by decide) (by decide) ?_
    refine XS.iload X0.here hx rfl (hb hby at_77) rfl ?_
    show Steps p.tables e below (s₁.setTop (mkF m 79 (oL92 p1 p2 p3 p4) [(.int (p1 &&& (3 : Int32)))])) _
    refine XS.iconst X0.here hx rfl (hb hby at_79) ?_
    refine XS.icmpYes X0.here hx rfl (pc0 := 80) (pc' := 114) rfl (hb hby at_80) rfl (feq hc80).2 (by decide) (by decide) ?_
    refine XS.iconst X0.here hx rfl (hb hby at_114) ?_
    refine st5 _ ?_
    refine XS.astore X5.here hx rfl (hb hby at_117) rfl rfl (l' := (oL98 p1 p2 p3 p4 b5)) rfl ?_
    show Steps p.tables e below (T5.setTop (mkF m 119 (oL98 p1 p2 p3 p4 b5) [])) _
    refine XS.aload X5.here hx rfl (hb hby at_119) rfl rfl ?_
    refine XS.iconst X5.here hx rfl (hb hby at_121) ?_
    refine XS.iload X5.here hx rfl (hb hby at_122) rfl ?_
    refine st6 _ ?_
    refine XS.aload X6.here hx rfl (hb hby at_125) rfl rfl ?_
    show Steps p.tables e below (T6.setTop (mkF m 127 (oL98 p1 p2 p3 p4 b5) [(.ref b5)])) _
    refine XS.iconst X6.here hx rfl (hb hby at_127) ?_
    refine XS.iload X6.here hx rfl (hb hby at_128) rfl ?_
    refine st7 _ ?_
    refine XS.aload X7.here hx rfl (hb hby at_131) rfl rfl ?_
    refine XS.iconst X7.here hx rfl (hb hby at_133) ?_
    show Steps p.tables e below (T7.setTop (mkF m 134 (oL98 p1 p2 p3 p4 b5) [(.int (2 : Int32)), (.ref b5)])) _
    refine XS.iload X7.here hx rfl (hb hby at_134) rfl ?_
    refine st8 _ ?_
    refine st9 _ ?_
    refine XS.dup X9.here hx rfl (hb hby at_140) rfl rfl ?_
    refine XS.aload X9.here hx rfl (hb hby at_141) rfl rfl ?_
    show Steps p.tables e below (T9.setTop (mkF m 143 (oL98 p1 p2 p3 p4 b5) [(.ref b5), (.ref b9), (.ref b9)])) _
    refine st10.trans ?_
    refine XS.astore X10.here hx rfl (hb hby at_146) rfl rfl (l' := (oL105 p1 p2 p3 p4 b5 b9)) rfl ?_
    refine XS.iload X10.here hx rfl (hb hby at_148) rfl ?_
    refine XS.iconst X10.here hx rfl (hb hby at_150) ?_
    refine XS.icmpNo X10.here hx rfl (hb hby at_151) rfl (flt hc151).1 ?_
    show Steps p.tables e below (T10.setTop (mkF m 154 (oL105 p1 p2 p3 p4 b5 b9) [])) _
    refine XS.iload X10.here hx rfl (hb hby at_154) rfl ?_
    refine st11 _ ?_
    refine XS.ifNo X11.here hx rfl (hb hby at_159) rfl ((if0 _ _).trans (feq hc159).1) ?_
    refine XS.iload X11.here hx rfl (hb hby at_162) rfl ?_
    refine XS.iconst X11.here hx rfl (hb hby at_164) ?_
    show Steps p.tables e below (T11.setTop (mkF m 165 (oL105 p1 p2 p3 p4 b5 b9) [(.int (2 : Int32)), (.int (p1 &&& (3 : Int32)))])) _
    refine XS.icmpNo X11.here hx rfl (hb hby at_165) rfl (flt hc165).1 ?_
    refine XS.iload X11.here hx rfl (hb hby at_168) rfl ?_
    refine st12 _ ?_
    refine XS.ifYes X12.here hx rfl (pc0 := 173) (pc' := 194) rfl (hb hby at_173) rfl ((if0 _ _).trans (teq hc173).1) (by decide) (by decide) ?_
    refine XS.iconst X12.here hx rfl (hb hby at_194) ?_
    show Steps p.tables e below (T12.setTop (mkF m 195 (oL105 p1 p2 p3 p4 b5 b9) [(.int (0 : Int32))])) _
    refine XS.istore X12.here hx rfl (hb hby at_195) rfl (l' := (oL106 p1 p2 p3 p4 b9)) rfl ?_
    refine XS.aload X12.here hx rfl (hb hby at_197) rfl rfl ?_
    refine st13 _ ?_
    refine XS.iload X13.here hx rfl (hb hby at_202) rfl ?_
    refine XS.icmpNo X13.here hx rfl (hb hby at_204) rfl (teq hc204).2 ?_
    show Steps p.tables e below (T13.setTop (mkF m 207 (oL106 p1 p2 p3 p4 b9) [])) _
    refine XS.iconst X13.here hx rfl (hb hby at_207) ?_
    refine XS.goto X13.here hx rfl (pc0 := 208) (pc' := 212) rfl (hb hby at_208) (by decide) (by decide) ?_
    exact retN X13 hx (t := .boolean) Bd.returns (by simp) (hb hby at_212) hr
  · show own_Q1K h0 n0 _ T13.heap _
    exact ⟨rfl, N13, K13⟩
set_option maxRecDepth 65536 in
set_option maxHeartbeats 40000000 in
theorem rm0_3_2 (l : Launch) (Z : State) (a0 : Array Value) (hw : ∀ d ∈ tables_1, d.before a0 Z = true) (ws : List Jvm.Cond) (p1 : Int32) (p2 : Int32) (p3 : Int32) (p4 : Int32) (G1 : Int32) (fm : Value) (h0 : Heap) (n0 : Nat) (Z0 : n0 ≤ h0.size) (S_COMPACT_STRINGS : Sta Z Z.heap "java/lang/String" "COMPACT_STRINGS" "Z" (.int G1)) (X00 : Old Z n0 h0) (P3 : ¬ (G1 = (0 : Int32))) (S__assertionsDisabled : Sta Z Z.heap "java/lang/StringUTF16" "$assertionsDisabled" "Z" (.int (1 : Int32))) (S_HI_BYTE_SHIFT : Sta Z Z.heap "java/lang/StringUTF16" "HI_BYTE_SHIFT" "I" (.int (0 : Int32))) (S_LO_BYTE_SHIFT : Sta Z Z.heap "java/lang/StringUTF16" "LO_BYTE_SHIFT" "I" (.int (8 : Int32))) (S_SIOOBE_FORMATTER : Sta Z Z.heap "jdk/internal/util/Preconditions" "SIOOBE_FORMATTER" "Ljava/util/function/BiFunction;" fm) (rf : fm.isRef = true) (hc28 : ¬ ((p1 &&& (3 : Int32)) = (0 : Int32))) (hc49 : ¬ ((p1 &&& (3 : Int32)) = (1 : Int32))) (hc80 : ¬ ((p1 &&& (3 : Int32)) = (2 : Int32))) (hc151 : ¬ ((p1 &&& (3 : Int32)) < (1 : Int32))) (hc159 : ¬ ((own_ok (own_x p2)) = (0 : Int32))) (hc165 : ¬ ((p1 &&& (3 : Int32)) < (2 : Int32))) (hc173 : ¬ ((own_ok (own_x p3)) = (0 : Int32))) (hc179 : ¬ ((p1 &&& (3 : Int32)) < (3 : Int32))) (hc187 : (own_ok (own_x p4)) = (0 : Int32)) (hc204 : (own_q [(own_x p2), (own_x p3), (own_x p4)]) = (0 : Int32)) :
    MetFree l x (head1 (Jvm.Cond.code x code maxLocals ret :: ws) room_1) (fun a U => a = #[(.int p1), (.int p2), (.int p3), (.int p4)] ∧ Z.Warmed39 U.vm ∧ U.heap = h0) (fun _ _ _ _ _ => True) (fun _ U o U' => ∃ v L, o = .returned v ∧ own_Q1K h0 n0 v U'.heap L ∧ FrameEnd U o U' L room_1.cells room_1.slots) := by
  refine MetFree.of_bodySF (plainFor_of_name pn_0) hisR ?_
  intro p e s m args below meth c s₁ Bd hml0 hP hK
  obtain ⟨rfl, hZ, hh⟩ := hP
  have hx := Bd.exec
  have hby := Bd.bytes
  have hml : c.maxLocals = 10 := hml0
  have hown : s.vm.findClass "com/example/crisp_bisim/crispbisim/formats/TextCursorIsQuotablePinLaw" = some m.cls := findClass_of_methodNamed Bd.named
  have hnm := (name_of_methodNamed Bd.named Bd.method).1
  have X0 : Stand p l e room_1 s m #[(.int p1), (.int p2), (.int p3), (.int p4)] below meth c s₁ [] 0 0 := Stand.of_body Bd
  have e0 : s₁.heap = h0 := by rw [← hh, Bd.state]; rfl
  have N0 := Fr.nil n0
  have pre0 : ∀ t, Steps p.tables e below (s₁.setTop (mkF m 0 (oL91 p1 p2 p3 p4) [])) t → Steps p.tables e below (s₁.setTop (entryFrame m #[(.int p1), (.int p2), (.int p3), (.int p4)] maxLocals)) t := fun t k => castTop (ef_0 m p1 p2 p3 p4) k
  obtain ⟨T5, h5, k5, X5, e5, E5, A5, st5⟩ := newP X0 hx hZ (hw _ (wI 4 rfl)) e0 (g := (mkF m 115 (oL92 p1 p2 p3 p4) [(.int (3 : Int32))])) rfl (hb hby at_115) rfl (by decide) (cap := 3) (by decide) (by decide) (by decide) (by decide)
  obtain ⟨b5, g5⟩ : ∃ z, z = h0.size := ⟨_, rfl⟩
  rw [← g5] at A5 st5
  have V_b5 : Arv Z h5 b5 k5 .char (3 : Int32) [(.int (0 : Int32)), (.int (0 : Int32)), (.int (0 : Int32))] (.int (0 : Int32)) := (Arv.new A5 (by decide)).pad (pad_rep [] (.int (0 : Int32)) 3)
  have g_b5 : n0 ≤ b5 := Nat.le_trans Z0 (Nat.le_of_eq g5.symm)
  have sz_b5 : h0.size ≤ b5 := (Nat.le_trans (Keep.refl h0 []).1 (Nat.le_of_eq g5.symm))
  have K5 : Keep h0 h5 [] := (Keep.refl h0 []).ext E5
  obtain ⟨cl_b5_34, Ar_b5_34, q_b5_34, S_b5_34, N_b5_34, H_b5_34, G_b5_34⟩ := id V_b5
  have hin_b5_34 : ¬ ((0 : Int32) < 0 ∨ cl_b5_34.slots.size ≤ ((0 : Int32)).toNatClampNeg) := inb_of S_b5_34 ⟨by decide, by decide⟩
  obtain ⟨T6, h6, X6, e6, W6, st6⟩ := stC X5 hx hZ e5 Ar_b5_34 (j := (0 : Int32)) hin_b5_34 (g := (mkF m 124 (oL98 p1 p2 p3 p4 b5) [(.int (own_x p2)), (.int (0 : Int32)), (.ref b5)])) rfl rfl (hb hby at_124)
  have V_b5_6 : Arv Z h6 b5 k5 .char (3 : Int32) [(.int (nar .char (own_x p2))), (.int (0 : Int32)), (.int (0 : Int32))] (.int (0 : Int32)) := Arv.set Ar_b5_34 q_b5_34 S_b5_34 N_b5_34 H_b5_34 G_b5_34 (fits_nar_char _) W6 0 (by decide) (Nat.le_of_ble_eq_true rfl)
  have K6 : Keep h0 h6 [] := K5.wr W6 (Or.inr sz_b5)
  have N6 := Fr.snoc X6 N0 g_b5
  obtain ⟨cl_b5_38, Ar_b5_38, q_b5_38, S_b5_38, N_b5_38, H_b5_38, G_b5_38⟩ := id V_b5_6
  have hin_b5_38 : ¬ ((1 : Int32) < 0 ∨ cl_b5_38.slots.size ≤ ((1 : Int32)).toNatClampNeg) := inb_of S_b5_38 ⟨by decide, by decide⟩
  obtain ⟨T7, h7, X7, e7, W7, st7⟩ := stC X6 hx hZ e6 Ar_b5_38 (j := (1 : Int32)) hin_b5_38 (g := (mkF m 130 (oL98 p1 p2 p3 p4 b5) [(.int (own_x p3)), (.int (1 : Int32)), (.ref b5)])) rfl rfl (hb hby at_130)
  have V_b5_7 : Arv Z h7 b5 k5 .char (3 : Int32) [(.int (nar .char (own_x p2))), (.int (nar .char (own_x p3))), (.int (0 : Int32))] (.int (0 : Int32)) := Arv.set Ar_b5_38 q_b5_38 S_b5_38 N_b5_38 H_b5_38 G_b5_38 (fits_nar_char _) W7 1 (by decide) (Nat.le_of_ble_eq_true rfl)
  have K7 : Keep h0 h7 [] := K6.wr W7 (Or.inr sz_b5)
  have N7 := Fr.snoc X7 N6 g_b5
  obtain ⟨cl_b5_42, Ar_b5_42, q_b5_42, S_b5_42, N_b5_42, H_b5_42, G_b5_42⟩ := id V_b5_7
  have hin_b5_42 : ¬ ((2 : Int32) < 0 ∨ cl_b5_42.slots.size ≤ ((2 : Int32)).toNatClampNeg) := inb_of S_b5_42 ⟨by decide, by decide⟩
  obtain ⟨T8, h8, X8, e8, W8, st8⟩ := stC X7 hx hZ e7 Ar_b5_42 (j := (2 : Int32)) hin_b5_42 (g := (mkF m 136 (oL98 p1 p2 p3 p4 b5) [(.int (own_x p4)), (.int (2 : Int32)), (.ref b5)])) rfl rfl (hb hby at_136)
  have V_b5_8 : Arv Z h8 b5 k5 .char (3 : Int32) [(.int (nar .char (own_x p2))), (.int (nar .char (own_x p3))), (.int (nar .char (own_x p4)))] (.int (0 : Int32)) := Arv.set Ar_b5_42 q_b5_42 S_b5_42 N_b5_42 H_b5_42 G_b5_42 (fits_nar_char _) W8 2 (by decide) (Nat.le_of_ble_eq_true rfl)
  have K8 : Keep h0 h8 [] := K7.wr W8 (Or.inr sz_b5)
  have N8 := Fr.snoc X8 N7 g_b5
  obtain ⟨T9, h9, X9, e9, E9, A9, D9, Un9, st9⟩ := newO X8 hx hZ hown (hw _ (wI 1 rfl)) (hw _ (wI 2 rfl)) (hw _ (wI 3 rfl)) e8 (g := (mkF m 137 (oL98 p1 p2 p3 p4 b5) [])) rfl (hb hby at_137) (by decide) (by decide)
  obtain ⟨b9, g9⟩ : ∃ z, z = h8.size := ⟨_, rfl⟩
  rw [← g9] at A9 D9 Un9 st9
  have U_b9 : Unt h9 b9 := Un9
  have F_value_b9 : Fld Z h9 b9 "java/lang/String" "value" "[B" .null := D9 (Or.inr (hw _ (wI 17 rfl))) (ty := (.array .byte)) (by decide)
  have F_coder_b9 : Fld Z h9 b9 "java/lang/String" "coder" "B" (.int (0 : Int32)) := D9 (Or.inr (hw _ (wI 18 rfl))) (ty := .byte) (by decide)
  have E_b9 := A9
  have g_b9 : n0 ≤ b9 := Nat.le_trans (Nat.le_trans (Nat.le_trans (Nat.le_trans (Nat.le_trans Z0 E5.1) (Keep.of_wr W6).1) (Keep.of_wr W7).1) (Keep.of_wr W8).1) (Nat.le_of_eq g9.symm)
  have sz_b9 : h0.size ≤ b9 := (Nat.le_trans K8.1 (Nat.le_of_eq g9.symm))
  have K9 : Keep h0 h9 [] := K8.ext E9
  have Vb10 : Arv Z h9 b5 k5 .char (Int32.ofNat ([(own_x p2), (own_x p3), (own_x p4)] : List Int32).length) ([(own_x p2), (own_x p3), (own_x p4)].map Value.int) (.int (0 : Int32)) := by
    have q : Arv Z h9 b5 k5 .char (3 : Int32) [(.int (nar .char (own_x p2))), (.int (nar .char (own_x p3))), (.int (nar .char (own_x p4)))] (.int (0 : Int32)) := (V_b5_8.ext E9)
    simp only [own_xnar] at q
    exact q
  obtain ⟨_, _, ⟨T10, L10, k10, n10⟩, -, X10, ⟨Lc10, hQ10, l10, y10, z10⟩, st10⟩ := X9.specialBack hx (y := (⟨"java/lang/String", "<init>", "([C)V"⟩ : MethodName)) rfl hown (mvT hZ (hw _ (wI 5 rfl))) (mvT hZ (hw _ (wI 6 rfl))) (mvT hZ (hw _ (wI 7 rfl))) (by decide) (backOf (W := 1) (rm1 l Z a0 hw [] b9 b5 G1 [(own_x p2), (own_x p3), (own_x p4)] k5 h9 n0 (Nat.le_trans (Nat.le_trans (Nat.le_trans (Nat.le_trans (Nat.le_trans Z0 E5.1) (Keep.of_wr W6).1) (Keep.of_wr W7).1) (Keep.of_wr W8).1) E9.1) S_COMPACT_STRINGS (X00.keep K9 all0) P3 S__assertionsDisabled S_HI_BYTE_SHIFT S_LO_BYTE_SHIFT E_b9 F_value_b9 F_coder_b9 Vb10 g_b9 (Or.inr (Or.inr rfl)) (own_hS p2 (own_hS p3 (own_hS p4 own_h0)))) hZ (hw _ (wI 7 rfl)) (hw _ (wI 3 rfl)) (by decide) (by decide)) (g := (mkF m 143 (oL98 p1 p2 p3 p4 b5) [(.ref b5), (.ref b9), (.ref b9)])) rfl (by rw [hml]; rfl) (Steps.refl _) (a := b9) (argsL := [(.ref b5)]) (rest := [(.ref b9)]) (lenOf pd_0_0 rfl) rfl (by show 2 * 0 + _ ≤ _; exact Nat.le_of_eq rfl) (hb hby at_143) (fun _ _ => ⟨rfl, e9, (by decide : 2 + 2 ≤ _), (by decide : 7 + 9 ≤ _)⟩)
  dsimp only [Pt.U, Pt.locs, Pt.cells, Pt.slots] at X10 l10 y10 z10 st10 hQ10
  subst l10 y10 z10
  obtain ⟨rfl, N10q, Kc10, t10, kt10, cd10, z10, vs10, g_t10, gz_t10, Fv10, Fc10, V10, cod10⟩ := hQ10
  have N10 := Fr.app N8 N10q
  have Kq10 : Keep h9 T10.heap [b9] := Kc10
  have K10 : Keep h0 T10.heap [] := K9.trans Kq10 (own_trS (Or.inr sz_b9) all0)
  obtain ⟨_, _, ⟨T11, L11, k11, n11⟩, -, X11, ⟨Lc11, hQ11, l11, y11, z11⟩, st11⟩ := Jvm.LawKit.callS X10 hx (y := (⟨"com/example/crisp_bisim/crispbisim/formats/TextCursorIsQuotablePinLaw", "ok", "(C)Z"⟩ : MethodName)) hown (mvT hZ (hw _ (wI 77 rfl))) (mvT hZ (hw _ (wI 78 rfl))) (mvT hZ (hw _ (wI 79 rfl))) (mvT hZ (hw _ (wI 80 rfl))) (by decide) (backOf (W := 0) (rm17 l Z a0 hw [] (own_x p2)  T10.heap n0 (Nat.le_trans (Nat.le_trans (Nat.le_trans (Nat.le_trans (Nat.le_trans (Nat.le_trans Z0 E5.1) (Keep.of_wr W6).1) (Keep.of_wr W7).1) (Keep.of_wr W8).1) E9.1) Kq10.1)) hZ (hw _ (wI 80 rfl)) (hw _ (wI 79 rfl)) (by decide) (by decide)) (g := (mkF m 156 (oL105 p1 p2 p3 p4 b5 b9) [(.int (own_x p2))])) rfl (by rw [hml]; rfl) (argsL := [(.int (own_x p2))]) (rest := []) (lenOf pd_0_14 rfl) rfl (by show 2 * 0 + _ ≤ _; exact Nat.le_of_eq rfl) (hb hby at_156) (fun _ _ => ⟨rfl, rfl, (by decide : 4 + 0 ≤ _), (by decide : 16 + 0 ≤ _)⟩)
  dsimp only [Pt.U, Pt.locs, Pt.cells, Pt.slots] at X11 l11 y11 z11 st11 hQ11
  subst l11 y11 z11
  obtain ⟨rfl, N11q, eq11⟩ := hQ11
  have N11 := Fr.app N10 N11q
  have Kq11 : Keep T10.heap T11.heap [] := (own_keq eq11)
  have K11 : Keep h0 T11.heap [] := K10.trans Kq11 all0
  obtain ⟨_, _, ⟨T12, L12, k12, n12⟩, -, X12, ⟨Lc12, hQ12, l12, y12, z12⟩, st12⟩ := Jvm.LawKit.callS X11 hx (y := (⟨"com/example/crisp_bisim/crispbisim/formats/TextCursorIsQuotablePinLaw", "ok", "(C)Z"⟩ : MethodName)) hown (mvT hZ (hw _ (wI 77 rfl))) (mvT hZ (hw _ (wI 78 rfl))) (mvT hZ (hw _ (wI 79 rfl))) (mvT hZ (hw _ (wI 80 rfl))) (by decide) (backOf (W := 0) (rm17 l Z a0 hw [] (own_x p3)  T11.heap n0 (Nat.le_trans (Nat.le_trans (Nat.le_trans (Nat.le_trans (Nat.le_trans (Nat.le_trans (Nat.le_trans Z0 E5.1) (Keep.of_wr W6).1) (Keep.of_wr W7).1) (Keep.of_wr W8).1) E9.1) Kq10.1) Kq11.1)) hZ (hw _ (wI 80 rfl)) (hw _ (wI 79 rfl)) (by decide) (by decide)) (g := (mkF m 170 (oL105 p1 p2 p3 p4 b5 b9) [(.int (own_x p3))])) rfl (by rw [hml]; rfl) (argsL := [(.int (own_x p3))]) (rest := []) (lenOf pd_0_14 rfl) rfl (by show 2 * 0 + _ ≤ _; exact Nat.le_of_eq rfl) (hb hby at_170) (fun _ _ => ⟨rfl, rfl, (by decide : 4 + 0 ≤ _), (by decide : 16 + 0 ≤ _)⟩)
  dsimp only [Pt.U, Pt.locs, Pt.cells, Pt.slots] at X12 l12 y12 z12 st12 hQ12
  subst l12 y12 z12
  obtain ⟨rfl, N12q, eq12⟩ := hQ12
  have N12 := Fr.app N11 N12q
  have Kq12 : Keep T11.heap T12.heap [] := (own_keq eq12)
  have K12 : Keep h0 T12.heap [] := K11.trans Kq12 all0
  obtain ⟨_, _, ⟨T13, L13, k13, n13⟩, -, X13, ⟨Lc13, hQ13, l13, y13, z13⟩, st13⟩ := Jvm.LawKit.callS X12 hx (y := (⟨"com/example/crisp_bisim/crispbisim/formats/TextCursorIsQuotablePinLaw", "ok", "(C)Z"⟩ : MethodName)) hown (mvT hZ (hw _ (wI 77 rfl))) (mvT hZ (hw _ (wI 78 rfl))) (mvT hZ (hw _ (wI 79 rfl))) (mvT hZ (hw _ (wI 80 rfl))) (by decide) (backOf (W := 0) (rm17 l Z a0 hw [] (own_x p4)  T12.heap n0 (Nat.le_trans (Nat.le_trans (Nat.le_trans (Nat.le_trans (Nat.le_trans (Nat.le_trans (Nat.le_trans (Nat.le_trans Z0 E5.1) (Keep.of_wr W6).1) (Keep.of_wr W7).1) (Keep.of_wr W8).1) E9.1) Kq10.1) Kq11.1) Kq12.1)) hZ (hw _ (wI 80 rfl)) (hw _ (wI 79 rfl)) (by decide) (by decide)) (g := (mkF m 184 (oL105 p1 p2 p3 p4 b5 b9) [(.int (own_x p4))])) rfl (by rw [hml]; rfl) (argsL := [(.int (own_x p4))]) (rest := []) (lenOf pd_0_14 rfl) rfl (by show 2 * 0 + _ ≤ _; exact Nat.le_of_eq rfl) (hb hby at_184) (fun _ _ => ⟨rfl, rfl, (by decide : 4 + 0 ≤ _), (by decide : 16 + 0 ≤ _)⟩)
  dsimp only [Pt.U, Pt.locs, Pt.cells, Pt.slots] at X13 l13 y13 z13 st13 hQ13
  subst l13 y13 z13
  obtain ⟨rfl, N13q, eq13⟩ := hQ13
  have N13 := Fr.app N12 N13q
  have Kq13 : Keep T12.heap T13.heap [] := (own_keq eq13)
  have K13 : Keep h0 T13.heap [] := K12.trans Kq13 all0
  obtain ⟨_, _, ⟨T14, L14, k14, n14⟩, -, X14, ⟨Lc14, hQ14, l14, y14, z14⟩, st14⟩ := Jvm.LawKit.callS X13 hx (y := (⟨"com/example/crisp_bisim/crispbisim/formats/TextCursor", "isQuotable", "(Ljava/lang/String;)Z"⟩ : MethodName)) hown (mvT hZ (hw _ (wI 23 rfl))) (mvT hZ (hw _ (wI 24 rfl))) (mvT hZ (hw _ (wI 25 rfl))) (mvT hZ (hw _ (wI 26 rfl))) (by decide) (backOf (W := 0) (rm4 l Z a0 hw [] b9 G1 fm t10 cd10 z10 vs10 [(own_x p2), (own_x p3), (own_x p4)] kt10 T13.heap n0 (Nat.le_trans (Nat.le_trans (Nat.le_trans (Nat.le_trans (Nat.le_trans (Nat.le_trans (Nat.le_trans (Nat.le_trans (Nat.le_trans Z0 E5.1) (Keep.of_wr W6).1) (Keep.of_wr W7).1) (Keep.of_wr W8).1) E9.1) Kq10.1) Kq11.1) Kq12.1) Kq13.1) S_COMPACT_STRINGS (X00.keep K13 all0) P3 S__assertionsDisabled S_HI_BYTE_SHIFT S_LO_BYTE_SHIFT ((((E_b9.keep Kq10).keep Kq11).keep Kq12).keep Kq13) (((Fv10.keep Kq11 (fun q => nomatch q)).keep Kq12 (fun q => nomatch q)).keep Kq13 (fun q => nomatch q)) (((Fc10.keep Kq11 (fun q => nomatch q)).keep Kq12 (fun q => nomatch q)).keep Kq13 (fun q => nomatch q)) (((V10.keep Kq11 (fun q => nomatch q)).keep Kq12 (fun q => nomatch q)).keep Kq13 (fun q => nomatch q)) S_SIOOBE_FORMATTER rf cod10 (Or.inr (Or.inr (Or.inr rfl))) (fun q => by cases q) (own_hS p2 (own_hS p3 (own_hS p4 own_h0)))) hZ (hw _ (wI 26 rfl)) (hw _ (wI 25 rfl)) (by decide) (by decide)) (g := (mkF m 199 (oL106 p1 p2 p3 p4 b9) [(.ref b9)])) rfl (by rw [hml]; rfl) (argsL := [(.ref b9)]) (rest := []) (lenOf pd_0_3 rfl) rfl (by show 2 * 0 + _ ≤ _; exact Nat.le_of_eq rfl) (hb hby at_199) (fun _ _ => ⟨rfl, rfl, (by decide : 4 + 0 ≤ _), (by decide : 16 + 0 ≤ _)⟩)
  dsimp only [Pt.U, Pt.locs, Pt.cells, Pt.slots] at X14 l14 y14 z14 st14 hQ14
  subst l14 y14 z14
  obtain ⟨rfl, N14q, eq14⟩ := hQ14
  have N14 := Fr.app N13 N14q
  have Kq14 : Keep T13.heap T14.heap [] := (own_keq eq14)
  have K14 : Keep h0 T14.heap [] := K13.trans Kq14 all0
  obtain ⟨fs, hr, hrun, hended, hW, hsame⟩ := X14.leave (v := some (.int (1 : Int32))) (fun h => by rw [Bd.returns] at h; cases h)
  refine ⟨_, _, pre0 _ ?_, hrun, hended, _, _, rfl, ?_, ⟨_, rfl⟩, hW, hsame.mono (by decide) (by decide)⟩
  · show Steps p.tables e below (s₁.setTop (mkF m 0 (oL91 p1 p2 p3 p4) [])) _
    refine XS.iloadN X0.here hx rfl (hb hby at_0) rfl ?_
    refine XS.iconst X0.here hx rfl (hb hby at_1) ?_
    refine XS.iand X0.here hx rfl (hb hby at_2) rfl ?_
    refine XS.istore X0.here hx rfl (hb hby at_3) rfl (l' := (oL94 p1 p2 p3 p4)) rfl ?_
    refine XS.iloadN X0.here hx rfl (hb hby at_5) rfl ?_
    show Steps p.tables e below (s₁.setTop (mkF m 6 (oL94 p1 p2 p3 p4) [(.int p2)])) _
    refine X0.ldcInt hx hown (mvT hZ (hw _ (wI 0 rfl))) (g := (mkF m 6 (oL94 p1 p2 p3 p4) [(.int p2)])) rfl (hb hby at_6) _ ?_
    refine XS.iand X0.here hx rfl (hb hby at_8) rfl ?_
    refine XS.i2c X0.here hx rfl (hb hby at_9) rfl ?_
    refine XS.istore X0.here hx rfl (hb hby at_10) rfl (l' := (oL95 p1 p2 p3 p4)) rfl ?_
    refine XS.iloadN X0.here hx rfl (hb hby at_12) rfl ?_
    show Steps p.tables e below (s₁.setTop (mkF m 13 (oL95 p1 p2 p3 p4) [(.int p3)])) _
    refine X0.ldcInt hx hown (mvT hZ (hw _ (wI 0 rfl))) (g := (mkF m 13 (oL95 p1 p2 p3 p4) [(.int p3)])) rfl (hb hby at_13) _ ?_
    refine XS.iand X0.here hx rfl (hb hby at_15) rfl ?_
    refine XS.i2c X0.here hx rfl (hb hby at_16) rfl ?_
    refine XS.istore X0.here hx rfl (hb hby at_17) rfl (l' := (oL96 p1 p2 p3 p4)) rfl ?_
    refine XS.iloadN X0.here hx rfl (hb hby at_19) rfl ?_
    show Steps p.tables e below (s₁.setTop (mkF m 20 (oL96 p1 p2 p3 p4) [(.int p4)])) _
    refine X0.ldcInt hx hown (mvT hZ (hw _ (wI 0 rfl))) (g := (mkF m 20 (oL96 p1 p2 p3 p4) [(.int p4)])) rfl (hb hby at_20) _ ?_
    refine XS.iand X0.here hx rfl (hb hby at_22) rfl ?_
    refine XS.i2c X0.here hx rfl (hb hby at_23) rfl ?_
    refine XS.istore X0.here hx rfl (hb hby at_24) rfl (l' := (oL92 p1 p2 p3 p4)) rfl ?_
    refine XS.iload X0.here hx rfl (hb hby at_26) rfl ?_
    show Steps p.tables e below (s₁.setTop (mkF m 28 (oL92 p1 p2 p3 p4) [(.int (p1 &&& (3 : Int32)))])) _
    refine XS.ifYes X0.here hx rfl (pc0 := 28) (pc' := 46) rfl (hb hby at_28) rfl ((if0 _ _).trans (feq hc28).2) (by decide) (by decide) ?_
    refine XS.iload X0.here hx rfl (hb hby at_46) rfl ?_
    refine XS.iconst X0.here hx rfl (hb hby at_48) ?_
    refine XS.icmpYes X0.here hx rfl (pc0 := 49) (pc' := 77) rfl (hb hby at_49) rfl (feq hc49).2 (by decide) (by decide) ?_
    refine XS.iload X0.here hx rfl (hb hby at_77) rfl ?_
    show Steps p.tables e below (s₁.setTop (mkF m 79 (oL92 p1 p2 p3 p4) [(.int (p1 &&& (3 : Int32)))])) _
    refine XS.iconst X0.here hx rfl (hb hby at_79) ?_
    refine XS.icmpYes X0.here hx rfl (pc0 := 80) (pc' := 114) rfl (hb hby at_80) rfl (feq hc80).2 (by decide) (by decide) ?_
    refine XS.iconst X0.here hx rfl (hb hby at_114) ?_
    refine st5 _ ?_
    refine XS.astore X5.here hx rfl (hb hby at_117) rfl rfl (l' := (oL98 p1 p2 p3 p4 b5)) rfl ?_
    show Steps p.tables e below (T5.setTop (mkF m 119 (oL98 p1 p2 p3 p4 b5) [])) _
    refine XS.aload X5.here hx rfl (hb hby at_119) rfl rfl ?_
    refine XS.iconst X5.here hx rfl (hb hby at_121) ?_
    refine XS.iload X5.here hx rfl (hb hby at_122) rfl ?_
    refine st6 _ ?_
    refine XS.aload X6.here hx rfl (hb hby at_125) rfl rfl ?_
    show Steps p.tables e below (T6.setTop (mkF m 127 (oL98 p1 p2 p3 p4 b5) [(.ref b5)])) _
    refine XS.iconst X6.here hx rfl (hb hby at_127) ?_
    refine XS.iload X6.here hx rfl (hb hby at_128) rfl ?_
    refine st7 _ ?_
    refine XS.aload X7.here hx rfl (hb hby at_131) rfl rfl ?_
    refine XS.iconst X7.here hx rfl (hb hby at_133) ?_
    show Steps p.tables e below (T7.setTop (mkF m 134 (oL98 p1 p2 p3 p4 b5) [(.int (2 : Int32)), (.ref b5)])) _
    refine XS.iload X7.here hx rfl (hb hby at_134) rfl ?_
    refine st8 _ ?_
    refine st9 _ ?_
    refine XS.dup X9.here hx rfl (hb hby at_140) rfl rfl ?_
    refine XS.aload X9.here hx rfl (hb hby at_141) rfl rfl ?_
    show Steps p.tables e below (T9.setTop (mkF m 143 (oL98 p1 p2 p3 p4 b5) [(.ref b5), (.ref b9), (.ref b9)])) _
    refine st10.trans ?_
    refine XS.astore X10.here hx rfl (hb hby at_146) rfl rfl (l' := (oL105 p1 p2 p3 p4 b5 b9)) rfl ?_
    refine XS.iload X10.here hx rfl (hb hby at_148) rfl ?_
    refine XS.iconst X10.here hx rfl (hb hby at_150) ?_
    refine XS.icmpNo X10.here hx rfl (hb hby at_151) rfl (flt hc151).1 ?_
    show Steps p.tables e below (T10.setTop (mkF m 154 (oL105 p1 p2 p3 p4 b5 b9) [])) _
    refine XS.iload X10.here hx rfl (hb hby at_154) rfl ?_
    refine st11 _ ?_
    refine XS.ifNo X11.here hx rfl (hb hby at_159) rfl ((if0 _ _).trans (feq hc159).1) ?_
    refine XS.iload X11.here hx rfl (hb hby at_162) rfl ?_
    refine XS.iconst X11.here hx rfl (hb hby at_164) ?_
    show Steps p.tables e below (T11.setTop (mkF m 165 (oL105 p1 p2 p3 p4 b5 b9) [(.int (2 : Int32)), (.int (p1 &&& (3 : Int32)))])) _
    refine XS.icmpNo X11.here hx rfl (hb hby at_165) rfl (flt hc165).1 ?_
    refine XS.iload X11.here hx rfl (hb hby at_168) rfl ?_
    refine st12 _ ?_
    refine XS.ifNo X12.here hx rfl (hb hby at_173) rfl ((if0 _ _).trans (feq hc173).1) ?_
    refine XS.iload X12.here hx rfl (hb hby at_176) rfl ?_
    show Steps p.tables e below (T12.setTop (mkF m 178 (oL105 p1 p2 p3 p4 b5 b9) [(.int (p1 &&& (3 : Int32)))])) _
    refine XS.iconst X12.here hx rfl (hb hby at_178) ?_
    refine XS.icmpNo X12.here hx rfl (hb hby at_179) rfl (flt hc179).1 ?_
    refine XS.iload X12.here hx rfl (hb hby at_182) rfl ?_
    refine st13 _ ?_
    refine XS.ifYes X13.here hx rfl (pc0 := 187) (pc' := 194) rfl (hb hby at_187) rfl ((if0 _ _).trans (teq hc187).1) (by decide) (by decide) ?_
    show Steps p.tables e below (T13.setTop (mkF m 194 (oL105 p1 p2 p3 p4 b5 b9) [])) _
    refine XS.iconst X13.here hx rfl (hb hby at_194) ?_
    refine XS.istore X13.here hx rfl (hb hby at_195) rfl (l' := (oL106 p1 p2 p3 p4 b9)) rfl ?_
    refine XS.aload X13.here hx rfl (hb hby at_197) rfl rfl ?_
    refine st14 _ ?_
    refine XS.iload X14.here hx rfl (hb hby at_202) rfl ?_
    show Steps p.tables e below (T14.setTop (mkF m 204 (oL106 p1 p2 p3 p4 b9) [(.int (0 : Int32)), (.int (own_q [(own_x p2), (own_x p3), (own_x p4)]))])) _
    refine XS.icmpNo X14.here hx rfl (hb hby at_204) rfl (teq hc204).2 ?_
    refine XS.iconst X14.here hx rfl (hb hby at_207) ?_
    refine XS.goto X14.here hx rfl (pc0 := 208) (pc' := 212) rfl (hb hby at_208) (by decide) (by decide) ?_
    exact retN X14 hx (t := .boolean) Bd.returns (by simp) (hb hby at_212) hr
  · show own_Q1K h0 n0 _ T14.heap _
    exact ⟨rfl, N14, K14⟩
abbrev oL107 (p1 p2 p3 p4 : Int32) (b9 : Addr) : Array Slot := #[.val (.int p1), .val (.int p2), .val (.int p3), .val (.int p4), .val (.int (p1 &&& (3 : Int32))), .val (.int (own_x p2)), .val (.int (own_x p3)), .val (.int (own_x p4)), .val (.ref b9), .val (.int (1 : Int32))]
set_option maxRecDepth 65536 in
set_option maxHeartbeats 40000000 in
theorem rm0_3_o (l : Launch) (Z : State) (a0 : Array Value) (hw : ∀ d ∈ tables_1, d.before a0 Z = true) (ws : List Jvm.Cond) (p1 : Int32) (p2 : Int32) (p3 : Int32) (p4 : Int32) (G1 : Int32) (fm : Value) (h0 : Heap) (n0 : Nat) (Z0 : n0 ≤ h0.size) (S_COMPACT_STRINGS : Sta Z Z.heap "java/lang/String" "COMPACT_STRINGS" "Z" (.int G1)) (X00 : Old Z n0 h0) (P3 : ¬ (G1 = (0 : Int32))) (S__assertionsDisabled : Sta Z Z.heap "java/lang/StringUTF16" "$assertionsDisabled" "Z" (.int (1 : Int32))) (S_HI_BYTE_SHIFT : Sta Z Z.heap "java/lang/StringUTF16" "HI_BYTE_SHIFT" "I" (.int (0 : Int32))) (S_LO_BYTE_SHIFT : Sta Z Z.heap "java/lang/StringUTF16" "LO_BYTE_SHIFT" "I" (.int (8 : Int32))) (S_SIOOBE_FORMATTER : Sta Z Z.heap "jdk/internal/util/Preconditions" "SIOOBE_FORMATTER" "Ljava/util/function/BiFunction;" fm) (rf : fm.isRef = true) (hc28 : ¬ ((p1 &&& (3 : Int32)) = (0 : Int32))) (hc49 : ¬ ((p1 &&& (3 : Int32)) = (1 : Int32))) (hc80 : ¬ ((p1 &&& (3 : Int32)) = (2 : Int32))) (hc151 : ¬ ((p1 &&& (3 : Int32)) < (1 : Int32))) (hc159 : ¬ ((own_ok (own_x p2)) = (0 : Int32))) (hc165 : ¬ ((p1 &&& (3 : Int32)) < (2 : Int32))) (hc173 : ¬ ((own_ok (own_x p3)) = (0 : Int32))) (hc179 : ¬ ((p1 &&& (3 : Int32)) < (3 : Int32))) (hc187 : ¬ ((own_ok (own_x p4)) = (0 : Int32))) (hc204 : (own_q [(own_x p2), (own_x p3), (own_x p4)]) = (1 : Int32)) :
    MetFree l x (head1 (Jvm.Cond.code x code maxLocals ret :: ws) room_1) (fun a U => a = #[(.int p1), (.int p2), (.int p3), (.int p4)] ∧ Z.Warmed39 U.vm ∧ U.heap = h0) (fun _ _ _ _ _ => True) (fun _ U o U' => ∃ v L, o = .returned v ∧ own_Q1K h0 n0 v U'.heap L ∧ FrameEnd U o U' L room_1.cells room_1.slots) := by
  refine MetFree.of_bodySF (plainFor_of_name pn_0) hisR ?_
  intro p e s m args below meth c s₁ Bd hml0 hP hK
  obtain ⟨rfl, hZ, hh⟩ := hP
  have hx := Bd.exec
  have hby := Bd.bytes
  have hml : c.maxLocals = 10 := hml0
  have hown : s.vm.findClass "com/example/crisp_bisim/crispbisim/formats/TextCursorIsQuotablePinLaw" = some m.cls := findClass_of_methodNamed Bd.named
  have hnm := (name_of_methodNamed Bd.named Bd.method).1
  have X0 : Stand p l e room_1 s m #[(.int p1), (.int p2), (.int p3), (.int p4)] below meth c s₁ [] 0 0 := Stand.of_body Bd
  have e0 : s₁.heap = h0 := by rw [← hh, Bd.state]; rfl
  have N0 := Fr.nil n0
  have pre0 : ∀ t, Steps p.tables e below (s₁.setTop (mkF m 0 (oL91 p1 p2 p3 p4) [])) t → Steps p.tables e below (s₁.setTop (entryFrame m #[(.int p1), (.int p2), (.int p3), (.int p4)] maxLocals)) t := fun t k => castTop (ef_0 m p1 p2 p3 p4) k
  obtain ⟨T5, h5, k5, X5, e5, E5, A5, st5⟩ := newP X0 hx hZ (hw _ (wI 4 rfl)) e0 (g := (mkF m 115 (oL92 p1 p2 p3 p4) [(.int (3 : Int32))])) rfl (hb hby at_115) rfl (by decide) (cap := 3) (by decide) (by decide) (by decide) (by decide)
  obtain ⟨b5, g5⟩ : ∃ z, z = h0.size := ⟨_, rfl⟩
  rw [← g5] at A5 st5
  have V_b5 : Arv Z h5 b5 k5 .char (3 : Int32) [(.int (0 : Int32)), (.int (0 : Int32)), (.int (0 : Int32))] (.int (0 : Int32)) := (Arv.new A5 (by decide)).pad (pad_rep [] (.int (0 : Int32)) 3)
  have g_b5 : n0 ≤ b5 := Nat.le_trans Z0 (Nat.le_of_eq g5.symm)
  have sz_b5 : h0.size ≤ b5 := (Nat.le_trans (Keep.refl h0 []).1 (Nat.le_of_eq g5.symm))
  have K5 : Keep h0 h5 [] := (Keep.refl h0 []).ext E5
  obtain ⟨cl_b5_34, Ar_b5_34, q_b5_34, S_b5_34, N_b5_34, H_b5_34, G_b5_34⟩ := id V_b5
  have hin_b5_34 : ¬ ((0 : Int32) < 0 ∨ cl_b5_34.slots.size ≤ ((0 : Int32)).toNatClampNeg) := inb_of S_b5_34 ⟨by decide, by decide⟩
  obtain ⟨T6, h6, X6, e6, W6, st6⟩ := stC X5 hx hZ e5 Ar_b5_34 (j := (0 : Int32)) hin_b5_34 (g := (mkF m 124 (oL98 p1 p2 p3 p4 b5) [(.int (own_x p2)), (.int (0 : Int32)), (.ref b5)])) rfl rfl (hb hby at_124)
  have V_b5_6 : Arv Z h6 b5 k5 .char (3 : Int32) [(.int (nar .char (own_x p2))), (.int (0 : Int32)), (.int (0 : Int32))] (.int (0 : Int32)) := Arv.set Ar_b5_34 q_b5_34 S_b5_34 N_b5_34 H_b5_34 G_b5_34 (fits_nar_char _) W6 0 (by decide) (Nat.le_of_ble_eq_true rfl)
  have K6 : Keep h0 h6 [] := K5.wr W6 (Or.inr sz_b5)
  have N6 := Fr.snoc X6 N0 g_b5
  obtain ⟨cl_b5_38, Ar_b5_38, q_b5_38, S_b5_38, N_b5_38, H_b5_38, G_b5_38⟩ := id V_b5_6
  have hin_b5_38 : ¬ ((1 : Int32) < 0 ∨ cl_b5_38.slots.size ≤ ((1 : Int32)).toNatClampNeg) := inb_of S_b5_38 ⟨by decide, by decide⟩
  obtain ⟨T7, h7, X7, e7, W7, st7⟩ := stC X6 hx hZ e6 Ar_b5_38 (j := (1 : Int32)) hin_b5_38 (g := (mkF m 130 (oL98 p1 p2 p3 p4 b5) [(.int (own_x p3)), (.int (1 : Int32)), (.ref b5)])) rfl rfl (hb hby at_130)
  have V_b5_7 : Arv Z h7 b5 k5 .char (3 : Int32) [(.int (nar .char (own_x p2))), (.int (nar .char (own_x p3))), (.int (0 : Int32))] (.int (0 : Int32)) := Arv.set Ar_b5_38 q_b5_38 S_b5_38 N_b5_38 H_b5_38 G_b5_38 (fits_nar_char _) W7 1 (by decide) (Nat.le_of_ble_eq_true rfl)
  have K7 : Keep h0 h7 [] := K6.wr W7 (Or.inr sz_b5)
  have N7 := Fr.snoc X7 N6 g_b5
  obtain ⟨cl_b5_42, Ar_b5_42, q_b5_42, S_b5_42, N_b5_42, H_b5_42, G_b5_42⟩ := id V_b5_7
  have hin_b5_42 : ¬ ((2 : Int32) < 0 ∨ cl_b5_42.slots.size ≤ ((2 : Int32)).toNatClampNeg) := inb_of S_b5_42 ⟨by decide, by decide⟩
  obtain ⟨T8, h8, X8, e8, W8, st8⟩ := stC X7 hx hZ e7 Ar_b5_42 (j := (2 : Int32)) hin_b5_42 (g := (mkF m 136 (oL98 p1 p2 p3 p4 b5) [(.int (own_x p4)), (.int (2 : Int32)), (.ref b5)])) rfl rfl (hb hby at_136)
  have V_b5_8 : Arv Z h8 b5 k5 .char (3 : Int32) [(.int (nar .char (own_x p2))), (.int (nar .char (own_x p3))), (.int (nar .char (own_x p4)))] (.int (0 : Int32)) := Arv.set Ar_b5_42 q_b5_42 S_b5_42 N_b5_42 H_b5_42 G_b5_42 (fits_nar_char _) W8 2 (by decide) (Nat.le_of_ble_eq_true rfl)
  have K8 : Keep h0 h8 [] := K7.wr W8 (Or.inr sz_b5)
  have N8 := Fr.snoc X8 N7 g_b5
  obtain ⟨T9, h9, X9, e9, E9, A9, D9, Un9, st9⟩ := newO X8 hx hZ hown (hw _ (wI 1 rfl)) (hw _ (wI 2 rfl)) (hw _ (wI 3 rfl)) e8 (g := (mkF m 137 (oL98 p1 p2 p3 p4 b5) [])) rfl (hb hby at_137) (by decide) (by decide)
  obtain ⟨b9, g9⟩ : ∃ z, z = h8.size := ⟨_, rfl⟩
  rw [← g9] at A9 D9 Un9 st9
  have U_b9 : Unt h9 b9 := Un9
  have F_value_b9 : Fld Z h9 b9 "java/lang/String" "value" "[B" .null := D9 (Or.inr (hw _ (wI 17 rfl))) (ty := (.array .byte)) (by decide)
  have F_coder_b9 : Fld Z h9 b9 "java/lang/String" "coder" "B" (.int (0 : Int32)) := D9 (Or.inr (hw _ (wI 18 rfl))) (ty := .byte) (by decide)
  have E_b9 := A9
  have g_b9 : n0 ≤ b9 := Nat.le_trans (Nat.le_trans (Nat.le_trans (Nat.le_trans (Nat.le_trans Z0 E5.1) (Keep.of_wr W6).1) (Keep.of_wr W7).1) (Keep.of_wr W8).1) (Nat.le_of_eq g9.symm)
  have sz_b9 : h0.size ≤ b9 := (Nat.le_trans K8.1 (Nat.le_of_eq g9.symm))
  have K9 : Keep h0 h9 [] := K8.ext E9
  have Vb10 : Arv Z h9 b5 k5 .char (Int32.ofNat ([(own_x p2), (own_x p3), (own_x p4)] : List Int32).length) ([(own_x p2), (own_x p3), (own_x p4)].map Value.int) (.int (0 : Int32)) := by
    have q : Arv Z h9 b5 k5 .char (3 : Int32) [(.int (nar .char (own_x p2))), (.int (nar .char (own_x p3))), (.int (nar .char (own_x p4)))] (.int (0 : Int32)) := (V_b5_8.ext E9)
    simp only [own_xnar] at q
    exact q
  obtain ⟨_, _, ⟨T10, L10, k10, n10⟩, -, X10, ⟨Lc10, hQ10, l10, y10, z10⟩, st10⟩ := X9.specialBack hx (y := (⟨"java/lang/String", "<init>", "([C)V"⟩ : MethodName)) rfl hown (mvT hZ (hw _ (wI 5 rfl))) (mvT hZ (hw _ (wI 6 rfl))) (mvT hZ (hw _ (wI 7 rfl))) (by decide) (backOf (W := 1) (rm1 l Z a0 hw [] b9 b5 G1 [(own_x p2), (own_x p3), (own_x p4)] k5 h9 n0 (Nat.le_trans (Nat.le_trans (Nat.le_trans (Nat.le_trans (Nat.le_trans Z0 E5.1) (Keep.of_wr W6).1) (Keep.of_wr W7).1) (Keep.of_wr W8).1) E9.1) S_COMPACT_STRINGS (X00.keep K9 all0) P3 S__assertionsDisabled S_HI_BYTE_SHIFT S_LO_BYTE_SHIFT E_b9 F_value_b9 F_coder_b9 Vb10 g_b9 (Or.inr (Or.inr rfl)) (own_hS p2 (own_hS p3 (own_hS p4 own_h0)))) hZ (hw _ (wI 7 rfl)) (hw _ (wI 3 rfl)) (by decide) (by decide)) (g := (mkF m 143 (oL98 p1 p2 p3 p4 b5) [(.ref b5), (.ref b9), (.ref b9)])) rfl (by rw [hml]; rfl) (Steps.refl _) (a := b9) (argsL := [(.ref b5)]) (rest := [(.ref b9)]) (lenOf pd_0_0 rfl) rfl (by show 2 * 0 + _ ≤ _; exact Nat.le_of_eq rfl) (hb hby at_143) (fun _ _ => ⟨rfl, e9, (by decide : 2 + 2 ≤ _), (by decide : 7 + 9 ≤ _)⟩)
  dsimp only [Pt.U, Pt.locs, Pt.cells, Pt.slots] at X10 l10 y10 z10 st10 hQ10
  subst l10 y10 z10
  obtain ⟨rfl, N10q, Kc10, t10, kt10, cd10, z10, vs10, g_t10, gz_t10, Fv10, Fc10, V10, cod10⟩ := hQ10
  have N10 := Fr.app N8 N10q
  have Kq10 : Keep h9 T10.heap [b9] := Kc10
  have K10 : Keep h0 T10.heap [] := K9.trans Kq10 (own_trS (Or.inr sz_b9) all0)
  obtain ⟨_, _, ⟨T11, L11, k11, n11⟩, -, X11, ⟨Lc11, hQ11, l11, y11, z11⟩, st11⟩ := Jvm.LawKit.callS X10 hx (y := (⟨"com/example/crisp_bisim/crispbisim/formats/TextCursorIsQuotablePinLaw", "ok", "(C)Z"⟩ : MethodName)) hown (mvT hZ (hw _ (wI 77 rfl))) (mvT hZ (hw _ (wI 78 rfl))) (mvT hZ (hw _ (wI 79 rfl))) (mvT hZ (hw _ (wI 80 rfl))) (by decide) (backOf (W := 0) (rm17 l Z a0 hw [] (own_x p2)  T10.heap n0 (Nat.le_trans (Nat.le_trans (Nat.le_trans (Nat.le_trans (Nat.le_trans (Nat.le_trans Z0 E5.1) (Keep.of_wr W6).1) (Keep.of_wr W7).1) (Keep.of_wr W8).1) E9.1) Kq10.1)) hZ (hw _ (wI 80 rfl)) (hw _ (wI 79 rfl)) (by decide) (by decide)) (g := (mkF m 156 (oL105 p1 p2 p3 p4 b5 b9) [(.int (own_x p2))])) rfl (by rw [hml]; rfl) (argsL := [(.int (own_x p2))]) (rest := []) (lenOf pd_0_14 rfl) rfl (by show 2 * 0 + _ ≤ _; exact Nat.le_of_eq rfl) (hb hby at_156) (fun _ _ => ⟨rfl, rfl, (by decide : 4 + 0 ≤ _), (by decide : 16 + 0 ≤ _)⟩)
  dsimp only [Pt.U, Pt.locs, Pt.cells, Pt.slots] at X11 l11 y11 z11 st11 hQ11
  subst l11 y11 z11
  obtain ⟨rfl, N11q, eq11⟩ := hQ11
  have N11 := Fr.app N10 N11q
  have Kq11 : Keep T10.heap T11.heap [] := (own_keq eq11)
  have K11 : Keep h0 T11.heap [] := K10.trans Kq11 all0
  obtain ⟨_, _, ⟨T12, L12, k12, n12⟩, -, X12, ⟨Lc12, hQ12, l12, y12, z12⟩, st12⟩ := Jvm.LawKit.callS X11 hx (y := (⟨"com/example/crisp_bisim/crispbisim/formats/TextCursorIsQuotablePinLaw", "ok", "(C)Z"⟩ : MethodName)) hown (mvT hZ (hw _ (wI 77 rfl))) (mvT hZ (hw _ (wI 78 rfl))) (mvT hZ (hw _ (wI 79 rfl))) (mvT hZ (hw _ (wI 80 rfl))) (by decide) (backOf (W := 0) (rm17 l Z a0 hw [] (own_x p3)  T11.heap n0 (Nat.le_trans (Nat.le_trans (Nat.le_trans (Nat.le_trans (Nat.le_trans (Nat.le_trans (Nat.le_trans Z0 E5.1) (Keep.of_wr W6).1) (Keep.of_wr W7).1) (Keep.of_wr W8).1) E9.1) Kq10.1) Kq11.1)) hZ (hw _ (wI 80 rfl)) (hw _ (wI 79 rfl)) (by decide) (by decide)) (g := (mkF m 170 (oL105 p1 p2 p3 p4 b5 b9) [(.int (own_x p3))])) rfl (by rw [hml]; rfl) (argsL := [(.int (own_x p3))]) (rest := []) (lenOf pd_0_14 rfl) rfl (by show 2 * 0 + _ ≤ _; exact Nat.le_of_eq rfl) (hb hby at_170) (fun _ _ => ⟨rfl, rfl, (by decide : 4 + 0 ≤ _), (by decide : 16 + 0 ≤ _)⟩)
  dsimp only [Pt.U, Pt.locs, Pt.cells, Pt.slots] at X12 l12 y12 z12 st12 hQ12
  subst l12 y12 z12
  obtain ⟨rfl, N12q, eq12⟩ := hQ12
  have N12 := Fr.app N11 N12q
  have Kq12 : Keep T11.heap T12.heap [] := (own_keq eq12)
  have K12 : Keep h0 T12.heap [] := K11.trans Kq12 all0
  obtain ⟨_, _, ⟨T13, L13, k13, n13⟩, -, X13, ⟨Lc13, hQ13, l13, y13, z13⟩, st13⟩ := Jvm.LawKit.callS X12 hx (y := (⟨"com/example/crisp_bisim/crispbisim/formats/TextCursorIsQuotablePinLaw", "ok", "(C)Z"⟩ : MethodName)) hown (mvT hZ (hw _ (wI 77 rfl))) (mvT hZ (hw _ (wI 78 rfl))) (mvT hZ (hw _ (wI 79 rfl))) (mvT hZ (hw _ (wI 80 rfl))) (by decide) (backOf (W := 0) (rm17 l Z a0 hw [] (own_x p4)  T12.heap n0 (Nat.le_trans (Nat.le_trans (Nat.le_trans (Nat.le_trans (Nat.le_trans (Nat.le_trans (Nat.le_trans (Nat.le_trans Z0 E5.1) (Keep.of_wr W6).1) (Keep.of_wr W7).1) (Keep.of_wr W8).1) E9.1) Kq10.1) Kq11.1) Kq12.1)) hZ (hw _ (wI 80 rfl)) (hw _ (wI 79 rfl)) (by decide) (by decide)) (g := (mkF m 184 (oL105 p1 p2 p3 p4 b5 b9) [(.int (own_x p4))])) rfl (by rw [hml]; rfl) (argsL := [(.int (own_x p4))]) (rest := []) (lenOf pd_0_14 rfl) rfl (by show 2 * 0 + _ ≤ _; exact Nat.le_of_eq rfl) (hb hby at_184) (fun _ _ => ⟨rfl, rfl, (by decide : 4 + 0 ≤ _), (by decide : 16 + 0 ≤ _)⟩)
  dsimp only [Pt.U, Pt.locs, Pt.cells, Pt.slots] at X13 l13 y13 z13 st13 hQ13
  subst l13 y13 z13
  obtain ⟨rfl, N13q, eq13⟩ := hQ13
  have N13 := Fr.app N12 N13q
  have Kq13 : Keep T12.heap T13.heap [] := (own_keq eq13)
  have K13 : Keep h0 T13.heap [] := K12.trans Kq13 all0
  obtain ⟨_, _, ⟨T14, L14, k14, n14⟩, -, X14, ⟨Lc14, hQ14, l14, y14, z14⟩, st14⟩ := Jvm.LawKit.callS X13 hx (y := (⟨"com/example/crisp_bisim/crispbisim/formats/TextCursor", "isQuotable", "(Ljava/lang/String;)Z"⟩ : MethodName)) hown (mvT hZ (hw _ (wI 23 rfl))) (mvT hZ (hw _ (wI 24 rfl))) (mvT hZ (hw _ (wI 25 rfl))) (mvT hZ (hw _ (wI 26 rfl))) (by decide) (backOf (W := 0) (rm4 l Z a0 hw [] b9 G1 fm t10 cd10 z10 vs10 [(own_x p2), (own_x p3), (own_x p4)] kt10 T13.heap n0 (Nat.le_trans (Nat.le_trans (Nat.le_trans (Nat.le_trans (Nat.le_trans (Nat.le_trans (Nat.le_trans (Nat.le_trans (Nat.le_trans Z0 E5.1) (Keep.of_wr W6).1) (Keep.of_wr W7).1) (Keep.of_wr W8).1) E9.1) Kq10.1) Kq11.1) Kq12.1) Kq13.1) S_COMPACT_STRINGS (X00.keep K13 all0) P3 S__assertionsDisabled S_HI_BYTE_SHIFT S_LO_BYTE_SHIFT ((((E_b9.keep Kq10).keep Kq11).keep Kq12).keep Kq13) (((Fv10.keep Kq11 (fun q => nomatch q)).keep Kq12 (fun q => nomatch q)).keep Kq13 (fun q => nomatch q)) (((Fc10.keep Kq11 (fun q => nomatch q)).keep Kq12 (fun q => nomatch q)).keep Kq13 (fun q => nomatch q)) (((V10.keep Kq11 (fun q => nomatch q)).keep Kq12 (fun q => nomatch q)).keep Kq13 (fun q => nomatch q)) S_SIOOBE_FORMATTER rf cod10 (Or.inr (Or.inr (Or.inr rfl))) (fun q => by cases q) (own_hS p2 (own_hS p3 (own_hS p4 own_h0)))) hZ (hw _ (wI 26 rfl)) (hw _ (wI 25 rfl)) (by decide) (by decide)) (g := (mkF m 199 (oL107 p1 p2 p3 p4 b9) [(.ref b9)])) rfl (by rw [hml]; rfl) (argsL := [(.ref b9)]) (rest := []) (lenOf pd_0_3 rfl) rfl (by show 2 * 0 + _ ≤ _; exact Nat.le_of_eq rfl) (hb hby at_199) (fun _ _ => ⟨rfl, rfl, (by decide : 4 + 0 ≤ _), (by decide : 16 + 0 ≤ _)⟩)
  dsimp only [Pt.U, Pt.locs, Pt.cells, Pt.slots] at X14 l14 y14 z14 st14 hQ14
  subst l14 y14 z14
  obtain ⟨rfl, N14q, eq14⟩ := hQ14
  have N14 := Fr.app N13 N14q
  have Kq14 : Keep T13.heap T14.heap [] := (own_keq eq14)
  have K14 : Keep h0 T14.heap [] := K13.trans Kq14 all0
  obtain ⟨fs, hr, hrun, hended, hW, hsame⟩ := X14.leave (v := some (.int (1 : Int32))) (fun h => by rw [Bd.returns] at h; cases h)
  refine ⟨_, _, pre0 _ ?_, hrun, hended, _, _, rfl, ?_, ⟨_, rfl⟩, hW, hsame.mono (by decide) (by decide)⟩
  · show Steps p.tables e below (s₁.setTop (mkF m 0 (oL91 p1 p2 p3 p4) [])) _
    refine XS.iloadN X0.here hx rfl (hb hby at_0) rfl ?_
    refine XS.iconst X0.here hx rfl (hb hby at_1) ?_
    refine XS.iand X0.here hx rfl (hb hby at_2) rfl ?_
    refine XS.istore X0.here hx rfl (hb hby at_3) rfl (l' := (oL94 p1 p2 p3 p4)) rfl ?_
    refine XS.iloadN X0.here hx rfl (hb hby at_5) rfl ?_
    show Steps p.tables e below (s₁.setTop (mkF m 6 (oL94 p1 p2 p3 p4) [(.int p2)])) _
    refine X0.ldcInt hx hown (mvT hZ (hw _ (wI 0 rfl))) (g := (mkF m 6 (oL94 p1 p2 p3 p4) [(.int p2)])) rfl (hb hby at_6) _ ?_
    refine XS.iand X0.here hx rfl (hb hby at_8) rfl ?_
    refine XS.i2c X0.here hx rfl (hb hby at_9) rfl ?_
    refine XS.istore X0.here hx rfl (hb hby at_10) rfl (l' := (oL95 p1 p2 p3 p4)) rfl ?_
    refine XS.iloadN X0.here hx rfl (hb hby at_12) rfl ?_
    show Steps p.tables e below (s₁.setTop (mkF m 13 (oL95 p1 p2 p3 p4) [(.int p3)])) _
    refine X0.ldcInt hx hown (mvT hZ (hw _ (wI 0 rfl))) (g := (mkF m 13 (oL95 p1 p2 p3 p4) [(.int p3)])) rfl (hb hby at_13) _ ?_
    refine XS.iand X0.here hx rfl (hb hby at_15) rfl ?_
    refine XS.i2c X0.here hx rfl (hb hby at_16) rfl ?_
    refine XS.istore X0.here hx rfl (hb hby at_17) rfl (l' := (oL96 p1 p2 p3 p4)) rfl ?_
    refine XS.iloadN X0.here hx rfl (hb hby at_19) rfl ?_
    show Steps p.tables e below (s₁.setTop (mkF m 20 (oL96 p1 p2 p3 p4) [(.int p4)])) _
    refine X0.ldcInt hx hown (mvT hZ (hw _ (wI 0 rfl))) (g := (mkF m 20 (oL96 p1 p2 p3 p4) [(.int p4)])) rfl (hb hby at_20) _ ?_
    refine XS.iand X0.here hx rfl (hb hby at_22) rfl ?_
    refine XS.i2c X0.here hx rfl (hb hby at_23) rfl ?_
    refine XS.istore X0.here hx rfl (hb hby at_24) rfl (l' := (oL92 p1 p2 p3 p4)) rfl ?_
    refine XS.iload X0.here hx rfl (hb hby at_26) rfl ?_
    show Steps p.tables e below (s₁.setTop (mkF m 28 (oL92 p1 p2 p3 p4) [(.int (p1 &&& (3 : Int32)))])) _
    refine XS.ifYes X0.here hx rfl (pc0 := 28) (pc' := 46) rfl (hb hby at_28) rfl ((if0 _ _).trans (feq hc28).2) (by decide) (by decide) ?_
    refine XS.iload X0.here hx rfl (hb hby at_46) rfl ?_
    refine XS.iconst X0.here hx rfl (hb hby at_48) ?_
    refine XS.icmpYes X0.here hx rfl (pc0 := 49) (pc' := 77) rfl (hb hby at_49) rfl (feq hc49).2 (by decide) (by decide) ?_
    refine XS.iload X0.here hx rfl (hb hby at_77) rfl ?_
    show Steps p.tables e below (s₁.setTop (mkF m 79 (oL92 p1 p2 p3 p4) [(.int (p1 &&& (3 : Int32)))])) _
    refine XS.iconst X0.here hx rfl (hb hby at_79) ?_
    refine XS.icmpYes X0.here hx rfl (pc0 := 80) (pc' := 114) rfl (hb hby at_80) rfl (feq hc80).2 (by decide) (by decide) ?_
    refine XS.iconst X0.here hx rfl (hb hby at_114) ?_
    refine st5 _ ?_
    refine XS.astore X5.here hx rfl (hb hby at_117) rfl rfl (l' := (oL98 p1 p2 p3 p4 b5)) rfl ?_
    show Steps p.tables e below (T5.setTop (mkF m 119 (oL98 p1 p2 p3 p4 b5) [])) _
    refine XS.aload X5.here hx rfl (hb hby at_119) rfl rfl ?_
    refine XS.iconst X5.here hx rfl (hb hby at_121) ?_
    refine XS.iload X5.here hx rfl (hb hby at_122) rfl ?_
    refine st6 _ ?_
    refine XS.aload X6.here hx rfl (hb hby at_125) rfl rfl ?_
    show Steps p.tables e below (T6.setTop (mkF m 127 (oL98 p1 p2 p3 p4 b5) [(.ref b5)])) _
    refine XS.iconst X6.here hx rfl (hb hby at_127) ?_
    refine XS.iload X6.here hx rfl (hb hby at_128) rfl ?_
    refine st7 _ ?_
    refine XS.aload X7.here hx rfl (hb hby at_131) rfl rfl ?_
    refine XS.iconst X7.here hx rfl (hb hby at_133) ?_
    show Steps p.tables e below (T7.setTop (mkF m 134 (oL98 p1 p2 p3 p4 b5) [(.int (2 : Int32)), (.ref b5)])) _
    refine XS.iload X7.here hx rfl (hb hby at_134) rfl ?_
    refine st8 _ ?_
    refine st9 _ ?_
    refine XS.dup X9.here hx rfl (hb hby at_140) rfl rfl ?_
    refine XS.aload X9.here hx rfl (hb hby at_141) rfl rfl ?_
    show Steps p.tables e below (T9.setTop (mkF m 143 (oL98 p1 p2 p3 p4 b5) [(.ref b5), (.ref b9), (.ref b9)])) _
    refine st10.trans ?_
    refine XS.astore X10.here hx rfl (hb hby at_146) rfl rfl (l' := (oL105 p1 p2 p3 p4 b5 b9)) rfl ?_
    refine XS.iload X10.here hx rfl (hb hby at_148) rfl ?_
    refine XS.iconst X10.here hx rfl (hb hby at_150) ?_
    refine XS.icmpNo X10.here hx rfl (hb hby at_151) rfl (flt hc151).1 ?_
    show Steps p.tables e below (T10.setTop (mkF m 154 (oL105 p1 p2 p3 p4 b5 b9) [])) _
    refine XS.iload X10.here hx rfl (hb hby at_154) rfl ?_
    refine st11 _ ?_
    refine XS.ifNo X11.here hx rfl (hb hby at_159) rfl ((if0 _ _).trans (feq hc159).1) ?_
    refine XS.iload X11.here hx rfl (hb hby at_162) rfl ?_
    refine XS.iconst X11.here hx rfl (hb hby at_164) ?_
    show Steps p.tables e below (T11.setTop (mkF m 165 (oL105 p1 p2 p3 p4 b5 b9) [(.int (2 : Int32)), (.int (p1 &&& (3 : Int32)))])) _
    refine XS.icmpNo X11.here hx rfl (hb hby at_165) rfl (flt hc165).1 ?_
    refine XS.iload X11.here hx rfl (hb hby at_168) rfl ?_
    refine st12 _ ?_
    refine XS.ifNo X12.here hx rfl (hb hby at_173) rfl ((if0 _ _).trans (feq hc173).1) ?_
    refine XS.iload X12.here hx rfl (hb hby at_176) rfl ?_
    show Steps p.tables e below (T12.setTop (mkF m 178 (oL105 p1 p2 p3 p4 b5 b9) [(.int (p1 &&& (3 : Int32)))])) _
    refine XS.iconst X12.here hx rfl (hb hby at_178) ?_
    refine XS.icmpNo X12.here hx rfl (hb hby at_179) rfl (flt hc179).1 ?_
    refine XS.iload X12.here hx rfl (hb hby at_182) rfl ?_
    refine st13 _ ?_
    refine XS.ifNo X13.here hx rfl (hb hby at_187) rfl ((if0 _ _).trans (feq hc187).1) ?_
    show Steps p.tables e below (T13.setTop (mkF m 190 (oL105 p1 p2 p3 p4 b5 b9) [])) _
    refine XS.iconst X13.here hx rfl (hb hby at_190) ?_
    refine XS.goto X13.here hx rfl (pc0 := 191) (pc' := 195) rfl (hb hby at_191) (by decide) (by decide) ?_
    refine XS.istore X13.here hx rfl (hb hby at_195) rfl (l' := (oL107 p1 p2 p3 p4 b9)) rfl ?_
    refine XS.aload X13.here hx rfl (hb hby at_197) rfl rfl ?_
    refine st14 _ ?_
    show Steps p.tables e below (T14.setTop (mkF m 202 (oL107 p1 p2 p3 p4 b9) [(.int (own_q [(own_x p2), (own_x p3), (own_x p4)]))])) _
    refine XS.iload X14.here hx rfl (hb hby at_202) rfl ?_
    refine XS.icmpNo X14.here hx rfl (hb hby at_204) rfl (teq hc204).2 ?_
    refine XS.iconst X14.here hx rfl (hb hby at_207) ?_
    refine XS.goto X14.here hx rfl (pc0 := 208) (pc' := 212) rfl (hb hby at_208) (by decide) (by decide) ?_
    exact retN X14 hx (t := .boolean) Bd.returns (by simp) (hb hby at_212) hr
  · show own_Q1K h0 n0 _ T14.heap _
    exact ⟨rfl, N14, K14⟩
theorem own_okz {c : Int32} : own_ok c = 0 ↔ (c = 34 ∨ c = 10) := by
  unfold own_ok
  by_cases a : c = 34
  · simp [a]
  · by_cases b : c = 10
    · simp [b]
    · simp [a, b]
theorem own_ixn {x : Int32} : ∀ (cs : List Int32) (i : Int32), (∀ c ∈ cs, ¬ c = x) → own_ix x cs i = -1
  | [], _, _ => rfl
  | c :: cs, i, h => by
    have r := own_ixn cs (i + 1) (fun d hd => h d (List.mem_cons_of_mem _ hd))
    rw [own_ix, if_neg (h c (List.mem_cons_self ..))]
    exact r
theorem own_ixp {x : Int32} : ∀ (cs : List Int32) (i : Int32), 0 ≤ i.toInt → i.toInt + (cs.length : Int) ≤ 100 → x ∈ cs → ¬ own_ix x cs i < 0
  | [], _, _, _, hm => nomatch hm
  | c :: cs, i, h0, h1, hm => by
    have z0 : (0 : Int32).toInt = 0 := rfl
    have z1 : (1 : Int32).toInt = 1 := rfl
    by_cases q : c = x
    · rw [own_ix, if_pos q, Int32.lt_iff_toInt_lt]
      omega
    · have hm' : x ∈ cs := by
        rcases List.mem_cons.mp hm with r | r
        · exact absurd r.symm q
        · exact r
      rw [List.length_cons] at h1
      have e : (i + 1).toInt = i.toInt + 1 := by
        rw [Jvm.Kit.i32_add (by rw [z1]; omega) (by rw [z1]; omega), z1]
      rw [own_ix, if_neg q]
      exact own_ixp cs (i + 1) (by omega) (by omega) hm'
theorem own_qb {cs : List Int32} {c : Int32} (hl : cs.length ≤ 3) (hm : c ∈ cs) (h : own_ok c = 0) : own_q cs = 0 := by
  have z0 : (0 : Int32).toInt = 0 := rfl
  have k : ∀ x, x ∈ cs → ¬ own_ix x cs 0 < 0 := fun x hx => own_ixp cs 0 (by rw [z0]; omega) (by rw [z0]; omega) hx
  rcases own_okz.mp h with rfl | rfl
  · rw [own_q, if_neg (k _ hm)]
  · rw [own_q]
    by_cases q : own_ix 34 cs 0 < 0
    · rw [if_pos q, if_neg (k _ hm)]
    · rw [if_neg q]
theorem own_qo {cs : List Int32} (h : ∀ c ∈ cs, ¬ own_ok c = 0) : own_q cs = 1 := by
  have a : own_ix 34 cs 0 = -1 := own_ixn cs 0 (fun c hc q => h c hc (own_okz.mpr (Or.inl q)))
  have b : own_ix 10 cs 0 = -1 := own_ixn cs 0 (fun c hc q => h c hc (own_okz.mpr (Or.inr q)))
  rw [own_q, a, b]
  decide
theorem own_and3 (x : Int32) : (x &&& 3) = 0 ∨ (x &&& 3) = 1 ∨ (x &&& 3) = 2 ∨ (x &&& 3) = 3 := by
  have e : (x &&& 3).toInt = x.toInt % 2 ^ 2 := Jvm.Kit.i32_mask x 3 (by decide) (by decide)
  have z0 : (0 : Int32).toInt = 0 := by decide
  have z1 : (1 : Int32).toInt = 1 := by decide
  have z2 : (2 : Int32).toInt = 2 := by decide
  have z3 : (3 : Int32).toInt = 3 := by decide
  rw [← Int32.toInt_inj, ← Int32.toInt_inj, ← Int32.toInt_inj, ← Int32.toInt_inj]
  omega
theorem own_eqv {args : Array Value} {first s : State} {o : Option Outcome} {idx : List Nat} {t : Jvm.Term} {k : Int32} (h : (Jvm.Cond.eq t (Jvm.Term.int k)).value args first o s idx = some true) : t.eval args first o idx s = some (.int k) := by
  obtain ⟨x, y, ex, ey, k1, k2⟩ := cmp_v (Or.inl h)
  have ey' : (Jvm.Term.int k).eval args first o idx s = some (.int k) := Term.int_eval k
  cases ey.symm.trans ey'
  obtain ⟨z, rfl⟩ := k2
  have q := gotT (Cond.eq_ints ex ey') h
  rw [ex, q]
theorem rm0 (l : Launch) (Z : State) (a0 : Array Value) (hw : ∀ d ∈ tables_1, d.before a0 Z = true) (ws : List Jvm.Cond) (p1 : Int32) (p2 : Int32) (p3 : Int32) (p4 : Int32) (G1 : Int32) (fm : Value) (h0 : Heap) (n0 : Nat) (Z0 : n0 ≤ h0.size) (S_COMPACT_STRINGS : Sta Z Z.heap "java/lang/String" "COMPACT_STRINGS" "Z" (.int G1)) (X00 : Old Z n0 h0) (P3 : ¬ (G1 = (0 : Int32))) (S__assertionsDisabled : Sta Z Z.heap "java/lang/StringUTF16" "$assertionsDisabled" "Z" (.int (1 : Int32))) (S_HI_BYTE_SHIFT : Sta Z Z.heap "java/lang/StringUTF16" "HI_BYTE_SHIFT" "I" (.int (0 : Int32))) (S_LO_BYTE_SHIFT : Sta Z Z.heap "java/lang/StringUTF16" "LO_BYTE_SHIFT" "I" (.int (8 : Int32))) (S_SIOOBE_FORMATTER : Sta Z Z.heap "jdk/internal/util/Preconditions" "SIOOBE_FORMATTER" "Ljava/util/function/BiFunction;" fm) (rf : fm.isRef = true) :
    MetFree l x (head1 (Jvm.Cond.code x code maxLocals ret :: ws) room_1) (fun a U => a = #[(.int p1), (.int p2), (.int p3), (.int p4)] ∧ Z.Warmed39 U.vm ∧ U.heap = h0 ∧ CHv Z consts_1 U.vm h0) (fun _ _ _ _ _ => True) (fun _ U o U' => ∃ v L, o = .returned v ∧ own_Q1K h0 n0 v U'.heap L ∧ CHr Z consts_1 U.vm U.heap U'.vm U'.heap ∧ ReturnedEndW U o U' L room_1.cells room_1.slots) := by
  rcases own_and3 p1 with h | h | h | h
  · exact rm0_0 l Z a0 hw ws p1 p2 p3 p4 G1 fm h0 n0 Z0 S_COMPACT_STRINGS X00 P3 S__assertionsDisabled S_HI_BYTE_SHIFT S_LO_BYTE_SHIFT S_SIOOBE_FORMATTER rf (by rw [h]; first | done | decide) (by rw [h]; first | done | decide) (by rw [h]; first | done | decide) (by rw [h]; first | done | decide) (by decide)
  · by_cases k0 : own_ok (own_x p2) = 0
    · exact own_toW (own_EW hw) (rm0_1_0 l Z a0 hw ws p1 p2 p3 p4 G1 fm h0 n0 Z0 S_COMPACT_STRINGS X00 P3 S__assertionsDisabled S_HI_BYTE_SHIFT S_LO_BYTE_SHIFT S_SIOOBE_FORMATTER rf (by rw [h]; first | done | decide) (by rw [h]; first | done | decide) (by rw [h]; first | done | decide) k0 (own_qb (c := own_x p2) (Nat.le_of_ble_eq_true rfl) (by simp) k0)) (fun v h L q => q.2.2)
    · exact own_toW (own_EW hw) (rm0_1_o l Z a0 hw ws p1 p2 p3 p4 G1 fm h0 n0 Z0 S_COMPACT_STRINGS X00 P3 S__assertionsDisabled S_HI_BYTE_SHIFT S_LO_BYTE_SHIFT S_SIOOBE_FORMATTER rf (by rw [h]; first | done | decide) (by rw [h]; first | done | decide) (by rw [h]; first | done | decide) k0 (by rw [h]; first | done | decide) (by rw [h]; first | done | decide) (own_qo (by intro c hc; simp only [List.mem_cons, List.not_mem_nil, or_false] at hc; rcases hc with rfl <;> assumption))) (fun v h L q => q.2.2)
  · by_cases k0 : own_ok (own_x p2) = 0
    · exact own_toW (own_EW hw) (rm0_2_0 l Z a0 hw ws p1 p2 p3 p4 G1 fm h0 n0 Z0 S_COMPACT_STRINGS X00 P3 S__assertionsDisabled S_HI_BYTE_SHIFT S_LO_BYTE_SHIFT S_SIOOBE_FORMATTER rf (by rw [h]; first | done | decide) (by rw [h]; first | done | decide) (by rw [h]; first | done | decide) (by rw [h]; first | done | decide) k0 (own_qb (c := own_x p2) (Nat.le_of_ble_eq_true rfl) (by simp) k0)) (fun v h L q => q.2.2)
    · by_cases k1 : own_ok (own_x p3) = 0
      · exact own_toW (own_EW hw) (rm0_2_1 l Z a0 hw ws p1 p2 p3 p4 G1 fm h0 n0 Z0 S_COMPACT_STRINGS X00 P3 S__assertionsDisabled S_HI_BYTE_SHIFT S_LO_BYTE_SHIFT S_SIOOBE_FORMATTER rf (by rw [h]; first | done | decide) (by rw [h]; first | done | decide) (by rw [h]; first | done | decide) (by rw [h]; first | done | decide) k0 (by rw [h]; first | done | decide) k1 (own_qb (c := own_x p3) (Nat.le_of_ble_eq_true rfl) (by simp) k1)) (fun v h L q => q.2.2)
      · exact own_toW (own_EW hw) (rm0_2_o l Z a0 hw ws p1 p2 p3 p4 G1 fm h0 n0 Z0 S_COMPACT_STRINGS X00 P3 S__assertionsDisabled S_HI_BYTE_SHIFT S_LO_BYTE_SHIFT S_SIOOBE_FORMATTER rf (by rw [h]; first | done | decide) (by rw [h]; first | done | decide) (by rw [h]; first | done | decide) (by rw [h]; first | done | decide) k0 (by rw [h]; first | done | decide) k1 (by rw [h]; first | done | decide) (own_qo (by intro c hc; simp only [List.mem_cons, List.not_mem_nil, or_false] at hc; rcases hc with rfl | rfl <;> assumption))) (fun v h L q => q.2.2)
  · by_cases k0 : own_ok (own_x p2) = 0
    · exact own_toW (own_EW hw) (rm0_3_0 l Z a0 hw ws p1 p2 p3 p4 G1 fm h0 n0 Z0 S_COMPACT_STRINGS X00 P3 S__assertionsDisabled S_HI_BYTE_SHIFT S_LO_BYTE_SHIFT S_SIOOBE_FORMATTER rf (by rw [h]; first | done | decide) (by rw [h]; first | done | decide) (by rw [h]; first | done | decide) (by rw [h]; first | done | decide) k0 (own_qb (c := own_x p2) (Nat.le_of_ble_eq_true rfl) (by simp) k0)) (fun v h L q => q.2.2)
    · by_cases k1 : own_ok (own_x p3) = 0
      · exact own_toW (own_EW hw) (rm0_3_1 l Z a0 hw ws p1 p2 p3 p4 G1 fm h0 n0 Z0 S_COMPACT_STRINGS X00 P3 S__assertionsDisabled S_HI_BYTE_SHIFT S_LO_BYTE_SHIFT S_SIOOBE_FORMATTER rf (by rw [h]; first | done | decide) (by rw [h]; first | done | decide) (by rw [h]; first | done | decide) (by rw [h]; first | done | decide) k0 (by rw [h]; first | done | decide) k1 (own_qb (c := own_x p3) (Nat.le_of_ble_eq_true rfl) (by simp) k1)) (fun v h L q => q.2.2)
      · by_cases k2 : own_ok (own_x p4) = 0
        · exact own_toW (own_EW hw) (rm0_3_2 l Z a0 hw ws p1 p2 p3 p4 G1 fm h0 n0 Z0 S_COMPACT_STRINGS X00 P3 S__assertionsDisabled S_HI_BYTE_SHIFT S_LO_BYTE_SHIFT S_SIOOBE_FORMATTER rf (by rw [h]; first | done | decide) (by rw [h]; first | done | decide) (by rw [h]; first | done | decide) (by rw [h]; first | done | decide) k0 (by rw [h]; first | done | decide) k1 (by rw [h]; first | done | decide) k2 (own_qb (c := own_x p4) (Nat.le_of_ble_eq_true rfl) (by simp) k2)) (fun v h L q => q.2.2)
        · exact own_toW (own_EW hw) (rm0_3_o l Z a0 hw ws p1 p2 p3 p4 G1 fm h0 n0 Z0 S_COMPACT_STRINGS X00 P3 S__assertionsDisabled S_HI_BYTE_SHIFT S_LO_BYTE_SHIFT S_SIOOBE_FORMATTER rf (by rw [h]; first | done | decide) (by rw [h]; first | done | decide) (by rw [h]; first | done | decide) (by rw [h]; first | done | decide) k0 (by rw [h]; first | done | decide) k1 (by rw [h]; first | done | decide) k2 (own_qo (by intro c hc; simp only [List.mem_cons, List.not_mem_nil, or_false] at hc; rcases hc with rfl | rfl | rfl <;> assumption))) (fun v h L q => q.2.2)
set_option maxRecDepth 65536 in
set_option maxHeartbeats 40000000 in
theorem comes_1 {Post : Tables → Env → Array Value → State → Outcome → State → Prop} (hpost : ∀ tb e args s v u, (limb_1_1.after args s (.returned v) u = true ∧ limb_1_2.after args s (.returned v) u = true ∧ True) → ReturnedEndW s (.returned v) u (Jvm.fieldLocs frame_1_writes args s ++ Jvm.arrayLocs frame_1_arrays args s ++ Jvm.staticLocs frame_1_statics s) 24 1152 → Post tb e args s (.returned v) u) :
    ArmFor flags0 classFile x code maxLocals ret World_1 tables_1 room_1 Calls_1 rest_1 Pre_1 Post := by
  intro l hfl _ _ p e ha hc hk s m args below hf hA hF happ hP
  obtain ⟨hcalls, hrest, hpre⟩ := hP
  obtain ⟨-, -, -, hnamed, -, -, -, hat⟩ := (Spec.applies_iff hf).mp happ
  obtain ⟨hg, hn⟩ := and_e (Cond.before_iff.mp (show (Jvm.Cond.and given_1 narrow_1).before args s = true from hpre))
  obtain ⟨g9, g10⟩ := and_e hg
  obtain ⟨g11, g12⟩ := and_e g10
  obtain ⟨g13, g14⟩ := and_e g12
  obtain ⟨g15, g16⟩ := and_e g14
  obtain ⟨w0, w1, w2, w3, rfl⟩ : ∃ w0 w1 w2 w3 : Value, args = #[w0, w1, w2, w3] := by
    have hs : args.size = 4 := by simpa [Cond.value, given_1] using g9
    obtain ⟨L⟩ := args
    match L, hs with
    | [w0, w1, w2, w3], _ => exact ⟨w0, w1, w2, w3, rfl⟩
  have hw := fun d (hd : d ∈ tables_1) => atoms_spec (ws := Jvm.Cond.code x code maxLocals ret :: tables_1) hat d (List.mem_cons_of_mem _ hd)
  have hfit : Fit s := fun {y c} hc i hi => by
    obtain ⟨ha, rfl⟩ := Array.getElem?_eq_some_iff.mp hc
    have q := List.all_eq_true.mp ((Array.all_eq_true_iff_forall_mem.mp hF) _ (Array.getElem_mem ha)) i (List.mem_range.mpr hi)
    simpa [Array.getElem?_eq_getElem hi] using q
  obtain ⟨hsets, hown0⟩ := atoms_of _ (rest_1_c_eq ▸ (show rest_1_c.before _ s = true from hrest))
  have hr0 := Cond.before_iff.mp hown0
  obtain ⟨i0, ei0⟩ := is_v g11
  obtain rfl : w0 = (.int i0) := Option.some.inj ei0
  obtain ⟨i1, ei1⟩ := is_v g13
  obtain rfl : w1 = (.int i1) := Option.some.inj ei1
  obtain ⟨i2, ei2⟩ := is_v g15
  obtain rfl : w2 = (.int i2) := Option.some.inj ei2
  obtain ⟨i3, ei3⟩ := is_v g16
  obtain rfl : w3 = (.int i3) := Option.some.inj ei3
  have n3s := not_v (Cond.before_iff.mp (hsets _ (List.mem_of_getElem? (i := 2) rfl)))
  obtain ⟨i7, e6s⟩ := is_v (Cond.before_iff.mp (hsets _ (List.mem_of_getElem? (i := 1) rfl)))
  have S8 : Sta s s.heap "java/lang/String" "COMPACT_STRINGS" "Z" (.int i7) := Sta.start e6s (Or.inl (hsets _ (List.mem_of_getElem? (i := 0) rfl)))
  have c9 : ¬ (i7 = (0 : Int32)) := gotF (Cond.eq_ints e6s (Term.int_eval (0))) n3s
  obtain ⟨fm, efm, rfm⟩ := isR_v (Cond.before_iff.mp (hsets _ (List.mem_of_getElem? (i := 8) rfl)))
  have SFm := Sta.start efm (Or.inl (hsets _ (List.mem_of_getElem? (i := 7) rfl)))
  have SA := Sta.start (own_eqv (Cond.before_iff.mp (hsets _ (List.mem_of_getElem? (i := 12) rfl)))) (Or.inl (hsets _ (List.mem_of_getElem? (i := 11) rfl)))
  have SH := Sta.start (own_eqv (Cond.before_iff.mp (hsets _ (List.mem_of_getElem? (i := 15) rfl)))) (Or.inl (hsets _ (List.mem_of_getElem? (i := 14) rfl)))
  have SL := Sta.start (own_eqv (Cond.before_iff.mp (hsets _ (List.mem_of_getElem? (i := 18) rfl)))) (Or.inl (hsets _ (List.mem_of_getElem? (i := 17) rfl)))
  have hCH : CHv s consts_1 s.vm s.heap := CHv.start (own_EW hw) (fun p hp => hcalls.1 p hp) (hsets _ (List.mem_of_getElem? (i := 2) rfl)) (hw _ (wI 16 rfl)) (hw _ (wI 2 rfl))
  obtain ⟨n, o, h1, h2, h3, _, L, rfl, ⟨rfl, N, -⟩, hCr, hq⟩ := rm0 l s _ hw tables_1 i0 i1 i2 i3 i7 fm s.heap s.heap.size (Nat.le_refl _) S8 (Old.start s) c9 SA SH SL SFm rfm p e ha hc hk s m _ below hf ((Spec.applies_iff_loose hf).mp happ).1 ⟨rfl, State.Warmed39.refl s, rfl, hCH⟩ trivial
  refine ⟨n, _, h1, h2, h3, hpost _ _ _ _ _ _ ⟨Cond.after_iff.mpr rfl, Cond.after_iff.mpr (eq_i res_at (Term.int_eval (1)) rfl), trivial⟩ ⟨hq.1, hq.2.1, hq.2.2.1, (hq.2.2.2.sift fun y hy => Or.inr (N y hy)).mono (by decide) (by decide)⟩⟩
theorem main_1_1 : Claimed_1_1 := comes_1 fun _ _ _ _ _ _ h hF => ⟨h.1, hF⟩
theorem main_1_2 : Claimed_1_2 := comes_1 fun _ _ _ _ _ _ h hF => ⟨h.2.1, hF⟩
end Jvm.Pilot.@@N@@
namespace Jvm.Pilot.@@N@@
open Jvm Jvm.ClassFile Sem Op Lib Jvm.Free Jvm.Stand Jvm.Pilot.@@N@@.Jvm.D
/-! MADE BY PROGRAM (witnessworld.py) out of the Statement's table words and the real class files: 21 classes; the members and pool entries that the words name. The judged class is class 1, her method 2. -/
namespace start1
open Jvm.ClassFile
def u (s : String) : CpInfo := .utf8 (stringToUtf16 s)
/-- a pool by its gaps: so many unusable entries, then the entry; so many at the end -/
def gap : Nat → List CpInfo → List CpInfo
  | 0, r => r
  | n + 1, r => .unusable :: gap n r
def poolList (es : List (Nat × CpInfo)) (last : Nat) : List CpInfo := es.foldr (fun e r => gap e.1 (e.2 :: r)) (gap last [])
def pool (es : List (Nat × CpInfo)) (last : Nat) : Array CpInfo := ⟨poolList es last⟩
def fileOf (pool : Array CpInfo) (this : Nat) (attrs : Array Attribute := #[]) (ms : Array MethodInfo := #[]) (fl : Nat := 33) (sup : Nat := 0) (ifs : Array Nat := #[]) (fds : Array FieldInfo := #[]) : ClassFile where
  minorVersion := 0
  majorVersion := 65
  constantPool := pool
  accessFlags := fl
  thisClass := this
  superClass := sup
  interfaces := ifs
  fields := fds
  methods := ms
  attributes := attrs
def plain (name : String) (sup : Option ClassId) : Class where
  name := name
  kind := .ordinary
  loader := none
  accessFlags := 33
  super := sup
  interfaces := #[]
  cf := none
  fields := #[]
  methods := #[]
  instanceTypes := #[]
  staticTypes := #[]
  resolved := #[]
  callSites := []
  init := .initialized
  statics := none
  mirror := none

def pool0 : Array CpInfo := pool [(5, u "<init>"), (0, u "()V"), (1, .class_ 10), (1, u "java/lang/Object")] 113

def k0c0 : Code := { maxStack := 0, maxLocals := 1, code := object_method_1_code, exceptionTable := #[], attributes := #[] }
def k0m0 : Method := { name := "<init>", desc := "()V", sig := { parameters := [], returnType := none }, accessFlags := 1, code := some k0c0 }
/-- java/lang/Object -/
def k0 : Class := { plain "java/lang/Object" none with
  accessFlags := 33
  interfaces := #[]
  cf := some (fileOf pool0 8 #[] #[{ accessFlags := 1, nameIndex := 5, descriptorIndex := 6, attributes := #[] }] 33 0 #[] #[])
  fields := #[]
  methods := #[k0m0]
  instanceTypes := #[]
  staticTypes := #[]
  resolved := Array.replicate 124 none
  statics := none }

def pool1 : Array CpInfo := pool [(2, .class_ 4), (1, u "java/lang/Object"), (0, u "<init>"), (0, u "()V"), (0, .integer 65535), (0, .class_ 9), (0, u "java/lang/String"), (0, .methodref 8 11), (0, .nameAndType 5 12), (0, u "([C)V"), (0, .methodref 14 15), (0, .class_ 16), (0, .nameAndType 17 18), (0, u "com/example/crisp_bisim/crispbisim/formats/TextCursorIsQuotablePinLaw"), (0, u "ok"), (0, u "(C)Z"), (0, .methodref 20 21), (0, .class_ 22), (0, .nameAndType 23 24), (0, u "com/example/crisp_bisim/crispbisim/formats/TextCursor"), (0, u "isQuotable"), (0, u "(Ljava/lang/String;)Z"), (3, u "law"), (0, u "(IIII)Z")] 2

def k1m0 : Method := { name := "<init>", desc := "()V", sig := { parameters := [], returnType := none }, accessFlags := 1, code := none }
def k1c1 : Code := { maxStack := 2, maxLocals := 1, code := method_2_code, exceptionTable := #[], attributes := #[] }
def k1m1 : Method := { name := "ok", desc := "(C)Z", sig := { parameters := [.char], returnType := some .boolean }, accessFlags := 10, code := some k1c1 }
def k1c2 : Code := { maxStack := 3, maxLocals := 10, code := code, exceptionTable := #[], attributes := #[] }
def k1m2 : Method := { name := "law", desc := "(IIII)Z", sig := { parameters := [.int, .int, .int, .int], returnType := some .boolean }, accessFlags := 9, code := some k1c2 }
/-- com/example/crisp_bisim/crispbisim/formats/TextCursorIsQuotablePinLaw -/
def k1 : Class := { plain "com/example/crisp_bisim/crispbisim/formats/TextCursorIsQuotablePinLaw" (some 0) with
  accessFlags := 49
  interfaces := #[]
  cf := some (fileOf pool1 14 #[] #[{ accessFlags := 1, nameIndex := 5, descriptorIndex := 6, attributes := #[] }, { accessFlags := 10, nameIndex := 17, descriptorIndex := 18, attributes := #[] }, { accessFlags := 9, nameIndex := 28, descriptorIndex := 29, attributes := #[] }] 49 2 #[] #[])
  fields := #[]
  methods := #[k1m0, k1m1, k1m2]
  instanceTypes := #[]
  staticTypes := #[]
  resolved := Array.replicate 32 none
  statics := none }

def pool2 : Array CpInfo := pool [(1, .class_ 2), (0, u "java/io/Serializable"), (0, .class_ 4), (0, u "java/lang/Object")] 2

/-- java/io/Serializable -/
def k2 : Class := { plain "java/io/Serializable" (some 0) with
  accessFlags := 1537
  interfaces := #[]
  cf := some (fileOf pool2 1 #[] #[] 1537 3 #[] #[])
  fields := #[]
  methods := #[]
  instanceTypes := #[]
  staticTypes := #[]
  resolved := Array.replicate 7 none
  statics := none }

def pool3 : Array CpInfo := pool [(1, .class_ 2), (0, u "java/lang/Comparable"), (0, .class_ 4), (0, u "java/lang/Object")] 7

/-- java/lang/Comparable -/
def k3 : Class := { plain "java/lang/Comparable" (some 0) with
  accessFlags := 1537
  interfaces := #[]
  cf := some (fileOf pool3 1 #[] #[] 1537 3 #[] #[])
  fields := #[]
  methods := #[]
  instanceTypes := #[]
  staticTypes := #[]
  resolved := Array.replicate 12 none
  statics := none }

def pool4 : Array CpInfo := pool [(2, .class_ 4), (1, u "java/lang/CharSequence"), (42, .class_ 48), (0, u "java/lang/CharSequence$1CodePointIterator"), (10, .class_ 60), (0, u "java/lang/CharSequence$1CharIterator"), (5, .class_ 67), (0, u "java/lang/Object")] 63

/-- java/lang/CharSequence -/
def k4 : Class := { plain "java/lang/CharSequence" (some 0) with
  accessFlags := 1537
  interfaces := #[]
  cf := some (fileOf pool4 2 #[.nestMembers #[47, 59]] #[] 1537 66 #[] #[])
  fields := #[]
  methods := #[]
  instanceTypes := #[]
  staticTypes := #[]
  resolved := Array.replicate 131 none
  statics := none }

def pool5 : Array CpInfo := pool [(1, .class_ 2), (0, u "java/lang/constant/Constable"), (0, .class_ 4), (0, u "java/lang/Object")] 6

/-- java/lang/constant/Constable -/
def k5 : Class := { plain "java/lang/constant/Constable" (some 0) with
  accessFlags := 1537
  interfaces := #[]
  cf := some (fileOf pool5 1 #[] #[] 1537 3 #[] #[])
  fields := #[]
  methods := #[]
  instanceTypes := #[]
  staticTypes := #[]
  resolved := Array.replicate 11 none
  statics := none }

def pool6 : Array CpInfo := pool [(1, .class_ 2), (0, u "java/lang/constant/ConstantDesc"), (0, .class_ 4), (0, u "java/lang/Object")] 32

/-- java/lang/constant/ConstantDesc -/
def k6 : Class := { plain "java/lang/constant/ConstantDesc" (some 0) with
  accessFlags := 1537
  interfaces := #[]
  cf := some (fileOf pool6 1 #[] #[] 1537 3 #[] #[])
  fields := #[]
  methods := #[]
  instanceTypes := #[]
  staticTypes := #[]
  resolved := Array.replicate 37 none
  statics := none }

def pool7 : Array CpInfo := pool [(1, .methodref 2 3), (0, .class_ 4), (0, .nameAndType 5 6), (0, u "java/lang/Object"), (0, u "<init>"), (0, u "()V"), (0, .string 8), (0, u ""), (0, .fieldref 10 11), (0, .class_ 12), (0, .nameAndType 13 14), (0, u "java/lang/String"), (0, u "value"), (0, u "[B"), (0, .fieldref 10 16), (0, .nameAndType 17 18), (0, u "coder"), (0, u "B"), (2, u "hash"), (0, u "I"), (2, u "hashIsZero"), (0, u "Z"), (0, .methodref 10 28), (0, .nameAndType 5 29), (0, u "([CIILjava/lang/Void;)V"), (8, .fieldref 10 39), (0, .nameAndType 40 26), (0, u "COMPACT_STRINGS"), (1, .class_ 44), (1, u "java/lang/StringUTF16"), (0, u "compress"), (1, .methodref 42 48), (0, .nameAndType 49 50), (0, u "coderFromArrayLen"), (0, u "([BI)B"), (56, .class_ 109), (1, u "java/lang/StringLatin1"), (32, u "()Z"), (34, .methodref 42 178), (0, .nameAndType 45 179), (0, u "([CII)[B"), (154, u "()I"), (0, .methodref 10 336), (0, .nameAndType 17 337), (0, u "()B"), (154, .methodref 10 493), (0, .nameAndType 494 142), (0, u "isLatin1"), (10, .methodref 10 506), (0, .nameAndType 507 334), (0, u "length"), (5, u "checkFromToIndex"), (9, u "checkBoundsBeginEnd"), (0, u "(III)V"), (50, .class_ 576), (0, u "java/lang/CharSequence"), (22, u "CASE_INSENSITIVE_ORDER"), (0, u "Ljava/util/Comparator;"), (32, .methodref 10 634), (0, .nameAndType 635 636), (0, u "indexOf"), (0, u "(II)I"), (0, .methodref 107 638), (0, .nameAndType 635 639), (0, u "([BIII)I"), (0, .methodref 42 638), (124, u "(I)I"), (244, u "([C)V"), (42, .fieldref 1054 1055), (0, .class_ 1056), (0, .nameAndType 1057 1058), (0, u "jdk/internal/util/Preconditions"), (0, u "SIOOBE_FORMATTER"), (0, u "Ljava/util/function/BiFunction;"), (3, .methodref 1054 1063), (0, .nameAndType 513 1064), (0, u "(IIILjava/util/function/BiFunction;)I"), (36, u "serialPersistentFields"), (0, u "[Ljava/io/ObjectStreamField;"), (0, .class_ 1104), (0, u "java/lang/String$CaseInsensitiveComparator"), (1, .class_ 1107), (0, u "java/io/Serializable"), (0, .class_ 1109), (0, u "java/lang/Comparable"), (0, .class_ 1111), (0, u "java/lang/constant/Constable"), (0, .class_ 1113), (0, u "java/lang/constant/ConstantDesc"), (2, u "serialVersionUID"), (0, u "J"), (3, u "REPL"), (0, u "C"), (2, u "LATIN1"), (1, u "UTF16")] 323

def k7m0 : Method := { name := "<init>", desc := "()V", sig := { parameters := [], returnType := none }, accessFlags := 1, code := none }
def k7c1 : Code := { maxStack := 5, maxLocals := 2, code := jdk_42_method_3_code, exceptionTable := #[], attributes := #[] }
def k7m1 : Method := { name := "<init>", desc := "([C)V", sig := { parameters := [(.array .char)], returnType := none }, accessFlags := 1, code := some k7c1 }
def k7c2 : Code := { maxStack := 2, maxLocals := 1, code := jdk_42_method_54_code, exceptionTable := #[], attributes := #[] }
def k7m2 : Method := { name := "length", desc := "()I", sig := { parameters := [], returnType := some .int }, accessFlags := 1, code := some k7c2 }
def k7c3 : Code := { maxStack := 3, maxLocals := 2, code := jdk_42_method_79_code, exceptionTable := #[], attributes := #[] }
def k7m3 : Method := { name := "indexOf", desc := "(I)I", sig := { parameters := [.int], returnType := some .int }, accessFlags := 1, code := some k7c3 }
def k7c4 : Code := { maxStack := 4, maxLocals := 3, code := jdk_42_method_80_code, exceptionTable := #[], attributes := #[] }
def k7m4 : Method := { name := "indexOf", desc := "(II)I", sig := { parameters := [.int, .int], returnType := some .int }, accessFlags := 1, code := some k7c4 }
def k7c5 : Code := { maxStack := 4, maxLocals := 6, code := jdk_42_method_149_code, exceptionTable := #[], attributes := #[] }
def k7m5 : Method := { name := "<init>", desc := "([CIILjava/lang/Void;)V", sig := { parameters := [(.array .char), .int, .int, (.object "java/lang/Void")], returnType := none }, accessFlags := 2, code := some k7c5 }
def k7c6 : Code := { maxStack := 1, maxLocals := 1, code := jdk_42_method_152_code, exceptionTable := #[], attributes := #[] }
def k7m6 : Method := { name := "coder", desc := "()B", sig := { parameters := [], returnType := some .byte }, accessFlags := 0, code := some k7c6 }
def k7c7 : Code := { maxStack := 1, maxLocals := 1, code := jdk_42_method_154_code, exceptionTable := #[], attributes := #[] }
def k7m7 : Method := { name := "isLatin1", desc := "()Z", sig := { parameters := [], returnType := some .boolean }, accessFlags := 0, code := some k7c7 }
def k7c8 : Code := { maxStack := 4, maxLocals := 3, code := jdk_42_method_158_code, exceptionTable := #[], attributes := #[] }
def k7m8 : Method := { name := "checkBoundsBeginEnd", desc := "(III)V", sig := { parameters := [.int, .int, .int], returnType := none }, accessFlags := 8, code := some k7c8 }
/-- java/lang/String -/
def k7 : Class := { plain "java/lang/String" (some 0) with
  accessFlags := 49
  interfaces := #[2, 3, 4, 5, 6]
  cf := some (fileOf pool7 10 #[.nestMembers #[1103]] #[{ accessFlags := 1, nameIndex := 5, descriptorIndex := 6, attributes := #[] }, { accessFlags := 1, nameIndex := 5, descriptorIndex := 1010, attributes := #[] }, { accessFlags := 1, nameIndex := 507, descriptorIndex := 334, attributes := #[] }, { accessFlags := 1, nameIndex := 635, descriptorIndex := 765, attributes := #[] }, { accessFlags := 1, nameIndex := 635, descriptorIndex := 636, attributes := #[] }, { accessFlags := 2, nameIndex := 5, descriptorIndex := 29, attributes := #[] }, { accessFlags := 0, nameIndex := 17, descriptorIndex := 337, attributes := #[] }, { accessFlags := 0, nameIndex := 494, descriptorIndex := 142, attributes := #[] }, { accessFlags := 8, nameIndex := 523, descriptorIndex := 524, attributes := #[] }] 49 2 #[1106, 1108, 575, 1110, 1112] #[{ accessFlags := 18, nameIndex := 13, descriptorIndex := 14, attributes := #[] }, { accessFlags := 18, nameIndex := 17, descriptorIndex := 18, attributes := #[] }, { accessFlags := 2, nameIndex := 21, descriptorIndex := 22, attributes := #[] }, { accessFlags := 2, nameIndex := 25, descriptorIndex := 26, attributes := #[] }, { accessFlags := 26, nameIndex := 1116, descriptorIndex := 1117, attributes := #[] }, { accessFlags := 24, nameIndex := 40, descriptorIndex := 26, attributes := #[] }, { accessFlags := 26, nameIndex := 1101, descriptorIndex := 1102, attributes := #[] }, { accessFlags := 26, nameIndex := 1121, descriptorIndex := 1122, attributes := #[] }, { accessFlags := 25, nameIndex := 599, descriptorIndex := 600, attributes := #[] }, { accessFlags := 24, nameIndex := 1125, descriptorIndex := 18, attributes := #[] }, { accessFlags := 24, nameIndex := 1127, descriptorIndex := 18, attributes := #[] }])
  fields := #[{ name := "value", type := (.array .byte), accessFlags := 18, slot := 0, constantValue := 0 }, { name := "coder", type := .byte, accessFlags := 18, slot := 1, constantValue := 0 }, { name := "hash", type := .int, accessFlags := 2, slot := 2, constantValue := 0 }, { name := "hashIsZero", type := .boolean, accessFlags := 2, slot := 3, constantValue := 0 }, { name := "serialVersionUID", type := .long, accessFlags := 26, slot := 0, constantValue := 0 }, { name := "COMPACT_STRINGS", type := .boolean, accessFlags := 24, slot := 1, constantValue := 0 }, { name := "serialPersistentFields", type := (.array (.object "java/io/ObjectStreamField")), accessFlags := 26, slot := 2, constantValue := 0 }, { name := "REPL", type := .char, accessFlags := 26, slot := 3, constantValue := 0 }, { name := "CASE_INSENSITIVE_ORDER", type := (.object "java/util/Comparator"), accessFlags := 25, slot := 4, constantValue := 0 }, { name := "LATIN1", type := .byte, accessFlags := 24, slot := 5, constantValue := 0 }, { name := "UTF16", type := .byte, accessFlags := 24, slot := 6, constantValue := 0 }]
  methods := #[k7m0, k7m1, k7m2, k7m3, k7m4, k7m5, k7m6, k7m7, k7m8]
  instanceTypes := #[(.array .byte), .byte, .int, .boolean]
  staticTypes := #[.long, .boolean, (.array (.object "java/io/ObjectStreamField")), .char, (.object "java/util/Comparator"), .byte, .byte]
  resolved := Array.replicate 1451 none
  statics := some 0 }

def pool8 : Array CpInfo := pool [(2, .class_ 4), (1, u "java/lang/Object"), (3, .class_ 10), (1, u "com/example/crisp_bisim/crispbisim/formats/TextCursor"), (0, u "text"), (0, u "Ljava/lang/String;"), (2, u "blanks"), (2, u "end"), (2, u "refusal"), (0, u "Lcom/example/crisp_bisim/crispbisim/formats/TextCursor$Refusal;"), (2, u "position"), (0, u "I"), (4, .class_ 33), (1, u "java/lang/String"), (64, .methodref 31 99), (0, .nameAndType 100 101), (0, u "indexOf"), (0, u "(I)I"), (28, .class_ 131), (0, u "com/example/crisp_bisim/crispbisim/formats/TextCursor$Refusal"), (8, u "(Ljava/lang/String;)Z"), (13, u "isQuotable")] 35

def k8c0 : Code := { maxStack := 2, maxLocals := 1, code := prog_61_method_10_code, exceptionTable := #[], attributes := #[] }
def k8m0 : Method := { name := "isQuotable", desc := "(Ljava/lang/String;)Z", sig := { parameters := [(.object "java/lang/String")], returnType := some .boolean }, accessFlags := 8, code := some k8c0 }
/-- com/example/crisp_bisim/crispbisim/formats/TextCursor -/
def k8 : Class := { plain "com/example/crisp_bisim/crispbisim/formats/TextCursor" (some 0) with
  accessFlags := 48
  interfaces := #[]
  cf := some (fileOf pool8 8 #[.nestMembers #[130]] #[{ accessFlags := 8, nameIndex := 154, descriptorIndex := 140, attributes := #[] }] 48 2 #[] #[{ accessFlags := 18, nameIndex := 11, descriptorIndex := 12, attributes := #[] }, { accessFlags := 18, nameIndex := 15, descriptorIndex := 12, attributes := #[] }, { accessFlags := 18, nameIndex := 18, descriptorIndex := 12, attributes := #[] }, { accessFlags := 18, nameIndex := 21, descriptorIndex := 22, attributes := #[] }, { accessFlags := 2, nameIndex := 25, descriptorIndex := 26, attributes := #[] }])
  fields := #[{ name := "text", type := (.object "java/lang/String"), accessFlags := 18, slot := 0, constantValue := 0 }, { name := "blanks", type := (.object "java/lang/String"), accessFlags := 18, slot := 1, constantValue := 0 }, { name := "end", type := (.object "java/lang/String"), accessFlags := 18, slot := 2, constantValue := 0 }, { name := "refusal", type := (.object "com/example/crisp_bisim/crispbisim/formats/TextCursor$Refusal"), accessFlags := 18, slot := 3, constantValue := 0 }, { name := "position", type := .int, accessFlags := 2, slot := 4, constantValue := 0 }]
  methods := #[k8m0]
  instanceTypes := #[(.object "java/lang/String"), (.object "java/lang/String"), (.object "java/lang/String"), (.object "com/example/crisp_bisim/crispbisim/formats/TextCursor$Refusal"), .int]
  staticTypes := #[]
  resolved := Array.replicate 190 none
  statics := none }

def pool9 : Array CpInfo := pool [(4, .class_ 6), (1, u "java/lang/Object"), (0, u "<init>"), (0, u "()V"), (5, .class_ 16), (1, u "java/lang/StringLatin1"), (21, .methodref 39 40), (0, .class_ 41), (0, .nameAndType 42 43), (0, u "java/lang/Math"), (0, u "min"), (0, u "(II)I"), (44, .methodref 14 89), (0, .nameAndType 90 91), (0, u "canEncode"), (0, u "(I)Z"), (0, .methodref 39 93), (0, .nameAndType 94 43), (0, u "max"), (0, .methodref 14 96), (0, .nameAndType 97 98), (0, u "indexOfChar"), (0, u "([BIII)I"), (2, u "indexOf"), (19, u "$assertionsDisabled"), (0, u "Z"), (98, .class_ 223), (1, u "java/lang/StringLatin1$LinesSpliterator"), (166, .class_ 391), (0, u "java/lang/StringLatin1$CharsSpliterator")] 3

def k9m0 : Method := { name := "<init>", desc := "()V", sig := { parameters := [], returnType := none }, accessFlags := 0, code := none }
def k9c1 : Code := { maxStack := 2, maxLocals := 1, code := jdk_43_method_4_code, exceptionTable := #[], attributes := #[] }
def k9m1 : Method := { name := "canEncode", desc := "(I)Z", sig := { parameters := [.int], returnType := some .boolean }, accessFlags := 9, code := some k9c1 }
def k9c2 : Code := { maxStack := 4, maxLocals := 4, code := jdk_43_method_22_code, exceptionTable := #[], attributes := #[] }
def k9m2 : Method := { name := "indexOf", desc := "([BIII)I", sig := { parameters := [(.array .byte), .int, .int, .int], returnType := some .int }, accessFlags := 9, code := some k9c2 }
def k9c3 : Code := { maxStack := 2, maxLocals := 6, code := jdk_43_method_23_code, exceptionTable := #[], attributes := #[] }
def k9m3 : Method := { name := "indexOfChar", desc := "([BIII)I", sig := { parameters := [(.array .byte), .int, .int, .int], returnType := some .int }, accessFlags := 10, code := some k9c3 }
/-- java/lang/StringLatin1 -/
def k9 : Class := { plain "java/lang/StringLatin1" (some 0) with
  accessFlags := 48
  interfaces := #[]
  cf := some (fileOf pool9 14 #[.nestMembers #[390, 221]] #[{ accessFlags := 0, nameIndex := 7, descriptorIndex := 8, attributes := #[] }, { accessFlags := 9, nameIndex := 90, descriptorIndex := 91, attributes := #[] }, { accessFlags := 9, nameIndex := 101, descriptorIndex := 98, attributes := #[] }, { accessFlags := 10, nameIndex := 97, descriptorIndex := 98, attributes := #[] }] 48 4 #[] #[{ accessFlags := 4120, nameIndex := 121, descriptorIndex := 122, attributes := #[] }])
  fields := #[{ name := "$assertionsDisabled", type := .boolean, accessFlags := 4120, slot := 0, constantValue := 0 }]
  methods := #[k9m0, k9m1, k9m2, k9m3]
  instanceTypes := #[]
  staticTypes := #[.boolean]
  resolved := Array.replicate 395 none
  statics := none }

def pool10 : Array CpInfo := pool [(1, .class_ 2), (0, u "java/lang/Math"), (1, .class_ 6), (1, u "java/lang/Object"), (0, u "<init>"), (0, u "()V"), (89, .class_ 100), (1, u "java/lang/Math$RandomNumberGeneratorHolder"), (71, u "negativeZeroFloatBits"), (0, u "J"), (2, u "negativeZeroDoubleBits"), (21, u "max"), (2, u "min"), (43, u "$assertionsDisabled"), (0, u "Z"), (88, u "(II)I"), (2, u "twoToTheDoubleScaleDown"), (0, u "D"), (4, u "twoToTheDoubleScaleUp"), (9, u "E"), (3, u "PI"), (2, u "TAU"), (2, u "DEGREES_TO_RADIANS"), (0, u "RADIANS_TO_DEGREES")] 94

def k10m0 : Method := { name := "<init>", desc := "()V", sig := { parameters := [], returnType := none }, accessFlags := 2, code := none }
def k10c1 : Code := { maxStack := 2, maxLocals := 2, code := jdk_29_method_65_code, exceptionTable := #[], attributes := #[] }
def k10m1 : Method := { name := "max", desc := "(II)I", sig := { parameters := [.int, .int], returnType := some .int }, accessFlags := 9, code := some k10c1 }
def k10c2 : Code := { maxStack := 2, maxLocals := 2, code := jdk_29_method_69_code, exceptionTable := #[], attributes := #[] }
def k10m2 : Method := { name := "min", desc := "(II)I", sig := { parameters := [.int, .int], returnType := some .int }, accessFlags := 9, code := some k10c2 }
/-- java/lang/Math -/
def k10 : Class := { plain "java/lang/Math" (some 0) with
  accessFlags := 49
  interfaces := #[]
  cf := some (fileOf pool10 1 #[.nestMembers #[98]] #[{ accessFlags := 2, nameIndex := 7, descriptorIndex := 8, attributes := #[] }, { accessFlags := 9, nameIndex := 198, descriptorIndex := 335, attributes := #[] }, { accessFlags := 9, nameIndex := 201, descriptorIndex := 335, attributes := #[] }] 49 4 #[] #[{ accessFlags := 25, nameIndex := 354, descriptorIndex := 339, attributes := #[] }, { accessFlags := 25, nameIndex := 358, descriptorIndex := 339, attributes := #[] }, { accessFlags := 25, nameIndex := 361, descriptorIndex := 339, attributes := #[] }, { accessFlags := 26, nameIndex := 364, descriptorIndex := 339, attributes := #[] }, { accessFlags := 26, nameIndex := 365, descriptorIndex := 339, attributes := #[] }, { accessFlags := 26, nameIndex := 172, descriptorIndex := 173, attributes := #[] }, { accessFlags := 26, nameIndex := 176, descriptorIndex := 173, attributes := #[] }, { accessFlags := 8, nameIndex := 344, descriptorIndex := 339, attributes := #[] }, { accessFlags := 8, nameIndex := 338, descriptorIndex := 339, attributes := #[] }, { accessFlags := 4120, nameIndex := 245, descriptorIndex := 246, attributes := #[] }])
  fields := #[{ name := "E", type := .double, accessFlags := 25, slot := 0, constantValue := 0 }, { name := "PI", type := .double, accessFlags := 25, slot := 1, constantValue := 0 }, { name := "TAU", type := .double, accessFlags := 25, slot := 2, constantValue := 0 }, { name := "DEGREES_TO_RADIANS", type := .double, accessFlags := 26, slot := 3, constantValue := 0 }, { name := "RADIANS_TO_DEGREES", type := .double, accessFlags := 26, slot := 4, constantValue := 0 }, { name := "negativeZeroFloatBits", type := .long, accessFlags := 26, slot := 5, constantValue := 0 }, { name := "negativeZeroDoubleBits", type := .long, accessFlags := 26, slot := 6, constantValue := 0 }, { name := "twoToTheDoubleScaleUp", type := .double, accessFlags := 8, slot := 7, constantValue := 0 }, { name := "twoToTheDoubleScaleDown", type := .double, accessFlags := 8, slot := 8, constantValue := 0 }, { name := "$assertionsDisabled", type := .boolean, accessFlags := 4120, slot := 9, constantValue := 0 }]
  methods := #[k10m0, k10m1, k10m2]
  instanceTypes := #[]
  staticTypes := #[.double, .double, .double, .double, .double, .long, .long, .double, .double, .boolean]
  resolved := Array.replicate 460 none
  statics := none }

def pool11 : Array CpInfo := pool [(3, .class_ 4), (0, u "java/lang/String"), (1, .class_ 8), (1, u "java/lang/Object"), (0, u "<init>"), (0, u "()V"), (0, .methodref 12 13), (0, .class_ 14), (0, .nameAndType 15 16), (0, u "java/lang/StringUTF16"), (0, u "newBytesLength"), (0, u "(I)I"), (3, .integer 1073741823), (23, .fieldref 12 45), (0, .nameAndType 46 47), (0, u "$assertionsDisabled"), (0, u "Z"), (0, .methodref 12 49), (0, .nameAndType 50 51), (0, u "length"), (0, u "([B)I"), (7, .fieldref 12 60), (0, .nameAndType 61 62), (0, u "HI_BYTE_SHIFT"), (0, u "I"), (0, .fieldref 12 64), (0, .nameAndType 65 62), (0, u "LO_BYTE_SHIFT"), (5, .methodref 12 72), (0, .nameAndType 73 74), (0, u "getChar"), (0, u "([BI)C"), (21, .methodref 12 97), (0, .nameAndType 98 99), (0, u "checkBoundsBeginEnd"), (0, u "(II[B)V"), (7, .methodref 12 108), (0, .nameAndType 109 110), (0, u "newBytesFor"), (0, u "(I)[B"), (0, .methodref 12 112), (0, .nameAndType 113 114), (0, u "putChar"), (0, u "([BII)V"), (0, .methodref 12 116), (0, .nameAndType 117 118), (0, u "compress"), (0, u "([CI[BII)I"), (0, .methodref 12 120), (0, .nameAndType 121 122), (0, u "toBytes"), (0, u "([CII)[B"), (60, .methodref 184 185), (0, .class_ 186), (0, .nameAndType 187 188), (0, u "java/lang/Math"), (0, u "min"), (0, u "(II)I"), (35, .methodref 184 225), (0, .nameAndType 226 188), (0, u "max"), (0, .integer 65536), (0, .methodref 12 229), (0, .nameAndType 230 231), (0, u "indexOfChar"), (0, u "([BIII)I"), (9, .methodref 3 242), (0, .nameAndType 98 243), (0, u "(III)V"), (0, .methodref 12 245), (0, .nameAndType 246 231), (0, u "indexOfCharUnsafe"), (14, u "coderFromArrayLen"), (0, u "([BI)B"), (5, u "indexOf"), (100, .class_ 371), (1, u "java/lang/StringUTF16$LinesSpliterator"), (58, u "MAX_LENGTH"), (196, .class_ 628), (0, u "java/lang/StringUTF16$CodePointsSpliterator"), (0, .class_ 630), (0, u "java/lang/StringUTF16$CharsSpliterator")] 4

def k11m0 : Method := { name := "<init>", desc := "()V", sig := { parameters := [], returnType := none }, accessFlags := 0, code := none }
def k11c1 : Code := { maxStack := 1, maxLocals := 1, code := jdk_52_method_2_code, exceptionTable := #[], attributes := #[] }
def k11m1 : Method := { name := "newBytesFor", desc := "(I)[B", sig := { parameters := [.int], returnType := some (.array .byte) }, accessFlags := 9, code := some k11c1 }
def k11c2 : Code := { maxStack := 4, maxLocals := 1, code := jdk_52_method_3_code, exceptionTable := #[], attributes := #[] }
def k11m2 : Method := { name := "newBytesLength", desc := "(I)I", sig := { parameters := [.int], returnType := some .int }, accessFlags := 9, code := some k11c2 }
def k11c3 : Code := { maxStack := 4, maxLocals := 3, code := jdk_52_method_4_code, exceptionTable := #[], attributes := #[] }
def k11m3 : Method := { name := "putChar", desc := "([BII)V", sig := { parameters := [(.array .byte), .int, .int], returnType := none }, accessFlags := 8, code := some k11c3 }
def k11c4 : Code := { maxStack := 3, maxLocals := 2, code := jdk_52_method_5_code, exceptionTable := #[], attributes := #[] }
def k11m4 : Method := { name := "getChar", desc := "([BI)C", sig := { parameters := [(.array .byte), .int], returnType := some .char }, accessFlags := 8, code := some k11c4 }
def k11c5 : Code := { maxStack := 2, maxLocals := 1, code := jdk_52_method_6_code, exceptionTable := #[], attributes := #[] }
def k11m5 : Method := { name := "length", desc := "([B)I", sig := { parameters := [(.array .byte)], returnType := some .int }, accessFlags := 9, code := some k11c5 }
def k11c6 : Code := { maxStack := 4, maxLocals := 5, code := jdk_52_method_14_code, exceptionTable := #[], attributes := #[] }
def k11m6 : Method := { name := "toBytes", desc := "([CII)[B", sig := { parameters := [(.array .char), .int, .int], returnType := some (.array .byte) }, accessFlags := 9, code := some k11c6 }
def k11c7 : Code := { maxStack := 2, maxLocals := 2, code := jdk_52_method_15_code, exceptionTable := #[], attributes := #[] }
def k11m7 : Method := { name := "coderFromArrayLen", desc := "([BI)B", sig := { parameters := [(.array .byte), .int], returnType := some .byte }, accessFlags := 8, code := some k11c7 }
def k11c8 : Code := { maxStack := 5, maxLocals := 6, code := jdk_52_method_16_code, exceptionTable := #[], attributes := #[] }
def k11m8 : Method := { name := "compress", desc := "([CII)[B", sig := { parameters := [(.array .char), .int, .int], returnType := some (.array .byte) }, accessFlags := 9, code := some k11c8 }
def k11c9 : Code := { maxStack := 3, maxLocals := 7, code := jdk_52_method_21_code, exceptionTable := #[], attributes := #[] }
def k11m9 : Method := { name := "compress", desc := "([CI[BII)I", sig := { parameters := [(.array .char), .int, (.array .byte), .int, .int], returnType := some .int }, accessFlags := 9, code := some k11c9 }
def k11c10 : Code := { maxStack := 4, maxLocals := 4, code := jdk_52_method_40_code, exceptionTable := #[], attributes := #[] }
def k11m10 : Method := { name := "indexOf", desc := "([BIII)I", sig := { parameters := [(.array .byte), .int, .int, .int], returnType := some .int }, accessFlags := 9, code := some k11c10 }
def k11c11 : Code := { maxStack := 4, maxLocals := 4, code := jdk_52_method_47_code, exceptionTable := #[], attributes := #[] }
def k11m11 : Method := { name := "indexOfChar", desc := "([BIII)I", sig := { parameters := [(.array .byte), .int, .int, .int], returnType := some .int }, accessFlags := 10, code := some k11c11 }
def k11c12 : Code := { maxStack := 2, maxLocals := 5, code := jdk_52_method_48_code, exceptionTable := #[], attributes := #[] }
def k11m12 : Method := { name := "indexOfCharUnsafe", desc := "([BIII)I", sig := { parameters := [(.array .byte), .int, .int, .int], returnType := some .int }, accessFlags := 10, code := some k11c12 }
def k11c13 : Code := { maxStack := 3, maxLocals := 3, code := jdk_52_method_93_code, exceptionTable := #[], attributes := #[] }
def k11m13 : Method := { name := "checkBoundsBeginEnd", desc := "(II[B)V", sig := { parameters := [.int, .int, (.array .byte)], returnType := none }, accessFlags := 9, code := some k11c13 }
/-- java/lang/StringUTF16 -/
def k11 : Class := { plain "java/lang/StringUTF16" (some 0) with
  accessFlags := 48
  interfaces := #[]
  cf := some (fileOf pool11 12 #[.nestMembers #[627, 629, 369]] #[{ accessFlags := 0, nameIndex := 9, descriptorIndex := 10, attributes := #[] }, { accessFlags := 9, nameIndex := 109, descriptorIndex := 110, attributes := #[] }, { accessFlags := 9, nameIndex := 15, descriptorIndex := 16, attributes := #[] }, { accessFlags := 8, nameIndex := 113, descriptorIndex := 114, attributes := #[] }, { accessFlags := 8, nameIndex := 73, descriptorIndex := 74, attributes := #[] }, { accessFlags := 9, nameIndex := 50, descriptorIndex := 51, attributes := #[] }, { accessFlags := 9, nameIndex := 121, descriptorIndex := 122, attributes := #[] }, { accessFlags := 8, nameIndex := 261, descriptorIndex := 262, attributes := #[] }, { accessFlags := 9, nameIndex := 117, descriptorIndex := 122, attributes := #[] }, { accessFlags := 9, nameIndex := 117, descriptorIndex := 118, attributes := #[] }, { accessFlags := 9, nameIndex := 268, descriptorIndex := 231, attributes := #[] }, { accessFlags := 10, nameIndex := 230, descriptorIndex := 231, attributes := #[] }, { accessFlags := 10, nameIndex := 246, descriptorIndex := 231, attributes := #[] }, { accessFlags := 9, nameIndex := 98, descriptorIndex := 99, attributes := #[] }] 48 6 #[] #[{ accessFlags := 26, nameIndex := 61, descriptorIndex := 62, attributes := #[] }, { accessFlags := 26, nameIndex := 65, descriptorIndex := 62, attributes := #[] }, { accessFlags := 24, nameIndex := 430, descriptorIndex := 62, attributes := #[] }, { accessFlags := 4120, nameIndex := 46, descriptorIndex := 47, attributes := #[] }])
  fields := #[{ name := "HI_BYTE_SHIFT", type := .int, accessFlags := 26, slot := 0, constantValue := 0 }, { name := "LO_BYTE_SHIFT", type := .int, accessFlags := 26, slot := 1, constantValue := 0 }, { name := "MAX_LENGTH", type := .int, accessFlags := 24, slot := 2, constantValue := 0 }, { name := "$assertionsDisabled", type := .boolean, accessFlags := 4120, slot := 3, constantValue := 0 }]
  methods := #[k11m0, k11m1, k11m2, k11m3, k11m4, k11m5, k11m6, k11m7, k11m8, k11m9, k11m10, k11m11, k11m12, k11m13]
  instanceTypes := #[]
  staticTypes := #[.int, .int, .int, .boolean]
  resolved := Array.replicate 635 none
  statics := some 1 }

def pool12 : Array CpInfo := pool [(2, .class_ 4), (1, u "java/lang/Object"), (0, u "<init>"), (0, u "()V"), (17, .class_ 26), (1, u "jdk/internal/util/Preconditions"), (20, u "checkFromToIndex"), (7, .class_ 56), (0, u "jdk/internal/util/Preconditions$4"), (57, .class_ 115), (0, u "jdk/internal/util/Preconditions$1"), (7, u "SIOOBE_FORMATTER"), (0, u "Ljava/util/function/BiFunction;"), (0, .class_ 126), (0, u "jdk/internal/util/Preconditions$2"), (3, u "AIOOBE_FORMATTER"), (0, .class_ 132), (0, u "jdk/internal/util/Preconditions$3"), (3, u "IOOBE_FORMATTER"), (46, u "(IIILjava/util/function/BiFunction;)I")] 10

def k12m0 : Method := { name := "<init>", desc := "()V", sig := { parameters := [], returnType := none }, accessFlags := 1, code := none }
def k12c1 : Code := { maxStack := 4, maxLocals := 4, code := jdk_41_method_12_code, exceptionTable := #[], attributes := #[] }
def k12m1 : Method := { name := "checkFromToIndex", desc := "(IIILjava/util/function/BiFunction;)I", sig := { parameters := [.int, .int, .int, (.object "java/util/function/BiFunction")], returnType := some .int }, accessFlags := 9, code := some k12c1 }
/-- jdk/internal/util/Preconditions -/
def k12 : Class := { plain "jdk/internal/util/Preconditions" (some 0) with
  accessFlags := 33
  interfaces := #[]
  cf := some (fileOf pool12 24 #[.nestMembers #[55, 131, 125, 114]] #[{ accessFlags := 1, nameIndex := 5, descriptorIndex := 6, attributes := #[] }, { accessFlags := 9, nameIndex := 47, descriptorIndex := 183, attributes := #[] }] 33 2 #[] #[{ accessFlags := 25, nameIndex := 123, descriptorIndex := 124, attributes := #[] }, { accessFlags := 25, nameIndex := 130, descriptorIndex := 124, attributes := #[] }, { accessFlags := 25, nameIndex := 136, descriptorIndex := 124, attributes := #[] }])
  fields := #[{ name := "SIOOBE_FORMATTER", type := (.object "java/util/function/BiFunction"), accessFlags := 25, slot := 0, constantValue := 0 }, { name := "AIOOBE_FORMATTER", type := (.object "java/util/function/BiFunction"), accessFlags := 25, slot := 1, constantValue := 0 }, { name := "IOOBE_FORMATTER", type := (.object "java/util/function/BiFunction"), accessFlags := 25, slot := 2, constantValue := 0 }]
  methods := #[k12m0, k12m1]
  instanceTypes := #[]
  staticTypes := #[(.object "java/util/function/BiFunction"), (.object "java/util/function/BiFunction"), (.object "java/util/function/BiFunction")]
  resolved := Array.replicate 194 none
  statics := some 2 }

def pool13 : Array CpInfo := pool [(9, u "<init>"), (6, .class_ 18), (1, u "java/lang/Object"), (0, u "()V"), (1, .class_ 23), (1, u "jdk/internal/util/ArraysSupport"), (0, u "LOG2_ARRAY_LONG_INDEX_SCALE"), (0, u "I"), (2, u "U"), (0, u "Ljdk/internal/misc/Unsafe;"), (8, u "BIG_ENDIAN"), (0, u "Z"), (8, u "LOG2_BYTE_BIT_SIZE"), (4, u "LOG2_ARRAY_INT_INDEX_SCALE"), (54, u "JLA"), (0, u "Ljdk/internal/access/JavaLangAccess;"), (11, u "LOG2_ARRAY_BOOLEAN_INDEX_SCALE"), (9, u "LOG2_ARRAY_BYTE_INDEX_SCALE"), (5, u "LOG2_ARRAY_CHAR_INDEX_SCALE"), (5, u "LOG2_ARRAY_SHORT_INDEX_SCALE"), (18, u "LOG2_ARRAY_FLOAT_INDEX_SCALE"), (24, u "LOG2_ARRAY_DOUBLE_INDEX_SCALE"), (89, u "T_BOOLEAN"), (2, u "T_CHAR"), (1, u "T_FLOAT"), (1, u "T_DOUBLE"), (1, u "T_BYTE"), (1, u "T_SHORT"), (1, u "T_INT"), (1, u "T_LONG"), (1, u "SOFT_MAX_ARRAY_LENGTH")] 83

def k13m0 : Method := { name := "<init>", desc := "()V", sig := { parameters := [], returnType := none }, accessFlags := 2, code := none }
/-- jdk/internal/util/ArraysSupport -/
def k13 : Class := { plain "jdk/internal/util/ArraysSupport" (some 0) with
  accessFlags := 33
  interfaces := #[]
  cf := some (fileOf pool13 21 #[] #[{ accessFlags := 2, nameIndex := 9, descriptorIndex := 19, attributes := #[] }] 33 16 #[] #[{ accessFlags := 24, nameIndex := 28, descriptorIndex := 29, attributes := #[] }, { accessFlags := 26, nameIndex := 38, descriptorIndex := 39, attributes := #[] }, { accessFlags := 25, nameIndex := 121, descriptorIndex := 25, attributes := #[] }, { accessFlags := 25, nameIndex := 131, descriptorIndex := 25, attributes := #[] }, { accessFlags := 25, nameIndex := 137, descriptorIndex := 25, attributes := #[] }, { accessFlags := 25, nameIndex := 143, descriptorIndex := 25, attributes := #[] }, { accessFlags := 25, nameIndex := 53, descriptorIndex := 25, attributes := #[] }, { accessFlags := 25, nameIndex := 24, descriptorIndex := 25, attributes := #[] }, { accessFlags := 25, nameIndex := 162, descriptorIndex := 25, attributes := #[] }, { accessFlags := 25, nameIndex := 187, descriptorIndex := 25, attributes := #[] }, { accessFlags := 26, nameIndex := 48, descriptorIndex := 25, attributes := #[] }, { accessFlags := 25, nameIndex := 277, descriptorIndex := 25, attributes := #[] }, { accessFlags := 25, nameIndex := 280, descriptorIndex := 25, attributes := #[] }, { accessFlags := 25, nameIndex := 282, descriptorIndex := 25, attributes := #[] }, { accessFlags := 25, nameIndex := 284, descriptorIndex := 25, attributes := #[] }, { accessFlags := 25, nameIndex := 286, descriptorIndex := 25, attributes := #[] }, { accessFlags := 25, nameIndex := 288, descriptorIndex := 25, attributes := #[] }, { accessFlags := 25, nameIndex := 290, descriptorIndex := 25, attributes := #[] }, { accessFlags := 25, nameIndex := 292, descriptorIndex := 25, attributes := #[] }, { accessFlags := 26, nameIndex := 108, descriptorIndex := 109, attributes := #[] }, { accessFlags := 25, nameIndex := 294, descriptorIndex := 25, attributes := #[] }])
  fields := #[{ name := "U", type := (.object "jdk/internal/misc/Unsafe"), accessFlags := 24, slot := 0, constantValue := 0 }, { name := "BIG_ENDIAN", type := .boolean, accessFlags := 26, slot := 1, constantValue := 0 }, { name := "LOG2_ARRAY_BOOLEAN_INDEX_SCALE", type := .int, accessFlags := 25, slot := 2, constantValue := 0 }, { name := "LOG2_ARRAY_BYTE_INDEX_SCALE", type := .int, accessFlags := 25, slot := 3, constantValue := 0 }, { name := "LOG2_ARRAY_CHAR_INDEX_SCALE", type := .int, accessFlags := 25, slot := 4, constantValue := 0 }, { name := "LOG2_ARRAY_SHORT_INDEX_SCALE", type := .int, accessFlags := 25, slot := 5, constantValue := 0 }, { name := "LOG2_ARRAY_INT_INDEX_SCALE", type := .int, accessFlags := 25, slot := 6, constantValue := 0 }, { name := "LOG2_ARRAY_LONG_INDEX_SCALE", type := .int, accessFlags := 25, slot := 7, constantValue := 0 }, { name := "LOG2_ARRAY_FLOAT_INDEX_SCALE", type := .int, accessFlags := 25, slot := 8, constantValue := 0 }, { name := "LOG2_ARRAY_DOUBLE_INDEX_SCALE", type := .int, accessFlags := 25, slot := 9, constantValue := 0 }, { name := "LOG2_BYTE_BIT_SIZE", type := .int, accessFlags := 26, slot := 10, constantValue := 0 }, { name := "T_BOOLEAN", type := .int, accessFlags := 25, slot := 11, constantValue := 0 }, { name := "T_CHAR", type := .int, accessFlags := 25, slot := 12, constantValue := 0 }, { name := "T_FLOAT", type := .int, accessFlags := 25, slot := 13, constantValue := 0 }, { name := "T_DOUBLE", type := .int, accessFlags := 25, slot := 14, constantValue := 0 }, { name := "T_BYTE", type := .int, accessFlags := 25, slot := 15, constantValue := 0 }, { name := "T_SHORT", type := .int, accessFlags := 25, slot := 16, constantValue := 0 }, { name := "T_INT", type := .int, accessFlags := 25, slot := 17, constantValue := 0 }, { name := "T_LONG", type := .int, accessFlags := 25, slot := 18, constantValue := 0 }, { name := "JLA", type := (.object "jdk/internal/access/JavaLangAccess"), accessFlags := 26, slot := 19, constantValue := 0 }, { name := "SOFT_MAX_ARRAY_LENGTH", type := .int, accessFlags := 25, slot := 20, constantValue := 0 }]
  methods := #[k13m0]
  instanceTypes := #[]
  staticTypes := #[(.object "jdk/internal/misc/Unsafe"), .boolean, .int, .int, .int, .int, .int, .int, .int, .int, .int, .int, .int, .int, .int, .int, .int, .int, .int, (.object "jdk/internal/access/JavaLangAccess"), .int]
  resolved := Array.replicate 378 none
  statics := none }

def pool14 : Array CpInfo := pool [(1, u "java/lang/Cloneable"), (0, .class_ 1), (0, u "java/lang/Object"), (0, .class_ 3)] 3

/-- java/lang/Cloneable -/
def k14 : Class := { plain "java/lang/Cloneable" (some 0) with
  accessFlags := 1537
  interfaces := #[]
  cf := some (fileOf pool14 2 #[] #[] 1537 4 #[] #[])
  fields := #[]
  methods := #[]
  instanceTypes := #[]
  staticTypes := #[]
  resolved := Array.replicate 8 none
  statics := none }

/-- the primitive byte -/
def k15 : Class := { plain "byte" none with kind := .primitive 'B', accessFlags := 0x411 }
/-- [B -/
def k16 : Class := { plain "[B" (some 0) with kind := .array 15 .byte, interfaces := #[14, 2], accessFlags := 1041 }

/-- the primitive char -/
def k17 : Class := { plain "char" none with kind := .primitive 'C', accessFlags := 0x411 }
/-- [C -/
def k18 : Class := { plain "[C" (some 0) with kind := .array 17 .char, interfaces := #[14, 2], accessFlags := 1041 }

/-- the primitive int -/
def k19 : Class := { plain "int" none with kind := .primitive 'I', accessFlags := 0x411 }
/-- [I -/
def k20 : Class := { plain "[I" (some 0) with kind := .array 19 .int, interfaces := #[14, 2], accessFlags := 1041 }

def heap : Heap := #[{ cls := 7, slots := #[.long 0, .int 1, .null, .int 0, .null, .int 0, .int 0], vm := .statics 7 },
  { cls := 11, slots := #[.int 0, .int 8, .int 0, .int 1], vm := .statics 11 },
  { cls := 12, slots := #[.null, .null, .null], vm := .statics 12 }]
def classes : Array Class := #[k0, k1, k2, k3, k4, k5, k6, k7, k8, k9, k10, k11, k12, k13, k14, k15, k16, k17, k18, k19, k20]
def interned : List (Array UInt16 × Addr) := []
def slotsUsed : Nat := 14
def theMethod : MethodId := ⟨1, 2⟩
def args0 : Array Value := #[.int 1, .int 65, .int 66, .int 67]
def aboutOver (below : List Frame) : State where
  vm := { classes := classes, interned := interned.toArray }
  heap := heap
  slotsUsed := slotsUsed
  threads := #[{ frames := .invoking theMethod args0 :: below }]
def below0 : List Frame := [.native { method := ⟨0, 0⟩, args := #[] }]
def about1 : State := aboutOver below0
def p0 : Program := .bare "" "" ""
def e0 : Env := launch0.env 0 0 0
theorem w_frames : about1.frames = Frame.invoking theMethod args0 :: below0 := rfl
set_option maxRecDepth 65536 in
theorem w_args : argsFit about1.vm theMethod args0 = true := by decide +kernel
set_option maxRecDepth 65536 in
theorem w_heap : heapFits about1 = true := by decide +kernel
set_option maxRecDepth 65536 in
theorem w_runnable : about1.curStatus? = some .runnable := by decide +kernel
set_option maxRecDepth 65536 in
theorem w_alone : about1.alone = true := by decide +kernel
set_option maxRecDepth 65536 in
theorem w_named : about1.methodNamed? x = some theMethod := by decide +kernel
set_option maxRecDepth 65536 in
theorem w_hears : about1.hears theMethod below0 = true := by decide +kernel
set_option maxRecDepth 65536 in
theorem w_ripe : about1.ripe theMethod args0 below0 = true := by decide +kernel
theorem w_running : about1.status = .running := rfl
set_option maxRecDepth 65536 in
theorem w_room : about1.hasRoom e0.platform room_1 = true :=
  launch0.hasRoom_least _ room_1 (by decide +kernel) (by decide +kernel) (by decide +kernel) (by decide +kernel) (by decide +kernel) (by decide +kernel)
theorem allAtoms_all (ts : List Jvm.Cond) (a : Array Jvm.Value) (st : Jvm.State) : (allAtoms ts).before a st = ts.all (fun c => c.before a st) := by
  induction ts with
  | nil => rfl
  | cons c t ih =>
    show (Jvm.Cond.and c (allAtoms t)).before a st = _
    rw [Jvm.Cond.before_and, ih, List.all_cons]
def words1 : List Jvm.Cond := Jvm.Cond.code x code maxLocals ret :: tables_1
/-- a 'code' word, met by the world's own term for the bytes: nothing is compared byte by byte -/
theorem code_word {y : MethodName} {bytes : ByteArray} {mx : Nat} {rt : Option FieldType} {a : Array Value} {s : State} {m : MethodId} {meth : Method} {c : Code} (h1 : s.methodNamed? y = some m) (h2 : s.vm.method? m = some meth) (h3 : meth.code = some c) (h4 : c.code = bytes)
    (h5 : (c.maxLocals == mx && c.exceptionTable.isEmpty && decide (c.maxStack ≤ mostOperands) && decide (meth.sig.returnType = rt) && !meth.locks && decide (parseMethodDescriptor y.desc = some meth.sig)) = true) : (Jvm.Cond.code y bytes mx rt).before a s = true := by
  simp only [Bool.and_eq_true, beq_iff_eq, Bool.not_eq_true', decide_eq_true_eq] at h5
  obtain ⟨⟨⟨⟨⟨g1, g2⟩, g3⟩, g4⟩, g5⟩, g6⟩ := h5
  simp [Cond.before, Cond.holds, Cond.value, h1, h2, h3, h4, g1, g2, g3, g4, g5, g6]
def isCode : Jvm.Cond → Bool
  | .code _ _ _ _ => true
  | _ => false
theorem all_split {L : List Jvm.Cond} {P : Jvm.Cond → Bool} (h1 : L.all (fun c => isCode c || P c) = true) (h2 : ∀ c ∈ L.filter isCode, P c = true) : L.all P = true := by
  refine List.all_eq_true.mpr fun c hc => ?_
  have h := List.all_eq_true.mp h1 c hc
  rcases Bool.eq_false_or_eq_true (isCode c) with hi | hi
  · exact h2 c (List.mem_filter.mpr ⟨hc, hi⟩)
  · simpa [hi] using h
set_option maxRecDepth 65536 in
theorem w_c0 : (Jvm.Cond.code x code maxLocals ret).before args0 about1 = true := code_word (m := ⟨1, 2⟩) (meth := k1m2) (c := k1c2) (by decide +kernel) rfl rfl rfl (by decide +kernel)
set_option maxRecDepth 65536 in
theorem w_c1 : (Jvm.Cond.code ({ cls := "java/lang/String", name := "<init>", desc := "([C)V" } : Jvm.MethodName) jdk_42_method_3_code (2 : Nat) (Option.none : Option Jvm.ClassFile.FieldType)).before args0 about1 = true := code_word (m := ⟨7, 1⟩) (meth := k7m1) (c := k7c1) (by decide +kernel) rfl rfl rfl (by decide +kernel)
set_option maxRecDepth 65536 in
theorem w_c2 : (Jvm.Cond.code ({ cls := "java/lang/String", name := "<init>", desc := "([CIILjava/lang/Void;)V" } : Jvm.MethodName) jdk_42_method_149_code (6 : Nat) (Option.none : Option Jvm.ClassFile.FieldType)).before args0 about1 = true := code_word (m := ⟨7, 5⟩) (meth := k7m5) (c := k7c5) (by decide +kernel) rfl rfl rfl (by decide +kernel)
set_option maxRecDepth 65536 in
theorem w_c3 : (Jvm.Cond.code ({ cls := "java/lang/Object", name := "<init>", desc := "()V" } : Jvm.MethodName) object_method_1_code (1 : Nat) (Option.none : Option Jvm.ClassFile.FieldType)).before args0 about1 = true := code_word (m := ⟨0, 0⟩) (meth := k0m0) (c := k0c0) (by decide +kernel) rfl rfl rfl (by decide +kernel)
set_option maxRecDepth 65536 in
theorem w_c4 : (Jvm.Cond.code ({ cls := "com/example/crisp_bisim/crispbisim/formats/TextCursor", name := "isQuotable", desc := "(Ljava/lang/String;)Z" } : Jvm.MethodName) prog_61_method_10_code (1 : Nat) (Option.some Jvm.ClassFile.FieldType.boolean)).before args0 about1 = true := code_word (m := ⟨8, 0⟩) (meth := k8m0) (c := k8c0) (by decide +kernel) rfl rfl rfl (by decide +kernel)
set_option maxRecDepth 65536 in
theorem w_c5 : (Jvm.Cond.code ({ cls := "java/lang/String", name := "indexOf", desc := "(I)I" } : Jvm.MethodName) jdk_42_method_79_code (2 : Nat) (Option.some Jvm.ClassFile.FieldType.int)).before args0 about1 = true := code_word (m := ⟨7, 3⟩) (meth := k7m3) (c := k7c3) (by decide +kernel) rfl rfl rfl (by decide +kernel)
set_option maxRecDepth 65536 in
theorem w_c6 : (Jvm.Cond.code ({ cls := "java/lang/String", name := "indexOf", desc := "(II)I" } : Jvm.MethodName) jdk_42_method_80_code (3 : Nat) (Option.some Jvm.ClassFile.FieldType.int)).before args0 about1 = true := code_word (m := ⟨7, 4⟩) (meth := k7m4) (c := k7c4) (by decide +kernel) rfl rfl rfl (by decide +kernel)
set_option maxRecDepth 65536 in
theorem w_c7 : (Jvm.Cond.code ({ cls := "java/lang/String", name := "isLatin1", desc := "()Z" } : Jvm.MethodName) jdk_42_method_154_code (1 : Nat) (Option.some Jvm.ClassFile.FieldType.boolean)).before args0 about1 = true := code_word (m := ⟨7, 7⟩) (meth := k7m7) (c := k7c7) (by decide +kernel) rfl rfl rfl (by decide +kernel)
set_option maxRecDepth 65536 in
theorem w_c8 : (Jvm.Cond.code ({ cls := "java/lang/String", name := "length", desc := "()I" } : Jvm.MethodName) jdk_42_method_54_code (1 : Nat) (Option.some Jvm.ClassFile.FieldType.int)).before args0 about1 = true := code_word (m := ⟨7, 2⟩) (meth := k7m2) (c := k7c2) (by decide +kernel) rfl rfl rfl (by decide +kernel)
set_option maxRecDepth 65536 in
theorem w_c9 : (Jvm.Cond.code ({ cls := "java/lang/String", name := "coder", desc := "()B" } : Jvm.MethodName) jdk_42_method_152_code (1 : Nat) (Option.some Jvm.ClassFile.FieldType.byte)).before args0 about1 = true := code_word (m := ⟨7, 6⟩) (meth := k7m6) (c := k7c6) (by decide +kernel) rfl rfl rfl (by decide +kernel)
set_option maxRecDepth 65536 in
theorem w_c10 : (Jvm.Cond.code ({ cls := "java/lang/StringLatin1", name := "indexOf", desc := "([BIII)I" } : Jvm.MethodName) jdk_43_method_22_code (4 : Nat) (Option.some Jvm.ClassFile.FieldType.int)).before args0 about1 = true := code_word (m := ⟨9, 2⟩) (meth := k9m2) (c := k9c2) (by decide +kernel) rfl rfl rfl (by decide +kernel)
set_option maxRecDepth 65536 in
theorem w_c11 : (Jvm.Cond.code ({ cls := "java/lang/StringLatin1", name := "canEncode", desc := "(I)Z" } : Jvm.MethodName) jdk_43_method_4_code (1 : Nat) (Option.some Jvm.ClassFile.FieldType.boolean)).before args0 about1 = true := code_word (m := ⟨9, 1⟩) (meth := k9m1) (c := k9c1) (by decide +kernel) rfl rfl rfl (by decide +kernel)
set_option maxRecDepth 65536 in
theorem w_c12 : (Jvm.Cond.code ({ cls := "java/lang/Math", name := "max", desc := "(II)I" } : Jvm.MethodName) jdk_29_method_65_code (2 : Nat) (Option.some Jvm.ClassFile.FieldType.int)).before args0 about1 = true := code_word (m := ⟨10, 1⟩) (meth := k10m1) (c := k10c1) (by decide +kernel) rfl rfl rfl (by decide +kernel)
set_option maxRecDepth 65536 in
theorem w_c13 : (Jvm.Cond.code ({ cls := "java/lang/Math", name := "min", desc := "(II)I" } : Jvm.MethodName) jdk_29_method_69_code (2 : Nat) (Option.some Jvm.ClassFile.FieldType.int)).before args0 about1 = true := code_word (m := ⟨10, 2⟩) (meth := k10m2) (c := k10c2) (by decide +kernel) rfl rfl rfl (by decide +kernel)
set_option maxRecDepth 65536 in
theorem w_c14 : (Jvm.Cond.code ({ cls := "java/lang/StringUTF16", name := "compress", desc := "([CII)[B" } : Jvm.MethodName) jdk_52_method_16_code (6 : Nat) (Option.some (Jvm.ClassFile.FieldType.array Jvm.ClassFile.FieldType.byte))).before args0 about1 = true := code_word (m := ⟨11, 8⟩) (meth := k11m8) (c := k11c8) (by decide +kernel) rfl rfl rfl (by decide +kernel)
set_option maxRecDepth 65536 in
theorem w_c15 : (Jvm.Cond.code ({ cls := "java/lang/StringUTF16", name := "compress", desc := "([CI[BII)I" } : Jvm.MethodName) jdk_52_method_21_code (7 : Nat) (Option.some Jvm.ClassFile.FieldType.int)).before args0 about1 = true := code_word (m := ⟨11, 9⟩) (meth := k11m9) (c := k11c9) (by decide +kernel) rfl rfl rfl (by decide +kernel)
set_option maxRecDepth 65536 in
theorem w_c16 : (Jvm.Cond.code ({ cls := "java/lang/StringUTF16", name := "coderFromArrayLen", desc := "([BI)B" } : Jvm.MethodName) jdk_52_method_15_code (2 : Nat) (Option.some Jvm.ClassFile.FieldType.byte)).before args0 about1 = true := code_word (m := ⟨11, 7⟩) (meth := k11m7) (c := k11c7) (by decide +kernel) rfl rfl rfl (by decide +kernel)
set_option maxRecDepth 65536 in
theorem w_c17 : (Jvm.Cond.code ({ cls := "com/example/crisp_bisim/crispbisim/formats/TextCursorIsQuotablePinLaw", name := "ok", desc := "(C)Z" } : Jvm.MethodName) method_2_code (1 : Nat) (Option.some Jvm.ClassFile.FieldType.boolean)).before args0 about1 = true := code_word (m := ⟨1, 1⟩) (meth := k1m1) (c := k1c1) (by decide +kernel) rfl rfl rfl (by decide +kernel)
set_option maxRecDepth 65536 in
theorem w_c18 : (Jvm.Cond.code ({ cls := "java/lang/StringLatin1", name := "indexOfChar", desc := "([BIII)I" } : Jvm.MethodName) jdk_43_method_23_code (6 : Nat) (Option.some Jvm.ClassFile.FieldType.int)).before args0 about1 = true := code_word (m := ⟨9, 3⟩) (meth := k9m3) (c := k9c3) (by decide +kernel) rfl rfl rfl (by decide +kernel)
set_option maxRecDepth 65536 in
theorem w_c19 : (Jvm.Cond.code ({ cls := "java/lang/StringUTF16", name := "toBytes", desc := "([CII)[B" } : Jvm.MethodName) jdk_52_method_14_code (5 : Nat) (Option.some (Jvm.ClassFile.FieldType.array Jvm.ClassFile.FieldType.byte))).before args0 about1 = true := code_word (m := ⟨11, 6⟩) (meth := k11m6) (c := k11c6) (by decide +kernel) rfl rfl rfl (by decide +kernel)
set_option maxRecDepth 65536 in
theorem w_c20 : (Jvm.Cond.code ({ cls := "java/lang/StringUTF16", name := "newBytesFor", desc := "(I)[B" } : Jvm.MethodName) jdk_52_method_2_code (1 : Nat) (Option.some (Jvm.ClassFile.FieldType.array Jvm.ClassFile.FieldType.byte))).before args0 about1 = true := code_word (m := ⟨11, 1⟩) (meth := k11m1) (c := k11c1) (by decide +kernel) rfl rfl rfl (by decide +kernel)
set_option maxRecDepth 65536 in
theorem w_c21 : (Jvm.Cond.code ({ cls := "java/lang/StringUTF16", name := "newBytesLength", desc := "(I)I" } : Jvm.MethodName) jdk_52_method_3_code (1 : Nat) (Option.some Jvm.ClassFile.FieldType.int)).before args0 about1 = true := code_word (m := ⟨11, 2⟩) (meth := k11m2) (c := k11c2) (by decide +kernel) rfl rfl rfl (by decide +kernel)
set_option maxRecDepth 65536 in
theorem w_c22 : (Jvm.Cond.code ({ cls := "java/lang/StringUTF16", name := "putChar", desc := "([BII)V" } : Jvm.MethodName) jdk_52_method_4_code (3 : Nat) (Option.none : Option Jvm.ClassFile.FieldType)).before args0 about1 = true := code_word (m := ⟨11, 3⟩) (meth := k11m3) (c := k11c3) (by decide +kernel) rfl rfl rfl (by decide +kernel)
set_option maxRecDepth 65536 in
theorem w_c23 : (Jvm.Cond.code ({ cls := "java/lang/StringUTF16", name := "getChar", desc := "([BI)C" } : Jvm.MethodName) jdk_52_method_5_code (2 : Nat) (Option.some Jvm.ClassFile.FieldType.char)).before args0 about1 = true := code_word (m := ⟨11, 4⟩) (meth := k11m4) (c := k11c4) (by decide +kernel) rfl rfl rfl (by decide +kernel)
set_option maxRecDepth 65536 in
theorem w_c24 : (Jvm.Cond.code ({ cls := "java/lang/StringUTF16", name := "indexOf", desc := "([BIII)I" } : Jvm.MethodName) jdk_52_method_40_code (4 : Nat) (Option.some Jvm.ClassFile.FieldType.int)).before args0 about1 = true := code_word (m := ⟨11, 10⟩) (meth := k11m10) (c := k11c10) (by decide +kernel) rfl rfl rfl (by decide +kernel)
set_option maxRecDepth 65536 in
theorem w_c25 : (Jvm.Cond.code ({ cls := "java/lang/StringUTF16", name := "indexOfChar", desc := "([BIII)I" } : Jvm.MethodName) jdk_52_method_47_code (4 : Nat) (Option.some Jvm.ClassFile.FieldType.int)).before args0 about1 = true := code_word (m := ⟨11, 11⟩) (meth := k11m11) (c := k11c11) (by decide +kernel) rfl rfl rfl (by decide +kernel)
set_option maxRecDepth 65536 in
theorem w_c26 : (Jvm.Cond.code ({ cls := "java/lang/StringUTF16", name := "checkBoundsBeginEnd", desc := "(II[B)V" } : Jvm.MethodName) jdk_52_method_93_code (3 : Nat) (Option.none : Option Jvm.ClassFile.FieldType)).before args0 about1 = true := code_word (m := ⟨11, 13⟩) (meth := k11m13) (c := k11c13) (by decide +kernel) rfl rfl rfl (by decide +kernel)
set_option maxRecDepth 65536 in
theorem w_c27 : (Jvm.Cond.code ({ cls := "java/lang/StringUTF16", name := "length", desc := "([B)I" } : Jvm.MethodName) jdk_52_method_6_code (1 : Nat) (Option.some Jvm.ClassFile.FieldType.int)).before args0 about1 = true := code_word (m := ⟨11, 5⟩) (meth := k11m5) (c := k11c5) (by decide +kernel) rfl rfl rfl (by decide +kernel)
set_option maxRecDepth 65536 in
theorem w_c28 : (Jvm.Cond.code ({ cls := "java/lang/String", name := "checkBoundsBeginEnd", desc := "(III)V" } : Jvm.MethodName) jdk_42_method_158_code (3 : Nat) (Option.none : Option Jvm.ClassFile.FieldType)).before args0 about1 = true := code_word (m := ⟨7, 8⟩) (meth := k7m8) (c := k7c8) (by decide +kernel) rfl rfl rfl (by decide +kernel)
set_option maxRecDepth 65536 in
theorem w_c29 : (Jvm.Cond.code ({ cls := "jdk/internal/util/Preconditions", name := "checkFromToIndex", desc := "(IIILjava/util/function/BiFunction;)I" } : Jvm.MethodName) jdk_41_method_12_code (4 : Nat) (Option.some Jvm.ClassFile.FieldType.int)).before args0 about1 = true := code_word (m := ⟨12, 1⟩) (meth := k12m1) (c := k12c1) (by decide +kernel) rfl rfl rfl (by decide +kernel)
set_option maxRecDepth 65536 in
theorem w_c30 : (Jvm.Cond.code ({ cls := "java/lang/StringUTF16", name := "indexOfCharUnsafe", desc := "([BIII)I" } : Jvm.MethodName) jdk_52_method_48_code (5 : Nat) (Option.some Jvm.ClassFile.FieldType.int)).before args0 about1 = true := code_word (m := ⟨11, 12⟩) (meth := k11m12) (c := k11c12) (by decide +kernel) rfl rfl rfl (by decide +kernel)
def codes1 : List Jvm.Cond := [Jvm.Cond.code x code maxLocals ret, Jvm.Cond.code ({ cls := "java/lang/String", name := "<init>", desc := "([C)V" } : Jvm.MethodName) jdk_42_method_3_code (2 : Nat) (Option.none : Option Jvm.ClassFile.FieldType), Jvm.Cond.code ({ cls := "java/lang/String", name := "<init>", desc := "([CIILjava/lang/Void;)V" } : Jvm.MethodName) jdk_42_method_149_code (6 : Nat) (Option.none : Option Jvm.ClassFile.FieldType), Jvm.Cond.code ({ cls := "java/lang/Object", name := "<init>", desc := "()V" } : Jvm.MethodName) object_method_1_code (1 : Nat) (Option.none : Option Jvm.ClassFile.FieldType), Jvm.Cond.code ({ cls := "com/example/crisp_bisim/crispbisim/formats/TextCursor", name := "isQuotable", desc := "(Ljava/lang/String;)Z" } : Jvm.MethodName) prog_61_method_10_code (1 : Nat) (Option.some Jvm.ClassFile.FieldType.boolean), Jvm.Cond.code ({ cls := "java/lang/String", name := "indexOf", desc := "(I)I" } : Jvm.MethodName) jdk_42_method_79_code (2 : Nat) (Option.some Jvm.ClassFile.FieldType.int), Jvm.Cond.code ({ cls := "java/lang/String", name := "indexOf", desc := "(II)I" } : Jvm.MethodName) jdk_42_method_80_code (3 : Nat) (Option.some Jvm.ClassFile.FieldType.int), Jvm.Cond.code ({ cls := "java/lang/String", name := "isLatin1", desc := "()Z" } : Jvm.MethodName) jdk_42_method_154_code (1 : Nat) (Option.some Jvm.ClassFile.FieldType.boolean), Jvm.Cond.code ({ cls := "java/lang/String", name := "length", desc := "()I" } : Jvm.MethodName) jdk_42_method_54_code (1 : Nat) (Option.some Jvm.ClassFile.FieldType.int), Jvm.Cond.code ({ cls := "java/lang/String", name := "coder", desc := "()B" } : Jvm.MethodName) jdk_42_method_152_code (1 : Nat) (Option.some Jvm.ClassFile.FieldType.byte), Jvm.Cond.code ({ cls := "java/lang/StringLatin1", name := "indexOf", desc := "([BIII)I" } : Jvm.MethodName) jdk_43_method_22_code (4 : Nat) (Option.some Jvm.ClassFile.FieldType.int), Jvm.Cond.code ({ cls := "java/lang/StringLatin1", name := "canEncode", desc := "(I)Z" } : Jvm.MethodName) jdk_43_method_4_code (1 : Nat) (Option.some Jvm.ClassFile.FieldType.boolean), Jvm.Cond.code ({ cls := "java/lang/Math", name := "max", desc := "(II)I" } : Jvm.MethodName) jdk_29_method_65_code (2 : Nat) (Option.some Jvm.ClassFile.FieldType.int), Jvm.Cond.code ({ cls := "java/lang/Math", name := "min", desc := "(II)I" } : Jvm.MethodName) jdk_29_method_69_code (2 : Nat) (Option.some Jvm.ClassFile.FieldType.int), Jvm.Cond.code ({ cls := "java/lang/StringUTF16", name := "compress", desc := "([CII)[B" } : Jvm.MethodName) jdk_52_method_16_code (6 : Nat) (Option.some (Jvm.ClassFile.FieldType.array Jvm.ClassFile.FieldType.byte)), Jvm.Cond.code ({ cls := "java/lang/StringUTF16", name := "compress", desc := "([CI[BII)I" } : Jvm.MethodName) jdk_52_method_21_code (7 : Nat) (Option.some Jvm.ClassFile.FieldType.int), Jvm.Cond.code ({ cls := "java/lang/StringUTF16", name := "coderFromArrayLen", desc := "([BI)B" } : Jvm.MethodName) jdk_52_method_15_code (2 : Nat) (Option.some Jvm.ClassFile.FieldType.byte), Jvm.Cond.code ({ cls := "com/example/crisp_bisim/crispbisim/formats/TextCursorIsQuotablePinLaw", name := "ok", desc := "(C)Z" } : Jvm.MethodName) method_2_code (1 : Nat) (Option.some Jvm.ClassFile.FieldType.boolean), Jvm.Cond.code ({ cls := "java/lang/StringLatin1", name := "indexOfChar", desc := "([BIII)I" } : Jvm.MethodName) jdk_43_method_23_code (6 : Nat) (Option.some Jvm.ClassFile.FieldType.int), Jvm.Cond.code ({ cls := "java/lang/StringUTF16", name := "toBytes", desc := "([CII)[B" } : Jvm.MethodName) jdk_52_method_14_code (5 : Nat) (Option.some (Jvm.ClassFile.FieldType.array Jvm.ClassFile.FieldType.byte)), Jvm.Cond.code ({ cls := "java/lang/StringUTF16", name := "newBytesFor", desc := "(I)[B" } : Jvm.MethodName) jdk_52_method_2_code (1 : Nat) (Option.some (Jvm.ClassFile.FieldType.array Jvm.ClassFile.FieldType.byte)), Jvm.Cond.code ({ cls := "java/lang/StringUTF16", name := "newBytesLength", desc := "(I)I" } : Jvm.MethodName) jdk_52_method_3_code (1 : Nat) (Option.some Jvm.ClassFile.FieldType.int), Jvm.Cond.code ({ cls := "java/lang/StringUTF16", name := "putChar", desc := "([BII)V" } : Jvm.MethodName) jdk_52_method_4_code (3 : Nat) (Option.none : Option Jvm.ClassFile.FieldType), Jvm.Cond.code ({ cls := "java/lang/StringUTF16", name := "getChar", desc := "([BI)C" } : Jvm.MethodName) jdk_52_method_5_code (2 : Nat) (Option.some Jvm.ClassFile.FieldType.char), Jvm.Cond.code ({ cls := "java/lang/StringUTF16", name := "indexOf", desc := "([BIII)I" } : Jvm.MethodName) jdk_52_method_40_code (4 : Nat) (Option.some Jvm.ClassFile.FieldType.int), Jvm.Cond.code ({ cls := "java/lang/StringUTF16", name := "indexOfChar", desc := "([BIII)I" } : Jvm.MethodName) jdk_52_method_47_code (4 : Nat) (Option.some Jvm.ClassFile.FieldType.int), Jvm.Cond.code ({ cls := "java/lang/StringUTF16", name := "checkBoundsBeginEnd", desc := "(II[B)V" } : Jvm.MethodName) jdk_52_method_93_code (3 : Nat) (Option.none : Option Jvm.ClassFile.FieldType), Jvm.Cond.code ({ cls := "java/lang/StringUTF16", name := "length", desc := "([B)I" } : Jvm.MethodName) jdk_52_method_6_code (1 : Nat) (Option.some Jvm.ClassFile.FieldType.int), Jvm.Cond.code ({ cls := "java/lang/String", name := "checkBoundsBeginEnd", desc := "(III)V" } : Jvm.MethodName) jdk_42_method_158_code (3 : Nat) (Option.none : Option Jvm.ClassFile.FieldType), Jvm.Cond.code ({ cls := "jdk/internal/util/Preconditions", name := "checkFromToIndex", desc := "(IIILjava/util/function/BiFunction;)I" } : Jvm.MethodName) jdk_41_method_12_code (4 : Nat) (Option.some Jvm.ClassFile.FieldType.int), Jvm.Cond.code ({ cls := "java/lang/StringUTF16", name := "indexOfCharUnsafe", desc := "([BIII)I" } : Jvm.MethodName) jdk_52_method_48_code (5 : Nat) (Option.some Jvm.ClassFile.FieldType.int)]
set_option maxRecDepth 65536 in
theorem codes_eq : words1.filter isCode = codes1 := rfl
theorem w_codes : ∀ c ∈ words1.filter isCode, c.before args0 about1 = true := by
  rw [codes_eq]
  intro c hc
  simp only [codes1, List.mem_cons, List.not_mem_nil, or_false] at hc
  rcases hc with rfl | rfl | rfl | rfl | rfl | rfl | rfl | rfl | rfl | rfl | rfl | rfl | rfl | rfl | rfl | rfl | rfl | rfl | rfl | rfl | rfl | rfl | rfl | rfl | rfl | rfl | rfl | rfl | rfl | rfl | rfl
  · exact w_c0
  · exact w_c1
  · exact w_c2
  · exact w_c3
  · exact w_c4
  · exact w_c5
  · exact w_c6
  · exact w_c7
  · exact w_c8
  · exact w_c9
  · exact w_c10
  · exact w_c11
  · exact w_c12
  · exact w_c13
  · exact w_c14
  · exact w_c15
  · exact w_c16
  · exact w_c17
  · exact w_c18
  · exact w_c19
  · exact w_c20
  · exact w_c21
  · exact w_c22
  · exact w_c23
  · exact w_c24
  · exact w_c25
  · exact w_c26
  · exact w_c27
  · exact w_c28
  · exact w_c29
  · exact w_c30
set_option maxRecDepth 65536 in
theorem w_t1 : (words1.take 24).all (fun c => isCode c || c.before args0 about1) = true := by decide +kernel
set_option maxRecDepth 65536 in
theorem w_t2 : ((words1.drop 24).take 24).all (fun c => isCode c || c.before args0 about1) = true := by decide +kernel
set_option maxRecDepth 65536 in
theorem w_t3 : (((words1.drop 24).drop 24).take 24).all (fun c => isCode c || c.before args0 about1) = true := by decide +kernel
set_option maxRecDepth 65536 in
theorem w_t4 : ((((words1.drop 24).drop 24).drop 24).take 24).all (fun c => isCode c || c.before args0 about1) = true := by decide +kernel
set_option maxRecDepth 65536 in
theorem w_t5 : (((((words1.drop 24).drop 24).drop 24).drop 24).take 24).all (fun c => isCode c || c.before args0 about1) = true := by decide +kernel
set_option maxRecDepth 65536 in
theorem w_t6 : (((((words1.drop 24).drop 24).drop 24).drop 24).drop 24).all (fun c => isCode c || c.before args0 about1) = true := by decide +kernel
theorem w_tables : (allAtoms (Jvm.Cond.code x code maxLocals ret :: tables_1)).before args0 about1 = true := by
  rw [allAtoms_all]
  show words1.all (fun c => c.before args0 about1) = true
  refine all_split ?_ w_codes
  rw [← List.take_append_drop 24 words1, List.all_append, w_t1, ← List.take_append_drop 24 (words1.drop 24), List.all_append, w_t2, ← List.take_append_drop 24 ((words1.drop 24).drop 24), List.all_append, w_t3, ← List.take_append_drop 24 (((words1.drop 24).drop 24).drop 24), List.all_append, w_t4, ← List.take_append_drop 24 ((((words1.drop 24).drop 24).drop 24).drop 24), List.all_append, w_t5, w_t6]
  rfl
set_option maxRecDepth 65536 in
theorem w_rest : rest_1_c.before args0 about1 = true := by decide +kernel
set_option maxRecDepth 65536 in
theorem w_case : (Jvm.Cond.and given_1 narrow_1).before args0 about1 = true := by decide +kernel
set_option maxRecDepth 65536 in
theorem w_consts : constsHeld consts_1 about1 := Jvm.Lit.constsHeldB_iff.mp (by decide +kernel)
theorem w_applies : (headSpec (Jvm.Cond.code x code maxLocals ret :: tables_1) room_1).applies x e0.platform about1 = true :=
  (Spec.applies_iff w_frames).mpr ⟨w_running, w_runnable, w_alone, w_named, w_hears, w_ripe, w_room, w_tables⟩
theorem atStart : AtStart classFile x code maxLocals ret World_1 tables_1 room_1 Calls_1 rest_1 Pre_1 launch0 p0 e0 about1 theMethod args0 below0 :=
  ⟨lists_1, trivial, launch0.admits_env _ _ _, launch0.least_env, fairChoices_fair.cas, fairChoices_fair.clock, w_frames, w_args, w_heap, w_applies, ⟨w_consts, trivial⟩, w_rest, w_case⟩
end start1
theorem witness_1 : WitnessClaimed_1 := ⟨start1.p0, start1.e0, start1.about1, start1.theMethod, start1.args0, start1.below0, start1.atStart⟩
end Jvm.Pilot.@@N@@
