import JvmDerived
import JvmDerived.Pilot.@@N@@Statement
import JvmDerived.Pilot.@@N@@Code
set_option linter.unusedVariables false
set_option linter.unusedSimpArgs false
@@BLOCK:NumsL.lean.txt@@
namespace Jvm.RoadKit
open Sem ClassFile Op Lib Jvm.Stand Jvm.Free Jvm.LawKit
section New
variable {p : Program} {l : Launch} {e : Env} {R : Room} {s : State} {m : MethodId} {args : Array Value} {below : List Frame} {meth : Method} {c : Code} {T : State} {locs : List Loc} {cells slots : Nat}
theorem retI (X : Stand p l e R s m args below meth c T locs cells slots) (hx : p.tables.exec = Jvm.exec) {pc : Nat} {Ls : Array Slot} {z : Int32} {rest : List Value} (hret : meth.sig.returnType = some .int) (hd : decode c.code pc = .ok (.ireturn, 1)) {fs : List Frame}
    (hl : ∀ (f : JFrame) (acts : List Action), f.method = m → f.locked = none → f.entered = [] → (doReturn e (T.setTop f) acts (some (.int z))).1 = T.setFrames fs) : Steps p.tables e below (T.setTop (mkF m pc Ls (.int z :: rest))) (T.setFrames fs) := by
  have hm' : T.vm.method? m = some meth := X.method'
  have hn : narrow .int (.int z) = .int z := rfl
  show Steps p.tables e below (T.setTop { method := m, pc := pc, locals := Ls, stack := _ :: rest, locked := none }) _
  jvm_step X.here [X.here.top, hx, hd, hm', hret, hn]
  first | (intro acts; rw [hl _ acts rfl rfl rfl]) | rw [hl _ _ rfl rfl rfl]
  exact Steps.refl _
theorem own_retL (X : Stand p l e R s m args below meth c T locs cells slots) (hx : p.tables.exec = Jvm.exec) {pc : Nat} {Ls : Array Slot} {z : Int64} {rest : List Value} (hret : meth.sig.returnType = some .long) (hd : decode c.code pc = .ok (.lreturn, 1)) {fs : List Frame}
    (hl : ∀ (f : JFrame) (acts : List Action), f.method = m → f.locked = none → f.entered = [] → (doReturn e (T.setTop f) acts (some (.long z))).1 = T.setFrames fs) : Steps p.tables e below (T.setTop (mkF m pc Ls (.long z :: rest))) (T.setFrames fs) := by
  have hm' : T.vm.method? m = some meth := X.method'
  have hn : narrow .long (.long z) = .long z := rfl
  show Steps p.tables e below (T.setTop { method := m, pc := pc, locals := Ls, stack := _ :: rest, locked := none }) _
  jvm_step X.here [X.here.top, hx, hd, hm', hret, hn]
  first | (intro acts; rw [hl _ acts rfl rfl rfl]) | rw [hl _ _ rfl rfl rfl]
  exact Steps.refl _
theorem own_retD (X : Stand p l e R s m args below meth c T locs cells slots) (hx : p.tables.exec = Jvm.exec) {pc : Nat} {Ls : Array Slot} {z : UInt64} {rest : List Value} (hret : meth.sig.returnType = some .double) (hd : decode c.code pc = .ok (.dreturn, 1)) {fs : List Frame}
    (hl : ∀ (f : JFrame) (acts : List Action), f.method = m → f.locked = none → f.entered = [] → (doReturn e (T.setTop f) acts (some (.double z))).1 = T.setFrames fs) : Steps p.tables e below (T.setTop (mkF m pc Ls (.double z :: rest))) (T.setFrames fs) := by
  have hm' : T.vm.method? m = some meth := X.method'
  have hn : narrow .double (.double z) = .double z := rfl
  show Steps p.tables e below (T.setTop { method := m, pc := pc, locals := Ls, stack := _ :: rest, locked := none }) _
  jvm_step X.here [X.here.top, hx, hd, hm', hret, hn]
  first | (intro acts; rw [hl _ acts rfl rfl rfl]) | rw [hl _ _ rfl rfl rfl]
  exact Steps.refl _
end New
end Jvm.RoadKit
namespace Jvm.RoadKit
open Sem ClassFile Op Lib Jvm.Stand Jvm.Free Jvm.LawKit Bundle Jvm.Free.Exc Jvm.Lib.Cold
section OwnExc
variable {p : Program} {l : Launch} {e : Env} {R : Room} {s : State} {m : MethodId} {args : Array Value} {below : List Frame} {meth : Method} {c : Code} {T : State} {locs : List Loc} {cells slots : Nat} {Z : State} {a0 : Array Value} {h : Heap}
/-- the one word on Throwable's own layout that the sheet does not bear -/
abbrev own_lack : Cond := Cond.lays tN tN "suppressedExceptions" listD
/-- Throwable's bundle out of the words but that one: the subclass's word stands in for it -/
theorem own_links {rc : String} {pl : Platform} (hrc : rc ≠ tN) (howns : pl.frameOwnsMonitors = true) (hfin : pl.finalization = false) (hpl : pl.magicAccessors = ({} : Platform).magicAccessors) (W : ∀ d ∈ excAtoms rc, d ≠ own_lack → d.before args s = true) :
    ∃ (B : ThrowableC) (st : Field) (un : Field), B.Links pl s ∧ s.vm.findClass tN = some B.cT ∧ s.methodNamed? tFill = some B.fill ∧ s.methodNamed? tFill0 = some B.fill0 ∧ B.fStack = st ∧ B.fUnassigned = un ∧
      (∃ i, s.fieldFound? tN "stackTrace" steD = some (B.cT, B.kT, i, st)) ∧ (∃ i, s.fieldFound? tN "UNASSIGNED_STACK" steD = some (B.cT, B.kT, i, un)) ∧ st.name = "stackTrace" ∧ st.type = .array (.object "java/lang/StackTraceElement") := by
  have w : ∀ d, d ∈ throwableAtoms → d ≠ own_lack → d.holds args s none s [] = true := fun d hd hn => W d (by simp [excAtoms, hd]) hn
  have wr : ∀ d, d ∈ excAtoms rc → d ≠ own_lack → d.holds args s none s [] = true := fun d hd hn => W d hd hn
  have wS := wr (.lays rc tN "suppressedExceptions" listD) (by simp [excAtoms]) (by simp [own_lack, hrc])
  have wT := wr (.lays rc tN "stackTrace" steD) (by simp [excAtoms]) (by simp [own_lack, hrc])
  -- the native, and the class
  obtain ⟨⟨ct, j0⟩, f0, n0, m0, t0, u0, v0, x0⟩ := Cond.native_spec (w (.native tFill0) (by simp [throwableAtoms]) (by simp))
  have hct : s.vm.findClass tN = some ct := findClass_of_methodNamed n0
  obtain ⟨kt, hkt, hnm⟩ := Vm.findClass_spec hct
  obtain ⟨_, k1, _, _, hk1, _, _, -, _, hni⟩ := Cond.superclass_spec hct (w (.superclass tN "java/lang/Object") (by simp [throwableAtoms]) (by simp))
  cases Option.some.inj (hkt.symm.trans hk1)
  obtain ⟨j0', f0', n0', m0', at0, st0, ab0, nm0, ds0⟩ := Cond.ownMethod (x := tFill0) hct hkt (w (.instanceMethod tFill0) (by simp [throwableAtoms]) (by simp))
  obtain rfl : j0 = j0' := by have := Option.some.inj (n0.symm.trans n0'); simpa using this
  cases Option.some.inj (m0.symm.trans m0')
  -- fillInStackTrace()
  obtain ⟨jF, fF, nF, mF, atF, stF, abF, -, -⟩ := Cond.ownMethod (x := tFill) hct hkt (w (.instanceMethod tFill) (by simp [throwableAtoms]) (by simp))
  obtain ⟨fF', cF, mF', hcF, hbF, hlF, hrF, hkF, -, hsF⟩ := Cond.codeSync_spec nF (w (.codeSync tFill LibCode.Throwable.Fill.code 1 (some (.object tN))) (by simp [throwableAtoms]) (by simp))
  cases Option.some.inj (mF.symm.trans mF')
  -- Object's constructor
  obtain ⟨mO, fO, nO, hmO, stO, abO⟩ := Cond.instanceMethod_spec (w (.instanceMethod oInit) (by simp [throwableAtoms]) (by simp))
  obtain ⟨fO', cO, hmO', hcO, hbO, hlO, -, hkO, -, hsO⟩ := Cond.code_spec nO (w (.code oInit ⟨#[0xb1]⟩ 1 none) (by simp [throwableAtoms]) (by simp))
  cases Option.some.inj (hmO.symm.trans hmO')
  obtain ⟨kO, hkO1, hnO1⟩ := Vm.findClass_spec (findClass_of_methodNamed nO)
  obtain ⟨nmO, dsO⟩ := name_of_methodNamed nO hmO
  -- Throwable() is asked by the bundle alone
  obtain ⟨jZ, fZ, nZ, mZ, atZ, -, -, -, -⟩ := Cond.ownMethod (x := tInit0) hct hkt (w (.instanceMethod tInit0) (by simp [throwableAtoms]) (by simp))
  obtain ⟨fZ', cZ, mZ', hcZ, hbZ, hlZ, -, hkZ, -, -⟩ := Cond.code_spec nZ (w (.code tInit0 LibCode.Throwable.Init0.code 1 none) (by simp [throwableAtoms]) (by simp))
  -- links of methods
  obtain ⟨i1, r1, cf, l1, g1, hcf, p1⟩ := Cond.linkedMethod hct hkt nO (w (.methodLink tN 1 oInit) (by simp [throwableAtoms]) (by simp)) pl hpl
  obtain ⟨i27, r27, cf2, l27, g27, hcf2, p27⟩ := Cond.linkedMethod hct hkt nF (w (.methodLink tN 27 tFill) (by simp [throwableAtoms]) (by simp)) pl hpl
  cases Option.some.inj (hcf.symm.trans hcf2)
  obtain ⟨i202, r202, cf3, l202, g202, hcf3, p202⟩ := Cond.linkedMethod hct hkt n0 (w (.methodLink tN 202 tFill0) (by simp [throwableAtoms]) (by simp)) pl hpl
  cases Option.some.inj (hcf.symm.trans hcf3)
  -- links of fields
  obtain ⟨c7, j7, q7, l7, g7, a7, s7, f7, -, -, -⟩ := Cond.ownField (t := .object tN) hct hkt (by decide +kernel) (w (.fieldLink tN 7 tN "cause" "Ljava/lang/Throwable;") (by simp [throwableAtoms]) (by simp)) (w (.lays tN tN "cause" "Ljava/lang/Throwable;") (by simp [throwableAtoms]) (by simp [own_lack])) pl hpl
  obtain ⟨c17, j17, q17, l17, g17, a17, s17, f17, n17, t17, ff17⟩ := Cond.ownField (t := .array (.object "java/lang/StackTraceElement")) hct hkt (by decide +kernel) (w (.fieldLink tN 17 tN "stackTrace" steD) (by simp [throwableAtoms]) (by simp)) wT pl hpl
  obtain ⟨c24, j24, q24, l24, g24, a24, s24, f24, n24, t24, ff24⟩ := Cond.ownField (t := .object "java/util/List") hct hkt (by decide +kernel) (w (.fieldLink tN 24 tN "suppressedExceptions" listD) (by simp [throwableAtoms]) (by simp)) wS pl hpl
  obtain ⟨c13, j13, q13, aS, cS, l13, g13, a13, s13, -, -, hsta, -, -, -, -, ff13⟩ := Cond.ownStatic (t := .array (.object "java/lang/StackTraceElement")) hct hkt (by decide +kernel) (w (.fieldLink tN 13 tN "UNASSIGNED_STACK" steD) (by simp [throwableAtoms]) (by simp)) (w (.laysStatic tN "UNASSIGNED_STACK" steD) (by simp [throwableAtoms]) (by simp)) pl hpl
  obtain ⟨c20, j20, q20, _, _, l20, g20, a20, s20, -, -, -, -, -, -, -, -⟩ := Cond.ownStatic (t := .object "java/util/List") hct hkt (by decide +kernel) (w (.fieldLink tN 20 tN "SUPPRESSED_SENTINEL" listD) (by simp [throwableAtoms]) (by simp)) (w (.laysStatic tN "SUPPRESSED_SENTINEL" listD) (by simp [throwableAtoms]) (by simp)) pl hpl
  obtain ⟨_, _, _, _, _, qM, _, _, _, sM, fM, _⟩ := Cond.lays_spec (w (.lays tN tN "detailMessage" "Ljava/lang/String;") (by simp [throwableAtoms]) (by simp [own_lack]))
  -- the two slots are apart: by the subclass's words
  obtain ⟨cr, kr, _, _, _, _, hcr, hkr, _⟩ := Cond.lays_spec wS
  obtain ⟨-, dS, hdS, hdnS⟩ := Cond.laysAt hcr hkr ff24 wS
  obtain ⟨-, dT, hdT, hdnT⟩ := Cond.laysAt hcr hkr ff17 wT
  have apart := Cond.laysApart hdT hdS hdnT hdnS (by rw [n17, n24]; decide)
  have pF : fF.sig.parameters = [] := by
    have : (parseMethodDescriptor tFill.desc).map (·.parameters) = some [] := by decide +kernel
    rw [hsF] at this; simpa using this
  have p0 : f0.sig.parameters = [.int] := by
    have : (parseMethodDescriptor tFill0.desc).map (·.parameters) = some [.int] := by decide +kernel
    rw [x0] at this; simpa using this
  have pO : fO.sig.parameters.length = 0 := by
    have h1 : (parseMethodDescriptor oInit.desc).map (·.parameters) = some [] := by decide +kernel
    rw [hsO] at h1
    have h2 : fO.sig.parameters = [] := by simpa using h1
    rw [h2]; rfl
  refine ⟨{ cT := ct, kT := kt, cO := ct, aS := aS, fillIdx := jF, fill0Idx := j0, initSIdx := jZ, obj := mO, kObj := kO, methFill := fF, methFill0 := f0, methInitS := fZ, methObj := fO, codeFill := cF, codeInitS := cZ, codeObj := cO, fBack := q7, fDepth := q7, fStack := q17, fCause := q7, fSupp := q24, fMsg := qM, fUnassigned := q13, fSentinel := q20, cfT := cf, ci1 := i1, n1 := r1, ci27 := i27, n27 := r27, ci202 := i202, n202 := r202, ci7 := c7, i7 := j7, ci13 := c13, i13 := j13, ci17 := c17, i17 := j17, ci20 := c20, i20 := j20, ci24 := c24, i24 := j24 }, q17, q13, ?_, hct, nF, n0, rfl, rfl, ⟨j17, ff17⟩, ⟨j13, ff13⟩, n17, t17⟩
  constructor <;> first | exact howns | exact hfin | exact hkt | exact hnm | exact Vm.findClass_boot hct hkt | exact hni | exact Cond.initialized_spec hct hkt (w (.initialized tN) (by simp [throwableAtoms]) (by simp)) | exact hsta | exact atF | exact hcF | exact hbF | exact hlF | exact hkF | exact stF | exact abF | exact hrF | exact pF | exact at0 | exact nm0 | exact ds0 | exact p0 | exact st0 | exact t0 | exact u0 | exact v0 | exact ab0 | exact s17 | exact f17 | exact s13 | exact hkO1 | exact hnO1 | exact hmO | exact nmO | exact stO | exact abO | (rw [dsO]; exact lookupSpecial_of_named nO hmO stO) | exact pO | exact hcO | exact hbO | exact hkO | exact s7 | exact f7 | exact s20 | exact s24 | exact f24 | exact sM | exact fM | exact apart | exact hcf | exact l1 | exact g1 | exact p1 | exact l27 | exact g27 | exact p27 | exact l202 | exact g202 | exact p202 | exact l7 | exact g7 | exact a7 | exact l13 | exact g13 | exact a13 | exact l17 | exact g17 | exact a17 | exact l20 | exact g20 | exact a20 | exact l24 | exact g24 | exact a24
/-- all that is not based at a is kept -/
theorem own_keepS (X : Stand p l e R s m args below meth c T locs cells slots) {a : Addr} (hL : ∀ x ∈ locs, x.base = a) : Keep s.heap T.heap [a] := by
  obtain ⟨-, q1, -, -, -, q2⟩ := X.same
  refine ⟨q1, fun x cl hx hn => ?_, fun x cl hx => ?_⟩
  · obtain ⟨c', h1, h2, h3, h4⟩ := q2 x cl hx
    have hne : x ≠ a := fun z => hn (by simp [z])
    have : c'.slots = cl.slots := Array.ext_getElem? fun i => h4 i fun hm => hne (hL _ hm)
    rw [h2, this] at h1
    exact h1
  · obtain ⟨c', h1, h2, h3, h4⟩ := q2 x cl hx
    exact ⟨c', h1, by rw [h2], by rw [h2], h3⟩
theorem own_untS (X : Stand p l e R s m args below meth c T locs cells slots) {a : Addr} (N : Unt s.heap a) : Unt T.heap a := by
  obtain ⟨-, q1, -, -, -, q2⟩ := X.same
  obtain ⟨cl, h1, h2, h3⟩ := N
  obtain ⟨c', g1, g2, -⟩ := q2 _ _ h1
  exact ⟨c', g1, by rw [g2]; exact h2, by rw [g2]; exact h3⟩
/-- a field of the receiver that fillInStackTrace does not write -/
def own_Filled (Z : State) (h h' : Heap) (a : Addr) : Prop := ∃ C C' : Cell, h[a]? = some C ∧ h'[a]? = some C' ∧ C'.cls = C.cls ∧ C'.vm = C.vm ∧ C'.slots.size = C.slots.size ∧ ∀ i, slotOf Z tN "backtrace" obD ≠ i → slotOf Z tN "depth" "I" ≠ i → slotOf Z tN "stackTrace" steD ≠ i → C'.slots[i]? = C.slots[i]?
theorem own_Filled.exa {h' : Heap} {a : Addr} {C : String} (F : own_Filled Z h h' a) (E : Exa Z h a C) : Exa Z h' a C := by
  obtain ⟨c1, c2, h1, h2, h3, h4, h5, -⟩ := F
  obtain ⟨cl, k, q1, q2, q3, q4, q5⟩ := E
  cases h1.symm.trans q1
  exact ⟨c2, k, h2, by rw [h3]; exact q2, by rw [h3]; exact q3, by rw [h4]; exact q4, fun z => by rw [h5]; exact q5 z⟩
theorem own_Filled.fld {h' : Heap} {a : Addr} {O n d : String} {v : Value} (F : own_Filled Z h h' a) (f : Fld Z h a O n d v) (n1 : slotOf Z tN "backtrace" obD ≠ slotOf Z O n d) (n2 : slotOf Z tN "depth" "I" ≠ slotOf Z O n d) (n3 : slotOf Z tN "stackTrace" steD ≠ slotOf Z O n d) : Fld Z h' a O n d v := by
  obtain ⟨c1, c2, h1, h2, h3, h4, h5, h6⟩ := F
  obtain ⟨cl, cf, k, i, fd, q1, q2, q3, q4, q5, q6, q7⟩ := f
  cases h1.symm.trans q1
  have es : slotOf Z O n d = fd.slot := by simp [slotOf, q2]
  rw [es] at n1 n2 n3
  exact ⟨c2, cf, k, i, fd, h2, q2, q3, by rw [h4]; exact q4, by rw [h4]; exact q5, by rw [h3]; exact q6, (h6 _ n1 n2 n3).trans q7⟩
theorem own_slot (hZ : Z.Warmed39 s.vm) {n d : String} {cf i : Nat} {k : Class} {f : Field} (hf : s.fieldFound? tN n d = some (cf, k, i, f)) : slotOf Z tN n d = f.slot := by
  obtain ⟨c1, k1, i1, q⟩ := Jvm.Free.BdW.found_ride (U := s) (U' := Z) hZ.alike.symm ⟨cf, k, i, hf⟩
  simp [slotOf, q]
set_option maxHeartbeats 4000000 in
theorem own_fill (X : Stand p l e R s m args below meth c T locs cells slots) (hx : p.tables.exec = Jvm.exec) (hl : l.stackTraces = true) (hZ : Z.Warmed39 s.vm) (hown : s.vm.findClass tN = some m.cls) {rc : String} {kI : Nat} (hrc : rc ≠ tN) (hw : ∀ d ∈ excAtoms rc, d ≠ own_lack → d.before a0 Z = true) (wi : (Cond.instantiable rc kI).before a0 Z = true)
    (hT0 : ThS Z s.heap) (hTK : s.vm.MethodsKnown) (hBelow : s.vm.FramesKnown below) (eT : T.heap = h) {a w : Addr} (E : Exa Z h a rc) (N : Unt h a) (B : Fld Z h a tN "backtrace" obD .null) (F : Fld Z h a tN "stackTrace" steD (.ref w)) (S : Sta Z h tN "UNASSIGNED_STACK" steD (.ref w))
    {g : JFrame} (hg : g.method = m) (hsize : g.locals.size = c.maxLocals) {rest : List Value} (hs : g.stack = .ref a :: rest) (hd : decode c.code g.pc = .ok (.invokevirtual 27, 3)) (hf : 3 ≤ R.frames) (hlo : 2 * g.monitorRoom + (rest.map fun v => v.category).sum + 42 ≤ R.locals) (hc : cells + 1 ≤ R.cells) (hsl : slots + 2752 ≤ R.slots) :
    ∃ (T' : State) (L : List Loc), Stand p l e R s m args below meth c T' (locs ++ L) (cells + 1) (slots + 2752) ∧ (∀ x ∈ L, x.base = a) ∧ own_Filled Z h T'.heap a ∧ Steps p.tables e below (T.setTop g) (T'.setTop { g with pc := g.pc + 3, stack := .ref a :: rest }) := by
  have W : ∀ d ∈ excAtoms rc, d ≠ own_lack → d.before args s = true := fun d hd hn => mvX hT0 hZ (List.all_eq_true.mp exc_ok d hd) (hw d hd hn)
  have w' : ∀ d, d ∈ excAtoms rc → d ≠ own_lack → d.holds args s none s [] = true := fun d hd hn => W d hd hn
  have htr : e.platform.stackTraces = true := by rw [X.admits.platform]; exact hl
  obtain ⟨Y, fs, fu, L, yc, yf, y0, rfl, rfl, ⟨is, ffs⟩, ⟨iu, ffu⟩, sn, sty⟩ := own_links (args := args) (pl := e.platform) hrc (by rw [X.admits.platform]) (by rw [X.admits.platform]) (by rw [X.admits.platform]) W
  obtain ⟨cell, u1, u2, u3⟩ := N
  obtain ⟨ce, kx, x1, x2, x3, -, x5⟩ := id E
  cases u1.symm.trans x1
  have al := hZ.alike
  -- the subclass
  have hfound : s.vm.findClass rc = some cell.cls := by rw [al.findClass]; exact x2
  obtain ⟨kX, hkX, heX⟩ := al.2.2 _ _ x3
  obtain ⟨ci, ki, i1, i2, i3, -⟩ := Cond.instantiable_spec wi
  cases x2.symm.trans i1
  cases x3.symm.trans i2
  have hord : kX.kind = .ordinary := by rw [heX]; exact i3
  have hsz : cell.slots.size = kX.instanceTypes.size := by rw [heX]; exact x5 i3
  -- what the receiver and the statics hold
  obtain ⟨c1, cf1, k1, j1, f1, e1, e2, -, -, -, -, e7⟩ := F
  cases u1.symm.trans e1
  obtain ⟨k1', r1, -⟩ := State.fieldFound?_setVm (s := Z) al e2
  cases (show s.fieldFound? tN "stackTrace" steD = _ from r1).symm.trans ffs
  obtain ⟨cf2, j2, k2, f2, st, cS, b1, -, -, b4, b5, b6, b7⟩ := S
  obtain ⟨k2', r2, hek⟩ := State.fieldFound?_setVm (s := Z) al b1
  cases (show s.fieldFound? tN "UNASSIGNED_STACK" steD = _ from r2).symm.trans ffu
  have hst : st = Y.aS := by
    have q := L.statics
    rw [hek] at q
    exact Option.some.inj (b4.symm.trans q)
  subst hst
  obtain ⟨c3, cf3, k3, j3, f3, d1, d2, -, -, -, -, d7⟩ := B
  cases u1.symm.trans d1
  obtain ⟨k3', r3, -⟩ := State.fieldFound?_setVm (s := Z) al d2
  obtain ⟨ci198, i198, fB, hk198, hg198, ha198, hsB, -, hnB, htB, hffB⟩ := Cond.ownField (t := .object "java/lang/Object") yc L.cls (by decide +kernel) (w' (.fieldLink tN 198 tN "backtrace" obD) (by simp [excAtoms]) (by simp)) (w' (.lays tN tN "backtrace" obD) (by simp [excAtoms]) (by simp [own_lack])) e.platform (by rw [X.admits.platform])
  cases (show s.fieldFound? tN "backtrace" obD = _ from r3).symm.trans hffB
  obtain ⟨_, _, cD, kD, iD, fD, _, _, hffD, hstD, _, _, _, _⟩ := Cond.lays_spec (w' (.lays rc tN "depth" "I") (by simp [excAtoms]) (by simp [own_lack]))
  cases Option.some.inj ((Cond.lays_declared (w' (.lays rc tN "depth" "I") (by simp [excAtoms]) (by simp [own_lack])) hffD).symm.trans yc)
  obtain ⟨hkD, hatD⟩ := State.fieldFound?_spec hffD
  cases Option.some.inj (hkD.symm.trans L.cls)
  obtain ⟨hnD, htD⟩ := State.fieldFound?_type hffD (t := .int) (by decide +kernel)
  have hfb := Cond.soleField_find yc L.cls (w' (.soleField tN "backtrace") (by simp [excAtoms]) (by simp)) ha198 hnB hsB
  have hfd := Cond.soleField_find yc L.cls (w' (.soleField tN "depth") (by simp [excAtoms]) (by simp)) hatD hnD hstD
  obtain ⟨comp, cO, kO, -, -, hkO, hkindO, hO⟩ := Cond.arrayOver_spec (w' (.arrayOver (.object "java/lang/Object")) (by simp [excAtoms]) (by simp))
  obtain ⟨tyS, -⟩ := Cond.laysAt hfound hkX ffs (w' (.lays rc tN "stackTrace" steD) (by simp [excAtoms]) (by simp [own_lack]))
  obtain ⟨tyB, -⟩ := Cond.laysAt hfound hkX hffB (w' (.lays rc tN "backtrace" obD) (by simp [excAtoms]) (by simp [own_lack]))
  obtain ⟨tyD, -⟩ := Cond.laysAt hfound hkX hffD (w' (.lays rc tN "depth" "I") (by simp [excAtoms]) (by simp [own_lack]))
  have tk : ∀ {f : Field} {v : Value}, kX.instanceTypes[f.slot]? = some f.type → fits f.type v = true → Jvm.Takes s cell f v := fun {f v} h1 h2 => by
    obtain ⟨q1, q2⟩ := Takes.of_laid (v := v) hkX hord h1 h2
    exact ⟨by rw [hsz]; simpa using q1, by rw [u2]; exact q2⟩
  have hsel0 : selectMethod e.platform s.vm cell.cls Y.fill0 = .method Y.fill0 := by
    obtain ⟨c2, r2, m2, q1, q2, q3, q4, -⟩ := Cond.selects_spec (w' (.selects rc tFill0 tFill0) (by simp [excAtoms]) (by simp))
    cases Option.some.inj (q1.symm.trans hfound)
    cases Option.some.inj (q2.symm.trans (State.methodFound?_of_named y0 (by decide)))
    cases Option.some.inj (q3.symm.trans y0)
    rw [Launch.admits_selectMethod X.admits]; exact q4
  have hneS : Y.aS ≠ a := fun z => by
    rw [z] at b5
    cases u1.symm.trans b5
    rw [u2] at b6; cases b6
  have hknS : cS.vm ≠ .unknown := fun z => by rw [z] at b6; cases b6
  have hSE := W (.selects rc tFill tFill) (by simp [excAtoms]) (by simp)
  have hpay := fillPaysAny (l := l) (R := R) (p := p) (e := e) (below := below) (s := s) (sargs := args) (len := 3) (W := 2 * g.monitorRoom + (rest.map fun v => v.category).sum) hx htr Y L yf (u0 := ⟨.ref w, rfl⟩) (self := a) (cell := cell) (cellS := cS) (fun _ => by rw [u2]; simp) (by rw [u2]; simp) (by rw [u3]) (by rw [u3]) e7 hsel0 hneS hknS b7 (tk tyS (by rw [sty]; rfl))
      ⟨{ ci198 := ci198, i198 := j3, fBack := f3 }, ⟨hk198, hg198, ha198, hsB⟩, d7⟩ hTK hBelow yc hO hkO hkindO hfb hfd (fun x => tk tyB (by rw [htB]; rfl)) (fun x => tk tyD (by rw [htD]; rfl)) (by omega) (by omega)
  obtain ⟨v6, vm6, ⟨T6, L6, c6, n6⟩, hW6, X6, ⟨hv6, C6, n, hn, hD6, q1, q2, q3, q4, hL6, hc6, hn6⟩, st6⟩ := X.virtualBack hx (own := tN) (C := rc) (index := 27) (y := tFill) (z := tFill) hown (W (.methodLink tN 27 tFill) (by simp [excAtoms, throwableAtoms]) (by simp)) (W (.declares tFill) (by simp [excAtoms]) (by simp)) (notFace_of_selects hSE) hSE (W (.instanceMethod tFill) (by simp [excAtoms, throwableAtoms]) (by simp)) (by decide) hpay
    (b := a) (cB := cell.cls) hfound ⟨cell, by rw [eT]; exact u1, rfl, by rw [u2]; rfl⟩ (g := g) hg hsize (Steps.refl _) (argsL := []) (rest := rest)
    (fun sig h => by rw [show parseMethodDescriptor tFill.desc = some ⟨[], some (.object tN)⟩ from by decide +kernel] at h; rw [← Option.some.inj h]; rfl) (by rw [hs]; rfl) (Nat.le_refl _) hd
    (fun vmx hWx => ⟨rfl, by show cells + 1 ≤ R.cells; omega, by show slots + 2752 ≤ R.slots; omega, by show T.heap[a]? = _; rw [eT]; exact u1, by show T.heap[Y.aS]? = _; rw [eT]; exact b5⟩)
  dsimp only [Pt.U, Pt.locs, Pt.cells, Pt.slots] at X6 hD6 hL6 hc6 hn6 st6
  subst hv6 hL6 hc6 hn6
  refine ⟨T6, _, X6.more (Nat.le_refl _) (Nat.add_le_add_left hn _), ?_, ⟨cell, C6, u1, hD6, q1, q2, q3, fun i z1 z2 z3 => q4 i ?_ ?_ ?_⟩, st6⟩
  · intro x hx
    simp only [List.mem_cons, List.not_mem_nil, or_false] at hx
    rcases hx with rfl | rfl | rfl <;> rfl
  · rw [← own_slot hZ hffB]; exact Ne.symm z1
  · rw [← own_slot hZ hffD]; exact Ne.symm z2
  · rw [← own_slot hZ ffs]; exact Ne.symm z3
end OwnExc
end Jvm.RoadKit
/- laws to paste: Road.backV, Road.chN (cut by pick.py; bodies as the Statement names them) -/
namespace Jvm.Pilot.@@N@@
namespace StrChars
open Jvm Sem ClassFile Op Lib Jvm.Stand Jvm.Free.XT Jvm.Free.ALB Jvm.Free.JM Jvm.Free
open Jvm.Lib.Cold (StaticIs)
/-- a char array whose places are chars -/
def Ch (a : Addr) (A : Cell) (U : State) : Prop := Arr .char a A U ∧ Typed .char A
theorem Ch.mv {a : Addr} {A : Cell} {U U' : State} (h : Ch a A U) (hal : U.vm.Alike U'.vm) (hh : U'.heap = U.heap) : Ch a A U' := ⟨h.1.mv hal hh, h.2⟩
theorem Ch.keep {a : Addr} {A : Cell} {U U' : State} (h : Ch a A U) (hal : U.vm.Alike U'.vm) (hk : U'.heap[a]? = some A) : Ch a A U' := ⟨h.1.keep hal hk, h.2⟩
/-- what place i of a char[]'s cell holds -/
def cv (A : Cell) (i : Nat) : Int32 := match A.slots[i]? with | some (.int x) => x | _ => 0
theorem Ch.get {a : Addr} {A : Cell} {U : State} (h : Ch a A U) {i : Nat} (hi : i < A.slots.size) : A.slots[i]? = some (.int (cv A i)) := by
  have e := Array.getElem?_eq_getElem hi
  have f := h.2 i _ e
  unfold cv; rw [e]
  generalize A.slots[i] = v at f
  cases v <;> simp [fits] at f ⊢
/-- the byte that i2b leaves of a char -/
def lo8 (x : Int32) : Int32 := x.toInt8.toInt32
theorem fits_lo8 (y : Int32) : fits .byte (.int (lo8 y)) = true := by
  have h1 := y.toInt8.le_toInt
  have h2 := y.toInt8.toInt_lt
  simp only [lo8, fits, Bool.and_eq_true, decide_eq_true_eq, Int32.le_iff_toInt_le, Int8.toInt_toInt32, show (-128 : Int32).toInt = -128 from by decide, show (127 : Int32).toInt = 127 from by decide]
  omega
/-- A' is A but that each place j of lo .. hi - 1 holds f j -/
def Laid (A A' : Cell) (lo hi : Nat) (f : Nat → Value) : Prop := A'.cls = A.cls ∧ A'.vm = A.vm ∧ A'.slots.size = A.slots.size ∧ ∀ i, A'.slots[i]? = if lo ≤ i ∧ i < hi then some (f i) else A.slots[i]?
theorem Laid.zero (A : Cell) (lo : Nat) (f : Nat → Value) : Laid A A lo (lo + 0) f := ⟨rfl, rfl, rfl, fun i => by rw [if_neg (by omega)]⟩
theorem Laid.step {A Ak : Cell} {lo k : Nat} {f : Nat → Value} {v : Value} (h : Laid A Ak lo k f) (hlo : lo ≤ k) (hk : k < Ak.slots.size) (hv : v = f k) : Laid A (Ak.setSlot k v) lo (k + 1) f := by
  refine ⟨h.1, h.2.1, by simpa [Cell.setSlot] using h.2.2.1, fun i => ?_⟩
  by_cases e : k = i
  · subst e; rw [Cell.slots_setSlot_self v hk, if_pos (by omega), hv]
  · rw [Cell.slots_setSlot_ne v e, h.2.2.2 i]
    by_cases q : lo ≤ i ∧ i < k
    · rw [if_pos q, if_pos (by omega)]
    · rw [if_neg q, if_neg (by omega)]
def U16 : String := "java/lang/StringUTF16"
namespace Cmp5
def yN : MethodName := ⟨"java/lang/StringUTF16", "compress", "([CI[BII)I"⟩
abbrev yB : ByteArray := jdk_52_method_21_code
theorem d0 : decode yB 0 = .ok (.iconst 0, 1) := by decide +kernel
theorem d1 : decode yB 1 = .ok (.istore 5, 2) := by decide +kernel
theorem d3 : decode yB 3 = .ok (.iload 5, 2) := by decide +kernel
theorem d5 : decode yB 5 = .ok (.iload 4, 2) := by decide +kernel
theorem d7 : decode yB 7 = .ok (.if_icmp (.ge) 37, 3) := by decide +kernel
theorem d10 : decode yB 10 = .ok (.aload_n 0, 1) := by decide +kernel
theorem d11 : decode yB 11 = .ok (.iload_n 1, 1) := by decide +kernel
theorem d12 : decode yB 12 = .ok (.caload, 1) := by decide +kernel
theorem d13 : decode yB 13 = .ok (.istore 6, 2) := by decide +kernel
theorem d15 : decode yB 15 = .ok (.iload 6, 2) := by decide +kernel
theorem d17 : decode yB 17 = .ok (.sipush 255, 3) := by decide +kernel
theorem d20 : decode yB 20 = .ok (.if_icmp (.le) 6, 3) := by decide +kernel
theorem d26 : decode yB 26 = .ok (.aload_n 2, 1) := by decide +kernel
theorem d27 : decode yB 27 = .ok (.iload_n 3, 1) := by decide +kernel
theorem d28 : decode yB 28 = .ok (.iload 6, 2) := by decide +kernel
theorem d30 : decode yB 30 = .ok (.i2b, 1) := by decide +kernel
theorem d31 : decode yB 31 = .ok (.bastore, 1) := by decide +kernel
theorem d32 : decode yB 32 = .ok (.iinc 1 1, 3) := by decide +kernel
theorem d35 : decode yB 35 = .ok (.iinc 3 1, 3) := by decide +kernel
theorem d38 : decode yB 38 = .ok (.iinc 5 1, 3) := by decide +kernel
theorem d41 : decode yB 41 = .ok (.goto (-38), 3) := by decide +kernel
theorem d44 : decode yB 44 = .ok (.iload 4, 2) := by decide +kernel
theorem d46 : decode yB 46 = .ok (.ireturn, 1) := by decide +kernel
def site : List Cond := []
def tab : Cond := tabOf yN yB 7 (some .int) site
def P (b : Addr) (A : Cell) (d : Addr) (B : Cell) (o q len : Nat) (args : Array Value) (s : State) : Prop := args = #[.ref b, .int (Int32.ofNat o), .ref d, .int (Int32.ofNat q), .int (Int32.ofNat len)] ∧ Ch b A s ∧ Arr .byte d B s ∧ b ≠ d ∧ o + len ≤ A.slots.size ∧ q + len ≤ B.slots.size ∧ ∀ i, i < len → ¬ 255 < cv A (o + i)
def E (b : Addr) (A : Cell) (d : Addr) (B : Cell) (o q len : Nat) (r : Option Value) (s u : State) : Prop := r = some (.int (Int32.ofNat len)) ∧ ∃ B', Put d B' s u ∧ Laid B B' q (q + len) (fun j => Value.int (lo8 (cv A (o + (j - q)))))
/-- no char of the range above 255: len; the places written hold each char's low byte -/
theorem law (l : Launch) (b : Addr) (A : Cell) (d : Addr) (B : Cell) (o q len : Nat) : Law l yN 5 5 0 0 yB 7 (some .int) site (P b A d B o q len) (E b A d B o q len) (copyLocs d q len) 0 0 := by
  refine Law.of_walk (plainFor_of_name (by decide +kernel)) (by decide +kernel) (by decide +kernel) (by decide) (fun _ _ h => by rw [h.1]; rfl) (fun _ U U' hal hh h => ⟨h.1, h.2.1.mv hal hh, h.2.2.1.mv hal hh, h.2.2.2⟩) (fun r U U' V V' h1 hal h2 h => ⟨h.1, h.2.elim fun B' q => ⟨B', q.1.mv h1 h2, q.2⟩⟩) ?_
  intro p e s m args below meth c s₁ X0 hexec hbytes hml hret hlk hnm hown hh0 W hP
  obtain ⟨rfl, hA, hB, hne, l1, l2, hp⟩ := hP
  have c1 : Steps p.tables e below (s₁.setTop (entryFrame m #[.ref b, .int (Int32.ofNat o), .ref d, .int (Int32.ofNat q), .int (Int32.ofNat len)] 7)) (s₁.setTop (mkF m 0 #[.val (.ref b), .val (.int (Int32.ofNat o)), .val (.ref d), .val (.int (Int32.ofNat q)), .val (.int (Int32.ofNat len)), .unset, .unset] [])) := entry rfl
  have hA0 := hA.1.mv X0.warmed.alike hh0
  have hB0 := hB.mv X0.warmed.alike hh0
  have a31 := hA.1.2.2.2
  have c2 : Steps p.tables e below (s₁.setTop (entryFrame m #[.ref b, .int (Int32.ofNat o), .ref d, .int (Int32.ofNat q), .int (Int32.ofNat len)] 7)) (s₁.setTop (mkF m 3 #[.val (.ref b), .val (.int (Int32.ofNat o)), .val (.ref d), .val (.int (Int32.ofNat q)), .val (.int (Int32.ofNat len)), .val (.int 0), .unset] [])) := c1.trans (by
    refine iconstV X0.here hexec rfl 0 (hb hbytes d0) (by decide) ?_
    refine XS.istore X0.here hexec rfl (hb hbytes d1) rfl rfl ?_
    exact Steps.refl _)
  have loop : ∀ (r i : Nat), i + r = len → ∀ (z : Slot), (z = .unset ∨ ∃ w, z = .val w ∧ w.category = 1) → ∀ (Tl : State) (Bk : Cell), Stand p l e { frames := 0, locals := 0, cells := 0, slots := 0 } s m #[.ref b, .int (Int32.ofNat o), .ref d, .int (Int32.ofNat q), .int (Int32.ofNat len)] below meth c Tl ([] ++ copyLocs d q i) 0 0 → Put d Bk s₁ Tl → Laid B Bk q (q + i) (fun j => Value.int (lo8 (cv A (o + (j - q))))) →
      Steps p.tables e below (s₁.setTop (entryFrame m #[.ref b, .int (Int32.ofNat o), .ref d, .int (Int32.ofNat q), .int (Int32.ofNat len)] 7)) (Tl.setTop (mkF m 3 #[.val (.ref b), .val (.int (Int32.ofNat (o + i))), .val (.ref d), .val (.int (Int32.ofNat (q + i))), .val (.int (Int32.ofNat len)), .val (.int (Int32.ofNat i)), z] [])) → ∃ (T' : State) (B' : Cell) (z' : Slot), Stand p l e { frames := 0, locals := 0, cells := 0, slots := 0 } s m #[.ref b, .int (Int32.ofNat o), .ref d, .int (Int32.ofNat q), .int (Int32.ofNat len)] below meth c T' ([] ++ copyLocs d q len) 0 0 ∧ Put d B' s₁ T' ∧ Laid B B' q (q + len) (fun j => Value.int (lo8 (cv A (o + (j - q))))) ∧
      Steps p.tables e below (s₁.setTop (entryFrame m #[.ref b, .int (Int32.ofNat o), .ref d, .int (Int32.ofNat q), .int (Int32.ofNat len)] 7)) (T'.setTop (mkF m 3 #[.val (.ref b), .val (.int (Int32.ofNat (o + len))), .val (.ref d), .val (.int (Int32.ofNat (q + len))), .val (.int (Int32.ofNat len)), .val (.int (Int32.ofNat len)), z'] [])) := by
    intro r
    induction r with
    | zero =>
      intro i hi z hz Tl Bk Xl pl fl cl
      have hil : i = len := by omega
      rw [hil] at Xl fl cl
      exact ⟨Tl, Bk, z, Xl, pl, fl, cl⟩
    | succ r ih =>
      intro i hi z hz Tl Bk Xl pl fl cl
      have all := X0.warmed.alike.symm.trans Xl.warmed.alike
      have hAl := hA0.keep all (pl.other hne hA0.1)
      have hBk := hB0.like all pl.1 fl.1 fl.2.1 fl.2.2.1
      have hlt : q + i < Bk.slots.size := by rw [fl.2.2.1]; omega
      have c3 : Steps p.tables e below (s₁.setTop (entryFrame m #[.ref b, .int (Int32.ofNat o), .ref d, .int (Int32.ofNat q), .int (Int32.ofNat len)] 7)) (Tl.setTop (mkF m 12 #[.val (.ref b), .val (.int (Int32.ofNat (o + i))), .val (.ref d), .val (.int (Int32.ofNat (q + i))), .val (.int (Int32.ofNat len)), .val (.int (Int32.ofNat i)), z] [.int (Int32.ofNat (o + i)), .ref b])) := cl.trans (by
        refine XS.iload Xl.here hexec rfl (hb hbytes d3) rfl ?_
        refine XS.iload Xl.here hexec rfl (hb hbytes d5) rfl ?_
        refine XS.icmpNo Xl.here hexec rfl (hb hbytes d7) rfl (ii_ge_f (lt32 (by omega) (by omega))) ?_
        refine XS.aloadN Xl.here hexec rfl (hb hbytes d10) rfl rfl ?_
        refine XS.iloadN Xl.here hexec rfl (hb hbytes d11) rfl ?_
        exact Steps.refl _)
      have c4 : Steps p.tables e below (s₁.setTop (entryFrame m #[.ref b, .int (Int32.ofNat o), .ref d, .int (Int32.ofNat q), .int (Int32.ofNat len)] 7)) (Tl.setTop (mkF m 13 #[.val (.ref b), .val (.int (Int32.ofNat (o + i))), .val (.ref d), .val (.int (Int32.ofNat (q + i))), .val (.int (Int32.ofNat len)), .val (.int (Int32.ofNat i)), z] [.int (cv A (o + i))])) := c3.trans (by
        refine Xl.aget hexec hAl rfl (hA.get (i := o + i) (by omega)) rfl rfl (hb hbytes d12) ?_
        exact Steps.refl _)
      have c5 : Steps p.tables e below (s₁.setTop (entryFrame m #[.ref b, .int (Int32.ofNat o), .ref d, .int (Int32.ofNat q), .int (Int32.ofNat len)] 7)) (Tl.setTop (mkF m 15 #[.val (.ref b), .val (.int (Int32.ofNat (o + i))), .val (.ref d), .val (.int (Int32.ofNat (q + i))), .val (.int (Int32.ofNat len)), .val (.int (Int32.ofNat i)), .val (.int (cv A (o + i)))] [])) := c4.trans (by
        refine XS.istoreS Xl.here hexec rfl (hb hbytes d13) rfl rfl hz ?_
        exact Steps.refl _)
      have c6 : Steps p.tables e below (s₁.setTop (entryFrame m #[.ref b, .int (Int32.ofNat o), .ref d, .int (Int32.ofNat q), .int (Int32.ofNat len)] 7)) (Tl.setTop (mkF m 31 #[.val (.ref b), .val (.int (Int32.ofNat (o + i))), .val (.ref d), .val (.int (Int32.ofNat (q + i))), .val (.int (Int32.ofNat len)), .val (.int (Int32.ofNat i)), .val (.int (cv A (o + i)))] [.int (lo8 (cv A (o + i))), .int (Int32.ofNat (q + i)), .ref d])) := c5.trans (by
        refine XS.iload Xl.here hexec rfl (hb hbytes d15) rfl ?_
        refine sipushV Xl.here hexec rfl 255 (hb hbytes d17) (by decide) ?_
        refine XS.icmpYes Xl.here hexec rfl (pc0 := 20) rfl (hb hbytes d20) rfl (ii_le_t (hp i (by omega))) (by decide) rfl ?_
        refine XS.aloadN Xl.here hexec rfl (hb hbytes d26) rfl rfl ?_
        refine XS.iloadN Xl.here hexec rfl (hb hbytes d27) rfl ?_
        refine XS.iload Xl.here hexec rfl (hb hbytes d28) rfl ?_
        refine i2b Xl.here hexec rfl (hb hbytes d30) rfl ?_
        exact Steps.refl _)
      obtain ⟨T7, X7, p7, st7⟩ := Xl.aput hexec hBk rfl hlt rfl (fits_lo8 (cv A (o + i))) (g := (mkF m 31 #[.val (.ref b), .val (.int (Int32.ofNat (o + i))), .val (.ref d), .val (.int (Int32.ofNat (q + i))), .val (.int (Int32.ofNat len)), .val (.int (Int32.ofNat i)), .val (.int (cv A (o + i)))] [.int (lo8 (cv A (o + i))), .int (Int32.ofNat (q + i)), .ref d])) rfl (rest := []) rfl (hb hbytes d31)
      have c8 : Steps p.tables e below (s₁.setTop (entryFrame m #[.ref b, .int (Int32.ofNat o), .ref d, .int (Int32.ofNat q), .int (Int32.ofNat len)] 7)) (T7.setTop (mkF m 32 #[.val (.ref b), .val (.int (Int32.ofNat (o + i))), .val (.ref d), .val (.int (Int32.ofNat (q + i))), .val (.int (Int32.ofNat len)), .val (.int (Int32.ofNat i)), .val (.int (cv A (o + i)))] [])) := c6.trans (st7 _ (Steps.refl _))
      have c9 : Steps p.tables e below (s₁.setTop (entryFrame m #[.ref b, .int (Int32.ofNat o), .ref d, .int (Int32.ofNat q), .int (Int32.ofNat len)] 7)) (T7.setTop (mkF m 3 #[.val (.ref b), .val (.int (Int32.ofNat (o + i) + 1)), .val (.ref d), .val (.int (Int32.ofNat (q + i) + 1)), .val (.int (Int32.ofNat len)), .val (.int (Int32.ofNat i + 1)), .val (.int (cv A (o + i)))] [])) := c8.trans (by
        refine iincV X7.here hexec rfl 1 (hb hbytes d32) (by decide) rfl rfl ?_
        refine iincV X7.here hexec rfl 1 (hb hbytes d35) (by decide) rfl rfl ?_
        refine iincV X7.here hexec rfl 1 (hb hbytes d38) (by decide) rfl rfl ?_
        refine XS.goto X7.here hexec rfl (pc0 := 41) rfl (hb hbytes d41) (by decide) rfl ?_
        exact Steps.refl _)
      have c10 : Steps p.tables e below (s₁.setTop (entryFrame m #[.ref b, .int (Int32.ofNat o), .ref d, .int (Int32.ofNat q), .int (Int32.ofNat len)] 7)) (T7.setTop (mkF m 3 #[.val (.ref b), .val (.int (Int32.ofNat (o + (i + 1)))), .val (.ref d), .val (.int (Int32.ofNat (q + (i + 1)))), .val (.int (Int32.ofNat len)), .val (.int (Int32.ofNat (i + 1))), .val (.int (cv A (o + i)))] [])) := by
        have := c9
        rw [succ32, succ32, succ32] at this
        exact this
      exact ih (i + 1) (by omega) _ (Or.inr ⟨_, rfl, rfl⟩) T7 _ (by rw [copyLocs_step, ← List.append_assoc]; exact X7) (pl.trans p7) (fl.step (by omega) hlt (by simp)) c10
  obtain ⟨T9, B9, z9, X9, p9, f9, g9⟩ := loop len 0 (by omega) .unset (Or.inl rfl) s₁ B (by simpa [copyLocs] using X0) ⟨hB0.1, fun _ _ => rfl, rfl⟩ (Laid.zero _ _ _) c2
  have c11 : Steps p.tables e below (s₁.setTop (entryFrame m #[.ref b, .int (Int32.ofNat o), .ref d, .int (Int32.ofNat q), .int (Int32.ofNat len)] 7)) (T9.setTop (mkF m 46 #[.val (.ref b), .val (.int (Int32.ofNat (o + len))), .val (.ref d), .val (.int (Int32.ofNat (q + len))), .val (.int (Int32.ofNat len)), .val (.int (Int32.ofNat len)), z9] [.int (Int32.ofNat len)])) := g9.trans (by
    refine XS.iload X9.here hexec rfl (hb hbytes d3) rfl ?_
    refine XS.iload X9.here hexec rfl (hb hbytes d5) rfl ?_
    refine XS.icmpYes X9.here hexec rfl (pc0 := 7) rfl (hb hbytes d7) rfl (ii_ge_t (nlt32 (by omega) (Nat.le_refl _))) (by decide) rfl ?_
    refine XS.iload X9.here hexec rfl (hb hbytes d44) rfl ?_
    exact Steps.refl _)
  exact ⟨T9, some (.int (Int32.ofNat len)), _, _, _, X9, by simp, rfl, rfl, (fun h => by cases h), ⟨rfl, B9, p9.from hh0, f9⟩, fun fs hl => c11.trans (X9.ireturnOut hexec hret rfl (Or.inl rfl) (hb hbytes d46) hl)⟩
end Cmp5
namespace Cmp3
def yN : MethodName := ⟨"java/lang/StringUTF16", "compress", "([CII)[B"⟩
abbrev yB : ByteArray := jdk_52_method_16_code
theorem d0 : decode yB 0 = .ok (.iload_n 2, 1) := by decide +kernel
theorem d1 : decode yB 1 = .ok (.newarray .byte, 2) := by decide +kernel
theorem d3 : decode yB 3 = .ok (.astore_n 3, 1) := by decide +kernel
theorem d4 : decode yB 4 = .ok (.aload_n 0, 1) := by decide +kernel
theorem d5 : decode yB 5 = .ok (.iload_n 1, 1) := by decide +kernel
theorem d6 : decode yB 6 = .ok (.aload_n 3, 1) := by decide +kernel
theorem d7 : decode yB 7 = .ok (.iconst 0, 1) := by decide +kernel
theorem d8 : decode yB 8 = .ok (.iload_n 2, 1) := by decide +kernel
theorem d9 : decode yB 9 = .ok (.invokestatic 115, 3) := by decide +kernel
theorem d12 : decode yB 12 = .ok (.istore 4, 2) := by decide +kernel
theorem d14 : decode yB 14 = .ok (.iload 4, 2) := by decide +kernel
theorem d16 : decode yB 16 = .ok (.iload_n 2, 1) := by decide +kernel
theorem d17 : decode yB 17 = .ok (.if_icmp (.eq) 40, 3) := by decide +kernel
theorem d57 : decode yB 57 = .ok (.aload_n 3, 1) := by decide +kernel
theorem d58 : decode yB 58 = .ok (.areturn, 1) := by decide +kernel
def site : List Cond := [.arrayClass .byte, Cmp5.tab] ++ staticW U16 115 Cmp5.yN
def tab : Cond := tabOf yN yB 6 (some (.array .byte)) site
def P (b : Addr) (A : Cell) (o len : Nat) (args : Array Value) (s : State) : Prop := args = #[.ref b, .int (Int32.ofNat o), .int (Int32.ofNat len)] ∧ Ch b A s ∧ o + len ≤ A.slots.size ∧ len ≤ 536870912 ∧ ∀ i, i < len → ¬ 255 < cv A (o + i)
def E (b : Addr) (A : Cell) (o len : Nat) (r : Option Value) (s u : State) : Prop := NewArr .byte "[B" len (fun j => .int (lo8 (cv A (o + j)))) r s u ∧ u.heap.size = s.heap.size + 1
/-- no char of the range above 255: a new byte[] of their low bytes -/
theorem law (l : Launch) (b : Addr) (A : Cell) (o len : Nat) : Law l yN 3 3 1 18 yB 6 (some (.array .byte)) site (P b A o len) (E b A o len) [] 1 len := by
  refine Law.of_walk (plainFor_of_name (by decide +kernel)) (by decide +kernel) (by decide +kernel) (by decide) (fun _ _ h => by rw [h.1]; rfl) (fun _ U U' hal hh h => ⟨h.1, h.2.1.mv hal hh, h.2.2⟩) (fun r U U' V V' h1 hal h2 h => ⟨NewArr.mv r U U' V V' h1 hal h2 h.1, by rw [h1, h2]; exact h.2⟩) ?_
  intro p e s m args below meth c s₁ X0 hexec hbytes hml hret hlk hnm hown hh0 W hP
  obtain ⟨rfl, hA, l1, l2, hp⟩ := hP
  have a31 := hA.1.2.2.2
  have c1 : Steps p.tables e below (s₁.setTop (entryFrame m #[.ref b, .int (Int32.ofNat o), .int (Int32.ofNat len)] 6)) (s₁.setTop (mkF m 0 #[.val (.ref b), .val (.int (Int32.ofNat o)), .val (.int (Int32.ofNat len)), .unset, .unset, .unset] [])) := entry rfl
  have c2 : Steps p.tables e below (s₁.setTop (entryFrame m #[.ref b, .int (Int32.ofNat o), .int (Int32.ofNat len)] 6)) (s₁.setTop (mkF m 1 #[.val (.ref b), .val (.int (Int32.ofNat o)), .val (.int (Int32.ofNat len)), .unset, .unset, .unset] [.int (Int32.ofNat len)])) := c1.trans (by
    refine XS.iloadN X0.here hexec rfl (hb hbytes d0) rfl ?_
    exact Steps.refl _)
  obtain ⟨T3, B3, X3, ba3, bs3, bv3, bh3, bf3, st3⟩ := X0.anew hexec (atype := .byte) (wk W (.arrayClass .byte)) rfl (by show len * 1 ≤ _; omega) (by omega) (g := (mkF m 1 #[.val (.ref b), .val (.int (Int32.ofNat o)), .val (.int (Int32.ofNat len)), .unset, .unset, .unset] [.int (Int32.ofNat len)])) rfl (hb hbytes d1) (rest := []) rfl (Nat.le_refl _) (by show 0 + len ≤ len; omega)
  rw [hh0] at ba3 st3
  have kp3 : XT.Kept s T3 := (XT.Kept.of_eq hh0).push bh3
  have hA3 := hA.keep X3.warmed.alike (kp3 _ _ hA.1.1)
  have hne : b ≠ s.heap.size := hA.1.ne
  have c4 : Steps p.tables e below (s₁.setTop (entryFrame m #[.ref b, .int (Int32.ofNat o), .int (Int32.ofNat len)] 6)) (T3.setTop (mkF m 3 #[.val (.ref b), .val (.int (Int32.ofNat o)), .val (.int (Int32.ofNat len)), .unset, .unset, .unset] [.ref s.heap.size])) := c2.trans (st3 _ (Steps.refl _))
  have c5 : Steps p.tables e below (s₁.setTop (entryFrame m #[.ref b, .int (Int32.ofNat o), .int (Int32.ofNat len)] 6)) (T3.setTop (mkF m 9 #[.val (.ref b), .val (.int (Int32.ofNat o)), .val (.int (Int32.ofNat len)), .val (.ref s.heap.size), .unset, .unset] [.int (Int32.ofNat len), .int 0, .ref s.heap.size, .int (Int32.ofNat o), .ref b])) := c4.trans (by
    refine XS.astoreN X3.here hexec rfl (hb hbytes d3) rfl rfl rfl ?_
    refine XS.aloadN X3.here hexec rfl (hb hbytes d4) rfl rfl ?_
    refine XS.iloadN X3.here hexec rfl (hb hbytes d5) rfl ?_
    refine XS.aloadN X3.here hexec rfl (hb hbytes d6) rfl rfl ?_
    refine iconstV X3.here hexec rfl 0 (hb hbytes d7) (by decide) ?_
    refine XS.iloadN X3.here hexec rfl (hb hbytes d8) rfl ?_
    exact Steps.refl _)
  obtain ⟨v6, T6, X6, E6, g6⟩ := X3.callS hexec (Cmp5.law l b A s.heap.size B3 o 0 len) hown (wks W (staticW U16 115 Cmp5.yN)) (wk W Cmp5.tab) (W := 0) (Nat.le_of_ble_eq_true rfl) (Nat.le_of_ble_eq_true rfl) (Nat.le_refl _) (by show 0 + len + 0 ≤ len; omega) (g := (mkF m 9 #[.val (.ref b), .val (.int (Int32.ofNat o)), .val (.int (Int32.ofNat len)), .val (.ref s.heap.size), .unset, .unset] [.int (Int32.ofNat len), .int (Int32.ofNat 0), .ref s.heap.size, .int (Int32.ofNat o), .ref b])) rfl (by rw [hml]; rfl) c5 (argsL := [.ref b, .int (Int32.ofNat o), .ref s.heap.size, .int (Int32.ofNat 0), .int (Int32.ofNat len)]) (rest := []) rfl rfl (by show 2 * 0 + 0 ≤ _; decide) (hb hbytes d9) (⟨rfl, hA3, ba3, hne, l1, by rw [bs3]; simp, hp⟩)
  obtain ⟨rfl, B6, p6, f6⟩ := E6
  have c7 : Steps p.tables e below (s₁.setTop (entryFrame m #[.ref b, .int (Int32.ofNat o), .int (Int32.ofNat len)] 6)) (T6.setTop (mkF m 12 #[.val (.ref b), .val (.int (Int32.ofNat o)), .val (.int (Int32.ofNat len)), .val (.ref s.heap.size), .unset, .unset] [.int (Int32.ofNat len)])) := g6
  have c8 : Steps p.tables e below (s₁.setTop (entryFrame m #[.ref b, .int (Int32.ofNat o), .int (Int32.ofNat len)] 6)) (T6.setTop (mkF m 58 #[.val (.ref b), .val (.int (Int32.ofNat o)), .val (.int (Int32.ofNat len)), .val (.ref s.heap.size), .val (.int (Int32.ofNat len)), .unset] [.ref s.heap.size])) := c7.trans (by
    refine XS.istore X6.here hexec rfl (hb hbytes d12) rfl rfl ?_
    refine XS.iload X6.here hexec rfl (hb hbytes d14) rfl ?_
    refine XS.iloadN X6.here hexec rfl (hb hbytes d16) rfl ?_
    refine XS.icmpYes X6.here hexec rfl (pc0 := 17) rfl (hb hbytes d17) rfl (ii_eq_t rfl) (by decide) rfl ?_
    refine XS.aloadN X6.here hexec rfl (hb hbytes d57) rfl rfl ?_
    exact Steps.refl _)
  have X8 := X6.wide (L' := []) (cells' := 1) (slots' := len) (fun x hx hlt => by
    simp only [List.nil_append, copyLocs, List.mem_map, List.mem_range] at hx
    obtain ⟨i, -, rfl⟩ := hx
    exact absurd hlt (Nat.lt_irrefl _)) (Nat.le_refl _) (by omega)
  exact ⟨T6, some (.ref s.heap.size), _, _, _, X8, rfl, rfl, rfl, (fun h => by cases h), ⟨⟨rfl, B6, ba3.like (X3.warmed.alike.symm.trans X6.warmed.alike) p6.1 f6.1 f6.2.1 f6.2.2.1, f6.2.1.trans bv3, by rw [X6.warmed.alike.findClass, f6.1]; exact bf3, by rw [f6.2.2.1, bs3]; simp, fun j hj => by rw [f6.2.2.2 j, if_pos (by omega)]; rfl, kp3.put p6 (Nat.le_refl _)⟩, by rw [p6.2.2, bh3, hh0]; simp⟩, fun fs hl => c8.trans (X8.areturnOut hexec rfl hret rfl (hb hbytes d58) hl)⟩
end Cmp3
namespace CodL
def yN : MethodName := ⟨"java/lang/StringUTF16", "coderFromArrayLen", "([BI)B"⟩
abbrev yB : ByteArray := jdk_52_method_15_code
theorem d0 : decode yB 0 = .ok (.iload_n 1, 1) := by decide +kernel
theorem d1 : decode yB 1 = .ok (.aload_n 0, 1) := by decide +kernel
theorem d2 : decode yB 2 = .ok (.arraylength, 1) := by decide +kernel
theorem d3 : decode yB 3 = .ok (.isub, 1) := by decide +kernel
theorem d4 : decode yB 4 = .ok (.bipush 31, 2) := by decide +kernel
theorem d6 : decode yB 6 = .ok (.iushr, 1) := by decide +kernel
theorem d7 : decode yB 7 = .ok (.i2b, 1) := by decide +kernel
theorem d8 : decode yB 8 = .ok (.ireturn, 1) := by decide +kernel
def site : List Cond := []
def tab : Cond := tabOf yN yB 2 (some .byte) site
def P (d : Addr) (B : Cell) (args : Array Value) (s : State) : Prop := args = #[.ref d, .int (Int32.ofNat B.slots.size)] ∧ Arr .byte d B s
def E (r : Option Value) (s u : State) : Prop := XT.PureE (some (.int 0)) r s u
/-- an array as long as the number of chars: LATIN1 -/
theorem law (l : Launch) (d : Addr) (B : Cell) : Law l yN 2 2 0 0 yB 2 (some .byte) site (P d B) E [] 0 0 := by
  refine Law.of_walk (plainFor_of_name (by decide +kernel)) (by decide +kernel) (by decide +kernel) (by decide) (fun _ _ h => by rw [h.1]; rfl) (fun _ U U' hal hh h => ⟨h.1, h.2.mv hal hh⟩) (fun r U U' V V' h1 hal h2 h => XT.PureE.mv r U U' V V' h1 hal h2 h) ?_
  intro p e s m args below meth c s₁ X0 hexec hbytes hml hret hlk hnm hown hh0 W hP
  obtain ⟨rfl, hB⟩ := hP
  have hB0 := hB.mv X0.warmed.alike hh0
  have c1 : Steps p.tables e below (s₁.setTop (entryFrame m #[.ref d, .int (Int32.ofNat B.slots.size)] 2)) (s₁.setTop (mkF m 0 #[.val (.ref d), .val (.int (Int32.ofNat B.slots.size))] [])) := entry rfl
  have c2 : Steps p.tables e below (s₁.setTop (entryFrame m #[.ref d, .int (Int32.ofNat B.slots.size)] 2)) (s₁.setTop (mkF m 2 #[.val (.ref d), .val (.int (Int32.ofNat B.slots.size))] [.ref d, .int (Int32.ofNat B.slots.size)])) := c1.trans (by
    refine XS.iloadN X0.here hexec rfl (hb hbytes d0) rfl ?_
    refine XS.aloadN X0.here hexec rfl (hb hbytes d1) rfl rfl ?_
    exact Steps.refl _)
  have c3 : Steps p.tables e below (s₁.setTop (entryFrame m #[.ref d, .int (Int32.ofNat B.slots.size)] 2)) (s₁.setTop (mkF m 8 #[.val (.ref d), .val (.int (Int32.ofNat B.slots.size))] [.int (lo8 (ushr (Int32.ofNat B.slots.size - Int32.ofNat B.slots.size) 31))])) := c2.trans (by
    refine X0.alen hexec hB0 rfl rfl (hb hbytes d2) ?_
    refine XS.isub X0.here hexec rfl (hb hbytes d3) rfl ?_
    refine bipushV X0.here hexec rfl 31 (hb hbytes d4) (by decide) ?_
    refine iushr X0.here hexec rfl (hb hbytes d6) rfl ?_
    refine i2b X0.here hexec rfl (hb hbytes d7) rfl ?_
    exact Steps.refl _)
  have e0 : lo8 (ushr (Int32.ofNat B.slots.size - Int32.ofNat B.slots.size) 31) = 0 := by rw [Int32.sub_self]; decide
  rw [e0] at c3
  exact ⟨s₁, some (.int 0), _, _, _, X0, rfl, rfl, rfl, (fun h => by cases h), ⟨rfl, hh0⟩, fun fs hl => c3.trans (X0.ireturnOut hexec hret rfl (Or.inr (Or.inr (Or.inl rfl))) (hb hbytes d8) hl)⟩
end CodL
/-- the String at a is Latin-1 over a new byte[] (the heap's one new cell): the low bytes of the len chars of A from o on; every cell but a is kept -/
def Got (a : Addr) (D : Cell) (fV fC : Field) (A : Cell) (o len : Nat) (r : Option Value) (s u : State) : Prop := r = none ∧ ∃ D' V : Cell, Blank "java/lang/String" a D' u ∧ Same D D' [fV.slot, fC.slot] ∧ D'.slots[fV.slot]? = some (.ref s.heap.size) ∧ D'.slots[fC.slot]? = some (.int 0) ∧ Arr .byte s.heap.size V u ∧ V.vm = .none ∧ u.vm.findClass "[B" = some V.cls ∧ V.slots.size = len ∧ (∀ j, j < len → V.slots[j]? = some (.int (lo8 (cv A (o + j))))) ∧ (∀ (y : Addr) (c : Cell), y ≠ a → s.heap[y]? = some c → u.heap[y]? = some c) ∧ u.heap.size = s.heap.size + 1
theorem Got.mv {a : Addr} {D A : Cell} {fV fC : Field} {o len : Nat} : ∀ r (U U' V V' : State), U'.heap = U.heap → V.vm.Alike V'.vm → V'.heap = V.heap → Got a D fV fC A o len r U V → Got a D fV fC A o len r U' V' :=
  fun r U U' V V' h1 hal h2 ⟨e0, D', X, a1, a2, a3, a4, a5, a6, a7, a8, a9, a10, a11⟩ => ⟨e0, D', X, a1.mv hal h2, a2, by rw [h1]; exact a3, a4, by rw [h1]; exact a5.mv hal h2, a6, by rw [hal.findClass]; exact a7, a8, a9, by rw [h1, h2]; exact a10, by rw [h1, h2]; exact a11⟩
namespace New4
def yN : MethodName := ⟨"java/lang/String", "<init>", "([CIILjava/lang/Void;)V"⟩
abbrev yB : ByteArray := jdk_42_method_149_code
theorem d0 : decode yB 0 = .ok (.aload_n 0, 1) := by decide +kernel
theorem d1 : decode yB 1 = .ok (.invokespecial 1, 3) := by decide +kernel
theorem d4 : decode yB 4 = .ok (.iload_n 3, 1) := by decide +kernel
theorem d5 : decode yB 5 = .ok (.ifCond (.ne) 22, 3) := by decide +kernel
theorem d27 : decode yB 27 = .ok (.getstatic 38, 3) := by decide +kernel
theorem d30 : decode yB 30 = .ok (.ifCond (.eq) 28, 3) := by decide +kernel
theorem d33 : decode yB 33 = .ok (.aload_n 1, 1) := by decide +kernel
theorem d34 : decode yB 34 = .ok (.iload_n 2, 1) := by decide +kernel
theorem d35 : decode yB 35 = .ok (.iload_n 3, 1) := by decide +kernel
theorem d36 : decode yB 36 = .ok (.invokestatic 177, 3) := by decide +kernel
theorem d39 : decode yB 39 = .ok (.astore 5, 2) := by decide +kernel
theorem d41 : decode yB 41 = .ok (.aload_n 0, 1) := by decide +kernel
theorem d42 : decode yB 42 = .ok (.aload 5, 2) := by decide +kernel
theorem d44 : decode yB 44 = .ok (.iload_n 3, 1) := by decide +kernel
theorem d45 : decode yB 45 = .ok (.invokestatic 47, 3) := by decide +kernel
theorem d48 : decode yB 48 = .ok (.putfield 15, 3) := by decide +kernel
theorem d51 : decode yB 51 = .ok (.aload_n 0, 1) := by decide +kernel
theorem d52 : decode yB 52 = .ok (.aload 5, 2) := by decide +kernel
theorem d54 : decode yB 54 = .ok (.putfield 9, 3) := by decide +kernel
theorem d57 : decode yB 57 = .ok (.return_, 1) := by decide +kernel
def site : List Cond := [.fieldLink "java/lang/String" 38 "java/lang/String" "COMPACT_STRINGS" "Z", Cmp3.tab, CodL.tab, .laysFinal "java/lang/String" "java/lang/String" "value" "[B", .fieldLink "java/lang/String" 9 "java/lang/String" "value" "[B", .laysFinal "java/lang/String" "java/lang/String" "coder" "B", .fieldLink "java/lang/String" 15 "java/lang/String" "coder" "B"] ++ objW "java/lang/String" 1 ++ staticW "java/lang/String" 177 Cmp3.yN ++ staticW "java/lang/String" 47 CodL.yN
def tab : Cond := tabOf yN yB 6 none site
def P (a : Addr) (D : Cell) (fV fC : Field) (b : Addr) (A : Cell) (z : Int32) (o len : Nat) (args : Array Value) (s : State) : Prop := args = #[.ref a, .ref b, .int (Int32.ofNat o), .int (Int32.ofNat len), .null] ∧ Blank "java/lang/String" a D s ∧ Found "java/lang/String" "value" "[B" fV s ∧ Found "java/lang/String" "coder" "B" fC s ∧ Ch b A s ∧ StaticIs s "java/lang/String" "COMPACT_STRINGS" "Z" (.int z) ∧ ¬ z = 0 ∧ 0 < len ∧ o + len ≤ A.slots.size ∧ len ≤ 536870912 ∧ ∀ i, i < len → ¬ 255 < cv A (o + i)
def E (a : Addr) (D : Cell) (fV fC : Field) (A : Cell) (o len : Nat) (r : Option Value) (s u : State) : Prop := Got a D fV fC A o len r s u
/-- len > 0, no char of the range above 255: a Latin-1 String of their low bytes -/
theorem law (l : Launch) (a : Addr) (D : Cell) (fV fC : Field) (b : Addr) (A : Cell) (z : Int32) (o len : Nat) : Law l yN 5 4 2 35 yB 6 none site (P a D fV fC b A z o len) (E a D fV fC A o len) [⟨a, fC.slot⟩, ⟨a, fV.slot⟩] 1 len := by
  refine Law.of_walk (plainFor_of_name (by decide +kernel)) (by decide +kernel) (by decide +kernel) (by decide) (fun _ _ h => by rw [h.1]; rfl) (fun _ U U' hal hh h => ⟨h.1, h.2.1.mv hal hh, h.2.2.1.al hal, h.2.2.2.1.al hal, h.2.2.2.2.1.mv hal hh, h.2.2.2.2.2.1.there hal hh, h.2.2.2.2.2.2⟩) (fun r U U' V V' h1 hal h2 h => Got.mv r U U' V V' h1 hal h2 h) ?_
  intro p e s m args below meth c s₁ X0 hexec hbytes hml hret hlk hnm hown hh0 W hP
  obtain ⟨rfl, hB, f1, f2, hA, s1, hz, l0, l1, l2, hp⟩ := hP
  have a31 := hA.1.2.2.2
  have c1 : Steps p.tables e below (s₁.setTop (entryFrame m #[.ref a, .ref b, .int (Int32.ofNat o), .int (Int32.ofNat len), .null] 6)) (s₁.setTop (mkF m 0 #[.val (.ref a), .val (.ref b), .val (.int (Int32.ofNat o)), .val (.int (Int32.ofNat len)), .val .null, .unset] [])) := entry rfl
  have c2 : Steps p.tables e below (s₁.setTop (entryFrame m #[.ref a, .ref b, .int (Int32.ofNat o), .int (Int32.ofNat len), .null] 6)) (s₁.setTop (mkF m 1 #[.val (.ref a), .val (.ref b), .val (.int (Int32.ofNat o)), .val (.int (Int32.ofNat len)), .val .null, .unset] [.ref a])) := c1.trans (by
    refine XS.aloadN X0.here hexec rfl (hb hbytes d0) rfl rfl ?_
    exact Steps.refl _)
  obtain ⟨T3, X3, q3, st3⟩ := X0.oinit hexec hown (wks W (objW "java/lang/String" 1)) (g := (mkF m 1 #[.val (.ref a), .val (.ref b), .val (.int (Int32.ofNat o)), .val (.int (Int32.ofNat len)), .val .null, .unset] [.ref a])) rfl (by rw [hml]; rfl) (rest := []) rfl (hb hbytes d1) (W := 0) (by show 2 * 0 + 0 ≤ _; decide) (Nat.le_of_ble_eq_true rfl) (Nat.le_of_ble_eq_true rfl)
  have hh3 := q3.trans hh0
  have c4 : Steps p.tables e below (s₁.setTop (entryFrame m #[.ref a, .ref b, .int (Int32.ofNat o), .int (Int32.ofNat len), .null] 6)) (T3.setTop (mkF m 27 #[.val (.ref a), .val (.ref b), .val (.int (Int32.ofNat o)), .val (.int (Int32.ofNat len)), .val .null, .unset] [])) := (c2.trans (st3 _ (Steps.refl _))).trans (by
    refine XS.iloadN X3.here hexec rfl (hb hbytes d4) rfl ?_
    refine XS.ifYes X3.here hexec rfl (pc0 := 5) rfl (hb hbytes d5) rfl (i0_ne_t (nz32 (by omega) l0)) (by decide) rfl ?_
    exact Steps.refl _)
  obtain ⟨T5, X5, q5, st5⟩ := X3.sget hexec hown (wk W (.fieldLink "java/lang/String" 38 "java/lang/String" "COMPACT_STRINGS" "Z")) s1 (fun _ _ h => by rw [hh3]; exact h) (g := (mkF m 27 #[.val (.ref a), .val (.ref b), .val (.int (Int32.ofNat o)), .val (.int (Int32.ofNat len)), .val .null, .unset] [])) rfl (hb hbytes d27)
  have hh5 := q5.trans hh3
  have c6 : Steps p.tables e below (s₁.setTop (entryFrame m #[.ref a, .ref b, .int (Int32.ofNat o), .int (Int32.ofNat len), .null] 6)) (T5.setTop (mkF m 30 #[.val (.ref a), .val (.ref b), .val (.int (Int32.ofNat o)), .val (.int (Int32.ofNat len)), .val .null, .unset] [.int z])) := c4.trans (st5 _ (Steps.refl _))
  have c7 : Steps p.tables e below (s₁.setTop (entryFrame m #[.ref a, .ref b, .int (Int32.ofNat o), .int (Int32.ofNat len), .null] 6)) (T5.setTop (mkF m 36 #[.val (.ref a), .val (.ref b), .val (.int (Int32.ofNat o)), .val (.int (Int32.ofNat len)), .val .null, .unset] [.int (Int32.ofNat len), .int (Int32.ofNat o), .ref b])) := c6.trans (by
    refine XS.ifNo X5.here hexec rfl (hb hbytes d30) rfl (i0_eq_f hz) ?_
    refine XS.aloadN X5.here hexec rfl (hb hbytes d33) rfl rfl ?_
    refine XS.iloadN X5.here hexec rfl (hb hbytes d34) rfl ?_
    refine XS.iloadN X5.here hexec rfl (hb hbytes d35) rfl ?_
    exact Steps.refl _)
  obtain ⟨v8, T8, X8, E8, g8⟩ := X5.callS hexec (Cmp3.law l b A o len) hown (wks W (staticW "java/lang/String" 177 Cmp3.yN)) (wk W Cmp3.tab) (W := 0) (Nat.le_of_ble_eq_true rfl) (Nat.le_of_ble_eq_true rfl) (Nat.le_refl _) (by show 0 + len ≤ len; omega) (g := (mkF m 36 #[.val (.ref a), .val (.ref b), .val (.int (Int32.ofNat o)), .val (.int (Int32.ofNat len)), .val .null, .unset] [.int (Int32.ofNat len), .int (Int32.ofNat o), .ref b])) rfl (by rw [hml]; rfl) c7 (argsL := [.ref b, .int (Int32.ofNat o), .int (Int32.ofNat len)]) (rest := []) rfl rfl (by show 2 * 0 + 0 ≤ _; decide) (hb hbytes d36) (⟨rfl, hA.mv X5.warmed.alike hh5, l1, l2, hp⟩)
  obtain ⟨e8, z8⟩ := E8
  obtain ⟨rfl, N, n1, n2, n3, n4, n5, n6⟩ := NewArr.mv _ T5 s _ _ hh5.symm (Vm.Alike.refl _) rfl e8
  rw [hh5] at z8
  have hB1 := hB.keep X8.warmed.alike (n6 _ _ hB.1)
  have hne : s.heap.size ≠ a := (Nat.ne_of_lt (Array.getElem?_eq_some_iff.mp hB.1).1).symm
  have c9 : Steps p.tables e below (s₁.setTop (entryFrame m #[.ref a, .ref b, .int (Int32.ofNat o), .int (Int32.ofNat len), .null] 6)) (T8.setTop (mkF m 39 #[.val (.ref a), .val (.ref b), .val (.int (Int32.ofNat o)), .val (.int (Int32.ofNat len)), .val .null, .unset] [.ref s.heap.size])) := g8
  have c10 : Steps p.tables e below (s₁.setTop (entryFrame m #[.ref a, .ref b, .int (Int32.ofNat o), .int (Int32.ofNat len), .null] 6)) (T8.setTop (mkF m 45 #[.val (.ref a), .val (.ref b), .val (.int (Int32.ofNat o)), .val (.int (Int32.ofNat len)), .val .null, .val (.ref s.heap.size)] [.int (Int32.ofNat N.slots.size), .ref s.heap.size, .ref a])) := by
    have hc : Steps p.tables e below (s₁.setTop (entryFrame m #[.ref a, .ref b, .int (Int32.ofNat o), .int (Int32.ofNat len), .null] 6)) (T8.setTop (mkF m 45 #[.val (.ref a), .val (.ref b), .val (.int (Int32.ofNat o)), .val (.int (Int32.ofNat len)), .val .null, .val (.ref s.heap.size)] [.int (Int32.ofNat len), .ref s.heap.size, .ref a])) := c9.trans (by
      refine XS.astore X8.here hexec rfl (hb hbytes d39) rfl rfl rfl ?_
      refine XS.aloadN X8.here hexec rfl (hb hbytes d41) rfl rfl ?_
      refine XS.aload X8.here hexec rfl (hb hbytes d42) rfl rfl ?_
      refine XS.iloadN X8.here hexec rfl (hb hbytes d44) rfl ?_
      exact Steps.refl _)
    rw [n4]; exact hc
  obtain ⟨v11, T11, X11, E11, g11⟩ := X8.callS hexec (CodL.law l s.heap.size N) hown (wks W (staticW "java/lang/String" 47 CodL.yN)) (wk W CodL.tab) (W := 1) (Nat.le_of_ble_eq_true rfl) (Nat.le_of_ble_eq_true rfl) (Nat.le_refl _) (by show 0 + len + 0 ≤ len; omega) (g := (mkF m 45 #[.val (.ref a), .val (.ref b), .val (.int (Int32.ofNat o)), .val (.int (Int32.ofNat len)), .val .null, .val (.ref s.heap.size)] [.int (Int32.ofNat N.slots.size), .ref s.heap.size, .ref a])) rfl (by rw [hml]; rfl) c10 (argsL := [.ref s.heap.size, .int (Int32.ofNat N.slots.size)]) (rest := [.ref a]) rfl rfl (by show 2 * 0 + (1 + 0) ≤ _; decide) (hb hbytes d45) (⟨rfl, n1⟩)
  obtain ⟨rfl, q11⟩ := E11
  have hB11 := hB1.mv (X8.warmed.alike.symm.trans X11.warmed.alike) q11
  have c12 : Steps p.tables e below (s₁.setTop (entryFrame m #[.ref a, .ref b, .int (Int32.ofNat o), .int (Int32.ofNat len), .null] 6)) (T11.setTop (mkF m 48 #[.val (.ref a), .val (.ref b), .val (.int (Int32.ofNat o)), .val (.int (Int32.ofNat len)), .val .null, .val (.ref s.heap.size)] [.int 0, .ref a])) := g11
  obtain ⟨T13, X13, p13, bl13, sl13, st13⟩ := X11.finit hexec hown (wk W (.fieldLink "java/lang/String" 15 "java/lang/String" "coder" "B")) (Or.inr ⟨_, (wk W (.laysFinal "java/lang/String" "java/lang/String" "coder" "B"))⟩) (Or.inl ⟨rfl, hnm⟩) f2 (Or.inl rfl) hB11 (t := .byte) (by decide +kernel) rfl (g := (mkF m 48 #[.val (.ref a), .val (.ref b), .val (.int (Int32.ofNat o)), .val (.int (Int32.ofNat len)), .val .null, .val (.ref s.heap.size)] [.int 0, .ref a])) rfl (rest := []) rfl (hb hbytes d48)
  have c14 : Steps p.tables e below (s₁.setTop (entryFrame m #[.ref a, .ref b, .int (Int32.ofNat o), .int (Int32.ofNat len), .null] 6)) (T13.setTop (mkF m 54 #[.val (.ref a), .val (.ref b), .val (.int (Int32.ofNat o)), .val (.int (Int32.ofNat len)), .val .null, .val (.ref s.heap.size)] [.ref s.heap.size, .ref a])) := (c12.trans (st13 _ (Steps.refl _))).trans (by
    refine XS.aloadN X13.here hexec rfl (hb hbytes d51) rfl rfl ?_
    refine XS.aload X13.here hexec rfl (hb hbytes d52) rfl rfl ?_
    exact Steps.refl _)
  obtain ⟨T15, X15, p15, bl15, sl15, st15⟩ := X13.finit hexec hown (wk W (.fieldLink "java/lang/String" 9 "java/lang/String" "value" "[B")) (Or.inr ⟨_, (wk W (.laysFinal "java/lang/String" "java/lang/String" "value" "[B"))⟩) (Or.inl ⟨rfl, hnm⟩) f1 (Or.inl rfl) bl13 (t := (.array .byte)) (by decide +kernel) rfl (g := (mkF m 54 #[.val (.ref a), .val (.ref b), .val (.int (Int32.ofNat o)), .val (.int (Int32.ofNat len)), .val .null, .val (.ref s.heap.size)] [.ref s.heap.size, .ref a])) rfl (rest := []) rfl (hb hbytes d54)
  have c16 : Steps p.tables e below (s₁.setTop (entryFrame m #[.ref a, .ref b, .int (Int32.ofNat o), .int (Int32.ofNat len), .null] 6)) (T15.setTop (mkF m 57 #[.val (.ref a), .val (.ref b), .val (.int (Int32.ofNat o)), .val (.int (Int32.ofNat len)), .val .null, .val (.ref s.heap.size)] [])) := c14.trans (st15 _ (Steps.refl _))
  have ap := apart (Or.inr ⟨_, (wk W (.laysFinal "java/lang/String" "java/lang/String" "value" "[B"))⟩) (Or.inr ⟨_, (wk W (.laysFinal "java/lang/String" "java/lang/String" "coder" "B"))⟩) f1 f2 (t₁ := .array .byte) (t₂ := .byte) (by decide +kernel) (by decide +kernel) (by decide)
  have al := X8.warmed.alike.symm.trans X15.warmed.alike
  have n7 : T11.heap[s.heap.size]? = some N := by rw [q11]; exact n1.1
  exact ⟨T15, none, _, _, _, X15, by simp, rfl, by omega, (fun _ => rfl), ⟨rfl, _, N, bl15, ((Same.refl D _).set _ (by simp)).set _ (by simp), sl15, (Cell.slots_setSlot_ne _ ap).trans sl13, n1.keep al (p15.other hne (p13.other hne n7)), n2, by rw [al.findClass]; exact n3, n4, n5, fun y c h1 h2 => p15.other h1 (p13.other h1 (by rw [q11]; exact n6 y c h2)), by rw [p15.2.2, p13.2.2, q11]; exact z8⟩, fun fs hl => c16.trans (X15.returnOut hexec hret (hb hbytes d57) hl)⟩
end New4
namespace New1
def yN : MethodName := ⟨"java/lang/String", "<init>", "([C)V"⟩
abbrev yB : ByteArray := jdk_42_method_3_code
theorem d0 : decode yB 0 = .ok (.aload_n 0, 1) := by decide +kernel
theorem d1 : decode yB 1 = .ok (.aload_n 1, 1) := by decide +kernel
theorem d2 : decode yB 2 = .ok (.iconst 0, 1) := by decide +kernel
theorem d3 : decode yB 3 = .ok (.aload_n 1, 1) := by decide +kernel
theorem d4 : decode yB 4 = .ok (.arraylength, 1) := by decide +kernel
theorem d5 : decode yB 5 = .ok (.aconst_null, 1) := by decide +kernel
theorem d6 : decode yB 6 = .ok (.invokespecial 27, 3) := by decide +kernel
theorem d9 : decode yB 9 = .ok (.return_, 1) := by decide +kernel
def site : List Cond := [New4.tab] ++ initW "java/lang/String" 27 New4.yN
def tab : Cond := tabOf yN yB 2 none site
def P (a : Addr) (D : Cell) (fV fC : Field) (b : Addr) (A : Cell) (z : Int32) (args : Array Value) (s : State) : Prop := args = #[.ref a, .ref b] ∧ Blank "java/lang/String" a D s ∧ Found "java/lang/String" "value" "[B" fV s ∧ Found "java/lang/String" "coder" "B" fC s ∧ Ch b A s ∧ StaticIs s "java/lang/String" "COMPACT_STRINGS" "Z" (.int z) ∧ ¬ z = 0 ∧ 0 < A.slots.size ∧ A.slots.size ≤ 536870912 ∧ ∀ i, i < A.slots.size → ¬ 255 < cv A i
def E (a : Addr) (D : Cell) (fV fC : Field) (A : Cell) (r : Option Value) (s u : State) : Prop := Got a D fV fC A 0 A.slots.size r s u
/-- new String(chars), not empty, no char above 255: a Latin-1 String of their low bytes -/
theorem law (l : Launch) (a : Addr) (D : Cell) (fV fC : Field) (b : Addr) (A : Cell) (z : Int32) : Law l yN 2 1 3 52 yB 2 none site (P a D fV fC b A z) (E a D fV fC A) [⟨a, fC.slot⟩, ⟨a, fV.slot⟩] 1 A.slots.size := by
  refine Law.of_walk (plainFor_of_name (by decide +kernel)) (by decide +kernel) (by decide +kernel) (by decide) (fun _ _ h => by rw [h.1]; rfl) (fun _ U U' hal hh h => ⟨h.1, h.2.1.mv hal hh, h.2.2.1.al hal, h.2.2.2.1.al hal, h.2.2.2.2.1.mv hal hh, h.2.2.2.2.2.1.there hal hh, h.2.2.2.2.2.2⟩) (fun r U U' V V' h1 hal h2 h => Got.mv r U U' V V' h1 hal h2 h) ?_
  intro p e s m args below meth c s₁ X0 hexec hbytes hml hret hlk hnm hown hh0 W hP
  obtain ⟨rfl, hB, f1, f2, hA, s1, hz, l0, l2, hp⟩ := hP
  have c1 : Steps p.tables e below (s₁.setTop (entryFrame m #[.ref a, .ref b] 2)) (s₁.setTop (mkF m 0 #[.val (.ref a), .val (.ref b)] [])) := entry rfl
  have c2 : Steps p.tables e below (s₁.setTop (entryFrame m #[.ref a, .ref b] 2)) (s₁.setTop (mkF m 6 #[.val (.ref a), .val (.ref b)] [.null, .int (Int32.ofNat A.slots.size), .int 0, .ref b, .ref a])) := c1.trans (by
    refine XS.aloadN X0.here hexec rfl (hb hbytes d0) rfl rfl ?_
    refine XS.aloadN X0.here hexec rfl (hb hbytes d1) rfl rfl ?_
    refine iconstV X0.here hexec rfl 0 (hb hbytes d2) (by decide) ?_
    refine XS.aloadN X0.here hexec rfl (hb hbytes d3) rfl rfl ?_
    refine X0.alen hexec (hA.1.mv X0.warmed.alike hh0) rfl rfl (hb hbytes d4) ?_
    refine XS.aconstNull X0.here hexec rfl (hb hbytes d5) ?_
    exact Steps.refl _)
  obtain ⟨v3, T3, X3, E3, g3⟩ := X0.callN hexec (New4.law l a D fV fC b A z 0 A.slots.size) rfl hown (wks W (initW "java/lang/String" 27 New4.yN)) (W New4.tab (by simp only [site, List.mem_cons, List.mem_append, true_or, or_true])) (W := 0) (Nat.le_of_ble_eq_true rfl) (Nat.le_of_ble_eq_true rfl) (Nat.le_refl _) (by show 0 + A.slots.size ≤ A.slots.size; omega) (g := (mkF m 6 #[.val (.ref a), .val (.ref b)] [.null, .int (Int32.ofNat A.slots.size), .int (Int32.ofNat 0), .ref b, .ref a])) rfl (by rw [hml]; rfl) c2 (argsL := [.ref b, .int (Int32.ofNat 0), .int (Int32.ofNat A.slots.size), .null]) (rest := []) rfl rfl (by show 2 * 0 + 0 ≤ _; decide) (hb hbytes d6) (⟨rfl, hB.mv X0.warmed.alike hh0, f1.al X0.warmed.alike, f2.al X0.warmed.alike, hA.mv X0.warmed.alike hh0, s1.there X0.warmed.alike hh0, hz, l0, by omega, l2, fun i hi => by rw [Nat.zero_add]; exact hp i hi⟩)
  have e0 := Got.mv _ s₁ s _ _ hh0.symm (Vm.Alike.refl _) rfl E3
  obtain rfl := e0.1
  have c4 : Steps p.tables e below (s₁.setTop (entryFrame m #[.ref a, .ref b] 2)) (T3.setTop (mkF m 9 #[.val (.ref a), .val (.ref b)] [])) := g3
  exact ⟨T3, none, _, _, _, X3, by simp, rfl, by omega, (fun _ => rfl), e0, fun fs hl => c4.trans (X3.returnOut hexec hret (hb hbytes d9) hl)⟩
theorem pays {l : Launch} {R : Room} {p : Program} {e : Env} {below : List Frame} {s : State} {sargs : Array Value} {len W : Nat} (a : Addr) (D : Cell) (fV fC : Field) (b : Addr) (A : Cell) (z : Int32) (htab : tab.before sargs s = true) (hfr : 4 ≤ R.frames) (hlo : W + 65 ≤ R.locals) :
    Back l R p e below s sargs yN len W (fun A₁ a₁ => A₁.cells + 1 ≤ R.cells ∧ A₁.slots + A.slots.size ≤ R.slots ∧ P a D fV fC b A z a₁ A₁.U) (fun A₁ _ v₁ B₁ => E a D fV fC A v₁ A₁.U B₁.U ∧ B₁.locs = A₁.locs ++ [⟨a, fC.slot⟩, ⟨a, fV.slot⟩] ∧ B₁.cells = A₁.cells + 1 ∧ B₁.slots = A₁.slots + A.slots.size) :=
  (law l a D fV fC b A z).pays htab hfr (by omega)
end New1
/-- the byte, read back as charAt reads it, is the char -/
theorem lo8_mask {x : Int32} (h0 : ¬ x < 0) (h1 : ¬ 255 < x) : lo8 x &&& 255 = x := by
  have t : ∀ k : Fin 256, lo8 (Int32.ofNat k.val) &&& 255 = Int32.ofNat k.val := by decide +kernel
  rw [Int32.lt_iff_toInt_lt] at h0 h1
  have e0 : (0 : Int32).toInt = 0 := rfl
  have e1 : (255 : Int32).toInt = 255 := rfl
  obtain ⟨k, hk⟩ : ∃ k : Nat, x.toInt = k := ⟨x.toInt.toNat, by omega⟩
  have hx : x = Int32.ofNat k := Int32.toInt_inj.mp (by rw [hk, Int32.toInt_ofNat_small (by omega)])
  rw [hx]
  exact t ⟨k, by omega⟩
end StrChars
namespace StrChars.Road
open Jvm Sem ClassFile Op Lib Jvm.Stand Jvm.Free Jvm.Free.XT
open Jvm.Lib.Cold (StaticIs)
abbrev ST : String := "java/lang/String"
/-- every table word that New1's law asks, flat -/
abbrev words : List Jvm.Cond := [.code New1.yN New1.yB 2 none, .initialized ST, .methodLink ST 27 New4.yN, .instanceMethod New4.yN,
  .code New4.yN New4.yB 6 none, .fieldLink ST 38 ST "COMPACT_STRINGS" "Z", .laysFinal ST ST "value" "[B", .fieldLink ST 9 ST "value" "[B", .laysFinal ST ST "coder" "B", .fieldLink ST 15 ST "coder" "B",
  .methodLink ST 1 Lib.objectInit, .instanceMethod Lib.objectInit, .code Lib.objectInit ⟨#[0xb1]⟩ 1 none, .methodLink ST 177 Cmp3.yN, .static Cmp3.yN, .methodLink ST 47 CodL.yN, .static CodL.yN,
  .code Cmp3.yN Cmp3.yB 6 (some (.array .byte)), .initialized U16, .arrayClass .byte, .methodLink U16 115 Cmp5.yN, .static Cmp5.yN, .code Cmp5.yN Cmp5.yB 7 (some .int), .code CodL.yN CodL.yB 2 (some .byte)]
theorem tab_of {a : Array Value} {s : State} (h : ∀ w ∈ words, w.before a s = true) : New1.tab.before a s = true := by
  have h5 : Cmp5.tab.before a s = true := unparts (wk h (.code Cmp5.yN Cmp5.yB 7 (some .int))) (wks h (.initialized Cmp5.yN.cls :: Cmp5.site))
  have hc : CodL.tab.before a s = true := unparts (wk h (.code CodL.yN CodL.yB 2 (some .byte))) (wks h (.initialized CodL.yN.cls :: CodL.site))
  have q5 : ∀ w ∈ Cmp5.tab :: words, w.before a s = true := fun w hw => (List.mem_cons.mp hw).elim (fun e => e ▸ h5) (h w)
  have h3 : Cmp3.tab.before a s = true := unparts (wk q5 (.code Cmp3.yN Cmp3.yB 6 (some (.array .byte)))) (wks q5 (.initialized Cmp3.yN.cls :: Cmp3.site))
  have q3 : ∀ w ∈ Cmp3.tab :: CodL.tab :: words, w.before a s = true := fun w hw => (List.mem_cons.mp hw).elim (fun e => e ▸ h3) fun hw => (List.mem_cons.mp hw).elim (fun e => e ▸ hc) (h w)
  have h4 : New4.tab.before a s = true := unparts (wk q3 (.code New4.yN New4.yB 6 none)) (wks q3 (.initialized New4.yN.cls :: New4.site))
  have q4 : ∀ w ∈ New4.tab :: words, w.before a s = true := fun w hw => (List.mem_cons.mp hw).elim (fun e => e ▸ h4) (h w)
  exact unparts (wk q4 (.code New1.yN New1.yB 2 none)) (wks q4 (.initialized New1.yN.cls :: New1.site))
/-- the words ride from the start Z to the walk's own state -/
theorem moved {Z s : State} {a0 args : Array Value} (hZ : Z.Warmed39 s.vm) (hw : ∀ d ∈ words, d.before a0 Z = true) : ∀ d ∈ words, d.before args s = true := fun d hd => by
  have q := hw d hd
  have t : ∀ d ∈ words, d = .arrayClass .byte ∨ (d.onTables && d.keepsFace) = true := by decide +kernel
  rcases t d hd with rfl | t
  · exact RoadKit.mvA hZ q
  · exact RoadKit.mv hZ q t
/-- WHAT COMES BACK, over the tables of the start Z: h the heap at the call, h' behind it -/
def Q (Z : State) (x : Addr) (A : Cell) (h : Heap) (v : Option Value) (h' : Heap) (L : List Loc) : Prop := v = none ∧ (∀ y ∈ L, y.base = x) ∧ RoadKit.Keep h h' [x] ∧ h'.size = h.size + 1 ∧ RoadKit.Exa Z h' x ST ∧ RoadKit.Fld Z h' x ST "value" "[B" (.ref h.size) ∧ RoadKit.Fld Z h' x ST "coder" "B" (.int 0) ∧
  (∃ V : Cell, RoadKit.Arr Z h' h.size V .byte ∧ V.vm = .none ∧ Z.vm.findClass "[B" = some V.cls ∧ V.slots.size = A.slots.size ∧ ∀ j, j < A.slots.size → V.slots[j]? = some (.int (lo8 (cv A j)))) ∧
  ∀ (O n d : String) (w : Value), RoadKit.Fld Z h x O n d w → RoadKit.slotOf Z O n d ≠ RoadKit.slotOf Z ST "value" "[B" → RoadKit.slotOf Z O n d ≠ RoadKit.slotOf Z ST "coder" "B" → RoadKit.Fld Z h' x O n d w
/-- **new String(chars) AT A CALL, IN THE ROAD'S FORM**: for specialBack behind newO: x the fresh String, b the char[] with the cell A -/
theorem back {p : Program} {l : Launch} {e : Env} {R : Room} {s : State} {args : Array Value} {below : List Frame} {len W : Nat} {Z : State} {a0 : Array Value} {h : Heap} (hZ : Z.Warmed39 s.vm) (hw : ∀ d ∈ words, d.before a0 Z = true) {kI : Nat} (wi : (Jvm.Cond.instantiable ST kI).before a0 Z = true)
    {x b : Addr} {A : Cell} {z : Int32} {v0 c0 : Value} (E : RoadKit.Exa Z h x ST) (V : RoadKit.Fld Z h x ST "value" "[B" v0) (C : RoadKit.Fld Z h x ST "coder" "B" c0) (K : RoadKit.Arr Z h b A .char) (hty : Typed .char A) (S : RoadKit.Sta Z h ST "COMPACT_STRINGS" "Z" (.int z)) (hz : ¬ z = 0)
    (l0 : 0 < A.slots.size) (l2 : A.slots.size ≤ 536870912) (hp : ∀ i, i < A.slots.size → ¬ 255 < cv A i) (hfr : 4 ≤ R.frames) (hlo : W + 65 ≤ R.locals) :
    Back l R p e below s args New1.yN len W (fun P a => a = #[.ref x, .ref b] ∧ P.U.heap = h ∧ P.cells + 1 ≤ R.cells ∧ P.slots + A.slots.size ≤ R.slots)
      (fun P _ v B => ∃ L, Q Z x A h v B.U.heap L ∧ B.locs = P.locs ++ L ∧ B.cells = P.cells + 1 ∧ B.slots = P.slots + A.slots.size) := by
  intro m meth c P g ig mk a X hg hsize hdg hW hn hp'
  obtain ⟨rfl, rfl, r1, r2⟩ := hp'
  have al : Z.vm.Alike P.U.vm := hZ.alike.trans X.warmed.alike
  obtain ⟨D, cfV, kV, iV, fV, hD, gV, stV, knV, obV, asV, slV⟩ := id V
  obtain ⟨D', cfC, kC, iC, fC, hD', gC, stC, -, -, asC, slC⟩ := id C
  cases hD.symm.trans hD'
  obtain ⟨D2, kD, e1, e2, e3, e4, e5⟩ := id E
  cases hD.symm.trans e1
  obtain ⟨c2, k2, i1, i2, i3, -⟩ := Cond.instantiable_spec wi
  cases e2.symm.trans i1
  cases e3.symm.trans i2
  obtain ⟨kU, u1, u2⟩ := al.2.2 _ _ e3
  have hB : Blank ST x D P.U := ⟨hD, ⟨knV, fun q hq => by rw [hq] at obV; cases obV⟩, by rw [al.findClass]; exact e2, kU, u1, by rw [u2]; exact i3, by rw [u2]; exact e5 i3⟩
  have F1 : Found ST "value" "[B" fV P.U := ⟨SBG.found_only al ⟨cfV, kV, iV, gV⟩, stV⟩
  have F2 : Found ST "coder" "B" fC P.U := ⟨SBG.found_only al ⟨cfC, kC, iC, gC⟩, stC⟩
  have hA : Ch b A P.U := ⟨⟨K.1, State.isArrayOf_alike al K.2.1, K.2.2, by omega⟩, hty⟩
  have hS : StaticIs P.U ST "COMPACT_STRINGS" "Z" (.int z) := by
    obtain ⟨cfS, iS, kS, fS, st, cS, t1, t2, t3, t4, t5, t6, t7⟩ := S
    exact StaticIs.there (s := { Z with heap := P.U.heap }) ⟨cfS, iS, kS, fS, st, cS, t1, t2, t3, t4, t5, (fun q => by rw [q] at t6; cases t6), t7⟩ al rfl
  obtain ⟨v, B, X', ⟨⟨hv, E', V', q1, q2, q3, q4, q5, q6, q7, q8, q9, q10, q11⟩, hl, hc, hs⟩, st⟩ := New1.pays x D fV fC b A z (tab_of (moved hZ hw)) hfr hlo m meth c P g ig mk _ X hg hsize hdg hW hn ⟨r1, r2, rfl, hB, F1, F2, hA, hS, hz, l0, l2, hp⟩
  have al' : Z.vm.Alike B.U.vm := hZ.alike.trans X'.warmed.alike
  have hsz : E'.slots.size = D.slots.size := by
    obtain ⟨-, -, -, kB, w1, w2, w3⟩ := q1
    obtain ⟨kB', y1, y2⟩ := al'.2.2 _ _ e3
    rw [q2.2.1] at w1
    cases w1.symm.trans y1
    rw [w3, e5 i3, y2]
  refine ⟨v, B, X', ⟨_, ⟨hv, ?_, ⟨by omega, fun y cy hy hn' => q10 y cy (by simpa using hn') hy, fun y cy hy => ?_⟩, q11, ⟨E', _, q1.1, by rw [q2.2.1]; exact e2, by rw [q2.2.1]; exact e3, by rw [q2.1]; exact obV, fun _ => by rw [hsz]; exact e5 i3⟩,
    ⟨E', cfV, kV, iV, fV, q1.1, gV, stV, by rw [q2.1]; exact knV, by rw [q2.1]; exact obV, by rw [q2.2.1]; exact asV, q3⟩, ⟨E', cfC, kC, iC, fC, q1.1, gC, stC, by rw [q2.1]; exact knV, by rw [q2.1]; exact obV, by rw [q2.2.1]; exact asC, q4⟩,
    ⟨V', ⟨q5.1, State.isArrayOf_alike al'.symm q5.2.1, q5.2.2.1⟩, q6, by rw [← al'.findClass]; exact q7, q8, fun j hj => by have := q9 j hj; rwa [Nat.zero_add] at this⟩, fun O n d w F n1 n2 => ?_⟩, hl, hc, hs⟩, st⟩
  · intro y hy
    simp only [List.mem_cons, List.not_mem_nil, or_false] at hy
    rcases hy with rfl | rfl <;> rfl
  · by_cases q : y = x
    · subst q
      cases hD.symm.trans hy
      exact ⟨E', q1.1, q2.2.1, q2.1, hsz⟩
    · exact ⟨cy, q10 y cy q hy, rfl, rfl, rfl⟩
  · obtain ⟨D3, cf, k, i, f, g1, g2, g3, g4, g5, g6, g7⟩ := F
    cases hD.symm.trans g1
    simp only [RoadKit.slotOf, g2, gV, gC, Option.map_some, Option.getD_some] at n1 n2
    exact ⟨E', cf, k, i, f, q1.1, g2, g3, by rw [q2.1]; exact g4, by rw [q2.1]; exact g5, by rw [q2.2.1]; exact g6, by rw [q2.2.2 f.slot (by simp [n1, n2])]; exact g7⟩
end StrChars.Road
namespace StrChars.Road
open Jvm Sem ClassFile Op Lib Jvm.Stand Jvm.Free Jvm.Free.XT
/-- WHAT COMES BACK, the byte[] as a list of values -/
def QA (Z : State) (x : Addr) (zn : Int32) (cs : List Int32) (h : Heap) (v : Option Value) (h' : Heap) (L : List Loc) : Prop := v = none ∧ (∀ y ∈ L, y.base = x) ∧ RoadKit.Keep h h' [x] ∧ h'.size = h.size + 1 ∧ RoadKit.Exa Z h' x ST ∧ RoadKit.Fld Z h' x ST "value" "[B" (.ref h.size) ∧ RoadKit.Fld Z h' x ST "coder" "B" (.int 0) ∧
  (∃ kb, Z.vm.findClass "[B" = some kb ∧ RoadKit.Arv Z h' h.size kb .byte zn (cs.map fun c => .int (lo8 c)) (.int 0)) ∧
  ∀ (O n d : String) (w : Value), RoadKit.Fld Z h x O n d w → RoadKit.slotOf Z O n d ≠ RoadKit.slotOf Z ST "value" "[B" → RoadKit.slotOf Z O n d ≠ RoadKit.slotOf Z ST "coder" "B" → RoadKit.Fld Z h' x O n d w
/-- **new String(chars) AT A CALL, THE ARRAYS AS LISTS**: the char[] at b holds cs, not empty, no char above 255 -/
theorem backArv {p : Program} {l : Launch} {e : Env} {R : Room} {s : State} {args : Array Value} {below : List Frame} {len W : Nat} {Z : State} {a0 : Array Value} {h : Heap} (hZ : Z.Warmed39 s.vm) (hw : ∀ d ∈ words, d.before a0 Z = true) {kI : Nat} (wi : (Jvm.Cond.instantiable ST kI).before a0 Z = true)
    {x b : Addr} {k : ClassId} {zn z : Int32} {cs : List Int32} {dv v0 c0 : Value} (E : RoadKit.Exa Z h x ST) (V : RoadKit.Fld Z h x ST "value" "[B" v0) (C : RoadKit.Fld Z h x ST "coder" "B" c0) (K : RoadKit.Arv Z h b k .char zn (cs.map Value.int) dv) (S : RoadKit.Sta Z h ST "COMPACT_STRINGS" "Z" (.int z)) (hz : ¬ z = 0)
    (hlen : zn.toNatClampNeg = cs.length) (h0 : 0 < cs.length) (hbig : cs.length ≤ 536870912) (hall : ∀ c ∈ cs, ¬ 255 < c) (hfr : 4 ≤ R.frames) (hlo : W + 65 ≤ R.locals) :
    Back l R p e below s args New1.yN len W (fun P a => a = #[.ref x, .ref b] ∧ P.U.heap = h ∧ P.cells + 1 ≤ R.cells ∧ P.slots + cs.length ≤ R.slots)
      (fun P _ v B => ∃ L, QA Z x zn cs h v B.U.heap L ∧ B.locs = P.locs ++ L ∧ B.cells = P.cells + 1 ∧ B.slots = P.slots + cs.length) := by
  obtain ⟨A, K1, K2, K3, K4, K5, K6⟩ := K
  have e : A.slots.size = cs.length := K3.trans hlen
  have hat : ∀ (i : Nat) (hi : i < cs.length), A.slots[i]? = some (.int cs[i]) := fun i hi => by rw [K5 i (by omega)]; simp [List.getD_eq_getElem?_getD, hi]
  have hcv : ∀ (i : Nat) (hi : i < cs.length), cv A i = cs[i] := fun i hi => by unfold cv; rw [hat i hi]
  have hty : Typed .char A := fun i v hv => by
    have hi : i < A.slots.size := (Array.getElem?_eq_some_iff.mp hv).1
    have q := K5 i hi
    rw [hv] at q
    rw [Option.some.inj q]
    exact K6 i hi
  refine Back.mono (back hZ hw wi E V C K1 hty S hz (by omega) (by omega) (fun i hi => by rw [hcv i (by omega)]; exact hall _ (List.getElem_mem _)) hfr hlo) (fun P a hp => ⟨hp.1, hp.2.1, hp.2.2.1, by rw [e]; exact hp.2.2.2⟩) (fun P a v B hp hq => ?_)
  obtain ⟨L, ⟨q1, q2, q3, q4, q5, q6, q7, ⟨V', v1, v2, v3, v4, v5⟩, q9⟩, hl, hc, hs⟩ := hq
  refine ⟨L, ⟨q1, q2, q3, q4, q5, q6, q7, ⟨V'.cls, v3, V', v1, rfl, by rw [v4, e, hlen], K4, fun i hi => ?_, fun i hi => ?_⟩, q9⟩, hl, hc, by rw [hs, e]⟩
  · have hi' : i < cs.length := by omega
    rw [v5 i (by omega), hcv i hi']; simp [List.getD_eq_getElem?_getD, hi']
  · have hi' : i < cs.length := by omega
    simp only [List.getD_eq_getElem?_getD, List.getElem?_map, List.getElem?_eq_getElem hi', Option.map_some, Option.getD_some]
    exact fits_lo8 _
end StrChars.Road
namespace StrChars.Road
open Jvm Sem ClassFile Op Lib Jvm.Stand Jvm.Free Jvm.Free.XT
/-- WHAT COMES BACK, in the writer's own shape -/
def QV (Z : State) (x : Addr) (N : Int32) (bs : List Int32) (h : Heap) (n0 : Nat) (v : Option Value) (h' : Heap) (L : List Loc) : Prop := v = none ∧ RoadKit.Fr n0 L ∧ RoadKit.Keep h h' [x] ∧ RoadKit.Exa Z h' x ST ∧ RoadKit.Fld Z h' x ST "coder" "B" (.int 0) ∧
  ∃ (t : Addr) (kb : ClassId), n0 ≤ t ∧ h.size ≤ t ∧ ¬ t = x ∧ RoadKit.Fld Z h' x ST "value" "[B" (.ref t) ∧ RoadKit.Arv Z h' t kb .byte N (bs.map Value.int) (.int 0)
/-- **new String(chars) AT A CALL, FOR THE WRITER**: a char[] of n known ints, each 0 to 255 -/
theorem backV {p : Program} {l : Launch} {e : Env} {R : Room} {s : State} {args : Array Value} {below : List Frame} {len W : Nat} {Z : State} {a0 : Array Value} {h : Heap} (hZ : Z.Warmed39 s.vm) (hw : ∀ d ∈ words, d.before a0 Z = true) {kI : Nat} (wi : (Jvm.Cond.instantiable ST kI).before a0 Z = true)
    {x b : Addr} {kC : ClassId} {cs bs : List Int32} {d v0 c0 : Value} {z N : Int32} {n n0 : Nat} (hx0 : n0 ≤ x) (hh0 : n0 ≤ h.size) (E : RoadKit.Exa Z h x ST) (V : RoadKit.Fld Z h x ST "value" "[B" v0) (C : RoadKit.Fld Z h x ST "coder" "B" c0) (K : RoadKit.Arv Z h b kC .char N (cs.map Value.int) d) (S : RoadKit.Sta Z h ST "COMPACT_STRINGS" "Z" (.int z)) (hz : ¬ z = 0)
    (hn : cs.length = n) (hN : N = Int32.ofNat n) (l0 : 0 < n) (l2 : n ≤ 4000) (hp : ∀ c ∈ cs, ¬ c < 0 ∧ ¬ (255 : Int32) < c) (hb : bs = cs.map (fun c => c.toInt8.toInt32)) (hfr : 4 ≤ R.frames) (hlo : W + 65 ≤ R.locals) :
    Back l R p e below s args (⟨"java/lang/String", "<init>", "([C)V"⟩ : MethodName) len W (fun P a => a = #[.ref x, .ref b] ∧ P.U.heap = h ∧ P.cells + 1 ≤ R.cells ∧ P.slots + n ≤ R.slots)
      (fun P _ v B => ∃ L, QV Z x N bs h n0 v B.U.heap L ∧ B.locs = P.locs ++ L ∧ B.cells = P.cells + 1 ∧ B.slots = P.slots + n) := by
  subst hn hN hb
  refine Back.mono (backArv hZ hw wi E V C K S hz (n32 (by omega)) l0 (by omega) (fun c hc => (hp c hc).2) hfr hlo) (fun P a hp => hp) (fun P a v B hp hq => ?_)
  obtain ⟨L, ⟨q1, q2, q3, q4, q5, q6, q7, ⟨kb, v1, v2⟩, q9⟩, hl, hc, hs⟩ := hq
  exact ⟨L, ⟨q1, fun y hy => by rw [q2 y hy]; exact hx0, q3, q5, q7, h.size, kb, hh0, Nat.le_refl _, Nat.ne_of_gt E.lt, q6, by rw [List.map_map]; exact v2⟩, hl, hc, hs⟩
end StrChars.Road
namespace StrChars
open Jvm Sem ClassFile Op Lib Jvm.Stand Jvm.Free.XT Jvm.Free.ALB Jvm.Free.JM Jvm.Free
open Jvm.Lib.Cold (StaticIs)
def hi8 (x : Int32) : Int32 := lo8 (x >>> ((8 : Int32) &&& 31))
/-- what StringUTF16.getChar makes of two bytes -/
def pairCh (u v : Int32) : Int32 := (((u &&& 255) <<< ((0 : Int32) &&& 31)) ||| ((v &&& 255) <<< ((8 : Int32) &&& 31))).toUInt32.toUInt16.toUInt32.toInt32
theorem lo8_and (x : Int32) : (lo8 x &&& 255).toBitVec.toNat = x.toBitVec.toNat % 256 := by
  have h : (lo8 x).toBitVec = (x.toBitVec.signExtend 8).signExtend 32 := by rw [lo8, Int8.toBitVec_toInt32, Int32.toBitVec_toInt8]
  rw [Int32.toBitVec_and, BitVec.toNat_and, h]
  have e : ((x.toBitVec.signExtend 8).signExtend 32).toNat % 256 = x.toBitVec.toNat % 256 := by
    rw [BitVec.toNat_signExtend]
    have hlt := x.toBitVec.isLt
    simp only [BitVec.toNat_setWidth, BitVec.toNat_signExtend]
    split <;> split <;> omega
  rw [← e]
  exact Nat.and_two_pow_sub_one_eq_mod _ 8
theorem pair_says {c : Int32} (h0 : ¬ c < 0) (h1 : ¬ 65535 < c) : pairCh (lo8 c) (hi8 c) = c := by
  rw [Int32.lt_iff_toInt_lt] at h0 h1
  have e0 : (0 : Int32).toInt = 0 := rfl
  have e1 : (65535 : Int32).toInt = 65535 := rfl
  have hc : c.toInt = c.toBitVec.toNat := by
    have := c.toBitVec.isLt
    have e : c.toInt = c.toBitVec.toInt := rfl
    rw [e] at h0 h1
    rw [e]
    rw [BitVec.toInt_eq_toNat_cond] at h0 h1 ⊢
    split at h0 <;> split <;> omega
  have hn : c.toBitVec.toNat < 65536 := by omega
  have a1 := lo8_and c
  have a2 : (hi8 c &&& 255).toBitVec.toNat = c.toBitVec.toNat / 256 := by
    rw [hi8, lo8_and]
    have e : ((8 : Int32) &&& 31) = 8 := by decide
    rw [e, Int32.toBitVec_shiftRight]
    have e2 : ((8 : Int32).toBitVec.smod 32) = 8#32 := by decide
    rw [e2, BitVec.sshiftRight_eq', BitVec.toNat_sshiftRight_of_msb_false (by rw [BitVec.msb_eq_false_iff_two_mul_lt]; omega)]
    show c.toBitVec.toNat >>> 8 % 256 = _
    rw [Nat.shiftRight_eq_div_pow]
    omega
  unfold pairCh
  apply Int32.toBitVec_inj.mp
  apply BitVec.eq_of_toNat_eq
  have f0 : ((0 : Int32) &&& 31) = 0 := by decide
  have f8 : ((8 : Int32) &&& 31) = 8 := by decide
  rw [f0, f8]
  have g : (((lo8 c &&& 255) <<< (0 : Int32)) ||| ((hi8 c &&& 255) <<< (8 : Int32))).toBitVec.toNat = c.toBitVec.toNat := by
    rw [Int32.toBitVec_or, Int32.toBitVec_shiftLeft, Int32.toBitVec_shiftLeft]
    have s0 : ((0 : Int32).toBitVec.smod 32) = 0#32 := by decide
    have s8 : ((8 : Int32).toBitVec.smod 32) = 8#32 := by decide
    rw [s0, s8, BitVec.toNat_or]
    simp only [BitVec.shiftLeft_eq', BitVec.toNat_shiftLeft, a1, a2]
    show (c.toBitVec.toNat % 256) <<< 0 % 2 ^ 32 ||| (c.toBitVec.toNat / 256) <<< 8 % 2 ^ 32 = _
    rw [Nat.shiftLeft_zero, Nat.mod_eq_of_lt (show c.toBitVec.toNat % 256 < 2 ^ 32 by omega), Nat.mod_eq_of_lt (show (c.toBitVec.toNat / 256) <<< 8 < 2 ^ 32 by rw [Nat.shiftLeft_eq]; omega), Nat.or_comm, ← Nat.shiftLeft_add_eq_or_of_lt (by omega), Nat.shiftLeft_eq]
    omega
  show BitVec.toNat (((((lo8 c &&& 255) <<< (0 : Int32)) ||| ((hi8 c &&& 255) <<< (8 : Int32))).toBitVec.setWidth 16).setWidth 32) = _
  rw [BitVec.toNat_setWidth, BitVec.toNat_setWidth, g]
  omega
end StrChars
namespace StrChars
open Jvm Sem ClassFile Op Lib Jvm.Stand Jvm.Free.XT Jvm.Free.ALB Jvm.Free.JM Jvm.Free
open Jvm.Lib.Cold (StaticIs)
/-- charAt's cast of a byte read back -/
def chr8 (u : Int32) : Int32 := (u &&& 255).toUInt32.toUInt16.toUInt32.toInt32
theorem chr8_lo8 {c : Int32} (h0 : ¬ c < 0) (h1 : ¬ 255 < c) : chr8 (lo8 c) = c := by
  have t : ∀ k : Fin 256, (Int32.ofNat k.val).toUInt32.toUInt16.toUInt32.toInt32 = Int32.ofNat k.val := by decide +kernel
  unfold chr8
  rw [lo8_mask h0 h1]
  rw [Int32.lt_iff_toInt_lt] at h0 h1
  have e0 : (0 : Int32).toInt = 0 := rfl
  have e1 : (255 : Int32).toInt = 255 := rfl
  obtain ⟨k, hk⟩ : ∃ k : Nat, c.toInt = k := ⟨c.toInt.toNat, by omega⟩
  have hx : c = Int32.ofNat k := Int32.toInt_inj.mp (by rw [hk, Int32.toInt_ofNat_small (by omega)])
  rw [hx]
  exact t ⟨k, by omega⟩
theorem narrow_ch {c : Int32} (h0 : ¬ c < 0) (h1 : ¬ 65535 < c) : narrow .char (.int c) = .int c := by
  have q : narrow .char (.int (pairCh (lo8 c) (hi8 c))) = .int (pairCh (lo8 c) (hi8 c)) := narrow_c _
  rwa [pair_says h0 h1] at q
/-- the array's cell V codes the n chars f 0 .. f (n - 1) by the coder cd, as the JDK does: coder 1 just where some char is above 255 -/
def Cod (cd : Int32) (n : Nat) (f : Nat → Int32) (V : Cell) : Prop := (cd = 0 ∧ V.slots.size = n ∧ ∀ j, j < n → V.slots[j]? = some (.int (lo8 (f j))) ∧ ¬ 255 < f j) ∨ (cd = 1 ∧ V.slots.size = 2 * n ∧ (∀ j, j < n → V.slots[2 * j]? = some (.int (lo8 (f j))) ∧ V.slots[2 * j + 1]? = some (.int (hi8 (f j)))) ∧ ∃ j, j < n ∧ 255 < f j)
theorem Cod.cd {cd : Int32} {n : Nat} {f : Nat → Int32} {V : Cell} (h : Cod cd n f V) : cd = 0 ∨ cd = 1 := h.imp (fun q => q.1) fun q => q.1
/-- **x is a String of the n chars f 0 .. f (n - 1)**, Latin-1 or UTF-16; its array at t has the cell V -/
def Txt (x t : Addr) (V : Cell) (cd : Int32) (n : Nat) (f : Nat → Int32) (U : State) : Prop := Exact "java/lang/String" x U ∧ Has x "java/lang/String" "value" "[B" (.ref t) U ∧ Has x "java/lang/String" "coder" "B" (.int cd) U ∧ XT.Arr .byte t V U ∧ Cod cd n f V ∧ ∀ j, j < n → ¬ f j < 0 ∧ ¬ 65535 < f j
theorem Txt.mv {x t : Addr} {V : Cell} {cd : Int32} {n : Nat} {f : Nat → Int32} {U U' : State} (h : Txt x t V cd n f U) (hal : U.vm.Alike U'.vm) (hh : U'.heap = U.heap) : Txt x t V cd n f U' := ⟨h.1.mv hal hh, h.2.1.mv hal hh, h.2.2.1.mv hal hh, h.2.2.2.1.mv hal hh, h.2.2.2.2⟩
namespace IsL
def yN : MethodName := ⟨"java/lang/String", "isLatin1", "()Z"⟩
abbrev yB : ByteArray := jdk_42_method_154_code
theorem d0 : decode yB 0 = .ok (.getstatic 38, 3) := by decide +kernel
theorem d3 : decode yB 3 = .ok (.ifCond (.eq) 14, 3) := by decide +kernel
theorem d6 : decode yB 6 = .ok (.aload_n 0, 1) := by decide +kernel
theorem d7 : decode yB 7 = .ok (.getfield 15, 3) := by decide +kernel
theorem d10 : decode yB 10 = .ok (.ifCond (.ne) 7, 3) := by decide +kernel
theorem d13 : decode yB 13 = .ok (.iconst 1, 1) := by decide +kernel
theorem d14 : decode yB 14 = .ok (.goto 4, 3) := by decide +kernel
theorem d17 : decode yB 17 = .ok (.iconst 0, 1) := by decide +kernel
theorem d18 : decode yB 18 = .ok (.ireturn, 1) := by decide +kernel
def site : List Cond := [.fieldLink "java/lang/String" 38 "java/lang/String" "COMPACT_STRINGS" "Z", .fieldLink "java/lang/String" 15 "java/lang/String" "coder" "B"]
def tab : Cond := tabOf yN yB 1 (some .boolean) site
def P (x : Addr) (cd z : Int32) (args : Array Value) (s : State) : Prop := args = #[.ref x] ∧ Has x "java/lang/String" "coder" "B" (.int cd) s ∧ (cd = 0 ∨ cd = 1) ∧ StaticIs s "java/lang/String" "COMPACT_STRINGS" "Z" (.int z) ∧ ¬ z = 0
def E (cd : Int32) (r : Option Value) (s u : State) : Prop := XT.PureE (some (.int (1 - cd))) r s u
theorem law (l : Launch) (x : Addr) (cd z : Int32) : Law l yN 1 0 0 0 yB 1 (some .boolean) site (P x cd z) (E cd) [] 0 0 := by
  refine Law.of_walk (plainFor_of_name (by decide +kernel)) (by decide +kernel) (by decide +kernel) (by decide) (fun _ _ h => by rw [h.1]; rfl) (fun _ U U' hal hh h => ⟨h.1, h.2.1.mv hal hh, h.2.2.1, h.2.2.2.1.there hal hh, h.2.2.2.2⟩) (fun r U U' V V' h1 hal h2 h => XT.PureE.mv r U U' V V' h1 hal h2 h) ?_
  intro p e s m args below meth c s₁ X0 hexec hbytes hml hret hlk hnm hown hh0 W hP
  obtain ⟨rfl, hx, hc, s1, hz⟩ := hP
  have c1 : Steps p.tables e below (s₁.setTop (entryFrame m #[.ref x] 1)) (s₁.setTop (mkF m 0 #[.val (.ref x)] [])) := entry rfl
  obtain ⟨T2, X2, q2, st2⟩ := X0.sget hexec hown (wk W (.fieldLink "java/lang/String" 38 "java/lang/String" "COMPACT_STRINGS" "Z")) s1 (fun _ _ h => by rw [hh0]; exact h) (g := (mkF m 0 #[.val (.ref x)] [])) rfl (hb hbytes d0)
  have hh2 := q2.trans hh0
  have c3 : Steps p.tables e below (s₁.setTop (entryFrame m #[.ref x] 1)) (T2.setTop (mkF m 7 #[.val (.ref x)] [.ref x])) := (c1.trans (st2 _ (Steps.refl _))).trans (by
    refine XS.ifNo X2.here hexec rfl (hb hbytes d3) rfl (i0_eq_f hz) ?_
    refine XS.aloadN X2.here hexec rfl (hb hbytes d6) rfl rfl ?_
    exact Steps.refl _)
  obtain ⟨T4, X4, q4, st4⟩ := X2.hget hexec hown (wk W (.fieldLink "java/lang/String" 15 "java/lang/String" "coder" "B")) (hx.mv X2.warmed.alike hh2) (g := (mkF m 7 #[.val (.ref x)] [.ref x])) rfl (rest := []) rfl (hb hbytes d7)
  have c5 : Steps p.tables e below (s₁.setTop (entryFrame m #[.ref x] 1)) (T4.setTop (mkF m 10 #[.val (.ref x)] [.int cd])) := c3.trans (st4 _ (Steps.refl _))
  have c6 : Steps p.tables e below (s₁.setTop (entryFrame m #[.ref x] 1)) (T4.setTop (mkF m 18 #[.val (.ref x)] [.int (1 - cd)])) := by
    rcases hc with rfl | rfl
    · exact c5.trans (by
        refine XS.ifNo X4.here hexec rfl (hb hbytes d10) rfl (i0_ne_f rfl) ?_
        refine iconstV X4.here hexec rfl 1 (hb hbytes d13) (by decide) ?_
        refine XS.goto X4.here hexec rfl (pc0 := 14) rfl (hb hbytes d14) (by decide) rfl ?_
        exact Steps.refl _)
    · exact c5.trans (by
        refine XS.ifYes X4.here hexec rfl (pc0 := 10) rfl (hb hbytes d10) rfl (i0_ne_t (by decide)) (by decide) rfl ?_
        refine iconstV X4.here hexec rfl 0 (hb hbytes d17) (by decide) ?_
        exact Steps.refl _)
  exact ⟨T4, some (.int (1 - cd)), _, _, _, X4, rfl, rfl, rfl, (fun h => by cases h), ⟨rfl, q4.trans hh2⟩, fun fs hl => c6.trans (X4.ireturnOut hexec hret (by rcases hc with rfl | rfl <;> rfl) (Or.inr (Or.inl rfl)) (hb hbytes d18) hl)⟩
end IsL
namespace LChA
def yN : MethodName := ⟨"java/lang/StringLatin1", "charAt", "([BI)C"⟩
abbrev yB : ByteArray := jdk_43_method_2_code
theorem d0 : decode yB 0 = .ok (.iload_n 1, 1) := by decide +kernel
theorem d1 : decode yB 1 = .ok (.aload_n 0, 1) := by decide +kernel
theorem d2 : decode yB 2 = .ok (.arraylength, 1) := by decide +kernel
theorem d3 : decode yB 3 = .ok (.invokestatic 9, 3) := by decide +kernel
theorem d6 : decode yB 6 = .ok (.aload_n 0, 1) := by decide +kernel
theorem d7 : decode yB 7 = .ok (.iload_n 1, 1) := by decide +kernel
theorem d8 : decode yB 8 = .ok (.baload, 1) := by decide +kernel
theorem d9 : decode yB 9 = .ok (.sipush 255, 3) := by decide +kernel
theorem d12 : decode yB 12 = .ok (.iand, 1) := by decide +kernel
theorem d13 : decode yB 13 = .ok (.i2c, 1) := by decide +kernel
theorem d14 : decode yB 14 = .ok (.ireturn, 1) := by decide +kernel
def site : List Cond := [JO.Str_checkIndex.tab] ++ staticW "java/lang/StringLatin1" 9 JO.Str_checkIndex.yN
def tab : Cond := tabOf yN yB 2 (some .char) site
def P (t : Addr) (V : Cell) (i : Nat) (u : Int32) (fm : Value) (args : Array Value) (s : State) : Prop := args = #[.ref t, .int (Int32.ofNat i)] ∧ XT.Arr .byte t V s ∧ V.slots[i]? = some (.int u) ∧ (StaticIs s "jdk/internal/util/Preconditions" "SIOOBE_FORMATTER" "Ljava/util/function/BiFunction;" fm ∧ fm.isRef = true)
def E (u : Int32) (r : Option Value) (s w : State) : Prop := XT.PureE (some (.int (chr8 u))) r s w
theorem law (l : Launch) (t : Addr) (V : Cell) (i : Nat) (u : Int32) (fm : Value) : Law l yN 2 2 2 27 yB 2 (some .char) site (P t V i u fm) (E u) [] 0 0 := by
  refine Law.of_walk (plainFor_of_name (by decide +kernel)) (by decide +kernel) (by decide +kernel) (by decide) (fun _ _ h => by rw [h.1]; rfl) (fun _ U U' hal hh h => ⟨h.1, h.2.1.mv hal hh, h.2.2.1, h.2.2.2.1.there hal hh, h.2.2.2.2⟩) (fun r U U' V V' h1 hal h2 h => XT.PureE.mv r U U' V V' h1 hal h2 h) ?_
  intro p e s m args below meth c s₁ X0 hexec hbytes hml hret hlk hnm hown hh0 W hP
  obtain ⟨rfl, hV, hu, s1, rf⟩ := hP
  have v31 := hV.2.2.2
  have hi : i < V.slots.size := (Array.getElem?_eq_some_iff.mp hu).1
  have c1 : Steps p.tables e below (s₁.setTop (entryFrame m #[.ref t, .int (Int32.ofNat i)] 2)) (s₁.setTop (mkF m 0 #[.val (.ref t), .val (.int (Int32.ofNat i))] [])) := entry rfl
  have c2 : Steps p.tables e below (s₁.setTop (entryFrame m #[.ref t, .int (Int32.ofNat i)] 2)) (s₁.setTop (mkF m 3 #[.val (.ref t), .val (.int (Int32.ofNat i))] [.int (Int32.ofNat V.slots.size), .int (Int32.ofNat i)])) := c1.trans (by
    refine XS.iloadN X0.here hexec rfl (hb hbytes d0) rfl ?_
    refine XS.aloadN X0.here hexec rfl (hb hbytes d1) rfl rfl ?_
    refine X0.alen hexec (hV.mv X0.warmed.alike hh0) rfl rfl (hb hbytes d2) ?_
    exact Steps.refl _)
  obtain ⟨v3, T3, X3, E3, g3⟩ := X0.callS hexec (JO.Str_checkIndex.law l (Int32.ofNat i) (Int32.ofNat V.slots.size) fm) hown (wks W (staticW "java/lang/StringLatin1" 9 JO.Str_checkIndex.yN)) (wk W JO.Str_checkIndex.tab) (W := 0) (Nat.le_of_ble_eq_true rfl) (Nat.le_of_ble_eq_true rfl) (Nat.le_refl _) (Nat.le_refl _) (g := (mkF m 3 #[.val (.ref t), .val (.int (Int32.ofNat i))] [.int (Int32.ofNat V.slots.size), .int (Int32.ofNat i)])) rfl (by rw [hml]; rfl) c2 (argsL := [.int (Int32.ofNat i), .int (Int32.ofNat V.slots.size)]) (rest := []) rfl rfl (by show 2 * 0 + 0 ≤ _; decide) (hb hbytes d3) (⟨rfl, rf, s1.there X0.warmed.alike hh0, Int32.ofNat_not_neg (by omega), lt32 v31 hi⟩)
  obtain ⟨rfl, q3⟩ := E3
  have hh3 := q3.trans hh0
  have c4 : Steps p.tables e below (s₁.setTop (entryFrame m #[.ref t, .int (Int32.ofNat i)] 2)) (T3.setTop (mkF m 14 #[.val (.ref t), .val (.int (Int32.ofNat i))] [.int (chr8 u)])) := Steps.trans g3 (by
    refine XS.aloadN X3.here hexec rfl (hb hbytes d6) rfl rfl ?_
    refine XS.iloadN X3.here hexec rfl (hb hbytes d7) rfl ?_
    refine X3.aget hexec (hV.mv X3.warmed.alike hh3) rfl hu rfl rfl (hb hbytes d8) ?_
    refine sipushV X3.here hexec rfl 255 (hb hbytes d9) (by decide) ?_
    refine XS.iand X3.here hexec rfl (hb hbytes d12) rfl ?_
    refine i2c X3.here hexec rfl (hb hbytes d13) rfl ?_
    exact Steps.refl _)
  exact ⟨T3, some (.int (chr8 u)), _, _, _, X3, rfl, rfl, rfl, (fun h => by cases h), ⟨rfl, hh3⟩, fun fs hl => c4.trans (X3.ireturnOut hexec hret (narrow_c _) (Or.inr (Or.inr (Or.inr (Or.inl rfl)))) (hb hbytes d14) hl)⟩
end LChA
end StrChars
namespace StrChars.Road
open Jvm Sem ClassFile Op Lib Jvm.Stand Jvm.Free Jvm.Free.XT
open Jvm.Lib.Cold (StaticIs)
theorem consq {a : Array Value} {s : State} {c : Jvm.Cond} {L : List Jvm.Cond} (h0 : c.before a s = true) (h : ∀ w ∈ L, w.before a s = true) : ∀ w ∈ c :: L, w.before a s = true := fun w hw => (List.mem_cons.mp hw).elim (fun e => e ▸ h0) (h w)
/-- the bytes of the chars cs, low before high -/
def wideBytes : List Int32 → List Value
  | [] => []
  | c :: cs => .int (lo8 c) :: .int (hi8 c) :: wideBytes cs
theorem wide_lo (d : Value) : ∀ (cs : List Int32) (j : Nat), j < cs.length → (wideBytes cs).getD (2 * j) d = .int (lo8 (cs.getD j 0))
  | [], j, h => absurd h (Nat.not_lt_zero j)
  | c :: cs, 0, _ => rfl
  | c :: cs, j + 1, h => by
    have q := wide_lo d cs j (by simpa using h)
    rw [show 2 * (j + 1) = 2 * j + 1 + 1 from by omega]
    simpa [wideBytes] using q
theorem wide_hi (d : Value) : ∀ (cs : List Int32) (j : Nat), j < cs.length → (wideBytes cs).getD (2 * j + 1) d = .int (hi8 (cs.getD j 0))
  | [], j, h => absurd h (Nat.not_lt_zero j)
  | c :: cs, 0, _ => rfl
  | c :: cs, j + 1, h => by
    have q := wide_hi d cs j (by simpa using h)
    rw [show 2 * (j + 1) + 1 = 2 * j + 1 + 1 + 1 from by omega]
    simpa [wideBytes] using q
theorem low_at (d : Value) (cs : List Int32) (j : Nat) (h : j < cs.length) : (cs.map fun c => Value.int (lo8 c)).getD j d = .int (lo8 (cs.getD j 0)) := by
  simp [List.getD_eq_getElem?_getD, h]
/-- an array of N2 bytes vs codes the chars cs by the coder cd -/
def CodA (cs : List Int32) (cd N2 : Int32) (vs : List Value) : Prop := (cd = 0 ∧ N2 = Int32.ofNat cs.length ∧ vs = (cs.map fun c => Value.int (lo8 c)) ∧ ∀ c ∈ cs, ¬ 255 < c) ∨ (cd = 1 ∧ N2 = Int32.ofNat (2 * cs.length) ∧ vs = wideBytes cs ∧ ∃ c ∈ cs, 255 < c)
theorem CodA.cod {cs : List Int32} {cd N2 : Int32} {vs : List Value} {V : Cell} (h : CodA cs cd N2 vs) (hn : 2 * cs.length < 2 ^ 31) (hs : V.slots.size = N2.toNatClampNeg) (hv : RoadKit.Has V vs (.int 0)) : Cod cd cs.length (fun j => cs.getD j 0) V := by
  rcases h with ⟨rfl, rfl, rfl, h⟩ | ⟨rfl, rfl, rfl, c, hc, hw⟩
  · rw [n32 (by omega)] at hs
    exact Or.inl ⟨rfl, hs, fun j hj => ⟨by rw [hv j (by omega), low_at _ _ _ hj], by
      have e : cs.getD j 0 = cs[j] := by simp [List.getD_eq_getElem?_getD, hj]
      show ¬ 255 < cs.getD j 0
      rw [e]; exact h _ (List.getElem_mem _)⟩⟩
  · rw [n32 (by omega)] at hs
    obtain ⟨j, hj, rfl⟩ := List.getElem_of_mem hc
    exact Or.inr ⟨rfl, hs, fun j hj => ⟨by rw [hv _ (by omega), wide_lo _ _ _ hj], by rw [hv _ (by omega), wide_hi _ _ _ hj]⟩, j, hj, by
      have e : cs.getD j 0 = cs[j] := by simp [List.getD_eq_getElem?_getD, hj]
      show 255 < cs.getD j 0
      rw [e]; exact hw⟩
/-- an object of exactly java/lang/String, its two fields found: as the laws ask it -/
theorem strObj {Z U : State} {a0 : Array Value} {kI : Nat} (wi : (Jvm.Cond.instantiable ST kI).before a0 Z = true) (al : Z.vm.Alike U.vm) {x : Addr} {v0 c0 : Value} (E : RoadKit.Exa Z U.heap x ST) (V : RoadKit.Fld Z U.heap x ST "value" "[B" v0) (C : RoadKit.Fld Z U.heap x ST "coder" "B" c0) :
    ∃ (D : Cell) (fV fC : Field), Blank ST x D U ∧ Found ST "value" "[B" fV U ∧ Found ST "coder" "B" fC U ∧ D.slots[fV.slot]? = some v0 ∧ D.slots[fC.slot]? = some c0 ∧ RoadKit.slotOf Z ST "value" "[B" = fV.slot ∧ RoadKit.slotOf Z ST "coder" "B" = fC.slot := by
  obtain ⟨D, cfV, kV, iV, fV, hD, gV, stV, knV, obV, asV, slV⟩ := V
  obtain ⟨D', cfC, kC, iC, fC, hD', gC, stC, -, -, asC, slC⟩ := C
  cases hD.symm.trans hD'
  obtain ⟨D2, kD, e1, e2, e3, e4, e5⟩ := E
  cases hD.symm.trans e1
  obtain ⟨c2, k2, i1, i2, i3, -⟩ := Cond.instantiable_spec wi
  cases e2.symm.trans i1
  cases e3.symm.trans i2
  obtain ⟨kU, u1, u2⟩ := al.2.2 _ _ e3
  exact ⟨D, fV, fC, ⟨hD, ⟨knV, fun q hq => by rw [hq] at obV; cases obV⟩, by rw [al.findClass]; exact e2, kU, u1, by rw [u2]; exact i3, by rw [u2]; exact e5 i3⟩, ⟨SBG.found_only al ⟨cfV, kV, iV, gV⟩, stV⟩, ⟨SBG.found_only al ⟨cfC, kC, iC, gC⟩, stC⟩, slV, slC, by simp [RoadKit.slotOf, gV], by simp [RoadKit.slotOf, gC]⟩
theorem sta_is {Z U : State} (al : Z.vm.Alike U.vm) {C n d : String} {v : Value} (S : RoadKit.Sta Z U.heap C n d v) : StaticIs U C n d v := by
  obtain ⟨cfS, iS, kS, fS, st, cS, t1, t2, t3, t4, t5, t6, t7⟩ := S
  exact StaticIs.there (s := { Z with heap := U.heap }) ⟨cfS, iS, kS, fS, st, cS, t1, t2, t3, t4, t5, (fun q => by rw [q] at t6; cases t6), t7⟩ al rfl
end StrChars.Road
namespace StrChars.Road
open Jvm Sem ClassFile Op Lib Jvm.Stand Jvm.Free Jvm.Free.XT
open Jvm.Lib.Cold (StaticIs)
/-- the road's facts of a String, as the laws ask it -/
theorem txt_of {Z U : State} {a0 : Array Value} {kI : Nat} (wi : (Jvm.Cond.instantiable ST kI).before a0 Z = true) (al : Z.vm.Alike U.vm) {x t : Addr} {kb : ClassId} {cs : List Int32} {cd N2 : Int32} {vs : List Value} (E : RoadKit.Exa Z U.heap x ST) (V : RoadKit.Fld Z U.heap x ST "value" "[B" (.ref t)) (C : RoadKit.Fld Z U.heap x ST "coder" "B" (.int cd)) (K : RoadKit.Arv Z U.heap t kb .byte N2 vs (.int 0)) (hc : CodA cs cd N2 vs) (hb : ∀ c ∈ cs, ¬ c < 0 ∧ ¬ (65535 : Int32) < c) (l2 : cs.length ≤ 4000) :
    ∃ A, Txt x t A cd cs.length (fun j => cs.getD j 0) U := by
  obtain ⟨A, K1, K2, K3, K4, K5, K6⟩ := K
  have hcod := hc.cod (by omega) K3 K5
  obtain ⟨D, fV, fC, hB, F1, F2, g1, g2, -, -⟩ := strObj wi al E V C
  exact ⟨A, ⟨_, hB.2.2.1, D, hB.1, rfl, by cases q : D.vm <;> first | rfl | exact absurd q (hB.2.1.2 _)⟩, Has.of hB F1 g1, Has.of hB F2 g2, ⟨K1.1, State.isArrayOf_alike al K1.2.1, K1.2.2, by rcases hcod with ⟨-, q, -⟩ | ⟨-, q, -⟩ <;> omega⟩, hcod, fun j hj => by
    have e : cs.getD j 0 = cs[j] := by simp [List.getD_eq_getElem?_getD, hj]
    show ¬ cs.getD j 0 < 0 ∧ ¬ 65535 < cs.getD j 0
    rw [e]; exact hb _ (List.getElem_mem _)⟩
end StrChars.Road
namespace StrChars
open Jvm Sem ClassFile Op Lib Jvm.Stand Jvm.Free.XT Jvm.Free.ALB Jvm.Free.JM Jvm.Free
open Jvm.Lib.Cold (StaticIs)
namespace ChN
def yN : MethodName := ⟨"java/lang/String", "charAt", "(I)C"⟩
abbrev yB : ByteArray := jdk_42_method_56_code
theorem d0 : decode yB 0 = .ok (.aload_n 0, 1) := by decide +kernel
theorem d1 : decode yB 1 = .ok (.invokevirtual 492, 3) := by decide +kernel
theorem d4 : decode yB 4 = .ok (.ifCond (.eq) 12, 3) := by decide +kernel
theorem d7 : decode yB 7 = .ok (.aload_n 0, 1) := by decide +kernel
theorem d8 : decode yB 8 = .ok (.getfield 9, 3) := by decide +kernel
theorem d11 : decode yB 11 = .ok (.iload_n 1, 1) := by decide +kernel
theorem d12 : decode yB 12 = .ok (.invokestatic 495, 3) := by decide +kernel
theorem d15 : decode yB 15 = .ok (.ireturn, 1) := by decide +kernel
def site : List Cond := [.fieldLink "java/lang/String" 9 "java/lang/String" "value" "[B", IsL.tab, LChA.tab] ++ virtW "java/lang/String" 492 "java/lang/String" IsL.yN IsL.yN ++ staticW "java/lang/String" 495 LChA.yN
def tab : Cond := tabOf yN yB 2 (some .char) site
def P (x t : Addr) (V : Cell) (n : Nat) (f : Nat → Int32) (z : Int32) (fm : Value) (i : Nat) (args : Array Value) (s : State) : Prop := args = #[.ref x, .int (Int32.ofNat i)] ∧ Txt x t V 0 n f s ∧ i < n ∧ StaticIs s "java/lang/String" "COMPACT_STRINGS" "Z" (.int z) ∧ ¬ z = 0 ∧ StaticIs s "jdk/internal/util/Preconditions" "SIOOBE_FORMATTER" "Ljava/util/function/BiFunction;" fm ∧ fm.isRef = true
def E (f : Nat → Int32) (i : Nat) (r : Option Value) (s u : State) : Prop := XT.PureE (some (.int (f i))) r s u
/-- charAt(i) of a Latin-1 String of n chars, i < n: f i -/
theorem law (l : Launch) (x t : Addr) (V : Cell) (n : Nat) (f : Nat → Int32) (z : Int32) (fm : Value) (i : Nat) : Law l yN 2 1 3 40 yB 2 (some .char) site (P x t V n f z fm i) (E f i) [] 0 0 := by
  refine Law.of_walk (plainFor_of_name (by decide +kernel)) (by decide +kernel) (by decide +kernel) (by decide) (fun _ _ h => by rw [h.1]; rfl) (fun _ U U' hal hh h => ⟨h.1, h.2.1.mv hal hh, h.2.2.1, h.2.2.2.1.there hal hh, h.2.2.2.2.1, h.2.2.2.2.2.1.there hal hh, h.2.2.2.2.2.2⟩) (fun r U U' V V' h1 hal h2 h => XT.PureE.mv r U U' V V' h1 hal h2 h) ?_
  intro p e s m args below meth c s₁ X0 hexec hbytes hml hret hlk hnm hown hh0 W hP
  obtain ⟨rfl, hx, hi, s1, hz, s3, rf⟩ := hP
  have v31 := hx.2.2.2.1.2.2.2
  have hr := hx.2.2.2.2.2 i hi
  have hx0 := hx.mv X0.warmed.alike hh0
  have c1 : Steps p.tables e below (s₁.setTop (entryFrame m #[.ref x, .int (Int32.ofNat i)] 2)) (s₁.setTop (mkF m 1 #[.val (.ref x), .val (.int (Int32.ofNat i))] [.ref x])) := Steps.trans (entry rfl) (by
    show Steps p.tables e below (s₁.setTop (mkF m 0 #[.val (.ref x), .val (.int (Int32.ofNat i))] [])) _
    refine XS.aloadN X0.here hexec rfl (hb hbytes d0) rfl rfl ?_
    exact Steps.refl _)
  obtain ⟨v2, T2, X2, E2, g2⟩ := X0.callV hexec (IsL.law l x 0 z) hown (wks W (virtW "java/lang/String" 492 "java/lang/String" IsL.yN IsL.yN)) rfl (by decide) (wk W IsL.tab) (W := 0) (Nat.le_of_ble_eq_true rfl) (Nat.le_of_ble_eq_true rfl) (Nat.le_refl _) (Nat.le_refl _) (hx0.1.fc X0.warmed.alike) hx0.1.is (g := (mkF m 1 #[.val (.ref x), .val (.int (Int32.ofNat i))] [.ref x])) rfl (by rw [hml]; rfl) c1 (argsL := []) (rest := []) rfl rfl (by show 2 * 0 + 0 ≤ _; decide) (hb hbytes d1) (⟨rfl, hx0.2.2.1, hx.2.2.2.2.1.cd, s1.there X0.warmed.alike hh0, hz⟩)
  obtain ⟨rfl, q2⟩ := E2
  have hh2 := q2.trans hh0
  have hx2 := hx.mv X2.warmed.alike hh2
  obtain ⟨-, k1, k2⟩ | ⟨k0, -⟩ := hx.2.2.2.2.1
  · have c3 : Steps p.tables e below (s₁.setTop (entryFrame m #[.ref x, .int (Int32.ofNat i)] 2)) (T2.setTop (mkF m 8 #[.val (.ref x), .val (.int (Int32.ofNat i))] [.ref x])) := Steps.trans g2 (by
      refine XS.ifNo X2.here hexec rfl (hb hbytes d4) rfl (i0_eq_f (by decide)) ?_
      refine XS.aloadN X2.here hexec rfl (hb hbytes d7) rfl rfl ?_
      exact Steps.refl _)
    obtain ⟨T4, X4, q4, st4⟩ := X2.hget hexec hown (wk W (.fieldLink "java/lang/String" 9 "java/lang/String" "value" "[B")) hx2.2.1 (g := (mkF m 8 #[.val (.ref x), .val (.int (Int32.ofNat i))] [.ref x])) rfl (rest := []) rfl (hb hbytes d8)
    have hh4 := q4.trans hh2
    have c5 : Steps p.tables e below (s₁.setTop (entryFrame m #[.ref x, .int (Int32.ofNat i)] 2)) (T4.setTop (mkF m 12 #[.val (.ref x), .val (.int (Int32.ofNat i))] [.int (Int32.ofNat i), .ref t])) := (c3.trans (st4 _ (Steps.refl _))).trans (by
      refine XS.iloadN X4.here hexec rfl (hb hbytes d11) rfl ?_
      exact Steps.refl _)
    obtain ⟨v6, T6, X6, E6, g6⟩ := X4.callS hexec (LChA.law l t V i (lo8 (f i)) fm) hown (wks W (staticW "java/lang/String" 495 LChA.yN)) (wk W LChA.tab) (W := 0) (Nat.le_of_ble_eq_true rfl) (Nat.le_of_ble_eq_true rfl) (Nat.le_refl _) (Nat.le_refl _) (g := (mkF m 12 #[.val (.ref x), .val (.int (Int32.ofNat i))] [.int (Int32.ofNat i), .ref t])) rfl (by rw [hml]; rfl) c5 (argsL := [.ref t, .int (Int32.ofNat i)]) (rest := []) rfl rfl (by show 2 * 0 + 0 ≤ _; decide) (hb hbytes d12) (⟨rfl, hx.2.2.2.1.mv X4.warmed.alike hh4, (k2 i hi).1, s3.there X4.warmed.alike hh4, rf⟩)
    obtain ⟨rfl, q6⟩ := E6
    rw [chr8_lo8 hr.1 (k2 i hi).2] at g6
    exact ⟨T6, some (.int (f i)), _, _, _, X6, rfl, rfl, rfl, (fun h => by cases h), ⟨rfl, q6.trans hh4⟩, fun fs hl => Steps.trans g6 (X6.ireturnOut hexec hret (narrow_ch hr.1 hr.2) (Or.inr (Or.inr (Or.inr (Or.inl rfl)))) (hb hbytes d15) hl)⟩
  · exact absurd k0 (by decide)
theorem pays {l : Launch} {R : Room} {p : Program} {e : Env} {below : List Frame} {s : State} {sargs : Array Value} {len W : Nat} (x t : Addr) (V : Cell) (n : Nat) (f : Nat → Int32) (z : Int32) (fm : Value) (i : Nat) (htab : tab.before sargs s = true) (hfr : 4 ≤ R.frames) (hlo : W + 53 ≤ R.locals) :
    Back l R p e below s sargs yN len W (fun A₁ a₁ => A₁.cells + 0 ≤ R.cells ∧ A₁.slots + 0 ≤ R.slots ∧ P x t V n f z fm i a₁ A₁.U) (fun A₁ _ v₁ B₁ => E f i v₁ A₁.U B₁.U ∧ B₁.locs = A₁.locs ++ [] ∧ B₁.cells = A₁.cells + 0 ∧ B₁.slots = A₁.slots + 0) :=
  (law l x t V n f z fm i).pays htab hfr (by omega)
end ChN
end StrChars
namespace StrChars.Road
open Jvm Sem ClassFile Op Lib Jvm.Stand Jvm.Free Jvm.Free.XT
open Jvm.Lib.Cold (StaticIs)
/-- the words of String.charAt(int), the Latin-1 road alone -/
abbrev wordsChN : List Jvm.Cond := [.code ChN.yN ChN.yB 2 (some .char), .initialized ST, .fieldLink ST 9 ST "value" "[B", .fieldLink ST 38 ST "COMPACT_STRINGS" "Z", .fieldLink ST 15 ST "coder" "B", .code IsL.yN IsL.yB 1 (some .boolean), .methodLink ST 492 IsL.yN, .declares IsL.yN, .selects ST IsL.yN IsL.yN, .instanceMethod IsL.yN,
  .methodLink ST 495 LChA.yN, .static LChA.yN, .code LChA.yN LChA.yB 2 (some .char), .initialized "java/lang/StringLatin1", .methodLink "java/lang/StringLatin1" 9 JO.Str_checkIndex.yN, .static JO.Str_checkIndex.yN, .code JO.Str_checkIndex.yN JO.Str_checkIndex.yB 2 none,
  .fieldLink ST 1053 "jdk/internal/util/Preconditions" "SIOOBE_FORMATTER" "Ljava/util/function/BiFunction;", .methodLink ST 1059 JC.PreCheck.yN, .static JC.PreCheck.yN, .code JC.PreCheck.yN JC.PreCheck.yB 3 (some .int), .initialized "jdk/internal/util/Preconditions"]
theorem tabChN_of {a : Array Value} {s : State} (h : ∀ w ∈ wordsChN, w.before a s = true) : ChN.tab.before a s = true := by
  have hp : JC.PreCheck.tab.before a s = true := unparts (wk h (.code JC.PreCheck.yN JC.PreCheck.yB 3 (some .int))) (wks h (.initialized JC.PreCheck.yN.cls :: JC.PreCheck.site))
  have qk := consq hp h
  have hk : JO.Str_checkIndex.tab.before a s = true := unparts (wk qk (.code JO.Str_checkIndex.yN JO.Str_checkIndex.yB 2 none)) (wks qk (.initialized JO.Str_checkIndex.yN.cls :: JO.Str_checkIndex.site))
  have ql := consq hk h
  have hl : LChA.tab.before a s = true := unparts (wk ql (.code LChA.yN LChA.yB 2 (some .char))) (wks ql (.initialized LChA.yN.cls :: LChA.site))
  have hi : IsL.tab.before a s = true := unparts (wk h (.code IsL.yN IsL.yB 1 (some .boolean))) (wks h (.initialized IsL.yN.cls :: IsL.site))
  have q := consq hi (consq hl h)
  exact unparts (wk q (.code ChN.yN ChN.yB 2 (some .char))) (wks q (.initialized ChN.yN.cls :: ChN.site))
theorem movedChN {Z s : State} {a0 args : Array Value} (hZ : Z.Warmed39 s.vm) (hw : ∀ d ∈ wordsChN, d.before a0 Z = true) : ∀ d ∈ wordsChN, d.before args s = true := fun d hd => by
  have t : ∀ d ∈ wordsChN, (d.onTables && d.keepsFace) = true := by decide +kernel
  exact RoadKit.mv hZ (hw d hd) (t d hd)
/-- **charAt(i) OF A LATIN-1 STRING**, i < n: the char -/
theorem chN {p : Program} {l : Launch} {e : Env} {R : Room} {s : State} {args : Array Value} {below : List Frame} {len W : Nat} {Z : State} {a0 : Array Value} {h : Heap} (hZ : Z.Warmed39 s.vm) (hw : ∀ d ∈ wordsChN, d.before a0 Z = true) {kI : Nat} (wi : (Jvm.Cond.instantiable ST kI).before a0 Z = true)
    {x t : Addr} {kb : ClassId} {cs : List Int32} {N2 z : Int32} {vs : List Value} {fm : Value} {i : Nat} {j : Int32} (E : RoadKit.Exa Z h x ST) (V : RoadKit.Fld Z h x ST "value" "[B" (.ref t)) (C : RoadKit.Fld Z h x ST "coder" "B" (.int 0)) (K : RoadKit.Arv Z h t kb .byte N2 vs (.int 0)) (hc : CodA cs 0 N2 vs) (hb : ∀ c ∈ cs, ¬ c < 0 ∧ ¬ (65535 : Int32) < c)
    (S : RoadKit.Sta Z h ST "COMPACT_STRINGS" "Z" (.int z)) (hz : ¬ z = 0) (F : RoadKit.Sta Z h "jdk/internal/util/Preconditions" "SIOOBE_FORMATTER" "Ljava/util/function/BiFunction;" fm) (rf : fm.isRef = true) (l2 : cs.length ≤ 4000) (hi : i < cs.length) (hj : j = Int32.ofNat i) (hfr : 4 ≤ R.frames) (hlo : W + 53 ≤ R.locals) :
    Back l R p e below s args (⟨"java/lang/String", "charAt", "(I)C"⟩ : MethodName) len W (fun P a => a = #[.ref x, .int j] ∧ P.U.heap = h ∧ P.cells + 0 ≤ R.cells ∧ P.slots + 0 ≤ R.slots)
      (fun P _ v B => ∃ L, (v = some (.int (cs.getD i 0)) ∧ L = [] ∧ B.U.heap = h) ∧ B.locs = P.locs ++ L ∧ B.cells = P.cells + 0 ∧ B.slots = P.slots + 0) := by
  subst hj
  intro m meth c P g ig mk a X hg hsize hdg hW hn hp'
  obtain ⟨rfl, rfl, r1, r2⟩ := hp'
  have al : Z.vm.Alike P.U.vm := hZ.alike.trans X.warmed.alike
  obtain ⟨A, hx⟩ := txt_of wi al E V C K hc hb l2
  obtain ⟨v, B, X', ⟨⟨hv, hh⟩, hl, hk, hs⟩, st⟩ := ChN.pays x t A cs.length (fun j => cs.getD j 0) z fm i (tabChN_of (movedChN hZ hw)) hfr hlo m meth c P g ig mk _ X hg hsize hdg hW hn ⟨r1, r2, rfl, hx, hi, sta_is al S, hz, sta_is al F, rf⟩
  exact ⟨v, B, X', ⟨[], ⟨hv, rfl, hh⟩, hl, hk, hs⟩, st⟩
end StrChars.Road
end Jvm.Pilot.@@N@@
namespace Jvm.Pilot.@@N@@
open Jvm Jvm.ClassFile Sem Op Lib Jvm.Free Jvm.Stand Jvm.LawKit Jvm.RoadKit Bundle Jvm.Pilot.@@N@@.Jvm.D
def own_QR (r : Value) (h0 : Heap) (n0 : Nat) (v : Option Value) (h : Heap) (L : List Loc) : Prop := v = some r ∧ Fr n0 L ∧ h = h0
def own_Q1 (h0 : Heap) (n0 : Nat) (v : Option Value) (h : Heap) (L : List Loc) : Prop := v = some (.int (1 : Int32)) ∧ Fr n0 L
theorem own_keq {h h' : Heap} (e : h' = h) : Keep h h' [] := by rw [e]; exact Keep.refl _ _
theorem own_nm {x a : Addr} {L : List Addr} (h1 : x ≠ a) (h2 : x ∉ L) : x ∉ a :: L := fun q => (List.mem_cons.mp q).elim h1 h2
theorem own_trS {h0 : Heap} {ws L : List Addr} {x : Addr} (h1 : x ∈ ws ∨ h0.size ≤ x) (h2 : ∀ y ∈ L, y ∈ ws ∨ h0.size ≤ y) : ∀ y ∈ x :: L, y ∈ ws ∨ h0.size ≤ y := fun y q => (List.mem_cons.mp q).elim (fun e => e ▸ h1) (h2 y)
theorem own_EW {Z : State} {a0 : Array Value} (hw : ∀ d ∈ tables_1, d.before a0 Z = true) : EW Z a0 consts_1 := EW.cons (hw _ (List.mem_of_getElem? (i := 108) rfl)) (by decide) (EW.cons (hw _ (List.mem_of_getElem? (i := 34) rfl)) (by decide) EW.nil)
theorem own_wS {Z : State} {a0 : Array Value} (hw : ∀ d ∈ tables_1, d.before a0 Z = true) : ∀ a ∈ Bundle.stringAtoms, a.before a0 Z = true := fun d hd => hw d ((by decide +kernel : ∀ d ∈ Bundle.stringAtoms, d ∈ tables_1) d hd)
/-- a String whose value is still null is no booked one -/
theorem own_safeN {Z : State} {EL : List (String × Nat)} {vm : Vm} {h : Heap} {x : Addr} (hal : Z.vm.Alike vm) (E : Exa Z h x "java/lang/String") (F : Fld Z h x "java/lang/String" "value" "[B" .null) : Safe Z EL vm h x := fun B => by
  obtain ⟨cell, k, e1, e2, e3, -, -⟩ := E
  obtain ⟨cell2, cf, k2, i, f, f1, f2, -, -, -, -, f7⟩ := F
  cases e1.symm.trans f1
  obtain ⟨p, -, u, a, -, q, -, G, rfl | rfl⟩ := B
  · cases (show h[q.sa]? = some q.sC from G.ha).symm.trans e1
    obtain ⟨cS, ⟨⟨-, -, -, ⟨c1, k1, i1, g1, -⟩, -, -, -, v1, -⟩, -⟩, -⟩ := G
    obtain ⟨k3, e4, -⟩ := State.fieldFound?_setVm (s := ({ Z with heap := h } : State)) hal (show ({ Z with heap := h } : State).fieldFound? "java/lang/String" "value" "[B" = some (cf, k2, i, f) from f2)
    have e5 := (show (Wst Z vm h).fieldFound? _ _ _ = _ from e4).symm.trans g1
    simp only [Option.some.injEq, Prod.mk.injEq] at e5
    rw [← e5.2.2.2, f7] at v1
    cases v1
  · cases (show h[q.sd]? = some q.SA from G.hd).symm.trans e1
    obtain ⟨cS, -, -, f, -⟩ := G
    have f' : vm.findClass "[B" = some q.SA.cls := f
    rw [hal.findClass] at f'
    obtain ⟨k4, q1, q2⟩ := Vm.findClass_spec f'
    obtain ⟨k5, q3, q4⟩ := Vm.findClass_spec e2
    cases q1.symm.trans q3
    exact absurd (q2.symm.trans q4) (by decide)
/-- a callee that interns nothing, said in the wide form -/
theorem own_toW {l : Launch} {y : MethodName} {S : Spec} {Z : State} {a0 : Array Value} {EL : List (String × Nat)} {as' : Array Value} {h0 : Heap} {Q : Option Value → Heap → List Loc → Prop} {cs ss : Nat} (hEL : EW Z a0 EL)
    (hM : MetFree l y S (fun a U => a = as' ∧ Z.Warmed39 U.vm ∧ U.heap = h0) (fun _ _ _ _ _ => True) (fun _ U o U' => ∃ v L, o = .returned v ∧ Q v U'.heap L ∧ FrameEnd U o U' L cs ss)) (hK : ∀ v h L, Q v h L → Keep h0 h []) :
    MetFree l y S (fun a U => a = as' ∧ Z.Warmed39 U.vm ∧ U.heap = h0 ∧ CHv Z EL U.vm h0) (fun _ _ _ _ _ => True) (fun _ U o U' => ∃ v L, o = .returned v ∧ Q v U'.heap L ∧ CHr Z EL U.vm U.heap U'.vm U'.heap ∧ ReturnedEndW U o U' L cs ss) := by
  intro p e ha hc hk s m args below hf happ hP hK'
  obtain ⟨hP1, hP2, hP3, H0⟩ := hP
  obtain ⟨n, o, h1, h2, h3, v, L, e1, hQ, hF⟩ := hM p e ha hc hk s m args below hf happ ⟨hP1, hP2, hP3⟩ trivial
  refine ⟨n, o, h1, h2, h3, v, L, e1, hQ, ?_, ReturnedEndW.of_narrow hF.1 hF.2.1 hF.2.2⟩
  have K := hK v _ L hQ
  rw [hP3]
  generalize (stepsAlone p.tables e n s) = U' at *
  have hW : (Wst Z s.vm h0).Warmed39 U'.vm := hF.2.1.wide
  have q := CHv.later (h' := U'.heap) hP2 hW hEL ⟨K.1, fun x c r => K.2.1 x c r (fun z => nomatch z)⟩ (Or.inl hF.2.1.interned_eq) H0
  exact ⟨q.1, K.1, q.2⟩
theorem own_and255 (x : Int32) : ¬ (x &&& 255) < 0 ∧ ¬ (255 : Int32) < (x &&& 255) := by
  have e : (x &&& 255).toInt = x.toInt % 2 ^ 8 := Jvm.Kit.i32_mask x 255 (by decide) (by decide)
  have z : (0 : Int32).toInt = 0 := by decide
  have y : (255 : Int32).toInt = 255 := by decide
  rw [Int32.lt_iff_toInt_lt, Int32.lt_iff_toInt_lt]
  omega
theorem own_nar (x : Int32) : nar .char ((x &&& (255 : Int32)).toUInt32.toUInt16.toUInt32.toInt32) = x &&& 255 := by simp only [nar, i2c_mask]
theorem own_le255 (x : Int32) : ¬ (255 : Int32) < ((x &&& (255 : Int32)).toUInt32.toUInt16.toUInt32.toInt32) := by rw [i2c_mask]; exact (own_and255 x).2

theorem own_notIf {args : Array Value} {s : State} {C : String} {y : MethodName} (w : (Jvm.Cond.selects C y y).before args s = true) : ∃ c k, s.vm.findClass y.cls = some c ∧ s.vm.classes[c]? = some k ∧ k.isInterface = false := by
  obtain ⟨c2, r2, m2, -, -, q3, -, kP, hkP, hkPi⟩ := Cond.selects_spec w
  exact ⟨m2.cls, kP, findClass_of_methodNamed q3, hkP, hkPi⟩
theorem own_nf {s : State} {y : MethodName} (h : ∃ c k, s.vm.findClass y.cls = some c ∧ s.vm.classes[c]? = some k ∧ k.isInterface = false) : NotFace s y := fun r0 h0 => by
  obtain ⟨c, k, h1, h2, h3⟩ := h
  cases (findClass_of_methodNamed h0).symm.trans h1
  exact ⟨k, h2, h3⟩
theorem own_same {args : Array Value} {s : State} {y : MethodName} (hinst : (Jvm.Cond.instanceMethod y).before args s = true) (hy : y.cls ≠ "java/lang/invoke/MethodHandle" ∧ y.cls ≠ "java/lang/invoke/VarHandle") (h : ∃ c k, s.vm.findClass y.cls = some c ∧ s.vm.classes[c]? = some k ∧ k.isInterface = false) : (Jvm.Cond.sameMethod y.cls y.cls y.name y.desc).before args s = true := by
  obtain ⟨mk, methM, hnamed, -⟩ := Cond.instanceMethod_spec hinst
  have hf : s.methodFound? y.cls y.name y.desc = some mk := State.methodFound?_of_named hnamed hy
  have hn : s.methodNamed? ⟨y.cls, y.name, y.desc⟩ = some mk := hnamed
  obtain ⟨c, k, hc, hk, hi⟩ := h
  simp [Cond.before, Cond.holds, Cond.value, hc, hf, hn, hk, hi]
theorem own_selP {args : Array Value} {s : State} {C : String} {y : MethodName} (w : (Jvm.Cond.selects C y y).before args s = true) (hpriv : s.PrivateAt y) (hinst : (Jvm.Cond.instanceMethod y).before args s = true) (hy : y.cls ≠ "java/lang/invoke/MethodHandle" ∧ y.cls ≠ "java/lang/invoke/VarHandle") : (Jvm.Cond.selects y.cls y y).before args s = true := by
  obtain ⟨c, k, hc, hk, hi⟩ := own_notIf w
  exact selects_self_of_private hc hk hi hpriv hinst hy

def own_Q0 (h0 : Heap) (n0 : Nat) (v : Option Value) (h : Heap) (L : List Loc) : Prop := v = none ∧ Fr n0 L ∧ h = h0
theorem own_shr0 (z : Int32) : z >>> ((0 : Int32) &&& 31) = z := by
  apply Int32.toInt_inj.mp
  rw [Jvm.Kit.i32_shr z ((0 : Int32) &&& 31) (k := 0) (by decide)]
  simp
theorem own_shl0 (z : Int32) : z <<< ((0 : Int32) &&& 31) = z := by
  have a := z.toInt_lt; have b := z.le_toInt
  apply Int32.toInt_inj.mp
  rw [Jvm.Kit.i32_shl z ((0 : Int32) &&& 31) (k := 0) (by decide) (by simp; omega) (by simp; omega)]
  simp
/-- the list with these values laid over it from place i on -/
def own_upd (vd : List Value) (i : Nat) (us : List Value) : List Value := vd.take i ++ us ++ vd.drop (i + us.length)
theorem own_range (vs : List Value) (d : Value) (k : Nat) (h : k = vs.length) : vs = (List.range k).map fun i => vs.getD i d := by
  subst h
  apply List.ext_getElem
  · simp
  · intro i h1 h2
    simp [List.getD_eq_getElem?_getD, List.getElem?_eq_getElem h1]
theorem own_upd_len (vd : List Value) (i : Nat) (us : List Value) (h : i + us.length ≤ vd.length) : (own_upd vd i us).length = vd.length := by
  simp [own_upd]; omega
theorem d14_0 : decode jdk_42_method_152_code 0 = .ok (.getstatic 38, 3) := by decide +kernel
theorem d14_3 : decode jdk_42_method_152_code 3 = .ok (.ifCond .eq 10, 3) := by decide +kernel
theorem d14_6 : decode jdk_42_method_152_code 6 = .ok (.aload_n 0, 1) := by decide +kernel
theorem d14_7 : decode jdk_42_method_152_code 7 = .ok (.getfield 15, 3) := by decide +kernel
theorem d14_10 : decode jdk_42_method_152_code 10 = .ok (.goto 4, 3) := by decide +kernel
theorem d14_14 : decode jdk_42_method_152_code 14 = .ok (.ireturn, 1) := by decide +kernel
theorem pn_14 : plainName "java/lang/String" = true := by first | (simp [plainName, overriddenIn]; done) | decide +kernel
theorem ef_14 (m : MethodId) (x0 : Addr) : entryFrame m #[(.ref x0)] 1 = mkF m 0 #[.val (.ref x0)] [] := by first | (simp [entryFrame, mkF, argsToLocals, Value.category]; done) | rfl
set_option maxRecDepth 65536 in
set_option maxHeartbeats 40000000 in
theorem rm14 (l : Launch) (Z : State) (a0 : Array Value) (hw : ∀ d ∈ tables_1, d.before a0 Z = true) (ws : List Jvm.Cond) (a1 : Addr) (G1 : Int32) (h0 : Heap) (n0 : Nat) (Z0 : n0 ≤ h0.size) (S_COMPACT_STRINGS : Sta Z Z.heap "java/lang/String" "COMPACT_STRINGS" "Z" (.int G1)) (X00 : Old Z n0 h0) (P3 : ¬ (G1 = (0 : Int32))) (E_a1 : Exa Z h0 a1 "java/lang/String") (F_coder_a1 : Fld Z h0 a1 "java/lang/String" "coder" "B" (.int (0 : Int32))) :
    MetFree l (⟨"java/lang/String", "coder", "()B"⟩ : MethodName) (head1 (Jvm.Cond.code (⟨"java/lang/String", "coder", "()B"⟩ : MethodName) jdk_42_method_152_code 1 (some .byte) :: ws) ({ frames := 0, cells := 0, slots := 0, locals := 0 } : Room)) (fun a U => a = #[(.ref a1)] ∧ Z.Warmed39 U.vm ∧ U.heap = h0) (fun _ _ _ _ _ => True) (fun _ U o U' => ∃ v L, o = .returned v ∧ own_QR (.int (0 : Int32)) h0 n0 v U'.heap L ∧ FrameEnd U o U' L ({ frames := 0, cells := 0, slots := 0, locals := 0 } : Room).cells ({ frames := 0, cells := 0, slots := 0, locals := 0 } : Room).slots) := by
  refine MetFree.of_bodySF (plainFor_of_name pn_14) hisR ?_
  intro p e s m args below meth c s₁ Bd hml0 hP hK
  obtain ⟨rfl, hZ, hh⟩ := hP
  have hx := Bd.exec
  have hby := Bd.bytes
  have hml : c.maxLocals = 1 := hml0
  have hown : s.vm.findClass "java/lang/String" = some m.cls := findClass_of_methodNamed Bd.named
  have hnm := (name_of_methodNamed Bd.named Bd.method).1
  have X0 : Stand p l e ({ frames := 0, cells := 0, slots := 0, locals := 0 } : Room) s m #[(.ref a1)] below meth c s₁ [] 0 0 := Stand.of_body Bd
  have e0 : s₁.heap = h0 := by rw [← hh, Bd.state]; rfl
  have N0 := Fr.nil n0
  have pre0 : ∀ t, Steps p.tables e below (s₁.setTop (mkF m 0 #[.val (.ref a1)] [])) t → Steps p.tables e below (s₁.setTop (entryFrame m #[(.ref a1)] 1)) t := fun t k => castTop (ef_14 m a1) k
  -- 3. LAWS
  obtain ⟨T2, X2, e2, st2⟩ := getS2 X0 hx hZ hown (host := "") (Or.inl (hw _ (List.mem_of_getElem? (i := 18) rfl))) Via.refl e0 (S_COMPACT_STRINGS.ext X00.2) (g := (mkF m 0 #[.val (.ref a1)] [])) rfl (hb hby d14_0)
  obtain ⟨T3, X3, e3, st3⟩ := getF X2 hx hZ hown (host := "") (Or.inl (hw _ (List.mem_of_getElem? (i := 30) rfl))) Via.refl e2 F_coder_a1 (g := (mkF m 7 #[.val (.ref a1)] [(.ref a1)])) rfl rfl (hb hby d14_7)
  obtain ⟨fs, hr, hrun, hended, hW, hsame⟩ := X3.leave (v := some (.int (0 : Int32))) (fun h => by rw [Bd.returns] at h; cases h)
  refine ⟨_, _, pre0 _ ?_, hrun, hended, _, _, rfl, ?_, ⟨_, rfl⟩, hW, hsame.mono (by decide) (by decide)⟩
  -- 4. STEPS
  · show Steps p.tables e below (s₁.setTop (mkF m 0 #[.val (.ref a1)] [])) _
    refine st2 _ ?_
    show Steps p.tables e below (T2.setTop (mkF m 3 #[.val (.ref a1)] [(.int G1)])) _
    refine XS.ifNo X2.here hx rfl (hb hby d14_3) rfl ((if0 _ _).trans (feq P3).1) ?_
    show Steps p.tables e below (T2.setTop (mkF m 6 #[.val (.ref a1)] [])) _
    refine XS.aloadN X2.here hx rfl (hb hby d14_6) rfl rfl ?_
    show Steps p.tables e below (T2.setTop (mkF m 7 #[.val (.ref a1)] [(.ref a1)])) _
    refine st3 _ ?_
    show Steps p.tables e below (T3.setTop (mkF m 10 #[.val (.ref a1)] [(.int (0 : Int32))])) _
    refine XS.goto X3.here hx rfl (pc0 := 10) (pc' := 14) rfl (hb hby d14_10) (by decide) (by decide) ?_
    show Steps p.tables e below (T3.setTop (mkF m 14 #[.val (.ref a1)] [(.int (0 : Int32))])) _
    exact retN X3 hx (t := .byte) Bd.returns (by simp) (hb hby d14_14) hr
  · show own_QR (.int (0 : Int32)) h0 n0 _ T3.heap _
    rw [e3]
    exact ⟨rfl, N0, rfl⟩
theorem d13_0 : decode jdk_42_method_54_code 0 = .ok (.aload_n 0, 1) := by decide +kernel
theorem d13_1 : decode jdk_42_method_54_code 1 = .ok (.getfield 9, 3) := by decide +kernel
theorem d13_4 : decode jdk_42_method_54_code 4 = .ok (.arraylength, 1) := by decide +kernel
theorem d13_5 : decode jdk_42_method_54_code 5 = .ok (.aload_n 0, 1) := by decide +kernel
theorem d13_6 : decode jdk_42_method_54_code 6 = .ok (.invokevirtual 335, 3) := by decide +kernel
theorem d13_9 : decode jdk_42_method_54_code 9 = .ok (.ishr, 1) := by decide +kernel
theorem d13_10 : decode jdk_42_method_54_code 10 = .ok (.ireturn, 1) := by decide +kernel
theorem pn_13 : plainName "java/lang/String" = true := by first | (simp [plainName, overriddenIn]; done) | decide +kernel
theorem pd_13_12 : parseMethodDescriptor "()B" = some ⟨[], some .byte⟩ := by decide +kernel
theorem ef_13 (m : MethodId) (x0 : Addr) : entryFrame m #[(.ref x0)] 1 = mkF m 0 #[.val (.ref x0)] [] := by first | (simp [entryFrame, mkF, argsToLocals, Value.category]; done) | rfl
set_option maxRecDepth 65536 in
set_option maxHeartbeats 40000000 in
theorem rm13 (l : Launch) (Z : State) (a0 : Array Value) (hw : ∀ d ∈ tables_1, d.before a0 Z = true) (ws : List Jvm.Cond) (a1 : Addr) (G1 : Int32) (sv : Addr) (k_sv : ClassId) (z_sv : Int32) (vs_sv : List Value) (dv_sv : Value) (h0 : Heap) (n0 : Nat) (Z0 : n0 ≤ h0.size) (S_COMPACT_STRINGS : Sta Z Z.heap "java/lang/String" "COMPACT_STRINGS" "Z" (.int G1)) (X00 : Old Z n0 h0) (P3 : ¬ (G1 = (0 : Int32))) (E_a1 : Exa Z h0 a1 "java/lang/String") (F_value_a1 : Fld Z h0 a1 "java/lang/String" "value" "[B" (.ref sv)) (F_coder_a1 : Fld Z h0 a1 "java/lang/String" "coder" "B" (.int (0 : Int32))) (V_sv : Arv Z h0 sv k_sv .byte z_sv vs_sv dv_sv) :
    MetFree l (⟨"java/lang/String", "length", "()I"⟩ : MethodName) (head1 (Jvm.Cond.code (⟨"java/lang/String", "length", "()I"⟩ : MethodName) jdk_42_method_54_code 1 (some .int) :: ws) ({ frames := 1, cells := 0, slots := 0, locals := 13 } : Room)) (fun a U => a = #[(.ref a1)] ∧ Z.Warmed39 U.vm ∧ U.heap = h0) (fun _ _ _ _ _ => True) (fun _ U o U' => ∃ v L, o = .returned v ∧ own_QR (.int z_sv) h0 n0 v U'.heap L ∧ FrameEnd U o U' L ({ frames := 1, cells := 0, slots := 0, locals := 13 } : Room).cells ({ frames := 1, cells := 0, slots := 0, locals := 13 } : Room).slots) := by
  refine MetFree.of_bodySF (plainFor_of_name pn_13) hisR ?_
  intro p e s m args below meth c s₁ Bd hml0 hP hK
  obtain ⟨rfl, hZ, hh⟩ := hP
  have hx := Bd.exec
  have hby := Bd.bytes
  have hml : c.maxLocals = 1 := hml0
  have hown : s.vm.findClass "java/lang/String" = some m.cls := findClass_of_methodNamed Bd.named
  have hnm := (name_of_methodNamed Bd.named Bd.method).1
  have X0 : Stand p l e ({ frames := 1, cells := 0, slots := 0, locals := 13 } : Room) s m #[(.ref a1)] below meth c s₁ [] 0 0 := Stand.of_body Bd
  have e0 : s₁.heap = h0 := by rw [← hh, Bd.state]; rfl
  have N0 := Fr.nil n0
  have pre0 : ∀ t, Steps p.tables e below (s₁.setTop (mkF m 0 #[.val (.ref a1)] [])) t → Steps p.tables e below (s₁.setTop (entryFrame m #[(.ref a1)] 1)) t := fun t k => castTop (ef_13 m a1) k
  -- 3. LAWS
  obtain ⟨T2, X2, e2, st2⟩ := getF X0 hx hZ hown (host := "") (Or.inl (hw _ (List.mem_of_getElem? (i := 32) rfl))) Via.refl e0 F_value_a1 (g := (mkF m 1 #[.val (.ref a1)] [(.ref a1)])) rfl rfl (hb hby d13_1)
  obtain ⟨cl_sv_4, Ar_sv, -, S_sv, N_sv, -, -⟩ := V_sv      -- open the array's fact
  -- pc 6: java/lang/String.coder by the contract of the body that the receiver's class selects, rm14
  obtain ⟨cq3, kq3, q3a, q3b, q3c⟩ := isOf hZ e2 E_a1
  obtain ⟨_, _, ⟨T3, L3, k3, n3⟩, -, X3, ⟨Lc3, hQ3, l3, y3, z3⟩, st3⟩ := X2.virtualBack hx (y := (⟨"java/lang/String", "coder", "()B"⟩ : MethodName)) (z := (⟨"java/lang/String", "coder", "()B"⟩ : MethodName)) hown (mvT hZ (hw _ (List.mem_of_getElem? (i := 76) rfl))) (mvT hZ (hw _ (List.mem_of_getElem? (i := 77) rfl))) (notFace_of_selects (args := #[]) (mvT hZ (hw _ (List.mem_of_getElem? (i := 79) rfl)))) (mvT hZ (hw _ (List.mem_of_getElem? (i := 79) rfl))) (mvT hZ (hw _ (List.mem_of_getElem? (i := 78) rfl))) (by decide) (backOf (W := 1) (rm14 l Z a0 hw [] a1 G1 h0 n0 Z0 S_COMPACT_STRINGS X00 P3 E_a1 F_coder_a1) hZ (hw _ (List.mem_of_getElem? (i := 80) rfl)) (hw _ (List.mem_of_getElem? (i := 6) rfl)) (by decide) (by decide)) q3a q3c (g := (mkF m 6 #[.val (.ref a1)] [(.ref a1), (.int z_sv)])) rfl (by rw [hml]; rfl) (Steps.refl _) (argsL := []) (rest := [(.int z_sv)]) (lenOf pd_13_12 rfl) rfl (by show 2 * 0 + _ ≤ _; exact Nat.le_of_eq rfl) (hb hby d13_6) (fun _ _ => ⟨rfl, e2, (by decide : 0 + 0 ≤ _), (by decide : 0 + 0 ≤ _)⟩)
  dsimp only [Pt.U, Pt.locs, Pt.cells, Pt.slots] at X3 l3 y3 z3 st3 hQ3
  subst l3 y3 z3
  obtain ⟨rfl, N3q, eqL⟩ := hQ3      -- what it returned, that it wrote nothing old, and the rest of your Q14
  have N3 := Fr.app N0 N3q
  have Kq3 : Keep h0 T3.heap [] := (own_keq eqL)
  have K3 : Keep h0 T3.heap [] := (Keep.refl h0 []).trans Kq3 all0
  obtain ⟨fs, hr, hrun, hended, hW, hsame⟩ := X3.leave (v := some (.int (z_sv >>> ((0 : Int32) &&& 31)))) (fun h => by rw [Bd.returns] at h; cases h)
  refine ⟨_, _, pre0 _ ?_, hrun, hended, _, _, rfl, ?_, ⟨_, rfl⟩, hW, hsame.mono (by decide) (by decide)⟩
  -- 4. STEPS
  · show Steps p.tables e below (s₁.setTop (mkF m 0 #[.val (.ref a1)] [])) _
    refine XS.aloadN X0.here hx rfl (hb hby d13_0) rfl rfl ?_
    show Steps p.tables e below (s₁.setTop (mkF m 1 #[.val (.ref a1)] [(.ref a1)])) _
    refine st2 _ ?_
    show Steps p.tables e below (T2.setTop (mkF m 4 #[.val (.ref a1)] [(.ref sv)])) _
    refine X2.arraylength hx (by rw [e2]; exact Ar_sv.1) (State.isArrayOf_alike hZ.alike Ar_sv.2.1) (g := (mkF m 4 #[.val (.ref a1)] [(.ref sv)])) rfl rfl (hb hby d13_4) _ ?_
    rw [len_of S_sv N_sv]
    show Steps p.tables e below (T2.setTop (mkF m 5 #[.val (.ref a1)] [(.int z_sv)])) _
    refine XS.aloadN X2.here hx rfl (hb hby d13_5) rfl rfl ?_
    show Steps p.tables e below (T2.setTop (mkF m 6 #[.val (.ref a1)] [(.ref a1), (.int z_sv)])) _
    refine st3.trans ?_
    show Steps p.tables e below (T3.setTop (mkF m 9 #[.val (.ref a1)] [(.int (0 : Int32)), (.int z_sv)])) _
    refine XS.ishr X3.here hx rfl (hb hby d13_9) rfl ?_
    show Steps p.tables e below (T3.setTop (mkF m 10 #[.val (.ref a1)] [(.int (z_sv >>> ((0 : Int32) &&& 31)))])) _
    exact retI X3 hx Bd.returns (hb hby d13_10) hr      -- retI stands in the head ('lawwalk <made dir>' prints it)
  · show own_QR (.int z_sv) h0 n0 _ T3.heap _
    exact ⟨congrArg (fun z => some (Value.int z)) (own_shr0 _), N3, eqL⟩
theorem d15_0 : decode jdk_68_method_9_code 0 = .ok (.aload_n 0, 1) := by decide +kernel
theorem d15_1 : decode jdk_68_method_9_code 1 = .ok (.getfield 15, 3) := by decide +kernel
theorem d15_4 : decode jdk_68_method_9_code 4 = .ok (.arraylength, 1) := by decide +kernel
theorem d15_5 : decode jdk_68_method_9_code 5 = .ok (.aload_n 0, 1) := by decide +kernel
theorem d15_6 : decode jdk_68_method_9_code 6 = .ok (.getfield 22, 3) := by decide +kernel
theorem d15_9 : decode jdk_68_method_9_code 9 = .ok (.ishr, 1) := by decide +kernel
theorem d15_10 : decode jdk_68_method_9_code 10 = .ok (.istore_n 2, 1) := by decide +kernel
theorem d15_11 : decode jdk_68_method_9_code 11 = .ok (.iload_n 1, 1) := by decide +kernel
theorem d15_12 : decode jdk_68_method_9_code 12 = .ok (.iload_n 2, 1) := by decide +kernel
theorem d15_13 : decode jdk_68_method_9_code 13 = .ok (.isub, 1) := by decide +kernel
theorem d15_14 : decode jdk_68_method_9_code 14 = .ok (.ifCond .le 24, 3) := by decide +kernel
theorem d15_38 : decode jdk_68_method_9_code 38 = .ok (.return_, 1) := by decide +kernel
theorem pn_15 : plainName "java/lang/AbstractStringBuilder" = true := by first | (simp [plainName, overriddenIn]; done) | decide +kernel
theorem ef_15 (m : MethodId) (x0 : Addr) (x1 : Int32) : entryFrame m #[(.ref x0), (.int x1)] 3 = mkF m 0 #[.val (.ref x0), .val (.int x1), .unset] [] := by first | (simp [entryFrame, mkF, argsToLocals, Value.category]; done) | rfl
set_option maxRecDepth 65536 in
set_option maxHeartbeats 40000000 in
theorem rm15 (l : Launch) (Z : State) (a0 : Array Value) (hw : ∀ d ∈ tables_1, d.before a0 Z = true) (ws : List Jvm.Cond) (a1 : Addr) (p2 : Int32) (bv : Addr) (k_bv : ClassId) (z_bv : Int32) (vs_bv : List Value) (dv_bv : Value) (h0 : Heap) (n0 : Nat) (Z0 : n0 ≤ h0.size) (E_a1 : Exa Z h0 a1 "java/lang/StringBuilder") (F_value_a1 : Fld Z h0 a1 "java/lang/AbstractStringBuilder" "value" "[B" (.ref bv)) (F_coder_a1 : Fld Z h0 a1 "java/lang/AbstractStringBuilder" "coder" "B" (.int (0 : Int32))) (V_bv : Arv Z h0 bv k_bv .byte z_bv vs_bv dv_bv) (hc14 : ¬ ((0 : Int32) < (p2 - (z_bv >>> ((0 : Int32) &&& 31))))) :
    MetFree l (⟨"java/lang/AbstractStringBuilder", "ensureCapacityInternal", "(I)V"⟩ : MethodName) (head1 (Jvm.Cond.code (⟨"java/lang/AbstractStringBuilder", "ensureCapacityInternal", "(I)V"⟩ : MethodName) jdk_68_method_9_code 3 none :: ws) ({ frames := 0, cells := 0, slots := 0, locals := 0 } : Room)) (fun a U => a = #[(.ref a1), (.int p2)] ∧ Z.Warmed39 U.vm ∧ U.heap = h0) (fun _ _ _ _ _ => True) (fun _ U o U' => ∃ v L, o = .returned v ∧ own_Q0 h0 n0 v U'.heap L ∧ FrameEnd U o U' L ({ frames := 0, cells := 0, slots := 0, locals := 0 } : Room).cells ({ frames := 0, cells := 0, slots := 0, locals := 0 } : Room).slots) := by
  refine MetFree.of_bodySF (plainFor_of_name pn_15) hisR ?_
  intro p e s m args below meth c s₁ Bd hml0 hP hK
  obtain ⟨rfl, hZ, hh⟩ := hP
  have hx := Bd.exec
  have hby := Bd.bytes
  have hml : c.maxLocals = 3 := hml0
  have hown : s.vm.findClass "java/lang/AbstractStringBuilder" = some m.cls := findClass_of_methodNamed Bd.named
  have hnm := (name_of_methodNamed Bd.named Bd.method).1
  have X0 : Stand p l e ({ frames := 0, cells := 0, slots := 0, locals := 0 } : Room) s m #[(.ref a1), (.int p2)] below meth c s₁ [] 0 0 := Stand.of_body Bd
  have e0 : s₁.heap = h0 := by rw [← hh, Bd.state]; rfl
  have N0 := Fr.nil n0
  have pre0 : ∀ t, Steps p.tables e below (s₁.setTop (mkF m 0 #[.val (.ref a1), .val (.int p2), .unset] [])) t → Steps p.tables e below (s₁.setTop (entryFrame m #[(.ref a1), (.int p2)] 3)) t := fun t k => castTop (ef_15 m a1 p2) k
  -- 3. LAWS
  obtain ⟨T3, X3, e3, st3⟩ := getF X0 hx hZ hown (host := "") (Or.inl (hw _ (List.mem_of_getElem? (i := 57) rfl))) Via.refl e0 F_value_a1 (g := (mkF m 1 #[.val (.ref a1), .val (.int p2), .unset] [(.ref a1)])) rfl rfl (hb hby d15_1)
  obtain ⟨cl_bv_4, Ar_bv, -, S_bv, N_bv, -, -⟩ := V_bv      -- open the array's fact
  obtain ⟨T4, X4, e4, st4⟩ := getF X3 hx hZ hown (host := "") (Or.inl (hw _ (List.mem_of_getElem? (i := 59) rfl))) Via.refl e3 F_coder_a1 (g := (mkF m 6 #[.val (.ref a1), .val (.int p2), .unset] [(.ref a1), (.int z_bv)])) rfl rfl (hb hby d15_6)
  obtain ⟨fs, hr, hrun, hended, hW, hsame⟩ := X4.leave (v := none) (fun _ => rfl)
  refine ⟨_, _, pre0 _ ?_, hrun, hended, _, _, rfl, ?_, ⟨_, rfl⟩, hW, hsame.mono (by decide) (by decide)⟩
  -- 4. STEPS
  · show Steps p.tables e below (s₁.setTop (mkF m 0 #[.val (.ref a1), .val (.int p2), .unset] [])) _
    refine XS.aloadN X0.here hx rfl (hb hby d15_0) rfl rfl ?_
    show Steps p.tables e below (s₁.setTop (mkF m 1 #[.val (.ref a1), .val (.int p2), .unset] [(.ref a1)])) _
    refine st3 _ ?_
    show Steps p.tables e below (T3.setTop (mkF m 4 #[.val (.ref a1), .val (.int p2), .unset] [(.ref bv)])) _
    refine X3.arraylength hx (by rw [e3]; exact Ar_bv.1) (State.isArrayOf_alike hZ.alike Ar_bv.2.1) (g := (mkF m 4 #[.val (.ref a1), .val (.int p2), .unset] [(.ref bv)])) rfl rfl (hb hby d15_4) _ ?_
    rw [len_of S_bv N_bv]
    show Steps p.tables e below (T3.setTop (mkF m 5 #[.val (.ref a1), .val (.int p2), .unset] [(.int z_bv)])) _
    refine XS.aloadN X3.here hx rfl (hb hby d15_5) rfl rfl ?_
    show Steps p.tables e below (T3.setTop (mkF m 6 #[.val (.ref a1), .val (.int p2), .unset] [(.ref a1), (.int z_bv)])) _
    refine st4 _ ?_
    show Steps p.tables e below (T4.setTop (mkF m 9 #[.val (.ref a1), .val (.int p2), .unset] [(.int (0 : Int32)), (.int z_bv)])) _
    refine XS.ishr X4.here hx rfl (hb hby d15_9) rfl ?_
    show Steps p.tables e below (T4.setTop (mkF m 10 #[.val (.ref a1), .val (.int p2), .unset] [(.int (z_bv >>> ((0 : Int32) &&& 31)))])) _
    refine XS.istoreN X4.here hx rfl (hb hby d15_10) rfl (l' := #[.val (.ref a1), .val (.int p2), .val (.int (z_bv >>> ((0 : Int32) &&& 31)))]) rfl ?_
    show Steps p.tables e below (T4.setTop (mkF m 11 #[.val (.ref a1), .val (.int p2), .val (.int (z_bv >>> ((0 : Int32) &&& 31)))] [])) _
    refine XS.iloadN X4.here hx rfl (hb hby d15_11) rfl ?_
    show Steps p.tables e below (T4.setTop (mkF m 12 #[.val (.ref a1), .val (.int p2), .val (.int (z_bv >>> ((0 : Int32) &&& 31)))] [(.int p2)])) _
    refine XS.iloadN X4.here hx rfl (hb hby d15_12) rfl ?_
    show Steps p.tables e below (T4.setTop (mkF m 13 #[.val (.ref a1), .val (.int p2), .val (.int (z_bv >>> ((0 : Int32) &&& 31)))] [(.int (z_bv >>> ((0 : Int32) &&& 31))), (.int p2)])) _
    refine XS.isub X4.here hx rfl (hb hby d15_13) rfl ?_
    show Steps p.tables e below (T4.setTop (mkF m 14 #[.val (.ref a1), .val (.int p2), .val (.int (z_bv >>> ((0 : Int32) &&& 31)))] [(.int (p2 - (z_bv >>> ((0 : Int32) &&& 31))))])) _
    refine XS.ifYes X4.here hx rfl (pc0 := 14) (pc' := 38) rfl (hb hby d15_14) rfl ((if0 _ _).trans (flt hc14).2.2.2) (by decide) (by decide) ?_
    show Steps p.tables e below (T4.setTop (mkF m 38 #[.val (.ref a1), .val (.int p2), .val (.int (z_bv >>> ((0 : Int32) &&& 31)))] [])) _
    exact X4.returnOut hx Bd.returns (hb hby d15_38) hr
  · show own_Q0 h0 n0 _ T4.heap _
    rw [e4]
    exact ⟨rfl, N0, rfl⟩
theorem d17_0 : decode jdk_68_method_71_code 0 = .ok (.getstatic 18, 3) := by decide +kernel
theorem d17_3 : decode jdk_68_method_71_code 3 = .ok (.ifCond .eq 18, 3) := by decide +kernel
theorem d17_6 : decode jdk_68_method_71_code 6 = .ok (.aload_n 0, 1) := by decide +kernel
theorem d17_7 : decode jdk_68_method_71_code 7 = .ok (.getfield 22, 3) := by decide +kernel
theorem d17_10 : decode jdk_68_method_71_code 10 = .ok (.aload_n 1, 1) := by decide +kernel
theorem d17_11 : decode jdk_68_method_71_code 11 = .ok (.invokevirtual 40, 3) := by decide +kernel
theorem d17_14 : decode jdk_68_method_71_code 14 = .ok (.if_icmp .eq 7, 3) := by decide +kernel
theorem d17_21 : decode jdk_68_method_71_code 21 = .ok (.return_, 1) := by decide +kernel
theorem pn_17 : plainName "java/lang/AbstractStringBuilder" = true := by first | (simp [plainName, overriddenIn]; done) | decide +kernel
theorem pd_17_12 : parseMethodDescriptor "()B" = some ⟨[], some .byte⟩ := by decide +kernel
theorem ef_17 (m : MethodId) (x0 : Addr) (x1 : Addr) : entryFrame m #[(.ref x0), (.ref x1)] 2 = mkF m 0 #[.val (.ref x0), .val (.ref x1)] [] := by first | (simp [entryFrame, mkF, argsToLocals, Value.category]; done) | rfl
set_option maxRecDepth 65536 in
set_option maxHeartbeats 40000000 in
theorem rm17 (l : Launch) (Z : State) (a0 : Array Value) (hw : ∀ d ∈ tables_1, d.before a0 Z = true) (ws : List Jvm.Cond) (a1 : Addr) (a2 : Addr) (G1 : Int32) (h0 : Heap) (n0 : Nat) (Z0 : n0 ≤ h0.size) (S_COMPACT_STRINGS : Sta Z Z.heap "java/lang/String" "COMPACT_STRINGS" "Z" (.int G1)) (X00 : Old Z n0 h0) (P3 : ¬ (G1 = (0 : Int32))) (E_a1 : Exa Z h0 a1 "java/lang/StringBuilder") (F_coder_a1 : Fld Z h0 a1 "java/lang/AbstractStringBuilder" "coder" "B" (.int (0 : Int32))) (E_a2 : Exa Z h0 a2 "java/lang/String") (F_coder_a2 : Fld Z h0 a2 "java/lang/String" "coder" "B" (.int (0 : Int32))) :
    MetFree l (⟨"java/lang/AbstractStringBuilder", "inflateIfNeededFor", "(Ljava/lang/String;)V"⟩ : MethodName) (head1 (Jvm.Cond.code (⟨"java/lang/AbstractStringBuilder", "inflateIfNeededFor", "(Ljava/lang/String;)V"⟩ : MethodName) jdk_68_method_71_code 2 none :: ws) ({ frames := 1, cells := 0, slots := 0, locals := 13 } : Room)) (fun a U => a = #[(.ref a1), (.ref a2)] ∧ Z.Warmed39 U.vm ∧ U.heap = h0) (fun _ _ _ _ _ => True) (fun _ U o U' => ∃ v L, o = .returned v ∧ own_Q0 h0 n0 v U'.heap L ∧ FrameEnd U o U' L ({ frames := 1, cells := 0, slots := 0, locals := 13 } : Room).cells ({ frames := 1, cells := 0, slots := 0, locals := 13 } : Room).slots) := by
  refine MetFree.of_bodySF (plainFor_of_name pn_17) hisR ?_
  intro p e s m args below meth c s₁ Bd hml0 hP hK
  obtain ⟨rfl, hZ, hh⟩ := hP
  have hx := Bd.exec
  have hby := Bd.bytes
  have hml : c.maxLocals = 2 := hml0
  have hown : s.vm.findClass "java/lang/AbstractStringBuilder" = some m.cls := findClass_of_methodNamed Bd.named
  have hnm := (name_of_methodNamed Bd.named Bd.method).1
  have X0 : Stand p l e ({ frames := 1, cells := 0, slots := 0, locals := 13 } : Room) s m #[(.ref a1), (.ref a2)] below meth c s₁ [] 0 0 := Stand.of_body Bd
  have e0 : s₁.heap = h0 := by rw [← hh, Bd.state]; rfl
  have N0 := Fr.nil n0
  have pre0 : ∀ t, Steps p.tables e below (s₁.setTop (mkF m 0 #[.val (.ref a1), .val (.ref a2)] [])) t → Steps p.tables e below (s₁.setTop (entryFrame m #[(.ref a1), (.ref a2)] 2)) t := fun t k => castTop (ef_17 m a1 a2) k
  -- 3. LAWS
  obtain ⟨T3, X3, e3, st3⟩ := getS2 X0 hx hZ hown (host := "") (Or.inl (hw _ (List.mem_of_getElem? (i := 56) rfl))) Via.refl e0 (S_COMPACT_STRINGS.ext X00.2) (g := (mkF m 0 #[.val (.ref a1), .val (.ref a2)] [])) rfl (hb hby d17_0)
  obtain ⟨T4, X4, e4, st4⟩ := getF X3 hx hZ hown (host := "") (Or.inl (hw _ (List.mem_of_getElem? (i := 59) rfl))) Via.refl e3 F_coder_a1 (g := (mkF m 7 #[.val (.ref a1), .val (.ref a2)] [(.ref a1)])) rfl rfl (hb hby d17_7)
  -- pc 11: java/lang/String.coder by the contract of the body that the receiver's class selects, rm14
  obtain ⟨cq5, kq5, q5a, q5b, q5c⟩ := isOf hZ e4 E_a2
  obtain ⟨_, _, ⟨T5, L5, k5, n5⟩, -, X5, ⟨Lc5, hQ5, l5, y5, z5⟩, st5⟩ := X4.virtualBack hx (y := (⟨"java/lang/String", "coder", "()B"⟩ : MethodName)) (z := (⟨"java/lang/String", "coder", "()B"⟩ : MethodName)) hown (mvT hZ (hw _ (List.mem_of_getElem? (i := 98) rfl))) (mvT hZ (hw _ (List.mem_of_getElem? (i := 77) rfl))) (notFace_of_selects (args := #[]) (mvT hZ (hw _ (List.mem_of_getElem? (i := 79) rfl)))) (mvT hZ (hw _ (List.mem_of_getElem? (i := 79) rfl))) (mvT hZ (hw _ (List.mem_of_getElem? (i := 78) rfl))) (by decide) (backOf (W := 1) (rm14 l Z a0 hw [] a2 G1 h0 n0 Z0 S_COMPACT_STRINGS X00 P3 E_a2 F_coder_a2) hZ (hw _ (List.mem_of_getElem? (i := 80) rfl)) (hw _ (List.mem_of_getElem? (i := 6) rfl)) (by decide) (by decide)) q5a q5c (g := (mkF m 11 #[.val (.ref a1), .val (.ref a2)] [(.ref a2), (.int (0 : Int32))])) rfl (by rw [hml]; rfl) (Steps.refl _) (argsL := []) (rest := [(.int (0 : Int32))]) (lenOf pd_17_12 rfl) rfl (by show 2 * 0 + _ ≤ _; exact Nat.le_of_eq rfl) (hb hby d17_11) (fun _ _ => ⟨rfl, e4, (by decide : 0 + 0 ≤ _), (by decide : 0 + 0 ≤ _)⟩)
  dsimp only [Pt.U, Pt.locs, Pt.cells, Pt.slots] at X5 l5 y5 z5 st5 hQ5
  subst l5 y5 z5
  obtain ⟨rfl, N5q, eqL⟩ := hQ5      -- what it returned, that it wrote nothing old, and the rest of your Q14
  have N5 := Fr.app N0 N5q
  have Kq5 : Keep h0 T5.heap [] := (own_keq eqL)
  have K5 : Keep h0 T5.heap [] := (Keep.refl h0 []).trans Kq5 all0
  obtain ⟨fs, hr, hrun, hended, hW, hsame⟩ := X5.leave (v := none) (fun _ => rfl)
  refine ⟨_, _, pre0 _ ?_, hrun, hended, _, _, rfl, ?_, ⟨_, rfl⟩, hW, hsame.mono (by decide) (by decide)⟩
  -- 4. STEPS
  · show Steps p.tables e below (s₁.setTop (mkF m 0 #[.val (.ref a1), .val (.ref a2)] [])) _
    refine st3 _ ?_
    show Steps p.tables e below (T3.setTop (mkF m 3 #[.val (.ref a1), .val (.ref a2)] [(.int G1)])) _
    refine XS.ifNo X3.here hx rfl (hb hby d17_3) rfl ((if0 _ _).trans (feq P3).1) ?_
    show Steps p.tables e below (T3.setTop (mkF m 6 #[.val (.ref a1), .val (.ref a2)] [])) _
    refine XS.aloadN X3.here hx rfl (hb hby d17_6) rfl rfl ?_
    show Steps p.tables e below (T3.setTop (mkF m 7 #[.val (.ref a1), .val (.ref a2)] [(.ref a1)])) _
    refine st4 _ ?_
    show Steps p.tables e below (T4.setTop (mkF m 10 #[.val (.ref a1), .val (.ref a2)] [(.int (0 : Int32))])) _
    refine XS.aloadN X4.here hx rfl (hb hby d17_10) rfl rfl ?_
    show Steps p.tables e below (T4.setTop (mkF m 11 #[.val (.ref a1), .val (.ref a2)] [(.ref a2), (.int (0 : Int32))])) _
    refine st5.trans ?_
    show Steps p.tables e below (T5.setTop (mkF m 14 #[.val (.ref a1), .val (.ref a2)] [(.int (0 : Int32)), (.int (0 : Int32))])) _
    refine XS.icmpYes X5.here hx rfl (pc0 := 14) (pc' := 21) rfl (hb hby d17_14) rfl (teq (rfl : (0 : Int32) = (0 : Int32))).1 (by decide) (by decide) ?_
    show Steps p.tables e below (T5.setTop (mkF m 21 #[.val (.ref a1), .val (.ref a2)] [])) _
    exact X5.returnOut hx Bd.returns (hb hby d17_21) hr
  · show own_Q0 h0 n0 _ T5.heap _
    exact ⟨rfl, N5, eqL⟩
def own_QA (Z : State) (b : Addr) (k : ClassId) (z : Int32) (vs : List Value) (dv : Value) (h0 : Heap) (n0 : Nat) (v : Option Value) (h : Heap) (L : List Loc) : Prop := v = none ∧ Fr n0 L ∧ Keep h0 h [b] ∧ Arv Z h b k .byte z vs dv
theorem d18_0 : decode jdk_42_method_147_code 0 = .ok (.aload_n 0, 1) := by decide +kernel
theorem d18_1 : decode jdk_42_method_147_code 1 = .ok (.invokevirtual 335, 3) := by decide +kernel
theorem d18_4 : decode jdk_42_method_147_code 4 = .ok (.iload_n 3, 1) := by decide +kernel
theorem d18_5 : decode jdk_42_method_147_code 5 = .ok (.if_icmp .ne 23, 3) := by decide +kernel
theorem d18_8 : decode jdk_42_method_147_code 8 = .ok (.aload_n 0, 1) := by decide +kernel
theorem d18_9 : decode jdk_42_method_147_code 9 = .ok (.getfield 9, 3) := by decide +kernel
theorem d18_12 : decode jdk_42_method_147_code 12 = .ok (.iconst 0, 1) := by decide +kernel
theorem d18_13 : decode jdk_42_method_147_code 13 = .ok (.aload_n 1, 1) := by decide +kernel
theorem d18_14 : decode jdk_42_method_147_code 14 = .ok (.iload_n 2, 1) := by decide +kernel
theorem d18_15 : decode jdk_42_method_147_code 15 = .ok (.iload_n 3, 1) := by decide +kernel
theorem d18_16 : decode jdk_42_method_147_code 16 = .ok (.ishl, 1) := by decide +kernel
theorem d18_17 : decode jdk_42_method_147_code 17 = .ok (.aload_n 0, 1) := by decide +kernel
theorem d18_18 : decode jdk_42_method_147_code 18 = .ok (.getfield 9, 3) := by decide +kernel
theorem d18_21 : decode jdk_42_method_147_code 21 = .ok (.arraylength, 1) := by decide +kernel
theorem d18_22 : decode jdk_42_method_147_code 22 = .ok (.invokestatic 212, 3) := by decide +kernel
theorem d18_25 : decode jdk_42_method_147_code 25 = .ok (.goto 18, 3) := by decide +kernel
theorem d18_43 : decode jdk_42_method_147_code 43 = .ok (.return_, 1) := by decide +kernel
theorem pn_18 : plainName "java/lang/String" = true := by first | (simp [plainName, overriddenIn]; done) | decide +kernel
theorem pd_18_12 : parseMethodDescriptor "()B" = some ⟨[], some .byte⟩ := by decide +kernel
theorem ef_18 (m : MethodId) (x0 : Addr) (x1 : Addr) (x2 : Int32) (x3 : Int32) : entryFrame m #[(.ref x0), (.ref x1), (.int x2), (.int x3)] 4 = mkF m 0 #[.val (.ref x0), .val (.ref x1), .val (.int x2), .val (.int x3)] [] := by first | (simp [entryFrame, mkF, argsToLocals, Value.category]; done) | rfl
set_option maxRecDepth 65536 in
set_option maxHeartbeats 40000000 in
theorem rm18b (l : Launch) (Z : State) (a0 : Array Value) (hw : ∀ d ∈ tables_1, d.before a0 Z = true) (ws : List Jvm.Cond) (a1 : Addr) (a2 : Addr) (p3 : Int32) (G1 : Int32) (sv : Addr) (k_sv : ClassId) (z_sv : Int32) (vs_sv : List Value) (dv_sv : Value) (k_a2 : ClassId) (z_a2 : Int32) (vs_a2 : List Value) (dv_a2 : Value) (us22 : List Value) (h0 : Heap) (n0 : Nat) (Z0 : n0 ≤ h0.size) (S_COMPACT_STRINGS : Sta Z Z.heap "java/lang/String" "COMPACT_STRINGS" "Z" (.int G1)) (X00 : Old Z n0 h0) (P3 : ¬ (G1 = (0 : Int32))) (E_a1 : Exa Z h0 a1 "java/lang/String") (F_value_a1 : Fld Z h0 a1 "java/lang/String" "value" "[B" (.ref sv)) (F_coder_a1 : Fld Z h0 a1 "java/lang/String" "coder" "B" (.int (0 : Int32))) (V_sv : Arv Z h0 sv k_sv .byte z_sv vs_sv dv_sv) (V_a2 : Arv Z h0 a2 k_a2 .byte z_a2 vs_a2 dv_a2) (hcs22 : ¬ (0 : Int32) < 0) (hcd22 : ¬ (p3 <<< ((0 : Int32) &&& 31)) < 0) (hcn22 : ¬ z_sv < 0) (hca22 : ((0 : Int32)).toNatClampNeg + (z_sv).toNatClampNeg ≤ (z_sv).toNatClampNeg) (hcb22 : ((p3 <<< ((0 : Int32) &&& 31))).toNatClampNeg + (z_sv).toNatClampNeg ≤ (z_a2).toNatClampNeg) (hcu22 : us22 = (List.range (z_sv).toNatClampNeg).map fun i => vs_sv.getD (((0 : Int32)).toNatClampNeg + i) dv_sv) (hcl22 : ((p3 <<< ((0 : Int32) &&& 31))).toNatClampNeg + (z_sv).toNatClampNeg ≤ vs_a2.length) (g_a2 : n0 ≤ a2) :
    MetFree l (⟨"java/lang/String", "getBytes", "([BIB)V"⟩ : MethodName) (head1 (Jvm.Cond.code (⟨"java/lang/String", "getBytes", "([BIB)V"⟩ : MethodName) jdk_42_method_147_code 4 none :: ws) ({ frames := 1, cells := 0, slots := 0, locals := 32 } : Room)) (fun a U => a = #[(.ref a1), (.ref a2), (.int p3), (.int (0 : Int32))] ∧ Z.Warmed39 U.vm ∧ U.heap = h0) (fun _ _ _ _ _ => True) (fun _ U o U' => ∃ v L, o = .returned v ∧ own_QA Z a2 k_a2 z_a2 (vs_a2.take (p3 <<< ((0 : Int32) &&& 31)).toNatClampNeg ++ us22 ++ vs_a2.drop ((p3 <<< ((0 : Int32) &&& 31)).toNatClampNeg + z_sv.toNatClampNeg)) dv_a2 h0 n0 v U'.heap L ∧ FrameEnd U o U' L ({ frames := 1, cells := 0, slots := 0, locals := 32 } : Room).cells ({ frames := 1, cells := 0, slots := 0, locals := 32 } : Room).slots) := by
  refine MetFree.of_bodySF (plainFor_of_name pn_18) hisR ?_
  intro p e s m args below meth c s₁ Bd hml0 hP hK
  obtain ⟨rfl, hZ, hh⟩ := hP
  have hx := Bd.exec
  have hby := Bd.bytes
  have hml : c.maxLocals = 4 := hml0
  have hown : s.vm.findClass "java/lang/String" = some m.cls := findClass_of_methodNamed Bd.named
  have hnm := (name_of_methodNamed Bd.named Bd.method).1
  have X0 : Stand p l e ({ frames := 1, cells := 0, slots := 0, locals := 32 } : Room) s m #[(.ref a1), (.ref a2), (.int p3), (.int (0 : Int32))] below meth c s₁ [] 0 0 := Stand.of_body Bd
  have e0 : s₁.heap = h0 := by rw [← hh, Bd.state]; rfl
  have N0 := Fr.nil n0
  have pre0 : ∀ t, Steps p.tables e below (s₁.setTop (mkF m 0 #[.val (.ref a1), .val (.ref a2), .val (.int p3), .val (.int (0 : Int32))] [])) t → Steps p.tables e below (s₁.setTop (entryFrame m #[(.ref a1), (.ref a2), (.int p3), (.int (0 : Int32))] 4)) t := fun t k => castTop (ef_18 m a1 a2 p3 (0 : Int32)) k
  -- 3. LAWS
  -- pc 1: java/lang/String.coder by the contract of the body that the receiver's class selects, rm14
  obtain ⟨cq4, kq4, q4a, q4b, q4c⟩ := isOf hZ e0 E_a1
  obtain ⟨_, _, ⟨T4, L4, k4, n4⟩, -, X4, ⟨Lc4, hQ4, l4, y4, z4⟩, st4⟩ := X0.virtualBack hx (y := (⟨"java/lang/String", "coder", "()B"⟩ : MethodName)) (z := (⟨"java/lang/String", "coder", "()B"⟩ : MethodName)) hown (mvT hZ (hw _ (List.mem_of_getElem? (i := 76) rfl))) (mvT hZ (hw _ (List.mem_of_getElem? (i := 77) rfl))) (notFace_of_selects (args := #[]) (mvT hZ (hw _ (List.mem_of_getElem? (i := 79) rfl)))) (mvT hZ (hw _ (List.mem_of_getElem? (i := 79) rfl))) (mvT hZ (hw _ (List.mem_of_getElem? (i := 78) rfl))) (by decide) (backOf (W := 0) (rm14 l Z a0 hw [] a1 G1 h0 n0 Z0 S_COMPACT_STRINGS X00 P3 E_a1 F_coder_a1) hZ (hw _ (List.mem_of_getElem? (i := 80) rfl)) (hw _ (List.mem_of_getElem? (i := 6) rfl)) (by decide) (by decide)) q4a q4c (g := (mkF m 1 #[.val (.ref a1), .val (.ref a2), .val (.int p3), .val (.int (0 : Int32))] [(.ref a1)])) rfl (by rw [hml]; rfl) (Steps.refl _) (argsL := []) (rest := []) (lenOf pd_18_12 rfl) rfl (by show 2 * 0 + _ ≤ _; exact Nat.le_of_eq rfl) (hb hby d18_1) (fun _ _ => ⟨rfl, e0, (by decide : 0 + 0 ≤ _), (by decide : 0 + 0 ≤ _)⟩)
  dsimp only [Pt.U, Pt.locs, Pt.cells, Pt.slots] at X4 l4 y4 z4 st4 hQ4
  subst l4 y4 z4
  obtain ⟨rfl, N4q, eqL⟩ := hQ4      -- what it returned, that it wrote nothing old, and the rest of your Q14
  have N4 := Fr.app N0 N4q
  have Kq4 : Keep h0 T4.heap [] := (own_keq eqL)
  have K4 : Keep h0 T4.heap [a2] := (Keep.refl h0 [a2]).trans Kq4 all0
  obtain ⟨T5, X5, e5, st5⟩ := getF X4 hx hZ hown (host := "") (Or.inl (hw _ (List.mem_of_getElem? (i := 32) rfl))) Via.refl rfl (F_value_a1.keep Kq4 (fun q => nomatch q)) (g := (mkF m 9 #[.val (.ref a1), .val (.ref a2), .val (.int p3), .val (.int (0 : Int32))] [(.ref a1)])) rfl rfl (hb hby d18_9)
  obtain ⟨T6, X6, e6, st6⟩ := getF X5 hx hZ hown (host := "") (Or.inl (hw _ (List.mem_of_getElem? (i := 32) rfl))) Via.refl e5 (F_value_a1.keep Kq4 (fun q => nomatch q)) (g := (mkF m 18 #[.val (.ref a1), .val (.ref a2), .val (.int p3), .val (.int (0 : Int32))] [(.ref a1), (.int (p3 <<< ((0 : Int32) &&& 31))), (.ref a2), (.int (0 : Int32)), (.ref sv)])) rfl rfl (hb hby d18_18)
  obtain ⟨cl_sv_21, Ar_sv, -, S_sv, N_sv, -, -⟩ := (V_sv.keep Kq4 (fun q => nomatch q))      -- open the array's fact
  obtain ⟨T7, h7, L7, X7, e7, N7, Kq7, V_a2_7, st7⟩ := cpA X6 hx hZ hown (hw _ (List.mem_of_getElem? (i := 104) rfl)) (hw _ (List.mem_of_getElem? (i := 107) rfl)) (hw _ (List.mem_of_getElem? (i := 105) rfl)) (hw _ (List.mem_of_getElem? (i := 106) rfl)) e6 (V_sv.keep Kq4 (fun q => nomatch q)) (V_a2.keep Kq4 (fun q => nomatch q)) (Or.inl ⟨rfl, rfl⟩) hcs22 hcd22 hcn22 hca22 hcb22 hcu22 hcl22 N4 g_a2 (g := (mkF m 22 #[.val (.ref a1), .val (.ref a2), .val (.int p3), .val (.int (0 : Int32))] [(.int z_sv), (.int (p3 <<< ((0 : Int32) &&& 31))), (.ref a2), (.int (0 : Int32)), (.ref sv)])) rfl (by rw [hml]; rfl) rfl (hb hby d18_22) (by decide) (W := 0) (by show 2 * 0 + _ ≤ _; exact Nat.le_of_eq rfl) (by decide)
  have K7 : Keep h0 h7 [a2] := K4.trans Kq7 (own_trS (Or.inl (List.mem_of_getElem? (i := 0) rfl)) all0)
  obtain ⟨fs, hr, hrun, hended, hW, hsame⟩ := X7.leave (v := none) (fun _ => rfl)
  refine ⟨_, _, pre0 _ ?_, hrun, hended, _, _, rfl, ?_, ⟨_, rfl⟩, hW, hsame.mono (by decide) (by decide)⟩
  -- 4. STEPS
  · show Steps p.tables e below (s₁.setTop (mkF m 0 #[.val (.ref a1), .val (.ref a2), .val (.int p3), .val (.int (0 : Int32))] [])) _
    refine XS.aloadN X0.here hx rfl (hb hby d18_0) rfl rfl ?_
    show Steps p.tables e below (s₁.setTop (mkF m 1 #[.val (.ref a1), .val (.ref a2), .val (.int p3), .val (.int (0 : Int32))] [(.ref a1)])) _
    refine st4.trans ?_
    show Steps p.tables e below (T4.setTop (mkF m 4 #[.val (.ref a1), .val (.ref a2), .val (.int p3), .val (.int (0 : Int32))] [(.int (0 : Int32))])) _
    refine XS.iloadN X4.here hx rfl (hb hby d18_4) rfl ?_
    show Steps p.tables e below (T4.setTop (mkF m 5 #[.val (.ref a1), .val (.ref a2), .val (.int p3), .val (.int (0 : Int32))] [(.int (0 : Int32)), (.int (0 : Int32))])) _
    refine XS.icmpNo X4.here hx rfl (hb hby d18_5) rfl (teq (rfl : (0 : Int32) = (0 : Int32))).2 ?_
    show Steps p.tables e below (T4.setTop (mkF m 8 #[.val (.ref a1), .val (.ref a2), .val (.int p3), .val (.int (0 : Int32))] [])) _
    refine XS.aloadN X4.here hx rfl (hb hby d18_8) rfl rfl ?_
    show Steps p.tables e below (T4.setTop (mkF m 9 #[.val (.ref a1), .val (.ref a2), .val (.int p3), .val (.int (0 : Int32))] [(.ref a1)])) _
    refine st5 _ ?_
    show Steps p.tables e below (T5.setTop (mkF m 12 #[.val (.ref a1), .val (.ref a2), .val (.int p3), .val (.int (0 : Int32))] [(.ref sv)])) _
    refine XS.iconst X5.here hx rfl (hb hby d18_12) ?_
    show Steps p.tables e below (T5.setTop (mkF m 13 #[.val (.ref a1), .val (.ref a2), .val (.int p3), .val (.int (0 : Int32))] [(.int (0 : Int32)), (.ref sv)])) _
    refine XS.aloadN X5.here hx rfl (hb hby d18_13) rfl rfl ?_
    show Steps p.tables e below (T5.setTop (mkF m 14 #[.val (.ref a1), .val (.ref a2), .val (.int p3), .val (.int (0 : Int32))] [(.ref a2), (.int (0 : Int32)), (.ref sv)])) _
    refine XS.iloadN X5.here hx rfl (hb hby d18_14) rfl ?_
    show Steps p.tables e below (T5.setTop (mkF m 15 #[.val (.ref a1), .val (.ref a2), .val (.int p3), .val (.int (0 : Int32))] [(.int p3), (.ref a2), (.int (0 : Int32)), (.ref sv)])) _
    refine XS.iloadN X5.here hx rfl (hb hby d18_15) rfl ?_
    show Steps p.tables e below (T5.setTop (mkF m 16 #[.val (.ref a1), .val (.ref a2), .val (.int p3), .val (.int (0 : Int32))] [(.int (0 : Int32)), (.int p3), (.ref a2), (.int (0 : Int32)), (.ref sv)])) _
    refine XS.ishl X5.here hx rfl (hb hby d18_16) rfl ?_
    show Steps p.tables e below (T5.setTop (mkF m 17 #[.val (.ref a1), .val (.ref a2), .val (.int p3), .val (.int (0 : Int32))] [(.int (p3 <<< ((0 : Int32) &&& 31))), (.ref a2), (.int (0 : Int32)), (.ref sv)])) _
    refine XS.aloadN X5.here hx rfl (hb hby d18_17) rfl rfl ?_
    show Steps p.tables e below (T5.setTop (mkF m 18 #[.val (.ref a1), .val (.ref a2), .val (.int p3), .val (.int (0 : Int32))] [(.ref a1), (.int (p3 <<< ((0 : Int32) &&& 31))), (.ref a2), (.int (0 : Int32)), (.ref sv)])) _
    refine st6 _ ?_
    show Steps p.tables e below (T6.setTop (mkF m 21 #[.val (.ref a1), .val (.ref a2), .val (.int p3), .val (.int (0 : Int32))] [(.ref sv), (.int (p3 <<< ((0 : Int32) &&& 31))), (.ref a2), (.int (0 : Int32)), (.ref sv)])) _
    refine X6.arraylength hx (by rw [e6]; exact Ar_sv.1) (State.isArrayOf_alike hZ.alike Ar_sv.2.1) (g := (mkF m 21 #[.val (.ref a1), .val (.ref a2), .val (.int p3), .val (.int (0 : Int32))] [(.ref sv), (.int (p3 <<< ((0 : Int32) &&& 31))), (.ref a2), (.int (0 : Int32)), (.ref sv)])) rfl rfl (hb hby d18_21) _ ?_
    rw [len_of S_sv N_sv]
    show Steps p.tables e below (T6.setTop (mkF m 22 #[.val (.ref a1), .val (.ref a2), .val (.int p3), .val (.int (0 : Int32))] [(.int z_sv), (.int (p3 <<< ((0 : Int32) &&& 31))), (.ref a2), (.int (0 : Int32)), (.ref sv)])) _
    refine st7 _ ?_
    show Steps p.tables e below (T7.setTop (mkF m 25 #[.val (.ref a1), .val (.ref a2), .val (.int p3), .val (.int (0 : Int32))] [])) _
    refine XS.goto X7.here hx rfl (pc0 := 25) (pc' := 43) rfl (hb hby d18_25) (by decide) (by decide) ?_
    show Steps p.tables e below (T7.setTop (mkF m 43 #[.val (.ref a1), .val (.ref a2), .val (.int p3), .val (.int (0 : Int32))] [])) _
    exact X7.returnOut hx Bd.returns (hb hby d18_43) hr
  · show own_QA Z a2 k_a2 z_a2 (vs_a2.take (p3 <<< ((0 : Int32) &&& 31)).toNatClampNeg ++ us22 ++ vs_a2.drop ((p3 <<< ((0 : Int32) &&& 31)).toNatClampNeg + z_sv.toNatClampNeg)) dv_a2 h0 n0 _ T7.heap _
    rw [e7]
    exact ⟨rfl, N7, K7, V_a2_7⟩
theorem own_range0 (vs : List Value) (d : Value) (k : Nat) (h : k = vs.length) : vs = (List.range k).map fun i => vs.getD (((0 : Int32)).toNatClampNeg + i) d := by
  have e : ((0 : Int32)).toNatClampNeg = 0 := rfl
  rw [e]
  simp only [Nat.zero_add]
  exact own_range vs d k h
theorem rm18 (l : Launch) (Z : State) (a0 : Array Value) (hw : ∀ d ∈ tables_1, d.before a0 Z = true) (ws : List Jvm.Cond) (a1 : Addr) (a2 : Addr) (p3 : Int32) (_p4 : Int32) (G1 : Int32) (sv : Addr) (k_sv : ClassId) (z_sv : Int32) (vs_sv : List Value) (dv_sv : Value) (k_a2 : ClassId) (z_a2 : Int32) (vs_a2 : List Value) (dv_a2 : Value) (h0 : Heap) (n0 : Nat) (Z0 : n0 ≤ h0.size) (S_COMPACT_STRINGS : Sta Z Z.heap "java/lang/String" "COMPACT_STRINGS" "Z" (.int G1)) (X00 : Old Z n0 h0) (P3 : ¬ (G1 = (0 : Int32))) (E_a1 : Exa Z h0 a1 "java/lang/String") (F_value_a1 : Fld Z h0 a1 "java/lang/String" "value" "[B" (.ref sv)) (F_coder_a1 : Fld Z h0 a1 "java/lang/String" "coder" "B" (.int (0 : Int32))) (V_sv : Arv Z h0 sv k_sv .byte z_sv vs_sv dv_sv) (V_a2 : Arv Z h0 a2 k_a2 .byte z_a2 vs_a2 dv_a2) (g_a2 : n0 ≤ a2) (hz : z_sv.toNatClampNeg = vs_sv.length) (hp : ¬ p3 < 0) (hb : p3.toNatClampNeg + vs_sv.length ≤ z_a2.toNatClampNeg) (hl : p3.toNatClampNeg + vs_sv.length ≤ vs_a2.length) :
    MetFree l (⟨"java/lang/String", "getBytes", "([BIB)V"⟩ : MethodName) (head1 (Jvm.Cond.code (⟨"java/lang/String", "getBytes", "([BIB)V"⟩ : MethodName) jdk_42_method_147_code 4 none :: ws) ({ frames := 1, cells := 0, slots := 0, locals := 32 } : Room)) (fun a U => a = #[(.ref a1), (.ref a2), (.int p3), (.int (0 : Int32))] ∧ Z.Warmed39 U.vm ∧ U.heap = h0) (fun _ _ _ _ _ => True) (fun _ U o U' => ∃ v L, o = .returned v ∧ own_QA Z a2 k_a2 z_a2 (own_upd vs_a2 p3.toNatClampNeg vs_sv) dv_a2 h0 n0 v U'.heap L ∧ FrameEnd U o U' L ({ frames := 1, cells := 0, slots := 0, locals := 32 } : Room).cells ({ frames := 1, cells := 0, slots := 0, locals := 32 } : Room).slots) := by
  obtain ⟨cl_, Ar_, q_, S_, N_, -, -⟩ := id V_sv
  have e1 : p3 <<< ((0 : Int32) &&& 31) = p3 := own_shl0 p3
  have e2 : own_upd vs_a2 p3.toNatClampNeg vs_sv = vs_a2.take (p3 <<< ((0 : Int32) &&& 31)).toNatClampNeg ++ vs_sv ++ vs_a2.drop ((p3 <<< ((0 : Int32) &&& 31)).toNatClampNeg + z_sv.toNatClampNeg) := by rw [e1, hz]; rfl
  rw [e2]
  exact rm18b l Z a0 hw ws a1 a2 p3 G1 sv k_sv z_sv vs_sv dv_sv k_a2 z_a2 vs_a2 dv_a2 vs_sv h0 n0 Z0 S_COMPACT_STRINGS X00 P3 E_a1 F_value_a1 F_coder_a1 V_sv V_a2 (by decide) (by rw [e1]; exact hp) N_ (by show 0 + _ ≤ _; omega) (by rw [e1, hz]; exact hb) (own_range0 vs_sv dv_sv _ hz) (by rw [e1, hz]; exact hl) g_a2
theorem d16_0 : decode jdk_68_method_73_code 0 = .ok (.aload_n 0, 1) := by decide +kernel
theorem d16_1 : decode jdk_68_method_73_code 1 = .ok (.aload_n 2, 1) := by decide +kernel
theorem d16_2 : decode jdk_68_method_73_code 2 = .ok (.invokevirtual 397, 3) := by decide +kernel
theorem d16_5 : decode jdk_68_method_73_code 5 = .ok (.aload_n 2, 1) := by decide +kernel
theorem d16_6 : decode jdk_68_method_73_code 6 = .ok (.aload_n 0, 1) := by decide +kernel
theorem d16_7 : decode jdk_68_method_73_code 7 = .ok (.getfield 15, 3) := by decide +kernel
theorem d16_10 : decode jdk_68_method_73_code 10 = .ok (.iload_n 1, 1) := by decide +kernel
theorem d16_11 : decode jdk_68_method_73_code 11 = .ok (.aload_n 0, 1) := by decide +kernel
theorem d16_12 : decode jdk_68_method_73_code 12 = .ok (.getfield 22, 3) := by decide +kernel
theorem d16_15 : decode jdk_68_method_73_code 15 = .ok (.invokevirtual 399, 3) := by decide +kernel
theorem d16_18 : decode jdk_68_method_73_code 18 = .ok (.return_, 1) := by decide +kernel
theorem pn_16 : plainName "java/lang/AbstractStringBuilder" = true := by first | (simp [plainName, overriddenIn]; done) | decide +kernel
theorem pd_16_14 : parseMethodDescriptor "(Ljava/lang/String;)V" = some ⟨[(.object "java/lang/String")], none⟩ := by decide +kernel
theorem pd_16_15 : parseMethodDescriptor "([BIB)V" = some ⟨[(.array .byte), .int, .byte], none⟩ := by decide +kernel
theorem ef_16 (m : MethodId) (x0 : Addr) (x1 : Int32) (x2 : Addr) : entryFrame m #[(.ref x0), (.int x1), (.ref x2)] 3 = mkF m 0 #[.val (.ref x0), .val (.int x1), .val (.ref x2)] [] := by first | (simp [entryFrame, mkF, argsToLocals, Value.category]; done) | rfl
set_option maxRecDepth 65536 in
set_option maxHeartbeats 40000000 in
theorem rm16 (l : Launch) (Z : State) (a0 : Array Value) (hw : ∀ d ∈ tables_1, d.before a0 Z = true) (ws : List Jvm.Cond) (a1 : Addr) (p2 : Int32) (a3 : Addr) (G1 : Int32) (bv : Addr) (sv : Addr) (k_bv : ClassId) (z_bv : Int32) (vs_bv : List Value) (dv_bv : Value) (k_sv : ClassId) (z_sv : Int32) (vs_sv : List Value) (dv_sv : Value) (h0 : Heap) (n0 : Nat) (Z0 : n0 ≤ h0.size) (S_COMPACT_STRINGS : Sta Z Z.heap "java/lang/String" "COMPACT_STRINGS" "Z" (.int G1)) (X00 : Old Z n0 h0) (P3 : ¬ (G1 = (0 : Int32))) (E_a1 : Exa Z h0 a1 "java/lang/StringBuilder") (F_value_a1 : Fld Z h0 a1 "java/lang/AbstractStringBuilder" "value" "[B" (.ref bv)) (F_coder_a1 : Fld Z h0 a1 "java/lang/AbstractStringBuilder" "coder" "B" (.int (0 : Int32))) (E_a3 : Exa Z h0 a3 "java/lang/String") (F_value_a3 : Fld Z h0 a3 "java/lang/String" "value" "[B" (.ref sv)) (F_coder_a3 : Fld Z h0 a3 "java/lang/String" "coder" "B" (.int (0 : Int32))) (V_bv : Arv Z h0 bv k_bv .byte z_bv vs_bv dv_bv) (V_sv : Arv Z h0 sv k_sv .byte z_sv vs_sv dv_sv) (g_bv : n0 ≤ bv) (hzl : z_sv.toNatClampNeg = vs_sv.length) (hps : ¬ p2 < 0) (hbo : p2.toNatClampNeg + vs_sv.length ≤ z_bv.toNatClampNeg) (hln : p2.toNatClampNeg + vs_sv.length ≤ vs_bv.length) :
    MetFree l (⟨"java/lang/AbstractStringBuilder", "putStringAt", "(ILjava/lang/String;)V"⟩ : MethodName) (head1 (Jvm.Cond.code (⟨"java/lang/AbstractStringBuilder", "putStringAt", "(ILjava/lang/String;)V"⟩ : MethodName) jdk_68_method_73_code 3 none :: ws) ({ frames := 2, cells := 0, slots := 0, locals := 48 } : Room)) (fun a U => a = #[(.ref a1), (.int p2), (.ref a3)] ∧ Z.Warmed39 U.vm ∧ U.heap = h0) (fun _ _ _ _ _ => True) (fun _ U o U' => ∃ v L, o = .returned v ∧ own_QA Z bv k_bv z_bv (own_upd vs_bv p2.toNatClampNeg vs_sv) dv_bv h0 n0 v U'.heap L ∧ FrameEnd U o U' L ({ frames := 2, cells := 0, slots := 0, locals := 48 } : Room).cells ({ frames := 2, cells := 0, slots := 0, locals := 48 } : Room).slots) := by
  refine MetFree.of_bodySF (plainFor_of_name pn_16) hisR ?_
  intro p e s m args below meth c s₁ Bd hml0 hP hK
  obtain ⟨rfl, hZ, hh⟩ := hP
  have hx := Bd.exec
  have hby := Bd.bytes
  have hml : c.maxLocals = 3 := hml0
  have hown : s.vm.findClass "java/lang/AbstractStringBuilder" = some m.cls := findClass_of_methodNamed Bd.named
  have hnm := (name_of_methodNamed Bd.named Bd.method).1
  have X0 : Stand p l e ({ frames := 2, cells := 0, slots := 0, locals := 48 } : Room) s m #[(.ref a1), (.int p2), (.ref a3)] below meth c s₁ [] 0 0 := Stand.of_body Bd
  have e0 : s₁.heap = h0 := by rw [← hh, Bd.state]; rfl
  have N0 := Fr.nil n0
  have pre0 : ∀ t, Steps p.tables e below (s₁.setTop (mkF m 0 #[.val (.ref a1), .val (.int p2), .val (.ref a3)] [])) t → Steps p.tables e below (s₁.setTop (entryFrame m #[(.ref a1), (.int p2), (.ref a3)] 3)) t := fun t k => castTop (ef_16 m a1 p2 a3) k
  -- 3. LAWS
  -- pc 2: a private method: rm17
  obtain ⟨cq4, q4, q4'⟩ := E_a1.cell
  obtain ⟨_, _, ⟨T4, L4, k4, n4⟩, -, X4, ⟨Lc4, hQ4, l4, y4, z4⟩, st4⟩ := X0.privateBack hx (y := (⟨"java/lang/AbstractStringBuilder", "inflateIfNeededFor", "(Ljava/lang/String;)V"⟩ : MethodName)) hown (mvT hZ (hw _ (List.mem_of_getElem? (i := 93) rfl))) (mvT hZ (hw _ (List.mem_of_getElem? (i := 94) rfl))) (own_selP (mvT hZ (hw _ (List.mem_of_getElem? (i := 96) rfl))) (Cond.privateMethod_at (mvP hZ (hw _ (List.mem_of_getElem? (i := 95) rfl)) (args := #[]))) (mvT hZ (hw _ (List.mem_of_getElem? (i := 94) rfl))) (by decide)) (Cond.privateMethod_at (mvP hZ (hw _ (List.mem_of_getElem? (i := 95) rfl)) (args := #[]))) (mvT hZ (hw _ (List.mem_of_getElem? (i := 97) rfl))) (by decide) (backOf (W := 0) (rm17 l Z a0 hw [] a1 a3 G1 h0 n0 Z0 S_COMPACT_STRINGS X00 P3 E_a1 F_coder_a1 E_a3 F_coder_a3) hZ (hw _ (List.mem_of_getElem? (i := 97) rfl)) (hw _ (List.mem_of_getElem? (i := 53) rfl)) (by decide) (by decide)) (g := (mkF m 2 #[.val (.ref a1), .val (.int p2), .val (.ref a3)] [(.ref a3), (.ref a1)])) rfl (by rw [hml]; rfl) (Steps.refl _) (a := a1) (by rw [e0]; exact q4) q4' (argsL := [(.ref a3)]) (rest := []) (lenOf pd_16_14 rfl) rfl (by show 2 * 0 + _ ≤ _; exact Nat.le_of_eq rfl) (hb hby d16_2) (fun _ _ => ⟨rfl, e0, (by decide : 0 + 0 ≤ _), (by decide : 0 + 0 ≤ _)⟩)
  dsimp only [Pt.U, Pt.locs, Pt.cells, Pt.slots] at X4 l4 y4 z4 st4 hQ4
  subst l4 y4 z4
  obtain ⟨rfl, N4q, eq4⟩ := hQ4      -- what it returned, that it wrote nothing old, and the rest of your Q17
  have N4 := Fr.app N0 N4q
  have Kq4 : Keep h0 T4.heap [] := (own_keq eq4)
  have K4 : Keep h0 T4.heap [bv] := (Keep.refl h0 [bv]).trans Kq4 all0
  obtain ⟨T5, X5, e5, st5⟩ := getF X4 hx hZ hown (host := "") (Or.inl (hw _ (List.mem_of_getElem? (i := 57) rfl))) Via.refl rfl (F_value_a1.keep Kq4 (fun q => nomatch q)) (g := (mkF m 7 #[.val (.ref a1), .val (.int p2), .val (.ref a3)] [(.ref a1), (.ref a3)])) rfl rfl (hb hby d16_7)
  obtain ⟨T6, X6, e6, st6⟩ := getF X5 hx hZ hown (host := "") (Or.inl (hw _ (List.mem_of_getElem? (i := 59) rfl))) Via.refl e5 (F_coder_a1.keep Kq4 (fun q => nomatch q)) (g := (mkF m 12 #[.val (.ref a1), .val (.int p2), .val (.ref a3)] [(.ref a1), (.int p2), (.ref bv), (.ref a3)])) rfl rfl (hb hby d16_12)
  -- pc 15: java/lang/String.getBytes by the contract of the body that the receiver's class selects, rm18
  obtain ⟨cq7, kq7, q7a, q7b, q7c⟩ := isOf hZ e6 (E_a3.keep Kq4)
  obtain ⟨_, _, ⟨T7, L7, k7, n7⟩, -, X7, ⟨Lc7, hQ7, l7, y7, z7⟩, st7⟩ := X6.virtualBack hx (y := (⟨"java/lang/String", "getBytes", "([BIB)V"⟩ : MethodName)) (z := (⟨"java/lang/String", "getBytes", "([BIB)V"⟩ : MethodName)) hown (mvT hZ (hw _ (List.mem_of_getElem? (i := 99) rfl))) (mvT hZ (hw _ (List.mem_of_getElem? (i := 100) rfl))) (notFace_of_selects (args := #[]) (mvT hZ (hw _ (List.mem_of_getElem? (i := 102) rfl)))) (mvT hZ (hw _ (List.mem_of_getElem? (i := 102) rfl))) (mvT hZ (hw _ (List.mem_of_getElem? (i := 101) rfl))) (by decide) (backOf (W := 0) (rm18 l Z a0 hw [] a3 bv p2 (0 : Int32) G1 sv k_sv z_sv vs_sv dv_sv k_bv z_bv vs_bv dv_bv T4.heap n0 (Nat.le_trans Z0 Kq4.1) S_COMPACT_STRINGS (X00.keep K4 (allS g_bv all0)) P3 (E_a3.keep Kq4) (F_value_a3.keep Kq4 (fun q => nomatch q)) (F_coder_a3.keep Kq4 (fun q => nomatch q)) (V_sv.keep Kq4 (fun q => nomatch q)) (V_bv.keep Kq4 (fun q => nomatch q)) g_bv hzl hps hbo hln) hZ (hw _ (List.mem_of_getElem? (i := 103) rfl)) (hw _ (List.mem_of_getElem? (i := 6) rfl)) (by decide) (by decide)) q7a q7c (g := (mkF m 15 #[.val (.ref a1), .val (.int p2), .val (.ref a3)] [(.int (0 : Int32)), (.int p2), (.ref bv), (.ref a3)])) rfl (by rw [hml]; rfl) (Steps.refl _) (argsL := [(.ref bv), (.int p2), (.int (0 : Int32))]) (rest := []) (lenOf pd_16_15 rfl) rfl (by show 2 * 0 + _ ≤ _; exact Nat.le_of_eq rfl) (hb hby d16_15) (fun _ _ => ⟨rfl, e6, (by decide : 0 + 0 ≤ _), (by decide : 0 + 0 ≤ _)⟩)
  dsimp only [Pt.U, Pt.locs, Pt.cells, Pt.slots] at X7 l7 y7 z7 st7 hQ7
  subst l7 y7 z7
  obtain ⟨rfl, N7q, Kc7, Vq⟩ := hQ7      -- what it returned, that it wrote nothing old, and the rest of your Q18
  have N7 := Fr.app N4 N7q
  have Kq7 : Keep T4.heap T7.heap [bv] := Kc7
  have K7 : Keep h0 T7.heap [bv] := K4.trans Kq7 (own_trS (Or.inl (List.mem_of_getElem? (i := 0) rfl)) all0)
  obtain ⟨fs, hr, hrun, hended, hW, hsame⟩ := X7.leave (v := none) (fun _ => rfl)
  refine ⟨_, _, pre0 _ ?_, hrun, hended, _, _, rfl, ?_, ⟨_, rfl⟩, hW, hsame.mono (by decide) (by decide)⟩
  -- 4. STEPS
  · show Steps p.tables e below (s₁.setTop (mkF m 0 #[.val (.ref a1), .val (.int p2), .val (.ref a3)] [])) _
    refine XS.aloadN X0.here hx rfl (hb hby d16_0) rfl rfl ?_
    show Steps p.tables e below (s₁.setTop (mkF m 1 #[.val (.ref a1), .val (.int p2), .val (.ref a3)] [(.ref a1)])) _
    refine XS.aloadN X0.here hx rfl (hb hby d16_1) rfl rfl ?_
    show Steps p.tables e below (s₁.setTop (mkF m 2 #[.val (.ref a1), .val (.int p2), .val (.ref a3)] [(.ref a3), (.ref a1)])) _
    refine st4.trans ?_
    show Steps p.tables e below (T4.setTop (mkF m 5 #[.val (.ref a1), .val (.int p2), .val (.ref a3)] [])) _
    refine XS.aloadN X4.here hx rfl (hb hby d16_5) rfl rfl ?_
    show Steps p.tables e below (T4.setTop (mkF m 6 #[.val (.ref a1), .val (.int p2), .val (.ref a3)] [(.ref a3)])) _
    refine XS.aloadN X4.here hx rfl (hb hby d16_6) rfl rfl ?_
    show Steps p.tables e below (T4.setTop (mkF m 7 #[.val (.ref a1), .val (.int p2), .val (.ref a3)] [(.ref a1), (.ref a3)])) _
    refine st5 _ ?_
    show Steps p.tables e below (T5.setTop (mkF m 10 #[.val (.ref a1), .val (.int p2), .val (.ref a3)] [(.ref bv), (.ref a3)])) _
    refine XS.iloadN X5.here hx rfl (hb hby d16_10) rfl ?_
    show Steps p.tables e below (T5.setTop (mkF m 11 #[.val (.ref a1), .val (.int p2), .val (.ref a3)] [(.int p2), (.ref bv), (.ref a3)])) _
    refine XS.aloadN X5.here hx rfl (hb hby d16_11) rfl rfl ?_
    show Steps p.tables e below (T5.setTop (mkF m 12 #[.val (.ref a1), .val (.int p2), .val (.ref a3)] [(.ref a1), (.int p2), (.ref bv), (.ref a3)])) _
    refine st6 _ ?_
    show Steps p.tables e below (T6.setTop (mkF m 15 #[.val (.ref a1), .val (.int p2), .val (.ref a3)] [(.int (0 : Int32)), (.int p2), (.ref bv), (.ref a3)])) _
    refine st7.trans ?_
    show Steps p.tables e below (T7.setTop (mkF m 18 #[.val (.ref a1), .val (.int p2), .val (.ref a3)] [])) _
    exact X7.returnOut hx Bd.returns (hb hby d16_18) hr
  · show own_QA Z bv k_bv z_bv (own_upd vs_bv p2.toNatClampNeg vs_sv) dv_bv h0 n0 _ T7.heap _
    exact ⟨rfl, N7, K7, Vq⟩
def own_QB (Z : State) (a1 : Addr) (c : Int32) (b : Addr) (k : ClassId) (z : Int32) (vs : List Value) (dv : Value) (h0 : Heap) (n0 : Nat) (v : Option Value) (h : Heap) (L : List Loc) : Prop := v = some (.ref a1) ∧ Fr n0 L ∧ Keep h0 h [b, a1] ∧ Fld Z h a1 "java/lang/AbstractStringBuilder" "count" "I" (.int c) ∧ Fld Z h a1 "java/lang/AbstractStringBuilder" "value" "[B" (.ref b) ∧ Fld Z h a1 "java/lang/AbstractStringBuilder" "coder" "B" (.int (0 : Int32)) ∧ Arv Z h b k .byte z vs dv
theorem d12_0 : decode jdk_68_method_22_code 0 = .ok (.aload_n 1, 1) := by decide +kernel
theorem d12_1 : decode jdk_68_method_22_code 1 = .ok (.ifnonnull 8, 3) := by decide +kernel
theorem d12_9 : decode jdk_68_method_22_code 9 = .ok (.aload_n 1, 1) := by decide +kernel
theorem d12_10 : decode jdk_68_method_22_code 10 = .ok (.invokevirtual 32, 3) := by decide +kernel
theorem d12_13 : decode jdk_68_method_22_code 13 = .ok (.istore_n 2, 1) := by decide +kernel
theorem d12_14 : decode jdk_68_method_22_code 14 = .ok (.aload_n 0, 1) := by decide +kernel
theorem d12_15 : decode jdk_68_method_22_code 15 = .ok (.aload_n 0, 1) := by decide +kernel
theorem d12_16 : decode jdk_68_method_22_code 16 = .ok (.getfield 79, 3) := by decide +kernel
theorem d12_19 : decode jdk_68_method_22_code 19 = .ok (.iload_n 2, 1) := by decide +kernel
theorem d12_20 : decode jdk_68_method_22_code 20 = .ok (.iadd, 1) := by decide +kernel
theorem d12_21 : decode jdk_68_method_22_code 21 = .ok (.invokevirtual 100, 3) := by decide +kernel
theorem d12_24 : decode jdk_68_method_22_code 24 = .ok (.aload_n 0, 1) := by decide +kernel
theorem d12_25 : decode jdk_68_method_22_code 25 = .ok (.aload_n 0, 1) := by decide +kernel
theorem d12_26 : decode jdk_68_method_22_code 26 = .ok (.getfield 79, 3) := by decide +kernel
theorem d12_29 : decode jdk_68_method_22_code 29 = .ok (.aload_n 1, 1) := by decide +kernel
theorem d12_30 : decode jdk_68_method_22_code 30 = .ok (.invokevirtual 208, 3) := by decide +kernel
theorem d12_33 : decode jdk_68_method_22_code 33 = .ok (.aload_n 0, 1) := by decide +kernel
theorem d12_34 : decode jdk_68_method_22_code 34 = .ok (.dup, 1) := by decide +kernel
theorem d12_35 : decode jdk_68_method_22_code 35 = .ok (.getfield 79, 3) := by decide +kernel
theorem d12_38 : decode jdk_68_method_22_code 38 = .ok (.iload_n 2, 1) := by decide +kernel
theorem d12_39 : decode jdk_68_method_22_code 39 = .ok (.iadd, 1) := by decide +kernel
theorem d12_40 : decode jdk_68_method_22_code 40 = .ok (.putfield 79, 3) := by decide +kernel
theorem d12_43 : decode jdk_68_method_22_code 43 = .ok (.aload_n 0, 1) := by decide +kernel
theorem d12_44 : decode jdk_68_method_22_code 44 = .ok (.areturn, 1) := by decide +kernel
theorem pn_12 : plainName "java/lang/AbstractStringBuilder" = true := by first | (simp [plainName, overriddenIn]; done) | decide +kernel
theorem pd_12_11 : parseMethodDescriptor "()I" = some ⟨[], some .int⟩ := by decide +kernel
theorem pd_12_8 : parseMethodDescriptor "(I)V" = some ⟨[.int], none⟩ := by decide +kernel
theorem pd_12_13 : parseMethodDescriptor "(ILjava/lang/String;)V" = some ⟨[.int, (.object "java/lang/String")], none⟩ := by decide +kernel
theorem ef_12 (m : MethodId) (x0 : Addr) (x1 : Addr) : entryFrame m #[(.ref x0), (.ref x1)] 3 = mkF m 0 #[.val (.ref x0), .val (.ref x1), .unset] [] := by first | (simp [entryFrame, mkF, argsToLocals, Value.category]; done) | rfl
set_option maxRecDepth 65536 in
set_option maxHeartbeats 40000000 in
theorem rm12 (l : Launch) (Z : State) (a0 : Array Value) (hw : ∀ d ∈ tables_1, d.before a0 Z = true) (ws : List Jvm.Cond) (a1 : Addr) (a2 : Addr) (G1 : Int32) (bv : Addr) (sv : Addr) (c0 : Int32) (k_bv : ClassId) (z_bv : Int32) (vs_bv : List Value) (dv_bv : Value) (k_sv : ClassId) (z_sv : Int32) (vs_sv : List Value) (dv_sv : Value) (h0 : Heap) (n0 : Nat) (Z0 : n0 ≤ h0.size) (S_COMPACT_STRINGS : Sta Z Z.heap "java/lang/String" "COMPACT_STRINGS" "Z" (.int G1)) (X00 : Old Z n0 h0) (P3 : ¬ (G1 = (0 : Int32))) (E_a1 : Exa Z h0 a1 "java/lang/StringBuilder") (F_value_a1 : Fld Z h0 a1 "java/lang/AbstractStringBuilder" "value" "[B" (.ref bv)) (F_coder_a1 : Fld Z h0 a1 "java/lang/AbstractStringBuilder" "coder" "B" (.int (0 : Int32))) (F_count_a1 : Fld Z h0 a1 "java/lang/AbstractStringBuilder" "count" "I" (.int c0)) (E_a2 : Exa Z h0 a2 "java/lang/String") (F_value_a2 : Fld Z h0 a2 "java/lang/String" "value" "[B" (.ref sv)) (F_coder_a2 : Fld Z h0 a2 "java/lang/String" "coder" "B" (.int (0 : Int32))) (V_bv : Arv Z h0 bv k_bv .byte z_bv vs_bv dv_bv) (V_sv : Arv Z h0 sv k_sv .byte z_sv vs_sv dv_sv) (g_bv : n0 ≤ bv) (g_a1 : n0 ≤ a1) (hzl : z_sv.toNatClampNeg = vs_sv.length) (hps : ¬ c0 < 0) (hbo : c0.toNatClampNeg + vs_sv.length ≤ z_bv.toNatClampNeg) (hln : c0.toNatClampNeg + vs_sv.length ≤ vs_bv.length) (hcap : ¬ ((0 : Int32) < ((c0 + z_sv) - (z_bv >>> ((0 : Int32) &&& 31))))) :
    MetFree l (⟨"java/lang/AbstractStringBuilder", "append", "(Ljava/lang/String;)Ljava/lang/AbstractStringBuilder;"⟩ : MethodName) (head1 (Jvm.Cond.code (⟨"java/lang/AbstractStringBuilder", "append", "(Ljava/lang/String;)Ljava/lang/AbstractStringBuilder;"⟩ : MethodName) jdk_68_method_22_code 3 (some (.object "java/lang/AbstractStringBuilder")) :: ws) ({ frames := 3, cells := 0, slots := 0, locals := 64 } : Room)) (fun a U => a = #[(.ref a1), (.ref a2)] ∧ Z.Warmed39 U.vm ∧ U.heap = h0) (fun _ _ _ _ _ => True) (fun _ U o U' => ∃ v L, o = .returned v ∧ own_QB Z a1 (c0 + z_sv) bv k_bv z_bv (own_upd vs_bv c0.toNatClampNeg vs_sv) dv_bv h0 n0 v U'.heap L ∧ FrameEnd U o U' L ({ frames := 3, cells := 0, slots := 0, locals := 64 } : Room).cells ({ frames := 3, cells := 0, slots := 0, locals := 64 } : Room).slots) := by
  refine MetFree.of_bodySF (plainFor_of_name pn_12) hisR ?_
  intro p e s m args below meth c s₁ Bd hml0 hP hK
  obtain ⟨rfl, hZ, hh⟩ := hP
  have hx := Bd.exec
  have hby := Bd.bytes
  have hml : c.maxLocals = 3 := hml0
  have hown : s.vm.findClass "java/lang/AbstractStringBuilder" = some m.cls := findClass_of_methodNamed Bd.named
  have hnm := (name_of_methodNamed Bd.named Bd.method).1
  have X0 : Stand p l e ({ frames := 3, cells := 0, slots := 0, locals := 64 } : Room) s m #[(.ref a1), (.ref a2)] below meth c s₁ [] 0 0 := Stand.of_body Bd
  have e0 : s₁.heap = h0 := by rw [← hh, Bd.state]; rfl
  have N0 := Fr.nil n0
  have pre0 : ∀ t, Steps p.tables e below (s₁.setTop (mkF m 0 #[.val (.ref a1), .val (.ref a2), .unset] [])) t → Steps p.tables e below (s₁.setTop (entryFrame m #[(.ref a1), (.ref a2)] 3)) t := fun t k => castTop (ef_12 m a1 a2) k
  -- 3. LAWS
  -- pc 10: java/lang/String.length by the contract of the body that the receiver's class selects, rm13
  obtain ⟨cq3, kq3, q3a, q3b, q3c⟩ := isOf hZ e0 E_a2
  obtain ⟨_, _, ⟨T3, L3, k3, n3⟩, -, X3, ⟨Lc3, hQ3, l3, y3, z3⟩, st3⟩ := X0.virtualBack hx (y := (⟨"java/lang/String", "length", "()I"⟩ : MethodName)) (z := (⟨"java/lang/String", "length", "()I"⟩ : MethodName)) hown (mvT hZ (hw _ (List.mem_of_getElem? (i := 71) rfl))) (mvT hZ (hw _ (List.mem_of_getElem? (i := 72) rfl))) (notFace_of_selects (args := #[]) (mvT hZ (hw _ (List.mem_of_getElem? (i := 74) rfl)))) (mvT hZ (hw _ (List.mem_of_getElem? (i := 74) rfl))) (mvT hZ (hw _ (List.mem_of_getElem? (i := 73) rfl))) (by decide) (backOf (W := 0) (rm13 l Z a0 hw [] a2 G1 sv k_sv z_sv vs_sv dv_sv h0 n0 Z0 S_COMPACT_STRINGS X00 P3 E_a2 F_value_a2 F_coder_a2 V_sv) hZ (hw _ (List.mem_of_getElem? (i := 75) rfl)) (hw _ (List.mem_of_getElem? (i := 6) rfl)) (by decide) (by decide)) q3a q3c (g := (mkF m 10 #[.val (.ref a1), .val (.ref a2), .unset] [(.ref a2)])) rfl (by rw [hml]; rfl) (Steps.refl _) (argsL := []) (rest := []) (lenOf pd_12_11 rfl) rfl (by show 2 * 0 + _ ≤ _; exact Nat.le_of_eq rfl) (hb hby d12_10) (fun _ _ => ⟨rfl, e0, (by decide : 0 + 0 ≤ _), (by decide : 0 + 0 ≤ _)⟩)
  dsimp only [Pt.U, Pt.locs, Pt.cells, Pt.slots] at X3 l3 y3 z3 st3 hQ3
  subst l3 y3 z3
  obtain ⟨rfl, N3q, eq3⟩ := hQ3      -- what it returned, that it wrote nothing old, and the rest of your Q13
  have N3 := Fr.app N0 N3q
  have Kq3 : Keep h0 T3.heap [] := (own_keq eq3)
  have K3 : Keep h0 T3.heap [bv, a1] := (Keep.refl h0 [bv, a1]).trans Kq3 all0
  obtain ⟨T4, X4, e4, st4⟩ := getF X3 hx hZ hown (host := "") (Or.inl (hw _ (List.mem_of_getElem? (i := 81) rfl))) Via.refl rfl (F_count_a1.keep Kq3 (fun q => nomatch q)) (g := (mkF m 16 #[.val (.ref a1), .val (.ref a2), .val (.int z_sv)] [(.ref a1), (.ref a1)])) rfl rfl (hb hby d12_16)
  -- pc 21: a private method: rm15
  obtain ⟨cq5, q5, q5'⟩ := (E_a1.keep Kq3).cell
  obtain ⟨_, _, ⟨T5, L5, k5, n5⟩, -, X5, ⟨Lc5, hQ5, l5, y5, z5⟩, st5⟩ := X4.privateBack hx (y := (⟨"java/lang/AbstractStringBuilder", "ensureCapacityInternal", "(I)V"⟩ : MethodName)) hown (mvT hZ (hw _ (List.mem_of_getElem? (i := 83) rfl))) (mvT hZ (hw _ (List.mem_of_getElem? (i := 84) rfl))) (own_selP (mvT hZ (hw _ (List.mem_of_getElem? (i := 86) rfl))) (Cond.privateMethod_at (mvP hZ (hw _ (List.mem_of_getElem? (i := 85) rfl)) (args := #[]))) (mvT hZ (hw _ (List.mem_of_getElem? (i := 84) rfl))) (by decide)) (Cond.privateMethod_at (mvP hZ (hw _ (List.mem_of_getElem? (i := 85) rfl)) (args := #[]))) (mvT hZ (hw _ (List.mem_of_getElem? (i := 87) rfl))) (by decide) (backOf (W := 0) (rm15 l Z a0 hw [] a1 (c0 + z_sv) bv k_bv z_bv vs_bv dv_bv T3.heap n0 (Nat.le_trans Z0 Kq3.1) (E_a1.keep Kq3) (F_value_a1.keep Kq3 (fun q => nomatch q)) (F_coder_a1.keep Kq3 (fun q => nomatch q)) (V_bv.keep Kq3 (fun q => nomatch q)) hcap) hZ (hw _ (List.mem_of_getElem? (i := 87) rfl)) (hw _ (List.mem_of_getElem? (i := 53) rfl)) (by decide) (by decide)) (g := (mkF m 21 #[.val (.ref a1), .val (.ref a2), .val (.int z_sv)] [(.int (c0 + z_sv)), (.ref a1)])) rfl (by rw [hml]; rfl) (Steps.refl _) (a := a1) (by rw [e4]; exact q5) q5' (argsL := [(.int (c0 + z_sv))]) (rest := []) (lenOf pd_12_8 rfl) rfl (by show 2 * 0 + _ ≤ _; exact Nat.le_of_eq rfl) (hb hby d12_21) (fun _ _ => ⟨rfl, e4, (by decide : 0 + 0 ≤ _), (by decide : 0 + 0 ≤ _)⟩)
  dsimp only [Pt.U, Pt.locs, Pt.cells, Pt.slots] at X5 l5 y5 z5 st5 hQ5
  subst l5 y5 z5
  obtain ⟨rfl, N5q, eq5⟩ := hQ5      -- what it returned, that it wrote nothing old, and the rest of your Q15
  have N5 := Fr.app N3 N5q
  have Kq5 : Keep T3.heap T5.heap [] := (own_keq eq5)
  have K5 : Keep h0 T5.heap [bv, a1] := K3.trans Kq5 all0
  obtain ⟨T6, X6, e6, st6⟩ := getF X5 hx hZ hown (host := "") (Or.inl (hw _ (List.mem_of_getElem? (i := 81) rfl))) Via.refl rfl ((F_count_a1.keep Kq3 (fun q => nomatch q)).keep Kq5 (fun q => nomatch q)) (g := (mkF m 26 #[.val (.ref a1), .val (.ref a2), .val (.int z_sv)] [(.ref a1), (.ref a1)])) rfl rfl (hb hby d12_26)
  -- pc 30: a private method: rm16
  obtain ⟨cq7, q7, q7'⟩ := ((E_a1.keep Kq3).keep Kq5).cell
  obtain ⟨_, _, ⟨T7, L7, k7, n7⟩, -, X7, ⟨Lc7, hQ7, l7, y7, z7⟩, st7⟩ := X6.privateBack hx (y := (⟨"java/lang/AbstractStringBuilder", "putStringAt", "(ILjava/lang/String;)V"⟩ : MethodName)) hown (mvT hZ (hw _ (List.mem_of_getElem? (i := 88) rfl))) (mvT hZ (hw _ (List.mem_of_getElem? (i := 89) rfl))) (own_selP (mvT hZ (hw _ (List.mem_of_getElem? (i := 91) rfl))) (Cond.privateMethod_at (mvP hZ (hw _ (List.mem_of_getElem? (i := 90) rfl)) (args := #[]))) (mvT hZ (hw _ (List.mem_of_getElem? (i := 89) rfl))) (by decide)) (Cond.privateMethod_at (mvP hZ (hw _ (List.mem_of_getElem? (i := 90) rfl)) (args := #[]))) (mvT hZ (hw _ (List.mem_of_getElem? (i := 92) rfl))) (by decide) (backOf (W := 0) (rm16 l Z a0 hw [] a1 c0 a2 G1 bv sv k_bv z_bv vs_bv dv_bv k_sv z_sv vs_sv dv_sv T5.heap n0 (Nat.le_trans (Nat.le_trans Z0 Kq3.1) Kq5.1) S_COMPACT_STRINGS (X00.keep K5 (allS g_bv (allS g_a1 all0))) P3 ((E_a1.keep Kq3).keep Kq5) ((F_value_a1.keep Kq3 (fun q => nomatch q)).keep Kq5 (fun q => nomatch q)) ((F_coder_a1.keep Kq3 (fun q => nomatch q)).keep Kq5 (fun q => nomatch q)) ((E_a2.keep Kq3).keep Kq5) ((F_value_a2.keep Kq3 (fun q => nomatch q)).keep Kq5 (fun q => nomatch q)) ((F_coder_a2.keep Kq3 (fun q => nomatch q)).keep Kq5 (fun q => nomatch q)) ((V_bv.keep Kq3 (fun q => nomatch q)).keep Kq5 (fun q => nomatch q)) ((V_sv.keep Kq3 (fun q => nomatch q)).keep Kq5 (fun q => nomatch q)) g_bv hzl hps hbo hln) hZ (hw _ (List.mem_of_getElem? (i := 92) rfl)) (hw _ (List.mem_of_getElem? (i := 53) rfl)) (by decide) (by decide)) (g := (mkF m 30 #[.val (.ref a1), .val (.ref a2), .val (.int z_sv)] [(.ref a2), (.int c0), (.ref a1)])) rfl (by rw [hml]; rfl) (Steps.refl _) (a := a1) (by rw [e6]; exact q7) q7' (argsL := [(.int c0), (.ref a2)]) (rest := []) (lenOf pd_12_13 rfl) rfl (by show 2 * 0 + _ ≤ _; exact Nat.le_of_eq rfl) (hb hby d12_30) (fun _ _ => ⟨rfl, e6, (by decide : 0 + 0 ≤ _), (by decide : 0 + 0 ≤ _)⟩)
  dsimp only [Pt.U, Pt.locs, Pt.cells, Pt.slots] at X7 l7 y7 z7 st7 hQ7
  subst l7 y7 z7
  obtain ⟨rfl, N7q, Kc7, Vq7⟩ := hQ7      -- what it returned, that it wrote nothing old, and the rest of your Q16
  have N7 := Fr.app N5 N7q
  have Kq7 : Keep T5.heap T7.heap [bv] := Kc7
  have K7 : Keep h0 T7.heap [bv, a1] := K5.trans Kq7 (own_trS (Or.inl (List.mem_of_getElem? (i := 0) rfl)) all0)
  obtain ⟨T8, X8, e8, st8⟩ := getF X7 hx hZ hown (host := "") (Or.inl (hw _ (List.mem_of_getElem? (i := 81) rfl))) Via.refl rfl (((F_count_a1.keep Kq3 (fun q => nomatch q)).keep Kq5 (fun q => nomatch q)).keep Kq7 (fun q => absurd (List.mem_singleton.mp q) (Exa.neArv E_a1 V_bv (hw _ (List.mem_of_getElem? (i := 44) rfl))))) (g := (mkF m 35 #[.val (.ref a1), .val (.ref a2), .val (.int z_sv)] [(.ref a1), (.ref a1)])) rfl rfl (hb hby d12_35)
  obtain ⟨T9, h9, X9, e9, W9, st9⟩ := putF X8 hx hZ hown (host := "") (Or.inl (hw _ (List.mem_of_getElem? (i := 81) rfl))) Via.refl e8 (((F_count_a1.keep Kq3 (fun q => nomatch q)).keep Kq5 (fun q => nomatch q)).keep Kq7 (fun q => absurd (List.mem_singleton.mp q) (Exa.neArv E_a1 V_bv (hw _ (List.mem_of_getElem? (i := 44) rfl))))) (((E_a1.keep Kq3).keep Kq5).keep Kq7) (Or.inl (hw _ (List.mem_of_getElem? (i := 82) rfl))) (hw _ (List.mem_of_getElem? (i := 44) rfl)) (ty := .int) (by decide) rfl rfl (g := (mkF m 40 #[.val (.ref a1), .val (.ref a2), .val (.int z_sv)] [(.int (c0 + z_sv)), (.ref a1)])) rfl rfl (hb hby d12_40)
  have Fw9 := (((F_count_a1.keep Kq3 (fun q => nomatch q)).keep Kq5 (fun q => nomatch q)).keep Kq7 (fun q => absurd (List.mem_singleton.mp q) (Exa.neArv E_a1 V_bv (hw _ (List.mem_of_getElem? (i := 44) rfl))))).same W9      -- the field now holds (.int (c0 + z_sv))
  have K9 : Keep h0 h9 [bv, a1] := K7.wr W9 (Or.inl (List.mem_of_getElem? (i := 1) rfl))
  have N9 := Fr.snoc X9 N7 g_a1
  have End_0 := Fw9
  have End_1 := (Vq7.other W9 (Ne.symm (Exa.neArv E_a1 V_bv (hw _ (List.mem_of_getElem? (i := 44) rfl)))))
  have End_2 := ((((F_value_a1.keep Kq3 (fun q => nomatch q)).keep Kq5 (fun q => nomatch q)).keep Kq7 (fun q => absurd (List.mem_singleton.mp q) (Exa.neArv E_a1 V_bv (hw _ (List.mem_of_getElem? (i := 44) rfl))))).other W9 (Or.inr (slot_ne (Or.inl (hw _ (List.mem_of_getElem? (i := 58) rfl))) (Or.inl (hw _ (List.mem_of_getElem? (i := 82) rfl))) (by decide) (t := (.array .byte)) (t' := .int) (by decide) (by decide))))
  have End_3 := ((((F_coder_a1.keep Kq3 (fun q => nomatch q)).keep Kq5 (fun q => nomatch q)).keep Kq7 (fun q => absurd (List.mem_singleton.mp q) (Exa.neArv E_a1 V_bv (hw _ (List.mem_of_getElem? (i := 44) rfl))))).other W9 (Or.inr (slot_ne (Or.inl (hw _ (List.mem_of_getElem? (i := 60) rfl))) (Or.inl (hw _ (List.mem_of_getElem? (i := 82) rfl))) (by decide) (t := .byte) (t' := .int) (by decide) (by decide))))
  obtain ⟨fs, hr, hrun, hended, hW, hsame⟩ := X9.leave (v := some (.ref a1)) (fun h => by rw [Bd.returns] at h; cases h)
  refine ⟨_, _, pre0 _ ?_, hrun, hended, _, _, rfl, ?_, ⟨_, rfl⟩, hW, hsame.mono (by decide) (by decide)⟩
  -- 4. STEPS
  · show Steps p.tables e below (s₁.setTop (mkF m 0 #[.val (.ref a1), .val (.ref a2), .unset] [])) _
    refine XS.aloadN X0.here hx rfl (hb hby d12_0) rfl rfl ?_
    show Steps p.tables e below (s₁.setTop (mkF m 1 #[.val (.ref a1), .val (.ref a2), .unset] [(.ref a2)])) _
    refine XS.ifnonnullYes X0.here hx rfl (pc0 := 1) (pc' := 9) rfl (hb hby d12_1) rfl (by decide) (by decide) ?_
    show Steps p.tables e below (s₁.setTop (mkF m 9 #[.val (.ref a1), .val (.ref a2), .unset] [])) _
    refine XS.aloadN X0.here hx rfl (hb hby d12_9) rfl rfl ?_
    show Steps p.tables e below (s₁.setTop (mkF m 10 #[.val (.ref a1), .val (.ref a2), .unset] [(.ref a2)])) _
    refine st3.trans ?_
    show Steps p.tables e below (T3.setTop (mkF m 13 #[.val (.ref a1), .val (.ref a2), .unset] [(.int z_sv)])) _
    refine XS.istoreN X3.here hx rfl (hb hby d12_13) rfl (l' := #[.val (.ref a1), .val (.ref a2), .val (.int z_sv)]) rfl ?_
    show Steps p.tables e below (T3.setTop (mkF m 14 #[.val (.ref a1), .val (.ref a2), .val (.int z_sv)] [])) _
    refine XS.aloadN X3.here hx rfl (hb hby d12_14) rfl rfl ?_
    show Steps p.tables e below (T3.setTop (mkF m 15 #[.val (.ref a1), .val (.ref a2), .val (.int z_sv)] [(.ref a1)])) _
    refine XS.aloadN X3.here hx rfl (hb hby d12_15) rfl rfl ?_
    show Steps p.tables e below (T3.setTop (mkF m 16 #[.val (.ref a1), .val (.ref a2), .val (.int z_sv)] [(.ref a1), (.ref a1)])) _
    refine st4 _ ?_
    show Steps p.tables e below (T4.setTop (mkF m 19 #[.val (.ref a1), .val (.ref a2), .val (.int z_sv)] [(.int c0), (.ref a1)])) _
    refine XS.iloadN X4.here hx rfl (hb hby d12_19) rfl ?_
    show Steps p.tables e below (T4.setTop (mkF m 20 #[.val (.ref a1), .val (.ref a2), .val (.int z_sv)] [(.int z_sv), (.int c0), (.ref a1)])) _
    refine XS.iadd X4.here hx rfl (hb hby d12_20) rfl ?_
    show Steps p.tables e below (T4.setTop (mkF m 21 #[.val (.ref a1), .val (.ref a2), .val (.int z_sv)] [(.int (c0 + z_sv)), (.ref a1)])) _
    refine st5.trans ?_
    show Steps p.tables e below (T5.setTop (mkF m 24 #[.val (.ref a1), .val (.ref a2), .val (.int z_sv)] [])) _
    refine XS.aloadN X5.here hx rfl (hb hby d12_24) rfl rfl ?_
    show Steps p.tables e below (T5.setTop (mkF m 25 #[.val (.ref a1), .val (.ref a2), .val (.int z_sv)] [(.ref a1)])) _
    refine XS.aloadN X5.here hx rfl (hb hby d12_25) rfl rfl ?_
    show Steps p.tables e below (T5.setTop (mkF m 26 #[.val (.ref a1), .val (.ref a2), .val (.int z_sv)] [(.ref a1), (.ref a1)])) _
    refine st6 _ ?_
    show Steps p.tables e below (T6.setTop (mkF m 29 #[.val (.ref a1), .val (.ref a2), .val (.int z_sv)] [(.int c0), (.ref a1)])) _
    refine XS.aloadN X6.here hx rfl (hb hby d12_29) rfl rfl ?_
    show Steps p.tables e below (T6.setTop (mkF m 30 #[.val (.ref a1), .val (.ref a2), .val (.int z_sv)] [(.ref a2), (.int c0), (.ref a1)])) _
    refine st7.trans ?_
    show Steps p.tables e below (T7.setTop (mkF m 33 #[.val (.ref a1), .val (.ref a2), .val (.int z_sv)] [])) _
    refine XS.aloadN X7.here hx rfl (hb hby d12_33) rfl rfl ?_
    show Steps p.tables e below (T7.setTop (mkF m 34 #[.val (.ref a1), .val (.ref a2), .val (.int z_sv)] [(.ref a1)])) _
    refine XS.dup X7.here hx rfl (hb hby d12_34) rfl rfl ?_
    show Steps p.tables e below (T7.setTop (mkF m 35 #[.val (.ref a1), .val (.ref a2), .val (.int z_sv)] [(.ref a1), (.ref a1)])) _
    refine st8 _ ?_
    show Steps p.tables e below (T8.setTop (mkF m 38 #[.val (.ref a1), .val (.ref a2), .val (.int z_sv)] [(.int c0), (.ref a1)])) _
    refine XS.iloadN X8.here hx rfl (hb hby d12_38) rfl ?_
    show Steps p.tables e below (T8.setTop (mkF m 39 #[.val (.ref a1), .val (.ref a2), .val (.int z_sv)] [(.int z_sv), (.int c0), (.ref a1)])) _
    refine XS.iadd X8.here hx rfl (hb hby d12_39) rfl ?_
    show Steps p.tables e below (T8.setTop (mkF m 40 #[.val (.ref a1), .val (.ref a2), .val (.int z_sv)] [(.int (c0 + z_sv)), (.ref a1)])) _
    refine st9 _ ?_
    show Steps p.tables e below (T9.setTop (mkF m 43 #[.val (.ref a1), .val (.ref a2), .val (.int z_sv)] [])) _
    refine XS.aloadN X9.here hx rfl (hb hby d12_43) rfl rfl ?_
    show Steps p.tables e below (T9.setTop (mkF m 44 #[.val (.ref a1), .val (.ref a2), .val (.int z_sv)] [(.ref a1)])) _
    jvm_step X9.here [X9.here.top, hx, (hb hby d12_44), X9.method', Bd.returns, Value.isRef, FieldType.isReference]
    first | (intro acts; rw [hr _ acts rfl rfl rfl]) | rw [hr _ _ rfl rfl rfl]
    exact Steps.refl _
  · show own_QB Z a1 (c0 + z_sv) bv k_bv z_bv (own_upd vs_bv c0.toNatClampNeg vs_sv) dv_bv h0 n0 _ T9.heap _
    rw [e9]
    exact ⟨rfl, N9, K9, End_0, End_2, End_3, End_1⟩
theorem d11_0 : decode jdk_67_method_7_code 0 = .ok (.aload_n 0, 1) := by decide +kernel
theorem d11_1 : decode jdk_67_method_7_code 1 = .ok (.aload_n 1, 1) := by decide +kernel
theorem d11_2 : decode jdk_67_method_7_code 2 = .ok (.invokespecial 29, 3) := by decide +kernel
theorem d11_5 : decode jdk_67_method_7_code 5 = .ok (.pop, 1) := by decide +kernel
theorem d11_6 : decode jdk_67_method_7_code 6 = .ok (.aload_n 0, 1) := by decide +kernel
theorem d11_7 : decode jdk_67_method_7_code 7 = .ok (.areturn, 1) := by decide +kernel
theorem pn_11 : plainName "java/lang/StringBuilder" = true := by first | (simp [plainName, overriddenIn]; done) | decide +kernel
theorem pd_11_10 : parseMethodDescriptor "(Ljava/lang/String;)Ljava/lang/AbstractStringBuilder;" = some ⟨[(.object "java/lang/String")], some (.object "java/lang/AbstractStringBuilder")⟩ := by decide +kernel
theorem ef_11 (m : MethodId) (x0 : Addr) (x1 : Addr) : entryFrame m #[(.ref x0), (.ref x1)] 2 = mkF m 0 #[.val (.ref x0), .val (.ref x1)] [] := by first | (simp [entryFrame, mkF, argsToLocals, Value.category]; done) | rfl
set_option maxRecDepth 65536 in
set_option maxHeartbeats 40000000 in
theorem rm11 (l : Launch) (Z : State) (a0 : Array Value) (hw : ∀ d ∈ tables_1, d.before a0 Z = true) (ws : List Jvm.Cond) (a1 : Addr) (a2 : Addr) (G1 : Int32) (bv : Addr) (sv : Addr) (c0 : Int32) (k_bv : ClassId) (z_bv : Int32) (vs_bv : List Value) (dv_bv : Value) (k_sv : ClassId) (z_sv : Int32) (vs_sv : List Value) (dv_sv : Value) (h0 : Heap) (n0 : Nat) (Z0 : n0 ≤ h0.size) (S_COMPACT_STRINGS : Sta Z Z.heap "java/lang/String" "COMPACT_STRINGS" "Z" (.int G1)) (X00 : Old Z n0 h0) (P3 : ¬ (G1 = (0 : Int32))) (E_a1 : Exa Z h0 a1 "java/lang/StringBuilder") (F_value_a1 : Fld Z h0 a1 "java/lang/AbstractStringBuilder" "value" "[B" (.ref bv)) (F_coder_a1 : Fld Z h0 a1 "java/lang/AbstractStringBuilder" "coder" "B" (.int (0 : Int32))) (F_count_a1 : Fld Z h0 a1 "java/lang/AbstractStringBuilder" "count" "I" (.int c0)) (E_a2 : Exa Z h0 a2 "java/lang/String") (F_value_a2 : Fld Z h0 a2 "java/lang/String" "value" "[B" (.ref sv)) (F_coder_a2 : Fld Z h0 a2 "java/lang/String" "coder" "B" (.int (0 : Int32))) (V_bv : Arv Z h0 bv k_bv .byte z_bv vs_bv dv_bv) (V_sv : Arv Z h0 sv k_sv .byte z_sv vs_sv dv_sv) (g_bv : n0 ≤ bv) (g_a1 : n0 ≤ a1) (hzl : z_sv.toNatClampNeg = vs_sv.length) (hps : ¬ c0 < 0) (hbo : c0.toNatClampNeg + vs_sv.length ≤ z_bv.toNatClampNeg) (hln : c0.toNatClampNeg + vs_sv.length ≤ vs_bv.length) (hcap : ¬ ((0 : Int32) < ((c0 + z_sv) - (z_bv >>> ((0 : Int32) &&& 31))))) :
    MetFree l (⟨"java/lang/StringBuilder", "append", "(Ljava/lang/String;)Ljava/lang/StringBuilder;"⟩ : MethodName) (head1 (Jvm.Cond.code (⟨"java/lang/StringBuilder", "append", "(Ljava/lang/String;)Ljava/lang/StringBuilder;"⟩ : MethodName) jdk_67_method_7_code 2 (some (.object "java/lang/StringBuilder")) :: ws) ({ frames := 4, cells := 0, slots := 0, locals := 78 } : Room)) (fun a U => a = #[(.ref a1), (.ref a2)] ∧ Z.Warmed39 U.vm ∧ U.heap = h0) (fun _ _ _ _ _ => True) (fun _ U o U' => ∃ v L, o = .returned v ∧ own_QB Z a1 (c0 + z_sv) bv k_bv z_bv (own_upd vs_bv c0.toNatClampNeg vs_sv) dv_bv h0 n0 v U'.heap L ∧ FrameEnd U o U' L ({ frames := 4, cells := 0, slots := 0, locals := 78 } : Room).cells ({ frames := 4, cells := 0, slots := 0, locals := 78 } : Room).slots) := by
  refine MetFree.of_bodySF (plainFor_of_name pn_11) hisR ?_
  intro p e s m args below meth c s₁ Bd hml0 hP hK
  obtain ⟨rfl, hZ, hh⟩ := hP
  have hx := Bd.exec
  have hby := Bd.bytes
  have hml : c.maxLocals = 2 := hml0
  have hown : s.vm.findClass "java/lang/StringBuilder" = some m.cls := findClass_of_methodNamed Bd.named
  have hnm := (name_of_methodNamed Bd.named Bd.method).1
  have X0 : Stand p l e ({ frames := 4, cells := 0, slots := 0, locals := 78 } : Room) s m #[(.ref a1), (.ref a2)] below meth c s₁ [] 0 0 := Stand.of_body Bd
  have e0 : s₁.heap = h0 := by rw [← hh, Bd.state]; rfl
  have N0 := Fr.nil n0
  have pre0 : ∀ t, Steps p.tables e below (s₁.setTop (mkF m 0 #[.val (.ref a1), .val (.ref a2)] [])) t → Steps p.tables e below (s₁.setTop (entryFrame m #[(.ref a1), (.ref a2)] 2)) t := fun t k => castTop (ef_11 m a1 a2) k
  -- 3. LAWS
  -- pc 2: super.append: rm12
  obtain ⟨_, _, ⟨T3, L3, k3, n3⟩, -, X3, ⟨Lc3, hQ3, l3, y3, z3⟩, st3⟩ := superBack X0 hx hZ (y := (⟨"java/lang/AbstractStringBuilder", "append", "(Ljava/lang/String;)Ljava/lang/AbstractStringBuilder;"⟩ : MethodName)) hown (hw _ (List.mem_of_getElem? (i := 66) rfl)) (own_same (hw _ (List.mem_of_getElem? (i := 67) rfl)) (by decide) (own_notIf (y := (⟨"java/lang/AbstractStringBuilder", "ensureCapacityInternal", "(I)V"⟩ : MethodName)) (hw _ (List.mem_of_getElem? (i := 86) rfl)))) (hw _ (List.mem_of_getElem? (i := 67) rfl)) (hw _ (List.mem_of_getElem? (i := 68) rfl)) (by decide) (backOf (W := 0) (rm12 l Z a0 hw [] a1 a2 G1 bv sv c0 k_bv z_bv vs_bv dv_bv k_sv z_sv vs_sv dv_sv h0 n0 Z0 S_COMPACT_STRINGS X00 P3 E_a1 F_value_a1 F_coder_a1 F_count_a1 E_a2 F_value_a2 F_coder_a2 V_bv V_sv g_bv g_a1 hzl hps hbo hln hcap) hZ (hw _ (List.mem_of_getElem? (i := 70) rfl)) (hw _ (List.mem_of_getElem? (i := 53) rfl)) (by decide) (by decide)) e0 (Ins.self E_a1) (g := (mkF m 2 #[.val (.ref a1), .val (.ref a2)] [(.ref a2), (.ref a1)])) rfl (by rw [hml]; rfl) (hw _ (List.mem_of_getElem? (i := 70) rfl)) (argsL := [(.ref a2)]) (rest := []) (lenOf pd_11_10 rfl) rfl (by show 2 * 0 + _ ≤ _; exact Nat.le_of_eq rfl) (hb hby d11_2) (fun _ _ => ⟨rfl, e0, (by decide : 0 + 0 ≤ _), (by decide : 0 + 0 ≤ _)⟩)
  dsimp only [Pt.U, Pt.locs, Pt.cells, Pt.slots] at X3 l3 y3 z3 st3 hQ3
  subst l3 y3 z3
  obtain ⟨rfl, N3q, KcX, FcX, FvX, FdX, VcX⟩ := hQ3      -- what it returned, that it wrote nothing old, and the rest of your Q12
  have N3 := Fr.app N0 N3q
  have Kq3 : Keep h0 T3.heap [bv, a1] := KcX
  have K3 : Keep h0 T3.heap [a1, bv] := (Keep.refl h0 [a1, bv]).trans Kq3 (own_trS (Or.inl (List.mem_of_getElem? (i := 1) rfl)) (own_trS (Or.inl (List.mem_of_getElem? (i := 0) rfl)) all0))
  obtain ⟨fs, hr, hrun, hended, hW, hsame⟩ := X3.leave (v := some (.ref a1)) (fun h => by rw [Bd.returns] at h; cases h)
  refine ⟨_, _, pre0 _ ?_, hrun, hended, _, _, rfl, ?_, ⟨_, rfl⟩, hW, hsame.mono (by decide) (by decide)⟩
  -- 4. STEPS
  · show Steps p.tables e below (s₁.setTop (mkF m 0 #[.val (.ref a1), .val (.ref a2)] [])) _
    refine XS.aloadN X0.here hx rfl (hb hby d11_0) rfl rfl ?_
    show Steps p.tables e below (s₁.setTop (mkF m 1 #[.val (.ref a1), .val (.ref a2)] [(.ref a1)])) _
    refine XS.aloadN X0.here hx rfl (hb hby d11_1) rfl rfl ?_
    show Steps p.tables e below (s₁.setTop (mkF m 2 #[.val (.ref a1), .val (.ref a2)] [(.ref a2), (.ref a1)])) _
    refine st3.trans ?_
    show Steps p.tables e below (T3.setTop (mkF m 5 #[.val (.ref a1), .val (.ref a2)] [(.ref a1)])) _
    refine XS.pop X3.here hx rfl (hb hby d11_5) rfl rfl ?_
    show Steps p.tables e below (T3.setTop (mkF m 6 #[.val (.ref a1), .val (.ref a2)] [])) _
    refine XS.aloadN X3.here hx rfl (hb hby d11_6) rfl rfl ?_
    show Steps p.tables e below (T3.setTop (mkF m 7 #[.val (.ref a1), .val (.ref a2)] [(.ref a1)])) _
    jvm_step X3.here [X3.here.top, hx, (hb hby d11_7), X3.method', Bd.returns, Value.isRef, FieldType.isReference]
    first | (intro acts; rw [hr _ acts rfl rfl rfl]) | rw [hr _ _ rfl rfl rfl]
    exact Steps.refl _
  · show own_QB Z a1 (c0 + z_sv) bv k_bv z_bv (own_upd vs_bv c0.toNatClampNeg vs_sv) dv_bv h0 n0 _ T3.heap _
    exact ⟨rfl, N3, KcX, FcX, FvX, FdX, VcX⟩
theorem own_sub0 (z : Int32) : z - (0 : Int32) = z := by
  apply Int32.toInt_inj.mp
  rw [Int32.toInt_sub]
  have a := z.toInt_lt; have b := z.le_toInt
  have e : ((0 : Int32)).toInt = 0 := rfl
  rw [e, Int.sub_zero]
  exact Int32.toInt_bmod z
theorem own_rangeT (vs : List Value) (d : Value) (k : Nat) (h : k ≤ vs.length) : vs.take k = (List.range k).map fun i => vs.getD (((0 : Int32)).toNatClampNeg + i) d := by
  have e : ((0 : Int32)).toNatClampNeg = 0 := rfl
  rw [e]
  simp only [Nat.zero_add]
  apply List.ext_getElem
  · simp; omega
  · intro i h1 h2
    have h3 : i < vs.length := by simp at h1; omega
    simp [List.getD_eq_getElem?_getD, List.getElem?_eq_getElem h3]
theorem own_nelt {a b : Int32} (h : a < b) : ¬ a = b := fun q => by subst q; exact absurd h (by simp)
theorem own_cl {a b : Int32} (h : a < b) : a.toNatClampNeg ≤ b.toNatClampNeg := by
  have := Int32.lt_iff_toInt_lt.mp h
  simp only [Int32.toNatClampNeg]
  omega
def own_QN (Z : State) (a1 : Addr) (h0 : Heap) (n0 : Nat) (v : Option Value) (h : Heap) (L : List Loc) : Prop := v = none ∧ Fr n0 L ∧ Keep h0 h [a1] ∧ ∃ (b : Addr) (k : ClassId), n0 ≤ b ∧ h0.size ≤ b ∧ Fld Z h a1 "java/lang/AbstractStringBuilder" "value" "[B" (.ref b) ∧ Fld Z h a1 "java/lang/AbstractStringBuilder" "coder" "B" (.int (0 : Int32)) ∧ Fld Z h a1 "java/lang/AbstractStringBuilder" "count" "I" (.int (0 : Int32)) ∧ Arv Z h b k .byte (16 : Int32) (List.replicate 16 (.int (0 : Int32))) (.int (0 : Int32))
def own_QC (Z : State) (c : Int32) (vs : List Value) (h0 : Heap) (n0 : Nat) (v : Option Value) (h : Heap) (L : List Loc) : Prop := ∃ b : Addr, v = some (.ref b) ∧ Fr n0 L ∧ n0 ≤ b ∧ h0.size ≤ b ∧ Keep h0 h [] ∧ ∃ k : ClassId, Arv Z h b k .byte c vs (.int (0 : Int32))
def own_QI (Z : State) (a1 : Addr) (c : Int32) (vs : List Value) (h0 : Heap) (n0 : Nat) (v : Option Value) (h : Heap) (L : List Loc) : Prop := v = none ∧ Fr n0 L ∧ Keep h0 h [a1] ∧ ∃ (t : Addr) (k : ClassId), n0 ≤ t ∧ h0.size ≤ t ∧ Fld Z h a1 "java/lang/String" "value" "[B" (.ref t) ∧ Fld Z h a1 "java/lang/String" "coder" "B" (.int (0 : Int32)) ∧ Arv Z h t k .byte c vs (.int (0 : Int32))
def own_QS (Z : State) (c : Int32) (vs : List Value) (h0 : Heap) (n0 : Nat) (v : Option Value) (h : Heap) (L : List Loc) : Prop := ∃ b : Addr, v = some (.ref b) ∧ Fr n0 L ∧ n0 ≤ b ∧ h0.size ≤ b ∧ Keep h0 h [] ∧ Exa Z h b "java/lang/String" ∧ ∃ (t : Addr) (k : ClassId), n0 ≤ t ∧ h0.size ≤ t ∧ Fld Z h b "java/lang/String" "value" "[B" (.ref t) ∧ Fld Z h b "java/lang/String" "coder" "B" (.int (0 : Int32)) ∧ Arv Z h t k .byte c vs (.int (0 : Int32))
theorem d10_0 : decode jdk_68_method_2_code 0 = .ok (.aload_n 0, 1) := by decide +kernel
theorem d10_1 : decode jdk_68_method_2_code 1 = .ok (.invokespecial 3, 3) := by decide +kernel
theorem d10_4 : decode jdk_68_method_2_code 4 = .ok (.getstatic 18, 3) := by decide +kernel
theorem d10_7 : decode jdk_68_method_2_code 7 = .ok (.ifCond .eq 18, 3) := by decide +kernel
theorem d10_10 : decode jdk_68_method_2_code 10 = .ok (.aload_n 0, 1) := by decide +kernel
theorem d10_11 : decode jdk_68_method_2_code 11 = .ok (.iload_n 1, 1) := by decide +kernel
theorem d10_12 : decode jdk_68_method_2_code 12 = .ok (.newarray .byte, 2) := by decide +kernel
theorem d10_14 : decode jdk_68_method_2_code 14 = .ok (.putfield 15, 3) := by decide +kernel
theorem d10_17 : decode jdk_68_method_2_code 17 = .ok (.aload_n 0, 1) := by decide +kernel
theorem d10_18 : decode jdk_68_method_2_code 18 = .ok (.iconst 0, 1) := by decide +kernel
theorem d10_19 : decode jdk_68_method_2_code 19 = .ok (.putfield 22, 3) := by decide +kernel
theorem d10_22 : decode jdk_68_method_2_code 22 = .ok (.goto 16, 3) := by decide +kernel
theorem d10_38 : decode jdk_68_method_2_code 38 = .ok (.return_, 1) := by decide +kernel
theorem pn_10 : plainName "java/lang/AbstractStringBuilder" = true := by first | (simp [plainName, overriddenIn]; done) | decide +kernel
theorem ef_10 (m : MethodId) (x0 : Addr) (x1 : Int32) : entryFrame m #[(.ref x0), (.int x1)] 2 = mkF m 0 #[.val (.ref x0), .val (.int x1)] [] := by first | (simp [entryFrame, mkF, argsToLocals, Value.category]; done) | rfl
set_option maxRecDepth 65536 in
set_option maxHeartbeats 40000000 in
theorem rm10 (l : Launch) (Z : State) (a0 : Array Value) (hw : ∀ d ∈ tables_1, d.before a0 Z = true) (ws : List Jvm.Cond) (a1 : Addr) (_p2 : Int32) (G1 : Int32) (h0 : Heap) (n0 : Nat) (Z0 : n0 ≤ h0.size) (S_COMPACT_STRINGS : Sta Z Z.heap "java/lang/String" "COMPACT_STRINGS" "Z" (.int G1)) (X00 : Old Z n0 h0) (P3 : ¬ (G1 = (0 : Int32))) (E_a1 : Exa Z h0 a1 "java/lang/StringBuilder") (F_value_a1 : Fld Z h0 a1 "java/lang/AbstractStringBuilder" "value" "[B" .null) (F_coder_a1 : Fld Z h0 a1 "java/lang/AbstractStringBuilder" "coder" "B" (.int (0 : Int32))) (F_count_a1 : Fld Z h0 a1 "java/lang/AbstractStringBuilder" "count" "I" (.int (0 : Int32))) (g_a1 : n0 ≤ a1) :
    MetFree l (⟨"java/lang/AbstractStringBuilder", "<init>", "(I)V"⟩ : MethodName) (head1 (Jvm.Cond.code (⟨"java/lang/AbstractStringBuilder", "<init>", "(I)V"⟩ : MethodName) jdk_68_method_2_code 2 none :: ws) ({ frames := 1, cells := 1, slots := 16, locals := 12 } : Room)) (fun a U => a = #[(.ref a1), (.int (16 : Int32))] ∧ Z.Warmed39 U.vm ∧ U.heap = h0) (fun _ _ _ _ _ => True) (fun _ U o U' => ∃ v L, o = .returned v ∧ own_QN Z a1 h0 n0 v U'.heap L ∧ FrameEnd U o U' L ({ frames := 1, cells := 1, slots := 16, locals := 12 } : Room).cells ({ frames := 1, cells := 1, slots := 16, locals := 12 } : Room).slots) := by
  refine MetFree.of_bodySF (plainFor_of_name pn_10) hisR ?_
  intro p e s m args below meth c s₁ Bd hml0 hP hK
  obtain ⟨rfl, hZ, hh⟩ := hP
  have hx := Bd.exec
  have hby := Bd.bytes
  have hml : c.maxLocals = 2 := hml0
  have hown : s.vm.findClass "java/lang/AbstractStringBuilder" = some m.cls := findClass_of_methodNamed Bd.named
  have hnm := (name_of_methodNamed Bd.named Bd.method).1
  have X0 : Stand p l e ({ frames := 1, cells := 1, slots := 16, locals := 12 } : Room) s m #[(.ref a1), (.int (16 : Int32))] below meth c s₁ [] 0 0 := Stand.of_body Bd
  have e0 : s₁.heap = h0 := by rw [← hh, Bd.state]; rfl
  have N0 := Fr.nil n0
  have pre0 : ∀ t, Steps p.tables e below (s₁.setTop (mkF m 0 #[.val (.ref a1), .val (.int (16 : Int32))] [])) t → Steps p.tables e below (s₁.setTop (entryFrame m #[(.ref a1), (.int (16 : Int32))] 2)) t := fun t k => castTop (ef_10 m a1 (16 : Int32)) k
  -- 3. LAWS
  obtain ⟨T2, X2, e2, st2⟩ := initO X0 hx hZ hown (hw _ (List.mem_of_getElem? (i := 55) rfl)) (hw _ (List.mem_of_getElem? (i := 16) rfl)) (hw _ (List.mem_of_getElem? (i := 17) rfl)) e0 (g := (mkF m 1 #[.val (.ref a1), .val (.int (16 : Int32))] [(.ref a1)])) rfl (by rw [hml]; rfl) rfl (hb hby d10_1) (by decide) (W := 0) (by show 2 * 0 + _ ≤ _; exact Nat.le_of_eq rfl) (by decide)
  obtain ⟨T3, X3, e3, st3⟩ := getS2 X2 hx hZ hown (host := "") (Or.inl (hw _ (List.mem_of_getElem? (i := 56) rfl))) Via.refl e2 (S_COMPACT_STRINGS.ext X00.2) (g := (mkF m 4 #[.val (.ref a1), .val (.int (16 : Int32))] [])) rfl (hb hby d10_4)
  obtain ⟨T4, h4, k4, X4, e4, E4, A4, st4⟩ := newP X3 hx hZ (hw _ (List.mem_of_getElem? (i := 23) rfl)) e3 (g := (mkF m 12 #[.val (.ref a1), .val (.int (16 : Int32))] [(.int (16 : Int32)), (.ref a1)])) rfl (hb hby d10_12) rfl (by decide) (cap := 16) (by decide) (by decide) (by decide) (by decide)
  obtain ⟨b4, g4⟩ : ∃ z, z = h0.size := ⟨_, rfl⟩      -- the fresh array's address
  rw [← g4] at A4 st4
  have V_b4 : Arv Z h4 b4 k4 .byte (16 : Int32) [(.int (0 : Int32)), (.int (0 : Int32)), (.int (0 : Int32)), (.int (0 : Int32)), (.int (0 : Int32)), (.int (0 : Int32)), (.int (0 : Int32)), (.int (0 : Int32)), (.int (0 : Int32)), (.int (0 : Int32)), (.int (0 : Int32)), (.int (0 : Int32)), (.int (0 : Int32)), (.int (0 : Int32)), (.int (0 : Int32)), (.int (0 : Int32))] (.int (0 : Int32)) := (Arv.new A4 (by decide)).pad (pad_rep [] (.int (0 : Int32)) 16)
  have g_b4 : n0 ≤ b4 := Nat.le_trans Z0 (Nat.le_of_eq g4.symm)
  have sz_b4 : h0.size ≤ b4 := (Nat.le_trans (Keep.refl h0 [a1]).1 (Nat.le_of_eq g4.symm))
  have K4 : Keep h0 h4 [a1] := (Keep.refl h0 [a1]).ext E4
  obtain ⟨T5, h5, X5, e5, W5, st5⟩ := putF X4 hx hZ hown (host := "") (Or.inl (hw _ (List.mem_of_getElem? (i := 57) rfl))) Via.refl e4 (F_value_a1.ext E4) (E_a1.ext E4) (Or.inl (hw _ (List.mem_of_getElem? (i := 58) rfl))) (hw _ (List.mem_of_getElem? (i := 44) rfl)) (ty := (.array .byte)) (by decide) rfl rfl (g := (mkF m 14 #[.val (.ref a1), .val (.int (16 : Int32))] [(.ref b4), (.ref a1)])) rfl rfl (hb hby d10_14)
  have Fw5 := (F_value_a1.ext E4).same W5      -- the field now holds (.ref b4)
  have K5 : Keep h0 h5 [a1] := K4.wr W5 (Or.inl (List.mem_of_getElem? (i := 0) rfl))
  have N5 := Fr.snoc X5 N0 g_a1
  obtain ⟨T6, h6, X6, e6, W6, st6⟩ := putFN X5 hx hZ hown (hw _ (List.mem_of_getElem? (i := 59) rfl)) Via.refl e5 ((F_coder_a1.ext E4).other W5 (Or.inr (slot_ne (Or.inl (hw _ (List.mem_of_getElem? (i := 60) rfl))) (Or.inl (hw _ (List.mem_of_getElem? (i := 58) rfl))) (by decide) (t := .byte) (t' := (.array .byte)) (by decide) (by decide)))) ((E_a1.ext E4).wr W5) (Or.inl (hw _ (List.mem_of_getElem? (i := 60) rfl))) (hw _ (List.mem_of_getElem? (i := 44) rfl)) (ty := .byte) (v' := .int (nar .byte (0 : Int32))) (by decide) rfl (fits_nar_byte _) (g := (mkF m 19 #[.val (.ref a1), .val (.int (16 : Int32))] [(.int (0 : Int32)), (.ref a1)])) rfl rfl (hb hby d10_19)
  have Fw6 := ((F_coder_a1.ext E4).other W5 (Or.inr (slot_ne (Or.inl (hw _ (List.mem_of_getElem? (i := 60) rfl))) (Or.inl (hw _ (List.mem_of_getElem? (i := 58) rfl))) (by decide) (t := .byte) (t' := (.array .byte)) (by decide) (by decide)))).same W6      -- the field now holds (.int (0 : Int32))
  have K6 : Keep h0 h6 [a1] := K5.wr W6 (Or.inl (List.mem_of_getElem? (i := 0) rfl))
  have N6 := Fr.snoc X6 N5 g_a1
  have End_0 := (Fw5.other W6 (Or.inr (slot_ne (Or.inl (hw _ (List.mem_of_getElem? (i := 58) rfl))) (Or.inl (hw _ (List.mem_of_getElem? (i := 60) rfl))) (by decide) (t := (.array .byte)) (t' := .byte) (by decide) (by decide))))
  have End_1 := Fw6
  have End_2 := (((F_count_a1.ext E4).other W5 (Or.inr (slot_ne (Or.inl (hw _ (List.mem_of_getElem? (i := 82) rfl))) (Or.inl (hw _ (List.mem_of_getElem? (i := 58) rfl))) (by decide) (t := .int) (t' := (.array .byte)) (by decide) (by decide)))).other W6 (Or.inr (slot_ne (Or.inl (hw _ (List.mem_of_getElem? (i := 82) rfl))) (Or.inl (hw _ (List.mem_of_getElem? (i := 60) rfl))) (by decide) (t := .int) (t' := .byte) (by decide) (by decide))))
  have End_3 := ((V_b4.other W5 (Ne.symm (Nat.ne_of_lt (Nat.lt_of_lt_of_le E_a1.lt (Nat.le_of_eq g4.symm))))).other W6 (Ne.symm (Nat.ne_of_lt (Nat.lt_of_lt_of_le E_a1.lt (Nat.le_of_eq g4.symm)))))
  obtain ⟨fs, hr, hrun, hended, hW, hsame⟩ := X6.leave (v := none) (fun _ => rfl)
  refine ⟨_, _, pre0 _ ?_, hrun, hended, _, _, rfl, ?_, ⟨_, rfl⟩, hW, hsame.mono (by decide) (by decide)⟩
  -- 4. STEPS
  · show Steps p.tables e below (s₁.setTop (mkF m 0 #[.val (.ref a1), .val (.int (16 : Int32))] [])) _
    refine XS.aloadN X0.here hx rfl (hb hby d10_0) rfl rfl ?_
    show Steps p.tables e below (s₁.setTop (mkF m 1 #[.val (.ref a1), .val (.int (16 : Int32))] [(.ref a1)])) _
    refine st2 _ ?_
    show Steps p.tables e below (T2.setTop (mkF m 4 #[.val (.ref a1), .val (.int (16 : Int32))] [])) _
    refine st3 _ ?_
    show Steps p.tables e below (T3.setTop (mkF m 7 #[.val (.ref a1), .val (.int (16 : Int32))] [(.int G1)])) _
    refine XS.ifNo X3.here hx rfl (hb hby d10_7) rfl ((if0 _ _).trans (feq P3).1) ?_
    show Steps p.tables e below (T3.setTop (mkF m 10 #[.val (.ref a1), .val (.int (16 : Int32))] [])) _
    refine XS.aloadN X3.here hx rfl (hb hby d10_10) rfl rfl ?_
    show Steps p.tables e below (T3.setTop (mkF m 11 #[.val (.ref a1), .val (.int (16 : Int32))] [(.ref a1)])) _
    refine XS.iloadN X3.here hx rfl (hb hby d10_11) rfl ?_
    show Steps p.tables e below (T3.setTop (mkF m 12 #[.val (.ref a1), .val (.int (16 : Int32))] [(.int (16 : Int32)), (.ref a1)])) _
    refine st4 _ ?_
    show Steps p.tables e below (T4.setTop (mkF m 14 #[.val (.ref a1), .val (.int (16 : Int32))] [(.ref b4), (.ref a1)])) _
    refine st5 _ ?_
    show Steps p.tables e below (T5.setTop (mkF m 17 #[.val (.ref a1), .val (.int (16 : Int32))] [])) _
    refine XS.aloadN X5.here hx rfl (hb hby d10_17) rfl rfl ?_
    show Steps p.tables e below (T5.setTop (mkF m 18 #[.val (.ref a1), .val (.int (16 : Int32))] [(.ref a1)])) _
    refine XS.iconst X5.here hx rfl (hb hby d10_18) ?_
    show Steps p.tables e below (T5.setTop (mkF m 19 #[.val (.ref a1), .val (.int (16 : Int32))] [(.int (0 : Int32)), (.ref a1)])) _
    refine st6 _ ?_
    show Steps p.tables e below (T6.setTop (mkF m 22 #[.val (.ref a1), .val (.int (16 : Int32))] [])) _
    refine XS.goto X6.here hx rfl (pc0 := 22) (pc' := 38) rfl (hb hby d10_22) (by decide) (by decide) ?_
    show Steps p.tables e below (T6.setTop (mkF m 38 #[.val (.ref a1), .val (.int (16 : Int32))] [])) _
    exact X6.returnOut hx Bd.returns (hb hby d10_38) hr
  · show own_QN Z a1 h0 n0 _ T6.heap _
    rw [e6]
    exact ⟨rfl, N6, K6, b4, k4, g_b4, sz_b4, End_0, End_1, End_2, End_3⟩
theorem d9_0 : decode jdk_67_method_1_code 0 = .ok (.aload_n 0, 1) := by decide +kernel
theorem d9_1 : decode jdk_67_method_1_code 1 = .ok (.bipush 16, 2) := by decide +kernel
theorem d9_3 : decode jdk_67_method_1_code 3 = .ok (.invokespecial 1, 3) := by decide +kernel
theorem d9_6 : decode jdk_67_method_1_code 6 = .ok (.return_, 1) := by decide +kernel
theorem pn_9 : plainName "java/lang/StringBuilder" = true := by first | (simp [plainName, overriddenIn]; done) | decide +kernel
theorem pd_9_8 : parseMethodDescriptor "(I)V" = some ⟨[.int], none⟩ := by decide +kernel
theorem ef_9 (m : MethodId) (x0 : Addr) : entryFrame m #[(.ref x0)] 1 = mkF m 0 #[.val (.ref x0)] [] := by first | (simp [entryFrame, mkF, argsToLocals, Value.category]; done) | rfl
set_option maxRecDepth 65536 in
set_option maxHeartbeats 40000000 in
theorem rm9 (l : Launch) (Z : State) (a0 : Array Value) (hw : ∀ d ∈ tables_1, d.before a0 Z = true) (ws : List Jvm.Cond) (a1 : Addr) (G1 : Int32) (h0 : Heap) (n0 : Nat) (Z0 : n0 ≤ h0.size) (S_COMPACT_STRINGS : Sta Z Z.heap "java/lang/String" "COMPACT_STRINGS" "Z" (.int G1)) (X00 : Old Z n0 h0) (P3 : ¬ (G1 = (0 : Int32))) (E_a1 : Exa Z h0 a1 "java/lang/StringBuilder") (F_value_a1 : Fld Z h0 a1 "java/lang/AbstractStringBuilder" "value" "[B" .null) (F_coder_a1 : Fld Z h0 a1 "java/lang/AbstractStringBuilder" "coder" "B" (.int (0 : Int32))) (F_count_a1 : Fld Z h0 a1 "java/lang/AbstractStringBuilder" "count" "I" (.int (0 : Int32))) (g_a1 : n0 ≤ a1) :
    MetFree l (⟨"java/lang/StringBuilder", "<init>", "()V"⟩ : MethodName) (head1 (Jvm.Cond.code (⟨"java/lang/StringBuilder", "<init>", "()V"⟩ : MethodName) jdk_67_method_1_code 1 none :: ws) ({ frames := 2, cells := 1, slots := 16, locals := 25 } : Room)) (fun a U => a = #[(.ref a1)] ∧ Z.Warmed39 U.vm ∧ U.heap = h0) (fun _ _ _ _ _ => True) (fun _ U o U' => ∃ v L, o = .returned v ∧ own_QN Z a1 h0 n0 v U'.heap L ∧ FrameEnd U o U' L ({ frames := 2, cells := 1, slots := 16, locals := 25 } : Room).cells ({ frames := 2, cells := 1, slots := 16, locals := 25 } : Room).slots) := by
  refine MetFree.of_bodySF (plainFor_of_name pn_9) hisR ?_
  intro p e s m args below meth c s₁ Bd hml0 hP hK
  obtain ⟨rfl, hZ, hh⟩ := hP
  have hx := Bd.exec
  have hby := Bd.bytes
  have hml : c.maxLocals = 1 := hml0
  have hown : s.vm.findClass "java/lang/StringBuilder" = some m.cls := findClass_of_methodNamed Bd.named
  have hnm := (name_of_methodNamed Bd.named Bd.method).1
  have X0 : Stand p l e ({ frames := 2, cells := 1, slots := 16, locals := 25 } : Room) s m #[(.ref a1)] below meth c s₁ [] 0 0 := Stand.of_body Bd
  have e0 : s₁.heap = h0 := by rw [← hh, Bd.state]; rfl
  have N0 := Fr.nil n0
  have pre0 : ∀ t, Steps p.tables e below (s₁.setTop (mkF m 0 #[.val (.ref a1)] [])) t → Steps p.tables e below (s₁.setTop (entryFrame m #[(.ref a1)] 1)) t := fun t k => castTop (ef_9 m a1) k
  -- 3. LAWS
  -- pc 3: the constructor of java/lang/AbstractStringBuilder by its contract rm10
  obtain ⟨_, _, ⟨T2, L2, k2, n2⟩, -, X2, ⟨Lc2, hQ2, l2, y2, z2⟩, st2⟩ := X0.specialBack hx (y := (⟨"java/lang/AbstractStringBuilder", "<init>", "(I)V"⟩ : MethodName)) rfl hown (mvT hZ (hw _ (List.mem_of_getElem? (i := 49) rfl))) (mvT hZ (hw _ (List.mem_of_getElem? (i := 50) rfl))) (mvT hZ (hw _ (List.mem_of_getElem? (i := 54) rfl))) (by decide) (backOf (W := 0) (rm10 l Z a0 hw [] a1 (16 : Int32) G1 h0 n0 Z0 S_COMPACT_STRINGS X00 P3 E_a1 F_value_a1 F_coder_a1 F_count_a1 g_a1) hZ (hw _ (List.mem_of_getElem? (i := 54) rfl)) (hw _ (List.mem_of_getElem? (i := 53) rfl)) (by decide) (by decide)) (g := (mkF m 3 #[.val (.ref a1)] [(.int (16 : Int32)), (.ref a1)])) rfl (by rw [hml]; rfl) (Steps.refl _) (a := a1) (argsL := [(.int (16 : Int32))]) (rest := []) (lenOf pd_9_8 rfl) rfl (by show 2 * 0 + _ ≤ _; exact Nat.le_of_eq rfl) (hb hby d9_3) (fun _ _ => ⟨rfl, e0, (by decide : 0 + 1 ≤ _), (by decide : 0 + 16 ≤ _)⟩)
  dsimp only [Pt.U, Pt.locs, Pt.cells, Pt.slots] at X2 l2 y2 z2 st2 hQ2
  subst l2 y2 z2
  obtain ⟨rfl, N2q, Kc, Rc⟩ := hQ2      -- what it returned, that it wrote nothing old, and the rest of your Q10
  have N2 := Fr.app N0 N2q
  have Kq2 : Keep h0 T2.heap [a1] := Kc
  have K2 : Keep h0 T2.heap [a1] := (Keep.refl h0 [a1]).trans Kq2 (own_trS (Or.inl (List.mem_of_getElem? (i := 0) rfl)) all0)
  obtain ⟨fs, hr, hrun, hended, hW, hsame⟩ := X2.leave (v := none) (fun _ => rfl)
  refine ⟨_, _, pre0 _ ?_, hrun, hended, _, _, rfl, ?_, ⟨_, rfl⟩, hW, hsame.mono (by decide) (by decide)⟩
  -- 4. STEPS
  · show Steps p.tables e below (s₁.setTop (mkF m 0 #[.val (.ref a1)] [])) _
    refine XS.aloadN X0.here hx rfl (hb hby d9_0) rfl rfl ?_
    show Steps p.tables e below (s₁.setTop (mkF m 1 #[.val (.ref a1)] [(.ref a1)])) _
    refine XS.bipush X0.here hx rfl (hb hby d9_1) ?_
    show Steps p.tables e below (s₁.setTop (mkF m 3 #[.val (.ref a1)] [(.int (16 : Int32)), (.ref a1)])) _
    refine st2.trans ?_
    show Steps p.tables e below (T2.setTop (mkF m 6 #[.val (.ref a1)] [])) _
    exact X2.returnOut hx Bd.returns (hb hby d9_6) hr
  · show own_QN Z a1 h0 n0 _ T2.heap _
    exact ⟨rfl, N2, Kc, Rc⟩
theorem d28_0 : decode jdk_65_method_131_code 0 = .ok (.iload_n 1, 1) := by decide +kernel
theorem d28_1 : decode jdk_65_method_131_code 1 = .ok (.iload_n 0, 1) := by decide +kernel
theorem d28_2 : decode jdk_65_method_131_code 2 = .ok (.if_icmp .ge 35, 3) := by decide +kernel
theorem d28_37 : decode jdk_65_method_131_code 37 = .ok (.return_, 1) := by decide +kernel
theorem pn_28 : plainName "java/util/Arrays" = true := by first | (simp [plainName, overriddenIn]; done) | decide +kernel
theorem ef_28 (m : MethodId) (x0 : Int32) (x1 : Int32) : entryFrame m #[(.int x0), (.int x1)] 2 = mkF m 0 #[.val (.int x0), .val (.int x1)] [] := by first | (simp [entryFrame, mkF, argsToLocals, Value.category]; done) | rfl
set_option maxRecDepth 65536 in
set_option maxHeartbeats 40000000 in
theorem rm28 (l : Launch) (Z : State) (a0 : Array Value) (hw : ∀ d ∈ tables_1, d.before a0 Z = true) (ws : List Jvm.Cond) (p1 : Int32) (p2 : Int32) (h0 : Heap) (n0 : Nat) (Z0 : n0 ≤ h0.size) (hc2 : ¬ (p2 < p1)) :
    MetFree l (⟨"java/util/Arrays", "checkLength", "(II)V"⟩ : MethodName) (head1 (Jvm.Cond.code (⟨"java/util/Arrays", "checkLength", "(II)V"⟩ : MethodName) jdk_65_method_131_code 2 none :: ws) ({ frames := 0, cells := 0, slots := 0, locals := 0 } : Room)) (fun a U => a = #[(.int p1), (.int p2)] ∧ Z.Warmed39 U.vm ∧ U.heap = h0) (fun _ _ _ _ _ => True) (fun _ U o U' => ∃ v L, o = .returned v ∧ own_Q0 h0 n0 v U'.heap L ∧ FrameEnd U o U' L ({ frames := 0, cells := 0, slots := 0, locals := 0 } : Room).cells ({ frames := 0, cells := 0, slots := 0, locals := 0 } : Room).slots) := by
  refine MetFree.of_bodySF (plainFor_of_name pn_28) hisR ?_
  intro p e s m args below meth c s₁ Bd hml0 hP hK
  obtain ⟨rfl, hZ, hh⟩ := hP
  have hx := Bd.exec
  have hby := Bd.bytes
  have hml : c.maxLocals = 2 := hml0
  have hown : s.vm.findClass "java/util/Arrays" = some m.cls := findClass_of_methodNamed Bd.named
  have hnm := (name_of_methodNamed Bd.named Bd.method).1
  have X0 : Stand p l e ({ frames := 0, cells := 0, slots := 0, locals := 0 } : Room) s m #[(.int p1), (.int p2)] below meth c s₁ [] 0 0 := Stand.of_body Bd
  have e0 : s₁.heap = h0 := by rw [← hh, Bd.state]; rfl
  have N0 := Fr.nil n0
  have pre0 : ∀ t, Steps p.tables e below (s₁.setTop (mkF m 0 #[.val (.int p1), .val (.int p2)] [])) t → Steps p.tables e below (s₁.setTop (entryFrame m #[(.int p1), (.int p2)] 2)) t := fun t k => castTop (ef_28 m p1 p2) k
  -- 3. LAWS

  obtain ⟨fs, hr, hrun, hended, hW, hsame⟩ := X0.leave (v := none) (fun _ => rfl)
  refine ⟨_, _, pre0 _ ?_, hrun, hended, _, _, rfl, ?_, ⟨_, rfl⟩, hW, hsame.mono (by decide) (by decide)⟩
  -- 4. STEPS
  · show Steps p.tables e below (s₁.setTop (mkF m 0 #[.val (.int p1), .val (.int p2)] [])) _
    refine XS.iloadN X0.here hx rfl (hb hby d28_0) rfl ?_
    show Steps p.tables e below (s₁.setTop (mkF m 1 #[.val (.int p1), .val (.int p2)] [(.int p2)])) _
    refine XS.iloadN X0.here hx rfl (hb hby d28_1) rfl ?_
    show Steps p.tables e below (s₁.setTop (mkF m 2 #[.val (.int p1), .val (.int p2)] [(.int p1), (.int p2)])) _
    refine XS.icmpYes X0.here hx rfl (pc0 := 2) (pc' := 37) rfl (hb hby d28_2) rfl (flt hc2).2.1 (by decide) (by decide) ?_
    show Steps p.tables e below (s₁.setTop (mkF m 37 #[.val (.int p1), .val (.int p2)] [])) _
    exact X0.returnOut hx Bd.returns (hb hby d28_37) hr
  · show own_Q0 h0 n0 _ s₁.heap _
    rw [e0]
    exact ⟨rfl, N0, rfl⟩
theorem d29_0 : decode jdk_29_method_69_code 0 = .ok (.iload_n 0, 1) := by decide +kernel
theorem d29_1 : decode jdk_29_method_69_code 1 = .ok (.iload_n 1, 1) := by decide +kernel
theorem d29_2 : decode jdk_29_method_69_code 2 = .ok (.if_icmp .gt 7, 3) := by decide +kernel
theorem d29_9 : decode jdk_29_method_69_code 9 = .ok (.iload_n 1, 1) := by decide +kernel
theorem d29_10 : decode jdk_29_method_69_code 10 = .ok (.ireturn, 1) := by decide +kernel
theorem ef_29 (m : MethodId) (x0 : Int32) (x1 : Int32) : entryFrame m #[(.int x0), (.int x1)] 2 = mkF m 0 #[.val (.int x0), .val (.int x1)] [] := by first | (simp [entryFrame, mkF, argsToLocals, Value.category]; done) | rfl
set_option maxRecDepth 65536 in
set_option maxHeartbeats 40000000 in
theorem rm29 (l : Launch) (Z : State) (a0 : Array Value) (hw : ∀ d ∈ tables_1, d.before a0 Z = true) (ws : List Jvm.Cond) (p1 : Int32) (p2 : Int32) (h0 : Heap) (n0 : Nat) (Z0 : n0 ≤ h0.size) (hc2 : p2 < p1) :
    MetFree l (⟨"java/lang/Math", "min", "(II)I"⟩ : MethodName) (head1 (Jvm.Cond.code (⟨"java/lang/Math", "min", "(II)I"⟩ : MethodName) jdk_29_method_69_code 2 (some .int) :: ws) ({ frames := 0, cells := 0, slots := 0, locals := 0 } : Room)) (fun a U => a = #[(.int p1), (.int p2)] ∧ Z.Warmed39 U.vm ∧ U.heap = h0) (fun _ _ _ _ _ => True) (fun _ U o U' => ∃ v L, o = .returned v ∧ own_QR (.int p2) h0 n0 v U'.heap L ∧ FrameEnd U o U' L ({ frames := 0, cells := 0, slots := 0, locals := 0 } : Room).cells ({ frames := 0, cells := 0, slots := 0, locals := 0 } : Room).slots) := by
  refine MetFree.of_bodySF (Jvm.Free.JP.mathPlain rfl (by decide +kernel)) hisR ?_
  intro p e s m args below meth c s₁ Bd hml0 hP hK
  obtain ⟨rfl, hZ, hh⟩ := hP
  have hx := Bd.exec
  have hby := Bd.bytes
  have hml : c.maxLocals = 2 := hml0
  have hown : s.vm.findClass "java/lang/Math" = some m.cls := findClass_of_methodNamed Bd.named
  have hnm := (name_of_methodNamed Bd.named Bd.method).1
  have X0 : Stand p l e ({ frames := 0, cells := 0, slots := 0, locals := 0 } : Room) s m #[(.int p1), (.int p2)] below meth c s₁ [] 0 0 := Stand.of_body Bd
  have e0 : s₁.heap = h0 := by rw [← hh, Bd.state]; rfl
  have N0 := Fr.nil n0
  have pre0 : ∀ t, Steps p.tables e below (s₁.setTop (mkF m 0 #[.val (.int p1), .val (.int p2)] [])) t → Steps p.tables e below (s₁.setTop (entryFrame m #[(.int p1), (.int p2)] 2)) t := fun t k => castTop (ef_29 m p1 p2) k
  -- 3. LAWS

  obtain ⟨fs, hr, hrun, hended, hW, hsame⟩ := X0.leave (v := some (.int p2)) (fun h => by rw [Bd.returns] at h; cases h)
  refine ⟨_, _, pre0 _ ?_, hrun, hended, _, _, rfl, ?_, ⟨_, rfl⟩, hW, hsame.mono (by decide) (by decide)⟩
  -- 4. STEPS
  · show Steps p.tables e below (s₁.setTop (mkF m 0 #[.val (.int p1), .val (.int p2)] [])) _
    refine XS.iloadN X0.here hx rfl (hb hby d29_0) rfl ?_
    show Steps p.tables e below (s₁.setTop (mkF m 1 #[.val (.int p1), .val (.int p2)] [(.int p1)])) _
    refine XS.iloadN X0.here hx rfl (hb hby d29_1) rfl ?_
    show Steps p.tables e below (s₁.setTop (mkF m 2 #[.val (.int p1), .val (.int p2)] [(.int p2), (.int p1)])) _
    refine XS.icmpYes X0.here hx rfl (pc0 := 2) (pc' := 9) rfl (hb hby d29_2) rfl (tlt hc2).2.2.1 (by decide) (by decide) ?_
    show Steps p.tables e below (s₁.setTop (mkF m 9 #[.val (.int p1), .val (.int p2)] [])) _
    refine XS.iloadN X0.here hx rfl (hb hby d29_9) rfl ?_
    show Steps p.tables e below (s₁.setTop (mkF m 10 #[.val (.int p1), .val (.int p2)] [(.int p2)])) _
    exact retI X0 hx Bd.returns (hb hby d29_10) hr      -- retI stands in the head ('lawwalk <made dir>' prints it)
  · show own_QR (.int p2) h0 n0 _ s₁.heap _
    rw [e0]
    exact ⟨rfl, N0, rfl⟩
theorem d27_0 : decode jdk_65_method_133_code 0 = .ok (.iload_n 1, 1) := by decide +kernel
theorem d27_1 : decode jdk_65_method_133_code 1 = .ok (.iload_n 2, 1) := by decide +kernel
theorem d27_2 : decode jdk_65_method_133_code 2 = .ok (.invokestatic 343, 3) := by decide +kernel
theorem d27_5 : decode jdk_65_method_133_code 5 = .ok (.iload_n 2, 1) := by decide +kernel
theorem d27_6 : decode jdk_65_method_133_code 6 = .ok (.iload_n 1, 1) := by decide +kernel
theorem d27_7 : decode jdk_65_method_133_code 7 = .ok (.isub, 1) := by decide +kernel
theorem d27_8 : decode jdk_65_method_133_code 8 = .ok (.istore_n 3, 1) := by decide +kernel
theorem d27_9 : decode jdk_65_method_133_code 9 = .ok (.iload_n 3, 1) := by decide +kernel
theorem d27_10 : decode jdk_65_method_133_code 10 = .ok (.newarray .byte, 2) := by decide +kernel
theorem d27_12 : decode jdk_65_method_133_code 12 = .ok (.astore 4, 2) := by decide +kernel
theorem d27_14 : decode jdk_65_method_133_code 14 = .ok (.aload_n 0, 1) := by decide +kernel
theorem d27_15 : decode jdk_65_method_133_code 15 = .ok (.iload_n 1, 1) := by decide +kernel
theorem d27_16 : decode jdk_65_method_133_code 16 = .ok (.aload 4, 2) := by decide +kernel
theorem d27_18 : decode jdk_65_method_133_code 18 = .ok (.iconst 0, 1) := by decide +kernel
theorem d27_19 : decode jdk_65_method_133_code 19 = .ok (.aload_n 0, 1) := by decide +kernel
theorem d27_20 : decode jdk_65_method_133_code 20 = .ok (.arraylength, 1) := by decide +kernel
theorem d27_21 : decode jdk_65_method_133_code 21 = .ok (.iload_n 1, 1) := by decide +kernel
theorem d27_22 : decode jdk_65_method_133_code 22 = .ok (.isub, 1) := by decide +kernel
theorem d27_23 : decode jdk_65_method_133_code 23 = .ok (.iload_n 3, 1) := by decide +kernel
theorem d27_24 : decode jdk_65_method_133_code 24 = .ok (.invokestatic 304, 3) := by decide +kernel
theorem d27_27 : decode jdk_65_method_133_code 27 = .ok (.invokestatic 150, 3) := by decide +kernel
theorem d27_30 : decode jdk_65_method_133_code 30 = .ok (.aload 4, 2) := by decide +kernel
theorem d27_32 : decode jdk_65_method_133_code 32 = .ok (.areturn, 1) := by decide +kernel
theorem pn_27 : plainName "java/util/Arrays" = true := by first | (simp [plainName, overriddenIn]; done) | decide +kernel
theorem pd_27_23 : parseMethodDescriptor "(II)V" = some ⟨[.int, .int], none⟩ := by decide +kernel
theorem pd_27_24 : parseMethodDescriptor "(II)I" = some ⟨[.int, .int], some .int⟩ := by decide +kernel
theorem ef_27 (m : MethodId) (x0 : Addr) (x1 : Int32) (x2 : Int32) : entryFrame m #[(.ref x0), (.int x1), (.int x2)] 5 = mkF m 0 #[.val (.ref x0), .val (.int x1), .val (.int x2), .unset, .unset] [] := by first | (simp [entryFrame, mkF, argsToLocals, Value.category]; done) | rfl
theorem own_cpy {Z : State} {h : Heap} {b : Addr} {k : ClassId} {z : Int32} {us : List Value} {d : Value} (V : Arv Z h b k .byte z ((List.replicate z.toNatClampNeg d).take ((0 : Int32)).toNatClampNeg ++ us ++ (List.replicate z.toNatClampNeg d).drop (((0 : Int32)).toNatClampNeg + z.toNatClampNeg)) d) : Arv Z h b k .byte z us d := by
  have e : ((0 : Int32)).toNatClampNeg = 0 := rfl
  rw [e] at V
  simpa using V
set_option maxRecDepth 65536 in
set_option maxHeartbeats 40000000 in
theorem rm27 (l : Launch) (Z : State) (a0 : Array Value) (hw : ∀ d ∈ tables_1, d.before a0 Z = true) (ws : List Jvm.Cond) (a1 : Addr) (_q : Int32) (p2 : Int32) (k_a1 : ClassId) (z_a1 : Int32) (vs_a1 : List Value) (dv_a1 : Value) (h0 : Heap) (n0 : Nat) (Z0 : n0 ≤ h0.size) (V_a1 : Arv Z h0 a1 k_a1 .byte z_a1 vs_a1 dv_a1) (hnn : ¬ p2 < 0) (hlt : p2 < z_a1) (hle : p2.toNatClampNeg ≤ 16) (hln : p2.toNatClampNeg ≤ vs_a1.length) :
    MetFree l (⟨"java/util/Arrays", "copyOfRangeByte", "([BII)[B"⟩ : MethodName) (head1 (Jvm.Cond.code (⟨"java/util/Arrays", "copyOfRangeByte", "([BII)[B"⟩ : MethodName) jdk_65_method_133_code 5 (some (.array .byte)) :: ws) ({ frames := 2, cells := 1, slots := 16, locals := 32 } : Room)) (fun a U => a = #[(.ref a1), (.int (0 : Int32)), (.int p2)] ∧ Z.Warmed39 U.vm ∧ U.heap = h0) (fun _ _ _ _ _ => True) (fun _ U o U' => ∃ v L, o = .returned v ∧ own_QC Z p2 (vs_a1.take p2.toNatClampNeg) h0 n0 v U'.heap L ∧ FrameEnd U o U' L ({ frames := 2, cells := 1, slots := 16, locals := 32 } : Room).cells ({ frames := 2, cells := 1, slots := 16, locals := 32 } : Room).slots) := by
  refine MetFree.of_bodySF (plainFor_of_name pn_27) hisR ?_
  intro p e s m args below meth c s₁ Bd hml0 hP hK
  obtain ⟨rfl, hZ, hh⟩ := hP
  have hx := Bd.exec
  have hby := Bd.bytes
  have hml : c.maxLocals = 5 := hml0
  have hown : s.vm.findClass "java/util/Arrays" = some m.cls := findClass_of_methodNamed Bd.named
  have hnm := (name_of_methodNamed Bd.named Bd.method).1
  have X0 : Stand p l e ({ frames := 2, cells := 1, slots := 16, locals := 32 } : Room) s m #[(.ref a1), (.int (0 : Int32)), (.int p2)] below meth c s₁ [] 0 0 := Stand.of_body Bd
  have e0 : s₁.heap = h0 := by rw [← hh, Bd.state]; rfl
  have N0 := Fr.nil n0
  have pre0 : ∀ t, Steps p.tables e below (s₁.setTop (mkF m 0 #[.val (.ref a1), .val (.int (0 : Int32)), .val (.int p2), .unset, .unset] [])) t → Steps p.tables e below (s₁.setTop (entryFrame m #[(.ref a1), (.int (0 : Int32)), (.int p2)] 5)) t := fun t k => castTop (ef_27 m a1 (0 : Int32) p2) k
  -- 3. LAWS
  have eP : p2 - (0 : Int32) = p2 := own_sub0 p2
  have eZ : z_a1 - (0 : Int32) = z_a1 := own_sub0 z_a1
  -- pc 2: java/util/Arrays.checkLength by its contract rm28
  obtain ⟨_, _, ⟨T3, L3, k3, n3⟩, -, X3, ⟨Lc3, hQ3, l3, y3, z3⟩, st3⟩ := Jvm.LawKit.callS X0 hx (y := (⟨"java/util/Arrays", "checkLength", "(II)V"⟩ : MethodName)) hown (mvT hZ (hw _ (List.mem_of_getElem? (i := 146) rfl))) (mvT hZ (hw _ (List.mem_of_getElem? (i := 147) rfl))) (mvT hZ (hw _ (List.mem_of_getElem? (i := 141) rfl))) (mvT hZ (hw _ (List.mem_of_getElem? (i := 148) rfl))) (by decide) (backOf (W := 0) (rm28 l Z a0 hw [] (0 : Int32) p2  h0 n0 Z0 hnn) hZ (hw _ (List.mem_of_getElem? (i := 148) rfl)) (hw _ (List.mem_of_getElem? (i := 141) rfl)) (by decide) (by decide)) (g := (mkF m 2 #[.val (.ref a1), .val (.int (0 : Int32)), .val (.int p2), .unset, .unset] [(.int p2), (.int (0 : Int32))])) rfl (by rw [hml]; rfl) (argsL := [(.int (0 : Int32)), (.int p2)]) (rest := []) (lenOf pd_27_23 rfl) rfl (by show 2 * 0 + _ ≤ _; exact Nat.le_of_eq rfl) (hb hby d27_2) (fun _ _ => ⟨rfl, e0, (by decide : 0 + 0 ≤ _), (by decide : 0 + 0 ≤ _)⟩)
  dsimp only [Pt.U, Pt.locs, Pt.cells, Pt.slots] at X3 l3 y3 z3 st3 hQ3
  subst l3 y3 z3
  obtain ⟨rfl, N3q, eq3⟩ := hQ3      -- what it returned, that it wrote nothing old, and the rest of your Q28
  have N3 := Fr.app N0 N3q
  have Kq3 : Keep h0 T3.heap [] := (own_keq eq3)
  have K3 : Keep h0 T3.heap [] := (Keep.refl h0 []).trans Kq3 all0
  obtain ⟨T4, h4, k4, X4, e4, E4, A4, st4⟩ := newP X3 hx hZ (hw _ (List.mem_of_getElem? (i := 23) rfl)) rfl (g := (mkF m 10 #[.val (.ref a1), .val (.int (0 : Int32)), .val (.int p2), .val (.int (p2 - (0 : Int32))), .unset] [(.int (p2 - (0 : Int32)))])) rfl (hb hby d27_10) rfl (by rw [eP]; exact hnn) (cap := 16) (by rw [eP]; exact hle) (by decide) (by decide) (by decide)
  obtain ⟨b4, g4⟩ : ∃ z, z = T3.heap.size := ⟨_, rfl⟩      -- the fresh array's address
  rw [← g4] at A4 st4
  have V_b4 : Arv Z h4 b4 k4 .byte (p2 - (0 : Int32)) (List.replicate (p2 - (0 : Int32)).toNatClampNeg (.int (0 : Int32))) (.int (0 : Int32)) := (Arv.new A4 (by rw [eP]; exact hnn)).pad (pad_rep [] (.int (0 : Int32)) (p2 - (0 : Int32)).toNatClampNeg)
  have g_b4 : n0 ≤ b4 := Nat.le_trans (Nat.le_trans Z0 Kq3.1) (Nat.le_of_eq g4.symm)
  have sz_b4 : h0.size ≤ b4 := (Nat.le_trans K3.1 (Nat.le_of_eq g4.symm))
  have K4 : Keep h0 h4 [] := K3.ext E4
  obtain ⟨cl_a1_20, Ar_a1, -, S_a1, N_a1, -, -⟩ := ((V_a1.keep Kq3 (fun q => nomatch q)).ext E4)      -- open the array's fact
  -- pc 24: java/lang/Math.min by its contract rm29
  obtain ⟨_, _, ⟨T5, L5, k5, n5⟩, -, X5, ⟨Lc5, hQ5, l5, y5, z5⟩, st5⟩ := Jvm.LawKit.callS X4 hx (y := (⟨"java/lang/Math", "min", "(II)I"⟩ : MethodName)) hown (mvT hZ (hw _ (List.mem_of_getElem? (i := 149) rfl))) (mvT hZ (hw _ (List.mem_of_getElem? (i := 150) rfl))) (mvT hZ (hw _ (List.mem_of_getElem? (i := 151) rfl))) (mvT hZ (hw _ (List.mem_of_getElem? (i := 152) rfl))) (by decide) (backOf (W := 4) (rm29 l Z a0 hw [] (z_a1 - (0 : Int32)) (p2 - (0 : Int32))  h4 n0 (Nat.le_trans (Nat.le_trans Z0 Kq3.1) E4.1) (by rw [eP, eZ]; exact hlt)) hZ (hw _ (List.mem_of_getElem? (i := 152) rfl)) (hw _ (List.mem_of_getElem? (i := 151) rfl)) (by decide) (by decide)) (g := (mkF m 24 #[.val (.ref a1), .val (.int (0 : Int32)), .val (.int p2), .val (.int (p2 - (0 : Int32))), .val (.ref b4)] [(.int (p2 - (0 : Int32))), (.int (z_a1 - (0 : Int32))), (.int (0 : Int32)), (.ref b4), (.int (0 : Int32)), (.ref a1)])) rfl (by rw [hml]; rfl) (argsL := [(.int (z_a1 - (0 : Int32))), (.int (p2 - (0 : Int32)))]) (rest := [(.int (0 : Int32)), (.ref b4), (.int (0 : Int32)), (.ref a1)]) (lenOf pd_27_24 rfl) rfl (by show 2 * 0 + _ ≤ _; exact Nat.le_of_eq rfl) (hb hby d27_24) (fun _ _ => ⟨rfl, e4, (by decide : 1 + 0 ≤ _), (by decide : 16 + 0 ≤ _)⟩)
  dsimp only [Pt.U, Pt.locs, Pt.cells, Pt.slots] at X5 l5 y5 z5 st5 hQ5
  subst l5 y5 z5
  obtain ⟨rfl, N5q, eq5⟩ := hQ5      -- what it returned, that it wrote nothing old, and the rest of your Q29
  have N5 := Fr.app N3 N5q
  have Kq5 : Keep h4 T5.heap [] := (own_keq eq5)
  have K5 : Keep h0 T5.heap [] := K4.trans Kq5 all0
  obtain ⟨T6, h6, L6, X6, e6, N6, Kq6, V_b4_6, st6⟩ := cpA X5 hx hZ hown (hw _ (List.mem_of_getElem? (i := 153) rfl)) (hw _ (List.mem_of_getElem? (i := 107) rfl)) (hw _ (List.mem_of_getElem? (i := 105) rfl)) (hw _ (List.mem_of_getElem? (i := 106) rfl)) rfl (((V_a1.keep Kq3 (fun q => nomatch q)).ext E4).keep Kq5 (fun q => nomatch q)) (V_b4.keep Kq5 (fun q => nomatch q)) (Or.inl ⟨rfl, rfl⟩) (by decide) (by decide) (by rw [eP]; exact hnn) (by rw [eP]; show 0 + _ ≤ _; rw [Nat.zero_add]; exact own_cl hlt) (by show 0 + _ ≤ _; rw [Nat.zero_add]; exact Nat.le_refl _) (us := vs_a1.take (p2 - (0 : Int32)).toNatClampNeg) (own_rangeT _ _ _ (by rw [eP]; exact hln)) (by show 0 + _ ≤ _; rw [Nat.zero_add, List.length_replicate]; exact Nat.le_refl _) N5 g_b4 (g := (mkF m 27 #[.val (.ref a1), .val (.int (0 : Int32)), .val (.int p2), .val (.int (p2 - (0 : Int32))), .val (.ref b4)] [(.int (p2 - (0 : Int32))), (.int (0 : Int32)), (.ref b4), (.int (0 : Int32)), (.ref a1)])) rfl (by rw [hml]; rfl) rfl (hb hby d27_27) (by decide) (W := 0) (by show 2 * 0 + _ ≤ _; exact Nat.le_of_eq rfl) (by decide)
  have K6 : Keep h0 h6 [] := K5.trans Kq6 (own_trS (Or.inr sz_b4) all0)
  obtain ⟨fs, hr, hrun, hended, hW, hsame⟩ := X6.leave (v := some (.ref b4)) (fun h => by rw [Bd.returns] at h; cases h)
  refine ⟨_, _, pre0 _ ?_, hrun, hended, _, _, rfl, ?_, ⟨_, rfl⟩, hW, hsame.mono (by decide) (by decide)⟩
  -- 4. STEPS
  · show Steps p.tables e below (s₁.setTop (mkF m 0 #[.val (.ref a1), .val (.int (0 : Int32)), .val (.int p2), .unset, .unset] [])) _
    refine XS.iloadN X0.here hx rfl (hb hby d27_0) rfl ?_
    show Steps p.tables e below (s₁.setTop (mkF m 1 #[.val (.ref a1), .val (.int (0 : Int32)), .val (.int p2), .unset, .unset] [(.int (0 : Int32))])) _
    refine XS.iloadN X0.here hx rfl (hb hby d27_1) rfl ?_
    show Steps p.tables e below (s₁.setTop (mkF m 2 #[.val (.ref a1), .val (.int (0 : Int32)), .val (.int p2), .unset, .unset] [(.int p2), (.int (0 : Int32))])) _
    refine st3 _ ?_
    show Steps p.tables e below (T3.setTop (mkF m 5 #[.val (.ref a1), .val (.int (0 : Int32)), .val (.int p2), .unset, .unset] [])) _
    refine XS.iloadN X3.here hx rfl (hb hby d27_5) rfl ?_
    show Steps p.tables e below (T3.setTop (mkF m 6 #[.val (.ref a1), .val (.int (0 : Int32)), .val (.int p2), .unset, .unset] [(.int p2)])) _
    refine XS.iloadN X3.here hx rfl (hb hby d27_6) rfl ?_
    show Steps p.tables e below (T3.setTop (mkF m 7 #[.val (.ref a1), .val (.int (0 : Int32)), .val (.int p2), .unset, .unset] [(.int (0 : Int32)), (.int p2)])) _
    refine XS.isub X3.here hx rfl (hb hby d27_7) rfl ?_
    show Steps p.tables e below (T3.setTop (mkF m 8 #[.val (.ref a1), .val (.int (0 : Int32)), .val (.int p2), .unset, .unset] [(.int (p2 - (0 : Int32)))])) _
    refine XS.istoreN X3.here hx rfl (hb hby d27_8) rfl (l' := #[.val (.ref a1), .val (.int (0 : Int32)), .val (.int p2), .val (.int (p2 - (0 : Int32))), .unset]) rfl ?_
    show Steps p.tables e below (T3.setTop (mkF m 9 #[.val (.ref a1), .val (.int (0 : Int32)), .val (.int p2), .val (.int (p2 - (0 : Int32))), .unset] [])) _
    refine XS.iloadN X3.here hx rfl (hb hby d27_9) rfl ?_
    show Steps p.tables e below (T3.setTop (mkF m 10 #[.val (.ref a1), .val (.int (0 : Int32)), .val (.int p2), .val (.int (p2 - (0 : Int32))), .unset] [(.int (p2 - (0 : Int32)))])) _
    refine st4 _ ?_
    show Steps p.tables e below (T4.setTop (mkF m 12 #[.val (.ref a1), .val (.int (0 : Int32)), .val (.int p2), .val (.int (p2 - (0 : Int32))), .unset] [(.ref b4)])) _
    refine XS.astore X4.here hx rfl (hb hby d27_12) rfl rfl (l' := #[.val (.ref a1), .val (.int (0 : Int32)), .val (.int p2), .val (.int (p2 - (0 : Int32))), .val (.ref b4)]) rfl ?_
    show Steps p.tables e below (T4.setTop (mkF m 14 #[.val (.ref a1), .val (.int (0 : Int32)), .val (.int p2), .val (.int (p2 - (0 : Int32))), .val (.ref b4)] [])) _
    refine XS.aloadN X4.here hx rfl (hb hby d27_14) rfl rfl ?_
    show Steps p.tables e below (T4.setTop (mkF m 15 #[.val (.ref a1), .val (.int (0 : Int32)), .val (.int p2), .val (.int (p2 - (0 : Int32))), .val (.ref b4)] [(.ref a1)])) _
    refine XS.iloadN X4.here hx rfl (hb hby d27_15) rfl ?_
    show Steps p.tables e below (T4.setTop (mkF m 16 #[.val (.ref a1), .val (.int (0 : Int32)), .val (.int p2), .val (.int (p2 - (0 : Int32))), .val (.ref b4)] [(.int (0 : Int32)), (.ref a1)])) _
    refine XS.aload X4.here hx rfl (hb hby d27_16) rfl rfl ?_
    show Steps p.tables e below (T4.setTop (mkF m 18 #[.val (.ref a1), .val (.int (0 : Int32)), .val (.int p2), .val (.int (p2 - (0 : Int32))), .val (.ref b4)] [(.ref b4), (.int (0 : Int32)), (.ref a1)])) _
    refine XS.iconst X4.here hx rfl (hb hby d27_18) ?_
    show Steps p.tables e below (T4.setTop (mkF m 19 #[.val (.ref a1), .val (.int (0 : Int32)), .val (.int p2), .val (.int (p2 - (0 : Int32))), .val (.ref b4)] [(.int (0 : Int32)), (.ref b4), (.int (0 : Int32)), (.ref a1)])) _
    refine XS.aloadN X4.here hx rfl (hb hby d27_19) rfl rfl ?_
    show Steps p.tables e below (T4.setTop (mkF m 20 #[.val (.ref a1), .val (.int (0 : Int32)), .val (.int p2), .val (.int (p2 - (0 : Int32))), .val (.ref b4)] [(.ref a1), (.int (0 : Int32)), (.ref b4), (.int (0 : Int32)), (.ref a1)])) _
    refine X4.arraylength hx (by rw [e4]; exact Ar_a1.1) (State.isArrayOf_alike hZ.alike Ar_a1.2.1) (g := (mkF m 20 #[.val (.ref a1), .val (.int (0 : Int32)), .val (.int p2), .val (.int (p2 - (0 : Int32))), .val (.ref b4)] [(.ref a1), (.int (0 : Int32)), (.ref b4), (.int (0 : Int32)), (.ref a1)])) rfl rfl (hb hby d27_20) _ ?_
    rw [len_of S_a1 N_a1]
    show Steps p.tables e below (T4.setTop (mkF m 21 #[.val (.ref a1), .val (.int (0 : Int32)), .val (.int p2), .val (.int (p2 - (0 : Int32))), .val (.ref b4)] [(.int z_a1), (.int (0 : Int32)), (.ref b4), (.int (0 : Int32)), (.ref a1)])) _
    refine XS.iloadN X4.here hx rfl (hb hby d27_21) rfl ?_
    show Steps p.tables e below (T4.setTop (mkF m 22 #[.val (.ref a1), .val (.int (0 : Int32)), .val (.int p2), .val (.int (p2 - (0 : Int32))), .val (.ref b4)] [(.int (0 : Int32)), (.int z_a1), (.int (0 : Int32)), (.ref b4), (.int (0 : Int32)), (.ref a1)])) _
    refine XS.isub X4.here hx rfl (hb hby d27_22) rfl ?_
    show Steps p.tables e below (T4.setTop (mkF m 23 #[.val (.ref a1), .val (.int (0 : Int32)), .val (.int p2), .val (.int (p2 - (0 : Int32))), .val (.ref b4)] [(.int (z_a1 - (0 : Int32))), (.int (0 : Int32)), (.ref b4), (.int (0 : Int32)), (.ref a1)])) _
    refine XS.iloadN X4.here hx rfl (hb hby d27_23) rfl ?_
    show Steps p.tables e below (T4.setTop (mkF m 24 #[.val (.ref a1), .val (.int (0 : Int32)), .val (.int p2), .val (.int (p2 - (0 : Int32))), .val (.ref b4)] [(.int (p2 - (0 : Int32))), (.int (z_a1 - (0 : Int32))), (.int (0 : Int32)), (.ref b4), (.int (0 : Int32)), (.ref a1)])) _
    refine st5 _ ?_
    show Steps p.tables e below (T5.setTop (mkF m 27 #[.val (.ref a1), .val (.int (0 : Int32)), .val (.int p2), .val (.int (p2 - (0 : Int32))), .val (.ref b4)] [(.int (p2 - (0 : Int32))), (.int (0 : Int32)), (.ref b4), (.int (0 : Int32)), (.ref a1)])) _
    refine st6 _ ?_
    show Steps p.tables e below (T6.setTop (mkF m 30 #[.val (.ref a1), .val (.int (0 : Int32)), .val (.int p2), .val (.int (p2 - (0 : Int32))), .val (.ref b4)] [])) _
    refine XS.aload X6.here hx rfl (hb hby d27_30) rfl rfl ?_
    show Steps p.tables e below (T6.setTop (mkF m 32 #[.val (.ref a1), .val (.int (0 : Int32)), .val (.int p2), .val (.int (p2 - (0 : Int32))), .val (.ref b4)] [(.ref b4)])) _
    jvm_step X6.here [X6.here.top, hx, (hb hby d27_32), X6.method', Bd.returns, Value.isRef, FieldType.isReference]
    first | (intro acts; rw [hr _ acts rfl rfl rfl]) | rw [hr _ _ rfl rfl rfl]
    exact Steps.refl _
  · show own_QC Z p2 (vs_a1.take p2.toNatClampNeg) h0 n0 _ T6.heap _
    rw [e6]
    exact ⟨b4, rfl, N6, g_b4, sz_b4, K6, k4, by rw [← eP]; exact own_cpy V_b4_6⟩
theorem d26_0 : decode jdk_65_method_132_code 0 = .ok (.iload_n 1, 1) := by decide +kernel
theorem d26_1 : decode jdk_65_method_132_code 1 = .ok (.ifCond .ne 9, 3) := by decide +kernel
theorem d26_4 : decode jdk_65_method_132_code 4 = .ok (.iload_n 2, 1) := by decide +kernel
theorem d26_5 : decode jdk_65_method_132_code 5 = .ok (.aload_n 0, 1) := by decide +kernel
theorem d26_6 : decode jdk_65_method_132_code 6 = .ok (.arraylength, 1) := by decide +kernel
theorem d26_7 : decode jdk_65_method_132_code 7 = .ok (.if_icmp .eq 10, 3) := by decide +kernel
theorem d26_10 : decode jdk_65_method_132_code 10 = .ok (.aload_n 0, 1) := by decide +kernel
theorem d26_11 : decode jdk_65_method_132_code 11 = .ok (.iload_n 1, 1) := by decide +kernel
theorem d26_12 : decode jdk_65_method_132_code 12 = .ok (.iload_n 2, 1) := by decide +kernel
theorem d26_13 : decode jdk_65_method_132_code 13 = .ok (.invokestatic 339, 3) := by decide +kernel
theorem d26_16 : decode jdk_65_method_132_code 16 = .ok (.areturn, 1) := by decide +kernel
theorem pn_26 : plainName "java/util/Arrays" = true := by first | (simp [plainName, overriddenIn]; done) | decide +kernel
theorem pd_26_22 : parseMethodDescriptor "([BII)[B" = some ⟨[(.array .byte), .int, .int], some (.array .byte)⟩ := by decide +kernel
theorem ef_26 (m : MethodId) (x0 : Addr) (x1 : Int32) (x2 : Int32) : entryFrame m #[(.ref x0), (.int x1), (.int x2)] 3 = mkF m 0 #[.val (.ref x0), .val (.int x1), .val (.int x2)] [] := by first | (simp [entryFrame, mkF, argsToLocals, Value.category]; done) | rfl
set_option maxRecDepth 65536 in
set_option maxHeartbeats 40000000 in
theorem rm26 (l : Launch) (Z : State) (a0 : Array Value) (hw : ∀ d ∈ tables_1, d.before a0 Z = true) (ws : List Jvm.Cond) (a1 : Addr) (_q : Int32) (p2 : Int32) (k_a1 : ClassId) (z_a1 : Int32) (vs_a1 : List Value) (dv_a1 : Value) (h0 : Heap) (n0 : Nat) (Z0 : n0 ≤ h0.size) (V_a1 : Arv Z h0 a1 k_a1 .byte z_a1 vs_a1 dv_a1) (hnn : ¬ p2 < 0) (hlt : p2 < z_a1) (hle : p2.toNatClampNeg ≤ 16) (hln : p2.toNatClampNeg ≤ vs_a1.length) (hc7 : ¬ (p2 = z_a1)) :
    MetFree l (⟨"java/util/Arrays", "copyOfRange", "([BII)[B"⟩ : MethodName) (head1 (Jvm.Cond.code (⟨"java/util/Arrays", "copyOfRange", "([BII)[B"⟩ : MethodName) jdk_65_method_132_code 3 (some (.array .byte)) :: ws) ({ frames := 3, cells := 1, slots := 16, locals := 48 } : Room)) (fun a U => a = #[(.ref a1), (.int (0 : Int32)), (.int p2)] ∧ Z.Warmed39 U.vm ∧ U.heap = h0) (fun _ _ _ _ _ => True) (fun _ U o U' => ∃ v L, o = .returned v ∧ own_QC Z p2 (vs_a1.take p2.toNatClampNeg) h0 n0 v U'.heap L ∧ FrameEnd U o U' L ({ frames := 3, cells := 1, slots := 16, locals := 48 } : Room).cells ({ frames := 3, cells := 1, slots := 16, locals := 48 } : Room).slots) := by
  refine MetFree.of_bodySF (plainFor_of_name pn_26) hisR ?_
  intro p e s m args below meth c s₁ Bd hml0 hP hK
  obtain ⟨rfl, hZ, hh⟩ := hP
  have hx := Bd.exec
  have hby := Bd.bytes
  have hml : c.maxLocals = 3 := hml0
  have hown : s.vm.findClass "java/util/Arrays" = some m.cls := findClass_of_methodNamed Bd.named
  have hnm := (name_of_methodNamed Bd.named Bd.method).1
  have X0 : Stand p l e ({ frames := 3, cells := 1, slots := 16, locals := 48 } : Room) s m #[(.ref a1), (.int (0 : Int32)), (.int p2)] below meth c s₁ [] 0 0 := Stand.of_body Bd
  have e0 : s₁.heap = h0 := by rw [← hh, Bd.state]; rfl
  have N0 := Fr.nil n0
  have pre0 : ∀ t, Steps p.tables e below (s₁.setTop (mkF m 0 #[.val (.ref a1), .val (.int (0 : Int32)), .val (.int p2)] [])) t → Steps p.tables e below (s₁.setTop (entryFrame m #[(.ref a1), (.int (0 : Int32)), (.int p2)] 3)) t := fun t k => castTop (ef_26 m a1 (0 : Int32) p2) k
  -- 3. LAWS
  obtain ⟨cl_a1_6, Ar_a1, -, S_a1, N_a1, -, -⟩ := id V_a1      -- open the array's fact
  -- pc 13: java/util/Arrays.copyOfRangeByte by its contract rm27
  obtain ⟨_, _, ⟨T3, L3, k3, n3⟩, -, X3, ⟨Lc3, hQ3, l3, y3, z3⟩, st3⟩ := Jvm.LawKit.callS X0 hx (y := (⟨"java/util/Arrays", "copyOfRangeByte", "([BII)[B"⟩ : MethodName)) hown (mvT hZ (hw _ (List.mem_of_getElem? (i := 143) rfl))) (mvT hZ (hw _ (List.mem_of_getElem? (i := 144) rfl))) (mvT hZ (hw _ (List.mem_of_getElem? (i := 141) rfl))) (mvT hZ (hw _ (List.mem_of_getElem? (i := 145) rfl))) (by decide) (backOf (W := 0) (rm27 l Z a0 hw [] a1 (0 : Int32) p2 k_a1 z_a1 vs_a1 dv_a1 h0 n0 Z0 V_a1 hnn hlt hle hln) hZ (hw _ (List.mem_of_getElem? (i := 145) rfl)) (hw _ (List.mem_of_getElem? (i := 141) rfl)) (by decide) (by decide)) (g := (mkF m 13 #[.val (.ref a1), .val (.int (0 : Int32)), .val (.int p2)] [(.int p2), (.int (0 : Int32)), (.ref a1)])) rfl (by rw [hml]; rfl) (argsL := [(.ref a1), (.int (0 : Int32)), (.int p2)]) (rest := []) (lenOf pd_26_22 rfl) rfl (by show 2 * 0 + _ ≤ _; exact Nat.le_of_eq rfl) (hb hby d26_13) (fun _ _ => ⟨rfl, e0, (by decide : 0 + 1 ≤ _), (by decide : 0 + 16 ≤ _)⟩)
  dsimp only [Pt.U, Pt.locs, Pt.cells, Pt.slots] at X3 l3 y3 z3 st3 hQ3
  subst l3 y3 z3
  obtain ⟨tX, rfl, N3q, g_tX, gz_tX, Kt, kx, Vx⟩ := hQ3      -- what it returned, that it wrote nothing old, and the rest of your Q27
  have N3 := Fr.app N0 N3q
  have Kq3 : Keep h0 T3.heap [] := Kt
  have K3 : Keep h0 T3.heap [] := (Keep.refl h0 []).trans Kq3 all0
  obtain ⟨fs, hr, hrun, hended, hW, hsame⟩ := X3.leave (v := some (.ref tX)) (fun h => by rw [Bd.returns] at h; cases h)
  refine ⟨_, _, pre0 _ ?_, hrun, hended, _, _, rfl, ?_, ⟨_, rfl⟩, hW, hsame.mono (by decide) (by decide)⟩
  -- 4. STEPS
  · show Steps p.tables e below (s₁.setTop (mkF m 0 #[.val (.ref a1), .val (.int (0 : Int32)), .val (.int p2)] [])) _
    refine XS.iloadN X0.here hx rfl (hb hby d26_0) rfl ?_
    show Steps p.tables e below (s₁.setTop (mkF m 1 #[.val (.ref a1), .val (.int (0 : Int32)), .val (.int p2)] [(.int (0 : Int32))])) _
    refine XS.ifNo X0.here hx rfl (hb hby d26_1) rfl ((if0 _ _).trans (teq (rfl : (0 : Int32) = (0 : Int32))).2) ?_
    show Steps p.tables e below (s₁.setTop (mkF m 4 #[.val (.ref a1), .val (.int (0 : Int32)), .val (.int p2)] [])) _
    refine XS.iloadN X0.here hx rfl (hb hby d26_4) rfl ?_
    show Steps p.tables e below (s₁.setTop (mkF m 5 #[.val (.ref a1), .val (.int (0 : Int32)), .val (.int p2)] [(.int p2)])) _
    refine XS.aloadN X0.here hx rfl (hb hby d26_5) rfl rfl ?_
    show Steps p.tables e below (s₁.setTop (mkF m 6 #[.val (.ref a1), .val (.int (0 : Int32)), .val (.int p2)] [(.ref a1), (.int p2)])) _
    refine X0.arraylength hx (by rw [e0]; exact Ar_a1.1) (State.isArrayOf_alike hZ.alike Ar_a1.2.1) (g := (mkF m 6 #[.val (.ref a1), .val (.int (0 : Int32)), .val (.int p2)] [(.ref a1), (.int p2)])) rfl rfl (hb hby d26_6) _ ?_
    rw [len_of S_a1 N_a1]
    show Steps p.tables e below (s₁.setTop (mkF m 7 #[.val (.ref a1), .val (.int (0 : Int32)), .val (.int p2)] [(.int z_a1), (.int p2)])) _
    refine XS.icmpNo X0.here hx rfl (hb hby d26_7) rfl (feq hc7).1 ?_
    show Steps p.tables e below (s₁.setTop (mkF m 10 #[.val (.ref a1), .val (.int (0 : Int32)), .val (.int p2)] [])) _
    refine XS.aloadN X0.here hx rfl (hb hby d26_10) rfl rfl ?_
    show Steps p.tables e below (s₁.setTop (mkF m 11 #[.val (.ref a1), .val (.int (0 : Int32)), .val (.int p2)] [(.ref a1)])) _
    refine XS.iloadN X0.here hx rfl (hb hby d26_11) rfl ?_
    show Steps p.tables e below (s₁.setTop (mkF m 12 #[.val (.ref a1), .val (.int (0 : Int32)), .val (.int p2)] [(.int (0 : Int32)), (.ref a1)])) _
    refine XS.iloadN X0.here hx rfl (hb hby d26_12) rfl ?_
    show Steps p.tables e below (s₁.setTop (mkF m 13 #[.val (.ref a1), .val (.int (0 : Int32)), .val (.int p2)] [(.int p2), (.int (0 : Int32)), (.ref a1)])) _
    refine st3 _ ?_
    show Steps p.tables e below (T3.setTop (mkF m 16 #[.val (.ref a1), .val (.int (0 : Int32)), .val (.int p2)] [(.ref tX)])) _
    jvm_step X3.here [X3.here.top, hx, (hb hby d26_16), X3.method', Bd.returns, Value.isRef, FieldType.isReference]
    first | (intro acts; rw [hr _ acts rfl rfl rfl]) | rw [hr _ _ rfl rfl rfl]
    exact Steps.refl _
  · show own_QC Z p2 (vs_a1.take p2.toNatClampNeg) h0 n0 _ T3.heap _
    exact ⟨tX, rfl, N3, g_tX, gz_tX, Kt, kx, Vx⟩
theorem d22_0 : decode jdk_68_method_64_code 0 = .ok (.aload_n 0, 1) := by decide +kernel
theorem d22_1 : decode jdk_68_method_64_code 1 = .ok (.getfield 15, 3) := by decide +kernel
theorem d22_4 : decode jdk_68_method_64_code 4 = .ok (.areturn, 1) := by decide +kernel
theorem pn_22 : plainName "java/lang/AbstractStringBuilder" = true := by first | (simp [plainName, overriddenIn]; done) | decide +kernel
theorem ef_22 (m : MethodId) (x0 : Addr) : entryFrame m #[(.ref x0)] 1 = mkF m 0 #[.val (.ref x0)] [] := by first | (simp [entryFrame, mkF, argsToLocals, Value.category]; done) | rfl
set_option maxRecDepth 65536 in
set_option maxHeartbeats 40000000 in
theorem rm22 (l : Launch) (Z : State) (a0 : Array Value) (hw : ∀ d ∈ tables_1, d.before a0 Z = true) (ws : List Jvm.Cond) (a1 : Addr) (bv : Addr) (h0 : Heap) (n0 : Nat) (Z0 : n0 ≤ h0.size) (E_a1 : Exa Z h0 a1 "java/lang/StringBuilder") (F_value_a1 : Fld Z h0 a1 "java/lang/AbstractStringBuilder" "value" "[B" (.ref bv)) :
    MetFree l (⟨"java/lang/AbstractStringBuilder", "getValue", "()[B"⟩ : MethodName) (head1 (Jvm.Cond.code (⟨"java/lang/AbstractStringBuilder", "getValue", "()[B"⟩ : MethodName) jdk_68_method_64_code 1 (some (.array .byte)) :: ws) ({ frames := 0, cells := 0, slots := 0, locals := 0 } : Room)) (fun a U => a = #[(.ref a1)] ∧ Z.Warmed39 U.vm ∧ U.heap = h0) (fun _ _ _ _ _ => True) (fun _ U o U' => ∃ v L, o = .returned v ∧ own_QR (.ref bv) h0 n0 v U'.heap L ∧ FrameEnd U o U' L ({ frames := 0, cells := 0, slots := 0, locals := 0 } : Room).cells ({ frames := 0, cells := 0, slots := 0, locals := 0 } : Room).slots) := by
  refine MetFree.of_bodySF (plainFor_of_name pn_22) hisR ?_
  intro p e s m args below meth c s₁ Bd hml0 hP hK
  obtain ⟨rfl, hZ, hh⟩ := hP
  have hx := Bd.exec
  have hby := Bd.bytes
  have hml : c.maxLocals = 1 := hml0
  have hown : s.vm.findClass "java/lang/AbstractStringBuilder" = some m.cls := findClass_of_methodNamed Bd.named
  have hnm := (name_of_methodNamed Bd.named Bd.method).1
  have X0 : Stand p l e ({ frames := 0, cells := 0, slots := 0, locals := 0 } : Room) s m #[(.ref a1)] below meth c s₁ [] 0 0 := Stand.of_body Bd
  have e0 : s₁.heap = h0 := by rw [← hh, Bd.state]; rfl
  have N0 := Fr.nil n0
  have pre0 : ∀ t, Steps p.tables e below (s₁.setTop (mkF m 0 #[.val (.ref a1)] [])) t → Steps p.tables e below (s₁.setTop (entryFrame m #[(.ref a1)] 1)) t := fun t k => castTop (ef_22 m a1) k
  -- 3. LAWS
  obtain ⟨T2, X2, e2, st2⟩ := getF X0 hx hZ hown (host := "") (Or.inl (hw _ (List.mem_of_getElem? (i := 57) rfl))) Via.refl e0 F_value_a1 (g := (mkF m 1 #[.val (.ref a1)] [(.ref a1)])) rfl rfl (hb hby d22_1)
  obtain ⟨fs, hr, hrun, hended, hW, hsame⟩ := X2.leave (v := some (.ref bv)) (fun h => by rw [Bd.returns] at h; cases h)
  refine ⟨_, _, pre0 _ ?_, hrun, hended, _, _, rfl, ?_, ⟨_, rfl⟩, hW, hsame.mono (by decide) (by decide)⟩
  -- 4. STEPS
  · show Steps p.tables e below (s₁.setTop (mkF m 0 #[.val (.ref a1)] [])) _
    refine XS.aloadN X0.here hx rfl (hb hby d22_0) rfl rfl ?_
    show Steps p.tables e below (s₁.setTop (mkF m 1 #[.val (.ref a1)] [(.ref a1)])) _
    refine st2 _ ?_
    show Steps p.tables e below (T2.setTop (mkF m 4 #[.val (.ref a1)] [(.ref bv)])) _
    jvm_step X2.here [X2.here.top, hx, (hb hby d22_4), X2.method', Bd.returns, Value.isRef, FieldType.isReference]
    first | (intro acts; rw [hr _ acts rfl rfl rfl]) | rw [hr _ _ rfl rfl rfl]
    exact Steps.refl _
  · show own_QR (.ref bv) h0 n0 _ T2.heap _
    rw [e2]
    exact ⟨rfl, N0, rfl⟩
theorem d24_0 : decode jdk_68_method_6_code 0 = .ok (.aload_n 0, 1) := by decide +kernel
theorem d24_1 : decode jdk_68_method_6_code 1 = .ok (.getfield 79, 3) := by decide +kernel
theorem d24_4 : decode jdk_68_method_6_code 4 = .ok (.ireturn, 1) := by decide +kernel
theorem pn_24 : plainName "java/lang/AbstractStringBuilder" = true := by first | (simp [plainName, overriddenIn]; done) | decide +kernel
theorem ef_24 (m : MethodId) (x0 : Addr) : entryFrame m #[(.ref x0)] 1 = mkF m 0 #[.val (.ref x0)] [] := by first | (simp [entryFrame, mkF, argsToLocals, Value.category]; done) | rfl
set_option maxRecDepth 65536 in
set_option maxHeartbeats 40000000 in
theorem rm24 (l : Launch) (Z : State) (a0 : Array Value) (hw : ∀ d ∈ tables_1, d.before a0 Z = true) (ws : List Jvm.Cond) (a1 : Addr) (c0 : Int32) (h0 : Heap) (n0 : Nat) (Z0 : n0 ≤ h0.size) (E_a1 : Exa Z h0 a1 "java/lang/StringBuilder") (F_count_a1 : Fld Z h0 a1 "java/lang/AbstractStringBuilder" "count" "I" (.int c0)) :
    MetFree l (⟨"java/lang/AbstractStringBuilder", "length", "()I"⟩ : MethodName) (head1 (Jvm.Cond.code (⟨"java/lang/AbstractStringBuilder", "length", "()I"⟩ : MethodName) jdk_68_method_6_code 1 (some .int) :: ws) ({ frames := 0, cells := 0, slots := 0, locals := 0 } : Room)) (fun a U => a = #[(.ref a1)] ∧ Z.Warmed39 U.vm ∧ U.heap = h0) (fun _ _ _ _ _ => True) (fun _ U o U' => ∃ v L, o = .returned v ∧ own_QR (.int c0) h0 n0 v U'.heap L ∧ FrameEnd U o U' L ({ frames := 0, cells := 0, slots := 0, locals := 0 } : Room).cells ({ frames := 0, cells := 0, slots := 0, locals := 0 } : Room).slots) := by
  refine MetFree.of_bodySF (plainFor_of_name pn_24) hisR ?_
  intro p e s m args below meth c s₁ Bd hml0 hP hK
  obtain ⟨rfl, hZ, hh⟩ := hP
  have hx := Bd.exec
  have hby := Bd.bytes
  have hml : c.maxLocals = 1 := hml0
  have hown : s.vm.findClass "java/lang/AbstractStringBuilder" = some m.cls := findClass_of_methodNamed Bd.named
  have hnm := (name_of_methodNamed Bd.named Bd.method).1
  have X0 : Stand p l e ({ frames := 0, cells := 0, slots := 0, locals := 0 } : Room) s m #[(.ref a1)] below meth c s₁ [] 0 0 := Stand.of_body Bd
  have e0 : s₁.heap = h0 := by rw [← hh, Bd.state]; rfl
  have N0 := Fr.nil n0
  have pre0 : ∀ t, Steps p.tables e below (s₁.setTop (mkF m 0 #[.val (.ref a1)] [])) t → Steps p.tables e below (s₁.setTop (entryFrame m #[(.ref a1)] 1)) t := fun t k => castTop (ef_24 m a1) k
  -- 3. LAWS
  obtain ⟨T2, X2, e2, st2⟩ := getF X0 hx hZ hown (host := "") (Or.inl (hw _ (List.mem_of_getElem? (i := 81) rfl))) Via.refl e0 F_count_a1 (g := (mkF m 1 #[.val (.ref a1)] [(.ref a1)])) rfl rfl (hb hby d24_1)
  obtain ⟨fs, hr, hrun, hended, hW, hsame⟩ := X2.leave (v := some (.int c0)) (fun h => by rw [Bd.returns] at h; cases h)
  refine ⟨_, _, pre0 _ ?_, hrun, hended, _, _, rfl, ?_, ⟨_, rfl⟩, hW, hsame.mono (by decide) (by decide)⟩
  -- 4. STEPS
  · show Steps p.tables e below (s₁.setTop (mkF m 0 #[.val (.ref a1)] [])) _
    refine XS.aloadN X0.here hx rfl (hb hby d24_0) rfl rfl ?_
    show Steps p.tables e below (s₁.setTop (mkF m 1 #[.val (.ref a1)] [(.ref a1)])) _
    refine st2 _ ?_
    show Steps p.tables e below (T2.setTop (mkF m 4 #[.val (.ref a1)] [(.int c0)])) _
    exact retI X2 hx Bd.returns (hb hby d24_4) hr      -- retI stands in the head ('lawwalk <made dir>' prints it)
  · show own_QR (.int c0) h0 n0 _ T2.heap _
    rw [e2]
    exact ⟨rfl, N0, rfl⟩
theorem d23_0 : decode jdk_67_method_93_code 0 = .ok (.aload_n 0, 1) := by decide +kernel
theorem d23_1 : decode jdk_67_method_93_code 1 = .ok (.invokespecial 343, 3) := by decide +kernel
theorem d23_4 : decode jdk_67_method_93_code 4 = .ok (.ireturn, 1) := by decide +kernel
theorem pn_23 : plainName "java/lang/StringBuilder" = true := by first | (simp [plainName, overriddenIn]; done) | decide +kernel
theorem pd_23_11 : parseMethodDescriptor "()I" = some ⟨[], some .int⟩ := by decide +kernel
theorem ef_23 (m : MethodId) (x0 : Addr) : entryFrame m #[(.ref x0)] 1 = mkF m 0 #[.val (.ref x0)] [] := by first | (simp [entryFrame, mkF, argsToLocals, Value.category]; done) | rfl
set_option maxRecDepth 65536 in
set_option maxHeartbeats 40000000 in
theorem rm23 (l : Launch) (Z : State) (a0 : Array Value) (hw : ∀ d ∈ tables_1, d.before a0 Z = true) (ws : List Jvm.Cond) (a1 : Addr) (c0 : Int32) (h0 : Heap) (n0 : Nat) (Z0 : n0 ≤ h0.size) (E_a1 : Exa Z h0 a1 "java/lang/StringBuilder") (F_count_a1 : Fld Z h0 a1 "java/lang/AbstractStringBuilder" "count" "I" (.int c0)) :
    MetFree l (⟨"java/lang/StringBuilder", "length", "()I"⟩ : MethodName) (head1 (Jvm.Cond.code (⟨"java/lang/StringBuilder", "length", "()I"⟩ : MethodName) jdk_67_method_93_code 1 (some .int) :: ws) ({ frames := 1, cells := 0, slots := 0, locals := 12 } : Room)) (fun a U => a = #[(.ref a1)] ∧ Z.Warmed39 U.vm ∧ U.heap = h0) (fun _ _ _ _ _ => True) (fun _ U o U' => ∃ v L, o = .returned v ∧ own_QR (.int c0) h0 n0 v U'.heap L ∧ FrameEnd U o U' L ({ frames := 1, cells := 0, slots := 0, locals := 12 } : Room).cells ({ frames := 1, cells := 0, slots := 0, locals := 12 } : Room).slots) := by
  refine MetFree.of_bodySF (plainFor_of_name pn_23) hisR ?_
  intro p e s m args below meth c s₁ Bd hml0 hP hK
  obtain ⟨rfl, hZ, hh⟩ := hP
  have hx := Bd.exec
  have hby := Bd.bytes
  have hml : c.maxLocals = 1 := hml0
  have hown : s.vm.findClass "java/lang/StringBuilder" = some m.cls := findClass_of_methodNamed Bd.named
  have hnm := (name_of_methodNamed Bd.named Bd.method).1
  have X0 : Stand p l e ({ frames := 1, cells := 0, slots := 0, locals := 12 } : Room) s m #[(.ref a1)] below meth c s₁ [] 0 0 := Stand.of_body Bd
  have e0 : s₁.heap = h0 := by rw [← hh, Bd.state]; rfl
  have N0 := Fr.nil n0
  have pre0 : ∀ t, Steps p.tables e below (s₁.setTop (mkF m 0 #[.val (.ref a1)] [])) t → Steps p.tables e below (s₁.setTop (entryFrame m #[(.ref a1)] 1)) t := fun t k => castTop (ef_23 m a1) k
  -- 3. LAWS
  -- pc 1: super.length: rm24
  obtain ⟨_, _, ⟨T2, L2, k2, n2⟩, -, X2, ⟨Lc2, hQ2, l2, y2, z2⟩, st2⟩ := superBack X0 hx hZ (y := (⟨"java/lang/AbstractStringBuilder", "length", "()I"⟩ : MethodName)) hown (hw _ (List.mem_of_getElem? (i := 132) rfl)) (own_same (hw _ (List.mem_of_getElem? (i := 128) rfl)) (by decide) (own_notIf (y := (⟨"java/lang/AbstractStringBuilder", "ensureCapacityInternal", "(I)V"⟩ : MethodName)) (hw _ (List.mem_of_getElem? (i := 86) rfl)))) (hw _ (List.mem_of_getElem? (i := 128) rfl)) (hw _ (List.mem_of_getElem? (i := 68) rfl)) (by decide) (backOf (W := 0) (rm24 l Z a0 hw [] a1 c0 h0 n0 Z0 E_a1 F_count_a1) hZ (hw _ (List.mem_of_getElem? (i := 133) rfl)) (hw _ (List.mem_of_getElem? (i := 53) rfl)) (by decide) (by decide)) e0 (Ins.self E_a1) (g := (mkF m 1 #[.val (.ref a1)] [(.ref a1)])) rfl (by rw [hml]; rfl) (hw _ (List.mem_of_getElem? (i := 133) rfl)) (argsL := []) (rest := []) (lenOf pd_23_11 rfl) rfl (by show 2 * 0 + _ ≤ _; exact Nat.le_of_eq rfl) (hb hby d23_1) (fun _ _ => ⟨rfl, e0, (by decide : 0 + 0 ≤ _), (by decide : 0 + 0 ≤ _)⟩)
  dsimp only [Pt.U, Pt.locs, Pt.cells, Pt.slots] at X2 l2 y2 z2 st2 hQ2
  subst l2 y2 z2
  obtain ⟨rfl, N2q, eq2⟩ := hQ2      -- what it returned, that it wrote nothing old, and the rest of your Q24
  have N2 := Fr.app N0 N2q
  have Kq2 : Keep h0 T2.heap [] := (own_keq eq2)
  have K2 : Keep h0 T2.heap [] := (Keep.refl h0 []).trans Kq2 all0
  obtain ⟨fs, hr, hrun, hended, hW, hsame⟩ := X2.leave (v := some (.int c0)) (fun h => by rw [Bd.returns] at h; cases h)
  refine ⟨_, _, pre0 _ ?_, hrun, hended, _, _, rfl, ?_, ⟨_, rfl⟩, hW, hsame.mono (by decide) (by decide)⟩
  -- 4. STEPS
  · show Steps p.tables e below (s₁.setTop (mkF m 0 #[.val (.ref a1)] [])) _
    refine XS.aloadN X0.here hx rfl (hb hby d23_0) rfl rfl ?_
    show Steps p.tables e below (s₁.setTop (mkF m 1 #[.val (.ref a1)] [(.ref a1)])) _
    refine st2.trans ?_
    show Steps p.tables e below (T2.setTop (mkF m 4 #[.val (.ref a1)] [(.int c0)])) _
    exact retI X2 hx Bd.returns (hb hby d23_4) hr      -- retI stands in the head ('lawwalk <made dir>' prints it)
  · show own_QR (.int c0) h0 n0 _ T2.heap _
    exact ⟨rfl, N2, eq2⟩
theorem d25_0 : decode jdk_68_method_68_code 0 = .ok (.getstatic 18, 3) := by decide +kernel
theorem d25_3 : decode jdk_68_method_68_code 3 = .ok (.ifCond .eq 14, 3) := by decide +kernel
theorem d25_6 : decode jdk_68_method_68_code 6 = .ok (.aload_n 0, 1) := by decide +kernel
theorem d25_7 : decode jdk_68_method_68_code 7 = .ok (.getfield 22, 3) := by decide +kernel
theorem d25_10 : decode jdk_68_method_68_code 10 = .ok (.ifCond .ne 7, 3) := by decide +kernel
theorem d25_13 : decode jdk_68_method_68_code 13 = .ok (.iconst 1, 1) := by decide +kernel
theorem d25_14 : decode jdk_68_method_68_code 14 = .ok (.goto 4, 3) := by decide +kernel
theorem d25_18 : decode jdk_68_method_68_code 18 = .ok (.ireturn, 1) := by decide +kernel
theorem pn_25 : plainName "java/lang/AbstractStringBuilder" = true := by first | (simp [plainName, overriddenIn]; done) | decide +kernel
theorem ef_25 (m : MethodId) (x0 : Addr) : entryFrame m #[(.ref x0)] 1 = mkF m 0 #[.val (.ref x0)] [] := by first | (simp [entryFrame, mkF, argsToLocals, Value.category]; done) | rfl
set_option maxRecDepth 65536 in
set_option maxHeartbeats 40000000 in
theorem rm25 (l : Launch) (Z : State) (a0 : Array Value) (hw : ∀ d ∈ tables_1, d.before a0 Z = true) (ws : List Jvm.Cond) (a1 : Addr) (G1 : Int32) (h0 : Heap) (n0 : Nat) (Z0 : n0 ≤ h0.size) (S_COMPACT_STRINGS : Sta Z Z.heap "java/lang/String" "COMPACT_STRINGS" "Z" (.int G1)) (X00 : Old Z n0 h0) (P3 : ¬ (G1 = (0 : Int32))) (E_a1 : Exa Z h0 a1 "java/lang/StringBuilder") (F_coder_a1 : Fld Z h0 a1 "java/lang/AbstractStringBuilder" "coder" "B" (.int (0 : Int32))) :
    MetFree l (⟨"java/lang/AbstractStringBuilder", "isLatin1", "()Z"⟩ : MethodName) (head1 (Jvm.Cond.code (⟨"java/lang/AbstractStringBuilder", "isLatin1", "()Z"⟩ : MethodName) jdk_68_method_68_code 1 (some .boolean) :: ws) ({ frames := 0, cells := 0, slots := 0, locals := 0 } : Room)) (fun a U => a = #[(.ref a1)] ∧ Z.Warmed39 U.vm ∧ U.heap = h0) (fun _ _ _ _ _ => True) (fun _ U o U' => ∃ v L, o = .returned v ∧ own_QR (.int (1 : Int32)) h0 n0 v U'.heap L ∧ FrameEnd U o U' L ({ frames := 0, cells := 0, slots := 0, locals := 0 } : Room).cells ({ frames := 0, cells := 0, slots := 0, locals := 0 } : Room).slots) := by
  refine MetFree.of_bodySF (plainFor_of_name pn_25) hisR ?_
  intro p e s m args below meth c s₁ Bd hml0 hP hK
  obtain ⟨rfl, hZ, hh⟩ := hP
  have hx := Bd.exec
  have hby := Bd.bytes
  have hml : c.maxLocals = 1 := hml0
  have hown : s.vm.findClass "java/lang/AbstractStringBuilder" = some m.cls := findClass_of_methodNamed Bd.named
  have hnm := (name_of_methodNamed Bd.named Bd.method).1
  have X0 : Stand p l e ({ frames := 0, cells := 0, slots := 0, locals := 0 } : Room) s m #[(.ref a1)] below meth c s₁ [] 0 0 := Stand.of_body Bd
  have e0 : s₁.heap = h0 := by rw [← hh, Bd.state]; rfl
  have N0 := Fr.nil n0
  have pre0 : ∀ t, Steps p.tables e below (s₁.setTop (mkF m 0 #[.val (.ref a1)] [])) t → Steps p.tables e below (s₁.setTop (entryFrame m #[(.ref a1)] 1)) t := fun t k => castTop (ef_25 m a1) k
  -- 3. LAWS
  obtain ⟨T2, X2, e2, st2⟩ := getS2 X0 hx hZ hown (host := "") (Or.inl (hw _ (List.mem_of_getElem? (i := 56) rfl))) Via.refl e0 (S_COMPACT_STRINGS.ext X00.2) (g := (mkF m 0 #[.val (.ref a1)] [])) rfl (hb hby d25_0)
  obtain ⟨T3, X3, e3, st3⟩ := getF X2 hx hZ hown (host := "") (Or.inl (hw _ (List.mem_of_getElem? (i := 59) rfl))) Via.refl e2 F_coder_a1 (g := (mkF m 7 #[.val (.ref a1)] [(.ref a1)])) rfl rfl (hb hby d25_7)
  obtain ⟨fs, hr, hrun, hended, hW, hsame⟩ := X3.leave (v := some (.int (1 : Int32))) (fun h => by rw [Bd.returns] at h; cases h)
  refine ⟨_, _, pre0 _ ?_, hrun, hended, _, _, rfl, ?_, ⟨_, rfl⟩, hW, hsame.mono (by decide) (by decide)⟩
  -- 4. STEPS
  · show Steps p.tables e below (s₁.setTop (mkF m 0 #[.val (.ref a1)] [])) _
    refine st2 _ ?_
    show Steps p.tables e below (T2.setTop (mkF m 3 #[.val (.ref a1)] [(.int G1)])) _
    refine XS.ifNo X2.here hx rfl (hb hby d25_3) rfl ((if0 _ _).trans (feq P3).1) ?_
    show Steps p.tables e below (T2.setTop (mkF m 6 #[.val (.ref a1)] [])) _
    refine XS.aloadN X2.here hx rfl (hb hby d25_6) rfl rfl ?_
    show Steps p.tables e below (T2.setTop (mkF m 7 #[.val (.ref a1)] [(.ref a1)])) _
    refine st3 _ ?_
    show Steps p.tables e below (T3.setTop (mkF m 10 #[.val (.ref a1)] [(.int (0 : Int32))])) _
    refine XS.ifNo X3.here hx rfl (hb hby d25_10) rfl ((if0 _ _).trans (teq (rfl : (0 : Int32) = (0 : Int32))).2) ?_
    show Steps p.tables e below (T3.setTop (mkF m 13 #[.val (.ref a1)] [])) _
    refine XS.iconst X3.here hx rfl (hb hby d25_13) ?_
    show Steps p.tables e below (T3.setTop (mkF m 14 #[.val (.ref a1)] [(.int (1 : Int32))])) _
    refine XS.goto X3.here hx rfl (pc0 := 14) (pc' := 18) rfl (hb hby d25_14) (by decide) (by decide) ?_
    show Steps p.tables e below (T3.setTop (mkF m 18 #[.val (.ref a1)] [(.int (1 : Int32))])) _
    exact retN X3 hx (t := .boolean) Bd.returns (by simp) (hb hby d25_18) hr
  · show own_QR (.int (1 : Int32)) h0 n0 _ T3.heap _
    rw [e3]
    exact ⟨rfl, N0, rfl⟩
theorem d21_0 : decode jdk_42_method_150_code 0 = .ok (.aload_n 0, 1) := by decide +kernel
theorem d21_1 : decode jdk_42_method_150_code 1 = .ok (.invokespecial 1, 3) := by decide +kernel
theorem d21_4 : decode jdk_42_method_150_code 4 = .ok (.aload_n 1, 1) := by decide +kernel
theorem d21_5 : decode jdk_42_method_150_code 5 = .ok (.invokevirtual 552, 3) := by decide +kernel
theorem d21_8 : decode jdk_42_method_150_code 8 = .ok (.astore_n 3, 1) := by decide +kernel
theorem d21_9 : decode jdk_42_method_150_code 9 = .ok (.aload_n 1, 1) := by decide +kernel
theorem d21_10 : decode jdk_42_method_150_code 10 = .ok (.invokevirtual 549, 3) := by decide +kernel
theorem d21_13 : decode jdk_42_method_150_code 13 = .ok (.istore 4, 2) := by decide +kernel
theorem d21_15 : decode jdk_42_method_150_code 15 = .ok (.aload_n 1, 1) := by decide +kernel
theorem d21_16 : decode jdk_42_method_150_code 16 = .ok (.invokevirtual 1047, 3) := by decide +kernel
theorem d21_19 : decode jdk_42_method_150_code 19 = .ok (.ifCond .eq 22, 3) := by decide +kernel
theorem d21_22 : decode jdk_42_method_150_code 22 = .ok (.aload_n 0, 1) := by decide +kernel
theorem d21_23 : decode jdk_42_method_150_code 23 = .ok (.iconst 0, 1) := by decide +kernel
theorem d21_24 : decode jdk_42_method_150_code 24 = .ok (.putfield 15, 3) := by decide +kernel
theorem d21_27 : decode jdk_42_method_150_code 27 = .ok (.aload_n 0, 1) := by decide +kernel
theorem d21_28 : decode jdk_42_method_150_code 28 = .ok (.aload_n 3, 1) := by decide +kernel
theorem d21_29 : decode jdk_42_method_150_code 29 = .ok (.iconst 0, 1) := by decide +kernel
theorem d21_30 : decode jdk_42_method_150_code 30 = .ok (.iload 4, 2) := by decide +kernel
theorem d21_32 : decode jdk_42_method_150_code 32 = .ok (.invokestatic 54, 3) := by decide +kernel
theorem d21_35 : decode jdk_42_method_150_code 35 = .ok (.putfield 9, 3) := by decide +kernel
theorem d21_38 : decode jdk_42_method_150_code 38 = .ok (.goto 59, 3) := by decide +kernel
theorem d21_97 : decode jdk_42_method_150_code 97 = .ok (.return_, 1) := by decide +kernel
theorem pn_21 : plainName "java/lang/String" = true := by first | (simp [plainName, overriddenIn]; done) | decide +kernel
theorem pd_21_20 : parseMethodDescriptor "()[B" = some ⟨[], some (.array .byte)⟩ := by decide +kernel
theorem pd_21_11 : parseMethodDescriptor "()I" = some ⟨[], some .int⟩ := by decide +kernel
theorem pd_21_21 : parseMethodDescriptor "()Z" = some ⟨[], some .boolean⟩ := by decide +kernel
theorem pd_21_22 : parseMethodDescriptor "([BII)[B" = some ⟨[(.array .byte), .int, .int], some (.array .byte)⟩ := by decide +kernel
theorem ef_21_null2 (m : MethodId) (x0 : Addr) (x1 : Addr) : entryFrame m #[(.ref x0), (.ref x1), .null] 5 = mkF m 0 #[.val (.ref x0), .val (.ref x1), .val .null, .unset, .unset] [] := by first | (simp [entryFrame, mkF, argsToLocals, Value.category]; done) | rfl
set_option maxRecDepth 65536 in
set_option maxHeartbeats 40000000 in
theorem rm21 (l : Launch) (Z : State) (a0 : Array Value) (hw : ∀ d ∈ tables_1, d.before a0 Z = true) (ws : List Jvm.Cond) (a1 : Addr) (a2 : Addr) (G1 : Int32) (bv : Addr) (c0 : Int32) (k_bv : ClassId) (z_bv : Int32) (vs_bv : List Value) (dv_bv : Value) (h0 : Heap) (n0 : Nat) (Z0 : n0 ≤ h0.size) (S_COMPACT_STRINGS : Sta Z Z.heap "java/lang/String" "COMPACT_STRINGS" "Z" (.int G1)) (X00 : Old Z n0 h0) (P3 : ¬ (G1 = (0 : Int32))) (E_a1 : Exa Z h0 a1 "java/lang/String") (F_value_a1 : Fld Z h0 a1 "java/lang/String" "value" "[B" .null) (F_coder_a1 : Fld Z h0 a1 "java/lang/String" "coder" "B" (.int (0 : Int32))) (E_a2 : Exa Z h0 a2 "java/lang/StringBuilder") (F_value_a2 : Fld Z h0 a2 "java/lang/AbstractStringBuilder" "value" "[B" (.ref bv)) (F_coder_a2 : Fld Z h0 a2 "java/lang/AbstractStringBuilder" "coder" "B" (.int (0 : Int32))) (F_count_a2 : Fld Z h0 a2 "java/lang/AbstractStringBuilder" "count" "I" (.int c0)) (V_bv : Arv Z h0 bv k_bv .byte z_bv vs_bv dv_bv) (g_a1 : n0 ≤ a1) (hnn : ¬ c0 < 0) (hlt : c0 < z_bv) (hle : c0.toNatClampNeg ≤ 16) (hln : c0.toNatClampNeg ≤ vs_bv.length) (hc19 : ¬ ((1 : Int32) = (0 : Int32))) :
    MetFree l (⟨"java/lang/String", "<init>", "(Ljava/lang/AbstractStringBuilder;Ljava/lang/Void;)V"⟩ : MethodName) (head1 (Jvm.Cond.code (⟨"java/lang/String", "<init>", "(Ljava/lang/AbstractStringBuilder;Ljava/lang/Void;)V"⟩ : MethodName) jdk_42_method_150_code 5 none :: ws) ({ frames := 4, cells := 1, slots := 16, locals := 64 } : Room)) (fun a U => a = #[(.ref a1), (.ref a2), .null] ∧ Z.Warmed39 U.vm ∧ U.heap = h0) (fun _ _ _ _ _ => True) (fun _ U o U' => ∃ v L, o = .returned v ∧ own_QI Z a1 c0 (vs_bv.take c0.toNatClampNeg) h0 n0 v U'.heap L ∧ FrameEnd U o U' L ({ frames := 4, cells := 1, slots := 16, locals := 64 } : Room).cells ({ frames := 4, cells := 1, slots := 16, locals := 64 } : Room).slots) := by
  refine MetFree.of_bodySF (plainFor_of_name pn_21) hisR ?_
  intro p e s m args below meth c s₁ Bd hml0 hP hK
  obtain ⟨rfl, hZ, hh⟩ := hP
  have hx := Bd.exec
  have hby := Bd.bytes
  have hml : c.maxLocals = 5 := hml0
  have hown : s.vm.findClass "java/lang/String" = some m.cls := findClass_of_methodNamed Bd.named
  have hnm := (name_of_methodNamed Bd.named Bd.method).1
  have X0 : Stand p l e ({ frames := 4, cells := 1, slots := 16, locals := 64 } : Room) s m #[(.ref a1), (.ref a2), .null] below meth c s₁ [] 0 0 := Stand.of_body Bd
  have e0 : s₁.heap = h0 := by rw [← hh, Bd.state]; rfl
  have N0 := Fr.nil n0
  have pre0 : ∀ t, Steps p.tables e below (s₁.setTop (mkF m 0 #[.val (.ref a1), .val (.ref a2), .val .null, .unset, .unset] [])) t → Steps p.tables e below (s₁.setTop (entryFrame m #[(.ref a1), (.ref a2), .null] 5)) t := fun t k => castTop (ef_21_null2 m a1 a2) k
  -- 3. LAWS
  obtain ⟨T3, X3, e3, st3⟩ := initO X0 hx hZ hown (hw _ (List.mem_of_getElem? (i := 15) rfl)) (hw _ (List.mem_of_getElem? (i := 16) rfl)) (hw _ (List.mem_of_getElem? (i := 17) rfl)) e0 (g := (mkF m 1 #[.val (.ref a1), .val (.ref a2), .val .null, .unset, .unset] [(.ref a1)])) rfl (by rw [hml]; rfl) rfl (hb hby d21_1) (by decide) (W := 0) (by show 2 * 0 + _ ≤ _; exact Nat.le_of_eq rfl) (by decide)
  -- pc 5: java/lang/AbstractStringBuilder.getValue by the contract of the body that the receiver's class selects, rm22
  obtain ⟨cq4, kq4, q4a, q4b, q4c⟩ := isOf hZ e3 E_a2
  obtain ⟨_, _, ⟨T4, L4, k4, n4⟩, -, X4, ⟨Lc4, hQ4, l4, y4, z4⟩, st4⟩ := X3.virtualBack hx (y := (⟨"java/lang/AbstractStringBuilder", "getValue", "()[B"⟩ : MethodName)) (z := (⟨"java/lang/AbstractStringBuilder", "getValue", "()[B"⟩ : MethodName)) hown (mvT hZ (hw _ (List.mem_of_getElem? (i := 121) rfl))) (mvT hZ (hw _ (List.mem_of_getElem? (i := 122) rfl))) (notFace_of_selects (args := #[]) (mvT hZ (hw _ (List.mem_of_getElem? (i := 124) rfl)))) (mvT hZ (hw _ (List.mem_of_getElem? (i := 124) rfl))) (mvT hZ (hw _ (List.mem_of_getElem? (i := 123) rfl))) (by decide) (backOf (W := 0) (rm22 l Z a0 hw [] a2 bv h0 n0 Z0 E_a2 F_value_a2) hZ (hw _ (List.mem_of_getElem? (i := 125) rfl)) (hw _ (List.mem_of_getElem? (i := 53) rfl)) (by decide) (by decide)) q4a q4c (g := (mkF m 5 #[.val (.ref a1), .val (.ref a2), .val .null, .unset, .unset] [(.ref a2)])) rfl (by rw [hml]; rfl) (Steps.refl _) (argsL := []) (rest := []) (lenOf pd_21_20 rfl) rfl (by show 2 * 0 + _ ≤ _; exact Nat.le_of_eq rfl) (hb hby d21_5) (fun _ _ => ⟨rfl, e3, (by decide : 0 + 0 ≤ _), (by decide : 0 + 0 ≤ _)⟩)
  dsimp only [Pt.U, Pt.locs, Pt.cells, Pt.slots] at X4 l4 y4 z4 st4 hQ4
  subst l4 y4 z4
  obtain ⟨rfl, N4q, eq4⟩ := hQ4      -- what it returned, that it wrote nothing old, and the rest of your Q22
  have N4 := Fr.app N0 N4q
  have Kq4 : Keep h0 T4.heap [] := (own_keq eq4)
  have K4 : Keep h0 T4.heap [a1] := (Keep.refl h0 [a1]).trans Kq4 all0
  -- pc 10: java/lang/AbstractStringBuilder.length by the contract of the body that the receiver's class selects, rm23
  obtain ⟨cq5, kq5, q5a, q5b, q5c⟩ := isOf hZ rfl (E_a2.keep Kq4)
  obtain ⟨_, _, ⟨T5, L5, k5, n5⟩, -, X5, ⟨Lc5, hQ5, l5, y5, z5⟩, st5⟩ := X4.virtualBack hx (y := (⟨"java/lang/AbstractStringBuilder", "length", "()I"⟩ : MethodName)) (z := (⟨"java/lang/StringBuilder", "length", "()I"⟩ : MethodName)) hown (mvT hZ (hw _ (List.mem_of_getElem? (i := 126) rfl))) (mvT hZ (hw _ (List.mem_of_getElem? (i := 127) rfl))) (own_nf (own_notIf (args := #[]) (y := (⟨"java/lang/AbstractStringBuilder", "ensureCapacityInternal", "(I)V"⟩ : MethodName)) (mvT hZ (hw _ (List.mem_of_getElem? (i := 86) rfl))))) (mvT hZ (hw _ (List.mem_of_getElem? (i := 129) rfl))) (mvT hZ (hw _ (List.mem_of_getElem? (i := 130) rfl))) (by decide) (backOf (W := 0) (rm23 l Z a0 hw [] a2 c0 T4.heap n0 (Nat.le_trans Z0 Kq4.1) (E_a2.keep Kq4) (F_count_a2.keep Kq4 (fun q => nomatch q))) hZ (hw _ (List.mem_of_getElem? (i := 131) rfl)) (hw _ (List.mem_of_getElem? (i := 45) rfl)) (by decide) (by decide)) q5a q5c (g := (mkF m 10 #[.val (.ref a1), .val (.ref a2), .val .null, .val (.ref bv), .unset] [(.ref a2)])) rfl (by rw [hml]; rfl) (Steps.refl _) (argsL := []) (rest := []) (lenOf pd_21_11 rfl) rfl (by show 2 * 0 + _ ≤ _; exact Nat.le_of_eq rfl) (hb hby d21_10) (fun _ _ => ⟨rfl, rfl, (by decide : 0 + 0 ≤ _), (by decide : 0 + 0 ≤ _)⟩)
  dsimp only [Pt.U, Pt.locs, Pt.cells, Pt.slots] at X5 l5 y5 z5 st5 hQ5
  subst l5 y5 z5
  obtain ⟨rfl, N5q, eq5⟩ := hQ5      -- what it returned, that it wrote nothing old, and the rest of your Q23
  have N5 := Fr.app N4 N5q
  have Kq5 : Keep T4.heap T5.heap [] := (own_keq eq5)
  have K5 : Keep h0 T5.heap [a1] := K4.trans Kq5 all0
  -- pc 16: java/lang/AbstractStringBuilder.isLatin1 by the contract of the body that the receiver's class selects, rm25
  obtain ⟨cq6, kq6, q6a, q6b, q6c⟩ := isOf hZ rfl ((E_a2.keep Kq4).keep Kq5)
  obtain ⟨_, _, ⟨T6, L6, k6, n6⟩, -, X6, ⟨Lc6, hQ6, l6, y6, z6⟩, st6⟩ := X5.virtualBack hx (y := (⟨"java/lang/AbstractStringBuilder", "isLatin1", "()Z"⟩ : MethodName)) (z := (⟨"java/lang/AbstractStringBuilder", "isLatin1", "()Z"⟩ : MethodName)) hown (mvT hZ (hw _ (List.mem_of_getElem? (i := 134) rfl))) (mvT hZ (hw _ (List.mem_of_getElem? (i := 135) rfl))) (notFace_of_selects (args := #[]) (mvT hZ (hw _ (List.mem_of_getElem? (i := 137) rfl)))) (mvT hZ (hw _ (List.mem_of_getElem? (i := 137) rfl))) (mvT hZ (hw _ (List.mem_of_getElem? (i := 136) rfl))) (by decide) (backOf (W := 0) (rm25 l Z a0 hw [] a2 G1 T5.heap n0 (Nat.le_trans (Nat.le_trans Z0 Kq4.1) Kq5.1) S_COMPACT_STRINGS (X00.keep K5 (allS g_a1 all0)) P3 ((E_a2.keep Kq4).keep Kq5) ((F_coder_a2.keep Kq4 (fun q => nomatch q)).keep Kq5 (fun q => nomatch q))) hZ (hw _ (List.mem_of_getElem? (i := 138) rfl)) (hw _ (List.mem_of_getElem? (i := 53) rfl)) (by decide) (by decide)) q6a q6c (g := (mkF m 16 #[.val (.ref a1), .val (.ref a2), .val .null, .val (.ref bv), .val (.int c0)] [(.ref a2)])) rfl (by rw [hml]; rfl) (Steps.refl _) (argsL := []) (rest := []) (lenOf pd_21_21 rfl) rfl (by show 2 * 0 + _ ≤ _; exact Nat.le_of_eq rfl) (hb hby d21_16) (fun _ _ => ⟨rfl, rfl, (by decide : 0 + 0 ≤ _), (by decide : 0 + 0 ≤ _)⟩)
  dsimp only [Pt.U, Pt.locs, Pt.cells, Pt.slots] at X6 l6 y6 z6 st6 hQ6
  subst l6 y6 z6
  obtain ⟨rfl, N6q, eq6⟩ := hQ6      -- what it returned, that it wrote nothing old, and the rest of your Q25
  have N6 := Fr.app N5 N6q
  have Kq6 : Keep T5.heap T6.heap [] := (own_keq eq6)
  have K6 : Keep h0 T6.heap [a1] := K5.trans Kq6 all0
  obtain ⟨T7, h7, X7, e7, W7, st7⟩ := putFN X6 hx hZ hown (hw _ (List.mem_of_getElem? (i := 30) rfl)) Via.refl rfl (((F_coder_a1.keep Kq4 (fun q => nomatch q)).keep Kq5 (fun q => nomatch q)).keep Kq6 (fun q => nomatch q)) (((E_a1.keep Kq4).keep Kq5).keep Kq6) (Or.inr ⟨(hw _ (List.mem_of_getElem? (i := 31) rfl)), rfl, hnm⟩) (hw _ (List.mem_of_getElem? (i := 5) rfl)) (ty := .byte) (v' := .int (nar .byte (0 : Int32))) (by decide) rfl (fits_nar_byte _) (g := (mkF m 24 #[.val (.ref a1), .val (.ref a2), .val .null, .val (.ref bv), .val (.int c0)] [(.int (0 : Int32)), (.ref a1)])) rfl rfl (hb hby d21_24)
  have Fw7 := (((F_coder_a1.keep Kq4 (fun q => nomatch q)).keep Kq5 (fun q => nomatch q)).keep Kq6 (fun q => nomatch q)).same W7      -- the field now holds (.int (0 : Int32))
  have K7 : Keep h0 h7 [a1] := K6.wr W7 (Or.inl (List.mem_of_getElem? (i := 0) rfl))
  have N7 := Fr.snoc X7 N6 g_a1
  -- pc 32: java/util/Arrays.copyOfRange by its contract rm26
  obtain ⟨_, _, ⟨T8, L8, k8, n8⟩, -, X8, ⟨Lc8, hQ8, l8, y8, z8⟩, st8⟩ := Jvm.LawKit.callS X7 hx (y := (⟨"java/util/Arrays", "copyOfRange", "([BII)[B"⟩ : MethodName)) hown (mvT hZ (hw _ (List.mem_of_getElem? (i := 139) rfl))) (mvT hZ (hw _ (List.mem_of_getElem? (i := 140) rfl))) (mvT hZ (hw _ (List.mem_of_getElem? (i := 141) rfl))) (mvT hZ (hw _ (List.mem_of_getElem? (i := 142) rfl))) (by decide) (backOf (W := 1) (rm26 l Z a0 hw [] bv (0 : Int32) c0 k_bv z_bv vs_bv dv_bv h7 n0 (Nat.le_trans (Nat.le_trans (Nat.le_trans (Nat.le_trans Z0 Kq4.1) Kq5.1) Kq6.1) (Keep.of_wr W7).1) ((((V_bv.keep Kq4 (fun q => nomatch q)).keep Kq5 (fun q => nomatch q)).keep Kq6 (fun q => nomatch q)).other W7 (Ne.symm (Exa.neArv E_a1 V_bv (hw _ (List.mem_of_getElem? (i := 5) rfl))))) hnn hlt hle hln (own_nelt hlt)) hZ (hw _ (List.mem_of_getElem? (i := 142) rfl)) (hw _ (List.mem_of_getElem? (i := 141) rfl)) (by decide) (by decide)) (g := (mkF m 32 #[.val (.ref a1), .val (.ref a2), .val .null, .val (.ref bv), .val (.int c0)] [(.int c0), (.int (0 : Int32)), (.ref bv), (.ref a1)])) rfl (by rw [hml]; rfl) (argsL := [(.ref bv), (.int (0 : Int32)), (.int c0)]) (rest := [(.ref a1)]) (lenOf pd_21_22 rfl) rfl (by show 2 * 0 + _ ≤ _; exact Nat.le_of_eq rfl) (hb hby d21_32) (fun _ _ => ⟨rfl, e7, (by decide : 0 + 1 ≤ _), (by decide : 0 + 16 ≤ _)⟩)
  dsimp only [Pt.U, Pt.locs, Pt.cells, Pt.slots] at X8 l8 y8 z8 st8 hQ8
  subst l8 y8 z8
  obtain ⟨tX, rfl, N8q, g_tX, gz_tX0, Kt, kx, Vx⟩ := hQ8      -- what it returned, that it wrote nothing old, and the rest of your Q26
  have N8 := Fr.app N7 N8q
  have Kq8 : Keep h7 T8.heap [] := Kt
  have K8 : Keep h0 T8.heap [a1] := K7.trans Kq8 all0
  obtain ⟨T9, h9, X9, e9, W9, st9⟩ := putF X8 hx hZ hown (host := "") (Or.inl (hw _ (List.mem_of_getElem? (i := 32) rfl))) Via.refl rfl (((((F_value_a1.keep Kq4 (fun q => nomatch q)).keep Kq5 (fun q => nomatch q)).keep Kq6 (fun q => nomatch q)).other W7 (Or.inr (slot_ne (Or.inr (hw _ (List.mem_of_getElem? (i := 33) rfl))) (Or.inr (hw _ (List.mem_of_getElem? (i := 31) rfl))) (by decide) (t := (.array .byte)) (t' := .byte) (by decide) (by decide)))).keep Kq8 (fun q => nomatch q)) (((((E_a1.keep Kq4).keep Kq5).keep Kq6).wr W7).keep Kq8) (Or.inr ⟨(hw _ (List.mem_of_getElem? (i := 33) rfl)), rfl, hnm⟩) (hw _ (List.mem_of_getElem? (i := 5) rfl)) (ty := (.array .byte)) (by decide) rfl rfl (g := (mkF m 35 #[.val (.ref a1), .val (.ref a2), .val .null, .val (.ref bv), .val (.int c0)] [(.ref tX), (.ref a1)])) rfl rfl (hb hby d21_35)
  have Fw9 := (((((F_value_a1.keep Kq4 (fun q => nomatch q)).keep Kq5 (fun q => nomatch q)).keep Kq6 (fun q => nomatch q)).other W7 (Or.inr (slot_ne (Or.inr (hw _ (List.mem_of_getElem? (i := 33) rfl))) (Or.inr (hw _ (List.mem_of_getElem? (i := 31) rfl))) (by decide) (t := (.array .byte)) (t' := .byte) (by decide) (by decide)))).keep Kq8 (fun q => nomatch q)).same W9      -- the field now holds (.ref tX)
  have K9 : Keep h0 h9 [a1] := K8.wr W9 (Or.inl (List.mem_of_getElem? (i := 0) rfl))
  have N9 := Fr.snoc X9 N8 g_a1
  have End_0 := Fw9
  have End_1 := ((Fw7.keep Kq8 (fun q => nomatch q)).other W9 (Or.inr (slot_ne (Or.inr (hw _ (List.mem_of_getElem? (i := 31) rfl))) (Or.inr (hw _ (List.mem_of_getElem? (i := 33) rfl))) (by decide) (t := .byte) (t' := (.array .byte)) (by decide) (by decide))))
  have End_2 := (Vx.other W9 (Ne.symm (Nat.ne_of_lt (Nat.lt_of_lt_of_le ((((E_a1.keep Kq4).keep Kq5).keep Kq6).wr W7).lt gz_tX0))))
  obtain ⟨fs, hr, hrun, hended, hW, hsame⟩ := X9.leave (v := none) (fun _ => rfl)
  refine ⟨_, _, pre0 _ ?_, hrun, hended, _, _, rfl, ?_, ⟨_, rfl⟩, hW, hsame.mono (by decide) (by decide)⟩
  -- 4. STEPS
  · show Steps p.tables e below (s₁.setTop (mkF m 0 #[.val (.ref a1), .val (.ref a2), .val .null, .unset, .unset] [])) _
    refine XS.aloadN X0.here hx rfl (hb hby d21_0) rfl rfl ?_
    show Steps p.tables e below (s₁.setTop (mkF m 1 #[.val (.ref a1), .val (.ref a2), .val .null, .unset, .unset] [(.ref a1)])) _
    refine st3 _ ?_
    show Steps p.tables e below (T3.setTop (mkF m 4 #[.val (.ref a1), .val (.ref a2), .val .null, .unset, .unset] [])) _
    refine XS.aloadN X3.here hx rfl (hb hby d21_4) rfl rfl ?_
    show Steps p.tables e below (T3.setTop (mkF m 5 #[.val (.ref a1), .val (.ref a2), .val .null, .unset, .unset] [(.ref a2)])) _
    refine st4.trans ?_
    show Steps p.tables e below (T4.setTop (mkF m 8 #[.val (.ref a1), .val (.ref a2), .val .null, .unset, .unset] [(.ref bv)])) _
    refine XS.astoreN X4.here hx rfl (hb hby d21_8) rfl rfl (l' := #[.val (.ref a1), .val (.ref a2), .val .null, .val (.ref bv), .unset]) rfl ?_
    show Steps p.tables e below (T4.setTop (mkF m 9 #[.val (.ref a1), .val (.ref a2), .val .null, .val (.ref bv), .unset] [])) _
    refine XS.aloadN X4.here hx rfl (hb hby d21_9) rfl rfl ?_
    show Steps p.tables e below (T4.setTop (mkF m 10 #[.val (.ref a1), .val (.ref a2), .val .null, .val (.ref bv), .unset] [(.ref a2)])) _
    refine st5.trans ?_
    show Steps p.tables e below (T5.setTop (mkF m 13 #[.val (.ref a1), .val (.ref a2), .val .null, .val (.ref bv), .unset] [(.int c0)])) _
    refine XS.istore X5.here hx rfl (hb hby d21_13) rfl (l' := #[.val (.ref a1), .val (.ref a2), .val .null, .val (.ref bv), .val (.int c0)]) rfl ?_
    show Steps p.tables e below (T5.setTop (mkF m 15 #[.val (.ref a1), .val (.ref a2), .val .null, .val (.ref bv), .val (.int c0)] [])) _
    refine XS.aloadN X5.here hx rfl (hb hby d21_15) rfl rfl ?_
    show Steps p.tables e below (T5.setTop (mkF m 16 #[.val (.ref a1), .val (.ref a2), .val .null, .val (.ref bv), .val (.int c0)] [(.ref a2)])) _
    refine st6.trans ?_
    show Steps p.tables e below (T6.setTop (mkF m 19 #[.val (.ref a1), .val (.ref a2), .val .null, .val (.ref bv), .val (.int c0)] [(.int (1 : Int32))])) _
    refine XS.ifNo X6.here hx rfl (hb hby d21_19) rfl ((if0 _ _).trans (feq hc19).1) ?_
    show Steps p.tables e below (T6.setTop (mkF m 22 #[.val (.ref a1), .val (.ref a2), .val .null, .val (.ref bv), .val (.int c0)] [])) _
    refine XS.aloadN X6.here hx rfl (hb hby d21_22) rfl rfl ?_
    show Steps p.tables e below (T6.setTop (mkF m 23 #[.val (.ref a1), .val (.ref a2), .val .null, .val (.ref bv), .val (.int c0)] [(.ref a1)])) _
    refine XS.iconst X6.here hx rfl (hb hby d21_23) ?_
    show Steps p.tables e below (T6.setTop (mkF m 24 #[.val (.ref a1), .val (.ref a2), .val .null, .val (.ref bv), .val (.int c0)] [(.int (0 : Int32)), (.ref a1)])) _
    refine st7 _ ?_
    show Steps p.tables e below (T7.setTop (mkF m 27 #[.val (.ref a1), .val (.ref a2), .val .null, .val (.ref bv), .val (.int c0)] [])) _
    refine XS.aloadN X7.here hx rfl (hb hby d21_27) rfl rfl ?_
    show Steps p.tables e below (T7.setTop (mkF m 28 #[.val (.ref a1), .val (.ref a2), .val .null, .val (.ref bv), .val (.int c0)] [(.ref a1)])) _
    refine XS.aloadN X7.here hx rfl (hb hby d21_28) rfl rfl ?_
    show Steps p.tables e below (T7.setTop (mkF m 29 #[.val (.ref a1), .val (.ref a2), .val .null, .val (.ref bv), .val (.int c0)] [(.ref bv), (.ref a1)])) _
    refine XS.iconst X7.here hx rfl (hb hby d21_29) ?_
    show Steps p.tables e below (T7.setTop (mkF m 30 #[.val (.ref a1), .val (.ref a2), .val .null, .val (.ref bv), .val (.int c0)] [(.int (0 : Int32)), (.ref bv), (.ref a1)])) _
    refine XS.iload X7.here hx rfl (hb hby d21_30) rfl ?_
    show Steps p.tables e below (T7.setTop (mkF m 32 #[.val (.ref a1), .val (.ref a2), .val .null, .val (.ref bv), .val (.int c0)] [(.int c0), (.int (0 : Int32)), (.ref bv), (.ref a1)])) _
    refine st8 _ ?_
    show Steps p.tables e below (T8.setTop (mkF m 35 #[.val (.ref a1), .val (.ref a2), .val .null, .val (.ref bv), .val (.int c0)] [(.ref tX), (.ref a1)])) _
    refine st9 _ ?_
    show Steps p.tables e below (T9.setTop (mkF m 38 #[.val (.ref a1), .val (.ref a2), .val .null, .val (.ref bv), .val (.int c0)] [])) _
    refine XS.goto X9.here hx rfl (pc0 := 38) (pc' := 97) rfl (hb hby d21_38) (by decide) (by decide) ?_
    show Steps p.tables e below (T9.setTop (mkF m 97 #[.val (.ref a1), .val (.ref a2), .val .null, .val (.ref bv), .val (.int c0)] [])) _
    exact X9.returnOut hx Bd.returns (hb hby d21_97) hr
  · show own_QI Z a1 c0 (vs_bv.take c0.toNatClampNeg) h0 n0 _ T9.heap _
    rw [e9]
    exact ⟨rfl, N9, K9, tX, kx, g_tX, Nat.le_trans K7.1 gz_tX0, End_0, End_1, End_2⟩
theorem d20_0 : decode jdk_42_method_53_code 0 = .ok (.aload_n 0, 1) := by decide +kernel
theorem d20_1 : decode jdk_42_method_53_code 1 = .ok (.aload_n 1, 1) := by decide +kernel
theorem d20_2 : decode jdk_42_method_53_code 2 = .ok (.aconst_null, 1) := by decide +kernel
theorem d20_3 : decode jdk_42_method_53_code 3 = .ok (.invokespecial 489, 3) := by decide +kernel
theorem d20_6 : decode jdk_42_method_53_code 6 = .ok (.return_, 1) := by decide +kernel
theorem pn_20 : plainName "java/lang/String" = true := by first | (simp [plainName, overriddenIn]; done) | decide +kernel
theorem pd_20_19 : parseMethodDescriptor "(Ljava/lang/AbstractStringBuilder;Ljava/lang/Void;)V" = some ⟨[(.object "java/lang/AbstractStringBuilder"), (.object "java/lang/Void")], none⟩ := by decide +kernel
theorem ef_20 (m : MethodId) (x0 : Addr) (x1 : Addr) : entryFrame m #[(.ref x0), (.ref x1)] 2 = mkF m 0 #[.val (.ref x0), .val (.ref x1)] [] := by first | (simp [entryFrame, mkF, argsToLocals, Value.category]; done) | rfl
set_option maxRecDepth 65536 in
set_option maxHeartbeats 40000000 in
theorem rm20 (l : Launch) (Z : State) (a0 : Array Value) (hw : ∀ d ∈ tables_1, d.before a0 Z = true) (ws : List Jvm.Cond) (a1 : Addr) (a2 : Addr) (G1 : Int32) (bv : Addr) (c0 : Int32) (k_bv : ClassId) (z_bv : Int32) (vs_bv : List Value) (dv_bv : Value) (h0 : Heap) (n0 : Nat) (Z0 : n0 ≤ h0.size) (S_COMPACT_STRINGS : Sta Z Z.heap "java/lang/String" "COMPACT_STRINGS" "Z" (.int G1)) (X00 : Old Z n0 h0) (P3 : ¬ (G1 = (0 : Int32))) (E_a1 : Exa Z h0 a1 "java/lang/String") (F_value_a1 : Fld Z h0 a1 "java/lang/String" "value" "[B" .null) (F_coder_a1 : Fld Z h0 a1 "java/lang/String" "coder" "B" (.int (0 : Int32))) (E_a2 : Exa Z h0 a2 "java/lang/StringBuilder") (F_value_a2 : Fld Z h0 a2 "java/lang/AbstractStringBuilder" "value" "[B" (.ref bv)) (F_coder_a2 : Fld Z h0 a2 "java/lang/AbstractStringBuilder" "coder" "B" (.int (0 : Int32))) (F_count_a2 : Fld Z h0 a2 "java/lang/AbstractStringBuilder" "count" "I" (.int c0)) (V_bv : Arv Z h0 bv k_bv .byte z_bv vs_bv dv_bv) (g_a1 : n0 ≤ a1) (hnn : ¬ c0 < 0) (hlt : c0 < z_bv) (hle : c0.toNatClampNeg ≤ 16) (hln : c0.toNatClampNeg ≤ vs_bv.length) :
    MetFree l (⟨"java/lang/String", "<init>", "(Ljava/lang/StringBuilder;)V"⟩ : MethodName) (head1 (Jvm.Cond.code (⟨"java/lang/String", "<init>", "(Ljava/lang/StringBuilder;)V"⟩ : MethodName) jdk_42_method_53_code 2 none :: ws) ({ frames := 5, cells := 1, slots := 16, locals := 80 } : Room)) (fun a U => a = #[(.ref a1), (.ref a2)] ∧ Z.Warmed39 U.vm ∧ U.heap = h0) (fun _ _ _ _ _ => True) (fun _ U o U' => ∃ v L, o = .returned v ∧ own_QI Z a1 c0 (vs_bv.take c0.toNatClampNeg) h0 n0 v U'.heap L ∧ FrameEnd U o U' L ({ frames := 5, cells := 1, slots := 16, locals := 80 } : Room).cells ({ frames := 5, cells := 1, slots := 16, locals := 80 } : Room).slots) := by
  refine MetFree.of_bodySF (plainFor_of_name pn_20) hisR ?_
  intro p e s m args below meth c s₁ Bd hml0 hP hK
  obtain ⟨rfl, hZ, hh⟩ := hP
  have hx := Bd.exec
  have hby := Bd.bytes
  have hml : c.maxLocals = 2 := hml0
  have hown : s.vm.findClass "java/lang/String" = some m.cls := findClass_of_methodNamed Bd.named
  have hnm := (name_of_methodNamed Bd.named Bd.method).1
  have X0 : Stand p l e ({ frames := 5, cells := 1, slots := 16, locals := 80 } : Room) s m #[(.ref a1), (.ref a2)] below meth c s₁ [] 0 0 := Stand.of_body Bd
  have e0 : s₁.heap = h0 := by rw [← hh, Bd.state]; rfl
  have N0 := Fr.nil n0
  have pre0 : ∀ t, Steps p.tables e below (s₁.setTop (mkF m 0 #[.val (.ref a1), .val (.ref a2)] [])) t → Steps p.tables e below (s₁.setTop (entryFrame m #[(.ref a1), (.ref a2)] 2)) t := fun t k => castTop (ef_20 m a1 a2) k
  -- 3. LAWS
  -- pc 3: the constructor of java/lang/String by its contract rm21
  obtain ⟨_, _, ⟨T3, L3, k3, n3⟩, -, X3, ⟨Lc3, hQ3, l3, y3, z3⟩, st3⟩ := X0.specialBack hx (y := (⟨"java/lang/String", "<init>", "(Ljava/lang/AbstractStringBuilder;Ljava/lang/Void;)V"⟩ : MethodName)) rfl hown (mvT hZ (hw _ (List.mem_of_getElem? (i := 118) rfl))) (mvT hZ (hw _ (List.mem_of_getElem? (i := 119) rfl))) (mvT hZ (hw _ (List.mem_of_getElem? (i := 120) rfl))) (by decide) (backOf (W := 0) (rm21 l Z a0 hw [] a1 a2 G1 bv c0 k_bv z_bv vs_bv dv_bv h0 n0 Z0 S_COMPACT_STRINGS X00 P3 E_a1 F_value_a1 F_coder_a1 E_a2 F_value_a2 F_coder_a2 F_count_a2 V_bv g_a1 hnn hlt hle hln (by decide)) hZ (hw _ (List.mem_of_getElem? (i := 120) rfl)) (hw _ (List.mem_of_getElem? (i := 6) rfl)) (by decide) (by decide)) (g := (mkF m 3 #[.val (.ref a1), .val (.ref a2)] [.null, (.ref a2), (.ref a1)])) rfl (by rw [hml]; rfl) (Steps.refl _) (a := a1) (argsL := [(.ref a2), .null]) (rest := []) (lenOf pd_20_19 rfl) rfl (by show 2 * 0 + _ ≤ _; exact Nat.le_of_eq rfl) (hb hby d20_3) (fun _ _ => ⟨rfl, e0, (by decide : 0 + 1 ≤ _), (by decide : 0 + 16 ≤ _)⟩)
  dsimp only [Pt.U, Pt.locs, Pt.cells, Pt.slots] at X3 l3 y3 z3 st3 hQ3
  subst l3 y3 z3
  obtain ⟨rfl, N3q, Kc, Rc⟩ := hQ3      -- what it returned, that it wrote nothing old, and the rest of your Q21
  have N3 := Fr.app N0 N3q
  have Kq3 : Keep h0 T3.heap [a1] := Kc
  have K3 : Keep h0 T3.heap [a1] := (Keep.refl h0 [a1]).trans Kq3 (own_trS (Or.inl (List.mem_of_getElem? (i := 0) rfl)) all0)
  obtain ⟨fs, hr, hrun, hended, hW, hsame⟩ := X3.leave (v := none) (fun _ => rfl)
  refine ⟨_, _, pre0 _ ?_, hrun, hended, _, _, rfl, ?_, ⟨_, rfl⟩, hW, hsame.mono (by decide) (by decide)⟩
  -- 4. STEPS
  · show Steps p.tables e below (s₁.setTop (mkF m 0 #[.val (.ref a1), .val (.ref a2)] [])) _
    refine XS.aloadN X0.here hx rfl (hb hby d20_0) rfl rfl ?_
    show Steps p.tables e below (s₁.setTop (mkF m 1 #[.val (.ref a1), .val (.ref a2)] [(.ref a1)])) _
    refine XS.aloadN X0.here hx rfl (hb hby d20_1) rfl rfl ?_
    show Steps p.tables e below (s₁.setTop (mkF m 2 #[.val (.ref a1), .val (.ref a2)] [(.ref a2), (.ref a1)])) _
    refine XS.aconstNull X0.here hx rfl (hb hby d20_2) ?_
    show Steps p.tables e below (s₁.setTop (mkF m 3 #[.val (.ref a1), .val (.ref a2)] [.null, (.ref a2), (.ref a1)])) _
    refine st3.trans ?_
    show Steps p.tables e below (T3.setTop (mkF m 6 #[.val (.ref a1), .val (.ref a2)] [])) _
    exact X3.returnOut hx Bd.returns (hb hby d20_6) hr
  · show own_QI Z a1 c0 (vs_bv.take c0.toNatClampNeg) h0 n0 _ T3.heap _
    exact ⟨rfl, N3, Kc, Rc⟩
theorem d19_0 : decode jdk_67_method_42_code 0 = .ok (.new 18, 3) := by decide +kernel
theorem d19_3 : decode jdk_67_method_42_code 3 = .ok (.dup, 1) := by decide +kernel
theorem d19_4 : decode jdk_67_method_42_code 4 = .ok (.aload_n 0, 1) := by decide +kernel
theorem d19_5 : decode jdk_67_method_42_code 5 = .ok (.invokespecial 137, 3) := by decide +kernel
theorem d19_8 : decode jdk_67_method_42_code 8 = .ok (.areturn, 1) := by decide +kernel
theorem pn_19 : plainName "java/lang/StringBuilder" = true := by first | (simp [plainName, overriddenIn]; done) | decide +kernel
theorem pd_19_18 : parseMethodDescriptor "(Ljava/lang/StringBuilder;)V" = some ⟨[(.object "java/lang/StringBuilder")], none⟩ := by decide +kernel
theorem ef_19 (m : MethodId) (x0 : Addr) : entryFrame m #[(.ref x0)] 1 = mkF m 0 #[.val (.ref x0)] [] := by first | (simp [entryFrame, mkF, argsToLocals, Value.category]; done) | rfl
set_option maxRecDepth 65536 in
set_option maxHeartbeats 40000000 in
theorem rm19 (l : Launch) (Z : State) (a0 : Array Value) (hw : ∀ d ∈ tables_1, d.before a0 Z = true) (ws : List Jvm.Cond) (a1 : Addr) (G1 : Int32) (bv : Addr) (c0 : Int32) (k_bv : ClassId) (z_bv : Int32) (vs_bv : List Value) (dv_bv : Value) (h0 : Heap) (n0 : Nat) (Z0 : n0 ≤ h0.size) (S_COMPACT_STRINGS : Sta Z Z.heap "java/lang/String" "COMPACT_STRINGS" "Z" (.int G1)) (X00 : Old Z n0 h0) (P3 : ¬ (G1 = (0 : Int32))) (E_a1 : Exa Z h0 a1 "java/lang/StringBuilder") (F_value_a1 : Fld Z h0 a1 "java/lang/AbstractStringBuilder" "value" "[B" (.ref bv)) (F_coder_a1 : Fld Z h0 a1 "java/lang/AbstractStringBuilder" "coder" "B" (.int (0 : Int32))) (F_count_a1 : Fld Z h0 a1 "java/lang/AbstractStringBuilder" "count" "I" (.int c0)) (V_bv : Arv Z h0 bv k_bv .byte z_bv vs_bv dv_bv) (hnn : ¬ c0 < 0) (hlt : c0 < z_bv) (hle : c0.toNatClampNeg ≤ 16) (hln : c0.toNatClampNeg ≤ vs_bv.length) :
    MetFree l (⟨"java/lang/StringBuilder", "toString", "()Ljava/lang/String;"⟩ : MethodName) (head1 (Jvm.Cond.code (⟨"java/lang/StringBuilder", "toString", "()Ljava/lang/String;"⟩ : MethodName) jdk_67_method_42_code 1 (some (.object "java/lang/String")) :: ws) ({ frames := 6, cells := 2, slots := 20, locals := 95 } : Room)) (fun a U => a = #[(.ref a1)] ∧ Z.Warmed39 U.vm ∧ U.heap = h0) (fun _ _ _ _ _ => True) (fun _ U o U' => ∃ v L, o = .returned v ∧ own_QS Z c0 (vs_bv.take c0.toNatClampNeg) h0 n0 v U'.heap L ∧ FrameEnd U o U' L ({ frames := 6, cells := 2, slots := 20, locals := 95 } : Room).cells ({ frames := 6, cells := 2, slots := 20, locals := 95 } : Room).slots) := by
  refine MetFree.of_bodySF (plainFor_of_name pn_19) hisR ?_
  intro p e s m args below meth c s₁ Bd hml0 hP hK
  obtain ⟨rfl, hZ, hh⟩ := hP
  have hx := Bd.exec
  have hby := Bd.bytes
  have hml : c.maxLocals = 1 := hml0
  have hown : s.vm.findClass "java/lang/StringBuilder" = some m.cls := findClass_of_methodNamed Bd.named
  have hnm := (name_of_methodNamed Bd.named Bd.method).1
  have X0 : Stand p l e ({ frames := 6, cells := 2, slots := 20, locals := 95 } : Room) s m #[(.ref a1)] below meth c s₁ [] 0 0 := Stand.of_body Bd
  have e0 : s₁.heap = h0 := by rw [← hh, Bd.state]; rfl
  have N0 := Fr.nil n0
  have pre0 : ∀ t, Steps p.tables e below (s₁.setTop (mkF m 0 #[.val (.ref a1)] [])) t → Steps p.tables e below (s₁.setTop (entryFrame m #[(.ref a1)] 1)) t := fun t k => castTop (ef_19 m a1) k
  -- 3. LAWS
  obtain ⟨T2, h2, X2, e2, E2, A2, D2, Un2, st2⟩ := newO X0 hx hZ hown (hw _ (List.mem_of_getElem? (i := 114) rfl)) (hw _ (List.mem_of_getElem? (i := 5) rfl)) (hw _ (List.mem_of_getElem? (i := 6) rfl)) e0 (g := (mkF m 0 #[.val (.ref a1)] [])) rfl (hb hby d19_0) (by decide) (by decide)
  obtain ⟨b2, g2⟩ : ∃ z, z = h0.size := ⟨_, rfl⟩      -- the fresh object's address
  rw [← g2] at A2 D2 Un2 st2
  have U_b2 : Unt h2 b2 := Un2
  have F_coder_b2 : Fld Z h2 b2 "java/lang/String" "coder" "B" (.int (0 : Int32)) := D2 (Or.inr (hw _ (List.mem_of_getElem? (i := 31) rfl))) (ty := .byte) (by decide)
  have F_value_b2 : Fld Z h2 b2 "java/lang/String" "value" "[B" .null := D2 (Or.inr (hw _ (List.mem_of_getElem? (i := 33) rfl))) (ty := (.array .byte)) (by decide)
  have E_b2 := A2
  have g_b2 : n0 ≤ b2 := Nat.le_trans Z0 (Nat.le_of_eq g2.symm)
  have sz_b2 : h0.size ≤ b2 := (Nat.le_trans (Keep.refl h0 []).1 (Nat.le_of_eq g2.symm))
  have K2 : Keep h0 h2 [] := (Keep.refl h0 []).ext E2
  -- pc 5: the constructor of java/lang/String by its contract rm20
  obtain ⟨_, _, ⟨T3, L3, k3, n3⟩, -, X3, ⟨Lc3, hQ3, l3, y3, z3⟩, st3⟩ := X2.specialBack hx (y := (⟨"java/lang/String", "<init>", "(Ljava/lang/StringBuilder;)V"⟩ : MethodName)) rfl hown (mvT hZ (hw _ (List.mem_of_getElem? (i := 115) rfl))) (mvT hZ (hw _ (List.mem_of_getElem? (i := 116) rfl))) (mvT hZ (hw _ (List.mem_of_getElem? (i := 117) rfl))) (by decide) (backOf (W := 1) (rm20 l Z a0 hw [] b2 a1 G1 bv c0 k_bv z_bv vs_bv dv_bv h2 n0 (Nat.le_trans Z0 E2.1) S_COMPACT_STRINGS (X00.keep K2 all0) P3 E_b2 F_value_b2 F_coder_b2 (E_a1.ext E2) (F_value_a1.ext E2) (F_coder_a1.ext E2) (F_count_a1.ext E2) (V_bv.ext E2) g_b2 hnn hlt hle hln) hZ (hw _ (List.mem_of_getElem? (i := 117) rfl)) (hw _ (List.mem_of_getElem? (i := 6) rfl)) (by decide) (by decide)) (g := (mkF m 5 #[.val (.ref a1)] [(.ref a1), (.ref b2), (.ref b2)])) rfl (by rw [hml]; rfl) (Steps.refl _) (a := b2) (argsL := [(.ref a1)]) (rest := [(.ref b2)]) (lenOf pd_19_18 rfl) rfl (by show 2 * 0 + _ ≤ _; exact Nat.le_of_eq rfl) (hb hby d19_5) (fun _ _ => ⟨rfl, e2, (by decide : 1 + 1 ≤ _), (by decide : 4 + 16 ≤ _)⟩)
  dsimp only [Pt.U, Pt.locs, Pt.cells, Pt.slots] at X3 l3 y3 z3 st3 hQ3
  subst l3 y3 z3
  obtain ⟨rfl, N3q, Kc, tX, kx, gt, gz, Fv, Fc, Vx⟩ := hQ3      -- what it returned, that it wrote nothing old, and the rest of your Q20
  have N3 := Fr.app N0 N3q
  have Kq3 : Keep h2 T3.heap [b2] := Kc
  have K3 : Keep h0 T3.heap [] := K2.trans Kq3 (own_trS (Or.inr sz_b2) all0)
  obtain ⟨fs, hr, hrun, hended, hW, hsame⟩ := X3.leave (v := some (.ref b2)) (fun h => by rw [Bd.returns] at h; cases h)
  refine ⟨_, _, pre0 _ ?_, hrun, hended, _, _, rfl, ?_, ⟨_, rfl⟩, hW, hsame.mono (by decide) (by decide)⟩
  -- 4. STEPS
  · show Steps p.tables e below (s₁.setTop (mkF m 0 #[.val (.ref a1)] [])) _
    refine st2 _ ?_
    show Steps p.tables e below (T2.setTop (mkF m 3 #[.val (.ref a1)] [(.ref b2)])) _
    refine XS.dup X2.here hx rfl (hb hby d19_3) rfl rfl ?_
    show Steps p.tables e below (T2.setTop (mkF m 4 #[.val (.ref a1)] [(.ref b2), (.ref b2)])) _
    refine XS.aloadN X2.here hx rfl (hb hby d19_4) rfl rfl ?_
    show Steps p.tables e below (T2.setTop (mkF m 5 #[.val (.ref a1)] [(.ref a1), (.ref b2), (.ref b2)])) _
    refine st3.trans ?_
    show Steps p.tables e below (T3.setTop (mkF m 8 #[.val (.ref a1)] [(.ref b2)])) _
    jvm_step X3.here [X3.here.top, hx, (hb hby d19_8), X3.method', Bd.returns, Value.isRef, FieldType.isReference]
    first | (intro acts; rw [hr _ acts rfl rfl rfl]) | rw [hr _ _ rfl rfl rfl]
    exact Steps.refl _
  · show own_QS Z c0 (vs_bv.take c0.toNatClampNeg) h0 n0 _ T3.heap _
    exact ⟨b2, rfl, N3, g_b2, sz_b2, K3, (E_b2.keep Kc), tX, kx, gt, Nat.le_trans K2.1 gz, Fv, Fc, Vx⟩
theorem own_frB {n0 : Nat} {a : Addr} {L : List Loc} (h : ∀ x ∈ L, x.base = a) (g : n0 ≤ a) : Fr n0 L := fun y hy => by rw [h y hy]; exact g
theorem own_b0 {a : Addr} : ∀ x ∈ ([] : List Loc), x.base = a := fun _ q => nomatch q
theorem own_bS {a : Addr} {i : Nat} {L : List Loc} (h : ∀ x ∈ L, x.base = a) : ∀ x ∈ L ++ [(⟨a, i⟩ : Loc)], x.base = a := fun x q => by
  rcases List.mem_append.mp q with q | q
  · exact h x q
  · rw [List.mem_singleton.mp q]
theorem own_bA {a : Addr} {L L' : List Loc} (h : ∀ x ∈ L, x.base = a) (h' : ∀ x ∈ L', x.base = a) : ∀ x ∈ L ++ L', x.base = a := fun x q => by
  rcases List.mem_append.mp q with q | q
  · exact h x q
  · exact h' x q
open Jvm.Free.Exc Bundle in
theorem own_excw {a0 : Array Value} {Z : State} (hw : ∀ d ∈ tables_1, d.before a0 Z = true) : ∀ d ∈ excAtoms "com/example/excl1/excl1/cli/Refusal", d ≠ own_lack → d.before a0 Z = true := fun d hd hn => hw d ((by decide +kernel : ∀ d ∈ excAtoms "com/example/excl1/excl1/cli/Refusal", d ≠ own_lack → d ∈ tables_1) d hd hn)
def own_QX (Z : State) (a1 a2 : Addr) (h0 : Heap) (n0 : Nat) (v : Option Value) (h : Heap) (L : List Loc) : Prop := v = none ∧ Fr n0 L ∧ Keep h0 h [a1] ∧ Unt h a1 ∧ Fld Z h a1 "java/lang/Throwable" "detailMessage" "Ljava/lang/String;" (.ref a2) ∧ Fld Z h a1 "java/lang/Throwable" "cause" "Ljava/lang/Throwable;" (.ref a1) ∧ Fld Z h a1 "com/example/excl1/excl1/cli/Refusal" "status" "I" (.int (0 : Int32))
theorem d32_0 : decode jdk_78_method_2_code 0 = .ok (.aload_n 0, 1) := by decide +kernel
theorem d32_1 : decode jdk_78_method_2_code 1 = .ok (.invokespecial 1, 3) := by decide +kernel
theorem d32_4 : decode jdk_78_method_2_code 4 = .ok (.aload_n 0, 1) := by decide +kernel
theorem d32_5 : decode jdk_78_method_2_code 5 = .ok (.aload_n 0, 1) := by decide +kernel
theorem d32_6 : decode jdk_78_method_2_code 6 = .ok (.putfield 7, 3) := by decide +kernel
theorem d32_9 : decode jdk_78_method_2_code 9 = .ok (.aload_n 0, 1) := by decide +kernel
theorem d32_10 : decode jdk_78_method_2_code 10 = .ok (.getstatic 13, 3) := by decide +kernel
theorem d32_13 : decode jdk_78_method_2_code 13 = .ok (.putfield 17, 3) := by decide +kernel
theorem d32_16 : decode jdk_78_method_2_code 16 = .ok (.aload_n 0, 1) := by decide +kernel
theorem d32_17 : decode jdk_78_method_2_code 17 = .ok (.getstatic 20, 3) := by decide +kernel
theorem d32_20 : decode jdk_78_method_2_code 20 = .ok (.putfield 24, 3) := by decide +kernel
theorem d32_23 : decode jdk_78_method_2_code 23 = .ok (.aload_n 0, 1) := by decide +kernel
theorem d32_24 : decode jdk_78_method_2_code 24 = .ok (.invokevirtual 27, 3) := by decide +kernel
theorem d32_27 : decode jdk_78_method_2_code 27 = .ok (.pop, 1) := by decide +kernel
theorem d32_28 : decode jdk_78_method_2_code 28 = .ok (.aload_n 0, 1) := by decide +kernel
theorem d32_29 : decode jdk_78_method_2_code 29 = .ok (.aload_n 1, 1) := by decide +kernel
theorem d32_30 : decode jdk_78_method_2_code 30 = .ok (.putfield 31, 3) := by decide +kernel
theorem d32_33 : decode jdk_78_method_2_code 33 = .ok (.return_, 1) := by decide +kernel
theorem pn_32 : plainName "java/lang/Throwable" = true := by first | (simp [plainName, overriddenIn]; done) | decide +kernel
theorem pd_32_25 : parseMethodDescriptor "()Ljava/lang/Throwable;" = some ⟨[], some (.object "java/lang/Throwable")⟩ := by decide +kernel
theorem ef_32 (m : MethodId) (x0 : Addr) (x1 : Addr) : entryFrame m #[(.ref x0), (.ref x1)] 2 = mkF m 0 #[.val (.ref x0), .val (.ref x1)] [] := by first | (simp [entryFrame, mkF, argsToLocals, Value.category]; done) | rfl
set_option maxRecDepth 65536 in
set_option maxHeartbeats 40000000 in
theorem rm32 (l : Launch) (Z : State) (a0 : Array Value) (hw : ∀ d ∈ tables_1, d.before a0 Z = true) (ws : List Jvm.Cond) (a1 : Addr) (a2 : Addr) (G2 : Addr) (G3 : Addr) (h0 : Heap) (n0 : Nat) (Z0 : n0 ≤ h0.size) (hl : l.stackTraces = true) (S_UNASSIGNED_STACK : Sta Z Z.heap "java/lang/Throwable" "UNASSIGNED_STACK" "[Ljava/lang/StackTraceElement;" (.ref G2)) (X00 : Old Z n0 h0) (S_SUPPRESSED_SENTINEL : Sta Z Z.heap "java/lang/Throwable" "SUPPRESSED_SENTINEL" "Ljava/util/List;" (.ref G3)) (E_a1 : Exa Z h0 a1 "com/example/excl1/excl1/cli/Refusal") (F_cause_a1 : Fld Z h0 a1 "java/lang/Throwable" "cause" "Ljava/lang/Throwable;" .null) (F_stackTrace_a1 : Fld Z h0 a1 "java/lang/Throwable" "stackTrace" "[Ljava/lang/StackTraceElement;" .null) (F_suppressedExceptions_a1 : Fld Z h0 a1 "java/lang/Throwable" "suppressedExceptions" "Ljava/util/List;" .null) (F_detailMessage_a1 : Fld Z h0 a1 "java/lang/Throwable" "detailMessage" "Ljava/lang/String;" .null) (F_backtrace_a1 : Fld Z h0 a1 "java/lang/Throwable" "backtrace" "Ljava/lang/Object;" .null) (F_status_a1 : Fld Z h0 a1 "com/example/excl1/excl1/cli/Refusal" "status" "I" (.int (0 : Int32))) (U_a1 : Unt h0 a1) (g_a1 : n0 ≤ a1) :
    MetFree l (⟨"java/lang/Throwable", "<init>", "(Ljava/lang/String;)V"⟩ : MethodName) (head1 (Jvm.Cond.code (⟨"java/lang/Throwable", "<init>", "(Ljava/lang/String;)V"⟩ : MethodName) jdk_78_method_2_code 2 none :: ws) ({ frames := 3, cells := 1, slots := 2752, locals := 42 } : Room)) (fun a U => a = #[(.ref a1), (.ref a2)] ∧ Z.Warmed39 U.vm ∧ U.heap = h0) (fun _ _ bl s _ => s.vm.MethodsKnown ∧ s.vm.FramesKnown bl) (fun _ U o U' => ∃ v L, o = .returned v ∧ own_QX Z a1 a2 h0 n0 v U'.heap L ∧ FrameEnd U o U' L ({ frames := 3, cells := 1, slots := 2752, locals := 42 } : Room).cells ({ frames := 3, cells := 1, slots := 2752, locals := 42 } : Room).slots) := by
  refine MetFree.of_bodySF (plainFor_of_name pn_32) hisR ?_
  intro p e s m args below meth c s₁ Bd hml0 hP hK
  obtain ⟨rfl, hZ, hh⟩ := hP
  have hx := Bd.exec
  have hby := Bd.bytes
  have hml : c.maxLocals = 2 := hml0
  have hown : s.vm.findClass "java/lang/Throwable" = some m.cls := findClass_of_methodNamed Bd.named
  have hnm := (name_of_methodNamed Bd.named Bd.method).1
  have X0 : Stand p l e ({ frames := 3, cells := 1, slots := 2752, locals := 42 } : Room) s m #[(.ref a1), (.ref a2)] below meth c s₁ [] 0 0 := Stand.of_body Bd
  have e0 : s₁.heap = h0 := by rw [← hh, Bd.state]; rfl
  have N0 := Fr.nil n0
  have pre0 : ∀ t, Steps p.tables e below (s₁.setTop (mkF m 0 #[.val (.ref a1), .val (.ref a2)] [])) t → Steps p.tables e below (s₁.setTop (entryFrame m #[(.ref a1), (.ref a2)] 2)) t := fun t k => castTop (ef_32 m a1 a2) k
  -- 3. LAWS
  obtain ⟨T3, X3, e3, st3⟩ := initO X0 hx hZ hown (hw _ (List.mem_of_getElem? (i := 168) rfl)) (hw _ (List.mem_of_getElem? (i := 16) rfl)) (hw _ (List.mem_of_getElem? (i := 17) rfl)) e0 (g := (mkF m 1 #[.val (.ref a1), .val (.ref a2)] [(.ref a1)])) rfl (by rw [hml]; rfl) rfl (hb hby d32_1) (by decide) (W := 0) (by show 2 * 0 + _ ≤ _; exact Nat.le_of_eq rfl) (by decide)
  obtain ⟨T4, h4, X4, e4, W4, st4⟩ := putF X3 hx hZ hown (host := "") (Or.inl (hw _ (List.mem_of_getElem? (i := 169) rfl))) Via.refl e3 F_cause_a1 E_a1 (Or.inl (hw _ (List.mem_of_getElem? (i := 170) rfl))) (hw _ (List.mem_of_getElem? (i := 42) rfl)) (ty := (.object "java/lang/Throwable")) (by decide) rfl rfl (g := (mkF m 6 #[.val (.ref a1), .val (.ref a2)] [(.ref a1), (.ref a1)])) rfl rfl (hb hby d32_6)
  have Fw4 := F_cause_a1.same W4      -- the field now holds (.ref a1)
  have K4 : Keep h0 h4 [a1] := (Keep.refl h0 [a1]).wr W4 (Or.inl (List.mem_of_getElem? (i := 0) rfl))
  have N4 := Fr.snoc X4 N0 g_a1
  obtain ⟨T5, X5, e5, st5⟩ := getS2 X4 hx hZ hown (host := "") (Or.inl (hw _ (List.mem_of_getElem? (i := 171) rfl))) Via.refl e4 (S_UNASSIGNED_STACK.ext (X00.keep K4 (allS g_a1 all0)).2) (g := (mkF m 10 #[.val (.ref a1), .val (.ref a2)] [(.ref a1)])) rfl (hb hby d32_10)
  obtain ⟨T6, h6, X6, e6, W6, st6⟩ := putF X5 hx hZ hown (host := "") (Or.inl (hw _ (List.mem_of_getElem? (i := 172) rfl))) Via.refl e5 (F_stackTrace_a1.other W4 (Or.inr (slot_ne (Or.inl (hw _ (List.mem_of_getElem? (i := 173) rfl))) (Or.inl (hw _ (List.mem_of_getElem? (i := 170) rfl))) (by decide) (t := (.array (.object "java/lang/StackTraceElement"))) (t' := (.object "java/lang/Throwable")) (by decide) (by decide)))) (E_a1.wr W4) (Or.inl (hw _ (List.mem_of_getElem? (i := 173) rfl))) (hw _ (List.mem_of_getElem? (i := 42) rfl)) (ty := (.array (.object "java/lang/StackTraceElement"))) (by decide) rfl rfl (g := (mkF m 13 #[.val (.ref a1), .val (.ref a2)] [(.ref G2), (.ref a1)])) rfl rfl (hb hby d32_13)
  have Fw6 := (F_stackTrace_a1.other W4 (Or.inr (slot_ne (Or.inl (hw _ (List.mem_of_getElem? (i := 173) rfl))) (Or.inl (hw _ (List.mem_of_getElem? (i := 170) rfl))) (by decide) (t := (.array (.object "java/lang/StackTraceElement"))) (t' := (.object "java/lang/Throwable")) (by decide) (by decide)))).same W6      -- the field now holds (.ref G2)
  have K6 : Keep h0 h6 [a1] := K4.wr W6 (Or.inl (List.mem_of_getElem? (i := 0) rfl))
  have N6 := Fr.snoc X6 N4 g_a1
  obtain ⟨T7, X7, e7, st7⟩ := getS2 X6 hx hZ hown (host := "") (Or.inl (hw _ (List.mem_of_getElem? (i := 174) rfl))) Via.refl e6 (S_SUPPRESSED_SENTINEL.ext (X00.keep K6 (allS g_a1 all0)).2) (g := (mkF m 17 #[.val (.ref a1), .val (.ref a2)] [(.ref a1)])) rfl (hb hby d32_17)
  obtain ⟨T8, h8, X8, e8, W8, st8⟩ := putF X7 hx hZ hown (host := "") (Or.inl (hw _ (List.mem_of_getElem? (i := 175) rfl))) Via.refl e7 ((F_suppressedExceptions_a1.other W4 (Or.inr (slot_ne (Or.inl (hw _ (List.mem_of_getElem? (i := 176) rfl))) (Or.inl (hw _ (List.mem_of_getElem? (i := 170) rfl))) (by decide) (t := (.object "java/util/List")) (t' := (.object "java/lang/Throwable")) (by decide) (by decide)))).other W6 (Or.inr (slot_ne (Or.inl (hw _ (List.mem_of_getElem? (i := 176) rfl))) (Or.inl (hw _ (List.mem_of_getElem? (i := 173) rfl))) (by decide) (t := (.object "java/util/List")) (t' := (.array (.object "java/lang/StackTraceElement"))) (by decide) (by decide)))) ((E_a1.wr W4).wr W6) (Or.inl (hw _ (List.mem_of_getElem? (i := 176) rfl))) (hw _ (List.mem_of_getElem? (i := 42) rfl)) (ty := (.object "java/util/List")) (by decide) rfl rfl (g := (mkF m 20 #[.val (.ref a1), .val (.ref a2)] [(.ref G3), (.ref a1)])) rfl rfl (hb hby d32_20)
  have Fw8 := ((F_suppressedExceptions_a1.other W4 (Or.inr (slot_ne (Or.inl (hw _ (List.mem_of_getElem? (i := 176) rfl))) (Or.inl (hw _ (List.mem_of_getElem? (i := 170) rfl))) (by decide) (t := (.object "java/util/List")) (t' := (.object "java/lang/Throwable")) (by decide) (by decide)))).other W6 (Or.inr (slot_ne (Or.inl (hw _ (List.mem_of_getElem? (i := 176) rfl))) (Or.inl (hw _ (List.mem_of_getElem? (i := 173) rfl))) (by decide) (t := (.object "java/util/List")) (t' := (.array (.object "java/lang/StackTraceElement"))) (by decide) (by decide)))).same W8      -- the field now holds (.ref G3)
  have K8 : Keep h0 h8 [a1] := K6.wr W8 (Or.inl (List.mem_of_getElem? (i := 0) rfl))
  have N8 := Fr.snoc X8 N6 g_a1
  -- pc 24: java/lang/Throwable.fillInStackTrace by the contract of the body that the receiver's class selects, rm33
  have Fc0 := ((Fw4.other W6 (Or.inr (slot_ne (Or.inl (hw _ (List.mem_of_getElem? (i := 170) rfl))) (Or.inl (hw _ (List.mem_of_getElem? (i := 173) rfl))) (by decide) (t := (.object "java/lang/Throwable")) (t' := (.array (.object "java/lang/StackTraceElement"))) (by decide) (by decide)))).other W8 (Or.inr (slot_ne (Or.inl (hw _ (List.mem_of_getElem? (i := 170) rfl))) (Or.inl (hw _ (List.mem_of_getElem? (i := 176) rfl))) (by decide) (t := (.object "java/lang/Throwable")) (t' := (.object "java/util/List")) (by decide) (by decide))))
  have Fm0 := (((F_detailMessage_a1.other W4 (Or.inr (slot_ne (Or.inl (hw _ (List.mem_of_getElem? (i := 200) rfl))) (Or.inl (hw _ (List.mem_of_getElem? (i := 170) rfl))) (by decide) (t := (.object "java/lang/String")) (t' := (.object "java/lang/Throwable")) (by decide) (by decide)))).other W6 (Or.inr (slot_ne (Or.inl (hw _ (List.mem_of_getElem? (i := 200) rfl))) (Or.inl (hw _ (List.mem_of_getElem? (i := 173) rfl))) (by decide) (t := (.object "java/lang/String")) (t' := (.array (.object "java/lang/StackTraceElement"))) (by decide) (by decide)))).other W8 (Or.inr (slot_ne (Or.inl (hw _ (List.mem_of_getElem? (i := 200) rfl))) (Or.inl (hw _ (List.mem_of_getElem? (i := 176) rfl))) (by decide) (t := (.object "java/lang/String")) (t' := (.object "java/util/List")) (by decide) (by decide))))
  have Fk0 := (Fw6.other W8 (Or.inr (slot_ne (Or.inl (hw _ (List.mem_of_getElem? (i := 173) rfl))) (Or.inl (hw _ (List.mem_of_getElem? (i := 176) rfl))) (by decide) (t := (.array (.object "java/lang/StackTraceElement"))) (t' := (.object "java/util/List")) (by decide) (by decide))))
  have Fb0 := (((F_backtrace_a1.other W4 (Or.inr (slot_ne (Or.inl (hw _ (List.mem_of_getElem? (i := 201) rfl))) (Or.inl (hw _ (List.mem_of_getElem? (i := 170) rfl))) (by decide) (t := (.object "java/lang/Object")) (t' := (.object "java/lang/Throwable")) (by decide) (by decide)))).other W6 (Or.inr (slot_ne (Or.inl (hw _ (List.mem_of_getElem? (i := 201) rfl))) (Or.inl (hw _ (List.mem_of_getElem? (i := 173) rfl))) (by decide) (t := (.object "java/lang/Object")) (t' := (.array (.object "java/lang/StackTraceElement"))) (by decide) (by decide)))).other W8 (Or.inr (slot_ne (Or.inl (hw _ (List.mem_of_getElem? (i := 201) rfl))) (Or.inl (hw _ (List.mem_of_getElem? (i := 176) rfl))) (by decide) (t := (.object "java/lang/Object")) (t' := (.object "java/util/List")) (by decide) (by decide))))
  have E0 := (((E_a1.wr W4).wr W6).wr W8)
  have Su0 := S_UNASSIGNED_STACK.ext ((X00.keep K8 (allS g_a1 all0))).2
  have Fs0 := (((F_status_a1.other W4 (Or.inr (slot_ne (Or.inr (hw _ (List.mem_of_getElem? (i := 206) rfl))) (Or.inl (hw _ (List.mem_of_getElem? (i := 170) rfl))) (by decide) (t := .int) (t' := (.object "java/lang/Throwable")) (by decide) (by decide)))).other W6 (Or.inr (slot_ne (Or.inr (hw _ (List.mem_of_getElem? (i := 206) rfl))) (Or.inl (hw _ (List.mem_of_getElem? (i := 173) rfl))) (by decide) (t := .int) (t' := (.array (.object "java/lang/StackTraceElement"))) (by decide) (by decide)))).other W8 (Or.inr (slot_ne (Or.inr (hw _ (List.mem_of_getElem? (i := 206) rfl))) (Or.inl (hw _ (List.mem_of_getElem? (i := 176) rfl))) (by decide) (t := .int) (t' := (.object "java/util/List")) (by decide) (by decide))))
  obtain ⟨T9, L9, X9, hL9, hF9, st9⟩ := own_fill X8 hx hl hZ hown (rc := "com/example/excl1/excl1/cli/Refusal") (by decide) (own_excw hw) (hw _ (List.mem_of_getElem? (i := 42) rfl)) (by rw [hh]; exact ThS.ext X00.2 ThS.start) hK.1 hK.2 e8 E0 (((U_a1.wr W4).wr W6).wr W8) Fb0 Fk0 Su0 (g := (mkF m 24 #[.val (.ref a1), .val (.ref a2)] [(.ref a1)])) rfl (by rw [hml]; rfl) (rest := []) rfl (hb hby d32_24) (by decide) (by show 2 * 0 + 0 + 42 ≤ 42; exact Nat.le_refl _) (by decide) (by decide)
  have N9 := Fr.app N8 (own_frB hL9 g_a1)
  have K9 : Keep h0 T9.heap [a1] := by
    have q := own_keepS X9 (own_bA (own_bS (own_bS (own_bS own_b0))) hL9)
    rw [hh] at q
    exact q
  have U9 : Unt T9.heap a1 := own_untS X9 (by rw [hh]; exact U_a1)
  have E1 := hF9.exa E0
  have Fc1 := hF9.fld Fc0 (slot_ne (Or.inl (hw _ (List.mem_of_getElem? (i := 201) rfl))) (Or.inl (hw _ (List.mem_of_getElem? (i := 170) rfl))) (by decide) (t := (.object "java/lang/Object")) (t' := (.object "java/lang/Throwable")) (by decide) (by decide)) (slot_ne (Or.inl (hw _ (List.mem_of_getElem? (i := 202) rfl))) (Or.inl (hw _ (List.mem_of_getElem? (i := 170) rfl))) (by decide) (t := .int) (t' := (.object "java/lang/Throwable")) (by decide) (by decide)) (slot_ne (Or.inl (hw _ (List.mem_of_getElem? (i := 173) rfl))) (Or.inl (hw _ (List.mem_of_getElem? (i := 170) rfl))) (by decide) (t := (.array (.object "java/lang/StackTraceElement"))) (t' := (.object "java/lang/Throwable")) (by decide) (by decide))
  have Fm1 := hF9.fld Fm0 (slot_ne (Or.inl (hw _ (List.mem_of_getElem? (i := 201) rfl))) (Or.inl (hw _ (List.mem_of_getElem? (i := 200) rfl))) (by decide) (t := (.object "java/lang/Object")) (t' := (.object "java/lang/String")) (by decide) (by decide)) (slot_ne (Or.inl (hw _ (List.mem_of_getElem? (i := 202) rfl))) (Or.inl (hw _ (List.mem_of_getElem? (i := 200) rfl))) (by decide) (t := .int) (t' := (.object "java/lang/String")) (by decide) (by decide)) (slot_ne (Or.inl (hw _ (List.mem_of_getElem? (i := 173) rfl))) (Or.inl (hw _ (List.mem_of_getElem? (i := 200) rfl))) (by decide) (t := (.array (.object "java/lang/StackTraceElement"))) (t' := (.object "java/lang/String")) (by decide) (by decide))
  have Fs1 := hF9.fld Fs0 (slot_ne (Or.inl (hw _ (List.mem_of_getElem? (i := 201) rfl))) (Or.inr (hw _ (List.mem_of_getElem? (i := 206) rfl))) (by decide) (t := (.object "java/lang/Object")) (t' := .int) (by decide) (by decide)) (slot_ne (Or.inl (hw _ (List.mem_of_getElem? (i := 202) rfl))) (Or.inr (hw _ (List.mem_of_getElem? (i := 206) rfl))) (by decide) (t := .int) (t' := .int) (by decide) (by decide)) (slot_ne (Or.inl (hw _ (List.mem_of_getElem? (i := 173) rfl))) (Or.inr (hw _ (List.mem_of_getElem? (i := 206) rfl))) (by decide) (t := (.array (.object "java/lang/StackTraceElement"))) (t' := .int) (by decide) (by decide))
  obtain ⟨T10, h10, X10, e10, W10, st10⟩ := putF X9 hx hZ hown (host := "") (Or.inl (hw _ (List.mem_of_getElem? (i := 204) rfl))) Via.refl rfl Fm1 E1 (Or.inl (hw _ (List.mem_of_getElem? (i := 200) rfl))) (hw _ (List.mem_of_getElem? (i := 42) rfl)) (ty := (.object "java/lang/String")) (by decide) rfl rfl (g := (mkF m 30 #[.val (.ref a1), .val (.ref a2)] [(.ref a2), (.ref a1)])) rfl rfl (hb hby d32_30)
  have Fw10 := Fm1.same W10      -- the field now holds (.ref a2)
  have K10 : Keep h0 h10 [a1] := K9.wr W10 (Or.inl (List.mem_of_getElem? (i := 0) rfl))
  have N10 := Fr.snoc X10 N9 g_a1
  have End_0 := Fw10
  have End_1 := (Fc1.other W10 (Or.inr (slot_ne (Or.inl (hw _ (List.mem_of_getElem? (i := 170) rfl))) (Or.inl (hw _ (List.mem_of_getElem? (i := 200) rfl))) (by decide) (t := (.object "java/lang/Throwable")) (t' := (.object "java/lang/String")) (by decide) (by decide))))
  have End_2 := (Fs1.other W10 (Or.inr (slot_ne (Or.inr (hw _ (List.mem_of_getElem? (i := 206) rfl))) (Or.inl (hw _ (List.mem_of_getElem? (i := 200) rfl))) (by decide) (t := .int) (t' := (.object "java/lang/String")) (by decide) (by decide))))
  obtain ⟨fs, hr, hrun, hended, hW, hsame⟩ := X10.leave (v := none) (fun _ => rfl)
  refine ⟨_, _, pre0 _ ?_, hrun, hended, _, _, rfl, ?_, ⟨_, rfl⟩, hW, hsame.mono (by decide) (by decide)⟩
  -- 4. STEPS
  · show Steps p.tables e below (s₁.setTop (mkF m 0 #[.val (.ref a1), .val (.ref a2)] [])) _
    refine XS.aloadN X0.here hx rfl (hb hby d32_0) rfl rfl ?_
    show Steps p.tables e below (s₁.setTop (mkF m 1 #[.val (.ref a1), .val (.ref a2)] [(.ref a1)])) _
    refine st3 _ ?_
    show Steps p.tables e below (T3.setTop (mkF m 4 #[.val (.ref a1), .val (.ref a2)] [])) _
    refine XS.aloadN X3.here hx rfl (hb hby d32_4) rfl rfl ?_
    show Steps p.tables e below (T3.setTop (mkF m 5 #[.val (.ref a1), .val (.ref a2)] [(.ref a1)])) _
    refine XS.aloadN X3.here hx rfl (hb hby d32_5) rfl rfl ?_
    show Steps p.tables e below (T3.setTop (mkF m 6 #[.val (.ref a1), .val (.ref a2)] [(.ref a1), (.ref a1)])) _
    refine st4 _ ?_
    show Steps p.tables e below (T4.setTop (mkF m 9 #[.val (.ref a1), .val (.ref a2)] [])) _
    refine XS.aloadN X4.here hx rfl (hb hby d32_9) rfl rfl ?_
    show Steps p.tables e below (T4.setTop (mkF m 10 #[.val (.ref a1), .val (.ref a2)] [(.ref a1)])) _
    refine st5 _ ?_
    show Steps p.tables e below (T5.setTop (mkF m 13 #[.val (.ref a1), .val (.ref a2)] [(.ref G2), (.ref a1)])) _
    refine st6 _ ?_
    show Steps p.tables e below (T6.setTop (mkF m 16 #[.val (.ref a1), .val (.ref a2)] [])) _
    refine XS.aloadN X6.here hx rfl (hb hby d32_16) rfl rfl ?_
    show Steps p.tables e below (T6.setTop (mkF m 17 #[.val (.ref a1), .val (.ref a2)] [(.ref a1)])) _
    refine st7 _ ?_
    show Steps p.tables e below (T7.setTop (mkF m 20 #[.val (.ref a1), .val (.ref a2)] [(.ref G3), (.ref a1)])) _
    refine st8 _ ?_
    show Steps p.tables e below (T8.setTop (mkF m 23 #[.val (.ref a1), .val (.ref a2)] [])) _
    refine XS.aloadN X8.here hx rfl (hb hby d32_23) rfl rfl ?_
    show Steps p.tables e below (T8.setTop (mkF m 24 #[.val (.ref a1), .val (.ref a2)] [(.ref a1)])) _
    refine st9.trans ?_
    show Steps p.tables e below (T9.setTop (mkF m 27 #[.val (.ref a1), .val (.ref a2)] [(.ref a1)])) _
    refine XS.pop X9.here hx rfl (hb hby d32_27) rfl rfl ?_
    show Steps p.tables e below (T9.setTop (mkF m 28 #[.val (.ref a1), .val (.ref a2)] [])) _
    refine XS.aloadN X9.here hx rfl (hb hby d32_28) rfl rfl ?_
    show Steps p.tables e below (T9.setTop (mkF m 29 #[.val (.ref a1), .val (.ref a2)] [(.ref a1)])) _
    refine XS.aloadN X9.here hx rfl (hb hby d32_29) rfl rfl ?_
    show Steps p.tables e below (T9.setTop (mkF m 30 #[.val (.ref a1), .val (.ref a2)] [(.ref a2), (.ref a1)])) _
    refine st10 _ ?_
    show Steps p.tables e below (T10.setTop (mkF m 33 #[.val (.ref a1), .val (.ref a2)] [])) _
    exact X10.returnOut hx Bd.returns (hb hby d32_33) hr
  · show own_QX Z a1 a2 h0 n0 _ T10.heap _
    rw [e10]
    exact ⟨rfl, N10, K10, (U9.wr W10), End_0, End_1, End_2⟩
theorem d31_0 : decode jdk_59_method_2_code 0 = .ok (.aload_n 0, 1) := by decide +kernel
theorem d31_1 : decode jdk_59_method_2_code 1 = .ok (.aload_n 1, 1) := by decide +kernel
theorem d31_2 : decode jdk_59_method_2_code 2 = .ok (.invokespecial 7, 3) := by decide +kernel
theorem d31_5 : decode jdk_59_method_2_code 5 = .ok (.return_, 1) := by decide +kernel
theorem pn_31 : plainName "java/lang/Exception" = true := by first | (simp [plainName, overriddenIn]; done) | decide +kernel
theorem pd_31_14 : parseMethodDescriptor "(Ljava/lang/String;)V" = some ⟨[(.object "java/lang/String")], none⟩ := by decide +kernel
theorem ef_31 (m : MethodId) (x0 : Addr) (x1 : Addr) : entryFrame m #[(.ref x0), (.ref x1)] 2 = mkF m 0 #[.val (.ref x0), .val (.ref x1)] [] := by first | (simp [entryFrame, mkF, argsToLocals, Value.category]; done) | rfl
set_option maxRecDepth 65536 in
set_option maxHeartbeats 40000000 in
theorem rm31 (l : Launch) (Z : State) (a0 : Array Value) (hw : ∀ d ∈ tables_1, d.before a0 Z = true) (ws : List Jvm.Cond) (a1 : Addr) (a2 : Addr) (G2 : Addr) (G3 : Addr) (h0 : Heap) (n0 : Nat) (Z0 : n0 ≤ h0.size) (hl : l.stackTraces = true) (S_UNASSIGNED_STACK : Sta Z Z.heap "java/lang/Throwable" "UNASSIGNED_STACK" "[Ljava/lang/StackTraceElement;" (.ref G2)) (X00 : Old Z n0 h0) (S_SUPPRESSED_SENTINEL : Sta Z Z.heap "java/lang/Throwable" "SUPPRESSED_SENTINEL" "Ljava/util/List;" (.ref G3)) (E_a1 : Exa Z h0 a1 "com/example/excl1/excl1/cli/Refusal") (F_cause_a1 : Fld Z h0 a1 "java/lang/Throwable" "cause" "Ljava/lang/Throwable;" .null) (F_stackTrace_a1 : Fld Z h0 a1 "java/lang/Throwable" "stackTrace" "[Ljava/lang/StackTraceElement;" .null) (F_suppressedExceptions_a1 : Fld Z h0 a1 "java/lang/Throwable" "suppressedExceptions" "Ljava/util/List;" .null) (F_detailMessage_a1 : Fld Z h0 a1 "java/lang/Throwable" "detailMessage" "Ljava/lang/String;" .null) (F_backtrace_a1 : Fld Z h0 a1 "java/lang/Throwable" "backtrace" "Ljava/lang/Object;" .null) (F_status_a1 : Fld Z h0 a1 "com/example/excl1/excl1/cli/Refusal" "status" "I" (.int (0 : Int32))) (U_a1 : Unt h0 a1) (g_a1 : n0 ≤ a1) :
    MetFree l (⟨"java/lang/Exception", "<init>", "(Ljava/lang/String;)V"⟩ : MethodName) (head1 (Jvm.Cond.code (⟨"java/lang/Exception", "<init>", "(Ljava/lang/String;)V"⟩ : MethodName) jdk_59_method_2_code 2 none :: ws) ({ frames := 4, cells := 1, slots := 2752, locals := 55 } : Room)) (fun a U => a = #[(.ref a1), (.ref a2)] ∧ Z.Warmed39 U.vm ∧ U.heap = h0) (fun _ _ bl s _ => s.vm.MethodsKnown ∧ s.vm.FramesKnown bl) (fun _ U o U' => ∃ v L, o = .returned v ∧ own_QX Z a1 a2 h0 n0 v U'.heap L ∧ FrameEnd U o U' L ({ frames := 4, cells := 1, slots := 2752, locals := 55 } : Room).cells ({ frames := 4, cells := 1, slots := 2752, locals := 55 } : Room).slots) := by
  refine MetFree.of_bodySF (plainFor_of_name pn_31) hisR ?_
  intro p e s m args below meth c s₁ Bd hml0 hP hK
  obtain ⟨rfl, hZ, hh⟩ := hP
  have hx := Bd.exec
  have hby := Bd.bytes
  have hml : c.maxLocals = 2 := hml0
  have hown : s.vm.findClass "java/lang/Exception" = some m.cls := findClass_of_methodNamed Bd.named
  have hnm := (name_of_methodNamed Bd.named Bd.method).1
  have X0 : Stand p l e ({ frames := 4, cells := 1, slots := 2752, locals := 55 } : Room) s m #[(.ref a1), (.ref a2)] below meth c s₁ [] 0 0 := Stand.of_body Bd
  have e0 : s₁.heap = h0 := by rw [← hh, Bd.state]; rfl
  have N0 := Fr.nil n0
  have pre0 : ∀ t, Steps p.tables e below (s₁.setTop (mkF m 0 #[.val (.ref a1), .val (.ref a2)] [])) t → Steps p.tables e below (s₁.setTop (entryFrame m #[(.ref a1), (.ref a2)] 2)) t := fun t k => castTop (ef_31 m a1 a2) k
  -- 3. LAWS
  -- pc 2: the constructor of java/lang/Throwable by its contract rm32
  obtain ⟨_, _, ⟨T3, L3, k3, n3⟩, -, X3, ⟨Lc3, hQ3, l3, y3, z3⟩, st3⟩ := X0.specialBack hx (y := (⟨"java/lang/Throwable", "<init>", "(Ljava/lang/String;)V"⟩ : MethodName)) rfl hown (mvT hZ (hw _ (List.mem_of_getElem? (i := 162) rfl))) (mvT hZ (hw _ (List.mem_of_getElem? (i := 163) rfl))) (mvT hZ (hw _ (List.mem_of_getElem? (i := 167) rfl))) (by decide) (backOfKL (W := 0) (rm32 l Z a0 hw [] a1 a2 G2 G3 h0 n0 Z0 hl S_UNASSIGNED_STACK X00 S_SUPPRESSED_SENTINEL E_a1 F_cause_a1 F_stackTrace_a1 F_suppressedExceptions_a1 F_detailMessage_a1 F_backtrace_a1 F_status_a1 U_a1 g_a1) hZ (hw _ (List.mem_of_getElem? (i := 167) rfl)) (hw _ (List.mem_of_getElem? (i := 166) rfl)) (by decide) (by decide) hK.1 hK.2) (g := (mkF m 2 #[.val (.ref a1), .val (.ref a2)] [(.ref a2), (.ref a1)])) rfl (by rw [hml]; rfl) (Steps.refl _) (a := a1) (argsL := [(.ref a2)]) (rest := []) (lenOf pd_31_14 rfl) rfl (by show 2 * 0 + _ ≤ _; exact Nat.le_of_eq rfl) (hb hby d31_2) (fun _ _ => ⟨rfl, e0, (by decide : 0 + 1 ≤ _), (by decide : 0 + 2752 ≤ _)⟩)
  dsimp only [Pt.U, Pt.locs, Pt.cells, Pt.slots] at X3 l3 y3 z3 st3 hQ3
  subst l3 y3 z3
  obtain ⟨rfl, N3q, Kc3, Uc3, Fm3, Fc3, Fs3⟩ := hQ3      -- what it returned, that it wrote nothing old, and the rest of your Q32
  have N3 := Fr.app N0 N3q
  have Kq3 : Keep h0 T3.heap [a1] := Kc3
  have K3 : Keep h0 T3.heap [a1] := (Keep.refl h0 [a1]).trans Kq3 (own_trS (Or.inl (List.mem_of_getElem? (i := 0) rfl)) all0)
  obtain ⟨fs, hr, hrun, hended, hW, hsame⟩ := X3.leave (v := none) (fun _ => rfl)
  refine ⟨_, _, pre0 _ ?_, hrun, hended, _, _, rfl, ?_, ⟨_, rfl⟩, hW, hsame.mono (by decide) (by decide)⟩
  -- 4. STEPS
  · show Steps p.tables e below (s₁.setTop (mkF m 0 #[.val (.ref a1), .val (.ref a2)] [])) _
    refine XS.aloadN X0.here hx rfl (hb hby d31_0) rfl rfl ?_
    show Steps p.tables e below (s₁.setTop (mkF m 1 #[.val (.ref a1), .val (.ref a2)] [(.ref a1)])) _
    refine XS.aloadN X0.here hx rfl (hb hby d31_1) rfl rfl ?_
    show Steps p.tables e below (s₁.setTop (mkF m 2 #[.val (.ref a1), .val (.ref a2)] [(.ref a2), (.ref a1)])) _
    refine st3.trans ?_
    show Steps p.tables e below (T3.setTop (mkF m 5 #[.val (.ref a1), .val (.ref a2)] [])) _
    exact X3.returnOut hx Bd.returns (hb hby d31_5) hr
  · show own_QX Z a1 a2 h0 n0 _ T3.heap _
    exact ⟨rfl, N3, Kc3, Uc3, Fm3, Fc3, Fs3⟩
def own_QZ (Z : State) (a1 a2 : Addr) (p : Int32) (h0 : Heap) (n0 : Nat) (v : Option Value) (h : Heap) (L : List Loc) : Prop := v = none ∧ Fr n0 L ∧ Keep h0 h [a1] ∧ Unt h a1 ∧ Fld Z h a1 "java/lang/Throwable" "detailMessage" "Ljava/lang/String;" (.ref a2) ∧ Fld Z h a1 "java/lang/Throwable" "cause" "Ljava/lang/Throwable;" (.ref a1) ∧ Fld Z h a1 "com/example/excl1/excl1/cli/Refusal" "status" "I" (.int p)
theorem d30_0 : decode prog_8_method_1_code 0 = .ok (.aload_n 0, 1) := by decide +kernel
theorem d30_1 : decode prog_8_method_1_code 1 = .ok (.aload_n 2, 1) := by decide +kernel
theorem d30_2 : decode prog_8_method_1_code 2 = .ok (.invokespecial 1, 3) := by decide +kernel
theorem d30_5 : decode prog_8_method_1_code 5 = .ok (.aload_n 0, 1) := by decide +kernel
theorem d30_6 : decode prog_8_method_1_code 6 = .ok (.iload_n 1, 1) := by decide +kernel
theorem d30_7 : decode prog_8_method_1_code 7 = .ok (.putfield 7, 3) := by decide +kernel
theorem d30_10 : decode prog_8_method_1_code 10 = .ok (.return_, 1) := by decide +kernel
theorem pn_30 : plainName "com/example/excl1/excl1/cli/Refusal" = true := by first | (simp [plainName, overriddenIn]; done) | decide +kernel
theorem pd_30_14 : parseMethodDescriptor "(Ljava/lang/String;)V" = some ⟨[(.object "java/lang/String")], none⟩ := by decide +kernel
theorem ef_30 (m : MethodId) (x0 : Addr) (x1 : Int32) (x2 : Addr) : entryFrame m #[(.ref x0), (.int x1), (.ref x2)] 3 = mkF m 0 #[.val (.ref x0), .val (.int x1), .val (.ref x2)] [] := by first | (simp [entryFrame, mkF, argsToLocals, Value.category]; done) | rfl
set_option maxRecDepth 65536 in
set_option maxHeartbeats 40000000 in
theorem rm30 (l : Launch) (Z : State) (a0 : Array Value) (hw : ∀ d ∈ tables_1, d.before a0 Z = true) (ws : List Jvm.Cond) (a1 : Addr) (p2 : Int32) (a3 : Addr) (G2 : Addr) (G3 : Addr) (h0 : Heap) (n0 : Nat) (Z0 : n0 ≤ h0.size) (hl : l.stackTraces = true) (S_UNASSIGNED_STACK : Sta Z Z.heap "java/lang/Throwable" "UNASSIGNED_STACK" "[Ljava/lang/StackTraceElement;" (.ref G2)) (X00 : Old Z n0 h0) (S_SUPPRESSED_SENTINEL : Sta Z Z.heap "java/lang/Throwable" "SUPPRESSED_SENTINEL" "Ljava/util/List;" (.ref G3)) (E_a1 : Exa Z h0 a1 "com/example/excl1/excl1/cli/Refusal") (F_cause_a1 : Fld Z h0 a1 "java/lang/Throwable" "cause" "Ljava/lang/Throwable;" .null) (F_stackTrace_a1 : Fld Z h0 a1 "java/lang/Throwable" "stackTrace" "[Ljava/lang/StackTraceElement;" .null) (F_suppressedExceptions_a1 : Fld Z h0 a1 "java/lang/Throwable" "suppressedExceptions" "Ljava/util/List;" .null) (F_detailMessage_a1 : Fld Z h0 a1 "java/lang/Throwable" "detailMessage" "Ljava/lang/String;" .null) (F_backtrace_a1 : Fld Z h0 a1 "java/lang/Throwable" "backtrace" "Ljava/lang/Object;" .null) (F_status_a1 : Fld Z h0 a1 "com/example/excl1/excl1/cli/Refusal" "status" "I" (.int (0 : Int32))) (U_a1 : Unt h0 a1) (g_a1 : n0 ≤ a1) :
    MetFree l (⟨"com/example/excl1/excl1/cli/Refusal", "<init>", "(ILjava/lang/String;)V"⟩ : MethodName) (head1 (Jvm.Cond.code (⟨"com/example/excl1/excl1/cli/Refusal", "<init>", "(ILjava/lang/String;)V"⟩ : MethodName) prog_8_method_1_code 3 none :: ws) ({ frames := 5, cells := 1, slots := 2752, locals := 68 } : Room)) (fun a U => a = #[(.ref a1), (.int p2), (.ref a3)] ∧ Z.Warmed39 U.vm ∧ U.heap = h0) (fun _ _ bl s _ => s.vm.MethodsKnown ∧ s.vm.FramesKnown bl) (fun _ U o U' => ∃ v L, o = .returned v ∧ own_QZ Z a1 a3 p2 h0 n0 v U'.heap L ∧ FrameEnd U o U' L ({ frames := 5, cells := 1, slots := 2752, locals := 68 } : Room).cells ({ frames := 5, cells := 1, slots := 2752, locals := 68 } : Room).slots) := by
  refine MetFree.of_bodySF (plainFor_of_name pn_30) hisR ?_
  intro p e s m args below meth c s₁ Bd hml0 hP hK
  obtain ⟨rfl, hZ, hh⟩ := hP
  have hx := Bd.exec
  have hby := Bd.bytes
  have hml : c.maxLocals = 3 := hml0
  have hown : s.vm.findClass "com/example/excl1/excl1/cli/Refusal" = some m.cls := findClass_of_methodNamed Bd.named
  have hnm := (name_of_methodNamed Bd.named Bd.method).1
  have X0 : Stand p l e ({ frames := 5, cells := 1, slots := 2752, locals := 68 } : Room) s m #[(.ref a1), (.int p2), (.ref a3)] below meth c s₁ [] 0 0 := Stand.of_body Bd
  have e0 : s₁.heap = h0 := by rw [← hh, Bd.state]; rfl
  have N0 := Fr.nil n0
  have pre0 : ∀ t, Steps p.tables e below (s₁.setTop (mkF m 0 #[.val (.ref a1), .val (.int p2), .val (.ref a3)] [])) t → Steps p.tables e below (s₁.setTop (entryFrame m #[(.ref a1), (.int p2), (.ref a3)] 3)) t := fun t k => castTop (ef_30 m a1 p2 a3) k
  -- 3. LAWS
  -- pc 2: the constructor of java/lang/Exception by its contract rm31
  obtain ⟨_, _, ⟨T4, L4, k4, n4⟩, -, X4, ⟨Lc4, hQ4, l4, y4, z4⟩, st4⟩ := X0.specialBack hx (y := (⟨"java/lang/Exception", "<init>", "(Ljava/lang/String;)V"⟩ : MethodName)) rfl hown (mvT hZ (hw _ (List.mem_of_getElem? (i := 157) rfl))) (mvT hZ (hw _ (List.mem_of_getElem? (i := 158) rfl))) (mvT hZ (hw _ (List.mem_of_getElem? (i := 161) rfl))) (by decide) (backOfKL (W := 0) (rm31 l Z a0 hw [] a1 a3 G2 G3 h0 n0 Z0 hl S_UNASSIGNED_STACK X00 S_SUPPRESSED_SENTINEL E_a1 F_cause_a1 F_stackTrace_a1 F_suppressedExceptions_a1 F_detailMessage_a1 F_backtrace_a1 F_status_a1 U_a1 g_a1) hZ (hw _ (List.mem_of_getElem? (i := 161) rfl)) (hw _ (List.mem_of_getElem? (i := 160) rfl)) (by decide) (by decide) hK.1 hK.2) (g := (mkF m 2 #[.val (.ref a1), .val (.int p2), .val (.ref a3)] [(.ref a3), (.ref a1)])) rfl (by rw [hml]; rfl) (Steps.refl _) (a := a1) (argsL := [(.ref a3)]) (rest := []) (lenOf pd_30_14 rfl) rfl (by show 2 * 0 + _ ≤ _; exact Nat.le_of_eq rfl) (hb hby d30_2) (fun _ _ => ⟨rfl, e0, (by decide : 0 + 1 ≤ _), (by decide : 0 + 2752 ≤ _)⟩)
  dsimp only [Pt.U, Pt.locs, Pt.cells, Pt.slots] at X4 l4 y4 z4 st4 hQ4
  subst l4 y4 z4
  obtain ⟨rfl, N4q, Kc4, Uc4, Fm4, Fc4, Fs4⟩ := hQ4      -- what it returned, that it wrote nothing old, and the rest of your Q31
  have N4 := Fr.app N0 N4q
  have Kq4 : Keep h0 T4.heap [a1] := Kc4
  have K4 : Keep h0 T4.heap [a1] := (Keep.refl h0 [a1]).trans Kq4 (own_trS (Or.inl (List.mem_of_getElem? (i := 0) rfl)) all0)
  obtain ⟨T5, h5, X5, e5, W5, st5⟩ := putF X4 hx hZ hown (host := "") (Or.inl (hw _ (List.mem_of_getElem? (i := 205) rfl))) Via.refl rfl Fs4 (E_a1.keep Kq4) (Or.inr ⟨(hw _ (List.mem_of_getElem? (i := 206) rfl)), rfl, hnm⟩) (hw _ (List.mem_of_getElem? (i := 42) rfl)) (ty := .int) (by decide) rfl rfl (g := (mkF m 7 #[.val (.ref a1), .val (.int p2), .val (.ref a3)] [(.int p2), (.ref a1)])) rfl rfl (hb hby d30_7)
  have Fw5 := Fs4.same W5      -- the field now holds (.int p2)
  have K5 : Keep h0 h5 [a1] := K4.wr W5 (Or.inl (List.mem_of_getElem? (i := 0) rfl))
  have N5 := Fr.snoc X5 N4 g_a1
  have End_0 := (Fm4.other W5 (Or.inr (slot_ne (Or.inl (hw _ (List.mem_of_getElem? (i := 200) rfl))) (Or.inr (hw _ (List.mem_of_getElem? (i := 206) rfl))) (by decide) (t := (.object "java/lang/String")) (t' := .int) (by decide) (by decide))))
  have End_1 := (Fc4.other W5 (Or.inr (slot_ne (Or.inl (hw _ (List.mem_of_getElem? (i := 170) rfl))) (Or.inr (hw _ (List.mem_of_getElem? (i := 206) rfl))) (by decide) (t := (.object "java/lang/Throwable")) (t' := .int) (by decide) (by decide))))
  have End_2 := Fw5
  obtain ⟨fs, hr, hrun, hended, hW, hsame⟩ := X5.leave (v := none) (fun _ => rfl)
  refine ⟨_, _, pre0 _ ?_, hrun, hended, _, _, rfl, ?_, ⟨_, rfl⟩, hW, hsame.mono (by decide) (by decide)⟩
  -- 4. STEPS
  · show Steps p.tables e below (s₁.setTop (mkF m 0 #[.val (.ref a1), .val (.int p2), .val (.ref a3)] [])) _
    refine XS.aloadN X0.here hx rfl (hb hby d30_0) rfl rfl ?_
    show Steps p.tables e below (s₁.setTop (mkF m 1 #[.val (.ref a1), .val (.int p2), .val (.ref a3)] [(.ref a1)])) _
    refine XS.aloadN X0.here hx rfl (hb hby d30_1) rfl rfl ?_
    show Steps p.tables e below (s₁.setTop (mkF m 2 #[.val (.ref a1), .val (.int p2), .val (.ref a3)] [(.ref a3), (.ref a1)])) _
    refine st4.trans ?_
    show Steps p.tables e below (T4.setTop (mkF m 5 #[.val (.ref a1), .val (.int p2), .val (.ref a3)] [])) _
    refine XS.aloadN X4.here hx rfl (hb hby d30_5) rfl rfl ?_
    show Steps p.tables e below (T4.setTop (mkF m 6 #[.val (.ref a1), .val (.int p2), .val (.ref a3)] [(.ref a1)])) _
    refine XS.iloadN X4.here hx rfl (hb hby d30_6) rfl ?_
    show Steps p.tables e below (T4.setTop (mkF m 7 #[.val (.ref a1), .val (.int p2), .val (.ref a3)] [(.int p2), (.ref a1)])) _
    refine st5 _ ?_
    show Steps p.tables e below (T5.setTop (mkF m 10 #[.val (.ref a1), .val (.int p2), .val (.ref a3)] [])) _
    exact X5.returnOut hx Bd.returns (hb hby d30_10) hr
  · show own_QZ Z a1 a3 p2 h0 n0 _ T5.heap _
    rw [e5]
    exact ⟨rfl, N5, K5, (Uc4.wr W5), End_0, End_1, End_2⟩
theorem own_updA (pre rest us : List Value) : own_upd (pre ++ rest) pre.length us = (pre ++ us) ++ rest.drop us.length := by
  simp [own_upd, List.drop_append, List.take_append]
def own_b0v : List Value := List.replicate 16 (.int (0 : Int32))
def own_b1 (vp : List Value) : List Value := own_upd own_b0v ((0 : Int32)).toNatClampNeg vp
def own_b2 (zp : Int32) (vp lit : List Value) : List Value := own_upd (own_b1 vp) ((0 : Int32) + zp).toNatClampNeg lit
def own_b3 (zp : Int32) (vp lit vu : List Value) : List Value := own_upd (own_b2 zp vp lit) ((0 : Int32) + zp + 9).toNatClampNeg vu
theorem own_u {zp zu : Int32} {vp lit vu : List Value} (hp3 : zp = 0 ∨ zp = 1 ∨ zp = 2) (hu3 : zu = 0 ∨ zu = 1 ∨ zu = 2) (hzp : zp.toNatClampNeg = vp.length) (hzu : zu.toNatClampNeg = vu.length) (hlit : lit.length = 9) :
    (((0 : Int32)).toNatClampNeg + vp.length ≤ ((16 : Int32)).toNatClampNeg ∧ ((0 : Int32)).toNatClampNeg + vp.length ≤ own_b0v.length ∧ ¬ ((0 : Int32) < (((0 : Int32) + zp) - ((16 : Int32) >>> ((0 : Int32) &&& 31))))) ∧
    (¬ ((0 : Int32) + zp) < 0 ∧ ((0 : Int32) + zp).toNatClampNeg + lit.length ≤ ((16 : Int32)).toNatClampNeg ∧ ((0 : Int32) + zp).toNatClampNeg + lit.length ≤ (own_b1 vp).length ∧ ¬ ((0 : Int32) < ((((0 : Int32) + zp) + 9) - ((16 : Int32) >>> ((0 : Int32) &&& 31))))) ∧
    (¬ ((0 : Int32) + zp + 9) < 0 ∧ ((0 : Int32) + zp + 9).toNatClampNeg + vu.length ≤ ((16 : Int32)).toNatClampNeg ∧ ((0 : Int32) + zp + 9).toNatClampNeg + vu.length ≤ (own_b2 zp vp lit).length ∧ ¬ ((0 : Int32) < ((((0 : Int32) + zp + 9) + zu) - ((16 : Int32) >>> ((0 : Int32) &&& 31))))) ∧
    (¬ ((0 : Int32) + zp + 9 + zu) < 0 ∧ ((0 : Int32) + zp + 9 + zu) < 16 ∧ ((0 : Int32) + zp + 9 + zu).toNatClampNeg ≤ 16 ∧ ((0 : Int32) + zp + 9 + zu).toNatClampNeg ≤ (own_b3 zp vp lit vu).length ∧ (own_b3 zp vp lit vu).take ((0 : Int32) + zp + 9 + zu).toNatClampNeg = vp ++ lit ++ vu) := by
  have e0 : ((0 : Int32)).toNatClampNeg = 0 := rfl
  have e16 : ((16 : Int32)).toNatClampNeg = 16 := rfl
  have e1 : ((0 : Int32) + zp).toNatClampNeg = vp.length := by rw [← hzp]; rcases hp3 with rfl | rfl | rfl <;> rfl
  have e2 : ((0 : Int32) + zp + 9).toNatClampNeg = vp.length + 9 := by rw [← hzp]; rcases hp3 with rfl | rfl | rfl <;> rfl
  have e3 : ((0 : Int32) + zp + 9 + zu).toNatClampNeg = vp.length + 9 + vu.length := by rw [← hzp, ← hzu]; rcases hp3 with rfl | rfl | rfl <;> rcases hu3 with rfl | rfl | rfl <;> rfl
  have lp : vp.length ≤ 2 := by rw [← hzp]; rcases hp3 with rfl | rfl | rfl <;> decide
  have lu : vu.length ≤ 2 := by rw [← hzu]; rcases hu3 with rfl | rfl | rfl <;> decide
  have l0 : own_b0v.length = 16 := rfl
  have b1 : own_b1 vp = vp ++ own_b0v.drop vp.length := by
    have q := own_updA [] own_b0v vp
    simpa [own_b1, e0] using q
  have l1 : (own_b1 vp).length = 16 := by rw [b1]; simp [l0]; omega
  have b2 : own_b2 zp vp lit = (vp ++ lit) ++ (own_b0v.drop vp.length).drop lit.length := by
    have q := own_updA vp (own_b0v.drop vp.length) lit
    rw [own_b2, e1, b1]; exact q
  have l2 : (own_b2 zp vp lit).length = 16 := by rw [b2]; simp [l0, hlit]; omega
  have b3 : own_b3 zp vp lit vu = (vp ++ lit ++ vu) ++ ((own_b0v.drop vp.length).drop lit.length).drop vu.length := by
    have q := own_updA (vp ++ lit) ((own_b0v.drop vp.length).drop lit.length) vu
    rw [List.length_append, hlit] at q
    rw [own_b3, e2, b2]; rw [hlit] at *; exact q
  have l3 : (own_b3 zp vp lit vu).length = 16 := by rw [b3]; simp [l0, hlit]; omega
  refine ⟨⟨by omega, by omega, ?_⟩, ⟨?_, by omega, by omega, ?_⟩, ⟨?_, by omega, by omega, ?_⟩, ?_, ?_, by omega, by omega, ?_⟩
  · rcases hp3 with rfl | rfl | rfl <;> decide
  · rcases hp3 with rfl | rfl | rfl <;> decide
  · rcases hp3 with rfl | rfl | rfl <;> decide
  · rcases hp3 with rfl | rfl | rfl <;> decide
  · rcases hp3 with rfl | rfl | rfl <;> rcases hu3 with rfl | rfl | rfl <;> decide
  · rcases hp3 with rfl | rfl | rfl <;> rcases hu3 with rfl | rfl | rfl <;> decide
  · rcases hp3 with rfl | rfl | rfl <;> rcases hu3 with rfl | rfl | rfl <;> decide
  · rw [e3, b3]
    have q : (vp ++ lit ++ vu).length = vp.length + 9 + vu.length := by simp [hlit]; omega
    rw [← q, List.take_left]
def own_QU (Z : State) (c : Int32) (vs : List Value) (h0 : Heap) (n0 : Nat) (v : Option Value) (h : Heap) (L : List Loc) : Prop := ∃ r : Addr, v = some (.ref r) ∧ Fr n0 L ∧ Keep h0 h [] ∧ Exa Z h r "com/example/excl1/excl1/cli/Refusal" ∧ Fld Z h r "com/example/excl1/excl1/cli/Refusal" "status" "I" (.int (64 : Int32)) ∧ ∃ b : Addr, Fld Z h r "java/lang/Throwable" "detailMessage" "Ljava/lang/String;" (.ref b) ∧ Exa Z h b "java/lang/String" ∧ ∃ (t : Addr) (k : ClassId), Fld Z h b "java/lang/String" "value" "[B" (.ref t) ∧ Fld Z h b "java/lang/String" "coder" "B" (.int (0 : Int32)) ∧ Arv Z h t k .byte c vs (.int (0 : Int32))
theorem d8_0 : decode prog_8_method_2_code 0 = .ok (.new 8, 3) := by decide +kernel
theorem d8_3 : decode prog_8_method_2_code 3 = .ok (.dup, 1) := by decide +kernel
theorem d8_4 : decode prog_8_method_2_code 4 = .ok (.bipush 64, 2) := by decide +kernel
theorem d8_6 : decode prog_8_method_2_code 6 = .ok (.new 13, 3) := by decide +kernel
theorem d8_9 : decode prog_8_method_2_code 9 = .ok (.dup, 1) := by decide +kernel
theorem d8_10 : decode prog_8_method_2_code 10 = .ok (.invokespecial 15, 3) := by decide +kernel
theorem d8_13 : decode prog_8_method_2_code 13 = .ok (.aload_n 0, 1) := by decide +kernel
theorem d8_14 : decode prog_8_method_2_code 14 = .ok (.invokevirtual 18, 3) := by decide +kernel
theorem d8_17 : decode prog_8_method_2_code 17 = .ok (.ldc 22, 2) := by decide +kernel
theorem d8_19 : decode prog_8_method_2_code 19 = .ok (.invokevirtual 18, 3) := by decide +kernel
theorem d8_22 : decode prog_8_method_2_code 22 = .ok (.aload_n 1, 1) := by decide +kernel
theorem d8_23 : decode prog_8_method_2_code 23 = .ok (.invokevirtual 18, 3) := by decide +kernel
theorem d8_26 : decode prog_8_method_2_code 26 = .ok (.invokevirtual 24, 3) := by decide +kernel
theorem d8_29 : decode prog_8_method_2_code 29 = .ok (.invokespecial 28, 3) := by decide +kernel
theorem d8_32 : decode prog_8_method_2_code 32 = .ok (.areturn, 1) := by decide +kernel
theorem pn_8 : plainName "com/example/excl1/excl1/cli/Refusal" = true := by first | (simp [plainName, overriddenIn]; done) | decide +kernel
theorem pd_8_3 : parseMethodDescriptor "()V" = some ⟨[], none⟩ := by decide +kernel
theorem pd_8_9 : parseMethodDescriptor "(Ljava/lang/String;)Ljava/lang/StringBuilder;" = some ⟨[(.object "java/lang/String")], some (.object "java/lang/StringBuilder")⟩ := by decide +kernel
theorem pd_8_17 : parseMethodDescriptor "()Ljava/lang/String;" = some ⟨[], some (.object "java/lang/String")⟩ := by decide +kernel
theorem pd_8_13 : parseMethodDescriptor "(ILjava/lang/String;)V" = some ⟨[.int, (.object "java/lang/String")], none⟩ := by decide +kernel
theorem ef_8 (m : MethodId) (x0 : Addr) (x1 : Addr) : entryFrame m #[(.ref x0), (.ref x1)] 2 = mkF m 0 #[.val (.ref x0), .val (.ref x1)] [] := by first | (simp [entryFrame, mkF, argsToLocals, Value.category]; done) | rfl
set_option maxRecDepth 65536 in
set_option maxHeartbeats 40000000 in
theorem rm8 (l : Launch) (Z : State) (a0 : Array Value) (hw : ∀ d ∈ tables_1, d.before a0 Z = true) (ws : List Jvm.Cond) (a1 : Addr) (a2 : Addr) (G1 : Int32) (G2 : Addr) (G3 : Addr) (sp : Addr) (su : Addr) (k_sp : ClassId) (z_sp : Int32) (vs_sp : List Value) (dv_sp : Value) (k_su : ClassId) (z_su : Int32) (vs_su : List Value) (dv_su : Value) (h0 : Heap) (n0 : Nat) (Z0 : n0 ≤ h0.size) (hl : l.stackTraces = true) (S_COMPACT_STRINGS : Sta Z Z.heap "java/lang/String" "COMPACT_STRINGS" "Z" (.int G1)) (X00 : Old Z n0 h0) (P3 : ¬ (G1 = (0 : Int32))) (S_UNASSIGNED_STACK : Sta Z Z.heap "java/lang/Throwable" "UNASSIGNED_STACK" "[Ljava/lang/StackTraceElement;" (.ref G2)) (S_SUPPRESSED_SENTINEL : Sta Z Z.heap "java/lang/Throwable" "SUPPRESSED_SENTINEL" "Ljava/util/List;" (.ref G3)) (E_a1 : Exa Z h0 a1 "java/lang/String") (F_value_a1 : Fld Z h0 a1 "java/lang/String" "value" "[B" (.ref sp)) (F_coder_a1 : Fld Z h0 a1 "java/lang/String" "coder" "B" (.int (0 : Int32))) (E_a2 : Exa Z h0 a2 "java/lang/String") (F_value_a2 : Fld Z h0 a2 "java/lang/String" "value" "[B" (.ref su)) (F_coder_a2 : Fld Z h0 a2 "java/lang/String" "coder" "B" (.int (0 : Int32))) (V_sp : Arv Z h0 sp k_sp .byte z_sp vs_sp dv_sp) (V_su : Arv Z h0 su k_su .byte z_su vs_su dv_su) (hp3 : z_sp = 0 ∨ z_sp = 1 ∨ z_sp = 2) (hu3 : z_su = 0 ∨ z_su = 1 ∨ z_su = 2) (hzp : z_sp.toNatClampNeg = vs_sp.length) (hzu : z_su.toNatClampNeg = vs_su.length) :
    MetFree l (⟨"com/example/excl1/excl1/cli/Refusal", "usage", "(Ljava/lang/String;Ljava/lang/String;)Lcom/example/excl1/excl1/cli/Refusal;"⟩ : MethodName) (head1 (Jvm.Cond.code (⟨"com/example/excl1/excl1/cli/Refusal", "usage", "(Ljava/lang/String;Ljava/lang/String;)Lcom/example/excl1/excl1/cli/Refusal;"⟩ : MethodName) prog_8_method_2_code 2 (some (.object "com/example/excl1/excl1/cli/Refusal")) :: ws) ({ frames := 7, cells := 8, slots := 2839, locals := 110 } : Room)) (fun a U => a = #[(.ref a1), (.ref a2)] ∧ Z.Warmed39 U.vm ∧ U.heap = h0 ∧ CHv Z consts_1 U.vm h0) (fun _ _ bl s _ => s.vm.MethodsKnown ∧ s.vm.FramesKnown bl) (fun _ U o U' => ∃ v L, o = .returned v ∧ own_QU Z ((0 : Int32) + z_sp + (9 : Int32) + z_su) (vs_sp ++ [(.int (59 : Int32)), (.int (32 : Int32)), (.int (117 : Int32)), (.int (115 : Int32)), (.int (97 : Int32)), (.int (103 : Int32)), (.int (101 : Int32)), (.int (58 : Int32)), (.int (32 : Int32))] ++ vs_su) h0 n0 v U'.heap L ∧ CHr Z consts_1 U.vm U.heap U'.vm U'.heap ∧ ReturnedEndW U o U' L ({ frames := 7, cells := 8, slots := 2839, locals := 110 } : Room).cells ({ frames := 7, cells := 8, slots := 2839, locals := 110 } : Room).slots) := by
  refine MetFree.of_bodySF (plainFor_of_name pn_8) hisR ?_
  intro p e s m args below meth c s₁ Bd hml0 hP hK
  obtain ⟨rfl, hZ, hh, H0⟩ := hP
  have hx := Bd.exec
  have hby := Bd.bytes
  have hml : c.maxLocals = 2 := hml0
  have hown : s.vm.findClass "com/example/excl1/excl1/cli/Refusal" = some m.cls := findClass_of_methodNamed Bd.named
  have hnm := (name_of_methodNamed Bd.named Bd.method).1
  have X0 : Stand p l e ({ frames := 7, cells := 8, slots := 2839, locals := 110 } : Room) (s.setVm s.vm) m #[(.ref a1), (.ref a2)] below meth c s₁ [] 0 0 := Stand.of_body Bd
  have e0 : s₁.heap = h0 := by rw [← hh, Bd.state]; rfl
  have N0 := Fr.nil n0
  have pre0 : ∀ t, Steps p.tables e below (s₁.setTop (mkF m 0 #[.val (.ref a1), .val (.ref a2)] [])) t → Steps p.tables e below (s₁.setTop (entryFrame m #[(.ref a1), (.ref a2)] 2)) t := fun t k => castTop (ef_8 m a1 a2) k
  -- 3. LAWS
  have hS : s.Since s.vm 0 := (State.WarmedH.refl s).since 0
  have hk := Nat.zero_le h0.size
  have R0 : CHr Z consts_1 s.vm h0 s.vm h0 := CHr.refl H0
  obtain ⟨T3, h3, X3, e3, E3, A3, D3, Un3, st3⟩ := newO X0 hx hZ hown (hw _ (List.mem_of_getElem? (i := 41) rfl)) (hw _ (List.mem_of_getElem? (i := 42) rfl)) (hw _ (List.mem_of_getElem? (i := 39) rfl)) e0 (g := (mkF m 0 #[.val (.ref a1), .val (.ref a2)] [])) rfl (hb hby d8_0) (by decide) (by decide)
  obtain ⟨b3, g3⟩ : ∃ z, z = h0.size := ⟨_, rfl⟩      -- the fresh object's address
  rw [← g3] at A3 D3 Un3 st3
  have U_b3 : Unt h3 b3 := Un3
  have F_cause_b3 : Fld Z h3 b3 "java/lang/Throwable" "cause" "Ljava/lang/Throwable;" .null := D3 (Or.inl (hw _ (List.mem_of_getElem? (i := 170) rfl))) (ty := (.object "java/lang/Throwable")) (by decide)
  have F_stackTrace_b3 : Fld Z h3 b3 "java/lang/Throwable" "stackTrace" "[Ljava/lang/StackTraceElement;" .null := D3 (Or.inl (hw _ (List.mem_of_getElem? (i := 173) rfl))) (ty := (.array (.object "java/lang/StackTraceElement"))) (by decide)
  have F_suppressedExceptions_b3 : Fld Z h3 b3 "java/lang/Throwable" "suppressedExceptions" "Ljava/util/List;" .null := D3 (Or.inl (hw _ (List.mem_of_getElem? (i := 176) rfl))) (ty := (.object "java/util/List")) (by decide)
  have F_detailMessage_b3 : Fld Z h3 b3 "java/lang/Throwable" "detailMessage" "Ljava/lang/String;" .null := D3 (Or.inl (hw _ (List.mem_of_getElem? (i := 200) rfl))) (ty := (.object "java/lang/String")) (by decide)
  have F_backtrace_b3 : Fld Z h3 b3 "java/lang/Throwable" "backtrace" "Ljava/lang/Object;" .null := D3 (Or.inl (hw _ (List.mem_of_getElem? (i := 201) rfl))) (ty := (.object "java/lang/Object")) (by decide)
  have F_depth_b3 : Fld Z h3 b3 "java/lang/Throwable" "depth" "I" (.int (0 : Int32)) := D3 (Or.inl (hw _ (List.mem_of_getElem? (i := 202) rfl))) (ty := .int) (by decide)
  have F_status_b3 : Fld Z h3 b3 "com/example/excl1/excl1/cli/Refusal" "status" "I" (.int (0 : Int32)) := D3 (Or.inr (hw _ (List.mem_of_getElem? (i := 206) rfl))) (ty := .int) (by decide)
  have R3 := R0.trans (CHr.ext E3 R0.1)
  have Sf_b3_3 := Safe.ext E3 R0.1 (Safe.new (Nat.le_of_eq g3.symm))
  have E_b3 := A3
  have g_b3 : n0 ≤ b3 := Nat.le_trans Z0 (Nat.le_of_eq g3.symm)
  have sz_b3 : h0.size ≤ b3 := (Nat.le_trans (Keep.refl h0 []).1 (Nat.le_of_eq g3.symm))
  have K3 : Keep h0 h3 [] := (Keep.refl h0 []).ext E3
  obtain ⟨T4, h4, X4, e4, E4, A4, D4, Un4, st4⟩ := newO X3 hx hZ hown (hw _ (List.mem_of_getElem? (i := 43) rfl)) (hw _ (List.mem_of_getElem? (i := 44) rfl)) (hw _ (List.mem_of_getElem? (i := 45) rfl)) e3 (g := (mkF m 6 #[.val (.ref a1), .val (.ref a2)] [(.int (64 : Int32)), (.ref b3), (.ref b3)])) rfl (hb hby d8_6) (by decide) (by decide)
  obtain ⟨b4, g4⟩ : ∃ z, z = h3.size := ⟨_, rfl⟩      -- the fresh object's address
  rw [← g4] at A4 D4 Un4 st4
  have U_b4 : Unt h4 b4 := Un4
  have F_value_b4 : Fld Z h4 b4 "java/lang/AbstractStringBuilder" "value" "[B" .null := D4 (Or.inl (hw _ (List.mem_of_getElem? (i := 58) rfl))) (ty := (.array .byte)) (by decide)
  have F_coder_b4 : Fld Z h4 b4 "java/lang/AbstractStringBuilder" "coder" "B" (.int (0 : Int32)) := D4 (Or.inl (hw _ (List.mem_of_getElem? (i := 60) rfl))) (ty := .byte) (by decide)
  have F_count_b4 : Fld Z h4 b4 "java/lang/AbstractStringBuilder" "count" "I" (.int (0 : Int32)) := D4 (Or.inl (hw _ (List.mem_of_getElem? (i := 82) rfl))) (ty := .int) (by decide)
  have R4 := R3.trans (CHr.ext E4 R3.1)
  have Sf_b3_4 := Safe.ext E4 R3.1 Sf_b3_3
  have Sf_b4_4 := Safe.ext E4 R3.1 (Safe.new (Nat.le_of_eq g4.symm))
  have E_b4 := A4
  have g_b4 : n0 ≤ b4 := Nat.le_trans (Nat.le_trans Z0 E3.1) (Nat.le_of_eq g4.symm)
  have sz_b4 : h0.size ≤ b4 := (Nat.le_trans K3.1 (Nat.le_of_eq g4.symm))
  have K4 : Keep h0 h4 [] := K3.ext E4
  -- pc 10: the constructor of java/lang/StringBuilder by its contract rm9
  obtain ⟨_, _, ⟨T5, L5, k5, n5⟩, -, X5, ⟨Lc5, hQ5, l5, y5, z5⟩, st5⟩ := X4.specialBack hx (y := (⟨"java/lang/StringBuilder", "<init>", "()V"⟩ : MethodName)) rfl hown (mvT hZ (hw _ (List.mem_of_getElem? (i := 46) rfl))) (mvT hZ (hw _ (List.mem_of_getElem? (i := 47) rfl))) (mvT hZ (hw _ (List.mem_of_getElem? (i := 48) rfl))) (by decide) (backOf (W := 4) (rm9 l Z a0 hw [] b4 G1 h4 n0 (Nat.le_trans (Nat.le_trans Z0 E3.1) E4.1) S_COMPACT_STRINGS (X00.keep K4 all0) P3 E_b4 F_value_b4 F_coder_b4 F_count_b4 g_b4) hZ (hw _ (List.mem_of_getElem? (i := 48) rfl)) (hw _ (List.mem_of_getElem? (i := 45) rfl)) (by decide) (by decide)) (g := (mkF m 10 #[.val (.ref a1), .val (.ref a2)] [(.ref b4), (.ref b4), (.int (64 : Int32)), (.ref b3), (.ref b3)])) rfl (by rw [hml]; rfl) (Steps.refl _) (a := b4) (argsL := []) (rest := [(.ref b4), (.int (64 : Int32)), (.ref b3), (.ref b3)]) (lenOf pd_8_3 rfl) rfl (by show 2 * 0 + _ ≤ _; exact Nat.le_of_eq rfl) (hb hby d8_10) (fun _ _ => ⟨rfl, e4, (by decide : 2 + 1 ≤ _), (by decide : 11 + 16 ≤ _)⟩)
  dsimp only [Pt.U, Pt.locs, Pt.cells, Pt.slots] at X5 l5 y5 z5 st5 hQ5
  subst l5 y5 z5
  obtain ⟨rfl, N5q, Kc5, bv, kbv, g_bv, gz_bv, Fv5, Fd5, Fn5, Vb5⟩ := hQ5      -- what it returned, that it wrote nothing old, and the rest of your Q9
  have N5 := Fr.app N0 N5q
  have sz_bv : h0.size ≤ bv := Nat.le_trans K4.1 gz_bv
  obtain ⟨⟨s1, s2, s3⟩, ⟨t1, t2, t3, t4⟩, ⟨v1, v2, v3, v4⟩, x1, x2, x3, x4, x5⟩ := own_u (lit := [(.int (59 : Int32)), (.int (32 : Int32)), (.int (117 : Int32)), (.int (115 : Int32)), (.int (97 : Int32)), (.int (103 : Int32)), (.int (101 : Int32)), (.int (58 : Int32)), (.int (32 : Int32))]) hp3 hu3 hzp hzu rfl
  have Kq5 : Keep h4 T5.heap [b4] := Kc5
  have K5 : Keep h0 T5.heap [] := K4.trans Kq5 (own_trS (Or.inr sz_b4) all0)
  have R5 := R4.trans (CHr.keep Kq5 (sfS Sf_b4_4 sf0) R4.1)
  have Sf_b3_5 := Safe.keep Kq5 (sfS Sf_b4_4 sf0) R4.1 Sf_b3_4
  have Sf_b4_5 := Safe.keep Kq5 (sfS Sf_b4_4 sf0) R4.1 Sf_b4_4
  have Sf_bv_5 := Safe.keep Kq5 (sfS Sf_b4_4 sf0) R4.1 (Safe.new gz_bv)
  -- pc 14: java/lang/StringBuilder.append by the contract of the body that the receiver's class selects, rm11
  obtain ⟨cq6, kq6, q6a, q6b, q6c⟩ := isOf hZ rfl (E_b4.keep Kq5)
  obtain ⟨_, _, ⟨T6, L6, k6, n6⟩, -, X6, ⟨Lc6, hQ6, l6, y6, z6⟩, st6⟩ := X5.virtualBack hx (y := (⟨"java/lang/StringBuilder", "append", "(Ljava/lang/String;)Ljava/lang/StringBuilder;"⟩ : MethodName)) (z := (⟨"java/lang/StringBuilder", "append", "(Ljava/lang/String;)Ljava/lang/StringBuilder;"⟩ : MethodName)) hown (mvT hZ (hw _ (List.mem_of_getElem? (i := 61) rfl))) (mvT hZ (hw _ (List.mem_of_getElem? (i := 62) rfl))) (notFace_of_selects (args := #[]) (mvT hZ (hw _ (List.mem_of_getElem? (i := 64) rfl)))) (mvT hZ (hw _ (List.mem_of_getElem? (i := 64) rfl))) (mvT hZ (hw _ (List.mem_of_getElem? (i := 63) rfl))) (by decide) (backOf (W := 3) (rm11 l Z a0 hw [] b4 a1 G1 bv sp (0 : Int32) kbv (16 : Int32) own_b0v (.int (0 : Int32)) k_sp z_sp vs_sp dv_sp T5.heap n0 (Nat.le_trans (Nat.le_trans (Nat.le_trans Z0 E3.1) E4.1) Kq5.1) S_COMPACT_STRINGS (X00.keep K5 all0) P3 (E_b4.keep Kq5) Fv5 Fd5 Fn5 (((E_a1.ext E3).ext E4).keep Kq5) (((F_value_a1.ext E3).ext E4).keep Kq5 (fun q => absurd (List.mem_singleton.mp q) (Nat.ne_of_lt (Nat.lt_of_lt_of_le (E_a1.ext E3).lt (Nat.le_of_eq g4.symm))))) (((F_coder_a1.ext E3).ext E4).keep Kq5 (fun q => absurd (List.mem_singleton.mp q) (Nat.ne_of_lt (Nat.lt_of_lt_of_le (E_a1.ext E3).lt (Nat.le_of_eq g4.symm))))) Vb5 (((V_sp.ext E3).ext E4).keep Kq5 (fun q => absurd (List.mem_singleton.mp q) (Nat.ne_of_lt (Nat.lt_of_lt_of_le (V_sp.ext E3).lt (Nat.le_of_eq g4.symm))))) g_bv g_b4 hzp (by decide) s1 s2 s3) hZ (hw _ (List.mem_of_getElem? (i := 65) rfl)) (hw _ (List.mem_of_getElem? (i := 45) rfl)) (by decide) (by decide)) q6a q6c (g := (mkF m 14 #[.val (.ref a1), .val (.ref a2)] [(.ref a1), (.ref b4), (.int (64 : Int32)), (.ref b3), (.ref b3)])) rfl (by rw [hml]; rfl) (Steps.refl _) (argsL := [(.ref a1)]) (rest := [(.int (64 : Int32)), (.ref b3), (.ref b3)]) (lenOf pd_8_9 rfl) rfl (by show 2 * 0 + _ ≤ _; exact Nat.le_of_eq rfl) (hb hby d8_14) (fun _ _ => ⟨rfl, rfl, (by decide : 3 + 0 ≤ _), (by decide : 27 + 0 ≤ _)⟩)
  dsimp only [Pt.U, Pt.locs, Pt.cells, Pt.slots] at X6 l6 y6 z6 st6 hQ6
  subst l6 y6 z6
  obtain ⟨rfl, N6q, Kc6, Fn6, Fv6, Fd6, Vb6⟩ := hQ6      -- what it returned, that it wrote nothing old, and the rest of your Q11
  have N6 := Fr.app N5 N6q
  have Kq6 : Keep T5.heap T6.heap [bv, b4] := Kc6
  have K6 : Keep h0 T6.heap [] := K5.trans Kq6 (own_trS (Or.inr sz_bv) (own_trS (Or.inr sz_b4) all0))
  have R6 := R5.trans (CHr.keep Kq6 (sfS Sf_bv_5 (sfS Sf_b4_5 sf0)) R5.1)
  have Sf_b3_6 := Safe.keep Kq6 (sfS Sf_bv_5 (sfS Sf_b4_5 sf0)) R5.1 Sf_b3_5
  have Sf_b4_6 := Safe.keep Kq6 (sfS Sf_bv_5 (sfS Sf_b4_5 sf0)) R5.1 Sf_b4_5
  have Sf_bv_6 := Safe.keep Kq6 (sfS Sf_bv_5 (sfS Sf_b4_5 sf0)) R5.1 Sf_bv_5
  obtain ⟨b7, T7, h7, k1_7, v7, kc7, X7, e7, E7, hS, hk, hZ7, hown7, E_b7, F_coder_b7, F_value_b7, V_v7, lt_b7, lt_v7, Cr7, Lit_b7, Sep7, st7⟩ := ldcCH X6 hx hZ hown (hw _ (List.mem_of_getElem? (i := 108) rfl)) (own_wS hw) rfl hS (Nat.le_trans (Nat.le_trans (Nat.le_trans (Nat.le_trans hk E3.1) E4.1) Kq5.1) Kq6.1) (own_EW hw) (by decide) R6.1 (vs := [(.int (59 : Int32)), (.int (32 : Int32)), (.int (117 : Int32)), (.int (115 : Int32)), (.int (97 : Int32)), (.int (103 : Int32)), (.int (101 : Int32)), (.int (58 : Int32)), (.int (32 : Int32))]) (z := (9 : Int32)) ⟨by decide, by decide⟩ (by decide) (by decide) (g := (mkF m 17 #[.val (.ref a1), .val (.ref a2)] [(.ref b4), (.int (64 : Int32)), (.ref b3), (.ref b3)])) rfl (hb hby d8_17) (n := 36) (by decide) (by decide) (by decide) (by decide)
  have Sf_b3_7 := Cr7.safe (((E_b3.ext E4).keep Kq5).keep Kq6).lt Sf_b3_6
  have Sf_b4_7 := Cr7.safe ((E_b4.keep Kq5).keep Kq6).lt Sf_b4_6
  have Sf_bv_7 := Cr7.safe Vb6.lt Sf_bv_6
  have R7 := R6.trans Cr7
  have K7 : Keep h0 h7 [] := K6.ext E7
  -- pc 19: java/lang/StringBuilder.append by the contract of the body that the receiver's class selects, rm11
  obtain ⟨cq8, kq8, q8a, q8b, q8c⟩ := isOf hZ7 e7 (((E_b4.keep Kq5).keep Kq6).ext E7)
  obtain ⟨_, _, ⟨T8, L8, k8, n8⟩, -, X8, ⟨Lc8, hQ8, l8, y8, z8⟩, st8⟩ := X7.virtualBack hx (y := (⟨"java/lang/StringBuilder", "append", "(Ljava/lang/String;)Ljava/lang/StringBuilder;"⟩ : MethodName)) (z := (⟨"java/lang/StringBuilder", "append", "(Ljava/lang/String;)Ljava/lang/StringBuilder;"⟩ : MethodName)) hown7 (mvT hZ7 (hw _ (List.mem_of_getElem? (i := 61) rfl))) (mvT hZ7 (hw _ (List.mem_of_getElem? (i := 62) rfl))) (notFace_of_selects (args := #[]) (mvT hZ7 (hw _ (List.mem_of_getElem? (i := 64) rfl)))) (mvT hZ7 (hw _ (List.mem_of_getElem? (i := 64) rfl))) (mvT hZ7 (hw _ (List.mem_of_getElem? (i := 63) rfl))) (by decide) (backOf (W := 3) (rm11 l Z a0 hw [] b4 b7 G1 bv v7 ((0 : Int32) + z_sp) kbv (16 : Int32) (own_b1 vs_sp) (.int (0 : Int32)) kc7 (9 : Int32) [(.int (59 : Int32)), (.int (32 : Int32)), (.int (117 : Int32)), (.int (115 : Int32)), (.int (97 : Int32)), (.int (103 : Int32)), (.int (101 : Int32)), (.int (58 : Int32)), (.int (32 : Int32))] (.int (0 : Int32)) h7 n0 (Nat.le_trans (Nat.le_trans (Nat.le_trans (Nat.le_trans (Nat.le_trans Z0 E3.1) E4.1) Kq5.1) Kq6.1) E7.1) S_COMPACT_STRINGS (X00.keep K7 all0) P3 (((E_b4.keep Kq5).keep Kq6).ext E7) (Fv6.ext E7) (Fd6.ext E7) (Fn6.ext E7) E_b7 F_value_b7 F_coder_b7 (Vb6.ext E7) V_v7 g_bv g_b4 (by decide) t1 t2 t3 t4) hZ7 (hw _ (List.mem_of_getElem? (i := 65) rfl)) (hw _ (List.mem_of_getElem? (i := 45) rfl)) (by decide) (by decide)) q8a q8c (g := (mkF m 19 #[.val (.ref a1), .val (.ref a2)] [(.ref b7), (.ref b4), (.int (64 : Int32)), (.ref b3), (.ref b3)])) rfl (by rw [hml]; rfl) (Steps.refl _) (argsL := [(.ref b7)]) (rest := [(.int (64 : Int32)), (.ref b3), (.ref b3)]) (lenOf pd_8_9 rfl) rfl (by show 2 * 0 + _ ≤ _; exact Nat.le_of_eq rfl) (hb hby d8_19) (fun _ _ => ⟨rfl, e7, (by decide : 5 + 0 ≤ _), (by decide : 67 + 0 ≤ _)⟩)
  dsimp only [Pt.U, Pt.locs, Pt.cells, Pt.slots] at X8 l8 y8 z8 st8 hQ8
  subst l8 y8 z8
  obtain ⟨rfl, N8q, Kc8, Fn8, Fv8, Fd8, Vb8⟩ := hQ8      -- what it returned, that it wrote nothing old, and the rest of your Q11
  have N8 := Fr.app N6 N8q
  have Kq8 : Keep h7 T8.heap [bv, b4] := Kc8
  have K8 : Keep h0 T8.heap [] := K7.trans Kq8 (own_trS (Or.inr sz_bv) (own_trS (Or.inr sz_b4) all0))
  have R8 := R7.trans (CHr.keep Kq8 (sfS Sf_bv_7 (sfS Sf_b4_7 sf0)) R7.1)
  have Sf_b3_8 := Safe.keep Kq8 (sfS Sf_bv_7 (sfS Sf_b4_7 sf0)) R7.1 Sf_b3_7
  have Sf_b4_8 := Safe.keep Kq8 (sfS Sf_bv_7 (sfS Sf_b4_7 sf0)) R7.1 Sf_b4_7
  have Sf_bv_8 := Safe.keep Kq8 (sfS Sf_bv_7 (sfS Sf_b4_7 sf0)) R7.1 Sf_bv_7
  -- pc 23: java/lang/StringBuilder.append by the contract of the body that the receiver's class selects, rm11
  obtain ⟨cq9, kq9, q9a, q9b, q9c⟩ := isOf hZ7 rfl ((((E_b4.keep Kq5).keep Kq6).ext E7).keep Kq8)
  obtain ⟨_, _, ⟨T9, L9, k9, n9⟩, -, X9, ⟨Lc9, hQ9, l9, y9, z9⟩, st9⟩ := X8.virtualBack hx (y := (⟨"java/lang/StringBuilder", "append", "(Ljava/lang/String;)Ljava/lang/StringBuilder;"⟩ : MethodName)) (z := (⟨"java/lang/StringBuilder", "append", "(Ljava/lang/String;)Ljava/lang/StringBuilder;"⟩ : MethodName)) hown7 (mvT hZ7 (hw _ (List.mem_of_getElem? (i := 61) rfl))) (mvT hZ7 (hw _ (List.mem_of_getElem? (i := 62) rfl))) (notFace_of_selects (args := #[]) (mvT hZ7 (hw _ (List.mem_of_getElem? (i := 64) rfl)))) (mvT hZ7 (hw _ (List.mem_of_getElem? (i := 64) rfl))) (mvT hZ7 (hw _ (List.mem_of_getElem? (i := 63) rfl))) (by decide) (backOf (W := 3) (rm11 l Z a0 hw [] b4 a2 G1 bv su ((0 : Int32) + z_sp + (9 : Int32)) kbv (16 : Int32) (own_b2 z_sp vs_sp [(.int (59 : Int32)), (.int (32 : Int32)), (.int (117 : Int32)), (.int (115 : Int32)), (.int (97 : Int32)), (.int (103 : Int32)), (.int (101 : Int32)), (.int (58 : Int32)), (.int (32 : Int32))]) (.int (0 : Int32)) k_su z_su vs_su dv_su T8.heap n0 (Nat.le_trans (Nat.le_trans (Nat.le_trans (Nat.le_trans (Nat.le_trans (Nat.le_trans Z0 E3.1) E4.1) Kq5.1) Kq6.1) E7.1) Kq8.1) S_COMPACT_STRINGS (X00.keep K8 all0) P3 ((((E_b4.keep Kq5).keep Kq6).ext E7).keep Kq8) Fv8 Fd8 Fn8 ((((((E_a2.ext E3).ext E4).keep Kq5).keep Kq6).ext E7).keep Kq8) ((((((F_value_a2.ext E3).ext E4).keep Kq5 (fun q => absurd (List.mem_singleton.mp q) (Nat.ne_of_lt (Nat.lt_of_lt_of_le (E_a2.ext E3).lt (Nat.le_of_eq g4.symm))))).keep Kq6 (own_nm (Nat.ne_of_lt (Nat.lt_of_lt_of_le ((E_a2.ext E3).ext E4).lt gz_bv)) (fun q => absurd (List.mem_singleton.mp q) (Nat.ne_of_lt (Nat.lt_of_lt_of_le (E_a2.ext E3).lt (Nat.le_of_eq g4.symm)))))).ext E7).keep Kq8 (own_nm (Nat.ne_of_lt (Nat.lt_of_lt_of_le ((E_a2.ext E3).ext E4).lt gz_bv)) (fun q => absurd (List.mem_singleton.mp q) (Nat.ne_of_lt (Nat.lt_of_lt_of_le (E_a2.ext E3).lt (Nat.le_of_eq g4.symm)))))) ((((((F_coder_a2.ext E3).ext E4).keep Kq5 (fun q => absurd (List.mem_singleton.mp q) (Nat.ne_of_lt (Nat.lt_of_lt_of_le (E_a2.ext E3).lt (Nat.le_of_eq g4.symm))))).keep Kq6 (own_nm (Nat.ne_of_lt (Nat.lt_of_lt_of_le ((E_a2.ext E3).ext E4).lt gz_bv)) (fun q => absurd (List.mem_singleton.mp q) (Nat.ne_of_lt (Nat.lt_of_lt_of_le (E_a2.ext E3).lt (Nat.le_of_eq g4.symm)))))).ext E7).keep Kq8 (own_nm (Nat.ne_of_lt (Nat.lt_of_lt_of_le ((E_a2.ext E3).ext E4).lt gz_bv)) (fun q => absurd (List.mem_singleton.mp q) (Nat.ne_of_lt (Nat.lt_of_lt_of_le (E_a2.ext E3).lt (Nat.le_of_eq g4.symm)))))) Vb8 ((((((V_su.ext E3).ext E4).keep Kq5 (fun q => absurd (List.mem_singleton.mp q) (Nat.ne_of_lt (Nat.lt_of_lt_of_le (V_su.ext E3).lt (Nat.le_of_eq g4.symm))))).keep Kq6 (own_nm (Nat.ne_of_lt (Nat.lt_of_lt_of_le ((V_su.ext E3).ext E4).lt gz_bv)) (fun q => absurd (List.mem_singleton.mp q) (Nat.ne_of_lt (Nat.lt_of_lt_of_le (V_su.ext E3).lt (Nat.le_of_eq g4.symm)))))).ext E7).keep Kq8 (own_nm (Nat.ne_of_lt (Nat.lt_of_lt_of_le ((V_su.ext E3).ext E4).lt gz_bv)) (fun q => absurd (List.mem_singleton.mp q) (Nat.ne_of_lt (Nat.lt_of_lt_of_le (V_su.ext E3).lt (Nat.le_of_eq g4.symm)))))) g_bv g_b4 hzu v1 v2 v3 v4) hZ7 (hw _ (List.mem_of_getElem? (i := 65) rfl)) (hw _ (List.mem_of_getElem? (i := 45) rfl)) (by decide) (by decide)) q9a q9c (g := (mkF m 23 #[.val (.ref a1), .val (.ref a2)] [(.ref a2), (.ref b4), (.int (64 : Int32)), (.ref b3), (.ref b3)])) rfl (by rw [hml]; rfl) (Steps.refl _) (argsL := [(.ref a2)]) (rest := [(.int (64 : Int32)), (.ref b3), (.ref b3)]) (lenOf pd_8_9 rfl) rfl (by show 2 * 0 + _ ≤ _; exact Nat.le_of_eq rfl) (hb hby d8_23) (fun _ _ => ⟨rfl, rfl, (by decide : 5 + 0 ≤ _), (by decide : 67 + 0 ≤ _)⟩)
  dsimp only [Pt.U, Pt.locs, Pt.cells, Pt.slots] at X9 l9 y9 z9 st9 hQ9
  subst l9 y9 z9
  obtain ⟨rfl, N9q, Kc9, Fn9, Fv9, Fd9, Vb9⟩ := hQ9      -- what it returned, that it wrote nothing old, and the rest of your Q11
  have N9 := Fr.app N8 N9q
  have Kq9 : Keep T8.heap T9.heap [bv, b4] := Kc9
  have K9 : Keep h0 T9.heap [] := K8.trans Kq9 (own_trS (Or.inr sz_bv) (own_trS (Or.inr sz_b4) all0))
  have R9 := R8.trans (CHr.keep Kq9 (sfS Sf_bv_8 (sfS Sf_b4_8 sf0)) R8.1)
  have Sf_b3_9 := Safe.keep Kq9 (sfS Sf_bv_8 (sfS Sf_b4_8 sf0)) R8.1 Sf_b3_8
  have Sf_b4_9 := Safe.keep Kq9 (sfS Sf_bv_8 (sfS Sf_b4_8 sf0)) R8.1 Sf_b4_8
  have Sf_bv_9 := Safe.keep Kq9 (sfS Sf_bv_8 (sfS Sf_b4_8 sf0)) R8.1 Sf_bv_8
  -- pc 26: java/lang/StringBuilder.toString by the contract of the body that the receiver's class selects, rm19
  obtain ⟨cq10, kq10, q10a, q10b, q10c⟩ := isOf hZ7 rfl (((((E_b4.keep Kq5).keep Kq6).ext E7).keep Kq8).keep Kq9)
  obtain ⟨_, _, ⟨T10, L10, k10, n10⟩, -, X10, ⟨Lc10, hQ10, l10, y10, z10⟩, st10⟩ := X9.virtualBack hx (y := (⟨"java/lang/StringBuilder", "toString", "()Ljava/lang/String;"⟩ : MethodName)) (z := (⟨"java/lang/StringBuilder", "toString", "()Ljava/lang/String;"⟩ : MethodName)) hown7 (mvT hZ7 (hw _ (List.mem_of_getElem? (i := 109) rfl))) (mvT hZ7 (hw _ (List.mem_of_getElem? (i := 110) rfl))) (notFace_of_selects (args := #[]) (mvT hZ7 (hw _ (List.mem_of_getElem? (i := 112) rfl)))) (mvT hZ7 (hw _ (List.mem_of_getElem? (i := 112) rfl))) (mvT hZ7 (hw _ (List.mem_of_getElem? (i := 111) rfl))) (by decide) (backOf (W := 3) (rm19 l Z a0 hw [] b4 G1 bv ((0 : Int32) + z_sp + (9 : Int32) + z_su) kbv (16 : Int32) (own_b3 z_sp vs_sp [(.int (59 : Int32)), (.int (32 : Int32)), (.int (117 : Int32)), (.int (115 : Int32)), (.int (97 : Int32)), (.int (103 : Int32)), (.int (101 : Int32)), (.int (58 : Int32)), (.int (32 : Int32))] vs_su) (.int (0 : Int32)) T9.heap n0 (Nat.le_trans (Nat.le_trans (Nat.le_trans (Nat.le_trans (Nat.le_trans (Nat.le_trans (Nat.le_trans Z0 E3.1) E4.1) Kq5.1) Kq6.1) E7.1) Kq8.1) Kq9.1) S_COMPACT_STRINGS (X00.keep K9 all0) P3 (((((E_b4.keep Kq5).keep Kq6).ext E7).keep Kq8).keep Kq9) Fv9 Fd9 Fn9 Vb9 x1 x2 x3 x4) hZ7 (hw _ (List.mem_of_getElem? (i := 113) rfl)) (hw _ (List.mem_of_getElem? (i := 45) rfl)) (by decide) (by decide)) q10a q10c (g := (mkF m 26 #[.val (.ref a1), .val (.ref a2)] [(.ref b4), (.int (64 : Int32)), (.ref b3), (.ref b3)])) rfl (by rw [hml]; rfl) (Steps.refl _) (argsL := []) (rest := [(.int (64 : Int32)), (.ref b3), (.ref b3)]) (lenOf pd_8_17 rfl) rfl (by show 2 * 0 + _ ≤ _; exact Nat.le_of_eq rfl) (hb hby d8_26) (fun _ _ => ⟨rfl, rfl, (by decide : 5 + 2 ≤ _), (by decide : 67 + 20 ≤ _)⟩)
  dsimp only [Pt.U, Pt.locs, Pt.cells, Pt.slots] at X10 l10 y10 z10 st10 hQ10
  subst l10 y10 z10
  obtain ⟨bm, rfl, N10q, g_bm, gz_bm, Kt10, E_bm, tm, km, g_tm, gz_tm, Fv_bm, Fc_bm, V_tm⟩ := hQ10      -- what it returned, that it wrote nothing old, and the rest of your Q19
  have N10 := Fr.app N9 N10q
  have Kq10 : Keep T9.heap T10.heap [] := Kt10
  have K10 : Keep h0 T10.heap [] := K9.trans Kq10 all0
  have R10 := R9.trans (CHr.keep Kq10 sf0 R9.1)
  have Sf_b3_10 := Safe.keep Kq10 sf0 R9.1 Sf_b3_9
  have Sf_b4_10 := Safe.keep Kq10 sf0 R9.1 Sf_b4_9
  have Sf_bv_10 := Safe.keep Kq10 sf0 R9.1 Sf_bv_9
  have Sf_bm_10 := Safe.keep Kq10 sf0 R9.1 (Safe.new gz_bm)
  have Sf_tm_10 := Safe.keep Kq10 sf0 R9.1 (Safe.new gz_tm)
  -- pc 29: the constructor of com/example/excl1/excl1/cli/Refusal by its contract rm30
  obtain ⟨_, _, ⟨T11, L11, k11, n11⟩, -, X11, ⟨Lc11, hQ11, l11, y11, z11⟩, st11⟩ := X10.specialBack hx (y := (⟨"com/example/excl1/excl1/cli/Refusal", "<init>", "(ILjava/lang/String;)V"⟩ : MethodName)) rfl hown7 (mvT hZ7 (hw _ (List.mem_of_getElem? (i := 154) rfl))) (mvT hZ7 (hw _ (List.mem_of_getElem? (i := 155) rfl))) (mvT hZ7 (hw _ (List.mem_of_getElem? (i := 156) rfl))) (by decide) (backOfKL (W := 1) (rm30 l Z a0 hw [] b3 (64 : Int32) bm G2 G3 T10.heap n0 (Nat.le_trans (Nat.le_trans (Nat.le_trans (Nat.le_trans (Nat.le_trans (Nat.le_trans (Nat.le_trans (Nat.le_trans Z0 E3.1) E4.1) Kq5.1) Kq6.1) E7.1) Kq8.1) Kq9.1) Kq10.1) hl S_UNASSIGNED_STACK (X00.keep K10 all0) S_SUPPRESSED_SENTINEL (((((((E_b3.ext E4).keep Kq5).keep Kq6).ext E7).keep Kq8).keep Kq9).keep Kq10) (((((((F_cause_b3.ext E4).keep Kq5 (fun q => absurd (List.mem_singleton.mp q) (Nat.ne_of_lt (Nat.lt_of_lt_of_le E_b3.lt (Nat.le_of_eq g4.symm))))).keep Kq6 (own_nm (Nat.ne_of_lt (Nat.lt_of_lt_of_le (E_b3.ext E4).lt gz_bv)) (fun q => absurd (List.mem_singleton.mp q) (Nat.ne_of_lt (Nat.lt_of_lt_of_le E_b3.lt (Nat.le_of_eq g4.symm)))))).ext E7).keep Kq8 (own_nm (Nat.ne_of_lt (Nat.lt_of_lt_of_le (E_b3.ext E4).lt gz_bv)) (fun q => absurd (List.mem_singleton.mp q) (Nat.ne_of_lt (Nat.lt_of_lt_of_le E_b3.lt (Nat.le_of_eq g4.symm)))))).keep Kq9 (own_nm (Nat.ne_of_lt (Nat.lt_of_lt_of_le (E_b3.ext E4).lt gz_bv)) (fun q => absurd (List.mem_singleton.mp q) (Nat.ne_of_lt (Nat.lt_of_lt_of_le E_b3.lt (Nat.le_of_eq g4.symm)))))).keep Kq10 (fun q => nomatch q)) (((((((F_stackTrace_b3.ext E4).keep Kq5 (fun q => absurd (List.mem_singleton.mp q) (Nat.ne_of_lt (Nat.lt_of_lt_of_le E_b3.lt (Nat.le_of_eq g4.symm))))).keep Kq6 (own_nm (Nat.ne_of_lt (Nat.lt_of_lt_of_le (E_b3.ext E4).lt gz_bv)) (fun q => absurd (List.mem_singleton.mp q) (Nat.ne_of_lt (Nat.lt_of_lt_of_le E_b3.lt (Nat.le_of_eq g4.symm)))))).ext E7).keep Kq8 (own_nm (Nat.ne_of_lt (Nat.lt_of_lt_of_le (E_b3.ext E4).lt gz_bv)) (fun q => absurd (List.mem_singleton.mp q) (Nat.ne_of_lt (Nat.lt_of_lt_of_le E_b3.lt (Nat.le_of_eq g4.symm)))))).keep Kq9 (own_nm (Nat.ne_of_lt (Nat.lt_of_lt_of_le (E_b3.ext E4).lt gz_bv)) (fun q => absurd (List.mem_singleton.mp q) (Nat.ne_of_lt (Nat.lt_of_lt_of_le E_b3.lt (Nat.le_of_eq g4.symm)))))).keep Kq10 (fun q => nomatch q)) (((((((F_suppressedExceptions_b3.ext E4).keep Kq5 (fun q => absurd (List.mem_singleton.mp q) (Nat.ne_of_lt (Nat.lt_of_lt_of_le E_b3.lt (Nat.le_of_eq g4.symm))))).keep Kq6 (own_nm (Nat.ne_of_lt (Nat.lt_of_lt_of_le (E_b3.ext E4).lt gz_bv)) (fun q => absurd (List.mem_singleton.mp q) (Nat.ne_of_lt (Nat.lt_of_lt_of_le E_b3.lt (Nat.le_of_eq g4.symm)))))).ext E7).keep Kq8 (own_nm (Nat.ne_of_lt (Nat.lt_of_lt_of_le (E_b3.ext E4).lt gz_bv)) (fun q => absurd (List.mem_singleton.mp q) (Nat.ne_of_lt (Nat.lt_of_lt_of_le E_b3.lt (Nat.le_of_eq g4.symm)))))).keep Kq9 (own_nm (Nat.ne_of_lt (Nat.lt_of_lt_of_le (E_b3.ext E4).lt gz_bv)) (fun q => absurd (List.mem_singleton.mp q) (Nat.ne_of_lt (Nat.lt_of_lt_of_le E_b3.lt (Nat.le_of_eq g4.symm)))))).keep Kq10 (fun q => nomatch q)) (((((((F_detailMessage_b3.ext E4).keep Kq5 (fun q => absurd (List.mem_singleton.mp q) (Nat.ne_of_lt (Nat.lt_of_lt_of_le E_b3.lt (Nat.le_of_eq g4.symm))))).keep Kq6 (own_nm (Nat.ne_of_lt (Nat.lt_of_lt_of_le (E_b3.ext E4).lt gz_bv)) (fun q => absurd (List.mem_singleton.mp q) (Nat.ne_of_lt (Nat.lt_of_lt_of_le E_b3.lt (Nat.le_of_eq g4.symm)))))).ext E7).keep Kq8 (own_nm (Nat.ne_of_lt (Nat.lt_of_lt_of_le (E_b3.ext E4).lt gz_bv)) (fun q => absurd (List.mem_singleton.mp q) (Nat.ne_of_lt (Nat.lt_of_lt_of_le E_b3.lt (Nat.le_of_eq g4.symm)))))).keep Kq9 (own_nm (Nat.ne_of_lt (Nat.lt_of_lt_of_le (E_b3.ext E4).lt gz_bv)) (fun q => absurd (List.mem_singleton.mp q) (Nat.ne_of_lt (Nat.lt_of_lt_of_le E_b3.lt (Nat.le_of_eq g4.symm)))))).keep Kq10 (fun q => nomatch q)) (((((((F_backtrace_b3.ext E4).keep Kq5 (fun q => absurd (List.mem_singleton.mp q) (Nat.ne_of_lt (Nat.lt_of_lt_of_le E_b3.lt (Nat.le_of_eq g4.symm))))).keep Kq6 (own_nm (Nat.ne_of_lt (Nat.lt_of_lt_of_le (E_b3.ext E4).lt gz_bv)) (fun q => absurd (List.mem_singleton.mp q) (Nat.ne_of_lt (Nat.lt_of_lt_of_le E_b3.lt (Nat.le_of_eq g4.symm)))))).ext E7).keep Kq8 (own_nm (Nat.ne_of_lt (Nat.lt_of_lt_of_le (E_b3.ext E4).lt gz_bv)) (fun q => absurd (List.mem_singleton.mp q) (Nat.ne_of_lt (Nat.lt_of_lt_of_le E_b3.lt (Nat.le_of_eq g4.symm)))))).keep Kq9 (own_nm (Nat.ne_of_lt (Nat.lt_of_lt_of_le (E_b3.ext E4).lt gz_bv)) (fun q => absurd (List.mem_singleton.mp q) (Nat.ne_of_lt (Nat.lt_of_lt_of_le E_b3.lt (Nat.le_of_eq g4.symm)))))).keep Kq10 (fun q => nomatch q)) (((((((F_status_b3.ext E4).keep Kq5 (fun q => absurd (List.mem_singleton.mp q) (Nat.ne_of_lt (Nat.lt_of_lt_of_le E_b3.lt (Nat.le_of_eq g4.symm))))).keep Kq6 (own_nm (Nat.ne_of_lt (Nat.lt_of_lt_of_le (E_b3.ext E4).lt gz_bv)) (fun q => absurd (List.mem_singleton.mp q) (Nat.ne_of_lt (Nat.lt_of_lt_of_le E_b3.lt (Nat.le_of_eq g4.symm)))))).ext E7).keep Kq8 (own_nm (Nat.ne_of_lt (Nat.lt_of_lt_of_le (E_b3.ext E4).lt gz_bv)) (fun q => absurd (List.mem_singleton.mp q) (Nat.ne_of_lt (Nat.lt_of_lt_of_le E_b3.lt (Nat.le_of_eq g4.symm)))))).keep Kq9 (own_nm (Nat.ne_of_lt (Nat.lt_of_lt_of_le (E_b3.ext E4).lt gz_bv)) (fun q => absurd (List.mem_singleton.mp q) (Nat.ne_of_lt (Nat.lt_of_lt_of_le E_b3.lt (Nat.le_of_eq g4.symm)))))).keep Kq10 (fun q => nomatch q)) (((((((U_b3.ext E4).keep Kq5 (fun q => absurd (List.mem_singleton.mp q) (Nat.ne_of_lt (Nat.lt_of_lt_of_le E_b3.lt (Nat.le_of_eq g4.symm))))).keep Kq6 (own_nm (Nat.ne_of_lt (Nat.lt_of_lt_of_le (E_b3.ext E4).lt gz_bv)) (fun q => absurd (List.mem_singleton.mp q) (Nat.ne_of_lt (Nat.lt_of_lt_of_le E_b3.lt (Nat.le_of_eq g4.symm)))))).ext E7).keep Kq8 (own_nm (Nat.ne_of_lt (Nat.lt_of_lt_of_le (E_b3.ext E4).lt gz_bv)) (fun q => absurd (List.mem_singleton.mp q) (Nat.ne_of_lt (Nat.lt_of_lt_of_le E_b3.lt (Nat.le_of_eq g4.symm)))))).keep Kq9 (own_nm (Nat.ne_of_lt (Nat.lt_of_lt_of_le (E_b3.ext E4).lt gz_bv)) (fun q => absurd (List.mem_singleton.mp q) (Nat.ne_of_lt (Nat.lt_of_lt_of_le E_b3.lt (Nat.le_of_eq g4.symm)))))).keep Kq10 (fun q => nomatch q)) g_b3) hZ7 (hw _ (List.mem_of_getElem? (i := 156) rfl)) (hw _ (List.mem_of_getElem? (i := 39) rfl)) (by decide) (by decide) (Vm.MethodsKnown.alikeC (hZ.alike.symm.trans hZ7.alike) hK.1) (Vm.FramesKnown.alikeC (hZ.alike.symm.trans hZ7.alike) hK.2)) (g := (mkF m 29 #[.val (.ref a1), .val (.ref a2)] [(.ref bm), (.int (64 : Int32)), (.ref b3), (.ref b3)])) rfl (by rw [hml]; rfl) (Steps.refl _) (a := b3) (argsL := [(.int (64 : Int32)), (.ref bm)]) (rest := [(.ref b3)]) (lenOf pd_8_13 rfl) rfl (by show 2 * 0 + _ ≤ _; exact Nat.le_of_eq rfl) (hb hby d8_29) (fun _ _ => ⟨rfl, rfl, (by decide : 7 + 1 ≤ _), (by decide : 87 + 2752 ≤ _)⟩)
  dsimp only [Pt.U, Pt.locs, Pt.cells, Pt.slots] at X11 l11 y11 z11 st11 hQ11
  subst l11 y11 z11
  obtain ⟨rfl, N11q, Kc11, Uc11, Fm11, Fc11, Fs11⟩ := hQ11      -- what it returned, that it wrote nothing old, and the rest of your Q30
  have N11 := Fr.app N10 N11q
  have Kq11 : Keep T10.heap T11.heap [b3] := Kc11
  have K11 : Keep h0 T11.heap [] := K10.trans Kq11 (own_trS (Or.inr sz_b3) all0)
  have R11 := R10.trans (CHr.keep Kq11 (sfS Sf_b3_10 sf0) R10.1)
  have Sf_b3_11 := Safe.keep Kq11 (sfS Sf_b3_10 sf0) R10.1 Sf_b3_10
  have Sf_b4_11 := Safe.keep Kq11 (sfS Sf_b3_10 sf0) R10.1 Sf_b4_10
  have Sf_bv_11 := Safe.keep Kq11 (sfS Sf_b3_10 sf0) R10.1 Sf_bv_10
  have Sf_bm_11 := Safe.keep Kq11 (sfS Sf_b3_10 sf0) R10.1 Sf_bm_10
  have Sf_tm_11 := Safe.keep Kq11 (sfS Sf_b3_10 sf0) R10.1 Sf_tm_10
  have End_0 := ((((((((E_b3.ext E4).keep Kq5).keep Kq6).ext E7).keep Kq8).keep Kq9).keep Kq10).keep Kq11)
  have End_1 := Fs11
  have End_2 := Fm11
  have End_3 := (E_bm.keep Kq11)
  have End_4 := (Fv_bm.keep Kq11 (fun q => absurd (List.mem_singleton.mp q) (Ne.symm (Nat.ne_of_lt (Nat.lt_of_lt_of_le ((((((E_b3.ext E4).keep Kq5).keep Kq6).ext E7).keep Kq8).keep Kq9).lt gz_bm)))))
  have End_5 := (Fc_bm.keep Kq11 (fun q => absurd (List.mem_singleton.mp q) (Ne.symm (Nat.ne_of_lt (Nat.lt_of_lt_of_le ((((((E_b3.ext E4).keep Kq5).keep Kq6).ext E7).keep Kq8).keep Kq9).lt gz_bm)))))
  have End_6 := (V_tm.keep Kq11 (fun q => absurd (List.mem_singleton.mp q) (Ne.symm (Nat.ne_of_lt (Nat.lt_of_lt_of_le ((((((E_b3.ext E4).keep Kq5).keep Kq6).ext E7).keep Kq8).keep Kq9).lt gz_tm)))))
  obtain ⟨fs, hr, hrun, hended, hRW⟩ := X11.leaveW hS ((Nat.le_trans (Nat.le_trans (Nat.le_trans (Nat.le_trans hk Kq8.1) Kq9.1) Kq10.1) Kq11.1)) (v := some (.ref b3)) (fun h => by rw [Bd.returns] at h; cases h)
  refine ⟨_, _, pre0 _ ?_, hrun, hended, _, _, rfl, ?_, ?_, hRW.1, hRW.2.1, hRW.2.2.1, hRW.2.2.2.mono (by decide) (by decide)⟩
  -- 4. STEPS
  · show Steps p.tables e below (s₁.setTop (mkF m 0 #[.val (.ref a1), .val (.ref a2)] [])) _
    refine st3 _ ?_
    show Steps p.tables e below (T3.setTop (mkF m 3 #[.val (.ref a1), .val (.ref a2)] [(.ref b3)])) _
    refine XS.dup X3.here hx rfl (hb hby d8_3) rfl rfl ?_
    show Steps p.tables e below (T3.setTop (mkF m 4 #[.val (.ref a1), .val (.ref a2)] [(.ref b3), (.ref b3)])) _
    refine XS.bipush X3.here hx rfl (hb hby d8_4) ?_
    show Steps p.tables e below (T3.setTop (mkF m 6 #[.val (.ref a1), .val (.ref a2)] [(.int (64 : Int32)), (.ref b3), (.ref b3)])) _
    refine st4 _ ?_
    show Steps p.tables e below (T4.setTop (mkF m 9 #[.val (.ref a1), .val (.ref a2)] [(.ref b4), (.int (64 : Int32)), (.ref b3), (.ref b3)])) _
    refine XS.dup X4.here hx rfl (hb hby d8_9) rfl rfl ?_
    show Steps p.tables e below (T4.setTop (mkF m 10 #[.val (.ref a1), .val (.ref a2)] [(.ref b4), (.ref b4), (.int (64 : Int32)), (.ref b3), (.ref b3)])) _
    refine st5.trans ?_
    show Steps p.tables e below (T5.setTop (mkF m 13 #[.val (.ref a1), .val (.ref a2)] [(.ref b4), (.int (64 : Int32)), (.ref b3), (.ref b3)])) _
    refine XS.aloadN X5.here hx rfl (hb hby d8_13) rfl rfl ?_
    show Steps p.tables e below (T5.setTop (mkF m 14 #[.val (.ref a1), .val (.ref a2)] [(.ref a1), (.ref b4), (.int (64 : Int32)), (.ref b3), (.ref b3)])) _
    refine st6.trans ?_
    show Steps p.tables e below (T6.setTop (mkF m 17 #[.val (.ref a1), .val (.ref a2)] [(.ref b4), (.int (64 : Int32)), (.ref b3), (.ref b3)])) _
    refine st7 _ ?_
    show Steps p.tables e below (T7.setTop (mkF m 19 #[.val (.ref a1), .val (.ref a2)] [(.ref b7), (.ref b4), (.int (64 : Int32)), (.ref b3), (.ref b3)])) _
    refine st8.trans ?_
    show Steps p.tables e below (T8.setTop (mkF m 22 #[.val (.ref a1), .val (.ref a2)] [(.ref b4), (.int (64 : Int32)), (.ref b3), (.ref b3)])) _
    refine XS.aloadN X8.here hx rfl (hb hby d8_22) rfl rfl ?_
    show Steps p.tables e below (T8.setTop (mkF m 23 #[.val (.ref a1), .val (.ref a2)] [(.ref a2), (.ref b4), (.int (64 : Int32)), (.ref b3), (.ref b3)])) _
    refine st9.trans ?_
    show Steps p.tables e below (T9.setTop (mkF m 26 #[.val (.ref a1), .val (.ref a2)] [(.ref b4), (.int (64 : Int32)), (.ref b3), (.ref b3)])) _
    refine st10.trans ?_
    show Steps p.tables e below (T10.setTop (mkF m 29 #[.val (.ref a1), .val (.ref a2)] [(.ref bm), (.int (64 : Int32)), (.ref b3), (.ref b3)])) _
    refine st11.trans ?_
    show Steps p.tables e below (T11.setTop (mkF m 32 #[.val (.ref a1), .val (.ref a2)] [(.ref b3)])) _
    jvm_step X11.here [X11.here.top, hx, (hb hby d8_32), X11.method', Bd.returns, Value.isRef, FieldType.isReference]
    first | (intro acts; rw [hr _ acts rfl rfl rfl]) | rw [hr _ _ rfl rfl rfl]
    exact Steps.refl _
  · show own_QU Z ((0 : Int32) + z_sp + (9 : Int32) + z_su) (vs_sp ++ [(.int (59 : Int32)), (.int (32 : Int32)), (.int (117 : Int32)), (.int (115 : Int32)), (.int (97 : Int32)), (.int (103 : Int32)), (.int (101 : Int32)), (.int (58 : Int32)), (.int (32 : Int32))] ++ vs_su) h0 n0 _ T11.heap _
    exact ⟨b3, rfl, N11, K11, End_0, End_1, bm, End_2, End_3, tm, km, End_4, End_5, (by rw [← x5]; exact End_6)⟩
  · show CHr Z consts_1 s.vm s.heap T11.vm T11.heap
    rw [hh]
    exact R11.trans (CHv.at X11 hZ7 (own_EW hw) R11.1)
theorem own_narb (x : Int32) : nar .byte (x.toInt8.toInt32) = x.toInt8.toInt32 := by simp [nar]
def own_QJ (Z : State) (a1 a2 : Addr) (h0 : Heap) (n0 : Nat) (v : Option Value) (h : Heap) (L : List Loc) : Prop := v = none ∧ Fr n0 L ∧ Keep h0 h [a1] ∧ Fld Z h a1 "java/lang/String" "value" "[B" (.ref a2) ∧ Fld Z h a1 "java/lang/String" "coder" "B" (.int (0 : Int32))
def own_QM (Z : State) (z : Int32) (vs : List Value) (h0 : Heap) (n0 : Nat) (v : Option Value) (h : Heap) (L : List Loc) : Prop := ∃ a : Addr, v = some (.ref a) ∧ Fr n0 L ∧ Keep h0 h [] ∧ Exa Z h a "java/lang/String" ∧ ∃ (t : Addr) (k : ClassId), Fld Z h a "java/lang/String" "value" "[B" (.ref t) ∧ Fld Z h a "java/lang/String" "coder" "B" (.int (0 : Int32)) ∧ Arv Z h t k .byte z vs (.int (0 : Int32))
theorem d43_0 : decode jdk_43_method_3_code 0 = .ok (.iload_n 0, 1) := by decide +kernel
theorem d43_1 : decode jdk_43_method_3_code 1 = .ok (.sipush 255, 3) := by decide +kernel
theorem d43_4 : decode jdk_43_method_3_code 4 = .ok (.if_icmp .gt 7, 3) := by decide +kernel
theorem d43_7 : decode jdk_43_method_3_code 7 = .ok (.iconst 1, 1) := by decide +kernel
theorem d43_8 : decode jdk_43_method_3_code 8 = .ok (.goto 4, 3) := by decide +kernel
theorem d43_12 : decode jdk_43_method_3_code 12 = .ok (.ireturn, 1) := by decide +kernel
theorem pn_43 : plainName "java/lang/StringLatin1" = true := by first | (simp [plainName, overriddenIn]; done) | decide +kernel
theorem ef_43 (m : MethodId) (x0 : Int32) : entryFrame m #[(.int x0)] 1 = mkF m 0 #[.val (.int x0)] [] := by first | (simp [entryFrame, mkF, argsToLocals, Value.category]; done) | rfl
set_option maxRecDepth 65536 in
set_option maxHeartbeats 40000000 in
theorem rm43 (l : Launch) (Z : State) (a0 : Array Value) (hw : ∀ d ∈ tables_1, d.before a0 Z = true) (ws : List Jvm.Cond) (p1 : Int32) (h0 : Heap) (n0 : Nat) (Z0 : n0 ≤ h0.size) (hc4 : ¬ ((255 : Int32) < p1)) :
    MetFree l (⟨"java/lang/StringLatin1", "canEncode", "(C)Z"⟩ : MethodName) (head1 (Jvm.Cond.code (⟨"java/lang/StringLatin1", "canEncode", "(C)Z"⟩ : MethodName) jdk_43_method_3_code 1 (some .boolean) :: ws) ({ frames := 0, cells := 0, slots := 0, locals := 0 } : Room)) (fun a U => a = #[(.int p1)] ∧ Z.Warmed39 U.vm ∧ U.heap = h0) (fun _ _ _ _ _ => True) (fun _ U o U' => ∃ v L, o = .returned v ∧ own_QR (.int (1 : Int32)) h0 n0 v U'.heap L ∧ FrameEnd U o U' L ({ frames := 0, cells := 0, slots := 0, locals := 0 } : Room).cells ({ frames := 0, cells := 0, slots := 0, locals := 0 } : Room).slots) := by
  refine MetFree.of_bodySF (plainFor_of_name pn_43) hisR ?_
  intro p e s m args below meth c s₁ Bd hml0 hP hK
  obtain ⟨rfl, hZ, hh⟩ := hP
  have hx := Bd.exec
  have hby := Bd.bytes
  have hml : c.maxLocals = 1 := hml0
  have hown : s.vm.findClass "java/lang/StringLatin1" = some m.cls := findClass_of_methodNamed Bd.named
  have hnm := (name_of_methodNamed Bd.named Bd.method).1
  have X0 : Stand p l e ({ frames := 0, cells := 0, slots := 0, locals := 0 } : Room) s m #[(.int p1)] below meth c s₁ [] 0 0 := Stand.of_body Bd
  have e0 : s₁.heap = h0 := by rw [← hh, Bd.state]; rfl
  have N0 := Fr.nil n0
  have pre0 : ∀ t, Steps p.tables e below (s₁.setTop (mkF m 0 #[.val (.int p1)] [])) t → Steps p.tables e below (s₁.setTop (entryFrame m #[(.int p1)] 1)) t := fun t k => castTop (ef_43 m p1) k
  -- 3. LAWS

  obtain ⟨fs, hr, hrun, hended, hW, hsame⟩ := X0.leave (v := some (.int (1 : Int32))) (fun h => by rw [Bd.returns] at h; cases h)
  refine ⟨_, _, pre0 _ ?_, hrun, hended, _, _, rfl, ?_, ⟨_, rfl⟩, hW, hsame.mono (by decide) (by decide)⟩
  -- 4. STEPS
  · show Steps p.tables e below (s₁.setTop (mkF m 0 #[.val (.int p1)] [])) _
    refine XS.iloadN X0.here hx rfl (hb hby d43_0) rfl ?_
    show Steps p.tables e below (s₁.setTop (mkF m 1 #[.val (.int p1)] [(.int p1)])) _
    refine XS.sipush X0.here hx rfl (hb hby d43_1) ?_
    show Steps p.tables e below (s₁.setTop (mkF m 4 #[.val (.int p1)] [(.int (255 : Int32)), (.int p1)])) _
    refine XS.icmpNo X0.here hx rfl (hb hby d43_4) rfl (flt hc4).2.2.1 ?_
    show Steps p.tables e below (s₁.setTop (mkF m 7 #[.val (.int p1)] [])) _
    refine XS.iconst X0.here hx rfl (hb hby d43_7) ?_
    show Steps p.tables e below (s₁.setTop (mkF m 8 #[.val (.int p1)] [(.int (1 : Int32))])) _
    refine XS.goto X0.here hx rfl (pc0 := 8) (pc' := 12) rfl (hb hby d43_8) (by decide) (by decide) ?_
    show Steps p.tables e below (s₁.setTop (mkF m 12 #[.val (.int p1)] [(.int (1 : Int32))])) _
    exact retN X0 hx (t := .boolean) Bd.returns (by simp) (hb hby d43_12) hr
  · show own_QR (.int (1 : Int32)) h0 n0 _ s₁.heap _
    rw [e0]
    exact ⟨rfl, N0, rfl⟩
theorem d44_0 : decode jdk_43_method_46_code 0 = .ok (.iconst 1, 1) := by decide +kernel
theorem d44_1 : decode jdk_43_method_46_code 1 = .ok (.newarray .byte, 2) := by decide +kernel
theorem d44_3 : decode jdk_43_method_46_code 3 = .ok (.dup, 1) := by decide +kernel
theorem d44_4 : decode jdk_43_method_46_code 4 = .ok (.iconst 0, 1) := by decide +kernel
theorem d44_5 : decode jdk_43_method_46_code 5 = .ok (.iload_n 0, 1) := by decide +kernel
theorem d44_6 : decode jdk_43_method_46_code 6 = .ok (.i2b, 1) := by decide +kernel
theorem d44_7 : decode jdk_43_method_46_code 7 = .ok (.bastore, 1) := by decide +kernel
theorem d44_8 : decode jdk_43_method_46_code 8 = .ok (.areturn, 1) := by decide +kernel
theorem pn_44 : plainName "java/lang/StringLatin1" = true := by first | (simp [plainName, overriddenIn]; done) | decide +kernel
theorem ef_44 (m : MethodId) (x0 : Int32) : entryFrame m #[(.int x0)] 1 = mkF m 0 #[.val (.int x0)] [] := by first | (simp [entryFrame, mkF, argsToLocals, Value.category]; done) | rfl
set_option maxRecDepth 65536 in
set_option maxHeartbeats 40000000 in
theorem rm44 (l : Launch) (Z : State) (a0 : Array Value) (hw : ∀ d ∈ tables_1, d.before a0 Z = true) (ws : List Jvm.Cond) (p1 : Int32) (h0 : Heap) (n0 : Nat) (Z0 : n0 ≤ h0.size) :
    MetFree l (⟨"java/lang/StringLatin1", "toBytes", "(C)[B"⟩ : MethodName) (head1 (Jvm.Cond.code (⟨"java/lang/StringLatin1", "toBytes", "(C)[B"⟩ : MethodName) jdk_43_method_46_code 1 (some (.array .byte)) :: ws) ({ frames := 0, cells := 1, slots := 1, locals := 0 } : Room)) (fun a U => a = #[(.int p1)] ∧ Z.Warmed39 U.vm ∧ U.heap = h0) (fun _ _ _ _ _ => True) (fun _ U o U' => ∃ v L, o = .returned v ∧ own_QC Z (1 : Int32) [(.int (p1.toInt8.toInt32))] h0 n0 v U'.heap L ∧ FrameEnd U o U' L ({ frames := 0, cells := 1, slots := 1, locals := 0 } : Room).cells ({ frames := 0, cells := 1, slots := 1, locals := 0 } : Room).slots) := by
  refine MetFree.of_bodySF (plainFor_of_name pn_44) hisR ?_
  intro p e s m args below meth c s₁ Bd hml0 hP hK
  obtain ⟨rfl, hZ, hh⟩ := hP
  have hx := Bd.exec
  have hby := Bd.bytes
  have hml : c.maxLocals = 1 := hml0
  have hown : s.vm.findClass "java/lang/StringLatin1" = some m.cls := findClass_of_methodNamed Bd.named
  have hnm := (name_of_methodNamed Bd.named Bd.method).1
  have X0 : Stand p l e ({ frames := 0, cells := 1, slots := 1, locals := 0 } : Room) s m #[(.int p1)] below meth c s₁ [] 0 0 := Stand.of_body Bd
  have e0 : s₁.heap = h0 := by rw [← hh, Bd.state]; rfl
  have N0 := Fr.nil n0
  have pre0 : ∀ t, Steps p.tables e below (s₁.setTop (mkF m 0 #[.val (.int p1)] [])) t → Steps p.tables e below (s₁.setTop (entryFrame m #[(.int p1)] 1)) t := fun t k => castTop (ef_44 m p1) k
  -- 3. LAWS
  obtain ⟨T2, h2, k2, X2, e2, E2, A2, st2⟩ := newP X0 hx hZ (hw _ (List.mem_of_getElem? (i := 23) rfl)) e0 (g := (mkF m 1 #[.val (.int p1)] [(.int (1 : Int32))])) rfl (hb hby d44_1) rfl (by decide) (cap := 1) (by decide) (by decide) (by decide) (by decide)
  obtain ⟨b2, g2⟩ : ∃ z, z = h0.size := ⟨_, rfl⟩      -- the fresh array's address
  rw [← g2] at A2 st2
  have V_b2 : Arv Z h2 b2 k2 .byte (1 : Int32) [(.int (0 : Int32))] (.int (0 : Int32)) := (Arv.new A2 (by decide)).pad (pad_rep [] (.int (0 : Int32)) 1)
  have g_b2 : n0 ≤ b2 := Nat.le_trans Z0 (Nat.le_of_eq g2.symm)
  have sz_b2 : h0.size ≤ b2 := (Nat.le_trans (Keep.refl h0 []).1 (Nat.le_of_eq g2.symm))
  have K2 : Keep h0 h2 [] := (Keep.refl h0 []).ext E2
  obtain ⟨cl_b2_7, Ar_b2, q_b2, S_b2, N_b2, H_b2, G_b2⟩ := V_b2      -- open the array's fact as it stands now (its cell, kind, length, elements)
  have hin7 : ¬ ((0 : Int32) < 0 ∨ cl_b2_7.slots.size ≤ ((0 : Int32)).toNatClampNeg) := inb_of S_b2 ⟨by decide, by decide⟩
  obtain ⟨T3, h3, X3, e3, W3, st3⟩ := stB X2 hx hZ e2 Ar_b2 (j := (0 : Int32)) hin7 (g := (mkF m 7 #[.val (.int p1)] [(.int (p1.toInt8.toInt32)), (.int (0 : Int32)), (.ref b2), (.ref b2)])) rfl rfl (hb hby d44_7)
  have V_b2_3 := Arv.set Ar_b2 q_b2 S_b2 N_b2 H_b2 G_b2 (fits_nar_byte _) W3 0 rfl (Nat.le_of_ble_eq_true rfl)      -- the array as it stands now (the place must lie among its first values: Arv.pad with pad_rep lengthens them)
  have K3 : Keep h0 h3 [] := K2.wr W3 (Or.inr sz_b2)
  have N3 := Fr.snoc X3 N0 g_b2
  -- (bastore into a boolean[]: stZ in stB's place)
  obtain ⟨fs, hr, hrun, hended, hW, hsame⟩ := X3.leave (v := some (.ref b2)) (fun h => by rw [Bd.returns] at h; cases h)
  refine ⟨_, _, pre0 _ ?_, hrun, hended, _, _, rfl, ?_, ⟨_, rfl⟩, hW, hsame.mono (by decide) (by decide)⟩
  -- 4. STEPS
  · show Steps p.tables e below (s₁.setTop (mkF m 0 #[.val (.int p1)] [])) _
    refine XS.iconst X0.here hx rfl (hb hby d44_0) ?_
    show Steps p.tables e below (s₁.setTop (mkF m 1 #[.val (.int p1)] [(.int (1 : Int32))])) _
    refine st2 _ ?_
    show Steps p.tables e below (T2.setTop (mkF m 3 #[.val (.int p1)] [(.ref b2)])) _
    refine XS.dup X2.here hx rfl (hb hby d44_3) rfl rfl ?_
    show Steps p.tables e below (T2.setTop (mkF m 4 #[.val (.int p1)] [(.ref b2), (.ref b2)])) _
    refine XS.iconst X2.here hx rfl (hb hby d44_4) ?_
    show Steps p.tables e below (T2.setTop (mkF m 5 #[.val (.int p1)] [(.int (0 : Int32)), (.ref b2), (.ref b2)])) _
    refine XS.iloadN X2.here hx rfl (hb hby d44_5) rfl ?_
    show Steps p.tables e below (T2.setTop (mkF m 6 #[.val (.int p1)] [(.int p1), (.int (0 : Int32)), (.ref b2), (.ref b2)])) _
    refine XS.i2b X2.here hx rfl (hb hby d44_6) rfl ?_
    show Steps p.tables e below (T2.setTop (mkF m 7 #[.val (.int p1)] [(.int (p1.toInt8.toInt32)), (.int (0 : Int32)), (.ref b2), (.ref b2)])) _
    refine st3 _ ?_
    show Steps p.tables e below (T3.setTop (mkF m 8 #[.val (.int p1)] [(.ref b2)])) _
    jvm_step X3.here [X3.here.top, hx, (hb hby d44_8), X3.method', Bd.returns, Value.isRef, FieldType.isReference]
    first | (intro acts; rw [hr _ acts rfl rfl rfl]) | rw [hr _ _ rfl rfl rfl]
    exact Steps.refl _
  · show own_QC Z (1 : Int32) [(.int (p1.toInt8.toInt32))] h0 n0 _ T3.heap _
    rw [e3]
    have q : Arv Z h3 b2 k2 .byte (1 : Int32) [(.int (nar .byte (p1.toInt8.toInt32)))] (.int (0 : Int32)) := V_b2_3
    rw [own_narb] at q
    exact ⟨b2, rfl, N3, g_b2, sz_b2, K3, k2, q⟩
theorem d45_0 : decode jdk_42_method_151_code 0 = .ok (.aload_n 0, 1) := by decide +kernel
theorem d45_1 : decode jdk_42_method_151_code 1 = .ok (.invokespecial 1, 3) := by decide +kernel
theorem d45_4 : decode jdk_42_method_151_code 4 = .ok (.aload_n 0, 1) := by decide +kernel
theorem d45_5 : decode jdk_42_method_151_code 5 = .ok (.aload_n 1, 1) := by decide +kernel
theorem d45_6 : decode jdk_42_method_151_code 6 = .ok (.putfield 9, 3) := by decide +kernel
theorem d45_9 : decode jdk_42_method_151_code 9 = .ok (.aload_n 0, 1) := by decide +kernel
theorem d45_10 : decode jdk_42_method_151_code 10 = .ok (.iload_n 2, 1) := by decide +kernel
theorem d45_11 : decode jdk_42_method_151_code 11 = .ok (.putfield 15, 3) := by decide +kernel
theorem d45_14 : decode jdk_42_method_151_code 14 = .ok (.return_, 1) := by decide +kernel
theorem pn_45 : plainName "java/lang/String" = true := by first | (simp [plainName, overriddenIn]; done) | decide +kernel
theorem ef_45 (m : MethodId) (x0 : Addr) (x1 : Addr) (x2 : Int32) : entryFrame m #[(.ref x0), (.ref x1), (.int x2)] 3 = mkF m 0 #[.val (.ref x0), .val (.ref x1), .val (.int x2)] [] := by first | (simp [entryFrame, mkF, argsToLocals, Value.category]; done) | rfl
set_option maxRecDepth 65536 in
set_option maxHeartbeats 40000000 in
theorem rm45 (l : Launch) (Z : State) (a0 : Array Value) (hw : ∀ d ∈ tables_1, d.before a0 Z = true) (ws : List Jvm.Cond) (a1 : Addr) (a2 : Addr) (_q : Int32) (h0 : Heap) (n0 : Nat) (Z0 : n0 ≤ h0.size) (E_a1 : Exa Z h0 a1 "java/lang/String") (F_value_a1 : Fld Z h0 a1 "java/lang/String" "value" "[B" .null) (F_coder_a1 : Fld Z h0 a1 "java/lang/String" "coder" "B" (.int (0 : Int32))) (g_a1 : n0 ≤ a1) :
    MetFree l (⟨"java/lang/String", "<init>", "([BB)V"⟩ : MethodName) (head1 (Jvm.Cond.code (⟨"java/lang/String", "<init>", "([BB)V"⟩ : MethodName) jdk_42_method_151_code 3 none :: ws) ({ frames := 1, cells := 0, slots := 0, locals := 12 } : Room)) (fun a U => a = #[(.ref a1), (.ref a2), (.int (0 : Int32))] ∧ Z.Warmed39 U.vm ∧ U.heap = h0) (fun _ _ _ _ _ => True) (fun _ U o U' => ∃ v L, o = .returned v ∧ own_QJ Z a1 a2 h0 n0 v U'.heap L ∧ FrameEnd U o U' L ({ frames := 1, cells := 0, slots := 0, locals := 12 } : Room).cells ({ frames := 1, cells := 0, slots := 0, locals := 12 } : Room).slots) := by
  refine MetFree.of_bodySF (plainFor_of_name pn_45) hisR ?_
  intro p e s m args below meth c s₁ Bd hml0 hP hK
  obtain ⟨rfl, hZ, hh⟩ := hP
  have hx := Bd.exec
  have hby := Bd.bytes
  have hml : c.maxLocals = 3 := hml0
  have hown : s.vm.findClass "java/lang/String" = some m.cls := findClass_of_methodNamed Bd.named
  have hnm := (name_of_methodNamed Bd.named Bd.method).1
  have X0 : Stand p l e ({ frames := 1, cells := 0, slots := 0, locals := 12 } : Room) s m #[(.ref a1), (.ref a2), (.int (0 : Int32))] below meth c s₁ [] 0 0 := Stand.of_body Bd
  have e0 : s₁.heap = h0 := by rw [← hh, Bd.state]; rfl
  have N0 := Fr.nil n0
  have pre0 : ∀ t, Steps p.tables e below (s₁.setTop (mkF m 0 #[.val (.ref a1), .val (.ref a2), .val (.int (0 : Int32))] [])) t → Steps p.tables e below (s₁.setTop (entryFrame m #[(.ref a1), (.ref a2), (.int (0 : Int32))] 3)) t := fun t k => castTop (ef_45 m a1 a2 (0 : Int32)) k
  -- 3. LAWS
  obtain ⟨T3, X3, e3, st3⟩ := initO X0 hx hZ hown (hw _ (List.mem_of_getElem? (i := 15) rfl)) (hw _ (List.mem_of_getElem? (i := 16) rfl)) (hw _ (List.mem_of_getElem? (i := 17) rfl)) e0 (g := (mkF m 1 #[.val (.ref a1), .val (.ref a2), .val (.int (0 : Int32))] [(.ref a1)])) rfl (by rw [hml]; rfl) rfl (hb hby d45_1) (by decide) (W := 0) (by show 2 * 0 + _ ≤ _; exact Nat.le_of_eq rfl) (by decide)
  obtain ⟨T4, h4, X4, e4, W4, st4⟩ := putF X3 hx hZ hown (host := "") (Or.inl (hw _ (List.mem_of_getElem? (i := 32) rfl))) Via.refl e3 F_value_a1 E_a1 (Or.inr ⟨(hw _ (List.mem_of_getElem? (i := 33) rfl)), rfl, hnm⟩) (hw _ (List.mem_of_getElem? (i := 5) rfl)) (ty := (.array .byte)) (by decide) rfl rfl (g := (mkF m 6 #[.val (.ref a1), .val (.ref a2), .val (.int (0 : Int32))] [(.ref a2), (.ref a1)])) rfl rfl (hb hby d45_6)
  have Fw4 := F_value_a1.same W4      -- the field now holds (.ref a2)
  have K4 : Keep h0 h4 [a1] := (Keep.refl h0 [a1]).wr W4 (Or.inl (List.mem_of_getElem? (i := 0) rfl))
  have N4 := Fr.snoc X4 N0 g_a1
  obtain ⟨T5, h5, X5, e5, W5, st5⟩ := putFN X4 hx hZ hown (hw _ (List.mem_of_getElem? (i := 30) rfl)) Via.refl e4 (F_coder_a1.other W4 (Or.inr (slot_ne (Or.inr (hw _ (List.mem_of_getElem? (i := 31) rfl))) (Or.inr (hw _ (List.mem_of_getElem? (i := 33) rfl))) (by decide) (t := .byte) (t' := (.array .byte)) (by decide) (by decide)))) (E_a1.wr W4) (Or.inr ⟨(hw _ (List.mem_of_getElem? (i := 31) rfl)), rfl, hnm⟩) (hw _ (List.mem_of_getElem? (i := 5) rfl)) (ty := .byte) (v' := .int (nar .byte (0 : Int32))) (by decide) rfl (fits_nar_byte _) (g := (mkF m 11 #[.val (.ref a1), .val (.ref a2), .val (.int (0 : Int32))] [(.int (0 : Int32)), (.ref a1)])) rfl rfl (hb hby d45_11)
  have Fw5 := (F_coder_a1.other W4 (Or.inr (slot_ne (Or.inr (hw _ (List.mem_of_getElem? (i := 31) rfl))) (Or.inr (hw _ (List.mem_of_getElem? (i := 33) rfl))) (by decide) (t := .byte) (t' := (.array .byte)) (by decide) (by decide)))).same W5      -- the field now holds (.int (0 : Int32))
  have K5 : Keep h0 h5 [a1] := K4.wr W5 (Or.inl (List.mem_of_getElem? (i := 0) rfl))
  have N5 := Fr.snoc X5 N4 g_a1
  have End_0 := (Fw4.other W5 (Or.inr (slot_ne (Or.inr (hw _ (List.mem_of_getElem? (i := 33) rfl))) (Or.inr (hw _ (List.mem_of_getElem? (i := 31) rfl))) (by decide) (t := (.array .byte)) (t' := .byte) (by decide) (by decide))))
  have End_1 := Fw5
  obtain ⟨fs, hr, hrun, hended, hW, hsame⟩ := X5.leave (v := none) (fun _ => rfl)
  refine ⟨_, _, pre0 _ ?_, hrun, hended, _, _, rfl, ?_, ⟨_, rfl⟩, hW, hsame.mono (by decide) (by decide)⟩
  -- 4. STEPS
  · show Steps p.tables e below (s₁.setTop (mkF m 0 #[.val (.ref a1), .val (.ref a2), .val (.int (0 : Int32))] [])) _
    refine XS.aloadN X0.here hx rfl (hb hby d45_0) rfl rfl ?_
    show Steps p.tables e below (s₁.setTop (mkF m 1 #[.val (.ref a1), .val (.ref a2), .val (.int (0 : Int32))] [(.ref a1)])) _
    refine st3 _ ?_
    show Steps p.tables e below (T3.setTop (mkF m 4 #[.val (.ref a1), .val (.ref a2), .val (.int (0 : Int32))] [])) _
    refine XS.aloadN X3.here hx rfl (hb hby d45_4) rfl rfl ?_
    show Steps p.tables e below (T3.setTop (mkF m 5 #[.val (.ref a1), .val (.ref a2), .val (.int (0 : Int32))] [(.ref a1)])) _
    refine XS.aloadN X3.here hx rfl (hb hby d45_5) rfl rfl ?_
    show Steps p.tables e below (T3.setTop (mkF m 6 #[.val (.ref a1), .val (.ref a2), .val (.int (0 : Int32))] [(.ref a2), (.ref a1)])) _
    refine st4 _ ?_
    show Steps p.tables e below (T4.setTop (mkF m 9 #[.val (.ref a1), .val (.ref a2), .val (.int (0 : Int32))] [])) _
    refine XS.aloadN X4.here hx rfl (hb hby d45_9) rfl rfl ?_
    show Steps p.tables e below (T4.setTop (mkF m 10 #[.val (.ref a1), .val (.ref a2), .val (.int (0 : Int32))] [(.ref a1)])) _
    refine XS.iloadN X4.here hx rfl (hb hby d45_10) rfl ?_
    show Steps p.tables e below (T4.setTop (mkF m 11 #[.val (.ref a1), .val (.ref a2), .val (.int (0 : Int32))] [(.int (0 : Int32)), (.ref a1)])) _
    refine st5 _ ?_
    show Steps p.tables e below (T5.setTop (mkF m 14 #[.val (.ref a1), .val (.ref a2), .val (.int (0 : Int32))] [])) _
    exact X5.returnOut hx Bd.returns (hb hby d45_14) hr
  · show own_QJ Z a1 a2 h0 n0 _ T5.heap _
    rw [e5]
    exact ⟨rfl, N5, K5, End_0, End_1⟩
theorem d42_0 : decode jdk_42_method_139_code 0 = .ok (.getstatic 38, 3) := by decide +kernel
theorem d42_3 : decode jdk_42_method_139_code 3 = .ok (.ifCond .eq 23, 3) := by decide +kernel
theorem d42_6 : decode jdk_42_method_139_code 6 = .ok (.iload_n 0, 1) := by decide +kernel
theorem d42_7 : decode jdk_42_method_139_code 7 = .ok (.invokestatic 1015, 3) := by decide +kernel
theorem d42_10 : decode jdk_42_method_139_code 10 = .ok (.ifCond .eq 16, 3) := by decide +kernel
theorem d42_13 : decode jdk_42_method_139_code 13 = .ok (.new 10, 3) := by decide +kernel
theorem d42_16 : decode jdk_42_method_139_code 16 = .ok (.dup, 1) := by decide +kernel
theorem d42_17 : decode jdk_42_method_139_code 17 = .ok (.iload_n 0, 1) := by decide +kernel
theorem d42_18 : decode jdk_42_method_139_code 18 = .ok (.invokestatic 1018, 3) := by decide +kernel
theorem d42_21 : decode jdk_42_method_139_code 21 = .ok (.iconst 0, 1) := by decide +kernel
theorem d42_22 : decode jdk_42_method_139_code 22 = .ok (.invokespecial 209, 3) := by decide +kernel
theorem d42_25 : decode jdk_42_method_139_code 25 = .ok (.areturn, 1) := by decide +kernel
theorem pn_42 : plainName "java/lang/String" = true := by first | (simp [plainName, overriddenIn]; done) | decide +kernel
theorem pd_42_31 : parseMethodDescriptor "(C)Z" = some ⟨[.char], some .boolean⟩ := by decide +kernel
theorem pd_42_32 : parseMethodDescriptor "(C)[B" = some ⟨[.char], some (.array .byte)⟩ := by decide +kernel
theorem pd_42_33 : parseMethodDescriptor "([BB)V" = some ⟨[(.array .byte), .byte], none⟩ := by decide +kernel
theorem ef_42 (m : MethodId) (x0 : Int32) : entryFrame m #[(.int x0)] 1 = mkF m 0 #[.val (.int x0)] [] := by first | (simp [entryFrame, mkF, argsToLocals, Value.category]; done) | rfl
set_option maxRecDepth 65536 in
set_option maxHeartbeats 40000000 in
theorem rm42 (l : Launch) (Z : State) (a0 : Array Value) (hw : ∀ d ∈ tables_1, d.before a0 Z = true) (ws : List Jvm.Cond) (p1 : Int32) (G1 : Int32) (h0 : Heap) (n0 : Nat) (Z0 : n0 ≤ h0.size) (S_COMPACT_STRINGS : Sta Z Z.heap "java/lang/String" "COMPACT_STRINGS" "Z" (.int G1)) (X00 : Old Z n0 h0) (P3 : ¬ (G1 = (0 : Int32))) (hle : ¬ ((255 : Int32) < p1)) (hc10 : ¬ ((1 : Int32) = (0 : Int32))) :
    MetFree l (⟨"java/lang/String", "valueOf", "(C)Ljava/lang/String;"⟩ : MethodName) (head1 (Jvm.Cond.code (⟨"java/lang/String", "valueOf", "(C)Ljava/lang/String;"⟩ : MethodName) jdk_42_method_139_code 1 (some (.object "java/lang/String")) :: ws) ({ frames := 2, cells := 2, slots := 5, locals := 40 } : Room)) (fun a U => a = #[(.int p1)] ∧ Z.Warmed39 U.vm ∧ U.heap = h0) (fun _ _ _ _ _ => True) (fun _ U o U' => ∃ v L, o = .returned v ∧ own_QS Z (1 : Int32) [(.int (p1.toInt8.toInt32))] h0 n0 v U'.heap L ∧ FrameEnd U o U' L ({ frames := 2, cells := 2, slots := 5, locals := 40 } : Room).cells ({ frames := 2, cells := 2, slots := 5, locals := 40 } : Room).slots) := by
  refine MetFree.of_bodySF (plainFor_of_name pn_42) hisR ?_
  intro p e s m args below meth c s₁ Bd hml0 hP hK
  obtain ⟨rfl, hZ, hh⟩ := hP
  have hx := Bd.exec
  have hby := Bd.bytes
  have hml : c.maxLocals = 1 := hml0
  have hown : s.vm.findClass "java/lang/String" = some m.cls := findClass_of_methodNamed Bd.named
  have hnm := (name_of_methodNamed Bd.named Bd.method).1
  have X0 : Stand p l e ({ frames := 2, cells := 2, slots := 5, locals := 40 } : Room) s m #[(.int p1)] below meth c s₁ [] 0 0 := Stand.of_body Bd
  have e0 : s₁.heap = h0 := by rw [← hh, Bd.state]; rfl
  have N0 := Fr.nil n0
  have pre0 : ∀ t, Steps p.tables e below (s₁.setTop (mkF m 0 #[.val (.int p1)] [])) t → Steps p.tables e below (s₁.setTop (entryFrame m #[(.int p1)] 1)) t := fun t k => castTop (ef_42 m p1) k
  -- 3. LAWS
  obtain ⟨T2, X2, e2, st2⟩ := getS2 X0 hx hZ hown (host := "") (Or.inl (hw _ (List.mem_of_getElem? (i := 18) rfl))) Via.refl e0 (S_COMPACT_STRINGS.ext X00.2) (g := (mkF m 0 #[.val (.int p1)] [])) rfl (hb hby d42_0)
  -- pc 7: java/lang/StringLatin1.canEncode by its contract rm43
  obtain ⟨_, _, ⟨T3, L3, k3, n3⟩, -, X3, ⟨Lc3, hQ3, l3, y3, z3⟩, st3⟩ := Jvm.LawKit.callS X2 hx (y := (⟨"java/lang/StringLatin1", "canEncode", "(C)Z"⟩ : MethodName)) hown (mvT hZ (hw _ (List.mem_of_getElem? (i := 244) rfl))) (mvT hZ (hw _ (List.mem_of_getElem? (i := 245) rfl))) (mvT hZ (hw _ (List.mem_of_getElem? (i := 231) rfl))) (mvT hZ (hw _ (List.mem_of_getElem? (i := 246) rfl))) (by decide) (backOf (W := 0) (rm43 l Z a0 hw [] p1  h0 n0 Z0 hle) hZ (hw _ (List.mem_of_getElem? (i := 246) rfl)) (hw _ (List.mem_of_getElem? (i := 231) rfl)) (by decide) (by decide)) (g := (mkF m 7 #[.val (.int p1)] [(.int p1)])) rfl (by rw [hml]; rfl) (argsL := [(.int p1)]) (rest := []) (lenOf pd_42_31 rfl) rfl (by show 2 * 0 + _ ≤ _; exact Nat.le_of_eq rfl) (hb hby d42_7) (fun _ _ => ⟨rfl, e2, (by decide : 0 + 0 ≤ _), (by decide : 0 + 0 ≤ _)⟩)
  dsimp only [Pt.U, Pt.locs, Pt.cells, Pt.slots] at X3 l3 y3 z3 st3 hQ3
  subst l3 y3 z3
  obtain ⟨rfl, N3q, eq3⟩ := hQ3      -- what it returned, that it wrote nothing old, and the rest of your Q43
  have N3 := Fr.app N0 N3q
  have Kq3 : Keep h0 T3.heap [] := (own_keq eq3)
  have K3 : Keep h0 T3.heap [] := (Keep.refl h0 []).trans Kq3 all0
  obtain ⟨T4, h4, X4, e4, E4, A4, D4, Un4, st4⟩ := newO X3 hx hZ hown (hw _ (List.mem_of_getElem? (i := 247) rfl)) (hw _ (List.mem_of_getElem? (i := 5) rfl)) (hw _ (List.mem_of_getElem? (i := 6) rfl)) rfl (g := (mkF m 13 #[.val (.int p1)] [])) rfl (hb hby d42_13) (by decide) (by decide)
  obtain ⟨b4, g4⟩ : ∃ z, z = T3.heap.size := ⟨_, rfl⟩      -- the fresh object's address
  rw [← g4] at A4 D4 Un4 st4
  have U_b4 : Unt h4 b4 := Un4
  have F_coder_b4 : Fld Z h4 b4 "java/lang/String" "coder" "B" (.int (0 : Int32)) := D4 (Or.inr (hw _ (List.mem_of_getElem? (i := 31) rfl))) (ty := .byte) (by decide)
  have F_value_b4 : Fld Z h4 b4 "java/lang/String" "value" "[B" .null := D4 (Or.inr (hw _ (List.mem_of_getElem? (i := 33) rfl))) (ty := (.array .byte)) (by decide)
  have E_b4 := A4
  have g_b4 : n0 ≤ b4 := Nat.le_trans (Nat.le_trans Z0 Kq3.1) (Nat.le_of_eq g4.symm)
  have sz_b4 : h0.size ≤ b4 := (Nat.le_trans K3.1 (Nat.le_of_eq g4.symm))
  have K4 : Keep h0 h4 [] := K3.ext E4
  -- pc 18: java/lang/StringLatin1.toBytes by its contract rm44
  obtain ⟨_, _, ⟨T5, L5, k5, n5⟩, -, X5, ⟨Lc5, hQ5, l5, y5, z5⟩, st5⟩ := Jvm.LawKit.callS X4 hx (y := (⟨"java/lang/StringLatin1", "toBytes", "(C)[B"⟩ : MethodName)) hown (mvT hZ (hw _ (List.mem_of_getElem? (i := 248) rfl))) (mvT hZ (hw _ (List.mem_of_getElem? (i := 249) rfl))) (mvT hZ (hw _ (List.mem_of_getElem? (i := 231) rfl))) (mvT hZ (hw _ (List.mem_of_getElem? (i := 250) rfl))) (by decide) (backOf (W := 2) (rm44 l Z a0 hw [] p1  h4 n0 (Nat.le_trans (Nat.le_trans Z0 Kq3.1) E4.1)) hZ (hw _ (List.mem_of_getElem? (i := 250) rfl)) (hw _ (List.mem_of_getElem? (i := 231) rfl)) (by decide) (by decide)) (g := (mkF m 18 #[.val (.int p1)] [(.int p1), (.ref b4), (.ref b4)])) rfl (by rw [hml]; rfl) (argsL := [(.int p1)]) (rest := [(.ref b4), (.ref b4)]) (lenOf pd_42_32 rfl) rfl (by show 2 * 0 + _ ≤ _; exact Nat.le_of_eq rfl) (hb hby d42_18) (fun _ _ => ⟨rfl, e4, (by decide : 1 + 1 ≤ _), (by decide : 4 + 1 ≤ _)⟩)
  dsimp only [Pt.U, Pt.locs, Pt.cells, Pt.slots] at X5 l5 y5 z5 st5 hQ5
  subst l5 y5 z5
  obtain ⟨tX, rfl, N5q, g_tX, gz_tX, Kt5, kX, VX⟩ := hQ5      -- what it returned, that it wrote nothing old, and the rest of your Q44
  have N5 := Fr.app N3 N5q
  have Kq5 : Keep h4 T5.heap [] := Kt5
  have K5 : Keep h0 T5.heap [] := K4.trans Kq5 all0
  -- pc 22: the constructor of java/lang/String by its contract rm45
  obtain ⟨_, _, ⟨T6, L6, k6, n6⟩, -, X6, ⟨Lc6, hQ6, l6, y6, z6⟩, st6⟩ := X5.specialBack hx (y := (⟨"java/lang/String", "<init>", "([BB)V"⟩ : MethodName)) rfl hown (mvT hZ (hw _ (List.mem_of_getElem? (i := 251) rfl))) (mvT hZ (hw _ (List.mem_of_getElem? (i := 252) rfl))) (mvT hZ (hw _ (List.mem_of_getElem? (i := 253) rfl))) (by decide) (backOf (W := 1) (rm45 l Z a0 hw [] b4 tX (0 : Int32)  T5.heap n0 (Nat.le_trans (Nat.le_trans (Nat.le_trans Z0 Kq3.1) E4.1) Kq5.1) (E_b4.keep Kq5) (F_value_b4.keep Kq5 (fun q => nomatch q)) (F_coder_b4.keep Kq5 (fun q => nomatch q)) g_b4) hZ (hw _ (List.mem_of_getElem? (i := 253) rfl)) (hw _ (List.mem_of_getElem? (i := 6) rfl)) (by decide) (by decide)) (g := (mkF m 22 #[.val (.int p1)] [(.int (0 : Int32)), (.ref tX), (.ref b4), (.ref b4)])) rfl (by rw [hml]; rfl) (Steps.refl _) (a := b4) (argsL := [(.ref tX), (.int (0 : Int32))]) (rest := [(.ref b4)]) (lenOf pd_42_33 rfl) rfl (by show 2 * 0 + _ ≤ _; exact Nat.le_of_eq rfl) (hb hby d42_22) (fun _ _ => ⟨rfl, rfl, (by decide : 2 + 0 ≤ _), (by decide : 5 + 0 ≤ _)⟩)
  dsimp only [Pt.U, Pt.locs, Pt.cells, Pt.slots] at X6 l6 y6 z6 st6 hQ6
  subst l6 y6 z6
  obtain ⟨rfl, N6q, Kc6, Fv6, Fc6⟩ := hQ6      -- what it returned, that it wrote nothing old, and the rest of your Q45
  have N6 := Fr.app N5 N6q
  have Kq6 : Keep T5.heap T6.heap [b4] := Kc6
  have K6 : Keep h0 T6.heap [] := K5.trans Kq6 (own_trS (Or.inr sz_b4) all0)
  have End_0 := ((E_b4.keep Kq5).keep Kq6)
  have End_1 := Fv6
  have End_2 := Fc6
  have End_3 := (VX.keep Kq6 (fun q => absurd (List.mem_singleton.mp q) (Ne.symm (Nat.ne_of_lt (Nat.lt_of_lt_of_le E_b4.lt gz_tX)))))
  obtain ⟨fs, hr, hrun, hended, hW, hsame⟩ := X6.leave (v := some (.ref b4)) (fun h => by rw [Bd.returns] at h; cases h)
  refine ⟨_, _, pre0 _ ?_, hrun, hended, _, _, rfl, ?_, ⟨_, rfl⟩, hW, hsame.mono (by decide) (by decide)⟩
  -- 4. STEPS
  · show Steps p.tables e below (s₁.setTop (mkF m 0 #[.val (.int p1)] [])) _
    refine st2 _ ?_
    show Steps p.tables e below (T2.setTop (mkF m 3 #[.val (.int p1)] [(.int G1)])) _
    refine XS.ifNo X2.here hx rfl (hb hby d42_3) rfl ((if0 _ _).trans (feq P3).1) ?_
    show Steps p.tables e below (T2.setTop (mkF m 6 #[.val (.int p1)] [])) _
    refine XS.iloadN X2.here hx rfl (hb hby d42_6) rfl ?_
    show Steps p.tables e below (T2.setTop (mkF m 7 #[.val (.int p1)] [(.int p1)])) _
    refine st3 _ ?_
    show Steps p.tables e below (T3.setTop (mkF m 10 #[.val (.int p1)] [(.int (1 : Int32))])) _
    refine XS.ifNo X3.here hx rfl (hb hby d42_10) rfl ((if0 _ _).trans (feq hc10).1) ?_
    show Steps p.tables e below (T3.setTop (mkF m 13 #[.val (.int p1)] [])) _
    refine st4 _ ?_
    show Steps p.tables e below (T4.setTop (mkF m 16 #[.val (.int p1)] [(.ref b4)])) _
    refine XS.dup X4.here hx rfl (hb hby d42_16) rfl rfl ?_
    show Steps p.tables e below (T4.setTop (mkF m 17 #[.val (.int p1)] [(.ref b4), (.ref b4)])) _
    refine XS.iloadN X4.here hx rfl (hb hby d42_17) rfl ?_
    show Steps p.tables e below (T4.setTop (mkF m 18 #[.val (.int p1)] [(.int p1), (.ref b4), (.ref b4)])) _
    refine st5 _ ?_
    show Steps p.tables e below (T5.setTop (mkF m 21 #[.val (.int p1)] [(.ref tX), (.ref b4), (.ref b4)])) _
    refine XS.iconst X5.here hx rfl (hb hby d42_21) ?_
    show Steps p.tables e below (T5.setTop (mkF m 22 #[.val (.int p1)] [(.int (0 : Int32)), (.ref tX), (.ref b4), (.ref b4)])) _
    refine st6.trans ?_
    show Steps p.tables e below (T6.setTop (mkF m 25 #[.val (.int p1)] [(.ref b4)])) _
    jvm_step X6.here [X6.here.top, hx, (hb hby d42_25), X6.method', Bd.returns, Value.isRef, FieldType.isReference]
    first | (intro acts; rw [hr _ acts rfl rfl rfl]) | rw [hr _ _ rfl rfl rfl]
    exact Steps.refl _
  · show own_QS Z (1 : Int32) [(.int (p1.toInt8.toInt32))] h0 n0 _ T6.heap _
    exact ⟨b4, rfl, N6, g_b4, sz_b4, K6, End_0, tX, kX, g_tX, Nat.le_trans K4.1 gz_tX, End_1, End_2, End_3⟩
theorem d1_0 : decode method_2_code 0 = .ok (.iload_n 0, 1) := by decide +kernel
theorem d1_1 : decode method_2_code 1 = .ok (.ifCond .ne 6, 3) := by decide +kernel
theorem d1_4 : decode method_2_code 4 = .ok (.ldc 7, 2) := by decide +kernel
theorem d1_6 : decode method_2_code 6 = .ok (.areturn, 1) := by decide +kernel
theorem pn_1 : plainName "com/example/excl1/excl1/cli/RefusalUsagePinLaw" = true := by first | (simp [plainName, overriddenIn]; done) | decide +kernel
theorem ef_1 (m : MethodId) (x0 : Int32) (x1 : Int32) (x2 : Int32) : entryFrame m #[(.int x0), (.int x1), (.int x2)] 3 = mkF m 0 #[.val (.int x0), .val (.int x1), .val (.int x2)] [] := by first | (simp [entryFrame, mkF, argsToLocals, Value.category]; done) | rfl
set_option maxRecDepth 65536 in
set_option maxHeartbeats 40000000 in
theorem rm1_f (l : Launch) (Z : State) (a0 : Array Value) (hw : ∀ d ∈ tables_1, d.before a0 Z = true) (ws : List Jvm.Cond) (p1 : Int32) (p2 : Int32) (p3 : Int32) (h0 : Heap) (n0 : Nat) (Z0 : n0 ≤ h0.size) (hc1 : p1 = (0 : Int32)) :
    MetFree l (⟨"com/example/excl1/excl1/cli/RefusalUsagePinLaw", "make", "(ICC)Ljava/lang/String;"⟩ : MethodName) (head1 (Jvm.Cond.code (⟨"com/example/excl1/excl1/cli/RefusalUsagePinLaw", "make", "(ICC)Ljava/lang/String;"⟩ : MethodName) method_2_code 3 (some (.object "java/lang/String")) :: ws) ({ frames := 5, cells := 3, slots := 8, locals := 120 } : Room)) (fun a U => a = #[(.int p1), (.int p2), (.int p3)] ∧ Z.Warmed39 U.vm ∧ U.heap = h0 ∧ CHv Z consts_1 U.vm h0) (fun _ _ _ _ _ => True) (fun _ U o U' => ∃ v L, o = .returned v ∧ own_QM Z (0 : Int32) [] h0 n0 v U'.heap L ∧ CHr Z consts_1 U.vm U.heap U'.vm U'.heap ∧ ReturnedEndW U o U' L ({ frames := 5, cells := 3, slots := 8, locals := 120 } : Room).cells ({ frames := 5, cells := 3, slots := 8, locals := 120 } : Room).slots) := by
  refine MetFree.of_bodySF (plainFor_of_name pn_1) hisR ?_
  intro p e s m args below meth c s₁ Bd hml0 hP hK
  obtain ⟨rfl, hZ, hh, H0⟩ := hP
  have hx := Bd.exec
  have hby := Bd.bytes
  have hml : c.maxLocals = 3 := hml0
  have hown : s.vm.findClass "com/example/excl1/excl1/cli/RefusalUsagePinLaw" = some m.cls := findClass_of_methodNamed Bd.named
  have hnm := (name_of_methodNamed Bd.named Bd.method).1
  have X0 : Stand p l e ({ frames := 5, cells := 3, slots := 8, locals := 120 } : Room) (s.setVm s.vm) m #[(.int p1), (.int p2), (.int p3)] below meth c s₁ [] 0 0 := Stand.of_body Bd
  have e0 : s₁.heap = h0 := by rw [← hh, Bd.state]; rfl
  have N0 := Fr.nil n0
  have pre0 : ∀ t, Steps p.tables e below (s₁.setTop (mkF m 0 #[.val (.int p1), .val (.int p2), .val (.int p3)] [])) t → Steps p.tables e below (s₁.setTop (entryFrame m #[(.int p1), (.int p2), (.int p3)] 3)) t := fun t k => castTop (ef_1 m p1 p2 p3) k
  -- 3. LAWS
  have hS : s.Since s.vm 0 := (State.WarmedH.refl s).since 0
  have hk := Nat.zero_le h0.size
  have R0 : CHr Z consts_1 s.vm h0 s.vm h0 := CHr.refl H0
  obtain ⟨b4, T4, h4, k1_4, v4, kc4, X4, e4, E4, hS, hk, hZ4, hown4, E_b4, F_coder_b4, F_value_b4, V_v4, lt_b4, lt_v4, Cr4, Lit_b4, Sep4, st4⟩ := ldcCH X0 hx hZ hown (hw _ (List.mem_of_getElem? (i := 34) rfl)) (own_wS hw) e0 hS hk (own_EW hw) (by decide) R0.1 (vs := []) (z := (0 : Int32)) ⟨by decide, by decide⟩ (by decide) (by decide) (g := (mkF m 4 #[.val (.int p1), .val (.int p2), .val (.int p3)] [])) rfl (hb hby d1_4) (n := 0) (by decide) (by decide) (by decide) (by decide)
  have R4 := R0.trans Cr4
  have K4 : Keep h0 h4 [] := (Keep.refl h0 []).ext E4
  obtain ⟨fs, hr, hrun, hended, hRW⟩ := X4.leaveW hS (by rw [e4]; exact hk) (v := some (.ref b4)) (fun h => by rw [Bd.returns] at h; cases h)
  refine ⟨_, _, pre0 _ ?_, hrun, hended, _, _, rfl, ?_, ?_, hRW.1, hRW.2.1, hRW.2.2.1, hRW.2.2.2.mono (by decide) (by decide)⟩
  -- 4. STEPS
  · show Steps p.tables e below (s₁.setTop (mkF m 0 #[.val (.int p1), .val (.int p2), .val (.int p3)] [])) _
    refine XS.iloadN X0.here hx rfl (hb hby d1_0) rfl ?_
    show Steps p.tables e below (s₁.setTop (mkF m 1 #[.val (.int p1), .val (.int p2), .val (.int p3)] [(.int p1)])) _
    refine XS.ifNo X0.here hx rfl (hb hby d1_1) rfl ((if0 _ _).trans (teq hc1).2) ?_
    show Steps p.tables e below (s₁.setTop (mkF m 4 #[.val (.int p1), .val (.int p2), .val (.int p3)] [])) _
    refine st4 _ ?_
    show Steps p.tables e below (T4.setTop (mkF m 6 #[.val (.int p1), .val (.int p2), .val (.int p3)] [(.ref b4)])) _
    jvm_step X4.here [X4.here.top, hx, (hb hby d1_6), X4.method', Bd.returns, Value.isRef, FieldType.isReference]
    first | (intro acts; rw [hr _ acts rfl rfl rfl]) | rw [hr _ _ rfl rfl rfl]
    exact Steps.refl _
  · show own_QM Z (0 : Int32) [] h0 n0 _ T4.heap _
    rw [e4]
    exact ⟨b4, rfl, N0, K4, E_b4, v4, kc4, F_value_b4, F_coder_b4, V_v4⟩
  · show CHr Z consts_1 s.vm s.heap T4.vm T4.heap
    rw [hh, e4]
    exact R4.trans (CHv.at X4 hZ4 (own_EW hw) R4.1)
theorem d1_7 : decode method_2_code 7 = .ok (.iload_n 0, 1) := by decide +kernel
theorem d1_8 : decode method_2_code 8 = .ok (.iconst 1, 1) := by decide +kernel
theorem d1_9 : decode method_2_code 9 = .ok (.if_icmp .ne 8, 3) := by decide +kernel
theorem d1_12 : decode method_2_code 12 = .ok (.iload_n 1, 1) := by decide +kernel
theorem d1_13 : decode method_2_code 13 = .ok (.invokestatic 9, 3) := by decide +kernel
theorem d1_16 : decode method_2_code 16 = .ok (.areturn, 1) := by decide +kernel
theorem pd_1_30 : parseMethodDescriptor "(C)Ljava/lang/String;" = some ⟨[.char], some (.object "java/lang/String")⟩ := by decide +kernel
set_option maxRecDepth 65536 in
set_option maxHeartbeats 40000000 in
theorem rm1_tfn (l : Launch) (Z : State) (a0 : Array Value) (hw : ∀ d ∈ tables_1, d.before a0 Z = true) (ws : List Jvm.Cond) (p1 : Int32) (p2 : Int32) (p3 : Int32) (G1 : Int32) (h0 : Heap) (n0 : Nat) (Z0 : n0 ≤ h0.size) (S_COMPACT_STRINGS : Sta Z Z.heap "java/lang/String" "COMPACT_STRINGS" "Z" (.int G1)) (X00 : Old Z n0 h0) (P3 : ¬ (G1 = (0 : Int32))) (hle2 : ¬ ((255 : Int32) < p2)) (hc1 : ¬ (p1 = (0 : Int32))) (hc9 : p1 = (1 : Int32)) :
    MetFree l (⟨"com/example/excl1/excl1/cli/RefusalUsagePinLaw", "make", "(ICC)Ljava/lang/String;"⟩ : MethodName) (head1 (Jvm.Cond.code (⟨"com/example/excl1/excl1/cli/RefusalUsagePinLaw", "make", "(ICC)Ljava/lang/String;"⟩ : MethodName) method_2_code 3 (some (.object "java/lang/String")) :: ws) ({ frames := 5, cells := 3, slots := 8, locals := 120 } : Room)) (fun a U => a = #[(.int p1), (.int p2), (.int p3)] ∧ Z.Warmed39 U.vm ∧ U.heap = h0) (fun _ _ _ _ _ => True) (fun _ U o U' => ∃ v L, o = .returned v ∧ own_QM Z (1 : Int32) [(.int (p2.toInt8.toInt32))] h0 n0 v U'.heap L ∧ FrameEnd U o U' L ({ frames := 5, cells := 3, slots := 8, locals := 120 } : Room).cells ({ frames := 5, cells := 3, slots := 8, locals := 120 } : Room).slots) := by
  refine MetFree.of_bodySF (plainFor_of_name pn_1) hisR ?_
  intro p e s m args below meth c s₁ Bd hml0 hP hK
  obtain ⟨rfl, hZ, hh⟩ := hP
  have hx := Bd.exec
  have hby := Bd.bytes
  have hml : c.maxLocals = 3 := hml0
  have hown : s.vm.findClass "com/example/excl1/excl1/cli/RefusalUsagePinLaw" = some m.cls := findClass_of_methodNamed Bd.named
  have hnm := (name_of_methodNamed Bd.named Bd.method).1
  have X0 : Stand p l e ({ frames := 5, cells := 3, slots := 8, locals := 120 } : Room) s m #[(.int p1), (.int p2), (.int p3)] below meth c s₁ [] 0 0 := Stand.of_body Bd
  have e0 : s₁.heap = h0 := by rw [← hh, Bd.state]; rfl
  have N0 := Fr.nil n0
  have pre0 : ∀ t, Steps p.tables e below (s₁.setTop (mkF m 0 #[.val (.int p1), .val (.int p2), .val (.int p3)] [])) t → Steps p.tables e below (s₁.setTop (entryFrame m #[(.int p1), (.int p2), (.int p3)] 3)) t := fun t k => castTop (ef_1 m p1 p2 p3) k
  -- 3. LAWS
  -- pc 13: java/lang/String.valueOf by its contract rm42
  obtain ⟨_, _, ⟨T4, L4, k4, n4⟩, -, X4, ⟨Lc4, hQ4, l4, y4, z4⟩, st4⟩ := Jvm.LawKit.callS X0 hx (y := (⟨"java/lang/String", "valueOf", "(C)Ljava/lang/String;"⟩ : MethodName)) hown (mvT hZ (hw _ (List.mem_of_getElem? (i := 241) rfl))) (mvT hZ (hw _ (List.mem_of_getElem? (i := 242) rfl))) (mvT hZ (hw _ (List.mem_of_getElem? (i := 6) rfl))) (mvT hZ (hw _ (List.mem_of_getElem? (i := 243) rfl))) (by decide) (backOf (W := 0) (rm42 l Z a0 hw [] p2 G1 h0 n0 Z0 S_COMPACT_STRINGS X00 P3 hle2 (by decide)) hZ (hw _ (List.mem_of_getElem? (i := 243) rfl)) (hw _ (List.mem_of_getElem? (i := 6) rfl)) (by decide) (by decide)) (g := (mkF m 13 #[.val (.int p1), .val (.int p2), .val (.int p3)] [(.int p2)])) rfl (by rw [hml]; rfl) (argsL := [(.int p2)]) (rest := []) (lenOf pd_1_30 rfl) rfl (by show 2 * 0 + _ ≤ _; exact Nat.le_of_eq rfl) (hb hby d1_13) (fun _ _ => ⟨rfl, e0, (by decide : 0 + 2 ≤ _), (by decide : 0 + 5 ≤ _)⟩)
  dsimp only [Pt.U, Pt.locs, Pt.cells, Pt.slots] at X4 l4 y4 z4 st4 hQ4
  subst l4 y4 z4
  obtain ⟨bX, rfl, N4q, g_bX, gz_bX, Kt, Eb, tX, kX, g_tX, gz_tX, Fv, Fc, VX⟩ := hQ4      -- what it returned, that it wrote nothing old, and the rest of your Q42
  have N4 := Fr.app N0 N4q
  have Kq4 : Keep h0 T4.heap [] := Kt
  have K4 : Keep h0 T4.heap [] := (Keep.refl h0 []).trans Kq4 all0
  obtain ⟨fs, hr, hrun, hended, hW, hsame⟩ := X4.leave (v := some (.ref bX)) (fun h => by rw [Bd.returns] at h; cases h)
  refine ⟨_, _, pre0 _ ?_, hrun, hended, _, _, rfl, ?_, ⟨_, rfl⟩, hW, hsame.mono (by decide) (by decide)⟩
  -- 4. STEPS
  · show Steps p.tables e below (s₁.setTop (mkF m 0 #[.val (.int p1), .val (.int p2), .val (.int p3)] [])) _
    refine XS.iloadN X0.here hx rfl (hb hby d1_0) rfl ?_
    show Steps p.tables e below (s₁.setTop (mkF m 1 #[.val (.int p1), .val (.int p2), .val (.int p3)] [(.int p1)])) _
    refine XS.ifYes X0.here hx rfl (pc0 := 1) (pc' := 7) rfl (hb hby d1_1) rfl ((if0 _ _).trans (feq hc1).2) (by decide) (by decide) ?_
    show Steps p.tables e below (s₁.setTop (mkF m 7 #[.val (.int p1), .val (.int p2), .val (.int p3)] [])) _
    refine XS.iloadN X0.here hx rfl (hb hby d1_7) rfl ?_
    show Steps p.tables e below (s₁.setTop (mkF m 8 #[.val (.int p1), .val (.int p2), .val (.int p3)] [(.int p1)])) _
    refine XS.iconst X0.here hx rfl (hb hby d1_8) ?_
    show Steps p.tables e below (s₁.setTop (mkF m 9 #[.val (.int p1), .val (.int p2), .val (.int p3)] [(.int (1 : Int32)), (.int p1)])) _
    refine XS.icmpNo X0.here hx rfl (hb hby d1_9) rfl (teq hc9).2 ?_
    show Steps p.tables e below (s₁.setTop (mkF m 12 #[.val (.int p1), .val (.int p2), .val (.int p3)] [])) _
    refine XS.iloadN X0.here hx rfl (hb hby d1_12) rfl ?_
    show Steps p.tables e below (s₁.setTop (mkF m 13 #[.val (.int p1), .val (.int p2), .val (.int p3)] [(.int p2)])) _
    refine st4 _ ?_
    show Steps p.tables e below (T4.setTop (mkF m 16 #[.val (.int p1), .val (.int p2), .val (.int p3)] [(.ref bX)])) _
    jvm_step X4.here [X4.here.top, hx, (hb hby d1_16), X4.method', Bd.returns, Value.isRef, FieldType.isReference]
    first | (intro acts; rw [hr _ acts rfl rfl rfl]) | rw [hr _ _ rfl rfl rfl]
    exact Steps.refl _
  · show own_QM Z (1 : Int32) [(.int (p2.toInt8.toInt32))] h0 n0 _ T4.heap _
    exact ⟨bX, rfl, N4, Kt, Eb, tX, kX, Fv, Fc, VX⟩
theorem d1_17 : decode method_2_code 17 = .ok (.new 10, 3) := by decide +kernel
theorem d1_20 : decode method_2_code 20 = .ok (.dup, 1) := by decide +kernel
theorem d1_21 : decode method_2_code 21 = .ok (.iconst 2, 1) := by decide +kernel
theorem d1_22 : decode method_2_code 22 = .ok (.newarray .char, 2) := by decide +kernel
theorem d1_24 : decode method_2_code 24 = .ok (.dup, 1) := by decide +kernel
theorem d1_25 : decode method_2_code 25 = .ok (.iconst 0, 1) := by decide +kernel
theorem d1_26 : decode method_2_code 26 = .ok (.iload_n 1, 1) := by decide +kernel
theorem d1_27 : decode method_2_code 27 = .ok (.castore, 1) := by decide +kernel
theorem d1_28 : decode method_2_code 28 = .ok (.dup, 1) := by decide +kernel
theorem d1_29 : decode method_2_code 29 = .ok (.iconst 1, 1) := by decide +kernel
theorem d1_30 : decode method_2_code 30 = .ok (.iload_n 2, 1) := by decide +kernel
theorem d1_31 : decode method_2_code 31 = .ok (.castore, 1) := by decide +kernel
theorem d1_32 : decode method_2_code 32 = .ok (.invokespecial 15, 3) := by decide +kernel
theorem d1_35 : decode method_2_code 35 = .ok (.areturn, 1) := by decide +kernel
theorem pd_1_1 : parseMethodDescriptor "([C)V" = some ⟨[(.array .char)], none⟩ := by decide +kernel
set_option maxRecDepth 65536 in
set_option maxHeartbeats 40000000 in
theorem rm1_ttn (l : Launch) (Z : State) (a0 : Array Value) (hw : ∀ d ∈ tables_1, d.before a0 Z = true) (ws : List Jvm.Cond) (p1 : Int32) (p2 : Int32) (p3 : Int32) (G1 : Int32) (h0 : Heap) (n0 : Nat) (Z0 : n0 ≤ h0.size) (S_COMPACT_STRINGS : Sta Z Z.heap "java/lang/String" "COMPACT_STRINGS" "Z" (.int G1)) (X00 : Old Z n0 h0) (P3 : ¬ (G1 = (0 : Int32))) (hl2 : ¬ p2 < 0 ∧ ¬ (255 : Int32) < p2) (hl3 : ¬ p3 < 0 ∧ ¬ (255 : Int32) < p3) (hn2 : nar .char p2 = p2) (hn3 : nar .char p3 = p3) (hc1 : ¬ (p1 = (0 : Int32))) (hc9 : ¬ (p1 = (1 : Int32))) :
    MetFree l (⟨"com/example/excl1/excl1/cli/RefusalUsagePinLaw", "make", "(ICC)Ljava/lang/String;"⟩ : MethodName) (head1 (Jvm.Cond.code (⟨"com/example/excl1/excl1/cli/RefusalUsagePinLaw", "make", "(ICC)Ljava/lang/String;"⟩ : MethodName) method_2_code 3 (some (.object "java/lang/String")) :: ws) ({ frames := 5, cells := 3, slots := 8, locals := 120 } : Room)) (fun a U => a = #[(.int p1), (.int p2), (.int p3)] ∧ Z.Warmed39 U.vm ∧ U.heap = h0) (fun _ _ _ _ _ => True) (fun _ U o U' => ∃ v L, o = .returned v ∧ own_QM Z (2 : Int32) [(.int (p2.toInt8.toInt32)), (.int (p3.toInt8.toInt32))] h0 n0 v U'.heap L ∧ FrameEnd U o U' L ({ frames := 5, cells := 3, slots := 8, locals := 120 } : Room).cells ({ frames := 5, cells := 3, slots := 8, locals := 120 } : Room).slots) := by
  refine MetFree.of_bodySF (plainFor_of_name pn_1) hisR ?_
  intro p e s m args below meth c s₁ Bd hml0 hP hK
  obtain ⟨rfl, hZ, hh⟩ := hP
  have hx := Bd.exec
  have hby := Bd.bytes
  have hml : c.maxLocals = 3 := hml0
  have hown : s.vm.findClass "com/example/excl1/excl1/cli/RefusalUsagePinLaw" = some m.cls := findClass_of_methodNamed Bd.named
  have hnm := (name_of_methodNamed Bd.named Bd.method).1
  have X0 : Stand p l e ({ frames := 5, cells := 3, slots := 8, locals := 120 } : Room) s m #[(.int p1), (.int p2), (.int p3)] below meth c s₁ [] 0 0 := Stand.of_body Bd
  have e0 : s₁.heap = h0 := by rw [← hh, Bd.state]; rfl
  have N0 := Fr.nil n0
  have pre0 : ∀ t, Steps p.tables e below (s₁.setTop (mkF m 0 #[.val (.int p1), .val (.int p2), .val (.int p3)] [])) t → Steps p.tables e below (s₁.setTop (entryFrame m #[(.int p1), (.int p2), (.int p3)] 3)) t := fun t k => castTop (ef_1 m p1 p2 p3) k
  -- 3. LAWS
  obtain ⟨T4, h4, X4, e4, E4, A4, D4, Un4, st4⟩ := newO X0 hx hZ hown (hw _ (List.mem_of_getElem? (i := 4) rfl)) (hw _ (List.mem_of_getElem? (i := 5) rfl)) (hw _ (List.mem_of_getElem? (i := 6) rfl)) e0 (g := (mkF m 17 #[.val (.int p1), .val (.int p2), .val (.int p3)] [])) rfl (hb hby d1_17) (by decide) (by decide)
  obtain ⟨b4, g4⟩ : ∃ z, z = h0.size := ⟨_, rfl⟩      -- the fresh object's address
  rw [← g4] at A4 D4 Un4 st4
  have U_b4 : Unt h4 b4 := Un4
  have F_coder_b4 : Fld Z h4 b4 "java/lang/String" "coder" "B" (.int (0 : Int32)) := D4 (Or.inr (hw _ (List.mem_of_getElem? (i := 31) rfl))) (ty := .byte) (by decide)
  have F_value_b4 : Fld Z h4 b4 "java/lang/String" "value" "[B" .null := D4 (Or.inr (hw _ (List.mem_of_getElem? (i := 33) rfl))) (ty := (.array .byte)) (by decide)
  have E_b4 := A4
  have g_b4 : n0 ≤ b4 := Nat.le_trans Z0 (Nat.le_of_eq g4.symm)
  have sz_b4 : h0.size ≤ b4 := (Nat.le_trans (Keep.refl h0 []).1 (Nat.le_of_eq g4.symm))
  have K4 : Keep h0 h4 [] := (Keep.refl h0 []).ext E4
  obtain ⟨T5, h5, k5, X5, e5, E5, A5, st5⟩ := newP X4 hx hZ (hw _ (List.mem_of_getElem? (i := 7) rfl)) e4 (g := (mkF m 22 #[.val (.int p1), .val (.int p2), .val (.int p3)] [(.int (2 : Int32)), (.ref b4), (.ref b4)])) rfl (hb hby d1_22) rfl (by decide) (cap := 2) (by decide) (by decide) (by decide) (by decide)
  obtain ⟨b5, g5⟩ : ∃ z, z = h4.size := ⟨_, rfl⟩      -- the fresh array's address
  rw [← g5] at A5 st5
  have V_b5 : Arv Z h5 b5 k5 .char (2 : Int32) [(.int (0 : Int32)), (.int (0 : Int32))] (.int (0 : Int32)) := (Arv.new A5 (by decide)).pad (pad_rep [] (.int (0 : Int32)) 2)
  have g_b5 : n0 ≤ b5 := Nat.le_trans (Nat.le_trans Z0 E4.1) (Nat.le_of_eq g5.symm)
  have sz_b5 : h0.size ≤ b5 := (Nat.le_trans K4.1 (Nat.le_of_eq g5.symm))
  have K5 : Keep h0 h5 [] := K4.ext E5
  obtain ⟨cl_b5_27, Ar_b5, q_b5, S_b5, N_b5, H_b5, G_b5⟩ := V_b5      -- open the array's fact as it stands now (its cell, kind, length, elements)
  have hin27 : ¬ ((0 : Int32) < 0 ∨ cl_b5_27.slots.size ≤ ((0 : Int32)).toNatClampNeg) := inb_of S_b5 ⟨by decide, by decide⟩
  obtain ⟨T6, h6, X6, e6, W6, st6⟩ := stC X5 hx hZ e5 Ar_b5 (j := (0 : Int32)) hin27 (g := (mkF m 27 #[.val (.int p1), .val (.int p2), .val (.int p3)] [(.int p2), (.int (0 : Int32)), (.ref b5), (.ref b5), (.ref b4), (.ref b4)])) rfl rfl (hb hby d1_27)
  have V_b5_6 := Arv.set Ar_b5 q_b5 S_b5 N_b5 H_b5 G_b5 (fits_nar_char _) W6 0 rfl (Nat.le_of_ble_eq_true rfl)      -- the array as it stands now (the place must lie among its first values: Arv.pad with pad_rep lengthens them)
  have K6 : Keep h0 h6 [] := K5.wr W6 (Or.inr sz_b5)
  have N6 := Fr.snoc X6 N0 g_b5
  obtain ⟨cl_b5_31, Ar_b5, q_b5, S_b5, N_b5, H_b5, G_b5⟩ := V_b5_6      -- open the array's fact as it stands now (its cell, kind, length, elements)
  have hin31 : ¬ ((1 : Int32) < 0 ∨ cl_b5_31.slots.size ≤ ((1 : Int32)).toNatClampNeg) := inb_of S_b5 ⟨by decide, by decide⟩
  obtain ⟨T7, h7, X7, e7, W7, st7⟩ := stC X6 hx hZ e6 Ar_b5 (j := (1 : Int32)) hin31 (g := (mkF m 31 #[.val (.int p1), .val (.int p2), .val (.int p3)] [(.int p3), (.int (1 : Int32)), (.ref b5), (.ref b5), (.ref b4), (.ref b4)])) rfl rfl (hb hby d1_31)
  have V_b5_7 := Arv.set Ar_b5 q_b5 S_b5 N_b5 H_b5 G_b5 (fits_nar_char _) W7 1 rfl (Nat.le_of_ble_eq_true rfl)      -- the array as it stands now (the place must lie among its first values: Arv.pad with pad_rep lengthens them)
  have K7 : Keep h0 h7 [] := K6.wr W7 (Or.inr sz_b5)
  have N7 := Fr.snoc X7 N6 g_b5
  -- pc 32: the constructor of java/lang/String by its contract rm2
  have SC := S_COMPACT_STRINGS.ext ((X00.keep K7 all0)).2
  have Eb := (((E_b4.ext E5).wr W6).wr W7)
  have Fvb := (((F_value_b4.ext E5).other W6 (Or.inl (Nat.ne_of_lt (Nat.lt_of_lt_of_le E_b4.lt (Nat.le_of_eq g5.symm))))).other W7 (Or.inl (Nat.ne_of_lt (Nat.lt_of_lt_of_le E_b4.lt (Nat.le_of_eq g5.symm)))))
  have Fcb := (((F_coder_b4.ext E5).other W6 (Or.inl (Nat.ne_of_lt (Nat.lt_of_lt_of_le E_b4.lt (Nat.le_of_eq g5.symm))))).other W7 (Or.inl (Nat.ne_of_lt (Nat.lt_of_lt_of_le E_b4.lt (Nat.le_of_eq g5.symm)))))
  have Z7 := (Nat.le_trans (Nat.le_trans (Nat.le_trans (Nat.le_trans Z0 E4.1) E5.1) (Keep.of_wr W6).1) (Keep.of_wr W7).1)
  have V7 : Arv Z h7 b5 k5 .char (2 : Int32) [(.int p2), (.int p3)] (.int (0 : Int32)) := by
    have q : Arv Z h7 b5 k5 .char (2 : Int32) [(.int (nar .char p2)), (.int (nar .char p3))] (.int (0 : Int32)) := V_b5_7
    rw [hn2, hn3] at q
    exact q
  have hws : ∀ d ∈ StrChars.Road.words, d.before a0 Z = true := fun d hd => hw d ((by decide +kernel : ∀ d ∈ StrChars.Road.words, d ∈ tables_1) d hd)
  have hlat : ∀ c ∈ [p2, p3], ¬ c < 0 ∧ ¬ (255 : Int32) < c := by
    intro c hc
    simp only [List.mem_cons, List.not_mem_nil, or_false] at hc
    rcases hc with rfl | rfl
    · exact hl2
    · exact hl3
  obtain ⟨_, _, ⟨T8, L8, k8, n8⟩, -, X8, ⟨Lc8, hQ8, l8, y8, z8⟩, st8⟩ := X7.specialBack hx (y := (⟨"java/lang/String", "<init>", "([C)V"⟩ : MethodName)) rfl hown (mvT hZ (hw _ (List.mem_of_getElem? (i := 8) rfl))) (mvT hZ (hw _ (List.mem_of_getElem? (i := 9) rfl))) (mvT hZ (hw _ (List.mem_of_getElem? (i := 10) rfl))) (by decide) (StrChars.Road.backV (W := 1) hZ hws (kI := 4) (hw _ (List.mem_of_getElem? (i := 5) rfl)) (cs := [p2, p3]) (bs := [p2.toInt8.toInt32, p3.toInt8.toInt32]) (n := 2) g_b4 Z7 Eb Fvb Fcb V7 SC P3 rfl rfl (by decide) (by decide) hlat rfl (by decide) (by decide)) (g := (mkF m 32 #[.val (.int p1), .val (.int p2), .val (.int p3)] [(.ref b5), (.ref b4), (.ref b4)])) rfl (by rw [hml]; rfl) (Steps.refl _) (a := b4) (argsL := [(.ref b5)]) (rest := [(.ref b4)]) (lenOf pd_1_1 rfl) rfl (by show 2 * 0 + _ ≤ _; exact Nat.le_of_eq rfl) (hb hby d1_32) (fun _ _ => ⟨rfl, e7, (by decide : 2 + 1 ≤ _), (by decide : 6 + 2 ≤ _)⟩)
  dsimp only [Pt.U, Pt.locs, Pt.cells, Pt.slots] at X8 l8 y8 z8 st8 hQ8
  subst l8 y8 z8
  obtain ⟨rfl, N8q, Kc8, Eq, Fcq, tX, kX, g_tX, gz_tX, ne_tX, Fvq, Vq⟩ := hQ8      -- what it returned, that it wrote nothing old, and the rest of your Q2
  have N8 := Fr.app N7 N8q
  have Kq8 : Keep h7 T8.heap [b4] := Kc8
  have K8 : Keep h0 T8.heap [] := K7.trans Kq8 (own_trS (Or.inr sz_b4) all0)
  obtain ⟨fs, hr, hrun, hended, hW, hsame⟩ := X8.leave (v := some (.ref b4)) (fun h => by rw [Bd.returns] at h; cases h)
  refine ⟨_, _, pre0 _ ?_, hrun, hended, _, _, rfl, ?_, ⟨_, rfl⟩, hW, hsame.mono (by decide) (by decide)⟩
  -- 4. STEPS
  · show Steps p.tables e below (s₁.setTop (mkF m 0 #[.val (.int p1), .val (.int p2), .val (.int p3)] [])) _
    refine XS.iloadN X0.here hx rfl (hb hby d1_0) rfl ?_
    show Steps p.tables e below (s₁.setTop (mkF m 1 #[.val (.int p1), .val (.int p2), .val (.int p3)] [(.int p1)])) _
    refine XS.ifYes X0.here hx rfl (pc0 := 1) (pc' := 7) rfl (hb hby d1_1) rfl ((if0 _ _).trans (feq hc1).2) (by decide) (by decide) ?_
    show Steps p.tables e below (s₁.setTop (mkF m 7 #[.val (.int p1), .val (.int p2), .val (.int p3)] [])) _
    refine XS.iloadN X0.here hx rfl (hb hby d1_7) rfl ?_
    show Steps p.tables e below (s₁.setTop (mkF m 8 #[.val (.int p1), .val (.int p2), .val (.int p3)] [(.int p1)])) _
    refine XS.iconst X0.here hx rfl (hb hby d1_8) ?_
    show Steps p.tables e below (s₁.setTop (mkF m 9 #[.val (.int p1), .val (.int p2), .val (.int p3)] [(.int (1 : Int32)), (.int p1)])) _
    refine XS.icmpYes X0.here hx rfl (pc0 := 9) (pc' := 17) rfl (hb hby d1_9) rfl (feq hc9).2 (by decide) (by decide) ?_
    show Steps p.tables e below (s₁.setTop (mkF m 17 #[.val (.int p1), .val (.int p2), .val (.int p3)] [])) _
    refine st4 _ ?_
    show Steps p.tables e below (T4.setTop (mkF m 20 #[.val (.int p1), .val (.int p2), .val (.int p3)] [(.ref b4)])) _
    refine XS.dup X4.here hx rfl (hb hby d1_20) rfl rfl ?_
    show Steps p.tables e below (T4.setTop (mkF m 21 #[.val (.int p1), .val (.int p2), .val (.int p3)] [(.ref b4), (.ref b4)])) _
    refine XS.iconst X4.here hx rfl (hb hby d1_21) ?_
    show Steps p.tables e below (T4.setTop (mkF m 22 #[.val (.int p1), .val (.int p2), .val (.int p3)] [(.int (2 : Int32)), (.ref b4), (.ref b4)])) _
    refine st5 _ ?_
    show Steps p.tables e below (T5.setTop (mkF m 24 #[.val (.int p1), .val (.int p2), .val (.int p3)] [(.ref b5), (.ref b4), (.ref b4)])) _
    refine XS.dup X5.here hx rfl (hb hby d1_24) rfl rfl ?_
    show Steps p.tables e below (T5.setTop (mkF m 25 #[.val (.int p1), .val (.int p2), .val (.int p3)] [(.ref b5), (.ref b5), (.ref b4), (.ref b4)])) _
    refine XS.iconst X5.here hx rfl (hb hby d1_25) ?_
    show Steps p.tables e below (T5.setTop (mkF m 26 #[.val (.int p1), .val (.int p2), .val (.int p3)] [(.int (0 : Int32)), (.ref b5), (.ref b5), (.ref b4), (.ref b4)])) _
    refine XS.iloadN X5.here hx rfl (hb hby d1_26) rfl ?_
    show Steps p.tables e below (T5.setTop (mkF m 27 #[.val (.int p1), .val (.int p2), .val (.int p3)] [(.int p2), (.int (0 : Int32)), (.ref b5), (.ref b5), (.ref b4), (.ref b4)])) _
    refine st6 _ ?_
    show Steps p.tables e below (T6.setTop (mkF m 28 #[.val (.int p1), .val (.int p2), .val (.int p3)] [(.ref b5), (.ref b4), (.ref b4)])) _
    refine XS.dup X6.here hx rfl (hb hby d1_28) rfl rfl ?_
    show Steps p.tables e below (T6.setTop (mkF m 29 #[.val (.int p1), .val (.int p2), .val (.int p3)] [(.ref b5), (.ref b5), (.ref b4), (.ref b4)])) _
    refine XS.iconst X6.here hx rfl (hb hby d1_29) ?_
    show Steps p.tables e below (T6.setTop (mkF m 30 #[.val (.int p1), .val (.int p2), .val (.int p3)] [(.int (1 : Int32)), (.ref b5), (.ref b5), (.ref b4), (.ref b4)])) _
    refine XS.iloadN X6.here hx rfl (hb hby d1_30) rfl ?_
    show Steps p.tables e below (T6.setTop (mkF m 31 #[.val (.int p1), .val (.int p2), .val (.int p3)] [(.int p3), (.int (1 : Int32)), (.ref b5), (.ref b5), (.ref b4), (.ref b4)])) _
    refine st7 _ ?_
    show Steps p.tables e below (T7.setTop (mkF m 32 #[.val (.int p1), .val (.int p2), .val (.int p3)] [(.ref b5), (.ref b4), (.ref b4)])) _
    refine st8.trans ?_
    show Steps p.tables e below (T8.setTop (mkF m 35 #[.val (.int p1), .val (.int p2), .val (.int p3)] [(.ref b4)])) _
    jvm_step X8.here [X8.here.top, hx, (hb hby d1_35), X8.method', Bd.returns, Value.isRef, FieldType.isReference]
    first | (intro acts; rw [hr _ acts rfl rfl rfl]) | rw [hr _ _ rfl rfl rfl]
    exact Steps.refl _
  · show own_QM Z (2 : Int32) [(.int (p2.toInt8.toInt32)), (.int (p3.toInt8.toInt32))] h0 n0 _ T8.heap _
    exact ⟨b4, rfl, N8, K8, Eq, tX, kX, Fvq, Fcq, Vq⟩
theorem rm1_tf (l : Launch) (Z : State) (a0 : Array Value) (hw : ∀ d ∈ tables_1, d.before a0 Z = true) (ws : List Jvm.Cond) (p1 : Int32) (p2 : Int32) (p3 : Int32) (G1 : Int32) (h0 : Heap) (n0 : Nat) (Z0 : n0 ≤ h0.size) (S_COMPACT_STRINGS : Sta Z Z.heap "java/lang/String" "COMPACT_STRINGS" "Z" (.int G1)) (X00 : Old Z n0 h0) (P3 : ¬ (G1 = (0 : Int32))) (hle2 : ¬ ((255 : Int32) < p2)) (hc1 : ¬ (p1 = (0 : Int32))) (hc9 : p1 = (1 : Int32)) :
    MetFree l (⟨"com/example/excl1/excl1/cli/RefusalUsagePinLaw", "make", "(ICC)Ljava/lang/String;"⟩ : MethodName) (head1 (Jvm.Cond.code (⟨"com/example/excl1/excl1/cli/RefusalUsagePinLaw", "make", "(ICC)Ljava/lang/String;"⟩ : MethodName) method_2_code 3 (some (.object "java/lang/String")) :: ws) ({ frames := 5, cells := 3, slots := 8, locals := 120 } : Room)) (fun a U => a = #[(.int p1), (.int p2), (.int p3)] ∧ Z.Warmed39 U.vm ∧ U.heap = h0 ∧ CHv Z consts_1 U.vm h0) (fun _ _ _ _ _ => True) (fun _ U o U' => ∃ v L, o = .returned v ∧ own_QM Z (1 : Int32) [(.int (p2.toInt8.toInt32))] h0 n0 v U'.heap L ∧ CHr Z consts_1 U.vm U.heap U'.vm U'.heap ∧ ReturnedEndW U o U' L ({ frames := 5, cells := 3, slots := 8, locals := 120 } : Room).cells ({ frames := 5, cells := 3, slots := 8, locals := 120 } : Room).slots) :=
  own_toW (own_EW hw) (rm1_tfn l Z a0 hw ws p1 p2 p3 G1 h0 n0 Z0 S_COMPACT_STRINGS X00 P3 hle2 hc1 hc9) (fun v h L q => by obtain ⟨a, -, -, k, -⟩ := q; exact k)
theorem rm1_tt (l : Launch) (Z : State) (a0 : Array Value) (hw : ∀ d ∈ tables_1, d.before a0 Z = true) (ws : List Jvm.Cond) (p1 : Int32) (p2 : Int32) (p3 : Int32) (G1 : Int32) (h0 : Heap) (n0 : Nat) (Z0 : n0 ≤ h0.size) (S_COMPACT_STRINGS : Sta Z Z.heap "java/lang/String" "COMPACT_STRINGS" "Z" (.int G1)) (X00 : Old Z n0 h0) (P3 : ¬ (G1 = (0 : Int32))) (hl2 : ¬ p2 < 0 ∧ ¬ (255 : Int32) < p2) (hl3 : ¬ p3 < 0 ∧ ¬ (255 : Int32) < p3) (hn2 : nar .char p2 = p2) (hn3 : nar .char p3 = p3) (hc1 : ¬ (p1 = (0 : Int32))) (hc9 : ¬ (p1 = (1 : Int32))) :
    MetFree l (⟨"com/example/excl1/excl1/cli/RefusalUsagePinLaw", "make", "(ICC)Ljava/lang/String;"⟩ : MethodName) (head1 (Jvm.Cond.code (⟨"com/example/excl1/excl1/cli/RefusalUsagePinLaw", "make", "(ICC)Ljava/lang/String;"⟩ : MethodName) method_2_code 3 (some (.object "java/lang/String")) :: ws) ({ frames := 5, cells := 3, slots := 8, locals := 120 } : Room)) (fun a U => a = #[(.int p1), (.int p2), (.int p3)] ∧ Z.Warmed39 U.vm ∧ U.heap = h0 ∧ CHv Z consts_1 U.vm h0) (fun _ _ _ _ _ => True) (fun _ U o U' => ∃ v L, o = .returned v ∧ own_QM Z (2 : Int32) [(.int (p2.toInt8.toInt32)), (.int (p3.toInt8.toInt32))] h0 n0 v U'.heap L ∧ CHr Z consts_1 U.vm U.heap U'.vm U'.heap ∧ ReturnedEndW U o U' L ({ frames := 5, cells := 3, slots := 8, locals := 120 } : Room).cells ({ frames := 5, cells := 3, slots := 8, locals := 120 } : Room).slots) :=
  own_toW (own_EW hw) (rm1_ttn l Z a0 hw ws p1 p2 p3 G1 h0 n0 Z0 S_COMPACT_STRINGS X00 P3 hl2 hl3 hn2 hn3 hc1 hc9) (fun v h L q => by obtain ⟨a, -, -, k, -⟩ := q; exact k)
theorem d35_0 : decode prog_8_method_9_code 0 = .ok (.aload_n 0, 1) := by decide +kernel
theorem d35_1 : decode prog_8_method_9_code 1 = .ok (.getfield 7, 3) := by decide +kernel
theorem d35_4 : decode prog_8_method_9_code 4 = .ok (.ireturn, 1) := by decide +kernel
theorem pn_35 : plainName "com/example/excl1/excl1/cli/Refusal" = true := by first | (simp [plainName, overriddenIn]; done) | decide +kernel
theorem ef_35 (m : MethodId) (x0 : Addr) : entryFrame m #[(.ref x0)] 1 = mkF m 0 #[.val (.ref x0)] [] := by first | (simp [entryFrame, mkF, argsToLocals, Value.category]; done) | rfl
set_option maxRecDepth 65536 in
set_option maxHeartbeats 40000000 in
theorem rm35 (l : Launch) (Z : State) (a0 : Array Value) (hw : ∀ d ∈ tables_1, d.before a0 Z = true) (ws : List Jvm.Cond) (a1 : Addr) (h0 : Heap) (n0 : Nat) (Z0 : n0 ≤ h0.size) (E_a1 : Exa Z h0 a1 "com/example/excl1/excl1/cli/Refusal") (F_status_a1 : Fld Z h0 a1 "com/example/excl1/excl1/cli/Refusal" "status" "I" (.int (64 : Int32))) :
    MetFree l (⟨"com/example/excl1/excl1/cli/Refusal", "status", "()I"⟩ : MethodName) (head1 (Jvm.Cond.code (⟨"com/example/excl1/excl1/cli/Refusal", "status", "()I"⟩ : MethodName) prog_8_method_9_code 1 (some .int) :: ws) ({ frames := 0, cells := 0, slots := 0, locals := 0 } : Room)) (fun a U => a = #[(.ref a1)] ∧ Z.Warmed39 U.vm ∧ U.heap = h0) (fun _ _ _ _ _ => True) (fun _ U o U' => ∃ v L, o = .returned v ∧ own_QR (.int (64 : Int32)) h0 n0 v U'.heap L ∧ FrameEnd U o U' L ({ frames := 0, cells := 0, slots := 0, locals := 0 } : Room).cells ({ frames := 0, cells := 0, slots := 0, locals := 0 } : Room).slots) := by
  refine MetFree.of_bodySF (plainFor_of_name pn_35) hisR ?_
  intro p e s m args below meth c s₁ Bd hml0 hP hK
  obtain ⟨rfl, hZ, hh⟩ := hP
  have hx := Bd.exec
  have hby := Bd.bytes
  have hml : c.maxLocals = 1 := hml0
  have hown : s.vm.findClass "com/example/excl1/excl1/cli/Refusal" = some m.cls := findClass_of_methodNamed Bd.named
  have hnm := (name_of_methodNamed Bd.named Bd.method).1
  have X0 : Stand p l e ({ frames := 0, cells := 0, slots := 0, locals := 0 } : Room) s m #[(.ref a1)] below meth c s₁ [] 0 0 := Stand.of_body Bd
  have e0 : s₁.heap = h0 := by rw [← hh, Bd.state]; rfl
  have N0 := Fr.nil n0
  have pre0 : ∀ t, Steps p.tables e below (s₁.setTop (mkF m 0 #[.val (.ref a1)] [])) t → Steps p.tables e below (s₁.setTop (entryFrame m #[(.ref a1)] 1)) t := fun t k => castTop (ef_35 m a1) k
  -- 3. LAWS
  obtain ⟨T2, X2, e2, st2⟩ := getF X0 hx hZ hown (host := "") (Or.inl (hw _ (List.mem_of_getElem? (i := 205) rfl))) Via.refl e0 F_status_a1 (g := (mkF m 1 #[.val (.ref a1)] [(.ref a1)])) rfl rfl (hb hby d35_1)
  obtain ⟨fs, hr, hrun, hended, hW, hsame⟩ := X2.leave (v := some (.int (64 : Int32))) (fun h => by rw [Bd.returns] at h; cases h)
  refine ⟨_, _, pre0 _ ?_, hrun, hended, _, _, rfl, ?_, ⟨_, rfl⟩, hW, hsame.mono (by decide) (by decide)⟩
  -- 4. STEPS
  · show Steps p.tables e below (s₁.setTop (mkF m 0 #[.val (.ref a1)] [])) _
    refine XS.aloadN X0.here hx rfl (hb hby d35_0) rfl rfl ?_
    show Steps p.tables e below (s₁.setTop (mkF m 1 #[.val (.ref a1)] [(.ref a1)])) _
    refine st2 _ ?_
    show Steps p.tables e below (T2.setTop (mkF m 4 #[.val (.ref a1)] [(.int (64 : Int32))])) _
    exact retI X2 hx Bd.returns (hb hby d35_4) hr      -- retI stands in the head ('lawwalk <made dir>' prints it)
  · show own_QR (.int (64 : Int32)) h0 n0 _ T2.heap _
    rw [e2]
    exact ⟨rfl, N0, rfl⟩
theorem d36_0 : decode jdk_78_method_6_code 0 = .ok (.aload_n 0, 1) := by decide +kernel
theorem d36_1 : decode jdk_78_method_6_code 1 = .ok (.getfield 31, 3) := by decide +kernel
theorem d36_4 : decode jdk_78_method_6_code 4 = .ok (.areturn, 1) := by decide +kernel
theorem pn_36 : plainName "java/lang/Throwable" = true := by first | (simp [plainName, overriddenIn]; done) | decide +kernel
theorem ef_36 (m : MethodId) (x0 : Addr) : entryFrame m #[(.ref x0)] 1 = mkF m 0 #[.val (.ref x0)] [] := by first | (simp [entryFrame, mkF, argsToLocals, Value.category]; done) | rfl
set_option maxRecDepth 65536 in
set_option maxHeartbeats 40000000 in
theorem rm36 (l : Launch) (Z : State) (a0 : Array Value) (hw : ∀ d ∈ tables_1, d.before a0 Z = true) (ws : List Jvm.Cond) (a1 : Addr) (mv : Addr) (h0 : Heap) (n0 : Nat) (Z0 : n0 ≤ h0.size) (E_a1 : Exa Z h0 a1 "com/example/excl1/excl1/cli/Refusal") (F_detailMessage_a1 : Fld Z h0 a1 "java/lang/Throwable" "detailMessage" "Ljava/lang/String;" (.ref mv)) :
    MetFree l (⟨"java/lang/Throwable", "getMessage", "()Ljava/lang/String;"⟩ : MethodName) (head1 (Jvm.Cond.code (⟨"java/lang/Throwable", "getMessage", "()Ljava/lang/String;"⟩ : MethodName) jdk_78_method_6_code 1 (some (.object "java/lang/String")) :: ws) ({ frames := 0, cells := 0, slots := 0, locals := 0 } : Room)) (fun a U => a = #[(.ref a1)] ∧ Z.Warmed39 U.vm ∧ U.heap = h0) (fun _ _ _ _ _ => True) (fun _ U o U' => ∃ v L, o = .returned v ∧ own_QR (.ref mv) h0 n0 v U'.heap L ∧ FrameEnd U o U' L ({ frames := 0, cells := 0, slots := 0, locals := 0 } : Room).cells ({ frames := 0, cells := 0, slots := 0, locals := 0 } : Room).slots) := by
  refine MetFree.of_bodySF (plainFor_of_name pn_36) hisR ?_
  intro p e s m args below meth c s₁ Bd hml0 hP hK
  obtain ⟨rfl, hZ, hh⟩ := hP
  have hx := Bd.exec
  have hby := Bd.bytes
  have hml : c.maxLocals = 1 := hml0
  have hown : s.vm.findClass "java/lang/Throwable" = some m.cls := findClass_of_methodNamed Bd.named
  have hnm := (name_of_methodNamed Bd.named Bd.method).1
  have X0 : Stand p l e ({ frames := 0, cells := 0, slots := 0, locals := 0 } : Room) s m #[(.ref a1)] below meth c s₁ [] 0 0 := Stand.of_body Bd
  have e0 : s₁.heap = h0 := by rw [← hh, Bd.state]; rfl
  have N0 := Fr.nil n0
  have pre0 : ∀ t, Steps p.tables e below (s₁.setTop (mkF m 0 #[.val (.ref a1)] [])) t → Steps p.tables e below (s₁.setTop (entryFrame m #[(.ref a1)] 1)) t := fun t k => castTop (ef_36 m a1) k
  -- 3. LAWS
  obtain ⟨T2, X2, e2, st2⟩ := getF X0 hx hZ hown (host := "") (Or.inl (hw _ (List.mem_of_getElem? (i := 204) rfl))) Via.refl e0 F_detailMessage_a1 (g := (mkF m 1 #[.val (.ref a1)] [(.ref a1)])) rfl rfl (hb hby d36_1)
  obtain ⟨fs, hr, hrun, hended, hW, hsame⟩ := X2.leave (v := some (.ref mv)) (fun h => by rw [Bd.returns] at h; cases h)
  refine ⟨_, _, pre0 _ ?_, hrun, hended, _, _, rfl, ?_, ⟨_, rfl⟩, hW, hsame.mono (by decide) (by decide)⟩
  -- 4. STEPS
  · show Steps p.tables e below (s₁.setTop (mkF m 0 #[.val (.ref a1)] [])) _
    refine XS.aloadN X0.here hx rfl (hb hby d36_0) rfl rfl ?_
    show Steps p.tables e below (s₁.setTop (mkF m 1 #[.val (.ref a1)] [(.ref a1)])) _
    refine st2 _ ?_
    show Steps p.tables e below (T2.setTop (mkF m 4 #[.val (.ref a1)] [(.ref mv)])) _
    jvm_step X2.here [X2.here.top, hx, (hb hby d36_4), X2.method', Bd.returns, Value.isRef, FieldType.isReference]
    first | (intro acts; rw [hr _ acts rfl rfl rfl]) | rw [hr _ _ rfl rfl rfl]
    exact Steps.refl _
  · show own_QR (.ref mv) h0 n0 _ T2.heap _
    rw [e2]
    exact ⟨rfl, N0, rfl⟩
abbrev own_irem (x y : Int32) : Int32 := x % y
theorem own_irem3 (x : Int32) : own_irem (x &&& 3) 3 = 0 ∨ own_irem (x &&& 3) 3 = 1 ∨ own_irem (x &&& 3) 3 = 2 := by
  have e : (x &&& 3).toInt = x.toInt % 2 ^ 2 := Jvm.Kit.i32_mask x 3 (by decide) (by decide)
  have h : (x &&& 3) = 0 ∨ (x &&& 3) = 1 ∨ (x &&& 3) = 2 ∨ (x &&& 3) = 3 := by
    have z0 : (0 : Int32).toInt = 0 := by decide
    have z1 : (1 : Int32).toInt = 1 := by decide
    have z2 : (2 : Int32).toInt = 2 := by decide
    have z3 : (3 : Int32).toInt = 3 := by decide
    rw [← Int32.toInt_inj, ← Int32.toInt_inj, ← Int32.toInt_inj, ← Int32.toInt_inj]
    omega
  rcases h with h | h | h | h <;> rw [h] <;> decide
theorem own_x255 (x : Int32) : ¬ ((x &&& (255 : Int32)).toUInt32.toUInt16.toUInt32.toInt32) < 0 ∧ ¬ (255 : Int32) < ((x &&& (255 : Int32)).toUInt32.toUInt16.toUInt32.toInt32) := by rw [i2c_mask]; exact own_and255 x
theorem own_xnar (x : Int32) : nar .char ((x &&& (255 : Int32)).toUInt32.toUInt16.toUInt32.toInt32) = ((x &&& (255 : Int32)).toUInt32.toUInt16.toUInt32.toInt32) := by rw [own_nar, i2c_mask]
theorem own_arvc {Z : State} {h : Heap} {b : Addr} {k : ClassId} {z z' : Int32} {vs vs' : List Value} {d : Value} (V : Arv Z h b k .byte z vs d) (e : z = z') (ev : vs = vs') : Arv Z h b k .byte z' vs' d := by subst e ev; exact V
def own_cs (a b : List Int32) : List Int32 := a ++ [(59 : Int32), (32 : Int32), (117 : Int32), (115 : Int32), (97 : Int32), (103 : Int32), (101 : Int32), (58 : Int32), (32 : Int32)] ++ b
theorem own_ev (a b : List Int32) : (a.map fun c => Value.int (c.toInt8.toInt32)) ++ [(.int (59 : Int32)), (.int (32 : Int32)), (.int (117 : Int32)), (.int (115 : Int32)), (.int (97 : Int32)), (.int (103 : Int32)), (.int (101 : Int32)), (.int (58 : Int32)), (.int (32 : Int32))] ++ (b.map fun c => Value.int (c.toInt8.toInt32)) = (own_cs a b).map fun c => Value.int (StrChars.lo8 c) := by
  have h : [(.int (59 : Int32)), (.int (32 : Int32)), (.int (117 : Int32)), (.int (115 : Int32)), (.int (97 : Int32)), (.int (103 : Int32)), (.int (101 : Int32)), (.int (58 : Int32)), (.int (32 : Int32))] = ([(59 : Int32), (32 : Int32), (117 : Int32), (115 : Int32), (97 : Int32), (103 : Int32), (101 : Int32), (58 : Int32), (32 : Int32)]).map fun c => Value.int (StrChars.lo8 c) := by decide
  rw [h, own_cs, List.map_append, List.map_append]
  rfl
theorem own_lat {a b : List Int32} (ha : ∀ c ∈ a, ¬ c < 0 ∧ ¬ (255 : Int32) < c) (hb : ∀ c ∈ b, ¬ c < 0 ∧ ¬ (255 : Int32) < c) : ∀ c ∈ own_cs a b, ¬ c < 0 ∧ ¬ (255 : Int32) < c := by
  intro c hc
  have hl : ∀ c ∈ [(59 : Int32), (32 : Int32), (117 : Int32), (115 : Int32), (97 : Int32), (103 : Int32), (101 : Int32), (58 : Int32), (32 : Int32)], ¬ c < 0 ∧ ¬ (255 : Int32) < c := by decide
  rcases List.mem_append.mp hc with q | q
  · rcases List.mem_append.mp q with q | q
    · exact ha c q
    · exact hl c q
  · exact hb c q
theorem own_65 {cs : List Int32} (h : ∀ c ∈ cs, ¬ c < 0 ∧ ¬ (255 : Int32) < c) : ∀ c ∈ cs, ¬ c < 0 ∧ ¬ (65535 : Int32) < c := fun c hc => by
  refine ⟨(h c hc).1, fun q => (h c hc).2 ?_⟩
  rw [Int32.lt_iff_toInt_lt] at q ⊢
  have y : (255 : Int32).toInt = 255 := by decide
  have z : (65535 : Int32).toInt = 65535 := by decide
  omega
theorem own_l0 : ∀ c ∈ ([] : List Int32), ¬ c < 0 ∧ ¬ (255 : Int32) < c := fun _ q => nomatch q
theorem own_lS {x : Int32} {L : List Int32} (h : ¬ x < 0 ∧ ¬ (255 : Int32) < x) (r : ∀ c ∈ L, ¬ c < 0 ∧ ¬ (255 : Int32) < c) : ∀ c ∈ x :: L, ¬ c < 0 ∧ ¬ (255 : Int32) < c := fun c q => by
  rcases List.mem_cons.mp q with rfl | q
  · exact h
  · exact r c q
theorem own_mk {s : State} (h : Jvm.D.tablesKnown s = true) : s.vm.MethodsKnown := fun m x hx => by
  simp only [Vm.method?, Option.bind_eq_bind, Option.bind_eq_some_iff] at hx
  obtain ⟨k, hk, hm⟩ := hx
  refine ⟨k, hk, fun cf hcf => ?_⟩
  have q := Array.all_eq_true_iff_forall_mem.mp h k (Array.mem_of_getElem? hk)
  simp only [hcf, beq_iff_eq] at q
  have r := (Array.getElem?_eq_some_iff.mp hm).1
  rw [q] at r
  simp [r]
theorem own_fk {s : State} {f : Frame} {below : List Frame} (h : Jvm.D.framesKnown s = true) (hf : s.frames = f :: below) : s.vm.FramesKnown below := fun y hy m' hm' => by
  have q := List.all_eq_true.mp h y (by rw [hf]; exact List.mem_cons_of_mem _ hy)
  have mk : Jvm.D.methodKnown s.vm m' = true → s.vm.knowsMethod m' := fun r => by
    unfold Jvm.D.methodKnown at r
    split at r
    · rename_i k hk
      refine ⟨k, hk, fun cf hcf => ?_⟩
      rw [hcf] at r
      exact r
    · cases r
  cases y <;> simp [frameMethod?] at hm' <;> (subst hm'; exact mk q)
def own_mc (n x y : Int32) : List Int32 := if n = 0 then [] else if n = 1 then [x] else [x, y]
def own_mv (n x y : Int32) : List Value := (own_mc n x y).map fun c => Value.int (c.toInt8.toInt32)
theorem own_mc0 (x y : Int32) : own_mc 0 x y = [] := by simp [own_mc]
theorem own_mc1 (x y : Int32) : own_mc 1 x y = [x] := by simp [own_mc]
theorem own_mc2 (x y : Int32) : own_mc 2 x y = [x, y] := by simp [own_mc]
theorem own_mcl {n : Int32} (h : n = 0 ∨ n = 1 ∨ n = 2) (x y : Int32) : n.toNatClampNeg = (own_mc n x y).length := by
  rcases h with rfl | rfl | rfl
  · rw [own_mc0]; rfl
  · rw [own_mc1]; rfl
  · rw [own_mc2]; rfl
theorem own_mvl {n : Int32} (h : n = 0 ∨ n = 1 ∨ n = 2) (x y : Int32) : n.toNatClampNeg = (own_mv n x y).length := by rw [own_mv, List.length_map]; exact own_mcl h x y
theorem own_mclat {n x y : Int32} (hx : ¬ x < 0 ∧ ¬ (255 : Int32) < x) (hy : ¬ y < 0 ∧ ¬ (255 : Int32) < y) : ∀ c ∈ own_mc n x y, ¬ c < 0 ∧ ¬ (255 : Int32) < c := by
  unfold own_mc
  split
  · exact own_l0
  · split
    · exact own_lS hx own_l0
    · exact own_lS hx (own_lS hy own_l0)
theorem own_csl (a b : List Int32) : (own_cs a b).length = a.length + 9 + b.length := by simp [own_cs]; omega
theorem own_zl {n u : Int32} (hn : n = 0 ∨ n = 1 ∨ n = 2) (hu : u = 0 ∨ u = 1 ∨ u = 2) (x y v w : Int32) : (0 : Int32) + n + 9 + u = Int32.ofNat (own_cs (own_mc n x y) (own_mc u v w)).length := by
  rw [own_csl, ← own_mcl hn, ← own_mcl hu]
  rcases hn with rfl | rfl | rfl <;> rcases hu with rfl | rfl | rfl <;> decide
theorem own_gA {a b : List Int32} {i : Nat} (h : i < a.length) : (own_cs a b).getD i 0 = a.getD i 0 := by
  rw [List.getD_eq_getElem?_getD, List.getD_eq_getElem?_getD, own_cs, List.append_assoc, List.getElem?_append_left h]
theorem own_gL {a b : List Int32} {i : Nat} (h : i < 9) : (own_cs a b).getD (a.length + i) 0 = ([(59 : Int32), (32 : Int32), (117 : Int32), (115 : Int32), (97 : Int32), (103 : Int32), (101 : Int32), (58 : Int32), (32 : Int32)]).getD i 0 := by
  rw [List.getD_eq_getElem?_getD, List.getD_eq_getElem?_getD, own_cs, List.append_assoc, List.getElem?_append_right (by omega), Nat.add_sub_cancel_left, List.getElem?_append_left (by simpa using h)]
theorem own_gB {a b : List Int32} {i : Nat} : (own_cs a b).getD (a.length + 9 + i) 0 = b.getD i 0 := by
  have q : (a ++ [(59 : Int32), (32 : Int32), (117 : Int32), (115 : Int32), (97 : Int32), (103 : Int32), (101 : Int32), (58 : Int32), (32 : Int32)]).length = a.length + 9 := by simp
  rw [List.getD_eq_getElem?_getD, List.getD_eq_getElem?_getD, own_cs, List.getElem?_append_right (by omega), q, Nat.add_sub_cancel_left]
theorem rm1 (l : Launch) (Z : State) (a0 : Array Value) (hw : ∀ d ∈ tables_1, d.before a0 Z = true) (ws : List Jvm.Cond) (p1 : Int32) (p2 : Int32) (p3 : Int32) (G1 : Int32) (h0 : Heap) (n0 : Nat) (Z0 : n0 ≤ h0.size) (S_COMPACT_STRINGS : Sta Z Z.heap "java/lang/String" "COMPACT_STRINGS" "Z" (.int G1)) (X00 : Old Z n0 h0) (P3 : ¬ (G1 = (0 : Int32))) (hp : p1 = 0 ∨ p1 = 1 ∨ p1 = 2) (hl2 : ¬ p2 < 0 ∧ ¬ (255 : Int32) < p2) (hl3 : ¬ p3 < 0 ∧ ¬ (255 : Int32) < p3) (hn2 : nar .char p2 = p2) (hn3 : nar .char p3 = p3) :
    MetFree l (⟨"com/example/excl1/excl1/cli/RefusalUsagePinLaw", "make", "(ICC)Ljava/lang/String;"⟩ : MethodName) (head1 (Jvm.Cond.code (⟨"com/example/excl1/excl1/cli/RefusalUsagePinLaw", "make", "(ICC)Ljava/lang/String;"⟩ : MethodName) method_2_code 3 (some (.object "java/lang/String")) :: ws) ({ frames := 5, cells := 3, slots := 8, locals := 120 } : Room)) (fun a U => a = #[(.int p1), (.int p2), (.int p3)] ∧ Z.Warmed39 U.vm ∧ U.heap = h0 ∧ CHv Z consts_1 U.vm h0) (fun _ _ _ _ _ => True) (fun _ U o U' => ∃ v L, o = .returned v ∧ own_QM Z p1 (own_mv p1 p2 p3) h0 n0 v U'.heap L ∧ CHr Z consts_1 U.vm U.heap U'.vm U'.heap ∧ ReturnedEndW U o U' L ({ frames := 5, cells := 3, slots := 8, locals := 120 } : Room).cells ({ frames := 5, cells := 3, slots := 8, locals := 120 } : Room).slots) := by
  rcases hp with rfl | rfl | rfl
  · have e : own_mv 0 p2 p3 = [] := by rw [own_mv, own_mc0]; rfl
    rw [e]
    exact rm1_f l Z a0 hw ws 0 p2 p3 h0 n0 Z0 rfl
  · have e : own_mv 1 p2 p3 = [(.int (p2.toInt8.toInt32))] := by rw [own_mv, own_mc1]; rfl
    rw [e]
    exact rm1_tf l Z a0 hw ws 1 p2 p3 G1 h0 n0 Z0 S_COMPACT_STRINGS X00 P3 hl2.2 (by decide) rfl
  · have e : own_mv 2 p2 p3 = [(.int (p2.toInt8.toInt32)), (.int (p3.toInt8.toInt32))] := by rw [own_mv, own_mc2]; rfl
    rw [e]
    exact rm1_tt l Z a0 hw ws 2 p2 p3 G1 h0 n0 Z0 S_COMPACT_STRINGS X00 P3 hl2 hl3 hn2 hn3 (by decide) (by decide)
theorem pn_0 : plainName "com/example/excl1/excl1/cli/RefusalUsagePinLaw" = true := by first | (simp [plainName, overriddenIn]; done) | decide +kernel
theorem pd_0_0 : parseMethodDescriptor "(ICC)Ljava/lang/String;" = some ⟨[.int, .char, .char], some (.object "java/lang/String")⟩ := by decide +kernel
theorem pd_0_7 : parseMethodDescriptor "(Ljava/lang/String;Ljava/lang/String;)Lcom/example/excl1/excl1/cli/Refusal;" = some ⟨[(.object "java/lang/String"), (.object "java/lang/String")], some (.object "com/example/excl1/excl1/cli/Refusal")⟩ := by decide +kernel
theorem pd_0_11 : parseMethodDescriptor "()I" = some ⟨[], some .int⟩ := by decide +kernel
theorem pd_0_17 : parseMethodDescriptor "()Ljava/lang/String;" = some ⟨[], some (.object "java/lang/String")⟩ := by decide +kernel
theorem pd_0_27 : parseMethodDescriptor "(I)C" = some ⟨[.int], some .char⟩ := by decide +kernel
theorem ef_0 (m : MethodId) (x0 : Int32) (x1 : Int32) (x2 : Int32) : entryFrame m #[(.int x0), (.int x1), (.int x2)] maxLocals = mkF m 0 #[.val (.int x0), .val (.int x1), .val (.int x2), .unset, .unset, .unset, .unset, .unset, .unset, .unset, .unset, .unset, .unset, .unset, .unset, .unset] [] := by first | (simp [entryFrame, mkF, argsToLocals, Value.category, maxLocals]; done) | rfl
abbrev own_LS (p1 p2 p3 pl ul c0 c1 d0 d1 : Int32) (a4 a5 r6 bm : Addr) (v13 v14 v15 : Slot) : Array Slot := #[.val (.int p1), .val (.int p2), .val (.int p3), .val (.int pl), .val (.int ul), .val (.int c0), .val (.int c1), .val (.int d0), .val (.int d1), .val (.ref a4), .val (.ref a5), .val (.ref r6), .val (.ref bm), v13, v14, v15]
theorem own_ch {p : Program} {l : Launch} {e : Env} {s : State} {m : MethodId} {args : Array Value} {below : List Frame} {meth : Method} {c : Code} {T0 : State} {locs : List Loc} {cells slots : Nat} {Z : State} {a0 : Array Value} {h : Heap} (X0 : Stand p l e room_1 s m args below meth c T0 locs cells slots) (hx : p.tables.exec = Jvm.exec) (hZ : Z.Warmed39 s.vm) (hown : s.vm.findClass "com/example/excl1/excl1/cli/RefusalUsagePinLaw" = some m.cls) (hw : ∀ d ∈ tables_1, d.before a0 Z = true) (hby : c.code = code) (hml : c.maxLocals = 16) (e0 : T0.heap = h)
    {bm tm : Addr} {km : ClassId} {cs : List Int32} {G1 : Int32} {fm : Value} (E : Exa Z h bm "java/lang/String") (Fv : Fld Z h bm "java/lang/String" "value" "[B" (.ref tm)) (Fc : Fld Z h bm "java/lang/String" "coder" "B" (.int 0)) (V : Arv Z h tm km .byte (Int32.ofNat cs.length) (cs.map fun c => Value.int (StrChars.lo8 c)) (.int 0)) (hlat : ∀ c ∈ cs, ¬ c < 0 ∧ ¬ (255 : Int32) < c) (SC : Sta Z h "java/lang/String" "COMPACT_STRINGS" "Z" (.int G1)) (P3 : ¬ G1 = 0) (SF : Sta Z h "jdk/internal/util/Preconditions" "SIOOBE_FORMATTER" "Ljava/util/function/BiFunction;" fm) (rf : fm.isRef = true) (hlen : cs.length ≤ 4000) (hcl : cells + 0 ≤ room_1.cells) (hsl : slots + 0 ≤ room_1.slots) {pc : Nat} {Ls : Array Slot} {j y : Int32} (i : Nat) (hi : i < cs.length) (hj : j = Int32.ofNat i) (hy : cs.getD i 0 = y) (hLs : Ls.size = 16) (hd : decode c.code pc = .ok (.invokevirtual 41, 3)) :
    ∃ T' : State, Stand p l e room_1 s m args below meth c T' locs cells slots ∧ T'.heap = h ∧ Steps p.tables e below (T0.setTop (mkF m pc Ls [(.int j), (.ref bm)])) (T'.setTop (mkF m (pc + 3) Ls [(.int y)])) := by
  obtain ⟨cq, kq, qa, qb, qc⟩ := isOf hZ e0 E
  have hwc : ∀ d ∈ StrChars.Road.wordsChN, d.before a0 Z = true := fun d hd => hw d ((by decide +kernel : ∀ d ∈ StrChars.Road.wordsChN, d ∈ tables_1) d hd)
  obtain ⟨_, _, ⟨T1, L1, k1, n1⟩, -, X1, ⟨Lc, ⟨hv, hL, hh⟩, l1, y1, z1⟩, st1⟩ := X0.virtualBack hx (y := (⟨"java/lang/String", "charAt", "(I)C"⟩ : MethodName)) (z := (⟨"java/lang/String", "charAt", "(I)C"⟩ : MethodName)) hown (mvT hZ (hw _ (List.mem_of_getElem? (i := 219) rfl))) (mvT hZ (hw _ (List.mem_of_getElem? (i := 220) rfl))) (notFace_of_selects (args := #[]) (mvT hZ (hw _ (List.mem_of_getElem? (i := 222) rfl)))) (mvT hZ (hw _ (List.mem_of_getElem? (i := 222) rfl))) (mvT hZ (hw _ (List.mem_of_getElem? (i := 221) rfl))) (by decide) (StrChars.Road.chN (W := 0) (kI := 4) (cs := cs) (i := i) hZ hwc (hw _ (List.mem_of_getElem? (i := 5) rfl)) E Fv Fc V (Or.inl ⟨rfl, rfl, rfl, fun c hc => (hlat c hc).2⟩) (own_65 hlat) SC P3 SF rf hlen hi hj (by decide) (by decide)) qa qc (g := (mkF m pc Ls [(.int j), (.ref bm)])) rfl (by rw [hml]; exact hLs) (Steps.refl _) (argsL := [(.int j)]) (rest := []) (lenOf pd_0_27 rfl) rfl (by show 2 * 0 + _ ≤ _; exact Nat.le_of_eq rfl) hd (fun _ _ => ⟨rfl, e0, hcl, hsl⟩)
  dsimp only [Pt.U, Pt.locs, Pt.cells, Pt.slots] at X1 l1 y1 z1 st1 hh
  subst l1 y1 z1 hL hv
  rw [hy] at st1
  rw [List.append_nil] at X1
  exact ⟨T1, X1, hh, st1⟩
theorem own_sA_t {p : Program} {l : Launch} {e : Env} {s : State} {m : MethodId} {args : Array Value} {below : List Frame} {meth : Method} {c : Code} {T0 : State} {locs : List Loc} {cells slots : Nat} {Z : State} {a0 : Array Value} {h : Heap} (X0 : Stand p l e room_1 s m args below meth c T0 locs cells slots) (hx : p.tables.exec = Jvm.exec) (hZ : Z.Warmed39 s.vm) (hown : s.vm.findClass "com/example/excl1/excl1/cli/RefusalUsagePinLaw" = some m.cls) (hw : ∀ d ∈ tables_1, d.before a0 Z = true) (hby : c.code = code) (hml : c.maxLocals = 16) (e0 : T0.heap = h)
    {bm tm : Addr} {km : ClassId} {cs : List Int32} {G1 : Int32} {fm : Value} (E : Exa Z h bm "java/lang/String") (Fv : Fld Z h bm "java/lang/String" "value" "[B" (.ref tm)) (Fc : Fld Z h bm "java/lang/String" "coder" "B" (.int 0)) (V : Arv Z h tm km .byte (Int32.ofNat cs.length) (cs.map fun c => Value.int (StrChars.lo8 c)) (.int 0)) (hlat : ∀ c ∈ cs, ¬ c < 0 ∧ ¬ (255 : Int32) < c) (SC : Sta Z h "java/lang/String" "COMPACT_STRINGS" "Z" (.int G1)) (P3 : ¬ G1 = 0) (SF : Sta Z h "jdk/internal/util/Preconditions" "SIOOBE_FORMATTER" "Ljava/util/function/BiFunction;" fm) (rf : fm.isRef = true) (hlen : cs.length ≤ 4000) (hcl : cells + 0 ≤ room_1.cells) (hsl : slots + 0 ≤ room_1.slots) {p1 p2 p3 pl ul c0 c1 d0 d1 : Int32} {a4 a5 r6 : Addr} (hc135 : pl < (1 : Int32)) :
    ∃ T' : State, Stand p l e room_1 s m args below meth c T' locs cells slots ∧ T'.heap = h ∧ Steps p.tables e below (T0.setTop (mkF m 133 (own_LS p1 p2 p3 pl ul c0 c1 d0 d1 a4 a5 r6 bm .unset .unset .unset) [])) (T'.setTop (mkF m 151 (own_LS p1 p2 p3 pl ul c0 c1 d0 d1 a4 a5 r6 bm .unset .unset .unset) [])) := by
  refine ⟨T0, X0, e0, ?_⟩
  show Steps p.tables e below (T0.setTop (mkF m 133 (own_LS p1 p2 p3 pl ul c0 c1 d0 d1 a4 a5 r6 bm .unset .unset .unset) [])) _
  refine XS.iloadN X0.here hx rfl (hb hby at_133) rfl ?_
  show Steps p.tables e below (T0.setTop (mkF m 134 (own_LS p1 p2 p3 pl ul c0 c1 d0 d1 a4 a5 r6 bm .unset .unset .unset) [(.int pl)])) _
  refine XS.iconst X0.here hx rfl (hb hby at_134) ?_
  show Steps p.tables e below (T0.setTop (mkF m 135 (own_LS p1 p2 p3 pl ul c0 c1 d0 d1 a4 a5 r6 bm .unset .unset .unset) [(.int (1 : Int32)), (.int pl)])) _
  refine XS.icmpYes X0.here hx rfl (pc0 := 135) (pc' := 151) rfl (hb hby at_135) rfl (tlt hc135).1 (by decide) (by decide) ?_
  show Steps p.tables e below (T0.setTop (mkF m 151 (own_LS p1 p2 p3 pl ul c0 c1 d0 d1 a4 a5 r6 bm .unset .unset .unset) [])) _
  exact Steps.refl _
theorem own_sA_f {p : Program} {l : Launch} {e : Env} {s : State} {m : MethodId} {args : Array Value} {below : List Frame} {meth : Method} {c : Code} {T0 : State} {locs : List Loc} {cells slots : Nat} {Z : State} {a0 : Array Value} {h : Heap} (X0 : Stand p l e room_1 s m args below meth c T0 locs cells slots) (hx : p.tables.exec = Jvm.exec) (hZ : Z.Warmed39 s.vm) (hown : s.vm.findClass "com/example/excl1/excl1/cli/RefusalUsagePinLaw" = some m.cls) (hw : ∀ d ∈ tables_1, d.before a0 Z = true) (hby : c.code = code) (hml : c.maxLocals = 16) (e0 : T0.heap = h)
    {bm tm : Addr} {km : ClassId} {cs : List Int32} {G1 : Int32} {fm : Value} (E : Exa Z h bm "java/lang/String") (Fv : Fld Z h bm "java/lang/String" "value" "[B" (.ref tm)) (Fc : Fld Z h bm "java/lang/String" "coder" "B" (.int 0)) (V : Arv Z h tm km .byte (Int32.ofNat cs.length) (cs.map fun c => Value.int (StrChars.lo8 c)) (.int 0)) (hlat : ∀ c ∈ cs, ¬ c < 0 ∧ ¬ (255 : Int32) < c) (SC : Sta Z h "java/lang/String" "COMPACT_STRINGS" "Z" (.int G1)) (P3 : ¬ G1 = 0) (SF : Sta Z h "jdk/internal/util/Preconditions" "SIOOBE_FORMATTER" "Ljava/util/function/BiFunction;" fm) (rf : fm.isRef = true) (hlen : cs.length ≤ 4000) (hcl : cells + 0 ≤ room_1.cells) (hsl : slots + 0 ≤ room_1.slots) {p1 p2 p3 pl ul c0 c1 d0 d1 : Int32} {a4 a5 r6 : Addr} (hc135 : ¬ (pl < (1 : Int32))) (hi : 0 < cs.length) (hy : cs.getD 0 0 = c0) :
    ∃ T' : State, Stand p l e room_1 s m args below meth c T' locs cells slots ∧ T'.heap = h ∧ Steps p.tables e below (T0.setTop (mkF m 133 (own_LS p1 p2 p3 pl ul c0 c1 d0 d1 a4 a5 r6 bm .unset .unset .unset) [])) (T'.setTop (mkF m 151 (own_LS p1 p2 p3 pl ul c0 c1 d0 d1 a4 a5 r6 bm .unset .unset .unset) [])) := by
  obtain ⟨T1, X1, e1, st1⟩ := own_ch X0 hx hZ hown hw hby hml e0 E Fv Fc V hlat SC P3 SF rf hlen hcl hsl (pc := 141) (Ls := (own_LS p1 p2 p3 pl ul c0 c1 d0 d1 a4 a5 r6 bm .unset .unset .unset)) (j := (0 : Int32)) (0) hi rfl hy rfl (hb hby at_141)
  refine ⟨T1, X1, e1, ?_⟩
  show Steps p.tables e below (T0.setTop (mkF m 133 (own_LS p1 p2 p3 pl ul c0 c1 d0 d1 a4 a5 r6 bm .unset .unset .unset) [])) _
  refine XS.iloadN X0.here hx rfl (hb hby at_133) rfl ?_
  show Steps p.tables e below (T0.setTop (mkF m 134 (own_LS p1 p2 p3 pl ul c0 c1 d0 d1 a4 a5 r6 bm .unset .unset .unset) [(.int pl)])) _
  refine XS.iconst X0.here hx rfl (hb hby at_134) ?_
  show Steps p.tables e below (T0.setTop (mkF m 135 (own_LS p1 p2 p3 pl ul c0 c1 d0 d1 a4 a5 r6 bm .unset .unset .unset) [(.int (1 : Int32)), (.int pl)])) _
  refine XS.icmpNo X0.here hx rfl (hb hby at_135) rfl (flt hc135).1 ?_
  show Steps p.tables e below (T0.setTop (mkF m 138 (own_LS p1 p2 p3 pl ul c0 c1 d0 d1 a4 a5 r6 bm .unset .unset .unset) [])) _
  refine XS.aload X0.here hx rfl (hb hby at_138) rfl rfl ?_
  show Steps p.tables e below (T0.setTop (mkF m 140 (own_LS p1 p2 p3 pl ul c0 c1 d0 d1 a4 a5 r6 bm .unset .unset .unset) [(.ref bm)])) _
  refine XS.iconst X0.here hx rfl (hb hby at_140) ?_
  show Steps p.tables e below (T0.setTop (mkF m 141 (own_LS p1 p2 p3 pl ul c0 c1 d0 d1 a4 a5 r6 bm .unset .unset .unset) [(.int (0 : Int32)), (.ref bm)])) _
  refine st1.trans ?_
  show Steps p.tables e below (T1.setTop (mkF m 144 (own_LS p1 p2 p3 pl ul c0 c1 d0 d1 a4 a5 r6 bm .unset .unset .unset) [(.int c0)])) _
  refine XS.iload X1.here hx rfl (hb hby at_144) rfl ?_
  show Steps p.tables e below (T1.setTop (mkF m 146 (own_LS p1 p2 p3 pl ul c0 c1 d0 d1 a4 a5 r6 bm .unset .unset .unset) [(.int c0), (.int c0)])) _
  refine XS.icmpYes X1.here hx rfl (pc0 := 146) (pc' := 151) rfl (hb hby at_146) rfl (teq (rfl : c0 = c0)).1 (by decide) (by decide) ?_
  show Steps p.tables e below (T1.setTop (mkF m 151 (own_LS p1 p2 p3 pl ul c0 c1 d0 d1 a4 a5 r6 bm .unset .unset .unset) [])) _
  exact Steps.refl _
theorem own_sB_t {p : Program} {l : Launch} {e : Env} {s : State} {m : MethodId} {args : Array Value} {below : List Frame} {meth : Method} {c : Code} {T0 : State} {locs : List Loc} {cells slots : Nat} {Z : State} {a0 : Array Value} {h : Heap} (X0 : Stand p l e room_1 s m args below meth c T0 locs cells slots) (hx : p.tables.exec = Jvm.exec) (hZ : Z.Warmed39 s.vm) (hown : s.vm.findClass "com/example/excl1/excl1/cli/RefusalUsagePinLaw" = some m.cls) (hw : ∀ d ∈ tables_1, d.before a0 Z = true) (hby : c.code = code) (hml : c.maxLocals = 16) (e0 : T0.heap = h)
    {bm tm : Addr} {km : ClassId} {cs : List Int32} {G1 : Int32} {fm : Value} (E : Exa Z h bm "java/lang/String") (Fv : Fld Z h bm "java/lang/String" "value" "[B" (.ref tm)) (Fc : Fld Z h bm "java/lang/String" "coder" "B" (.int 0)) (V : Arv Z h tm km .byte (Int32.ofNat cs.length) (cs.map fun c => Value.int (StrChars.lo8 c)) (.int 0)) (hlat : ∀ c ∈ cs, ¬ c < 0 ∧ ¬ (255 : Int32) < c) (SC : Sta Z h "java/lang/String" "COMPACT_STRINGS" "Z" (.int G1)) (P3 : ¬ G1 = 0) (SF : Sta Z h "jdk/internal/util/Preconditions" "SIOOBE_FORMATTER" "Ljava/util/function/BiFunction;" fm) (rf : fm.isRef = true) (hlen : cs.length ≤ 4000) (hcl : cells + 0 ≤ room_1.cells) (hsl : slots + 0 ≤ room_1.slots) {p1 p2 p3 pl ul c0 c1 d0 d1 : Int32} {a4 a5 r6 : Addr} (hc153 : pl < (2 : Int32)) :
    ∃ T' : State, Stand p l e room_1 s m args below meth c T' locs cells slots ∧ T'.heap = h ∧ Steps p.tables e below (T0.setTop (mkF m 151 (own_LS p1 p2 p3 pl ul c0 c1 d0 d1 a4 a5 r6 bm .unset .unset .unset) [])) (T'.setTop (mkF m 169 (own_LS p1 p2 p3 pl ul c0 c1 d0 d1 a4 a5 r6 bm .unset .unset .unset) [])) := by
  refine ⟨T0, X0, e0, ?_⟩
  show Steps p.tables e below (T0.setTop (mkF m 151 (own_LS p1 p2 p3 pl ul c0 c1 d0 d1 a4 a5 r6 bm .unset .unset .unset) [])) _
  refine XS.iloadN X0.here hx rfl (hb hby at_151) rfl ?_
  show Steps p.tables e below (T0.setTop (mkF m 152 (own_LS p1 p2 p3 pl ul c0 c1 d0 d1 a4 a5 r6 bm .unset .unset .unset) [(.int pl)])) _
  refine XS.iconst X0.here hx rfl (hb hby at_152) ?_
  show Steps p.tables e below (T0.setTop (mkF m 153 (own_LS p1 p2 p3 pl ul c0 c1 d0 d1 a4 a5 r6 bm .unset .unset .unset) [(.int (2 : Int32)), (.int pl)])) _
  refine XS.icmpYes X0.here hx rfl (pc0 := 153) (pc' := 169) rfl (hb hby at_153) rfl (tlt hc153).1 (by decide) (by decide) ?_
  show Steps p.tables e below (T0.setTop (mkF m 169 (own_LS p1 p2 p3 pl ul c0 c1 d0 d1 a4 a5 r6 bm .unset .unset .unset) [])) _
  exact Steps.refl _
theorem own_sB_f {p : Program} {l : Launch} {e : Env} {s : State} {m : MethodId} {args : Array Value} {below : List Frame} {meth : Method} {c : Code} {T0 : State} {locs : List Loc} {cells slots : Nat} {Z : State} {a0 : Array Value} {h : Heap} (X0 : Stand p l e room_1 s m args below meth c T0 locs cells slots) (hx : p.tables.exec = Jvm.exec) (hZ : Z.Warmed39 s.vm) (hown : s.vm.findClass "com/example/excl1/excl1/cli/RefusalUsagePinLaw" = some m.cls) (hw : ∀ d ∈ tables_1, d.before a0 Z = true) (hby : c.code = code) (hml : c.maxLocals = 16) (e0 : T0.heap = h)
    {bm tm : Addr} {km : ClassId} {cs : List Int32} {G1 : Int32} {fm : Value} (E : Exa Z h bm "java/lang/String") (Fv : Fld Z h bm "java/lang/String" "value" "[B" (.ref tm)) (Fc : Fld Z h bm "java/lang/String" "coder" "B" (.int 0)) (V : Arv Z h tm km .byte (Int32.ofNat cs.length) (cs.map fun c => Value.int (StrChars.lo8 c)) (.int 0)) (hlat : ∀ c ∈ cs, ¬ c < 0 ∧ ¬ (255 : Int32) < c) (SC : Sta Z h "java/lang/String" "COMPACT_STRINGS" "Z" (.int G1)) (P3 : ¬ G1 = 0) (SF : Sta Z h "jdk/internal/util/Preconditions" "SIOOBE_FORMATTER" "Ljava/util/function/BiFunction;" fm) (rf : fm.isRef = true) (hlen : cs.length ≤ 4000) (hcl : cells + 0 ≤ room_1.cells) (hsl : slots + 0 ≤ room_1.slots) {p1 p2 p3 pl ul c0 c1 d0 d1 : Int32} {a4 a5 r6 : Addr} (hc153 : ¬ (pl < (2 : Int32))) (hi : 1 < cs.length) (hy : cs.getD 1 0 = c1) :
    ∃ T' : State, Stand p l e room_1 s m args below meth c T' locs cells slots ∧ T'.heap = h ∧ Steps p.tables e below (T0.setTop (mkF m 151 (own_LS p1 p2 p3 pl ul c0 c1 d0 d1 a4 a5 r6 bm .unset .unset .unset) [])) (T'.setTop (mkF m 169 (own_LS p1 p2 p3 pl ul c0 c1 d0 d1 a4 a5 r6 bm .unset .unset .unset) [])) := by
  obtain ⟨T1, X1, e1, st1⟩ := own_ch X0 hx hZ hown hw hby hml e0 E Fv Fc V hlat SC P3 SF rf hlen hcl hsl (pc := 159) (Ls := (own_LS p1 p2 p3 pl ul c0 c1 d0 d1 a4 a5 r6 bm .unset .unset .unset)) (j := (1 : Int32)) (1) hi rfl hy rfl (hb hby at_159)
  refine ⟨T1, X1, e1, ?_⟩
  show Steps p.tables e below (T0.setTop (mkF m 151 (own_LS p1 p2 p3 pl ul c0 c1 d0 d1 a4 a5 r6 bm .unset .unset .unset) [])) _
  refine XS.iloadN X0.here hx rfl (hb hby at_151) rfl ?_
  show Steps p.tables e below (T0.setTop (mkF m 152 (own_LS p1 p2 p3 pl ul c0 c1 d0 d1 a4 a5 r6 bm .unset .unset .unset) [(.int pl)])) _
  refine XS.iconst X0.here hx rfl (hb hby at_152) ?_
  show Steps p.tables e below (T0.setTop (mkF m 153 (own_LS p1 p2 p3 pl ul c0 c1 d0 d1 a4 a5 r6 bm .unset .unset .unset) [(.int (2 : Int32)), (.int pl)])) _
  refine XS.icmpNo X0.here hx rfl (hb hby at_153) rfl (flt hc153).1 ?_
  show Steps p.tables e below (T0.setTop (mkF m 156 (own_LS p1 p2 p3 pl ul c0 c1 d0 d1 a4 a5 r6 bm .unset .unset .unset) [])) _
  refine XS.aload X0.here hx rfl (hb hby at_156) rfl rfl ?_
  show Steps p.tables e below (T0.setTop (mkF m 158 (own_LS p1 p2 p3 pl ul c0 c1 d0 d1 a4 a5 r6 bm .unset .unset .unset) [(.ref bm)])) _
  refine XS.iconst X0.here hx rfl (hb hby at_158) ?_
  show Steps p.tables e below (T0.setTop (mkF m 159 (own_LS p1 p2 p3 pl ul c0 c1 d0 d1 a4 a5 r6 bm .unset .unset .unset) [(.int (1 : Int32)), (.ref bm)])) _
  refine st1.trans ?_
  show Steps p.tables e below (T1.setTop (mkF m 162 (own_LS p1 p2 p3 pl ul c0 c1 d0 d1 a4 a5 r6 bm .unset .unset .unset) [(.int c1)])) _
  refine XS.iload X1.here hx rfl (hb hby at_162) rfl ?_
  show Steps p.tables e below (T1.setTop (mkF m 164 (own_LS p1 p2 p3 pl ul c0 c1 d0 d1 a4 a5 r6 bm .unset .unset .unset) [(.int c1), (.int c1)])) _
  refine XS.icmpYes X1.here hx rfl (pc0 := 164) (pc' := 169) rfl (hb hby at_164) rfl (teq (rfl : c1 = c1)).1 (by decide) (by decide) ?_
  show Steps p.tables e below (T1.setTop (mkF m 169 (own_LS p1 p2 p3 pl ul c0 c1 d0 d1 a4 a5 r6 bm .unset .unset .unset) [])) _
  exact Steps.refl _
theorem own_sC {p : Program} {l : Launch} {e : Env} {s : State} {m : MethodId} {args : Array Value} {below : List Frame} {meth : Method} {c : Code} {T0 : State} {locs : List Loc} {cells slots : Nat} {Z : State} {a0 : Array Value} {h : Heap} (X0 : Stand p l e room_1 s m args below meth c T0 locs cells slots) (hx : p.tables.exec = Jvm.exec) (hZ : Z.Warmed39 s.vm) (hown : s.vm.findClass "com/example/excl1/excl1/cli/RefusalUsagePinLaw" = some m.cls) (hw : ∀ d ∈ tables_1, d.before a0 Z = true) (hby : c.code = code) (hml : c.maxLocals = 16) (e0 : T0.heap = h)
    {bm tm : Addr} {km : ClassId} {cs : List Int32} {G1 : Int32} {fm : Value} (E : Exa Z h bm "java/lang/String") (Fv : Fld Z h bm "java/lang/String" "value" "[B" (.ref tm)) (Fc : Fld Z h bm "java/lang/String" "coder" "B" (.int 0)) (V : Arv Z h tm km .byte (Int32.ofNat cs.length) (cs.map fun c => Value.int (StrChars.lo8 c)) (.int 0)) (hlat : ∀ c ∈ cs, ¬ c < 0 ∧ ¬ (255 : Int32) < c) (SC : Sta Z h "java/lang/String" "COMPACT_STRINGS" "Z" (.int G1)) (P3 : ¬ G1 = 0) (SF : Sta Z h "jdk/internal/util/Preconditions" "SIOOBE_FORMATTER" "Ljava/util/function/BiFunction;" fm) (rf : fm.isRef = true) (hlen : cs.length ≤ 4000) (hcl : cells + 0 ≤ room_1.cells) (hsl : slots + 0 ≤ room_1.slots) {p1 p2 p3 pl ul c0 c1 d0 d1 : Int32} {a4 a5 r6 : Addr} (hc308 : ¬ ((1 : Int32) = (0 : Int32))) (k : Nat) (hi : k + 8 < cs.length) (hk : ∀ i, i < 9 → cs.getD (k + i) 0 = ([(59 : Int32), (32 : Int32), (117 : Int32), (115 : Int32), (97 : Int32), (103 : Int32), (101 : Int32), (58 : Int32), (32 : Int32)]).getD i 0) (hj : ∀ i, i < 9 → pl + Int32.ofNat i = Int32.ofNat (k + i)) (hj0 : pl = Int32.ofNat (k + 0)) :
    ∃ T' : State, Stand p l e room_1 s m args below meth c T' locs cells slots ∧ T'.heap = h ∧ Steps p.tables e below (T0.setTop (mkF m 169 (own_LS p1 p2 p3 pl ul c0 c1 d0 d1 a4 a5 r6 bm .unset .unset .unset) [])) (T'.setTop (mkF m 320 (own_LS p1 p2 p3 pl ul c0 c1 d0 d1 a4 a5 r6 bm (.val (.int pl)) (.val (.int (1 : Int32))) (.val (.int (pl + (9 : Int32))))) [])) := by
  obtain ⟨T1, X1, e1, st1⟩ := own_ch X0 hx hZ hown hw hby hml e0 E Fv Fc V hlat SC P3 SF rf hlen hcl hsl (pc := 176) (Ls := (own_LS p1 p2 p3 pl ul c0 c1 d0 d1 a4 a5 r6 bm (.val (.int pl)) .unset .unset)) (j := pl) (k + 0) (by omega) hj0 (hk 0 (by decide)) rfl (hb hby at_176)
  obtain ⟨T2, X2, e2, st2⟩ := own_ch X1 hx hZ hown hw hby hml e1 E Fv Fc V hlat SC P3 SF rf hlen hcl hsl (pc := 190) (Ls := (own_LS p1 p2 p3 pl ul c0 c1 d0 d1 a4 a5 r6 bm (.val (.int pl)) .unset .unset)) (j := (pl + (1 : Int32))) (k + 1) (by omega) (hj 1 (by decide)) (hk 1 (by decide)) rfl (hb hby at_190)
  obtain ⟨T3, X3, e3, st3⟩ := own_ch X2 hx hZ hown hw hby hml e2 E Fv Fc V hlat SC P3 SF rf hlen hcl hsl (pc := 204) (Ls := (own_LS p1 p2 p3 pl ul c0 c1 d0 d1 a4 a5 r6 bm (.val (.int pl)) .unset .unset)) (j := (pl + (2 : Int32))) (k + 2) (by omega) (hj 2 (by decide)) (hk 2 (by decide)) rfl (hb hby at_204)
  obtain ⟨T4, X4, e4, st4⟩ := own_ch X3 hx hZ hown hw hby hml e3 E Fv Fc V hlat SC P3 SF rf hlen hcl hsl (pc := 218) (Ls := (own_LS p1 p2 p3 pl ul c0 c1 d0 d1 a4 a5 r6 bm (.val (.int pl)) .unset .unset)) (j := (pl + (3 : Int32))) (k + 3) (by omega) (hj 3 (by decide)) (hk 3 (by decide)) rfl (hb hby at_218)
  obtain ⟨T5, X5, e5, st5⟩ := own_ch X4 hx hZ hown hw hby hml e4 E Fv Fc V hlat SC P3 SF rf hlen hcl hsl (pc := 232) (Ls := (own_LS p1 p2 p3 pl ul c0 c1 d0 d1 a4 a5 r6 bm (.val (.int pl)) .unset .unset)) (j := (pl + (4 : Int32))) (k + 4) (by omega) (hj 4 (by decide)) (hk 4 (by decide)) rfl (hb hby at_232)
  obtain ⟨T6, X6, e6, st6⟩ := own_ch X5 hx hZ hown hw hby hml e5 E Fv Fc V hlat SC P3 SF rf hlen hcl hsl (pc := 246) (Ls := (own_LS p1 p2 p3 pl ul c0 c1 d0 d1 a4 a5 r6 bm (.val (.int pl)) .unset .unset)) (j := (pl + (5 : Int32))) (k + 5) (by omega) (hj 5 (by decide)) (hk 5 (by decide)) rfl (hb hby at_246)
  obtain ⟨T7, X7, e7, st7⟩ := own_ch X6 hx hZ hown hw hby hml e6 E Fv Fc V hlat SC P3 SF rf hlen hcl hsl (pc := 261) (Ls := (own_LS p1 p2 p3 pl ul c0 c1 d0 d1 a4 a5 r6 bm (.val (.int pl)) .unset .unset)) (j := (pl + (6 : Int32))) (k + 6) (by omega) (hj 6 (by decide)) (hk 6 (by decide)) rfl (hb hby at_261)
  obtain ⟨T8, X8, e8, st8⟩ := own_ch X7 hx hZ hown hw hby hml e7 E Fv Fc V hlat SC P3 SF rf hlen hcl hsl (pc := 276) (Ls := (own_LS p1 p2 p3 pl ul c0 c1 d0 d1 a4 a5 r6 bm (.val (.int pl)) .unset .unset)) (j := (pl + (7 : Int32))) (k + 7) (by omega) (hj 7 (by decide)) (hk 7 (by decide)) rfl (hb hby at_276)
  obtain ⟨T9, X9, e9, st9⟩ := own_ch X8 hx hZ hown hw hby hml e8 E Fv Fc V hlat SC P3 SF rf hlen hcl hsl (pc := 291) (Ls := (own_LS p1 p2 p3 pl ul c0 c1 d0 d1 a4 a5 r6 bm (.val (.int pl)) .unset .unset)) (j := (pl + (8 : Int32))) (k + 8) (by omega) (hj 8 (by decide)) (hk 8 (by decide)) rfl (hb hby at_291)
  refine ⟨T9, X9, e9, ?_⟩
  show Steps p.tables e below (T0.setTop (mkF m 169 (own_LS p1 p2 p3 pl ul c0 c1 d0 d1 a4 a5 r6 bm .unset .unset .unset) [])) _
  refine XS.iloadN X0.here hx rfl (hb hby at_169) rfl ?_
  show Steps p.tables e below (T0.setTop (mkF m 170 (own_LS p1 p2 p3 pl ul c0 c1 d0 d1 a4 a5 r6 bm .unset .unset .unset) [(.int pl)])) _
  refine XS.istore X0.here hx rfl (hb hby at_170) rfl (l' := (own_LS p1 p2 p3 pl ul c0 c1 d0 d1 a4 a5 r6 bm (.val (.int pl)) .unset .unset)) rfl ?_
  show Steps p.tables e below (T0.setTop (mkF m 172 (own_LS p1 p2 p3 pl ul c0 c1 d0 d1 a4 a5 r6 bm (.val (.int pl)) .unset .unset) [])) _
  refine XS.aload X0.here hx rfl (hb hby at_172) rfl rfl ?_
  show Steps p.tables e below (T0.setTop (mkF m 174 (own_LS p1 p2 p3 pl ul c0 c1 d0 d1 a4 a5 r6 bm (.val (.int pl)) .unset .unset) [(.ref bm)])) _
  refine XS.iload X0.here hx rfl (hb hby at_174) rfl ?_
  show Steps p.tables e below (T0.setTop (mkF m 176 (own_LS p1 p2 p3 pl ul c0 c1 d0 d1 a4 a5 r6 bm (.val (.int pl)) .unset .unset) [(.int pl), (.ref bm)])) _
  refine st1.trans ?_
  show Steps p.tables e below (T1.setTop (mkF m 179 (own_LS p1 p2 p3 pl ul c0 c1 d0 d1 a4 a5 r6 bm (.val (.int pl)) .unset .unset) [(.int (59 : Int32))])) _
  refine XS.bipush X1.here hx rfl (hb hby at_179) ?_
  show Steps p.tables e below (T1.setTop (mkF m 181 (own_LS p1 p2 p3 pl ul c0 c1 d0 d1 a4 a5 r6 bm (.val (.int pl)) .unset .unset) [(.int (59 : Int32)), (.int (59 : Int32))])) _
  refine XS.icmpNo X1.here hx rfl (hb hby at_181) rfl (teq (rfl : (59 : Int32) = (59 : Int32))).2 ?_
  show Steps p.tables e below (T1.setTop (mkF m 184 (own_LS p1 p2 p3 pl ul c0 c1 d0 d1 a4 a5 r6 bm (.val (.int pl)) .unset .unset) [])) _
  refine XS.aload X1.here hx rfl (hb hby at_184) rfl rfl ?_
  show Steps p.tables e below (T1.setTop (mkF m 186 (own_LS p1 p2 p3 pl ul c0 c1 d0 d1 a4 a5 r6 bm (.val (.int pl)) .unset .unset) [(.ref bm)])) _
  refine XS.iload X1.here hx rfl (hb hby at_186) rfl ?_
  show Steps p.tables e below (T1.setTop (mkF m 188 (own_LS p1 p2 p3 pl ul c0 c1 d0 d1 a4 a5 r6 bm (.val (.int pl)) .unset .unset) [(.int pl), (.ref bm)])) _
  refine XS.iconst X1.here hx rfl (hb hby at_188) ?_
  show Steps p.tables e below (T1.setTop (mkF m 189 (own_LS p1 p2 p3 pl ul c0 c1 d0 d1 a4 a5 r6 bm (.val (.int pl)) .unset .unset) [(.int (1 : Int32)), (.int pl), (.ref bm)])) _
  refine XS.iadd X1.here hx rfl (hb hby at_189) rfl ?_
  show Steps p.tables e below (T1.setTop (mkF m 190 (own_LS p1 p2 p3 pl ul c0 c1 d0 d1 a4 a5 r6 bm (.val (.int pl)) .unset .unset) [(.int (pl + (1 : Int32))), (.ref bm)])) _
  refine st2.trans ?_
  show Steps p.tables e below (T2.setTop (mkF m 193 (own_LS p1 p2 p3 pl ul c0 c1 d0 d1 a4 a5 r6 bm (.val (.int pl)) .unset .unset) [(.int (32 : Int32))])) _
  refine XS.bipush X2.here hx rfl (hb hby at_193) ?_
  show Steps p.tables e below (T2.setTop (mkF m 195 (own_LS p1 p2 p3 pl ul c0 c1 d0 d1 a4 a5 r6 bm (.val (.int pl)) .unset .unset) [(.int (32 : Int32)), (.int (32 : Int32))])) _
  refine XS.icmpNo X2.here hx rfl (hb hby at_195) rfl (teq (rfl : (32 : Int32) = (32 : Int32))).2 ?_
  show Steps p.tables e below (T2.setTop (mkF m 198 (own_LS p1 p2 p3 pl ul c0 c1 d0 d1 a4 a5 r6 bm (.val (.int pl)) .unset .unset) [])) _
  refine XS.aload X2.here hx rfl (hb hby at_198) rfl rfl ?_
  show Steps p.tables e below (T2.setTop (mkF m 200 (own_LS p1 p2 p3 pl ul c0 c1 d0 d1 a4 a5 r6 bm (.val (.int pl)) .unset .unset) [(.ref bm)])) _
  refine XS.iload X2.here hx rfl (hb hby at_200) rfl ?_
  show Steps p.tables e below (T2.setTop (mkF m 202 (own_LS p1 p2 p3 pl ul c0 c1 d0 d1 a4 a5 r6 bm (.val (.int pl)) .unset .unset) [(.int pl), (.ref bm)])) _
  refine XS.iconst X2.here hx rfl (hb hby at_202) ?_
  show Steps p.tables e below (T2.setTop (mkF m 203 (own_LS p1 p2 p3 pl ul c0 c1 d0 d1 a4 a5 r6 bm (.val (.int pl)) .unset .unset) [(.int (2 : Int32)), (.int pl), (.ref bm)])) _
  refine XS.iadd X2.here hx rfl (hb hby at_203) rfl ?_
  show Steps p.tables e below (T2.setTop (mkF m 204 (own_LS p1 p2 p3 pl ul c0 c1 d0 d1 a4 a5 r6 bm (.val (.int pl)) .unset .unset) [(.int (pl + (2 : Int32))), (.ref bm)])) _
  refine st3.trans ?_
  show Steps p.tables e below (T3.setTop (mkF m 207 (own_LS p1 p2 p3 pl ul c0 c1 d0 d1 a4 a5 r6 bm (.val (.int pl)) .unset .unset) [(.int (117 : Int32))])) _
  refine XS.bipush X3.here hx rfl (hb hby at_207) ?_
  show Steps p.tables e below (T3.setTop (mkF m 209 (own_LS p1 p2 p3 pl ul c0 c1 d0 d1 a4 a5 r6 bm (.val (.int pl)) .unset .unset) [(.int (117 : Int32)), (.int (117 : Int32))])) _
  refine XS.icmpNo X3.here hx rfl (hb hby at_209) rfl (teq (rfl : (117 : Int32) = (117 : Int32))).2 ?_
  show Steps p.tables e below (T3.setTop (mkF m 212 (own_LS p1 p2 p3 pl ul c0 c1 d0 d1 a4 a5 r6 bm (.val (.int pl)) .unset .unset) [])) _
  refine XS.aload X3.here hx rfl (hb hby at_212) rfl rfl ?_
  show Steps p.tables e below (T3.setTop (mkF m 214 (own_LS p1 p2 p3 pl ul c0 c1 d0 d1 a4 a5 r6 bm (.val (.int pl)) .unset .unset) [(.ref bm)])) _
  refine XS.iload X3.here hx rfl (hb hby at_214) rfl ?_
  show Steps p.tables e below (T3.setTop (mkF m 216 (own_LS p1 p2 p3 pl ul c0 c1 d0 d1 a4 a5 r6 bm (.val (.int pl)) .unset .unset) [(.int pl), (.ref bm)])) _
  refine XS.iconst X3.here hx rfl (hb hby at_216) ?_
  show Steps p.tables e below (T3.setTop (mkF m 217 (own_LS p1 p2 p3 pl ul c0 c1 d0 d1 a4 a5 r6 bm (.val (.int pl)) .unset .unset) [(.int (3 : Int32)), (.int pl), (.ref bm)])) _
  refine XS.iadd X3.here hx rfl (hb hby at_217) rfl ?_
  show Steps p.tables e below (T3.setTop (mkF m 218 (own_LS p1 p2 p3 pl ul c0 c1 d0 d1 a4 a5 r6 bm (.val (.int pl)) .unset .unset) [(.int (pl + (3 : Int32))), (.ref bm)])) _
  refine st4.trans ?_
  show Steps p.tables e below (T4.setTop (mkF m 221 (own_LS p1 p2 p3 pl ul c0 c1 d0 d1 a4 a5 r6 bm (.val (.int pl)) .unset .unset) [(.int (115 : Int32))])) _
  refine XS.bipush X4.here hx rfl (hb hby at_221) ?_
  show Steps p.tables e below (T4.setTop (mkF m 223 (own_LS p1 p2 p3 pl ul c0 c1 d0 d1 a4 a5 r6 bm (.val (.int pl)) .unset .unset) [(.int (115 : Int32)), (.int (115 : Int32))])) _
  refine XS.icmpNo X4.here hx rfl (hb hby at_223) rfl (teq (rfl : (115 : Int32) = (115 : Int32))).2 ?_
  show Steps p.tables e below (T4.setTop (mkF m 226 (own_LS p1 p2 p3 pl ul c0 c1 d0 d1 a4 a5 r6 bm (.val (.int pl)) .unset .unset) [])) _
  refine XS.aload X4.here hx rfl (hb hby at_226) rfl rfl ?_
  show Steps p.tables e below (T4.setTop (mkF m 228 (own_LS p1 p2 p3 pl ul c0 c1 d0 d1 a4 a5 r6 bm (.val (.int pl)) .unset .unset) [(.ref bm)])) _
  refine XS.iload X4.here hx rfl (hb hby at_228) rfl ?_
  show Steps p.tables e below (T4.setTop (mkF m 230 (own_LS p1 p2 p3 pl ul c0 c1 d0 d1 a4 a5 r6 bm (.val (.int pl)) .unset .unset) [(.int pl), (.ref bm)])) _
  refine XS.iconst X4.here hx rfl (hb hby at_230) ?_
  show Steps p.tables e below (T4.setTop (mkF m 231 (own_LS p1 p2 p3 pl ul c0 c1 d0 d1 a4 a5 r6 bm (.val (.int pl)) .unset .unset) [(.int (4 : Int32)), (.int pl), (.ref bm)])) _
  refine XS.iadd X4.here hx rfl (hb hby at_231) rfl ?_
  show Steps p.tables e below (T4.setTop (mkF m 232 (own_LS p1 p2 p3 pl ul c0 c1 d0 d1 a4 a5 r6 bm (.val (.int pl)) .unset .unset) [(.int (pl + (4 : Int32))), (.ref bm)])) _
  refine st5.trans ?_
  show Steps p.tables e below (T5.setTop (mkF m 235 (own_LS p1 p2 p3 pl ul c0 c1 d0 d1 a4 a5 r6 bm (.val (.int pl)) .unset .unset) [(.int (97 : Int32))])) _
  refine XS.bipush X5.here hx rfl (hb hby at_235) ?_
  show Steps p.tables e below (T5.setTop (mkF m 237 (own_LS p1 p2 p3 pl ul c0 c1 d0 d1 a4 a5 r6 bm (.val (.int pl)) .unset .unset) [(.int (97 : Int32)), (.int (97 : Int32))])) _
  refine XS.icmpNo X5.here hx rfl (hb hby at_237) rfl (teq (rfl : (97 : Int32) = (97 : Int32))).2 ?_
  show Steps p.tables e below (T5.setTop (mkF m 240 (own_LS p1 p2 p3 pl ul c0 c1 d0 d1 a4 a5 r6 bm (.val (.int pl)) .unset .unset) [])) _
  refine XS.aload X5.here hx rfl (hb hby at_240) rfl rfl ?_
  show Steps p.tables e below (T5.setTop (mkF m 242 (own_LS p1 p2 p3 pl ul c0 c1 d0 d1 a4 a5 r6 bm (.val (.int pl)) .unset .unset) [(.ref bm)])) _
  refine XS.iload X5.here hx rfl (hb hby at_242) rfl ?_
  show Steps p.tables e below (T5.setTop (mkF m 244 (own_LS p1 p2 p3 pl ul c0 c1 d0 d1 a4 a5 r6 bm (.val (.int pl)) .unset .unset) [(.int pl), (.ref bm)])) _
  refine XS.iconst X5.here hx rfl (hb hby at_244) ?_
  show Steps p.tables e below (T5.setTop (mkF m 245 (own_LS p1 p2 p3 pl ul c0 c1 d0 d1 a4 a5 r6 bm (.val (.int pl)) .unset .unset) [(.int (5 : Int32)), (.int pl), (.ref bm)])) _
  refine XS.iadd X5.here hx rfl (hb hby at_245) rfl ?_
  show Steps p.tables e below (T5.setTop (mkF m 246 (own_LS p1 p2 p3 pl ul c0 c1 d0 d1 a4 a5 r6 bm (.val (.int pl)) .unset .unset) [(.int (pl + (5 : Int32))), (.ref bm)])) _
  refine st6.trans ?_
  show Steps p.tables e below (T6.setTop (mkF m 249 (own_LS p1 p2 p3 pl ul c0 c1 d0 d1 a4 a5 r6 bm (.val (.int pl)) .unset .unset) [(.int (103 : Int32))])) _
  refine XS.bipush X6.here hx rfl (hb hby at_249) ?_
  show Steps p.tables e below (T6.setTop (mkF m 251 (own_LS p1 p2 p3 pl ul c0 c1 d0 d1 a4 a5 r6 bm (.val (.int pl)) .unset .unset) [(.int (103 : Int32)), (.int (103 : Int32))])) _
  refine XS.icmpNo X6.here hx rfl (hb hby at_251) rfl (teq (rfl : (103 : Int32) = (103 : Int32))).2 ?_
  show Steps p.tables e below (T6.setTop (mkF m 254 (own_LS p1 p2 p3 pl ul c0 c1 d0 d1 a4 a5 r6 bm (.val (.int pl)) .unset .unset) [])) _
  refine XS.aload X6.here hx rfl (hb hby at_254) rfl rfl ?_
  show Steps p.tables e below (T6.setTop (mkF m 256 (own_LS p1 p2 p3 pl ul c0 c1 d0 d1 a4 a5 r6 bm (.val (.int pl)) .unset .unset) [(.ref bm)])) _
  refine XS.iload X6.here hx rfl (hb hby at_256) rfl ?_
  show Steps p.tables e below (T6.setTop (mkF m 258 (own_LS p1 p2 p3 pl ul c0 c1 d0 d1 a4 a5 r6 bm (.val (.int pl)) .unset .unset) [(.int pl), (.ref bm)])) _
  refine XS.bipush X6.here hx rfl (hb hby at_258) ?_
  show Steps p.tables e below (T6.setTop (mkF m 260 (own_LS p1 p2 p3 pl ul c0 c1 d0 d1 a4 a5 r6 bm (.val (.int pl)) .unset .unset) [(.int (6 : Int32)), (.int pl), (.ref bm)])) _
  refine XS.iadd X6.here hx rfl (hb hby at_260) rfl ?_
  show Steps p.tables e below (T6.setTop (mkF m 261 (own_LS p1 p2 p3 pl ul c0 c1 d0 d1 a4 a5 r6 bm (.val (.int pl)) .unset .unset) [(.int (pl + (6 : Int32))), (.ref bm)])) _
  refine st7.trans ?_
  show Steps p.tables e below (T7.setTop (mkF m 264 (own_LS p1 p2 p3 pl ul c0 c1 d0 d1 a4 a5 r6 bm (.val (.int pl)) .unset .unset) [(.int (101 : Int32))])) _
  refine XS.bipush X7.here hx rfl (hb hby at_264) ?_
  show Steps p.tables e below (T7.setTop (mkF m 266 (own_LS p1 p2 p3 pl ul c0 c1 d0 d1 a4 a5 r6 bm (.val (.int pl)) .unset .unset) [(.int (101 : Int32)), (.int (101 : Int32))])) _
  refine XS.icmpNo X7.here hx rfl (hb hby at_266) rfl (teq (rfl : (101 : Int32) = (101 : Int32))).2 ?_
  show Steps p.tables e below (T7.setTop (mkF m 269 (own_LS p1 p2 p3 pl ul c0 c1 d0 d1 a4 a5 r6 bm (.val (.int pl)) .unset .unset) [])) _
  refine XS.aload X7.here hx rfl (hb hby at_269) rfl rfl ?_
  show Steps p.tables e below (T7.setTop (mkF m 271 (own_LS p1 p2 p3 pl ul c0 c1 d0 d1 a4 a5 r6 bm (.val (.int pl)) .unset .unset) [(.ref bm)])) _
  refine XS.iload X7.here hx rfl (hb hby at_271) rfl ?_
  show Steps p.tables e below (T7.setTop (mkF m 273 (own_LS p1 p2 p3 pl ul c0 c1 d0 d1 a4 a5 r6 bm (.val (.int pl)) .unset .unset) [(.int pl), (.ref bm)])) _
  refine XS.bipush X7.here hx rfl (hb hby at_273) ?_
  show Steps p.tables e below (T7.setTop (mkF m 275 (own_LS p1 p2 p3 pl ul c0 c1 d0 d1 a4 a5 r6 bm (.val (.int pl)) .unset .unset) [(.int (7 : Int32)), (.int pl), (.ref bm)])) _
  refine XS.iadd X7.here hx rfl (hb hby at_275) rfl ?_
  show Steps p.tables e below (T7.setTop (mkF m 276 (own_LS p1 p2 p3 pl ul c0 c1 d0 d1 a4 a5 r6 bm (.val (.int pl)) .unset .unset) [(.int (pl + (7 : Int32))), (.ref bm)])) _
  refine st8.trans ?_
  show Steps p.tables e below (T8.setTop (mkF m 279 (own_LS p1 p2 p3 pl ul c0 c1 d0 d1 a4 a5 r6 bm (.val (.int pl)) .unset .unset) [(.int (58 : Int32))])) _
  refine XS.bipush X8.here hx rfl (hb hby at_279) ?_
  show Steps p.tables e below (T8.setTop (mkF m 281 (own_LS p1 p2 p3 pl ul c0 c1 d0 d1 a4 a5 r6 bm (.val (.int pl)) .unset .unset) [(.int (58 : Int32)), (.int (58 : Int32))])) _
  refine XS.icmpNo X8.here hx rfl (hb hby at_281) rfl (teq (rfl : (58 : Int32) = (58 : Int32))).2 ?_
  show Steps p.tables e below (T8.setTop (mkF m 284 (own_LS p1 p2 p3 pl ul c0 c1 d0 d1 a4 a5 r6 bm (.val (.int pl)) .unset .unset) [])) _
  refine XS.aload X8.here hx rfl (hb hby at_284) rfl rfl ?_
  show Steps p.tables e below (T8.setTop (mkF m 286 (own_LS p1 p2 p3 pl ul c0 c1 d0 d1 a4 a5 r6 bm (.val (.int pl)) .unset .unset) [(.ref bm)])) _
  refine XS.iload X8.here hx rfl (hb hby at_286) rfl ?_
  show Steps p.tables e below (T8.setTop (mkF m 288 (own_LS p1 p2 p3 pl ul c0 c1 d0 d1 a4 a5 r6 bm (.val (.int pl)) .unset .unset) [(.int pl), (.ref bm)])) _
  refine XS.bipush X8.here hx rfl (hb hby at_288) ?_
  show Steps p.tables e below (T8.setTop (mkF m 290 (own_LS p1 p2 p3 pl ul c0 c1 d0 d1 a4 a5 r6 bm (.val (.int pl)) .unset .unset) [(.int (8 : Int32)), (.int pl), (.ref bm)])) _
  refine XS.iadd X8.here hx rfl (hb hby at_290) rfl ?_
  show Steps p.tables e below (T8.setTop (mkF m 291 (own_LS p1 p2 p3 pl ul c0 c1 d0 d1 a4 a5 r6 bm (.val (.int pl)) .unset .unset) [(.int (pl + (8 : Int32))), (.ref bm)])) _
  refine st9.trans ?_
  show Steps p.tables e below (T9.setTop (mkF m 294 (own_LS p1 p2 p3 pl ul c0 c1 d0 d1 a4 a5 r6 bm (.val (.int pl)) .unset .unset) [(.int (32 : Int32))])) _
  refine XS.bipush X9.here hx rfl (hb hby at_294) ?_
  show Steps p.tables e below (T9.setTop (mkF m 296 (own_LS p1 p2 p3 pl ul c0 c1 d0 d1 a4 a5 r6 bm (.val (.int pl)) .unset .unset) [(.int (32 : Int32)), (.int (32 : Int32))])) _
  refine XS.icmpNo X9.here hx rfl (hb hby at_296) rfl (teq (rfl : (32 : Int32) = (32 : Int32))).2 ?_
  show Steps p.tables e below (T9.setTop (mkF m 299 (own_LS p1 p2 p3 pl ul c0 c1 d0 d1 a4 a5 r6 bm (.val (.int pl)) .unset .unset) [])) _
  refine XS.iconst X9.here hx rfl (hb hby at_299) ?_
  show Steps p.tables e below (T9.setTop (mkF m 300 (own_LS p1 p2 p3 pl ul c0 c1 d0 d1 a4 a5 r6 bm (.val (.int pl)) .unset .unset) [(.int (1 : Int32))])) _
  refine XS.goto X9.here hx rfl (pc0 := 300) (pc' := 304) rfl (hb hby at_300) (by decide) (by decide) ?_
  show Steps p.tables e below (T9.setTop (mkF m 304 (own_LS p1 p2 p3 pl ul c0 c1 d0 d1 a4 a5 r6 bm (.val (.int pl)) .unset .unset) [(.int (1 : Int32))])) _
  refine XS.istore X9.here hx rfl (hb hby at_304) rfl (l' := (own_LS p1 p2 p3 pl ul c0 c1 d0 d1 a4 a5 r6 bm (.val (.int pl)) (.val (.int (1 : Int32))) .unset)) rfl ?_
  show Steps p.tables e below (T9.setTop (mkF m 306 (own_LS p1 p2 p3 pl ul c0 c1 d0 d1 a4 a5 r6 bm (.val (.int pl)) (.val (.int (1 : Int32))) .unset) [])) _
  refine XS.iload X9.here hx rfl (hb hby at_306) rfl ?_
  show Steps p.tables e below (T9.setTop (mkF m 308 (own_LS p1 p2 p3 pl ul c0 c1 d0 d1 a4 a5 r6 bm (.val (.int pl)) (.val (.int (1 : Int32))) .unset) [(.int (1 : Int32))])) _
  refine XS.ifYes X9.here hx rfl (pc0 := 308) (pc' := 313) rfl (hb hby at_308) rfl ((if0 _ _).trans (feq hc308).2) (by decide) (by decide) ?_
  show Steps p.tables e below (T9.setTop (mkF m 313 (own_LS p1 p2 p3 pl ul c0 c1 d0 d1 a4 a5 r6 bm (.val (.int pl)) (.val (.int (1 : Int32))) .unset) [])) _
  refine XS.iload X9.here hx rfl (hb hby at_313) rfl ?_
  show Steps p.tables e below (T9.setTop (mkF m 315 (own_LS p1 p2 p3 pl ul c0 c1 d0 d1 a4 a5 r6 bm (.val (.int pl)) (.val (.int (1 : Int32))) .unset) [(.int pl)])) _
  refine XS.bipush X9.here hx rfl (hb hby at_315) ?_
  show Steps p.tables e below (T9.setTop (mkF m 317 (own_LS p1 p2 p3 pl ul c0 c1 d0 d1 a4 a5 r6 bm (.val (.int pl)) (.val (.int (1 : Int32))) .unset) [(.int (9 : Int32)), (.int pl)])) _
  refine XS.iadd X9.here hx rfl (hb hby at_317) rfl ?_
  show Steps p.tables e below (T9.setTop (mkF m 318 (own_LS p1 p2 p3 pl ul c0 c1 d0 d1 a4 a5 r6 bm (.val (.int pl)) (.val (.int (1 : Int32))) .unset) [(.int (pl + (9 : Int32)))])) _
  refine XS.istore X9.here hx rfl (hb hby at_318) rfl (l' := (own_LS p1 p2 p3 pl ul c0 c1 d0 d1 a4 a5 r6 bm (.val (.int pl)) (.val (.int (1 : Int32))) (.val (.int (pl + (9 : Int32)))))) rfl ?_
  show Steps p.tables e below (T9.setTop (mkF m 320 (own_LS p1 p2 p3 pl ul c0 c1 d0 d1 a4 a5 r6 bm (.val (.int pl)) (.val (.int (1 : Int32))) (.val (.int (pl + (9 : Int32))))) [])) _
  exact Steps.refl _
theorem own_sD_t {p : Program} {l : Launch} {e : Env} {s : State} {m : MethodId} {args : Array Value} {below : List Frame} {meth : Method} {c : Code} {T0 : State} {locs : List Loc} {cells slots : Nat} {Z : State} {a0 : Array Value} {h : Heap} (X0 : Stand p l e room_1 s m args below meth c T0 locs cells slots) (hx : p.tables.exec = Jvm.exec) (hZ : Z.Warmed39 s.vm) (hown : s.vm.findClass "com/example/excl1/excl1/cli/RefusalUsagePinLaw" = some m.cls) (hw : ∀ d ∈ tables_1, d.before a0 Z = true) (hby : c.code = code) (hml : c.maxLocals = 16) (e0 : T0.heap = h)
    {bm tm : Addr} {km : ClassId} {cs : List Int32} {G1 : Int32} {fm : Value} (E : Exa Z h bm "java/lang/String") (Fv : Fld Z h bm "java/lang/String" "value" "[B" (.ref tm)) (Fc : Fld Z h bm "java/lang/String" "coder" "B" (.int 0)) (V : Arv Z h tm km .byte (Int32.ofNat cs.length) (cs.map fun c => Value.int (StrChars.lo8 c)) (.int 0)) (hlat : ∀ c ∈ cs, ¬ c < 0 ∧ ¬ (255 : Int32) < c) (SC : Sta Z h "java/lang/String" "COMPACT_STRINGS" "Z" (.int G1)) (P3 : ¬ G1 = 0) (SF : Sta Z h "jdk/internal/util/Preconditions" "SIOOBE_FORMATTER" "Ljava/util/function/BiFunction;" fm) (rf : fm.isRef = true) (hlen : cs.length ≤ 4000) (hcl : cells + 0 ≤ room_1.cells) (hsl : slots + 0 ≤ room_1.slots) {p1 p2 p3 pl ul c0 c1 d0 d1 : Int32} {a4 a5 r6 : Addr} (hc323 : ul < (1 : Int32)) :
    ∃ T' : State, Stand p l e room_1 s m args below meth c T' locs cells slots ∧ T'.heap = h ∧ Steps p.tables e below (T0.setTop (mkF m 320 (own_LS p1 p2 p3 pl ul c0 c1 d0 d1 a4 a5 r6 bm (.val (.int pl)) (.val (.int (1 : Int32))) (.val (.int (pl + (9 : Int32))))) [])) (T'.setTop (mkF m 340 (own_LS p1 p2 p3 pl ul c0 c1 d0 d1 a4 a5 r6 bm (.val (.int pl)) (.val (.int (1 : Int32))) (.val (.int (pl + (9 : Int32))))) [])) := by
  refine ⟨T0, X0, e0, ?_⟩
  show Steps p.tables e below (T0.setTop (mkF m 320 (own_LS p1 p2 p3 pl ul c0 c1 d0 d1 a4 a5 r6 bm (.val (.int pl)) (.val (.int (1 : Int32))) (.val (.int (pl + (9 : Int32))))) [])) _
  refine XS.iload X0.here hx rfl (hb hby at_320) rfl ?_
  show Steps p.tables e below (T0.setTop (mkF m 322 (own_LS p1 p2 p3 pl ul c0 c1 d0 d1 a4 a5 r6 bm (.val (.int pl)) (.val (.int (1 : Int32))) (.val (.int (pl + (9 : Int32))))) [(.int ul)])) _
  refine XS.iconst X0.here hx rfl (hb hby at_322) ?_
  show Steps p.tables e below (T0.setTop (mkF m 323 (own_LS p1 p2 p3 pl ul c0 c1 d0 d1 a4 a5 r6 bm (.val (.int pl)) (.val (.int (1 : Int32))) (.val (.int (pl + (9 : Int32))))) [(.int (1 : Int32)), (.int ul)])) _
  refine XS.icmpYes X0.here hx rfl (pc0 := 323) (pc' := 340) rfl (hb hby at_323) rfl (tlt hc323).1 (by decide) (by decide) ?_
  show Steps p.tables e below (T0.setTop (mkF m 340 (own_LS p1 p2 p3 pl ul c0 c1 d0 d1 a4 a5 r6 bm (.val (.int pl)) (.val (.int (1 : Int32))) (.val (.int (pl + (9 : Int32))))) [])) _
  exact Steps.refl _
theorem own_sD_f {p : Program} {l : Launch} {e : Env} {s : State} {m : MethodId} {args : Array Value} {below : List Frame} {meth : Method} {c : Code} {T0 : State} {locs : List Loc} {cells slots : Nat} {Z : State} {a0 : Array Value} {h : Heap} (X0 : Stand p l e room_1 s m args below meth c T0 locs cells slots) (hx : p.tables.exec = Jvm.exec) (hZ : Z.Warmed39 s.vm) (hown : s.vm.findClass "com/example/excl1/excl1/cli/RefusalUsagePinLaw" = some m.cls) (hw : ∀ d ∈ tables_1, d.before a0 Z = true) (hby : c.code = code) (hml : c.maxLocals = 16) (e0 : T0.heap = h)
    {bm tm : Addr} {km : ClassId} {cs : List Int32} {G1 : Int32} {fm : Value} (E : Exa Z h bm "java/lang/String") (Fv : Fld Z h bm "java/lang/String" "value" "[B" (.ref tm)) (Fc : Fld Z h bm "java/lang/String" "coder" "B" (.int 0)) (V : Arv Z h tm km .byte (Int32.ofNat cs.length) (cs.map fun c => Value.int (StrChars.lo8 c)) (.int 0)) (hlat : ∀ c ∈ cs, ¬ c < 0 ∧ ¬ (255 : Int32) < c) (SC : Sta Z h "java/lang/String" "COMPACT_STRINGS" "Z" (.int G1)) (P3 : ¬ G1 = 0) (SF : Sta Z h "jdk/internal/util/Preconditions" "SIOOBE_FORMATTER" "Ljava/util/function/BiFunction;" fm) (rf : fm.isRef = true) (hlen : cs.length ≤ 4000) (hcl : cells + 0 ≤ room_1.cells) (hsl : slots + 0 ≤ room_1.slots) {p1 p2 p3 pl ul c0 c1 d0 d1 : Int32} {a4 a5 r6 : Addr} (hc323 : ¬ (ul < (1 : Int32))) (k : Nat) (hi : k + 9 < cs.length) (hj : pl + (9 : Int32) = Int32.ofNat (k + 9)) (hy : cs.getD (k + 9) 0 = d0) :
    ∃ T' : State, Stand p l e room_1 s m args below meth c T' locs cells slots ∧ T'.heap = h ∧ Steps p.tables e below (T0.setTop (mkF m 320 (own_LS p1 p2 p3 pl ul c0 c1 d0 d1 a4 a5 r6 bm (.val (.int pl)) (.val (.int (1 : Int32))) (.val (.int (pl + (9 : Int32))))) [])) (T'.setTop (mkF m 340 (own_LS p1 p2 p3 pl ul c0 c1 d0 d1 a4 a5 r6 bm (.val (.int pl)) (.val (.int (1 : Int32))) (.val (.int (pl + (9 : Int32))))) [])) := by
  obtain ⟨T1, X1, e1, st1⟩ := own_ch X0 hx hZ hown hw hby hml e0 E Fv Fc V hlat SC P3 SF rf hlen hcl hsl (pc := 330) (Ls := (own_LS p1 p2 p3 pl ul c0 c1 d0 d1 a4 a5 r6 bm (.val (.int pl)) (.val (.int (1 : Int32))) (.val (.int (pl + (9 : Int32)))))) (j := (pl + (9 : Int32))) (k + 9) hi hj hy rfl (hb hby at_330)
  refine ⟨T1, X1, e1, ?_⟩
  show Steps p.tables e below (T0.setTop (mkF m 320 (own_LS p1 p2 p3 pl ul c0 c1 d0 d1 a4 a5 r6 bm (.val (.int pl)) (.val (.int (1 : Int32))) (.val (.int (pl + (9 : Int32))))) [])) _
  refine XS.iload X0.here hx rfl (hb hby at_320) rfl ?_
  show Steps p.tables e below (T0.setTop (mkF m 322 (own_LS p1 p2 p3 pl ul c0 c1 d0 d1 a4 a5 r6 bm (.val (.int pl)) (.val (.int (1 : Int32))) (.val (.int (pl + (9 : Int32))))) [(.int ul)])) _
  refine XS.iconst X0.here hx rfl (hb hby at_322) ?_
  show Steps p.tables e below (T0.setTop (mkF m 323 (own_LS p1 p2 p3 pl ul c0 c1 d0 d1 a4 a5 r6 bm (.val (.int pl)) (.val (.int (1 : Int32))) (.val (.int (pl + (9 : Int32))))) [(.int (1 : Int32)), (.int ul)])) _
  refine XS.icmpNo X0.here hx rfl (hb hby at_323) rfl (flt hc323).1 ?_
  show Steps p.tables e below (T0.setTop (mkF m 326 (own_LS p1 p2 p3 pl ul c0 c1 d0 d1 a4 a5 r6 bm (.val (.int pl)) (.val (.int (1 : Int32))) (.val (.int (pl + (9 : Int32))))) [])) _
  refine XS.aload X0.here hx rfl (hb hby at_326) rfl rfl ?_
  show Steps p.tables e below (T0.setTop (mkF m 328 (own_LS p1 p2 p3 pl ul c0 c1 d0 d1 a4 a5 r6 bm (.val (.int pl)) (.val (.int (1 : Int32))) (.val (.int (pl + (9 : Int32))))) [(.ref bm)])) _
  refine XS.iload X0.here hx rfl (hb hby at_328) rfl ?_
  show Steps p.tables e below (T0.setTop (mkF m 330 (own_LS p1 p2 p3 pl ul c0 c1 d0 d1 a4 a5 r6 bm (.val (.int pl)) (.val (.int (1 : Int32))) (.val (.int (pl + (9 : Int32))))) [(.int (pl + (9 : Int32))), (.ref bm)])) _
  refine st1.trans ?_
  show Steps p.tables e below (T1.setTop (mkF m 333 (own_LS p1 p2 p3 pl ul c0 c1 d0 d1 a4 a5 r6 bm (.val (.int pl)) (.val (.int (1 : Int32))) (.val (.int (pl + (9 : Int32))))) [(.int d0)])) _
  refine XS.iload X1.here hx rfl (hb hby at_333) rfl ?_
  show Steps p.tables e below (T1.setTop (mkF m 335 (own_LS p1 p2 p3 pl ul c0 c1 d0 d1 a4 a5 r6 bm (.val (.int pl)) (.val (.int (1 : Int32))) (.val (.int (pl + (9 : Int32))))) [(.int d0), (.int d0)])) _
  refine XS.icmpYes X1.here hx rfl (pc0 := 335) (pc' := 340) rfl (hb hby at_335) rfl (teq (rfl : d0 = d0)).1 (by decide) (by decide) ?_
  show Steps p.tables e below (T1.setTop (mkF m 340 (own_LS p1 p2 p3 pl ul c0 c1 d0 d1 a4 a5 r6 bm (.val (.int pl)) (.val (.int (1 : Int32))) (.val (.int (pl + (9 : Int32))))) [])) _
  exact Steps.refl _
theorem own_sE_t {p : Program} {l : Launch} {e : Env} {s : State} {m : MethodId} {args : Array Value} {below : List Frame} {meth : Method} {c : Code} {T0 : State} {locs : List Loc} {cells slots : Nat} {Z : State} {a0 : Array Value} {h : Heap} (X0 : Stand p l e room_1 s m args below meth c T0 locs cells slots) (hx : p.tables.exec = Jvm.exec) (hZ : Z.Warmed39 s.vm) (hown : s.vm.findClass "com/example/excl1/excl1/cli/RefusalUsagePinLaw" = some m.cls) (hw : ∀ d ∈ tables_1, d.before a0 Z = true) (hby : c.code = code) (hml : c.maxLocals = 16) (e0 : T0.heap = h)
    {bm tm : Addr} {km : ClassId} {cs : List Int32} {G1 : Int32} {fm : Value} (E : Exa Z h bm "java/lang/String") (Fv : Fld Z h bm "java/lang/String" "value" "[B" (.ref tm)) (Fc : Fld Z h bm "java/lang/String" "coder" "B" (.int 0)) (V : Arv Z h tm km .byte (Int32.ofNat cs.length) (cs.map fun c => Value.int (StrChars.lo8 c)) (.int 0)) (hlat : ∀ c ∈ cs, ¬ c < 0 ∧ ¬ (255 : Int32) < c) (SC : Sta Z h "java/lang/String" "COMPACT_STRINGS" "Z" (.int G1)) (P3 : ¬ G1 = 0) (SF : Sta Z h "jdk/internal/util/Preconditions" "SIOOBE_FORMATTER" "Ljava/util/function/BiFunction;" fm) (rf : fm.isRef = true) (hlen : cs.length ≤ 4000) (hcl : cells + 0 ≤ room_1.cells) (hsl : slots + 0 ≤ room_1.slots) {p1 p2 p3 pl ul c0 c1 d0 d1 : Int32} {a4 a5 r6 : Addr} (hc343 : ul < (2 : Int32)) :
    ∃ T' : State, Stand p l e room_1 s m args below meth c T' locs cells slots ∧ T'.heap = h ∧ Steps p.tables e below (T0.setTop (mkF m 340 (own_LS p1 p2 p3 pl ul c0 c1 d0 d1 a4 a5 r6 bm (.val (.int pl)) (.val (.int (1 : Int32))) (.val (.int (pl + (9 : Int32))))) [])) (T'.setTop (mkF m 362 (own_LS p1 p2 p3 pl ul c0 c1 d0 d1 a4 a5 r6 bm (.val (.int pl)) (.val (.int (1 : Int32))) (.val (.int (pl + (9 : Int32))))) [])) := by
  refine ⟨T0, X0, e0, ?_⟩
  show Steps p.tables e below (T0.setTop (mkF m 340 (own_LS p1 p2 p3 pl ul c0 c1 d0 d1 a4 a5 r6 bm (.val (.int pl)) (.val (.int (1 : Int32))) (.val (.int (pl + (9 : Int32))))) [])) _
  refine XS.iload X0.here hx rfl (hb hby at_340) rfl ?_
  show Steps p.tables e below (T0.setTop (mkF m 342 (own_LS p1 p2 p3 pl ul c0 c1 d0 d1 a4 a5 r6 bm (.val (.int pl)) (.val (.int (1 : Int32))) (.val (.int (pl + (9 : Int32))))) [(.int ul)])) _
  refine XS.iconst X0.here hx rfl (hb hby at_342) ?_
  show Steps p.tables e below (T0.setTop (mkF m 343 (own_LS p1 p2 p3 pl ul c0 c1 d0 d1 a4 a5 r6 bm (.val (.int pl)) (.val (.int (1 : Int32))) (.val (.int (pl + (9 : Int32))))) [(.int (2 : Int32)), (.int ul)])) _
  refine XS.icmpYes X0.here hx rfl (pc0 := 343) (pc' := 362) rfl (hb hby at_343) rfl (tlt hc343).1 (by decide) (by decide) ?_
  show Steps p.tables e below (T0.setTop (mkF m 362 (own_LS p1 p2 p3 pl ul c0 c1 d0 d1 a4 a5 r6 bm (.val (.int pl)) (.val (.int (1 : Int32))) (.val (.int (pl + (9 : Int32))))) [])) _
  exact Steps.refl _
theorem own_sE_f {p : Program} {l : Launch} {e : Env} {s : State} {m : MethodId} {args : Array Value} {below : List Frame} {meth : Method} {c : Code} {T0 : State} {locs : List Loc} {cells slots : Nat} {Z : State} {a0 : Array Value} {h : Heap} (X0 : Stand p l e room_1 s m args below meth c T0 locs cells slots) (hx : p.tables.exec = Jvm.exec) (hZ : Z.Warmed39 s.vm) (hown : s.vm.findClass "com/example/excl1/excl1/cli/RefusalUsagePinLaw" = some m.cls) (hw : ∀ d ∈ tables_1, d.before a0 Z = true) (hby : c.code = code) (hml : c.maxLocals = 16) (e0 : T0.heap = h)
    {bm tm : Addr} {km : ClassId} {cs : List Int32} {G1 : Int32} {fm : Value} (E : Exa Z h bm "java/lang/String") (Fv : Fld Z h bm "java/lang/String" "value" "[B" (.ref tm)) (Fc : Fld Z h bm "java/lang/String" "coder" "B" (.int 0)) (V : Arv Z h tm km .byte (Int32.ofNat cs.length) (cs.map fun c => Value.int (StrChars.lo8 c)) (.int 0)) (hlat : ∀ c ∈ cs, ¬ c < 0 ∧ ¬ (255 : Int32) < c) (SC : Sta Z h "java/lang/String" "COMPACT_STRINGS" "Z" (.int G1)) (P3 : ¬ G1 = 0) (SF : Sta Z h "jdk/internal/util/Preconditions" "SIOOBE_FORMATTER" "Ljava/util/function/BiFunction;" fm) (rf : fm.isRef = true) (hlen : cs.length ≤ 4000) (hcl : cells + 0 ≤ room_1.cells) (hsl : slots + 0 ≤ room_1.slots) {p1 p2 p3 pl ul c0 c1 d0 d1 : Int32} {a4 a5 r6 : Addr} (hc343 : ¬ (ul < (2 : Int32))) (k : Nat) (hi : k + 10 < cs.length) (hj : pl + (9 : Int32) + (1 : Int32) = Int32.ofNat (k + 10)) (hy : cs.getD (k + 10) 0 = d1) :
    ∃ T' : State, Stand p l e room_1 s m args below meth c T' locs cells slots ∧ T'.heap = h ∧ Steps p.tables e below (T0.setTop (mkF m 340 (own_LS p1 p2 p3 pl ul c0 c1 d0 d1 a4 a5 r6 bm (.val (.int pl)) (.val (.int (1 : Int32))) (.val (.int (pl + (9 : Int32))))) [])) (T'.setTop (mkF m 362 (own_LS p1 p2 p3 pl ul c0 c1 d0 d1 a4 a5 r6 bm (.val (.int pl)) (.val (.int (1 : Int32))) (.val (.int (pl + (9 : Int32))))) [])) := by
  obtain ⟨T1, X1, e1, st1⟩ := own_ch X0 hx hZ hown hw hby hml e0 E Fv Fc V hlat SC P3 SF rf hlen hcl hsl (pc := 352) (Ls := (own_LS p1 p2 p3 pl ul c0 c1 d0 d1 a4 a5 r6 bm (.val (.int pl)) (.val (.int (1 : Int32))) (.val (.int (pl + (9 : Int32)))))) (j := ((pl + (9 : Int32)) + (1 : Int32))) (k + 10) hi hj hy rfl (hb hby at_352)
  refine ⟨T1, X1, e1, ?_⟩
  show Steps p.tables e below (T0.setTop (mkF m 340 (own_LS p1 p2 p3 pl ul c0 c1 d0 d1 a4 a5 r6 bm (.val (.int pl)) (.val (.int (1 : Int32))) (.val (.int (pl + (9 : Int32))))) [])) _
  refine XS.iload X0.here hx rfl (hb hby at_340) rfl ?_
  show Steps p.tables e below (T0.setTop (mkF m 342 (own_LS p1 p2 p3 pl ul c0 c1 d0 d1 a4 a5 r6 bm (.val (.int pl)) (.val (.int (1 : Int32))) (.val (.int (pl + (9 : Int32))))) [(.int ul)])) _
  refine XS.iconst X0.here hx rfl (hb hby at_342) ?_
  show Steps p.tables e below (T0.setTop (mkF m 343 (own_LS p1 p2 p3 pl ul c0 c1 d0 d1 a4 a5 r6 bm (.val (.int pl)) (.val (.int (1 : Int32))) (.val (.int (pl + (9 : Int32))))) [(.int (2 : Int32)), (.int ul)])) _
  refine XS.icmpNo X0.here hx rfl (hb hby at_343) rfl (flt hc343).1 ?_
  show Steps p.tables e below (T0.setTop (mkF m 346 (own_LS p1 p2 p3 pl ul c0 c1 d0 d1 a4 a5 r6 bm (.val (.int pl)) (.val (.int (1 : Int32))) (.val (.int (pl + (9 : Int32))))) [])) _
  refine XS.aload X0.here hx rfl (hb hby at_346) rfl rfl ?_
  show Steps p.tables e below (T0.setTop (mkF m 348 (own_LS p1 p2 p3 pl ul c0 c1 d0 d1 a4 a5 r6 bm (.val (.int pl)) (.val (.int (1 : Int32))) (.val (.int (pl + (9 : Int32))))) [(.ref bm)])) _
  refine XS.iload X0.here hx rfl (hb hby at_348) rfl ?_
  show Steps p.tables e below (T0.setTop (mkF m 350 (own_LS p1 p2 p3 pl ul c0 c1 d0 d1 a4 a5 r6 bm (.val (.int pl)) (.val (.int (1 : Int32))) (.val (.int (pl + (9 : Int32))))) [(.int (pl + (9 : Int32))), (.ref bm)])) _
  refine XS.iconst X0.here hx rfl (hb hby at_350) ?_
  show Steps p.tables e below (T0.setTop (mkF m 351 (own_LS p1 p2 p3 pl ul c0 c1 d0 d1 a4 a5 r6 bm (.val (.int pl)) (.val (.int (1 : Int32))) (.val (.int (pl + (9 : Int32))))) [(.int (1 : Int32)), (.int (pl + (9 : Int32))), (.ref bm)])) _
  refine XS.iadd X0.here hx rfl (hb hby at_351) rfl ?_
  show Steps p.tables e below (T0.setTop (mkF m 352 (own_LS p1 p2 p3 pl ul c0 c1 d0 d1 a4 a5 r6 bm (.val (.int pl)) (.val (.int (1 : Int32))) (.val (.int (pl + (9 : Int32))))) [(.int ((pl + (9 : Int32)) + (1 : Int32))), (.ref bm)])) _
  refine st1.trans ?_
  show Steps p.tables e below (T1.setTop (mkF m 355 (own_LS p1 p2 p3 pl ul c0 c1 d0 d1 a4 a5 r6 bm (.val (.int pl)) (.val (.int (1 : Int32))) (.val (.int (pl + (9 : Int32))))) [(.int d1)])) _
  refine XS.iload X1.here hx rfl (hb hby at_355) rfl ?_
  show Steps p.tables e below (T1.setTop (mkF m 357 (own_LS p1 p2 p3 pl ul c0 c1 d0 d1 a4 a5 r6 bm (.val (.int pl)) (.val (.int (1 : Int32))) (.val (.int (pl + (9 : Int32))))) [(.int d1), (.int d1)])) _
  refine XS.icmpYes X1.here hx rfl (pc0 := 357) (pc' := 362) rfl (hb hby at_357) rfl (teq (rfl : d1 = d1)).1 (by decide) (by decide) ?_
  show Steps p.tables e below (T1.setTop (mkF m 362 (own_LS p1 p2 p3 pl ul c0 c1 d0 d1 a4 a5 r6 bm (.val (.int pl)) (.val (.int (1 : Int32))) (.val (.int (pl + (9 : Int32))))) [])) _
  exact Steps.refl _
theorem own_m1 {n x y : Int32} (h : n = 0 ∨ n = 1 ∨ n = 2) (q : ¬ n < 1) : 0 < (own_mc n x y).length ∧ (own_mc n x y).getD 0 0 = x := by
  rcases h with rfl | rfl | rfl
  · exact absurd (by decide) q
  · rw [own_mc1]; exact ⟨by simp, rfl⟩
  · rw [own_mc2]; exact ⟨by simp, rfl⟩
theorem own_m2 {n x y : Int32} (h : n = 0 ∨ n = 1 ∨ n = 2) (q : ¬ n < 2) : 1 < (own_mc n x y).length ∧ (own_mc n x y).getD 1 0 = y := by
  rcases h with rfl | rfl | rfl
  · exact absurd (by decide) q
  · exact absurd (by decide) q
  · rw [own_mc2]; exact ⟨by simp, rfl⟩
theorem own_j {n x y : Int32} (h : n = 0 ∨ n = 1 ∨ n = 2) : n = Int32.ofNat ((own_mc n x y).length + 0) ∧ (∀ i, i < 9 → n + Int32.ofNat i = Int32.ofNat ((own_mc n x y).length + i)) ∧ n + 9 = Int32.ofNat ((own_mc n x y).length + 9) ∧ n + 9 + 1 = Int32.ofNat ((own_mc n x y).length + 10) := by
  rw [← own_mcl h]
  rcases h with rfl | rfl | rfl <;> exact ⟨by decide, by decide, by decide, by decide⟩
theorem own_tail {p : Program} {l : Launch} {e : Env} {s : State} {m : MethodId} {args : Array Value} {below : List Frame} {meth : Method} {c : Code} {T0 : State} {locs : List Loc} {cells slots : Nat} {Z : State} {a0 : Array Value} {h : Heap} (X0 : Stand p l e room_1 s m args below meth c T0 locs cells slots) (hx : p.tables.exec = Jvm.exec) (hZ : Z.Warmed39 s.vm) (hown : s.vm.findClass "com/example/excl1/excl1/cli/RefusalUsagePinLaw" = some m.cls) (hw : ∀ d ∈ tables_1, d.before a0 Z = true) (hby : c.code = code) (hml : c.maxLocals = 16) (e0 : T0.heap = h)
    {bm tm : Addr} {km : ClassId} {cs : List Int32} {G1 : Int32} {fm : Value} (E : Exa Z h bm "java/lang/String") (Fv : Fld Z h bm "java/lang/String" "value" "[B" (.ref tm)) (Fc : Fld Z h bm "java/lang/String" "coder" "B" (.int 0)) (V : Arv Z h tm km .byte (Int32.ofNat cs.length) (cs.map fun c => Value.int (StrChars.lo8 c)) (.int 0)) (hlat : ∀ c ∈ cs, ¬ c < 0 ∧ ¬ (255 : Int32) < c) (SC : Sta Z h "java/lang/String" "COMPACT_STRINGS" "Z" (.int G1)) (P3 : ¬ G1 = 0) (SF : Sta Z h "jdk/internal/util/Preconditions" "SIOOBE_FORMATTER" "Ljava/util/function/BiFunction;" fm) (rf : fm.isRef = true) (hlen : cs.length ≤ 4000) (hcl : cells + 0 ≤ room_1.cells) (hsl : slots + 0 ≤ room_1.slots) {p1 p2 p3 pl ul c0 c1 d0 d1 : Int32} {a4 a5 r6 : Addr} (hpl : pl = 0 ∨ pl = 1 ∨ pl = 2) (hul : ul = 0 ∨ ul = 1 ∨ ul = 2) (hcs : cs = own_cs (own_mc pl c0 c1) (own_mc ul d0 d1)) :
    ∃ T' : State, Stand p l e room_1 s m args below meth c T' locs cells slots ∧ T'.heap = h ∧ Steps p.tables e below (T0.setTop (mkF m 133 (own_LS p1 p2 p3 pl ul c0 c1 d0 d1 a4 a5 r6 bm .unset .unset .unset) [])) (T'.setTop (mkF m 362 (own_LS p1 p2 p3 pl ul c0 c1 d0 d1 a4 a5 r6 bm (.val (.int pl)) (.val (.int (1 : Int32))) (.val (.int (pl + (9 : Int32))))) [])) := by
  obtain ⟨j0, j1, j2, j3⟩ := own_j (x := c0) (y := c1) hpl
  have hl : cs.length = (own_mc pl c0 c1).length + 9 + (own_mc ul d0 d1).length := by rw [hcs]; exact own_csl _ _
  have sA : ∃ T' : State, Stand p l e room_1 s m args below meth c T' locs cells slots ∧ T'.heap = h ∧ Steps p.tables e below (T0.setTop (mkF m 133 (own_LS p1 p2 p3 pl ul c0 c1 d0 d1 a4 a5 r6 bm .unset .unset .unset) [])) (T'.setTop (mkF m 151 (own_LS p1 p2 p3 pl ul c0 c1 d0 d1 a4 a5 r6 bm .unset .unset .unset) [])) := by
    by_cases q : pl < 1
    · exact own_sA_t X0 hx hZ hown hw hby hml e0 E Fv Fc V hlat SC P3 SF rf hlen hcl hsl q
    · obtain ⟨r1, r2⟩ := own_m1 (x := c0) (y := c1) hpl q
      exact own_sA_f X0 hx hZ hown hw hby hml e0 E Fv Fc V hlat SC P3 SF rf hlen hcl hsl q (by omega) (by rw [hcs, own_gA r1]; exact r2)
  obtain ⟨T1, X1, e1, st1⟩ := sA
  have sB : ∃ T' : State, Stand p l e room_1 s m args below meth c T' locs cells slots ∧ T'.heap = h ∧ Steps p.tables e below (T1.setTop (mkF m 151 (own_LS p1 p2 p3 pl ul c0 c1 d0 d1 a4 a5 r6 bm .unset .unset .unset) [])) (T'.setTop (mkF m 169 (own_LS p1 p2 p3 pl ul c0 c1 d0 d1 a4 a5 r6 bm .unset .unset .unset) [])) := by
    by_cases q : pl < 2
    · exact own_sB_t X1 hx hZ hown hw hby hml e1 E Fv Fc V hlat SC P3 SF rf hlen hcl hsl q
    · obtain ⟨r1, r2⟩ := own_m2 (x := c0) (y := c1) hpl q
      exact own_sB_f X1 hx hZ hown hw hby hml e1 E Fv Fc V hlat SC P3 SF rf hlen hcl hsl q (by omega) (by rw [hcs, own_gA r1]; exact r2)
  obtain ⟨T2, X2, e2, st2⟩ := sB
  obtain ⟨T3, X3, e3, st3⟩ := own_sC (p1 := p1) (p2 := p2) (p3 := p3) (pl := pl) (ul := ul) (c0 := c0) (c1 := c1) (d0 := d0) (d1 := d1) (a4 := a4) (a5 := a5) (r6 := r6) X2 hx hZ hown hw hby hml e2 E Fv Fc V hlat SC P3 SF rf hlen hcl hsl (by decide) (own_mc pl c0 c1).length (by omega) (fun i hi => by rw [hcs]; exact own_gL hi) j1 j0
  have sD : ∃ T' : State, Stand p l e room_1 s m args below meth c T' locs cells slots ∧ T'.heap = h ∧ Steps p.tables e below (T3.setTop (mkF m 320 (own_LS p1 p2 p3 pl ul c0 c1 d0 d1 a4 a5 r6 bm (.val (.int pl)) (.val (.int (1 : Int32))) (.val (.int (pl + (9 : Int32))))) [])) (T'.setTop (mkF m 340 (own_LS p1 p2 p3 pl ul c0 c1 d0 d1 a4 a5 r6 bm (.val (.int pl)) (.val (.int (1 : Int32))) (.val (.int (pl + (9 : Int32))))) [])) := by
    by_cases q : ul < 1
    · exact own_sD_t X3 hx hZ hown hw hby hml e3 E Fv Fc V hlat SC P3 SF rf hlen hcl hsl q
    · obtain ⟨r1, r2⟩ := own_m1 (x := d0) (y := d1) hul q
      exact own_sD_f X3 hx hZ hown hw hby hml e3 E Fv Fc V hlat SC P3 SF rf hlen hcl hsl q (own_mc pl c0 c1).length (by omega) j2 (by rw [hcs]; exact (own_gB (i := 0)).trans r2)
  obtain ⟨T4, X4, e4, st4⟩ := sD
  have sE : ∃ T' : State, Stand p l e room_1 s m args below meth c T' locs cells slots ∧ T'.heap = h ∧ Steps p.tables e below (T4.setTop (mkF m 340 (own_LS p1 p2 p3 pl ul c0 c1 d0 d1 a4 a5 r6 bm (.val (.int pl)) (.val (.int (1 : Int32))) (.val (.int (pl + (9 : Int32))))) [])) (T'.setTop (mkF m 362 (own_LS p1 p2 p3 pl ul c0 c1 d0 d1 a4 a5 r6 bm (.val (.int pl)) (.val (.int (1 : Int32))) (.val (.int (pl + (9 : Int32))))) [])) := by
    by_cases q : ul < 2
    · exact own_sE_t X4 hx hZ hown hw hby hml e4 E Fv Fc V hlat SC P3 SF rf hlen hcl hsl q
    · obtain ⟨r1, r2⟩ := own_m2 (x := d0) (y := d1) hul q
      exact own_sE_f X4 hx hZ hown hw hby hml e4 E Fv Fc V hlat SC P3 SF rf hlen hcl hsl q (own_mc pl c0 c1).length (by omega) j3 (by rw [hcs]; exact (own_gB (i := 1)).trans r2)
  obtain ⟨T5, X5, e5, st5⟩ := sE
  exact ⟨T5, X5, e5, (((st1.trans st2).trans st3).trans st4).trans st5⟩
set_option maxRecDepth 65536 in
set_option maxHeartbeats 40000000 in
theorem rm0 (l : Launch) (Z : State) (a0 : Array Value) (hw : ∀ d ∈ tables_1, d.before a0 Z = true) (ws : List Jvm.Cond) (p1 : Int32) (p2 : Int32) (p3 : Int32) (G1 : Int32) (G2 : Addr) (G3 : Addr) (fm : Value) (h0 : Heap) (n0 : Nat) (Z0 : n0 ≤ h0.size) (hl : l.stackTraces = true) (S_COMPACT_STRINGS : Sta Z Z.heap "java/lang/String" "COMPACT_STRINGS" "Z" (.int G1)) (X00 : Old Z n0 h0) (P3 : ¬ (G1 = (0 : Int32))) (S_UNASSIGNED_STACK : Sta Z Z.heap "java/lang/Throwable" "UNASSIGNED_STACK" "[Ljava/lang/StackTraceElement;" (.ref G2)) (S_SUPPRESSED_SENTINEL : Sta Z Z.heap "java/lang/Throwable" "SUPPRESSED_SENTINEL" "Ljava/util/List;" (.ref G3)) (S_FMT : Sta Z Z.heap "jdk/internal/util/Preconditions" "SIOOBE_FORMATTER" "Ljava/util/function/BiFunction;" fm) (rf : fm.isRef = true) :
    MetFree l x (head1 (Jvm.Cond.code x code maxLocals ret :: ws) room_1) (fun a U => a = #[(.int p1), (.int p2), (.int p3)] ∧ Z.Warmed39 U.vm ∧ U.heap = h0 ∧ CHv Z consts_1 U.vm h0) (fun _ _ bl s _ => s.vm.MethodsKnown ∧ s.vm.FramesKnown bl) (fun _ U o U' => ∃ v L, o = .returned v ∧ own_Q1 h0 n0 v U'.heap L ∧ CHr Z consts_1 U.vm U.heap U'.vm U'.heap ∧ ReturnedEndW U o U' L room_1.cells room_1.slots) := by
  refine MetFree.of_bodySF (plainFor_of_name pn_0) hisR ?_
  intro p e s m args below meth c s₁ Bd hml0 hP hK
  obtain ⟨rfl, hZ, hh, H0⟩ := hP
  have hx := Bd.exec
  have hby := Bd.bytes
  have hml : c.maxLocals = 16 := hml0
  have hown : s.vm.findClass "com/example/excl1/excl1/cli/RefusalUsagePinLaw" = some m.cls := findClass_of_methodNamed Bd.named
  have hnm := (name_of_methodNamed Bd.named Bd.method).1
  have X0 : Stand p l e room_1 (s.setVm s.vm) m #[(.int p1), (.int p2), (.int p3)] below meth c s₁ [] 0 0 := Stand.of_body Bd
  have e0 : s₁.heap = h0 := by rw [← hh, Bd.state]; rfl
  have N0 := Fr.nil n0
  have pre0 : ∀ t, Steps p.tables e below (s₁.setTop (mkF m 0 #[.val (.int p1), .val (.int p2), .val (.int p3), .unset, .unset, .unset, .unset, .unset, .unset, .unset, .unset, .unset, .unset, .unset, .unset, .unset] [])) t → Steps p.tables e below (s₁.setTop (entryFrame m #[(.int p1), (.int p2), (.int p3)] maxLocals)) t := fun t k => castTop (ef_0 m p1 p2 p3) k
  -- 3. LAWS
  have hS : s.Since s.vm 0 := (State.WarmedH.refl s).since 0
  have hk := Nat.zero_le h0.size
  have R0 : CHr Z consts_1 s.vm h0 s.vm h0 := CHr.refl H0
  -- pc 58: com/example/excl1/excl1/cli/RefusalUsagePinLaw.make by its contract rm1
  obtain ⟨_, _, ⟨T4, L4, k4, n4⟩, -, X4, hSc4, hgr4, ⟨Lc4, hQ4, l4, y4, z4, Cr4⟩, st4⟩ := callSS X0 hx (y := (⟨"com/example/excl1/excl1/cli/RefusalUsagePinLaw", "make", "(ICC)Ljava/lang/String;"⟩ : MethodName)) hown (mvT hZ (hw _ (List.mem_of_getElem? (i := 0) rfl))) (mvT hZ (hw _ (List.mem_of_getElem? (i := 1) rfl))) (mvT hZ (hw _ (List.mem_of_getElem? (i := 2) rfl))) (mvT hZ (hw _ (List.mem_of_getElem? (i := 3) rfl))) (by decide) (backOfSH (W := 0) (rm1 l Z a0 hw [] (own_irem (p3 &&& (3 : Int32)) (3 : Int32)) ((p1 &&& (255 : Int32)).toUInt32.toUInt16.toUInt32.toInt32) ((((p1.toUInt32 >>> ((8 : Int32) &&& 31).toUInt32).toInt32) &&& (255 : Int32)).toUInt32.toUInt16.toUInt32.toInt32) G1 h0 n0 Z0 S_COMPACT_STRINGS X00 P3 (own_irem3 _) (own_x255 _) (own_x255 _) (own_xnar _) (own_xnar _)) hZ (hw _ (List.mem_of_getElem? (i := 3) rfl)) (hw _ (List.mem_of_getElem? (i := 2) rfl)) (by decide) (by decide) (own_EW hw) R0.1) (g := (mkF m 58 #[.val (.int p1), .val (.int p2), .val (.int p3), .val (.int (own_irem (p3 &&& (3 : Int32)) (3 : Int32))), .val (.int (own_irem (((p3.toUInt32 >>> ((2 : Int32) &&& 31).toUInt32).toInt32) &&& (3 : Int32)) (3 : Int32))), .val (.int ((p1 &&& (255 : Int32)).toUInt32.toUInt16.toUInt32.toInt32)), .val (.int ((((p1.toUInt32 >>> ((8 : Int32) &&& 31).toUInt32).toInt32) &&& (255 : Int32)).toUInt32.toUInt16.toUInt32.toInt32)), .val (.int ((p2 &&& (255 : Int32)).toUInt32.toUInt16.toUInt32.toInt32)), .val (.int ((((p2.toUInt32 >>> ((8 : Int32) &&& 31).toUInt32).toInt32) &&& (255 : Int32)).toUInt32.toUInt16.toUInt32.toInt32)), .unset, .unset, .unset, .unset, .unset, .unset, .unset] [(.int ((((p1.toUInt32 >>> ((8 : Int32) &&& 31).toUInt32).toInt32) &&& (255 : Int32)).toUInt32.toUInt16.toUInt32.toInt32)), (.int ((p1 &&& (255 : Int32)).toUInt32.toUInt16.toUInt32.toInt32)), (.int (own_irem (p3 &&& (3 : Int32)) (3 : Int32)))])) rfl (by rw [hml]; rfl) (argsL := [(.int (own_irem (p3 &&& (3 : Int32)) (3 : Int32))), (.int ((p1 &&& (255 : Int32)).toUInt32.toUInt16.toUInt32.toInt32)), (.int ((((p1.toUInt32 >>> ((8 : Int32) &&& 31).toUInt32).toInt32) &&& (255 : Int32)).toUInt32.toUInt16.toUInt32.toInt32))]) (rest := []) (lenOf pd_0_0 rfl) rfl (by show 2 * 0 + _ ≤ _; exact Nat.le_of_eq rfl) (hb hby at_58) (fun _ _ => ⟨rfl, e0, (by decide : 0 + 3 ≤ _), (by decide : 0 + 8 ≤ _)⟩)
  dsimp only [Pt.U, Pt.locs, Pt.cells, Pt.slots] at hSc4 hgr4 Cr4
  dsimp only [Pt.U, Pt.locs, Pt.cells, Pt.slots] at X4 l4 y4 z4 st4 hQ4
  subst l4 y4 z4
  obtain ⟨a4, rfl, N4q, Ka4, E_a4, t4, kt4, Fv4, Fc4, V_t4⟩ := hQ4      -- what it returned, that it wrote nothing old, and the rest of your Q1
  have N4 := Fr.app N0 N4q
  obtain ⟨X4, hS, hZ4, hown4⟩ := rebS hS (by rw [e0]; exact hk) X4 hSc4 hgr4 hZ hown
  have hk := Nat.le_refl T4.heap.size
  have Kq4 : Keep h0 T4.heap [] := Ka4
  have K4 : Keep h0 T4.heap [] := (Keep.refl h0 []).trans Kq4 all0
  have R4 := R0.trans Cr4
  -- pc 69: com/example/excl1/excl1/cli/RefusalUsagePinLaw.make by its contract rm1
  obtain ⟨_, _, ⟨T5, L5, k5, n5⟩, -, X5, hSc5, hgr5, ⟨Lc5, hQ5, l5, y5, z5, Cr5⟩, st5⟩ := callSS X4 hx (y := (⟨"com/example/excl1/excl1/cli/RefusalUsagePinLaw", "make", "(ICC)Ljava/lang/String;"⟩ : MethodName)) hown4 (mvT hZ4 (hw _ (List.mem_of_getElem? (i := 0) rfl))) (mvT hZ4 (hw _ (List.mem_of_getElem? (i := 1) rfl))) (mvT hZ4 (hw _ (List.mem_of_getElem? (i := 2) rfl))) (mvT hZ4 (hw _ (List.mem_of_getElem? (i := 3) rfl))) (by decide) (backOfSH (W := 0) (rm1 l Z a0 hw [] (own_irem (((p3.toUInt32 >>> ((2 : Int32) &&& 31).toUInt32).toInt32) &&& (3 : Int32)) (3 : Int32)) ((p2 &&& (255 : Int32)).toUInt32.toUInt16.toUInt32.toInt32) ((((p2.toUInt32 >>> ((8 : Int32) &&& 31).toUInt32).toInt32) &&& (255 : Int32)).toUInt32.toUInt16.toUInt32.toInt32) G1 T4.heap n0 (Nat.le_trans Z0 Kq4.1) S_COMPACT_STRINGS (X00.keep K4 all0) P3 (own_irem3 _) (own_x255 _) (own_x255 _) (own_xnar _) (own_xnar _)) hZ4 (hw _ (List.mem_of_getElem? (i := 3) rfl)) (hw _ (List.mem_of_getElem? (i := 2) rfl)) (by decide) (by decide) (own_EW hw) R4.1) (g := (mkF m 69 #[.val (.int p1), .val (.int p2), .val (.int p3), .val (.int (own_irem (p3 &&& (3 : Int32)) (3 : Int32))), .val (.int (own_irem (((p3.toUInt32 >>> ((2 : Int32) &&& 31).toUInt32).toInt32) &&& (3 : Int32)) (3 : Int32))), .val (.int ((p1 &&& (255 : Int32)).toUInt32.toUInt16.toUInt32.toInt32)), .val (.int ((((p1.toUInt32 >>> ((8 : Int32) &&& 31).toUInt32).toInt32) &&& (255 : Int32)).toUInt32.toUInt16.toUInt32.toInt32)), .val (.int ((p2 &&& (255 : Int32)).toUInt32.toUInt16.toUInt32.toInt32)), .val (.int ((((p2.toUInt32 >>> ((8 : Int32) &&& 31).toUInt32).toInt32) &&& (255 : Int32)).toUInt32.toUInt16.toUInt32.toInt32)), .val (.ref a4), .unset, .unset, .unset, .unset, .unset, .unset] [(.int ((((p2.toUInt32 >>> ((8 : Int32) &&& 31).toUInt32).toInt32) &&& (255 : Int32)).toUInt32.toUInt16.toUInt32.toInt32)), (.int ((p2 &&& (255 : Int32)).toUInt32.toUInt16.toUInt32.toInt32)), (.int (own_irem (((p3.toUInt32 >>> ((2 : Int32) &&& 31).toUInt32).toInt32) &&& (3 : Int32)) (3 : Int32)))])) rfl (by rw [hml]; rfl) (argsL := [(.int (own_irem (((p3.toUInt32 >>> ((2 : Int32) &&& 31).toUInt32).toInt32) &&& (3 : Int32)) (3 : Int32))), (.int ((p2 &&& (255 : Int32)).toUInt32.toUInt16.toUInt32.toInt32)), (.int ((((p2.toUInt32 >>> ((8 : Int32) &&& 31).toUInt32).toInt32) &&& (255 : Int32)).toUInt32.toUInt16.toUInt32.toInt32))]) (rest := []) (lenOf pd_0_0 rfl) rfl (by show 2 * 0 + _ ≤ _; exact Nat.le_of_eq rfl) (hb hby at_69) (fun _ _ => ⟨rfl, rfl, (by decide : 3 + 3 ≤ _), (by decide : 8 + 8 ≤ _)⟩)
  dsimp only [Pt.U, Pt.locs, Pt.cells, Pt.slots] at hSc5 hgr5 Cr5
  dsimp only [Pt.U, Pt.locs, Pt.cells, Pt.slots] at X5 l5 y5 z5 st5 hQ5
  subst l5 y5 z5
  obtain ⟨a5, rfl, N5q, Ka5, E_a5, t5, kt5, Fv5, Fc5, V_t5⟩ := hQ5      -- what it returned, that it wrote nothing old, and the rest of your Q1
  have N5 := Fr.app N4 N5q
  obtain ⟨X5, hS, hZ5, hown5⟩ := rebS hS (hk) X5 hSc5 hgr5 hZ4 hown4
  have hk := Nat.le_refl T5.heap.size
  have Kq5 : Keep T4.heap T5.heap [] := Ka5
  have K5 : Keep h0 T5.heap [] := K4.trans Kq5 all0
  have R5 := R4.trans Cr5
  -- pc 78: com/example/excl1/excl1/cli/Refusal.usage by its contract rm8
  obtain ⟨_, _, ⟨T6, L6, k6, n6⟩, -, X6, hSc6, hgr6, ⟨Lc6, hQ6, l6, y6, z6, Cr6⟩, st6⟩ := callSS X5 hx (y := (⟨"com/example/excl1/excl1/cli/Refusal", "usage", "(Ljava/lang/String;Ljava/lang/String;)Lcom/example/excl1/excl1/cli/Refusal;"⟩ : MethodName)) hown5 (mvT hZ5 (hw _ (List.mem_of_getElem? (i := 37) rfl))) (mvT hZ5 (hw _ (List.mem_of_getElem? (i := 38) rfl))) (mvT hZ5 (hw _ (List.mem_of_getElem? (i := 39) rfl))) (mvT hZ5 (hw _ (List.mem_of_getElem? (i := 40) rfl))) (by decide) (backOfSKH (W := 0) (rm8 l Z a0 hw [] a4 a5 G1 G2 G3 t4 t5 kt4 (own_irem (p3 &&& (3 : Int32)) (3 : Int32)) (own_mv (own_irem (p3 &&& (3 : Int32)) (3 : Int32)) ((p1 &&& (255 : Int32)).toUInt32.toUInt16.toUInt32.toInt32) ((((p1.toUInt32 >>> ((8 : Int32) &&& 31).toUInt32).toInt32) &&& (255 : Int32)).toUInt32.toUInt16.toUInt32.toInt32)) (.int (0 : Int32)) kt5 (own_irem (((p3.toUInt32 >>> ((2 : Int32) &&& 31).toUInt32).toInt32) &&& (3 : Int32)) (3 : Int32)) (own_mv (own_irem (((p3.toUInt32 >>> ((2 : Int32) &&& 31).toUInt32).toInt32) &&& (3 : Int32)) (3 : Int32)) ((p2 &&& (255 : Int32)).toUInt32.toUInt16.toUInt32.toInt32) ((((p2.toUInt32 >>> ((8 : Int32) &&& 31).toUInt32).toInt32) &&& (255 : Int32)).toUInt32.toUInt16.toUInt32.toInt32)) (.int (0 : Int32)) T5.heap n0 (Nat.le_trans (Nat.le_trans Z0 Kq4.1) Kq5.1) hl S_COMPACT_STRINGS (X00.keep K5 all0) P3 S_UNASSIGNED_STACK S_SUPPRESSED_SENTINEL (E_a4.keep Kq5) (Fv4.keep Kq5 (fun q => nomatch q)) (Fc4.keep Kq5 (fun q => nomatch q)) E_a5 Fv5 Fc5 (V_t4.keep Kq5 (fun q => nomatch q)) V_t5 (own_irem3 _) (own_irem3 _) (own_mvl (own_irem3 _) _ _) (own_mvl (own_irem3 _) _ _)) hZ5 (hw _ (List.mem_of_getElem? (i := 40) rfl)) (hw _ (List.mem_of_getElem? (i := 39) rfl)) (by decide) (by decide) (own_EW hw) R5.1 (Vm.MethodsKnown.alikeC (hZ.alike.symm.trans hZ5.alike) hK.1) (Vm.FramesKnown.alikeC (hZ.alike.symm.trans hZ5.alike) hK.2)) (g := (mkF m 78 #[.val (.int p1), .val (.int p2), .val (.int p3), .val (.int (own_irem (p3 &&& (3 : Int32)) (3 : Int32))), .val (.int (own_irem (((p3.toUInt32 >>> ((2 : Int32) &&& 31).toUInt32).toInt32) &&& (3 : Int32)) (3 : Int32))), .val (.int ((p1 &&& (255 : Int32)).toUInt32.toUInt16.toUInt32.toInt32)), .val (.int ((((p1.toUInt32 >>> ((8 : Int32) &&& 31).toUInt32).toInt32) &&& (255 : Int32)).toUInt32.toUInt16.toUInt32.toInt32)), .val (.int ((p2 &&& (255 : Int32)).toUInt32.toUInt16.toUInt32.toInt32)), .val (.int ((((p2.toUInt32 >>> ((8 : Int32) &&& 31).toUInt32).toInt32) &&& (255 : Int32)).toUInt32.toUInt16.toUInt32.toInt32)), .val (.ref a4), .val (.ref a5), .unset, .unset, .unset, .unset, .unset] [(.ref a5), (.ref a4)])) rfl (by rw [hml]; rfl) (argsL := [(.ref a4), (.ref a5)]) (rest := []) (lenOf pd_0_7 rfl) rfl (by show 2 * 0 + _ ≤ _; exact Nat.le_of_eq rfl) (hb hby at_78) (fun _ _ => ⟨rfl, rfl, (by decide : 6 + 8 ≤ _), (by decide : 16 + 2839 ≤ _)⟩)
  dsimp only [Pt.U, Pt.locs, Pt.cells, Pt.slots] at hSc6 hgr6 Cr6
  dsimp only [Pt.U, Pt.locs, Pt.cells, Pt.slots] at X6 l6 y6 z6 st6 hQ6
  subst l6 y6 z6
  obtain ⟨r6, rfl, N6q, Kt6, E_r, Fs_r, bm, Fm_r, E_bm, tm, km, Fv_bm, Fc_bm, V_tm0⟩ := hQ6      -- what it returned, that it wrote nothing old, and the rest of your Q8
  have N6 := Fr.app N5 N6q
  obtain ⟨X6, hS, hZ6, hown6⟩ := rebS hS (hk) X6 hSc6 hgr6 hZ5 hown5
  have hk := Nat.le_refl T6.heap.size
  have V_tm : Arv Z T6.heap tm km .byte (Int32.ofNat (own_cs (own_mc (own_irem (p3 &&& (3 : Int32)) (3 : Int32)) ((p1 &&& (255 : Int32)).toUInt32.toUInt16.toUInt32.toInt32) ((((p1.toUInt32 >>> ((8 : Int32) &&& 31).toUInt32).toInt32) &&& (255 : Int32)).toUInt32.toUInt16.toUInt32.toInt32)) (own_mc (own_irem (((p3.toUInt32 >>> ((2 : Int32) &&& 31).toUInt32).toInt32) &&& (3 : Int32)) (3 : Int32)) ((p2 &&& (255 : Int32)).toUInt32.toUInt16.toUInt32.toInt32) ((((p2.toUInt32 >>> ((8 : Int32) &&& 31).toUInt32).toInt32) &&& (255 : Int32)).toUInt32.toUInt16.toUInt32.toInt32))).length) ((own_cs (own_mc (own_irem (p3 &&& (3 : Int32)) (3 : Int32)) ((p1 &&& (255 : Int32)).toUInt32.toUInt16.toUInt32.toInt32) ((((p1.toUInt32 >>> ((8 : Int32) &&& 31).toUInt32).toInt32) &&& (255 : Int32)).toUInt32.toUInt16.toUInt32.toInt32)) (own_mc (own_irem (((p3.toUInt32 >>> ((2 : Int32) &&& 31).toUInt32).toInt32) &&& (3 : Int32)) (3 : Int32)) ((p2 &&& (255 : Int32)).toUInt32.toUInt16.toUInt32.toInt32) ((((p2.toUInt32 >>> ((8 : Int32) &&& 31).toUInt32).toInt32) &&& (255 : Int32)).toUInt32.toUInt16.toUInt32.toInt32))).map fun c => Value.int (StrChars.lo8 c)) (.int (0 : Int32)) := own_arvc V_tm0 (own_zl (own_irem3 _) (own_irem3 _) _ _ _ _) (own_ev (own_mc (own_irem (p3 &&& (3 : Int32)) (3 : Int32)) ((p1 &&& (255 : Int32)).toUInt32.toUInt16.toUInt32.toInt32) ((((p1.toUInt32 >>> ((8 : Int32) &&& 31).toUInt32).toInt32) &&& (255 : Int32)).toUInt32.toUInt16.toUInt32.toInt32)) (own_mc (own_irem (((p3.toUInt32 >>> ((2 : Int32) &&& 31).toUInt32).toInt32) &&& (3 : Int32)) (3 : Int32)) ((p2 &&& (255 : Int32)).toUInt32.toUInt16.toUInt32.toInt32) ((((p2.toUInt32 >>> ((8 : Int32) &&& 31).toUInt32).toInt32) &&& (255 : Int32)).toUInt32.toUInt16.toUInt32.toInt32)))
  have hlat := own_lat (a := own_mc (own_irem (p3 &&& (3 : Int32)) (3 : Int32)) ((p1 &&& (255 : Int32)).toUInt32.toUInt16.toUInt32.toInt32) ((((p1.toUInt32 >>> ((8 : Int32) &&& 31).toUInt32).toInt32) &&& (255 : Int32)).toUInt32.toUInt16.toUInt32.toInt32)) (b := own_mc (own_irem (((p3.toUInt32 >>> ((2 : Int32) &&& 31).toUInt32).toInt32) &&& (3 : Int32)) (3 : Int32)) ((p2 &&& (255 : Int32)).toUInt32.toUInt16.toUInt32.toInt32) ((((p2.toUInt32 >>> ((8 : Int32) &&& 31).toUInt32).toInt32) &&& (255 : Int32)).toUInt32.toUInt16.toUInt32.toInt32)) (own_mclat (own_x255 _) (own_x255 _)) (own_mclat (own_x255 _) (own_x255 _))
  have Kq6 : Keep T5.heap T6.heap [] := Kt6
  have K6 : Keep h0 T6.heap [] := K5.trans Kq6 all0
  have R6 := R5.trans Cr6
  -- pc 92: com/example/excl1/excl1/cli/Refusal.status by the contract of the body that the receiver's class selects, rm35
  obtain ⟨cq7, kq7, q7a, q7b, q7c⟩ := isOf hZ6 rfl E_r
  obtain ⟨_, _, ⟨T7, L7, k7, n7⟩, -, X7, ⟨Lc7, hQ7, l7, y7, z7⟩, st7⟩ := X6.virtualBack hx (y := (⟨"com/example/excl1/excl1/cli/Refusal", "status", "()I"⟩ : MethodName)) (z := (⟨"com/example/excl1/excl1/cli/Refusal", "status", "()I"⟩ : MethodName)) hown6 (mvT hZ6 (hw _ (List.mem_of_getElem? (i := 207) rfl))) (mvT hZ6 (hw _ (List.mem_of_getElem? (i := 208) rfl))) (notFace_of_selects (args := #[]) (mvT hZ6 (hw _ (List.mem_of_getElem? (i := 210) rfl)))) (mvT hZ6 (hw _ (List.mem_of_getElem? (i := 210) rfl))) (mvT hZ6 (hw _ (List.mem_of_getElem? (i := 209) rfl))) (by decide) (backOf (W := 0) (rm35 l Z a0 hw [] r6  T6.heap n0 (Nat.le_trans (Nat.le_trans (Nat.le_trans Z0 Kq4.1) Kq5.1) Kq6.1) E_r Fs_r) hZ6 (hw _ (List.mem_of_getElem? (i := 211) rfl)) (hw _ (List.mem_of_getElem? (i := 39) rfl)) (by decide) (by decide)) q7a q7c (g := (mkF m 92 #[.val (.int p1), .val (.int p2), .val (.int p3), .val (.int (own_irem (p3 &&& (3 : Int32)) (3 : Int32))), .val (.int (own_irem (((p3.toUInt32 >>> ((2 : Int32) &&& 31).toUInt32).toInt32) &&& (3 : Int32)) (3 : Int32))), .val (.int ((p1 &&& (255 : Int32)).toUInt32.toUInt16.toUInt32.toInt32)), .val (.int ((((p1.toUInt32 >>> ((8 : Int32) &&& 31).toUInt32).toInt32) &&& (255 : Int32)).toUInt32.toUInt16.toUInt32.toInt32)), .val (.int ((p2 &&& (255 : Int32)).toUInt32.toUInt16.toUInt32.toInt32)), .val (.int ((((p2.toUInt32 >>> ((8 : Int32) &&& 31).toUInt32).toInt32) &&& (255 : Int32)).toUInt32.toUInt16.toUInt32.toInt32)), .val (.ref a4), .val (.ref a5), .val (.ref r6), .unset, .unset, .unset, .unset] [(.ref r6)])) rfl (by rw [hml]; rfl) (Steps.refl _) (argsL := []) (rest := []) (lenOf pd_0_11 rfl) rfl (by show 2 * 0 + _ ≤ _; exact Nat.le_of_eq rfl) (hb hby at_92) (fun _ _ => ⟨rfl, rfl, (by decide : 14 + 0 ≤ _), (by decide : 2855 + 0 ≤ _)⟩)
  dsimp only [Pt.U, Pt.locs, Pt.cells, Pt.slots] at X7 l7 y7 z7 st7 hQ7
  subst l7 y7 z7
  obtain ⟨rfl, N7q, eq7⟩ := hQ7      -- what it returned, that it wrote nothing old, and the rest of your Q35
  have N7 := Fr.app N6 N7q
  have Kq7 : Keep T6.heap T7.heap [] := (own_keq eq7)
  have K7 : Keep h0 T7.heap [] := K6.trans Kq7 all0
  have R7 := R6.trans (CHr.keep Kq7 sf0 R6.1)
  -- pc 104: com/example/excl1/excl1/cli/Refusal.getMessage by the contract of the body that the receiver's class selects, rm36
  obtain ⟨cq8, kq8, q8a, q8b, q8c⟩ := isOf hZ6 rfl (E_r.keep Kq7)
  obtain ⟨_, _, ⟨T8, L8, k8, n8⟩, -, X8, ⟨Lc8, hQ8, l8, y8, z8⟩, st8⟩ := X7.virtualBackUp hx (owner := "java/lang/Throwable") (x := (⟨"com/example/excl1/excl1/cli/Refusal", "getMessage", "()Ljava/lang/String;"⟩ : MethodName)) (y := (⟨"java/lang/Throwable", "getMessage", "()Ljava/lang/String;"⟩ : MethodName)) hown6 (mvT hZ6 (hw _ (List.mem_of_getElem? (i := 212) rfl))) (mvT hZ6 (hw _ (List.mem_of_getElem? (i := 213) rfl))) (mvT hZ6 (hw _ (List.mem_of_getElem? (i := 214) rfl))) (by decide) (mvT hZ6 (hw _ (List.mem_of_getElem? (i := 216) rfl))) (mvT hZ6 (hw _ (List.mem_of_getElem? (i := 215) rfl))) (backOf (W := 0) (rm36 l Z a0 hw [] r6 bm T7.heap n0 (Nat.le_trans (Nat.le_trans (Nat.le_trans (Nat.le_trans Z0 Kq4.1) Kq5.1) Kq6.1) Kq7.1) (E_r.keep Kq7) (Fm_r.keep Kq7 (fun q => nomatch q))) hZ6 (hw _ (List.mem_of_getElem? (i := 217) rfl)) (hw _ (List.mem_of_getElem? (i := 166) rfl)) (by decide) (by decide)) q8a q8c (g := (mkF m 104 #[.val (.int p1), .val (.int p2), .val (.int p3), .val (.int (own_irem (p3 &&& (3 : Int32)) (3 : Int32))), .val (.int (own_irem (((p3.toUInt32 >>> ((2 : Int32) &&& 31).toUInt32).toInt32) &&& (3 : Int32)) (3 : Int32))), .val (.int ((p1 &&& (255 : Int32)).toUInt32.toUInt16.toUInt32.toInt32)), .val (.int ((((p1.toUInt32 >>> ((8 : Int32) &&& 31).toUInt32).toInt32) &&& (255 : Int32)).toUInt32.toUInt16.toUInt32.toInt32)), .val (.int ((p2 &&& (255 : Int32)).toUInt32.toUInt16.toUInt32.toInt32)), .val (.int ((((p2.toUInt32 >>> ((8 : Int32) &&& 31).toUInt32).toInt32) &&& (255 : Int32)).toUInt32.toUInt16.toUInt32.toInt32)), .val (.ref a4), .val (.ref a5), .val (.ref r6), .unset, .unset, .unset, .unset] [(.ref r6)])) rfl (by rw [hml]; rfl) (Steps.refl _) (argsL := []) (rest := []) (lenOf pd_0_17 rfl) rfl (by show 2 * 0 + _ ≤ _; exact Nat.le_of_eq rfl) (hb hby at_104) (fun _ _ => ⟨rfl, rfl, (by decide : 14 + 0 ≤ _), (by decide : 2855 + 0 ≤ _)⟩)
  dsimp only [Pt.U, Pt.locs, Pt.cells, Pt.slots] at X8 l8 y8 z8 st8 hQ8
  subst l8 y8 z8
  obtain ⟨rfl, N8q, eq8⟩ := hQ8      -- what it returned, that it wrote nothing old, and the rest of your Q36
  have N8 := Fr.app N7 N8q
  have Kq8 : Keep T7.heap T8.heap [] := (own_keq eq8)
  have K8 : Keep h0 T8.heap [] := K7.trans Kq8 all0
  have R8 := R7.trans (CHr.keep Kq8 sf0 R7.1)
  -- pc 118: java/lang/String.length by the contract of the body that the receiver's class selects, rm13
  obtain ⟨cq9, kq9, q9a, q9b, q9c⟩ := isOf hZ6 rfl ((E_bm.keep Kq7).keep Kq8)
  obtain ⟨_, _, ⟨T9, L9, k9, n9⟩, -, X9, ⟨Lc9, hQ9, l9, y9, z9⟩, st9⟩ := X8.virtualBack hx (y := (⟨"java/lang/String", "length", "()I"⟩ : MethodName)) (z := (⟨"java/lang/String", "length", "()I"⟩ : MethodName)) hown6 (mvT hZ6 (hw _ (List.mem_of_getElem? (i := 218) rfl))) (mvT hZ6 (hw _ (List.mem_of_getElem? (i := 72) rfl))) (notFace_of_selects (args := #[]) (mvT hZ6 (hw _ (List.mem_of_getElem? (i := 74) rfl)))) (mvT hZ6 (hw _ (List.mem_of_getElem? (i := 74) rfl))) (mvT hZ6 (hw _ (List.mem_of_getElem? (i := 73) rfl))) (by decide) (backOf (W := 0) (rm13 l Z a0 hw [] bm G1 tm km (Int32.ofNat (own_cs (own_mc (own_irem (p3 &&& (3 : Int32)) (3 : Int32)) ((p1 &&& (255 : Int32)).toUInt32.toUInt16.toUInt32.toInt32) ((((p1.toUInt32 >>> ((8 : Int32) &&& 31).toUInt32).toInt32) &&& (255 : Int32)).toUInt32.toUInt16.toUInt32.toInt32)) (own_mc (own_irem (((p3.toUInt32 >>> ((2 : Int32) &&& 31).toUInt32).toInt32) &&& (3 : Int32)) (3 : Int32)) ((p2 &&& (255 : Int32)).toUInt32.toUInt16.toUInt32.toInt32) ((((p2.toUInt32 >>> ((8 : Int32) &&& 31).toUInt32).toInt32) &&& (255 : Int32)).toUInt32.toUInt16.toUInt32.toInt32))).length) ((own_cs (own_mc (own_irem (p3 &&& (3 : Int32)) (3 : Int32)) ((p1 &&& (255 : Int32)).toUInt32.toUInt16.toUInt32.toInt32) ((((p1.toUInt32 >>> ((8 : Int32) &&& 31).toUInt32).toInt32) &&& (255 : Int32)).toUInt32.toUInt16.toUInt32.toInt32)) (own_mc (own_irem (((p3.toUInt32 >>> ((2 : Int32) &&& 31).toUInt32).toInt32) &&& (3 : Int32)) (3 : Int32)) ((p2 &&& (255 : Int32)).toUInt32.toUInt16.toUInt32.toInt32) ((((p2.toUInt32 >>> ((8 : Int32) &&& 31).toUInt32).toInt32) &&& (255 : Int32)).toUInt32.toUInt16.toUInt32.toInt32))).map fun c => Value.int (StrChars.lo8 c)) (.int (0 : Int32)) T8.heap n0 (Nat.le_trans (Nat.le_trans (Nat.le_trans (Nat.le_trans (Nat.le_trans Z0 Kq4.1) Kq5.1) Kq6.1) Kq7.1) Kq8.1) S_COMPACT_STRINGS (X00.keep K8 all0) P3 ((E_bm.keep Kq7).keep Kq8) ((Fv_bm.keep Kq7 (fun q => nomatch q)).keep Kq8 (fun q => nomatch q)) ((Fc_bm.keep Kq7 (fun q => nomatch q)).keep Kq8 (fun q => nomatch q)) ((V_tm.keep Kq7 (fun q => nomatch q)).keep Kq8 (fun q => nomatch q))) hZ6 (hw _ (List.mem_of_getElem? (i := 75) rfl)) (hw _ (List.mem_of_getElem? (i := 6) rfl)) (by decide) (by decide)) q9a q9c (g := (mkF m 118 #[.val (.int p1), .val (.int p2), .val (.int p3), .val (.int (own_irem (p3 &&& (3 : Int32)) (3 : Int32))), .val (.int (own_irem (((p3.toUInt32 >>> ((2 : Int32) &&& 31).toUInt32).toInt32) &&& (3 : Int32)) (3 : Int32))), .val (.int ((p1 &&& (255 : Int32)).toUInt32.toUInt16.toUInt32.toInt32)), .val (.int ((((p1.toUInt32 >>> ((8 : Int32) &&& 31).toUInt32).toInt32) &&& (255 : Int32)).toUInt32.toUInt16.toUInt32.toInt32)), .val (.int ((p2 &&& (255 : Int32)).toUInt32.toUInt16.toUInt32.toInt32)), .val (.int ((((p2.toUInt32 >>> ((8 : Int32) &&& 31).toUInt32).toInt32) &&& (255 : Int32)).toUInt32.toUInt16.toUInt32.toInt32)), .val (.ref a4), .val (.ref a5), .val (.ref r6), .val (.ref bm), .unset, .unset, .unset] [(.ref bm)])) rfl (by rw [hml]; rfl) (Steps.refl _) (argsL := []) (rest := []) (lenOf pd_0_11 rfl) rfl (by show 2 * 0 + _ ≤ _; exact Nat.le_of_eq rfl) (hb hby at_118) (fun _ _ => ⟨rfl, rfl, (by decide : 14 + 0 ≤ _), (by decide : 2855 + 0 ≤ _)⟩)
  dsimp only [Pt.U, Pt.locs, Pt.cells, Pt.slots] at X9 l9 y9 z9 st9 hQ9
  subst l9 y9 z9
  obtain ⟨rfl, N9q, eq9⟩ := hQ9      -- what it returned, that it wrote nothing old, and the rest of your Q13
  have N9 := Fr.app N8 N9q
  have Kq9 : Keep T8.heap T9.heap [] := (own_keq eq9)
  have K9 : Keep h0 T9.heap [] := K8.trans Kq9 all0
  have R9 := R8.trans (CHr.keep Kq9 sf0 R8.1)
  have hc128 : (Int32.ofNat (own_cs (own_mc (own_irem (p3 &&& (3 : Int32)) (3 : Int32)) ((p1 &&& (255 : Int32)).toUInt32.toUInt16.toUInt32.toInt32) ((((p1.toUInt32 >>> ((8 : Int32) &&& 31).toUInt32).toInt32) &&& (255 : Int32)).toUInt32.toUInt16.toUInt32.toInt32)) (own_mc (own_irem (((p3.toUInt32 >>> ((2 : Int32) &&& 31).toUInt32).toInt32) &&& (3 : Int32)) (3 : Int32)) ((p2 &&& (255 : Int32)).toUInt32.toUInt16.toUInt32.toInt32) ((((p2.toUInt32 >>> ((8 : Int32) &&& 31).toUInt32).toInt32) &&& (255 : Int32)).toUInt32.toUInt16.toUInt32.toInt32))).length) = (((own_irem (p3 &&& (3 : Int32)) (3 : Int32)) + (9 : Int32)) + (own_irem (((p3.toUInt32 >>> ((2 : Int32) &&& 31).toUInt32).toInt32) &&& (3 : Int32)) (3 : Int32))) := by
    rw [← own_zl (own_irem3 _) (own_irem3 _)]
    rw [Int32.zero_add]
  have Eb10 := (((E_bm.keep Kq7).keep Kq8).keep Kq9)
  have Fvb10 := (((Fv_bm.keep Kq7 (fun q => nomatch q)).keep Kq8 (fun q => nomatch q)).keep Kq9 (fun q => nomatch q))
  have Fcb10 := (((Fc_bm.keep Kq7 (fun q => nomatch q)).keep Kq8 (fun q => nomatch q)).keep Kq9 (fun q => nomatch q))
  have Vb10 := (((V_tm.keep Kq7 (fun q => nomatch q)).keep Kq8 (fun q => nomatch q)).keep Kq9 (fun q => nomatch q))
  have SC10 := S_COMPACT_STRINGS.ext ((X00.keep K9 all0)).2
  have SF10 := S_FMT.ext ((X00.keep K9 all0)).2
  obtain ⟨T10, X10, e10, st10⟩ := own_tail (p1 := p1) (p2 := p2) (p3 := p3) (a4 := a4) (a5 := a5) (r6 := r6) X9 hx hZ6 hown6 hw hby hml rfl Eb10 Fvb10 Fcb10 Vb10 hlat SC10 P3 SF10 rf (by rw [own_csl, ← own_mcl (own_irem3 _), ← own_mcl (own_irem3 _)]; rcases own_irem3 p3 with q | q | q <;> rcases own_irem3 (p3.toUInt32 >>> ((2 : Int32) &&& 31).toUInt32).toInt32 with r | r | r <;> rw [q, r] <;> decide) (by decide) (by decide) (own_irem3 _) (own_irem3 _) rfl
  obtain ⟨fs, hr, hrun, hended, hRW⟩ := X10.leaveW hS (by rw [e10]; exact (Nat.le_trans (Nat.le_trans (Nat.le_trans hk Kq7.1) Kq8.1) Kq9.1)) (v := (some (.int (1 : Int32)))) (fun h => by rw [Bd.returns] at h; cases h)
  refine ⟨_, _, pre0 _ ?_, hrun, hended, _, _, rfl, ?_, ?_, hRW.1, hRW.2.1, hRW.2.2.1, hRW.2.2.2.mono (by decide) (by decide)⟩
  -- 4. STEPS
  · show Steps p.tables e below (s₁.setTop (mkF m 0 #[.val (.int p1), .val (.int p2), .val (.int p3), .unset, .unset, .unset, .unset, .unset, .unset, .unset, .unset, .unset, .unset, .unset, .unset, .unset] [])) _
    refine XS.iloadN X0.here hx rfl (hb hby at_0) rfl ?_
    show Steps p.tables e below (s₁.setTop (mkF m 1 #[.val (.int p1), .val (.int p2), .val (.int p3), .unset, .unset, .unset, .unset, .unset, .unset, .unset, .unset, .unset, .unset, .unset, .unset, .unset] [(.int p3)])) _
    refine XS.iconst X0.here hx rfl (hb hby at_1) ?_
    show Steps p.tables e below (s₁.setTop (mkF m 2 #[.val (.int p1), .val (.int p2), .val (.int p3), .unset, .unset, .unset, .unset, .unset, .unset, .unset, .unset, .unset, .unset, .unset, .unset, .unset] [(.int (3 : Int32)), (.int p3)])) _
    refine XS.iand X0.here hx rfl (hb hby at_2) rfl ?_
    show Steps p.tables e below (s₁.setTop (mkF m 3 #[.val (.int p1), .val (.int p2), .val (.int p3), .unset, .unset, .unset, .unset, .unset, .unset, .unset, .unset, .unset, .unset, .unset, .unset, .unset] [(.int (p3 &&& (3 : Int32)))])) _
    refine XS.iconst X0.here hx rfl (hb hby at_3) ?_
    show Steps p.tables e below (s₁.setTop (mkF m 4 #[.val (.int p1), .val (.int p2), .val (.int p3), .unset, .unset, .unset, .unset, .unset, .unset, .unset, .unset, .unset, .unset, .unset, .unset, .unset] [(.int (3 : Int32)), (.int (p3 &&& (3 : Int32)))])) _
    refine iremM X0 hx rfl (hb hby at_4) rfl (by decide) ?_
    show Steps p.tables e below (s₁.setTop (mkF m 5 #[.val (.int p1), .val (.int p2), .val (.int p3), .unset, .unset, .unset, .unset, .unset, .unset, .unset, .unset, .unset, .unset, .unset, .unset, .unset] [(.int (own_irem (p3 &&& (3 : Int32)) (3 : Int32)))])) _
    refine XS.istoreN X0.here hx rfl (hb hby at_5) rfl (l' := #[.val (.int p1), .val (.int p2), .val (.int p3), .val (.int (own_irem (p3 &&& (3 : Int32)) (3 : Int32))), .unset, .unset, .unset, .unset, .unset, .unset, .unset, .unset, .unset, .unset, .unset, .unset]) rfl ?_
    show Steps p.tables e below (s₁.setTop (mkF m 6 #[.val (.int p1), .val (.int p2), .val (.int p3), .val (.int (own_irem (p3 &&& (3 : Int32)) (3 : Int32))), .unset, .unset, .unset, .unset, .unset, .unset, .unset, .unset, .unset, .unset, .unset, .unset] [])) _
    refine XS.iloadN X0.here hx rfl (hb hby at_6) rfl ?_
    show Steps p.tables e below (s₁.setTop (mkF m 7 #[.val (.int p1), .val (.int p2), .val (.int p3), .val (.int (own_irem (p3 &&& (3 : Int32)) (3 : Int32))), .unset, .unset, .unset, .unset, .unset, .unset, .unset, .unset, .unset, .unset, .unset, .unset] [(.int p3)])) _
    refine XS.iconst X0.here hx rfl (hb hby at_7) ?_
    show Steps p.tables e below (s₁.setTop (mkF m 8 #[.val (.int p1), .val (.int p2), .val (.int p3), .val (.int (own_irem (p3 &&& (3 : Int32)) (3 : Int32))), .unset, .unset, .unset, .unset, .unset, .unset, .unset, .unset, .unset, .unset, .unset, .unset] [(.int (2 : Int32)), (.int p3)])) _
    refine XS.iushr X0.here hx rfl (hb hby at_8) rfl ?_
    show Steps p.tables e below (s₁.setTop (mkF m 9 #[.val (.int p1), .val (.int p2), .val (.int p3), .val (.int (own_irem (p3 &&& (3 : Int32)) (3 : Int32))), .unset, .unset, .unset, .unset, .unset, .unset, .unset, .unset, .unset, .unset, .unset, .unset] [(.int ((p3.toUInt32 >>> ((2 : Int32) &&& 31).toUInt32).toInt32))])) _
    refine XS.iconst X0.here hx rfl (hb hby at_9) ?_
    show Steps p.tables e below (s₁.setTop (mkF m 10 #[.val (.int p1), .val (.int p2), .val (.int p3), .val (.int (own_irem (p3 &&& (3 : Int32)) (3 : Int32))), .unset, .unset, .unset, .unset, .unset, .unset, .unset, .unset, .unset, .unset, .unset, .unset] [(.int (3 : Int32)), (.int ((p3.toUInt32 >>> ((2 : Int32) &&& 31).toUInt32).toInt32))])) _
    refine XS.iand X0.here hx rfl (hb hby at_10) rfl ?_
    show Steps p.tables e below (s₁.setTop (mkF m 11 #[.val (.int p1), .val (.int p2), .val (.int p3), .val (.int (own_irem (p3 &&& (3 : Int32)) (3 : Int32))), .unset, .unset, .unset, .unset, .unset, .unset, .unset, .unset, .unset, .unset, .unset, .unset] [(.int (((p3.toUInt32 >>> ((2 : Int32) &&& 31).toUInt32).toInt32) &&& (3 : Int32)))])) _
    refine XS.iconst X0.here hx rfl (hb hby at_11) ?_
    show Steps p.tables e below (s₁.setTop (mkF m 12 #[.val (.int p1), .val (.int p2), .val (.int p3), .val (.int (own_irem (p3 &&& (3 : Int32)) (3 : Int32))), .unset, .unset, .unset, .unset, .unset, .unset, .unset, .unset, .unset, .unset, .unset, .unset] [(.int (3 : Int32)), (.int (((p3.toUInt32 >>> ((2 : Int32) &&& 31).toUInt32).toInt32) &&& (3 : Int32)))])) _
    refine iremM X0 hx rfl (hb hby at_12) rfl (by decide) ?_
    show Steps p.tables e below (s₁.setTop (mkF m 13 #[.val (.int p1), .val (.int p2), .val (.int p3), .val (.int (own_irem (p3 &&& (3 : Int32)) (3 : Int32))), .unset, .unset, .unset, .unset, .unset, .unset, .unset, .unset, .unset, .unset, .unset, .unset] [(.int (own_irem (((p3.toUInt32 >>> ((2 : Int32) &&& 31).toUInt32).toInt32) &&& (3 : Int32)) (3 : Int32)))])) _
    refine XS.istore X0.here hx rfl (hb hby at_13) rfl (l' := #[.val (.int p1), .val (.int p2), .val (.int p3), .val (.int (own_irem (p3 &&& (3 : Int32)) (3 : Int32))), .val (.int (own_irem (((p3.toUInt32 >>> ((2 : Int32) &&& 31).toUInt32).toInt32) &&& (3 : Int32)) (3 : Int32))), .unset, .unset, .unset, .unset, .unset, .unset, .unset, .unset, .unset, .unset, .unset]) rfl ?_
    show Steps p.tables e below (s₁.setTop (mkF m 15 #[.val (.int p1), .val (.int p2), .val (.int p3), .val (.int (own_irem (p3 &&& (3 : Int32)) (3 : Int32))), .val (.int (own_irem (((p3.toUInt32 >>> ((2 : Int32) &&& 31).toUInt32).toInt32) &&& (3 : Int32)) (3 : Int32))), .unset, .unset, .unset, .unset, .unset, .unset, .unset, .unset, .unset, .unset, .unset] [])) _
    refine XS.iloadN X0.here hx rfl (hb hby at_15) rfl ?_
    show Steps p.tables e below (s₁.setTop (mkF m 16 #[.val (.int p1), .val (.int p2), .val (.int p3), .val (.int (own_irem (p3 &&& (3 : Int32)) (3 : Int32))), .val (.int (own_irem (((p3.toUInt32 >>> ((2 : Int32) &&& 31).toUInt32).toInt32) &&& (3 : Int32)) (3 : Int32))), .unset, .unset, .unset, .unset, .unset, .unset, .unset, .unset, .unset, .unset, .unset] [(.int p1)])) _
    refine XS.sipush X0.here hx rfl (hb hby at_16) ?_
    show Steps p.tables e below (s₁.setTop (mkF m 19 #[.val (.int p1), .val (.int p2), .val (.int p3), .val (.int (own_irem (p3 &&& (3 : Int32)) (3 : Int32))), .val (.int (own_irem (((p3.toUInt32 >>> ((2 : Int32) &&& 31).toUInt32).toInt32) &&& (3 : Int32)) (3 : Int32))), .unset, .unset, .unset, .unset, .unset, .unset, .unset, .unset, .unset, .unset, .unset] [(.int (255 : Int32)), (.int p1)])) _
    refine XS.iand X0.here hx rfl (hb hby at_19) rfl ?_
    show Steps p.tables e below (s₁.setTop (mkF m 20 #[.val (.int p1), .val (.int p2), .val (.int p3), .val (.int (own_irem (p3 &&& (3 : Int32)) (3 : Int32))), .val (.int (own_irem (((p3.toUInt32 >>> ((2 : Int32) &&& 31).toUInt32).toInt32) &&& (3 : Int32)) (3 : Int32))), .unset, .unset, .unset, .unset, .unset, .unset, .unset, .unset, .unset, .unset, .unset] [(.int (p1 &&& (255 : Int32)))])) _
    refine XS.i2c X0.here hx rfl (hb hby at_20) rfl ?_
    show Steps p.tables e below (s₁.setTop (mkF m 21 #[.val (.int p1), .val (.int p2), .val (.int p3), .val (.int (own_irem (p3 &&& (3 : Int32)) (3 : Int32))), .val (.int (own_irem (((p3.toUInt32 >>> ((2 : Int32) &&& 31).toUInt32).toInt32) &&& (3 : Int32)) (3 : Int32))), .unset, .unset, .unset, .unset, .unset, .unset, .unset, .unset, .unset, .unset, .unset] [(.int ((p1 &&& (255 : Int32)).toUInt32.toUInt16.toUInt32.toInt32))])) _
    refine XS.istore X0.here hx rfl (hb hby at_21) rfl (l' := #[.val (.int p1), .val (.int p2), .val (.int p3), .val (.int (own_irem (p3 &&& (3 : Int32)) (3 : Int32))), .val (.int (own_irem (((p3.toUInt32 >>> ((2 : Int32) &&& 31).toUInt32).toInt32) &&& (3 : Int32)) (3 : Int32))), .val (.int ((p1 &&& (255 : Int32)).toUInt32.toUInt16.toUInt32.toInt32)), .unset, .unset, .unset, .unset, .unset, .unset, .unset, .unset, .unset, .unset]) rfl ?_
    show Steps p.tables e below (s₁.setTop (mkF m 23 #[.val (.int p1), .val (.int p2), .val (.int p3), .val (.int (own_irem (p3 &&& (3 : Int32)) (3 : Int32))), .val (.int (own_irem (((p3.toUInt32 >>> ((2 : Int32) &&& 31).toUInt32).toInt32) &&& (3 : Int32)) (3 : Int32))), .val (.int ((p1 &&& (255 : Int32)).toUInt32.toUInt16.toUInt32.toInt32)), .unset, .unset, .unset, .unset, .unset, .unset, .unset, .unset, .unset, .unset] [])) _
    refine XS.iloadN X0.here hx rfl (hb hby at_23) rfl ?_
    show Steps p.tables e below (s₁.setTop (mkF m 24 #[.val (.int p1), .val (.int p2), .val (.int p3), .val (.int (own_irem (p3 &&& (3 : Int32)) (3 : Int32))), .val (.int (own_irem (((p3.toUInt32 >>> ((2 : Int32) &&& 31).toUInt32).toInt32) &&& (3 : Int32)) (3 : Int32))), .val (.int ((p1 &&& (255 : Int32)).toUInt32.toUInt16.toUInt32.toInt32)), .unset, .unset, .unset, .unset, .unset, .unset, .unset, .unset, .unset, .unset] [(.int p1)])) _
    refine XS.bipush X0.here hx rfl (hb hby at_24) ?_
    show Steps p.tables e below (s₁.setTop (mkF m 26 #[.val (.int p1), .val (.int p2), .val (.int p3), .val (.int (own_irem (p3 &&& (3 : Int32)) (3 : Int32))), .val (.int (own_irem (((p3.toUInt32 >>> ((2 : Int32) &&& 31).toUInt32).toInt32) &&& (3 : Int32)) (3 : Int32))), .val (.int ((p1 &&& (255 : Int32)).toUInt32.toUInt16.toUInt32.toInt32)), .unset, .unset, .unset, .unset, .unset, .unset, .unset, .unset, .unset, .unset] [(.int (8 : Int32)), (.int p1)])) _
    refine XS.iushr X0.here hx rfl (hb hby at_26) rfl ?_
    show Steps p.tables e below (s₁.setTop (mkF m 27 #[.val (.int p1), .val (.int p2), .val (.int p3), .val (.int (own_irem (p3 &&& (3 : Int32)) (3 : Int32))), .val (.int (own_irem (((p3.toUInt32 >>> ((2 : Int32) &&& 31).toUInt32).toInt32) &&& (3 : Int32)) (3 : Int32))), .val (.int ((p1 &&& (255 : Int32)).toUInt32.toUInt16.toUInt32.toInt32)), .unset, .unset, .unset, .unset, .unset, .unset, .unset, .unset, .unset, .unset] [(.int ((p1.toUInt32 >>> ((8 : Int32) &&& 31).toUInt32).toInt32))])) _
    refine XS.sipush X0.here hx rfl (hb hby at_27) ?_
    show Steps p.tables e below (s₁.setTop (mkF m 30 #[.val (.int p1), .val (.int p2), .val (.int p3), .val (.int (own_irem (p3 &&& (3 : Int32)) (3 : Int32))), .val (.int (own_irem (((p3.toUInt32 >>> ((2 : Int32) &&& 31).toUInt32).toInt32) &&& (3 : Int32)) (3 : Int32))), .val (.int ((p1 &&& (255 : Int32)).toUInt32.toUInt16.toUInt32.toInt32)), .unset, .unset, .unset, .unset, .unset, .unset, .unset, .unset, .unset, .unset] [(.int (255 : Int32)), (.int ((p1.toUInt32 >>> ((8 : Int32) &&& 31).toUInt32).toInt32))])) _
    refine XS.iand X0.here hx rfl (hb hby at_30) rfl ?_
    show Steps p.tables e below (s₁.setTop (mkF m 31 #[.val (.int p1), .val (.int p2), .val (.int p3), .val (.int (own_irem (p3 &&& (3 : Int32)) (3 : Int32))), .val (.int (own_irem (((p3.toUInt32 >>> ((2 : Int32) &&& 31).toUInt32).toInt32) &&& (3 : Int32)) (3 : Int32))), .val (.int ((p1 &&& (255 : Int32)).toUInt32.toUInt16.toUInt32.toInt32)), .unset, .unset, .unset, .unset, .unset, .unset, .unset, .unset, .unset, .unset] [(.int (((p1.toUInt32 >>> ((8 : Int32) &&& 31).toUInt32).toInt32) &&& (255 : Int32)))])) _
    refine XS.i2c X0.here hx rfl (hb hby at_31) rfl ?_
    show Steps p.tables e below (s₁.setTop (mkF m 32 #[.val (.int p1), .val (.int p2), .val (.int p3), .val (.int (own_irem (p3 &&& (3 : Int32)) (3 : Int32))), .val (.int (own_irem (((p3.toUInt32 >>> ((2 : Int32) &&& 31).toUInt32).toInt32) &&& (3 : Int32)) (3 : Int32))), .val (.int ((p1 &&& (255 : Int32)).toUInt32.toUInt16.toUInt32.toInt32)), .unset, .unset, .unset, .unset, .unset, .unset, .unset, .unset, .unset, .unset] [(.int ((((p1.toUInt32 >>> ((8 : Int32) &&& 31).toUInt32).toInt32) &&& (255 : Int32)).toUInt32.toUInt16.toUInt32.toInt32))])) _
    refine XS.istore X0.here hx rfl (hb hby at_32) rfl (l' := #[.val (.int p1), .val (.int p2), .val (.int p3), .val (.int (own_irem (p3 &&& (3 : Int32)) (3 : Int32))), .val (.int (own_irem (((p3.toUInt32 >>> ((2 : Int32) &&& 31).toUInt32).toInt32) &&& (3 : Int32)) (3 : Int32))), .val (.int ((p1 &&& (255 : Int32)).toUInt32.toUInt16.toUInt32.toInt32)), .val (.int ((((p1.toUInt32 >>> ((8 : Int32) &&& 31).toUInt32).toInt32) &&& (255 : Int32)).toUInt32.toUInt16.toUInt32.toInt32)), .unset, .unset, .unset, .unset, .unset, .unset, .unset, .unset, .unset]) rfl ?_
    show Steps p.tables e below (s₁.setTop (mkF m 34 #[.val (.int p1), .val (.int p2), .val (.int p3), .val (.int (own_irem (p3 &&& (3 : Int32)) (3 : Int32))), .val (.int (own_irem (((p3.toUInt32 >>> ((2 : Int32) &&& 31).toUInt32).toInt32) &&& (3 : Int32)) (3 : Int32))), .val (.int ((p1 &&& (255 : Int32)).toUInt32.toUInt16.toUInt32.toInt32)), .val (.int ((((p1.toUInt32 >>> ((8 : Int32) &&& 31).toUInt32).toInt32) &&& (255 : Int32)).toUInt32.toUInt16.toUInt32.toInt32)), .unset, .unset, .unset, .unset, .unset, .unset, .unset, .unset, .unset] [])) _
    refine XS.iloadN X0.here hx rfl (hb hby at_34) rfl ?_
    show Steps p.tables e below (s₁.setTop (mkF m 35 #[.val (.int p1), .val (.int p2), .val (.int p3), .val (.int (own_irem (p3 &&& (3 : Int32)) (3 : Int32))), .val (.int (own_irem (((p3.toUInt32 >>> ((2 : Int32) &&& 31).toUInt32).toInt32) &&& (3 : Int32)) (3 : Int32))), .val (.int ((p1 &&& (255 : Int32)).toUInt32.toUInt16.toUInt32.toInt32)), .val (.int ((((p1.toUInt32 >>> ((8 : Int32) &&& 31).toUInt32).toInt32) &&& (255 : Int32)).toUInt32.toUInt16.toUInt32.toInt32)), .unset, .unset, .unset, .unset, .unset, .unset, .unset, .unset, .unset] [(.int p2)])) _
    refine XS.sipush X0.here hx rfl (hb hby at_35) ?_
    show Steps p.tables e below (s₁.setTop (mkF m 38 #[.val (.int p1), .val (.int p2), .val (.int p3), .val (.int (own_irem (p3 &&& (3 : Int32)) (3 : Int32))), .val (.int (own_irem (((p3.toUInt32 >>> ((2 : Int32) &&& 31).toUInt32).toInt32) &&& (3 : Int32)) (3 : Int32))), .val (.int ((p1 &&& (255 : Int32)).toUInt32.toUInt16.toUInt32.toInt32)), .val (.int ((((p1.toUInt32 >>> ((8 : Int32) &&& 31).toUInt32).toInt32) &&& (255 : Int32)).toUInt32.toUInt16.toUInt32.toInt32)), .unset, .unset, .unset, .unset, .unset, .unset, .unset, .unset, .unset] [(.int (255 : Int32)), (.int p2)])) _
    refine XS.iand X0.here hx rfl (hb hby at_38) rfl ?_
    show Steps p.tables e below (s₁.setTop (mkF m 39 #[.val (.int p1), .val (.int p2), .val (.int p3), .val (.int (own_irem (p3 &&& (3 : Int32)) (3 : Int32))), .val (.int (own_irem (((p3.toUInt32 >>> ((2 : Int32) &&& 31).toUInt32).toInt32) &&& (3 : Int32)) (3 : Int32))), .val (.int ((p1 &&& (255 : Int32)).toUInt32.toUInt16.toUInt32.toInt32)), .val (.int ((((p1.toUInt32 >>> ((8 : Int32) &&& 31).toUInt32).toInt32) &&& (255 : Int32)).toUInt32.toUInt16.toUInt32.toInt32)), .unset, .unset, .unset, .unset, .unset, .unset, .unset, .unset, .unset] [(.int (p2 &&& (255 : Int32)))])) _
    refine XS.i2c X0.here hx rfl (hb hby at_39) rfl ?_
    show Steps p.tables e below (s₁.setTop (mkF m 40 #[.val (.int p1), .val (.int p2), .val (.int p3), .val (.int (own_irem (p3 &&& (3 : Int32)) (3 : Int32))), .val (.int (own_irem (((p3.toUInt32 >>> ((2 : Int32) &&& 31).toUInt32).toInt32) &&& (3 : Int32)) (3 : Int32))), .val (.int ((p1 &&& (255 : Int32)).toUInt32.toUInt16.toUInt32.toInt32)), .val (.int ((((p1.toUInt32 >>> ((8 : Int32) &&& 31).toUInt32).toInt32) &&& (255 : Int32)).toUInt32.toUInt16.toUInt32.toInt32)), .unset, .unset, .unset, .unset, .unset, .unset, .unset, .unset, .unset] [(.int ((p2 &&& (255 : Int32)).toUInt32.toUInt16.toUInt32.toInt32))])) _
    refine XS.istore X0.here hx rfl (hb hby at_40) rfl (l' := #[.val (.int p1), .val (.int p2), .val (.int p3), .val (.int (own_irem (p3 &&& (3 : Int32)) (3 : Int32))), .val (.int (own_irem (((p3.toUInt32 >>> ((2 : Int32) &&& 31).toUInt32).toInt32) &&& (3 : Int32)) (3 : Int32))), .val (.int ((p1 &&& (255 : Int32)).toUInt32.toUInt16.toUInt32.toInt32)), .val (.int ((((p1.toUInt32 >>> ((8 : Int32) &&& 31).toUInt32).toInt32) &&& (255 : Int32)).toUInt32.toUInt16.toUInt32.toInt32)), .val (.int ((p2 &&& (255 : Int32)).toUInt32.toUInt16.toUInt32.toInt32)), .unset, .unset, .unset, .unset, .unset, .unset, .unset, .unset]) rfl ?_
    show Steps p.tables e below (s₁.setTop (mkF m 42 #[.val (.int p1), .val (.int p2), .val (.int p3), .val (.int (own_irem (p3 &&& (3 : Int32)) (3 : Int32))), .val (.int (own_irem (((p3.toUInt32 >>> ((2 : Int32) &&& 31).toUInt32).toInt32) &&& (3 : Int32)) (3 : Int32))), .val (.int ((p1 &&& (255 : Int32)).toUInt32.toUInt16.toUInt32.toInt32)), .val (.int ((((p1.toUInt32 >>> ((8 : Int32) &&& 31).toUInt32).toInt32) &&& (255 : Int32)).toUInt32.toUInt16.toUInt32.toInt32)), .val (.int ((p2 &&& (255 : Int32)).toUInt32.toUInt16.toUInt32.toInt32)), .unset, .unset, .unset, .unset, .unset, .unset, .unset, .unset] [])) _
    refine XS.iloadN X0.here hx rfl (hb hby at_42) rfl ?_
    show Steps p.tables e below (s₁.setTop (mkF m 43 #[.val (.int p1), .val (.int p2), .val (.int p3), .val (.int (own_irem (p3 &&& (3 : Int32)) (3 : Int32))), .val (.int (own_irem (((p3.toUInt32 >>> ((2 : Int32) &&& 31).toUInt32).toInt32) &&& (3 : Int32)) (3 : Int32))), .val (.int ((p1 &&& (255 : Int32)).toUInt32.toUInt16.toUInt32.toInt32)), .val (.int ((((p1.toUInt32 >>> ((8 : Int32) &&& 31).toUInt32).toInt32) &&& (255 : Int32)).toUInt32.toUInt16.toUInt32.toInt32)), .val (.int ((p2 &&& (255 : Int32)).toUInt32.toUInt16.toUInt32.toInt32)), .unset, .unset, .unset, .unset, .unset, .unset, .unset, .unset] [(.int p2)])) _
    refine XS.bipush X0.here hx rfl (hb hby at_43) ?_
    show Steps p.tables e below (s₁.setTop (mkF m 45 #[.val (.int p1), .val (.int p2), .val (.int p3), .val (.int (own_irem (p3 &&& (3 : Int32)) (3 : Int32))), .val (.int (own_irem (((p3.toUInt32 >>> ((2 : Int32) &&& 31).toUInt32).toInt32) &&& (3 : Int32)) (3 : Int32))), .val (.int ((p1 &&& (255 : Int32)).toUInt32.toUInt16.toUInt32.toInt32)), .val (.int ((((p1.toUInt32 >>> ((8 : Int32) &&& 31).toUInt32).toInt32) &&& (255 : Int32)).toUInt32.toUInt16.toUInt32.toInt32)), .val (.int ((p2 &&& (255 : Int32)).toUInt32.toUInt16.toUInt32.toInt32)), .unset, .unset, .unset, .unset, .unset, .unset, .unset, .unset] [(.int (8 : Int32)), (.int p2)])) _
    refine XS.iushr X0.here hx rfl (hb hby at_45) rfl ?_
    show Steps p.tables e below (s₁.setTop (mkF m 46 #[.val (.int p1), .val (.int p2), .val (.int p3), .val (.int (own_irem (p3 &&& (3 : Int32)) (3 : Int32))), .val (.int (own_irem (((p3.toUInt32 >>> ((2 : Int32) &&& 31).toUInt32).toInt32) &&& (3 : Int32)) (3 : Int32))), .val (.int ((p1 &&& (255 : Int32)).toUInt32.toUInt16.toUInt32.toInt32)), .val (.int ((((p1.toUInt32 >>> ((8 : Int32) &&& 31).toUInt32).toInt32) &&& (255 : Int32)).toUInt32.toUInt16.toUInt32.toInt32)), .val (.int ((p2 &&& (255 : Int32)).toUInt32.toUInt16.toUInt32.toInt32)), .unset, .unset, .unset, .unset, .unset, .unset, .unset, .unset] [(.int ((p2.toUInt32 >>> ((8 : Int32) &&& 31).toUInt32).toInt32))])) _
    refine XS.sipush X0.here hx rfl (hb hby at_46) ?_
    show Steps p.tables e below (s₁.setTop (mkF m 49 #[.val (.int p1), .val (.int p2), .val (.int p3), .val (.int (own_irem (p3 &&& (3 : Int32)) (3 : Int32))), .val (.int (own_irem (((p3.toUInt32 >>> ((2 : Int32) &&& 31).toUInt32).toInt32) &&& (3 : Int32)) (3 : Int32))), .val (.int ((p1 &&& (255 : Int32)).toUInt32.toUInt16.toUInt32.toInt32)), .val (.int ((((p1.toUInt32 >>> ((8 : Int32) &&& 31).toUInt32).toInt32) &&& (255 : Int32)).toUInt32.toUInt16.toUInt32.toInt32)), .val (.int ((p2 &&& (255 : Int32)).toUInt32.toUInt16.toUInt32.toInt32)), .unset, .unset, .unset, .unset, .unset, .unset, .unset, .unset] [(.int (255 : Int32)), (.int ((p2.toUInt32 >>> ((8 : Int32) &&& 31).toUInt32).toInt32))])) _
    refine XS.iand X0.here hx rfl (hb hby at_49) rfl ?_
    show Steps p.tables e below (s₁.setTop (mkF m 50 #[.val (.int p1), .val (.int p2), .val (.int p3), .val (.int (own_irem (p3 &&& (3 : Int32)) (3 : Int32))), .val (.int (own_irem (((p3.toUInt32 >>> ((2 : Int32) &&& 31).toUInt32).toInt32) &&& (3 : Int32)) (3 : Int32))), .val (.int ((p1 &&& (255 : Int32)).toUInt32.toUInt16.toUInt32.toInt32)), .val (.int ((((p1.toUInt32 >>> ((8 : Int32) &&& 31).toUInt32).toInt32) &&& (255 : Int32)).toUInt32.toUInt16.toUInt32.toInt32)), .val (.int ((p2 &&& (255 : Int32)).toUInt32.toUInt16.toUInt32.toInt32)), .unset, .unset, .unset, .unset, .unset, .unset, .unset, .unset] [(.int (((p2.toUInt32 >>> ((8 : Int32) &&& 31).toUInt32).toInt32) &&& (255 : Int32)))])) _
    refine XS.i2c X0.here hx rfl (hb hby at_50) rfl ?_
    show Steps p.tables e below (s₁.setTop (mkF m 51 #[.val (.int p1), .val (.int p2), .val (.int p3), .val (.int (own_irem (p3 &&& (3 : Int32)) (3 : Int32))), .val (.int (own_irem (((p3.toUInt32 >>> ((2 : Int32) &&& 31).toUInt32).toInt32) &&& (3 : Int32)) (3 : Int32))), .val (.int ((p1 &&& (255 : Int32)).toUInt32.toUInt16.toUInt32.toInt32)), .val (.int ((((p1.toUInt32 >>> ((8 : Int32) &&& 31).toUInt32).toInt32) &&& (255 : Int32)).toUInt32.toUInt16.toUInt32.toInt32)), .val (.int ((p2 &&& (255 : Int32)).toUInt32.toUInt16.toUInt32.toInt32)), .unset, .unset, .unset, .unset, .unset, .unset, .unset, .unset] [(.int ((((p2.toUInt32 >>> ((8 : Int32) &&& 31).toUInt32).toInt32) &&& (255 : Int32)).toUInt32.toUInt16.toUInt32.toInt32))])) _
    refine XS.istore X0.here hx rfl (hb hby at_51) rfl (l' := #[.val (.int p1), .val (.int p2), .val (.int p3), .val (.int (own_irem (p3 &&& (3 : Int32)) (3 : Int32))), .val (.int (own_irem (((p3.toUInt32 >>> ((2 : Int32) &&& 31).toUInt32).toInt32) &&& (3 : Int32)) (3 : Int32))), .val (.int ((p1 &&& (255 : Int32)).toUInt32.toUInt16.toUInt32.toInt32)), .val (.int ((((p1.toUInt32 >>> ((8 : Int32) &&& 31).toUInt32).toInt32) &&& (255 : Int32)).toUInt32.toUInt16.toUInt32.toInt32)), .val (.int ((p2 &&& (255 : Int32)).toUInt32.toUInt16.toUInt32.toInt32)), .val (.int ((((p2.toUInt32 >>> ((8 : Int32) &&& 31).toUInt32).toInt32) &&& (255 : Int32)).toUInt32.toUInt16.toUInt32.toInt32)), .unset, .unset, .unset, .unset, .unset, .unset, .unset]) rfl ?_
    show Steps p.tables e below (s₁.setTop (mkF m 53 #[.val (.int p1), .val (.int p2), .val (.int p3), .val (.int (own_irem (p3 &&& (3 : Int32)) (3 : Int32))), .val (.int (own_irem (((p3.toUInt32 >>> ((2 : Int32) &&& 31).toUInt32).toInt32) &&& (3 : Int32)) (3 : Int32))), .val (.int ((p1 &&& (255 : Int32)).toUInt32.toUInt16.toUInt32.toInt32)), .val (.int ((((p1.toUInt32 >>> ((8 : Int32) &&& 31).toUInt32).toInt32) &&& (255 : Int32)).toUInt32.toUInt16.toUInt32.toInt32)), .val (.int ((p2 &&& (255 : Int32)).toUInt32.toUInt16.toUInt32.toInt32)), .val (.int ((((p2.toUInt32 >>> ((8 : Int32) &&& 31).toUInt32).toInt32) &&& (255 : Int32)).toUInt32.toUInt16.toUInt32.toInt32)), .unset, .unset, .unset, .unset, .unset, .unset, .unset] [])) _
    refine XS.iloadN X0.here hx rfl (hb hby at_53) rfl ?_
    show Steps p.tables e below (s₁.setTop (mkF m 54 #[.val (.int p1), .val (.int p2), .val (.int p3), .val (.int (own_irem (p3 &&& (3 : Int32)) (3 : Int32))), .val (.int (own_irem (((p3.toUInt32 >>> ((2 : Int32) &&& 31).toUInt32).toInt32) &&& (3 : Int32)) (3 : Int32))), .val (.int ((p1 &&& (255 : Int32)).toUInt32.toUInt16.toUInt32.toInt32)), .val (.int ((((p1.toUInt32 >>> ((8 : Int32) &&& 31).toUInt32).toInt32) &&& (255 : Int32)).toUInt32.toUInt16.toUInt32.toInt32)), .val (.int ((p2 &&& (255 : Int32)).toUInt32.toUInt16.toUInt32.toInt32)), .val (.int ((((p2.toUInt32 >>> ((8 : Int32) &&& 31).toUInt32).toInt32) &&& (255 : Int32)).toUInt32.toUInt16.toUInt32.toInt32)), .unset, .unset, .unset, .unset, .unset, .unset, .unset] [(.int (own_irem (p3 &&& (3 : Int32)) (3 : Int32)))])) _
    refine XS.iload X0.here hx rfl (hb hby at_54) rfl ?_
    show Steps p.tables e below (s₁.setTop (mkF m 56 #[.val (.int p1), .val (.int p2), .val (.int p3), .val (.int (own_irem (p3 &&& (3 : Int32)) (3 : Int32))), .val (.int (own_irem (((p3.toUInt32 >>> ((2 : Int32) &&& 31).toUInt32).toInt32) &&& (3 : Int32)) (3 : Int32))), .val (.int ((p1 &&& (255 : Int32)).toUInt32.toUInt16.toUInt32.toInt32)), .val (.int ((((p1.toUInt32 >>> ((8 : Int32) &&& 31).toUInt32).toInt32) &&& (255 : Int32)).toUInt32.toUInt16.toUInt32.toInt32)), .val (.int ((p2 &&& (255 : Int32)).toUInt32.toUInt16.toUInt32.toInt32)), .val (.int ((((p2.toUInt32 >>> ((8 : Int32) &&& 31).toUInt32).toInt32) &&& (255 : Int32)).toUInt32.toUInt16.toUInt32.toInt32)), .unset, .unset, .unset, .unset, .unset, .unset, .unset] [(.int ((p1 &&& (255 : Int32)).toUInt32.toUInt16.toUInt32.toInt32)), (.int (own_irem (p3 &&& (3 : Int32)) (3 : Int32)))])) _
    refine XS.iload X0.here hx rfl (hb hby at_56) rfl ?_
    show Steps p.tables e below (s₁.setTop (mkF m 58 #[.val (.int p1), .val (.int p2), .val (.int p3), .val (.int (own_irem (p3 &&& (3 : Int32)) (3 : Int32))), .val (.int (own_irem (((p3.toUInt32 >>> ((2 : Int32) &&& 31).toUInt32).toInt32) &&& (3 : Int32)) (3 : Int32))), .val (.int ((p1 &&& (255 : Int32)).toUInt32.toUInt16.toUInt32.toInt32)), .val (.int ((((p1.toUInt32 >>> ((8 : Int32) &&& 31).toUInt32).toInt32) &&& (255 : Int32)).toUInt32.toUInt16.toUInt32.toInt32)), .val (.int ((p2 &&& (255 : Int32)).toUInt32.toUInt16.toUInt32.toInt32)), .val (.int ((((p2.toUInt32 >>> ((8 : Int32) &&& 31).toUInt32).toInt32) &&& (255 : Int32)).toUInt32.toUInt16.toUInt32.toInt32)), .unset, .unset, .unset, .unset, .unset, .unset, .unset] [(.int ((((p1.toUInt32 >>> ((8 : Int32) &&& 31).toUInt32).toInt32) &&& (255 : Int32)).toUInt32.toUInt16.toUInt32.toInt32)), (.int ((p1 &&& (255 : Int32)).toUInt32.toUInt16.toUInt32.toInt32)), (.int (own_irem (p3 &&& (3 : Int32)) (3 : Int32)))])) _
    refine st4.trans ?_
    show Steps p.tables e below (T4.setTop (mkF m 61 #[.val (.int p1), .val (.int p2), .val (.int p3), .val (.int (own_irem (p3 &&& (3 : Int32)) (3 : Int32))), .val (.int (own_irem (((p3.toUInt32 >>> ((2 : Int32) &&& 31).toUInt32).toInt32) &&& (3 : Int32)) (3 : Int32))), .val (.int ((p1 &&& (255 : Int32)).toUInt32.toUInt16.toUInt32.toInt32)), .val (.int ((((p1.toUInt32 >>> ((8 : Int32) &&& 31).toUInt32).toInt32) &&& (255 : Int32)).toUInt32.toUInt16.toUInt32.toInt32)), .val (.int ((p2 &&& (255 : Int32)).toUInt32.toUInt16.toUInt32.toInt32)), .val (.int ((((p2.toUInt32 >>> ((8 : Int32) &&& 31).toUInt32).toInt32) &&& (255 : Int32)).toUInt32.toUInt16.toUInt32.toInt32)), .unset, .unset, .unset, .unset, .unset, .unset, .unset] [(.ref a4)])) _
    refine XS.astore X4.here hx rfl (hb hby at_61) rfl rfl (l' := #[.val (.int p1), .val (.int p2), .val (.int p3), .val (.int (own_irem (p3 &&& (3 : Int32)) (3 : Int32))), .val (.int (own_irem (((p3.toUInt32 >>> ((2 : Int32) &&& 31).toUInt32).toInt32) &&& (3 : Int32)) (3 : Int32))), .val (.int ((p1 &&& (255 : Int32)).toUInt32.toUInt16.toUInt32.toInt32)), .val (.int ((((p1.toUInt32 >>> ((8 : Int32) &&& 31).toUInt32).toInt32) &&& (255 : Int32)).toUInt32.toUInt16.toUInt32.toInt32)), .val (.int ((p2 &&& (255 : Int32)).toUInt32.toUInt16.toUInt32.toInt32)), .val (.int ((((p2.toUInt32 >>> ((8 : Int32) &&& 31).toUInt32).toInt32) &&& (255 : Int32)).toUInt32.toUInt16.toUInt32.toInt32)), .val (.ref a4), .unset, .unset, .unset, .unset, .unset, .unset]) rfl ?_
    show Steps p.tables e below (T4.setTop (mkF m 63 #[.val (.int p1), .val (.int p2), .val (.int p3), .val (.int (own_irem (p3 &&& (3 : Int32)) (3 : Int32))), .val (.int (own_irem (((p3.toUInt32 >>> ((2 : Int32) &&& 31).toUInt32).toInt32) &&& (3 : Int32)) (3 : Int32))), .val (.int ((p1 &&& (255 : Int32)).toUInt32.toUInt16.toUInt32.toInt32)), .val (.int ((((p1.toUInt32 >>> ((8 : Int32) &&& 31).toUInt32).toInt32) &&& (255 : Int32)).toUInt32.toUInt16.toUInt32.toInt32)), .val (.int ((p2 &&& (255 : Int32)).toUInt32.toUInt16.toUInt32.toInt32)), .val (.int ((((p2.toUInt32 >>> ((8 : Int32) &&& 31).toUInt32).toInt32) &&& (255 : Int32)).toUInt32.toUInt16.toUInt32.toInt32)), .val (.ref a4), .unset, .unset, .unset, .unset, .unset, .unset] [])) _
    refine XS.iload X4.here hx rfl (hb hby at_63) rfl ?_
    show Steps p.tables e below (T4.setTop (mkF m 65 #[.val (.int p1), .val (.int p2), .val (.int p3), .val (.int (own_irem (p3 &&& (3 : Int32)) (3 : Int32))), .val (.int (own_irem (((p3.toUInt32 >>> ((2 : Int32) &&& 31).toUInt32).toInt32) &&& (3 : Int32)) (3 : Int32))), .val (.int ((p1 &&& (255 : Int32)).toUInt32.toUInt16.toUInt32.toInt32)), .val (.int ((((p1.toUInt32 >>> ((8 : Int32) &&& 31).toUInt32).toInt32) &&& (255 : Int32)).toUInt32.toUInt16.toUInt32.toInt32)), .val (.int ((p2 &&& (255 : Int32)).toUInt32.toUInt16.toUInt32.toInt32)), .val (.int ((((p2.toUInt32 >>> ((8 : Int32) &&& 31).toUInt32).toInt32) &&& (255 : Int32)).toUInt32.toUInt16.toUInt32.toInt32)), .val (.ref a4), .unset, .unset, .unset, .unset, .unset, .unset] [(.int (own_irem (((p3.toUInt32 >>> ((2 : Int32) &&& 31).toUInt32).toInt32) &&& (3 : Int32)) (3 : Int32)))])) _
    refine XS.iload X4.here hx rfl (hb hby at_65) rfl ?_
    show Steps p.tables e below (T4.setTop (mkF m 67 #[.val (.int p1), .val (.int p2), .val (.int p3), .val (.int (own_irem (p3 &&& (3 : Int32)) (3 : Int32))), .val (.int (own_irem (((p3.toUInt32 >>> ((2 : Int32) &&& 31).toUInt32).toInt32) &&& (3 : Int32)) (3 : Int32))), .val (.int ((p1 &&& (255 : Int32)).toUInt32.toUInt16.toUInt32.toInt32)), .val (.int ((((p1.toUInt32 >>> ((8 : Int32) &&& 31).toUInt32).toInt32) &&& (255 : Int32)).toUInt32.toUInt16.toUInt32.toInt32)), .val (.int ((p2 &&& (255 : Int32)).toUInt32.toUInt16.toUInt32.toInt32)), .val (.int ((((p2.toUInt32 >>> ((8 : Int32) &&& 31).toUInt32).toInt32) &&& (255 : Int32)).toUInt32.toUInt16.toUInt32.toInt32)), .val (.ref a4), .unset, .unset, .unset, .unset, .unset, .unset] [(.int ((p2 &&& (255 : Int32)).toUInt32.toUInt16.toUInt32.toInt32)), (.int (own_irem (((p3.toUInt32 >>> ((2 : Int32) &&& 31).toUInt32).toInt32) &&& (3 : Int32)) (3 : Int32)))])) _
    refine XS.iload X4.here hx rfl (hb hby at_67) rfl ?_
    show Steps p.tables e below (T4.setTop (mkF m 69 #[.val (.int p1), .val (.int p2), .val (.int p3), .val (.int (own_irem (p3 &&& (3 : Int32)) (3 : Int32))), .val (.int (own_irem (((p3.toUInt32 >>> ((2 : Int32) &&& 31).toUInt32).toInt32) &&& (3 : Int32)) (3 : Int32))), .val (.int ((p1 &&& (255 : Int32)).toUInt32.toUInt16.toUInt32.toInt32)), .val (.int ((((p1.toUInt32 >>> ((8 : Int32) &&& 31).toUInt32).toInt32) &&& (255 : Int32)).toUInt32.toUInt16.toUInt32.toInt32)), .val (.int ((p2 &&& (255 : Int32)).toUInt32.toUInt16.toUInt32.toInt32)), .val (.int ((((p2.toUInt32 >>> ((8 : Int32) &&& 31).toUInt32).toInt32) &&& (255 : Int32)).toUInt32.toUInt16.toUInt32.toInt32)), .val (.ref a4), .unset, .unset, .unset, .unset, .unset, .unset] [(.int ((((p2.toUInt32 >>> ((8 : Int32) &&& 31).toUInt32).toInt32) &&& (255 : Int32)).toUInt32.toUInt16.toUInt32.toInt32)), (.int ((p2 &&& (255 : Int32)).toUInt32.toUInt16.toUInt32.toInt32)), (.int (own_irem (((p3.toUInt32 >>> ((2 : Int32) &&& 31).toUInt32).toInt32) &&& (3 : Int32)) (3 : Int32)))])) _
    refine st5.trans ?_
    show Steps p.tables e below (T5.setTop (mkF m 72 #[.val (.int p1), .val (.int p2), .val (.int p3), .val (.int (own_irem (p3 &&& (3 : Int32)) (3 : Int32))), .val (.int (own_irem (((p3.toUInt32 >>> ((2 : Int32) &&& 31).toUInt32).toInt32) &&& (3 : Int32)) (3 : Int32))), .val (.int ((p1 &&& (255 : Int32)).toUInt32.toUInt16.toUInt32.toInt32)), .val (.int ((((p1.toUInt32 >>> ((8 : Int32) &&& 31).toUInt32).toInt32) &&& (255 : Int32)).toUInt32.toUInt16.toUInt32.toInt32)), .val (.int ((p2 &&& (255 : Int32)).toUInt32.toUInt16.toUInt32.toInt32)), .val (.int ((((p2.toUInt32 >>> ((8 : Int32) &&& 31).toUInt32).toInt32) &&& (255 : Int32)).toUInt32.toUInt16.toUInt32.toInt32)), .val (.ref a4), .unset, .unset, .unset, .unset, .unset, .unset] [(.ref a5)])) _
    refine XS.astore X5.here hx rfl (hb hby at_72) rfl rfl (l' := #[.val (.int p1), .val (.int p2), .val (.int p3), .val (.int (own_irem (p3 &&& (3 : Int32)) (3 : Int32))), .val (.int (own_irem (((p3.toUInt32 >>> ((2 : Int32) &&& 31).toUInt32).toInt32) &&& (3 : Int32)) (3 : Int32))), .val (.int ((p1 &&& (255 : Int32)).toUInt32.toUInt16.toUInt32.toInt32)), .val (.int ((((p1.toUInt32 >>> ((8 : Int32) &&& 31).toUInt32).toInt32) &&& (255 : Int32)).toUInt32.toUInt16.toUInt32.toInt32)), .val (.int ((p2 &&& (255 : Int32)).toUInt32.toUInt16.toUInt32.toInt32)), .val (.int ((((p2.toUInt32 >>> ((8 : Int32) &&& 31).toUInt32).toInt32) &&& (255 : Int32)).toUInt32.toUInt16.toUInt32.toInt32)), .val (.ref a4), .val (.ref a5), .unset, .unset, .unset, .unset, .unset]) rfl ?_
    show Steps p.tables e below (T5.setTop (mkF m 74 #[.val (.int p1), .val (.int p2), .val (.int p3), .val (.int (own_irem (p3 &&& (3 : Int32)) (3 : Int32))), .val (.int (own_irem (((p3.toUInt32 >>> ((2 : Int32) &&& 31).toUInt32).toInt32) &&& (3 : Int32)) (3 : Int32))), .val (.int ((p1 &&& (255 : Int32)).toUInt32.toUInt16.toUInt32.toInt32)), .val (.int ((((p1.toUInt32 >>> ((8 : Int32) &&& 31).toUInt32).toInt32) &&& (255 : Int32)).toUInt32.toUInt16.toUInt32.toInt32)), .val (.int ((p2 &&& (255 : Int32)).toUInt32.toUInt16.toUInt32.toInt32)), .val (.int ((((p2.toUInt32 >>> ((8 : Int32) &&& 31).toUInt32).toInt32) &&& (255 : Int32)).toUInt32.toUInt16.toUInt32.toInt32)), .val (.ref a4), .val (.ref a5), .unset, .unset, .unset, .unset, .unset] [])) _
    refine XS.aload X5.here hx rfl (hb hby at_74) rfl rfl ?_
    show Steps p.tables e below (T5.setTop (mkF m 76 #[.val (.int p1), .val (.int p2), .val (.int p3), .val (.int (own_irem (p3 &&& (3 : Int32)) (3 : Int32))), .val (.int (own_irem (((p3.toUInt32 >>> ((2 : Int32) &&& 31).toUInt32).toInt32) &&& (3 : Int32)) (3 : Int32))), .val (.int ((p1 &&& (255 : Int32)).toUInt32.toUInt16.toUInt32.toInt32)), .val (.int ((((p1.toUInt32 >>> ((8 : Int32) &&& 31).toUInt32).toInt32) &&& (255 : Int32)).toUInt32.toUInt16.toUInt32.toInt32)), .val (.int ((p2 &&& (255 : Int32)).toUInt32.toUInt16.toUInt32.toInt32)), .val (.int ((((p2.toUInt32 >>> ((8 : Int32) &&& 31).toUInt32).toInt32) &&& (255 : Int32)).toUInt32.toUInt16.toUInt32.toInt32)), .val (.ref a4), .val (.ref a5), .unset, .unset, .unset, .unset, .unset] [(.ref a4)])) _
    refine XS.aload X5.here hx rfl (hb hby at_76) rfl rfl ?_
    show Steps p.tables e below (T5.setTop (mkF m 78 #[.val (.int p1), .val (.int p2), .val (.int p3), .val (.int (own_irem (p3 &&& (3 : Int32)) (3 : Int32))), .val (.int (own_irem (((p3.toUInt32 >>> ((2 : Int32) &&& 31).toUInt32).toInt32) &&& (3 : Int32)) (3 : Int32))), .val (.int ((p1 &&& (255 : Int32)).toUInt32.toUInt16.toUInt32.toInt32)), .val (.int ((((p1.toUInt32 >>> ((8 : Int32) &&& 31).toUInt32).toInt32) &&& (255 : Int32)).toUInt32.toUInt16.toUInt32.toInt32)), .val (.int ((p2 &&& (255 : Int32)).toUInt32.toUInt16.toUInt32.toInt32)), .val (.int ((((p2.toUInt32 >>> ((8 : Int32) &&& 31).toUInt32).toInt32) &&& (255 : Int32)).toUInt32.toUInt16.toUInt32.toInt32)), .val (.ref a4), .val (.ref a5), .unset, .unset, .unset, .unset, .unset] [(.ref a5), (.ref a4)])) _
    refine st6.trans ?_
    show Steps p.tables e below (T6.setTop (mkF m 81 #[.val (.int p1), .val (.int p2), .val (.int p3), .val (.int (own_irem (p3 &&& (3 : Int32)) (3 : Int32))), .val (.int (own_irem (((p3.toUInt32 >>> ((2 : Int32) &&& 31).toUInt32).toInt32) &&& (3 : Int32)) (3 : Int32))), .val (.int ((p1 &&& (255 : Int32)).toUInt32.toUInt16.toUInt32.toInt32)), .val (.int ((((p1.toUInt32 >>> ((8 : Int32) &&& 31).toUInt32).toInt32) &&& (255 : Int32)).toUInt32.toUInt16.toUInt32.toInt32)), .val (.int ((p2 &&& (255 : Int32)).toUInt32.toUInt16.toUInt32.toInt32)), .val (.int ((((p2.toUInt32 >>> ((8 : Int32) &&& 31).toUInt32).toInt32) &&& (255 : Int32)).toUInt32.toUInt16.toUInt32.toInt32)), .val (.ref a4), .val (.ref a5), .unset, .unset, .unset, .unset, .unset] [(.ref r6)])) _
    refine XS.astore X6.here hx rfl (hb hby at_81) rfl rfl (l' := #[.val (.int p1), .val (.int p2), .val (.int p3), .val (.int (own_irem (p3 &&& (3 : Int32)) (3 : Int32))), .val (.int (own_irem (((p3.toUInt32 >>> ((2 : Int32) &&& 31).toUInt32).toInt32) &&& (3 : Int32)) (3 : Int32))), .val (.int ((p1 &&& (255 : Int32)).toUInt32.toUInt16.toUInt32.toInt32)), .val (.int ((((p1.toUInt32 >>> ((8 : Int32) &&& 31).toUInt32).toInt32) &&& (255 : Int32)).toUInt32.toUInt16.toUInt32.toInt32)), .val (.int ((p2 &&& (255 : Int32)).toUInt32.toUInt16.toUInt32.toInt32)), .val (.int ((((p2.toUInt32 >>> ((8 : Int32) &&& 31).toUInt32).toInt32) &&& (255 : Int32)).toUInt32.toUInt16.toUInt32.toInt32)), .val (.ref a4), .val (.ref a5), .val (.ref r6), .unset, .unset, .unset, .unset]) rfl ?_
    show Steps p.tables e below (T6.setTop (mkF m 83 #[.val (.int p1), .val (.int p2), .val (.int p3), .val (.int (own_irem (p3 &&& (3 : Int32)) (3 : Int32))), .val (.int (own_irem (((p3.toUInt32 >>> ((2 : Int32) &&& 31).toUInt32).toInt32) &&& (3 : Int32)) (3 : Int32))), .val (.int ((p1 &&& (255 : Int32)).toUInt32.toUInt16.toUInt32.toInt32)), .val (.int ((((p1.toUInt32 >>> ((8 : Int32) &&& 31).toUInt32).toInt32) &&& (255 : Int32)).toUInt32.toUInt16.toUInt32.toInt32)), .val (.int ((p2 &&& (255 : Int32)).toUInt32.toUInt16.toUInt32.toInt32)), .val (.int ((((p2.toUInt32 >>> ((8 : Int32) &&& 31).toUInt32).toInt32) &&& (255 : Int32)).toUInt32.toUInt16.toUInt32.toInt32)), .val (.ref a4), .val (.ref a5), .val (.ref r6), .unset, .unset, .unset, .unset] [])) _
    refine XS.aload X6.here hx rfl (hb hby at_83) rfl rfl ?_
    show Steps p.tables e below (T6.setTop (mkF m 85 #[.val (.int p1), .val (.int p2), .val (.int p3), .val (.int (own_irem (p3 &&& (3 : Int32)) (3 : Int32))), .val (.int (own_irem (((p3.toUInt32 >>> ((2 : Int32) &&& 31).toUInt32).toInt32) &&& (3 : Int32)) (3 : Int32))), .val (.int ((p1 &&& (255 : Int32)).toUInt32.toUInt16.toUInt32.toInt32)), .val (.int ((((p1.toUInt32 >>> ((8 : Int32) &&& 31).toUInt32).toInt32) &&& (255 : Int32)).toUInt32.toUInt16.toUInt32.toInt32)), .val (.int ((p2 &&& (255 : Int32)).toUInt32.toUInt16.toUInt32.toInt32)), .val (.int ((((p2.toUInt32 >>> ((8 : Int32) &&& 31).toUInt32).toInt32) &&& (255 : Int32)).toUInt32.toUInt16.toUInt32.toInt32)), .val (.ref a4), .val (.ref a5), .val (.ref r6), .unset, .unset, .unset, .unset] [(.ref r6)])) _
    refine XS.ifnonnullYes X6.here hx rfl (pc0 := 85) (pc' := 90) rfl (hb hby at_85) rfl (by decide) (by decide) ?_
    show Steps p.tables e below (T6.setTop (mkF m 90 #[.val (.int p1), .val (.int p2), .val (.int p3), .val (.int (own_irem (p3 &&& (3 : Int32)) (3 : Int32))), .val (.int (own_irem (((p3.toUInt32 >>> ((2 : Int32) &&& 31).toUInt32).toInt32) &&& (3 : Int32)) (3 : Int32))), .val (.int ((p1 &&& (255 : Int32)).toUInt32.toUInt16.toUInt32.toInt32)), .val (.int ((((p1.toUInt32 >>> ((8 : Int32) &&& 31).toUInt32).toInt32) &&& (255 : Int32)).toUInt32.toUInt16.toUInt32.toInt32)), .val (.int ((p2 &&& (255 : Int32)).toUInt32.toUInt16.toUInt32.toInt32)), .val (.int ((((p2.toUInt32 >>> ((8 : Int32) &&& 31).toUInt32).toInt32) &&& (255 : Int32)).toUInt32.toUInt16.toUInt32.toInt32)), .val (.ref a4), .val (.ref a5), .val (.ref r6), .unset, .unset, .unset, .unset] [])) _
    refine XS.aload X6.here hx rfl (hb hby at_90) rfl rfl ?_
    show Steps p.tables e below (T6.setTop (mkF m 92 #[.val (.int p1), .val (.int p2), .val (.int p3), .val (.int (own_irem (p3 &&& (3 : Int32)) (3 : Int32))), .val (.int (own_irem (((p3.toUInt32 >>> ((2 : Int32) &&& 31).toUInt32).toInt32) &&& (3 : Int32)) (3 : Int32))), .val (.int ((p1 &&& (255 : Int32)).toUInt32.toUInt16.toUInt32.toInt32)), .val (.int ((((p1.toUInt32 >>> ((8 : Int32) &&& 31).toUInt32).toInt32) &&& (255 : Int32)).toUInt32.toUInt16.toUInt32.toInt32)), .val (.int ((p2 &&& (255 : Int32)).toUInt32.toUInt16.toUInt32.toInt32)), .val (.int ((((p2.toUInt32 >>> ((8 : Int32) &&& 31).toUInt32).toInt32) &&& (255 : Int32)).toUInt32.toUInt16.toUInt32.toInt32)), .val (.ref a4), .val (.ref a5), .val (.ref r6), .unset, .unset, .unset, .unset] [(.ref r6)])) _
    refine st7.trans ?_
    show Steps p.tables e below (T7.setTop (mkF m 95 #[.val (.int p1), .val (.int p2), .val (.int p3), .val (.int (own_irem (p3 &&& (3 : Int32)) (3 : Int32))), .val (.int (own_irem (((p3.toUInt32 >>> ((2 : Int32) &&& 31).toUInt32).toInt32) &&& (3 : Int32)) (3 : Int32))), .val (.int ((p1 &&& (255 : Int32)).toUInt32.toUInt16.toUInt32.toInt32)), .val (.int ((((p1.toUInt32 >>> ((8 : Int32) &&& 31).toUInt32).toInt32) &&& (255 : Int32)).toUInt32.toUInt16.toUInt32.toInt32)), .val (.int ((p2 &&& (255 : Int32)).toUInt32.toUInt16.toUInt32.toInt32)), .val (.int ((((p2.toUInt32 >>> ((8 : Int32) &&& 31).toUInt32).toInt32) &&& (255 : Int32)).toUInt32.toUInt16.toUInt32.toInt32)), .val (.ref a4), .val (.ref a5), .val (.ref r6), .unset, .unset, .unset, .unset] [(.int (64 : Int32))])) _
    refine XS.bipush X7.here hx rfl (hb hby at_95) ?_
    show Steps p.tables e below (T7.setTop (mkF m 97 #[.val (.int p1), .val (.int p2), .val (.int p3), .val (.int (own_irem (p3 &&& (3 : Int32)) (3 : Int32))), .val (.int (own_irem (((p3.toUInt32 >>> ((2 : Int32) &&& 31).toUInt32).toInt32) &&& (3 : Int32)) (3 : Int32))), .val (.int ((p1 &&& (255 : Int32)).toUInt32.toUInt16.toUInt32.toInt32)), .val (.int ((((p1.toUInt32 >>> ((8 : Int32) &&& 31).toUInt32).toInt32) &&& (255 : Int32)).toUInt32.toUInt16.toUInt32.toInt32)), .val (.int ((p2 &&& (255 : Int32)).toUInt32.toUInt16.toUInt32.toInt32)), .val (.int ((((p2.toUInt32 >>> ((8 : Int32) &&& 31).toUInt32).toInt32) &&& (255 : Int32)).toUInt32.toUInt16.toUInt32.toInt32)), .val (.ref a4), .val (.ref a5), .val (.ref r6), .unset, .unset, .unset, .unset] [(.int (64 : Int32)), (.int (64 : Int32))])) _
    refine XS.icmpYes X7.here hx rfl (pc0 := 97) (pc' := 102) rfl (hb hby at_97) rfl (teq (rfl : (64 : Int32) = (64 : Int32))).1 (by decide) (by decide) ?_
    show Steps p.tables e below (T7.setTop (mkF m 102 #[.val (.int p1), .val (.int p2), .val (.int p3), .val (.int (own_irem (p3 &&& (3 : Int32)) (3 : Int32))), .val (.int (own_irem (((p3.toUInt32 >>> ((2 : Int32) &&& 31).toUInt32).toInt32) &&& (3 : Int32)) (3 : Int32))), .val (.int ((p1 &&& (255 : Int32)).toUInt32.toUInt16.toUInt32.toInt32)), .val (.int ((((p1.toUInt32 >>> ((8 : Int32) &&& 31).toUInt32).toInt32) &&& (255 : Int32)).toUInt32.toUInt16.toUInt32.toInt32)), .val (.int ((p2 &&& (255 : Int32)).toUInt32.toUInt16.toUInt32.toInt32)), .val (.int ((((p2.toUInt32 >>> ((8 : Int32) &&& 31).toUInt32).toInt32) &&& (255 : Int32)).toUInt32.toUInt16.toUInt32.toInt32)), .val (.ref a4), .val (.ref a5), .val (.ref r6), .unset, .unset, .unset, .unset] [])) _
    refine XS.aload X7.here hx rfl (hb hby at_102) rfl rfl ?_
    show Steps p.tables e below (T7.setTop (mkF m 104 #[.val (.int p1), .val (.int p2), .val (.int p3), .val (.int (own_irem (p3 &&& (3 : Int32)) (3 : Int32))), .val (.int (own_irem (((p3.toUInt32 >>> ((2 : Int32) &&& 31).toUInt32).toInt32) &&& (3 : Int32)) (3 : Int32))), .val (.int ((p1 &&& (255 : Int32)).toUInt32.toUInt16.toUInt32.toInt32)), .val (.int ((((p1.toUInt32 >>> ((8 : Int32) &&& 31).toUInt32).toInt32) &&& (255 : Int32)).toUInt32.toUInt16.toUInt32.toInt32)), .val (.int ((p2 &&& (255 : Int32)).toUInt32.toUInt16.toUInt32.toInt32)), .val (.int ((((p2.toUInt32 >>> ((8 : Int32) &&& 31).toUInt32).toInt32) &&& (255 : Int32)).toUInt32.toUInt16.toUInt32.toInt32)), .val (.ref a4), .val (.ref a5), .val (.ref r6), .unset, .unset, .unset, .unset] [(.ref r6)])) _
    refine st8.trans ?_
    show Steps p.tables e below (T8.setTop (mkF m 107 #[.val (.int p1), .val (.int p2), .val (.int p3), .val (.int (own_irem (p3 &&& (3 : Int32)) (3 : Int32))), .val (.int (own_irem (((p3.toUInt32 >>> ((2 : Int32) &&& 31).toUInt32).toInt32) &&& (3 : Int32)) (3 : Int32))), .val (.int ((p1 &&& (255 : Int32)).toUInt32.toUInt16.toUInt32.toInt32)), .val (.int ((((p1.toUInt32 >>> ((8 : Int32) &&& 31).toUInt32).toInt32) &&& (255 : Int32)).toUInt32.toUInt16.toUInt32.toInt32)), .val (.int ((p2 &&& (255 : Int32)).toUInt32.toUInt16.toUInt32.toInt32)), .val (.int ((((p2.toUInt32 >>> ((8 : Int32) &&& 31).toUInt32).toInt32) &&& (255 : Int32)).toUInt32.toUInt16.toUInt32.toInt32)), .val (.ref a4), .val (.ref a5), .val (.ref r6), .unset, .unset, .unset, .unset] [(.ref bm)])) _
    refine XS.astore X8.here hx rfl (hb hby at_107) rfl rfl (l' := #[.val (.int p1), .val (.int p2), .val (.int p3), .val (.int (own_irem (p3 &&& (3 : Int32)) (3 : Int32))), .val (.int (own_irem (((p3.toUInt32 >>> ((2 : Int32) &&& 31).toUInt32).toInt32) &&& (3 : Int32)) (3 : Int32))), .val (.int ((p1 &&& (255 : Int32)).toUInt32.toUInt16.toUInt32.toInt32)), .val (.int ((((p1.toUInt32 >>> ((8 : Int32) &&& 31).toUInt32).toInt32) &&& (255 : Int32)).toUInt32.toUInt16.toUInt32.toInt32)), .val (.int ((p2 &&& (255 : Int32)).toUInt32.toUInt16.toUInt32.toInt32)), .val (.int ((((p2.toUInt32 >>> ((8 : Int32) &&& 31).toUInt32).toInt32) &&& (255 : Int32)).toUInt32.toUInt16.toUInt32.toInt32)), .val (.ref a4), .val (.ref a5), .val (.ref r6), .val (.ref bm), .unset, .unset, .unset]) rfl ?_
    show Steps p.tables e below (T8.setTop (mkF m 109 #[.val (.int p1), .val (.int p2), .val (.int p3), .val (.int (own_irem (p3 &&& (3 : Int32)) (3 : Int32))), .val (.int (own_irem (((p3.toUInt32 >>> ((2 : Int32) &&& 31).toUInt32).toInt32) &&& (3 : Int32)) (3 : Int32))), .val (.int ((p1 &&& (255 : Int32)).toUInt32.toUInt16.toUInt32.toInt32)), .val (.int ((((p1.toUInt32 >>> ((8 : Int32) &&& 31).toUInt32).toInt32) &&& (255 : Int32)).toUInt32.toUInt16.toUInt32.toInt32)), .val (.int ((p2 &&& (255 : Int32)).toUInt32.toUInt16.toUInt32.toInt32)), .val (.int ((((p2.toUInt32 >>> ((8 : Int32) &&& 31).toUInt32).toInt32) &&& (255 : Int32)).toUInt32.toUInt16.toUInt32.toInt32)), .val (.ref a4), .val (.ref a5), .val (.ref r6), .val (.ref bm), .unset, .unset, .unset] [])) _
    refine XS.aload X8.here hx rfl (hb hby at_109) rfl rfl ?_
    show Steps p.tables e below (T8.setTop (mkF m 111 #[.val (.int p1), .val (.int p2), .val (.int p3), .val (.int (own_irem (p3 &&& (3 : Int32)) (3 : Int32))), .val (.int (own_irem (((p3.toUInt32 >>> ((2 : Int32) &&& 31).toUInt32).toInt32) &&& (3 : Int32)) (3 : Int32))), .val (.int ((p1 &&& (255 : Int32)).toUInt32.toUInt16.toUInt32.toInt32)), .val (.int ((((p1.toUInt32 >>> ((8 : Int32) &&& 31).toUInt32).toInt32) &&& (255 : Int32)).toUInt32.toUInt16.toUInt32.toInt32)), .val (.int ((p2 &&& (255 : Int32)).toUInt32.toUInt16.toUInt32.toInt32)), .val (.int ((((p2.toUInt32 >>> ((8 : Int32) &&& 31).toUInt32).toInt32) &&& (255 : Int32)).toUInt32.toUInt16.toUInt32.toInt32)), .val (.ref a4), .val (.ref a5), .val (.ref r6), .val (.ref bm), .unset, .unset, .unset] [(.ref bm)])) _
    refine XS.ifnonnullYes X8.here hx rfl (pc0 := 111) (pc' := 116) rfl (hb hby at_111) rfl (by decide) (by decide) ?_
    show Steps p.tables e below (T8.setTop (mkF m 116 #[.val (.int p1), .val (.int p2), .val (.int p3), .val (.int (own_irem (p3 &&& (3 : Int32)) (3 : Int32))), .val (.int (own_irem (((p3.toUInt32 >>> ((2 : Int32) &&& 31).toUInt32).toInt32) &&& (3 : Int32)) (3 : Int32))), .val (.int ((p1 &&& (255 : Int32)).toUInt32.toUInt16.toUInt32.toInt32)), .val (.int ((((p1.toUInt32 >>> ((8 : Int32) &&& 31).toUInt32).toInt32) &&& (255 : Int32)).toUInt32.toUInt16.toUInt32.toInt32)), .val (.int ((p2 &&& (255 : Int32)).toUInt32.toUInt16.toUInt32.toInt32)), .val (.int ((((p2.toUInt32 >>> ((8 : Int32) &&& 31).toUInt32).toInt32) &&& (255 : Int32)).toUInt32.toUInt16.toUInt32.toInt32)), .val (.ref a4), .val (.ref a5), .val (.ref r6), .val (.ref bm), .unset, .unset, .unset] [])) _
    refine XS.aload X8.here hx rfl (hb hby at_116) rfl rfl ?_
    show Steps p.tables e below (T8.setTop (mkF m 118 #[.val (.int p1), .val (.int p2), .val (.int p3), .val (.int (own_irem (p3 &&& (3 : Int32)) (3 : Int32))), .val (.int (own_irem (((p3.toUInt32 >>> ((2 : Int32) &&& 31).toUInt32).toInt32) &&& (3 : Int32)) (3 : Int32))), .val (.int ((p1 &&& (255 : Int32)).toUInt32.toUInt16.toUInt32.toInt32)), .val (.int ((((p1.toUInt32 >>> ((8 : Int32) &&& 31).toUInt32).toInt32) &&& (255 : Int32)).toUInt32.toUInt16.toUInt32.toInt32)), .val (.int ((p2 &&& (255 : Int32)).toUInt32.toUInt16.toUInt32.toInt32)), .val (.int ((((p2.toUInt32 >>> ((8 : Int32) &&& 31).toUInt32).toInt32) &&& (255 : Int32)).toUInt32.toUInt16.toUInt32.toInt32)), .val (.ref a4), .val (.ref a5), .val (.ref r6), .val (.ref bm), .unset, .unset, .unset] [(.ref bm)])) _
    refine st9.trans ?_
    show Steps p.tables e below (T9.setTop (mkF m 121 #[.val (.int p1), .val (.int p2), .val (.int p3), .val (.int (own_irem (p3 &&& (3 : Int32)) (3 : Int32))), .val (.int (own_irem (((p3.toUInt32 >>> ((2 : Int32) &&& 31).toUInt32).toInt32) &&& (3 : Int32)) (3 : Int32))), .val (.int ((p1 &&& (255 : Int32)).toUInt32.toUInt16.toUInt32.toInt32)), .val (.int ((((p1.toUInt32 >>> ((8 : Int32) &&& 31).toUInt32).toInt32) &&& (255 : Int32)).toUInt32.toUInt16.toUInt32.toInt32)), .val (.int ((p2 &&& (255 : Int32)).toUInt32.toUInt16.toUInt32.toInt32)), .val (.int ((((p2.toUInt32 >>> ((8 : Int32) &&& 31).toUInt32).toInt32) &&& (255 : Int32)).toUInt32.toUInt16.toUInt32.toInt32)), .val (.ref a4), .val (.ref a5), .val (.ref r6), .val (.ref bm), .unset, .unset, .unset] [(.int (Int32.ofNat (own_cs (own_mc (own_irem (p3 &&& (3 : Int32)) (3 : Int32)) ((p1 &&& (255 : Int32)).toUInt32.toUInt16.toUInt32.toInt32) ((((p1.toUInt32 >>> ((8 : Int32) &&& 31).toUInt32).toInt32) &&& (255 : Int32)).toUInt32.toUInt16.toUInt32.toInt32)) (own_mc (own_irem (((p3.toUInt32 >>> ((2 : Int32) &&& 31).toUInt32).toInt32) &&& (3 : Int32)) (3 : Int32)) ((p2 &&& (255 : Int32)).toUInt32.toUInt16.toUInt32.toInt32) ((((p2.toUInt32 >>> ((8 : Int32) &&& 31).toUInt32).toInt32) &&& (255 : Int32)).toUInt32.toUInt16.toUInt32.toInt32))).length))])) _
    refine XS.iloadN X9.here hx rfl (hb hby at_121) rfl ?_
    show Steps p.tables e below (T9.setTop (mkF m 122 #[.val (.int p1), .val (.int p2), .val (.int p3), .val (.int (own_irem (p3 &&& (3 : Int32)) (3 : Int32))), .val (.int (own_irem (((p3.toUInt32 >>> ((2 : Int32) &&& 31).toUInt32).toInt32) &&& (3 : Int32)) (3 : Int32))), .val (.int ((p1 &&& (255 : Int32)).toUInt32.toUInt16.toUInt32.toInt32)), .val (.int ((((p1.toUInt32 >>> ((8 : Int32) &&& 31).toUInt32).toInt32) &&& (255 : Int32)).toUInt32.toUInt16.toUInt32.toInt32)), .val (.int ((p2 &&& (255 : Int32)).toUInt32.toUInt16.toUInt32.toInt32)), .val (.int ((((p2.toUInt32 >>> ((8 : Int32) &&& 31).toUInt32).toInt32) &&& (255 : Int32)).toUInt32.toUInt16.toUInt32.toInt32)), .val (.ref a4), .val (.ref a5), .val (.ref r6), .val (.ref bm), .unset, .unset, .unset] [(.int (own_irem (p3 &&& (3 : Int32)) (3 : Int32))), (.int (Int32.ofNat (own_cs (own_mc (own_irem (p3 &&& (3 : Int32)) (3 : Int32)) ((p1 &&& (255 : Int32)).toUInt32.toUInt16.toUInt32.toInt32) ((((p1.toUInt32 >>> ((8 : Int32) &&& 31).toUInt32).toInt32) &&& (255 : Int32)).toUInt32.toUInt16.toUInt32.toInt32)) (own_mc (own_irem (((p3.toUInt32 >>> ((2 : Int32) &&& 31).toUInt32).toInt32) &&& (3 : Int32)) (3 : Int32)) ((p2 &&& (255 : Int32)).toUInt32.toUInt16.toUInt32.toInt32) ((((p2.toUInt32 >>> ((8 : Int32) &&& 31).toUInt32).toInt32) &&& (255 : Int32)).toUInt32.toUInt16.toUInt32.toInt32))).length))])) _
    refine XS.bipush X9.here hx rfl (hb hby at_122) ?_
    show Steps p.tables e below (T9.setTop (mkF m 124 #[.val (.int p1), .val (.int p2), .val (.int p3), .val (.int (own_irem (p3 &&& (3 : Int32)) (3 : Int32))), .val (.int (own_irem (((p3.toUInt32 >>> ((2 : Int32) &&& 31).toUInt32).toInt32) &&& (3 : Int32)) (3 : Int32))), .val (.int ((p1 &&& (255 : Int32)).toUInt32.toUInt16.toUInt32.toInt32)), .val (.int ((((p1.toUInt32 >>> ((8 : Int32) &&& 31).toUInt32).toInt32) &&& (255 : Int32)).toUInt32.toUInt16.toUInt32.toInt32)), .val (.int ((p2 &&& (255 : Int32)).toUInt32.toUInt16.toUInt32.toInt32)), .val (.int ((((p2.toUInt32 >>> ((8 : Int32) &&& 31).toUInt32).toInt32) &&& (255 : Int32)).toUInt32.toUInt16.toUInt32.toInt32)), .val (.ref a4), .val (.ref a5), .val (.ref r6), .val (.ref bm), .unset, .unset, .unset] [(.int (9 : Int32)), (.int (own_irem (p3 &&& (3 : Int32)) (3 : Int32))), (.int (Int32.ofNat (own_cs (own_mc (own_irem (p3 &&& (3 : Int32)) (3 : Int32)) ((p1 &&& (255 : Int32)).toUInt32.toUInt16.toUInt32.toInt32) ((((p1.toUInt32 >>> ((8 : Int32) &&& 31).toUInt32).toInt32) &&& (255 : Int32)).toUInt32.toUInt16.toUInt32.toInt32)) (own_mc (own_irem (((p3.toUInt32 >>> ((2 : Int32) &&& 31).toUInt32).toInt32) &&& (3 : Int32)) (3 : Int32)) ((p2 &&& (255 : Int32)).toUInt32.toUInt16.toUInt32.toInt32) ((((p2.toUInt32 >>> ((8 : Int32) &&& 31).toUInt32).toInt32) &&& (255 : Int32)).toUInt32.toUInt16.toUInt32.toInt32))).length))])) _
    refine XS.iadd X9.here hx rfl (hb hby at_124) rfl ?_
    show Steps p.tables e below (T9.setTop (mkF m 125 #[.val (.int p1), .val (.int p2), .val (.int p3), .val (.int (own_irem (p3 &&& (3 : Int32)) (3 : Int32))), .val (.int (own_irem (((p3.toUInt32 >>> ((2 : Int32) &&& 31).toUInt32).toInt32) &&& (3 : Int32)) (3 : Int32))), .val (.int ((p1 &&& (255 : Int32)).toUInt32.toUInt16.toUInt32.toInt32)), .val (.int ((((p1.toUInt32 >>> ((8 : Int32) &&& 31).toUInt32).toInt32) &&& (255 : Int32)).toUInt32.toUInt16.toUInt32.toInt32)), .val (.int ((p2 &&& (255 : Int32)).toUInt32.toUInt16.toUInt32.toInt32)), .val (.int ((((p2.toUInt32 >>> ((8 : Int32) &&& 31).toUInt32).toInt32) &&& (255 : Int32)).toUInt32.toUInt16.toUInt32.toInt32)), .val (.ref a4), .val (.ref a5), .val (.ref r6), .val (.ref bm), .unset, .unset, .unset] [(.int ((own_irem (p3 &&& (3 : Int32)) (3 : Int32)) + (9 : Int32))), (.int (Int32.ofNat (own_cs (own_mc (own_irem (p3 &&& (3 : Int32)) (3 : Int32)) ((p1 &&& (255 : Int32)).toUInt32.toUInt16.toUInt32.toInt32) ((((p1.toUInt32 >>> ((8 : Int32) &&& 31).toUInt32).toInt32) &&& (255 : Int32)).toUInt32.toUInt16.toUInt32.toInt32)) (own_mc (own_irem (((p3.toUInt32 >>> ((2 : Int32) &&& 31).toUInt32).toInt32) &&& (3 : Int32)) (3 : Int32)) ((p2 &&& (255 : Int32)).toUInt32.toUInt16.toUInt32.toInt32) ((((p2.toUInt32 >>> ((8 : Int32) &&& 31).toUInt32).toInt32) &&& (255 : Int32)).toUInt32.toUInt16.toUInt32.toInt32))).length))])) _
    refine XS.iload X9.here hx rfl (hb hby at_125) rfl ?_
    show Steps p.tables e below (T9.setTop (mkF m 127 #[.val (.int p1), .val (.int p2), .val (.int p3), .val (.int (own_irem (p3 &&& (3 : Int32)) (3 : Int32))), .val (.int (own_irem (((p3.toUInt32 >>> ((2 : Int32) &&& 31).toUInt32).toInt32) &&& (3 : Int32)) (3 : Int32))), .val (.int ((p1 &&& (255 : Int32)).toUInt32.toUInt16.toUInt32.toInt32)), .val (.int ((((p1.toUInt32 >>> ((8 : Int32) &&& 31).toUInt32).toInt32) &&& (255 : Int32)).toUInt32.toUInt16.toUInt32.toInt32)), .val (.int ((p2 &&& (255 : Int32)).toUInt32.toUInt16.toUInt32.toInt32)), .val (.int ((((p2.toUInt32 >>> ((8 : Int32) &&& 31).toUInt32).toInt32) &&& (255 : Int32)).toUInt32.toUInt16.toUInt32.toInt32)), .val (.ref a4), .val (.ref a5), .val (.ref r6), .val (.ref bm), .unset, .unset, .unset] [(.int (own_irem (((p3.toUInt32 >>> ((2 : Int32) &&& 31).toUInt32).toInt32) &&& (3 : Int32)) (3 : Int32))), (.int ((own_irem (p3 &&& (3 : Int32)) (3 : Int32)) + (9 : Int32))), (.int (Int32.ofNat (own_cs (own_mc (own_irem (p3 &&& (3 : Int32)) (3 : Int32)) ((p1 &&& (255 : Int32)).toUInt32.toUInt16.toUInt32.toInt32) ((((p1.toUInt32 >>> ((8 : Int32) &&& 31).toUInt32).toInt32) &&& (255 : Int32)).toUInt32.toUInt16.toUInt32.toInt32)) (own_mc (own_irem (((p3.toUInt32 >>> ((2 : Int32) &&& 31).toUInt32).toInt32) &&& (3 : Int32)) (3 : Int32)) ((p2 &&& (255 : Int32)).toUInt32.toUInt16.toUInt32.toInt32) ((((p2.toUInt32 >>> ((8 : Int32) &&& 31).toUInt32).toInt32) &&& (255 : Int32)).toUInt32.toUInt16.toUInt32.toInt32))).length))])) _
    refine XS.iadd X9.here hx rfl (hb hby at_127) rfl ?_
    show Steps p.tables e below (T9.setTop (mkF m 128 #[.val (.int p1), .val (.int p2), .val (.int p3), .val (.int (own_irem (p3 &&& (3 : Int32)) (3 : Int32))), .val (.int (own_irem (((p3.toUInt32 >>> ((2 : Int32) &&& 31).toUInt32).toInt32) &&& (3 : Int32)) (3 : Int32))), .val (.int ((p1 &&& (255 : Int32)).toUInt32.toUInt16.toUInt32.toInt32)), .val (.int ((((p1.toUInt32 >>> ((8 : Int32) &&& 31).toUInt32).toInt32) &&& (255 : Int32)).toUInt32.toUInt16.toUInt32.toInt32)), .val (.int ((p2 &&& (255 : Int32)).toUInt32.toUInt16.toUInt32.toInt32)), .val (.int ((((p2.toUInt32 >>> ((8 : Int32) &&& 31).toUInt32).toInt32) &&& (255 : Int32)).toUInt32.toUInt16.toUInt32.toInt32)), .val (.ref a4), .val (.ref a5), .val (.ref r6), .val (.ref bm), .unset, .unset, .unset] [(.int (((own_irem (p3 &&& (3 : Int32)) (3 : Int32)) + (9 : Int32)) + (own_irem (((p3.toUInt32 >>> ((2 : Int32) &&& 31).toUInt32).toInt32) &&& (3 : Int32)) (3 : Int32)))), (.int (Int32.ofNat (own_cs (own_mc (own_irem (p3 &&& (3 : Int32)) (3 : Int32)) ((p1 &&& (255 : Int32)).toUInt32.toUInt16.toUInt32.toInt32) ((((p1.toUInt32 >>> ((8 : Int32) &&& 31).toUInt32).toInt32) &&& (255 : Int32)).toUInt32.toUInt16.toUInt32.toInt32)) (own_mc (own_irem (((p3.toUInt32 >>> ((2 : Int32) &&& 31).toUInt32).toInt32) &&& (3 : Int32)) (3 : Int32)) ((p2 &&& (255 : Int32)).toUInt32.toUInt16.toUInt32.toInt32) ((((p2.toUInt32 >>> ((8 : Int32) &&& 31).toUInt32).toInt32) &&& (255 : Int32)).toUInt32.toUInt16.toUInt32.toInt32))).length))])) _
    refine XS.icmpYes X9.here hx rfl (pc0 := 128) (pc' := 133) rfl (hb hby at_128) rfl (teq hc128).1 (by decide) (by decide) ?_
    show Steps p.tables e below (T9.setTop (mkF m 133 #[.val (.int p1), .val (.int p2), .val (.int p3), .val (.int (own_irem (p3 &&& (3 : Int32)) (3 : Int32))), .val (.int (own_irem (((p3.toUInt32 >>> ((2 : Int32) &&& 31).toUInt32).toInt32) &&& (3 : Int32)) (3 : Int32))), .val (.int ((p1 &&& (255 : Int32)).toUInt32.toUInt16.toUInt32.toInt32)), .val (.int ((((p1.toUInt32 >>> ((8 : Int32) &&& 31).toUInt32).toInt32) &&& (255 : Int32)).toUInt32.toUInt16.toUInt32.toInt32)), .val (.int ((p2 &&& (255 : Int32)).toUInt32.toUInt16.toUInt32.toInt32)), .val (.int ((((p2.toUInt32 >>> ((8 : Int32) &&& 31).toUInt32).toInt32) &&& (255 : Int32)).toUInt32.toUInt16.toUInt32.toInt32)), .val (.ref a4), .val (.ref a5), .val (.ref r6), .val (.ref bm), .unset, .unset, .unset] [])) _
    refine st10.trans ?_
    show Steps p.tables e below (T10.setTop (mkF m 362 #[.val (.int p1), .val (.int p2), .val (.int p3), .val (.int (own_irem (p3 &&& (3 : Int32)) (3 : Int32))), .val (.int (own_irem (((p3.toUInt32 >>> ((2 : Int32) &&& 31).toUInt32).toInt32) &&& (3 : Int32)) (3 : Int32))), .val (.int ((p1 &&& (255 : Int32)).toUInt32.toUInt16.toUInt32.toInt32)), .val (.int ((((p1.toUInt32 >>> ((8 : Int32) &&& 31).toUInt32).toInt32) &&& (255 : Int32)).toUInt32.toUInt16.toUInt32.toInt32)), .val (.int ((p2 &&& (255 : Int32)).toUInt32.toUInt16.toUInt32.toInt32)), .val (.int ((((p2.toUInt32 >>> ((8 : Int32) &&& 31).toUInt32).toInt32) &&& (255 : Int32)).toUInt32.toUInt16.toUInt32.toInt32)), .val (.ref a4), .val (.ref a5), .val (.ref r6), .val (.ref bm), .val (.int (own_irem (p3 &&& (3 : Int32)) (3 : Int32))), .val (.int (1 : Int32)), .val (.int ((own_irem (p3 &&& (3 : Int32)) (3 : Int32)) + (9 : Int32)))] [])) _
    refine XS.iconst X10.here hx rfl (hb hby at_362) ?_
    show Steps p.tables e below (T10.setTop (mkF m 363 #[.val (.int p1), .val (.int p2), .val (.int p3), .val (.int (own_irem (p3 &&& (3 : Int32)) (3 : Int32))), .val (.int (own_irem (((p3.toUInt32 >>> ((2 : Int32) &&& 31).toUInt32).toInt32) &&& (3 : Int32)) (3 : Int32))), .val (.int ((p1 &&& (255 : Int32)).toUInt32.toUInt16.toUInt32.toInt32)), .val (.int ((((p1.toUInt32 >>> ((8 : Int32) &&& 31).toUInt32).toInt32) &&& (255 : Int32)).toUInt32.toUInt16.toUInt32.toInt32)), .val (.int ((p2 &&& (255 : Int32)).toUInt32.toUInt16.toUInt32.toInt32)), .val (.int ((((p2.toUInt32 >>> ((8 : Int32) &&& 31).toUInt32).toInt32) &&& (255 : Int32)).toUInt32.toUInt16.toUInt32.toInt32)), .val (.ref a4), .val (.ref a5), .val (.ref r6), .val (.ref bm), .val (.int (own_irem (p3 &&& (3 : Int32)) (3 : Int32))), .val (.int (1 : Int32)), .val (.int ((own_irem (p3 &&& (3 : Int32)) (3 : Int32)) + (9 : Int32)))] [(.int (1 : Int32))])) _
    exact retN X10 hx (t := .boolean) Bd.returns (by simp) (hb hby at_363) hr
  · show own_Q1 h0 n0 _ T10.heap _
    exact ⟨rfl, N9⟩
  · show CHr Z consts_1 s.vm s.heap T10.vm T10.heap
    rw [hh, e10]
    exact R9.trans (CHv.at X10 hZ6 (own_EW hw) R9.1)
set_option maxRecDepth 65536 in
set_option maxHeartbeats 40000000 in
theorem comes_1 {Post : Tables → Env → Array Value → State → Outcome → State → Prop} (hpost : ∀ tb e args s v u, (limb_1_1.after args s (.returned v) u = true ∧ limb_1_2.after args s (.returned v) u = true ∧ True) → ReturnedEndW s (.returned v) u (Jvm.fieldLocs frame_1_writes args s ++ Jvm.arrayLocs frame_1_arrays args s ++ Jvm.staticLocs frame_1_statics s) 40 7744 → Post tb e args s (.returned v) u) :
    ArmFor flags0 classFile x code maxLocals ret World_1 tables_1 room_1 Calls_1 rest_1 Pre_1 Post := by
  intro l hfl _ _ p e ha hc hk s m args below hf hA hF happ hP
  obtain ⟨hcalls, hrest, hpre⟩ := hP
  obtain ⟨-, -, -, hnamed, -, -, -, hat⟩ := (Spec.applies_iff hf).mp happ
  obtain ⟨hg, hn⟩ := and_e (Cond.before_iff.mp (show (Jvm.Cond.and given_1 narrow_1).before args s = true from hpre))
  obtain ⟨g19, g20⟩ := and_e hg
  obtain ⟨g21, g22⟩ := and_e g20
  obtain ⟨g23, g24⟩ := and_e g22
  obtain ⟨w0, w1, w2, rfl⟩ : ∃ w0 w1 w2 : Value, args = #[w0, w1, w2] := by
    have hs : args.size = 3 := by simpa [Cond.value, given_1] using g19
    obtain ⟨L⟩ := args
    match L, hs with
    | [w0, w1, w2], _ => exact ⟨w0, w1, w2, rfl⟩
  have hw := fun d (hd : d ∈ tables_1) => atoms_spec (ws := Jvm.Cond.code x code maxLocals ret :: tables_1) hat d (List.mem_cons_of_mem _ hd)
  have hfit : Fit s := fun {y c} hc i hi => by
    obtain ⟨ha, rfl⟩ := Array.getElem?_eq_some_iff.mp hc
    have q := List.all_eq_true.mp ((Array.all_eq_true_iff_forall_mem.mp hF) _ (Array.getElem_mem ha)) i (List.mem_range.mpr hi)
    simpa [Array.getElem?_eq_getElem hi] using q
  obtain ⟨hsets, hown0⟩ := atoms_of _ (rest_1_c_eq ▸ (show rest_1_c.before _ s = true from hrest))
  have hr0 := Cond.before_iff.mp hown0
  obtain ⟨i0, ei0⟩ := is_v g21
  obtain rfl : w0 = (.int i0) := Option.some.inj ei0
  obtain ⟨i1, ei1⟩ := is_v g23
  obtain rfl : w1 = (.int i1) := Option.some.inj ei1
  obtain ⟨i2, ei2⟩ := is_v g24
  obtain rfl : w2 = (.int i2) := Option.some.inj ei2
  have n3s := not_v (Cond.before_iff.mp (hsets _ (List.mem_of_getElem? (i := 2) rfl)))
  obtain ⟨i7, e6s⟩ := is_v (Cond.before_iff.mp (hsets _ (List.mem_of_getElem? (i := 1) rfl)))
  have S8 : Sta s s.heap "java/lang/String" "COMPACT_STRINGS" "Z" (.int i7) := Sta.start e6s (Or.inl (hsets _ (List.mem_of_getElem? (i := 0) rfl)))
  have c9 : ¬ (i7 = (0 : Int32)) := gotF (Cond.eq_ints e6s (Term.int_eval (0))) n3s
  obtain ⟨fm, efm, rfm⟩ := isR_v (Cond.before_iff.mp (hsets _ (List.mem_of_getElem? (i := 8) rfl)))
  have SFm := Sta.start efm (Or.inl (hsets _ (List.mem_of_getElem? (i := 7) rfl)))
  obtain ⟨g2, eg2⟩ := arr_v (Cond.before_iff.mp (hsets _ (List.mem_of_getElem? (i := 17) rfl)))
  have SU := Sta.start eg2 (Or.inl (hsets _ (List.mem_of_getElem? (i := 15) rfl)))
  obtain ⟨g3, eg3⟩ := exa_v (Cond.before_iff.mp (hsets _ (List.mem_of_getElem? (i := 22) rfl)))
  have SS := Sta.start eg3 (Or.inl (hsets _ (List.mem_of_getElem? (i := 20) rfl)))
  have hst : l.stackTraces = true := by unfold Launch.stackTraces; rw [hfl]; decide
  have hCH : CHv s consts_1 s.vm s.heap := CHv.start (own_EW hw) (fun p hp => hcalls.2.2.1 p hp) (hsets _ (List.mem_of_getElem? (i := 2) rfl)) (hw _ (List.mem_of_getElem? (i := 23) rfl)) (hw _ (List.mem_of_getElem? (i := 5) rfl))
  obtain ⟨n, o, h1, h2, h3, _, L, rfl, ⟨rfl, N⟩, hCr, hq⟩ := rm0 l s _ hw tables_1 i0 i1 i2 i7 g2 g3 fm s.heap s.heap.size (Nat.le_refl _) hst S8 (Old.start s) c9 SU SS SFm rfm p e ha hc hk s m _ below hf ((Spec.applies_iff_loose hf).mp happ).1 ⟨rfl, State.Warmed39.refl s, rfl, hCH⟩ ⟨own_mk hcalls.2.1, own_fk hcalls.1 hf⟩
  refine ⟨n, _, h1, h2, h3, hpost _ _ _ _ _ _ ⟨Cond.after_iff.mpr rfl, Cond.after_iff.mpr (eq_i res_at (Term.int_eval (1)) rfl), trivial⟩ ⟨hq.1, hq.2.1, hq.2.2.1, (hq.2.2.2.sift fun y hy => Or.inr (N y hy)).mono (by decide) (by decide)⟩⟩
theorem main_1_1 : Claimed_1_1 := comes_1 fun _ _ _ _ _ _ h hF => ⟨h.1, hF⟩
theorem main_1_2 : Claimed_1_2 := comes_1 fun _ _ _ _ _ _ h hF => ⟨h.2.1, hF⟩
end Jvm.Pilot.@@N@@
namespace Jvm.Pilot.@@N@@
open Jvm Jvm.ClassFile Sem Op Lib Jvm.Free Jvm.Stand Jvm.Pilot.@@N@@.Jvm.D
/-! MADE BY PROGRAM (witnessworld.py) out of the Statement's table words and the real class files: 41 classes; the members and pool entries that the words name. The judged class is class 1, her method 2. -/
namespace start1
open Jvm.ClassFile
def u (s : String) : CpInfo := .utf8 (stringToUtf16 s)
/-- a pool by its gaps: so many unusable entries, then the entry; so many at the end -/
def gap : Nat → List CpInfo → List CpInfo
  | 0, r => r
  | n + 1, r => .unusable :: gap n r
def poolList (es : List (Nat × CpInfo)) (last : Nat) : List CpInfo := es.foldr (fun e r => gap e.1 (e.2 :: r)) (gap last [])
def pool (es : List (Nat × CpInfo)) (last : Nat) : Array CpInfo := ⟨poolList es last⟩
def fileOf (pool : Array CpInfo) (this : Nat) (attrs : Array Attribute := #[]) (ms : Array MethodInfo := #[]) (fl : Nat := 33) (sup : Nat := 0) (ifs : Array Nat := #[]) (fds : Array FieldInfo := #[]) : ClassFile where
  minorVersion := 0
  majorVersion := 65
  constantPool := pool
  accessFlags := fl
  thisClass := this
  superClass := sup
  interfaces := ifs
  fields := fds
  methods := ms
  attributes := attrs
def plain (name : String) (sup : Option ClassId) : Class where
  name := name
  kind := .ordinary
  loader := none
  accessFlags := 33
  super := sup
  interfaces := #[]
  cf := none
  fields := #[]
  methods := #[]
  instanceTypes := #[]
  staticTypes := #[]
  resolved := #[]
  callSites := []
  init := .initialized
  statics := none
  mirror := none

def pool0 : Array CpInfo := pool [(5, u "<init>"), (0, u "()V"), (1, .class_ 10), (1, u "java/lang/Object")] 113

def k0c0 : Code := { maxStack := 0, maxLocals := 1, code := object_method_1_code, exceptionTable := #[], attributes := #[] }
def k0m0 : Method := { name := "<init>", desc := "()V", sig := { parameters := [], returnType := none }, accessFlags := 1, code := some k0c0 }
/-- java/lang/Object -/
def k0 : Class := { plain "java/lang/Object" none with
  accessFlags := 33
  interfaces := #[]
  cf := some (fileOf pool0 8 #[] #[{ accessFlags := 1, nameIndex := 5, descriptorIndex := 6, attributes := #[] }] 33 0 #[] #[])
  fields := #[]
  methods := #[k0m0]
  instanceTypes := #[]
  staticTypes := #[]
  resolved := Array.replicate 124 none
  statics := none }

def pool1 : Array CpInfo := pool [(2, .class_ 4), (1, u "java/lang/Object"), (0, u "<init>"), (0, u "()V"), (0, .string 8), (0, u ""), (0, .methodref 10 11), (0, .class_ 12), (0, .nameAndType 13 14), (0, u "java/lang/String"), (0, u "valueOf"), (0, u "(C)Ljava/lang/String;"), (0, .methodref 10 16), (0, .nameAndType 5 17), (0, u "([C)V"), (0, .methodref 19 20), (0, .class_ 21), (0, .nameAndType 22 23), (0, u "com/example/excl1/excl1/cli/RefusalUsagePinLaw"), (0, u "make"), (0, u "(ICC)Ljava/lang/String;"), (0, .methodref 25 26), (0, .class_ 27), (0, .nameAndType 28 29), (0, u "com/example/excl1/excl1/cli/Refusal"), (0, u "usage"), (0, u "(Ljava/lang/String;Ljava/lang/String;)Lcom/example/excl1/excl1/cli/Refusal;"), (0, .methodref 25 31), (0, .nameAndType 32 33), (0, u "status"), (0, u "()I"), (0, .methodref 25 35), (0, .nameAndType 36 37), (0, u "getMessage"), (0, u "()Ljava/lang/String;"), (0, .methodref 10 39), (0, .nameAndType 40 33), (0, u "length"), (0, .methodref 10 42), (0, .nameAndType 43 44), (0, u "charAt"), (0, u "(I)C"), (3, u "law"), (0, u "(III)Z")] 2

def k1m0 : Method := { name := "<init>", desc := "()V", sig := { parameters := [], returnType := none }, accessFlags := 2, code := none }
def k1c1 : Code := { maxStack := 6, maxLocals := 3, code := method_2_code, exceptionTable := #[], attributes := #[] }
def k1m1 : Method := { name := "make", desc := "(ICC)Ljava/lang/String;", sig := { parameters := [.int, .char, .char], returnType := some (.object "java/lang/String") }, accessFlags := 10, code := some k1c1 }
def k1c2 : Code := { maxStack := 3, maxLocals := 16, code := code, exceptionTable := #[], attributes := #[] }
def k1m2 : Method := { name := "law", desc := "(III)Z", sig := { parameters := [.int, .int, .int], returnType := some .boolean }, accessFlags := 9, code := some k1c2 }
/-- com/example/excl1/excl1/cli/RefusalUsagePinLaw -/
def k1 : Class := { plain "com/example/excl1/excl1/cli/RefusalUsagePinLaw" (some 0) with
  accessFlags := 49
  interfaces := #[]
  cf := some (fileOf pool1 19 #[] #[{ accessFlags := 2, nameIndex := 5, descriptorIndex := 6, attributes := #[] }, { accessFlags := 10, nameIndex := 22, descriptorIndex := 23, attributes := #[] }, { accessFlags := 9, nameIndex := 48, descriptorIndex := 49, attributes := #[] }] 49 2 #[] #[])
  fields := #[]
  methods := #[k1m0, k1m1, k1m2]
  instanceTypes := #[]
  staticTypes := #[]
  resolved := Array.replicate 52 none
  statics := none }

def pool2 : Array CpInfo := pool [(1, .class_ 2), (0, u "java/io/Serializable"), (0, .class_ 4), (0, u "java/lang/Object")] 2

/-- java/io/Serializable -/
def k2 : Class := { plain "java/io/Serializable" (some 0) with
  accessFlags := 1537
  interfaces := #[]
  cf := some (fileOf pool2 1 #[] #[] 1537 3 #[] #[])
  fields := #[]
  methods := #[]
  instanceTypes := #[]
  staticTypes := #[]
  resolved := Array.replicate 7 none
  statics := none }

def pool3 : Array CpInfo := pool [(1, .class_ 2), (0, u "java/lang/Comparable"), (0, .class_ 4), (0, u "java/lang/Object")] 7

/-- java/lang/Comparable -/
def k3 : Class := { plain "java/lang/Comparable" (some 0) with
  accessFlags := 1537
  interfaces := #[]
  cf := some (fileOf pool3 1 #[] #[] 1537 3 #[] #[])
  fields := #[]
  methods := #[]
  instanceTypes := #[]
  staticTypes := #[]
  resolved := Array.replicate 12 none
  statics := none }

def pool4 : Array CpInfo := pool [(2, .class_ 4), (1, u "java/lang/CharSequence"), (42, .class_ 48), (0, u "java/lang/CharSequence$1CodePointIterator"), (10, .class_ 60), (0, u "java/lang/CharSequence$1CharIterator"), (5, .class_ 67), (0, u "java/lang/Object")] 63

/-- java/lang/CharSequence -/
def k4 : Class := { plain "java/lang/CharSequence" (some 0) with
  accessFlags := 1537
  interfaces := #[]
  cf := some (fileOf pool4 2 #[.nestMembers #[47, 59]] #[] 1537 66 #[] #[])
  fields := #[]
  methods := #[]
  instanceTypes := #[]
  staticTypes := #[]
  resolved := Array.replicate 131 none
  statics := none }

def pool5 : Array CpInfo := pool [(1, .class_ 2), (0, u "java/lang/constant/Constable"), (0, .class_ 4), (0, u "java/lang/Object")] 6

/-- java/lang/constant/Constable -/
def k5 : Class := { plain "java/lang/constant/Constable" (some 0) with
  accessFlags := 1537
  interfaces := #[]
  cf := some (fileOf pool5 1 #[] #[] 1537 3 #[] #[])
  fields := #[]
  methods := #[]
  instanceTypes := #[]
  staticTypes := #[]
  resolved := Array.replicate 11 none
  statics := none }

def pool6 : Array CpInfo := pool [(1, .class_ 2), (0, u "java/lang/constant/ConstantDesc"), (0, .class_ 4), (0, u "java/lang/Object")] 32

/-- java/lang/constant/ConstantDesc -/
def k6 : Class := { plain "java/lang/constant/ConstantDesc" (some 0) with
  accessFlags := 1537
  interfaces := #[]
  cf := some (fileOf pool6 1 #[] #[] 1537 3 #[] #[])
  fields := #[]
  methods := #[]
  instanceTypes := #[]
  staticTypes := #[]
  resolved := Array.replicate 37 none
  statics := none }

def pool7 : Array CpInfo := pool [(1, .methodref 2 3), (0, .class_ 4), (0, .nameAndType 5 6), (0, u "java/lang/Object"), (0, u "<init>"), (0, u "()V"), (2, .fieldref 10 11), (0, .class_ 12), (0, .nameAndType 13 14), (0, u "java/lang/String"), (0, u "value"), (0, u "[B"), (0, .fieldref 10 16), (0, .nameAndType 17 18), (0, u "coder"), (0, u "B"), (2, u "hash"), (0, u "I"), (2, u "hashIsZero"), (0, u "Z"), (0, .methodref 10 28), (0, .nameAndType 5 29), (0, u "([CIILjava/lang/Void;)V"), (8, .fieldref 10 39), (0, .nameAndType 40 26), (0, u "COMPACT_STRINGS"), (1, .class_ 44), (1, u "java/lang/StringUTF16"), (0, u "compress"), (1, .methodref 42 48), (0, .nameAndType 49 50), (0, u "coderFromArrayLen"), (0, u "([BI)B"), (2, u "toBytes"), (0, .methodref 55 56), (0, .class_ 57), (0, .nameAndType 58 59), (0, u "java/util/Arrays"), (0, u "copyOfRange"), (0, u "([BII)[B"), (47, .class_ 109), (1, u "java/lang/StringLatin1"), (32, u "()Z"), (34, .methodref 42 178), (0, .nameAndType 45 179), (0, u "([CII)[B"), (13, .class_ 195), (1, u "java/lang/System"), (13, .methodref 10 210), (0, .nameAndType 5 211), (0, u "([BB)V"), (0, .methodref 193 213), (0, .nameAndType 214 215), (0, u "arraycopy"), (0, u "(Ljava/lang/Object;ILjava/lang/Object;II)V"), (118, u "()I"), (0, .methodref 10 336), (0, .nameAndType 17 337), (0, u "()B"), (2, u "()[B"), (22, u "([BI)C"), (5, u "(C)Z"), (21, u "(II)V"), (35, u "(I)C"), (61, .methodref 10 490), (0, .nameAndType 5 491), (0, u "(Ljava/lang/AbstractStringBuilder;Ljava/lang/Void;)V"), (0, .methodref 10 493), (0, .nameAndType 494 142), (0, u "isLatin1"), (0, .methodref 107 496), (0, .nameAndType 497 363), (0, u "charAt"), (3, u "checkIndex"), (4, .nameAndType 507 334), (0, u "length"), (24, u "getBytes"), (16, .methodref 550 506), (0, .class_ 551), (0, u "java/lang/AbstractStringBuilder"), (0, .methodref 550 553), (0, .nameAndType 554 340), (0, u "getValue"), (20, .class_ 576), (0, u "java/lang/CharSequence"), (22, u "CASE_INSENSITIVE_ORDER"), (0, u "Ljava/util/Comparator;"), (181, u "valueOf"), (0, u "(C)Ljava/lang/String;"), (37, u "([BIB)V"), (188, u "([C)V"), (4, .methodref 107 1016), (0, .nameAndType 1017 369), (0, u "canEncode"), (0, .methodref 107 1019), (0, .nameAndType 53 1020), (0, u "(C)[B"), (26, .methodref 550 493), (5, .fieldref 1054 1055), (0, .class_ 1056), (0, .nameAndType 1057 1058), (0, u "jdk/internal/util/Preconditions"), (0, u "SIOOBE_FORMATTER"), (0, u "Ljava/util/function/BiFunction;"), (0, .methodref 1054 1060), (0, .nameAndType 501 1061), (0, u "(IILjava/util/function/BiFunction;)I"), (39, u "serialPersistentFields"), (0, u "[Ljava/io/ObjectStreamField;"), (0, .class_ 1104), (0, u "java/lang/String$CaseInsensitiveComparator"), (1, .class_ 1107), (0, u "java/io/Serializable"), (0, .class_ 1109), (0, u "java/lang/Comparable"), (0, .class_ 1111), (0, u "java/lang/constant/Constable"), (0, .class_ 1113), (0, u "java/lang/constant/ConstantDesc"), (2, u "serialVersionUID"), (0, u "J"), (3, u "REPL"), (0, u "C"), (2, u "LATIN1"), (1, u "UTF16"), (105, u "(Ljava/lang/StringBuilder;)V")] 217

def k7m0 : Method := { name := "<init>", desc := "()V", sig := { parameters := [], returnType := none }, accessFlags := 1, code := none }
def k7c1 : Code := { maxStack := 5, maxLocals := 2, code := jdk_42_method_3_code, exceptionTable := #[], attributes := #[] }
def k7m1 : Method := { name := "<init>", desc := "([C)V", sig := { parameters := [(.array .char)], returnType := none }, accessFlags := 1, code := some k7c1 }
def k7c2 : Code := { maxStack := 3, maxLocals := 2, code := jdk_42_method_53_code, exceptionTable := #[], attributes := #[] }
def k7m2 : Method := { name := "<init>", desc := "(Ljava/lang/StringBuilder;)V", sig := { parameters := [(.object "java/lang/StringBuilder")], returnType := none }, accessFlags := 1, code := some k7c2 }
def k7c3 : Code := { maxStack := 2, maxLocals := 1, code := jdk_42_method_54_code, exceptionTable := #[], attributes := #[] }
def k7m3 : Method := { name := "length", desc := "()I", sig := { parameters := [], returnType := some .int }, accessFlags := 1, code := some k7c3 }
def k7c4 : Code := { maxStack := 2, maxLocals := 2, code := jdk_42_method_56_code, exceptionTable := #[], attributes := #[] }
def k7m4 : Method := { name := "charAt", desc := "(I)C", sig := { parameters := [.int], returnType := some .char }, accessFlags := 1, code := some k7c4 }
def k7c5 : Code := { maxStack := 4, maxLocals := 1, code := jdk_42_method_139_code, exceptionTable := #[], attributes := #[] }
def k7m5 : Method := { name := "valueOf", desc := "(C)Ljava/lang/String;", sig := { parameters := [.char], returnType := some (.object "java/lang/String") }, accessFlags := 9, code := some k7c5 }
def k7c6 : Code := { maxStack := 5, maxLocals := 4, code := jdk_42_method_147_code, exceptionTable := #[], attributes := #[] }
def k7m6 : Method := { name := "getBytes", desc := "([BIB)V", sig := { parameters := [(.array .byte), .int, .byte], returnType := none }, accessFlags := 0, code := some k7c6 }
def k7c7 : Code := { maxStack := 4, maxLocals := 6, code := jdk_42_method_149_code, exceptionTable := #[], attributes := #[] }
def k7m7 : Method := { name := "<init>", desc := "([CIILjava/lang/Void;)V", sig := { parameters := [(.array .char), .int, .int, (.object "java/lang/Void")], returnType := none }, accessFlags := 2, code := some k7c7 }
def k7c8 : Code := { maxStack := 5, maxLocals := 5, code := jdk_42_method_150_code, exceptionTable := #[], attributes := #[] }
def k7m8 : Method := { name := "<init>", desc := "(Ljava/lang/AbstractStringBuilder;Ljava/lang/Void;)V", sig := { parameters := [(.object "java/lang/AbstractStringBuilder"), (.object "java/lang/Void")], returnType := none }, accessFlags := 0, code := some k7c8 }
def k7c9 : Code := { maxStack := 2, maxLocals := 3, code := jdk_42_method_151_code, exceptionTable := #[], attributes := #[] }
def k7m9 : Method := { name := "<init>", desc := "([BB)V", sig := { parameters := [(.array .byte), .byte], returnType := none }, accessFlags := 0, code := some k7c9 }
def k7c10 : Code := { maxStack := 1, maxLocals := 1, code := jdk_42_method_152_code, exceptionTable := #[], attributes := #[] }
def k7m10 : Method := { name := "coder", desc := "()B", sig := { parameters := [], returnType := some .byte }, accessFlags := 0, code := some k7c10 }
def k7c11 : Code := { maxStack := 1, maxLocals := 1, code := jdk_42_method_154_code, exceptionTable := #[], attributes := #[] }
def k7m11 : Method := { name := "isLatin1", desc := "()Z", sig := { parameters := [], returnType := some .boolean }, accessFlags := 0, code := some k7c11 }
def k7c12 : Code := { maxStack := 3, maxLocals := 2, code := jdk_42_method_155_code, exceptionTable := #[], attributes := #[] }
def k7m12 : Method := { name := "checkIndex", desc := "(II)V", sig := { parameters := [.int, .int], returnType := none }, accessFlags := 8, code := some k7c12 }
/-- java/lang/String -/
def k7 : Class := { plain "java/lang/String" (some 0) with
  accessFlags := 49
  interfaces := #[2, 3, 4, 5, 6]
  cf := some (fileOf pool7 10 #[.nestMembers #[1103]] #[{ accessFlags := 1, nameIndex := 5, descriptorIndex := 6, attributes := #[] }, { accessFlags := 1, nameIndex := 5, descriptorIndex := 1010, attributes := #[] }, { accessFlags := 1, nameIndex := 5, descriptorIndex := 1233, attributes := #[] }, { accessFlags := 1, nameIndex := 507, descriptorIndex := 334, attributes := #[] }, { accessFlags := 1, nameIndex := 497, descriptorIndex := 427, attributes := #[] }, { accessFlags := 9, nameIndex := 782, descriptorIndex := 783, attributes := #[] }, { accessFlags := 0, nameIndex := 532, descriptorIndex := 821, attributes := #[] }, { accessFlags := 2, nameIndex := 5, descriptorIndex := 29, attributes := #[] }, { accessFlags := 0, nameIndex := 5, descriptorIndex := 491, attributes := #[] }, { accessFlags := 0, nameIndex := 5, descriptorIndex := 211, attributes := #[] }, { accessFlags := 0, nameIndex := 17, descriptorIndex := 337, attributes := #[] }, { accessFlags := 0, nameIndex := 494, descriptorIndex := 142, attributes := #[] }, { accessFlags := 8, nameIndex := 501, descriptorIndex := 391, attributes := #[] }] 49 2 #[1106, 1108, 575, 1110, 1112] #[{ accessFlags := 18, nameIndex := 13, descriptorIndex := 14, attributes := #[] }, { accessFlags := 18, nameIndex := 17, descriptorIndex := 18, attributes := #[] }, { accessFlags := 2, nameIndex := 21, descriptorIndex := 22, attributes := #[] }, { accessFlags := 2, nameIndex := 25, descriptorIndex := 26, attributes := #[] }, { accessFlags := 26, nameIndex := 1116, descriptorIndex := 1117, attributes := #[] }, { accessFlags := 24, nameIndex := 40, descriptorIndex := 26, attributes := #[] }, { accessFlags := 26, nameIndex := 1101, descriptorIndex := 1102, attributes := #[] }, { accessFlags := 26, nameIndex := 1121, descriptorIndex := 1122, attributes := #[] }, { accessFlags := 25, nameIndex := 599, descriptorIndex := 600, attributes := #[] }, { accessFlags := 24, nameIndex := 1125, descriptorIndex := 18, attributes := #[] }, { accessFlags := 24, nameIndex := 1127, descriptorIndex := 18, attributes := #[] }])
  fields := #[{ name := "value", type := (.array .byte), accessFlags := 18, slot := 0, constantValue := 0 }, { name := "coder", type := .byte, accessFlags := 18, slot := 1, constantValue := 0 }, { name := "hash", type := .int, accessFlags := 2, slot := 2, constantValue := 0 }, { name := "hashIsZero", type := .boolean, accessFlags := 2, slot := 3, constantValue := 0 }, { name := "serialVersionUID", type := .long, accessFlags := 26, slot := 0, constantValue := 0 }, { name := "COMPACT_STRINGS", type := .boolean, accessFlags := 24, slot := 1, constantValue := 0 }, { name := "serialPersistentFields", type := (.array (.object "java/io/ObjectStreamField")), accessFlags := 26, slot := 2, constantValue := 0 }, { name := "REPL", type := .char, accessFlags := 26, slot := 3, constantValue := 0 }, { name := "CASE_INSENSITIVE_ORDER", type := (.object "java/util/Comparator"), accessFlags := 25, slot := 4, constantValue := 0 }, { name := "LATIN1", type := .byte, accessFlags := 24, slot := 5, constantValue := 0 }, { name := "UTF16", type := .byte, accessFlags := 24, slot := 6, constantValue := 0 }]
  methods := #[k7m0, k7m1, k7m2, k7m3, k7m4, k7m5, k7m6, k7m7, k7m8, k7m9, k7m10, k7m11, k7m12]
  instanceTypes := #[(.array .byte), .byte, .int, .boolean]
  staticTypes := #[.long, .boolean, (.array (.object "java/io/ObjectStreamField")), .char, (.object "java/util/Comparator"), .byte, .byte]
  resolved := Array.replicate 1451 none
  statics := some 0 }

def pool8 : Array CpInfo := pool [(6, .class_ 8), (1, u "java/lang/Object"), (0, u "<init>"), (0, u "()V"), (1, .class_ 14), (1, u "java/lang/StringUTF16"), (31, u "$assertionsDisabled"), (0, u "Z"), (13, u "HI_BYTE_SHIFT"), (0, u "I"), (2, u "LO_BYTE_SHIFT"), (49, .methodref 12 116), (0, .nameAndType 117 118), (0, u "compress"), (0, u "([CI[BII)I"), (3, u "([CII)[B"), (138, u "coderFromArrayLen"), (0, u "([BI)B"), (106, .class_ 371), (1, u "java/lang/StringUTF16$LinesSpliterator"), (58, u "MAX_LENGTH"), (196, .class_ 628), (0, u "java/lang/StringUTF16$CodePointsSpliterator"), (0, .class_ 630), (0, u "java/lang/StringUTF16$CharsSpliterator")] 4

def k8m0 : Method := { name := "<init>", desc := "()V", sig := { parameters := [], returnType := none }, accessFlags := 0, code := none }
def k8c1 : Code := { maxStack := 2, maxLocals := 2, code := jdk_52_method_15_code, exceptionTable := #[], attributes := #[] }
def k8m1 : Method := { name := "coderFromArrayLen", desc := "([BI)B", sig := { parameters := [(.array .byte), .int], returnType := some .byte }, accessFlags := 8, code := some k8c1 }
def k8c2 : Code := { maxStack := 5, maxLocals := 6, code := jdk_52_method_16_code, exceptionTable := #[], attributes := #[] }
def k8m2 : Method := { name := "compress", desc := "([CII)[B", sig := { parameters := [(.array .char), .int, .int], returnType := some (.array .byte) }, accessFlags := 9, code := some k8c2 }
def k8c3 : Code := { maxStack := 3, maxLocals := 7, code := jdk_52_method_21_code, exceptionTable := #[], attributes := #[] }
def k8m3 : Method := { name := "compress", desc := "([CI[BII)I", sig := { parameters := [(.array .char), .int, (.array .byte), .int, .int], returnType := some .int }, accessFlags := 9, code := some k8c3 }
/-- java/lang/StringUTF16 -/
def k8 : Class := { plain "java/lang/StringUTF16" (some 0) with
  accessFlags := 48
  interfaces := #[]
  cf := some (fileOf pool8 12 #[.nestMembers #[627, 629, 369]] #[{ accessFlags := 0, nameIndex := 9, descriptorIndex := 10, attributes := #[] }, { accessFlags := 8, nameIndex := 261, descriptorIndex := 262, attributes := #[] }, { accessFlags := 9, nameIndex := 117, descriptorIndex := 122, attributes := #[] }, { accessFlags := 9, nameIndex := 117, descriptorIndex := 118, attributes := #[] }] 48 6 #[] #[{ accessFlags := 26, nameIndex := 61, descriptorIndex := 62, attributes := #[] }, { accessFlags := 26, nameIndex := 65, descriptorIndex := 62, attributes := #[] }, { accessFlags := 24, nameIndex := 430, descriptorIndex := 62, attributes := #[] }, { accessFlags := 4120, nameIndex := 46, descriptorIndex := 47, attributes := #[] }])
  fields := #[{ name := "HI_BYTE_SHIFT", type := .int, accessFlags := 26, slot := 0, constantValue := 0 }, { name := "LO_BYTE_SHIFT", type := .int, accessFlags := 26, slot := 1, constantValue := 0 }, { name := "MAX_LENGTH", type := .int, accessFlags := 24, slot := 2, constantValue := 0 }, { name := "$assertionsDisabled", type := .boolean, accessFlags := 4120, slot := 3, constantValue := 0 }]
  methods := #[k8m0, k8m1, k8m2, k8m3]
  instanceTypes := #[]
  staticTypes := #[.int, .int, .int, .boolean]
  resolved := Array.replicate 635 none
  statics := none }

def pool9 : Array CpInfo := pool [(1, .methodref 2 3), (0, .class_ 4), (0, .nameAndType 5 6), (0, u "java/lang/Object"), (0, u "<init>"), (0, u "()V"), (0, .fieldref 8 9), (0, .class_ 10), (0, .nameAndType 11 12), (0, u "java/lang/Throwable"), (0, u "cause"), (0, u "Ljava/lang/Throwable;"), (0, .fieldref 8 14), (0, .nameAndType 15 16), (0, u "UNASSIGNED_STACK"), (0, u "[Ljava/lang/StackTraceElement;"), (0, .fieldref 8 18), (0, .nameAndType 19 16), (0, u "stackTrace"), (0, .fieldref 8 21), (0, .nameAndType 22 23), (0, u "SUPPRESSED_SENTINEL"), (0, u "Ljava/util/List;"), (0, .fieldref 8 25), (0, .nameAndType 26 23), (0, u "suppressedExceptions"), (0, .methodref 8 28), (0, .nameAndType 29 30), (0, u "fillInStackTrace"), (0, u "()Ljava/lang/Throwable;"), (0, .fieldref 8 32), (0, .nameAndType 33 34), (0, u "detailMessage"), (0, u "Ljava/lang/String;"), (3, u "()Ljava/lang/String;"), (2, u "getMessage"), (51, .class_ 94), (0, u "java/lang/Throwable$WrappedPrintStream"), (6, .class_ 103), (1, u "java/lang/Throwable$PrintStreamOrWriter"), (61, u "$assertionsDisabled"), (0, u "Z"), (26, .class_ 194), (0, u "java/lang/Throwable$WrappedPrintWriter"), (3, .fieldref 8 199), (0, .nameAndType 200 201), (0, u "backtrace"), (0, u "Ljava/lang/Object;"), (0, .methodref 8 203), (0, .nameAndType 29 204), (0, u "(I)Ljava/lang/Throwable;"), (6, u "depth"), (0, u "I"), (10, u "(Ljava/lang/String;)V"), (45, .class_ 271), (1, u "java/lang/Throwable$SentinelHolder"), (32, u "EMPTY_THROWABLE_ARRAY"), (0, u "[Ljava/lang/Throwable;"), (12, .class_ 319), (0, u "java/io/Serializable"), (0, u "serialVersionUID"), (0, u "J"), (5, u "NULL_CAUSE_MESSAGE"), (0, u "SELF_SUPPRESSION_MESSAGE"), (0, u "CAUSE_CAPTION"), (0, u "SUPPRESSED_CAPTION")] 73

def k9c0 : Code := { maxStack := 2, maxLocals := 1, code := jdk_78_method_1_code, exceptionTable := #[], attributes := #[] }
def k9m0 : Method := { name := "<init>", desc := "()V", sig := { parameters := [], returnType := none }, accessFlags := 1, code := some k9c0 }
def k9c1 : Code := { maxStack := 2, maxLocals := 2, code := jdk_78_method_2_code, exceptionTable := #[], attributes := #[] }
def k9m1 : Method := { name := "<init>", desc := "(Ljava/lang/String;)V", sig := { parameters := [(.object "java/lang/String")], returnType := none }, accessFlags := 1, code := some k9c1 }
def k9c2 : Code := { maxStack := 1, maxLocals := 1, code := jdk_78_method_6_code, exceptionTable := #[], attributes := #[] }
def k9m2 : Method := { name := "getMessage", desc := "()Ljava/lang/String;", sig := { parameters := [], returnType := some (.object "java/lang/String") }, accessFlags := 1, code := some k9c2 }
def k9c3 : Code := { maxStack := 2, maxLocals := 1, code := ⟨#[0x2a, 0xb4, 0x00, 0x11, 0xc7, 0x00, 0x0a, 0x2a, 0xb4, 0x00, 0xc6, 0xc6, 0x00, 0x10, 0x2a, 0x03, 0xb6, 0x00, 0xca, 0x57, 0x2a, 0xb2, 0x00, 0x0d, 0xb5, 0x00, 0x11, 0x2a, 0xb0]⟩, exceptionTable := #[], attributes := #[] }
def k9m3 : Method := { name := "fillInStackTrace", desc := "()Ljava/lang/Throwable;", sig := { parameters := [], returnType := some (.object "java/lang/Throwable") }, accessFlags := 33, code := some k9c3 }
def k9m4 : Method := { name := "fillInStackTrace", desc := "(I)Ljava/lang/Throwable;", sig := { parameters := [.int], returnType := some (.object "java/lang/Throwable") }, accessFlags := 258, code := none }
/-- java/lang/Throwable -/
def k9 : Class := { plain "java/lang/Throwable" (some 0) with
  accessFlags := 33
  interfaces := #[2]
  cf := some (fileOf pool9 8 #[.nestMembers #[193, 93, 101, 269]] #[{ accessFlags := 1, nameIndex := 5, descriptorIndex := 6, attributes := #[] }, { accessFlags := 1, nameIndex := 5, descriptorIndex := 223, attributes := #[] }, { accessFlags := 1, nameIndex := 41, descriptorIndex := 38, attributes := #[] }, { accessFlags := 33, nameIndex := 29, descriptorIndex := 30, attributes := #[] }, { accessFlags := 258, nameIndex := 29, descriptorIndex := 204, attributes := #[] }] 33 2 #[318] #[{ accessFlags := 26, nameIndex := 320, descriptorIndex := 321, attributes := #[] }, { accessFlags := 130, nameIndex := 200, descriptorIndex := 201, attributes := #[] }, { accessFlags := 2, nameIndex := 33, descriptorIndex := 34, attributes := #[] }, { accessFlags := 26, nameIndex := 15, descriptorIndex := 16, attributes := #[] }, { accessFlags := 2, nameIndex := 11, descriptorIndex := 12, attributes := #[] }, { accessFlags := 2, nameIndex := 19, descriptorIndex := 16, attributes := #[] }, { accessFlags := 130, nameIndex := 211, descriptorIndex := 212, attributes := #[] }, { accessFlags := 26, nameIndex := 22, descriptorIndex := 23, attributes := #[] }, { accessFlags := 2, nameIndex := 26, descriptorIndex := 23, attributes := #[] }, { accessFlags := 26, nameIndex := 327, descriptorIndex := 34, attributes := #[] }, { accessFlags := 26, nameIndex := 328, descriptorIndex := 34, attributes := #[] }, { accessFlags := 26, nameIndex := 329, descriptorIndex := 34, attributes := #[] }, { accessFlags := 26, nameIndex := 330, descriptorIndex := 34, attributes := #[] }, { accessFlags := 26, nameIndex := 304, descriptorIndex := 305, attributes := #[] }, { accessFlags := 4120, nameIndex := 165, descriptorIndex := 166, attributes := #[] }])
  fields := #[{ name := "serialVersionUID", type := .long, accessFlags := 26, slot := 0, constantValue := 0 }, { name := "backtrace", type := (.object "java/lang/Object"), accessFlags := 130, slot := 0, constantValue := 0 }, { name := "detailMessage", type := (.object "java/lang/String"), accessFlags := 2, slot := 1, constantValue := 0 }, { name := "UNASSIGNED_STACK", type := (.array (.object "java/lang/StackTraceElement")), accessFlags := 26, slot := 1, constantValue := 0 }, { name := "cause", type := (.object "java/lang/Throwable"), accessFlags := 2, slot := 2, constantValue := 0 }, { name := "stackTrace", type := (.array (.object "java/lang/StackTraceElement")), accessFlags := 2, slot := 3, constantValue := 0 }, { name := "depth", type := .int, accessFlags := 130, slot := 4, constantValue := 0 }, { name := "SUPPRESSED_SENTINEL", type := (.object "java/util/List"), accessFlags := 26, slot := 2, constantValue := 0 }, { name := "suppressedExceptions", type := (.object "java/util/List"), accessFlags := 2, slot := 5, constantValue := 0 }, { name := "NULL_CAUSE_MESSAGE", type := (.object "java/lang/String"), accessFlags := 26, slot := 3, constantValue := 0 }, { name := "SELF_SUPPRESSION_MESSAGE", type := (.object "java/lang/String"), accessFlags := 26, slot := 4, constantValue := 0 }, { name := "CAUSE_CAPTION", type := (.object "java/lang/String"), accessFlags := 26, slot := 5, constantValue := 0 }, { name := "SUPPRESSED_CAPTION", type := (.object "java/lang/String"), accessFlags := 26, slot := 6, constantValue := 0 }, { name := "EMPTY_THROWABLE_ARRAY", type := (.array (.object "java/lang/Throwable")), accessFlags := 26, slot := 7, constantValue := 0 }, { name := "$assertionsDisabled", type := .boolean, accessFlags := 4120, slot := 8, constantValue := 0 }]
  methods := #[k9m0, k9m1, k9m2, k9m3, k9m4]
  instanceTypes := #[(.object "java/lang/Object"), (.object "java/lang/String"), (.object "java/lang/Throwable"), (.array (.object "java/lang/StackTraceElement")), .int, (.object "java/util/List")]
  staticTypes := #[.long, (.array (.object "java/lang/StackTraceElement")), (.object "java/util/List"), (.object "java/lang/String"), (.object "java/lang/String"), (.object "java/lang/String"), (.object "java/lang/String"), (.array (.object "java/lang/Throwable")), .boolean]
  resolved := Array.replicate 404 none
  statics := some 1 }

def pool10 : Array CpInfo := pool [(2, .class_ 4), (1, u "java/lang/Throwable"), (0, u "<init>"), (0, u "()V"), (0, .methodref 2 8), (0, .nameAndType 5 9), (0, u "(Ljava/lang/String;)V"), (9, .class_ 20), (0, u "java/lang/Exception"), (0, u "serialVersionUID"), (0, u "J")] 17

def k10m0 : Method := { name := "<init>", desc := "()V", sig := { parameters := [], returnType := none }, accessFlags := 1, code := none }
def k10c1 : Code := { maxStack := 2, maxLocals := 2, code := jdk_59_method_2_code, exceptionTable := #[], attributes := #[] }
def k10m1 : Method := { name := "<init>", desc := "(Ljava/lang/String;)V", sig := { parameters := [(.object "java/lang/String")], returnType := none }, accessFlags := 1, code := some k10c1 }
/-- java/lang/Exception -/
def k10 : Class := { plain "java/lang/Exception" (some 9) with
  accessFlags := 33
  interfaces := #[]
  cf := some (fileOf pool10 19 #[] #[{ accessFlags := 1, nameIndex := 5, descriptorIndex := 6, attributes := #[] }, { accessFlags := 1, nameIndex := 5, descriptorIndex := 9, attributes := #[] }] 33 2 #[] #[{ accessFlags := 24, nameIndex := 21, descriptorIndex := 22, attributes := #[] }])
  fields := #[{ name := "serialVersionUID", type := .long, accessFlags := 24, slot := 0, constantValue := 0 }]
  methods := #[k10m0, k10m1]
  instanceTypes := #[(.object "java/lang/Object"), (.object "java/lang/String"), (.object "java/lang/Throwable"), (.array (.object "java/lang/StackTraceElement")), .int, (.object "java/util/List")]
  staticTypes := #[.long]
  resolved := Array.replicate 40 none
  statics := none }

def pool11 : Array CpInfo := pool [(1, .methodref 2 3), (0, .class_ 4), (0, .nameAndType 5 6), (0, u "java/lang/Exception"), (0, u "<init>"), (0, u "(Ljava/lang/String;)V"), (0, .fieldref 8 9), (0, .class_ 10), (0, .nameAndType 11 12), (0, u "com/example/excl1/excl1/cli/Refusal"), (0, u "status"), (0, u "I"), (0, .class_ 14), (0, u "java/lang/StringBuilder"), (0, .methodref 13 16), (0, .nameAndType 5 17), (0, u "()V"), (0, .methodref 13 19), (0, .nameAndType 20 21), (0, u "append"), (0, u "(Ljava/lang/String;)Ljava/lang/StringBuilder;"), (0, .string 23), (0, u "; usage: "), (0, .methodref 13 25), (0, .nameAndType 26 27), (0, u "toString"), (0, u "()Ljava/lang/String;"), (0, .methodref 8 29), (0, .nameAndType 5 30), (0, u "(ILjava/lang/String;)V"), (14, u "serialVersionUID"), (0, u "J"), (3, u "USAGE"), (1, u "STORE"), (1, u "OUTPUT"), (1, u "NOT_ACQUIRED"), (1, u "STALE"), (1, u "CANNOT_RUN"), (3, u "usage"), (0, u "(Ljava/lang/String;Ljava/lang/String;)Lcom/example/excl1/excl1/cli/Refusal;"), (9, u "()I")] 2

def k11c0 : Code := { maxStack := 2, maxLocals := 3, code := prog_8_method_1_code, exceptionTable := #[], attributes := #[] }
def k11m0 : Method := { name := "<init>", desc := "(ILjava/lang/String;)V", sig := { parameters := [.int, (.object "java/lang/String")], returnType := none }, accessFlags := 2, code := some k11c0 }
def k11c1 : Code := { maxStack := 5, maxLocals := 2, code := prog_8_method_2_code, exceptionTable := #[], attributes := #[] }
def k11m1 : Method := { name := "usage", desc := "(Ljava/lang/String;Ljava/lang/String;)Lcom/example/excl1/excl1/cli/Refusal;", sig := { parameters := [(.object "java/lang/String"), (.object "java/lang/String")], returnType := some (.object "com/example/excl1/excl1/cli/Refusal") }, accessFlags := 8, code := some k11c1 }
def k11c2 : Code := { maxStack := 1, maxLocals := 1, code := prog_8_method_9_code, exceptionTable := #[], attributes := #[] }
def k11m2 : Method := { name := "status", desc := "()I", sig := { parameters := [], returnType := some .int }, accessFlags := 0, code := some k11c2 }
/-- com/example/excl1/excl1/cli/Refusal -/
def k11 : Class := { plain "com/example/excl1/excl1/cli/Refusal" (some 10) with
  accessFlags := 48
  interfaces := #[]
  cf := some (fileOf pool11 8 #[] #[{ accessFlags := 2, nameIndex := 5, descriptorIndex := 30, attributes := #[] }, { accessFlags := 8, nameIndex := 64, descriptorIndex := 65, attributes := #[] }, { accessFlags := 0, nameIndex := 11, descriptorIndex := 75, attributes := #[] }] 48 2 #[] #[{ accessFlags := 26, nameIndex := 45, descriptorIndex := 46, attributes := #[] }, { accessFlags := 26, nameIndex := 50, descriptorIndex := 12, attributes := #[] }, { accessFlags := 26, nameIndex := 52, descriptorIndex := 12, attributes := #[] }, { accessFlags := 26, nameIndex := 54, descriptorIndex := 12, attributes := #[] }, { accessFlags := 26, nameIndex := 56, descriptorIndex := 12, attributes := #[] }, { accessFlags := 26, nameIndex := 58, descriptorIndex := 12, attributes := #[] }, { accessFlags := 26, nameIndex := 60, descriptorIndex := 12, attributes := #[] }, { accessFlags := 18, nameIndex := 11, descriptorIndex := 12, attributes := #[] }])
  fields := #[{ name := "serialVersionUID", type := .long, accessFlags := 26, slot := 0, constantValue := 0 }, { name := "USAGE", type := .int, accessFlags := 26, slot := 1, constantValue := 0 }, { name := "STORE", type := .int, accessFlags := 26, slot := 2, constantValue := 0 }, { name := "OUTPUT", type := .int, accessFlags := 26, slot := 3, constantValue := 0 }, { name := "NOT_ACQUIRED", type := .int, accessFlags := 26, slot := 4, constantValue := 0 }, { name := "STALE", type := .int, accessFlags := 26, slot := 5, constantValue := 0 }, { name := "CANNOT_RUN", type := .int, accessFlags := 26, slot := 6, constantValue := 0 }, { name := "status", type := .int, accessFlags := 18, slot := 6, constantValue := 0 }]
  methods := #[k11m0, k11m1, k11m2]
  instanceTypes := #[(.object "java/lang/Object"), (.object "java/lang/String"), (.object "java/lang/Throwable"), (.array (.object "java/lang/StackTraceElement")), .int, (.object "java/util/List"), .int]
  staticTypes := #[.long, .int, .int, .int, .int, .int, .int]
  resolved := Array.replicate 78 none
  statics := none }

def pool12 : Array CpInfo := pool [(1, .class_ 2), (0, u "java/lang/Appendable"), (0, .class_ 4), (0, u "java/lang/Object")] 9

/-- java/lang/Appendable -/
def k12 : Class := { plain "java/lang/Appendable" (some 0) with
  accessFlags := 1537
  interfaces := #[]
  cf := some (fileOf pool12 1 #[] #[] 1537 3 #[] #[])
  fields := #[]
  methods := #[]
  instanceTypes := #[]
  staticTypes := #[]
  resolved := Array.replicate 14 none
  statics := none }

def pool13 : Array CpInfo := pool [(1, .class_ 2), (0, u "java/lang/String"), (0, .methodref 4 5), (0, .class_ 6), (0, .nameAndType 7 8), (0, u "java/lang/Object"), (0, u "<init>"), (0, u "()V"), (1, .class_ 12), (1, u "java/lang/AbstractStringBuilder"), (0, u "EMPTYVALUE"), (0, u "[B"), (0, .fieldref 10 16), (0, .nameAndType 17 14), (0, u "value"), (0, .fieldref 1 19), (0, .nameAndType 20 21), (0, u "COMPACT_STRINGS"), (0, u "Z"), (0, .fieldref 10 23), (0, .nameAndType 24 25), (0, u "coder"), (0, u "B"), (6, .methodref 1 33), (0, .nameAndType 34 35), (0, u "length"), (0, u "()I"), (4, .methodref 1 41), (0, .nameAndType 24 42), (0, u "()B"), (2, u "append"), (0, u "(Ljava/lang/String;)Ljava/lang/AbstractStringBuilder;"), (1, .class_ 49), (0, u "java/lang/CharSequence"), (19, u "(Ljava/lang/String;)V"), (5, u "maybeLatin1"), (3, .fieldref 10 80), (0, .nameAndType 81 82), (0, u "count"), (0, u "I"), (2, u "isLatin1"), (0, u "()Z"), (13, .methodref 10 101), (0, .nameAndType 102 103), (0, u "ensureCapacityInternal"), (0, u "(I)V"), (104, .methodref 10 209), (0, .nameAndType 210 211), (0, u "putStringAt"), (0, u "(ILjava/lang/String;)V"), (5, u "inflateIfNeededFor"), (2, .nameAndType 221 222), (0, u "getBytes"), (0, u "([BIB)V"), (174, .methodref 10 398), (0, .nameAndType 217 69), (0, .methodref 1 220), (3, u "()[B"), (40, .class_ 445), (0, u "java/lang/Appendable"), (106, u "getValue")] 56

def k13m0 : Method := { name := "<init>", desc := "()V", sig := { parameters := [], returnType := none }, accessFlags := 0, code := none }
def k13c1 : Code := { maxStack := 2, maxLocals := 2, code := jdk_68_method_2_code, exceptionTable := #[], attributes := #[] }
def k13m1 : Method := { name := "<init>", desc := "(I)V", sig := { parameters := [.int], returnType := none }, accessFlags := 0, code := some k13c1 }
def k13c2 : Code := { maxStack := 1, maxLocals := 1, code := jdk_68_method_6_code, exceptionTable := #[], attributes := #[] }
def k13m2 : Method := { name := "length", desc := "()I", sig := { parameters := [], returnType := some .int }, accessFlags := 1, code := some k13c2 }
def k13c3 : Code := { maxStack := 4, maxLocals := 3, code := jdk_68_method_9_code, exceptionTable := #[], attributes := #[] }
def k13m3 : Method := { name := "ensureCapacityInternal", desc := "(I)V", sig := { parameters := [.int], returnType := none }, accessFlags := 2, code := some k13c3 }
def k13c4 : Code := { maxStack := 3, maxLocals := 3, code := jdk_68_method_22_code, exceptionTable := #[], attributes := #[] }
def k13m4 : Method := { name := "append", desc := "(Ljava/lang/String;)Ljava/lang/AbstractStringBuilder;", sig := { parameters := [(.object "java/lang/String")], returnType := some (.object "java/lang/AbstractStringBuilder") }, accessFlags := 1, code := some k13c4 }
def k13c5 : Code := { maxStack := 1, maxLocals := 1, code := jdk_68_method_64_code, exceptionTable := #[], attributes := #[] }
def k13m5 : Method := { name := "getValue", desc := "()[B", sig := { parameters := [], returnType := some (.array .byte) }, accessFlags := 16, code := some k13c5 }
def k13c6 : Code := { maxStack := 1, maxLocals := 1, code := jdk_68_method_68_code, exceptionTable := #[], attributes := #[] }
def k13m6 : Method := { name := "isLatin1", desc := "()Z", sig := { parameters := [], returnType := some .boolean }, accessFlags := 16, code := some k13c6 }
def k13c7 : Code := { maxStack := 2, maxLocals := 2, code := jdk_68_method_71_code, exceptionTable := #[], attributes := #[] }
def k13m7 : Method := { name := "inflateIfNeededFor", desc := "(Ljava/lang/String;)V", sig := { parameters := [(.object "java/lang/String")], returnType := none }, accessFlags := 2, code := some k13c7 }
def k13c8 : Code := { maxStack := 4, maxLocals := 3, code := jdk_68_method_73_code, exceptionTable := #[], attributes := #[] }
def k13m8 : Method := { name := "putStringAt", desc := "(ILjava/lang/String;)V", sig := { parameters := [.int, (.object "java/lang/String")], returnType := none }, accessFlags := 2, code := some k13c8 }
/-- java/lang/AbstractStringBuilder -/
def k13 : Class := { plain "java/lang/AbstractStringBuilder" (some 0) with
  accessFlags := 1056
  interfaces := #[12, 4]
  cf := some (fileOf pool13 10 #[] #[{ accessFlags := 0, nameIndex := 7, descriptorIndex := 8, attributes := #[] }, { accessFlags := 0, nameIndex := 7, descriptorIndex := 103, attributes := #[] }, { accessFlags := 1, nameIndex := 34, descriptorIndex := 35, attributes := #[] }, { accessFlags := 2, nameIndex := 102, descriptorIndex := 103, attributes := #[] }, { accessFlags := 1, nameIndex := 45, descriptorIndex := 46, attributes := #[] }, { accessFlags := 16, nameIndex := 552, descriptorIndex := 403, attributes := #[] }, { accessFlags := 16, nameIndex := 85, descriptorIndex := 86, attributes := #[] }, { accessFlags := 2, nameIndex := 217, descriptorIndex := 69, attributes := #[] }, { accessFlags := 2, nameIndex := 210, descriptorIndex := 211, attributes := #[] }] 1056 4 #[444, 48] #[{ accessFlags := 0, nameIndex := 17, descriptorIndex := 14, attributes := #[] }, { accessFlags := 0, nameIndex := 24, descriptorIndex := 25, attributes := #[] }, { accessFlags := 0, nameIndex := 75, descriptorIndex := 21, attributes := #[] }, { accessFlags := 0, nameIndex := 81, descriptorIndex := 82, attributes := #[] }, { accessFlags := 26, nameIndex := 13, descriptorIndex := 14, attributes := #[] }])
  fields := #[{ name := "value", type := (.array .byte), accessFlags := 0, slot := 0, constantValue := 0 }, { name := "coder", type := .byte, accessFlags := 0, slot := 1, constantValue := 0 }, { name := "maybeLatin1", type := .boolean, accessFlags := 0, slot := 2, constantValue := 0 }, { name := "count", type := .int, accessFlags := 0, slot := 3, constantValue := 0 }, { name := "EMPTYVALUE", type := (.array .byte), accessFlags := 26, slot := 0, constantValue := 0 }]
  methods := #[k13m0, k13m1, k13m2, k13m3, k13m4, k13m5, k13m6, k13m7, k13m8]
  instanceTypes := #[(.array .byte), .byte, .boolean, .int]
  staticTypes := #[(.array .byte)]
  resolved := Array.replicate 609 none
  statics := none }

def pool14 : Array CpInfo := pool [(1, .methodref 2 3), (0, .class_ 4), (0, .nameAndType 5 6), (0, u "java/lang/AbstractStringBuilder"), (0, u "<init>"), (0, u "(I)V"), (11, .class_ 20), (1, u "java/lang/String"), (3, .class_ 26), (1, u "java/lang/StringBuilder"), (0, u "append"), (0, u "(Ljava/lang/String;)Ljava/lang/StringBuilder;"), (0, .methodref 2 30), (0, .nameAndType 27 31), (0, u "(Ljava/lang/String;)Ljava/lang/AbstractStringBuilder;"), (105, .methodref 18 138), (0, .nameAndType 5 139), (0, u "(Ljava/lang/StringBuilder;)V"), (5, u "()V"), (10, u "()I"), (186, .methodref 2 344), (0, .nameAndType 345 156), (0, u "length"), (3, .class_ 350), (0, u "java/lang/Appendable"), (0, .class_ 352), (0, u "java/io/Serializable"), (0, .class_ 354), (0, u "java/lang/Comparable"), (0, .class_ 356), (0, u "java/lang/CharSequence"), (0, u "serialVersionUID"), (0, u "J"), (40, u "toString"), (0, u "()Ljava/lang/String;")] 21

def k14c0 : Code := { maxStack := 2, maxLocals := 1, code := jdk_67_method_1_code, exceptionTable := #[], attributes := #[] }
def k14m0 : Method := { name := "<init>", desc := "()V", sig := { parameters := [], returnType := none }, accessFlags := 1, code := some k14c0 }
def k14c1 : Code := { maxStack := 2, maxLocals := 2, code := jdk_67_method_7_code, exceptionTable := #[], attributes := #[] }
def k14m1 : Method := { name := "append", desc := "(Ljava/lang/String;)Ljava/lang/StringBuilder;", sig := { parameters := [(.object "java/lang/String")], returnType := some (.object "java/lang/StringBuilder") }, accessFlags := 1, code := some k14c1 }
def k14c2 : Code := { maxStack := 3, maxLocals := 1, code := jdk_67_method_42_code, exceptionTable := #[], attributes := #[] }
def k14m2 : Method := { name := "toString", desc := "()Ljava/lang/String;", sig := { parameters := [], returnType := some (.object "java/lang/String") }, accessFlags := 1, code := some k14c2 }
def k14c3 : Code := { maxStack := 1, maxLocals := 1, code := jdk_67_method_93_code, exceptionTable := #[], attributes := #[] }
def k14m3 : Method := { name := "length", desc := "()I", sig := { parameters := [], returnType := some .int }, accessFlags := 4161, code := some k14c3 }
/-- java/lang/StringBuilder -/
def k14 : Class := { plain "java/lang/StringBuilder" (some 13) with
  accessFlags := 49
  interfaces := #[12, 2, 3, 4]
  cf := some (fileOf pool14 24 #[] #[{ accessFlags := 1, nameIndex := 5, descriptorIndex := 145, attributes := #[] }, { accessFlags := 1, nameIndex := 27, descriptorIndex := 28, attributes := #[] }, { accessFlags := 1, nameIndex := 399, descriptorIndex := 400, attributes := #[] }, { accessFlags := 4161, nameIndex := 345, descriptorIndex := 156, attributes := #[] }] 49 2 #[349, 351, 353, 355] #[{ accessFlags := 24, nameIndex := 357, descriptorIndex := 358, attributes := #[] }])
  fields := #[{ name := "serialVersionUID", type := .long, accessFlags := 24, slot := 0, constantValue := 0 }]
  methods := #[k14m0, k14m1, k14m2, k14m3]
  instanceTypes := #[(.array .byte), .byte, .boolean, .int]
  staticTypes := #[.long]
  resolved := Array.replicate 422 none
  statics := none }

def pool15 : Array CpInfo := pool [(2, .class_ 4), (1, u "java/lang/Object"), (0, u "<init>"), (0, u "()V"), (1, .class_ 10), (1, u "java/lang/System"), (0, u "allowSecurityManager"), (0, u "I"), (16, u "cons"), (0, u "Ljava/io/Console;"), (77, .class_ 110), (1, u "java/lang/System$CallersHolder"), (43, u "initialErrStream"), (0, u "Ljava/io/PrintStream;"), (19, u "security"), (0, u "Ljava/lang/SecurityManager;"), (31, .class_ 209), (0, u "java/lang/System$1"), (7, u "props"), (0, u "Ljava/util/Properties;"), (2, u "lineSeparator"), (0, u "Ljava/lang/String;"), (96, .class_ 321), (1, u "java/lang/System$LoggerFinder"), (5, .class_ 328), (0, u "java/lang/System$Logger"), (67, u "err"), (2, u "out"), (91, u "notSupportedJnuEncoding"), (15, u "in"), (17, u "initialIn"), (0, u "Ljava/io/InputStream;"), (35, u "bootLayer"), (0, u "Ljava/lang/ModuleLayer;"), (99, .class_ 664), (0, u "java/lang/System$2"), (9, u "NEVER"), (2, u "MAYBE"), (49, u "arraycopy"), (0, u "(Ljava/lang/Object;ILjava/lang/Object;II)V"), (72, .class_ 802), (0, u "java/lang/System$Logger$Level")] 31

def k15m0 : Method := { name := "<init>", desc := "()V", sig := { parameters := [], returnType := none }, accessFlags := 2, code := none }
def k15m1 : Method := { name := "arraycopy", desc := "(Ljava/lang/Object;ILjava/lang/Object;II)V", sig := { parameters := [(.object "java/lang/Object"), .int, (.object "java/lang/Object"), .int, .int], returnType := none }, accessFlags := 265, code := none }
/-- java/lang/System -/
def k15 : Class := { plain "java/lang/System" (some 0) with
  accessFlags := 49
  interfaces := #[]
  cf := some (fileOf pool15 8 #[.nestMembers #[319, 327, 801, 108, 663, 208]] #[{ accessFlags := 2, nameIndex := 5, descriptorIndex := 6, attributes := #[] }, { accessFlags := 265, nameIndex := 727, descriptorIndex := 728, attributes := #[] }] 49 2 #[] #[{ accessFlags := 25, nameIndex := 507, descriptorIndex := 526, attributes := #[] }, { accessFlags := 25, nameIndex := 399, descriptorIndex := 155, attributes := #[] }, { accessFlags := 25, nameIndex := 396, descriptorIndex := 155, attributes := #[] }, { accessFlags := 10, nameIndex := 525, descriptorIndex := 526, attributes := #[] }, { accessFlags := 26, nameIndex := 674, descriptorIndex := 12, attributes := #[] }, { accessFlags := 26, nameIndex := 677, descriptorIndex := 12, attributes := #[] }, { accessFlags := 10, nameIndex := 11, descriptorIndex := 12, attributes := #[] }, { accessFlags := 74, nameIndex := 175, descriptorIndex := 176, attributes := #[] }, { accessFlags := 10, nameIndex := 491, descriptorIndex := 222, attributes := #[] }, { accessFlags := 74, nameIndex := 29, descriptorIndex := 30, attributes := #[] }, { accessFlags := 74, nameIndex := 154, descriptorIndex := 155, attributes := #[] }, { accessFlags := 10, nameIndex := 217, descriptorIndex := 218, attributes := #[] }, { accessFlags := 10, nameIndex := 221, descriptorIndex := 222, attributes := #[] }, { accessFlags := 8, nameIndex := 562, descriptorIndex := 563, attributes := #[] }])
  fields := #[{ name := "in", type := (.object "java/io/InputStream"), accessFlags := 25, slot := 0, constantValue := 0 }, { name := "out", type := (.object "java/io/PrintStream"), accessFlags := 25, slot := 1, constantValue := 0 }, { name := "err", type := (.object "java/io/PrintStream"), accessFlags := 25, slot := 2, constantValue := 0 }, { name := "initialIn", type := (.object "java/io/InputStream"), accessFlags := 10, slot := 3, constantValue := 0 }, { name := "NEVER", type := .int, accessFlags := 26, slot := 4, constantValue := 0 }, { name := "MAYBE", type := .int, accessFlags := 26, slot := 5, constantValue := 0 }, { name := "allowSecurityManager", type := .int, accessFlags := 10, slot := 6, constantValue := 0 }, { name := "security", type := (.object "java/lang/SecurityManager"), accessFlags := 74, slot := 7, constantValue := 0 }, { name := "notSupportedJnuEncoding", type := (.object "java/lang/String"), accessFlags := 10, slot := 8, constantValue := 0 }, { name := "cons", type := (.object "java/io/Console"), accessFlags := 74, slot := 9, constantValue := 0 }, { name := "initialErrStream", type := (.object "java/io/PrintStream"), accessFlags := 74, slot := 10, constantValue := 0 }, { name := "props", type := (.object "java/util/Properties"), accessFlags := 10, slot := 11, constantValue := 0 }, { name := "lineSeparator", type := (.object "java/lang/String"), accessFlags := 10, slot := 12, constantValue := 0 }, { name := "bootLayer", type := (.object "java/lang/ModuleLayer"), accessFlags := 8, slot := 13, constantValue := 0 }]
  methods := #[k15m0, k15m1]
  instanceTypes := #[]
  staticTypes := #[(.object "java/io/InputStream"), (.object "java/io/PrintStream"), (.object "java/io/PrintStream"), (.object "java/io/InputStream"), .int, .int, .int, (.object "java/lang/SecurityManager"), (.object "java/lang/String"), (.object "java/io/Console"), (.object "java/io/PrintStream"), (.object "java/util/Properties"), (.object "java/lang/String"), (.object "java/lang/ModuleLayer")]
  resolved := Array.replicate 834 none
  statics := none }

def pool16 : Array CpInfo := pool [(2, .class_ 4), (1, u "java/lang/Object"), (0, u "<init>"), (0, u "()V"), (7, .class_ 16), (1, u "java/util/Arrays"), (57, .class_ 76), (1, u "java/util/Arrays$NaturalOrder"), (36, .class_ 115), (1, u "java/util/Arrays$LegacyMergeSort"), (1, u "Z"), (21, u "copyOfRange"), (10, .methodref 151 152), (0, .class_ 153), (0, .nameAndType 154 155), (0, u "java/lang/System"), (0, u "arraycopy"), (0, u "(Ljava/lang/Object;ILjava/lang/Object;II)V"), (148, .methodref 305 306), (0, .class_ 307), (0, .nameAndType 308 309), (0, u "java/lang/Math"), (0, u "min"), (0, u "(II)I"), (29, .methodref 14 340), (0, .nameAndType 341 342), (0, u "copyOfRangeByte"), (0, u "([BII)[B"), (0, .methodref 14 344), (0, .nameAndType 345 346), (0, u "checkLength"), (0, u "(II)V"), (28, .class_ 376), (0, u "java/util/Arrays$ArrayList"), (68, u "$assertionsDisabled"), (269, u "MIN_ARRAY_SORT_GRAN"), (0, u "I"), (2, u "INSERTIONSORT_THRESHOLD"), (255, .class_ 976), (0, u "java/util/Arrays$ArrayItr")] 52

def k16m0 : Method := { name := "<init>", desc := "()V", sig := { parameters := [], returnType := none }, accessFlags := 2, code := none }
def k16c1 : Code := { maxStack := 4, maxLocals := 2, code := jdk_65_method_131_code, exceptionTable := #[], attributes := #[] }
def k16m1 : Method := { name := "checkLength", desc := "(II)V", sig := { parameters := [.int, .int], returnType := none }, accessFlags := 10, code := some k16c1 }
def k16c2 : Code := { maxStack := 3, maxLocals := 3, code := jdk_65_method_132_code, exceptionTable := #[], attributes := #[] }
def k16m2 : Method := { name := "copyOfRange", desc := "([BII)[B", sig := { parameters := [(.array .byte), .int, .int], returnType := some (.array .byte) }, accessFlags := 9, code := some k16c2 }
def k16c3 : Code := { maxStack := 6, maxLocals := 5, code := jdk_65_method_133_code, exceptionTable := #[], attributes := #[] }
def k16m3 : Method := { name := "copyOfRangeByte", desc := "([BII)[B", sig := { parameters := [(.array .byte), .int, .int], returnType := some (.array .byte) }, accessFlags := 10, code := some k16c3 }
/-- java/util/Arrays -/
def k16 : Class := { plain "java/util/Arrays" (some 0) with
  accessFlags := 49
  interfaces := #[]
  cf := some (fileOf pool16 14 #[.nestMembers #[975, 375, 113, 74]] #[{ accessFlags := 2, nameIndex := 5, descriptorIndex := 6, attributes := #[] }, { accessFlags := 10, nameIndex := 345, descriptorIndex := 346, attributes := #[] }, { accessFlags := 9, nameIndex := 139, descriptorIndex := 342, attributes := #[] }, { accessFlags := 10, nameIndex := 341, descriptorIndex := 342, attributes := #[] }] 49 2 #[] #[{ accessFlags := 26, nameIndex := 715, descriptorIndex := 716, attributes := #[] }, { accessFlags := 26, nameIndex := 719, descriptorIndex := 716, attributes := #[] }, { accessFlags := 4120, nameIndex := 445, descriptorIndex := 117, attributes := #[] }])
  fields := #[{ name := "MIN_ARRAY_SORT_GRAN", type := .int, accessFlags := 26, slot := 0, constantValue := 0 }, { name := "INSERTIONSORT_THRESHOLD", type := .int, accessFlags := 26, slot := 1, constantValue := 0 }, { name := "$assertionsDisabled", type := .boolean, accessFlags := 4120, slot := 2, constantValue := 0 }]
  methods := #[k16m0, k16m1, k16m2, k16m3]
  instanceTypes := #[]
  staticTypes := #[.int, .int, .boolean]
  resolved := Array.replicate 1029 none
  statics := none }

def pool17 : Array CpInfo := pool [(1, .class_ 2), (0, u "java/lang/Math"), (1, .class_ 6), (1, u "java/lang/Object"), (0, u "<init>"), (0, u "()V"), (89, .class_ 100), (1, u "java/lang/Math$RandomNumberGeneratorHolder"), (71, u "negativeZeroFloatBits"), (0, u "J"), (2, u "negativeZeroDoubleBits"), (24, u "min"), (43, u "$assertionsDisabled"), (0, u "Z"), (88, u "(II)I"), (2, u "twoToTheDoubleScaleDown"), (0, u "D"), (4, u "twoToTheDoubleScaleUp"), (9, u "E"), (3, u "PI"), (2, u "TAU"), (2, u "DEGREES_TO_RADIANS"), (0, u "RADIANS_TO_DEGREES")] 94

def k17m0 : Method := { name := "<init>", desc := "()V", sig := { parameters := [], returnType := none }, accessFlags := 2, code := none }
def k17c1 : Code := { maxStack := 2, maxLocals := 2, code := jdk_29_method_69_code, exceptionTable := #[], attributes := #[] }
def k17m1 : Method := { name := "min", desc := "(II)I", sig := { parameters := [.int, .int], returnType := some .int }, accessFlags := 9, code := some k17c1 }
/-- java/lang/Math -/
def k17 : Class := { plain "java/lang/Math" (some 0) with
  accessFlags := 49
  interfaces := #[]
  cf := some (fileOf pool17 1 #[.nestMembers #[98]] #[{ accessFlags := 2, nameIndex := 7, descriptorIndex := 8, attributes := #[] }, { accessFlags := 9, nameIndex := 201, descriptorIndex := 335, attributes := #[] }] 49 4 #[] #[{ accessFlags := 25, nameIndex := 354, descriptorIndex := 339, attributes := #[] }, { accessFlags := 25, nameIndex := 358, descriptorIndex := 339, attributes := #[] }, { accessFlags := 25, nameIndex := 361, descriptorIndex := 339, attributes := #[] }, { accessFlags := 26, nameIndex := 364, descriptorIndex := 339, attributes := #[] }, { accessFlags := 26, nameIndex := 365, descriptorIndex := 339, attributes := #[] }, { accessFlags := 26, nameIndex := 172, descriptorIndex := 173, attributes := #[] }, { accessFlags := 26, nameIndex := 176, descriptorIndex := 173, attributes := #[] }, { accessFlags := 8, nameIndex := 344, descriptorIndex := 339, attributes := #[] }, { accessFlags := 8, nameIndex := 338, descriptorIndex := 339, attributes := #[] }, { accessFlags := 4120, nameIndex := 245, descriptorIndex := 246, attributes := #[] }])
  fields := #[{ name := "E", type := .double, accessFlags := 25, slot := 0, constantValue := 0 }, { name := "PI", type := .double, accessFlags := 25, slot := 1, constantValue := 0 }, { name := "TAU", type := .double, accessFlags := 25, slot := 2, constantValue := 0 }, { name := "DEGREES_TO_RADIANS", type := .double, accessFlags := 26, slot := 3, constantValue := 0 }, { name := "RADIANS_TO_DEGREES", type := .double, accessFlags := 26, slot := 4, constantValue := 0 }, { name := "negativeZeroFloatBits", type := .long, accessFlags := 26, slot := 5, constantValue := 0 }, { name := "negativeZeroDoubleBits", type := .long, accessFlags := 26, slot := 6, constantValue := 0 }, { name := "twoToTheDoubleScaleUp", type := .double, accessFlags := 8, slot := 7, constantValue := 0 }, { name := "twoToTheDoubleScaleDown", type := .double, accessFlags := 8, slot := 8, constantValue := 0 }, { name := "$assertionsDisabled", type := .boolean, accessFlags := 4120, slot := 9, constantValue := 0 }]
  methods := #[k17m0, k17m1]
  instanceTypes := #[]
  staticTypes := #[.double, .double, .double, .double, .double, .long, .long, .double, .double, .boolean]
  resolved := Array.replicate 460 none
  statics := none }

def pool18 : Array CpInfo := pool [(1, .class_ 2), (0, u "java/lang/String"), (1, .class_ 6), (1, u "java/lang/Object"), (0, u "<init>"), (0, u "()V"), (0, .methodref 1 10), (0, .nameAndType 11 12), (0, u "checkIndex"), (0, u "(II)V"), (1, .class_ 16), (1, u "java/lang/StringLatin1"), (36, u "([BI)C"), (36, u "canEncode"), (14, u "(C)Z"), (15, u "$assertionsDisabled"), (0, u "Z"), (98, .class_ 223), (1, u "java/lang/StringLatin1$LinesSpliterator"), (28, u "charAt"), (127, u "toBytes"), (1, u "(C)[B"), (7, .class_ 391), (0, u "java/lang/StringLatin1$CharsSpliterator")] 3

def k18m0 : Method := { name := "<init>", desc := "()V", sig := { parameters := [], returnType := none }, accessFlags := 0, code := none }
def k18c1 : Code := { maxStack := 2, maxLocals := 2, code := jdk_43_method_2_code, exceptionTable := #[], attributes := #[] }
def k18m1 : Method := { name := "charAt", desc := "([BI)C", sig := { parameters := [(.array .byte), .int], returnType := some .char }, accessFlags := 9, code := some k18c1 }
def k18c2 : Code := { maxStack := 2, maxLocals := 1, code := jdk_43_method_3_code, exceptionTable := #[], attributes := #[] }
def k18m2 : Method := { name := "canEncode", desc := "(C)Z", sig := { parameters := [.char], returnType := some .boolean }, accessFlags := 9, code := some k18c2 }
def k18c3 : Code := { maxStack := 4, maxLocals := 1, code := jdk_43_method_46_code, exceptionTable := #[], attributes := #[] }
def k18m3 : Method := { name := "toBytes", desc := "(C)[B", sig := { parameters := [.char], returnType := some (.array .byte) }, accessFlags := 9, code := some k18c3 }
/-- java/lang/StringLatin1 -/
def k18 : Class := { plain "java/lang/StringLatin1" (some 0) with
  accessFlags := 48
  interfaces := #[]
  cf := some (fileOf pool18 14 #[.nestMembers #[390, 221]] #[{ accessFlags := 0, nameIndex := 7, descriptorIndex := 8, attributes := #[] }, { accessFlags := 9, nameIndex := 252, descriptorIndex := 53, attributes := #[] }, { accessFlags := 9, nameIndex := 90, descriptorIndex := 105, attributes := #[] }, { accessFlags := 9, nameIndex := 380, descriptorIndex := 382, attributes := #[] }] 48 4 #[] #[{ accessFlags := 4120, nameIndex := 121, descriptorIndex := 122, attributes := #[] }])
  fields := #[{ name := "$assertionsDisabled", type := .boolean, accessFlags := 4120, slot := 0, constantValue := 0 }]
  methods := #[k18m0, k18m1, k18m2, k18m3]
  instanceTypes := #[]
  staticTypes := #[.boolean]
  resolved := Array.replicate 395 none
  statics := none }

def pool19 : Array CpInfo := pool [(2, .class_ 4), (1, u "java/lang/Object"), (0, u "<init>"), (0, u "()V"), (17, .class_ 26), (1, u "jdk/internal/util/Preconditions"), (6, u "checkIndex"), (21, .class_ 56), (0, u "jdk/internal/util/Preconditions$4"), (57, .class_ 115), (0, u "jdk/internal/util/Preconditions$1"), (7, u "SIOOBE_FORMATTER"), (0, u "Ljava/util/function/BiFunction;"), (0, .class_ 126), (0, u "jdk/internal/util/Preconditions$2"), (3, u "AIOOBE_FORMATTER"), (0, .class_ 132), (0, u "jdk/internal/util/Preconditions$3"), (3, u "IOOBE_FORMATTER"), (41, u "(IILjava/util/function/BiFunction;)I")] 15

def k19m0 : Method := { name := "<init>", desc := "()V", sig := { parameters := [], returnType := none }, accessFlags := 1, code := none }
def k19c1 : Code := { maxStack := 3, maxLocals := 3, code := jdk_41_method_11_code, exceptionTable := #[], attributes := #[] }
def k19m1 : Method := { name := "checkIndex", desc := "(IILjava/util/function/BiFunction;)I", sig := { parameters := [.int, .int, (.object "java/util/function/BiFunction")], returnType := some .int }, accessFlags := 9, code := some k19c1 }
/-- jdk/internal/util/Preconditions -/
def k19 : Class := { plain "jdk/internal/util/Preconditions" (some 0) with
  accessFlags := 33
  interfaces := #[]
  cf := some (fileOf pool19 24 #[.nestMembers #[55, 131, 125, 114]] #[{ accessFlags := 1, nameIndex := 5, descriptorIndex := 6, attributes := #[] }, { accessFlags := 9, nameIndex := 33, descriptorIndex := 178, attributes := #[] }] 33 2 #[] #[{ accessFlags := 25, nameIndex := 123, descriptorIndex := 124, attributes := #[] }, { accessFlags := 25, nameIndex := 130, descriptorIndex := 124, attributes := #[] }, { accessFlags := 25, nameIndex := 136, descriptorIndex := 124, attributes := #[] }])
  fields := #[{ name := "SIOOBE_FORMATTER", type := (.object "java/util/function/BiFunction"), accessFlags := 25, slot := 0, constantValue := 0 }, { name := "AIOOBE_FORMATTER", type := (.object "java/util/function/BiFunction"), accessFlags := 25, slot := 1, constantValue := 0 }, { name := "IOOBE_FORMATTER", type := (.object "java/util/function/BiFunction"), accessFlags := 25, slot := 2, constantValue := 0 }]
  methods := #[k19m0, k19m1]
  instanceTypes := #[]
  staticTypes := #[(.object "java/util/function/BiFunction"), (.object "java/util/function/BiFunction"), (.object "java/util/function/BiFunction")]
  resolved := Array.replicate 194 none
  statics := some 2 }

def pool20 : Array CpInfo := pool [(9, u "<init>"), (6, .class_ 18), (1, u "java/lang/Object"), (0, u "()V"), (1, .class_ 23), (1, u "jdk/internal/util/ArraysSupport"), (0, u "LOG2_ARRAY_LONG_INDEX_SCALE"), (0, u "I"), (2, u "U"), (0, u "Ljdk/internal/misc/Unsafe;"), (8, u "BIG_ENDIAN"), (0, u "Z"), (8, u "LOG2_BYTE_BIT_SIZE"), (4, u "LOG2_ARRAY_INT_INDEX_SCALE"), (54, u "JLA"), (0, u "Ljdk/internal/access/JavaLangAccess;"), (11, u "LOG2_ARRAY_BOOLEAN_INDEX_SCALE"), (9, u "LOG2_ARRAY_BYTE_INDEX_SCALE"), (5, u "LOG2_ARRAY_CHAR_INDEX_SCALE"), (5, u "LOG2_ARRAY_SHORT_INDEX_SCALE"), (18, u "LOG2_ARRAY_FLOAT_INDEX_SCALE"), (24, u "LOG2_ARRAY_DOUBLE_INDEX_SCALE"), (89, u "T_BOOLEAN"), (2, u "T_CHAR"), (1, u "T_FLOAT"), (1, u "T_DOUBLE"), (1, u "T_BYTE"), (1, u "T_SHORT"), (1, u "T_INT"), (1, u "T_LONG"), (1, u "SOFT_MAX_ARRAY_LENGTH")] 83

def k20m0 : Method := { name := "<init>", desc := "()V", sig := { parameters := [], returnType := none }, accessFlags := 2, code := none }
/-- jdk/internal/util/ArraysSupport -/
def k20 : Class := { plain "jdk/internal/util/ArraysSupport" (some 0) with
  accessFlags := 33
  interfaces := #[]
  cf := some (fileOf pool20 21 #[] #[{ accessFlags := 2, nameIndex := 9, descriptorIndex := 19, attributes := #[] }] 33 16 #[] #[{ accessFlags := 24, nameIndex := 28, descriptorIndex := 29, attributes := #[] }, { accessFlags := 26, nameIndex := 38, descriptorIndex := 39, attributes := #[] }, { accessFlags := 25, nameIndex := 121, descriptorIndex := 25, attributes := #[] }, { accessFlags := 25, nameIndex := 131, descriptorIndex := 25, attributes := #[] }, { accessFlags := 25, nameIndex := 137, descriptorIndex := 25, attributes := #[] }, { accessFlags := 25, nameIndex := 143, descriptorIndex := 25, attributes := #[] }, { accessFlags := 25, nameIndex := 53, descriptorIndex := 25, attributes := #[] }, { accessFlags := 25, nameIndex := 24, descriptorIndex := 25, attributes := #[] }, { accessFlags := 25, nameIndex := 162, descriptorIndex := 25, attributes := #[] }, { accessFlags := 25, nameIndex := 187, descriptorIndex := 25, attributes := #[] }, { accessFlags := 26, nameIndex := 48, descriptorIndex := 25, attributes := #[] }, { accessFlags := 25, nameIndex := 277, descriptorIndex := 25, attributes := #[] }, { accessFlags := 25, nameIndex := 280, descriptorIndex := 25, attributes := #[] }, { accessFlags := 25, nameIndex := 282, descriptorIndex := 25, attributes := #[] }, { accessFlags := 25, nameIndex := 284, descriptorIndex := 25, attributes := #[] }, { accessFlags := 25, nameIndex := 286, descriptorIndex := 25, attributes := #[] }, { accessFlags := 25, nameIndex := 288, descriptorIndex := 25, attributes := #[] }, { accessFlags := 25, nameIndex := 290, descriptorIndex := 25, attributes := #[] }, { accessFlags := 25, nameIndex := 292, descriptorIndex := 25, attributes := #[] }, { accessFlags := 26, nameIndex := 108, descriptorIndex := 109, attributes := #[] }, { accessFlags := 25, nameIndex := 294, descriptorIndex := 25, attributes := #[] }])
  fields := #[{ name := "U", type := (.object "jdk/internal/misc/Unsafe"), accessFlags := 24, slot := 0, constantValue := 0 }, { name := "BIG_ENDIAN", type := .boolean, accessFlags := 26, slot := 1, constantValue := 0 }, { name := "LOG2_ARRAY_BOOLEAN_INDEX_SCALE", type := .int, accessFlags := 25, slot := 2, constantValue := 0 }, { name := "LOG2_ARRAY_BYTE_INDEX_SCALE", type := .int, accessFlags := 25, slot := 3, constantValue := 0 }, { name := "LOG2_ARRAY_CHAR_INDEX_SCALE", type := .int, accessFlags := 25, slot := 4, constantValue := 0 }, { name := "LOG2_ARRAY_SHORT_INDEX_SCALE", type := .int, accessFlags := 25, slot := 5, constantValue := 0 }, { name := "LOG2_ARRAY_INT_INDEX_SCALE", type := .int, accessFlags := 25, slot := 6, constantValue := 0 }, { name := "LOG2_ARRAY_LONG_INDEX_SCALE", type := .int, accessFlags := 25, slot := 7, constantValue := 0 }, { name := "LOG2_ARRAY_FLOAT_INDEX_SCALE", type := .int, accessFlags := 25, slot := 8, constantValue := 0 }, { name := "LOG2_ARRAY_DOUBLE_INDEX_SCALE", type := .int, accessFlags := 25, slot := 9, constantValue := 0 }, { name := "LOG2_BYTE_BIT_SIZE", type := .int, accessFlags := 26, slot := 10, constantValue := 0 }, { name := "T_BOOLEAN", type := .int, accessFlags := 25, slot := 11, constantValue := 0 }, { name := "T_CHAR", type := .int, accessFlags := 25, slot := 12, constantValue := 0 }, { name := "T_FLOAT", type := .int, accessFlags := 25, slot := 13, constantValue := 0 }, { name := "T_DOUBLE", type := .int, accessFlags := 25, slot := 14, constantValue := 0 }, { name := "T_BYTE", type := .int, accessFlags := 25, slot := 15, constantValue := 0 }, { name := "T_SHORT", type := .int, accessFlags := 25, slot := 16, constantValue := 0 }, { name := "T_INT", type := .int, accessFlags := 25, slot := 17, constantValue := 0 }, { name := "T_LONG", type := .int, accessFlags := 25, slot := 18, constantValue := 0 }, { name := "JLA", type := (.object "jdk/internal/access/JavaLangAccess"), accessFlags := 26, slot := 19, constantValue := 0 }, { name := "SOFT_MAX_ARRAY_LENGTH", type := .int, accessFlags := 25, slot := 20, constantValue := 0 }]
  methods := #[k20m0]
  instanceTypes := #[]
  staticTypes := #[(.object "jdk/internal/misc/Unsafe"), .boolean, .int, .int, .int, .int, .int, .int, .int, .int, .int, .int, .int, .int, .int, .int, .int, .int, .int, (.object "jdk/internal/access/JavaLangAccess"), .int]
  resolved := Array.replicate 378 none
  statics := none }

def pool21 : Array CpInfo := pool [(2, .class_ 4), (1, u "java/lang/Object"), (0, u "<init>"), (0, u "()V"), (12, .class_ 20), (0, u "java/util/Collections"), (63, u "r"), (0, u "Ljava/util/Random;"), (80, .class_ 167), (0, u "java/util/Collections$UnmodifiableCollection"), (6, .class_ 175), (0, u "java/util/Collections$UnmodifiableSequencedCollection"), (6, .class_ 183), (0, u "java/util/Collections$UnmodifiableSet"), (6, .class_ 191), (0, u "java/util/Collections$UnmodifiableSequencedSet"), (6, .class_ 199), (0, u "java/util/Collections$UnmodifiableSortedSet"), (6, .class_ 207), (0, u "java/util/Collections$UnmodifiableNavigableSet"), (4, .class_ 213), (0, u "java/util/Collections$UnmodifiableList"), (1, .class_ 216), (0, u "java/util/Collections$UnmodifiableRandomAccessList"), (6, .class_ 224), (0, u "java/util/Collections$UnmodifiableMap"), (6, .class_ 232), (0, u "java/util/Collections$UnmodifiableSequencedMap"), (4, .class_ 238), (0, u "java/util/Collections$UnmodifiableSortedMap"), (6, .class_ 246), (0, u "java/util/Collections$UnmodifiableNavigableMap"), (3, .class_ 251), (0, u "java/util/Collections$SynchronizedCollection"), (4, .class_ 257), (0, u "java/util/Collections$SynchronizedSet"), (4, .class_ 263), (0, u "java/util/Collections$SynchronizedSortedSet"), (1, .class_ 266), (0, u "java/util/Collections$SynchronizedNavigableSet"), (1, .class_ 269), (0, u "java/util/Collections$SynchronizedRandomAccessList"), (1, .class_ 272), (0, u "java/util/Collections$SynchronizedList"), (5, .class_ 279), (0, u "java/util/Collections$SynchronizedMap"), (1, .class_ 282), (0, u "java/util/Collections$SynchronizedSortedMap"), (1, .class_ 285), (0, u "java/util/Collections$SynchronizedNavigableMap"), (1, .class_ 288), (0, u "java/util/Collections$CheckedCollection"), (11, .class_ 301), (0, u "java/util/Collections$CheckedQueue"), (3, .class_ 306), (0, u "java/util/Collections$CheckedSet"), (3, .class_ 311), (0, u "java/util/Collections$CheckedSortedSet"), (3, .class_ 316), (0, u "java/util/Collections$CheckedNavigableSet"), (3, .class_ 321), (0, u "java/util/Collections$CheckedRandomAccessList"), (3, .class_ 326), (0, u "java/util/Collections$CheckedList"), (1, .class_ 329), (0, u "java/util/Collections$CheckedMap"), (3, .class_ 334), (0, u "java/util/Collections$CheckedSortedMap"), (3, .class_ 339), (0, u "java/util/Collections$CheckedNavigableMap"), (4, .class_ 346), (1, u "java/util/Collections$EmptyIterator"), (3, .class_ 352), (1, u "java/util/Collections$EmptyListIterator"), (2, .class_ 357), (1, u "java/util/Collections$EmptyEnumeration"), (4, u "EMPTY_SET"), (0, u "Ljava/util/Set;"), (6, u "EMPTY_LIST"), (0, u "Ljava/util/List;"), (2, u "EMPTY_MAP"), (0, u "Ljava/util/Map;"), (4, .class_ 381), (0, u "java/util/Collections$SingletonSet"), (2, .class_ 385), (0, u "java/util/Collections$1"), (1, .class_ 388), (0, u "java/util/Collections$2"), (1, .class_ 391), (0, u "java/util/Collections$SingletonList"), (1, .class_ 394), (0, u "java/util/Collections$SingletonMap"), (22, .class_ 418), (0, u "java/util/Collections$CopiesList"), (4, .class_ 425), (1, u "java/util/Collections$ReverseComparator"), (8, .class_ 435), (0, u "java/util/Collections$ReverseComparator2"), (6, .class_ 443), (0, u "java/util/Collections$3"), (25, .class_ 470), (0, u "java/util/Collections$SetFromMap"), (2, .class_ 474), (0, u "java/util/Collections$SequencedSetFromMap"), (3, .class_ 479), (0, u "java/util/Collections$AsLIFOQueue"), (11, .class_ 492), (0, u "java/util/Collections$EmptySet"), (1, .class_ 495), (0, u "java/util/Collections$EmptyList"), (1, .class_ 498), (0, u "java/util/Collections$EmptyMap"), (1, u "BINARYSEARCH_THRESHOLD"), (0, u "I"), (2, u "REVERSE_THRESHOLD"), (1, u "SHUFFLE_THRESHOLD"), (1, u "FILL_THRESHOLD"), (1, u "ROTATE_THRESHOLD"), (1, u "COPY_THRESHOLD"), (1, u "REPLACEALL_THRESHOLD"), (1, u "INDEXOFSUBLIST_THRESHOLD"), (333, .class_ 851), (0, u "java/util/Collections$CheckedMap$CheckedEntrySet"), (0, .class_ 853), (0, u "java/util/Collections$CheckedMap$CheckedEntrySet$CheckedEntry"), (0, .class_ 855), (0, u "java/util/Collections$CheckedMap$CheckedEntrySet$1"), (0, .class_ 857), (0, u "java/util/Collections$CheckedList$1"), (0, .class_ 859), (0, u "java/util/Collections$CheckedCollection$1"), (0, .class_ 861), (0, u "java/util/Collections$UnmodifiableNavigableMap$EmptyNavigableMap"), (0, .class_ 863), (0, u "java/util/Collections$UnmodifiableMap$UnmodifiableEntrySet"), (0, .class_ 865), (0, u "java/util/Collections$UnmodifiableMap$UnmodifiableEntrySet$UnmodifiableEntry"), (0, .class_ 867), (0, u "java/util/Collections$UnmodifiableMap$UnmodifiableEntrySet$UnmodifiableEntrySetSpliterator"), (0, .class_ 869), (0, u "java/util/Collections$UnmodifiableMap$UnmodifiableEntrySet$1"), (0, .class_ 871), (0, u "java/util/Collections$UnmodifiableList$1"), (0, .class_ 873), (0, u "java/util/Collections$UnmodifiableNavigableSet$EmptyNavigableSet"), (0, .class_ 875), (0, u "java/util/Collections$UnmodifiableCollection$1")] 57

def k21m0 : Method := { name := "<init>", desc := "()V", sig := { parameters := [], returnType := none }, accessFlags := 2, code := none }
/-- java/util/Collections -/
def k21 : Class := { plain "java/util/Collections" (some 0) with
  accessFlags := 33
  interfaces := #[]
  cf := some (fileOf pool21 19 #[.nestMembers #[478, 473, 469, 434, 423, 417, 393, 390, 380, 497, 494, 491, 355, 350, 344, 338, 333, 328, 850, 852, 854, 320, 325, 856, 315, 310, 305, 300, 287, 858, 284, 281, 278, 268, 271, 265, 262, 256, 250, 245, 860, 237, 231, 223, 862, 864, 866, 868, 215, 212, 870, 206, 872, 198, 190, 182, 174, 166, 874, 442, 387, 384]] #[{ accessFlags := 2, nameIndex := 5, descriptorIndex := 6, attributes := #[] }] 33 2 #[] #[{ accessFlags := 26, nameIndex := 500, descriptorIndex := 501, attributes := #[] }, { accessFlags := 26, nameIndex := 504, descriptorIndex := 501, attributes := #[] }, { accessFlags := 26, nameIndex := 506, descriptorIndex := 501, attributes := #[] }, { accessFlags := 26, nameIndex := 508, descriptorIndex := 501, attributes := #[] }, { accessFlags := 26, nameIndex := 510, descriptorIndex := 501, attributes := #[] }, { accessFlags := 26, nameIndex := 512, descriptorIndex := 501, attributes := #[] }, { accessFlags := 26, nameIndex := 514, descriptorIndex := 501, attributes := #[] }, { accessFlags := 26, nameIndex := 516, descriptorIndex := 501, attributes := #[] }, { accessFlags := 10, nameIndex := 84, descriptorIndex := 85, attributes := #[] }, { accessFlags := 25, nameIndex := 362, descriptorIndex := 363, attributes := #[] }, { accessFlags := 25, nameIndex := 370, descriptorIndex := 371, attributes := #[] }, { accessFlags := 25, nameIndex := 374, descriptorIndex := 375, attributes := #[] }])
  fields := #[{ name := "BINARYSEARCH_THRESHOLD", type := .int, accessFlags := 26, slot := 0, constantValue := 0 }, { name := "REVERSE_THRESHOLD", type := .int, accessFlags := 26, slot := 1, constantValue := 0 }, { name := "SHUFFLE_THRESHOLD", type := .int, accessFlags := 26, slot := 2, constantValue := 0 }, { name := "FILL_THRESHOLD", type := .int, accessFlags := 26, slot := 3, constantValue := 0 }, { name := "ROTATE_THRESHOLD", type := .int, accessFlags := 26, slot := 4, constantValue := 0 }, { name := "COPY_THRESHOLD", type := .int, accessFlags := 26, slot := 5, constantValue := 0 }, { name := "REPLACEALL_THRESHOLD", type := .int, accessFlags := 26, slot := 6, constantValue := 0 }, { name := "INDEXOFSUBLIST_THRESHOLD", type := .int, accessFlags := 26, slot := 7, constantValue := 0 }, { name := "r", type := (.object "java/util/Random"), accessFlags := 10, slot := 8, constantValue := 0 }, { name := "EMPTY_SET", type := (.object "java/util/Set"), accessFlags := 25, slot := 9, constantValue := 0 }, { name := "EMPTY_LIST", type := (.object "java/util/List"), accessFlags := 25, slot := 10, constantValue := 0 }, { name := "EMPTY_MAP", type := (.object "java/util/Map"), accessFlags := 25, slot := 11, constantValue := 0 }]
  methods := #[k21m0]
  instanceTypes := #[]
  staticTypes := #[.int, .int, .int, .int, .int, .int, .int, .int, (.object "java/util/Random"), (.object "java/util/Set"), (.object "java/util/List"), (.object "java/util/Map")]
  resolved := Array.replicate 933 none
  statics := some 3 }

def pool22 : Array CpInfo := pool [(8, .class_ 10), (1, u "java/lang/Iterable"), (24, .class_ 36), (0, u "java/lang/Object")] 25

/-- java/lang/Iterable -/
def k22 : Class := { plain "java/lang/Iterable" (some 0) with
  accessFlags := 1537
  interfaces := #[]
  cf := some (fileOf pool22 8 #[] #[] 1537 35 #[] #[])
  fields := #[]
  methods := #[]
  instanceTypes := #[]
  staticTypes := #[]
  resolved := Array.replicate 62 none
  statics := none }

def pool23 : Array CpInfo := pool [(10, .class_ 12), (1, u "java/util/Collection"), (47, .class_ 61), (0, u "java/lang/Object"), (0, .class_ 63), (0, u "java/lang/Iterable")] 51

/-- java/util/Collection -/
def k23 : Class := { plain "java/util/Collection" (some 0) with
  accessFlags := 1537
  interfaces := #[22]
  cf := some (fileOf pool23 10 #[] #[] 1537 60 #[62] #[])
  fields := #[]
  methods := #[]
  instanceTypes := #[]
  staticTypes := #[]
  resolved := Array.replicate 115 none
  statics := none }

def pool24 : Array CpInfo := pool [(2, .class_ 4), (1, u "java/lang/Object"), (0, u "<init>"), (0, u "()V"), (1, .class_ 10), (1, u "java/util/AbstractCollection"), (66, .class_ 78), (0, u "java/util/Collection")] 81

def k24m0 : Method := { name := "<init>", desc := "()V", sig := { parameters := [], returnType := none }, accessFlags := 4, code := none }
/-- java/util/AbstractCollection -/
def k24 : Class := { plain "java/util/AbstractCollection" (some 0) with
  accessFlags := 1057
  interfaces := #[23]
  cf := some (fileOf pool24 8 #[] #[{ accessFlags := 4, nameIndex := 5, descriptorIndex := 6, attributes := #[] }] 1057 2 #[77] #[])
  fields := #[]
  methods := #[k24m0]
  instanceTypes := #[]
  staticTypes := #[]
  resolved := Array.replicate 160 none
  statics := none }

def pool25 : Array CpInfo := pool [(8, .class_ 10), (1, u "java/util/SequencedCollection"), (15, .class_ 27), (0, u "java/lang/Object"), (0, .class_ 29), (0, u "java/util/Collection")] 27

/-- java/util/SequencedCollection -/
def k25 : Class := { plain "java/util/SequencedCollection" (some 0) with
  accessFlags := 1537
  interfaces := #[23]
  cf := some (fileOf pool25 8 #[] #[] 1537 26 #[28] #[])
  fields := #[]
  methods := #[]
  instanceTypes := #[]
  staticTypes := #[]
  resolved := Array.replicate 57 none
  statics := none }

def pool26 : Array CpInfo := pool [(8, .class_ 10), (1, u "java/util/List"), (92, .class_ 104), (0, u "java/lang/Object"), (15, .class_ 121), (0, u "java/util/SequencedCollection")] 129

/-- java/util/List -/
def k26 : Class := { plain "java/util/List" (some 0) with
  accessFlags := 1537
  interfaces := #[25]
  cf := some (fileOf pool26 8 #[] #[] 1537 103 #[120] #[])
  fields := #[]
  methods := #[]
  instanceTypes := #[]
  staticTypes := #[]
  resolved := Array.replicate 251 none
  statics := none }

def pool27 : Array CpInfo := pool [(2, .class_ 4), (1, u "java/util/AbstractCollection"), (0, u "<init>"), (0, u "()V"), (1, .class_ 10), (1, u "java/util/AbstractList"), (0, u "modCount"), (0, u "I"), (64, .class_ 78), (0, u "java/util/AbstractList$Itr"), (3, .class_ 83), (0, u "java/util/AbstractList$ListItr"), (9, .class_ 94), (0, u "java/util/AbstractList$RandomAccessSubList"), (3, .class_ 99), (0, u "java/util/AbstractList$SubList"), (33, .class_ 134), (0, u "java/util/List"), (73, .class_ 209), (0, u "java/util/AbstractList$SubList$1"), (0, .class_ 211), (0, u "java/util/AbstractList$RandomAccessSpliterator")] 6

def k27m0 : Method := { name := "<init>", desc := "()V", sig := { parameters := [], returnType := none }, accessFlags := 4, code := none }
/-- java/util/AbstractList -/
def k27 : Class := { plain "java/util/AbstractList" (some 24) with
  accessFlags := 1057
  interfaces := #[26]
  cf := some (fileOf pool27 8 #[.nestMembers #[93, 98, 208, 210, 82, 77]] #[{ accessFlags := 4, nameIndex := 5, descriptorIndex := 6, attributes := #[] }] 1057 2 #[133] #[{ accessFlags := 132, nameIndex := 11, descriptorIndex := 12, attributes := #[] }])
  fields := #[{ name := "modCount", type := .int, accessFlags := 132, slot := 0, constantValue := 0 }]
  methods := #[k27m0]
  instanceTypes := #[.int]
  staticTypes := #[]
  resolved := Array.replicate 218 none
  statics := none }

def pool28 : Array CpInfo := pool [(1, .class_ 2), (0, u "java/util/RandomAccess"), (0, .class_ 4), (0, u "java/lang/Object")] 2

/-- java/util/RandomAccess -/
def k28 : Class := { plain "java/util/RandomAccess" (some 0) with
  accessFlags := 1537
  interfaces := #[]
  cf := some (fileOf pool28 1 #[] #[] 1537 3 #[] #[])
  fields := #[]
  methods := #[]
  instanceTypes := #[]
  staticTypes := #[]
  resolved := Array.replicate 7 none
  statics := none }

def pool29 : Array CpInfo := pool [(2, .class_ 4), (1, u "java/util/AbstractList"), (0, u "<init>"), (0, u "()V"), (1, .class_ 10), (1, u "java/util/Collections"), (54, .class_ 66), (0, u "java/util/Collections$EmptyList"), (0, .class_ 68), (0, u "java/util/RandomAccess"), (0, .class_ 70), (0, u "java/io/Serializable"), (0, u "serialVersionUID"), (0, u "J")] 77

def k29m0 : Method := { name := "<init>", desc := "()V", sig := { parameters := [], returnType := none }, accessFlags := 2, code := none }
/-- java/util/Collections$EmptyList -/
def k29 : Class := { plain "java/util/Collections$EmptyList" (some 27) with
  accessFlags := 32
  interfaces := #[28, 2]
  cf := some (fileOf pool29 65 #[.nestHost 8] #[{ accessFlags := 2, nameIndex := 5, descriptorIndex := 6, attributes := #[] }] 32 2 #[67, 69] #[{ accessFlags := 26, nameIndex := 71, descriptorIndex := 72, attributes := #[] }])
  fields := #[{ name := "serialVersionUID", type := .long, accessFlags := 26, slot := 0, constantValue := 0 }]
  methods := #[k29m0]
  instanceTypes := #[.int]
  staticTypes := #[.long]
  resolved := Array.replicate 150 none
  statics := none }

def pool30 : Array CpInfo := pool [(2, .class_ 4), (1, u "java/lang/StackTraceElement"), (0, u "<init>"), (2, .class_ 10), (1, u "java/lang/Object"), (0, u "()V"), (2, u "format"), (0, u "B"), (2, u "classLoaderName"), (0, u "Ljava/lang/String;"), (2, u "moduleName"), (2, u "moduleVersion"), (12, u "declaringClass"), (4, u "methodName"), (2, u "fileName"), (2, u "lineNumber"), (0, u "I"), (65, u "declaringClassObject"), (0, u "Ljava/lang/Class;"), (33, .class_ 153), (1, u "java/lang/StackTraceElement$HashedModules"), (17, .class_ 172), (0, u "java/io/Serializable"), (0, u "NATIVE_METHOD"), (1, u "UNKNOWN_SOURCE"), (2, u "BUILTIN_CLASS_LOADER"), (1, u "JDK_NON_UPGRADEABLE_MODULE"), (1, u "serialVersionUID"), (0, u "J")] 51

def k30m0 : Method := { name := "<init>", desc := "()V", sig := { parameters := [], returnType := none }, accessFlags := 2, code := none }
/-- java/lang/StackTraceElement -/
def k30 : Class := { plain "java/lang/StackTraceElement" (some 0) with
  accessFlags := 49
  interfaces := #[2]
  cf := some (fileOf pool30 2 #[.nestMembers #[151]] #[{ accessFlags := 2, nameIndex := 5, descriptorIndex := 11, attributes := #[] }] 49 8 #[171] #[{ accessFlags := 26, nameIndex := 173, descriptorIndex := 19, attributes := #[] }, { accessFlags := 26, nameIndex := 175, descriptorIndex := 19, attributes := #[] }, { accessFlags := 130, nameIndex := 116, descriptorIndex := 117, attributes := #[] }, { accessFlags := 2, nameIndex := 18, descriptorIndex := 19, attributes := #[] }, { accessFlags := 2, nameIndex := 22, descriptorIndex := 19, attributes := #[] }, { accessFlags := 2, nameIndex := 25, descriptorIndex := 19, attributes := #[] }, { accessFlags := 2, nameIndex := 38, descriptorIndex := 19, attributes := #[] }, { accessFlags := 2, nameIndex := 43, descriptorIndex := 19, attributes := #[] }, { accessFlags := 2, nameIndex := 46, descriptorIndex := 19, attributes := #[] }, { accessFlags := 2, nameIndex := 49, descriptorIndex := 50, attributes := #[] }, { accessFlags := 2, nameIndex := 14, descriptorIndex := 15, attributes := #[] }, { accessFlags := 26, nameIndex := 178, descriptorIndex := 15, attributes := #[] }, { accessFlags := 26, nameIndex := 180, descriptorIndex := 15, attributes := #[] }, { accessFlags := 26, nameIndex := 182, descriptorIndex := 183, attributes := #[] }])
  fields := #[{ name := "NATIVE_METHOD", type := (.object "java/lang/String"), accessFlags := 26, slot := 0, constantValue := 0 }, { name := "UNKNOWN_SOURCE", type := (.object "java/lang/String"), accessFlags := 26, slot := 1, constantValue := 0 }, { name := "declaringClassObject", type := (.object "java/lang/Class"), accessFlags := 130, slot := 0, constantValue := 0 }, { name := "classLoaderName", type := (.object "java/lang/String"), accessFlags := 2, slot := 1, constantValue := 0 }, { name := "moduleName", type := (.object "java/lang/String"), accessFlags := 2, slot := 2, constantValue := 0 }, { name := "moduleVersion", type := (.object "java/lang/String"), accessFlags := 2, slot := 3, constantValue := 0 }, { name := "declaringClass", type := (.object "java/lang/String"), accessFlags := 2, slot := 4, constantValue := 0 }, { name := "methodName", type := (.object "java/lang/String"), accessFlags := 2, slot := 5, constantValue := 0 }, { name := "fileName", type := (.object "java/lang/String"), accessFlags := 2, slot := 6, constantValue := 0 }, { name := "lineNumber", type := .int, accessFlags := 2, slot := 7, constantValue := 0 }, { name := "format", type := .byte, accessFlags := 2, slot := 8, constantValue := 0 }, { name := "BUILTIN_CLASS_LOADER", type := .byte, accessFlags := 26, slot := 2, constantValue := 0 }, { name := "JDK_NON_UPGRADEABLE_MODULE", type := .byte, accessFlags := 26, slot := 3, constantValue := 0 }, { name := "serialVersionUID", type := .long, accessFlags := 26, slot := 4, constantValue := 0 }]
  methods := #[k30m0]
  instanceTypes := #[(.object "java/lang/Class"), (.object "java/lang/String"), (.object "java/lang/String"), (.object "java/lang/String"), (.object "java/lang/String"), (.object "java/lang/String"), (.object "java/lang/String"), .int, .byte]
  staticTypes := #[(.object "java/lang/String"), (.object "java/lang/String"), .byte, .byte, .long]
  resolved := Array.replicate 235 none
  statics := none }

def pool31 : Array CpInfo := pool [(1, u "java/lang/Cloneable"), (0, .class_ 1), (0, u "java/lang/Object"), (0, .class_ 3)] 3

/-- java/lang/Cloneable -/
def k31 : Class := { plain "java/lang/Cloneable" (some 0) with
  accessFlags := 1537
  interfaces := #[]
  cf := some (fileOf pool31 2 #[] #[] 1537 4 #[] #[])
  fields := #[]
  methods := #[]
  instanceTypes := #[]
  staticTypes := #[]
  resolved := Array.replicate 8 none
  statics := none }

/-- the primitive byte -/
def k32 : Class := { plain "byte" none with kind := .primitive 'B', accessFlags := 0x411 }
/-- [B -/
def k33 : Class := { plain "[B" (some 0) with kind := .array 32 .byte, interfaces := #[31, 2], accessFlags := 1041 }

/-- the primitive char -/
def k34 : Class := { plain "char" none with kind := .primitive 'C', accessFlags := 0x411 }
/-- [C -/
def k35 : Class := { plain "[C" (some 0) with kind := .array 34 .char, interfaces := #[31, 2], accessFlags := 1041 }

/-- the primitive int -/
def k36 : Class := { plain "int" none with kind := .primitive 'I', accessFlags := 0x411 }
/-- [I -/
def k37 : Class := { plain "[I" (some 0) with kind := .array 36 .int, interfaces := #[31, 2], accessFlags := 1041 }

/-- [Ljava/lang/Object; -/
def k38 : Class := { plain "[Ljava/lang/Object;" (some 0) with kind := .array 0 (.object "java/lang/Object"), interfaces := #[31, 2], accessFlags := 1041 }

/-- [Ljava/lang/StackTraceElement; -/
def k39 : Class := { plain "[Ljava/lang/StackTraceElement;" (some 0) with kind := .array 30 (.object "java/lang/StackTraceElement"), interfaces := #[31, 2], accessFlags := 1041 }

/-- [Ljava/lang/Throwable; -/
def k40 : Class := { plain "[Ljava/lang/Throwable;" (some 0) with kind := .array 9 (.object "java/lang/Throwable"), interfaces := #[31, 2], accessFlags := 1041 }

def heap : Heap := #[{ cls := 7, slots := #[.long 0, .int 1, .null, .int 0, .null, .int 0, .int 0], vm := .statics 7 },
  { cls := 9, slots := #[.long 0, .ref 4, .ref 5, .null, .null, .null, .null, .ref 6, .int 1], vm := .statics 9 },
  { cls := 19, slots := #[.null, .null, .null], vm := .statics 19 },
  { cls := 21, slots := #[.int 0, .int 0, .int 0, .int 0, .int 0, .int 0, .int 0, .int 0, .null, .null, .ref 5, .null], vm := .statics 21 },
  { cls := 39, slots := #[], vm := .none },
  { cls := 29, slots := #[.int 0], vm := .none },
  { cls := 40, slots := #[], vm := .none }]
def classes : Array Class := #[k0, k1, k2, k3, k4, k5, k6, k7, k8, k9, k10, k11, k12, k13, k14, k15, k16, k17, k18, k19, k20, k21, k22, k23, k24, k25, k26, k27, k28, k29, k30, k31, k32, k33, k34, k35, k36, k37, k38, k39, k40]
def interned : List (Array UInt16 × Addr) := []
def slotsUsed : Nat := 32
def theMethod : MethodId := ⟨1, 2⟩
def args0 : Array Value := #[.int 65, .int 66, .int 5]
def aboutOver (below : List Frame) : State where
  vm := { classes := classes, interned := interned.toArray }
  heap := heap
  slotsUsed := slotsUsed
  threads := #[{ frames := .invoking theMethod args0 :: below }]
def below0 : List Frame := [.native { method := ⟨0, 0⟩, args := #[] }]
def about1 : State := aboutOver below0
def p0 : Program := .bare "" "" ""
def e0 : Env := launch0.env 0 0 0
theorem w_frames : about1.frames = Frame.invoking theMethod args0 :: below0 := rfl
set_option maxRecDepth 65536 in
theorem w_args : argsFit about1.vm theMethod args0 = true := by decide +kernel
set_option maxRecDepth 65536 in
theorem w_heap : heapFits about1 = true := by decide +kernel
set_option maxRecDepth 65536 in
theorem w_runnable : about1.curStatus? = some .runnable := by decide +kernel
set_option maxRecDepth 65536 in
theorem w_alone : about1.alone = true := by decide +kernel
set_option maxRecDepth 65536 in
theorem w_named : about1.methodNamed? x = some theMethod := by decide +kernel
set_option maxRecDepth 65536 in
theorem w_hears : about1.hears theMethod below0 = true := by decide +kernel
set_option maxRecDepth 65536 in
theorem w_ripe : about1.ripe theMethod args0 below0 = true := by decide +kernel
theorem w_running : about1.status = .running := rfl
set_option maxRecDepth 65536 in
theorem w_room : about1.hasRoom e0.platform room_1 = true :=
  launch0.hasRoom_least _ room_1 (by decide +kernel) (by decide +kernel) (by decide +kernel) (by decide +kernel) (by decide +kernel) (by decide +kernel)
theorem allAtoms_all (ts : List Jvm.Cond) (a : Array Jvm.Value) (st : Jvm.State) : (allAtoms ts).before a st = ts.all (fun c => c.before a st) := by
  induction ts with
  | nil => rfl
  | cons c t ih =>
    show (Jvm.Cond.and c (allAtoms t)).before a st = _
    rw [Jvm.Cond.before_and, ih, List.all_cons]
def words1 : List Jvm.Cond := Jvm.Cond.code x code maxLocals ret :: tables_1
/-- a 'code' word, met by the world's own term for the bytes: nothing is compared byte by byte -/
theorem code_word {y : MethodName} {bytes : ByteArray} {mx : Nat} {rt : Option FieldType} {a : Array Value} {s : State} {m : MethodId} {meth : Method} {c : Code} (h1 : s.methodNamed? y = some m) (h2 : s.vm.method? m = some meth) (h3 : meth.code = some c) (h4 : c.code = bytes)
    (h5 : (c.maxLocals == mx && c.exceptionTable.isEmpty && decide (c.maxStack ≤ mostOperands) && decide (meth.sig.returnType = rt) && !meth.locks && decide (parseMethodDescriptor y.desc = some meth.sig)) = true) : (Jvm.Cond.code y bytes mx rt).before a s = true := by
  simp only [Bool.and_eq_true, beq_iff_eq, Bool.not_eq_true', decide_eq_true_eq] at h5
  obtain ⟨⟨⟨⟨⟨g1, g2⟩, g3⟩, g4⟩, g5⟩, g6⟩ := h5
  simp [Cond.before, Cond.holds, Cond.value, h1, h2, h3, h4, g1, g2, g3, g4, g5, g6]
def isCode : Jvm.Cond → Bool
  | .code _ _ _ _ => true
  | _ => false
theorem all_split {L : List Jvm.Cond} {P : Jvm.Cond → Bool} (h1 : L.all (fun c => isCode c || P c) = true) (h2 : ∀ c ∈ L.filter isCode, P c = true) : L.all P = true := by
  refine List.all_eq_true.mpr fun c hc => ?_
  have h := List.all_eq_true.mp h1 c hc
  rcases Bool.eq_false_or_eq_true (isCode c) with hi | hi
  · exact h2 c (List.mem_filter.mpr ⟨hc, hi⟩)
  · simpa [hi] using h
set_option maxRecDepth 65536 in
theorem w_c0 : (Jvm.Cond.code x code maxLocals ret).before args0 about1 = true := code_word (m := ⟨1, 2⟩) (meth := k1m2) (c := k1c2) (by decide +kernel) rfl rfl rfl (by decide +kernel)
set_option maxRecDepth 65536 in
theorem w_c1 : (Jvm.Cond.code ({ cls := "com/example/excl1/excl1/cli/RefusalUsagePinLaw", name := "make", desc := "(ICC)Ljava/lang/String;" } : Jvm.MethodName) method_2_code (3 : Nat) (Option.some (Jvm.ClassFile.FieldType.object "java/lang/String"))).before args0 about1 = true := code_word (m := ⟨1, 1⟩) (meth := k1m1) (c := k1c1) (by decide +kernel) rfl rfl rfl (by decide +kernel)
set_option maxRecDepth 65536 in
theorem w_c2 : (Jvm.Cond.code ({ cls := "java/lang/String", name := "<init>", desc := "([C)V" } : Jvm.MethodName) jdk_42_method_3_code (2 : Nat) (Option.none : Option Jvm.ClassFile.FieldType)).before args0 about1 = true := code_word (m := ⟨7, 1⟩) (meth := k7m1) (c := k7c1) (by decide +kernel) rfl rfl rfl (by decide +kernel)
set_option maxRecDepth 65536 in
theorem w_c3 : (Jvm.Cond.code ({ cls := "java/lang/String", name := "<init>", desc := "([CIILjava/lang/Void;)V" } : Jvm.MethodName) jdk_42_method_149_code (6 : Nat) (Option.none : Option Jvm.ClassFile.FieldType)).before args0 about1 = true := code_word (m := ⟨7, 7⟩) (meth := k7m7) (c := k7c7) (by decide +kernel) rfl rfl rfl (by decide +kernel)
set_option maxRecDepth 65536 in
theorem w_c4 : (Jvm.Cond.code ({ cls := "java/lang/Object", name := "<init>", desc := "()V" } : Jvm.MethodName) object_method_1_code (1 : Nat) (Option.none : Option Jvm.ClassFile.FieldType)).before args0 about1 = true := code_word (m := ⟨0, 0⟩) (meth := k0m0) (c := k0c0) (by decide +kernel) rfl rfl rfl (by decide +kernel)
set_option maxRecDepth 65536 in
theorem w_c5 : (Jvm.Cond.code ({ cls := "java/lang/StringUTF16", name := "compress", desc := "([CII)[B" } : Jvm.MethodName) jdk_52_method_16_code (6 : Nat) (Option.some (Jvm.ClassFile.FieldType.array Jvm.ClassFile.FieldType.byte))).before args0 about1 = true := code_word (m := ⟨8, 2⟩) (meth := k8m2) (c := k8c2) (by decide +kernel) rfl rfl rfl (by decide +kernel)
set_option maxRecDepth 65536 in
theorem w_c6 : (Jvm.Cond.code ({ cls := "java/lang/StringUTF16", name := "compress", desc := "([CI[BII)I" } : Jvm.MethodName) jdk_52_method_21_code (7 : Nat) (Option.some Jvm.ClassFile.FieldType.int)).before args0 about1 = true := code_word (m := ⟨8, 3⟩) (meth := k8m3) (c := k8c3) (by decide +kernel) rfl rfl rfl (by decide +kernel)
set_option maxRecDepth 65536 in
theorem w_c7 : (Jvm.Cond.code ({ cls := "java/lang/StringUTF16", name := "coderFromArrayLen", desc := "([BI)B" } : Jvm.MethodName) jdk_52_method_15_code (2 : Nat) (Option.some Jvm.ClassFile.FieldType.byte)).before args0 about1 = true := code_word (m := ⟨8, 1⟩) (meth := k8m1) (c := k8c1) (by decide +kernel) rfl rfl rfl (by decide +kernel)
set_option maxRecDepth 65536 in
theorem w_c8 : (Jvm.Cond.code ({ cls := "com/example/excl1/excl1/cli/Refusal", name := "usage", desc := "(Ljava/lang/String;Ljava/lang/String;)Lcom/example/excl1/excl1/cli/Refusal;" } : Jvm.MethodName) prog_8_method_2_code (2 : Nat) (Option.some (Jvm.ClassFile.FieldType.object "com/example/excl1/excl1/cli/Refusal"))).before args0 about1 = true := code_word (m := ⟨11, 1⟩) (meth := k11m1) (c := k11c1) (by decide +kernel) rfl rfl rfl (by decide +kernel)
set_option maxRecDepth 65536 in
theorem w_c9 : (Jvm.Cond.code ({ cls := "java/lang/StringBuilder", name := "<init>", desc := "()V" } : Jvm.MethodName) jdk_67_method_1_code (1 : Nat) (Option.none : Option Jvm.ClassFile.FieldType)).before args0 about1 = true := code_word (m := ⟨14, 0⟩) (meth := k14m0) (c := k14c0) (by decide +kernel) rfl rfl rfl (by decide +kernel)
set_option maxRecDepth 65536 in
theorem w_c10 : (Jvm.Cond.code ({ cls := "java/lang/AbstractStringBuilder", name := "<init>", desc := "(I)V" } : Jvm.MethodName) jdk_68_method_2_code (2 : Nat) (Option.none : Option Jvm.ClassFile.FieldType)).before args0 about1 = true := code_word (m := ⟨13, 1⟩) (meth := k13m1) (c := k13c1) (by decide +kernel) rfl rfl rfl (by decide +kernel)
set_option maxRecDepth 65536 in
theorem w_c11 : (Jvm.Cond.code ({ cls := "java/lang/StringBuilder", name := "append", desc := "(Ljava/lang/String;)Ljava/lang/StringBuilder;" } : Jvm.MethodName) jdk_67_method_7_code (2 : Nat) (Option.some (Jvm.ClassFile.FieldType.object "java/lang/StringBuilder"))).before args0 about1 = true := code_word (m := ⟨14, 1⟩) (meth := k14m1) (c := k14c1) (by decide +kernel) rfl rfl rfl (by decide +kernel)
set_option maxRecDepth 65536 in
theorem w_c12 : (Jvm.Cond.code ({ cls := "java/lang/AbstractStringBuilder", name := "append", desc := "(Ljava/lang/String;)Ljava/lang/AbstractStringBuilder;" } : Jvm.MethodName) jdk_68_method_22_code (3 : Nat) (Option.some (Jvm.ClassFile.FieldType.object "java/lang/AbstractStringBuilder"))).before args0 about1 = true := code_word (m := ⟨13, 4⟩) (meth := k13m4) (c := k13c4) (by decide +kernel) rfl rfl rfl (by decide +kernel)
set_option maxRecDepth 65536 in
theorem w_c13 : (Jvm.Cond.code ({ cls := "java/lang/String", name := "length", desc := "()I" } : Jvm.MethodName) jdk_42_method_54_code (1 : Nat) (Option.some Jvm.ClassFile.FieldType.int)).before args0 about1 = true := code_word (m := ⟨7, 3⟩) (meth := k7m3) (c := k7c3) (by decide +kernel) rfl rfl rfl (by decide +kernel)
set_option maxRecDepth 65536 in
theorem w_c14 : (Jvm.Cond.code ({ cls := "java/lang/String", name := "coder", desc := "()B" } : Jvm.MethodName) jdk_42_method_152_code (1 : Nat) (Option.some Jvm.ClassFile.FieldType.byte)).before args0 about1 = true := code_word (m := ⟨7, 10⟩) (meth := k7m10) (c := k7c10) (by decide +kernel) rfl rfl rfl (by decide +kernel)
set_option maxRecDepth 65536 in
theorem w_c15 : (Jvm.Cond.code ({ cls := "java/lang/AbstractStringBuilder", name := "ensureCapacityInternal", desc := "(I)V" } : Jvm.MethodName) jdk_68_method_9_code (3 : Nat) (Option.none : Option Jvm.ClassFile.FieldType)).before args0 about1 = true := code_word (m := ⟨13, 3⟩) (meth := k13m3) (c := k13c3) (by decide +kernel) rfl rfl rfl (by decide +kernel)
set_option maxRecDepth 65536 in
theorem w_c16 : (Jvm.Cond.code ({ cls := "java/lang/AbstractStringBuilder", name := "putStringAt", desc := "(ILjava/lang/String;)V" } : Jvm.MethodName) jdk_68_method_73_code (3 : Nat) (Option.none : Option Jvm.ClassFile.FieldType)).before args0 about1 = true := code_word (m := ⟨13, 8⟩) (meth := k13m8) (c := k13c8) (by decide +kernel) rfl rfl rfl (by decide +kernel)
set_option maxRecDepth 65536 in
theorem w_c17 : (Jvm.Cond.code ({ cls := "java/lang/AbstractStringBuilder", name := "inflateIfNeededFor", desc := "(Ljava/lang/String;)V" } : Jvm.MethodName) jdk_68_method_71_code (2 : Nat) (Option.none : Option Jvm.ClassFile.FieldType)).before args0 about1 = true := code_word (m := ⟨13, 7⟩) (meth := k13m7) (c := k13c7) (by decide +kernel) rfl rfl rfl (by decide +kernel)
set_option maxRecDepth 65536 in
theorem w_c18 : (Jvm.Cond.code ({ cls := "java/lang/String", name := "getBytes", desc := "([BIB)V" } : Jvm.MethodName) jdk_42_method_147_code (4 : Nat) (Option.none : Option Jvm.ClassFile.FieldType)).before args0 about1 = true := code_word (m := ⟨7, 6⟩) (meth := k7m6) (c := k7c6) (by decide +kernel) rfl rfl rfl (by decide +kernel)
set_option maxRecDepth 65536 in
theorem w_c19 : (Jvm.Cond.code ({ cls := "java/lang/StringBuilder", name := "toString", desc := "()Ljava/lang/String;" } : Jvm.MethodName) jdk_67_method_42_code (1 : Nat) (Option.some (Jvm.ClassFile.FieldType.object "java/lang/String"))).before args0 about1 = true := code_word (m := ⟨14, 2⟩) (meth := k14m2) (c := k14c2) (by decide +kernel) rfl rfl rfl (by decide +kernel)
set_option maxRecDepth 65536 in
theorem w_c20 : (Jvm.Cond.code ({ cls := "java/lang/String", name := "<init>", desc := "(Ljava/lang/StringBuilder;)V" } : Jvm.MethodName) jdk_42_method_53_code (2 : Nat) (Option.none : Option Jvm.ClassFile.FieldType)).before args0 about1 = true := code_word (m := ⟨7, 2⟩) (meth := k7m2) (c := k7c2) (by decide +kernel) rfl rfl rfl (by decide +kernel)
set_option maxRecDepth 65536 in
theorem w_c21 : (Jvm.Cond.code ({ cls := "java/lang/String", name := "<init>", desc := "(Ljava/lang/AbstractStringBuilder;Ljava/lang/Void;)V" } : Jvm.MethodName) jdk_42_method_150_code (5 : Nat) (Option.none : Option Jvm.ClassFile.FieldType)).before args0 about1 = true := code_word (m := ⟨7, 8⟩) (meth := k7m8) (c := k7c8) (by decide +kernel) rfl rfl rfl (by decide +kernel)
set_option maxRecDepth 65536 in
theorem w_c22 : (Jvm.Cond.code ({ cls := "java/lang/AbstractStringBuilder", name := "getValue", desc := "()[B" } : Jvm.MethodName) jdk_68_method_64_code (1 : Nat) (Option.some (Jvm.ClassFile.FieldType.array Jvm.ClassFile.FieldType.byte))).before args0 about1 = true := code_word (m := ⟨13, 5⟩) (meth := k13m5) (c := k13c5) (by decide +kernel) rfl rfl rfl (by decide +kernel)
set_option maxRecDepth 65536 in
theorem w_c23 : (Jvm.Cond.code ({ cls := "java/lang/StringBuilder", name := "length", desc := "()I" } : Jvm.MethodName) jdk_67_method_93_code (1 : Nat) (Option.some Jvm.ClassFile.FieldType.int)).before args0 about1 = true := code_word (m := ⟨14, 3⟩) (meth := k14m3) (c := k14c3) (by decide +kernel) rfl rfl rfl (by decide +kernel)
set_option maxRecDepth 65536 in
theorem w_c24 : (Jvm.Cond.code ({ cls := "java/lang/AbstractStringBuilder", name := "length", desc := "()I" } : Jvm.MethodName) jdk_68_method_6_code (1 : Nat) (Option.some Jvm.ClassFile.FieldType.int)).before args0 about1 = true := code_word (m := ⟨13, 2⟩) (meth := k13m2) (c := k13c2) (by decide +kernel) rfl rfl rfl (by decide +kernel)
set_option maxRecDepth 65536 in
theorem w_c25 : (Jvm.Cond.code ({ cls := "java/lang/AbstractStringBuilder", name := "isLatin1", desc := "()Z" } : Jvm.MethodName) jdk_68_method_68_code (1 : Nat) (Option.some Jvm.ClassFile.FieldType.boolean)).before args0 about1 = true := code_word (m := ⟨13, 6⟩) (meth := k13m6) (c := k13c6) (by decide +kernel) rfl rfl rfl (by decide +kernel)
set_option maxRecDepth 65536 in
theorem w_c26 : (Jvm.Cond.code ({ cls := "java/util/Arrays", name := "copyOfRange", desc := "([BII)[B" } : Jvm.MethodName) jdk_65_method_132_code (3 : Nat) (Option.some (Jvm.ClassFile.FieldType.array Jvm.ClassFile.FieldType.byte))).before args0 about1 = true := code_word (m := ⟨16, 2⟩) (meth := k16m2) (c := k16c2) (by decide +kernel) rfl rfl rfl (by decide +kernel)
set_option maxRecDepth 65536 in
theorem w_c27 : (Jvm.Cond.code ({ cls := "java/util/Arrays", name := "copyOfRangeByte", desc := "([BII)[B" } : Jvm.MethodName) jdk_65_method_133_code (5 : Nat) (Option.some (Jvm.ClassFile.FieldType.array Jvm.ClassFile.FieldType.byte))).before args0 about1 = true := code_word (m := ⟨16, 3⟩) (meth := k16m3) (c := k16c3) (by decide +kernel) rfl rfl rfl (by decide +kernel)
set_option maxRecDepth 65536 in
theorem w_c28 : (Jvm.Cond.code ({ cls := "java/util/Arrays", name := "checkLength", desc := "(II)V" } : Jvm.MethodName) jdk_65_method_131_code (2 : Nat) (Option.none : Option Jvm.ClassFile.FieldType)).before args0 about1 = true := code_word (m := ⟨16, 1⟩) (meth := k16m1) (c := k16c1) (by decide +kernel) rfl rfl rfl (by decide +kernel)
set_option maxRecDepth 65536 in
theorem w_c29 : (Jvm.Cond.code ({ cls := "java/lang/Math", name := "min", desc := "(II)I" } : Jvm.MethodName) jdk_29_method_69_code (2 : Nat) (Option.some Jvm.ClassFile.FieldType.int)).before args0 about1 = true := code_word (m := ⟨17, 1⟩) (meth := k17m1) (c := k17c1) (by decide +kernel) rfl rfl rfl (by decide +kernel)
set_option maxRecDepth 65536 in
theorem w_c30 : (Jvm.Cond.code ({ cls := "com/example/excl1/excl1/cli/Refusal", name := "<init>", desc := "(ILjava/lang/String;)V" } : Jvm.MethodName) prog_8_method_1_code (3 : Nat) (Option.none : Option Jvm.ClassFile.FieldType)).before args0 about1 = true := code_word (m := ⟨11, 0⟩) (meth := k11m0) (c := k11c0) (by decide +kernel) rfl rfl rfl (by decide +kernel)
set_option maxRecDepth 65536 in
theorem w_c31 : (Jvm.Cond.code ({ cls := "java/lang/Exception", name := "<init>", desc := "(Ljava/lang/String;)V" } : Jvm.MethodName) jdk_59_method_2_code (2 : Nat) (Option.none : Option Jvm.ClassFile.FieldType)).before args0 about1 = true := code_word (m := ⟨10, 1⟩) (meth := k10m1) (c := k10c1) (by decide +kernel) rfl rfl rfl (by decide +kernel)
set_option maxRecDepth 65536 in
theorem w_c32 : (Jvm.Cond.code ({ cls := "java/lang/Throwable", name := "<init>", desc := "(Ljava/lang/String;)V" } : Jvm.MethodName) jdk_78_method_2_code (2 : Nat) (Option.none : Option Jvm.ClassFile.FieldType)).before args0 about1 = true := code_word (m := ⟨9, 1⟩) (meth := k9m1) (c := k9c1) (by decide +kernel) rfl rfl rfl (by decide +kernel)
set_option maxRecDepth 65536 in
theorem w_c33 : (Jvm.Cond.code ({ cls := "java/lang/Throwable", name := "<init>", desc := "()V" } : Jvm.MethodName) jdk_78_method_1_code (1 : Nat) (Option.none : Option Jvm.ClassFile.FieldType)).before args0 about1 = true := code_word (m := ⟨9, 0⟩) (meth := k9m0) (c := k9c0) (by decide +kernel) rfl rfl rfl (by decide +kernel)
set_option maxRecDepth 65536 in
theorem w_c34 : (Jvm.Cond.code ({ cls := "com/example/excl1/excl1/cli/Refusal", name := "status", desc := "()I" } : Jvm.MethodName) prog_8_method_9_code (1 : Nat) (Option.some Jvm.ClassFile.FieldType.int)).before args0 about1 = true := code_word (m := ⟨11, 2⟩) (meth := k11m2) (c := k11c2) (by decide +kernel) rfl rfl rfl (by decide +kernel)
set_option maxRecDepth 65536 in
theorem w_c35 : (Jvm.Cond.code ({ cls := "java/lang/Throwable", name := "getMessage", desc := "()Ljava/lang/String;" } : Jvm.MethodName) jdk_78_method_6_code (1 : Nat) (Option.some (Jvm.ClassFile.FieldType.object "java/lang/String"))).before args0 about1 = true := code_word (m := ⟨9, 2⟩) (meth := k9m2) (c := k9c2) (by decide +kernel) rfl rfl rfl (by decide +kernel)
set_option maxRecDepth 65536 in
theorem w_c36 : (Jvm.Cond.code ({ cls := "java/lang/String", name := "charAt", desc := "(I)C" } : Jvm.MethodName) jdk_42_method_56_code (2 : Nat) (Option.some Jvm.ClassFile.FieldType.char)).before args0 about1 = true := code_word (m := ⟨7, 4⟩) (meth := k7m4) (c := k7c4) (by decide +kernel) rfl rfl rfl (by decide +kernel)
set_option maxRecDepth 65536 in
theorem w_c37 : (Jvm.Cond.code ({ cls := "java/lang/String", name := "isLatin1", desc := "()Z" } : Jvm.MethodName) jdk_42_method_154_code (1 : Nat) (Option.some Jvm.ClassFile.FieldType.boolean)).before args0 about1 = true := code_word (m := ⟨7, 11⟩) (meth := k7m11) (c := k7c11) (by decide +kernel) rfl rfl rfl (by decide +kernel)
set_option maxRecDepth 65536 in
theorem w_c38 : (Jvm.Cond.code ({ cls := "java/lang/StringLatin1", name := "charAt", desc := "([BI)C" } : Jvm.MethodName) jdk_43_method_2_code (2 : Nat) (Option.some Jvm.ClassFile.FieldType.char)).before args0 about1 = true := code_word (m := ⟨18, 1⟩) (meth := k18m1) (c := k18c1) (by decide +kernel) rfl rfl rfl (by decide +kernel)
set_option maxRecDepth 65536 in
theorem w_c39 : (Jvm.Cond.code ({ cls := "java/lang/String", name := "checkIndex", desc := "(II)V" } : Jvm.MethodName) jdk_42_method_155_code (2 : Nat) (Option.none : Option Jvm.ClassFile.FieldType)).before args0 about1 = true := code_word (m := ⟨7, 12⟩) (meth := k7m12) (c := k7c12) (by decide +kernel) rfl rfl rfl (by decide +kernel)
set_option maxRecDepth 65536 in
theorem w_c40 : (Jvm.Cond.code ({ cls := "jdk/internal/util/Preconditions", name := "checkIndex", desc := "(IILjava/util/function/BiFunction;)I" } : Jvm.MethodName) jdk_41_method_11_code (3 : Nat) (Option.some Jvm.ClassFile.FieldType.int)).before args0 about1 = true := code_word (m := ⟨19, 1⟩) (meth := k19m1) (c := k19c1) (by decide +kernel) rfl rfl rfl (by decide +kernel)
set_option maxRecDepth 65536 in
theorem w_c41 : (Jvm.Cond.code ({ cls := "java/lang/String", name := "valueOf", desc := "(C)Ljava/lang/String;" } : Jvm.MethodName) jdk_42_method_139_code (1 : Nat) (Option.some (Jvm.ClassFile.FieldType.object "java/lang/String"))).before args0 about1 = true := code_word (m := ⟨7, 5⟩) (meth := k7m5) (c := k7c5) (by decide +kernel) rfl rfl rfl (by decide +kernel)
set_option maxRecDepth 65536 in
theorem w_c42 : (Jvm.Cond.code ({ cls := "java/lang/StringLatin1", name := "canEncode", desc := "(C)Z" } : Jvm.MethodName) jdk_43_method_3_code (1 : Nat) (Option.some Jvm.ClassFile.FieldType.boolean)).before args0 about1 = true := code_word (m := ⟨18, 2⟩) (meth := k18m2) (c := k18c2) (by decide +kernel) rfl rfl rfl (by decide +kernel)
set_option maxRecDepth 65536 in
theorem w_c43 : (Jvm.Cond.code ({ cls := "java/lang/StringLatin1", name := "toBytes", desc := "(C)[B" } : Jvm.MethodName) jdk_43_method_46_code (1 : Nat) (Option.some (Jvm.ClassFile.FieldType.array Jvm.ClassFile.FieldType.byte))).before args0 about1 = true := code_word (m := ⟨18, 3⟩) (meth := k18m3) (c := k18c3) (by decide +kernel) rfl rfl rfl (by decide +kernel)
set_option maxRecDepth 65536 in
theorem w_c44 : (Jvm.Cond.code ({ cls := "java/lang/String", name := "<init>", desc := "([BB)V" } : Jvm.MethodName) jdk_42_method_151_code (3 : Nat) (Option.none : Option Jvm.ClassFile.FieldType)).before args0 about1 = true := code_word (m := ⟨7, 9⟩) (meth := k7m9) (c := k7c9) (by decide +kernel) rfl rfl rfl (by decide +kernel)
def codes1 : List Jvm.Cond := [Jvm.Cond.code x code maxLocals ret, Jvm.Cond.code ({ cls := "com/example/excl1/excl1/cli/RefusalUsagePinLaw", name := "make", desc := "(ICC)Ljava/lang/String;" } : Jvm.MethodName) method_2_code (3 : Nat) (Option.some (Jvm.ClassFile.FieldType.object "java/lang/String")), Jvm.Cond.code ({ cls := "java/lang/String", name := "<init>", desc := "([C)V" } : Jvm.MethodName) jdk_42_method_3_code (2 : Nat) (Option.none : Option Jvm.ClassFile.FieldType), Jvm.Cond.code ({ cls := "java/lang/String", name := "<init>", desc := "([CIILjava/lang/Void;)V" } : Jvm.MethodName) jdk_42_method_149_code (6 : Nat) (Option.none : Option Jvm.ClassFile.FieldType), Jvm.Cond.code ({ cls := "java/lang/Object", name := "<init>", desc := "()V" } : Jvm.MethodName) object_method_1_code (1 : Nat) (Option.none : Option Jvm.ClassFile.FieldType), Jvm.Cond.code ({ cls := "java/lang/StringUTF16", name := "compress", desc := "([CII)[B" } : Jvm.MethodName) jdk_52_method_16_code (6 : Nat) (Option.some (Jvm.ClassFile.FieldType.array Jvm.ClassFile.FieldType.byte)), Jvm.Cond.code ({ cls := "java/lang/StringUTF16", name := "compress", desc := "([CI[BII)I" } : Jvm.MethodName) jdk_52_method_21_code (7 : Nat) (Option.some Jvm.ClassFile.FieldType.int), Jvm.Cond.code ({ cls := "java/lang/StringUTF16", name := "coderFromArrayLen", desc := "([BI)B" } : Jvm.MethodName) jdk_52_method_15_code (2 : Nat) (Option.some Jvm.ClassFile.FieldType.byte), Jvm.Cond.code ({ cls := "com/example/excl1/excl1/cli/Refusal", name := "usage", desc := "(Ljava/lang/String;Ljava/lang/String;)Lcom/example/excl1/excl1/cli/Refusal;" } : Jvm.MethodName) prog_8_method_2_code (2 : Nat) (Option.some (Jvm.ClassFile.FieldType.object "com/example/excl1/excl1/cli/Refusal")), Jvm.Cond.code ({ cls := "java/lang/StringBuilder", name := "<init>", desc := "()V" } : Jvm.MethodName) jdk_67_method_1_code (1 : Nat) (Option.none : Option Jvm.ClassFile.FieldType), Jvm.Cond.code ({ cls := "java/lang/AbstractStringBuilder", name := "<init>", desc := "(I)V" } : Jvm.MethodName) jdk_68_method_2_code (2 : Nat) (Option.none : Option Jvm.ClassFile.FieldType), Jvm.Cond.code ({ cls := "java/lang/StringBuilder", name := "append", desc := "(Ljava/lang/String;)Ljava/lang/StringBuilder;" } : Jvm.MethodName) jdk_67_method_7_code (2 : Nat) (Option.some (Jvm.ClassFile.FieldType.object "java/lang/StringBuilder")), Jvm.Cond.code ({ cls := "java/lang/AbstractStringBuilder", name := "append", desc := "(Ljava/lang/String;)Ljava/lang/AbstractStringBuilder;" } : Jvm.MethodName) jdk_68_method_22_code (3 : Nat) (Option.some (Jvm.ClassFile.FieldType.object "java/lang/AbstractStringBuilder")), Jvm.Cond.code ({ cls := "java/lang/String", name := "length", desc := "()I" } : Jvm.MethodName) jdk_42_method_54_code (1 : Nat) (Option.some Jvm.ClassFile.FieldType.int), Jvm.Cond.code ({ cls := "java/lang/String", name := "coder", desc := "()B" } : Jvm.MethodName) jdk_42_method_152_code (1 : Nat) (Option.some Jvm.ClassFile.FieldType.byte), Jvm.Cond.code ({ cls := "java/lang/AbstractStringBuilder", name := "ensureCapacityInternal", desc := "(I)V" } : Jvm.MethodName) jdk_68_method_9_code (3 : Nat) (Option.none : Option Jvm.ClassFile.FieldType), Jvm.Cond.code ({ cls := "java/lang/AbstractStringBuilder", name := "putStringAt", desc := "(ILjava/lang/String;)V" } : Jvm.MethodName) jdk_68_method_73_code (3 : Nat) (Option.none : Option Jvm.ClassFile.FieldType), Jvm.Cond.code ({ cls := "java/lang/AbstractStringBuilder", name := "inflateIfNeededFor", desc := "(Ljava/lang/String;)V" } : Jvm.MethodName) jdk_68_method_71_code (2 : Nat) (Option.none : Option Jvm.ClassFile.FieldType), Jvm.Cond.code ({ cls := "java/lang/String", name := "getBytes", desc := "([BIB)V" } : Jvm.MethodName) jdk_42_method_147_code (4 : Nat) (Option.none : Option Jvm.ClassFile.FieldType), Jvm.Cond.code ({ cls := "java/lang/StringBuilder", name := "toString", desc := "()Ljava/lang/String;" } : Jvm.MethodName) jdk_67_method_42_code (1 : Nat) (Option.some (Jvm.ClassFile.FieldType.object "java/lang/String")), Jvm.Cond.code ({ cls := "java/lang/String", name := "<init>", desc := "(Ljava/lang/StringBuilder;)V" } : Jvm.MethodName) jdk_42_method_53_code (2 : Nat) (Option.none : Option Jvm.ClassFile.FieldType), Jvm.Cond.code ({ cls := "java/lang/String", name := "<init>", desc := "(Ljava/lang/AbstractStringBuilder;Ljava/lang/Void;)V" } : Jvm.MethodName) jdk_42_method_150_code (5 : Nat) (Option.none : Option Jvm.ClassFile.FieldType), Jvm.Cond.code ({ cls := "java/lang/AbstractStringBuilder", name := "getValue", desc := "()[B" } : Jvm.MethodName) jdk_68_method_64_code (1 : Nat) (Option.some (Jvm.ClassFile.FieldType.array Jvm.ClassFile.FieldType.byte)), Jvm.Cond.code ({ cls := "java/lang/StringBuilder", name := "length", desc := "()I" } : Jvm.MethodName) jdk_67_method_93_code (1 : Nat) (Option.some Jvm.ClassFile.FieldType.int), Jvm.Cond.code ({ cls := "java/lang/AbstractStringBuilder", name := "length", desc := "()I" } : Jvm.MethodName) jdk_68_method_6_code (1 : Nat) (Option.some Jvm.ClassFile.FieldType.int), Jvm.Cond.code ({ cls := "java/lang/AbstractStringBuilder", name := "isLatin1", desc := "()Z" } : Jvm.MethodName) jdk_68_method_68_code (1 : Nat) (Option.some Jvm.ClassFile.FieldType.boolean), Jvm.Cond.code ({ cls := "java/util/Arrays", name := "copyOfRange", desc := "([BII)[B" } : Jvm.MethodName) jdk_65_method_132_code (3 : Nat) (Option.some (Jvm.ClassFile.FieldType.array Jvm.ClassFile.FieldType.byte)), Jvm.Cond.code ({ cls := "java/util/Arrays", name := "copyOfRangeByte", desc := "([BII)[B" } : Jvm.MethodName) jdk_65_method_133_code (5 : Nat) (Option.some (Jvm.ClassFile.FieldType.array Jvm.ClassFile.FieldType.byte)), Jvm.Cond.code ({ cls := "java/util/Arrays", name := "checkLength", desc := "(II)V" } : Jvm.MethodName) jdk_65_method_131_code (2 : Nat) (Option.none : Option Jvm.ClassFile.FieldType), Jvm.Cond.code ({ cls := "java/lang/Math", name := "min", desc := "(II)I" } : Jvm.MethodName) jdk_29_method_69_code (2 : Nat) (Option.some Jvm.ClassFile.FieldType.int), Jvm.Cond.code ({ cls := "com/example/excl1/excl1/cli/Refusal", name := "<init>", desc := "(ILjava/lang/String;)V" } : Jvm.MethodName) prog_8_method_1_code (3 : Nat) (Option.none : Option Jvm.ClassFile.FieldType), Jvm.Cond.code ({ cls := "java/lang/Exception", name := "<init>", desc := "(Ljava/lang/String;)V" } : Jvm.MethodName) jdk_59_method_2_code (2 : Nat) (Option.none : Option Jvm.ClassFile.FieldType), Jvm.Cond.code ({ cls := "java/lang/Throwable", name := "<init>", desc := "(Ljava/lang/String;)V" } : Jvm.MethodName) jdk_78_method_2_code (2 : Nat) (Option.none : Option Jvm.ClassFile.FieldType), Jvm.Cond.code ({ cls := "java/lang/Throwable", name := "<init>", desc := "()V" } : Jvm.MethodName) jdk_78_method_1_code (1 : Nat) (Option.none : Option Jvm.ClassFile.FieldType), Jvm.Cond.code ({ cls := "com/example/excl1/excl1/cli/Refusal", name := "status", desc := "()I" } : Jvm.MethodName) prog_8_method_9_code (1 : Nat) (Option.some Jvm.ClassFile.FieldType.int), Jvm.Cond.code ({ cls := "java/lang/Throwable", name := "getMessage", desc := "()Ljava/lang/String;" } : Jvm.MethodName) jdk_78_method_6_code (1 : Nat) (Option.some (Jvm.ClassFile.FieldType.object "java/lang/String")), Jvm.Cond.code ({ cls := "java/lang/String", name := "charAt", desc := "(I)C" } : Jvm.MethodName) jdk_42_method_56_code (2 : Nat) (Option.some Jvm.ClassFile.FieldType.char), Jvm.Cond.code ({ cls := "java/lang/String", name := "isLatin1", desc := "()Z" } : Jvm.MethodName) jdk_42_method_154_code (1 : Nat) (Option.some Jvm.ClassFile.FieldType.boolean), Jvm.Cond.code ({ cls := "java/lang/StringLatin1", name := "charAt", desc := "([BI)C" } : Jvm.MethodName) jdk_43_method_2_code (2 : Nat) (Option.some Jvm.ClassFile.FieldType.char), Jvm.Cond.code ({ cls := "java/lang/String", name := "checkIndex", desc := "(II)V" } : Jvm.MethodName) jdk_42_method_155_code (2 : Nat) (Option.none : Option Jvm.ClassFile.FieldType), Jvm.Cond.code ({ cls := "jdk/internal/util/Preconditions", name := "checkIndex", desc := "(IILjava/util/function/BiFunction;)I" } : Jvm.MethodName) jdk_41_method_11_code (3 : Nat) (Option.some Jvm.ClassFile.FieldType.int), Jvm.Cond.code ({ cls := "java/lang/String", name := "valueOf", desc := "(C)Ljava/lang/String;" } : Jvm.MethodName) jdk_42_method_139_code (1 : Nat) (Option.some (Jvm.ClassFile.FieldType.object "java/lang/String")), Jvm.Cond.code ({ cls := "java/lang/StringLatin1", name := "canEncode", desc := "(C)Z" } : Jvm.MethodName) jdk_43_method_3_code (1 : Nat) (Option.some Jvm.ClassFile.FieldType.boolean), Jvm.Cond.code ({ cls := "java/lang/StringLatin1", name := "toBytes", desc := "(C)[B" } : Jvm.MethodName) jdk_43_method_46_code (1 : Nat) (Option.some (Jvm.ClassFile.FieldType.array Jvm.ClassFile.FieldType.byte)), Jvm.Cond.code ({ cls := "java/lang/String", name := "<init>", desc := "([BB)V" } : Jvm.MethodName) jdk_42_method_151_code (3 : Nat) (Option.none : Option Jvm.ClassFile.FieldType)]
set_option maxRecDepth 65536 in
theorem codes_eq : words1.filter isCode = codes1 := rfl
theorem w_codes : ∀ c ∈ words1.filter isCode, c.before args0 about1 = true := by
  rw [codes_eq]
  intro c hc
  simp only [codes1, List.mem_cons, List.not_mem_nil, or_false] at hc
  rcases hc with rfl | rfl | rfl | rfl | rfl | rfl | rfl | rfl | rfl | rfl | rfl | rfl | rfl | rfl | rfl | rfl | rfl | rfl | rfl | rfl | rfl | rfl | rfl | rfl | rfl | rfl | rfl | rfl | rfl | rfl | rfl | rfl | rfl | rfl | rfl | rfl | rfl | rfl | rfl | rfl | rfl | rfl | rfl | rfl | rfl
  · exact w_c0
  · exact w_c1
  · exact w_c2
  · exact w_c3
  · exact w_c4
  · exact w_c5
  · exact w_c6
  · exact w_c7
  · exact w_c8
  · exact w_c9
  · exact w_c10
  · exact w_c11
  · exact w_c12
  · exact w_c13
  · exact w_c14
  · exact w_c15
  · exact w_c16
  · exact w_c17
  · exact w_c18
  · exact w_c19
  · exact w_c20
  · exact w_c21
  · exact w_c22
  · exact w_c23
  · exact w_c24
  · exact w_c25
  · exact w_c26
  · exact w_c27
  · exact w_c28
  · exact w_c29
  · exact w_c30
  · exact w_c31
  · exact w_c32
  · exact w_c33
  · exact w_c34
  · exact w_c35
  · exact w_c36
  · exact w_c37
  · exact w_c38
  · exact w_c39
  · exact w_c40
  · exact w_c41
  · exact w_c42
  · exact w_c43
  · exact w_c44
set_option maxRecDepth 65536 in
theorem w_t1 : (words1.take 24).all (fun c => isCode c || c.before args0 about1) = true := by decide +kernel
set_option maxRecDepth 65536 in
theorem w_t2 : ((words1.drop 24).take 24).all (fun c => isCode c || c.before args0 about1) = true := by decide +kernel
set_option maxRecDepth 65536 in
theorem w_t3 : (((words1.drop 24).drop 24).take 24).all (fun c => isCode c || c.before args0 about1) = true := by decide +kernel
set_option maxRecDepth 65536 in
theorem w_t4 : ((((words1.drop 24).drop 24).drop 24).take 24).all (fun c => isCode c || c.before args0 about1) = true := by decide +kernel
set_option maxRecDepth 65536 in
theorem w_t5 : (((((words1.drop 24).drop 24).drop 24).drop 24).take 24).all (fun c => isCode c || c.before args0 about1) = true := by decide +kernel
set_option maxRecDepth 65536 in
theorem w_t6 : ((((((words1.drop 24).drop 24).drop 24).drop 24).drop 24).take 24).all (fun c => isCode c || c.before args0 about1) = true := by decide +kernel
set_option maxRecDepth 65536 in
theorem w_t7 : (((((((words1.drop 24).drop 24).drop 24).drop 24).drop 24).drop 24).take 24).all (fun c => isCode c || c.before args0 about1) = true := by decide +kernel
set_option maxRecDepth 65536 in
theorem w_t8 : ((((((((words1.drop 24).drop 24).drop 24).drop 24).drop 24).drop 24).drop 24).take 24).all (fun c => isCode c || c.before args0 about1) = true := by decide +kernel
set_option maxRecDepth 65536 in
theorem w_t9 : (((((((((words1.drop 24).drop 24).drop 24).drop 24).drop 24).drop 24).drop 24).drop 24).take 24).all (fun c => isCode c || c.before args0 about1) = true := by decide +kernel
set_option maxRecDepth 65536 in
theorem w_t10 : ((((((((((words1.drop 24).drop 24).drop 24).drop 24).drop 24).drop 24).drop 24).drop 24).drop 24).take 24).all (fun c => isCode c || c.before args0 about1) = true := by decide +kernel
set_option maxRecDepth 65536 in
theorem w_t11 : ((((((((((words1.drop 24).drop 24).drop 24).drop 24).drop 24).drop 24).drop 24).drop 24).drop 24).drop 24).all (fun c => isCode c || c.before args0 about1) = true := by decide +kernel
theorem w_tables : (allAtoms (Jvm.Cond.code x code maxLocals ret :: tables_1)).before args0 about1 = true := by
  rw [allAtoms_all]
  show words1.all (fun c => c.before args0 about1) = true
  refine all_split ?_ w_codes
  rw [← List.take_append_drop 24 words1, List.all_append, w_t1, ← List.take_append_drop 24 (words1.drop 24), List.all_append, w_t2, ← List.take_append_drop 24 ((words1.drop 24).drop 24), List.all_append, w_t3, ← List.take_append_drop 24 (((words1.drop 24).drop 24).drop 24), List.all_append, w_t4, ← List.take_append_drop 24 ((((words1.drop 24).drop 24).drop 24).drop 24), List.all_append, w_t5, ← List.take_append_drop 24 (((((words1.drop 24).drop 24).drop 24).drop 24).drop 24), List.all_append, w_t6, ← List.take_append_drop 24 ((((((words1.drop 24).drop 24).drop 24).drop 24).drop 24).drop 24), List.all_append, w_t7, ← List.take_append_drop 24 (((((((words1.drop 24).drop 24).drop 24).drop 24).drop 24).drop 24).drop 24), List.all_append, w_t8, ← List.take_append_drop 24 ((((((((words1.drop 24).drop 24).drop 24).drop 24).drop 24).drop 24).drop 24).drop 24), List.all_append, w_t9, ← List.take_append_drop 24 (((((((((words1.drop 24).drop 24).drop 24).drop 24).drop 24).drop 24).drop 24).drop 24).drop 24), List.all_append, w_t10, w_t11]
  rfl
set_option maxRecDepth 65536 in
theorem w_rest : rest_1_c.before args0 about1 = true := by decide +kernel
set_option maxRecDepth 65536 in
theorem w_case : (Jvm.Cond.and given_1 narrow_1).before args0 about1 = true := by decide +kernel
set_option maxRecDepth 65536 in
theorem w_consts : constsHeld consts_1 about1 := Jvm.Lit.constsHeldB_iff.mp (by decide +kernel)
theorem w_applies : (headSpec (Jvm.Cond.code x code maxLocals ret :: tables_1) room_1).applies x e0.platform about1 = true :=
  (Spec.applies_iff w_frames).mpr ⟨w_running, w_runnable, w_alone, w_named, w_hears, w_ripe, w_room, w_tables⟩
theorem atStart : AtStart classFile x code maxLocals ret World_1 tables_1 room_1 Calls_1 rest_1 Pre_1 launch0 p0 e0 about1 theMethod args0 below0 :=
  ⟨lists_1, trivial, launch0.admits_env _ _ _, launch0.least_env, fairChoices_fair.cas, fairChoices_fair.clock, w_frames, w_args, w_heap, w_applies, ⟨(by decide +kernel : framesKnown about1 = true), ⟨(by decide +kernel : tablesKnown about1 = true), ⟨w_consts, trivial⟩⟩⟩, w_rest, w_case⟩
end start1
theorem witness_1 : WitnessClaimed_1 := ⟨start1.p0, start1.e0, start1.about1, start1.theMethod, start1.args0, start1.below0, start1.atStart⟩
end Jvm.Pilot.@@N@@
