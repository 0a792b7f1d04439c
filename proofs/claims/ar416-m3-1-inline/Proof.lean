import JvmDerived
import JvmDerived.Pilot.@@N@@Statement
import JvmDerived.Pilot.@@N@@Code
set_option linter.unusedVariables false
set_option linter.unusedSimpArgs false
@@BLOCK:NumsL.lean.txt@@
namespace Jvm.RoadKit
open Sem ClassFile Op Lib Jvm.Stand Jvm.Free Jvm.LawKit
section New
variable {p : Program} {l : Launch} {e : Env} {R : Room} {s : State} {m : MethodId} {args : Array Value} {below : List Frame} {meth : Method} {c : Code} {T : State} {locs : List Loc} {cells slots : Nat}
theorem retI (X : Stand p l e R s m args below meth c T locs cells slots) (hx : p.tables.exec = Jvm.exec) {pc : Nat} {Ls : Array Slot} {z : Int32} {rest : List Value} (hret : meth.sig.returnType = some .int) (hd : decode c.code pc = .ok (.ireturn, 1)) {fs : List Frame}
    (hl : ∀ (f : JFrame) (acts : List Action), f.method = m → f.locked = none → f.entered = [] → (doReturn e (T.setTop f) acts (some (.int z))).1 = T.setFrames fs) : Steps p.tables e below (T.setTop (mkF m pc Ls (.int z :: rest))) (T.setFrames fs) := by
  have hm' : T.vm.method? m = some meth := X.method'
  have hn : narrow .int (.int z) = .int z := rfl
  show Steps p.tables e below (T.setTop { method := m, pc := pc, locals := Ls, stack := _ :: rest, locked := none }) _
  jvm_step X.here [X.here.top, hx, hd, hm', hret, hn]
  first | (intro acts; rw [hl _ acts rfl rfl rfl]) | rw [hl _ _ rfl rfl rfl]
  exact Steps.refl _
theorem own_retL (X : Stand p l e R s m args below meth c T locs cells slots) (hx : p.tables.exec = Jvm.exec) {pc : Nat} {Ls : Array Slot} {z : Int64} {rest : List Value} (hret : meth.sig.returnType = some .long) (hd : decode c.code pc = .ok (.lreturn, 1)) {fs : List Frame}
    (hl : ∀ (f : JFrame) (acts : List Action), f.method = m → f.locked = none → f.entered = [] → (doReturn e (T.setTop f) acts (some (.long z))).1 = T.setFrames fs) : Steps p.tables e below (T.setTop (mkF m pc Ls (.long z :: rest))) (T.setFrames fs) := by
  have hm' : T.vm.method? m = some meth := X.method'
  have hn : narrow .long (.long z) = .long z := rfl
  show Steps p.tables e below (T.setTop { method := m, pc := pc, locals := Ls, stack := _ :: rest, locked := none }) _
  jvm_step X.here [X.here.top, hx, hd, hm', hret, hn]
  first | (intro acts; rw [hl _ acts rfl rfl rfl]) | rw [hl _ _ rfl rfl rfl]
  exact Steps.refl _
theorem own_retD (X : Stand p l e R s m args below meth c T locs cells slots) (hx : p.tables.exec = Jvm.exec) {pc : Nat} {Ls : Array Slot} {z : UInt64} {rest : List Value} (hret : meth.sig.returnType = some .double) (hd : decode c.code pc = .ok (.dreturn, 1)) {fs : List Frame}
    (hl : ∀ (f : JFrame) (acts : List Action), f.method = m → f.locked = none → f.entered = [] → (doReturn e (T.setTop f) acts (some (.double z))).1 = T.setFrames fs) : Steps p.tables e below (T.setTop (mkF m pc Ls (.double z :: rest))) (T.setFrames fs) := by
  have hm' : T.vm.method? m = some meth := X.method'
  have hn : narrow .double (.double z) = .double z := rfl
  show Steps p.tables e below (T.setTop { method := m, pc := pc, locals := Ls, stack := _ :: rest, locked := none }) _
  jvm_step X.here [X.here.top, hx, hd, hm', hret, hn]
  first | (intro acts; rw [hl _ acts rfl rfl rfl]) | rw [hl _ _ rfl rfl rfl]
  exact Steps.refl _
end New
end Jvm.RoadKit
namespace Jvm.RoadKit
open Sem ClassFile Op Lib Jvm.Stand Jvm.Free Jvm.LawKit Bundle Jvm.Free.Exc Jvm.Lib.Cold
section OwnExc
variable {p : Program} {l : Launch} {e : Env} {R : Room} {s : State} {m : MethodId} {args : Array Value} {below : List Frame} {meth : Method} {c : Code} {T : State} {locs : List Loc} {cells slots : Nat} {Z : State} {a0 : Array Value} {h : Heap}
/-- the one word on Throwable's own layout that the sheet does not bear -/
abbrev own_lack : Cond := Cond.lays tN tN "suppressedExceptions" listD
/-- Throwable's bundle out of the words but that one: the subclass's word stands in for it -/
theorem own_links {rc : String} {pl : Platform} (hrc : rc ≠ tN) (howns : pl.frameOwnsMonitors = true) (hfin : pl.finalization = false) (hpl : pl.magicAccessors = ({} : Platform).magicAccessors) (W : ∀ d ∈ excAtoms rc, d ≠ own_lack → d.before args s = true) :
    ∃ (B : ThrowableC) (st : Field) (un : Field), B.Links pl s ∧ s.vm.findClass tN = some B.cT ∧ s.methodNamed? tFill = some B.fill ∧ s.methodNamed? tFill0 = some B.fill0 ∧ B.fStack = st ∧ B.fUnassigned = un ∧
      (∃ i, s.fieldFound? tN "stackTrace" steD = some (B.cT, B.kT, i, st)) ∧ (∃ i, s.fieldFound? tN "UNASSIGNED_STACK" steD = some (B.cT, B.kT, i, un)) ∧ st.name = "stackTrace" ∧ st.type = .array (.object "java/lang/StackTraceElement") := by
  have w : ∀ d, d ∈ throwableAtoms → d ≠ own_lack → d.holds args s none s [] = true := fun d hd hn => W d (by simp [excAtoms, hd]) hn
  have wr : ∀ d, d ∈ excAtoms rc → d ≠ own_lack → d.holds args s none s [] = true := fun d hd hn => W d hd hn
  have wS := wr (.lays rc tN "suppressedExceptions" listD) (by simp [excAtoms]) (by simp [own_lack, hrc])
  have wT := wr (.lays rc tN "stackTrace" steD) (by simp [excAtoms]) (by simp [own_lack, hrc])
  -- the native, and the class
  obtain ⟨⟨ct, j0⟩, f0, n0, m0, t0, u0, v0, x0⟩ := Cond.native_spec (w (.native tFill0) (by simp [throwableAtoms]) (by simp))
  have hct : s.vm.findClass tN = some ct := findClass_of_methodNamed n0
  obtain ⟨kt, hkt, hnm⟩ := Vm.findClass_spec hct
  obtain ⟨_, k1, _, _, hk1, _, _, -, _, hni⟩ := Cond.superclass_spec hct (w (.superclass tN "java/lang/Object") (by simp [throwableAtoms]) (by simp))
  cases Option.some.inj (hkt.symm.trans hk1)
  obtain ⟨j0', f0', n0', m0', at0, st0, ab0, nm0, ds0⟩ := Cond.ownMethod (x := tFill0) hct hkt (w (.instanceMethod tFill0) (by simp [throwableAtoms]) (by simp))
  obtain rfl : j0 = j0' := by have := Option.some.inj (n0.symm.trans n0'); simpa using this
  cases Option.some.inj (m0.symm.trans m0')
  -- fillInStackTrace()
  obtain ⟨jF, fF, nF, mF, atF, stF, abF, -, -⟩ := Cond.ownMethod (x := tFill) hct hkt (w (.instanceMethod tFill) (by simp [throwableAtoms]) (by simp))
  obtain ⟨fF', cF, mF', hcF, hbF, hlF, hrF, hkF, -, hsF⟩ := Cond.codeSync_spec nF (w (.codeSync tFill LibCode.Throwable.Fill.code 1 (some (.object tN))) (by simp [throwableAtoms]) (by simp))
  cases Option.some.inj (mF.symm.trans mF')
  -- Object's constructor
  obtain ⟨mO, fO, nO, hmO, stO, abO⟩ := Cond.instanceMethod_spec (w (.instanceMethod oInit) (by simp [throwableAtoms]) (by simp))
  obtain ⟨fO', cO, hmO', hcO, hbO, hlO, -, hkO, -, hsO⟩ := Cond.code_spec nO (w (.code oInit ⟨#[0xb1]⟩ 1 none) (by simp [throwableAtoms]) (by simp))
  cases Option.some.inj (hmO.symm.trans hmO')
  obtain ⟨kO, hkO1, hnO1⟩ := Vm.findClass_spec (findClass_of_methodNamed nO)
  obtain ⟨nmO, dsO⟩ := name_of_methodNamed nO hmO
  -- Throwable() is asked by the bundle alone
  obtain ⟨jZ, fZ, nZ, mZ, atZ, -, -, -, -⟩ := Cond.ownMethod (x := tInit0) hct hkt (w (.instanceMethod tInit0) (by simp [throwableAtoms]) (by simp))
  obtain ⟨fZ', cZ, mZ', hcZ, hbZ, hlZ, -, hkZ, -, -⟩ := Cond.code_spec nZ (w (.code tInit0 LibCode.Throwable.Init0.code 1 none) (by simp [throwableAtoms]) (by simp))
  -- links of methods
  obtain ⟨i1, r1, cf, l1, g1, hcf, p1⟩ := Cond.linkedMethod hct hkt nO (w (.methodLink tN 1 oInit) (by simp [throwableAtoms]) (by simp)) pl hpl
  obtain ⟨i27, r27, cf2, l27, g27, hcf2, p27⟩ := Cond.linkedMethod hct hkt nF (w (.methodLink tN 27 tFill) (by simp [throwableAtoms]) (by simp)) pl hpl
  cases Option.some.inj (hcf.symm.trans hcf2)
  obtain ⟨i202, r202, cf3, l202, g202, hcf3, p202⟩ := Cond.linkedMethod hct hkt n0 (w (.methodLink tN 202 tFill0) (by simp [throwableAtoms]) (by simp)) pl hpl
  cases Option.some.inj (hcf.symm.trans hcf3)
  -- links of fields
  obtain ⟨c7, j7, q7, l7, g7, a7, s7, f7, -, -, -⟩ := Cond.ownField (t := .object tN) hct hkt (by decide +kernel) (w (.fieldLink tN 7 tN "cause" "Ljava/lang/Throwable;") (by simp [throwableAtoms]) (by simp)) (w (.lays tN tN "cause" "Ljava/lang/Throwable;") (by simp [throwableAtoms]) (by simp [own_lack])) pl hpl
  obtain ⟨c17, j17, q17, l17, g17, a17, s17, f17, n17, t17, ff17⟩ := Cond.ownField (t := .array (.object "java/lang/StackTraceElement")) hct hkt (by decide +kernel) (w (.fieldLink tN 17 tN "stackTrace" steD) (by simp [throwableAtoms]) (by simp)) wT pl hpl
  obtain ⟨c24, j24, q24, l24, g24, a24, s24, f24, n24, t24, ff24⟩ := Cond.ownField (t := .object "java/util/List") hct hkt (by decide +kernel) (w (.fieldLink tN 24 tN "suppressedExceptions" listD) (by simp [throwableAtoms]) (by simp)) wS pl hpl
  obtain ⟨c13, j13, q13, aS, cS, l13, g13, a13, s13, -, -, hsta, -, -, -, -, ff13⟩ := Cond.ownStatic (t := .array (.object "java/lang/StackTraceElement")) hct hkt (by decide +kernel) (w (.fieldLink tN 13 tN "UNASSIGNED_STACK" steD) (by simp [throwableAtoms]) (by simp)) (w (.laysStatic tN "UNASSIGNED_STACK" steD) (by simp [throwableAtoms]) (by simp)) pl hpl
  obtain ⟨c20, j20, q20, _, _, l20, g20, a20, s20, -, -, -, -, -, -, -, -⟩ := Cond.ownStatic (t := .object "java/util/List") hct hkt (by decide +kernel) (w (.fieldLink tN 20 tN "SUPPRESSED_SENTINEL" listD) (by simp [throwableAtoms]) (by simp)) (w (.laysStatic tN "SUPPRESSED_SENTINEL" listD) (by simp [throwableAtoms]) (by simp)) pl hpl
  obtain ⟨_, _, _, _, _, qM, _, _, _, sM, fM, _⟩ := Cond.lays_spec (w (.lays tN tN "detailMessage" "Ljava/lang/String;") (by simp [throwableAtoms]) (by simp [own_lack]))
  -- the two slots are apart: by the subclass's words
  obtain ⟨cr, kr, _, _, _, _, hcr, hkr, _⟩ := Cond.lays_spec wS
  obtain ⟨-, dS, hdS, hdnS⟩ := Cond.laysAt hcr hkr ff24 wS
  obtain ⟨-, dT, hdT, hdnT⟩ := Cond.laysAt hcr hkr ff17 wT
  have apart := Cond.laysApart hdT hdS hdnT hdnS (by rw [n17, n24]; decide)
  have pF : fF.sig.parameters = [] := by
    have : (parseMethodDescriptor tFill.desc).map (·.parameters) = some [] := by decide +kernel
    rw [hsF] at this; simpa using this
  have p0 : f0.sig.parameters = [.int] := by
    have : (parseMethodDescriptor tFill0.desc).map (·.parameters) = some [.int] := by decide +kernel
    rw [x0] at this; simpa using this
  have pO : fO.sig.parameters.length = 0 := by
    have h1 : (parseMethodDescriptor oInit.desc).map (·.parameters) = some [] := by decide +kernel
    rw [hsO] at h1
    have h2 : fO.sig.parameters = [] := by simpa using h1
    rw [h2]; rfl
  refine ⟨{ cT := ct, kT := kt, cO := ct, aS := aS, fillIdx := jF, fill0Idx := j0, initSIdx := jZ, obj := mO, kObj := kO, methFill := fF, methFill0 := f0, methInitS := fZ, methObj := fO, codeFill := cF, codeInitS := cZ, codeObj := cO, fBack := q7, fDepth := q7, fStack := q17, fCause := q7, fSupp := q24, fMsg := qM, fUnassigned := q13, fSentinel := q20, cfT := cf, ci1 := i1, n1 := r1, ci27 := i27, n27 := r27, ci202 := i202, n202 := r202, ci7 := c7, i7 := j7, ci13 := c13, i13 := j13, ci17 := c17, i17 := j17, ci20 := c20, i20 := j20, ci24 := c24, i24 := j24 }, q17, q13, ?_, hct, nF, n0, rfl, rfl, ⟨j17, ff17⟩, ⟨j13, ff13⟩, n17, t17⟩
  constructor <;> first | exact howns | exact hfin | exact hkt | exact hnm | exact Vm.findClass_boot hct hkt | exact hni | exact Cond.initialized_spec hct hkt (w (.initialized tN) (by simp [throwableAtoms]) (by simp)) | exact hsta | exact atF | exact hcF | exact hbF | exact hlF | exact hkF | exact stF | exact abF | exact hrF | exact pF | exact at0 | exact nm0 | exact ds0 | exact p0 | exact st0 | exact t0 | exact u0 | exact v0 | exact ab0 | exact s17 | exact f17 | exact s13 | exact hkO1 | exact hnO1 | exact hmO | exact nmO | exact stO | exact abO | (rw [dsO]; exact lookupSpecial_of_named nO hmO stO) | exact pO | exact hcO | exact hbO | exact hkO | exact s7 | exact f7 | exact s20 | exact s24 | exact f24 | exact sM | exact fM | exact apart | exact hcf | exact l1 | exact g1 | exact p1 | exact l27 | exact g27 | exact p27 | exact l202 | exact g202 | exact p202 | exact l7 | exact g7 | exact a7 | exact l13 | exact g13 | exact a13 | exact l17 | exact g17 | exact a17 | exact l20 | exact g20 | exact a20 | exact l24 | exact g24 | exact a24
/-- all that is not based at a is kept -/
theorem own_keepS (X : Stand p l e R s m args below meth c T locs cells slots) {a : Addr} (hL : ∀ x ∈ locs, x.base = a) : Keep s.heap T.heap [a] := by
  obtain ⟨-, q1, -, -, -, q2⟩ := X.same
  refine ⟨q1, fun x cl hx hn => ?_, fun x cl hx => ?_⟩
  · obtain ⟨c', h1, h2, h3, h4⟩ := q2 x cl hx
    have hne : x ≠ a := fun z => hn (by simp [z])
    have : c'.slots = cl.slots := Array.ext_getElem? fun i => h4 i fun hm => hne (hL _ hm)
    rw [h2, this] at h1
    exact h1
  · obtain ⟨c', h1, h2, h3, h4⟩ := q2 x cl hx
    exact ⟨c', h1, by rw [h2], by rw [h2], h3⟩
theorem own_untS (X : Stand p l e R s m args below meth c T locs cells slots) {a : Addr} (N : Unt s.heap a) : Unt T.heap a := by
  obtain ⟨-, q1, -, -, -, q2⟩ := X.same
  obtain ⟨cl, h1, h2, h3⟩ := N
  obtain ⟨c', g1, g2, -⟩ := q2 _ _ h1
  exact ⟨c', g1, by rw [g2]; exact h2, by rw [g2]; exact h3⟩
/-- a field of the receiver that fillInStackTrace does not write -/
def own_Filled (Z : State) (h h' : Heap) (a : Addr) : Prop := ∃ C C' : Cell, h[a]? = some C ∧ h'[a]? = some C' ∧ C'.cls = C.cls ∧ C'.vm = C.vm ∧ C'.slots.size = C.slots.size ∧ ∀ i, slotOf Z tN "backtrace" obD ≠ i → slotOf Z tN "depth" "I" ≠ i → slotOf Z tN "stackTrace" steD ≠ i → C'.slots[i]? = C.slots[i]?
theorem own_Filled.exa {h' : Heap} {a : Addr} {C : String} (F : own_Filled Z h h' a) (E : Exa Z h a C) : Exa Z h' a C := by
  obtain ⟨c1, c2, h1, h2, h3, h4, h5, -⟩ := F
  obtain ⟨cl, k, q1, q2, q3, q4, q5⟩ := E
  cases h1.symm.trans q1
  exact ⟨c2, k, h2, by rw [h3]; exact q2, by rw [h3]; exact q3, by rw [h4]; exact q4, fun z => by rw [h5]; exact q5 z⟩
theorem own_Filled.fld {h' : Heap} {a : Addr} {O n d : String} {v : Value} (F : own_Filled Z h h' a) (f : Fld Z h a O n d v) (n1 : slotOf Z tN "backtrace" obD ≠ slotOf Z O n d) (n2 : slotOf Z tN "depth" "I" ≠ slotOf Z O n d) (n3 : slotOf Z tN "stackTrace" steD ≠ slotOf Z O n d) : Fld Z h' a O n d v := by
  obtain ⟨c1, c2, h1, h2, h3, h4, h5, h6⟩ := F
  obtain ⟨cl, cf, k, i, fd, q1, q2, q3, q4, q5, q6, q7⟩ := f
  cases h1.symm.trans q1
  have es : slotOf Z O n d = fd.slot := by simp [slotOf, q2]
  rw [es] at n1 n2 n3
  exact ⟨c2, cf, k, i, fd, h2, q2, q3, by rw [h4]; exact q4, by rw [h4]; exact q5, by rw [h3]; exact q6, (h6 _ n1 n2 n3).trans q7⟩
theorem own_slot (hZ : Z.Warmed39 s.vm) {n d : String} {cf i : Nat} {k : Class} {f : Field} (hf : s.fieldFound? tN n d = some (cf, k, i, f)) : slotOf Z tN n d = f.slot := by
  obtain ⟨c1, k1, i1, q⟩ := Jvm.Free.BdW.found_ride (U := s) (U' := Z) hZ.alike.symm ⟨cf, k, i, hf⟩
  simp [slotOf, q]
set_option maxHeartbeats 4000000 in
theorem own_fill (X : Stand p l e R s m args below meth c T locs cells slots) (hx : p.tables.exec = Jvm.exec) (hl : l.stackTraces = true) (hZ : Z.Warmed39 s.vm) (hown : s.vm.findClass tN = some m.cls) {rc : String} {kI : Nat} (hrc : rc ≠ tN) (hw : ∀ d ∈ excAtoms rc, d ≠ own_lack → d.before a0 Z = true) (wi : (Cond.instantiable rc kI).before a0 Z = true)
    (hT0 : ThS Z s.heap) (hTK : s.vm.MethodsKnown) (hBelow : s.vm.FramesKnown below) (eT : T.heap = h) {a w : Addr} (E : Exa Z h a rc) (N : Unt h a) (B : Fld Z h a tN "backtrace" obD .null) (F : Fld Z h a tN "stackTrace" steD (.ref w)) (S : Sta Z h tN "UNASSIGNED_STACK" steD (.ref w))
    {g : JFrame} (hg : g.method = m) (hsize : g.locals.size = c.maxLocals) {rest : List Value} (hs : g.stack = .ref a :: rest) (hd : decode c.code g.pc = .ok (.invokevirtual 27, 3)) (hf : 3 ≤ R.frames) (hlo : 2 * g.monitorRoom + (rest.map fun v => v.category).sum + 42 ≤ R.locals) (hc : cells + 1 ≤ R.cells) (hsl : slots + 2752 ≤ R.slots) :
    ∃ (T' : State) (L : List Loc), Stand p l e R s m args below meth c T' (locs ++ L) (cells + 1) (slots + 2752) ∧ (∀ x ∈ L, x.base = a) ∧ own_Filled Z h T'.heap a ∧ Steps p.tables e below (T.setTop g) (T'.setTop { g with pc := g.pc + 3, stack := .ref a :: rest }) := by
  have W : ∀ d ∈ excAtoms rc, d ≠ own_lack → d.before args s = true := fun d hd hn => mvX hT0 hZ (List.all_eq_true.mp exc_ok d hd) (hw d hd hn)
  have w' : ∀ d, d ∈ excAtoms rc → d ≠ own_lack → d.holds args s none s [] = true := fun d hd hn => W d hd hn
  have htr : e.platform.stackTraces = true := by rw [X.admits.platform]; exact hl
  obtain ⟨Y, fs, fu, L, yc, yf, y0, rfl, rfl, ⟨is, ffs⟩, ⟨iu, ffu⟩, sn, sty⟩ := own_links (args := args) (pl := e.platform) hrc (by rw [X.admits.platform]) (by rw [X.admits.platform]) (by rw [X.admits.platform]) W
  obtain ⟨cell, u1, u2, u3⟩ := N
  obtain ⟨ce, kx, x1, x2, x3, -, x5⟩ := id E
  cases u1.symm.trans x1
  have al := hZ.alike
  -- the subclass
  have hfound : s.vm.findClass rc = some cell.cls := by rw [al.findClass]; exact x2
  obtain ⟨kX, hkX, heX⟩ := al.2.2 _ _ x3
  obtain ⟨ci, ki, i1, i2, i3, -⟩ := Cond.instantiable_spec wi
  cases x2.symm.trans i1
  cases x3.symm.trans i2
  have hord : kX.kind = .ordinary := by rw [heX]; exact i3
  have hsz : cell.slots.size = kX.instanceTypes.size := by rw [heX]; exact x5 i3
  -- what the receiver and the statics hold
  obtain ⟨c1, cf1, k1, j1, f1, e1, e2, -, -, -, -, e7⟩ := F
  cases u1.symm.trans e1
  obtain ⟨k1', r1, -⟩ := State.fieldFound?_setVm (s := Z) al e2
  cases (show s.fieldFound? tN "stackTrace" steD = _ from r1).symm.trans ffs
  obtain ⟨cf2, j2, k2, f2, st, cS, b1, -, -, b4, b5, b6, b7⟩ := S
  obtain ⟨k2', r2, hek⟩ := State.fieldFound?_setVm (s := Z) al b1
  cases (show s.fieldFound? tN "UNASSIGNED_STACK" steD = _ from r2).symm.trans ffu
  have hst : st = Y.aS := by
    have q := L.statics
    rw [hek] at q
    exact Option.some.inj (b4.symm.trans q)
  subst hst
  obtain ⟨c3, cf3, k3, j3, f3, d1, d2, -, -, -, -, d7⟩ := B
  cases u1.symm.trans d1
  obtain ⟨k3', r3, -⟩ := State.fieldFound?_setVm (s := Z) al d2
  obtain ⟨ci198, i198, fB, hk198, hg198, ha198, hsB, -, hnB, htB, hffB⟩ := Cond.ownField (t := .object "java/lang/Object") yc L.cls (by decide +kernel) (w' (.fieldLink tN 198 tN "backtrace" obD) (by simp [excAtoms]) (by simp)) (w' (.lays tN tN "backtrace" obD) (by simp [excAtoms]) (by simp [own_lack])) e.platform (by rw [X.admits.platform])
  cases (show s.fieldFound? tN "backtrace" obD = _ from r3).symm.trans hffB
  obtain ⟨_, _, cD, kD, iD, fD, _, _, hffD, hstD, _, _, _, _⟩ := Cond.lays_spec (w' (.lays rc tN "depth" "I") (by simp [excAtoms]) (by simp [own_lack]))
  cases Option.some.inj ((Cond.lays_declared (w' (.lays rc tN "depth" "I") (by simp [excAtoms]) (by simp [own_lack])) hffD).symm.trans yc)
  obtain ⟨hkD, hatD⟩ := State.fieldFound?_spec hffD
  cases Option.some.inj (hkD.symm.trans L.cls)
  obtain ⟨hnD, htD⟩ := State.fieldFound?_type hffD (t := .int) (by decide +kernel)
  have hfb := Cond.soleField_find yc L.cls (w' (.soleField tN "backtrace") (by simp [excAtoms]) (by simp)) ha198 hnB hsB
  have hfd := Cond.soleField_find yc L.cls (w' (.soleField tN "depth") (by simp [excAtoms]) (by simp)) hatD hnD hstD
  obtain ⟨comp, cO, kO, -, -, hkO, hkindO, hO⟩ := Cond.arrayOver_spec (w' (.arrayOver (.object "java/lang/Object")) (by simp [excAtoms]) (by simp))
  obtain ⟨tyS, -⟩ := Cond.laysAt hfound hkX ffs (w' (.lays rc tN "stackTrace" steD) (by simp [excAtoms]) (by simp [own_lack]))
  obtain ⟨tyB, -⟩ := Cond.laysAt hfound hkX hffB (w' (.lays rc tN "backtrace" obD) (by simp [excAtoms]) (by simp [own_lack]))
  obtain ⟨tyD, -⟩ := Cond.laysAt hfound hkX hffD (w' (.lays rc tN "depth" "I") (by simp [excAtoms]) (by simp [own_lack]))
  have tk : ∀ {f : Field} {v : Value}, kX.instanceTypes[f.slot]? = some f.type → fits f.type v = true → Jvm.Takes s cell f v := fun {f v} h1 h2 => by
    obtain ⟨q1, q2⟩ := Takes.of_laid (v := v) hkX hord h1 h2
    exact ⟨by rw [hsz]; simpa using q1, by rw [u2]; exact q2⟩
  have hsel0 : selectMethod e.platform s.vm cell.cls Y.fill0 = .method Y.fill0 := by
    obtain ⟨c2, r2, m2, q1, q2, q3, q4, -⟩ := Cond.selects_spec (w' (.selects rc tFill0 tFill0) (by simp [excAtoms]) (by simp))
    cases Option.some.inj (q1.symm.trans hfound)
    cases Option.some.inj (q2.symm.trans (State.methodFound?_of_named y0 (by decide)))
    cases Option.some.inj (q3.symm.trans y0)
    rw [Launch.admits_selectMethod X.admits]; exact q4
  have hneS : Y.aS ≠ a := fun z => by
    rw [z] at b5
    cases u1.symm.trans b5
    rw [u2] at b6; cases b6
  have hknS : cS.vm ≠ .unknown := fun z => by rw [z] at b6; cases b6
  have hSE := W (.selects rc tFill tFill) (by simp [excAtoms]) (by simp)
  have hpay := fillPaysAny (l := l) (R := R) (p := p) (e := e) (below := below) (s := s) (sargs := args) (len := 3) (W := 2 * g.monitorRoom + (rest.map fun v => v.category).sum) hx htr Y L yf (u0 := ⟨.ref w, rfl⟩) (self := a) (cell := cell) (cellS := cS) (fun _ => by rw [u2]; simp) (by rw [u2]; simp) (by rw [u3]) (by rw [u3]) e7 hsel0 hneS hknS b7 (tk tyS (by rw [sty]; rfl))
      ⟨{ ci198 := ci198, i198 := j3, fBack := f3 }, ⟨hk198, hg198, ha198, hsB⟩, d7⟩ hTK hBelow yc hO hkO hkindO hfb hfd (fun x => tk tyB (by rw [htB]; rfl)) (fun x => tk tyD (by rw [htD]; rfl)) (by omega) (by omega)
  obtain ⟨v6, vm6, ⟨T6, L6, c6, n6⟩, hW6, X6, ⟨hv6, C6, n, hn, hD6, q1, q2, q3, q4, hL6, hc6, hn6⟩, st6⟩ := X.virtualBack hx (own := tN) (C := rc) (index := 27) (y := tFill) (z := tFill) hown (W (.methodLink tN 27 tFill) (by simp [excAtoms, throwableAtoms]) (by simp)) (W (.declares tFill) (by simp [excAtoms]) (by simp)) (notFace_of_selects hSE) hSE (W (.instanceMethod tFill) (by simp [excAtoms, throwableAtoms]) (by simp)) (by decide) hpay
    (b := a) (cB := cell.cls) hfound ⟨cell, by rw [eT]; exact u1, rfl, by rw [u2]; rfl⟩ (g := g) hg hsize (Steps.refl _) (argsL := []) (rest := rest)
    (fun sig h => by rw [show parseMethodDescriptor tFill.desc = some ⟨[], some (.object tN)⟩ from by decide +kernel] at h; rw [← Option.some.inj h]; rfl) (by rw [hs]; rfl) (Nat.le_refl _) hd
    (fun vmx hWx => ⟨rfl, by show cells + 1 ≤ R.cells; omega, by show slots + 2752 ≤ R.slots; omega, by show T.heap[a]? = _; rw [eT]; exact u1, by show T.heap[Y.aS]? = _; rw [eT]; exact b5⟩)
  dsimp only [Pt.U, Pt.locs, Pt.cells, Pt.slots] at X6 hD6 hL6 hc6 hn6 st6
  subst hv6 hL6 hc6 hn6
  refine ⟨T6, _, X6.more (Nat.le_refl _) (Nat.add_le_add_left hn _), ?_, ⟨cell, C6, u1, hD6, q1, q2, q3, fun i z1 z2 z3 => q4 i ?_ ?_ ?_⟩, st6⟩
  · intro x hx
    simp only [List.mem_cons, List.not_mem_nil, or_false] at hx
    rcases hx with rfl | rfl | rfl <;> rfl
  · rw [← own_slot hZ hffB]; exact Ne.symm z1
  · rw [← own_slot hZ hffD]; exact Ne.symm z2
  · rw [← own_slot hZ ffs]; exact Ne.symm z3
end OwnExc
end Jvm.RoadKit
/- laws to paste: Road.backV, Road.eqW (cut by pick.py; bodies as the Statement names them) -/
namespace Jvm.Pilot.@@N@@
namespace StrChars
open Jvm Sem ClassFile Op Lib Jvm.Stand Jvm.Free.XT Jvm.Free.ALB Jvm.Free.JM Jvm.Free
open Jvm.Lib.Cold (StaticIs)
/-- a char array whose places are chars -/
def Ch (a : Addr) (A : Cell) (U : State) : Prop := Arr .char a A U ∧ Typed .char A
theorem Ch.mv {a : Addr} {A : Cell} {U U' : State} (h : Ch a A U) (hal : U.vm.Alike U'.vm) (hh : U'.heap = U.heap) : Ch a A U' := ⟨h.1.mv hal hh, h.2⟩
theorem Ch.keep {a : Addr} {A : Cell} {U U' : State} (h : Ch a A U) (hal : U.vm.Alike U'.vm) (hk : U'.heap[a]? = some A) : Ch a A U' := ⟨h.1.keep hal hk, h.2⟩
/-- what place i of a char[]'s cell holds -/
def cv (A : Cell) (i : Nat) : Int32 := match A.slots[i]? with | some (.int x) => x | _ => 0
theorem Ch.get {a : Addr} {A : Cell} {U : State} (h : Ch a A U) {i : Nat} (hi : i < A.slots.size) : A.slots[i]? = some (.int (cv A i)) := by
  have e := Array.getElem?_eq_getElem hi
  have f := h.2 i _ e
  unfold cv; rw [e]
  generalize A.slots[i] = v at f
  cases v <;> simp [fits] at f ⊢
/-- the byte that i2b leaves of a char -/
def lo8 (x : Int32) : Int32 := x.toInt8.toInt32
theorem fits_lo8 (y : Int32) : fits .byte (.int (lo8 y)) = true := by
  have h1 := y.toInt8.le_toInt
  have h2 := y.toInt8.toInt_lt
  simp only [lo8, fits, Bool.and_eq_true, decide_eq_true_eq, Int32.le_iff_toInt_le, Int8.toInt_toInt32, show (-128 : Int32).toInt = -128 from by decide, show (127 : Int32).toInt = 127 from by decide]
  omega
/-- A' is A but that each place j of lo .. hi - 1 holds f j -/
def Laid (A A' : Cell) (lo hi : Nat) (f : Nat → Value) : Prop := A'.cls = A.cls ∧ A'.vm = A.vm ∧ A'.slots.size = A.slots.size ∧ ∀ i, A'.slots[i]? = if lo ≤ i ∧ i < hi then some (f i) else A.slots[i]?
theorem Laid.zero (A : Cell) (lo : Nat) (f : Nat → Value) : Laid A A lo (lo + 0) f := ⟨rfl, rfl, rfl, fun i => by rw [if_neg (by omega)]⟩
theorem Laid.step {A Ak : Cell} {lo k : Nat} {f : Nat → Value} {v : Value} (h : Laid A Ak lo k f) (hlo : lo ≤ k) (hk : k < Ak.slots.size) (hv : v = f k) : Laid A (Ak.setSlot k v) lo (k + 1) f := by
  refine ⟨h.1, h.2.1, by simpa [Cell.setSlot] using h.2.2.1, fun i => ?_⟩
  by_cases e : k = i
  · subst e; rw [Cell.slots_setSlot_self v hk, if_pos (by omega), hv]
  · rw [Cell.slots_setSlot_ne v e, h.2.2.2 i]
    by_cases q : lo ≤ i ∧ i < k
    · rw [if_pos q, if_pos (by omega)]
    · rw [if_neg q, if_neg (by omega)]
def U16 : String := "java/lang/StringUTF16"
namespace Cmp5
def yN : MethodName := ⟨"java/lang/StringUTF16", "compress", "([CI[BII)I"⟩
abbrev yB : ByteArray := jdk_52_method_21_code
theorem d0 : decode yB 0 = .ok (.iconst 0, 1) := by decide +kernel
theorem d1 : decode yB 1 = .ok (.istore 5, 2) := by decide +kernel
theorem d3 : decode yB 3 = .ok (.iload 5, 2) := by decide +kernel
theorem d5 : decode yB 5 = .ok (.iload 4, 2) := by decide +kernel
theorem d7 : decode yB 7 = .ok (.if_icmp (.ge) 37, 3) := by decide +kernel
theorem d10 : decode yB 10 = .ok (.aload_n 0, 1) := by decide +kernel
theorem d11 : decode yB 11 = .ok (.iload_n 1, 1) := by decide +kernel
theorem d12 : decode yB 12 = .ok (.caload, 1) := by decide +kernel
theorem d13 : decode yB 13 = .ok (.istore 6, 2) := by decide +kernel
theorem d15 : decode yB 15 = .ok (.iload 6, 2) := by decide +kernel
theorem d17 : decode yB 17 = .ok (.sipush 255, 3) := by decide +kernel
theorem d20 : decode yB 20 = .ok (.if_icmp (.le) 6, 3) := by decide +kernel
theorem d26 : decode yB 26 = .ok (.aload_n 2, 1) := by decide +kernel
theorem d27 : decode yB 27 = .ok (.iload_n 3, 1) := by decide +kernel
theorem d28 : decode yB 28 = .ok (.iload 6, 2) := by decide +kernel
theorem d30 : decode yB 30 = .ok (.i2b, 1) := by decide +kernel
theorem d31 : decode yB 31 = .ok (.bastore, 1) := by decide +kernel
theorem d32 : decode yB 32 = .ok (.iinc 1 1, 3) := by decide +kernel
theorem d35 : decode yB 35 = .ok (.iinc 3 1, 3) := by decide +kernel
theorem d38 : decode yB 38 = .ok (.iinc 5 1, 3) := by decide +kernel
theorem d41 : decode yB 41 = .ok (.goto (-38), 3) := by decide +kernel
theorem d44 : decode yB 44 = .ok (.iload 4, 2) := by decide +kernel
theorem d46 : decode yB 46 = .ok (.ireturn, 1) := by decide +kernel
def site : List Cond := []
def tab : Cond := tabOf yN yB 7 (some .int) site
def P (b : Addr) (A : Cell) (d : Addr) (B : Cell) (o q len : Nat) (args : Array Value) (s : State) : Prop := args = #[.ref b, .int (Int32.ofNat o), .ref d, .int (Int32.ofNat q), .int (Int32.ofNat len)] ∧ Ch b A s ∧ Arr .byte d B s ∧ b ≠ d ∧ o + len ≤ A.slots.size ∧ q + len ≤ B.slots.size ∧ ∀ i, i < len → ¬ 255 < cv A (o + i)
def E (b : Addr) (A : Cell) (d : Addr) (B : Cell) (o q len : Nat) (r : Option Value) (s u : State) : Prop := r = some (.int (Int32.ofNat len)) ∧ ∃ B', Put d B' s u ∧ Laid B B' q (q + len) (fun j => Value.int (lo8 (cv A (o + (j - q)))))
/-- no char of the range above 255: len; the places written hold each char's low byte -/
theorem law (l : Launch) (b : Addr) (A : Cell) (d : Addr) (B : Cell) (o q len : Nat) : Law l yN 5 5 0 0 yB 7 (some .int) site (P b A d B o q len) (E b A d B o q len) (copyLocs d q len) 0 0 := by
  refine Law.of_walk (plainFor_of_name (by decide +kernel)) (by decide +kernel) (by decide +kernel) (by decide) (fun _ _ h => by rw [h.1]; rfl) (fun _ U U' hal hh h => ⟨h.1, h.2.1.mv hal hh, h.2.2.1.mv hal hh, h.2.2.2⟩) (fun r U U' V V' h1 hal h2 h => ⟨h.1, h.2.elim fun B' q => ⟨B', q.1.mv h1 h2, q.2⟩⟩) ?_
  intro p e s m args below meth c s₁ X0 hexec hbytes hml hret hlk hnm hown hh0 W hP
  obtain ⟨rfl, hA, hB, hne, l1, l2, hp⟩ := hP
  have c1 : Steps p.tables e below (s₁.setTop (entryFrame m #[.ref b, .int (Int32.ofNat o), .ref d, .int (Int32.ofNat q), .int (Int32.ofNat len)] 7)) (s₁.setTop (mkF m 0 #[.val (.ref b), .val (.int (Int32.ofNat o)), .val (.ref d), .val (.int (Int32.ofNat q)), .val (.int (Int32.ofNat len)), .unset, .unset] [])) := entry rfl
  have hA0 := hA.1.mv X0.warmed.alike hh0
  have hB0 := hB.mv X0.warmed.alike hh0
  have a31 := hA.1.2.2.2
  have c2 : Steps p.tables e below (s₁.setTop (entryFrame m #[.ref b, .int (Int32.ofNat o), .ref d, .int (Int32.ofNat q), .int (Int32.ofNat len)] 7)) (s₁.setTop (mkF m 3 #[.val (.ref b), .val (.int (Int32.ofNat o)), .val (.ref d), .val (.int (Int32.ofNat q)), .val (.int (Int32.ofNat len)), .val (.int 0), .unset] [])) := c1.trans (by
    refine iconstV X0.here hexec rfl 0 (hb hbytes d0) (by decide) ?_
    refine XS.istore X0.here hexec rfl (hb hbytes d1) rfl rfl ?_
    exact Steps.refl _)
  have loop : ∀ (r i : Nat), i + r = len → ∀ (z : Slot), (z = .unset ∨ ∃ w, z = .val w ∧ w.category = 1) → ∀ (Tl : State) (Bk : Cell), Stand p l e { frames := 0, locals := 0, cells := 0, slots := 0 } s m #[.ref b, .int (Int32.ofNat o), .ref d, .int (Int32.ofNat q), .int (Int32.ofNat len)] below meth c Tl ([] ++ copyLocs d q i) 0 0 → Put d Bk s₁ Tl → Laid B Bk q (q + i) (fun j => Value.int (lo8 (cv A (o + (j - q))))) →
      Steps p.tables e below (s₁.setTop (entryFrame m #[.ref b, .int (Int32.ofNat o), .ref d, .int (Int32.ofNat q), .int (Int32.ofNat len)] 7)) (Tl.setTop (mkF m 3 #[.val (.ref b), .val (.int (Int32.ofNat (o + i))), .val (.ref d), .val (.int (Int32.ofNat (q + i))), .val (.int (Int32.ofNat len)), .val (.int (Int32.ofNat i)), z] [])) → ∃ (T' : State) (B' : Cell) (z' : Slot), Stand p l e { frames := 0, locals := 0, cells := 0, slots := 0 } s m #[.ref b, .int (Int32.ofNat o), .ref d, .int (Int32.ofNat q), .int (Int32.ofNat len)] below meth c T' ([] ++ copyLocs d q len) 0 0 ∧ Put d B' s₁ T' ∧ Laid B B' q (q + len) (fun j => Value.int (lo8 (cv A (o + (j - q))))) ∧
      Steps p.tables e below (s₁.setTop (entryFrame m #[.ref b, .int (Int32.ofNat o), .ref d, .int (Int32.ofNat q), .int (Int32.ofNat len)] 7)) (T'.setTop (mkF m 3 #[.val (.ref b), .val (.int (Int32.ofNat (o + len))), .val (.ref d), .val (.int (Int32.ofNat (q + len))), .val (.int (Int32.ofNat len)), .val (.int (Int32.ofNat len)), z'] [])) := by
    intro r
    induction r with
    | zero =>
      intro i hi z hz Tl Bk Xl pl fl cl
      have hil : i = len := by omega
      rw [hil] at Xl fl cl
      exact ⟨Tl, Bk, z, Xl, pl, fl, cl⟩
    | succ r ih =>
      intro i hi z hz Tl Bk Xl pl fl cl
      have all := X0.warmed.alike.symm.trans Xl.warmed.alike
      have hAl := hA0.keep all (pl.other hne hA0.1)
      have hBk := hB0.like all pl.1 fl.1 fl.2.1 fl.2.2.1
      have hlt : q + i < Bk.slots.size := by rw [fl.2.2.1]; omega
      have c3 : Steps p.tables e below (s₁.setTop (entryFrame m #[.ref b, .int (Int32.ofNat o), .ref d, .int (Int32.ofNat q), .int (Int32.ofNat len)] 7)) (Tl.setTop (mkF m 12 #[.val (.ref b), .val (.int (Int32.ofNat (o + i))), .val (.ref d), .val (.int (Int32.ofNat (q + i))), .val (.int (Int32.ofNat len)), .val (.int (Int32.ofNat i)), z] [.int (Int32.ofNat (o + i)), .ref b])) := cl.trans (by
        refine XS.iload Xl.here hexec rfl (hb hbytes d3) rfl ?_
        refine XS.iload Xl.here hexec rfl (hb hbytes d5) rfl ?_
        refine XS.icmpNo Xl.here hexec rfl (hb hbytes d7) rfl (ii_ge_f (lt32 (by omega) (by omega))) ?_
        refine XS.aloadN Xl.here hexec rfl (hb hbytes d10) rfl rfl ?_
        refine XS.iloadN Xl.here hexec rfl (hb hbytes d11) rfl ?_
        exact Steps.refl _)
      have c4 : Steps p.tables e below (s₁.setTop (entryFrame m #[.ref b, .int (Int32.ofNat o), .ref d, .int (Int32.ofNat q), .int (Int32.ofNat len)] 7)) (Tl.setTop (mkF m 13 #[.val (.ref b), .val (.int (Int32.ofNat (o + i))), .val (.ref d), .val (.int (Int32.ofNat (q + i))), .val (.int (Int32.ofNat len)), .val (.int (Int32.ofNat i)), z] [.int (cv A (o + i))])) := c3.trans (by
        refine Xl.aget hexec hAl rfl (hA.get (i := o + i) (by omega)) rfl rfl (hb hbytes d12) ?_
        exact Steps.refl _)
      have c5 : Steps p.tables e below (s₁.setTop (entryFrame m #[.ref b, .int (Int32.ofNat o), .ref d, .int (Int32.ofNat q), .int (Int32.ofNat len)] 7)) (Tl.setTop (mkF m 15 #[.val (.ref b), .val (.int (Int32.ofNat (o + i))), .val (.ref d), .val (.int (Int32.ofNat (q + i))), .val (.int (Int32.ofNat len)), .val (.int (Int32.ofNat i)), .val (.int (cv A (o + i)))] [])) := c4.trans (by
        refine XS.istoreS Xl.here hexec rfl (hb hbytes d13) rfl rfl hz ?_
        exact Steps.refl _)
      have c6 : Steps p.tables e below (s₁.setTop (entryFrame m #[.ref b, .int (Int32.ofNat o), .ref d, .int (Int32.ofNat q), .int (Int32.ofNat len)] 7)) (Tl.setTop (mkF m 31 #[.val (.ref b), .val (.int (Int32.ofNat (o + i))), .val (.ref d), .val (.int (Int32.ofNat (q + i))), .val (.int (Int32.ofNat len)), .val (.int (Int32.ofNat i)), .val (.int (cv A (o + i)))] [.int (lo8 (cv A (o + i))), .int (Int32.ofNat (q + i)), .ref d])) := c5.trans (by
        refine XS.iload Xl.here hexec rfl (hb hbytes d15) rfl ?_
        refine sipushV Xl.here hexec rfl 255 (hb hbytes d17) (by decide) ?_
        refine XS.icmpYes Xl.here hexec rfl (pc0 := 20) rfl (hb hbytes d20) rfl (ii_le_t (hp i (by omega))) (by decide) rfl ?_
        refine XS.aloadN Xl.here hexec rfl (hb hbytes d26) rfl rfl ?_
        refine XS.iloadN Xl.here hexec rfl (hb hbytes d27) rfl ?_
        refine XS.iload Xl.here hexec rfl (hb hbytes d28) rfl ?_
        refine i2b Xl.here hexec rfl (hb hbytes d30) rfl ?_
        exact Steps.refl _)
      obtain ⟨T7, X7, p7, st7⟩ := Xl.aput hexec hBk rfl hlt rfl (fits_lo8 (cv A (o + i))) (g := (mkF m 31 #[.val (.ref b), .val (.int (Int32.ofNat (o + i))), .val (.ref d), .val (.int (Int32.ofNat (q + i))), .val (.int (Int32.ofNat len)), .val (.int (Int32.ofNat i)), .val (.int (cv A (o + i)))] [.int (lo8 (cv A (o + i))), .int (Int32.ofNat (q + i)), .ref d])) rfl (rest := []) rfl (hb hbytes d31)
      have c8 : Steps p.tables e below (s₁.setTop (entryFrame m #[.ref b, .int (Int32.ofNat o), .ref d, .int (Int32.ofNat q), .int (Int32.ofNat len)] 7)) (T7.setTop (mkF m 32 #[.val (.ref b), .val (.int (Int32.ofNat (o + i))), .val (.ref d), .val (.int (Int32.ofNat (q + i))), .val (.int (Int32.ofNat len)), .val (.int (Int32.ofNat i)), .val (.int (cv A (o + i)))] [])) := c6.trans (st7 _ (Steps.refl _))
      have c9 : Steps p.tables e below (s₁.setTop (entryFrame m #[.ref b, .int (Int32.ofNat o), .ref d, .int (Int32.ofNat q), .int (Int32.ofNat len)] 7)) (T7.setTop (mkF m 3 #[.val (.ref b), .val (.int (Int32.ofNat (o + i) + 1)), .val (.ref d), .val (.int (Int32.ofNat (q + i) + 1)), .val (.int (Int32.ofNat len)), .val (.int (Int32.ofNat i + 1)), .val (.int (cv A (o + i)))] [])) := c8.trans (by
        refine iincV X7.here hexec rfl 1 (hb hbytes d32) (by decide) rfl rfl ?_
        refine iincV X7.here hexec rfl 1 (hb hbytes d35) (by decide) rfl rfl ?_
        refine iincV X7.here hexec rfl 1 (hb hbytes d38) (by decide) rfl rfl ?_
        refine XS.goto X7.here hexec rfl (pc0 := 41) rfl (hb hbytes d41) (by decide) rfl ?_
        exact Steps.refl _)
      have c10 : Steps p.tables e below (s₁.setTop (entryFrame m #[.ref b, .int (Int32.ofNat o), .ref d, .int (Int32.ofNat q), .int (Int32.ofNat len)] 7)) (T7.setTop (mkF m 3 #[.val (.ref b), .val (.int (Int32.ofNat (o + (i + 1)))), .val (.ref d), .val (.int (Int32.ofNat (q + (i + 1)))), .val (.int (Int32.ofNat len)), .val (.int (Int32.ofNat (i + 1))), .val (.int (cv A (o + i)))] [])) := by
        have := c9
        rw [succ32, succ32, succ32] at this
        exact this
      exact ih (i + 1) (by omega) _ (Or.inr ⟨_, rfl, rfl⟩) T7 _ (by rw [copyLocs_step, ← List.append_assoc]; exact X7) (pl.trans p7) (fl.step (by omega) hlt (by simp)) c10
  obtain ⟨T9, B9, z9, X9, p9, f9, g9⟩ := loop len 0 (by omega) .unset (Or.inl rfl) s₁ B (by simpa [copyLocs] using X0) ⟨hB0.1, fun _ _ => rfl, rfl⟩ (Laid.zero _ _ _) c2
  have c11 : Steps p.tables e below (s₁.setTop (entryFrame m #[.ref b, .int (Int32.ofNat o), .ref d, .int (Int32.ofNat q), .int (Int32.ofNat len)] 7)) (T9.setTop (mkF m 46 #[.val (.ref b), .val (.int (Int32.ofNat (o + len))), .val (.ref d), .val (.int (Int32.ofNat (q + len))), .val (.int (Int32.ofNat len)), .val (.int (Int32.ofNat len)), z9] [.int (Int32.ofNat len)])) := g9.trans (by
    refine XS.iload X9.here hexec rfl (hb hbytes d3) rfl ?_
    refine XS.iload X9.here hexec rfl (hb hbytes d5) rfl ?_
    refine XS.icmpYes X9.here hexec rfl (pc0 := 7) rfl (hb hbytes d7) rfl (ii_ge_t (nlt32 (by omega) (Nat.le_refl _))) (by decide) rfl ?_
    refine XS.iload X9.here hexec rfl (hb hbytes d44) rfl ?_
    exact Steps.refl _)
  exact ⟨T9, some (.int (Int32.ofNat len)), _, _, _, X9, by simp, rfl, rfl, (fun h => by cases h), ⟨rfl, B9, p9.from hh0, f9⟩, fun fs hl => c11.trans (X9.ireturnOut hexec hret rfl (Or.inl rfl) (hb hbytes d46) hl)⟩
end Cmp5
namespace Cmp3
def yN : MethodName := ⟨"java/lang/StringUTF16", "compress", "([CII)[B"⟩
abbrev yB : ByteArray := jdk_52_method_16_code
theorem d0 : decode yB 0 = .ok (.iload_n 2, 1) := by decide +kernel
theorem d1 : decode yB 1 = .ok (.newarray .byte, 2) := by decide +kernel
theorem d3 : decode yB 3 = .ok (.astore_n 3, 1) := by decide +kernel
theorem d4 : decode yB 4 = .ok (.aload_n 0, 1) := by decide +kernel
theorem d5 : decode yB 5 = .ok (.iload_n 1, 1) := by decide +kernel
theorem d6 : decode yB 6 = .ok (.aload_n 3, 1) := by decide +kernel
theorem d7 : decode yB 7 = .ok (.iconst 0, 1) := by decide +kernel
theorem d8 : decode yB 8 = .ok (.iload_n 2, 1) := by decide +kernel
theorem d9 : decode yB 9 = .ok (.invokestatic 115, 3) := by decide +kernel
theorem d12 : decode yB 12 = .ok (.istore 4, 2) := by decide +kernel
theorem d14 : decode yB 14 = .ok (.iload 4, 2) := by decide +kernel
theorem d16 : decode yB 16 = .ok (.iload_n 2, 1) := by decide +kernel
theorem d17 : decode yB 17 = .ok (.if_icmp (.eq) 40, 3) := by decide +kernel
theorem d57 : decode yB 57 = .ok (.aload_n 3, 1) := by decide +kernel
theorem d58 : decode yB 58 = .ok (.areturn, 1) := by decide +kernel
def site : List Cond := [.arrayClass .byte, Cmp5.tab] ++ staticW U16 115 Cmp5.yN
def tab : Cond := tabOf yN yB 6 (some (.array .byte)) site
def P (b : Addr) (A : Cell) (o len : Nat) (args : Array Value) (s : State) : Prop := args = #[.ref b, .int (Int32.ofNat o), .int (Int32.ofNat len)] ∧ Ch b A s ∧ o + len ≤ A.slots.size ∧ len ≤ 536870912 ∧ ∀ i, i < len → ¬ 255 < cv A (o + i)
def E (b : Addr) (A : Cell) (o len : Nat) (r : Option Value) (s u : State) : Prop := NewArr .byte "[B" len (fun j => .int (lo8 (cv A (o + j)))) r s u ∧ u.heap.size = s.heap.size + 1
/-- no char of the range above 255: a new byte[] of their low bytes -/
theorem law (l : Launch) (b : Addr) (A : Cell) (o len : Nat) : Law l yN 3 3 1 18 yB 6 (some (.array .byte)) site (P b A o len) (E b A o len) [] 1 len := by
  refine Law.of_walk (plainFor_of_name (by decide +kernel)) (by decide +kernel) (by decide +kernel) (by decide) (fun _ _ h => by rw [h.1]; rfl) (fun _ U U' hal hh h => ⟨h.1, h.2.1.mv hal hh, h.2.2⟩) (fun r U U' V V' h1 hal h2 h => ⟨NewArr.mv r U U' V V' h1 hal h2 h.1, by rw [h1, h2]; exact h.2⟩) ?_
  intro p e s m args below meth c s₁ X0 hexec hbytes hml hret hlk hnm hown hh0 W hP
  obtain ⟨rfl, hA, l1, l2, hp⟩ := hP
  have a31 := hA.1.2.2.2
  have c1 : Steps p.tables e below (s₁.setTop (entryFrame m #[.ref b, .int (Int32.ofNat o), .int (Int32.ofNat len)] 6)) (s₁.setTop (mkF m 0 #[.val (.ref b), .val (.int (Int32.ofNat o)), .val (.int (Int32.ofNat len)), .unset, .unset, .unset] [])) := entry rfl
  have c2 : Steps p.tables e below (s₁.setTop (entryFrame m #[.ref b, .int (Int32.ofNat o), .int (Int32.ofNat len)] 6)) (s₁.setTop (mkF m 1 #[.val (.ref b), .val (.int (Int32.ofNat o)), .val (.int (Int32.ofNat len)), .unset, .unset, .unset] [.int (Int32.ofNat len)])) := c1.trans (by
    refine XS.iloadN X0.here hexec rfl (hb hbytes d0) rfl ?_
    exact Steps.refl _)
  obtain ⟨T3, B3, X3, ba3, bs3, bv3, bh3, bf3, st3⟩ := X0.anew hexec (atype := .byte) (wk W (.arrayClass .byte)) rfl (by show len * 1 ≤ _; omega) (by omega) (g := (mkF m 1 #[.val (.ref b), .val (.int (Int32.ofNat o)), .val (.int (Int32.ofNat len)), .unset, .unset, .unset] [.int (Int32.ofNat len)])) rfl (hb hbytes d1) (rest := []) rfl (Nat.le_refl _) (by show 0 + len ≤ len; omega)
  rw [hh0] at ba3 st3
  have kp3 : XT.Kept s T3 := (XT.Kept.of_eq hh0).push bh3
  have hA3 := hA.keep X3.warmed.alike (kp3 _ _ hA.1.1)
  have hne : b ≠ s.heap.size := hA.1.ne
  have c4 : Steps p.tables e below (s₁.setTop (entryFrame m #[.ref b, .int (Int32.ofNat o), .int (Int32.ofNat len)] 6)) (T3.setTop (mkF m 3 #[.val (.ref b), .val (.int (Int32.ofNat o)), .val (.int (Int32.ofNat len)), .unset, .unset, .unset] [.ref s.heap.size])) := c2.trans (st3 _ (Steps.refl _))
  have c5 : Steps p.tables e below (s₁.setTop (entryFrame m #[.ref b, .int (Int32.ofNat o), .int (Int32.ofNat len)] 6)) (T3.setTop (mkF m 9 #[.val (.ref b), .val (.int (Int32.ofNat o)), .val (.int (Int32.ofNat len)), .val (.ref s.heap.size), .unset, .unset] [.int (Int32.ofNat len), .int 0, .ref s.heap.size, .int (Int32.ofNat o), .ref b])) := c4.trans (by
    refine XS.astoreN X3.here hexec rfl (hb hbytes d3) rfl rfl rfl ?_
    refine XS.aloadN X3.here hexec rfl (hb hbytes d4) rfl rfl ?_
    refine XS.iloadN X3.here hexec rfl (hb hbytes d5) rfl ?_
    refine XS.aloadN X3.here hexec rfl (hb hbytes d6) rfl rfl ?_
    refine iconstV X3.here hexec rfl 0 (hb hbytes d7) (by decide) ?_
    refine XS.iloadN X3.here hexec rfl (hb hbytes d8) rfl ?_
    exact Steps.refl _)
  obtain ⟨v6, T6, X6, E6, g6⟩ := X3.callS hexec (Cmp5.law l b A s.heap.size B3 o 0 len) hown (wks W (staticW U16 115 Cmp5.yN)) (wk W Cmp5.tab) (W := 0) (Nat.le_of_ble_eq_true rfl) (Nat.le_of_ble_eq_true rfl) (Nat.le_refl _) (by show 0 + len + 0 ≤ len; omega) (g := (mkF m 9 #[.val (.ref b), .val (.int (Int32.ofNat o)), .val (.int (Int32.ofNat len)), .val (.ref s.heap.size), .unset, .unset] [.int (Int32.ofNat len), .int (Int32.ofNat 0), .ref s.heap.size, .int (Int32.ofNat o), .ref b])) rfl (by rw [hml]; rfl) c5 (argsL := [.ref b, .int (Int32.ofNat o), .ref s.heap.size, .int (Int32.ofNat 0), .int (Int32.ofNat len)]) (rest := []) rfl rfl (by show 2 * 0 + 0 ≤ _; decide) (hb hbytes d9) (⟨rfl, hA3, ba3, hne, l1, by rw [bs3]; simp, hp⟩)
  obtain ⟨rfl, B6, p6, f6⟩ := E6
  have c7 : Steps p.tables e below (s₁.setTop (entryFrame m #[.ref b, .int (Int32.ofNat o), .int (Int32.ofNat len)] 6)) (T6.setTop (mkF m 12 #[.val (.ref b), .val (.int (Int32.ofNat o)), .val (.int (Int32.ofNat len)), .val (.ref s.heap.size), .unset, .unset] [.int (Int32.ofNat len)])) := g6
  have c8 : Steps p.tables e below (s₁.setTop (entryFrame m #[.ref b, .int (Int32.ofNat o), .int (Int32.ofNat len)] 6)) (T6.setTop (mkF m 58 #[.val (.ref b), .val (.int (Int32.ofNat o)), .val (.int (Int32.ofNat len)), .val (.ref s.heap.size), .val (.int (Int32.ofNat len)), .unset] [.ref s.heap.size])) := c7.trans (by
    refine XS.istore X6.here hexec rfl (hb hbytes d12) rfl rfl ?_
    refine XS.iload X6.here hexec rfl (hb hbytes d14) rfl ?_
    refine XS.iloadN X6.here hexec rfl (hb hbytes d16) rfl ?_
    refine XS.icmpYes X6.here hexec rfl (pc0 := 17) rfl (hb hbytes d17) rfl (ii_eq_t rfl) (by decide) rfl ?_
    refine XS.aloadN X6.here hexec rfl (hb hbytes d57) rfl rfl ?_
    exact Steps.refl _)
  have X8 := X6.wide (L' := []) (cells' := 1) (slots' := len) (fun x hx hlt => by
    simp only [List.nil_append, copyLocs, List.mem_map, List.mem_range] at hx
    obtain ⟨i, -, rfl⟩ := hx
    exact absurd hlt (Nat.lt_irrefl _)) (Nat.le_refl _) (by omega)
  exact ⟨T6, some (.ref s.heap.size), _, _, _, X8, rfl, rfl, rfl, (fun h => by cases h), ⟨⟨rfl, B6, ba3.like (X3.warmed.alike.symm.trans X6.warmed.alike) p6.1 f6.1 f6.2.1 f6.2.2.1, f6.2.1.trans bv3, by rw [X6.warmed.alike.findClass, f6.1]; exact bf3, by rw [f6.2.2.1, bs3]; simp, fun j hj => by rw [f6.2.2.2 j, if_pos (by omega)]; rfl, kp3.put p6 (Nat.le_refl _)⟩, by rw [p6.2.2, bh3, hh0]; simp⟩, fun fs hl => c8.trans (X8.areturnOut hexec rfl hret rfl (hb hbytes d58) hl)⟩
end Cmp3
namespace CodL
def yN : MethodName := ⟨"java/lang/StringUTF16", "coderFromArrayLen", "([BI)B"⟩
abbrev yB : ByteArray := jdk_52_method_15_code
theorem d0 : decode yB 0 = .ok (.iload_n 1, 1) := by decide +kernel
theorem d1 : decode yB 1 = .ok (.aload_n 0, 1) := by decide +kernel
theorem d2 : decode yB 2 = .ok (.arraylength, 1) := by decide +kernel
theorem d3 : decode yB 3 = .ok (.isub, 1) := by decide +kernel
theorem d4 : decode yB 4 = .ok (.bipush 31, 2) := by decide +kernel
theorem d6 : decode yB 6 = .ok (.iushr, 1) := by decide +kernel
theorem d7 : decode yB 7 = .ok (.i2b, 1) := by decide +kernel
theorem d8 : decode yB 8 = .ok (.ireturn, 1) := by decide +kernel
def site : List Cond := []
def tab : Cond := tabOf yN yB 2 (some .byte) site
def P (d : Addr) (B : Cell) (args : Array Value) (s : State) : Prop := args = #[.ref d, .int (Int32.ofNat B.slots.size)] ∧ Arr .byte d B s
def E (r : Option Value) (s u : State) : Prop := XT.PureE (some (.int 0)) r s u
/-- an array as long as the number of chars: LATIN1 -/
theorem law (l : Launch) (d : Addr) (B : Cell) : Law l yN 2 2 0 0 yB 2 (some .byte) site (P d B) E [] 0 0 := by
  refine Law.of_walk (plainFor_of_name (by decide +kernel)) (by decide +kernel) (by decide +kernel) (by decide) (fun _ _ h => by rw [h.1]; rfl) (fun _ U U' hal hh h => ⟨h.1, h.2.mv hal hh⟩) (fun r U U' V V' h1 hal h2 h => XT.PureE.mv r U U' V V' h1 hal h2 h) ?_
  intro p e s m args below meth c s₁ X0 hexec hbytes hml hret hlk hnm hown hh0 W hP
  obtain ⟨rfl, hB⟩ := hP
  have hB0 := hB.mv X0.warmed.alike hh0
  have c1 : Steps p.tables e below (s₁.setTop (entryFrame m #[.ref d, .int (Int32.ofNat B.slots.size)] 2)) (s₁.setTop (mkF m 0 #[.val (.ref d), .val (.int (Int32.ofNat B.slots.size))] [])) := entry rfl
  have c2 : Steps p.tables e below (s₁.setTop (entryFrame m #[.ref d, .int (Int32.ofNat B.slots.size)] 2)) (s₁.setTop (mkF m 2 #[.val (.ref d), .val (.int (Int32.ofNat B.slots.size))] [.ref d, .int (Int32.ofNat B.slots.size)])) := c1.trans (by
    refine XS.iloadN X0.here hexec rfl (hb hbytes d0) rfl ?_
    refine XS.aloadN X0.here hexec rfl (hb hbytes d1) rfl rfl ?_
    exact Steps.refl _)
  have c3 : Steps p.tables e below (s₁.setTop (entryFrame m #[.ref d, .int (Int32.ofNat B.slots.size)] 2)) (s₁.setTop (mkF m 8 #[.val (.ref d), .val (.int (Int32.ofNat B.slots.size))] [.int (lo8 (ushr (Int32.ofNat B.slots.size - Int32.ofNat B.slots.size) 31))])) := c2.trans (by
    refine X0.alen hexec hB0 rfl rfl (hb hbytes d2) ?_
    refine XS.isub X0.here hexec rfl (hb hbytes d3) rfl ?_
    refine bipushV X0.here hexec rfl 31 (hb hbytes d4) (by decide) ?_
    refine iushr X0.here hexec rfl (hb hbytes d6) rfl ?_
    refine i2b X0.here hexec rfl (hb hbytes d7) rfl ?_
    exact Steps.refl _)
  have e0 : lo8 (ushr (Int32.ofNat B.slots.size - Int32.ofNat B.slots.size) 31) = 0 := by rw [Int32.sub_self]; decide
  rw [e0] at c3
  exact ⟨s₁, some (.int 0), _, _, _, X0, rfl, rfl, rfl, (fun h => by cases h), ⟨rfl, hh0⟩, fun fs hl => c3.trans (X0.ireturnOut hexec hret rfl (Or.inr (Or.inr (Or.inl rfl))) (hb hbytes d8) hl)⟩
end CodL
/-- the String at a is Latin-1 over a new byte[] (the heap's one new cell): the low bytes of the len chars of A from o on; every cell but a is kept -/
def Got (a : Addr) (D : Cell) (fV fC : Field) (A : Cell) (o len : Nat) (r : Option Value) (s u : State) : Prop := r = none ∧ ∃ D' V : Cell, Blank "java/lang/String" a D' u ∧ Same D D' [fV.slot, fC.slot] ∧ D'.slots[fV.slot]? = some (.ref s.heap.size) ∧ D'.slots[fC.slot]? = some (.int 0) ∧ Arr .byte s.heap.size V u ∧ V.vm = .none ∧ u.vm.findClass "[B" = some V.cls ∧ V.slots.size = len ∧ (∀ j, j < len → V.slots[j]? = some (.int (lo8 (cv A (o + j))))) ∧ (∀ (y : Addr) (c : Cell), y ≠ a → s.heap[y]? = some c → u.heap[y]? = some c) ∧ u.heap.size = s.heap.size + 1
theorem Got.mv {a : Addr} {D A : Cell} {fV fC : Field} {o len : Nat} : ∀ r (U U' V V' : State), U'.heap = U.heap → V.vm.Alike V'.vm → V'.heap = V.heap → Got a D fV fC A o len r U V → Got a D fV fC A o len r U' V' :=
  fun r U U' V V' h1 hal h2 ⟨e0, D', X, a1, a2, a3, a4, a5, a6, a7, a8, a9, a10, a11⟩ => ⟨e0, D', X, a1.mv hal h2, a2, by rw [h1]; exact a3, a4, by rw [h1]; exact a5.mv hal h2, a6, by rw [hal.findClass]; exact a7, a8, a9, by rw [h1, h2]; exact a10, by rw [h1, h2]; exact a11⟩
namespace New4
def yN : MethodName := ⟨"java/lang/String", "<init>", "([CIILjava/lang/Void;)V"⟩
abbrev yB : ByteArray := jdk_42_method_149_code
theorem d0 : decode yB 0 = .ok (.aload_n 0, 1) := by decide +kernel
theorem d1 : decode yB 1 = .ok (.invokespecial 1, 3) := by decide +kernel
theorem d4 : decode yB 4 = .ok (.iload_n 3, 1) := by decide +kernel
theorem d5 : decode yB 5 = .ok (.ifCond (.ne) 22, 3) := by decide +kernel
theorem d27 : decode yB 27 = .ok (.getstatic 38, 3) := by decide +kernel
theorem d30 : decode yB 30 = .ok (.ifCond (.eq) 28, 3) := by decide +kernel
theorem d33 : decode yB 33 = .ok (.aload_n 1, 1) := by decide +kernel
theorem d34 : decode yB 34 = .ok (.iload_n 2, 1) := by decide +kernel
theorem d35 : decode yB 35 = .ok (.iload_n 3, 1) := by decide +kernel
theorem d36 : decode yB 36 = .ok (.invokestatic 177, 3) := by decide +kernel
theorem d39 : decode yB 39 = .ok (.astore 5, 2) := by decide +kernel
theorem d41 : decode yB 41 = .ok (.aload_n 0, 1) := by decide +kernel
theorem d42 : decode yB 42 = .ok (.aload 5, 2) := by decide +kernel
theorem d44 : decode yB 44 = .ok (.iload_n 3, 1) := by decide +kernel
theorem d45 : decode yB 45 = .ok (.invokestatic 47, 3) := by decide +kernel
theorem d48 : decode yB 48 = .ok (.putfield 15, 3) := by decide +kernel
theorem d51 : decode yB 51 = .ok (.aload_n 0, 1) := by decide +kernel
theorem d52 : decode yB 52 = .ok (.aload 5, 2) := by decide +kernel
theorem d54 : decode yB 54 = .ok (.putfield 9, 3) := by decide +kernel
theorem d57 : decode yB 57 = .ok (.return_, 1) := by decide +kernel
def site : List Cond := [.fieldLink "java/lang/String" 38 "java/lang/String" "COMPACT_STRINGS" "Z", Cmp3.tab, CodL.tab, .laysFinal "java/lang/String" "java/lang/String" "value" "[B", .fieldLink "java/lang/String" 9 "java/lang/String" "value" "[B", .laysFinal "java/lang/String" "java/lang/String" "coder" "B", .fieldLink "java/lang/String" 15 "java/lang/String" "coder" "B"] ++ objW "java/lang/String" 1 ++ staticW "java/lang/String" 177 Cmp3.yN ++ staticW "java/lang/String" 47 CodL.yN
def tab : Cond := tabOf yN yB 6 none site
def P (a : Addr) (D : Cell) (fV fC : Field) (b : Addr) (A : Cell) (z : Int32) (o len : Nat) (args : Array Value) (s : State) : Prop := args = #[.ref a, .ref b, .int (Int32.ofNat o), .int (Int32.ofNat len), .null] ∧ Blank "java/lang/String" a D s ∧ Found "java/lang/String" "value" "[B" fV s ∧ Found "java/lang/String" "coder" "B" fC s ∧ Ch b A s ∧ StaticIs s "java/lang/String" "COMPACT_STRINGS" "Z" (.int z) ∧ ¬ z = 0 ∧ 0 < len ∧ o + len ≤ A.slots.size ∧ len ≤ 536870912 ∧ ∀ i, i < len → ¬ 255 < cv A (o + i)
def E (a : Addr) (D : Cell) (fV fC : Field) (A : Cell) (o len : Nat) (r : Option Value) (s u : State) : Prop := Got a D fV fC A o len r s u
/-- len > 0, no char of the range above 255: a Latin-1 String of their low bytes -/
theorem law (l : Launch) (a : Addr) (D : Cell) (fV fC : Field) (b : Addr) (A : Cell) (z : Int32) (o len : Nat) : Law l yN 5 4 2 35 yB 6 none site (P a D fV fC b A z o len) (E a D fV fC A o len) [⟨a, fC.slot⟩, ⟨a, fV.slot⟩] 1 len := by
  refine Law.of_walk (plainFor_of_name (by decide +kernel)) (by decide +kernel) (by decide +kernel) (by decide) (fun _ _ h => by rw [h.1]; rfl) (fun _ U U' hal hh h => ⟨h.1, h.2.1.mv hal hh, h.2.2.1.al hal, h.2.2.2.1.al hal, h.2.2.2.2.1.mv hal hh, h.2.2.2.2.2.1.there hal hh, h.2.2.2.2.2.2⟩) (fun r U U' V V' h1 hal h2 h => Got.mv r U U' V V' h1 hal h2 h) ?_
  intro p e s m args below meth c s₁ X0 hexec hbytes hml hret hlk hnm hown hh0 W hP
  obtain ⟨rfl, hB, f1, f2, hA, s1, hz, l0, l1, l2, hp⟩ := hP
  have a31 := hA.1.2.2.2
  have c1 : Steps p.tables e below (s₁.setTop (entryFrame m #[.ref a, .ref b, .int (Int32.ofNat o), .int (Int32.ofNat len), .null] 6)) (s₁.setTop (mkF m 0 #[.val (.ref a), .val (.ref b), .val (.int (Int32.ofNat o)), .val (.int (Int32.ofNat len)), .val .null, .unset] [])) := entry rfl
  have c2 : Steps p.tables e below (s₁.setTop (entryFrame m #[.ref a, .ref b, .int (Int32.ofNat o), .int (Int32.ofNat len), .null] 6)) (s₁.setTop (mkF m 1 #[.val (.ref a), .val (.ref b), .val (.int (Int32.ofNat o)), .val (.int (Int32.ofNat len)), .val .null, .unset] [.ref a])) := c1.trans (by
    refine XS.aloadN X0.here hexec rfl (hb hbytes d0) rfl rfl ?_
    exact Steps.refl _)
  obtain ⟨T3, X3, q3, st3⟩ := X0.oinit hexec hown (wks W (objW "java/lang/String" 1)) (g := (mkF m 1 #[.val (.ref a), .val (.ref b), .val (.int (Int32.ofNat o)), .val (.int (Int32.ofNat len)), .val .null, .unset] [.ref a])) rfl (by rw [hml]; rfl) (rest := []) rfl (hb hbytes d1) (W := 0) (by show 2 * 0 + 0 ≤ _; decide) (Nat.le_of_ble_eq_true rfl) (Nat.le_of_ble_eq_true rfl)
  have hh3 := q3.trans hh0
  have c4 : Steps p.tables e below (s₁.setTop (entryFrame m #[.ref a, .ref b, .int (Int32.ofNat o), .int (Int32.ofNat len), .null] 6)) (T3.setTop (mkF m 27 #[.val (.ref a), .val (.ref b), .val (.int (Int32.ofNat o)), .val (.int (Int32.ofNat len)), .val .null, .unset] [])) := (c2.trans (st3 _ (Steps.refl _))).trans (by
    refine XS.iloadN X3.here hexec rfl (hb hbytes d4) rfl ?_
    refine XS.ifYes X3.here hexec rfl (pc0 := 5) rfl (hb hbytes d5) rfl (i0_ne_t (nz32 (by omega) l0)) (by decide) rfl ?_
    exact Steps.refl _)
  obtain ⟨T5, X5, q5, st5⟩ := X3.sget hexec hown (wk W (.fieldLink "java/lang/String" 38 "java/lang/String" "COMPACT_STRINGS" "Z")) s1 (fun _ _ h => by rw [hh3]; exact h) (g := (mkF m 27 #[.val (.ref a), .val (.ref b), .val (.int (Int32.ofNat o)), .val (.int (Int32.ofNat len)), .val .null, .unset] [])) rfl (hb hbytes d27)
  have hh5 := q5.trans hh3
  have c6 : Steps p.tables e below (s₁.setTop (entryFrame m #[.ref a, .ref b, .int (Int32.ofNat o), .int (Int32.ofNat len), .null] 6)) (T5.setTop (mkF m 30 #[.val (.ref a), .val (.ref b), .val (.int (Int32.ofNat o)), .val (.int (Int32.ofNat len)), .val .null, .unset] [.int z])) := c4.trans (st5 _ (Steps.refl _))
  have c7 : Steps p.tables e below (s₁.setTop (entryFrame m #[.ref a, .ref b, .int (Int32.ofNat o), .int (Int32.ofNat len), .null] 6)) (T5.setTop (mkF m 36 #[.val (.ref a), .val (.ref b), .val (.int (Int32.ofNat o)), .val (.int (Int32.ofNat len)), .val .null, .unset] [.int (Int32.ofNat len), .int (Int32.ofNat o), .ref b])) := c6.trans (by
    refine XS.ifNo X5.here hexec rfl (hb hbytes d30) rfl (i0_eq_f hz) ?_
    refine XS.aloadN X5.here hexec rfl (hb hbytes d33) rfl rfl ?_
    refine XS.iloadN X5.here hexec rfl (hb hbytes d34) rfl ?_
    refine XS.iloadN X5.here hexec rfl (hb hbytes d35) rfl ?_
    exact Steps.refl _)
  obtain ⟨v8, T8, X8, E8, g8⟩ := X5.callS hexec (Cmp3.law l b A o len) hown (wks W (staticW "java/lang/String" 177 Cmp3.yN)) (wk W Cmp3.tab) (W := 0) (Nat.le_of_ble_eq_true rfl) (Nat.le_of_ble_eq_true rfl) (Nat.le_refl _) (by show 0 + len ≤ len; omega) (g := (mkF m 36 #[.val (.ref a), .val (.ref b), .val (.int (Int32.ofNat o)), .val (.int (Int32.ofNat len)), .val .null, .unset] [.int (Int32.ofNat len), .int (Int32.ofNat o), .ref b])) rfl (by rw [hml]; rfl) c7 (argsL := [.ref b, .int (Int32.ofNat o), .int (Int32.ofNat len)]) (rest := []) rfl rfl (by show 2 * 0 + 0 ≤ _; decide) (hb hbytes d36) (⟨rfl, hA.mv X5.warmed.alike hh5, l1, l2, hp⟩)
  obtain ⟨e8, z8⟩ := E8
  obtain ⟨rfl, N, n1, n2, n3, n4, n5, n6⟩ := NewArr.mv _ T5 s _ _ hh5.symm (Vm.Alike.refl _) rfl e8
  rw [hh5] at z8
  have hB1 := hB.keep X8.warmed.alike (n6 _ _ hB.1)
  have hne : s.heap.size ≠ a := (Nat.ne_of_lt (Array.getElem?_eq_some_iff.mp hB.1).1).symm
  have c9 : Steps p.tables e below (s₁.setTop (entryFrame m #[.ref a, .ref b, .int (Int32.ofNat o), .int (Int32.ofNat len), .null] 6)) (T8.setTop (mkF m 39 #[.val (.ref a), .val (.ref b), .val (.int (Int32.ofNat o)), .val (.int (Int32.ofNat len)), .val .null, .unset] [.ref s.heap.size])) := g8
  have c10 : Steps p.tables e below (s₁.setTop (entryFrame m #[.ref a, .ref b, .int (Int32.ofNat o), .int (Int32.ofNat len), .null] 6)) (T8.setTop (mkF m 45 #[.val (.ref a), .val (.ref b), .val (.int (Int32.ofNat o)), .val (.int (Int32.ofNat len)), .val .null, .val (.ref s.heap.size)] [.int (Int32.ofNat N.slots.size), .ref s.heap.size, .ref a])) := by
    have hc : Steps p.tables e below (s₁.setTop (entryFrame m #[.ref a, .ref b, .int (Int32.ofNat o), .int (Int32.ofNat len), .null] 6)) (T8.setTop (mkF m 45 #[.val (.ref a), .val (.ref b), .val (.int (Int32.ofNat o)), .val (.int (Int32.ofNat len)), .val .null, .val (.ref s.heap.size)] [.int (Int32.ofNat len), .ref s.heap.size, .ref a])) := c9.trans (by
      refine XS.astore X8.here hexec rfl (hb hbytes d39) rfl rfl rfl ?_
      refine XS.aloadN X8.here hexec rfl (hb hbytes d41) rfl rfl ?_
      refine XS.aload X8.here hexec rfl (hb hbytes d42) rfl rfl ?_
      refine XS.iloadN X8.here hexec rfl (hb hbytes d44) rfl ?_
      exact Steps.refl _)
    rw [n4]; exact hc
  obtain ⟨v11, T11, X11, E11, g11⟩ := X8.callS hexec (CodL.law l s.heap.size N) hown (wks W (staticW "java/lang/String" 47 CodL.yN)) (wk W CodL.tab) (W := 1) (Nat.le_of_ble_eq_true rfl) (Nat.le_of_ble_eq_true rfl) (Nat.le_refl _) (by show 0 + len + 0 ≤ len; omega) (g := (mkF m 45 #[.val (.ref a), .val (.ref b), .val (.int (Int32.ofNat o)), .val (.int (Int32.ofNat len)), .val .null, .val (.ref s.heap.size)] [.int (Int32.ofNat N.slots.size), .ref s.heap.size, .ref a])) rfl (by rw [hml]; rfl) c10 (argsL := [.ref s.heap.size, .int (Int32.ofNat N.slots.size)]) (rest := [.ref a]) rfl rfl (by show 2 * 0 + (1 + 0) ≤ _; decide) (hb hbytes d45) (⟨rfl, n1⟩)
  obtain ⟨rfl, q11⟩ := E11
  have hB11 := hB1.mv (X8.warmed.alike.symm.trans X11.warmed.alike) q11
  have c12 : Steps p.tables e below (s₁.setTop (entryFrame m #[.ref a, .ref b, .int (Int32.ofNat o), .int (Int32.ofNat len), .null] 6)) (T11.setTop (mkF m 48 #[.val (.ref a), .val (.ref b), .val (.int (Int32.ofNat o)), .val (.int (Int32.ofNat len)), .val .null, .val (.ref s.heap.size)] [.int 0, .ref a])) := g11
  obtain ⟨T13, X13, p13, bl13, sl13, st13⟩ := X11.finit hexec hown (wk W (.fieldLink "java/lang/String" 15 "java/lang/String" "coder" "B")) (Or.inr ⟨_, (wk W (.laysFinal "java/lang/String" "java/lang/String" "coder" "B"))⟩) (Or.inl ⟨rfl, hnm⟩) f2 (Or.inl rfl) hB11 (t := .byte) (by decide +kernel) rfl (g := (mkF m 48 #[.val (.ref a), .val (.ref b), .val (.int (Int32.ofNat o)), .val (.int (Int32.ofNat len)), .val .null, .val (.ref s.heap.size)] [.int 0, .ref a])) rfl (rest := []) rfl (hb hbytes d48)
  have c14 : Steps p.tables e below (s₁.setTop (entryFrame m #[.ref a, .ref b, .int (Int32.ofNat o), .int (Int32.ofNat len), .null] 6)) (T13.setTop (mkF m 54 #[.val (.ref a), .val (.ref b), .val (.int (Int32.ofNat o)), .val (.int (Int32.ofNat len)), .val .null, .val (.ref s.heap.size)] [.ref s.heap.size, .ref a])) := (c12.trans (st13 _ (Steps.refl _))).trans (by
    refine XS.aloadN X13.here hexec rfl (hb hbytes d51) rfl rfl ?_
    refine XS.aload X13.here hexec rfl (hb hbytes d52) rfl rfl ?_
    exact Steps.refl _)
  obtain ⟨T15, X15, p15, bl15, sl15, st15⟩ := X13.finit hexec hown (wk W (.fieldLink "java/lang/String" 9 "java/lang/String" "value" "[B")) (Or.inr ⟨_, (wk W (.laysFinal "java/lang/String" "java/lang/String" "value" "[B"))⟩) (Or.inl ⟨rfl, hnm⟩) f1 (Or.inl rfl) bl13 (t := (.array .byte)) (by decide +kernel) rfl (g := (mkF m 54 #[.val (.ref a), .val (.ref b), .val (.int (Int32.ofNat o)), .val (.int (Int32.ofNat len)), .val .null, .val (.ref s.heap.size)] [.ref s.heap.size, .ref a])) rfl (rest := []) rfl (hb hbytes d54)
  have c16 : Steps p.tables e below (s₁.setTop (entryFrame m #[.ref a, .ref b, .int (Int32.ofNat o), .int (Int32.ofNat len), .null] 6)) (T15.setTop (mkF m 57 #[.val (.ref a), .val (.ref b), .val (.int (Int32.ofNat o)), .val (.int (Int32.ofNat len)), .val .null, .val (.ref s.heap.size)] [])) := c14.trans (st15 _ (Steps.refl _))
  have ap := apart (Or.inr ⟨_, (wk W (.laysFinal "java/lang/String" "java/lang/String" "value" "[B"))⟩) (Or.inr ⟨_, (wk W (.laysFinal "java/lang/String" "java/lang/String" "coder" "B"))⟩) f1 f2 (t₁ := .array .byte) (t₂ := .byte) (by decide +kernel) (by decide +kernel) (by decide)
  have al := X8.warmed.alike.symm.trans X15.warmed.alike
  have n7 : T11.heap[s.heap.size]? = some N := by rw [q11]; exact n1.1
  exact ⟨T15, none, _, _, _, X15, by simp, rfl, by omega, (fun _ => rfl), ⟨rfl, _, N, bl15, ((Same.refl D _).set _ (by simp)).set _ (by simp), sl15, (Cell.slots_setSlot_ne _ ap).trans sl13, n1.keep al (p15.other hne (p13.other hne n7)), n2, by rw [al.findClass]; exact n3, n4, n5, fun y c h1 h2 => p15.other h1 (p13.other h1 (by rw [q11]; exact n6 y c h2)), by rw [p15.2.2, p13.2.2, q11]; exact z8⟩, fun fs hl => c16.trans (X15.returnOut hexec hret (hb hbytes d57) hl)⟩
end New4
namespace New1
def yN : MethodName := ⟨"java/lang/String", "<init>", "([C)V"⟩
abbrev yB : ByteArray := jdk_42_method_3_code
theorem d0 : decode yB 0 = .ok (.aload_n 0, 1) := by decide +kernel
theorem d1 : decode yB 1 = .ok (.aload_n 1, 1) := by decide +kernel
theorem d2 : decode yB 2 = .ok (.iconst 0, 1) := by decide +kernel
theorem d3 : decode yB 3 = .ok (.aload_n 1, 1) := by decide +kernel
theorem d4 : decode yB 4 = .ok (.arraylength, 1) := by decide +kernel
theorem d5 : decode yB 5 = .ok (.aconst_null, 1) := by decide +kernel
theorem d6 : decode yB 6 = .ok (.invokespecial 27, 3) := by decide +kernel
theorem d9 : decode yB 9 = .ok (.return_, 1) := by decide +kernel
def site : List Cond := [New4.tab] ++ initW "java/lang/String" 27 New4.yN
def tab : Cond := tabOf yN yB 2 none site
def P (a : Addr) (D : Cell) (fV fC : Field) (b : Addr) (A : Cell) (z : Int32) (args : Array Value) (s : State) : Prop := args = #[.ref a, .ref b] ∧ Blank "java/lang/String" a D s ∧ Found "java/lang/String" "value" "[B" fV s ∧ Found "java/lang/String" "coder" "B" fC s ∧ Ch b A s ∧ StaticIs s "java/lang/String" "COMPACT_STRINGS" "Z" (.int z) ∧ ¬ z = 0 ∧ 0 < A.slots.size ∧ A.slots.size ≤ 536870912 ∧ ∀ i, i < A.slots.size → ¬ 255 < cv A i
def E (a : Addr) (D : Cell) (fV fC : Field) (A : Cell) (r : Option Value) (s u : State) : Prop := Got a D fV fC A 0 A.slots.size r s u
/-- new String(chars), not empty, no char above 255: a Latin-1 String of their low bytes -/
theorem law (l : Launch) (a : Addr) (D : Cell) (fV fC : Field) (b : Addr) (A : Cell) (z : Int32) : Law l yN 2 1 3 52 yB 2 none site (P a D fV fC b A z) (E a D fV fC A) [⟨a, fC.slot⟩, ⟨a, fV.slot⟩] 1 A.slots.size := by
  refine Law.of_walk (plainFor_of_name (by decide +kernel)) (by decide +kernel) (by decide +kernel) (by decide) (fun _ _ h => by rw [h.1]; rfl) (fun _ U U' hal hh h => ⟨h.1, h.2.1.mv hal hh, h.2.2.1.al hal, h.2.2.2.1.al hal, h.2.2.2.2.1.mv hal hh, h.2.2.2.2.2.1.there hal hh, h.2.2.2.2.2.2⟩) (fun r U U' V V' h1 hal h2 h => Got.mv r U U' V V' h1 hal h2 h) ?_
  intro p e s m args below meth c s₁ X0 hexec hbytes hml hret hlk hnm hown hh0 W hP
  obtain ⟨rfl, hB, f1, f2, hA, s1, hz, l0, l2, hp⟩ := hP
  have c1 : Steps p.tables e below (s₁.setTop (entryFrame m #[.ref a, .ref b] 2)) (s₁.setTop (mkF m 0 #[.val (.ref a), .val (.ref b)] [])) := entry rfl
  have c2 : Steps p.tables e below (s₁.setTop (entryFrame m #[.ref a, .ref b] 2)) (s₁.setTop (mkF m 6 #[.val (.ref a), .val (.ref b)] [.null, .int (Int32.ofNat A.slots.size), .int 0, .ref b, .ref a])) := c1.trans (by
    refine XS.aloadN X0.here hexec rfl (hb hbytes d0) rfl rfl ?_
    refine XS.aloadN X0.here hexec rfl (hb hbytes d1) rfl rfl ?_
    refine iconstV X0.here hexec rfl 0 (hb hbytes d2) (by decide) ?_
    refine XS.aloadN X0.here hexec rfl (hb hbytes d3) rfl rfl ?_
    refine X0.alen hexec (hA.1.mv X0.warmed.alike hh0) rfl rfl (hb hbytes d4) ?_
    refine XS.aconstNull X0.here hexec rfl (hb hbytes d5) ?_
    exact Steps.refl _)
  obtain ⟨v3, T3, X3, E3, g3⟩ := X0.callN hexec (New4.law l a D fV fC b A z 0 A.slots.size) rfl hown (wks W (initW "java/lang/String" 27 New4.yN)) (W New4.tab (by simp only [site, List.mem_cons, List.mem_append, true_or, or_true])) (W := 0) (Nat.le_of_ble_eq_true rfl) (Nat.le_of_ble_eq_true rfl) (Nat.le_refl _) (by show 0 + A.slots.size ≤ A.slots.size; omega) (g := (mkF m 6 #[.val (.ref a), .val (.ref b)] [.null, .int (Int32.ofNat A.slots.size), .int (Int32.ofNat 0), .ref b, .ref a])) rfl (by rw [hml]; rfl) c2 (argsL := [.ref b, .int (Int32.ofNat 0), .int (Int32.ofNat A.slots.size), .null]) (rest := []) rfl rfl (by show 2 * 0 + 0 ≤ _; decide) (hb hbytes d6) (⟨rfl, hB.mv X0.warmed.alike hh0, f1.al X0.warmed.alike, f2.al X0.warmed.alike, hA.mv X0.warmed.alike hh0, s1.there X0.warmed.alike hh0, hz, l0, by omega, l2, fun i hi => by rw [Nat.zero_add]; exact hp i hi⟩)
  have e0 := Got.mv _ s₁ s _ _ hh0.symm (Vm.Alike.refl _) rfl E3
  obtain rfl := e0.1
  have c4 : Steps p.tables e below (s₁.setTop (entryFrame m #[.ref a, .ref b] 2)) (T3.setTop (mkF m 9 #[.val (.ref a), .val (.ref b)] [])) := g3
  exact ⟨T3, none, _, _, _, X3, by simp, rfl, by omega, (fun _ => rfl), e0, fun fs hl => c4.trans (X3.returnOut hexec hret (hb hbytes d9) hl)⟩
theorem pays {l : Launch} {R : Room} {p : Program} {e : Env} {below : List Frame} {s : State} {sargs : Array Value} {len W : Nat} (a : Addr) (D : Cell) (fV fC : Field) (b : Addr) (A : Cell) (z : Int32) (htab : tab.before sargs s = true) (hfr : 4 ≤ R.frames) (hlo : W + 65 ≤ R.locals) :
    Back l R p e below s sargs yN len W (fun A₁ a₁ => A₁.cells + 1 ≤ R.cells ∧ A₁.slots + A.slots.size ≤ R.slots ∧ P a D fV fC b A z a₁ A₁.U) (fun A₁ _ v₁ B₁ => E a D fV fC A v₁ A₁.U B₁.U ∧ B₁.locs = A₁.locs ++ [⟨a, fC.slot⟩, ⟨a, fV.slot⟩] ∧ B₁.cells = A₁.cells + 1 ∧ B₁.slots = A₁.slots + A.slots.size) :=
  (law l a D fV fC b A z).pays htab hfr (by omega)
end New1
/-- the byte, read back as charAt reads it, is the char -/
theorem lo8_mask {x : Int32} (h0 : ¬ x < 0) (h1 : ¬ 255 < x) : lo8 x &&& 255 = x := by
  have t : ∀ k : Fin 256, lo8 (Int32.ofNat k.val) &&& 255 = Int32.ofNat k.val := by decide +kernel
  rw [Int32.lt_iff_toInt_lt] at h0 h1
  have e0 : (0 : Int32).toInt = 0 := rfl
  have e1 : (255 : Int32).toInt = 255 := rfl
  obtain ⟨k, hk⟩ : ∃ k : Nat, x.toInt = k := ⟨x.toInt.toNat, by omega⟩
  have hx : x = Int32.ofNat k := Int32.toInt_inj.mp (by rw [hk, Int32.toInt_ofNat_small (by omega)])
  rw [hx]
  exact t ⟨k, by omega⟩
end StrChars
namespace StrChars.Road
open Jvm Sem ClassFile Op Lib Jvm.Stand Jvm.Free Jvm.Free.XT
open Jvm.Lib.Cold (StaticIs)
abbrev ST : String := "java/lang/String"
/-- every table word that New1's law asks, flat -/
abbrev words : List Jvm.Cond := [.code New1.yN New1.yB 2 none, .initialized ST, .methodLink ST 27 New4.yN, .instanceMethod New4.yN,
  .code New4.yN New4.yB 6 none, .fieldLink ST 38 ST "COMPACT_STRINGS" "Z", .laysFinal ST ST "value" "[B", .fieldLink ST 9 ST "value" "[B", .laysFinal ST ST "coder" "B", .fieldLink ST 15 ST "coder" "B",
  .methodLink ST 1 Lib.objectInit, .instanceMethod Lib.objectInit, .code Lib.objectInit ⟨#[0xb1]⟩ 1 none, .methodLink ST 177 Cmp3.yN, .static Cmp3.yN, .methodLink ST 47 CodL.yN, .static CodL.yN,
  .code Cmp3.yN Cmp3.yB 6 (some (.array .byte)), .initialized U16, .arrayClass .byte, .methodLink U16 115 Cmp5.yN, .static Cmp5.yN, .code Cmp5.yN Cmp5.yB 7 (some .int), .code CodL.yN CodL.yB 2 (some .byte)]
theorem tab_of {a : Array Value} {s : State} (h : ∀ w ∈ words, w.before a s = true) : New1.tab.before a s = true := by
  have h5 : Cmp5.tab.before a s = true := unparts (wk h (.code Cmp5.yN Cmp5.yB 7 (some .int))) (wks h (.initialized Cmp5.yN.cls :: Cmp5.site))
  have hc : CodL.tab.before a s = true := unparts (wk h (.code CodL.yN CodL.yB 2 (some .byte))) (wks h (.initialized CodL.yN.cls :: CodL.site))
  have q5 : ∀ w ∈ Cmp5.tab :: words, w.before a s = true := fun w hw => (List.mem_cons.mp hw).elim (fun e => e ▸ h5) (h w)
  have h3 : Cmp3.tab.before a s = true := unparts (wk q5 (.code Cmp3.yN Cmp3.yB 6 (some (.array .byte)))) (wks q5 (.initialized Cmp3.yN.cls :: Cmp3.site))
  have q3 : ∀ w ∈ Cmp3.tab :: CodL.tab :: words, w.before a s = true := fun w hw => (List.mem_cons.mp hw).elim (fun e => e ▸ h3) fun hw => (List.mem_cons.mp hw).elim (fun e => e ▸ hc) (h w)
  have h4 : New4.tab.before a s = true := unparts (wk q3 (.code New4.yN New4.yB 6 none)) (wks q3 (.initialized New4.yN.cls :: New4.site))
  have q4 : ∀ w ∈ New4.tab :: words, w.before a s = true := fun w hw => (List.mem_cons.mp hw).elim (fun e => e ▸ h4) (h w)
  exact unparts (wk q4 (.code New1.yN New1.yB 2 none)) (wks q4 (.initialized New1.yN.cls :: New1.site))
/-- the words ride from the start Z to the walk's own state -/
theorem moved {Z s : State} {a0 args : Array Value} (hZ : Z.Warmed39 s.vm) (hw : ∀ d ∈ words, d.before a0 Z = true) : ∀ d ∈ words, d.before args s = true := fun d hd => by
  have q := hw d hd
  have t : ∀ d ∈ words, d = .arrayClass .byte ∨ (d.onTables && d.keepsFace) = true := by decide +kernel
  rcases t d hd with rfl | t
  · exact RoadKit.mvA hZ q
  · exact RoadKit.mv hZ q t
/-- WHAT COMES BACK, over the tables of the start Z: h the heap at the call, h' behind it -/
def Q (Z : State) (x : Addr) (A : Cell) (h : Heap) (v : Option Value) (h' : Heap) (L : List Loc) : Prop := v = none ∧ (∀ y ∈ L, y.base = x) ∧ RoadKit.Keep h h' [x] ∧ h'.size = h.size + 1 ∧ RoadKit.Exa Z h' x ST ∧ RoadKit.Fld Z h' x ST "value" "[B" (.ref h.size) ∧ RoadKit.Fld Z h' x ST "coder" "B" (.int 0) ∧
  (∃ V : Cell, RoadKit.Arr Z h' h.size V .byte ∧ V.vm = .none ∧ Z.vm.findClass "[B" = some V.cls ∧ V.slots.size = A.slots.size ∧ ∀ j, j < A.slots.size → V.slots[j]? = some (.int (lo8 (cv A j)))) ∧
  ∀ (O n d : String) (w : Value), RoadKit.Fld Z h x O n d w → RoadKit.slotOf Z O n d ≠ RoadKit.slotOf Z ST "value" "[B" → RoadKit.slotOf Z O n d ≠ RoadKit.slotOf Z ST "coder" "B" → RoadKit.Fld Z h' x O n d w
/-- **new String(chars) AT A CALL, IN THE ROAD'S FORM**: for specialBack behind newO: x the fresh String, b the char[] with the cell A -/
theorem back {p : Program} {l : Launch} {e : Env} {R : Room} {s : State} {args : Array Value} {below : List Frame} {len W : Nat} {Z : State} {a0 : Array Value} {h : Heap} (hZ : Z.Warmed39 s.vm) (hw : ∀ d ∈ words, d.before a0 Z = true) {kI : Nat} (wi : (Jvm.Cond.instantiable ST kI).before a0 Z = true)
    {x b : Addr} {A : Cell} {z : Int32} {v0 c0 : Value} (E : RoadKit.Exa Z h x ST) (V : RoadKit.Fld Z h x ST "value" "[B" v0) (C : RoadKit.Fld Z h x ST "coder" "B" c0) (K : RoadKit.Arr Z h b A .char) (hty : Typed .char A) (S : RoadKit.Sta Z h ST "COMPACT_STRINGS" "Z" (.int z)) (hz : ¬ z = 0)
    (l0 : 0 < A.slots.size) (l2 : A.slots.size ≤ 536870912) (hp : ∀ i, i < A.slots.size → ¬ 255 < cv A i) (hfr : 4 ≤ R.frames) (hlo : W + 65 ≤ R.locals) :
    Back l R p e below s args New1.yN len W (fun P a => a = #[.ref x, .ref b] ∧ P.U.heap = h ∧ P.cells + 1 ≤ R.cells ∧ P.slots + A.slots.size ≤ R.slots)
      (fun P _ v B => ∃ L, Q Z x A h v B.U.heap L ∧ B.locs = P.locs ++ L ∧ B.cells = P.cells + 1 ∧ B.slots = P.slots + A.slots.size) := by
  intro m meth c P g ig mk a X hg hsize hdg hW hn hp'
  obtain ⟨rfl, rfl, r1, r2⟩ := hp'
  have al : Z.vm.Alike P.U.vm := hZ.alike.trans X.warmed.alike
  obtain ⟨D, cfV, kV, iV, fV, hD, gV, stV, knV, obV, asV, slV⟩ := id V
  obtain ⟨D', cfC, kC, iC, fC, hD', gC, stC, -, -, asC, slC⟩ := id C
  cases hD.symm.trans hD'
  obtain ⟨D2, kD, e1, e2, e3, e4, e5⟩ := id E
  cases hD.symm.trans e1
  obtain ⟨c2, k2, i1, i2, i3, -⟩ := Cond.instantiable_spec wi
  cases e2.symm.trans i1
  cases e3.symm.trans i2
  obtain ⟨kU, u1, u2⟩ := al.2.2 _ _ e3
  have hB : Blank ST x D P.U := ⟨hD, ⟨knV, fun q hq => by rw [hq] at obV; cases obV⟩, by rw [al.findClass]; exact e2, kU, u1, by rw [u2]; exact i3, by rw [u2]; exact e5 i3⟩
  have F1 : Found ST "value" "[B" fV P.U := ⟨SBG.found_only al ⟨cfV, kV, iV, gV⟩, stV⟩
  have F2 : Found ST "coder" "B" fC P.U := ⟨SBG.found_only al ⟨cfC, kC, iC, gC⟩, stC⟩
  have hA : Ch b A P.U := ⟨⟨K.1, State.isArrayOf_alike al K.2.1, K.2.2, by omega⟩, hty⟩
  have hS : StaticIs P.U ST "COMPACT_STRINGS" "Z" (.int z) := by
    obtain ⟨cfS, iS, kS, fS, st, cS, t1, t2, t3, t4, t5, t6, t7⟩ := S
    exact StaticIs.there (s := { Z with heap := P.U.heap }) ⟨cfS, iS, kS, fS, st, cS, t1, t2, t3, t4, t5, (fun q => by rw [q] at t6; cases t6), t7⟩ al rfl
  obtain ⟨v, B, X', ⟨⟨hv, E', V', q1, q2, q3, q4, q5, q6, q7, q8, q9, q10, q11⟩, hl, hc, hs⟩, st⟩ := New1.pays x D fV fC b A z (tab_of (moved hZ hw)) hfr hlo m meth c P g ig mk _ X hg hsize hdg hW hn ⟨r1, r2, rfl, hB, F1, F2, hA, hS, hz, l0, l2, hp⟩
  have al' : Z.vm.Alike B.U.vm := hZ.alike.trans X'.warmed.alike
  have hsz : E'.slots.size = D.slots.size := by
    obtain ⟨-, -, -, kB, w1, w2, w3⟩ := q1
    obtain ⟨kB', y1, y2⟩ := al'.2.2 _ _ e3
    rw [q2.2.1] at w1
    cases w1.symm.trans y1
    rw [w3, e5 i3, y2]
  refine ⟨v, B, X', ⟨_, ⟨hv, ?_, ⟨by omega, fun y cy hy hn' => q10 y cy (by simpa using hn') hy, fun y cy hy => ?_⟩, q11, ⟨E', _, q1.1, by rw [q2.2.1]; exact e2, by rw [q2.2.1]; exact e3, by rw [q2.1]; exact obV, fun _ => by rw [hsz]; exact e5 i3⟩,
    ⟨E', cfV, kV, iV, fV, q1.1, gV, stV, by rw [q2.1]; exact knV, by rw [q2.1]; exact obV, by rw [q2.2.1]; exact asV, q3⟩, ⟨E', cfC, kC, iC, fC, q1.1, gC, stC, by rw [q2.1]; exact knV, by rw [q2.1]; exact obV, by rw [q2.2.1]; exact asC, q4⟩,
    ⟨V', ⟨q5.1, State.isArrayOf_alike al'.symm q5.2.1, q5.2.2.1⟩, q6, by rw [← al'.findClass]; exact q7, q8, fun j hj => by have := q9 j hj; rwa [Nat.zero_add] at this⟩, fun O n d w F n1 n2 => ?_⟩, hl, hc, hs⟩, st⟩
  · intro y hy
    simp only [List.mem_cons, List.not_mem_nil, or_false] at hy
    rcases hy with rfl | rfl <;> rfl
  · by_cases q : y = x
    · subst q
      cases hD.symm.trans hy
      exact ⟨E', q1.1, q2.2.1, q2.1, hsz⟩
    · exact ⟨cy, q10 y cy q hy, rfl, rfl, rfl⟩
  · obtain ⟨D3, cf, k, i, f, g1, g2, g3, g4, g5, g6, g7⟩ := F
    cases hD.symm.trans g1
    simp only [RoadKit.slotOf, g2, gV, gC, Option.map_some, Option.getD_some] at n1 n2
    exact ⟨E', cf, k, i, f, q1.1, g2, g3, by rw [q2.1]; exact g4, by rw [q2.1]; exact g5, by rw [q2.2.1]; exact g6, by rw [q2.2.2 f.slot (by simp [n1, n2])]; exact g7⟩
end StrChars.Road
namespace StrChars.Road
open Jvm Sem ClassFile Op Lib Jvm.Stand Jvm.Free Jvm.Free.XT
/-- WHAT COMES BACK, the byte[] as a list of values -/
def QA (Z : State) (x : Addr) (zn : Int32) (cs : List Int32) (h : Heap) (v : Option Value) (h' : Heap) (L : List Loc) : Prop := v = none ∧ (∀ y ∈ L, y.base = x) ∧ RoadKit.Keep h h' [x] ∧ h'.size = h.size + 1 ∧ RoadKit.Exa Z h' x ST ∧ RoadKit.Fld Z h' x ST "value" "[B" (.ref h.size) ∧ RoadKit.Fld Z h' x ST "coder" "B" (.int 0) ∧
  (∃ kb, Z.vm.findClass "[B" = some kb ∧ RoadKit.Arv Z h' h.size kb .byte zn (cs.map fun c => .int (lo8 c)) (.int 0)) ∧
  ∀ (O n d : String) (w : Value), RoadKit.Fld Z h x O n d w → RoadKit.slotOf Z O n d ≠ RoadKit.slotOf Z ST "value" "[B" → RoadKit.slotOf Z O n d ≠ RoadKit.slotOf Z ST "coder" "B" → RoadKit.Fld Z h' x O n d w
/-- **new String(chars) AT A CALL, THE ARRAYS AS LISTS**: the char[] at b holds cs, not empty, no char above 255 -/
theorem backArv {p : Program} {l : Launch} {e : Env} {R : Room} {s : State} {args : Array Value} {below : List Frame} {len W : Nat} {Z : State} {a0 : Array Value} {h : Heap} (hZ : Z.Warmed39 s.vm) (hw : ∀ d ∈ words, d.before a0 Z = true) {kI : Nat} (wi : (Jvm.Cond.instantiable ST kI).before a0 Z = true)
    {x b : Addr} {k : ClassId} {zn z : Int32} {cs : List Int32} {dv v0 c0 : Value} (E : RoadKit.Exa Z h x ST) (V : RoadKit.Fld Z h x ST "value" "[B" v0) (C : RoadKit.Fld Z h x ST "coder" "B" c0) (K : RoadKit.Arv Z h b k .char zn (cs.map Value.int) dv) (S : RoadKit.Sta Z h ST "COMPACT_STRINGS" "Z" (.int z)) (hz : ¬ z = 0)
    (hlen : zn.toNatClampNeg = cs.length) (h0 : 0 < cs.length) (hbig : cs.length ≤ 536870912) (hall : ∀ c ∈ cs, ¬ 255 < c) (hfr : 4 ≤ R.frames) (hlo : W + 65 ≤ R.locals) :
    Back l R p e below s args New1.yN len W (fun P a => a = #[.ref x, .ref b] ∧ P.U.heap = h ∧ P.cells + 1 ≤ R.cells ∧ P.slots + cs.length ≤ R.slots)
      (fun P _ v B => ∃ L, QA Z x zn cs h v B.U.heap L ∧ B.locs = P.locs ++ L ∧ B.cells = P.cells + 1 ∧ B.slots = P.slots + cs.length) := by
  obtain ⟨A, K1, K2, K3, K4, K5, K6⟩ := K
  have e : A.slots.size = cs.length := K3.trans hlen
  have hat : ∀ (i : Nat) (hi : i < cs.length), A.slots[i]? = some (.int cs[i]) := fun i hi => by rw [K5 i (by omega)]; simp [List.getD_eq_getElem?_getD, hi]
  have hcv : ∀ (i : Nat) (hi : i < cs.length), cv A i = cs[i] := fun i hi => by unfold cv; rw [hat i hi]
  have hty : Typed .char A := fun i v hv => by
    have hi : i < A.slots.size := (Array.getElem?_eq_some_iff.mp hv).1
    have q := K5 i hi
    rw [hv] at q
    rw [Option.some.inj q]
    exact K6 i hi
  refine Back.mono (back hZ hw wi E V C K1 hty S hz (by omega) (by omega) (fun i hi => by rw [hcv i (by omega)]; exact hall _ (List.getElem_mem _)) hfr hlo) (fun P a hp => ⟨hp.1, hp.2.1, hp.2.2.1, by rw [e]; exact hp.2.2.2⟩) (fun P a v B hp hq => ?_)
  obtain ⟨L, ⟨q1, q2, q3, q4, q5, q6, q7, ⟨V', v1, v2, v3, v4, v5⟩, q9⟩, hl, hc, hs⟩ := hq
  refine ⟨L, ⟨q1, q2, q3, q4, q5, q6, q7, ⟨V'.cls, v3, V', v1, rfl, by rw [v4, e, hlen], K4, fun i hi => ?_, fun i hi => ?_⟩, q9⟩, hl, hc, by rw [hs, e]⟩
  · have hi' : i < cs.length := by omega
    rw [v5 i (by omega), hcv i hi']; simp [List.getD_eq_getElem?_getD, hi']
  · have hi' : i < cs.length := by omega
    simp only [List.getD_eq_getElem?_getD, List.getElem?_map, List.getElem?_eq_getElem hi', Option.map_some, Option.getD_some]
    exact fits_lo8 _
end StrChars.Road
namespace StrChars.Road
open Jvm Sem ClassFile Op Lib Jvm.Stand Jvm.Free Jvm.Free.XT
/-- WHAT COMES BACK, in the writer's own shape -/
def QV (Z : State) (x : Addr) (N : Int32) (bs : List Int32) (h : Heap) (n0 : Nat) (v : Option Value) (h' : Heap) (L : List Loc) : Prop := v = none ∧ RoadKit.Fr n0 L ∧ RoadKit.Keep h h' [x] ∧ RoadKit.Exa Z h' x ST ∧ RoadKit.Fld Z h' x ST "coder" "B" (.int 0) ∧
  ∃ (t : Addr) (kb : ClassId), n0 ≤ t ∧ h.size ≤ t ∧ ¬ t = x ∧ RoadKit.Fld Z h' x ST "value" "[B" (.ref t) ∧ RoadKit.Arv Z h' t kb .byte N (bs.map Value.int) (.int 0)
/-- **new String(chars) AT A CALL, FOR THE WRITER**: a char[] of n known ints, each 0 to 255 -/
theorem backV {p : Program} {l : Launch} {e : Env} {R : Room} {s : State} {args : Array Value} {below : List Frame} {len W : Nat} {Z : State} {a0 : Array Value} {h : Heap} (hZ : Z.Warmed39 s.vm) (hw : ∀ d ∈ words, d.before a0 Z = true) {kI : Nat} (wi : (Jvm.Cond.instantiable ST kI).before a0 Z = true)
    {x b : Addr} {kC : ClassId} {cs bs : List Int32} {d v0 c0 : Value} {z N : Int32} {n n0 : Nat} (hx0 : n0 ≤ x) (hh0 : n0 ≤ h.size) (E : RoadKit.Exa Z h x ST) (V : RoadKit.Fld Z h x ST "value" "[B" v0) (C : RoadKit.Fld Z h x ST "coder" "B" c0) (K : RoadKit.Arv Z h b kC .char N (cs.map Value.int) d) (S : RoadKit.Sta Z h ST "COMPACT_STRINGS" "Z" (.int z)) (hz : ¬ z = 0)
    (hn : cs.length = n) (hN : N = Int32.ofNat n) (l0 : 0 < n) (l2 : n ≤ 4000) (hp : ∀ c ∈ cs, ¬ c < 0 ∧ ¬ (255 : Int32) < c) (hb : bs = cs.map (fun c => c.toInt8.toInt32)) (hfr : 4 ≤ R.frames) (hlo : W + 65 ≤ R.locals) :
    Back l R p e below s args (⟨"java/lang/String", "<init>", "([C)V"⟩ : MethodName) len W (fun P a => a = #[.ref x, .ref b] ∧ P.U.heap = h ∧ P.cells + 1 ≤ R.cells ∧ P.slots + n ≤ R.slots)
      (fun P _ v B => ∃ L, QV Z x N bs h n0 v B.U.heap L ∧ B.locs = P.locs ++ L ∧ B.cells = P.cells + 1 ∧ B.slots = P.slots + n) := by
  subst hn hN hb
  refine Back.mono (backArv hZ hw wi E V C K S hz (n32 (by omega)) l0 (by omega) (fun c hc => (hp c hc).2) hfr hlo) (fun P a hp => hp) (fun P a v B hp hq => ?_)
  obtain ⟨L, ⟨q1, q2, q3, q4, q5, q6, q7, ⟨kb, v1, v2⟩, q9⟩, hl, hc, hs⟩ := hq
  exact ⟨L, ⟨q1, fun y hy => by rw [q2 y hy]; exact hx0, q3, q5, q7, h.size, kb, hh0, Nat.le_refl _, Nat.ne_of_gt E.lt, q6, by rw [List.map_map]; exact v2⟩, hl, hc, hs⟩
end StrChars.Road
namespace StrChars
open Jvm Sem ClassFile Op Lib Jvm.Stand Jvm.Free.XT Jvm.Free.ALB Jvm.Free.JM Jvm.Free
open Jvm.Lib.Cold (StaticIs)
def hi8 (x : Int32) : Int32 := lo8 (x >>> ((8 : Int32) &&& 31))
/-- what StringUTF16.getChar makes of two bytes -/
def pairCh (u v : Int32) : Int32 := (((u &&& 255) <<< ((0 : Int32) &&& 31)) ||| ((v &&& 255) <<< ((8 : Int32) &&& 31))).toUInt32.toUInt16.toUInt32.toInt32
theorem lo8_and (x : Int32) : (lo8 x &&& 255).toBitVec.toNat = x.toBitVec.toNat % 256 := by
  have h : (lo8 x).toBitVec = (x.toBitVec.signExtend 8).signExtend 32 := by rw [lo8, Int8.toBitVec_toInt32, Int32.toBitVec_toInt8]
  rw [Int32.toBitVec_and, BitVec.toNat_and, h]
  have e : ((x.toBitVec.signExtend 8).signExtend 32).toNat % 256 = x.toBitVec.toNat % 256 := by
    rw [BitVec.toNat_signExtend]
    have hlt := x.toBitVec.isLt
    simp only [BitVec.toNat_setWidth, BitVec.toNat_signExtend]
    split <;> split <;> omega
  rw [← e]
  exact Nat.and_two_pow_sub_one_eq_mod _ 8
theorem pair_says {c : Int32} (h0 : ¬ c < 0) (h1 : ¬ 65535 < c) : pairCh (lo8 c) (hi8 c) = c := by
  rw [Int32.lt_iff_toInt_lt] at h0 h1
  have e0 : (0 : Int32).toInt = 0 := rfl
  have e1 : (65535 : Int32).toInt = 65535 := rfl
  have hc : c.toInt = c.toBitVec.toNat := by
    have := c.toBitVec.isLt
    have e : c.toInt = c.toBitVec.toInt := rfl
    rw [e] at h0 h1
    rw [e]
    rw [BitVec.toInt_eq_toNat_cond] at h0 h1 ⊢
    split at h0 <;> split <;> omega
  have hn : c.toBitVec.toNat < 65536 := by omega
  have a1 := lo8_and c
  have a2 : (hi8 c &&& 255).toBitVec.toNat = c.toBitVec.toNat / 256 := by
    rw [hi8, lo8_and]
    have e : ((8 : Int32) &&& 31) = 8 := by decide
    rw [e, Int32.toBitVec_shiftRight]
    have e2 : ((8 : Int32).toBitVec.smod 32) = 8#32 := by decide
    rw [e2, BitVec.sshiftRight_eq', BitVec.toNat_sshiftRight_of_msb_false (by rw [BitVec.msb_eq_false_iff_two_mul_lt]; omega)]
    show c.toBitVec.toNat >>> 8 % 256 = _
    rw [Nat.shiftRight_eq_div_pow]
    omega
  unfold pairCh
  apply Int32.toBitVec_inj.mp
  apply BitVec.eq_of_toNat_eq
  have f0 : ((0 : Int32) &&& 31) = 0 := by decide
  have f8 : ((8 : Int32) &&& 31) = 8 := by decide
  rw [f0, f8]
  have g : (((lo8 c &&& 255) <<< (0 : Int32)) ||| ((hi8 c &&& 255) <<< (8 : Int32))).toBitVec.toNat = c.toBitVec.toNat := by
    rw [Int32.toBitVec_or, Int32.toBitVec_shiftLeft, Int32.toBitVec_shiftLeft]
    have s0 : ((0 : Int32).toBitVec.smod 32) = 0#32 := by decide
    have s8 : ((8 : Int32).toBitVec.smod 32) = 8#32 := by decide
    rw [s0, s8, BitVec.toNat_or]
    simp only [BitVec.shiftLeft_eq', BitVec.toNat_shiftLeft, a1, a2]
    show (c.toBitVec.toNat % 256) <<< 0 % 2 ^ 32 ||| (c.toBitVec.toNat / 256) <<< 8 % 2 ^ 32 = _
    rw [Nat.shiftLeft_zero, Nat.mod_eq_of_lt (show c.toBitVec.toNat % 256 < 2 ^ 32 by omega), Nat.mod_eq_of_lt (show (c.toBitVec.toNat / 256) <<< 8 < 2 ^ 32 by rw [Nat.shiftLeft_eq]; omega), Nat.or_comm, ← Nat.shiftLeft_add_eq_or_of_lt (by omega), Nat.shiftLeft_eq]
    omega
  show BitVec.toNat (((((lo8 c &&& 255) <<< (0 : Int32)) ||| ((hi8 c &&& 255) <<< (8 : Int32))).toBitVec.setWidth 16).setWidth 32) = _
  rw [BitVec.toNat_setWidth, BitVec.toNat_setWidth, g]
  omega
end StrChars
namespace StrChars
open Jvm Sem ClassFile Op Lib Jvm.Stand Jvm.Free.XT Jvm.Free.ALB Jvm.Free.JM Jvm.Free
open Jvm.Lib.Cold (StaticIs)
/-- the array's cell V codes the n chars f 0 .. f (n - 1) by the coder cd, as the JDK does: coder 1 just where some char is above 255 -/
def Cod (cd : Int32) (n : Nat) (f : Nat → Int32) (V : Cell) : Prop := (cd = 0 ∧ V.slots.size = n ∧ ∀ j, j < n → V.slots[j]? = some (.int (lo8 (f j))) ∧ ¬ 255 < f j) ∨ (cd = 1 ∧ V.slots.size = 2 * n ∧ (∀ j, j < n → V.slots[2 * j]? = some (.int (lo8 (f j))) ∧ V.slots[2 * j + 1]? = some (.int (hi8 (f j)))) ∧ ∃ j, j < n ∧ 255 < f j)
/-- **x is a String of the n chars f 0 .. f (n - 1)**, Latin-1 or UTF-16; its array at t has the cell V -/
def Txt (x t : Addr) (V : Cell) (cd : Int32) (n : Nat) (f : Nat → Int32) (U : State) : Prop := Exact "java/lang/String" x U ∧ Has x "java/lang/String" "value" "[B" (.ref t) U ∧ Has x "java/lang/String" "coder" "B" (.int cd) U ∧ XT.Arr .byte t V U ∧ Cod cd n f V ∧ ∀ j, j < n → ¬ f j < 0 ∧ ¬ 65535 < f j
theorem Txt.mv {x t : Addr} {V : Cell} {cd : Int32} {n : Nat} {f : Nat → Int32} {U U' : State} (h : Txt x t V cd n f U) (hal : U.vm.Alike U'.vm) (hh : U'.heap = U.heap) : Txt x t V cd n f U' := ⟨h.1.mv hal hh, h.2.1.mv hal hh, h.2.2.1.mv hal hh, h.2.2.2.1.mv hal hh, h.2.2.2.2⟩
end StrChars
namespace StrChars.Road
open Jvm Sem ClassFile Op Lib Jvm.Stand Jvm.Free Jvm.Free.XT
open Jvm.Lib.Cold (StaticIs)
theorem consq {a : Array Value} {s : State} {c : Jvm.Cond} {L : List Jvm.Cond} (h0 : c.before a s = true) (h : ∀ w ∈ L, w.before a s = true) : ∀ w ∈ c :: L, w.before a s = true := fun w hw => (List.mem_cons.mp hw).elim (fun e => e ▸ h0) (h w)
/-- the bytes of the chars cs, low before high -/
def wideBytes : List Int32 → List Value
  | [] => []
  | c :: cs => .int (lo8 c) :: .int (hi8 c) :: wideBytes cs
theorem wide_lo (d : Value) : ∀ (cs : List Int32) (j : Nat), j < cs.length → (wideBytes cs).getD (2 * j) d = .int (lo8 (cs.getD j 0))
  | [], j, h => absurd h (Nat.not_lt_zero j)
  | c :: cs, 0, _ => rfl
  | c :: cs, j + 1, h => by
    have q := wide_lo d cs j (by simpa using h)
    rw [show 2 * (j + 1) = 2 * j + 1 + 1 from by omega]
    simpa [wideBytes] using q
theorem wide_hi (d : Value) : ∀ (cs : List Int32) (j : Nat), j < cs.length → (wideBytes cs).getD (2 * j + 1) d = .int (hi8 (cs.getD j 0))
  | [], j, h => absurd h (Nat.not_lt_zero j)
  | c :: cs, 0, _ => rfl
  | c :: cs, j + 1, h => by
    have q := wide_hi d cs j (by simpa using h)
    rw [show 2 * (j + 1) + 1 = 2 * j + 1 + 1 + 1 from by omega]
    simpa [wideBytes] using q
theorem low_at (d : Value) (cs : List Int32) (j : Nat) (h : j < cs.length) : (cs.map fun c => Value.int (lo8 c)).getD j d = .int (lo8 (cs.getD j 0)) := by
  simp [List.getD_eq_getElem?_getD, h]
/-- an array of N2 bytes vs codes the chars cs by the coder cd -/
def CodA (cs : List Int32) (cd N2 : Int32) (vs : List Value) : Prop := (cd = 0 ∧ N2 = Int32.ofNat cs.length ∧ vs = (cs.map fun c => Value.int (lo8 c)) ∧ ∀ c ∈ cs, ¬ 255 < c) ∨ (cd = 1 ∧ N2 = Int32.ofNat (2 * cs.length) ∧ vs = wideBytes cs ∧ ∃ c ∈ cs, 255 < c)
theorem CodA.cod {cs : List Int32} {cd N2 : Int32} {vs : List Value} {V : Cell} (h : CodA cs cd N2 vs) (hn : 2 * cs.length < 2 ^ 31) (hs : V.slots.size = N2.toNatClampNeg) (hv : RoadKit.Has V vs (.int 0)) : Cod cd cs.length (fun j => cs.getD j 0) V := by
  rcases h with ⟨rfl, rfl, rfl, h⟩ | ⟨rfl, rfl, rfl, c, hc, hw⟩
  · rw [n32 (by omega)] at hs
    exact Or.inl ⟨rfl, hs, fun j hj => ⟨by rw [hv j (by omega), low_at _ _ _ hj], by
      have e : cs.getD j 0 = cs[j] := by simp [List.getD_eq_getElem?_getD, hj]
      show ¬ 255 < cs.getD j 0
      rw [e]; exact h _ (List.getElem_mem _)⟩⟩
  · rw [n32 (by omega)] at hs
    obtain ⟨j, hj, rfl⟩ := List.getElem_of_mem hc
    exact Or.inr ⟨rfl, hs, fun j hj => ⟨by rw [hv _ (by omega), wide_lo _ _ _ hj], by rw [hv _ (by omega), wide_hi _ _ _ hj]⟩, j, hj, by
      have e : cs.getD j 0 = cs[j] := by simp [List.getD_eq_getElem?_getD, hj]
      show 255 < cs.getD j 0
      rw [e]; exact hw⟩
/-- an object of exactly java/lang/String, its two fields found: as the laws ask it -/
theorem strObj {Z U : State} {a0 : Array Value} {kI : Nat} (wi : (Jvm.Cond.instantiable ST kI).before a0 Z = true) (al : Z.vm.Alike U.vm) {x : Addr} {v0 c0 : Value} (E : RoadKit.Exa Z U.heap x ST) (V : RoadKit.Fld Z U.heap x ST "value" "[B" v0) (C : RoadKit.Fld Z U.heap x ST "coder" "B" c0) :
    ∃ (D : Cell) (fV fC : Field), Blank ST x D U ∧ Found ST "value" "[B" fV U ∧ Found ST "coder" "B" fC U ∧ D.slots[fV.slot]? = some v0 ∧ D.slots[fC.slot]? = some c0 ∧ RoadKit.slotOf Z ST "value" "[B" = fV.slot ∧ RoadKit.slotOf Z ST "coder" "B" = fC.slot := by
  obtain ⟨D, cfV, kV, iV, fV, hD, gV, stV, knV, obV, asV, slV⟩ := V
  obtain ⟨D', cfC, kC, iC, fC, hD', gC, stC, -, -, asC, slC⟩ := C
  cases hD.symm.trans hD'
  obtain ⟨D2, kD, e1, e2, e3, e4, e5⟩ := E
  cases hD.symm.trans e1
  obtain ⟨c2, k2, i1, i2, i3, -⟩ := Cond.instantiable_spec wi
  cases e2.symm.trans i1
  cases e3.symm.trans i2
  obtain ⟨kU, u1, u2⟩ := al.2.2 _ _ e3
  exact ⟨D, fV, fC, ⟨hD, ⟨knV, fun q hq => by rw [hq] at obV; cases obV⟩, by rw [al.findClass]; exact e2, kU, u1, by rw [u2]; exact i3, by rw [u2]; exact e5 i3⟩, ⟨SBG.found_only al ⟨cfV, kV, iV, gV⟩, stV⟩, ⟨SBG.found_only al ⟨cfC, kC, iC, gC⟩, stC⟩, slV, slC, by simp [RoadKit.slotOf, gV], by simp [RoadKit.slotOf, gC]⟩
theorem sta_is {Z U : State} (al : Z.vm.Alike U.vm) {C n d : String} {v : Value} (S : RoadKit.Sta Z U.heap C n d v) : StaticIs U C n d v := by
  obtain ⟨cfS, iS, kS, fS, st, cS, t1, t2, t3, t4, t5, t6, t7⟩ := S
  exact StaticIs.there (s := { Z with heap := U.heap }) ⟨cfS, iS, kS, fS, st, cS, t1, t2, t3, t4, t5, (fun q => by rw [q] at t6; cases t6), t7⟩ al rfl
end StrChars.Road
namespace StrChars
open Jvm Sem ClassFile Op Lib Jvm.Stand Jvm.Free.XT Jvm.Free.ALB Jvm.Free.JM Jvm.Free
open Jvm.Lib.Cold (StaticIs)
/-- what place i of a byte[]'s cell holds -/
def yv (A : Cell) (i : Nat) : Int32 := match A.slots[i]? with | some (.int x) => x | _ => 0
theorem yv_get {a : Addr} {A : Cell} {U : State} (h : XT.Arr .byte a A U) (ht : Typed .byte A) {i : Nat} (hi : i < A.slots.size) : A.slots[i]? = some (.int (yv A i)) := by
  have e := Array.getElem?_eq_getElem hi
  have f := ht i _ e
  unfold yv; rw [e]
  generalize A.slots[i] = v at f
  cases v <;> simp [fits] at f ⊢
/-- the two arrays are equal, place for place -/
def EqC (A B : Cell) : Prop := A.slots.size = B.slots.size ∧ ∀ i, i < A.slots.size → yv A i = yv B i
/-- a boolean that says whether p -/
def Says01 (q : Prop) (r : Option Value) (s u : State) : Prop := ∃ v : Int32, r = some (.int v) ∧ u.heap = s.heap ∧ ((v = 1 ∧ q) ∨ (v = 0 ∧ ¬ q))
theorem Says01.mv {q : Prop} : ∀ r (U U' V V' : State), U'.heap = U.heap → V.vm.Alike V'.vm → V'.heap = V.heap → Says01 q r U V → Says01 q r U' V' :=
  fun r U U' V V' h1 _ h2 ⟨v, a, b, c⟩ => ⟨v, a, by rw [h1, h2]; exact b, c⟩
namespace LEq
def yN : MethodName := ⟨"java/lang/StringLatin1", "equals", "([B[B)Z"⟩
abbrev yB : ByteArray := jdk_43_method_13_code
theorem d0 : decode yB 0 = .ok (.aload_n 0, 1) := by decide +kernel
theorem d1 : decode yB 1 = .ok (.arraylength, 1) := by decide +kernel
theorem d2 : decode yB 2 = .ok (.aload_n 1, 1) := by decide +kernel
theorem d3 : decode yB 3 = .ok (.arraylength, 1) := by decide +kernel
theorem d4 : decode yB 4 = .ok (.if_icmp (.ne) 30, 3) := by decide +kernel
theorem d7 : decode yB 7 = .ok (.iconst 0, 1) := by decide +kernel
theorem d8 : decode yB 8 = .ok (.istore_n 2, 1) := by decide +kernel
theorem d9 : decode yB 9 = .ok (.iload_n 2, 1) := by decide +kernel
theorem d10 : decode yB 10 = .ok (.aload_n 0, 1) := by decide +kernel
theorem d11 : decode yB 11 = .ok (.arraylength, 1) := by decide +kernel
theorem d12 : decode yB 12 = .ok (.if_icmp (.ge) 20, 3) := by decide +kernel
theorem d15 : decode yB 15 = .ok (.aload_n 0, 1) := by decide +kernel
theorem d16 : decode yB 16 = .ok (.iload_n 2, 1) := by decide +kernel
theorem d17 : decode yB 17 = .ok (.baload, 1) := by decide +kernel
theorem d18 : decode yB 18 = .ok (.aload_n 1, 1) := by decide +kernel
theorem d19 : decode yB 19 = .ok (.iload_n 2, 1) := by decide +kernel
theorem d20 : decode yB 20 = .ok (.baload, 1) := by decide +kernel
theorem d21 : decode yB 21 = .ok (.if_icmp (.eq) 5, 3) := by decide +kernel
theorem d24 : decode yB 24 = .ok (.iconst 0, 1) := by decide +kernel
theorem d25 : decode yB 25 = .ok (.ireturn, 1) := by decide +kernel
theorem d26 : decode yB 26 = .ok (.iinc 2 1, 3) := by decide +kernel
theorem d29 : decode yB 29 = .ok (.goto (-20), 3) := by decide +kernel
theorem d32 : decode yB 32 = .ok (.iconst 1, 1) := by decide +kernel
theorem d33 : decode yB 33 = .ok (.ireturn, 1) := by decide +kernel
theorem d34 : decode yB 34 = .ok (.iconst 0, 1) := by decide +kernel
theorem d35 : decode yB 35 = .ok (.ireturn, 1) := by decide +kernel
def site : List Cond := []
def tab : Cond := tabOf yN yB 3 (some .boolean) site
def P (a : Addr) (A : Cell) (b : Addr) (B : Cell) (args : Array Value) (s : State) : Prop := args = #[.ref a, .ref b] ∧ XT.Arr .byte a A s ∧ Typed .byte A ∧ XT.Arr .byte b B s ∧ Typed .byte B
/-- whether two byte[] are equal, place for place -/
theorem law (l : Launch) (a : Addr) (A : Cell) (b : Addr) (B : Cell) : Law l yN 2 2 0 0 yB 3 (some .boolean) site (P a A b B) (Says01 (EqC A B)) [] 0 0 := by
  refine Law.of_walk (plainFor_of_name (by decide +kernel)) (by decide +kernel) (by decide +kernel) (by decide) (fun _ _ h => by rw [h.1]; rfl) (fun _ U U' hal hh h => ⟨h.1, h.2.1.mv hal hh, h.2.2.1, h.2.2.2.1.mv hal hh, h.2.2.2.2⟩) (fun r U U' V V' h1 hal h2 h => Says01.mv r U U' V V' h1 hal h2 h) ?_
  intro p e s m args below meth c s₁ X0 hexec hbytes hml hret hlk hnm hown hh0 W hP
  obtain ⟨rfl, hA, tA, hB, tB⟩ := hP
  have a31 := hA.2.2.2
  have b31 := hB.2.2.2
  have hA0 := hA.mv X0.warmed.alike hh0
  have hB0 := hB.mv X0.warmed.alike hh0
  have c1 : Steps p.tables e below (s₁.setTop (entryFrame m #[.ref a, .ref b] 3)) (s₁.setTop (mkF m 0 #[.val (.ref a), .val (.ref b), .unset] [])) := entry rfl
  have c2 : Steps p.tables e below (s₁.setTop (entryFrame m #[.ref a, .ref b] 3)) (s₁.setTop (mkF m 4 #[.val (.ref a), .val (.ref b), .unset] [.int (Int32.ofNat B.slots.size), .int (Int32.ofNat A.slots.size)])) := c1.trans (by
    refine XS.aloadN X0.here hexec rfl (hb hbytes d0) rfl rfl ?_
    refine X0.alen hexec hA0 rfl rfl (hb hbytes d1) ?_
    refine XS.aloadN X0.here hexec rfl (hb hbytes d2) rfl rfl ?_
    refine X0.alen hexec hB0 rfl rfl (hb hbytes d3) ?_
    exact Steps.refl _)
  by_cases hs : A.slots.size = B.slots.size
  · have c3 : Steps p.tables e below (s₁.setTop (entryFrame m #[.ref a, .ref b] 3)) (s₁.setTop (mkF m 9 #[.val (.ref a), .val (.ref b), .val (.int 0)] [])) := c2.trans (by
      refine XS.icmpNo X0.here hexec rfl (hb hbytes d4) rfl (ii_ne_f (by rw [hs])) ?_
      refine iconstV X0.here hexec rfl 0 (hb hbytes d7) (by decide) ?_
      refine XS.istoreN X0.here hexec rfl (hb hbytes d8) rfl rfl ?_
      exact Steps.refl _)
    have loop : ∀ (r i : Nat), i + r = A.slots.size → (∀ j, j < i → yv A j = yv B j) → Steps p.tables e below (s₁.setTop (entryFrame m #[.ref a, .ref b] 3)) (s₁.setTop (mkF m 9 #[.val (.ref a), .val (.ref b), .val (.int (Int32.ofNat i))] [])) → ∃ (pc : Nat) (Ls : Array Slot) (v : Int32), (pc = 25 ∨ pc = 33) ∧ ((v = 1 ∧ EqC A B) ∨ (v = 0 ∧ ¬ EqC A B)) ∧ Steps p.tables e below (s₁.setTop (entryFrame m #[.ref a, .ref b] 3)) (s₁.setTop (mkF m pc Ls [.int v])) := by
      intro r
      induction r with
      | zero =>
        intro i hi he cl
        exact ⟨33, _, 1, Or.inr rfl, Or.inl ⟨rfl, hs, fun j hj => he j (by omega)⟩, cl.trans (by
          refine XS.iloadN X0.here hexec rfl (hb hbytes d9) rfl ?_
          refine XS.aloadN X0.here hexec rfl (hb hbytes d10) rfl rfl ?_
          refine X0.alen hexec hA0 rfl rfl (hb hbytes d11) ?_
          refine XS.icmpYes X0.here hexec rfl (pc0 := 12) rfl (hb hbytes d12) rfl (ii_ge_t (nlt32 (by omega) (by omega))) (by decide) rfl ?_
          refine iconstV X0.here hexec rfl 1 (hb hbytes d32) (by decide) ?_
          exact Steps.refl _)⟩
      | succ r ih =>
        intro i hi he cl
        have c4 : Steps p.tables e below (s₁.setTop (entryFrame m #[.ref a, .ref b] 3)) (s₁.setTop (mkF m 21 #[.val (.ref a), .val (.ref b), .val (.int (Int32.ofNat i))] [.int (yv B i), .int (yv A i)])) := cl.trans (by
          refine XS.iloadN X0.here hexec rfl (hb hbytes d9) rfl ?_
          refine XS.aloadN X0.here hexec rfl (hb hbytes d10) rfl rfl ?_
          refine X0.alen hexec hA0 rfl rfl (hb hbytes d11) ?_
          refine XS.icmpNo X0.here hexec rfl (hb hbytes d12) rfl (ii_ge_f (lt32 (by omega) (by omega))) ?_
          refine XS.aloadN X0.here hexec rfl (hb hbytes d15) rfl rfl ?_
          refine XS.iloadN X0.here hexec rfl (hb hbytes d16) rfl ?_
          refine X0.aget hexec hA0 rfl (yv_get hA tA (i := i) (by omega)) rfl rfl (hb hbytes d17) ?_
          refine XS.aloadN X0.here hexec rfl (hb hbytes d18) rfl rfl ?_
          refine XS.iloadN X0.here hexec rfl (hb hbytes d19) rfl ?_
          refine X0.aget hexec hB0 rfl (yv_get hB tB (i := i) (by omega)) rfl rfl (hb hbytes d20) ?_
          exact Steps.refl _)
        by_cases hv : yv A i = yv B i
        · have c5 : Steps p.tables e below (s₁.setTop (entryFrame m #[.ref a, .ref b] 3)) (s₁.setTop (mkF m 9 #[.val (.ref a), .val (.ref b), .val (.int (Int32.ofNat i + 1))] [])) := c4.trans (by
            refine XS.icmpYes X0.here hexec rfl (pc0 := 21) rfl (hb hbytes d21) rfl (ii_eq_t hv) (by decide) rfl ?_
            refine iincV X0.here hexec rfl 1 (hb hbytes d26) (by decide) rfl rfl ?_
            refine XS.goto X0.here hexec rfl (pc0 := 29) rfl (hb hbytes d29) (by decide) rfl ?_
            exact Steps.refl _)
          rw [succ32] at c5
          exact ih (i + 1) (by omega) (fun j hj => by
            by_cases e : j = i
            · rw [e]; exact hv
            · exact he j (by omega)) c5
        · exact ⟨25, _, 0, Or.inl rfl, Or.inr ⟨rfl, fun q => hv (q.2 i (by omega))⟩, c4.trans (by
            refine XS.icmpNo X0.here hexec rfl (hb hbytes d21) rfl (ii_eq_f hv) ?_
            refine iconstV X0.here hexec rfl 0 (hb hbytes d24) (by decide) ?_
            exact Steps.refl _)⟩
    obtain ⟨pc, Ls, v, hpc, hv, cz⟩ := loop A.slots.size 0 (by omega) (fun j hj => absurd hj (Nat.not_lt_zero j)) c3
    have nv : narrow .boolean (.int v) = .int v := by rcases hv with ⟨rfl, -⟩ | ⟨rfl, -⟩ <;> rfl
    rcases hpc with rfl | rfl
    · exact ⟨s₁, some (.int v), _, _, _, X0, rfl, rfl, rfl, (fun h => by cases h), ⟨v, rfl, hh0, hv⟩, fun fs hl => cz.trans (X0.ireturnOut hexec hret nv (Or.inr (Or.inl rfl)) (hb hbytes d25) hl)⟩
    · exact ⟨s₁, some (.int v), _, _, _, X0, rfl, rfl, rfl, (fun h => by cases h), ⟨v, rfl, hh0, hv⟩, fun fs hl => cz.trans (X0.ireturnOut hexec hret nv (Or.inr (Or.inl rfl)) (hb hbytes d33) hl)⟩
  · have c3 : Steps p.tables e below (s₁.setTop (entryFrame m #[.ref a, .ref b] 3)) (s₁.setTop (mkF m 35 #[.val (.ref a), .val (.ref b), .unset] [.int 0])) := c2.trans (by
      refine XS.icmpYes X0.here hexec rfl (pc0 := 4) rfl (hb hbytes d4) rfl (ii_ne_t (ne32 a31 b31 hs)) (by decide) rfl ?_
      refine iconstV X0.here hexec rfl 0 (hb hbytes d34) (by decide) ?_
      exact Steps.refl _)
    exact ⟨s₁, some (.int 0), _, _, _, X0, rfl, rfl, rfl, (fun h => by cases h), ⟨0, rfl, hh0, Or.inr ⟨rfl, fun q => hs q.1⟩⟩, fun fs hl => c3.trans (X0.ireturnOut hexec hret rfl (Or.inr (Or.inl rfl)) (hb hbytes d35) hl)⟩
end LEq
theorem Cod.ty {cd : Int32} {n : Nat} {f : Nat → Int32} {V : Cell} (h : Cod cd n f V) : Typed .byte V := fun i v hv => by
  have hi : i < V.slots.size := (Array.getElem?_eq_some_iff.mp hv).1
  rcases h with ⟨-, k1, k2⟩ | ⟨-, k1, k2, -⟩
  · rw [(k2 i (by omega)).1] at hv; cases hv; exact fits_lo8 _
  · rcases Nat.mod_two_eq_zero_or_one i with e | e
    · obtain ⟨j, rfl⟩ : ∃ j, i = 2 * j := ⟨i / 2, by omega⟩
      rw [(k2 j (by omega)).1] at hv; cases hv; exact fits_lo8 _
    · obtain ⟨j, rfl⟩ : ∃ j, i = 2 * j + 1 := ⟨i / 2, by omega⟩
      rw [(k2 j (by omega)).2] at hv; cases hv; exact fits_lo8 _
/-- the same text -/
def SameT (n : Nat) (f : Nat → Int32) (k : Nat) (g : Nat → Int32) : Prop := n = k ∧ ∀ j, j < n → f j = g j
theorem lo8_inj {x y : Int32} (h0 : ¬ x < 0) (h1 : ¬ 255 < x) (k0 : ¬ y < 0) (k1 : ¬ 255 < y) (h : lo8 x = lo8 y) : x = y := by
  rw [← lo8_mask h0 h1, ← lo8_mask k0 k1, h]
/-- arrays coded by one coder are equal just where the texts are -/
theorem Cod.eqv {cd : Int32} {n k : Nat} {f g : Nat → Int32} {V V' : Cell} (h : Cod cd n f V) (h' : Cod cd k g V') (hf : ∀ j, j < n → ¬ f j < 0 ∧ ¬ 65535 < f j) (hg : ∀ j, j < k → ¬ g j < 0 ∧ ¬ 65535 < g j) : EqC V V' ↔ SameT n f k g := by
  have yvv : ∀ {W : Cell} {i : Nat} {x : Int32}, W.slots[i]? = some (.int x) → yv W i = x := fun q => by unfold yv; rw [q]
  rcases h with ⟨rfl, k1, k2⟩ | ⟨rfl, k1, k2, -⟩
  · rcases h' with ⟨-, m1, m2⟩ | ⟨e, -⟩
    · constructor
      · rintro ⟨e1, e2⟩
        refine ⟨by omega, fun j hj => ?_⟩
        have q := e2 j (by omega)
        rw [yvv (k2 j hj).1, yvv (m2 j (by omega)).1] at q
        exact lo8_inj (hf j hj).1 (k2 j hj).2 (hg j (by omega)).1 (m2 j (by omega)).2 q
      · rintro ⟨rfl, e2⟩
        refine ⟨by omega, fun j hj => ?_⟩
        rw [yvv (k2 j (by omega)).1, yvv (m2 j (by omega)).1, e2 j (by omega)]
    · exact absurd e (by decide)
  · rcases h' with ⟨e, -⟩ | ⟨-, m1, m2, -⟩
    · exact absurd e (by decide)
    · constructor
      · rintro ⟨e1, e2⟩
        refine ⟨by omega, fun j hj => ?_⟩
        have q1 := e2 (2 * j) (by omega)
        have q2 := e2 (2 * j + 1) (by omega)
        rw [yvv (k2 j hj).1, yvv (m2 j (by omega)).1] at q1
        rw [yvv (k2 j hj).2, yvv (m2 j (by omega)).2] at q2
        rw [← pair_says (hf j hj).1 (hf j hj).2, ← pair_says (hg j (by omega)).1 (hg j (by omega)).2, q1, q2]
      · rintro ⟨rfl, e2⟩
        refine ⟨by omega, fun i hi => ?_⟩
        rcases Nat.mod_two_eq_zero_or_one i with e | e
        · obtain ⟨j, rfl⟩ : ∃ j, i = 2 * j := ⟨i / 2, by omega⟩
          rw [yvv (k2 j (by omega)).1, yvv (m2 j (by omega)).1, e2 j (by omega)]
        · obtain ⟨j, rfl⟩ : ∃ j, i = 2 * j + 1 := ⟨i / 2, by omega⟩
          rw [yvv (k2 j (by omega)).2, yvv (m2 j (by omega)).2, e2 j (by omega)]
/-- two codings differ: so do the texts -/
theorem Cod.dif {cd cd' : Int32} {n k : Nat} {f g : Nat → Int32} {V V' : Cell} (h : Cod cd n f V) (h' : Cod cd' k g V') (hne : ¬ cd = cd') : ¬ SameT n f k g := by
  rintro ⟨rfl, e⟩
  rcases h with ⟨rfl, -, k2⟩ | ⟨rfl, -, -, j, hj, hw⟩
  · rcases h' with ⟨rfl, -⟩ | ⟨-, -, -, j, hj, hw⟩
    · exact hne rfl
    · exact (k2 j hj).2 (by rw [e j hj]; exact hw)
  · rcases h' with ⟨-, -, m2⟩ | ⟨rfl, -⟩
    · exact (m2 j hj).2 (by rw [← e j hj]; exact hw)
    · exact hne rfl
/-- an object of exactly C is an instance of C -/
theorem cinst {p : Program} {l : Launch} {e : Env} {R : Room} {s : State} {m : MethodId} {args : Array Value} {below : List Frame} {meth : Method} {c : Code} {T : State} {locs : List Loc} {cells slots : Nat} (X : Stand p l e R s m args below meth c T locs cells slots) (hexec : p.tables.exec = Jvm.exec) {own C : String} {index : Nat} (hown : s.vm.findClass own = some m.cls) (hlink : (Cond.classLink own index C).before args s = true) {a : Addr} (hE : Exact C a T)
    {g : JFrame} (hg : g.method = m) {rest : List Value} (hstack : g.stack = .ref a :: rest) (hdg : decode c.code g.pc = .ok (.instanceof index, 3)) :
    ∃ T', Stand p l e R s m args below meth c T' locs cells slots ∧ T'.heap = T.heap ∧ ∀ target, Steps p.tables e below (T'.setTop { g with pc := g.pc + 3, stack := .int 1 :: rest }) target → Steps p.tables e below (T.setTop g) target := by
  obtain ⟨cB, h1, D, h2, h3, h4⟩ := hE
  have h1' : s.vm.findClass C = some cB := by rw [← X.warmed.alike.findClass]; exact h1
  obtain ⟨vm', X', st⟩ := X.instanceofYes hexec hown hlink h2 h4 h1' (by rw [h3]; exact Jvm.Free.SB.assignable_self _ _) hg hstack hdg
  exact ⟨_, X', rfl, st⟩
theorem cself {p : Program} {l : Launch} {e : Env} {R : Room} {s : State} {m : MethodId} {args : Array Value} {below : List Frame} {meth : Method} {c : Code} {T : State} {locs : List Loc} {cells slots : Nat} (X : Stand p l e R s m args below meth c T locs cells slots) (hexec : p.tables.exec = Jvm.exec) {own C : String} {index : Nat} (hown : s.vm.findClass own = some m.cls) (hlink : (Cond.classLink own index C).before args s = true) {a : Addr} (hE : Exact C a T)
    {g : JFrame} (hg : g.method = m) {rest : List Value} (hstack : g.stack = .ref a :: rest) (hdg : decode c.code g.pc = .ok (.checkcast index, 3)) :
    ∃ T', Stand p l e R s m args below meth c T' locs cells slots ∧ T'.heap = T.heap ∧ ∀ target, Steps p.tables e below (T'.setTop { g with pc := g.pc + 3, stack := .ref a :: rest }) target → Steps p.tables e below (T.setTop g) target := by
  obtain ⟨cB, h1, D, h2, h3, h4⟩ := hE
  have h1' : s.vm.findClass C = some cB := by rw [← X.warmed.alike.findClass]; exact h1
  obtain ⟨vm', X', st⟩ := X.checkcastYes hexec hown hlink h2 h4 h1' (by rw [h3]; exact Jvm.Free.SB.assignable_self _ _) hg hstack hdg
  exact ⟨_, X', rfl, fun t h => st t (by rw [← hstack] at h; exact h)⟩
namespace SEq
def yN : MethodName := ⟨"java/lang/String", "equals", "(Ljava/lang/Object;)Z"⟩
abbrev yB : ByteArray := jdk_42_method_66_code
theorem d0 : decode yB 0 = .ok (.aload_n 0, 1) := by decide +kernel
theorem d1 : decode yB 1 = .ok (.aload_n 1, 1) := by decide +kernel
theorem d2 : decode yB 2 = .ok (.if_acmp (.ne) 5, 3) := by decide +kernel
theorem d5 : decode yB 5 = .ok (.iconst 1, 1) := by decide +kernel
theorem d6 : decode yB 6 = .ok (.ireturn, 1) := by decide +kernel
theorem d7 : decode yB 7 = .ok (.aload_n 1, 1) := by decide +kernel
theorem d8 : decode yB 8 = .ok (.instanceof 10, 3) := by decide +kernel
theorem d11 : decode yB 11 = .ok (.ifCond (.eq) 43, 3) := by decide +kernel
theorem d14 : decode yB 14 = .ok (.aload_n 1, 1) := by decide +kernel
theorem d15 : decode yB 15 = .ok (.checkcast 10, 3) := by decide +kernel
theorem d18 : decode yB 18 = .ok (.astore_n 2, 1) := by decide +kernel
theorem d19 : decode yB 19 = .ok (.getstatic 38, 3) := by decide +kernel
theorem d22 : decode yB 22 = .ok (.ifCond (.eq) 14, 3) := by decide +kernel
theorem d25 : decode yB 25 = .ok (.aload_n 0, 1) := by decide +kernel
theorem d26 : decode yB 26 = .ok (.getfield 15, 3) := by decide +kernel
theorem d29 : decode yB 29 = .ok (.aload_n 2, 1) := by decide +kernel
theorem d30 : decode yB 30 = .ok (.getfield 15, 3) := by decide +kernel
theorem d33 : decode yB 33 = .ok (.if_icmp (.ne) 21, 3) := by decide +kernel
theorem d36 : decode yB 36 = .ok (.aload_n 0, 1) := by decide +kernel
theorem d37 : decode yB 37 = .ok (.getfield 9, 3) := by decide +kernel
theorem d40 : decode yB 40 = .ok (.aload_n 2, 1) := by decide +kernel
theorem d41 : decode yB 41 = .ok (.getfield 9, 3) := by decide +kernel
theorem d44 : decode yB 44 = .ok (.invokestatic 541, 3) := by decide +kernel
theorem d47 : decode yB 47 = .ok (.ifCond (.eq) 7, 3) := by decide +kernel
theorem d50 : decode yB 50 = .ok (.iconst 1, 1) := by decide +kernel
theorem d51 : decode yB 51 = .ok (.goto 4, 3) := by decide +kernel
theorem d54 : decode yB 54 = .ok (.iconst 0, 1) := by decide +kernel
theorem d55 : decode yB 55 = .ok (.ireturn, 1) := by decide +kernel
def site : List Cond := [.classLink "java/lang/String" 10 "java/lang/String", .fieldLink "java/lang/String" 38 "java/lang/String" "COMPACT_STRINGS" "Z", .fieldLink "java/lang/String" 15 "java/lang/String" "coder" "B", .fieldLink "java/lang/String" 9 "java/lang/String" "value" "[B", LEq.tab] ++ staticW "java/lang/String" 541 LEq.yN
def tab : Cond := tabOf yN yB 3 (some .boolean) site
def P (x t : Addr) (V : Cell) (cd : Int32) (n : Nat) (f : Nat → Int32) (y t' : Addr) (V' : Cell) (cd' : Int32) (k : Nat) (g : Nat → Int32) (z : Int32) (args : Array Value) (s : State) : Prop := args = #[.ref x, .ref y] ∧ Txt x t V cd n f s ∧ Txt y t' V' cd' k g s ∧ StaticIs s "java/lang/String" "COMPACT_STRINGS" "Z" (.int z) ∧ ¬ z = 0
/-- equals(Object) of two Strings: whether the texts are the same -/
theorem law (l : Launch) (x t : Addr) (V : Cell) (cd : Int32) (n : Nat) (f : Nat → Int32) (y t' : Addr) (V' : Cell) (cd' : Int32) (k : Nat) (g : Nat → Int32) (z : Int32) : Law l yN 2 1 1 14 yB 3 (some .boolean) site (P x t V cd n f y t' V' cd' k g z) (Says01 (SameT n f k g)) [] 0 0 := by
  refine Law.of_walk (plainFor_of_name (by decide +kernel)) (by decide +kernel) (by decide +kernel) (by decide) (fun _ _ h => by rw [h.1]; rfl) (fun _ U U' hal hh h => ⟨h.1, h.2.1.mv hal hh, h.2.2.1.mv hal hh, h.2.2.2.1.there hal hh, h.2.2.2.2⟩) (fun r U U' V V' h1 hal h2 h => Says01.mv r U U' V V' h1 hal h2 h) ?_
  intro p e s m args below meth c s₁ X0 hexec hbytes hml hret hlk hnm hown hh0 W hP
  obtain ⟨rfl, hx, hy, s1, hz⟩ := hP
  have c1 : Steps p.tables e below (s₁.setTop (entryFrame m #[.ref x, .ref y] 3)) (s₁.setTop (mkF m 2 #[.val (.ref x), .val (.ref y), .unset] [.ref y, .ref x])) := Steps.trans (entry rfl) (by
    show Steps p.tables e below (s₁.setTop (mkF m 0 #[.val (.ref x), .val (.ref y), .unset] [])) _
    refine XS.aloadN X0.here hexec rfl (hb hbytes d0) rfl rfl ?_
    refine XS.aloadN X0.here hexec rfl (hb hbytes d1) rfl rfl ?_
    exact Steps.refl _)
  by_cases hxy : x = y
  · have c2 : Steps p.tables e below (s₁.setTop (entryFrame m #[.ref x, .ref y] 3)) (s₁.setTop (mkF m 6 #[.val (.ref x), .val (.ref y), .unset] [.int 1])) := c1.trans (by
      refine acmpNo X0.here hexec rfl (hb hbytes d2) rfl rfl rfl (by simp [acmp, hxy]) ?_
      refine iconstV X0.here hexec rfl 1 (hb hbytes d5) (by decide) ?_
      exact Steps.refl _)
    subst hxy
    have ec : cd = cd' := by
      obtain ⟨D, fd, a1, a2, a3⟩ := hx.2.2.1
      obtain ⟨D', fd', b1, b2, b3⟩ := hy.2.2.1
      cases a1.symm.trans b1
      obtain ⟨q1, q2, q3, q4⟩ := a2.1
      obtain ⟨r1, r2, r3, r4⟩ := b2.1
      cases q4.symm.trans r4
      cases a3.symm.trans b3; rfl
    have et : t = t' := by
      obtain ⟨D, fd, a1, a2, a3⟩ := hx.2.1
      obtain ⟨D', fd', b1, b2, b3⟩ := hy.2.1
      cases a1.symm.trans b1
      obtain ⟨q1, q2, q3, q4⟩ := a2.1
      obtain ⟨r1, r2, r3, r4⟩ := b2.1
      cases q4.symm.trans r4
      cases a3.symm.trans b3; rfl
    subst ec et
    have ev : V = V' := by cases hx.2.2.2.1.1.symm.trans hy.2.2.2.1.1; rfl
    subst ev
    have hs : SameT n f k g := (Cod.eqv hx.2.2.2.2.1 hy.2.2.2.2.1 hx.2.2.2.2.2 hy.2.2.2.2.2).mp ⟨rfl, fun _ _ => rfl⟩
    exact ⟨s₁, some (.int 1), _, _, _, X0, rfl, rfl, rfl, (fun h => by cases h), ⟨1, rfl, hh0, Or.inl ⟨rfl, hs⟩⟩, fun fs hl => c2.trans (X0.ireturnOut hexec hret rfl (Or.inr (Or.inl rfl)) (hb hbytes d6) hl)⟩
  · have c2 : Steps p.tables e below (s₁.setTop (entryFrame m #[.ref x, .ref y] 3)) (s₁.setTop (mkF m 8 #[.val (.ref x), .val (.ref y), .unset] [.ref y])) := c1.trans (by
      refine acmpYes X0.here hexec rfl (pc0 := 2) rfl (hb hbytes d2) rfl rfl rfl (by simp [acmp, hxy]) (by decide) rfl ?_
      refine XS.aloadN X0.here hexec rfl (hb hbytes d7) rfl rfl ?_
      exact Steps.refl _)
    obtain ⟨T3, X3, q3, st3⟩ := cinst X0 hexec hown (wk W (.classLink "java/lang/String" 10 "java/lang/String")) (hy.mv X0.warmed.alike hh0).1 (g := (mkF m 8 #[.val (.ref x), .val (.ref y), .unset] [.ref y])) rfl (rest := []) rfl (hb hbytes d8)
    have hh3 := q3.trans hh0
    have c4 : Steps p.tables e below (s₁.setTop (entryFrame m #[.ref x, .ref y] 3)) (T3.setTop (mkF m 15 #[.val (.ref x), .val (.ref y), .unset] [.ref y])) := (c2.trans (st3 _ (Steps.refl _))).trans (by
      refine XS.ifNo X3.here hexec rfl (hb hbytes d11) rfl (i0_eq_f (by decide)) ?_
      refine XS.aloadN X3.here hexec rfl (hb hbytes d14) rfl rfl ?_
      exact Steps.refl _)
    obtain ⟨T5, X5, q5, st5⟩ := cself X3 hexec hown (wk W (.classLink "java/lang/String" 10 "java/lang/String")) (hy.mv X3.warmed.alike hh3).1 (g := (mkF m 15 #[.val (.ref x), .val (.ref y), .unset] [.ref y])) rfl (rest := []) rfl (hb hbytes d15)
    have hh5 := q5.trans hh3
    have c6 : Steps p.tables e below (s₁.setTop (entryFrame m #[.ref x, .ref y] 3)) (T5.setTop (mkF m 19 #[.val (.ref x), .val (.ref y), .val (.ref y)] [])) := (c4.trans (st5 _ (Steps.refl _))).trans (by
      refine XS.astoreN X5.here hexec rfl (hb hbytes d18) rfl rfl rfl ?_
      exact Steps.refl _)
    obtain ⟨T7, X7, q7, st7⟩ := X5.sget hexec hown (wk W (.fieldLink "java/lang/String" 38 "java/lang/String" "COMPACT_STRINGS" "Z")) s1 (fun _ _ h => by rw [hh5]; exact h) (g := (mkF m 19 #[.val (.ref x), .val (.ref y), .val (.ref y)] [])) rfl (hb hbytes d19)
    have hh7 := q7.trans hh5
    have c8 : Steps p.tables e below (s₁.setTop (entryFrame m #[.ref x, .ref y] 3)) (T7.setTop (mkF m 26 #[.val (.ref x), .val (.ref y), .val (.ref y)] [.ref x])) := (c6.trans (st7 _ (Steps.refl _))).trans (by
      refine XS.ifNo X7.here hexec rfl (hb hbytes d22) rfl (i0_eq_f hz) ?_
      refine XS.aloadN X7.here hexec rfl (hb hbytes d25) rfl rfl ?_
      exact Steps.refl _)
    obtain ⟨T9, X9, q9, st9⟩ := X7.hget hexec hown (wk W (.fieldLink "java/lang/String" 15 "java/lang/String" "coder" "B")) (hx.mv X7.warmed.alike hh7).2.2.1 (g := (mkF m 26 #[.val (.ref x), .val (.ref y), .val (.ref y)] [.ref x])) rfl (rest := []) rfl (hb hbytes d26)
    have hh9 := q9.trans hh7
    have c10 : Steps p.tables e below (s₁.setTop (entryFrame m #[.ref x, .ref y] 3)) (T9.setTop (mkF m 30 #[.val (.ref x), .val (.ref y), .val (.ref y)] [.ref y, .int cd])) := (c8.trans (st9 _ (Steps.refl _))).trans (by
      refine XS.aloadN X9.here hexec rfl (hb hbytes d29) rfl rfl ?_
      exact Steps.refl _)
    obtain ⟨T11, X11, q11, st11⟩ := X9.hget hexec hown (wk W (.fieldLink "java/lang/String" 15 "java/lang/String" "coder" "B")) (hy.mv X9.warmed.alike hh9).2.2.1 (g := (mkF m 30 #[.val (.ref x), .val (.ref y), .val (.ref y)] [.ref y, .int cd])) rfl (rest := [.int cd]) rfl (hb hbytes d30)
    have hh11 := q11.trans hh9
    have c12 : Steps p.tables e below (s₁.setTop (entryFrame m #[.ref x, .ref y] 3)) (T11.setTop (mkF m 33 #[.val (.ref x), .val (.ref y), .val (.ref y)] [.int cd', .int cd])) := c10.trans (st11 _ (Steps.refl _))
    by_cases hcd : cd = cd'
    · subst hcd
      have c13 : Steps p.tables e below (s₁.setTop (entryFrame m #[.ref x, .ref y] 3)) (T11.setTop (mkF m 37 #[.val (.ref x), .val (.ref y), .val (.ref y)] [.ref x])) := c12.trans (by
        refine XS.icmpNo X11.here hexec rfl (hb hbytes d33) rfl (ii_ne_f rfl) ?_
        refine XS.aloadN X11.here hexec rfl (hb hbytes d36) rfl rfl ?_
        exact Steps.refl _)
      obtain ⟨T14, X14, q14, st14⟩ := X11.hget hexec hown (wk W (.fieldLink "java/lang/String" 9 "java/lang/String" "value" "[B")) (hx.mv X11.warmed.alike hh11).2.1 (g := (mkF m 37 #[.val (.ref x), .val (.ref y), .val (.ref y)] [.ref x])) rfl (rest := []) rfl (hb hbytes d37)
      have hh14 := q14.trans hh11
      have c15 : Steps p.tables e below (s₁.setTop (entryFrame m #[.ref x, .ref y] 3)) (T14.setTop (mkF m 41 #[.val (.ref x), .val (.ref y), .val (.ref y)] [.ref y, .ref t])) := (c13.trans (st14 _ (Steps.refl _))).trans (by
        refine XS.aloadN X14.here hexec rfl (hb hbytes d40) rfl rfl ?_
        exact Steps.refl _)
      obtain ⟨T16, X16, q16, st16⟩ := X14.hget hexec hown (wk W (.fieldLink "java/lang/String" 9 "java/lang/String" "value" "[B")) (hy.mv X14.warmed.alike hh14).2.1 (g := (mkF m 41 #[.val (.ref x), .val (.ref y), .val (.ref y)] [.ref y, .ref t])) rfl (rest := [.ref t]) rfl (hb hbytes d41)
      have hh16 := q16.trans hh14
      have c17 : Steps p.tables e below (s₁.setTop (entryFrame m #[.ref x, .ref y] 3)) (T16.setTop (mkF m 44 #[.val (.ref x), .val (.ref y), .val (.ref y)] [.ref t', .ref t])) := c15.trans (st16 _ (Steps.refl _))
      obtain ⟨v18, T18, X18, E18, g18⟩ := X16.callS hexec (LEq.law l t V t' V') hown (wks W (staticW "java/lang/String" 541 LEq.yN)) (wk W LEq.tab) (W := 0) (Nat.le_of_ble_eq_true rfl) (Nat.le_of_ble_eq_true rfl) (Nat.le_refl _) (Nat.le_refl _) (g := (mkF m 44 #[.val (.ref x), .val (.ref y), .val (.ref y)] [.ref t', .ref t])) rfl (by rw [hml]; rfl) c17 (argsL := [.ref t, .ref t']) (rest := []) rfl rfl (by show 2 * 0 + 0 ≤ _; decide) (hb hbytes d44) (⟨rfl, hx.2.2.2.1.mv X16.warmed.alike hh16, hx.2.2.2.2.1.ty, hy.2.2.2.1.mv X16.warmed.alike hh16, hy.2.2.2.2.1.ty⟩)
      obtain ⟨v, rfl, q18, hv⟩ := E18
      have iff := Cod.eqv hx.2.2.2.2.1 hy.2.2.2.2.1 hx.2.2.2.2.2 hy.2.2.2.2.2
      rcases hv with ⟨rfl, he⟩ | ⟨rfl, he⟩
      · have c19 : Steps p.tables e below (s₁.setTop (entryFrame m #[.ref x, .ref y] 3)) (T18.setTop (mkF m 55 #[.val (.ref x), .val (.ref y), .val (.ref y)] [.int 1])) := Steps.trans g18 (by
          refine XS.ifNo X18.here hexec rfl (hb hbytes d47) rfl (i0_eq_f (by decide)) ?_
          refine iconstV X18.here hexec rfl 1 (hb hbytes d50) (by decide) ?_
          refine XS.goto X18.here hexec rfl (pc0 := 51) rfl (hb hbytes d51) (by decide) rfl ?_
          exact Steps.refl _)
        exact ⟨T18, some (.int 1), _, _, _, X18, rfl, rfl, rfl, (fun h => by cases h), ⟨1, rfl, q18.trans hh16, Or.inl ⟨rfl, iff.mp he⟩⟩, fun fs hl => c19.trans (X18.ireturnOut hexec hret rfl (Or.inr (Or.inl rfl)) (hb hbytes d55) hl)⟩
      · have c19 : Steps p.tables e below (s₁.setTop (entryFrame m #[.ref x, .ref y] 3)) (T18.setTop (mkF m 55 #[.val (.ref x), .val (.ref y), .val (.ref y)] [.int 0])) := Steps.trans g18 (by
          refine XS.ifYes X18.here hexec rfl (pc0 := 47) rfl (hb hbytes d47) rfl (i0_eq_t rfl) (by decide) rfl ?_
          refine iconstV X18.here hexec rfl 0 (hb hbytes d54) (by decide) ?_
          exact Steps.refl _)
        exact ⟨T18, some (.int 0), _, _, _, X18, rfl, rfl, rfl, (fun h => by cases h), ⟨0, rfl, q18.trans hh16, Or.inr ⟨rfl, fun q => he (iff.mpr q)⟩⟩, fun fs hl => c19.trans (X18.ireturnOut hexec hret rfl (Or.inr (Or.inl rfl)) (hb hbytes d55) hl)⟩
    · have c13 : Steps p.tables e below (s₁.setTop (entryFrame m #[.ref x, .ref y] 3)) (T11.setTop (mkF m 55 #[.val (.ref x), .val (.ref y), .val (.ref y)] [.int 0])) := c12.trans (by
        refine XS.icmpYes X11.here hexec rfl (pc0 := 33) rfl (hb hbytes d33) rfl (ii_ne_t hcd) (by decide) rfl ?_
        refine iconstV X11.here hexec rfl 0 (hb hbytes d54) (by decide) ?_
        exact Steps.refl _)
      exact ⟨T11, some (.int 0), _, _, _, X11, rfl, rfl, rfl, (fun h => by cases h), ⟨0, rfl, hh11, Or.inr ⟨rfl, Cod.dif hx.2.2.2.2.1 hy.2.2.2.2.1 hcd⟩⟩, fun fs hl => c13.trans (X11.ireturnOut hexec hret rfl (Or.inr (Or.inl rfl)) (hb hbytes d55) hl)⟩
theorem pays {l : Launch} {R : Room} {p : Program} {e : Env} {below : List Frame} {s : State} {sargs : Array Value} {len W : Nat} (x t : Addr) (V : Cell) (cd : Int32) (n : Nat) (f : Nat → Int32) (y t' : Addr) (V' : Cell) (cd' : Int32) (k : Nat) (g : Nat → Int32) (z : Int32) (htab : tab.before sargs s = true) (hfr : 2 ≤ R.frames) (hlo : W + 28 ≤ R.locals) :
    Back l R p e below s sargs yN len W (fun A₁ a₁ => A₁.cells + 0 ≤ R.cells ∧ A₁.slots + 0 ≤ R.slots ∧ P x t V cd n f y t' V' cd' k g z a₁ A₁.U) (fun A₁ _ v₁ B₁ => Says01 (SameT n f k g) v₁ A₁.U B₁.U ∧ B₁.locs = A₁.locs ++ [] ∧ B₁.cells = A₁.cells + 0 ∧ B₁.slots = A₁.slots + 0) :=
  (law l x t V cd n f y t' V' cd' k g z).pays htab hfr (by omega)
end SEq
end StrChars
namespace StrChars.Road
open Jvm Sem ClassFile Op Lib Jvm.Stand Jvm.Free Jvm.Free.XT
open Jvm.Lib.Cold (StaticIs)
/-- the words of String.equals(Object) -/
abbrev wordsEq : List Jvm.Cond := [.code SEq.yN SEq.yB 3 (some .boolean), .initialized ST, .classLink ST 10 ST, .fieldLink ST 38 ST "COMPACT_STRINGS" "Z", .fieldLink ST 15 ST "coder" "B", .fieldLink ST 9 ST "value" "[B", .methodLink ST 541 LEq.yN, .static LEq.yN, .code LEq.yN LEq.yB 3 (some .boolean), .initialized "java/lang/StringLatin1"]
theorem tabEq_of {a : Array Value} {s : State} (h : ∀ w ∈ wordsEq, w.before a s = true) : SEq.tab.before a s = true := by
  have hl : LEq.tab.before a s = true := unparts (wk h (.code LEq.yN LEq.yB 3 (some .boolean))) (wks h (.initialized LEq.yN.cls :: LEq.site))
  have q := consq hl h
  exact unparts (wk q (.code SEq.yN SEq.yB 3 (some .boolean))) (wks q (.initialized SEq.yN.cls :: SEq.site))
theorem movedEq {Z s : State} {a0 args : Array Value} (hZ : Z.Warmed39 s.vm) (hw : ∀ d ∈ wordsEq, d.before a0 Z = true) : ∀ d ∈ wordsEq, d.before args s = true := fun d hd => by
  have t : ∀ d ∈ wordsEq, (d.onTables && d.keepsFace) = true := by decide +kernel
  exact RoadKit.mv hZ (hw d hd) (t d hd)
/-- the road's facts of a String, as the laws ask it -/
theorem txt_of {Z U : State} {a0 : Array Value} {kI : Nat} (wi : (Jvm.Cond.instantiable ST kI).before a0 Z = true) (al : Z.vm.Alike U.vm) {x t : Addr} {kb : ClassId} {cs : List Int32} {cd N2 : Int32} {vs : List Value} (E : RoadKit.Exa Z U.heap x ST) (V : RoadKit.Fld Z U.heap x ST "value" "[B" (.ref t)) (C : RoadKit.Fld Z U.heap x ST "coder" "B" (.int cd)) (K : RoadKit.Arv Z U.heap t kb .byte N2 vs (.int 0)) (hc : CodA cs cd N2 vs) (hb : ∀ c ∈ cs, ¬ c < 0 ∧ ¬ (65535 : Int32) < c) (l2 : cs.length ≤ 4000) :
    ∃ A, Txt x t A cd cs.length (fun j => cs.getD j 0) U := by
  obtain ⟨A, K1, K2, K3, K4, K5, K6⟩ := K
  have hcod := hc.cod (by omega) K3 K5
  obtain ⟨D, fV, fC, hB, F1, F2, g1, g2, -, -⟩ := strObj wi al E V C
  exact ⟨A, ⟨_, hB.2.2.1, D, hB.1, rfl, by cases q : D.vm <;> first | rfl | exact absurd q (hB.2.1.2 _)⟩, Has.of hB F1 g1, Has.of hB F2 g2, ⟨K1.1, State.isArrayOf_alike al K1.2.1, K1.2.2, by rcases hcod with ⟨-, q, -⟩ | ⟨-, q, -⟩ <;> omega⟩, hcod, fun j hj => by
    have e : cs.getD j 0 = cs[j] := by simp [List.getD_eq_getElem?_getD, hj]
    show ¬ cs.getD j 0 < 0 ∧ ¬ 65535 < cs.getD j 0
    rw [e]; exact hb _ (List.getElem_mem _)⟩
theorem same_list (cs ds : List Int32) : SameT cs.length (fun j => cs.getD j 0) ds.length (fun j => ds.getD j 0) ↔ cs = ds := by
  constructor
  · rintro ⟨e, q⟩
    refine List.ext_getElem e fun j h1 h2 => ?_
    have := q j h1
    simpa [List.getD_eq_getElem?_getD, h1, h2] using this
  · rintro rfl
    exact ⟨rfl, fun _ _ => rfl⟩
/-- **equals(Object) OF TWO SUCH STRINGS**: 1 just where the chars are the same -/
theorem eqW {p : Program} {l : Launch} {e : Env} {R : Room} {s : State} {args : Array Value} {below : List Frame} {len W : Nat} {Z : State} {a0 : Array Value} {h : Heap} (hZ : Z.Warmed39 s.vm) (hw : ∀ d ∈ wordsEq, d.before a0 Z = true) {kI : Nat} (wi : (Jvm.Cond.instantiable ST kI).before a0 Z = true)
    {x t : Addr} {kb : ClassId} {cs : List Int32} {cd N2 : Int32} {vs : List Value} (E : RoadKit.Exa Z h x ST) (V : RoadKit.Fld Z h x ST "value" "[B" (.ref t)) (C : RoadKit.Fld Z h x ST "coder" "B" (.int cd)) (K : RoadKit.Arv Z h t kb .byte N2 vs (.int 0)) (hc : CodA cs cd N2 vs) (hb : ∀ c ∈ cs, ¬ c < 0 ∧ ¬ (65535 : Int32) < c) (l2 : cs.length ≤ 4000)
    {y t' : Addr} {kb' : ClassId} {ds : List Int32} {cd' N2' : Int32} {vs' : List Value} (E' : RoadKit.Exa Z h y ST) (V' : RoadKit.Fld Z h y ST "value" "[B" (.ref t')) (C' : RoadKit.Fld Z h y ST "coder" "B" (.int cd')) (K' : RoadKit.Arv Z h t' kb' .byte N2' vs' (.int 0)) (hc' : CodA ds cd' N2' vs') (hb' : ∀ c ∈ ds, ¬ c < 0 ∧ ¬ (65535 : Int32) < c) (l2' : ds.length ≤ 4000)
    {z : Int32} (S : RoadKit.Sta Z h ST "COMPACT_STRINGS" "Z" (.int z)) (hz : ¬ z = 0) (hfr : 2 ≤ R.frames) (hlo : W + 28 ≤ R.locals) :
    Back l R p e below s args (⟨"java/lang/String", "equals", "(Ljava/lang/Object;)Z"⟩ : MethodName) len W (fun P a => a = #[.ref x, .ref y] ∧ P.U.heap = h ∧ P.cells + 0 ≤ R.cells ∧ P.slots + 0 ≤ R.slots)
      (fun P _ v B => ∃ L, (((v = some (.int 1) ∧ cs = ds) ∨ (v = some (.int 0) ∧ ¬ cs = ds)) ∧ L = [] ∧ B.U.heap = h) ∧ B.locs = P.locs ++ L ∧ B.cells = P.cells + 0 ∧ B.slots = P.slots + 0) := by
  intro m meth c P g ig mk a X hg hsize hdg hW hn hp'
  obtain ⟨rfl, rfl, r1, r2⟩ := hp'
  have al : Z.vm.Alike P.U.vm := hZ.alike.trans X.warmed.alike
  obtain ⟨A, hx⟩ := txt_of wi al E V C K hc hb l2
  obtain ⟨A', hy⟩ := txt_of wi al E' V' C' K' hc' hb' l2'
  obtain ⟨v, B, X', ⟨⟨w, hv, hh, hq⟩, hl, hk, hs⟩, st⟩ := SEq.pays x t A cd cs.length (fun j => cs.getD j 0) y t' A' cd' ds.length (fun j => ds.getD j 0) z (tabEq_of (movedEq hZ hw)) hfr hlo m meth c P g ig mk _ X hg hsize hdg hW hn ⟨r1, r2, rfl, hx, hy, sta_is al S, hz⟩
  refine ⟨v, B, X', ⟨[], ⟨?_, rfl, hh⟩, hl, hk, hs⟩, st⟩
  rcases hq with ⟨rfl, q⟩ | ⟨rfl, q⟩
  · exact Or.inl ⟨hv, (same_list cs ds).mp q⟩
  · exact Or.inr ⟨hv, fun e => q ((same_list cs ds).mpr e)⟩
end StrChars.Road
end Jvm.Pilot.@@N@@
namespace Jvm.Pilot.@@N@@
open Jvm Jvm.ClassFile Sem Op Lib Jvm.Free Jvm.Stand Jvm.LawKit Jvm.RoadKit Bundle Jvm.Pilot.@@N@@.Jvm.D
theorem wI {d : Jvm.Cond} (i : Nat) (h : tables_1[i]? = some d) : d ∈ tables_1 := List.mem_of_getElem? h
def own_QR (r : Value) (h0 : Heap) (n0 : Nat) (v : Option Value) (h : Heap) (L : List Loc) : Prop := v = some r ∧ Fr n0 L ∧ h = h0
def own_Q1 (h0 : Heap) (n0 : Nat) (v : Option Value) (h : Heap) (L : List Loc) : Prop := v = some (.int (1 : Int32)) ∧ Fr n0 L
theorem own_keq {h h' : Heap} (e : h' = h) : Keep h h' [] := by rw [e]; exact Keep.refl _ _
theorem own_nm {x a : Addr} {L : List Addr} (h1 : x ≠ a) (h2 : x ∉ L) : x ∉ a :: L := fun q => (List.mem_cons.mp q).elim h1 h2
theorem own_trS {h0 : Heap} {ws L : List Addr} {x : Addr} (h1 : x ∈ ws ∨ h0.size ≤ x) (h2 : ∀ y ∈ L, y ∈ ws ∨ h0.size ≤ y) : ∀ y ∈ x :: L, y ∈ ws ∨ h0.size ≤ y := fun y q => (List.mem_cons.mp q).elim (fun e => e ▸ h1) (h2 y)
theorem own_EW {Z : State} {a0 : Array Value} (hw : ∀ d ∈ tables_1, d.before a0 Z = true) : EW Z a0 consts_1 := EW.cons (hw _ (wI 55 rfl)) (by decide) (EW.cons (hw _ (wI 170 rfl)) (by decide) (EW.cons (hw _ (wI 171 rfl)) (by decide) (EW.cons (hw _ (wI 30 rfl)) (by decide) EW.nil)))
theorem own_wS {Z : State} {a0 : Array Value} (hw : ∀ d ∈ tables_1, d.before a0 Z = true) : ∀ a ∈ Bundle.stringAtoms, a.before a0 Z = true := fun d hd => hw d ((by decide +kernel : ∀ d ∈ Bundle.stringAtoms, d ∈ tables_1) d hd)
/-- a String whose value is still null is no booked one -/
theorem own_safeN {Z : State} {EL : List (String × Nat)} {vm : Vm} {h : Heap} {x : Addr} (hal : Z.vm.Alike vm) (E : Exa Z h x "java/lang/String") (F : Fld Z h x "java/lang/String" "value" "[B" .null) : Safe Z EL vm h x := fun B => by
  obtain ⟨cell, k, e1, e2, e3, -, -⟩ := E
  obtain ⟨cell2, cf, k2, i, f, f1, f2, -, -, -, -, f7⟩ := F
  cases e1.symm.trans f1
  obtain ⟨p, -, u, a, -, q, -, G, rfl | rfl⟩ := B
  · cases (show h[q.sa]? = some q.sC from G.ha).symm.trans e1
    obtain ⟨cS, ⟨⟨-, -, -, ⟨c1, k1, i1, g1, -⟩, -, -, -, v1, -⟩, -⟩, -⟩ := G
    obtain ⟨k3, e4, -⟩ := State.fieldFound?_setVm (s := ({ Z with heap := h } : State)) hal (show ({ Z with heap := h } : State).fieldFound? "java/lang/String" "value" "[B" = some (cf, k2, i, f) from f2)
    have e5 := (show (Wst Z vm h).fieldFound? _ _ _ = _ from e4).symm.trans g1
    simp only [Option.some.injEq, Prod.mk.injEq] at e5
    rw [← e5.2.2.2, f7] at v1
    cases v1
  · cases (show h[q.sd]? = some q.SA from G.hd).symm.trans e1
    obtain ⟨cS, -, -, f, -⟩ := G
    have f' : vm.findClass "[B" = some q.SA.cls := f
    rw [hal.findClass] at f'
    obtain ⟨k4, q1, q2⟩ := Vm.findClass_spec f'
    obtain ⟨k5, q3, q4⟩ := Vm.findClass_spec e2
    cases q1.symm.trans q3
    exact absurd (q2.symm.trans q4) (by decide)
/-- a callee that interns nothing, said in the wide form -/
theorem own_toW {l : Launch} {y : MethodName} {S : Spec} {Z : State} {a0 : Array Value} {EL : List (String × Nat)} {as' : Array Value} {h0 : Heap} {Q : Option Value → Heap → List Loc → Prop} {cs ss : Nat} (hEL : EW Z a0 EL)
    (hM : MetFree l y S (fun a U => a = as' ∧ Z.Warmed39 U.vm ∧ U.heap = h0) (fun _ _ _ _ _ => True) (fun _ U o U' => ∃ v L, o = .returned v ∧ Q v U'.heap L ∧ FrameEnd U o U' L cs ss)) (hK : ∀ v h L, Q v h L → Keep h0 h []) :
    MetFree l y S (fun a U => a = as' ∧ Z.Warmed39 U.vm ∧ U.heap = h0 ∧ CHv Z EL U.vm h0) (fun _ _ _ _ _ => True) (fun _ U o U' => ∃ v L, o = .returned v ∧ Q v U'.heap L ∧ CHr Z EL U.vm U.heap U'.vm U'.heap ∧ ReturnedEndW U o U' L cs ss) := by
  intro p e ha hc hk s m args below hf happ hP hK'
  obtain ⟨hP1, hP2, hP3, H0⟩ := hP
  obtain ⟨n, o, h1, h2, h3, v, L, e1, hQ, hF⟩ := hM p e ha hc hk s m args below hf happ ⟨hP1, hP2, hP3⟩ trivial
  refine ⟨n, o, h1, h2, h3, v, L, e1, hQ, ?_, ReturnedEndW.of_narrow hF.1 hF.2.1 hF.2.2⟩
  have K := hK v _ L hQ
  rw [hP3]
  generalize (stepsAlone p.tables e n s) = U' at *
  have hW : (Wst Z s.vm h0).Warmed39 U'.vm := hF.2.1.wide
  have q := CHv.later (h' := U'.heap) hP2 hW hEL ⟨K.1, fun x c r => K.2.1 x c r (fun z => nomatch z)⟩ (Or.inl hF.2.1.interned_eq) H0
  exact ⟨q.1, K.1, q.2⟩
theorem own_and255 (x : Int32) : ¬ (x &&& 255) < 0 ∧ ¬ (255 : Int32) < (x &&& 255) := by
  have e : (x &&& 255).toInt = x.toInt % 2 ^ 8 := Jvm.Kit.i32_mask x 255 (by decide) (by decide)
  have z : (0 : Int32).toInt = 0 := by decide
  have y : (255 : Int32).toInt = 255 := by decide
  rw [Int32.lt_iff_toInt_lt, Int32.lt_iff_toInt_lt]
  omega
theorem own_nar (x : Int32) : nar .char ((x &&& (255 : Int32)).toUInt32.toUInt16.toUInt32.toInt32) = x &&& 255 := by simp only [nar, i2c_mask]
theorem own_le255 (x : Int32) : ¬ (255 : Int32) < ((x &&& (255 : Int32)).toUInt32.toUInt16.toUInt32.toInt32) := by rw [i2c_mask]; exact (own_and255 x).2

theorem own_notIf {args : Array Value} {s : State} {C : String} {y : MethodName} (w : (Jvm.Cond.selects C y y).before args s = true) : ∃ c k, s.vm.findClass y.cls = some c ∧ s.vm.classes[c]? = some k ∧ k.isInterface = false := by
  obtain ⟨c2, r2, m2, -, -, q3, -, kP, hkP, hkPi⟩ := Cond.selects_spec w
  exact ⟨m2.cls, kP, findClass_of_methodNamed q3, hkP, hkPi⟩
theorem own_nf {s : State} {y : MethodName} (h : ∃ c k, s.vm.findClass y.cls = some c ∧ s.vm.classes[c]? = some k ∧ k.isInterface = false) : NotFace s y := fun r0 h0 => by
  obtain ⟨c, k, h1, h2, h3⟩ := h
  cases (findClass_of_methodNamed h0).symm.trans h1
  exact ⟨k, h2, h3⟩
theorem own_same {args : Array Value} {s : State} {y : MethodName} (hinst : (Jvm.Cond.instanceMethod y).before args s = true) (hy : y.cls ≠ "java/lang/invoke/MethodHandle" ∧ y.cls ≠ "java/lang/invoke/VarHandle") (h : ∃ c k, s.vm.findClass y.cls = some c ∧ s.vm.classes[c]? = some k ∧ k.isInterface = false) : (Jvm.Cond.sameMethod y.cls y.cls y.name y.desc).before args s = true := by
  obtain ⟨mk, methM, hnamed, -⟩ := Cond.instanceMethod_spec hinst
  have hf : s.methodFound? y.cls y.name y.desc = some mk := State.methodFound?_of_named hnamed hy
  have hn : s.methodNamed? ⟨y.cls, y.name, y.desc⟩ = some mk := hnamed
  obtain ⟨c, k, hc, hk, hi⟩ := h
  simp [Cond.before, Cond.holds, Cond.value, hc, hf, hn, hk, hi]
theorem own_selP {args : Array Value} {s : State} {C : String} {y : MethodName} (w : (Jvm.Cond.selects C y y).before args s = true) (hpriv : s.PrivateAt y) (hinst : (Jvm.Cond.instanceMethod y).before args s = true) (hy : y.cls ≠ "java/lang/invoke/MethodHandle" ∧ y.cls ≠ "java/lang/invoke/VarHandle") : (Jvm.Cond.selects y.cls y y).before args s = true := by
  obtain ⟨c, k, hc, hk, hi⟩ := own_notIf w
  exact selects_self_of_private hc hk hi hpriv hinst hy

def own_Q0 (h0 : Heap) (n0 : Nat) (v : Option Value) (h : Heap) (L : List Loc) : Prop := v = none ∧ Fr n0 L ∧ h = h0
theorem own_shr0 (z : Int32) : z >>> ((0 : Int32) &&& 31) = z := by
  apply Int32.toInt_inj.mp
  rw [Jvm.Kit.i32_shr z ((0 : Int32) &&& 31) (k := 0) (by decide)]
  simp
theorem own_shl0 (z : Int32) : z <<< ((0 : Int32) &&& 31) = z := by
  have a := z.toInt_lt; have b := z.le_toInt
  apply Int32.toInt_inj.mp
  rw [Jvm.Kit.i32_shl z ((0 : Int32) &&& 31) (k := 0) (by decide) (by simp; omega) (by simp; omega)]
  simp
/-- the list with these values laid over it from place i on -/
def own_upd (vd : List Value) (i : Nat) (us : List Value) : List Value := vd.take i ++ us ++ vd.drop (i + us.length)
theorem own_range (vs : List Value) (d : Value) (k : Nat) (h : k = vs.length) : vs = (List.range k).map fun i => vs.getD i d := by
  subst h
  apply List.ext_getElem
  · simp
  · intro i h1 h2
    simp [List.getD_eq_getElem?_getD, List.getElem?_eq_getElem h1]
theorem own_upd_len (vd : List Value) (i : Nat) (us : List Value) (h : i + us.length ≤ vd.length) : (own_upd vd i us).length = vd.length := by
  simp [own_upd]; omega
theorem d13_0 : decode jdk_42_method_152_code 0 = .ok (.getstatic 38, 3) := by decide +kernel
theorem d13_3 : decode jdk_42_method_152_code 3 = .ok (.ifCond .eq 10, 3) := by decide +kernel
theorem d13_6 : decode jdk_42_method_152_code 6 = .ok (.aload_n 0, 1) := by decide +kernel
theorem d13_7 : decode jdk_42_method_152_code 7 = .ok (.getfield 15, 3) := by decide +kernel
theorem d13_10 : decode jdk_42_method_152_code 10 = .ok (.goto 4, 3) := by decide +kernel
theorem d13_14 : decode jdk_42_method_152_code 14 = .ok (.ireturn, 1) := by decide +kernel
theorem pn_13 : plainName "java/lang/String" = true := by first | (simp [plainName, overriddenIn]; done) | decide +kernel
theorem ef_13 (m : MethodId) (x0 : Addr) : entryFrame m #[(.ref x0)] 1 = mkF m 0 #[.val (.ref x0)] [] := by first | (simp [entryFrame, mkF, argsToLocals, Value.category]; done) | rfl
set_option maxRecDepth 65536 in
set_option maxHeartbeats 40000000 in
theorem rm13 (l : Launch) (Z : State) (a0 : Array Value) (hw : ∀ d ∈ tables_1, d.before a0 Z = true) (ws : List Jvm.Cond) (a1 : Addr) (G1 : Int32) (h0 : Heap) (n0 : Nat) (Z0 : n0 ≤ h0.size) (S_COMPACT_STRINGS : Sta Z Z.heap "java/lang/String" "COMPACT_STRINGS" "Z" (.int G1)) (X00 : Old Z n0 h0) (P3 : ¬ (G1 = (0 : Int32))) (E_a1 : Exa Z h0 a1 "java/lang/String") (F_coder_a1 : Fld Z h0 a1 "java/lang/String" "coder" "B" (.int (0 : Int32))) :
    MetFree l (⟨"java/lang/String", "coder", "()B"⟩ : MethodName) (head1 (Jvm.Cond.code (⟨"java/lang/String", "coder", "()B"⟩ : MethodName) jdk_42_method_152_code 1 (some .byte) :: ws) ({ frames := 0, cells := 0, slots := 0, locals := 0 } : Room)) (fun a U => a = #[(.ref a1)] ∧ Z.Warmed39 U.vm ∧ U.heap = h0) (fun _ _ _ _ _ => True) (fun _ U o U' => ∃ v L, o = .returned v ∧ own_QR (.int (0 : Int32)) h0 n0 v U'.heap L ∧ FrameEnd U o U' L ({ frames := 0, cells := 0, slots := 0, locals := 0 } : Room).cells ({ frames := 0, cells := 0, slots := 0, locals := 0 } : Room).slots) := by
  refine MetFree.of_bodySF (plainFor_of_name pn_13) hisR ?_
  intro p e s m args below meth c s₁ Bd hml0 hP hK
  obtain ⟨rfl, hZ, hh⟩ := hP
  have hx := Bd.exec
  have hby := Bd.bytes
  have hml : c.maxLocals = 1 := hml0
  have hown : s.vm.findClass "java/lang/String" = some m.cls := findClass_of_methodNamed Bd.named
  have hnm := (name_of_methodNamed Bd.named Bd.method).1
  have X0 : Stand p l e ({ frames := 0, cells := 0, slots := 0, locals := 0 } : Room) s m #[(.ref a1)] below meth c s₁ [] 0 0 := Stand.of_body Bd
  have e0 : s₁.heap = h0 := by rw [← hh, Bd.state]; rfl
  have N0 := Fr.nil n0
  have pre0 : ∀ t, Steps p.tables e below (s₁.setTop (mkF m 0 #[.val (.ref a1)] [])) t → Steps p.tables e below (s₁.setTop (entryFrame m #[(.ref a1)] 1)) t := fun t k => castTop (ef_13 m a1) k
  obtain ⟨T2, X2, e2, st2⟩ := getS2 X0 hx hZ hown (host := "") (Or.inl (hw _ (wI 14 rfl))) Via.refl e0 (S_COMPACT_STRINGS.ext X00.2) (g := (mkF m 0 #[.val (.ref a1)] [])) rfl (hb hby d13_0)
  obtain ⟨T3, X3, e3, st3⟩ := getF X2 hx hZ hown (host := "") (Or.inl (hw _ (wI 26 rfl))) Via.refl e2 F_coder_a1 (g := (mkF m 7 #[.val (.ref a1)] [(.ref a1)])) rfl rfl (hb hby d13_7)
  obtain ⟨fs, hr, hrun, hended, hW, hsame⟩ := X3.leave (v := some (.int (0 : Int32))) (fun h => by rw [Bd.returns] at h; cases h)
  refine ⟨_, _, pre0 _ ?_, hrun, hended, _, _, rfl, ?_, ⟨_, rfl⟩, hW, hsame.mono (by decide) (by decide)⟩
  · show Steps p.tables e below (s₁.setTop (mkF m 0 #[.val (.ref a1)] [])) _
    refine st2 _ ?_
    show Steps p.tables e below (T2.setTop (mkF m 3 #[.val (.ref a1)] [(.int G1)])) _
    refine XS.ifNo X2.here hx rfl (hb hby d13_3) rfl ((if0 _ _).trans (feq P3).1) ?_
    show Steps p.tables e below (T2.setTop (mkF m 6 #[.val (.ref a1)] [])) _
    refine XS.aloadN X2.here hx rfl (hb hby d13_6) rfl rfl ?_
    show Steps p.tables e below (T2.setTop (mkF m 7 #[.val (.ref a1)] [(.ref a1)])) _
    refine st3 _ ?_
    show Steps p.tables e below (T3.setTop (mkF m 10 #[.val (.ref a1)] [(.int (0 : Int32))])) _
    refine XS.goto X3.here hx rfl (pc0 := 10) (pc' := 14) rfl (hb hby d13_10) (by decide) (by decide) ?_
    show Steps p.tables e below (T3.setTop (mkF m 14 #[.val (.ref a1)] [(.int (0 : Int32))])) _
    exact retN X3 hx (t := .byte) Bd.returns (by simp) (hb hby d13_14) hr
  · show own_QR (.int (0 : Int32)) h0 n0 _ T3.heap _
    rw [e3]
    exact ⟨rfl, N0, rfl⟩
theorem d12_0 : decode jdk_42_method_54_code 0 = .ok (.aload_n 0, 1) := by decide +kernel
theorem d12_1 : decode jdk_42_method_54_code 1 = .ok (.getfield 9, 3) := by decide +kernel
theorem d12_4 : decode jdk_42_method_54_code 4 = .ok (.arraylength, 1) := by decide +kernel
theorem d12_5 : decode jdk_42_method_54_code 5 = .ok (.aload_n 0, 1) := by decide +kernel
theorem d12_6 : decode jdk_42_method_54_code 6 = .ok (.invokevirtual 335, 3) := by decide +kernel
theorem d12_9 : decode jdk_42_method_54_code 9 = .ok (.ishr, 1) := by decide +kernel
theorem d12_10 : decode jdk_42_method_54_code 10 = .ok (.ireturn, 1) := by decide +kernel
theorem pn_12 : plainName "java/lang/String" = true := by first | (simp [plainName, overriddenIn]; done) | decide +kernel
theorem pd_12_11 : parseMethodDescriptor "()B" = some ⟨[], some .byte⟩ := by decide +kernel
theorem ef_12 (m : MethodId) (x0 : Addr) : entryFrame m #[(.ref x0)] 1 = mkF m 0 #[.val (.ref x0)] [] := by first | (simp [entryFrame, mkF, argsToLocals, Value.category]; done) | rfl
set_option maxRecDepth 65536 in
set_option maxHeartbeats 40000000 in
theorem rm12 (l : Launch) (Z : State) (a0 : Array Value) (hw : ∀ d ∈ tables_1, d.before a0 Z = true) (ws : List Jvm.Cond) (a1 : Addr) (G1 : Int32) (sv : Addr) (k_sv : ClassId) (z_sv : Int32) (vs_sv : List Value) (dv_sv : Value) (h0 : Heap) (n0 : Nat) (Z0 : n0 ≤ h0.size) (S_COMPACT_STRINGS : Sta Z Z.heap "java/lang/String" "COMPACT_STRINGS" "Z" (.int G1)) (X00 : Old Z n0 h0) (P3 : ¬ (G1 = (0 : Int32))) (E_a1 : Exa Z h0 a1 "java/lang/String") (F_value_a1 : Fld Z h0 a1 "java/lang/String" "value" "[B" (.ref sv)) (F_coder_a1 : Fld Z h0 a1 "java/lang/String" "coder" "B" (.int (0 : Int32))) (V_sv : Arv Z h0 sv k_sv .byte z_sv vs_sv dv_sv) :
    MetFree l (⟨"java/lang/String", "length", "()I"⟩ : MethodName) (head1 (Jvm.Cond.code (⟨"java/lang/String", "length", "()I"⟩ : MethodName) jdk_42_method_54_code 1 (some .int) :: ws) ({ frames := 1, cells := 0, slots := 0, locals := 13 } : Room)) (fun a U => a = #[(.ref a1)] ∧ Z.Warmed39 U.vm ∧ U.heap = h0) (fun _ _ _ _ _ => True) (fun _ U o U' => ∃ v L, o = .returned v ∧ own_QR (.int z_sv) h0 n0 v U'.heap L ∧ FrameEnd U o U' L ({ frames := 1, cells := 0, slots := 0, locals := 13 } : Room).cells ({ frames := 1, cells := 0, slots := 0, locals := 13 } : Room).slots) := by
  refine MetFree.of_bodySF (plainFor_of_name pn_12) hisR ?_
  intro p e s m args below meth c s₁ Bd hml0 hP hK
  obtain ⟨rfl, hZ, hh⟩ := hP
  have hx := Bd.exec
  have hby := Bd.bytes
  have hml : c.maxLocals = 1 := hml0
  have hown : s.vm.findClass "java/lang/String" = some m.cls := findClass_of_methodNamed Bd.named
  have hnm := (name_of_methodNamed Bd.named Bd.method).1
  have X0 : Stand p l e ({ frames := 1, cells := 0, slots := 0, locals := 13 } : Room) s m #[(.ref a1)] below meth c s₁ [] 0 0 := Stand.of_body Bd
  have e0 : s₁.heap = h0 := by rw [← hh, Bd.state]; rfl
  have N0 := Fr.nil n0
  have pre0 : ∀ t, Steps p.tables e below (s₁.setTop (mkF m 0 #[.val (.ref a1)] [])) t → Steps p.tables e below (s₁.setTop (entryFrame m #[(.ref a1)] 1)) t := fun t k => castTop (ef_12 m a1) k
  obtain ⟨T2, X2, e2, st2⟩ := getF X0 hx hZ hown (host := "") (Or.inl (hw _ (wI 28 rfl))) Via.refl e0 F_value_a1 (g := (mkF m 1 #[.val (.ref a1)] [(.ref a1)])) rfl rfl (hb hby d12_1)
  obtain ⟨cl_sv_4, Ar_sv, -, S_sv, N_sv, -, -⟩ := V_sv
  obtain ⟨cq3, kq3, q3a, q3b, q3c⟩ := isOf hZ e2 E_a1
  obtain ⟨_, _, ⟨T3, L3, k3, n3⟩, -, X3, ⟨Lc3, hQ3, l3, y3, z3⟩, st3⟩ := X2.virtualBack hx (y := (⟨"java/lang/String", "coder", "()B"⟩ : MethodName)) (z := (⟨"java/lang/String", "coder", "()B"⟩ : MethodName)) hown (mvT hZ (hw _ (wI 71 rfl))) (mvT hZ (hw _ (wI 72 rfl))) (notFace_of_selects (args := #[]) (mvT hZ (hw _ (wI 74 rfl)))) (mvT hZ (hw _ (wI 74 rfl))) (mvT hZ (hw _ (wI 73 rfl))) (by decide) (backOf (W := 1) (rm13 l Z a0 hw [] a1 G1 h0 n0 Z0 S_COMPACT_STRINGS X00 P3 E_a1 F_coder_a1) hZ (hw _ (wI 75 rfl)) (hw _ (wI 2 rfl)) (by decide) (by decide)) q3a q3c (g := (mkF m 6 #[.val (.ref a1)] [(.ref a1), (.int z_sv)])) rfl (by rw [hml]; rfl) (Steps.refl _) (argsL := []) (rest := [(.int z_sv)]) (lenOf pd_12_11 rfl) rfl (by show 2 * 0 + _ ≤ _; exact Nat.le_of_eq rfl) (hb hby d12_6) (fun _ _ => ⟨rfl, e2, (by decide : 0 + 0 ≤ _), (by decide : 0 + 0 ≤ _)⟩)
  dsimp only [Pt.U, Pt.locs, Pt.cells, Pt.slots] at X3 l3 y3 z3 st3 hQ3
  subst l3 y3 z3
  obtain ⟨rfl, N3q, eqL⟩ := hQ3
  have N3 := Fr.app N0 N3q
  have Kq3 : Keep h0 T3.heap [] := (own_keq eqL)
  have K3 : Keep h0 T3.heap [] := (Keep.refl h0 []).trans Kq3 all0
  obtain ⟨fs, hr, hrun, hended, hW, hsame⟩ := X3.leave (v := some (.int (z_sv >>> ((0 : Int32) &&& 31)))) (fun h => by rw [Bd.returns] at h; cases h)
  refine ⟨_, _, pre0 _ ?_, hrun, hended, _, _, rfl, ?_, ⟨_, rfl⟩, hW, hsame.mono (by decide) (by decide)⟩
  · show Steps p.tables e below (s₁.setTop (mkF m 0 #[.val (.ref a1)] [])) _
    refine XS.aloadN X0.here hx rfl (hb hby d12_0) rfl rfl ?_
    show Steps p.tables e below (s₁.setTop (mkF m 1 #[.val (.ref a1)] [(.ref a1)])) _
    refine st2 _ ?_
    show Steps p.tables e below (T2.setTop (mkF m 4 #[.val (.ref a1)] [(.ref sv)])) _
    refine X2.arraylength hx (by rw [e2]; exact Ar_sv.1) (State.isArrayOf_alike hZ.alike Ar_sv.2.1) (g := (mkF m 4 #[.val (.ref a1)] [(.ref sv)])) rfl rfl (hb hby d12_4) _ ?_
    rw [len_of S_sv N_sv]
    show Steps p.tables e below (T2.setTop (mkF m 5 #[.val (.ref a1)] [(.int z_sv)])) _
    refine XS.aloadN X2.here hx rfl (hb hby d12_5) rfl rfl ?_
    show Steps p.tables e below (T2.setTop (mkF m 6 #[.val (.ref a1)] [(.ref a1), (.int z_sv)])) _
    refine st3.trans ?_
    show Steps p.tables e below (T3.setTop (mkF m 9 #[.val (.ref a1)] [(.int (0 : Int32)), (.int z_sv)])) _
    refine XS.ishr X3.here hx rfl (hb hby d12_9) rfl ?_
    show Steps p.tables e below (T3.setTop (mkF m 10 #[.val (.ref a1)] [(.int (z_sv >>> ((0 : Int32) &&& 31)))])) _
    exact retI X3 hx Bd.returns (hb hby d12_10) hr      -- retI stands in the head ('lawwalk <made dir>' prints it)
  · show own_QR (.int z_sv) h0 n0 _ T3.heap _
    exact ⟨congrArg (fun z => some (Value.int z)) (own_shr0 _), N3, eqL⟩
theorem d14_0 : decode jdk_68_method_9_code 0 = .ok (.aload_n 0, 1) := by decide +kernel
theorem d14_1 : decode jdk_68_method_9_code 1 = .ok (.getfield 15, 3) := by decide +kernel
theorem d14_4 : decode jdk_68_method_9_code 4 = .ok (.arraylength, 1) := by decide +kernel
theorem d14_5 : decode jdk_68_method_9_code 5 = .ok (.aload_n 0, 1) := by decide +kernel
theorem d14_6 : decode jdk_68_method_9_code 6 = .ok (.getfield 22, 3) := by decide +kernel
theorem d14_9 : decode jdk_68_method_9_code 9 = .ok (.ishr, 1) := by decide +kernel
theorem d14_10 : decode jdk_68_method_9_code 10 = .ok (.istore_n 2, 1) := by decide +kernel
theorem d14_11 : decode jdk_68_method_9_code 11 = .ok (.iload_n 1, 1) := by decide +kernel
theorem d14_12 : decode jdk_68_method_9_code 12 = .ok (.iload_n 2, 1) := by decide +kernel
theorem d14_13 : decode jdk_68_method_9_code 13 = .ok (.isub, 1) := by decide +kernel
theorem d14_14 : decode jdk_68_method_9_code 14 = .ok (.ifCond .le 24, 3) := by decide +kernel
theorem d14_38 : decode jdk_68_method_9_code 38 = .ok (.return_, 1) := by decide +kernel
theorem pn_14 : plainName "java/lang/AbstractStringBuilder" = true := by first | (simp [plainName, overriddenIn]; done) | decide +kernel
theorem ef_14 (m : MethodId) (x0 : Addr) (x1 : Int32) : entryFrame m #[(.ref x0), (.int x1)] 3 = mkF m 0 #[.val (.ref x0), .val (.int x1), .unset] [] := by first | (simp [entryFrame, mkF, argsToLocals, Value.category]; done) | rfl
set_option maxRecDepth 65536 in
set_option maxHeartbeats 40000000 in
theorem rm14 (l : Launch) (Z : State) (a0 : Array Value) (hw : ∀ d ∈ tables_1, d.before a0 Z = true) (ws : List Jvm.Cond) (a1 : Addr) (p2 : Int32) (bv : Addr) (k_bv : ClassId) (z_bv : Int32) (vs_bv : List Value) (dv_bv : Value) (h0 : Heap) (n0 : Nat) (Z0 : n0 ≤ h0.size) (E_a1 : Exa Z h0 a1 "java/lang/StringBuilder") (F_value_a1 : Fld Z h0 a1 "java/lang/AbstractStringBuilder" "value" "[B" (.ref bv)) (F_coder_a1 : Fld Z h0 a1 "java/lang/AbstractStringBuilder" "coder" "B" (.int (0 : Int32))) (V_bv : Arv Z h0 bv k_bv .byte z_bv vs_bv dv_bv) (hc14 : ¬ ((0 : Int32) < (p2 - (z_bv >>> ((0 : Int32) &&& 31))))) :
    MetFree l (⟨"java/lang/AbstractStringBuilder", "ensureCapacityInternal", "(I)V"⟩ : MethodName) (head1 (Jvm.Cond.code (⟨"java/lang/AbstractStringBuilder", "ensureCapacityInternal", "(I)V"⟩ : MethodName) jdk_68_method_9_code 3 none :: ws) ({ frames := 0, cells := 0, slots := 0, locals := 0 } : Room)) (fun a U => a = #[(.ref a1), (.int p2)] ∧ Z.Warmed39 U.vm ∧ U.heap = h0) (fun _ _ _ _ _ => True) (fun _ U o U' => ∃ v L, o = .returned v ∧ own_Q0 h0 n0 v U'.heap L ∧ FrameEnd U o U' L ({ frames := 0, cells := 0, slots := 0, locals := 0 } : Room).cells ({ frames := 0, cells := 0, slots := 0, locals := 0 } : Room).slots) := by
  refine MetFree.of_bodySF (plainFor_of_name pn_14) hisR ?_
  intro p e s m args below meth c s₁ Bd hml0 hP hK
  obtain ⟨rfl, hZ, hh⟩ := hP
  have hx := Bd.exec
  have hby := Bd.bytes
  have hml : c.maxLocals = 3 := hml0
  have hown : s.vm.findClass "java/lang/AbstractStringBuilder" = some m.cls := findClass_of_methodNamed Bd.named
  have hnm := (name_of_methodNamed Bd.named Bd.method).1
  have X0 : Stand p l e ({ frames := 0, cells := 0, slots := 0, locals := 0 } : Room) s m #[(.ref a1), (.int p2)] below meth c s₁ [] 0 0 := Stand.of_body Bd
  have e0 : s₁.heap = h0 := by rw [← hh, Bd.state]; rfl
  have N0 := Fr.nil n0
  have pre0 : ∀ t, Steps p.tables e below (s₁.setTop (mkF m 0 #[.val (.ref a1), .val (.int p2), .unset] [])) t → Steps p.tables e below (s₁.setTop (entryFrame m #[(.ref a1), (.int p2)] 3)) t := fun t k => castTop (ef_14 m a1 p2) k
  obtain ⟨T3, X3, e3, st3⟩ := getF X0 hx hZ hown (host := "") (Or.inl (hw _ (wI 51 rfl))) Via.refl e0 F_value_a1 (g := (mkF m 1 #[.val (.ref a1), .val (.int p2), .unset] [(.ref a1)])) rfl rfl (hb hby d14_1)
  obtain ⟨cl_bv_4, Ar_bv, -, S_bv, N_bv, -, -⟩ := V_bv
  obtain ⟨T4, X4, e4, st4⟩ := getF X3 hx hZ hown (host := "") (Or.inl (hw _ (wI 53 rfl))) Via.refl e3 F_coder_a1 (g := (mkF m 6 #[.val (.ref a1), .val (.int p2), .unset] [(.ref a1), (.int z_bv)])) rfl rfl (hb hby d14_6)
  obtain ⟨fs, hr, hrun, hended, hW, hsame⟩ := X4.leave (v := none) (fun _ => rfl)
  refine ⟨_, _, pre0 _ ?_, hrun, hended, _, _, rfl, ?_, ⟨_, rfl⟩, hW, hsame.mono (by decide) (by decide)⟩
  · show Steps p.tables e below (s₁.setTop (mkF m 0 #[.val (.ref a1), .val (.int p2), .unset] [])) _
    refine XS.aloadN X0.here hx rfl (hb hby d14_0) rfl rfl ?_
    show Steps p.tables e below (s₁.setTop (mkF m 1 #[.val (.ref a1), .val (.int p2), .unset] [(.ref a1)])) _
    refine st3 _ ?_
    show Steps p.tables e below (T3.setTop (mkF m 4 #[.val (.ref a1), .val (.int p2), .unset] [(.ref bv)])) _
    refine X3.arraylength hx (by rw [e3]; exact Ar_bv.1) (State.isArrayOf_alike hZ.alike Ar_bv.2.1) (g := (mkF m 4 #[.val (.ref a1), .val (.int p2), .unset] [(.ref bv)])) rfl rfl (hb hby d14_4) _ ?_
    rw [len_of S_bv N_bv]
    show Steps p.tables e below (T3.setTop (mkF m 5 #[.val (.ref a1), .val (.int p2), .unset] [(.int z_bv)])) _
    refine XS.aloadN X3.here hx rfl (hb hby d14_5) rfl rfl ?_
    show Steps p.tables e below (T3.setTop (mkF m 6 #[.val (.ref a1), .val (.int p2), .unset] [(.ref a1), (.int z_bv)])) _
    refine st4 _ ?_
    show Steps p.tables e below (T4.setTop (mkF m 9 #[.val (.ref a1), .val (.int p2), .unset] [(.int (0 : Int32)), (.int z_bv)])) _
    refine XS.ishr X4.here hx rfl (hb hby d14_9) rfl ?_
    show Steps p.tables e below (T4.setTop (mkF m 10 #[.val (.ref a1), .val (.int p2), .unset] [(.int (z_bv >>> ((0 : Int32) &&& 31)))])) _
    refine XS.istoreN X4.here hx rfl (hb hby d14_10) rfl (l' := #[.val (.ref a1), .val (.int p2), .val (.int (z_bv >>> ((0 : Int32) &&& 31)))]) rfl ?_
    show Steps p.tables e below (T4.setTop (mkF m 11 #[.val (.ref a1), .val (.int p2), .val (.int (z_bv >>> ((0 : Int32) &&& 31)))] [])) _
    refine XS.iloadN X4.here hx rfl (hb hby d14_11) rfl ?_
    show Steps p.tables e below (T4.setTop (mkF m 12 #[.val (.ref a1), .val (.int p2), .val (.int (z_bv >>> ((0 : Int32) &&& 31)))] [(.int p2)])) _
    refine XS.iloadN X4.here hx rfl (hb hby d14_12) rfl ?_
    show Steps p.tables e below (T4.setTop (mkF m 13 #[.val (.ref a1), .val (.int p2), .val (.int (z_bv >>> ((0 : Int32) &&& 31)))] [(.int (z_bv >>> ((0 : Int32) &&& 31))), (.int p2)])) _
    refine XS.isub X4.here hx rfl (hb hby d14_13) rfl ?_
    show Steps p.tables e below (T4.setTop (mkF m 14 #[.val (.ref a1), .val (.int p2), .val (.int (z_bv >>> ((0 : Int32) &&& 31)))] [(.int (p2 - (z_bv >>> ((0 : Int32) &&& 31))))])) _
    refine XS.ifYes X4.here hx rfl (pc0 := 14) (pc' := 38) rfl (hb hby d14_14) rfl ((if0 _ _).trans (flt hc14).2.2.2) (by decide) (by decide) ?_
    show Steps p.tables e below (T4.setTop (mkF m 38 #[.val (.ref a1), .val (.int p2), .val (.int (z_bv >>> ((0 : Int32) &&& 31)))] [])) _
    exact X4.returnOut hx Bd.returns (hb hby d14_38) hr
  · show own_Q0 h0 n0 _ T4.heap _
    rw [e4]
    exact ⟨rfl, N0, rfl⟩
theorem d21_0 : decode jdk_68_method_71_code 0 = .ok (.getstatic 18, 3) := by decide +kernel
theorem d21_3 : decode jdk_68_method_71_code 3 = .ok (.ifCond .eq 18, 3) := by decide +kernel
theorem d21_6 : decode jdk_68_method_71_code 6 = .ok (.aload_n 0, 1) := by decide +kernel
theorem d21_7 : decode jdk_68_method_71_code 7 = .ok (.getfield 22, 3) := by decide +kernel
theorem d21_10 : decode jdk_68_method_71_code 10 = .ok (.aload_n 1, 1) := by decide +kernel
theorem d21_11 : decode jdk_68_method_71_code 11 = .ok (.invokevirtual 40, 3) := by decide +kernel
theorem d21_14 : decode jdk_68_method_71_code 14 = .ok (.if_icmp .eq 7, 3) := by decide +kernel
theorem d21_21 : decode jdk_68_method_71_code 21 = .ok (.return_, 1) := by decide +kernel
theorem pn_21 : plainName "java/lang/AbstractStringBuilder" = true := by first | (simp [plainName, overriddenIn]; done) | decide +kernel
theorem pd_21_11 : parseMethodDescriptor "()B" = some ⟨[], some .byte⟩ := by decide +kernel
theorem ef_21 (m : MethodId) (x0 : Addr) (x1 : Addr) : entryFrame m #[(.ref x0), (.ref x1)] 2 = mkF m 0 #[.val (.ref x0), .val (.ref x1)] [] := by first | (simp [entryFrame, mkF, argsToLocals, Value.category]; done) | rfl
set_option maxRecDepth 65536 in
set_option maxHeartbeats 40000000 in
theorem rm21 (l : Launch) (Z : State) (a0 : Array Value) (hw : ∀ d ∈ tables_1, d.before a0 Z = true) (ws : List Jvm.Cond) (a1 : Addr) (a2 : Addr) (G1 : Int32) (h0 : Heap) (n0 : Nat) (Z0 : n0 ≤ h0.size) (S_COMPACT_STRINGS : Sta Z Z.heap "java/lang/String" "COMPACT_STRINGS" "Z" (.int G1)) (X00 : Old Z n0 h0) (P3 : ¬ (G1 = (0 : Int32))) (E_a1 : Exa Z h0 a1 "java/lang/StringBuilder") (F_coder_a1 : Fld Z h0 a1 "java/lang/AbstractStringBuilder" "coder" "B" (.int (0 : Int32))) (E_a2 : Exa Z h0 a2 "java/lang/String") (F_coder_a2 : Fld Z h0 a2 "java/lang/String" "coder" "B" (.int (0 : Int32))) :
    MetFree l (⟨"java/lang/AbstractStringBuilder", "inflateIfNeededFor", "(Ljava/lang/String;)V"⟩ : MethodName) (head1 (Jvm.Cond.code (⟨"java/lang/AbstractStringBuilder", "inflateIfNeededFor", "(Ljava/lang/String;)V"⟩ : MethodName) jdk_68_method_71_code 2 none :: ws) ({ frames := 1, cells := 0, slots := 0, locals := 13 } : Room)) (fun a U => a = #[(.ref a1), (.ref a2)] ∧ Z.Warmed39 U.vm ∧ U.heap = h0) (fun _ _ _ _ _ => True) (fun _ U o U' => ∃ v L, o = .returned v ∧ own_Q0 h0 n0 v U'.heap L ∧ FrameEnd U o U' L ({ frames := 1, cells := 0, slots := 0, locals := 13 } : Room).cells ({ frames := 1, cells := 0, slots := 0, locals := 13 } : Room).slots) := by
  refine MetFree.of_bodySF (plainFor_of_name pn_21) hisR ?_
  intro p e s m args below meth c s₁ Bd hml0 hP hK
  obtain ⟨rfl, hZ, hh⟩ := hP
  have hx := Bd.exec
  have hby := Bd.bytes
  have hml : c.maxLocals = 2 := hml0
  have hown : s.vm.findClass "java/lang/AbstractStringBuilder" = some m.cls := findClass_of_methodNamed Bd.named
  have hnm := (name_of_methodNamed Bd.named Bd.method).1
  have X0 : Stand p l e ({ frames := 1, cells := 0, slots := 0, locals := 13 } : Room) s m #[(.ref a1), (.ref a2)] below meth c s₁ [] 0 0 := Stand.of_body Bd
  have e0 : s₁.heap = h0 := by rw [← hh, Bd.state]; rfl
  have N0 := Fr.nil n0
  have pre0 : ∀ t, Steps p.tables e below (s₁.setTop (mkF m 0 #[.val (.ref a1), .val (.ref a2)] [])) t → Steps p.tables e below (s₁.setTop (entryFrame m #[(.ref a1), (.ref a2)] 2)) t := fun t k => castTop (ef_21 m a1 a2) k
  obtain ⟨T3, X3, e3, st3⟩ := getS2 X0 hx hZ hown (host := "") (Or.inl (hw _ (wI 50 rfl))) Via.refl e0 (S_COMPACT_STRINGS.ext X00.2) (g := (mkF m 0 #[.val (.ref a1), .val (.ref a2)] [])) rfl (hb hby d21_0)
  obtain ⟨T4, X4, e4, st4⟩ := getF X3 hx hZ hown (host := "") (Or.inl (hw _ (wI 53 rfl))) Via.refl e3 F_coder_a1 (g := (mkF m 7 #[.val (.ref a1), .val (.ref a2)] [(.ref a1)])) rfl rfl (hb hby d21_7)
  obtain ⟨cq5, kq5, q5a, q5b, q5c⟩ := isOf hZ e4 E_a2
  obtain ⟨_, _, ⟨T5, L5, k5, n5⟩, -, X5, ⟨Lc5, hQ5, l5, y5, z5⟩, st5⟩ := X4.virtualBack hx (y := (⟨"java/lang/String", "coder", "()B"⟩ : MethodName)) (z := (⟨"java/lang/String", "coder", "()B"⟩ : MethodName)) hown (mvT hZ (hw _ (wI 119 rfl))) (mvT hZ (hw _ (wI 72 rfl))) (notFace_of_selects (args := #[]) (mvT hZ (hw _ (wI 74 rfl)))) (mvT hZ (hw _ (wI 74 rfl))) (mvT hZ (hw _ (wI 73 rfl))) (by decide) (backOf (W := 1) (rm13 l Z a0 hw [] a2 G1 h0 n0 Z0 S_COMPACT_STRINGS X00 P3 E_a2 F_coder_a2) hZ (hw _ (wI 75 rfl)) (hw _ (wI 2 rfl)) (by decide) (by decide)) q5a q5c (g := (mkF m 11 #[.val (.ref a1), .val (.ref a2)] [(.ref a2), (.int (0 : Int32))])) rfl (by rw [hml]; rfl) (Steps.refl _) (argsL := []) (rest := [(.int (0 : Int32))]) (lenOf pd_21_11 rfl) rfl (by show 2 * 0 + _ ≤ _; exact Nat.le_of_eq rfl) (hb hby d21_11) (fun _ _ => ⟨rfl, e4, (by decide : 0 + 0 ≤ _), (by decide : 0 + 0 ≤ _)⟩)
  dsimp only [Pt.U, Pt.locs, Pt.cells, Pt.slots] at X5 l5 y5 z5 st5 hQ5
  subst l5 y5 z5
  obtain ⟨rfl, N5q, eqL⟩ := hQ5
  have N5 := Fr.app N0 N5q
  have Kq5 : Keep h0 T5.heap [] := (own_keq eqL)
  have K5 : Keep h0 T5.heap [] := (Keep.refl h0 []).trans Kq5 all0
  obtain ⟨fs, hr, hrun, hended, hW, hsame⟩ := X5.leave (v := none) (fun _ => rfl)
  refine ⟨_, _, pre0 _ ?_, hrun, hended, _, _, rfl, ?_, ⟨_, rfl⟩, hW, hsame.mono (by decide) (by decide)⟩
  · show Steps p.tables e below (s₁.setTop (mkF m 0 #[.val (.ref a1), .val (.ref a2)] [])) _
    refine st3 _ ?_
    show Steps p.tables e below (T3.setTop (mkF m 3 #[.val (.ref a1), .val (.ref a2)] [(.int G1)])) _
    refine XS.ifNo X3.here hx rfl (hb hby d21_3) rfl ((if0 _ _).trans (feq P3).1) ?_
    show Steps p.tables e below (T3.setTop (mkF m 6 #[.val (.ref a1), .val (.ref a2)] [])) _
    refine XS.aloadN X3.here hx rfl (hb hby d21_6) rfl rfl ?_
    show Steps p.tables e below (T3.setTop (mkF m 7 #[.val (.ref a1), .val (.ref a2)] [(.ref a1)])) _
    refine st4 _ ?_
    show Steps p.tables e below (T4.setTop (mkF m 10 #[.val (.ref a1), .val (.ref a2)] [(.int (0 : Int32))])) _
    refine XS.aloadN X4.here hx rfl (hb hby d21_10) rfl rfl ?_
    show Steps p.tables e below (T4.setTop (mkF m 11 #[.val (.ref a1), .val (.ref a2)] [(.ref a2), (.int (0 : Int32))])) _
    refine st5.trans ?_
    show Steps p.tables e below (T5.setTop (mkF m 14 #[.val (.ref a1), .val (.ref a2)] [(.int (0 : Int32)), (.int (0 : Int32))])) _
    refine XS.icmpYes X5.here hx rfl (pc0 := 14) (pc' := 21) rfl (hb hby d21_14) rfl (teq (rfl : (0 : Int32) = (0 : Int32))).1 (by decide) (by decide) ?_
    show Steps p.tables e below (T5.setTop (mkF m 21 #[.val (.ref a1), .val (.ref a2)] [])) _
    exact X5.returnOut hx Bd.returns (hb hby d21_21) hr
  · show own_Q0 h0 n0 _ T5.heap _
    exact ⟨rfl, N5, eqL⟩
def own_QA (Z : State) (b : Addr) (k : ClassId) (z : Int32) (vs : List Value) (dv : Value) (h0 : Heap) (n0 : Nat) (v : Option Value) (h : Heap) (L : List Loc) : Prop := v = none ∧ Fr n0 L ∧ Keep h0 h [b] ∧ Arv Z h b k .byte z vs dv
theorem d22_0 : decode jdk_42_method_147_code 0 = .ok (.aload_n 0, 1) := by decide +kernel
theorem d22_1 : decode jdk_42_method_147_code 1 = .ok (.invokevirtual 335, 3) := by decide +kernel
theorem d22_4 : decode jdk_42_method_147_code 4 = .ok (.iload_n 3, 1) := by decide +kernel
theorem d22_5 : decode jdk_42_method_147_code 5 = .ok (.if_icmp .ne 23, 3) := by decide +kernel
theorem d22_8 : decode jdk_42_method_147_code 8 = .ok (.aload_n 0, 1) := by decide +kernel
theorem d22_9 : decode jdk_42_method_147_code 9 = .ok (.getfield 9, 3) := by decide +kernel
theorem d22_12 : decode jdk_42_method_147_code 12 = .ok (.iconst 0, 1) := by decide +kernel
theorem d22_13 : decode jdk_42_method_147_code 13 = .ok (.aload_n 1, 1) := by decide +kernel
theorem d22_14 : decode jdk_42_method_147_code 14 = .ok (.iload_n 2, 1) := by decide +kernel
theorem d22_15 : decode jdk_42_method_147_code 15 = .ok (.iload_n 3, 1) := by decide +kernel
theorem d22_16 : decode jdk_42_method_147_code 16 = .ok (.ishl, 1) := by decide +kernel
theorem d22_17 : decode jdk_42_method_147_code 17 = .ok (.aload_n 0, 1) := by decide +kernel
theorem d22_18 : decode jdk_42_method_147_code 18 = .ok (.getfield 9, 3) := by decide +kernel
theorem d22_21 : decode jdk_42_method_147_code 21 = .ok (.arraylength, 1) := by decide +kernel
theorem d22_22 : decode jdk_42_method_147_code 22 = .ok (.invokestatic 212, 3) := by decide +kernel
theorem d22_25 : decode jdk_42_method_147_code 25 = .ok (.goto 18, 3) := by decide +kernel
theorem d22_43 : decode jdk_42_method_147_code 43 = .ok (.return_, 1) := by decide +kernel
theorem pn_22 : plainName "java/lang/String" = true := by first | (simp [plainName, overriddenIn]; done) | decide +kernel
theorem pd_22_11 : parseMethodDescriptor "()B" = some ⟨[], some .byte⟩ := by decide +kernel
theorem ef_22 (m : MethodId) (x0 : Addr) (x1 : Addr) (x2 : Int32) (x3 : Int32) : entryFrame m #[(.ref x0), (.ref x1), (.int x2), (.int x3)] 4 = mkF m 0 #[.val (.ref x0), .val (.ref x1), .val (.int x2), .val (.int x3)] [] := by first | (simp [entryFrame, mkF, argsToLocals, Value.category]; done) | rfl
set_option maxRecDepth 65536 in
set_option maxHeartbeats 40000000 in
theorem rm22b (l : Launch) (Z : State) (a0 : Array Value) (hw : ∀ d ∈ tables_1, d.before a0 Z = true) (ws : List Jvm.Cond) (a1 : Addr) (a2 : Addr) (p3 : Int32) (G1 : Int32) (sv : Addr) (k_sv : ClassId) (z_sv : Int32) (vs_sv : List Value) (dv_sv : Value) (k_a2 : ClassId) (z_a2 : Int32) (vs_a2 : List Value) (dv_a2 : Value) (us22 : List Value) (h0 : Heap) (n0 : Nat) (Z0 : n0 ≤ h0.size) (S_COMPACT_STRINGS : Sta Z Z.heap "java/lang/String" "COMPACT_STRINGS" "Z" (.int G1)) (X00 : Old Z n0 h0) (P3 : ¬ (G1 = (0 : Int32))) (E_a1 : Exa Z h0 a1 "java/lang/String") (F_value_a1 : Fld Z h0 a1 "java/lang/String" "value" "[B" (.ref sv)) (F_coder_a1 : Fld Z h0 a1 "java/lang/String" "coder" "B" (.int (0 : Int32))) (V_sv : Arv Z h0 sv k_sv .byte z_sv vs_sv dv_sv) (V_a2 : Arv Z h0 a2 k_a2 .byte z_a2 vs_a2 dv_a2) (hcs22 : ¬ (0 : Int32) < 0) (hcd22 : ¬ (p3 <<< ((0 : Int32) &&& 31)) < 0) (hcn22 : ¬ z_sv < 0) (hca22 : ((0 : Int32)).toNatClampNeg + (z_sv).toNatClampNeg ≤ (z_sv).toNatClampNeg) (hcb22 : ((p3 <<< ((0 : Int32) &&& 31))).toNatClampNeg + (z_sv).toNatClampNeg ≤ (z_a2).toNatClampNeg) (hcu22 : us22 = (List.range (z_sv).toNatClampNeg).map fun i => vs_sv.getD (((0 : Int32)).toNatClampNeg + i) dv_sv) (hcl22 : ((p3 <<< ((0 : Int32) &&& 31))).toNatClampNeg + (z_sv).toNatClampNeg ≤ vs_a2.length) (g_a2 : n0 ≤ a2) :
    MetFree l (⟨"java/lang/String", "getBytes", "([BIB)V"⟩ : MethodName) (head1 (Jvm.Cond.code (⟨"java/lang/String", "getBytes", "([BIB)V"⟩ : MethodName) jdk_42_method_147_code 4 none :: ws) ({ frames := 1, cells := 0, slots := 0, locals := 32 } : Room)) (fun a U => a = #[(.ref a1), (.ref a2), (.int p3), (.int (0 : Int32))] ∧ Z.Warmed39 U.vm ∧ U.heap = h0) (fun _ _ _ _ _ => True) (fun _ U o U' => ∃ v L, o = .returned v ∧ own_QA Z a2 k_a2 z_a2 (vs_a2.take (p3 <<< ((0 : Int32) &&& 31)).toNatClampNeg ++ us22 ++ vs_a2.drop ((p3 <<< ((0 : Int32) &&& 31)).toNatClampNeg + z_sv.toNatClampNeg)) dv_a2 h0 n0 v U'.heap L ∧ FrameEnd U o U' L ({ frames := 1, cells := 0, slots := 0, locals := 32 } : Room).cells ({ frames := 1, cells := 0, slots := 0, locals := 32 } : Room).slots) := by
  refine MetFree.of_bodySF (plainFor_of_name pn_22) hisR ?_
  intro p e s m args below meth c s₁ Bd hml0 hP hK
  obtain ⟨rfl, hZ, hh⟩ := hP
  have hx := Bd.exec
  have hby := Bd.bytes
  have hml : c.maxLocals = 4 := hml0
  have hown : s.vm.findClass "java/lang/String" = some m.cls := findClass_of_methodNamed Bd.named
  have hnm := (name_of_methodNamed Bd.named Bd.method).1
  have X0 : Stand p l e ({ frames := 1, cells := 0, slots := 0, locals := 32 } : Room) s m #[(.ref a1), (.ref a2), (.int p3), (.int (0 : Int32))] below meth c s₁ [] 0 0 := Stand.of_body Bd
  have e0 : s₁.heap = h0 := by rw [← hh, Bd.state]; rfl
  have N0 := Fr.nil n0
  have pre0 : ∀ t, Steps p.tables e below (s₁.setTop (mkF m 0 #[.val (.ref a1), .val (.ref a2), .val (.int p3), .val (.int (0 : Int32))] [])) t → Steps p.tables e below (s₁.setTop (entryFrame m #[(.ref a1), (.ref a2), (.int p3), (.int (0 : Int32))] 4)) t := fun t k => castTop (ef_22 m a1 a2 p3 (0 : Int32)) k
  obtain ⟨cq4, kq4, q4a, q4b, q4c⟩ := isOf hZ e0 E_a1
  obtain ⟨_, _, ⟨T4, L4, k4, n4⟩, -, X4, ⟨Lc4, hQ4, l4, y4, z4⟩, st4⟩ := X0.virtualBack hx (y := (⟨"java/lang/String", "coder", "()B"⟩ : MethodName)) (z := (⟨"java/lang/String", "coder", "()B"⟩ : MethodName)) hown (mvT hZ (hw _ (wI 71 rfl))) (mvT hZ (hw _ (wI 72 rfl))) (notFace_of_selects (args := #[]) (mvT hZ (hw _ (wI 74 rfl)))) (mvT hZ (hw _ (wI 74 rfl))) (mvT hZ (hw _ (wI 73 rfl))) (by decide) (backOf (W := 0) (rm13 l Z a0 hw [] a1 G1 h0 n0 Z0 S_COMPACT_STRINGS X00 P3 E_a1 F_coder_a1) hZ (hw _ (wI 75 rfl)) (hw _ (wI 2 rfl)) (by decide) (by decide)) q4a q4c (g := (mkF m 1 #[.val (.ref a1), .val (.ref a2), .val (.int p3), .val (.int (0 : Int32))] [(.ref a1)])) rfl (by rw [hml]; rfl) (Steps.refl _) (argsL := []) (rest := []) (lenOf pd_22_11 rfl) rfl (by show 2 * 0 + _ ≤ _; exact Nat.le_of_eq rfl) (hb hby d22_1) (fun _ _ => ⟨rfl, e0, (by decide : 0 + 0 ≤ _), (by decide : 0 + 0 ≤ _)⟩)
  dsimp only [Pt.U, Pt.locs, Pt.cells, Pt.slots] at X4 l4 y4 z4 st4 hQ4
  subst l4 y4 z4
  obtain ⟨rfl, N4q, eqL⟩ := hQ4
  have N4 := Fr.app N0 N4q
  have Kq4 : Keep h0 T4.heap [] := (own_keq eqL)
  have K4 : Keep h0 T4.heap [a2] := (Keep.refl h0 [a2]).trans Kq4 all0
  obtain ⟨T5, X5, e5, st5⟩ := getF X4 hx hZ hown (host := "") (Or.inl (hw _ (wI 28 rfl))) Via.refl rfl (F_value_a1.keep Kq4 (fun q => nomatch q)) (g := (mkF m 9 #[.val (.ref a1), .val (.ref a2), .val (.int p3), .val (.int (0 : Int32))] [(.ref a1)])) rfl rfl (hb hby d22_9)
  obtain ⟨T6, X6, e6, st6⟩ := getF X5 hx hZ hown (host := "") (Or.inl (hw _ (wI 28 rfl))) Via.refl e5 (F_value_a1.keep Kq4 (fun q => nomatch q)) (g := (mkF m 18 #[.val (.ref a1), .val (.ref a2), .val (.int p3), .val (.int (0 : Int32))] [(.ref a1), (.int (p3 <<< ((0 : Int32) &&& 31))), (.ref a2), (.int (0 : Int32)), (.ref sv)])) rfl rfl (hb hby d22_18)
  obtain ⟨cl_sv_21, Ar_sv, -, S_sv, N_sv, -, -⟩ := (V_sv.keep Kq4 (fun q => nomatch q))
  obtain ⟨T7, h7, L7, X7, e7, N7, Kq7, V_a2_7, st7⟩ := cpA X6 hx hZ hown (hw _ (wI 125 rfl)) (hw _ (wI 108 rfl)) (hw _ (wI 106 rfl)) (hw _ (wI 107 rfl)) e6 (V_sv.keep Kq4 (fun q => nomatch q)) (V_a2.keep Kq4 (fun q => nomatch q)) (Or.inl ⟨rfl, rfl⟩) hcs22 hcd22 hcn22 hca22 hcb22 hcu22 hcl22 N4 g_a2 (g := (mkF m 22 #[.val (.ref a1), .val (.ref a2), .val (.int p3), .val (.int (0 : Int32))] [(.int z_sv), (.int (p3 <<< ((0 : Int32) &&& 31))), (.ref a2), (.int (0 : Int32)), (.ref sv)])) rfl (by rw [hml]; rfl) rfl (hb hby d22_22) (by decide) (W := 0) (by show 2 * 0 + _ ≤ _; exact Nat.le_of_eq rfl) (by decide)
  have K7 : Keep h0 h7 [a2] := K4.trans Kq7 (own_trS (Or.inl (List.mem_of_getElem? (i := 0) rfl)) all0)
  obtain ⟨fs, hr, hrun, hended, hW, hsame⟩ := X7.leave (v := none) (fun _ => rfl)
  refine ⟨_, _, pre0 _ ?_, hrun, hended, _, _, rfl, ?_, ⟨_, rfl⟩, hW, hsame.mono (by decide) (by decide)⟩
  · show Steps p.tables e below (s₁.setTop (mkF m 0 #[.val (.ref a1), .val (.ref a2), .val (.int p3), .val (.int (0 : Int32))] [])) _
    refine XS.aloadN X0.here hx rfl (hb hby d22_0) rfl rfl ?_
    show Steps p.tables e below (s₁.setTop (mkF m 1 #[.val (.ref a1), .val (.ref a2), .val (.int p3), .val (.int (0 : Int32))] [(.ref a1)])) _
    refine st4.trans ?_
    show Steps p.tables e below (T4.setTop (mkF m 4 #[.val (.ref a1), .val (.ref a2), .val (.int p3), .val (.int (0 : Int32))] [(.int (0 : Int32))])) _
    refine XS.iloadN X4.here hx rfl (hb hby d22_4) rfl ?_
    show Steps p.tables e below (T4.setTop (mkF m 5 #[.val (.ref a1), .val (.ref a2), .val (.int p3), .val (.int (0 : Int32))] [(.int (0 : Int32)), (.int (0 : Int32))])) _
    refine XS.icmpNo X4.here hx rfl (hb hby d22_5) rfl (teq (rfl : (0 : Int32) = (0 : Int32))).2 ?_
    show Steps p.tables e below (T4.setTop (mkF m 8 #[.val (.ref a1), .val (.ref a2), .val (.int p3), .val (.int (0 : Int32))] [])) _
    refine XS.aloadN X4.here hx rfl (hb hby d22_8) rfl rfl ?_
    show Steps p.tables e below (T4.setTop (mkF m 9 #[.val (.ref a1), .val (.ref a2), .val (.int p3), .val (.int (0 : Int32))] [(.ref a1)])) _
    refine st5 _ ?_
    show Steps p.tables e below (T5.setTop (mkF m 12 #[.val (.ref a1), .val (.ref a2), .val (.int p3), .val (.int (0 : Int32))] [(.ref sv)])) _
    refine XS.iconst X5.here hx rfl (hb hby d22_12) ?_
    show Steps p.tables e below (T5.setTop (mkF m 13 #[.val (.ref a1), .val (.ref a2), .val (.int p3), .val (.int (0 : Int32))] [(.int (0 : Int32)), (.ref sv)])) _
    refine XS.aloadN X5.here hx rfl (hb hby d22_13) rfl rfl ?_
    show Steps p.tables e below (T5.setTop (mkF m 14 #[.val (.ref a1), .val (.ref a2), .val (.int p3), .val (.int (0 : Int32))] [(.ref a2), (.int (0 : Int32)), (.ref sv)])) _
    refine XS.iloadN X5.here hx rfl (hb hby d22_14) rfl ?_
    show Steps p.tables e below (T5.setTop (mkF m 15 #[.val (.ref a1), .val (.ref a2), .val (.int p3), .val (.int (0 : Int32))] [(.int p3), (.ref a2), (.int (0 : Int32)), (.ref sv)])) _
    refine XS.iloadN X5.here hx rfl (hb hby d22_15) rfl ?_
    show Steps p.tables e below (T5.setTop (mkF m 16 #[.val (.ref a1), .val (.ref a2), .val (.int p3), .val (.int (0 : Int32))] [(.int (0 : Int32)), (.int p3), (.ref a2), (.int (0 : Int32)), (.ref sv)])) _
    refine XS.ishl X5.here hx rfl (hb hby d22_16) rfl ?_
    show Steps p.tables e below (T5.setTop (mkF m 17 #[.val (.ref a1), .val (.ref a2), .val (.int p3), .val (.int (0 : Int32))] [(.int (p3 <<< ((0 : Int32) &&& 31))), (.ref a2), (.int (0 : Int32)), (.ref sv)])) _
    refine XS.aloadN X5.here hx rfl (hb hby d22_17) rfl rfl ?_
    show Steps p.tables e below (T5.setTop (mkF m 18 #[.val (.ref a1), .val (.ref a2), .val (.int p3), .val (.int (0 : Int32))] [(.ref a1), (.int (p3 <<< ((0 : Int32) &&& 31))), (.ref a2), (.int (0 : Int32)), (.ref sv)])) _
    refine st6 _ ?_
    show Steps p.tables e below (T6.setTop (mkF m 21 #[.val (.ref a1), .val (.ref a2), .val (.int p3), .val (.int (0 : Int32))] [(.ref sv), (.int (p3 <<< ((0 : Int32) &&& 31))), (.ref a2), (.int (0 : Int32)), (.ref sv)])) _
    refine X6.arraylength hx (by rw [e6]; exact Ar_sv.1) (State.isArrayOf_alike hZ.alike Ar_sv.2.1) (g := (mkF m 21 #[.val (.ref a1), .val (.ref a2), .val (.int p3), .val (.int (0 : Int32))] [(.ref sv), (.int (p3 <<< ((0 : Int32) &&& 31))), (.ref a2), (.int (0 : Int32)), (.ref sv)])) rfl rfl (hb hby d22_21) _ ?_
    rw [len_of S_sv N_sv]
    show Steps p.tables e below (T6.setTop (mkF m 22 #[.val (.ref a1), .val (.ref a2), .val (.int p3), .val (.int (0 : Int32))] [(.int z_sv), (.int (p3 <<< ((0 : Int32) &&& 31))), (.ref a2), (.int (0 : Int32)), (.ref sv)])) _
    refine st7 _ ?_
    show Steps p.tables e below (T7.setTop (mkF m 25 #[.val (.ref a1), .val (.ref a2), .val (.int p3), .val (.int (0 : Int32))] [])) _
    refine XS.goto X7.here hx rfl (pc0 := 25) (pc' := 43) rfl (hb hby d22_25) (by decide) (by decide) ?_
    show Steps p.tables e below (T7.setTop (mkF m 43 #[.val (.ref a1), .val (.ref a2), .val (.int p3), .val (.int (0 : Int32))] [])) _
    exact X7.returnOut hx Bd.returns (hb hby d22_43) hr
  · show own_QA Z a2 k_a2 z_a2 (vs_a2.take (p3 <<< ((0 : Int32) &&& 31)).toNatClampNeg ++ us22 ++ vs_a2.drop ((p3 <<< ((0 : Int32) &&& 31)).toNatClampNeg + z_sv.toNatClampNeg)) dv_a2 h0 n0 _ T7.heap _
    rw [e7]
    exact ⟨rfl, N7, K7, V_a2_7⟩
theorem own_range0 (vs : List Value) (d : Value) (k : Nat) (h : k = vs.length) : vs = (List.range k).map fun i => vs.getD (((0 : Int32)).toNatClampNeg + i) d := by
  have e : ((0 : Int32)).toNatClampNeg = 0 := rfl
  rw [e]
  simp only [Nat.zero_add]
  exact own_range vs d k h
theorem rm22 (l : Launch) (Z : State) (a0 : Array Value) (hw : ∀ d ∈ tables_1, d.before a0 Z = true) (ws : List Jvm.Cond) (a1 : Addr) (a2 : Addr) (p3 : Int32) (_p4 : Int32) (G1 : Int32) (sv : Addr) (k_sv : ClassId) (z_sv : Int32) (vs_sv : List Value) (dv_sv : Value) (k_a2 : ClassId) (z_a2 : Int32) (vs_a2 : List Value) (dv_a2 : Value) (h0 : Heap) (n0 : Nat) (Z0 : n0 ≤ h0.size) (S_COMPACT_STRINGS : Sta Z Z.heap "java/lang/String" "COMPACT_STRINGS" "Z" (.int G1)) (X00 : Old Z n0 h0) (P3 : ¬ (G1 = (0 : Int32))) (E_a1 : Exa Z h0 a1 "java/lang/String") (F_value_a1 : Fld Z h0 a1 "java/lang/String" "value" "[B" (.ref sv)) (F_coder_a1 : Fld Z h0 a1 "java/lang/String" "coder" "B" (.int (0 : Int32))) (V_sv : Arv Z h0 sv k_sv .byte z_sv vs_sv dv_sv) (V_a2 : Arv Z h0 a2 k_a2 .byte z_a2 vs_a2 dv_a2) (g_a2 : n0 ≤ a2) (hz : z_sv.toNatClampNeg = vs_sv.length) (hp : ¬ p3 < 0) (hb : p3.toNatClampNeg + vs_sv.length ≤ z_a2.toNatClampNeg) (hl : p3.toNatClampNeg + vs_sv.length ≤ vs_a2.length) :
    MetFree l (⟨"java/lang/String", "getBytes", "([BIB)V"⟩ : MethodName) (head1 (Jvm.Cond.code (⟨"java/lang/String", "getBytes", "([BIB)V"⟩ : MethodName) jdk_42_method_147_code 4 none :: ws) ({ frames := 1, cells := 0, slots := 0, locals := 32 } : Room)) (fun a U => a = #[(.ref a1), (.ref a2), (.int p3), (.int (0 : Int32))] ∧ Z.Warmed39 U.vm ∧ U.heap = h0) (fun _ _ _ _ _ => True) (fun _ U o U' => ∃ v L, o = .returned v ∧ own_QA Z a2 k_a2 z_a2 (own_upd vs_a2 p3.toNatClampNeg vs_sv) dv_a2 h0 n0 v U'.heap L ∧ FrameEnd U o U' L ({ frames := 1, cells := 0, slots := 0, locals := 32 } : Room).cells ({ frames := 1, cells := 0, slots := 0, locals := 32 } : Room).slots) := by
  obtain ⟨cl_, Ar_, q_, S_, N_, -, -⟩ := id V_sv
  have e1 : p3 <<< ((0 : Int32) &&& 31) = p3 := own_shl0 p3
  have e2 : own_upd vs_a2 p3.toNatClampNeg vs_sv = vs_a2.take (p3 <<< ((0 : Int32) &&& 31)).toNatClampNeg ++ vs_sv ++ vs_a2.drop ((p3 <<< ((0 : Int32) &&& 31)).toNatClampNeg + z_sv.toNatClampNeg) := by rw [e1, hz]; rfl
  rw [e2]
  exact rm22b l Z a0 hw ws a1 a2 p3 G1 sv k_sv z_sv vs_sv dv_sv k_a2 z_a2 vs_a2 dv_a2 vs_sv h0 n0 Z0 S_COMPACT_STRINGS X00 P3 E_a1 F_value_a1 F_coder_a1 V_sv V_a2 (by decide) (by rw [e1]; exact hp) N_ (by show 0 + _ ≤ _; omega) (by rw [e1, hz]; exact hb) (own_range0 vs_sv dv_sv _ hz) (by rw [e1, hz]; exact hl) g_a2
theorem d20_0 : decode jdk_68_method_73_code 0 = .ok (.aload_n 0, 1) := by decide +kernel
theorem d20_1 : decode jdk_68_method_73_code 1 = .ok (.aload_n 2, 1) := by decide +kernel
theorem d20_2 : decode jdk_68_method_73_code 2 = .ok (.invokevirtual 397, 3) := by decide +kernel
theorem d20_5 : decode jdk_68_method_73_code 5 = .ok (.aload_n 2, 1) := by decide +kernel
theorem d20_6 : decode jdk_68_method_73_code 6 = .ok (.aload_n 0, 1) := by decide +kernel
theorem d20_7 : decode jdk_68_method_73_code 7 = .ok (.getfield 15, 3) := by decide +kernel
theorem d20_10 : decode jdk_68_method_73_code 10 = .ok (.iload_n 1, 1) := by decide +kernel
theorem d20_11 : decode jdk_68_method_73_code 11 = .ok (.aload_n 0, 1) := by decide +kernel
theorem d20_12 : decode jdk_68_method_73_code 12 = .ok (.getfield 22, 3) := by decide +kernel
theorem d20_15 : decode jdk_68_method_73_code 15 = .ok (.invokevirtual 399, 3) := by decide +kernel
theorem d20_18 : decode jdk_68_method_73_code 18 = .ok (.return_, 1) := by decide +kernel
theorem pn_20 : plainName "java/lang/AbstractStringBuilder" = true := by first | (simp [plainName, overriddenIn]; done) | decide +kernel
theorem pd_20_18 : parseMethodDescriptor "(Ljava/lang/String;)V" = some ⟨[(.object "java/lang/String")], none⟩ := by decide +kernel
theorem pd_20_19 : parseMethodDescriptor "([BIB)V" = some ⟨[(.array .byte), .int, .byte], none⟩ := by decide +kernel
theorem ef_20 (m : MethodId) (x0 : Addr) (x1 : Int32) (x2 : Addr) : entryFrame m #[(.ref x0), (.int x1), (.ref x2)] 3 = mkF m 0 #[.val (.ref x0), .val (.int x1), .val (.ref x2)] [] := by first | (simp [entryFrame, mkF, argsToLocals, Value.category]; done) | rfl
set_option maxRecDepth 65536 in
set_option maxHeartbeats 40000000 in
theorem rm20 (l : Launch) (Z : State) (a0 : Array Value) (hw : ∀ d ∈ tables_1, d.before a0 Z = true) (ws : List Jvm.Cond) (a1 : Addr) (p2 : Int32) (a3 : Addr) (G1 : Int32) (bv : Addr) (sv : Addr) (k_bv : ClassId) (z_bv : Int32) (vs_bv : List Value) (dv_bv : Value) (k_sv : ClassId) (z_sv : Int32) (vs_sv : List Value) (dv_sv : Value) (h0 : Heap) (n0 : Nat) (Z0 : n0 ≤ h0.size) (S_COMPACT_STRINGS : Sta Z Z.heap "java/lang/String" "COMPACT_STRINGS" "Z" (.int G1)) (X00 : Old Z n0 h0) (P3 : ¬ (G1 = (0 : Int32))) (E_a1 : Exa Z h0 a1 "java/lang/StringBuilder") (F_value_a1 : Fld Z h0 a1 "java/lang/AbstractStringBuilder" "value" "[B" (.ref bv)) (F_coder_a1 : Fld Z h0 a1 "java/lang/AbstractStringBuilder" "coder" "B" (.int (0 : Int32))) (E_a3 : Exa Z h0 a3 "java/lang/String") (F_value_a3 : Fld Z h0 a3 "java/lang/String" "value" "[B" (.ref sv)) (F_coder_a3 : Fld Z h0 a3 "java/lang/String" "coder" "B" (.int (0 : Int32))) (V_bv : Arv Z h0 bv k_bv .byte z_bv vs_bv dv_bv) (V_sv : Arv Z h0 sv k_sv .byte z_sv vs_sv dv_sv) (g_bv : n0 ≤ bv) (hzl : z_sv.toNatClampNeg = vs_sv.length) (hps : ¬ p2 < 0) (hbo : p2.toNatClampNeg + vs_sv.length ≤ z_bv.toNatClampNeg) (hln : p2.toNatClampNeg + vs_sv.length ≤ vs_bv.length) :
    MetFree l (⟨"java/lang/AbstractStringBuilder", "putStringAt", "(ILjava/lang/String;)V"⟩ : MethodName) (head1 (Jvm.Cond.code (⟨"java/lang/AbstractStringBuilder", "putStringAt", "(ILjava/lang/String;)V"⟩ : MethodName) jdk_68_method_73_code 3 none :: ws) ({ frames := 2, cells := 0, slots := 0, locals := 48 } : Room)) (fun a U => a = #[(.ref a1), (.int p2), (.ref a3)] ∧ Z.Warmed39 U.vm ∧ U.heap = h0) (fun _ _ _ _ _ => True) (fun _ U o U' => ∃ v L, o = .returned v ∧ own_QA Z bv k_bv z_bv (own_upd vs_bv p2.toNatClampNeg vs_sv) dv_bv h0 n0 v U'.heap L ∧ FrameEnd U o U' L ({ frames := 2, cells := 0, slots := 0, locals := 48 } : Room).cells ({ frames := 2, cells := 0, slots := 0, locals := 48 } : Room).slots) := by
  refine MetFree.of_bodySF (plainFor_of_name pn_20) hisR ?_
  intro p e s m args below meth c s₁ Bd hml0 hP hK
  obtain ⟨rfl, hZ, hh⟩ := hP
  have hx := Bd.exec
  have hby := Bd.bytes
  have hml : c.maxLocals = 3 := hml0
  have hown : s.vm.findClass "java/lang/AbstractStringBuilder" = some m.cls := findClass_of_methodNamed Bd.named
  have hnm := (name_of_methodNamed Bd.named Bd.method).1
  have X0 : Stand p l e ({ frames := 2, cells := 0, slots := 0, locals := 48 } : Room) s m #[(.ref a1), (.int p2), (.ref a3)] below meth c s₁ [] 0 0 := Stand.of_body Bd
  have e0 : s₁.heap = h0 := by rw [← hh, Bd.state]; rfl
  have N0 := Fr.nil n0
  have pre0 : ∀ t, Steps p.tables e below (s₁.setTop (mkF m 0 #[.val (.ref a1), .val (.int p2), .val (.ref a3)] [])) t → Steps p.tables e below (s₁.setTop (entryFrame m #[(.ref a1), (.int p2), (.ref a3)] 3)) t := fun t k => castTop (ef_20 m a1 p2 a3) k
  obtain ⟨cq4, q4, q4'⟩ := E_a1.cell
  obtain ⟨_, _, ⟨T4, L4, k4, n4⟩, -, X4, ⟨Lc4, hQ4, l4, y4, z4⟩, st4⟩ := X0.privateBack hx (y := (⟨"java/lang/AbstractStringBuilder", "inflateIfNeededFor", "(Ljava/lang/String;)V"⟩ : MethodName)) hown (mvT hZ (hw _ (wI 114 rfl))) (mvT hZ (hw _ (wI 115 rfl))) (own_selP (mvT hZ (hw _ (wI 117 rfl))) (Cond.privateMethod_at (mvP hZ (hw _ (wI 116 rfl)) (args := #[]))) (mvT hZ (hw _ (wI 115 rfl))) (by decide)) (Cond.privateMethod_at (mvP hZ (hw _ (wI 116 rfl)) (args := #[]))) (mvT hZ (hw _ (wI 118 rfl))) (by decide) (backOf (W := 0) (rm21 l Z a0 hw [] a1 a3 G1 h0 n0 Z0 S_COMPACT_STRINGS X00 P3 E_a1 F_coder_a1 E_a3 F_coder_a3) hZ (hw _ (wI 118 rfl)) (hw _ (wI 47 rfl)) (by decide) (by decide)) (g := (mkF m 2 #[.val (.ref a1), .val (.int p2), .val (.ref a3)] [(.ref a3), (.ref a1)])) rfl (by rw [hml]; rfl) (Steps.refl _) (a := a1) (by rw [e0]; exact q4) q4' (argsL := [(.ref a3)]) (rest := []) (lenOf pd_20_18 rfl) rfl (by show 2 * 0 + _ ≤ _; exact Nat.le_of_eq rfl) (hb hby d20_2) (fun _ _ => ⟨rfl, e0, (by decide : 0 + 0 ≤ _), (by decide : 0 + 0 ≤ _)⟩)
  dsimp only [Pt.U, Pt.locs, Pt.cells, Pt.slots] at X4 l4 y4 z4 st4 hQ4
  subst l4 y4 z4
  obtain ⟨rfl, N4q, eq4⟩ := hQ4
  have N4 := Fr.app N0 N4q
  have Kq4 : Keep h0 T4.heap [] := (own_keq eq4)
  have K4 : Keep h0 T4.heap [bv] := (Keep.refl h0 [bv]).trans Kq4 all0
  obtain ⟨T5, X5, e5, st5⟩ := getF X4 hx hZ hown (host := "") (Or.inl (hw _ (wI 51 rfl))) Via.refl rfl (F_value_a1.keep Kq4 (fun q => nomatch q)) (g := (mkF m 7 #[.val (.ref a1), .val (.int p2), .val (.ref a3)] [(.ref a1), (.ref a3)])) rfl rfl (hb hby d20_7)
  obtain ⟨T6, X6, e6, st6⟩ := getF X5 hx hZ hown (host := "") (Or.inl (hw _ (wI 53 rfl))) Via.refl e5 (F_coder_a1.keep Kq4 (fun q => nomatch q)) (g := (mkF m 12 #[.val (.ref a1), .val (.int p2), .val (.ref a3)] [(.ref a1), (.int p2), (.ref bv), (.ref a3)])) rfl rfl (hb hby d20_12)
  obtain ⟨cq7, kq7, q7a, q7b, q7c⟩ := isOf hZ e6 (E_a3.keep Kq4)
  obtain ⟨_, _, ⟨T7, L7, k7, n7⟩, -, X7, ⟨Lc7, hQ7, l7, y7, z7⟩, st7⟩ := X6.virtualBack hx (y := (⟨"java/lang/String", "getBytes", "([BIB)V"⟩ : MethodName)) (z := (⟨"java/lang/String", "getBytes", "([BIB)V"⟩ : MethodName)) hown (mvT hZ (hw _ (wI 120 rfl))) (mvT hZ (hw _ (wI 121 rfl))) (notFace_of_selects (args := #[]) (mvT hZ (hw _ (wI 123 rfl)))) (mvT hZ (hw _ (wI 123 rfl))) (mvT hZ (hw _ (wI 122 rfl))) (by decide) (backOf (W := 0) (rm22 l Z a0 hw [] a3 bv p2 (0 : Int32) G1 sv k_sv z_sv vs_sv dv_sv k_bv z_bv vs_bv dv_bv T4.heap n0 (Nat.le_trans Z0 Kq4.1) S_COMPACT_STRINGS (X00.keep K4 (allS g_bv all0)) P3 (E_a3.keep Kq4) (F_value_a3.keep Kq4 (fun q => nomatch q)) (F_coder_a3.keep Kq4 (fun q => nomatch q)) (V_sv.keep Kq4 (fun q => nomatch q)) (V_bv.keep Kq4 (fun q => nomatch q)) g_bv hzl hps hbo hln) hZ (hw _ (wI 124 rfl)) (hw _ (wI 2 rfl)) (by decide) (by decide)) q7a q7c (g := (mkF m 15 #[.val (.ref a1), .val (.int p2), .val (.ref a3)] [(.int (0 : Int32)), (.int p2), (.ref bv), (.ref a3)])) rfl (by rw [hml]; rfl) (Steps.refl _) (argsL := [(.ref bv), (.int p2), (.int (0 : Int32))]) (rest := []) (lenOf pd_20_19 rfl) rfl (by show 2 * 0 + _ ≤ _; exact Nat.le_of_eq rfl) (hb hby d20_15) (fun _ _ => ⟨rfl, e6, (by decide : 0 + 0 ≤ _), (by decide : 0 + 0 ≤ _)⟩)
  dsimp only [Pt.U, Pt.locs, Pt.cells, Pt.slots] at X7 l7 y7 z7 st7 hQ7
  subst l7 y7 z7
  obtain ⟨rfl, N7q, Kc7, Vq⟩ := hQ7
  have N7 := Fr.app N4 N7q
  have Kq7 : Keep T4.heap T7.heap [bv] := Kc7
  have K7 : Keep h0 T7.heap [bv] := K4.trans Kq7 (own_trS (Or.inl (List.mem_of_getElem? (i := 0) rfl)) all0)
  obtain ⟨fs, hr, hrun, hended, hW, hsame⟩ := X7.leave (v := none) (fun _ => rfl)
  refine ⟨_, _, pre0 _ ?_, hrun, hended, _, _, rfl, ?_, ⟨_, rfl⟩, hW, hsame.mono (by decide) (by decide)⟩
  · show Steps p.tables e below (s₁.setTop (mkF m 0 #[.val (.ref a1), .val (.int p2), .val (.ref a3)] [])) _
    refine XS.aloadN X0.here hx rfl (hb hby d20_0) rfl rfl ?_
    show Steps p.tables e below (s₁.setTop (mkF m 1 #[.val (.ref a1), .val (.int p2), .val (.ref a3)] [(.ref a1)])) _
    refine XS.aloadN X0.here hx rfl (hb hby d20_1) rfl rfl ?_
    show Steps p.tables e below (s₁.setTop (mkF m 2 #[.val (.ref a1), .val (.int p2), .val (.ref a3)] [(.ref a3), (.ref a1)])) _
    refine st4.trans ?_
    show Steps p.tables e below (T4.setTop (mkF m 5 #[.val (.ref a1), .val (.int p2), .val (.ref a3)] [])) _
    refine XS.aloadN X4.here hx rfl (hb hby d20_5) rfl rfl ?_
    show Steps p.tables e below (T4.setTop (mkF m 6 #[.val (.ref a1), .val (.int p2), .val (.ref a3)] [(.ref a3)])) _
    refine XS.aloadN X4.here hx rfl (hb hby d20_6) rfl rfl ?_
    show Steps p.tables e below (T4.setTop (mkF m 7 #[.val (.ref a1), .val (.int p2), .val (.ref a3)] [(.ref a1), (.ref a3)])) _
    refine st5 _ ?_
    show Steps p.tables e below (T5.setTop (mkF m 10 #[.val (.ref a1), .val (.int p2), .val (.ref a3)] [(.ref bv), (.ref a3)])) _
    refine XS.iloadN X5.here hx rfl (hb hby d20_10) rfl ?_
    show Steps p.tables e below (T5.setTop (mkF m 11 #[.val (.ref a1), .val (.int p2), .val (.ref a3)] [(.int p2), (.ref bv), (.ref a3)])) _
    refine XS.aloadN X5.here hx rfl (hb hby d20_11) rfl rfl ?_
    show Steps p.tables e below (T5.setTop (mkF m 12 #[.val (.ref a1), .val (.int p2), .val (.ref a3)] [(.ref a1), (.int p2), (.ref bv), (.ref a3)])) _
    refine st6 _ ?_
    show Steps p.tables e below (T6.setTop (mkF m 15 #[.val (.ref a1), .val (.int p2), .val (.ref a3)] [(.int (0 : Int32)), (.int p2), (.ref bv), (.ref a3)])) _
    refine st7.trans ?_
    show Steps p.tables e below (T7.setTop (mkF m 18 #[.val (.ref a1), .val (.int p2), .val (.ref a3)] [])) _
    exact X7.returnOut hx Bd.returns (hb hby d20_18) hr
  · show own_QA Z bv k_bv z_bv (own_upd vs_bv p2.toNatClampNeg vs_sv) dv_bv h0 n0 _ T7.heap _
    exact ⟨rfl, N7, K7, Vq⟩
def own_QB (Z : State) (a1 : Addr) (c : Int32) (b : Addr) (k : ClassId) (z : Int32) (vs : List Value) (dv : Value) (h0 : Heap) (n0 : Nat) (v : Option Value) (h : Heap) (L : List Loc) : Prop := v = some (.ref a1) ∧ Fr n0 L ∧ Keep h0 h [b, a1] ∧ Fld Z h a1 "java/lang/AbstractStringBuilder" "count" "I" (.int c) ∧ Fld Z h a1 "java/lang/AbstractStringBuilder" "value" "[B" (.ref b) ∧ Fld Z h a1 "java/lang/AbstractStringBuilder" "coder" "B" (.int (0 : Int32)) ∧ Arv Z h b k .byte z vs dv
theorem d11_0 : decode jdk_68_method_22_code 0 = .ok (.aload_n 1, 1) := by decide +kernel
theorem d11_1 : decode jdk_68_method_22_code 1 = .ok (.ifnonnull 8, 3) := by decide +kernel
theorem d11_9 : decode jdk_68_method_22_code 9 = .ok (.aload_n 1, 1) := by decide +kernel
theorem d11_10 : decode jdk_68_method_22_code 10 = .ok (.invokevirtual 32, 3) := by decide +kernel
theorem d11_13 : decode jdk_68_method_22_code 13 = .ok (.istore_n 2, 1) := by decide +kernel
theorem d11_14 : decode jdk_68_method_22_code 14 = .ok (.aload_n 0, 1) := by decide +kernel
theorem d11_15 : decode jdk_68_method_22_code 15 = .ok (.aload_n 0, 1) := by decide +kernel
theorem d11_16 : decode jdk_68_method_22_code 16 = .ok (.getfield 79, 3) := by decide +kernel
theorem d11_19 : decode jdk_68_method_22_code 19 = .ok (.iload_n 2, 1) := by decide +kernel
theorem d11_20 : decode jdk_68_method_22_code 20 = .ok (.iadd, 1) := by decide +kernel
theorem d11_21 : decode jdk_68_method_22_code 21 = .ok (.invokevirtual 100, 3) := by decide +kernel
theorem d11_24 : decode jdk_68_method_22_code 24 = .ok (.aload_n 0, 1) := by decide +kernel
theorem d11_25 : decode jdk_68_method_22_code 25 = .ok (.aload_n 0, 1) := by decide +kernel
theorem d11_26 : decode jdk_68_method_22_code 26 = .ok (.getfield 79, 3) := by decide +kernel
theorem d11_29 : decode jdk_68_method_22_code 29 = .ok (.aload_n 1, 1) := by decide +kernel
theorem d11_30 : decode jdk_68_method_22_code 30 = .ok (.invokevirtual 208, 3) := by decide +kernel
theorem d11_33 : decode jdk_68_method_22_code 33 = .ok (.aload_n 0, 1) := by decide +kernel
theorem d11_34 : decode jdk_68_method_22_code 34 = .ok (.dup, 1) := by decide +kernel
theorem d11_35 : decode jdk_68_method_22_code 35 = .ok (.getfield 79, 3) := by decide +kernel
theorem d11_38 : decode jdk_68_method_22_code 38 = .ok (.iload_n 2, 1) := by decide +kernel
theorem d11_39 : decode jdk_68_method_22_code 39 = .ok (.iadd, 1) := by decide +kernel
theorem d11_40 : decode jdk_68_method_22_code 40 = .ok (.putfield 79, 3) := by decide +kernel
theorem d11_43 : decode jdk_68_method_22_code 43 = .ok (.aload_n 0, 1) := by decide +kernel
theorem d11_44 : decode jdk_68_method_22_code 44 = .ok (.areturn, 1) := by decide +kernel
theorem pn_11 : plainName "java/lang/AbstractStringBuilder" = true := by first | (simp [plainName, overriddenIn]; done) | decide +kernel
theorem pd_11_10 : parseMethodDescriptor "()I" = some ⟨[], some .int⟩ := by decide +kernel
theorem pd_11_7 : parseMethodDescriptor "(I)V" = some ⟨[.int], none⟩ := by decide +kernel
theorem pd_11_17 : parseMethodDescriptor "(ILjava/lang/String;)V" = some ⟨[.int, (.object "java/lang/String")], none⟩ := by decide +kernel
theorem ef_11 (m : MethodId) (x0 : Addr) (x1 : Addr) : entryFrame m #[(.ref x0), (.ref x1)] 3 = mkF m 0 #[.val (.ref x0), .val (.ref x1), .unset] [] := by first | (simp [entryFrame, mkF, argsToLocals, Value.category]; done) | rfl
set_option maxRecDepth 65536 in
set_option maxHeartbeats 40000000 in
theorem rm11 (l : Launch) (Z : State) (a0 : Array Value) (hw : ∀ d ∈ tables_1, d.before a0 Z = true) (ws : List Jvm.Cond) (a1 : Addr) (a2 : Addr) (G1 : Int32) (bv : Addr) (sv : Addr) (c0 : Int32) (k_bv : ClassId) (z_bv : Int32) (vs_bv : List Value) (dv_bv : Value) (k_sv : ClassId) (z_sv : Int32) (vs_sv : List Value) (dv_sv : Value) (h0 : Heap) (n0 : Nat) (Z0 : n0 ≤ h0.size) (S_COMPACT_STRINGS : Sta Z Z.heap "java/lang/String" "COMPACT_STRINGS" "Z" (.int G1)) (X00 : Old Z n0 h0) (P3 : ¬ (G1 = (0 : Int32))) (E_a1 : Exa Z h0 a1 "java/lang/StringBuilder") (F_value_a1 : Fld Z h0 a1 "java/lang/AbstractStringBuilder" "value" "[B" (.ref bv)) (F_coder_a1 : Fld Z h0 a1 "java/lang/AbstractStringBuilder" "coder" "B" (.int (0 : Int32))) (F_count_a1 : Fld Z h0 a1 "java/lang/AbstractStringBuilder" "count" "I" (.int c0)) (E_a2 : Exa Z h0 a2 "java/lang/String") (F_value_a2 : Fld Z h0 a2 "java/lang/String" "value" "[B" (.ref sv)) (F_coder_a2 : Fld Z h0 a2 "java/lang/String" "coder" "B" (.int (0 : Int32))) (V_bv : Arv Z h0 bv k_bv .byte z_bv vs_bv dv_bv) (V_sv : Arv Z h0 sv k_sv .byte z_sv vs_sv dv_sv) (g_bv : n0 ≤ bv) (g_a1 : n0 ≤ a1) (hzl : z_sv.toNatClampNeg = vs_sv.length) (hps : ¬ c0 < 0) (hbo : c0.toNatClampNeg + vs_sv.length ≤ z_bv.toNatClampNeg) (hln : c0.toNatClampNeg + vs_sv.length ≤ vs_bv.length) (hcap : ¬ ((0 : Int32) < ((c0 + z_sv) - (z_bv >>> ((0 : Int32) &&& 31))))) :
    MetFree l (⟨"java/lang/AbstractStringBuilder", "append", "(Ljava/lang/String;)Ljava/lang/AbstractStringBuilder;"⟩ : MethodName) (head1 (Jvm.Cond.code (⟨"java/lang/AbstractStringBuilder", "append", "(Ljava/lang/String;)Ljava/lang/AbstractStringBuilder;"⟩ : MethodName) jdk_68_method_22_code 3 (some (.object "java/lang/AbstractStringBuilder")) :: ws) ({ frames := 3, cells := 0, slots := 0, locals := 64 } : Room)) (fun a U => a = #[(.ref a1), (.ref a2)] ∧ Z.Warmed39 U.vm ∧ U.heap = h0) (fun _ _ _ _ _ => True) (fun _ U o U' => ∃ v L, o = .returned v ∧ own_QB Z a1 (c0 + z_sv) bv k_bv z_bv (own_upd vs_bv c0.toNatClampNeg vs_sv) dv_bv h0 n0 v U'.heap L ∧ FrameEnd U o U' L ({ frames := 3, cells := 0, slots := 0, locals := 64 } : Room).cells ({ frames := 3, cells := 0, slots := 0, locals := 64 } : Room).slots) := by
  refine MetFree.of_bodySF (plainFor_of_name pn_11) hisR ?_
  intro p e s m args below meth c s₁ Bd hml0 hP hK
  obtain ⟨rfl, hZ, hh⟩ := hP
  have hx := Bd.exec
  have hby := Bd.bytes
  have hml : c.maxLocals = 3 := hml0
  have hown : s.vm.findClass "java/lang/AbstractStringBuilder" = some m.cls := findClass_of_methodNamed Bd.named
  have hnm := (name_of_methodNamed Bd.named Bd.method).1
  have X0 : Stand p l e ({ frames := 3, cells := 0, slots := 0, locals := 64 } : Room) s m #[(.ref a1), (.ref a2)] below meth c s₁ [] 0 0 := Stand.of_body Bd
  have e0 : s₁.heap = h0 := by rw [← hh, Bd.state]; rfl
  have N0 := Fr.nil n0
  have pre0 : ∀ t, Steps p.tables e below (s₁.setTop (mkF m 0 #[.val (.ref a1), .val (.ref a2), .unset] [])) t → Steps p.tables e below (s₁.setTop (entryFrame m #[(.ref a1), (.ref a2)] 3)) t := fun t k => castTop (ef_11 m a1 a2) k
  obtain ⟨cq3, kq3, q3a, q3b, q3c⟩ := isOf hZ e0 E_a2
  obtain ⟨_, _, ⟨T3, L3, k3, n3⟩, -, X3, ⟨Lc3, hQ3, l3, y3, z3⟩, st3⟩ := X0.virtualBack hx (y := (⟨"java/lang/String", "length", "()I"⟩ : MethodName)) (z := (⟨"java/lang/String", "length", "()I"⟩ : MethodName)) hown (mvT hZ (hw _ (wI 66 rfl))) (mvT hZ (hw _ (wI 67 rfl))) (notFace_of_selects (args := #[]) (mvT hZ (hw _ (wI 69 rfl)))) (mvT hZ (hw _ (wI 69 rfl))) (mvT hZ (hw _ (wI 68 rfl))) (by decide) (backOf (W := 0) (rm12 l Z a0 hw [] a2 G1 sv k_sv z_sv vs_sv dv_sv h0 n0 Z0 S_COMPACT_STRINGS X00 P3 E_a2 F_value_a2 F_coder_a2 V_sv) hZ (hw _ (wI 70 rfl)) (hw _ (wI 2 rfl)) (by decide) (by decide)) q3a q3c (g := (mkF m 10 #[.val (.ref a1), .val (.ref a2), .unset] [(.ref a2)])) rfl (by rw [hml]; rfl) (Steps.refl _) (argsL := []) (rest := []) (lenOf pd_11_10 rfl) rfl (by show 2 * 0 + _ ≤ _; exact Nat.le_of_eq rfl) (hb hby d11_10) (fun _ _ => ⟨rfl, e0, (by decide : 0 + 0 ≤ _), (by decide : 0 + 0 ≤ _)⟩)
  dsimp only [Pt.U, Pt.locs, Pt.cells, Pt.slots] at X3 l3 y3 z3 st3 hQ3
  subst l3 y3 z3
  obtain ⟨rfl, N3q, eq3⟩ := hQ3
  have N3 := Fr.app N0 N3q
  have Kq3 : Keep h0 T3.heap [] := (own_keq eq3)
  have K3 : Keep h0 T3.heap [bv, a1] := (Keep.refl h0 [bv, a1]).trans Kq3 all0
  obtain ⟨T4, X4, e4, st4⟩ := getF X3 hx hZ hown (host := "") (Or.inl (hw _ (wI 76 rfl))) Via.refl rfl (F_count_a1.keep Kq3 (fun q => nomatch q)) (g := (mkF m 16 #[.val (.ref a1), .val (.ref a2), .val (.int z_sv)] [(.ref a1), (.ref a1)])) rfl rfl (hb hby d11_16)
  obtain ⟨cq5, q5, q5'⟩ := (E_a1.keep Kq3).cell
  obtain ⟨_, _, ⟨T5, L5, k5, n5⟩, -, X5, ⟨Lc5, hQ5, l5, y5, z5⟩, st5⟩ := X4.privateBack hx (y := (⟨"java/lang/AbstractStringBuilder", "ensureCapacityInternal", "(I)V"⟩ : MethodName)) hown (mvT hZ (hw _ (wI 78 rfl))) (mvT hZ (hw _ (wI 79 rfl))) (own_selP (mvT hZ (hw _ (wI 81 rfl))) (Cond.privateMethod_at (mvP hZ (hw _ (wI 80 rfl)) (args := #[]))) (mvT hZ (hw _ (wI 79 rfl))) (by decide)) (Cond.privateMethod_at (mvP hZ (hw _ (wI 80 rfl)) (args := #[]))) (mvT hZ (hw _ (wI 82 rfl))) (by decide) (backOf (W := 0) (rm14 l Z a0 hw [] a1 (c0 + z_sv) bv k_bv z_bv vs_bv dv_bv T3.heap n0 (Nat.le_trans Z0 Kq3.1) (E_a1.keep Kq3) (F_value_a1.keep Kq3 (fun q => nomatch q)) (F_coder_a1.keep Kq3 (fun q => nomatch q)) (V_bv.keep Kq3 (fun q => nomatch q)) hcap) hZ (hw _ (wI 82 rfl)) (hw _ (wI 47 rfl)) (by decide) (by decide)) (g := (mkF m 21 #[.val (.ref a1), .val (.ref a2), .val (.int z_sv)] [(.int (c0 + z_sv)), (.ref a1)])) rfl (by rw [hml]; rfl) (Steps.refl _) (a := a1) (by rw [e4]; exact q5) q5' (argsL := [(.int (c0 + z_sv))]) (rest := []) (lenOf pd_11_7 rfl) rfl (by show 2 * 0 + _ ≤ _; exact Nat.le_of_eq rfl) (hb hby d11_21) (fun _ _ => ⟨rfl, e4, (by decide : 0 + 0 ≤ _), (by decide : 0 + 0 ≤ _)⟩)
  dsimp only [Pt.U, Pt.locs, Pt.cells, Pt.slots] at X5 l5 y5 z5 st5 hQ5
  subst l5 y5 z5
  obtain ⟨rfl, N5q, eq5⟩ := hQ5
  have N5 := Fr.app N3 N5q
  have Kq5 : Keep T3.heap T5.heap [] := (own_keq eq5)
  have K5 : Keep h0 T5.heap [bv, a1] := K3.trans Kq5 all0
  obtain ⟨T6, X6, e6, st6⟩ := getF X5 hx hZ hown (host := "") (Or.inl (hw _ (wI 76 rfl))) Via.refl rfl ((F_count_a1.keep Kq3 (fun q => nomatch q)).keep Kq5 (fun q => nomatch q)) (g := (mkF m 26 #[.val (.ref a1), .val (.ref a2), .val (.int z_sv)] [(.ref a1), (.ref a1)])) rfl rfl (hb hby d11_26)
  obtain ⟨cq7, q7, q7'⟩ := ((E_a1.keep Kq3).keep Kq5).cell
  obtain ⟨_, _, ⟨T7, L7, k7, n7⟩, -, X7, ⟨Lc7, hQ7, l7, y7, z7⟩, st7⟩ := X6.privateBack hx (y := (⟨"java/lang/AbstractStringBuilder", "putStringAt", "(ILjava/lang/String;)V"⟩ : MethodName)) hown (mvT hZ (hw _ (wI 109 rfl))) (mvT hZ (hw _ (wI 110 rfl))) (own_selP (mvT hZ (hw _ (wI 112 rfl))) (Cond.privateMethod_at (mvP hZ (hw _ (wI 111 rfl)) (args := #[]))) (mvT hZ (hw _ (wI 110 rfl))) (by decide)) (Cond.privateMethod_at (mvP hZ (hw _ (wI 111 rfl)) (args := #[]))) (mvT hZ (hw _ (wI 113 rfl))) (by decide) (backOf (W := 0) (rm20 l Z a0 hw [] a1 c0 a2 G1 bv sv k_bv z_bv vs_bv dv_bv k_sv z_sv vs_sv dv_sv T5.heap n0 (Nat.le_trans (Nat.le_trans Z0 Kq3.1) Kq5.1) S_COMPACT_STRINGS (X00.keep K5 (allS g_bv (allS g_a1 all0))) P3 ((E_a1.keep Kq3).keep Kq5) ((F_value_a1.keep Kq3 (fun q => nomatch q)).keep Kq5 (fun q => nomatch q)) ((F_coder_a1.keep Kq3 (fun q => nomatch q)).keep Kq5 (fun q => nomatch q)) ((E_a2.keep Kq3).keep Kq5) ((F_value_a2.keep Kq3 (fun q => nomatch q)).keep Kq5 (fun q => nomatch q)) ((F_coder_a2.keep Kq3 (fun q => nomatch q)).keep Kq5 (fun q => nomatch q)) ((V_bv.keep Kq3 (fun q => nomatch q)).keep Kq5 (fun q => nomatch q)) ((V_sv.keep Kq3 (fun q => nomatch q)).keep Kq5 (fun q => nomatch q)) g_bv hzl hps hbo hln) hZ (hw _ (wI 113 rfl)) (hw _ (wI 47 rfl)) (by decide) (by decide)) (g := (mkF m 30 #[.val (.ref a1), .val (.ref a2), .val (.int z_sv)] [(.ref a2), (.int c0), (.ref a1)])) rfl (by rw [hml]; rfl) (Steps.refl _) (a := a1) (by rw [e6]; exact q7) q7' (argsL := [(.int c0), (.ref a2)]) (rest := []) (lenOf pd_11_17 rfl) rfl (by show 2 * 0 + _ ≤ _; exact Nat.le_of_eq rfl) (hb hby d11_30) (fun _ _ => ⟨rfl, e6, (by decide : 0 + 0 ≤ _), (by decide : 0 + 0 ≤ _)⟩)
  dsimp only [Pt.U, Pt.locs, Pt.cells, Pt.slots] at X7 l7 y7 z7 st7 hQ7
  subst l7 y7 z7
  obtain ⟨rfl, N7q, Kc7, Vq7⟩ := hQ7
  have N7 := Fr.app N5 N7q
  have Kq7 : Keep T5.heap T7.heap [bv] := Kc7
  have K7 : Keep h0 T7.heap [bv, a1] := K5.trans Kq7 (own_trS (Or.inl (List.mem_of_getElem? (i := 0) rfl)) all0)
  obtain ⟨T8, X8, e8, st8⟩ := getF X7 hx hZ hown (host := "") (Or.inl (hw _ (wI 76 rfl))) Via.refl rfl (((F_count_a1.keep Kq3 (fun q => nomatch q)).keep Kq5 (fun q => nomatch q)).keep Kq7 (fun q => absurd (List.mem_singleton.mp q) (Exa.neArv E_a1 V_bv (hw _ (wI 38 rfl))))) (g := (mkF m 35 #[.val (.ref a1), .val (.ref a2), .val (.int z_sv)] [(.ref a1), (.ref a1)])) rfl rfl (hb hby d11_35)
  obtain ⟨T9, h9, X9, e9, W9, st9⟩ := putF X8 hx hZ hown (host := "") (Or.inl (hw _ (wI 76 rfl))) Via.refl e8 (((F_count_a1.keep Kq3 (fun q => nomatch q)).keep Kq5 (fun q => nomatch q)).keep Kq7 (fun q => absurd (List.mem_singleton.mp q) (Exa.neArv E_a1 V_bv (hw _ (wI 38 rfl))))) (((E_a1.keep Kq3).keep Kq5).keep Kq7) (Or.inl (hw _ (wI 77 rfl))) (hw _ (wI 38 rfl)) (ty := .int) (by decide) rfl rfl (g := (mkF m 40 #[.val (.ref a1), .val (.ref a2), .val (.int z_sv)] [(.int (c0 + z_sv)), (.ref a1)])) rfl rfl (hb hby d11_40)
  have Fw9 := (((F_count_a1.keep Kq3 (fun q => nomatch q)).keep Kq5 (fun q => nomatch q)).keep Kq7 (fun q => absurd (List.mem_singleton.mp q) (Exa.neArv E_a1 V_bv (hw _ (wI 38 rfl))))).same W9
  have K9 : Keep h0 h9 [bv, a1] := K7.wr W9 (Or.inl (List.mem_of_getElem? (i := 1) rfl))
  have N9 := Fr.snoc X9 N7 g_a1
  have End_0 := Fw9
  have End_1 := (Vq7.other W9 (Ne.symm (Exa.neArv E_a1 V_bv (hw _ (wI 38 rfl)))))
  have End_2 := ((((F_value_a1.keep Kq3 (fun q => nomatch q)).keep Kq5 (fun q => nomatch q)).keep Kq7 (fun q => absurd (List.mem_singleton.mp q) (Exa.neArv E_a1 V_bv (hw _ (wI 38 rfl))))).other W9 (Or.inr (slot_ne (Or.inl (hw _ (wI 52 rfl))) (Or.inl (hw _ (wI 77 rfl))) (by decide) (t := (.array .byte)) (t' := .int) (by decide) (by decide))))
  have End_3 := ((((F_coder_a1.keep Kq3 (fun q => nomatch q)).keep Kq5 (fun q => nomatch q)).keep Kq7 (fun q => absurd (List.mem_singleton.mp q) (Exa.neArv E_a1 V_bv (hw _ (wI 38 rfl))))).other W9 (Or.inr (slot_ne (Or.inl (hw _ (wI 54 rfl))) (Or.inl (hw _ (wI 77 rfl))) (by decide) (t := .byte) (t' := .int) (by decide) (by decide))))
  obtain ⟨fs, hr, hrun, hended, hW, hsame⟩ := X9.leave (v := some (.ref a1)) (fun h => by rw [Bd.returns] at h; cases h)
  refine ⟨_, _, pre0 _ ?_, hrun, hended, _, _, rfl, ?_, ⟨_, rfl⟩, hW, hsame.mono (by decide) (by decide)⟩
  · show Steps p.tables e below (s₁.setTop (mkF m 0 #[.val (.ref a1), .val (.ref a2), .unset] [])) _
    refine XS.aloadN X0.here hx rfl (hb hby d11_0) rfl rfl ?_
    show Steps p.tables e below (s₁.setTop (mkF m 1 #[.val (.ref a1), .val (.ref a2), .unset] [(.ref a2)])) _
    refine XS.ifnonnullYes X0.here hx rfl (pc0 := 1) (pc' := 9) rfl (hb hby d11_1) rfl (by decide) (by decide) ?_
    show Steps p.tables e below (s₁.setTop (mkF m 9 #[.val (.ref a1), .val (.ref a2), .unset] [])) _
    refine XS.aloadN X0.here hx rfl (hb hby d11_9) rfl rfl ?_
    show Steps p.tables e below (s₁.setTop (mkF m 10 #[.val (.ref a1), .val (.ref a2), .unset] [(.ref a2)])) _
    refine st3.trans ?_
    show Steps p.tables e below (T3.setTop (mkF m 13 #[.val (.ref a1), .val (.ref a2), .unset] [(.int z_sv)])) _
    refine XS.istoreN X3.here hx rfl (hb hby d11_13) rfl (l' := #[.val (.ref a1), .val (.ref a2), .val (.int z_sv)]) rfl ?_
    show Steps p.tables e below (T3.setTop (mkF m 14 #[.val (.ref a1), .val (.ref a2), .val (.int z_sv)] [])) _
    refine XS.aloadN X3.here hx rfl (hb hby d11_14) rfl rfl ?_
    show Steps p.tables e below (T3.setTop (mkF m 15 #[.val (.ref a1), .val (.ref a2), .val (.int z_sv)] [(.ref a1)])) _
    refine XS.aloadN X3.here hx rfl (hb hby d11_15) rfl rfl ?_
    show Steps p.tables e below (T3.setTop (mkF m 16 #[.val (.ref a1), .val (.ref a2), .val (.int z_sv)] [(.ref a1), (.ref a1)])) _
    refine st4 _ ?_
    show Steps p.tables e below (T4.setTop (mkF m 19 #[.val (.ref a1), .val (.ref a2), .val (.int z_sv)] [(.int c0), (.ref a1)])) _
    refine XS.iloadN X4.here hx rfl (hb hby d11_19) rfl ?_
    show Steps p.tables e below (T4.setTop (mkF m 20 #[.val (.ref a1), .val (.ref a2), .val (.int z_sv)] [(.int z_sv), (.int c0), (.ref a1)])) _
    refine XS.iadd X4.here hx rfl (hb hby d11_20) rfl ?_
    show Steps p.tables e below (T4.setTop (mkF m 21 #[.val (.ref a1), .val (.ref a2), .val (.int z_sv)] [(.int (c0 + z_sv)), (.ref a1)])) _
    refine st5.trans ?_
    show Steps p.tables e below (T5.setTop (mkF m 24 #[.val (.ref a1), .val (.ref a2), .val (.int z_sv)] [])) _
    refine XS.aloadN X5.here hx rfl (hb hby d11_24) rfl rfl ?_
    show Steps p.tables e below (T5.setTop (mkF m 25 #[.val (.ref a1), .val (.ref a2), .val (.int z_sv)] [(.ref a1)])) _
    refine XS.aloadN X5.here hx rfl (hb hby d11_25) rfl rfl ?_
    show Steps p.tables e below (T5.setTop (mkF m 26 #[.val (.ref a1), .val (.ref a2), .val (.int z_sv)] [(.ref a1), (.ref a1)])) _
    refine st6 _ ?_
    show Steps p.tables e below (T6.setTop (mkF m 29 #[.val (.ref a1), .val (.ref a2), .val (.int z_sv)] [(.int c0), (.ref a1)])) _
    refine XS.aloadN X6.here hx rfl (hb hby d11_29) rfl rfl ?_
    show Steps p.tables e below (T6.setTop (mkF m 30 #[.val (.ref a1), .val (.ref a2), .val (.int z_sv)] [(.ref a2), (.int c0), (.ref a1)])) _
    refine st7.trans ?_
    show Steps p.tables e below (T7.setTop (mkF m 33 #[.val (.ref a1), .val (.ref a2), .val (.int z_sv)] [])) _
    refine XS.aloadN X7.here hx rfl (hb hby d11_33) rfl rfl ?_
    show Steps p.tables e below (T7.setTop (mkF m 34 #[.val (.ref a1), .val (.ref a2), .val (.int z_sv)] [(.ref a1)])) _
    refine XS.dup X7.here hx rfl (hb hby d11_34) rfl rfl ?_
    show Steps p.tables e below (T7.setTop (mkF m 35 #[.val (.ref a1), .val (.ref a2), .val (.int z_sv)] [(.ref a1), (.ref a1)])) _
    refine st8 _ ?_
    show Steps p.tables e below (T8.setTop (mkF m 38 #[.val (.ref a1), .val (.ref a2), .val (.int z_sv)] [(.int c0), (.ref a1)])) _
    refine XS.iloadN X8.here hx rfl (hb hby d11_38) rfl ?_
    show Steps p.tables e below (T8.setTop (mkF m 39 #[.val (.ref a1), .val (.ref a2), .val (.int z_sv)] [(.int z_sv), (.int c0), (.ref a1)])) _
    refine XS.iadd X8.here hx rfl (hb hby d11_39) rfl ?_
    show Steps p.tables e below (T8.setTop (mkF m 40 #[.val (.ref a1), .val (.ref a2), .val (.int z_sv)] [(.int (c0 + z_sv)), (.ref a1)])) _
    refine st9 _ ?_
    show Steps p.tables e below (T9.setTop (mkF m 43 #[.val (.ref a1), .val (.ref a2), .val (.int z_sv)] [])) _
    refine XS.aloadN X9.here hx rfl (hb hby d11_43) rfl rfl ?_
    show Steps p.tables e below (T9.setTop (mkF m 44 #[.val (.ref a1), .val (.ref a2), .val (.int z_sv)] [(.ref a1)])) _
    jvm_step X9.here [X9.here.top, hx, (hb hby d11_44), X9.method', Bd.returns, Value.isRef, FieldType.isReference]
    first | (intro acts; rw [hr _ acts rfl rfl rfl]) | rw [hr _ _ rfl rfl rfl]
    exact Steps.refl _
  · show own_QB Z a1 (c0 + z_sv) bv k_bv z_bv (own_upd vs_bv c0.toNatClampNeg vs_sv) dv_bv h0 n0 _ T9.heap _
    rw [e9]
    exact ⟨rfl, N9, K9, End_0, End_2, End_3, End_1⟩
theorem d10_0 : decode jdk_67_method_7_code 0 = .ok (.aload_n 0, 1) := by decide +kernel
theorem d10_1 : decode jdk_67_method_7_code 1 = .ok (.aload_n 1, 1) := by decide +kernel
theorem d10_2 : decode jdk_67_method_7_code 2 = .ok (.invokespecial 29, 3) := by decide +kernel
theorem d10_5 : decode jdk_67_method_7_code 5 = .ok (.pop, 1) := by decide +kernel
theorem d10_6 : decode jdk_67_method_7_code 6 = .ok (.aload_n 0, 1) := by decide +kernel
theorem d10_7 : decode jdk_67_method_7_code 7 = .ok (.areturn, 1) := by decide +kernel
theorem pn_10 : plainName "java/lang/StringBuilder" = true := by first | (simp [plainName, overriddenIn]; done) | decide +kernel
theorem pd_10_9 : parseMethodDescriptor "(Ljava/lang/String;)Ljava/lang/AbstractStringBuilder;" = some ⟨[(.object "java/lang/String")], some (.object "java/lang/AbstractStringBuilder")⟩ := by decide +kernel
theorem ef_10 (m : MethodId) (x0 : Addr) (x1 : Addr) : entryFrame m #[(.ref x0), (.ref x1)] 2 = mkF m 0 #[.val (.ref x0), .val (.ref x1)] [] := by first | (simp [entryFrame, mkF, argsToLocals, Value.category]; done) | rfl
set_option maxRecDepth 65536 in
set_option maxHeartbeats 40000000 in
theorem rm10 (l : Launch) (Z : State) (a0 : Array Value) (hw : ∀ d ∈ tables_1, d.before a0 Z = true) (ws : List Jvm.Cond) (a1 : Addr) (a2 : Addr) (G1 : Int32) (bv : Addr) (sv : Addr) (c0 : Int32) (k_bv : ClassId) (z_bv : Int32) (vs_bv : List Value) (dv_bv : Value) (k_sv : ClassId) (z_sv : Int32) (vs_sv : List Value) (dv_sv : Value) (h0 : Heap) (n0 : Nat) (Z0 : n0 ≤ h0.size) (S_COMPACT_STRINGS : Sta Z Z.heap "java/lang/String" "COMPACT_STRINGS" "Z" (.int G1)) (X00 : Old Z n0 h0) (P3 : ¬ (G1 = (0 : Int32))) (E_a1 : Exa Z h0 a1 "java/lang/StringBuilder") (F_value_a1 : Fld Z h0 a1 "java/lang/AbstractStringBuilder" "value" "[B" (.ref bv)) (F_coder_a1 : Fld Z h0 a1 "java/lang/AbstractStringBuilder" "coder" "B" (.int (0 : Int32))) (F_count_a1 : Fld Z h0 a1 "java/lang/AbstractStringBuilder" "count" "I" (.int c0)) (E_a2 : Exa Z h0 a2 "java/lang/String") (F_value_a2 : Fld Z h0 a2 "java/lang/String" "value" "[B" (.ref sv)) (F_coder_a2 : Fld Z h0 a2 "java/lang/String" "coder" "B" (.int (0 : Int32))) (V_bv : Arv Z h0 bv k_bv .byte z_bv vs_bv dv_bv) (V_sv : Arv Z h0 sv k_sv .byte z_sv vs_sv dv_sv) (g_bv : n0 ≤ bv) (g_a1 : n0 ≤ a1) (hzl : z_sv.toNatClampNeg = vs_sv.length) (hps : ¬ c0 < 0) (hbo : c0.toNatClampNeg + vs_sv.length ≤ z_bv.toNatClampNeg) (hln : c0.toNatClampNeg + vs_sv.length ≤ vs_bv.length) (hcap : ¬ ((0 : Int32) < ((c0 + z_sv) - (z_bv >>> ((0 : Int32) &&& 31))))) :
    MetFree l (⟨"java/lang/StringBuilder", "append", "(Ljava/lang/String;)Ljava/lang/StringBuilder;"⟩ : MethodName) (head1 (Jvm.Cond.code (⟨"java/lang/StringBuilder", "append", "(Ljava/lang/String;)Ljava/lang/StringBuilder;"⟩ : MethodName) jdk_67_method_7_code 2 (some (.object "java/lang/StringBuilder")) :: ws) ({ frames := 4, cells := 0, slots := 0, locals := 78 } : Room)) (fun a U => a = #[(.ref a1), (.ref a2)] ∧ Z.Warmed39 U.vm ∧ U.heap = h0) (fun _ _ _ _ _ => True) (fun _ U o U' => ∃ v L, o = .returned v ∧ own_QB Z a1 (c0 + z_sv) bv k_bv z_bv (own_upd vs_bv c0.toNatClampNeg vs_sv) dv_bv h0 n0 v U'.heap L ∧ FrameEnd U o U' L ({ frames := 4, cells := 0, slots := 0, locals := 78 } : Room).cells ({ frames := 4, cells := 0, slots := 0, locals := 78 } : Room).slots) := by
  refine MetFree.of_bodySF (plainFor_of_name pn_10) hisR ?_
  intro p e s m args below meth c s₁ Bd hml0 hP hK
  obtain ⟨rfl, hZ, hh⟩ := hP
  have hx := Bd.exec
  have hby := Bd.bytes
  have hml : c.maxLocals = 2 := hml0
  have hown : s.vm.findClass "java/lang/StringBuilder" = some m.cls := findClass_of_methodNamed Bd.named
  have hnm := (name_of_methodNamed Bd.named Bd.method).1
  have X0 : Stand p l e ({ frames := 4, cells := 0, slots := 0, locals := 78 } : Room) s m #[(.ref a1), (.ref a2)] below meth c s₁ [] 0 0 := Stand.of_body Bd
  have e0 : s₁.heap = h0 := by rw [← hh, Bd.state]; rfl
  have N0 := Fr.nil n0
  have pre0 : ∀ t, Steps p.tables e below (s₁.setTop (mkF m 0 #[.val (.ref a1), .val (.ref a2)] [])) t → Steps p.tables e below (s₁.setTop (entryFrame m #[(.ref a1), (.ref a2)] 2)) t := fun t k => castTop (ef_10 m a1 a2) k
  obtain ⟨_, _, ⟨T3, L3, k3, n3⟩, -, X3, ⟨Lc3, hQ3, l3, y3, z3⟩, st3⟩ := superBack X0 hx hZ (y := (⟨"java/lang/AbstractStringBuilder", "append", "(Ljava/lang/String;)Ljava/lang/AbstractStringBuilder;"⟩ : MethodName)) hown (hw _ (wI 61 rfl)) (own_same (hw _ (wI 62 rfl)) (by decide) (own_notIf (y := (⟨"java/lang/AbstractStringBuilder", "ensureCapacityInternal", "(I)V"⟩ : MethodName)) (hw _ (wI 81 rfl)))) (hw _ (wI 62 rfl)) (hw _ (wI 63 rfl)) (by decide) (backOf (W := 0) (rm11 l Z a0 hw [] a1 a2 G1 bv sv c0 k_bv z_bv vs_bv dv_bv k_sv z_sv vs_sv dv_sv h0 n0 Z0 S_COMPACT_STRINGS X00 P3 E_a1 F_value_a1 F_coder_a1 F_count_a1 E_a2 F_value_a2 F_coder_a2 V_bv V_sv g_bv g_a1 hzl hps hbo hln hcap) hZ (hw _ (wI 65 rfl)) (hw _ (wI 47 rfl)) (by decide) (by decide)) e0 (Ins.self E_a1) (g := (mkF m 2 #[.val (.ref a1), .val (.ref a2)] [(.ref a2), (.ref a1)])) rfl (by rw [hml]; rfl) (hw _ (wI 65 rfl)) (argsL := [(.ref a2)]) (rest := []) (lenOf pd_10_9 rfl) rfl (by show 2 * 0 + _ ≤ _; exact Nat.le_of_eq rfl) (hb hby d10_2) (fun _ _ => ⟨rfl, e0, (by decide : 0 + 0 ≤ _), (by decide : 0 + 0 ≤ _)⟩)
  dsimp only [Pt.U, Pt.locs, Pt.cells, Pt.slots] at X3 l3 y3 z3 st3 hQ3
  subst l3 y3 z3
  obtain ⟨rfl, N3q, KcX, FcX, FvX, FdX, VcX⟩ := hQ3
  have N3 := Fr.app N0 N3q
  have Kq3 : Keep h0 T3.heap [bv, a1] := KcX
  have K3 : Keep h0 T3.heap [a1, bv] := (Keep.refl h0 [a1, bv]).trans Kq3 (own_trS (Or.inl (List.mem_of_getElem? (i := 1) rfl)) (own_trS (Or.inl (List.mem_of_getElem? (i := 0) rfl)) all0))
  obtain ⟨fs, hr, hrun, hended, hW, hsame⟩ := X3.leave (v := some (.ref a1)) (fun h => by rw [Bd.returns] at h; cases h)
  refine ⟨_, _, pre0 _ ?_, hrun, hended, _, _, rfl, ?_, ⟨_, rfl⟩, hW, hsame.mono (by decide) (by decide)⟩
  · show Steps p.tables e below (s₁.setTop (mkF m 0 #[.val (.ref a1), .val (.ref a2)] [])) _
    refine XS.aloadN X0.here hx rfl (hb hby d10_0) rfl rfl ?_
    show Steps p.tables e below (s₁.setTop (mkF m 1 #[.val (.ref a1), .val (.ref a2)] [(.ref a1)])) _
    refine XS.aloadN X0.here hx rfl (hb hby d10_1) rfl rfl ?_
    show Steps p.tables e below (s₁.setTop (mkF m 2 #[.val (.ref a1), .val (.ref a2)] [(.ref a2), (.ref a1)])) _
    refine st3.trans ?_
    show Steps p.tables e below (T3.setTop (mkF m 5 #[.val (.ref a1), .val (.ref a2)] [(.ref a1)])) _
    refine XS.pop X3.here hx rfl (hb hby d10_5) rfl rfl ?_
    show Steps p.tables e below (T3.setTop (mkF m 6 #[.val (.ref a1), .val (.ref a2)] [])) _
    refine XS.aloadN X3.here hx rfl (hb hby d10_6) rfl rfl ?_
    show Steps p.tables e below (T3.setTop (mkF m 7 #[.val (.ref a1), .val (.ref a2)] [(.ref a1)])) _
    jvm_step X3.here [X3.here.top, hx, (hb hby d10_7), X3.method', Bd.returns, Value.isRef, FieldType.isReference]
    first | (intro acts; rw [hr _ acts rfl rfl rfl]) | rw [hr _ _ rfl rfl rfl]
    exact Steps.refl _
  · show own_QB Z a1 (c0 + z_sv) bv k_bv z_bv (own_upd vs_bv c0.toNatClampNeg vs_sv) dv_bv h0 n0 _ T3.heap _
    exact ⟨rfl, N3, KcX, FcX, FvX, FdX, VcX⟩
theorem own_sub0 (z : Int32) : z - (0 : Int32) = z := by
  apply Int32.toInt_inj.mp
  rw [Int32.toInt_sub]
  have a := z.toInt_lt; have b := z.le_toInt
  have e : ((0 : Int32)).toInt = 0 := rfl
  rw [e, Int.sub_zero]
  exact Int32.toInt_bmod z
theorem own_rangeT (vs : List Value) (d : Value) (k : Nat) (h : k ≤ vs.length) : vs.take k = (List.range k).map fun i => vs.getD (((0 : Int32)).toNatClampNeg + i) d := by
  have e : ((0 : Int32)).toNatClampNeg = 0 := rfl
  rw [e]
  simp only [Nat.zero_add]
  apply List.ext_getElem
  · simp; omega
  · intro i h1 h2
    have h3 : i < vs.length := by simp at h1; omega
    simp [List.getD_eq_getElem?_getD, List.getElem?_eq_getElem h3]
theorem own_nelt {a b : Int32} (h : a < b) : ¬ a = b := fun q => by subst q; exact absurd h (by simp)
theorem own_cl {a b : Int32} (h : a < b) : a.toNatClampNeg ≤ b.toNatClampNeg := by
  have := Int32.lt_iff_toInt_lt.mp h
  simp only [Int32.toNatClampNeg]
  omega
def own_QN (Z : State) (a1 : Addr) (h0 : Heap) (n0 : Nat) (v : Option Value) (h : Heap) (L : List Loc) : Prop := v = none ∧ Fr n0 L ∧ Keep h0 h [a1] ∧ ∃ (b : Addr) (k : ClassId), n0 ≤ b ∧ h0.size ≤ b ∧ Fld Z h a1 "java/lang/AbstractStringBuilder" "value" "[B" (.ref b) ∧ Fld Z h a1 "java/lang/AbstractStringBuilder" "coder" "B" (.int (0 : Int32)) ∧ Fld Z h a1 "java/lang/AbstractStringBuilder" "count" "I" (.int (0 : Int32)) ∧ Arv Z h b k .byte (16 : Int32) (List.replicate 16 (.int (0 : Int32))) (.int (0 : Int32))
def own_QC (Z : State) (c : Int32) (vs : List Value) (h0 : Heap) (n0 : Nat) (v : Option Value) (h : Heap) (L : List Loc) : Prop := ∃ b : Addr, v = some (.ref b) ∧ Fr n0 L ∧ n0 ≤ b ∧ h0.size ≤ b ∧ Keep h0 h [] ∧ ∃ k : ClassId, Arv Z h b k .byte c vs (.int (0 : Int32))
def own_QI (Z : State) (a1 : Addr) (c : Int32) (vs : List Value) (h0 : Heap) (n0 : Nat) (v : Option Value) (h : Heap) (L : List Loc) : Prop := v = none ∧ Fr n0 L ∧ Keep h0 h [a1] ∧ ∃ (t : Addr) (k : ClassId), n0 ≤ t ∧ h0.size ≤ t ∧ Fld Z h a1 "java/lang/String" "value" "[B" (.ref t) ∧ Fld Z h a1 "java/lang/String" "coder" "B" (.int (0 : Int32)) ∧ Arv Z h t k .byte c vs (.int (0 : Int32))
def own_QS (Z : State) (c : Int32) (vs : List Value) (h0 : Heap) (n0 : Nat) (v : Option Value) (h : Heap) (L : List Loc) : Prop := ∃ b : Addr, v = some (.ref b) ∧ Fr n0 L ∧ n0 ≤ b ∧ h0.size ≤ b ∧ Keep h0 h [] ∧ Exa Z h b "java/lang/String" ∧ ∃ (t : Addr) (k : ClassId), n0 ≤ t ∧ h0.size ≤ t ∧ Fld Z h b "java/lang/String" "value" "[B" (.ref t) ∧ Fld Z h b "java/lang/String" "coder" "B" (.int (0 : Int32)) ∧ Arv Z h t k .byte c vs (.int (0 : Int32))
theorem d9_0 : decode jdk_68_method_2_code 0 = .ok (.aload_n 0, 1) := by decide +kernel
theorem d9_1 : decode jdk_68_method_2_code 1 = .ok (.invokespecial 3, 3) := by decide +kernel
theorem d9_4 : decode jdk_68_method_2_code 4 = .ok (.getstatic 18, 3) := by decide +kernel
theorem d9_7 : decode jdk_68_method_2_code 7 = .ok (.ifCond .eq 18, 3) := by decide +kernel
theorem d9_10 : decode jdk_68_method_2_code 10 = .ok (.aload_n 0, 1) := by decide +kernel
theorem d9_11 : decode jdk_68_method_2_code 11 = .ok (.iload_n 1, 1) := by decide +kernel
theorem d9_12 : decode jdk_68_method_2_code 12 = .ok (.newarray .byte, 2) := by decide +kernel
theorem d9_14 : decode jdk_68_method_2_code 14 = .ok (.putfield 15, 3) := by decide +kernel
theorem d9_17 : decode jdk_68_method_2_code 17 = .ok (.aload_n 0, 1) := by decide +kernel
theorem d9_18 : decode jdk_68_method_2_code 18 = .ok (.iconst 0, 1) := by decide +kernel
theorem d9_19 : decode jdk_68_method_2_code 19 = .ok (.putfield 22, 3) := by decide +kernel
theorem d9_22 : decode jdk_68_method_2_code 22 = .ok (.goto 16, 3) := by decide +kernel
theorem d9_38 : decode jdk_68_method_2_code 38 = .ok (.return_, 1) := by decide +kernel
theorem pn_9 : plainName "java/lang/AbstractStringBuilder" = true := by first | (simp [plainName, overriddenIn]; done) | decide +kernel
theorem ef_9 (m : MethodId) (x0 : Addr) (x1 : Int32) : entryFrame m #[(.ref x0), (.int x1)] 2 = mkF m 0 #[.val (.ref x0), .val (.int x1)] [] := by first | (simp [entryFrame, mkF, argsToLocals, Value.category]; done) | rfl
set_option maxRecDepth 65536 in
set_option maxHeartbeats 40000000 in
theorem rm9 (l : Launch) (Z : State) (a0 : Array Value) (hw : ∀ d ∈ tables_1, d.before a0 Z = true) (ws : List Jvm.Cond) (a1 : Addr) (_p2 : Int32) (G1 : Int32) (h0 : Heap) (n0 : Nat) (Z0 : n0 ≤ h0.size) (S_COMPACT_STRINGS : Sta Z Z.heap "java/lang/String" "COMPACT_STRINGS" "Z" (.int G1)) (X00 : Old Z n0 h0) (P3 : ¬ (G1 = (0 : Int32))) (E_a1 : Exa Z h0 a1 "java/lang/StringBuilder") (F_value_a1 : Fld Z h0 a1 "java/lang/AbstractStringBuilder" "value" "[B" .null) (F_coder_a1 : Fld Z h0 a1 "java/lang/AbstractStringBuilder" "coder" "B" (.int (0 : Int32))) (F_count_a1 : Fld Z h0 a1 "java/lang/AbstractStringBuilder" "count" "I" (.int (0 : Int32))) (g_a1 : n0 ≤ a1) :
    MetFree l (⟨"java/lang/AbstractStringBuilder", "<init>", "(I)V"⟩ : MethodName) (head1 (Jvm.Cond.code (⟨"java/lang/AbstractStringBuilder", "<init>", "(I)V"⟩ : MethodName) jdk_68_method_2_code 2 none :: ws) ({ frames := 1, cells := 1, slots := 16, locals := 12 } : Room)) (fun a U => a = #[(.ref a1), (.int (16 : Int32))] ∧ Z.Warmed39 U.vm ∧ U.heap = h0) (fun _ _ _ _ _ => True) (fun _ U o U' => ∃ v L, o = .returned v ∧ own_QN Z a1 h0 n0 v U'.heap L ∧ FrameEnd U o U' L ({ frames := 1, cells := 1, slots := 16, locals := 12 } : Room).cells ({ frames := 1, cells := 1, slots := 16, locals := 12 } : Room).slots) := by
  refine MetFree.of_bodySF (plainFor_of_name pn_9) hisR ?_
  intro p e s m args below meth c s₁ Bd hml0 hP hK
  obtain ⟨rfl, hZ, hh⟩ := hP
  have hx := Bd.exec
  have hby := Bd.bytes
  have hml : c.maxLocals = 2 := hml0
  have hown : s.vm.findClass "java/lang/AbstractStringBuilder" = some m.cls := findClass_of_methodNamed Bd.named
  have hnm := (name_of_methodNamed Bd.named Bd.method).1
  have X0 : Stand p l e ({ frames := 1, cells := 1, slots := 16, locals := 12 } : Room) s m #[(.ref a1), (.int (16 : Int32))] below meth c s₁ [] 0 0 := Stand.of_body Bd
  have e0 : s₁.heap = h0 := by rw [← hh, Bd.state]; rfl
  have N0 := Fr.nil n0
  have pre0 : ∀ t, Steps p.tables e below (s₁.setTop (mkF m 0 #[.val (.ref a1), .val (.int (16 : Int32))] [])) t → Steps p.tables e below (s₁.setTop (entryFrame m #[(.ref a1), (.int (16 : Int32))] 2)) t := fun t k => castTop (ef_9 m a1 (16 : Int32)) k
  obtain ⟨T2, X2, e2, st2⟩ := initO X0 hx hZ hown (hw _ (wI 49 rfl)) (hw _ (wI 12 rfl)) (hw _ (wI 13 rfl)) e0 (g := (mkF m 1 #[.val (.ref a1), .val (.int (16 : Int32))] [(.ref a1)])) rfl (by rw [hml]; rfl) rfl (hb hby d9_1) (by decide) (W := 0) (by show 2 * 0 + _ ≤ _; exact Nat.le_of_eq rfl) (by decide)
  obtain ⟨T3, X3, e3, st3⟩ := getS2 X2 hx hZ hown (host := "") (Or.inl (hw _ (wI 50 rfl))) Via.refl e2 (S_COMPACT_STRINGS.ext X00.2) (g := (mkF m 4 #[.val (.ref a1), .val (.int (16 : Int32))] [])) rfl (hb hby d9_4)
  obtain ⟨T4, h4, k4, X4, e4, E4, A4, st4⟩ := newP X3 hx hZ (hw _ (wI 19 rfl)) e3 (g := (mkF m 12 #[.val (.ref a1), .val (.int (16 : Int32))] [(.int (16 : Int32)), (.ref a1)])) rfl (hb hby d9_12) rfl (by decide) (cap := 16) (by decide) (by decide) (by decide) (by decide)
  obtain ⟨b4, g4⟩ : ∃ z, z = h0.size := ⟨_, rfl⟩
  rw [← g4] at A4 st4
  have V_b4 : Arv Z h4 b4 k4 .byte (16 : Int32) [(.int (0 : Int32)), (.int (0 : Int32)), (.int (0 : Int32)), (.int (0 : Int32)), (.int (0 : Int32)), (.int (0 : Int32)), (.int (0 : Int32)), (.int (0 : Int32)), (.int (0 : Int32)), (.int (0 : Int32)), (.int (0 : Int32)), (.int (0 : Int32)), (.int (0 : Int32)), (.int (0 : Int32)), (.int (0 : Int32)), (.int (0 : Int32))] (.int (0 : Int32)) := (Arv.new A4 (by decide)).pad (pad_rep [] (.int (0 : Int32)) 16)
  have g_b4 : n0 ≤ b4 := Nat.le_trans Z0 (Nat.le_of_eq g4.symm)
  have sz_b4 : h0.size ≤ b4 := (Nat.le_trans (Keep.refl h0 [a1]).1 (Nat.le_of_eq g4.symm))
  have K4 : Keep h0 h4 [a1] := (Keep.refl h0 [a1]).ext E4
  obtain ⟨T5, h5, X5, e5, W5, st5⟩ := putF X4 hx hZ hown (host := "") (Or.inl (hw _ (wI 51 rfl))) Via.refl e4 (F_value_a1.ext E4) (E_a1.ext E4) (Or.inl (hw _ (wI 52 rfl))) (hw _ (wI 38 rfl)) (ty := (.array .byte)) (by decide) rfl rfl (g := (mkF m 14 #[.val (.ref a1), .val (.int (16 : Int32))] [(.ref b4), (.ref a1)])) rfl rfl (hb hby d9_14)
  have Fw5 := (F_value_a1.ext E4).same W5
  have K5 : Keep h0 h5 [a1] := K4.wr W5 (Or.inl (List.mem_of_getElem? (i := 0) rfl))
  have N5 := Fr.snoc X5 N0 g_a1
  obtain ⟨T6, h6, X6, e6, W6, st6⟩ := putFN X5 hx hZ hown (hw _ (wI 53 rfl)) Via.refl e5 ((F_coder_a1.ext E4).other W5 (Or.inr (slot_ne (Or.inl (hw _ (wI 54 rfl))) (Or.inl (hw _ (wI 52 rfl))) (by decide) (t := .byte) (t' := (.array .byte)) (by decide) (by decide)))) ((E_a1.ext E4).wr W5) (Or.inl (hw _ (wI 54 rfl))) (hw _ (wI 38 rfl)) (ty := .byte) (v' := .int (nar .byte (0 : Int32))) (by decide) rfl (fits_nar_byte _) (g := (mkF m 19 #[.val (.ref a1), .val (.int (16 : Int32))] [(.int (0 : Int32)), (.ref a1)])) rfl rfl (hb hby d9_19)
  have Fw6 := ((F_coder_a1.ext E4).other W5 (Or.inr (slot_ne (Or.inl (hw _ (wI 54 rfl))) (Or.inl (hw _ (wI 52 rfl))) (by decide) (t := .byte) (t' := (.array .byte)) (by decide) (by decide)))).same W6
  have K6 : Keep h0 h6 [a1] := K5.wr W6 (Or.inl (List.mem_of_getElem? (i := 0) rfl))
  have N6 := Fr.snoc X6 N5 g_a1
  have End_0 := (Fw5.other W6 (Or.inr (slot_ne (Or.inl (hw _ (wI 52 rfl))) (Or.inl (hw _ (wI 54 rfl))) (by decide) (t := (.array .byte)) (t' := .byte) (by decide) (by decide))))
  have End_1 := Fw6
  have End_2 := (((F_count_a1.ext E4).other W5 (Or.inr (slot_ne (Or.inl (hw _ (wI 77 rfl))) (Or.inl (hw _ (wI 52 rfl))) (by decide) (t := .int) (t' := (.array .byte)) (by decide) (by decide)))).other W6 (Or.inr (slot_ne (Or.inl (hw _ (wI 77 rfl))) (Or.inl (hw _ (wI 54 rfl))) (by decide) (t := .int) (t' := .byte) (by decide) (by decide))))
  have End_3 := ((V_b4.other W5 (Ne.symm (Nat.ne_of_lt (Nat.lt_of_lt_of_le E_a1.lt (Nat.le_of_eq g4.symm))))).other W6 (Ne.symm (Nat.ne_of_lt (Nat.lt_of_lt_of_le E_a1.lt (Nat.le_of_eq g4.symm)))))
  obtain ⟨fs, hr, hrun, hended, hW, hsame⟩ := X6.leave (v := none) (fun _ => rfl)
  refine ⟨_, _, pre0 _ ?_, hrun, hended, _, _, rfl, ?_, ⟨_, rfl⟩, hW, hsame.mono (by decide) (by decide)⟩
  · show Steps p.tables e below (s₁.setTop (mkF m 0 #[.val (.ref a1), .val (.int (16 : Int32))] [])) _
    refine XS.aloadN X0.here hx rfl (hb hby d9_0) rfl rfl ?_
    show Steps p.tables e below (s₁.setTop (mkF m 1 #[.val (.ref a1), .val (.int (16 : Int32))] [(.ref a1)])) _
    refine st2 _ ?_
    show Steps p.tables e below (T2.setTop (mkF m 4 #[.val (.ref a1), .val (.int (16 : Int32))] [])) _
    refine st3 _ ?_
    show Steps p.tables e below (T3.setTop (mkF m 7 #[.val (.ref a1), .val (.int (16 : Int32))] [(.int G1)])) _
    refine XS.ifNo X3.here hx rfl (hb hby d9_7) rfl ((if0 _ _).trans (feq P3).1) ?_
    show Steps p.tables e below (T3.setTop (mkF m 10 #[.val (.ref a1), .val (.int (16 : Int32))] [])) _
    refine XS.aloadN X3.here hx rfl (hb hby d9_10) rfl rfl ?_
    show Steps p.tables e below (T3.setTop (mkF m 11 #[.val (.ref a1), .val (.int (16 : Int32))] [(.ref a1)])) _
    refine XS.iloadN X3.here hx rfl (hb hby d9_11) rfl ?_
    show Steps p.tables e below (T3.setTop (mkF m 12 #[.val (.ref a1), .val (.int (16 : Int32))] [(.int (16 : Int32)), (.ref a1)])) _
    refine st4 _ ?_
    show Steps p.tables e below (T4.setTop (mkF m 14 #[.val (.ref a1), .val (.int (16 : Int32))] [(.ref b4), (.ref a1)])) _
    refine st5 _ ?_
    show Steps p.tables e below (T5.setTop (mkF m 17 #[.val (.ref a1), .val (.int (16 : Int32))] [])) _
    refine XS.aloadN X5.here hx rfl (hb hby d9_17) rfl rfl ?_
    show Steps p.tables e below (T5.setTop (mkF m 18 #[.val (.ref a1), .val (.int (16 : Int32))] [(.ref a1)])) _
    refine XS.iconst X5.here hx rfl (hb hby d9_18) ?_
    show Steps p.tables e below (T5.setTop (mkF m 19 #[.val (.ref a1), .val (.int (16 : Int32))] [(.int (0 : Int32)), (.ref a1)])) _
    refine st6 _ ?_
    show Steps p.tables e below (T6.setTop (mkF m 22 #[.val (.ref a1), .val (.int (16 : Int32))] [])) _
    refine XS.goto X6.here hx rfl (pc0 := 22) (pc' := 38) rfl (hb hby d9_22) (by decide) (by decide) ?_
    show Steps p.tables e below (T6.setTop (mkF m 38 #[.val (.ref a1), .val (.int (16 : Int32))] [])) _
    exact X6.returnOut hx Bd.returns (hb hby d9_38) hr
  · show own_QN Z a1 h0 n0 _ T6.heap _
    rw [e6]
    exact ⟨rfl, N6, K6, b4, k4, g_b4, sz_b4, End_0, End_1, End_2, End_3⟩
theorem d8_0 : decode jdk_67_method_1_code 0 = .ok (.aload_n 0, 1) := by decide +kernel
theorem d8_1 : decode jdk_67_method_1_code 1 = .ok (.bipush 16, 2) := by decide +kernel
theorem d8_3 : decode jdk_67_method_1_code 3 = .ok (.invokespecial 1, 3) := by decide +kernel
theorem d8_6 : decode jdk_67_method_1_code 6 = .ok (.return_, 1) := by decide +kernel
theorem pn_8 : plainName "java/lang/StringBuilder" = true := by first | (simp [plainName, overriddenIn]; done) | decide +kernel
theorem pd_8_7 : parseMethodDescriptor "(I)V" = some ⟨[.int], none⟩ := by decide +kernel
theorem ef_8 (m : MethodId) (x0 : Addr) : entryFrame m #[(.ref x0)] 1 = mkF m 0 #[.val (.ref x0)] [] := by first | (simp [entryFrame, mkF, argsToLocals, Value.category]; done) | rfl
set_option maxRecDepth 65536 in
set_option maxHeartbeats 40000000 in
theorem rm8 (l : Launch) (Z : State) (a0 : Array Value) (hw : ∀ d ∈ tables_1, d.before a0 Z = true) (ws : List Jvm.Cond) (a1 : Addr) (G1 : Int32) (h0 : Heap) (n0 : Nat) (Z0 : n0 ≤ h0.size) (S_COMPACT_STRINGS : Sta Z Z.heap "java/lang/String" "COMPACT_STRINGS" "Z" (.int G1)) (X00 : Old Z n0 h0) (P3 : ¬ (G1 = (0 : Int32))) (E_a1 : Exa Z h0 a1 "java/lang/StringBuilder") (F_value_a1 : Fld Z h0 a1 "java/lang/AbstractStringBuilder" "value" "[B" .null) (F_coder_a1 : Fld Z h0 a1 "java/lang/AbstractStringBuilder" "coder" "B" (.int (0 : Int32))) (F_count_a1 : Fld Z h0 a1 "java/lang/AbstractStringBuilder" "count" "I" (.int (0 : Int32))) (g_a1 : n0 ≤ a1) :
    MetFree l (⟨"java/lang/StringBuilder", "<init>", "()V"⟩ : MethodName) (head1 (Jvm.Cond.code (⟨"java/lang/StringBuilder", "<init>", "()V"⟩ : MethodName) jdk_67_method_1_code 1 none :: ws) ({ frames := 2, cells := 1, slots := 16, locals := 25 } : Room)) (fun a U => a = #[(.ref a1)] ∧ Z.Warmed39 U.vm ∧ U.heap = h0) (fun _ _ _ _ _ => True) (fun _ U o U' => ∃ v L, o = .returned v ∧ own_QN Z a1 h0 n0 v U'.heap L ∧ FrameEnd U o U' L ({ frames := 2, cells := 1, slots := 16, locals := 25 } : Room).cells ({ frames := 2, cells := 1, slots := 16, locals := 25 } : Room).slots) := by
  refine MetFree.of_bodySF (plainFor_of_name pn_8) hisR ?_
  intro p e s m args below meth c s₁ Bd hml0 hP hK
  obtain ⟨rfl, hZ, hh⟩ := hP
  have hx := Bd.exec
  have hby := Bd.bytes
  have hml : c.maxLocals = 1 := hml0
  have hown : s.vm.findClass "java/lang/StringBuilder" = some m.cls := findClass_of_methodNamed Bd.named
  have hnm := (name_of_methodNamed Bd.named Bd.method).1
  have X0 : Stand p l e ({ frames := 2, cells := 1, slots := 16, locals := 25 } : Room) s m #[(.ref a1)] below meth c s₁ [] 0 0 := Stand.of_body Bd
  have e0 : s₁.heap = h0 := by rw [← hh, Bd.state]; rfl
  have N0 := Fr.nil n0
  have pre0 : ∀ t, Steps p.tables e below (s₁.setTop (mkF m 0 #[.val (.ref a1)] [])) t → Steps p.tables e below (s₁.setTop (entryFrame m #[(.ref a1)] 1)) t := fun t k => castTop (ef_8 m a1) k
  obtain ⟨_, _, ⟨T2, L2, k2, n2⟩, -, X2, ⟨Lc2, hQ2, l2, y2, z2⟩, st2⟩ := X0.specialBack hx (y := (⟨"java/lang/AbstractStringBuilder", "<init>", "(I)V"⟩ : MethodName)) rfl hown (mvT hZ (hw _ (wI 43 rfl))) (mvT hZ (hw _ (wI 44 rfl))) (mvT hZ (hw _ (wI 48 rfl))) (by decide) (backOf (W := 0) (rm9 l Z a0 hw [] a1 (16 : Int32) G1 h0 n0 Z0 S_COMPACT_STRINGS X00 P3 E_a1 F_value_a1 F_coder_a1 F_count_a1 g_a1) hZ (hw _ (wI 48 rfl)) (hw _ (wI 47 rfl)) (by decide) (by decide)) (g := (mkF m 3 #[.val (.ref a1)] [(.int (16 : Int32)), (.ref a1)])) rfl (by rw [hml]; rfl) (Steps.refl _) (a := a1) (argsL := [(.int (16 : Int32))]) (rest := []) (lenOf pd_8_7 rfl) rfl (by show 2 * 0 + _ ≤ _; exact Nat.le_of_eq rfl) (hb hby d8_3) (fun _ _ => ⟨rfl, e0, (by decide : 0 + 1 ≤ _), (by decide : 0 + 16 ≤ _)⟩)
  dsimp only [Pt.U, Pt.locs, Pt.cells, Pt.slots] at X2 l2 y2 z2 st2 hQ2
  subst l2 y2 z2
  obtain ⟨rfl, N2q, Kc, Rc⟩ := hQ2
  have N2 := Fr.app N0 N2q
  have Kq2 : Keep h0 T2.heap [a1] := Kc
  have K2 : Keep h0 T2.heap [a1] := (Keep.refl h0 [a1]).trans Kq2 (own_trS (Or.inl (List.mem_of_getElem? (i := 0) rfl)) all0)
  obtain ⟨fs, hr, hrun, hended, hW, hsame⟩ := X2.leave (v := none) (fun _ => rfl)
  refine ⟨_, _, pre0 _ ?_, hrun, hended, _, _, rfl, ?_, ⟨_, rfl⟩, hW, hsame.mono (by decide) (by decide)⟩
  · show Steps p.tables e below (s₁.setTop (mkF m 0 #[.val (.ref a1)] [])) _
    refine XS.aloadN X0.here hx rfl (hb hby d8_0) rfl rfl ?_
    show Steps p.tables e below (s₁.setTop (mkF m 1 #[.val (.ref a1)] [(.ref a1)])) _
    refine XS.bipush X0.here hx rfl (hb hby d8_1) ?_
    show Steps p.tables e below (s₁.setTop (mkF m 3 #[.val (.ref a1)] [(.int (16 : Int32)), (.ref a1)])) _
    refine st2.trans ?_
    show Steps p.tables e below (T2.setTop (mkF m 6 #[.val (.ref a1)] [])) _
    exact X2.returnOut hx Bd.returns (hb hby d8_6) hr
  · show own_QN Z a1 h0 n0 _ T2.heap _
    exact ⟨rfl, N2, Kc, Rc⟩
theorem d32_0 : decode jdk_65_method_131_code 0 = .ok (.iload_n 1, 1) := by decide +kernel
theorem d32_1 : decode jdk_65_method_131_code 1 = .ok (.iload_n 0, 1) := by decide +kernel
theorem d32_2 : decode jdk_65_method_131_code 2 = .ok (.if_icmp .ge 35, 3) := by decide +kernel
theorem d32_37 : decode jdk_65_method_131_code 37 = .ok (.return_, 1) := by decide +kernel
theorem pn_32 : plainName "java/util/Arrays" = true := by first | (simp [plainName, overriddenIn]; done) | decide +kernel
theorem ef_32 (m : MethodId) (x0 : Int32) (x1 : Int32) : entryFrame m #[(.int x0), (.int x1)] 2 = mkF m 0 #[.val (.int x0), .val (.int x1)] [] := by first | (simp [entryFrame, mkF, argsToLocals, Value.category]; done) | rfl
set_option maxRecDepth 65536 in
set_option maxHeartbeats 40000000 in
theorem rm32 (l : Launch) (Z : State) (a0 : Array Value) (hw : ∀ d ∈ tables_1, d.before a0 Z = true) (ws : List Jvm.Cond) (p1 : Int32) (p2 : Int32) (h0 : Heap) (n0 : Nat) (Z0 : n0 ≤ h0.size) (hc2 : ¬ (p2 < p1)) :
    MetFree l (⟨"java/util/Arrays", "checkLength", "(II)V"⟩ : MethodName) (head1 (Jvm.Cond.code (⟨"java/util/Arrays", "checkLength", "(II)V"⟩ : MethodName) jdk_65_method_131_code 2 none :: ws) ({ frames := 0, cells := 0, slots := 0, locals := 0 } : Room)) (fun a U => a = #[(.int p1), (.int p2)] ∧ Z.Warmed39 U.vm ∧ U.heap = h0) (fun _ _ _ _ _ => True) (fun _ U o U' => ∃ v L, o = .returned v ∧ own_Q0 h0 n0 v U'.heap L ∧ FrameEnd U o U' L ({ frames := 0, cells := 0, slots := 0, locals := 0 } : Room).cells ({ frames := 0, cells := 0, slots := 0, locals := 0 } : Room).slots) := by
  refine MetFree.of_bodySF (plainFor_of_name pn_32) hisR ?_
  intro p e s m args below meth c s₁ Bd hml0 hP hK
  obtain ⟨rfl, hZ, hh⟩ := hP
  have hx := Bd.exec
  have hby := Bd.bytes
  have hml : c.maxLocals = 2 := hml0
  have hown : s.vm.findClass "java/util/Arrays" = some m.cls := findClass_of_methodNamed Bd.named
  have hnm := (name_of_methodNamed Bd.named Bd.method).1
  have X0 : Stand p l e ({ frames := 0, cells := 0, slots := 0, locals := 0 } : Room) s m #[(.int p1), (.int p2)] below meth c s₁ [] 0 0 := Stand.of_body Bd
  have e0 : s₁.heap = h0 := by rw [← hh, Bd.state]; rfl
  have N0 := Fr.nil n0
  have pre0 : ∀ t, Steps p.tables e below (s₁.setTop (mkF m 0 #[.val (.int p1), .val (.int p2)] [])) t → Steps p.tables e below (s₁.setTop (entryFrame m #[(.int p1), (.int p2)] 2)) t := fun t k => castTop (ef_32 m p1 p2) k

  obtain ⟨fs, hr, hrun, hended, hW, hsame⟩ := X0.leave (v := none) (fun _ => rfl)
  refine ⟨_, _, pre0 _ ?_, hrun, hended, _, _, rfl, ?_, ⟨_, rfl⟩, hW, hsame.mono (by decide) (by decide)⟩
  · show Steps p.tables e below (s₁.setTop (mkF m 0 #[.val (.int p1), .val (.int p2)] [])) _
    refine XS.iloadN X0.here hx rfl (hb hby d32_0) rfl ?_
    show Steps p.tables e below (s₁.setTop (mkF m 1 #[.val (.int p1), .val (.int p2)] [(.int p2)])) _
    refine XS.iloadN X0.here hx rfl (hb hby d32_1) rfl ?_
    show Steps p.tables e below (s₁.setTop (mkF m 2 #[.val (.int p1), .val (.int p2)] [(.int p1), (.int p2)])) _
    refine XS.icmpYes X0.here hx rfl (pc0 := 2) (pc' := 37) rfl (hb hby d32_2) rfl (flt hc2).2.1 (by decide) (by decide) ?_
    show Steps p.tables e below (s₁.setTop (mkF m 37 #[.val (.int p1), .val (.int p2)] [])) _
    exact X0.returnOut hx Bd.returns (hb hby d32_37) hr
  · show own_Q0 h0 n0 _ s₁.heap _
    rw [e0]
    exact ⟨rfl, N0, rfl⟩
theorem d19_0 : decode jdk_29_method_69_code 0 = .ok (.iload_n 0, 1) := by decide +kernel
theorem d19_1 : decode jdk_29_method_69_code 1 = .ok (.iload_n 1, 1) := by decide +kernel
theorem d19_2 : decode jdk_29_method_69_code 2 = .ok (.if_icmp .gt 7, 3) := by decide +kernel
theorem d19_9 : decode jdk_29_method_69_code 9 = .ok (.iload_n 1, 1) := by decide +kernel
theorem d19_10 : decode jdk_29_method_69_code 10 = .ok (.ireturn, 1) := by decide +kernel
theorem ef_19 (m : MethodId) (x0 : Int32) (x1 : Int32) : entryFrame m #[(.int x0), (.int x1)] 2 = mkF m 0 #[.val (.int x0), .val (.int x1)] [] := by first | (simp [entryFrame, mkF, argsToLocals, Value.category]; done) | rfl
set_option maxRecDepth 65536 in
set_option maxHeartbeats 40000000 in
theorem rm19 (l : Launch) (Z : State) (a0 : Array Value) (hw : ∀ d ∈ tables_1, d.before a0 Z = true) (ws : List Jvm.Cond) (p1 : Int32) (p2 : Int32) (h0 : Heap) (n0 : Nat) (Z0 : n0 ≤ h0.size) (hc2 : p2 < p1) :
    MetFree l (⟨"java/lang/Math", "min", "(II)I"⟩ : MethodName) (head1 (Jvm.Cond.code (⟨"java/lang/Math", "min", "(II)I"⟩ : MethodName) jdk_29_method_69_code 2 (some .int) :: ws) ({ frames := 0, cells := 0, slots := 0, locals := 0 } : Room)) (fun a U => a = #[(.int p1), (.int p2)] ∧ Z.Warmed39 U.vm ∧ U.heap = h0) (fun _ _ _ _ _ => True) (fun _ U o U' => ∃ v L, o = .returned v ∧ own_QR (.int p2) h0 n0 v U'.heap L ∧ FrameEnd U o U' L ({ frames := 0, cells := 0, slots := 0, locals := 0 } : Room).cells ({ frames := 0, cells := 0, slots := 0, locals := 0 } : Room).slots) := by
  refine MetFree.of_bodySF (Jvm.Free.JP.mathPlain rfl (by decide +kernel)) hisR ?_
  intro p e s m args below meth c s₁ Bd hml0 hP hK
  obtain ⟨rfl, hZ, hh⟩ := hP
  have hx := Bd.exec
  have hby := Bd.bytes
  have hml : c.maxLocals = 2 := hml0
  have hown : s.vm.findClass "java/lang/Math" = some m.cls := findClass_of_methodNamed Bd.named
  have hnm := (name_of_methodNamed Bd.named Bd.method).1
  have X0 : Stand p l e ({ frames := 0, cells := 0, slots := 0, locals := 0 } : Room) s m #[(.int p1), (.int p2)] below meth c s₁ [] 0 0 := Stand.of_body Bd
  have e0 : s₁.heap = h0 := by rw [← hh, Bd.state]; rfl
  have N0 := Fr.nil n0
  have pre0 : ∀ t, Steps p.tables e below (s₁.setTop (mkF m 0 #[.val (.int p1), .val (.int p2)] [])) t → Steps p.tables e below (s₁.setTop (entryFrame m #[(.int p1), (.int p2)] 2)) t := fun t k => castTop (ef_19 m p1 p2) k

  obtain ⟨fs, hr, hrun, hended, hW, hsame⟩ := X0.leave (v := some (.int p2)) (fun h => by rw [Bd.returns] at h; cases h)
  refine ⟨_, _, pre0 _ ?_, hrun, hended, _, _, rfl, ?_, ⟨_, rfl⟩, hW, hsame.mono (by decide) (by decide)⟩
  · show Steps p.tables e below (s₁.setTop (mkF m 0 #[.val (.int p1), .val (.int p2)] [])) _
    refine XS.iloadN X0.here hx rfl (hb hby d19_0) rfl ?_
    show Steps p.tables e below (s₁.setTop (mkF m 1 #[.val (.int p1), .val (.int p2)] [(.int p1)])) _
    refine XS.iloadN X0.here hx rfl (hb hby d19_1) rfl ?_
    show Steps p.tables e below (s₁.setTop (mkF m 2 #[.val (.int p1), .val (.int p2)] [(.int p2), (.int p1)])) _
    refine XS.icmpYes X0.here hx rfl (pc0 := 2) (pc' := 9) rfl (hb hby d19_2) rfl (tlt hc2).2.2.1 (by decide) (by decide) ?_
    show Steps p.tables e below (s₁.setTop (mkF m 9 #[.val (.int p1), .val (.int p2)] [])) _
    refine XS.iloadN X0.here hx rfl (hb hby d19_9) rfl ?_
    show Steps p.tables e below (s₁.setTop (mkF m 10 #[.val (.int p1), .val (.int p2)] [(.int p2)])) _
    exact retI X0 hx Bd.returns (hb hby d19_10) hr      -- retI stands in the head ('lawwalk <made dir>' prints it)
  · show own_QR (.int p2) h0 n0 _ s₁.heap _
    rw [e0]
    exact ⟨rfl, N0, rfl⟩
theorem d31_0 : decode jdk_65_method_133_code 0 = .ok (.iload_n 1, 1) := by decide +kernel
theorem d31_1 : decode jdk_65_method_133_code 1 = .ok (.iload_n 2, 1) := by decide +kernel
theorem d31_2 : decode jdk_65_method_133_code 2 = .ok (.invokestatic 343, 3) := by decide +kernel
theorem d31_5 : decode jdk_65_method_133_code 5 = .ok (.iload_n 2, 1) := by decide +kernel
theorem d31_6 : decode jdk_65_method_133_code 6 = .ok (.iload_n 1, 1) := by decide +kernel
theorem d31_7 : decode jdk_65_method_133_code 7 = .ok (.isub, 1) := by decide +kernel
theorem d31_8 : decode jdk_65_method_133_code 8 = .ok (.istore_n 3, 1) := by decide +kernel
theorem d31_9 : decode jdk_65_method_133_code 9 = .ok (.iload_n 3, 1) := by decide +kernel
theorem d31_10 : decode jdk_65_method_133_code 10 = .ok (.newarray .byte, 2) := by decide +kernel
theorem d31_12 : decode jdk_65_method_133_code 12 = .ok (.astore 4, 2) := by decide +kernel
theorem d31_14 : decode jdk_65_method_133_code 14 = .ok (.aload_n 0, 1) := by decide +kernel
theorem d31_15 : decode jdk_65_method_133_code 15 = .ok (.iload_n 1, 1) := by decide +kernel
theorem d31_16 : decode jdk_65_method_133_code 16 = .ok (.aload 4, 2) := by decide +kernel
theorem d31_18 : decode jdk_65_method_133_code 18 = .ok (.iconst 0, 1) := by decide +kernel
theorem d31_19 : decode jdk_65_method_133_code 19 = .ok (.aload_n 0, 1) := by decide +kernel
theorem d31_20 : decode jdk_65_method_133_code 20 = .ok (.arraylength, 1) := by decide +kernel
theorem d31_21 : decode jdk_65_method_133_code 21 = .ok (.iload_n 1, 1) := by decide +kernel
theorem d31_22 : decode jdk_65_method_133_code 22 = .ok (.isub, 1) := by decide +kernel
theorem d31_23 : decode jdk_65_method_133_code 23 = .ok (.iload_n 3, 1) := by decide +kernel
theorem d31_24 : decode jdk_65_method_133_code 24 = .ok (.invokestatic 304, 3) := by decide +kernel
theorem d31_27 : decode jdk_65_method_133_code 27 = .ok (.invokestatic 150, 3) := by decide +kernel
theorem d31_30 : decode jdk_65_method_133_code 30 = .ok (.aload 4, 2) := by decide +kernel
theorem d31_32 : decode jdk_65_method_133_code 32 = .ok (.areturn, 1) := by decide +kernel
theorem pn_31 : plainName "java/util/Arrays" = true := by first | (simp [plainName, overriddenIn]; done) | decide +kernel
theorem pd_31_26 : parseMethodDescriptor "(II)V" = some ⟨[.int, .int], none⟩ := by decide +kernel
theorem pd_31_14 : parseMethodDescriptor "(II)I" = some ⟨[.int, .int], some .int⟩ := by decide +kernel
theorem ef_31 (m : MethodId) (x0 : Addr) (x1 : Int32) (x2 : Int32) : entryFrame m #[(.ref x0), (.int x1), (.int x2)] 5 = mkF m 0 #[.val (.ref x0), .val (.int x1), .val (.int x2), .unset, .unset] [] := by first | (simp [entryFrame, mkF, argsToLocals, Value.category]; done) | rfl
theorem own_cpy {Z : State} {h : Heap} {b : Addr} {k : ClassId} {z : Int32} {us : List Value} {d : Value} (V : Arv Z h b k .byte z ((List.replicate z.toNatClampNeg d).take ((0 : Int32)).toNatClampNeg ++ us ++ (List.replicate z.toNatClampNeg d).drop (((0 : Int32)).toNatClampNeg + z.toNatClampNeg)) d) : Arv Z h b k .byte z us d := by
  have e : ((0 : Int32)).toNatClampNeg = 0 := rfl
  rw [e] at V
  simpa using V
set_option maxRecDepth 65536 in
set_option maxHeartbeats 40000000 in
theorem rm31 (l : Launch) (Z : State) (a0 : Array Value) (hw : ∀ d ∈ tables_1, d.before a0 Z = true) (ws : List Jvm.Cond) (a1 : Addr) (_q : Int32) (p2 : Int32) (k_a1 : ClassId) (z_a1 : Int32) (vs_a1 : List Value) (dv_a1 : Value) (h0 : Heap) (n0 : Nat) (Z0 : n0 ≤ h0.size) (V_a1 : Arv Z h0 a1 k_a1 .byte z_a1 vs_a1 dv_a1) (hnn : ¬ p2 < 0) (hlt : p2 < z_a1) (hle : p2.toNatClampNeg ≤ 40) (hln : p2.toNatClampNeg ≤ vs_a1.length) :
    MetFree l (⟨"java/util/Arrays", "copyOfRangeByte", "([BII)[B"⟩ : MethodName) (head1 (Jvm.Cond.code (⟨"java/util/Arrays", "copyOfRangeByte", "([BII)[B"⟩ : MethodName) jdk_65_method_133_code 5 (some (.array .byte)) :: ws) ({ frames := 2, cells := 1, slots := 40, locals := 32 } : Room)) (fun a U => a = #[(.ref a1), (.int (0 : Int32)), (.int p2)] ∧ Z.Warmed39 U.vm ∧ U.heap = h0) (fun _ _ _ _ _ => True) (fun _ U o U' => ∃ v L, o = .returned v ∧ own_QC Z p2 (vs_a1.take p2.toNatClampNeg) h0 n0 v U'.heap L ∧ FrameEnd U o U' L ({ frames := 2, cells := 1, slots := 40, locals := 32 } : Room).cells ({ frames := 2, cells := 1, slots := 40, locals := 32 } : Room).slots) := by
  refine MetFree.of_bodySF (plainFor_of_name pn_31) hisR ?_
  intro p e s m args below meth c s₁ Bd hml0 hP hK
  obtain ⟨rfl, hZ, hh⟩ := hP
  have hx := Bd.exec
  have hby := Bd.bytes
  have hml : c.maxLocals = 5 := hml0
  have hown : s.vm.findClass "java/util/Arrays" = some m.cls := findClass_of_methodNamed Bd.named
  have hnm := (name_of_methodNamed Bd.named Bd.method).1
  have X0 : Stand p l e ({ frames := 2, cells := 1, slots := 40, locals := 32 } : Room) s m #[(.ref a1), (.int (0 : Int32)), (.int p2)] below meth c s₁ [] 0 0 := Stand.of_body Bd
  have e0 : s₁.heap = h0 := by rw [← hh, Bd.state]; rfl
  have N0 := Fr.nil n0
  have pre0 : ∀ t, Steps p.tables e below (s₁.setTop (mkF m 0 #[.val (.ref a1), .val (.int (0 : Int32)), .val (.int p2), .unset, .unset] [])) t → Steps p.tables e below (s₁.setTop (entryFrame m #[(.ref a1), (.int (0 : Int32)), (.int p2)] 5)) t := fun t k => castTop (ef_31 m a1 (0 : Int32) p2) k
  have eP : p2 - (0 : Int32) = p2 := own_sub0 p2
  have eZ : z_a1 - (0 : Int32) = z_a1 := own_sub0 z_a1
  obtain ⟨_, _, ⟨T3, L3, k3, n3⟩, -, X3, ⟨Lc3, hQ3, l3, y3, z3⟩, st3⟩ := Jvm.LawKit.callS X0 hx (y := (⟨"java/util/Arrays", "checkLength", "(II)V"⟩ : MethodName)) hown (mvT hZ (hw _ (wI 162 rfl))) (mvT hZ (hw _ (wI 163 rfl))) (mvT hZ (hw _ (wI 100 rfl))) (mvT hZ (hw _ (wI 164 rfl))) (by decide) (backOf (W := 0) (rm32 l Z a0 hw [] (0 : Int32) p2  h0 n0 Z0 hnn) hZ (hw _ (wI 164 rfl)) (hw _ (wI 100 rfl)) (by decide) (by decide)) (g := (mkF m 2 #[.val (.ref a1), .val (.int (0 : Int32)), .val (.int p2), .unset, .unset] [(.int p2), (.int (0 : Int32))])) rfl (by rw [hml]; rfl) (argsL := [(.int (0 : Int32)), (.int p2)]) (rest := []) (lenOf pd_31_26 rfl) rfl (by show 2 * 0 + _ ≤ _; exact Nat.le_of_eq rfl) (hb hby d31_2) (fun _ _ => ⟨rfl, e0, (by decide : 0 + 0 ≤ _), (by decide : 0 + 0 ≤ _)⟩)
  dsimp only [Pt.U, Pt.locs, Pt.cells, Pt.slots] at X3 l3 y3 z3 st3 hQ3
  subst l3 y3 z3
  obtain ⟨rfl, N3q, eq3⟩ := hQ3
  have N3 := Fr.app N0 N3q
  have Kq3 : Keep h0 T3.heap [] := (own_keq eq3)
  have K3 : Keep h0 T3.heap [] := (Keep.refl h0 []).trans Kq3 all0
  obtain ⟨T4, h4, k4, X4, e4, E4, A4, st4⟩ := newP X3 hx hZ (hw _ (wI 19 rfl)) rfl (g := (mkF m 10 #[.val (.ref a1), .val (.int (0 : Int32)), .val (.int p2), .val (.int (p2 - (0 : Int32))), .unset] [(.int (p2 - (0 : Int32)))])) rfl (hb hby d31_10) rfl (by rw [eP]; exact hnn) (cap := 40) (by rw [eP]; exact hle) (by decide) (by decide) (by decide)
  obtain ⟨b4, g4⟩ : ∃ z, z = T3.heap.size := ⟨_, rfl⟩
  rw [← g4] at A4 st4
  have V_b4 : Arv Z h4 b4 k4 .byte (p2 - (0 : Int32)) (List.replicate (p2 - (0 : Int32)).toNatClampNeg (.int (0 : Int32))) (.int (0 : Int32)) := (Arv.new A4 (by rw [eP]; exact hnn)).pad (pad_rep [] (.int (0 : Int32)) (p2 - (0 : Int32)).toNatClampNeg)
  have g_b4 : n0 ≤ b4 := Nat.le_trans (Nat.le_trans Z0 Kq3.1) (Nat.le_of_eq g4.symm)
  have sz_b4 : h0.size ≤ b4 := (Nat.le_trans K3.1 (Nat.le_of_eq g4.symm))
  have K4 : Keep h0 h4 [] := K3.ext E4
  obtain ⟨cl_a1_20, Ar_a1, -, S_a1, N_a1, -, -⟩ := ((V_a1.keep Kq3 (fun q => nomatch q)).ext E4)
  obtain ⟨_, _, ⟨T5, L5, k5, n5⟩, -, X5, ⟨Lc5, hQ5, l5, y5, z5⟩, st5⟩ := Jvm.LawKit.callS X4 hx (y := (⟨"java/lang/Math", "min", "(II)I"⟩ : MethodName)) hown (mvT hZ (hw _ (wI 102 rfl))) (mvT hZ (hw _ (wI 103 rfl))) (mvT hZ (hw _ (wI 94 rfl))) (mvT hZ (hw _ (wI 104 rfl))) (by decide) (backOf (W := 4) (rm19 l Z a0 hw [] (z_a1 - (0 : Int32)) (p2 - (0 : Int32))  h4 n0 (Nat.le_trans (Nat.le_trans Z0 Kq3.1) E4.1) (by rw [eP, eZ]; exact hlt)) hZ (hw _ (wI 104 rfl)) (hw _ (wI 94 rfl)) (by decide) (by decide)) (g := (mkF m 24 #[.val (.ref a1), .val (.int (0 : Int32)), .val (.int p2), .val (.int (p2 - (0 : Int32))), .val (.ref b4)] [(.int (p2 - (0 : Int32))), (.int (z_a1 - (0 : Int32))), (.int (0 : Int32)), (.ref b4), (.int (0 : Int32)), (.ref a1)])) rfl (by rw [hml]; rfl) (argsL := [(.int (z_a1 - (0 : Int32))), (.int (p2 - (0 : Int32)))]) (rest := [(.int (0 : Int32)), (.ref b4), (.int (0 : Int32)), (.ref a1)]) (lenOf pd_31_14 rfl) rfl (by show 2 * 0 + _ ≤ _; exact Nat.le_of_eq rfl) (hb hby d31_24) (fun _ _ => ⟨rfl, e4, (by decide : 1 + 0 ≤ _), (by decide : 40 + 0 ≤ _)⟩)
  dsimp only [Pt.U, Pt.locs, Pt.cells, Pt.slots] at X5 l5 y5 z5 st5 hQ5
  subst l5 y5 z5
  obtain ⟨rfl, N5q, eq5⟩ := hQ5
  have N5 := Fr.app N3 N5q
  have Kq5 : Keep h4 T5.heap [] := (own_keq eq5)
  have K5 : Keep h0 T5.heap [] := K4.trans Kq5 all0
  obtain ⟨T6, h6, L6, X6, e6, N6, Kq6, V_b4_6, st6⟩ := cpA X5 hx hZ hown (hw _ (wI 105 rfl)) (hw _ (wI 108 rfl)) (hw _ (wI 106 rfl)) (hw _ (wI 107 rfl)) rfl (((V_a1.keep Kq3 (fun q => nomatch q)).ext E4).keep Kq5 (fun q => nomatch q)) (V_b4.keep Kq5 (fun q => nomatch q)) (Or.inl ⟨rfl, rfl⟩) (by decide) (by decide) (by rw [eP]; exact hnn) (by rw [eP]; show 0 + _ ≤ _; rw [Nat.zero_add]; exact own_cl hlt) (by show 0 + _ ≤ _; rw [Nat.zero_add]; exact Nat.le_refl _) (us := vs_a1.take (p2 - (0 : Int32)).toNatClampNeg) (own_rangeT _ _ _ (by rw [eP]; exact hln)) (by show 0 + _ ≤ _; rw [Nat.zero_add, List.length_replicate]; exact Nat.le_refl _) N5 g_b4 (g := (mkF m 27 #[.val (.ref a1), .val (.int (0 : Int32)), .val (.int p2), .val (.int (p2 - (0 : Int32))), .val (.ref b4)] [(.int (p2 - (0 : Int32))), (.int (0 : Int32)), (.ref b4), (.int (0 : Int32)), (.ref a1)])) rfl (by rw [hml]; rfl) rfl (hb hby d31_27) (by decide) (W := 0) (by show 2 * 0 + _ ≤ _; exact Nat.le_of_eq rfl) (by decide)
  have K6 : Keep h0 h6 [] := K5.trans Kq6 (own_trS (Or.inr sz_b4) all0)
  obtain ⟨fs, hr, hrun, hended, hW, hsame⟩ := X6.leave (v := some (.ref b4)) (fun h => by rw [Bd.returns] at h; cases h)
  refine ⟨_, _, pre0 _ ?_, hrun, hended, _, _, rfl, ?_, ⟨_, rfl⟩, hW, hsame.mono (by decide) (by decide)⟩
  · show Steps p.tables e below (s₁.setTop (mkF m 0 #[.val (.ref a1), .val (.int (0 : Int32)), .val (.int p2), .unset, .unset] [])) _
    refine XS.iloadN X0.here hx rfl (hb hby d31_0) rfl ?_
    show Steps p.tables e below (s₁.setTop (mkF m 1 #[.val (.ref a1), .val (.int (0 : Int32)), .val (.int p2), .unset, .unset] [(.int (0 : Int32))])) _
    refine XS.iloadN X0.here hx rfl (hb hby d31_1) rfl ?_
    show Steps p.tables e below (s₁.setTop (mkF m 2 #[.val (.ref a1), .val (.int (0 : Int32)), .val (.int p2), .unset, .unset] [(.int p2), (.int (0 : Int32))])) _
    refine st3 _ ?_
    show Steps p.tables e below (T3.setTop (mkF m 5 #[.val (.ref a1), .val (.int (0 : Int32)), .val (.int p2), .unset, .unset] [])) _
    refine XS.iloadN X3.here hx rfl (hb hby d31_5) rfl ?_
    show Steps p.tables e below (T3.setTop (mkF m 6 #[.val (.ref a1), .val (.int (0 : Int32)), .val (.int p2), .unset, .unset] [(.int p2)])) _
    refine XS.iloadN X3.here hx rfl (hb hby d31_6) rfl ?_
    show Steps p.tables e below (T3.setTop (mkF m 7 #[.val (.ref a1), .val (.int (0 : Int32)), .val (.int p2), .unset, .unset] [(.int (0 : Int32)), (.int p2)])) _
    refine XS.isub X3.here hx rfl (hb hby d31_7) rfl ?_
    show Steps p.tables e below (T3.setTop (mkF m 8 #[.val (.ref a1), .val (.int (0 : Int32)), .val (.int p2), .unset, .unset] [(.int (p2 - (0 : Int32)))])) _
    refine XS.istoreN X3.here hx rfl (hb hby d31_8) rfl (l' := #[.val (.ref a1), .val (.int (0 : Int32)), .val (.int p2), .val (.int (p2 - (0 : Int32))), .unset]) rfl ?_
    show Steps p.tables e below (T3.setTop (mkF m 9 #[.val (.ref a1), .val (.int (0 : Int32)), .val (.int p2), .val (.int (p2 - (0 : Int32))), .unset] [])) _
    refine XS.iloadN X3.here hx rfl (hb hby d31_9) rfl ?_
    show Steps p.tables e below (T3.setTop (mkF m 10 #[.val (.ref a1), .val (.int (0 : Int32)), .val (.int p2), .val (.int (p2 - (0 : Int32))), .unset] [(.int (p2 - (0 : Int32)))])) _
    refine st4 _ ?_
    show Steps p.tables e below (T4.setTop (mkF m 12 #[.val (.ref a1), .val (.int (0 : Int32)), .val (.int p2), .val (.int (p2 - (0 : Int32))), .unset] [(.ref b4)])) _
    refine XS.astore X4.here hx rfl (hb hby d31_12) rfl rfl (l' := #[.val (.ref a1), .val (.int (0 : Int32)), .val (.int p2), .val (.int (p2 - (0 : Int32))), .val (.ref b4)]) rfl ?_
    show Steps p.tables e below (T4.setTop (mkF m 14 #[.val (.ref a1), .val (.int (0 : Int32)), .val (.int p2), .val (.int (p2 - (0 : Int32))), .val (.ref b4)] [])) _
    refine XS.aloadN X4.here hx rfl (hb hby d31_14) rfl rfl ?_
    show Steps p.tables e below (T4.setTop (mkF m 15 #[.val (.ref a1), .val (.int (0 : Int32)), .val (.int p2), .val (.int (p2 - (0 : Int32))), .val (.ref b4)] [(.ref a1)])) _
    refine XS.iloadN X4.here hx rfl (hb hby d31_15) rfl ?_
    show Steps p.tables e below (T4.setTop (mkF m 16 #[.val (.ref a1), .val (.int (0 : Int32)), .val (.int p2), .val (.int (p2 - (0 : Int32))), .val (.ref b4)] [(.int (0 : Int32)), (.ref a1)])) _
    refine XS.aload X4.here hx rfl (hb hby d31_16) rfl rfl ?_
    show Steps p.tables e below (T4.setTop (mkF m 18 #[.val (.ref a1), .val (.int (0 : Int32)), .val (.int p2), .val (.int (p2 - (0 : Int32))), .val (.ref b4)] [(.ref b4), (.int (0 : Int32)), (.ref a1)])) _
    refine XS.iconst X4.here hx rfl (hb hby d31_18) ?_
    show Steps p.tables e below (T4.setTop (mkF m 19 #[.val (.ref a1), .val (.int (0 : Int32)), .val (.int p2), .val (.int (p2 - (0 : Int32))), .val (.ref b4)] [(.int (0 : Int32)), (.ref b4), (.int (0 : Int32)), (.ref a1)])) _
    refine XS.aloadN X4.here hx rfl (hb hby d31_19) rfl rfl ?_
    show Steps p.tables e below (T4.setTop (mkF m 20 #[.val (.ref a1), .val (.int (0 : Int32)), .val (.int p2), .val (.int (p2 - (0 : Int32))), .val (.ref b4)] [(.ref a1), (.int (0 : Int32)), (.ref b4), (.int (0 : Int32)), (.ref a1)])) _
    refine X4.arraylength hx (by rw [e4]; exact Ar_a1.1) (State.isArrayOf_alike hZ.alike Ar_a1.2.1) (g := (mkF m 20 #[.val (.ref a1), .val (.int (0 : Int32)), .val (.int p2), .val (.int (p2 - (0 : Int32))), .val (.ref b4)] [(.ref a1), (.int (0 : Int32)), (.ref b4), (.int (0 : Int32)), (.ref a1)])) rfl rfl (hb hby d31_20) _ ?_
    rw [len_of S_a1 N_a1]
    show Steps p.tables e below (T4.setTop (mkF m 21 #[.val (.ref a1), .val (.int (0 : Int32)), .val (.int p2), .val (.int (p2 - (0 : Int32))), .val (.ref b4)] [(.int z_a1), (.int (0 : Int32)), (.ref b4), (.int (0 : Int32)), (.ref a1)])) _
    refine XS.iloadN X4.here hx rfl (hb hby d31_21) rfl ?_
    show Steps p.tables e below (T4.setTop (mkF m 22 #[.val (.ref a1), .val (.int (0 : Int32)), .val (.int p2), .val (.int (p2 - (0 : Int32))), .val (.ref b4)] [(.int (0 : Int32)), (.int z_a1), (.int (0 : Int32)), (.ref b4), (.int (0 : Int32)), (.ref a1)])) _
    refine XS.isub X4.here hx rfl (hb hby d31_22) rfl ?_
    show Steps p.tables e below (T4.setTop (mkF m 23 #[.val (.ref a1), .val (.int (0 : Int32)), .val (.int p2), .val (.int (p2 - (0 : Int32))), .val (.ref b4)] [(.int (z_a1 - (0 : Int32))), (.int (0 : Int32)), (.ref b4), (.int (0 : Int32)), (.ref a1)])) _
    refine XS.iloadN X4.here hx rfl (hb hby d31_23) rfl ?_
    show Steps p.tables e below (T4.setTop (mkF m 24 #[.val (.ref a1), .val (.int (0 : Int32)), .val (.int p2), .val (.int (p2 - (0 : Int32))), .val (.ref b4)] [(.int (p2 - (0 : Int32))), (.int (z_a1 - (0 : Int32))), (.int (0 : Int32)), (.ref b4), (.int (0 : Int32)), (.ref a1)])) _
    refine st5 _ ?_
    show Steps p.tables e below (T5.setTop (mkF m 27 #[.val (.ref a1), .val (.int (0 : Int32)), .val (.int p2), .val (.int (p2 - (0 : Int32))), .val (.ref b4)] [(.int (p2 - (0 : Int32))), (.int (0 : Int32)), (.ref b4), (.int (0 : Int32)), (.ref a1)])) _
    refine st6 _ ?_
    show Steps p.tables e below (T6.setTop (mkF m 30 #[.val (.ref a1), .val (.int (0 : Int32)), .val (.int p2), .val (.int (p2 - (0 : Int32))), .val (.ref b4)] [])) _
    refine XS.aload X6.here hx rfl (hb hby d31_30) rfl rfl ?_
    show Steps p.tables e below (T6.setTop (mkF m 32 #[.val (.ref a1), .val (.int (0 : Int32)), .val (.int p2), .val (.int (p2 - (0 : Int32))), .val (.ref b4)] [(.ref b4)])) _
    jvm_step X6.here [X6.here.top, hx, (hb hby d31_32), X6.method', Bd.returns, Value.isRef, FieldType.isReference]
    first | (intro acts; rw [hr _ acts rfl rfl rfl]) | rw [hr _ _ rfl rfl rfl]
    exact Steps.refl _
  · show own_QC Z p2 (vs_a1.take p2.toNatClampNeg) h0 n0 _ T6.heap _
    rw [e6]
    exact ⟨b4, rfl, N6, g_b4, sz_b4, K6, k4, by rw [← eP]; exact own_cpy V_b4_6⟩
theorem d30_0 : decode jdk_65_method_132_code 0 = .ok (.iload_n 1, 1) := by decide +kernel
theorem d30_1 : decode jdk_65_method_132_code 1 = .ok (.ifCond .ne 9, 3) := by decide +kernel
theorem d30_4 : decode jdk_65_method_132_code 4 = .ok (.iload_n 2, 1) := by decide +kernel
theorem d30_5 : decode jdk_65_method_132_code 5 = .ok (.aload_n 0, 1) := by decide +kernel
theorem d30_6 : decode jdk_65_method_132_code 6 = .ok (.arraylength, 1) := by decide +kernel
theorem d30_7 : decode jdk_65_method_132_code 7 = .ok (.if_icmp .eq 10, 3) := by decide +kernel
theorem d30_10 : decode jdk_65_method_132_code 10 = .ok (.aload_n 0, 1) := by decide +kernel
theorem d30_11 : decode jdk_65_method_132_code 11 = .ok (.iload_n 1, 1) := by decide +kernel
theorem d30_12 : decode jdk_65_method_132_code 12 = .ok (.iload_n 2, 1) := by decide +kernel
theorem d30_13 : decode jdk_65_method_132_code 13 = .ok (.invokestatic 339, 3) := by decide +kernel
theorem d30_16 : decode jdk_65_method_132_code 16 = .ok (.areturn, 1) := by decide +kernel
theorem pn_30 : plainName "java/util/Arrays" = true := by first | (simp [plainName, overriddenIn]; done) | decide +kernel
theorem pd_30_25 : parseMethodDescriptor "([BII)[B" = some ⟨[(.array .byte), .int, .int], some (.array .byte)⟩ := by decide +kernel
theorem ef_30 (m : MethodId) (x0 : Addr) (x1 : Int32) (x2 : Int32) : entryFrame m #[(.ref x0), (.int x1), (.int x2)] 3 = mkF m 0 #[.val (.ref x0), .val (.int x1), .val (.int x2)] [] := by first | (simp [entryFrame, mkF, argsToLocals, Value.category]; done) | rfl
set_option maxRecDepth 65536 in
set_option maxHeartbeats 40000000 in
theorem rm30 (l : Launch) (Z : State) (a0 : Array Value) (hw : ∀ d ∈ tables_1, d.before a0 Z = true) (ws : List Jvm.Cond) (a1 : Addr) (_q : Int32) (p2 : Int32) (k_a1 : ClassId) (z_a1 : Int32) (vs_a1 : List Value) (dv_a1 : Value) (h0 : Heap) (n0 : Nat) (Z0 : n0 ≤ h0.size) (V_a1 : Arv Z h0 a1 k_a1 .byte z_a1 vs_a1 dv_a1) (hnn : ¬ p2 < 0) (hlt : p2 < z_a1) (hle : p2.toNatClampNeg ≤ 40) (hln : p2.toNatClampNeg ≤ vs_a1.length) (hc7 : ¬ (p2 = z_a1)) :
    MetFree l (⟨"java/util/Arrays", "copyOfRange", "([BII)[B"⟩ : MethodName) (head1 (Jvm.Cond.code (⟨"java/util/Arrays", "copyOfRange", "([BII)[B"⟩ : MethodName) jdk_65_method_132_code 3 (some (.array .byte)) :: ws) ({ frames := 3, cells := 1, slots := 40, locals := 48 } : Room)) (fun a U => a = #[(.ref a1), (.int (0 : Int32)), (.int p2)] ∧ Z.Warmed39 U.vm ∧ U.heap = h0) (fun _ _ _ _ _ => True) (fun _ U o U' => ∃ v L, o = .returned v ∧ own_QC Z p2 (vs_a1.take p2.toNatClampNeg) h0 n0 v U'.heap L ∧ FrameEnd U o U' L ({ frames := 3, cells := 1, slots := 40, locals := 48 } : Room).cells ({ frames := 3, cells := 1, slots := 40, locals := 48 } : Room).slots) := by
  refine MetFree.of_bodySF (plainFor_of_name pn_30) hisR ?_
  intro p e s m args below meth c s₁ Bd hml0 hP hK
  obtain ⟨rfl, hZ, hh⟩ := hP
  have hx := Bd.exec
  have hby := Bd.bytes
  have hml : c.maxLocals = 3 := hml0
  have hown : s.vm.findClass "java/util/Arrays" = some m.cls := findClass_of_methodNamed Bd.named
  have hnm := (name_of_methodNamed Bd.named Bd.method).1
  have X0 : Stand p l e ({ frames := 3, cells := 1, slots := 40, locals := 48 } : Room) s m #[(.ref a1), (.int (0 : Int32)), (.int p2)] below meth c s₁ [] 0 0 := Stand.of_body Bd
  have e0 : s₁.heap = h0 := by rw [← hh, Bd.state]; rfl
  have N0 := Fr.nil n0
  have pre0 : ∀ t, Steps p.tables e below (s₁.setTop (mkF m 0 #[.val (.ref a1), .val (.int (0 : Int32)), .val (.int p2)] [])) t → Steps p.tables e below (s₁.setTop (entryFrame m #[(.ref a1), (.int (0 : Int32)), (.int p2)] 3)) t := fun t k => castTop (ef_30 m a1 (0 : Int32) p2) k
  obtain ⟨cl_a1_6, Ar_a1, -, S_a1, N_a1, -, -⟩ := id V_a1
  obtain ⟨_, _, ⟨T3, L3, k3, n3⟩, -, X3, ⟨Lc3, hQ3, l3, y3, z3⟩, st3⟩ := Jvm.LawKit.callS X0 hx (y := (⟨"java/util/Arrays", "copyOfRangeByte", "([BII)[B"⟩ : MethodName)) hown (mvT hZ (hw _ (wI 159 rfl))) (mvT hZ (hw _ (wI 160 rfl))) (mvT hZ (hw _ (wI 100 rfl))) (mvT hZ (hw _ (wI 161 rfl))) (by decide) (backOf (W := 0) (rm31 l Z a0 hw [] a1 (0 : Int32) p2 k_a1 z_a1 vs_a1 dv_a1 h0 n0 Z0 V_a1 hnn hlt hle hln) hZ (hw _ (wI 161 rfl)) (hw _ (wI 100 rfl)) (by decide) (by decide)) (g := (mkF m 13 #[.val (.ref a1), .val (.int (0 : Int32)), .val (.int p2)] [(.int p2), (.int (0 : Int32)), (.ref a1)])) rfl (by rw [hml]; rfl) (argsL := [(.ref a1), (.int (0 : Int32)), (.int p2)]) (rest := []) (lenOf pd_30_25 rfl) rfl (by show 2 * 0 + _ ≤ _; exact Nat.le_of_eq rfl) (hb hby d30_13) (fun _ _ => ⟨rfl, e0, (by decide : 0 + 1 ≤ _), (by decide : 0 + 40 ≤ _)⟩)
  dsimp only [Pt.U, Pt.locs, Pt.cells, Pt.slots] at X3 l3 y3 z3 st3 hQ3
  subst l3 y3 z3
  obtain ⟨tX, rfl, N3q, g_tX, gz_tX, Kt, kx, Vx⟩ := hQ3
  have N3 := Fr.app N0 N3q
  have Kq3 : Keep h0 T3.heap [] := Kt
  have K3 : Keep h0 T3.heap [] := (Keep.refl h0 []).trans Kq3 all0
  obtain ⟨fs, hr, hrun, hended, hW, hsame⟩ := X3.leave (v := some (.ref tX)) (fun h => by rw [Bd.returns] at h; cases h)
  refine ⟨_, _, pre0 _ ?_, hrun, hended, _, _, rfl, ?_, ⟨_, rfl⟩, hW, hsame.mono (by decide) (by decide)⟩
  · show Steps p.tables e below (s₁.setTop (mkF m 0 #[.val (.ref a1), .val (.int (0 : Int32)), .val (.int p2)] [])) _
    refine XS.iloadN X0.here hx rfl (hb hby d30_0) rfl ?_
    show Steps p.tables e below (s₁.setTop (mkF m 1 #[.val (.ref a1), .val (.int (0 : Int32)), .val (.int p2)] [(.int (0 : Int32))])) _
    refine XS.ifNo X0.here hx rfl (hb hby d30_1) rfl ((if0 _ _).trans (teq (rfl : (0 : Int32) = (0 : Int32))).2) ?_
    show Steps p.tables e below (s₁.setTop (mkF m 4 #[.val (.ref a1), .val (.int (0 : Int32)), .val (.int p2)] [])) _
    refine XS.iloadN X0.here hx rfl (hb hby d30_4) rfl ?_
    show Steps p.tables e below (s₁.setTop (mkF m 5 #[.val (.ref a1), .val (.int (0 : Int32)), .val (.int p2)] [(.int p2)])) _
    refine XS.aloadN X0.here hx rfl (hb hby d30_5) rfl rfl ?_
    show Steps p.tables e below (s₁.setTop (mkF m 6 #[.val (.ref a1), .val (.int (0 : Int32)), .val (.int p2)] [(.ref a1), (.int p2)])) _
    refine X0.arraylength hx (by rw [e0]; exact Ar_a1.1) (State.isArrayOf_alike hZ.alike Ar_a1.2.1) (g := (mkF m 6 #[.val (.ref a1), .val (.int (0 : Int32)), .val (.int p2)] [(.ref a1), (.int p2)])) rfl rfl (hb hby d30_6) _ ?_
    rw [len_of S_a1 N_a1]
    show Steps p.tables e below (s₁.setTop (mkF m 7 #[.val (.ref a1), .val (.int (0 : Int32)), .val (.int p2)] [(.int z_a1), (.int p2)])) _
    refine XS.icmpNo X0.here hx rfl (hb hby d30_7) rfl (feq hc7).1 ?_
    show Steps p.tables e below (s₁.setTop (mkF m 10 #[.val (.ref a1), .val (.int (0 : Int32)), .val (.int p2)] [])) _
    refine XS.aloadN X0.here hx rfl (hb hby d30_10) rfl rfl ?_
    show Steps p.tables e below (s₁.setTop (mkF m 11 #[.val (.ref a1), .val (.int (0 : Int32)), .val (.int p2)] [(.ref a1)])) _
    refine XS.iloadN X0.here hx rfl (hb hby d30_11) rfl ?_
    show Steps p.tables e below (s₁.setTop (mkF m 12 #[.val (.ref a1), .val (.int (0 : Int32)), .val (.int p2)] [(.int (0 : Int32)), (.ref a1)])) _
    refine XS.iloadN X0.here hx rfl (hb hby d30_12) rfl ?_
    show Steps p.tables e below (s₁.setTop (mkF m 13 #[.val (.ref a1), .val (.int (0 : Int32)), .val (.int p2)] [(.int p2), (.int (0 : Int32)), (.ref a1)])) _
    refine st3 _ ?_
    show Steps p.tables e below (T3.setTop (mkF m 16 #[.val (.ref a1), .val (.int (0 : Int32)), .val (.int p2)] [(.ref tX)])) _
    jvm_step X3.here [X3.here.top, hx, (hb hby d30_16), X3.method', Bd.returns, Value.isRef, FieldType.isReference]
    first | (intro acts; rw [hr _ acts rfl rfl rfl]) | rw [hr _ _ rfl rfl rfl]
    exact Steps.refl _
  · show own_QC Z p2 (vs_a1.take p2.toNatClampNeg) h0 n0 _ T3.heap _
    exact ⟨tX, rfl, N3, g_tX, gz_tX, Kt, kx, Vx⟩
theorem d26_0 : decode jdk_68_method_64_code 0 = .ok (.aload_n 0, 1) := by decide +kernel
theorem d26_1 : decode jdk_68_method_64_code 1 = .ok (.getfield 15, 3) := by decide +kernel
theorem d26_4 : decode jdk_68_method_64_code 4 = .ok (.areturn, 1) := by decide +kernel
theorem pn_26 : plainName "java/lang/AbstractStringBuilder" = true := by first | (simp [plainName, overriddenIn]; done) | decide +kernel
theorem ef_26 (m : MethodId) (x0 : Addr) : entryFrame m #[(.ref x0)] 1 = mkF m 0 #[.val (.ref x0)] [] := by first | (simp [entryFrame, mkF, argsToLocals, Value.category]; done) | rfl
set_option maxRecDepth 65536 in
set_option maxHeartbeats 40000000 in
theorem rm26 (l : Launch) (Z : State) (a0 : Array Value) (hw : ∀ d ∈ tables_1, d.before a0 Z = true) (ws : List Jvm.Cond) (a1 : Addr) (bv : Addr) (h0 : Heap) (n0 : Nat) (Z0 : n0 ≤ h0.size) (E_a1 : Exa Z h0 a1 "java/lang/StringBuilder") (F_value_a1 : Fld Z h0 a1 "java/lang/AbstractStringBuilder" "value" "[B" (.ref bv)) :
    MetFree l (⟨"java/lang/AbstractStringBuilder", "getValue", "()[B"⟩ : MethodName) (head1 (Jvm.Cond.code (⟨"java/lang/AbstractStringBuilder", "getValue", "()[B"⟩ : MethodName) jdk_68_method_64_code 1 (some (.array .byte)) :: ws) ({ frames := 0, cells := 0, slots := 0, locals := 0 } : Room)) (fun a U => a = #[(.ref a1)] ∧ Z.Warmed39 U.vm ∧ U.heap = h0) (fun _ _ _ _ _ => True) (fun _ U o U' => ∃ v L, o = .returned v ∧ own_QR (.ref bv) h0 n0 v U'.heap L ∧ FrameEnd U o U' L ({ frames := 0, cells := 0, slots := 0, locals := 0 } : Room).cells ({ frames := 0, cells := 0, slots := 0, locals := 0 } : Room).slots) := by
  refine MetFree.of_bodySF (plainFor_of_name pn_26) hisR ?_
  intro p e s m args below meth c s₁ Bd hml0 hP hK
  obtain ⟨rfl, hZ, hh⟩ := hP
  have hx := Bd.exec
  have hby := Bd.bytes
  have hml : c.maxLocals = 1 := hml0
  have hown : s.vm.findClass "java/lang/AbstractStringBuilder" = some m.cls := findClass_of_methodNamed Bd.named
  have hnm := (name_of_methodNamed Bd.named Bd.method).1
  have X0 : Stand p l e ({ frames := 0, cells := 0, slots := 0, locals := 0 } : Room) s m #[(.ref a1)] below meth c s₁ [] 0 0 := Stand.of_body Bd
  have e0 : s₁.heap = h0 := by rw [← hh, Bd.state]; rfl
  have N0 := Fr.nil n0
  have pre0 : ∀ t, Steps p.tables e below (s₁.setTop (mkF m 0 #[.val (.ref a1)] [])) t → Steps p.tables e below (s₁.setTop (entryFrame m #[(.ref a1)] 1)) t := fun t k => castTop (ef_26 m a1) k
  obtain ⟨T2, X2, e2, st2⟩ := getF X0 hx hZ hown (host := "") (Or.inl (hw _ (wI 51 rfl))) Via.refl e0 F_value_a1 (g := (mkF m 1 #[.val (.ref a1)] [(.ref a1)])) rfl rfl (hb hby d26_1)
  obtain ⟨fs, hr, hrun, hended, hW, hsame⟩ := X2.leave (v := some (.ref bv)) (fun h => by rw [Bd.returns] at h; cases h)
  refine ⟨_, _, pre0 _ ?_, hrun, hended, _, _, rfl, ?_, ⟨_, rfl⟩, hW, hsame.mono (by decide) (by decide)⟩
  · show Steps p.tables e below (s₁.setTop (mkF m 0 #[.val (.ref a1)] [])) _
    refine XS.aloadN X0.here hx rfl (hb hby d26_0) rfl rfl ?_
    show Steps p.tables e below (s₁.setTop (mkF m 1 #[.val (.ref a1)] [(.ref a1)])) _
    refine st2 _ ?_
    show Steps p.tables e below (T2.setTop (mkF m 4 #[.val (.ref a1)] [(.ref bv)])) _
    jvm_step X2.here [X2.here.top, hx, (hb hby d26_4), X2.method', Bd.returns, Value.isRef, FieldType.isReference]
    first | (intro acts; rw [hr _ acts rfl rfl rfl]) | rw [hr _ _ rfl rfl rfl]
    exact Steps.refl _
  · show own_QR (.ref bv) h0 n0 _ T2.heap _
    rw [e2]
    exact ⟨rfl, N0, rfl⟩
theorem d28_0 : decode jdk_68_method_6_code 0 = .ok (.aload_n 0, 1) := by decide +kernel
theorem d28_1 : decode jdk_68_method_6_code 1 = .ok (.getfield 79, 3) := by decide +kernel
theorem d28_4 : decode jdk_68_method_6_code 4 = .ok (.ireturn, 1) := by decide +kernel
theorem pn_28 : plainName "java/lang/AbstractStringBuilder" = true := by first | (simp [plainName, overriddenIn]; done) | decide +kernel
theorem ef_28 (m : MethodId) (x0 : Addr) : entryFrame m #[(.ref x0)] 1 = mkF m 0 #[.val (.ref x0)] [] := by first | (simp [entryFrame, mkF, argsToLocals, Value.category]; done) | rfl
set_option maxRecDepth 65536 in
set_option maxHeartbeats 40000000 in
theorem rm28 (l : Launch) (Z : State) (a0 : Array Value) (hw : ∀ d ∈ tables_1, d.before a0 Z = true) (ws : List Jvm.Cond) (a1 : Addr) (c0 : Int32) (h0 : Heap) (n0 : Nat) (Z0 : n0 ≤ h0.size) (E_a1 : Exa Z h0 a1 "java/lang/StringBuilder") (F_count_a1 : Fld Z h0 a1 "java/lang/AbstractStringBuilder" "count" "I" (.int c0)) :
    MetFree l (⟨"java/lang/AbstractStringBuilder", "length", "()I"⟩ : MethodName) (head1 (Jvm.Cond.code (⟨"java/lang/AbstractStringBuilder", "length", "()I"⟩ : MethodName) jdk_68_method_6_code 1 (some .int) :: ws) ({ frames := 0, cells := 0, slots := 0, locals := 0 } : Room)) (fun a U => a = #[(.ref a1)] ∧ Z.Warmed39 U.vm ∧ U.heap = h0) (fun _ _ _ _ _ => True) (fun _ U o U' => ∃ v L, o = .returned v ∧ own_QR (.int c0) h0 n0 v U'.heap L ∧ FrameEnd U o U' L ({ frames := 0, cells := 0, slots := 0, locals := 0 } : Room).cells ({ frames := 0, cells := 0, slots := 0, locals := 0 } : Room).slots) := by
  refine MetFree.of_bodySF (plainFor_of_name pn_28) hisR ?_
  intro p e s m args below meth c s₁ Bd hml0 hP hK
  obtain ⟨rfl, hZ, hh⟩ := hP
  have hx := Bd.exec
  have hby := Bd.bytes
  have hml : c.maxLocals = 1 := hml0
  have hown : s.vm.findClass "java/lang/AbstractStringBuilder" = some m.cls := findClass_of_methodNamed Bd.named
  have hnm := (name_of_methodNamed Bd.named Bd.method).1
  have X0 : Stand p l e ({ frames := 0, cells := 0, slots := 0, locals := 0 } : Room) s m #[(.ref a1)] below meth c s₁ [] 0 0 := Stand.of_body Bd
  have e0 : s₁.heap = h0 := by rw [← hh, Bd.state]; rfl
  have N0 := Fr.nil n0
  have pre0 : ∀ t, Steps p.tables e below (s₁.setTop (mkF m 0 #[.val (.ref a1)] [])) t → Steps p.tables e below (s₁.setTop (entryFrame m #[(.ref a1)] 1)) t := fun t k => castTop (ef_28 m a1) k
  obtain ⟨T2, X2, e2, st2⟩ := getF X0 hx hZ hown (host := "") (Or.inl (hw _ (wI 76 rfl))) Via.refl e0 F_count_a1 (g := (mkF m 1 #[.val (.ref a1)] [(.ref a1)])) rfl rfl (hb hby d28_1)
  obtain ⟨fs, hr, hrun, hended, hW, hsame⟩ := X2.leave (v := some (.int c0)) (fun h => by rw [Bd.returns] at h; cases h)
  refine ⟨_, _, pre0 _ ?_, hrun, hended, _, _, rfl, ?_, ⟨_, rfl⟩, hW, hsame.mono (by decide) (by decide)⟩
  · show Steps p.tables e below (s₁.setTop (mkF m 0 #[.val (.ref a1)] [])) _
    refine XS.aloadN X0.here hx rfl (hb hby d28_0) rfl rfl ?_
    show Steps p.tables e below (s₁.setTop (mkF m 1 #[.val (.ref a1)] [(.ref a1)])) _
    refine st2 _ ?_
    show Steps p.tables e below (T2.setTop (mkF m 4 #[.val (.ref a1)] [(.int c0)])) _
    exact retI X2 hx Bd.returns (hb hby d28_4) hr      -- retI stands in the head ('lawwalk <made dir>' prints it)
  · show own_QR (.int c0) h0 n0 _ T2.heap _
    rw [e2]
    exact ⟨rfl, N0, rfl⟩
theorem d27_0 : decode jdk_67_method_93_code 0 = .ok (.aload_n 0, 1) := by decide +kernel
theorem d27_1 : decode jdk_67_method_93_code 1 = .ok (.invokespecial 343, 3) := by decide +kernel
theorem d27_4 : decode jdk_67_method_93_code 4 = .ok (.ireturn, 1) := by decide +kernel
theorem pn_27 : plainName "java/lang/StringBuilder" = true := by first | (simp [plainName, overriddenIn]; done) | decide +kernel
theorem pd_27_10 : parseMethodDescriptor "()I" = some ⟨[], some .int⟩ := by decide +kernel
theorem ef_27 (m : MethodId) (x0 : Addr) : entryFrame m #[(.ref x0)] 1 = mkF m 0 #[.val (.ref x0)] [] := by first | (simp [entryFrame, mkF, argsToLocals, Value.category]; done) | rfl
set_option maxRecDepth 65536 in
set_option maxHeartbeats 40000000 in
theorem rm27 (l : Launch) (Z : State) (a0 : Array Value) (hw : ∀ d ∈ tables_1, d.before a0 Z = true) (ws : List Jvm.Cond) (a1 : Addr) (c0 : Int32) (h0 : Heap) (n0 : Nat) (Z0 : n0 ≤ h0.size) (E_a1 : Exa Z h0 a1 "java/lang/StringBuilder") (F_count_a1 : Fld Z h0 a1 "java/lang/AbstractStringBuilder" "count" "I" (.int c0)) :
    MetFree l (⟨"java/lang/StringBuilder", "length", "()I"⟩ : MethodName) (head1 (Jvm.Cond.code (⟨"java/lang/StringBuilder", "length", "()I"⟩ : MethodName) jdk_67_method_93_code 1 (some .int) :: ws) ({ frames := 1, cells := 0, slots := 0, locals := 12 } : Room)) (fun a U => a = #[(.ref a1)] ∧ Z.Warmed39 U.vm ∧ U.heap = h0) (fun _ _ _ _ _ => True) (fun _ U o U' => ∃ v L, o = .returned v ∧ own_QR (.int c0) h0 n0 v U'.heap L ∧ FrameEnd U o U' L ({ frames := 1, cells := 0, slots := 0, locals := 12 } : Room).cells ({ frames := 1, cells := 0, slots := 0, locals := 12 } : Room).slots) := by
  refine MetFree.of_bodySF (plainFor_of_name pn_27) hisR ?_
  intro p e s m args below meth c s₁ Bd hml0 hP hK
  obtain ⟨rfl, hZ, hh⟩ := hP
  have hx := Bd.exec
  have hby := Bd.bytes
  have hml : c.maxLocals = 1 := hml0
  have hown : s.vm.findClass "java/lang/StringBuilder" = some m.cls := findClass_of_methodNamed Bd.named
  have hnm := (name_of_methodNamed Bd.named Bd.method).1
  have X0 : Stand p l e ({ frames := 1, cells := 0, slots := 0, locals := 12 } : Room) s m #[(.ref a1)] below meth c s₁ [] 0 0 := Stand.of_body Bd
  have e0 : s₁.heap = h0 := by rw [← hh, Bd.state]; rfl
  have N0 := Fr.nil n0
  have pre0 : ∀ t, Steps p.tables e below (s₁.setTop (mkF m 0 #[.val (.ref a1)] [])) t → Steps p.tables e below (s₁.setTop (entryFrame m #[(.ref a1)] 1)) t := fun t k => castTop (ef_27 m a1) k
  obtain ⟨_, _, ⟨T2, L2, k2, n2⟩, -, X2, ⟨Lc2, hQ2, l2, y2, z2⟩, st2⟩ := superBack X0 hx hZ (y := (⟨"java/lang/AbstractStringBuilder", "length", "()I"⟩ : MethodName)) hown (hw _ (wI 149 rfl)) (own_same (hw _ (wI 145 rfl)) (by decide) (own_notIf (y := (⟨"java/lang/AbstractStringBuilder", "ensureCapacityInternal", "(I)V"⟩ : MethodName)) (hw _ (wI 81 rfl)))) (hw _ (wI 145 rfl)) (hw _ (wI 63 rfl)) (by decide) (backOf (W := 0) (rm28 l Z a0 hw [] a1 c0 h0 n0 Z0 E_a1 F_count_a1) hZ (hw _ (wI 150 rfl)) (hw _ (wI 47 rfl)) (by decide) (by decide)) e0 (Ins.self E_a1) (g := (mkF m 1 #[.val (.ref a1)] [(.ref a1)])) rfl (by rw [hml]; rfl) (hw _ (wI 150 rfl)) (argsL := []) (rest := []) (lenOf pd_27_10 rfl) rfl (by show 2 * 0 + _ ≤ _; exact Nat.le_of_eq rfl) (hb hby d27_1) (fun _ _ => ⟨rfl, e0, (by decide : 0 + 0 ≤ _), (by decide : 0 + 0 ≤ _)⟩)
  dsimp only [Pt.U, Pt.locs, Pt.cells, Pt.slots] at X2 l2 y2 z2 st2 hQ2
  subst l2 y2 z2
  obtain ⟨rfl, N2q, eq2⟩ := hQ2
  have N2 := Fr.app N0 N2q
  have Kq2 : Keep h0 T2.heap [] := (own_keq eq2)
  have K2 : Keep h0 T2.heap [] := (Keep.refl h0 []).trans Kq2 all0
  obtain ⟨fs, hr, hrun, hended, hW, hsame⟩ := X2.leave (v := some (.int c0)) (fun h => by rw [Bd.returns] at h; cases h)
  refine ⟨_, _, pre0 _ ?_, hrun, hended, _, _, rfl, ?_, ⟨_, rfl⟩, hW, hsame.mono (by decide) (by decide)⟩
  · show Steps p.tables e below (s₁.setTop (mkF m 0 #[.val (.ref a1)] [])) _
    refine XS.aloadN X0.here hx rfl (hb hby d27_0) rfl rfl ?_
    show Steps p.tables e below (s₁.setTop (mkF m 1 #[.val (.ref a1)] [(.ref a1)])) _
    refine st2.trans ?_
    show Steps p.tables e below (T2.setTop (mkF m 4 #[.val (.ref a1)] [(.int c0)])) _
    exact retI X2 hx Bd.returns (hb hby d27_4) hr      -- retI stands in the head ('lawwalk <made dir>' prints it)
  · show own_QR (.int c0) h0 n0 _ T2.heap _
    exact ⟨rfl, N2, eq2⟩
theorem d29_0 : decode jdk_68_method_68_code 0 = .ok (.getstatic 18, 3) := by decide +kernel
theorem d29_3 : decode jdk_68_method_68_code 3 = .ok (.ifCond .eq 14, 3) := by decide +kernel
theorem d29_6 : decode jdk_68_method_68_code 6 = .ok (.aload_n 0, 1) := by decide +kernel
theorem d29_7 : decode jdk_68_method_68_code 7 = .ok (.getfield 22, 3) := by decide +kernel
theorem d29_10 : decode jdk_68_method_68_code 10 = .ok (.ifCond .ne 7, 3) := by decide +kernel
theorem d29_13 : decode jdk_68_method_68_code 13 = .ok (.iconst 1, 1) := by decide +kernel
theorem d29_14 : decode jdk_68_method_68_code 14 = .ok (.goto 4, 3) := by decide +kernel
theorem d29_18 : decode jdk_68_method_68_code 18 = .ok (.ireturn, 1) := by decide +kernel
theorem pn_29 : plainName "java/lang/AbstractStringBuilder" = true := by first | (simp [plainName, overriddenIn]; done) | decide +kernel
theorem ef_29 (m : MethodId) (x0 : Addr) : entryFrame m #[(.ref x0)] 1 = mkF m 0 #[.val (.ref x0)] [] := by first | (simp [entryFrame, mkF, argsToLocals, Value.category]; done) | rfl
set_option maxRecDepth 65536 in
set_option maxHeartbeats 40000000 in
theorem rm29 (l : Launch) (Z : State) (a0 : Array Value) (hw : ∀ d ∈ tables_1, d.before a0 Z = true) (ws : List Jvm.Cond) (a1 : Addr) (G1 : Int32) (h0 : Heap) (n0 : Nat) (Z0 : n0 ≤ h0.size) (S_COMPACT_STRINGS : Sta Z Z.heap "java/lang/String" "COMPACT_STRINGS" "Z" (.int G1)) (X00 : Old Z n0 h0) (P3 : ¬ (G1 = (0 : Int32))) (E_a1 : Exa Z h0 a1 "java/lang/StringBuilder") (F_coder_a1 : Fld Z h0 a1 "java/lang/AbstractStringBuilder" "coder" "B" (.int (0 : Int32))) :
    MetFree l (⟨"java/lang/AbstractStringBuilder", "isLatin1", "()Z"⟩ : MethodName) (head1 (Jvm.Cond.code (⟨"java/lang/AbstractStringBuilder", "isLatin1", "()Z"⟩ : MethodName) jdk_68_method_68_code 1 (some .boolean) :: ws) ({ frames := 0, cells := 0, slots := 0, locals := 0 } : Room)) (fun a U => a = #[(.ref a1)] ∧ Z.Warmed39 U.vm ∧ U.heap = h0) (fun _ _ _ _ _ => True) (fun _ U o U' => ∃ v L, o = .returned v ∧ own_QR (.int (1 : Int32)) h0 n0 v U'.heap L ∧ FrameEnd U o U' L ({ frames := 0, cells := 0, slots := 0, locals := 0 } : Room).cells ({ frames := 0, cells := 0, slots := 0, locals := 0 } : Room).slots) := by
  refine MetFree.of_bodySF (plainFor_of_name pn_29) hisR ?_
  intro p e s m args below meth c s₁ Bd hml0 hP hK
  obtain ⟨rfl, hZ, hh⟩ := hP
  have hx := Bd.exec
  have hby := Bd.bytes
  have hml : c.maxLocals = 1 := hml0
  have hown : s.vm.findClass "java/lang/AbstractStringBuilder" = some m.cls := findClass_of_methodNamed Bd.named
  have hnm := (name_of_methodNamed Bd.named Bd.method).1
  have X0 : Stand p l e ({ frames := 0, cells := 0, slots := 0, locals := 0 } : Room) s m #[(.ref a1)] below meth c s₁ [] 0 0 := Stand.of_body Bd
  have e0 : s₁.heap = h0 := by rw [← hh, Bd.state]; rfl
  have N0 := Fr.nil n0
  have pre0 : ∀ t, Steps p.tables e below (s₁.setTop (mkF m 0 #[.val (.ref a1)] [])) t → Steps p.tables e below (s₁.setTop (entryFrame m #[(.ref a1)] 1)) t := fun t k => castTop (ef_29 m a1) k
  obtain ⟨T2, X2, e2, st2⟩ := getS2 X0 hx hZ hown (host := "") (Or.inl (hw _ (wI 50 rfl))) Via.refl e0 (S_COMPACT_STRINGS.ext X00.2) (g := (mkF m 0 #[.val (.ref a1)] [])) rfl (hb hby d29_0)
  obtain ⟨T3, X3, e3, st3⟩ := getF X2 hx hZ hown (host := "") (Or.inl (hw _ (wI 53 rfl))) Via.refl e2 F_coder_a1 (g := (mkF m 7 #[.val (.ref a1)] [(.ref a1)])) rfl rfl (hb hby d29_7)
  obtain ⟨fs, hr, hrun, hended, hW, hsame⟩ := X3.leave (v := some (.int (1 : Int32))) (fun h => by rw [Bd.returns] at h; cases h)
  refine ⟨_, _, pre0 _ ?_, hrun, hended, _, _, rfl, ?_, ⟨_, rfl⟩, hW, hsame.mono (by decide) (by decide)⟩
  · show Steps p.tables e below (s₁.setTop (mkF m 0 #[.val (.ref a1)] [])) _
    refine st2 _ ?_
    show Steps p.tables e below (T2.setTop (mkF m 3 #[.val (.ref a1)] [(.int G1)])) _
    refine XS.ifNo X2.here hx rfl (hb hby d29_3) rfl ((if0 _ _).trans (feq P3).1) ?_
    show Steps p.tables e below (T2.setTop (mkF m 6 #[.val (.ref a1)] [])) _
    refine XS.aloadN X2.here hx rfl (hb hby d29_6) rfl rfl ?_
    show Steps p.tables e below (T2.setTop (mkF m 7 #[.val (.ref a1)] [(.ref a1)])) _
    refine st3 _ ?_
    show Steps p.tables e below (T3.setTop (mkF m 10 #[.val (.ref a1)] [(.int (0 : Int32))])) _
    refine XS.ifNo X3.here hx rfl (hb hby d29_10) rfl ((if0 _ _).trans (teq (rfl : (0 : Int32) = (0 : Int32))).2) ?_
    show Steps p.tables e below (T3.setTop (mkF m 13 #[.val (.ref a1)] [])) _
    refine XS.iconst X3.here hx rfl (hb hby d29_13) ?_
    show Steps p.tables e below (T3.setTop (mkF m 14 #[.val (.ref a1)] [(.int (1 : Int32))])) _
    refine XS.goto X3.here hx rfl (pc0 := 14) (pc' := 18) rfl (hb hby d29_14) (by decide) (by decide) ?_
    show Steps p.tables e below (T3.setTop (mkF m 18 #[.val (.ref a1)] [(.int (1 : Int32))])) _
    exact retN X3 hx (t := .boolean) Bd.returns (by simp) (hb hby d29_18) hr
  · show own_QR (.int (1 : Int32)) h0 n0 _ T3.heap _
    rw [e3]
    exact ⟨rfl, N0, rfl⟩
theorem d25_0 : decode jdk_42_method_150_code 0 = .ok (.aload_n 0, 1) := by decide +kernel
theorem d25_1 : decode jdk_42_method_150_code 1 = .ok (.invokespecial 1, 3) := by decide +kernel
theorem d25_4 : decode jdk_42_method_150_code 4 = .ok (.aload_n 1, 1) := by decide +kernel
theorem d25_5 : decode jdk_42_method_150_code 5 = .ok (.invokevirtual 552, 3) := by decide +kernel
theorem d25_8 : decode jdk_42_method_150_code 8 = .ok (.astore_n 3, 1) := by decide +kernel
theorem d25_9 : decode jdk_42_method_150_code 9 = .ok (.aload_n 1, 1) := by decide +kernel
theorem d25_10 : decode jdk_42_method_150_code 10 = .ok (.invokevirtual 549, 3) := by decide +kernel
theorem d25_13 : decode jdk_42_method_150_code 13 = .ok (.istore 4, 2) := by decide +kernel
theorem d25_15 : decode jdk_42_method_150_code 15 = .ok (.aload_n 1, 1) := by decide +kernel
theorem d25_16 : decode jdk_42_method_150_code 16 = .ok (.invokevirtual 1047, 3) := by decide +kernel
theorem d25_19 : decode jdk_42_method_150_code 19 = .ok (.ifCond .eq 22, 3) := by decide +kernel
theorem d25_22 : decode jdk_42_method_150_code 22 = .ok (.aload_n 0, 1) := by decide +kernel
theorem d25_23 : decode jdk_42_method_150_code 23 = .ok (.iconst 0, 1) := by decide +kernel
theorem d25_24 : decode jdk_42_method_150_code 24 = .ok (.putfield 15, 3) := by decide +kernel
theorem d25_27 : decode jdk_42_method_150_code 27 = .ok (.aload_n 0, 1) := by decide +kernel
theorem d25_28 : decode jdk_42_method_150_code 28 = .ok (.aload_n 3, 1) := by decide +kernel
theorem d25_29 : decode jdk_42_method_150_code 29 = .ok (.iconst 0, 1) := by decide +kernel
theorem d25_30 : decode jdk_42_method_150_code 30 = .ok (.iload 4, 2) := by decide +kernel
theorem d25_32 : decode jdk_42_method_150_code 32 = .ok (.invokestatic 54, 3) := by decide +kernel
theorem d25_35 : decode jdk_42_method_150_code 35 = .ok (.putfield 9, 3) := by decide +kernel
theorem d25_38 : decode jdk_42_method_150_code 38 = .ok (.goto 59, 3) := by decide +kernel
theorem d25_97 : decode jdk_42_method_150_code 97 = .ok (.return_, 1) := by decide +kernel
theorem pn_25 : plainName "java/lang/String" = true := by first | (simp [plainName, overriddenIn]; done) | decide +kernel
theorem pd_25_23 : parseMethodDescriptor "()[B" = some ⟨[], some (.array .byte)⟩ := by decide +kernel
theorem pd_25_10 : parseMethodDescriptor "()I" = some ⟨[], some .int⟩ := by decide +kernel
theorem pd_25_24 : parseMethodDescriptor "()Z" = some ⟨[], some .boolean⟩ := by decide +kernel
theorem pd_25_25 : parseMethodDescriptor "([BII)[B" = some ⟨[(.array .byte), .int, .int], some (.array .byte)⟩ := by decide +kernel
theorem ef_25_null2 (m : MethodId) (x0 : Addr) (x1 : Addr) : entryFrame m #[(.ref x0), (.ref x1), .null] 5 = mkF m 0 #[.val (.ref x0), .val (.ref x1), .val .null, .unset, .unset] [] := by first | (simp [entryFrame, mkF, argsToLocals, Value.category]; done) | rfl
set_option maxRecDepth 65536 in
set_option maxHeartbeats 40000000 in
theorem rm25 (l : Launch) (Z : State) (a0 : Array Value) (hw : ∀ d ∈ tables_1, d.before a0 Z = true) (ws : List Jvm.Cond) (a1 : Addr) (a2 : Addr) (G1 : Int32) (bv : Addr) (c0 : Int32) (k_bv : ClassId) (z_bv : Int32) (vs_bv : List Value) (dv_bv : Value) (h0 : Heap) (n0 : Nat) (Z0 : n0 ≤ h0.size) (S_COMPACT_STRINGS : Sta Z Z.heap "java/lang/String" "COMPACT_STRINGS" "Z" (.int G1)) (X00 : Old Z n0 h0) (P3 : ¬ (G1 = (0 : Int32))) (E_a1 : Exa Z h0 a1 "java/lang/String") (F_value_a1 : Fld Z h0 a1 "java/lang/String" "value" "[B" .null) (F_coder_a1 : Fld Z h0 a1 "java/lang/String" "coder" "B" (.int (0 : Int32))) (E_a2 : Exa Z h0 a2 "java/lang/StringBuilder") (F_value_a2 : Fld Z h0 a2 "java/lang/AbstractStringBuilder" "value" "[B" (.ref bv)) (F_coder_a2 : Fld Z h0 a2 "java/lang/AbstractStringBuilder" "coder" "B" (.int (0 : Int32))) (F_count_a2 : Fld Z h0 a2 "java/lang/AbstractStringBuilder" "count" "I" (.int c0)) (V_bv : Arv Z h0 bv k_bv .byte z_bv vs_bv dv_bv) (g_a1 : n0 ≤ a1) (hnn : ¬ c0 < 0) (hlt : c0 < z_bv) (hle : c0.toNatClampNeg ≤ 40) (hln : c0.toNatClampNeg ≤ vs_bv.length) (hc19 : ¬ ((1 : Int32) = (0 : Int32))) :
    MetFree l (⟨"java/lang/String", "<init>", "(Ljava/lang/AbstractStringBuilder;Ljava/lang/Void;)V"⟩ : MethodName) (head1 (Jvm.Cond.code (⟨"java/lang/String", "<init>", "(Ljava/lang/AbstractStringBuilder;Ljava/lang/Void;)V"⟩ : MethodName) jdk_42_method_150_code 5 none :: ws) ({ frames := 4, cells := 1, slots := 40, locals := 64 } : Room)) (fun a U => a = #[(.ref a1), (.ref a2), .null] ∧ Z.Warmed39 U.vm ∧ U.heap = h0) (fun _ _ _ _ _ => True) (fun _ U o U' => ∃ v L, o = .returned v ∧ own_QI Z a1 c0 (vs_bv.take c0.toNatClampNeg) h0 n0 v U'.heap L ∧ FrameEnd U o U' L ({ frames := 4, cells := 1, slots := 40, locals := 64 } : Room).cells ({ frames := 4, cells := 1, slots := 40, locals := 64 } : Room).slots) := by
  refine MetFree.of_bodySF (plainFor_of_name pn_25) hisR ?_
  intro p e s m args below meth c s₁ Bd hml0 hP hK
  obtain ⟨rfl, hZ, hh⟩ := hP
  have hx := Bd.exec
  have hby := Bd.bytes
  have hml : c.maxLocals = 5 := hml0
  have hown : s.vm.findClass "java/lang/String" = some m.cls := findClass_of_methodNamed Bd.named
  have hnm := (name_of_methodNamed Bd.named Bd.method).1
  have X0 : Stand p l e ({ frames := 4, cells := 1, slots := 40, locals := 64 } : Room) s m #[(.ref a1), (.ref a2), .null] below meth c s₁ [] 0 0 := Stand.of_body Bd
  have e0 : s₁.heap = h0 := by rw [← hh, Bd.state]; rfl
  have N0 := Fr.nil n0
  have pre0 : ∀ t, Steps p.tables e below (s₁.setTop (mkF m 0 #[.val (.ref a1), .val (.ref a2), .val .null, .unset, .unset] [])) t → Steps p.tables e below (s₁.setTop (entryFrame m #[(.ref a1), (.ref a2), .null] 5)) t := fun t k => castTop (ef_25_null2 m a1 a2) k
  obtain ⟨T3, X3, e3, st3⟩ := initO X0 hx hZ hown (hw _ (wI 11 rfl)) (hw _ (wI 12 rfl)) (hw _ (wI 13 rfl)) e0 (g := (mkF m 1 #[.val (.ref a1), .val (.ref a2), .val .null, .unset, .unset] [(.ref a1)])) rfl (by rw [hml]; rfl) rfl (hb hby d25_1) (by decide) (W := 0) (by show 2 * 0 + _ ≤ _; exact Nat.le_of_eq rfl) (by decide)
  obtain ⟨cq4, kq4, q4a, q4b, q4c⟩ := isOf hZ e3 E_a2
  obtain ⟨_, _, ⟨T4, L4, k4, n4⟩, -, X4, ⟨Lc4, hQ4, l4, y4, z4⟩, st4⟩ := X3.virtualBack hx (y := (⟨"java/lang/AbstractStringBuilder", "getValue", "()[B"⟩ : MethodName)) (z := (⟨"java/lang/AbstractStringBuilder", "getValue", "()[B"⟩ : MethodName)) hown (mvT hZ (hw _ (wI 138 rfl))) (mvT hZ (hw _ (wI 139 rfl))) (notFace_of_selects (args := #[]) (mvT hZ (hw _ (wI 141 rfl)))) (mvT hZ (hw _ (wI 141 rfl))) (mvT hZ (hw _ (wI 140 rfl))) (by decide) (backOf (W := 0) (rm26 l Z a0 hw [] a2 bv h0 n0 Z0 E_a2 F_value_a2) hZ (hw _ (wI 142 rfl)) (hw _ (wI 47 rfl)) (by decide) (by decide)) q4a q4c (g := (mkF m 5 #[.val (.ref a1), .val (.ref a2), .val .null, .unset, .unset] [(.ref a2)])) rfl (by rw [hml]; rfl) (Steps.refl _) (argsL := []) (rest := []) (lenOf pd_25_23 rfl) rfl (by show 2 * 0 + _ ≤ _; exact Nat.le_of_eq rfl) (hb hby d25_5) (fun _ _ => ⟨rfl, e3, (by decide : 0 + 0 ≤ _), (by decide : 0 + 0 ≤ _)⟩)
  dsimp only [Pt.U, Pt.locs, Pt.cells, Pt.slots] at X4 l4 y4 z4 st4 hQ4
  subst l4 y4 z4
  obtain ⟨rfl, N4q, eq4⟩ := hQ4
  have N4 := Fr.app N0 N4q
  have Kq4 : Keep h0 T4.heap [] := (own_keq eq4)
  have K4 : Keep h0 T4.heap [a1] := (Keep.refl h0 [a1]).trans Kq4 all0
  obtain ⟨cq5, kq5, q5a, q5b, q5c⟩ := isOf hZ rfl (E_a2.keep Kq4)
  obtain ⟨_, _, ⟨T5, L5, k5, n5⟩, -, X5, ⟨Lc5, hQ5, l5, y5, z5⟩, st5⟩ := X4.virtualBack hx (y := (⟨"java/lang/AbstractStringBuilder", "length", "()I"⟩ : MethodName)) (z := (⟨"java/lang/StringBuilder", "length", "()I"⟩ : MethodName)) hown (mvT hZ (hw _ (wI 143 rfl))) (mvT hZ (hw _ (wI 144 rfl))) (own_nf (own_notIf (args := #[]) (y := (⟨"java/lang/AbstractStringBuilder", "ensureCapacityInternal", "(I)V"⟩ : MethodName)) (mvT hZ (hw _ (wI 81 rfl))))) (mvT hZ (hw _ (wI 146 rfl))) (mvT hZ (hw _ (wI 147 rfl))) (by decide) (backOf (W := 0) (rm27 l Z a0 hw [] a2 c0 T4.heap n0 (Nat.le_trans Z0 Kq4.1) (E_a2.keep Kq4) (F_count_a2.keep Kq4 (fun q => nomatch q))) hZ (hw _ (wI 148 rfl)) (hw _ (wI 39 rfl)) (by decide) (by decide)) q5a q5c (g := (mkF m 10 #[.val (.ref a1), .val (.ref a2), .val .null, .val (.ref bv), .unset] [(.ref a2)])) rfl (by rw [hml]; rfl) (Steps.refl _) (argsL := []) (rest := []) (lenOf pd_25_10 rfl) rfl (by show 2 * 0 + _ ≤ _; exact Nat.le_of_eq rfl) (hb hby d25_10) (fun _ _ => ⟨rfl, rfl, (by decide : 0 + 0 ≤ _), (by decide : 0 + 0 ≤ _)⟩)
  dsimp only [Pt.U, Pt.locs, Pt.cells, Pt.slots] at X5 l5 y5 z5 st5 hQ5
  subst l5 y5 z5
  obtain ⟨rfl, N5q, eq5⟩ := hQ5
  have N5 := Fr.app N4 N5q
  have Kq5 : Keep T4.heap T5.heap [] := (own_keq eq5)
  have K5 : Keep h0 T5.heap [a1] := K4.trans Kq5 all0
  obtain ⟨cq6, kq6, q6a, q6b, q6c⟩ := isOf hZ rfl ((E_a2.keep Kq4).keep Kq5)
  obtain ⟨_, _, ⟨T6, L6, k6, n6⟩, -, X6, ⟨Lc6, hQ6, l6, y6, z6⟩, st6⟩ := X5.virtualBack hx (y := (⟨"java/lang/AbstractStringBuilder", "isLatin1", "()Z"⟩ : MethodName)) (z := (⟨"java/lang/AbstractStringBuilder", "isLatin1", "()Z"⟩ : MethodName)) hown (mvT hZ (hw _ (wI 151 rfl))) (mvT hZ (hw _ (wI 152 rfl))) (notFace_of_selects (args := #[]) (mvT hZ (hw _ (wI 154 rfl)))) (mvT hZ (hw _ (wI 154 rfl))) (mvT hZ (hw _ (wI 153 rfl))) (by decide) (backOf (W := 0) (rm29 l Z a0 hw [] a2 G1 T5.heap n0 (Nat.le_trans (Nat.le_trans Z0 Kq4.1) Kq5.1) S_COMPACT_STRINGS (X00.keep K5 (allS g_a1 all0)) P3 ((E_a2.keep Kq4).keep Kq5) ((F_coder_a2.keep Kq4 (fun q => nomatch q)).keep Kq5 (fun q => nomatch q))) hZ (hw _ (wI 155 rfl)) (hw _ (wI 47 rfl)) (by decide) (by decide)) q6a q6c (g := (mkF m 16 #[.val (.ref a1), .val (.ref a2), .val .null, .val (.ref bv), .val (.int c0)] [(.ref a2)])) rfl (by rw [hml]; rfl) (Steps.refl _) (argsL := []) (rest := []) (lenOf pd_25_24 rfl) rfl (by show 2 * 0 + _ ≤ _; exact Nat.le_of_eq rfl) (hb hby d25_16) (fun _ _ => ⟨rfl, rfl, (by decide : 0 + 0 ≤ _), (by decide : 0 + 0 ≤ _)⟩)
  dsimp only [Pt.U, Pt.locs, Pt.cells, Pt.slots] at X6 l6 y6 z6 st6 hQ6
  subst l6 y6 z6
  obtain ⟨rfl, N6q, eq6⟩ := hQ6
  have N6 := Fr.app N5 N6q
  have Kq6 : Keep T5.heap T6.heap [] := (own_keq eq6)
  have K6 : Keep h0 T6.heap [a1] := K5.trans Kq6 all0
  obtain ⟨T7, h7, X7, e7, W7, st7⟩ := putFN X6 hx hZ hown (hw _ (wI 26 rfl)) Via.refl rfl (((F_coder_a1.keep Kq4 (fun q => nomatch q)).keep Kq5 (fun q => nomatch q)).keep Kq6 (fun q => nomatch q)) (((E_a1.keep Kq4).keep Kq5).keep Kq6) (Or.inr ⟨(hw _ (wI 27 rfl)), rfl, hnm⟩) (hw _ (wI 1 rfl)) (ty := .byte) (v' := .int (nar .byte (0 : Int32))) (by decide) rfl (fits_nar_byte _) (g := (mkF m 24 #[.val (.ref a1), .val (.ref a2), .val .null, .val (.ref bv), .val (.int c0)] [(.int (0 : Int32)), (.ref a1)])) rfl rfl (hb hby d25_24)
  have Fw7 := (((F_coder_a1.keep Kq4 (fun q => nomatch q)).keep Kq5 (fun q => nomatch q)).keep Kq6 (fun q => nomatch q)).same W7
  have K7 : Keep h0 h7 [a1] := K6.wr W7 (Or.inl (List.mem_of_getElem? (i := 0) rfl))
  have N7 := Fr.snoc X7 N6 g_a1
  obtain ⟨_, _, ⟨T8, L8, k8, n8⟩, -, X8, ⟨Lc8, hQ8, l8, y8, z8⟩, st8⟩ := Jvm.LawKit.callS X7 hx (y := (⟨"java/util/Arrays", "copyOfRange", "([BII)[B"⟩ : MethodName)) hown (mvT hZ (hw _ (wI 156 rfl))) (mvT hZ (hw _ (wI 157 rfl))) (mvT hZ (hw _ (wI 100 rfl))) (mvT hZ (hw _ (wI 158 rfl))) (by decide) (backOf (W := 1) (rm30 l Z a0 hw [] bv (0 : Int32) c0 k_bv z_bv vs_bv dv_bv h7 n0 (Nat.le_trans (Nat.le_trans (Nat.le_trans (Nat.le_trans Z0 Kq4.1) Kq5.1) Kq6.1) (Keep.of_wr W7).1) ((((V_bv.keep Kq4 (fun q => nomatch q)).keep Kq5 (fun q => nomatch q)).keep Kq6 (fun q => nomatch q)).other W7 (Ne.symm (Exa.neArv E_a1 V_bv (hw _ (wI 1 rfl))))) hnn hlt hle hln (own_nelt hlt)) hZ (hw _ (wI 158 rfl)) (hw _ (wI 100 rfl)) (by decide) (by decide)) (g := (mkF m 32 #[.val (.ref a1), .val (.ref a2), .val .null, .val (.ref bv), .val (.int c0)] [(.int c0), (.int (0 : Int32)), (.ref bv), (.ref a1)])) rfl (by rw [hml]; rfl) (argsL := [(.ref bv), (.int (0 : Int32)), (.int c0)]) (rest := [(.ref a1)]) (lenOf pd_25_25 rfl) rfl (by show 2 * 0 + _ ≤ _; exact Nat.le_of_eq rfl) (hb hby d25_32) (fun _ _ => ⟨rfl, e7, (by decide : 0 + 1 ≤ _), (by decide : 0 + 40 ≤ _)⟩)
  dsimp only [Pt.U, Pt.locs, Pt.cells, Pt.slots] at X8 l8 y8 z8 st8 hQ8
  subst l8 y8 z8
  obtain ⟨tX, rfl, N8q, g_tX, gz_tX0, Kt, kx, Vx⟩ := hQ8
  have N8 := Fr.app N7 N8q
  have Kq8 : Keep h7 T8.heap [] := Kt
  have K8 : Keep h0 T8.heap [a1] := K7.trans Kq8 all0
  obtain ⟨T9, h9, X9, e9, W9, st9⟩ := putF X8 hx hZ hown (host := "") (Or.inl (hw _ (wI 28 rfl))) Via.refl rfl (((((F_value_a1.keep Kq4 (fun q => nomatch q)).keep Kq5 (fun q => nomatch q)).keep Kq6 (fun q => nomatch q)).other W7 (Or.inr (slot_ne (Or.inr (hw _ (wI 29 rfl))) (Or.inr (hw _ (wI 27 rfl))) (by decide) (t := (.array .byte)) (t' := .byte) (by decide) (by decide)))).keep Kq8 (fun q => nomatch q)) (((((E_a1.keep Kq4).keep Kq5).keep Kq6).wr W7).keep Kq8) (Or.inr ⟨(hw _ (wI 29 rfl)), rfl, hnm⟩) (hw _ (wI 1 rfl)) (ty := (.array .byte)) (by decide) rfl rfl (g := (mkF m 35 #[.val (.ref a1), .val (.ref a2), .val .null, .val (.ref bv), .val (.int c0)] [(.ref tX), (.ref a1)])) rfl rfl (hb hby d25_35)
  have Fw9 := (((((F_value_a1.keep Kq4 (fun q => nomatch q)).keep Kq5 (fun q => nomatch q)).keep Kq6 (fun q => nomatch q)).other W7 (Or.inr (slot_ne (Or.inr (hw _ (wI 29 rfl))) (Or.inr (hw _ (wI 27 rfl))) (by decide) (t := (.array .byte)) (t' := .byte) (by decide) (by decide)))).keep Kq8 (fun q => nomatch q)).same W9
  have K9 : Keep h0 h9 [a1] := K8.wr W9 (Or.inl (List.mem_of_getElem? (i := 0) rfl))
  have N9 := Fr.snoc X9 N8 g_a1
  have End_0 := Fw9
  have End_1 := ((Fw7.keep Kq8 (fun q => nomatch q)).other W9 (Or.inr (slot_ne (Or.inr (hw _ (wI 27 rfl))) (Or.inr (hw _ (wI 29 rfl))) (by decide) (t := .byte) (t' := (.array .byte)) (by decide) (by decide))))
  have End_2 := (Vx.other W9 (Ne.symm (Nat.ne_of_lt (Nat.lt_of_lt_of_le ((((E_a1.keep Kq4).keep Kq5).keep Kq6).wr W7).lt gz_tX0))))
  obtain ⟨fs, hr, hrun, hended, hW, hsame⟩ := X9.leave (v := none) (fun _ => rfl)
  refine ⟨_, _, pre0 _ ?_, hrun, hended, _, _, rfl, ?_, ⟨_, rfl⟩, hW, hsame.mono (by decide) (by decide)⟩
  · show Steps p.tables e below (s₁.setTop (mkF m 0 #[.val (.ref a1), .val (.ref a2), .val .null, .unset, .unset] [])) _
    refine XS.aloadN X0.here hx rfl (hb hby d25_0) rfl rfl ?_
    show Steps p.tables e below (s₁.setTop (mkF m 1 #[.val (.ref a1), .val (.ref a2), .val .null, .unset, .unset] [(.ref a1)])) _
    refine st3 _ ?_
    show Steps p.tables e below (T3.setTop (mkF m 4 #[.val (.ref a1), .val (.ref a2), .val .null, .unset, .unset] [])) _
    refine XS.aloadN X3.here hx rfl (hb hby d25_4) rfl rfl ?_
    show Steps p.tables e below (T3.setTop (mkF m 5 #[.val (.ref a1), .val (.ref a2), .val .null, .unset, .unset] [(.ref a2)])) _
    refine st4.trans ?_
    show Steps p.tables e below (T4.setTop (mkF m 8 #[.val (.ref a1), .val (.ref a2), .val .null, .unset, .unset] [(.ref bv)])) _
    refine XS.astoreN X4.here hx rfl (hb hby d25_8) rfl rfl (l' := #[.val (.ref a1), .val (.ref a2), .val .null, .val (.ref bv), .unset]) rfl ?_
    show Steps p.tables e below (T4.setTop (mkF m 9 #[.val (.ref a1), .val (.ref a2), .val .null, .val (.ref bv), .unset] [])) _
    refine XS.aloadN X4.here hx rfl (hb hby d25_9) rfl rfl ?_
    show Steps p.tables e below (T4.setTop (mkF m 10 #[.val (.ref a1), .val (.ref a2), .val .null, .val (.ref bv), .unset] [(.ref a2)])) _
    refine st5.trans ?_
    show Steps p.tables e below (T5.setTop (mkF m 13 #[.val (.ref a1), .val (.ref a2), .val .null, .val (.ref bv), .unset] [(.int c0)])) _
    refine XS.istore X5.here hx rfl (hb hby d25_13) rfl (l' := #[.val (.ref a1), .val (.ref a2), .val .null, .val (.ref bv), .val (.int c0)]) rfl ?_
    show Steps p.tables e below (T5.setTop (mkF m 15 #[.val (.ref a1), .val (.ref a2), .val .null, .val (.ref bv), .val (.int c0)] [])) _
    refine XS.aloadN X5.here hx rfl (hb hby d25_15) rfl rfl ?_
    show Steps p.tables e below (T5.setTop (mkF m 16 #[.val (.ref a1), .val (.ref a2), .val .null, .val (.ref bv), .val (.int c0)] [(.ref a2)])) _
    refine st6.trans ?_
    show Steps p.tables e below (T6.setTop (mkF m 19 #[.val (.ref a1), .val (.ref a2), .val .null, .val (.ref bv), .val (.int c0)] [(.int (1 : Int32))])) _
    refine XS.ifNo X6.here hx rfl (hb hby d25_19) rfl ((if0 _ _).trans (feq hc19).1) ?_
    show Steps p.tables e below (T6.setTop (mkF m 22 #[.val (.ref a1), .val (.ref a2), .val .null, .val (.ref bv), .val (.int c0)] [])) _
    refine XS.aloadN X6.here hx rfl (hb hby d25_22) rfl rfl ?_
    show Steps p.tables e below (T6.setTop (mkF m 23 #[.val (.ref a1), .val (.ref a2), .val .null, .val (.ref bv), .val (.int c0)] [(.ref a1)])) _
    refine XS.iconst X6.here hx rfl (hb hby d25_23) ?_
    show Steps p.tables e below (T6.setTop (mkF m 24 #[.val (.ref a1), .val (.ref a2), .val .null, .val (.ref bv), .val (.int c0)] [(.int (0 : Int32)), (.ref a1)])) _
    refine st7 _ ?_
    show Steps p.tables e below (T7.setTop (mkF m 27 #[.val (.ref a1), .val (.ref a2), .val .null, .val (.ref bv), .val (.int c0)] [])) _
    refine XS.aloadN X7.here hx rfl (hb hby d25_27) rfl rfl ?_
    show Steps p.tables e below (T7.setTop (mkF m 28 #[.val (.ref a1), .val (.ref a2), .val .null, .val (.ref bv), .val (.int c0)] [(.ref a1)])) _
    refine XS.aloadN X7.here hx rfl (hb hby d25_28) rfl rfl ?_
    show Steps p.tables e below (T7.setTop (mkF m 29 #[.val (.ref a1), .val (.ref a2), .val .null, .val (.ref bv), .val (.int c0)] [(.ref bv), (.ref a1)])) _
    refine XS.iconst X7.here hx rfl (hb hby d25_29) ?_
    show Steps p.tables e below (T7.setTop (mkF m 30 #[.val (.ref a1), .val (.ref a2), .val .null, .val (.ref bv), .val (.int c0)] [(.int (0 : Int32)), (.ref bv), (.ref a1)])) _
    refine XS.iload X7.here hx rfl (hb hby d25_30) rfl ?_
    show Steps p.tables e below (T7.setTop (mkF m 32 #[.val (.ref a1), .val (.ref a2), .val .null, .val (.ref bv), .val (.int c0)] [(.int c0), (.int (0 : Int32)), (.ref bv), (.ref a1)])) _
    refine st8 _ ?_
    show Steps p.tables e below (T8.setTop (mkF m 35 #[.val (.ref a1), .val (.ref a2), .val .null, .val (.ref bv), .val (.int c0)] [(.ref tX), (.ref a1)])) _
    refine st9 _ ?_
    show Steps p.tables e below (T9.setTop (mkF m 38 #[.val (.ref a1), .val (.ref a2), .val .null, .val (.ref bv), .val (.int c0)] [])) _
    refine XS.goto X9.here hx rfl (pc0 := 38) (pc' := 97) rfl (hb hby d25_38) (by decide) (by decide) ?_
    show Steps p.tables e below (T9.setTop (mkF m 97 #[.val (.ref a1), .val (.ref a2), .val .null, .val (.ref bv), .val (.int c0)] [])) _
    exact X9.returnOut hx Bd.returns (hb hby d25_97) hr
  · show own_QI Z a1 c0 (vs_bv.take c0.toNatClampNeg) h0 n0 _ T9.heap _
    rw [e9]
    exact ⟨rfl, N9, K9, tX, kx, g_tX, Nat.le_trans K7.1 gz_tX0, End_0, End_1, End_2⟩
theorem d24_0 : decode jdk_42_method_53_code 0 = .ok (.aload_n 0, 1) := by decide +kernel
theorem d24_1 : decode jdk_42_method_53_code 1 = .ok (.aload_n 1, 1) := by decide +kernel
theorem d24_2 : decode jdk_42_method_53_code 2 = .ok (.aconst_null, 1) := by decide +kernel
theorem d24_3 : decode jdk_42_method_53_code 3 = .ok (.invokespecial 489, 3) := by decide +kernel
theorem d24_6 : decode jdk_42_method_53_code 6 = .ok (.return_, 1) := by decide +kernel
theorem pn_24 : plainName "java/lang/String" = true := by first | (simp [plainName, overriddenIn]; done) | decide +kernel
theorem pd_24_22 : parseMethodDescriptor "(Ljava/lang/AbstractStringBuilder;Ljava/lang/Void;)V" = some ⟨[(.object "java/lang/AbstractStringBuilder"), (.object "java/lang/Void")], none⟩ := by decide +kernel
theorem ef_24 (m : MethodId) (x0 : Addr) (x1 : Addr) : entryFrame m #[(.ref x0), (.ref x1)] 2 = mkF m 0 #[.val (.ref x0), .val (.ref x1)] [] := by first | (simp [entryFrame, mkF, argsToLocals, Value.category]; done) | rfl
set_option maxRecDepth 65536 in
set_option maxHeartbeats 40000000 in
theorem rm24 (l : Launch) (Z : State) (a0 : Array Value) (hw : ∀ d ∈ tables_1, d.before a0 Z = true) (ws : List Jvm.Cond) (a1 : Addr) (a2 : Addr) (G1 : Int32) (bv : Addr) (c0 : Int32) (k_bv : ClassId) (z_bv : Int32) (vs_bv : List Value) (dv_bv : Value) (h0 : Heap) (n0 : Nat) (Z0 : n0 ≤ h0.size) (S_COMPACT_STRINGS : Sta Z Z.heap "java/lang/String" "COMPACT_STRINGS" "Z" (.int G1)) (X00 : Old Z n0 h0) (P3 : ¬ (G1 = (0 : Int32))) (E_a1 : Exa Z h0 a1 "java/lang/String") (F_value_a1 : Fld Z h0 a1 "java/lang/String" "value" "[B" .null) (F_coder_a1 : Fld Z h0 a1 "java/lang/String" "coder" "B" (.int (0 : Int32))) (E_a2 : Exa Z h0 a2 "java/lang/StringBuilder") (F_value_a2 : Fld Z h0 a2 "java/lang/AbstractStringBuilder" "value" "[B" (.ref bv)) (F_coder_a2 : Fld Z h0 a2 "java/lang/AbstractStringBuilder" "coder" "B" (.int (0 : Int32))) (F_count_a2 : Fld Z h0 a2 "java/lang/AbstractStringBuilder" "count" "I" (.int c0)) (V_bv : Arv Z h0 bv k_bv .byte z_bv vs_bv dv_bv) (g_a1 : n0 ≤ a1) (hnn : ¬ c0 < 0) (hlt : c0 < z_bv) (hle : c0.toNatClampNeg ≤ 40) (hln : c0.toNatClampNeg ≤ vs_bv.length) :
    MetFree l (⟨"java/lang/String", "<init>", "(Ljava/lang/StringBuilder;)V"⟩ : MethodName) (head1 (Jvm.Cond.code (⟨"java/lang/String", "<init>", "(Ljava/lang/StringBuilder;)V"⟩ : MethodName) jdk_42_method_53_code 2 none :: ws) ({ frames := 5, cells := 1, slots := 40, locals := 80 } : Room)) (fun a U => a = #[(.ref a1), (.ref a2)] ∧ Z.Warmed39 U.vm ∧ U.heap = h0) (fun _ _ _ _ _ => True) (fun _ U o U' => ∃ v L, o = .returned v ∧ own_QI Z a1 c0 (vs_bv.take c0.toNatClampNeg) h0 n0 v U'.heap L ∧ FrameEnd U o U' L ({ frames := 5, cells := 1, slots := 40, locals := 80 } : Room).cells ({ frames := 5, cells := 1, slots := 40, locals := 80 } : Room).slots) := by
  refine MetFree.of_bodySF (plainFor_of_name pn_24) hisR ?_
  intro p e s m args below meth c s₁ Bd hml0 hP hK
  obtain ⟨rfl, hZ, hh⟩ := hP
  have hx := Bd.exec
  have hby := Bd.bytes
  have hml : c.maxLocals = 2 := hml0
  have hown : s.vm.findClass "java/lang/String" = some m.cls := findClass_of_methodNamed Bd.named
  have hnm := (name_of_methodNamed Bd.named Bd.method).1
  have X0 : Stand p l e ({ frames := 5, cells := 1, slots := 40, locals := 80 } : Room) s m #[(.ref a1), (.ref a2)] below meth c s₁ [] 0 0 := Stand.of_body Bd
  have e0 : s₁.heap = h0 := by rw [← hh, Bd.state]; rfl
  have N0 := Fr.nil n0
  have pre0 : ∀ t, Steps p.tables e below (s₁.setTop (mkF m 0 #[.val (.ref a1), .val (.ref a2)] [])) t → Steps p.tables e below (s₁.setTop (entryFrame m #[(.ref a1), (.ref a2)] 2)) t := fun t k => castTop (ef_24 m a1 a2) k
  obtain ⟨_, _, ⟨T3, L3, k3, n3⟩, -, X3, ⟨Lc3, hQ3, l3, y3, z3⟩, st3⟩ := X0.specialBack hx (y := (⟨"java/lang/String", "<init>", "(Ljava/lang/AbstractStringBuilder;Ljava/lang/Void;)V"⟩ : MethodName)) rfl hown (mvT hZ (hw _ (wI 135 rfl))) (mvT hZ (hw _ (wI 136 rfl))) (mvT hZ (hw _ (wI 137 rfl))) (by decide) (backOf (W := 0) (rm25 l Z a0 hw [] a1 a2 G1 bv c0 k_bv z_bv vs_bv dv_bv h0 n0 Z0 S_COMPACT_STRINGS X00 P3 E_a1 F_value_a1 F_coder_a1 E_a2 F_value_a2 F_coder_a2 F_count_a2 V_bv g_a1 hnn hlt hle hln (by decide)) hZ (hw _ (wI 137 rfl)) (hw _ (wI 2 rfl)) (by decide) (by decide)) (g := (mkF m 3 #[.val (.ref a1), .val (.ref a2)] [.null, (.ref a2), (.ref a1)])) rfl (by rw [hml]; rfl) (Steps.refl _) (a := a1) (argsL := [(.ref a2), .null]) (rest := []) (lenOf pd_24_22 rfl) rfl (by show 2 * 0 + _ ≤ _; exact Nat.le_of_eq rfl) (hb hby d24_3) (fun _ _ => ⟨rfl, e0, (by decide : 0 + 1 ≤ _), (by decide : 0 + 40 ≤ _)⟩)
  dsimp only [Pt.U, Pt.locs, Pt.cells, Pt.slots] at X3 l3 y3 z3 st3 hQ3
  subst l3 y3 z3
  obtain ⟨rfl, N3q, Kc, Rc⟩ := hQ3
  have N3 := Fr.app N0 N3q
  have Kq3 : Keep h0 T3.heap [a1] := Kc
  have K3 : Keep h0 T3.heap [a1] := (Keep.refl h0 [a1]).trans Kq3 (own_trS (Or.inl (List.mem_of_getElem? (i := 0) rfl)) all0)
  obtain ⟨fs, hr, hrun, hended, hW, hsame⟩ := X3.leave (v := none) (fun _ => rfl)
  refine ⟨_, _, pre0 _ ?_, hrun, hended, _, _, rfl, ?_, ⟨_, rfl⟩, hW, hsame.mono (by decide) (by decide)⟩
  · show Steps p.tables e below (s₁.setTop (mkF m 0 #[.val (.ref a1), .val (.ref a2)] [])) _
    refine XS.aloadN X0.here hx rfl (hb hby d24_0) rfl rfl ?_
    show Steps p.tables e below (s₁.setTop (mkF m 1 #[.val (.ref a1), .val (.ref a2)] [(.ref a1)])) _
    refine XS.aloadN X0.here hx rfl (hb hby d24_1) rfl rfl ?_
    show Steps p.tables e below (s₁.setTop (mkF m 2 #[.val (.ref a1), .val (.ref a2)] [(.ref a2), (.ref a1)])) _
    refine XS.aconstNull X0.here hx rfl (hb hby d24_2) ?_
    show Steps p.tables e below (s₁.setTop (mkF m 3 #[.val (.ref a1), .val (.ref a2)] [.null, (.ref a2), (.ref a1)])) _
    refine st3.trans ?_
    show Steps p.tables e below (T3.setTop (mkF m 6 #[.val (.ref a1), .val (.ref a2)] [])) _
    exact X3.returnOut hx Bd.returns (hb hby d24_6) hr
  · show own_QI Z a1 c0 (vs_bv.take c0.toNatClampNeg) h0 n0 _ T3.heap _
    exact ⟨rfl, N3, Kc, Rc⟩
theorem d23_0 : decode jdk_67_method_42_code 0 = .ok (.new 18, 3) := by decide +kernel
theorem d23_3 : decode jdk_67_method_42_code 3 = .ok (.dup, 1) := by decide +kernel
theorem d23_4 : decode jdk_67_method_42_code 4 = .ok (.aload_n 0, 1) := by decide +kernel
theorem d23_5 : decode jdk_67_method_42_code 5 = .ok (.invokespecial 137, 3) := by decide +kernel
theorem d23_8 : decode jdk_67_method_42_code 8 = .ok (.areturn, 1) := by decide +kernel
theorem pn_23 : plainName "java/lang/StringBuilder" = true := by first | (simp [plainName, overriddenIn]; done) | decide +kernel
theorem pd_23_21 : parseMethodDescriptor "(Ljava/lang/StringBuilder;)V" = some ⟨[(.object "java/lang/StringBuilder")], none⟩ := by decide +kernel
theorem ef_23 (m : MethodId) (x0 : Addr) : entryFrame m #[(.ref x0)] 1 = mkF m 0 #[.val (.ref x0)] [] := by first | (simp [entryFrame, mkF, argsToLocals, Value.category]; done) | rfl
set_option maxRecDepth 65536 in
set_option maxHeartbeats 40000000 in
theorem rm23 (l : Launch) (Z : State) (a0 : Array Value) (hw : ∀ d ∈ tables_1, d.before a0 Z = true) (ws : List Jvm.Cond) (a1 : Addr) (G1 : Int32) (bv : Addr) (c0 : Int32) (k_bv : ClassId) (z_bv : Int32) (vs_bv : List Value) (dv_bv : Value) (h0 : Heap) (n0 : Nat) (Z0 : n0 ≤ h0.size) (S_COMPACT_STRINGS : Sta Z Z.heap "java/lang/String" "COMPACT_STRINGS" "Z" (.int G1)) (X00 : Old Z n0 h0) (P3 : ¬ (G1 = (0 : Int32))) (E_a1 : Exa Z h0 a1 "java/lang/StringBuilder") (F_value_a1 : Fld Z h0 a1 "java/lang/AbstractStringBuilder" "value" "[B" (.ref bv)) (F_coder_a1 : Fld Z h0 a1 "java/lang/AbstractStringBuilder" "coder" "B" (.int (0 : Int32))) (F_count_a1 : Fld Z h0 a1 "java/lang/AbstractStringBuilder" "count" "I" (.int c0)) (V_bv : Arv Z h0 bv k_bv .byte z_bv vs_bv dv_bv) (hnn : ¬ c0 < 0) (hlt : c0 < z_bv) (hle : c0.toNatClampNeg ≤ 40) (hln : c0.toNatClampNeg ≤ vs_bv.length) :
    MetFree l (⟨"java/lang/StringBuilder", "toString", "()Ljava/lang/String;"⟩ : MethodName) (head1 (Jvm.Cond.code (⟨"java/lang/StringBuilder", "toString", "()Ljava/lang/String;"⟩ : MethodName) jdk_67_method_42_code 1 (some (.object "java/lang/String")) :: ws) ({ frames := 6, cells := 2, slots := 44, locals := 95 } : Room)) (fun a U => a = #[(.ref a1)] ∧ Z.Warmed39 U.vm ∧ U.heap = h0) (fun _ _ _ _ _ => True) (fun _ U o U' => ∃ v L, o = .returned v ∧ own_QS Z c0 (vs_bv.take c0.toNatClampNeg) h0 n0 v U'.heap L ∧ FrameEnd U o U' L ({ frames := 6, cells := 2, slots := 44, locals := 95 } : Room).cells ({ frames := 6, cells := 2, slots := 44, locals := 95 } : Room).slots) := by
  refine MetFree.of_bodySF (plainFor_of_name pn_23) hisR ?_
  intro p e s m args below meth c s₁ Bd hml0 hP hK
  obtain ⟨rfl, hZ, hh⟩ := hP
  have hx := Bd.exec
  have hby := Bd.bytes
  have hml : c.maxLocals = 1 := hml0
  have hown : s.vm.findClass "java/lang/StringBuilder" = some m.cls := findClass_of_methodNamed Bd.named
  have hnm := (name_of_methodNamed Bd.named Bd.method).1
  have X0 : Stand p l e ({ frames := 6, cells := 2, slots := 44, locals := 95 } : Room) s m #[(.ref a1)] below meth c s₁ [] 0 0 := Stand.of_body Bd
  have e0 : s₁.heap = h0 := by rw [← hh, Bd.state]; rfl
  have N0 := Fr.nil n0
  have pre0 : ∀ t, Steps p.tables e below (s₁.setTop (mkF m 0 #[.val (.ref a1)] [])) t → Steps p.tables e below (s₁.setTop (entryFrame m #[(.ref a1)] 1)) t := fun t k => castTop (ef_23 m a1) k
  obtain ⟨T2, h2, X2, e2, E2, A2, D2, Un2, st2⟩ := newO X0 hx hZ hown (hw _ (wI 131 rfl)) (hw _ (wI 1 rfl)) (hw _ (wI 2 rfl)) e0 (g := (mkF m 0 #[.val (.ref a1)] [])) rfl (hb hby d23_0) (by decide) (by decide)
  obtain ⟨b2, g2⟩ : ∃ z, z = h0.size := ⟨_, rfl⟩
  rw [← g2] at A2 D2 Un2 st2
  have U_b2 : Unt h2 b2 := Un2
  have F_coder_b2 : Fld Z h2 b2 "java/lang/String" "coder" "B" (.int (0 : Int32)) := D2 (Or.inr (hw _ (wI 27 rfl))) (ty := .byte) (by decide)
  have F_value_b2 : Fld Z h2 b2 "java/lang/String" "value" "[B" .null := D2 (Or.inr (hw _ (wI 29 rfl))) (ty := (.array .byte)) (by decide)
  have E_b2 := A2
  have g_b2 : n0 ≤ b2 := Nat.le_trans Z0 (Nat.le_of_eq g2.symm)
  have sz_b2 : h0.size ≤ b2 := (Nat.le_trans (Keep.refl h0 []).1 (Nat.le_of_eq g2.symm))
  have K2 : Keep h0 h2 [] := (Keep.refl h0 []).ext E2
  obtain ⟨_, _, ⟨T3, L3, k3, n3⟩, -, X3, ⟨Lc3, hQ3, l3, y3, z3⟩, st3⟩ := X2.specialBack hx (y := (⟨"java/lang/String", "<init>", "(Ljava/lang/StringBuilder;)V"⟩ : MethodName)) rfl hown (mvT hZ (hw _ (wI 132 rfl))) (mvT hZ (hw _ (wI 133 rfl))) (mvT hZ (hw _ (wI 134 rfl))) (by decide) (backOf (W := 1) (rm24 l Z a0 hw [] b2 a1 G1 bv c0 k_bv z_bv vs_bv dv_bv h2 n0 (Nat.le_trans Z0 E2.1) S_COMPACT_STRINGS (X00.keep K2 all0) P3 E_b2 F_value_b2 F_coder_b2 (E_a1.ext E2) (F_value_a1.ext E2) (F_coder_a1.ext E2) (F_count_a1.ext E2) (V_bv.ext E2) g_b2 hnn hlt hle hln) hZ (hw _ (wI 134 rfl)) (hw _ (wI 2 rfl)) (by decide) (by decide)) (g := (mkF m 5 #[.val (.ref a1)] [(.ref a1), (.ref b2), (.ref b2)])) rfl (by rw [hml]; rfl) (Steps.refl _) (a := b2) (argsL := [(.ref a1)]) (rest := [(.ref b2)]) (lenOf pd_23_21 rfl) rfl (by show 2 * 0 + _ ≤ _; exact Nat.le_of_eq rfl) (hb hby d23_5) (fun _ _ => ⟨rfl, e2, (by decide : 1 + 1 ≤ _), (by decide : 4 + 40 ≤ _)⟩)
  dsimp only [Pt.U, Pt.locs, Pt.cells, Pt.slots] at X3 l3 y3 z3 st3 hQ3
  subst l3 y3 z3
  obtain ⟨rfl, N3q, Kc, tX, kx, gt, gz, Fv, Fc, Vx⟩ := hQ3
  have N3 := Fr.app N0 N3q
  have Kq3 : Keep h2 T3.heap [b2] := Kc
  have K3 : Keep h0 T3.heap [] := K2.trans Kq3 (own_trS (Or.inr sz_b2) all0)
  obtain ⟨fs, hr, hrun, hended, hW, hsame⟩ := X3.leave (v := some (.ref b2)) (fun h => by rw [Bd.returns] at h; cases h)
  refine ⟨_, _, pre0 _ ?_, hrun, hended, _, _, rfl, ?_, ⟨_, rfl⟩, hW, hsame.mono (by decide) (by decide)⟩
  · show Steps p.tables e below (s₁.setTop (mkF m 0 #[.val (.ref a1)] [])) _
    refine st2 _ ?_
    show Steps p.tables e below (T2.setTop (mkF m 3 #[.val (.ref a1)] [(.ref b2)])) _
    refine XS.dup X2.here hx rfl (hb hby d23_3) rfl rfl ?_
    show Steps p.tables e below (T2.setTop (mkF m 4 #[.val (.ref a1)] [(.ref b2), (.ref b2)])) _
    refine XS.aloadN X2.here hx rfl (hb hby d23_4) rfl rfl ?_
    show Steps p.tables e below (T2.setTop (mkF m 5 #[.val (.ref a1)] [(.ref a1), (.ref b2), (.ref b2)])) _
    refine st3.trans ?_
    show Steps p.tables e below (T3.setTop (mkF m 8 #[.val (.ref a1)] [(.ref b2)])) _
    jvm_step X3.here [X3.here.top, hx, (hb hby d23_8), X3.method', Bd.returns, Value.isRef, FieldType.isReference]
    first | (intro acts; rw [hr _ acts rfl rfl rfl]) | rw [hr _ _ rfl rfl rfl]
    exact Steps.refl _
  · show own_QS Z c0 (vs_bv.take c0.toNatClampNeg) h0 n0 _ T3.heap _
    exact ⟨b2, rfl, N3, g_b2, sz_b2, K3, (E_b2.keep Kc), tX, kx, gt, Nat.le_trans K2.1 gz, Fv, Fc, Vx⟩
theorem d17_0 : decode jdk_29_method_65_code 0 = .ok (.iload_n 0, 1) := by decide +kernel
theorem d17_1 : decode jdk_29_method_65_code 1 = .ok (.iload_n 1, 1) := by decide +kernel
theorem d17_2 : decode jdk_29_method_65_code 2 = .ok (.if_icmp .lt 7, 3) := by decide +kernel
theorem d17_9 : decode jdk_29_method_65_code 9 = .ok (.iload_n 1, 1) := by decide +kernel
theorem d17_10 : decode jdk_29_method_65_code 10 = .ok (.ireturn, 1) := by decide +kernel
theorem ef_17 (m : MethodId) (x0 : Int32) (x1 : Int32) : entryFrame m #[(.int x0), (.int x1)] 2 = mkF m 0 #[.val (.int x0), .val (.int x1)] [] := by first | (simp [entryFrame, mkF, argsToLocals, Value.category]; done) | rfl
set_option maxRecDepth 65536 in
set_option maxHeartbeats 40000000 in
theorem rm17 (l : Launch) (Z : State) (a0 : Array Value) (hw : ∀ d ∈ tables_1, d.before a0 Z = true) (ws : List Jvm.Cond) (p1 : Int32) (p2 : Int32) (h0 : Heap) (n0 : Nat) (Z0 : n0 ≤ h0.size) (hc2 : p1 < p2) :
    MetFree l (⟨"java/lang/Math", "max", "(II)I"⟩ : MethodName) (head1 (Jvm.Cond.code (⟨"java/lang/Math", "max", "(II)I"⟩ : MethodName) jdk_29_method_65_code 2 (some .int) :: ws) ({ frames := 0, cells := 0, slots := 0, locals := 0 } : Room)) (fun a U => a = #[(.int p1), (.int p2)] ∧ Z.Warmed39 U.vm ∧ U.heap = h0) (fun _ _ _ _ _ => True) (fun _ U o U' => ∃ v L, o = .returned v ∧ own_QR (.int p2) h0 n0 v U'.heap L ∧ FrameEnd U o U' L ({ frames := 0, cells := 0, slots := 0, locals := 0 } : Room).cells ({ frames := 0, cells := 0, slots := 0, locals := 0 } : Room).slots) := by
  refine MetFree.of_bodySF (Jvm.Free.JP.mathPlain rfl (by decide +kernel)) hisR ?_
  intro p e s m args below meth c s₁ Bd hml0 hP hK
  obtain ⟨rfl, hZ, hh⟩ := hP
  have hx := Bd.exec
  have hby := Bd.bytes
  have hml : c.maxLocals = 2 := hml0
  have hown : s.vm.findClass "java/lang/Math" = some m.cls := findClass_of_methodNamed Bd.named
  have hnm := (name_of_methodNamed Bd.named Bd.method).1
  have X0 : Stand p l e ({ frames := 0, cells := 0, slots := 0, locals := 0 } : Room) s m #[(.int p1), (.int p2)] below meth c s₁ [] 0 0 := Stand.of_body Bd
  have e0 : s₁.heap = h0 := by rw [← hh, Bd.state]; rfl
  have N0 := Fr.nil n0
  have pre0 : ∀ t, Steps p.tables e below (s₁.setTop (mkF m 0 #[.val (.int p1), .val (.int p2)] [])) t → Steps p.tables e below (s₁.setTop (entryFrame m #[(.int p1), (.int p2)] 2)) t := fun t k => castTop (ef_17 m p1 p2) k

  obtain ⟨fs, hr, hrun, hended, hW, hsame⟩ := X0.leave (v := some (.int p2)) (fun h => by rw [Bd.returns] at h; cases h)
  refine ⟨_, _, pre0 _ ?_, hrun, hended, _, _, rfl, ?_, ⟨_, rfl⟩, hW, hsame.mono (by decide) (by decide)⟩
  · show Steps p.tables e below (s₁.setTop (mkF m 0 #[.val (.int p1), .val (.int p2)] [])) _
    refine XS.iloadN X0.here hx rfl (hb hby d17_0) rfl ?_
    show Steps p.tables e below (s₁.setTop (mkF m 1 #[.val (.int p1), .val (.int p2)] [(.int p1)])) _
    refine XS.iloadN X0.here hx rfl (hb hby d17_1) rfl ?_
    show Steps p.tables e below (s₁.setTop (mkF m 2 #[.val (.int p1), .val (.int p2)] [(.int p2), (.int p1)])) _
    refine XS.icmpYes X0.here hx rfl (pc0 := 2) (pc' := 9) rfl (hb hby d17_2) rfl (tlt hc2).1 (by decide) (by decide) ?_
    show Steps p.tables e below (s₁.setTop (mkF m 9 #[.val (.int p1), .val (.int p2)] [])) _
    refine XS.iloadN X0.here hx rfl (hb hby d17_9) rfl ?_
    show Steps p.tables e below (s₁.setTop (mkF m 10 #[.val (.int p1), .val (.int p2)] [(.int p2)])) _
    exact retI X0 hx Bd.returns (hb hby d17_10) hr      -- retI stands in the head ('lawwalk <made dir>' prints it)
  · show own_QR (.int p2) h0 n0 _ s₁.heap _
    rw [e0]
    exact ⟨rfl, N0, rfl⟩
theorem d19_5 : decode jdk_29_method_69_code 5 = .ok (.iload_n 0, 1) := by decide +kernel
theorem d19_6 : decode jdk_29_method_69_code 6 = .ok (.goto 4, 3) := by decide +kernel
set_option maxRecDepth 65536 in
set_option maxHeartbeats 40000000 in
theorem rm19f (l : Launch) (Z : State) (a0 : Array Value) (hw : ∀ d ∈ tables_1, d.before a0 Z = true) (ws : List Jvm.Cond) (p1 : Int32) (p2 : Int32) (h0 : Heap) (n0 : Nat) (Z0 : n0 ≤ h0.size) (hc2 : ¬ (p2 < p1)) :
    MetFree l (⟨"java/lang/Math", "min", "(II)I"⟩ : MethodName) (head1 (Jvm.Cond.code (⟨"java/lang/Math", "min", "(II)I"⟩ : MethodName) jdk_29_method_69_code 2 (some .int) :: ws) ({ frames := 0, cells := 0, slots := 0, locals := 0 } : Room)) (fun a U => a = #[(.int p1), (.int p2)] ∧ Z.Warmed39 U.vm ∧ U.heap = h0) (fun _ _ _ _ _ => True) (fun _ U o U' => ∃ v L, o = .returned v ∧ own_QR (.int p1) h0 n0 v U'.heap L ∧ FrameEnd U o U' L ({ frames := 0, cells := 0, slots := 0, locals := 0 } : Room).cells ({ frames := 0, cells := 0, slots := 0, locals := 0 } : Room).slots) := by
  refine MetFree.of_bodySF (Jvm.Free.JP.mathPlain rfl (by decide +kernel)) hisR ?_
  intro p e s m args below meth c s₁ Bd hml0 hP hK
  obtain ⟨rfl, hZ, hh⟩ := hP
  have hx := Bd.exec
  have hby := Bd.bytes
  have hml : c.maxLocals = 2 := hml0
  have hown : s.vm.findClass "java/lang/Math" = some m.cls := findClass_of_methodNamed Bd.named
  have hnm := (name_of_methodNamed Bd.named Bd.method).1
  have X0 : Stand p l e ({ frames := 0, cells := 0, slots := 0, locals := 0 } : Room) s m #[(.int p1), (.int p2)] below meth c s₁ [] 0 0 := Stand.of_body Bd
  have e0 : s₁.heap = h0 := by rw [← hh, Bd.state]; rfl
  have N0 := Fr.nil n0
  have pre0 : ∀ t, Steps p.tables e below (s₁.setTop (mkF m 0 #[.val (.int p1), .val (.int p2)] [])) t → Steps p.tables e below (s₁.setTop (entryFrame m #[(.int p1), (.int p2)] 2)) t := fun t k => castTop (ef_19 m p1 p2) k

  obtain ⟨fs, hr, hrun, hended, hW, hsame⟩ := X0.leave (v := some (.int p1)) (fun h => by rw [Bd.returns] at h; cases h)
  refine ⟨_, _, pre0 _ ?_, hrun, hended, _, _, rfl, ?_, ⟨_, rfl⟩, hW, hsame.mono (by decide) (by decide)⟩
  · show Steps p.tables e below (s₁.setTop (mkF m 0 #[.val (.int p1), .val (.int p2)] [])) _
    refine XS.iloadN X0.here hx rfl (hb hby d19_0) rfl ?_
    show Steps p.tables e below (s₁.setTop (mkF m 1 #[.val (.int p1), .val (.int p2)] [(.int p1)])) _
    refine XS.iloadN X0.here hx rfl (hb hby d19_1) rfl ?_
    show Steps p.tables e below (s₁.setTop (mkF m 2 #[.val (.int p1), .val (.int p2)] [(.int p2), (.int p1)])) _
    refine XS.icmpNo X0.here hx rfl (hb hby d19_2) rfl (flt hc2).2.2.1 ?_
    show Steps p.tables e below (s₁.setTop (mkF m 5 #[.val (.int p1), .val (.int p2)] [])) _
    refine XS.iloadN X0.here hx rfl (hb hby d19_5) rfl ?_
    show Steps p.tables e below (s₁.setTop (mkF m 6 #[.val (.int p1), .val (.int p2)] [(.int p1)])) _
    refine XS.goto X0.here hx rfl (pc0 := 6) (pc' := 10) rfl (hb hby d19_6) (by decide) (by decide) ?_
    show Steps p.tables e below (s₁.setTop (mkF m 10 #[.val (.int p1), .val (.int p2)] [(.int p1)])) _
    exact retI X0 hx Bd.returns (hb hby d19_10) hr      -- retI stands in the head ('lawwalk <made dir>' prints it)
  · show own_QR (.int p1) h0 n0 _ s₁.heap _
    rw [e0]
    exact ⟨rfl, N0, rfl⟩
theorem d16_0 : decode jdk_48_method_27_code 0 = .ok (.iload_n 0, 1) := by decide +kernel
theorem d16_1 : decode jdk_48_method_27_code 1 = .ok (.iload_n 1, 1) := by decide +kernel
theorem d16_2 : decode jdk_48_method_27_code 2 = .ok (.iload_n 2, 1) := by decide +kernel
theorem d16_3 : decode jdk_48_method_27_code 3 = .ok (.invokestatic 194, 3) := by decide +kernel
theorem d16_6 : decode jdk_48_method_27_code 6 = .ok (.iadd, 1) := by decide +kernel
theorem d16_7 : decode jdk_48_method_27_code 7 = .ok (.istore_n 3, 1) := by decide +kernel
theorem d16_8 : decode jdk_48_method_27_code 8 = .ok (.iconst 0, 1) := by decide +kernel
theorem d16_9 : decode jdk_48_method_27_code 9 = .ok (.iload_n 3, 1) := by decide +kernel
theorem d16_10 : decode jdk_48_method_27_code 10 = .ok (.if_icmp .ge 11, 3) := by decide +kernel
theorem d16_13 : decode jdk_48_method_27_code 13 = .ok (.iload_n 3, 1) := by decide +kernel
theorem d16_14 : decode jdk_48_method_27_code 14 = .ok (.ldc 200, 2) := by decide +kernel
theorem d16_16 : decode jdk_48_method_27_code 16 = .ok (.if_icmp .gt 5, 3) := by decide +kernel
theorem d16_19 : decode jdk_48_method_27_code 19 = .ok (.iload_n 3, 1) := by decide +kernel
theorem d16_20 : decode jdk_48_method_27_code 20 = .ok (.ireturn, 1) := by decide +kernel
theorem pn_16 : plainName "jdk/internal/util/ArraysSupport" = true := by first | (simp [plainName, overriddenIn]; done) | decide +kernel
theorem pd_16_14 : parseMethodDescriptor "(II)I" = some ⟨[.int, .int], some .int⟩ := by decide +kernel
theorem ef_16 (m : MethodId) (x0 : Int32) (x1 : Int32) (x2 : Int32) : entryFrame m #[(.int x0), (.int x1), (.int x2)] 4 = mkF m 0 #[.val (.int x0), .val (.int x1), .val (.int x2), .unset] [] := by first | (simp [entryFrame, mkF, argsToLocals, Value.category]; done) | rfl
set_option maxRecDepth 65536 in
set_option maxHeartbeats 40000000 in
theorem rm16 (l : Launch) (Z : State) (a0 : Array Value) (hw : ∀ d ∈ tables_1, d.before a0 Z = true) (ws : List Jvm.Cond) (p1 : Int32) (p2 : Int32) (p3 : Int32) (h0 : Heap) (n0 : Nat) (Z0 : n0 ≤ h0.size) (hmx : p2 < p3) (hc10 : (0 : Int32) < (p1 + p3)) (hc16 : ¬ ((2147483639 : Int32) < (p1 + p3))) :
    MetFree l (⟨"jdk/internal/util/ArraysSupport", "newLength", "(III)I"⟩ : MethodName) (head1 (Jvm.Cond.code (⟨"jdk/internal/util/ArraysSupport", "newLength", "(III)I"⟩ : MethodName) jdk_48_method_27_code 4 (some .int) :: ws) ({ frames := 1, cells := 0, slots := 0, locals := 14 } : Room)) (fun a U => a = #[(.int p1), (.int p2), (.int p3)] ∧ Z.Warmed39 U.vm ∧ U.heap = h0) (fun _ _ _ _ _ => True) (fun _ U o U' => ∃ v L, o = .returned v ∧ own_QR (.int (p1 + p3)) h0 n0 v U'.heap L ∧ FrameEnd U o U' L ({ frames := 1, cells := 0, slots := 0, locals := 14 } : Room).cells ({ frames := 1, cells := 0, slots := 0, locals := 14 } : Room).slots) := by
  refine MetFree.of_bodySF (plainFor_of_name pn_16) hisR ?_
  intro p e s m args below meth c s₁ Bd hml0 hP hK
  obtain ⟨rfl, hZ, hh⟩ := hP
  have hx := Bd.exec
  have hby := Bd.bytes
  have hml : c.maxLocals = 4 := hml0
  have hown : s.vm.findClass "jdk/internal/util/ArraysSupport" = some m.cls := findClass_of_methodNamed Bd.named
  have hnm := (name_of_methodNamed Bd.named Bd.method).1
  have X0 : Stand p l e ({ frames := 1, cells := 0, slots := 0, locals := 14 } : Room) s m #[(.int p1), (.int p2), (.int p3)] below meth c s₁ [] 0 0 := Stand.of_body Bd
  have e0 : s₁.heap = h0 := by rw [← hh, Bd.state]; rfl
  have N0 := Fr.nil n0
  have pre0 : ∀ t, Steps p.tables e below (s₁.setTop (mkF m 0 #[.val (.int p1), .val (.int p2), .val (.int p3), .unset] [])) t → Steps p.tables e below (s₁.setTop (entryFrame m #[(.int p1), (.int p2), (.int p3)] 4)) t := fun t k => castTop (ef_16 m p1 p2 p3) k
  obtain ⟨_, _, ⟨T4, L4, k4, n4⟩, -, X4, ⟨Lc4, hQ4, l4, y4, z4⟩, st4⟩ := Jvm.LawKit.callS X0 hx (y := (⟨"java/lang/Math", "max", "(II)I"⟩ : MethodName)) hown (mvT hZ (hw _ (wI 92 rfl))) (mvT hZ (hw _ (wI 93 rfl))) (mvT hZ (hw _ (wI 94 rfl))) (mvT hZ (hw _ (wI 95 rfl))) (by decide) (backOf (W := 1) (rm17 l Z a0 hw [] p2 p3  h0 n0 Z0 hmx) hZ (hw _ (wI 95 rfl)) (hw _ (wI 94 rfl)) (by decide) (by decide)) (g := (mkF m 3 #[.val (.int p1), .val (.int p2), .val (.int p3), .unset] [(.int p3), (.int p2), (.int p1)])) rfl (by rw [hml]; rfl) (argsL := [(.int p2), (.int p3)]) (rest := [(.int p1)]) (lenOf pd_16_14 rfl) rfl (by show 2 * 0 + _ ≤ _; exact Nat.le_of_eq rfl) (hb hby d16_3) (fun _ _ => ⟨rfl, e0, (by decide : 0 + 0 ≤ _), (by decide : 0 + 0 ≤ _)⟩)
  dsimp only [Pt.U, Pt.locs, Pt.cells, Pt.slots] at X4 l4 y4 z4 st4 hQ4
  subst l4 y4 z4
  obtain ⟨rfl, N4q, eq4⟩ := hQ4
  have N4 := Fr.app N0 N4q
  have Kq4 : Keep h0 T4.heap [] := (own_keq eq4)
  have K4 : Keep h0 T4.heap [] := (Keep.refl h0 []).trans Kq4 all0
  obtain ⟨fs, hr, hrun, hended, hW, hsame⟩ := X4.leave (v := some (.int (p1 + p3))) (fun h => by rw [Bd.returns] at h; cases h)
  refine ⟨_, _, pre0 _ ?_, hrun, hended, _, _, rfl, ?_, ⟨_, rfl⟩, hW, hsame.mono (by decide) (by decide)⟩
  · show Steps p.tables e below (s₁.setTop (mkF m 0 #[.val (.int p1), .val (.int p2), .val (.int p3), .unset] [])) _
    refine XS.iloadN X0.here hx rfl (hb hby d16_0) rfl ?_
    show Steps p.tables e below (s₁.setTop (mkF m 1 #[.val (.int p1), .val (.int p2), .val (.int p3), .unset] [(.int p1)])) _
    refine XS.iloadN X0.here hx rfl (hb hby d16_1) rfl ?_
    show Steps p.tables e below (s₁.setTop (mkF m 2 #[.val (.int p1), .val (.int p2), .val (.int p3), .unset] [(.int p2), (.int p1)])) _
    refine XS.iloadN X0.here hx rfl (hb hby d16_2) rfl ?_
    show Steps p.tables e below (s₁.setTop (mkF m 3 #[.val (.int p1), .val (.int p2), .val (.int p3), .unset] [(.int p3), (.int p2), (.int p1)])) _
    refine st4 _ ?_
    show Steps p.tables e below (T4.setTop (mkF m 6 #[.val (.int p1), .val (.int p2), .val (.int p3), .unset] [(.int p3), (.int p1)])) _
    refine XS.iadd X4.here hx rfl (hb hby d16_6) rfl ?_
    show Steps p.tables e below (T4.setTop (mkF m 7 #[.val (.int p1), .val (.int p2), .val (.int p3), .unset] [(.int (p1 + p3))])) _
    refine XS.istoreN X4.here hx rfl (hb hby d16_7) rfl (l' := #[.val (.int p1), .val (.int p2), .val (.int p3), .val (.int (p1 + p3))]) rfl ?_
    show Steps p.tables e below (T4.setTop (mkF m 8 #[.val (.int p1), .val (.int p2), .val (.int p3), .val (.int (p1 + p3))] [])) _
    refine XS.iconst X4.here hx rfl (hb hby d16_8) ?_
    show Steps p.tables e below (T4.setTop (mkF m 9 #[.val (.int p1), .val (.int p2), .val (.int p3), .val (.int (p1 + p3))] [(.int (0 : Int32))])) _
    refine XS.iloadN X4.here hx rfl (hb hby d16_9) rfl ?_
    show Steps p.tables e below (T4.setTop (mkF m 10 #[.val (.int p1), .val (.int p2), .val (.int p3), .val (.int (p1 + p3))] [(.int (p1 + p3)), (.int (0 : Int32))])) _
    refine XS.icmpNo X4.here hx rfl (hb hby d16_10) rfl (tlt hc10).2.1 ?_
    show Steps p.tables e below (T4.setTop (mkF m 13 #[.val (.int p1), .val (.int p2), .val (.int p3), .val (.int (p1 + p3))] [])) _
    refine XS.iloadN X4.here hx rfl (hb hby d16_13) rfl ?_
    show Steps p.tables e below (T4.setTop (mkF m 14 #[.val (.int p1), .val (.int p2), .val (.int p3), .val (.int (p1 + p3))] [(.int (p1 + p3))])) _
    refine X4.ldcInt hx hown (mvT hZ (hw _ (wI 96 rfl))) (g := (mkF m 14 #[.val (.int p1), .val (.int p2), .val (.int p3), .val (.int (p1 + p3))] [(.int (p1 + p3))])) rfl (hb hby d16_14) _ ?_
    show Steps p.tables e below (T4.setTop (mkF m 16 #[.val (.int p1), .val (.int p2), .val (.int p3), .val (.int (p1 + p3))] [(.int (2147483639 : Int32)), (.int (p1 + p3))])) _
    refine XS.icmpNo X4.here hx rfl (hb hby d16_16) rfl (flt hc16).2.2.1 ?_
    show Steps p.tables e below (T4.setTop (mkF m 19 #[.val (.int p1), .val (.int p2), .val (.int p3), .val (.int (p1 + p3))] [])) _
    refine XS.iloadN X4.here hx rfl (hb hby d16_19) rfl ?_
    show Steps p.tables e below (T4.setTop (mkF m 20 #[.val (.int p1), .val (.int p2), .val (.int p3), .val (.int (p1 + p3))] [(.int (p1 + p3))])) _
    exact retI X4 hx Bd.returns (hb hby d16_20) hr      -- retI stands in the head ('lawwalk <made dir>' prints it)
  · show own_QR (.int (p1 + p3)) h0 n0 _ T4.heap _
    exact ⟨rfl, N4, eq4⟩
theorem d15_0 : decode jdk_68_method_10_code 0 = .ok (.aload_n 0, 1) := by decide +kernel
theorem d15_1 : decode jdk_68_method_10_code 1 = .ok (.getfield 15, 3) := by decide +kernel
theorem d15_4 : decode jdk_68_method_10_code 4 = .ok (.arraylength, 1) := by decide +kernel
theorem d15_5 : decode jdk_68_method_10_code 5 = .ok (.istore_n 2, 1) := by decide +kernel
theorem d15_6 : decode jdk_68_method_10_code 6 = .ok (.iload_n 1, 1) := by decide +kernel
theorem d15_7 : decode jdk_68_method_10_code 7 = .ok (.aload_n 0, 1) := by decide +kernel
theorem d15_8 : decode jdk_68_method_10_code 8 = .ok (.getfield 22, 3) := by decide +kernel
theorem d15_11 : decode jdk_68_method_10_code 11 = .ok (.ishl, 1) := by decide +kernel
theorem d15_12 : decode jdk_68_method_10_code 12 = .ok (.istore_n 3, 1) := by decide +kernel
theorem d15_13 : decode jdk_68_method_10_code 13 = .ok (.iload_n 3, 1) := by decide +kernel
theorem d15_14 : decode jdk_68_method_10_code 14 = .ok (.iload_n 2, 1) := by decide +kernel
theorem d15_15 : decode jdk_68_method_10_code 15 = .ok (.isub, 1) := by decide +kernel
theorem d15_16 : decode jdk_68_method_10_code 16 = .ok (.istore 4, 2) := by decide +kernel
theorem d15_18 : decode jdk_68_method_10_code 18 = .ok (.iload_n 2, 1) := by decide +kernel
theorem d15_19 : decode jdk_68_method_10_code 19 = .ok (.iload 4, 2) := by decide +kernel
theorem d15_21 : decode jdk_68_method_10_code 21 = .ok (.iload_n 2, 1) := by decide +kernel
theorem d15_22 : decode jdk_68_method_10_code 22 = .ok (.iconst 2, 1) := by decide +kernel
theorem d15_23 : decode jdk_68_method_10_code 23 = .ok (.aload_n 0, 1) := by decide +kernel
theorem d15_24 : decode jdk_68_method_10_code 24 = .ok (.getfield 22, 3) := by decide +kernel
theorem d15_27 : decode jdk_68_method_10_code 27 = .ok (.ishl, 1) := by decide +kernel
theorem d15_28 : decode jdk_68_method_10_code 28 = .ok (.iadd, 1) := by decide +kernel
theorem d15_29 : decode jdk_68_method_10_code 29 = .ok (.invokestatic 114, 3) := by decide +kernel
theorem d15_32 : decode jdk_68_method_10_code 32 = .ok (.istore 5, 2) := by decide +kernel
theorem d15_34 : decode jdk_68_method_10_code 34 = .ok (.iload 5, 2) := by decide +kernel
theorem d15_36 : decode jdk_68_method_10_code 36 = .ok (.ldc 39, 2) := by decide +kernel
theorem d15_38 : decode jdk_68_method_10_code 38 = .ok (.if_icmp .ne 13, 3) := by decide +kernel
theorem d15_51 : decode jdk_68_method_10_code 51 = .ok (.iload 5, 2) := by decide +kernel
theorem d15_53 : decode jdk_68_method_10_code 53 = .ok (.aload_n 0, 1) := by decide +kernel
theorem d15_54 : decode jdk_68_method_10_code 54 = .ok (.getfield 22, 3) := by decide +kernel
theorem d15_57 : decode jdk_68_method_10_code 57 = .ok (.ishr, 1) := by decide +kernel
theorem d15_58 : decode jdk_68_method_10_code 58 = .ok (.ireturn, 1) := by decide +kernel
theorem pn_15 : plainName "java/lang/AbstractStringBuilder" = true := by first | (simp [plainName, overriddenIn]; done) | decide +kernel
theorem pd_15_13 : parseMethodDescriptor "(III)I" = some ⟨[.int, .int, .int], some .int⟩ := by decide +kernel
theorem ef_15 (m : MethodId) (x0 : Addr) (x1 : Int32) : entryFrame m #[(.ref x0), (.int x1)] 6 = mkF m 0 #[.val (.ref x0), .val (.int x1), .unset, .unset, .unset, .unset] [] := by first | (simp [entryFrame, mkF, argsToLocals, Value.category]; done) | rfl
set_option maxRecDepth 65536 in
set_option maxHeartbeats 40000000 in
theorem rm15 (l : Launch) (Z : State) (a0 : Array Value) (hw : ∀ d ∈ tables_1, d.before a0 Z = true) (ws : List Jvm.Cond) (a1 : Addr) (p2 : Int32) (bv : Addr) (nc : Int32) (k_bv : ClassId) (z_bv : Int32) (vs_bv : List Value) (dv_bv : Value) (h0 : Heap) (n0 : Nat) (Z0 : n0 ≤ h0.size) (E_a1 : Exa Z h0 a1 "java/lang/StringBuilder") (F_value_a1 : Fld Z h0 a1 "java/lang/AbstractStringBuilder" "value" "[B" (.ref bv)) (F_coder_a1 : Fld Z h0 a1 "java/lang/AbstractStringBuilder" "coder" "B" (.int (0 : Int32))) (V_bv : Arv Z h0 bv k_bv .byte z_bv vs_bv dv_bv) (g1 : ((p2 <<< ((0 : Int32) &&& 31)) - z_bv) < (z_bv + ((2 : Int32) <<< ((0 : Int32) &&& 31)))) (g2 : (0 : Int32) < (z_bv + (z_bv + ((2 : Int32) <<< ((0 : Int32) &&& 31))))) (g3 : ¬ ((2147483639 : Int32) < (z_bv + (z_bv + ((2 : Int32) <<< ((0 : Int32) &&& 31)))))) (hnc : ((z_bv + (z_bv + ((2 : Int32) <<< ((0 : Int32) &&& 31)))) >>> ((0 : Int32) &&& 31)) = nc) (hc38 : ¬ ((z_bv + (z_bv + ((2 : Int32) <<< ((0 : Int32) &&& 31)))) = (2147483647 : Int32))) :
    MetFree l (⟨"java/lang/AbstractStringBuilder", "newCapacity", "(I)I"⟩ : MethodName) (head1 (Jvm.Cond.code (⟨"java/lang/AbstractStringBuilder", "newCapacity", "(I)I"⟩ : MethodName) jdk_68_method_10_code 6 (some .int) :: ws) ({ frames := 2, cells := 0, slots := 0, locals := 40 } : Room)) (fun a U => a = #[(.ref a1), (.int p2)] ∧ Z.Warmed39 U.vm ∧ U.heap = h0) (fun _ _ _ _ _ => True) (fun _ U o U' => ∃ v L, o = .returned v ∧ own_QR (.int nc) h0 n0 v U'.heap L ∧ FrameEnd U o U' L ({ frames := 2, cells := 0, slots := 0, locals := 40 } : Room).cells ({ frames := 2, cells := 0, slots := 0, locals := 40 } : Room).slots) := by
  refine MetFree.of_bodySF (plainFor_of_name pn_15) hisR ?_
  intro p e s m args below meth c s₁ Bd hml0 hP hK
  obtain ⟨rfl, hZ, hh⟩ := hP
  have hx := Bd.exec
  have hby := Bd.bytes
  have hml : c.maxLocals = 6 := hml0
  have hown : s.vm.findClass "java/lang/AbstractStringBuilder" = some m.cls := findClass_of_methodNamed Bd.named
  have hnm := (name_of_methodNamed Bd.named Bd.method).1
  have X0 : Stand p l e ({ frames := 2, cells := 0, slots := 0, locals := 40 } : Room) s m #[(.ref a1), (.int p2)] below meth c s₁ [] 0 0 := Stand.of_body Bd
  have e0 : s₁.heap = h0 := by rw [← hh, Bd.state]; rfl
  have N0 := Fr.nil n0
  have pre0 : ∀ t, Steps p.tables e below (s₁.setTop (mkF m 0 #[.val (.ref a1), .val (.int p2), .unset, .unset, .unset, .unset] [])) t → Steps p.tables e below (s₁.setTop (entryFrame m #[(.ref a1), (.int p2)] 6)) t := fun t k => castTop (ef_15 m a1 p2) k
  obtain ⟨T3, X3, e3, st3⟩ := getF X0 hx hZ hown (host := "") (Or.inl (hw _ (wI 51 rfl))) Via.refl e0 F_value_a1 (g := (mkF m 1 #[.val (.ref a1), .val (.int p2), .unset, .unset, .unset, .unset] [(.ref a1)])) rfl rfl (hb hby d15_1)
  obtain ⟨cl_bv_4, Ar_bv, -, S_bv, N_bv, -, -⟩ := V_bv
  obtain ⟨T4, X4, e4, st4⟩ := getF X3 hx hZ hown (host := "") (Or.inl (hw _ (wI 53 rfl))) Via.refl e3 F_coder_a1 (g := (mkF m 8 #[.val (.ref a1), .val (.int p2), .val (.int z_bv), .unset, .unset, .unset] [(.ref a1), (.int p2)])) rfl rfl (hb hby d15_8)
  obtain ⟨T5, X5, e5, st5⟩ := getF X4 hx hZ hown (host := "") (Or.inl (hw _ (wI 53 rfl))) Via.refl e4 F_coder_a1 (g := (mkF m 24 #[.val (.ref a1), .val (.int p2), .val (.int z_bv), .val (.int (p2 <<< ((0 : Int32) &&& 31))), .val (.int ((p2 <<< ((0 : Int32) &&& 31)) - z_bv)), .unset] [(.ref a1), (.int (2 : Int32)), (.int z_bv), (.int ((p2 <<< ((0 : Int32) &&& 31)) - z_bv)), (.int z_bv)])) rfl rfl (hb hby d15_24)
  obtain ⟨_, _, ⟨T6, L6, k6, n6⟩, -, X6, ⟨Lc6, hQ6, l6, y6, z6⟩, st6⟩ := Jvm.LawKit.callS X5 hx (y := (⟨"jdk/internal/util/ArraysSupport", "newLength", "(III)I"⟩ : MethodName)) hown (mvT hZ (hw _ (wI 88 rfl))) (mvT hZ (hw _ (wI 89 rfl))) (mvT hZ (hw _ (wI 90 rfl))) (mvT hZ (hw _ (wI 91 rfl))) (by decide) (backOf (W := 0) (rm16 l Z a0 hw [] z_bv ((p2 <<< ((0 : Int32) &&& 31)) - z_bv) (z_bv + ((2 : Int32) <<< ((0 : Int32) &&& 31)))  h0 n0 Z0 g1 g2 g3) hZ (hw _ (wI 91 rfl)) (hw _ (wI 90 rfl)) (by decide) (by decide)) (g := (mkF m 29 #[.val (.ref a1), .val (.int p2), .val (.int z_bv), .val (.int (p2 <<< ((0 : Int32) &&& 31))), .val (.int ((p2 <<< ((0 : Int32) &&& 31)) - z_bv)), .unset] [(.int (z_bv + ((2 : Int32) <<< ((0 : Int32) &&& 31)))), (.int ((p2 <<< ((0 : Int32) &&& 31)) - z_bv)), (.int z_bv)])) rfl (by rw [hml]; rfl) (argsL := [(.int z_bv), (.int ((p2 <<< ((0 : Int32) &&& 31)) - z_bv)), (.int (z_bv + ((2 : Int32) <<< ((0 : Int32) &&& 31))))]) (rest := []) (lenOf pd_15_13 rfl) rfl (by show 2 * 0 + _ ≤ _; exact Nat.le_of_eq rfl) (hb hby d15_29) (fun _ _ => ⟨rfl, e5, (by decide : 0 + 0 ≤ _), (by decide : 0 + 0 ≤ _)⟩)
  dsimp only [Pt.U, Pt.locs, Pt.cells, Pt.slots] at X6 l6 y6 z6 st6 hQ6
  subst l6 y6 z6
  obtain ⟨rfl, N6q, eqN⟩ := hQ6
  have N6 := Fr.app N0 N6q
  have Kq6 : Keep h0 T6.heap [] := (own_keq eqN)
  have K6 : Keep h0 T6.heap [] := (Keep.refl h0 []).trans Kq6 all0
  obtain ⟨T7, X7, e7, st7⟩ := getF X6 hx hZ hown (host := "") (Or.inl (hw _ (wI 53 rfl))) Via.refl rfl (F_coder_a1.keep Kq6 (fun q => nomatch q)) (g := (mkF m 54 #[.val (.ref a1), .val (.int p2), .val (.int z_bv), .val (.int (p2 <<< ((0 : Int32) &&& 31))), .val (.int ((p2 <<< ((0 : Int32) &&& 31)) - z_bv)), .val (.int (z_bv + (z_bv + ((2 : Int32) <<< ((0 : Int32) &&& 31)))))] [(.ref a1), (.int (z_bv + (z_bv + ((2 : Int32) <<< ((0 : Int32) &&& 31)))))])) rfl rfl (hb hby d15_54)
  obtain ⟨fs, hr, hrun, hended, hW, hsame⟩ := X7.leave (v := some (.int ((z_bv + (z_bv + ((2 : Int32) <<< ((0 : Int32) &&& 31)))) >>> ((0 : Int32) &&& 31)))) (fun h => by rw [Bd.returns] at h; cases h)
  refine ⟨_, _, pre0 _ ?_, hrun, hended, _, _, rfl, ?_, ⟨_, rfl⟩, hW, hsame.mono (by decide) (by decide)⟩
  · show Steps p.tables e below (s₁.setTop (mkF m 0 #[.val (.ref a1), .val (.int p2), .unset, .unset, .unset, .unset] [])) _
    refine XS.aloadN X0.here hx rfl (hb hby d15_0) rfl rfl ?_
    show Steps p.tables e below (s₁.setTop (mkF m 1 #[.val (.ref a1), .val (.int p2), .unset, .unset, .unset, .unset] [(.ref a1)])) _
    refine st3 _ ?_
    show Steps p.tables e below (T3.setTop (mkF m 4 #[.val (.ref a1), .val (.int p2), .unset, .unset, .unset, .unset] [(.ref bv)])) _
    refine X3.arraylength hx (by rw [e3]; exact Ar_bv.1) (State.isArrayOf_alike hZ.alike Ar_bv.2.1) (g := (mkF m 4 #[.val (.ref a1), .val (.int p2), .unset, .unset, .unset, .unset] [(.ref bv)])) rfl rfl (hb hby d15_4) _ ?_
    rw [len_of S_bv N_bv]
    show Steps p.tables e below (T3.setTop (mkF m 5 #[.val (.ref a1), .val (.int p2), .unset, .unset, .unset, .unset] [(.int z_bv)])) _
    refine XS.istoreN X3.here hx rfl (hb hby d15_5) rfl (l' := #[.val (.ref a1), .val (.int p2), .val (.int z_bv), .unset, .unset, .unset]) rfl ?_
    show Steps p.tables e below (T3.setTop (mkF m 6 #[.val (.ref a1), .val (.int p2), .val (.int z_bv), .unset, .unset, .unset] [])) _
    refine XS.iloadN X3.here hx rfl (hb hby d15_6) rfl ?_
    show Steps p.tables e below (T3.setTop (mkF m 7 #[.val (.ref a1), .val (.int p2), .val (.int z_bv), .unset, .unset, .unset] [(.int p2)])) _
    refine XS.aloadN X3.here hx rfl (hb hby d15_7) rfl rfl ?_
    show Steps p.tables e below (T3.setTop (mkF m 8 #[.val (.ref a1), .val (.int p2), .val (.int z_bv), .unset, .unset, .unset] [(.ref a1), (.int p2)])) _
    refine st4 _ ?_
    show Steps p.tables e below (T4.setTop (mkF m 11 #[.val (.ref a1), .val (.int p2), .val (.int z_bv), .unset, .unset, .unset] [(.int (0 : Int32)), (.int p2)])) _
    refine XS.ishl X4.here hx rfl (hb hby d15_11) rfl ?_
    show Steps p.tables e below (T4.setTop (mkF m 12 #[.val (.ref a1), .val (.int p2), .val (.int z_bv), .unset, .unset, .unset] [(.int (p2 <<< ((0 : Int32) &&& 31)))])) _
    refine XS.istoreN X4.here hx rfl (hb hby d15_12) rfl (l' := #[.val (.ref a1), .val (.int p2), .val (.int z_bv), .val (.int (p2 <<< ((0 : Int32) &&& 31))), .unset, .unset]) rfl ?_
    show Steps p.tables e below (T4.setTop (mkF m 13 #[.val (.ref a1), .val (.int p2), .val (.int z_bv), .val (.int (p2 <<< ((0 : Int32) &&& 31))), .unset, .unset] [])) _
    refine XS.iloadN X4.here hx rfl (hb hby d15_13) rfl ?_
    show Steps p.tables e below (T4.setTop (mkF m 14 #[.val (.ref a1), .val (.int p2), .val (.int z_bv), .val (.int (p2 <<< ((0 : Int32) &&& 31))), .unset, .unset] [(.int (p2 <<< ((0 : Int32) &&& 31)))])) _
    refine XS.iloadN X4.here hx rfl (hb hby d15_14) rfl ?_
    show Steps p.tables e below (T4.setTop (mkF m 15 #[.val (.ref a1), .val (.int p2), .val (.int z_bv), .val (.int (p2 <<< ((0 : Int32) &&& 31))), .unset, .unset] [(.int z_bv), (.int (p2 <<< ((0 : Int32) &&& 31)))])) _
    refine XS.isub X4.here hx rfl (hb hby d15_15) rfl ?_
    show Steps p.tables e below (T4.setTop (mkF m 16 #[.val (.ref a1), .val (.int p2), .val (.int z_bv), .val (.int (p2 <<< ((0 : Int32) &&& 31))), .unset, .unset] [(.int ((p2 <<< ((0 : Int32) &&& 31)) - z_bv))])) _
    refine XS.istore X4.here hx rfl (hb hby d15_16) rfl (l' := #[.val (.ref a1), .val (.int p2), .val (.int z_bv), .val (.int (p2 <<< ((0 : Int32) &&& 31))), .val (.int ((p2 <<< ((0 : Int32) &&& 31)) - z_bv)), .unset]) rfl ?_
    show Steps p.tables e below (T4.setTop (mkF m 18 #[.val (.ref a1), .val (.int p2), .val (.int z_bv), .val (.int (p2 <<< ((0 : Int32) &&& 31))), .val (.int ((p2 <<< ((0 : Int32) &&& 31)) - z_bv)), .unset] [])) _
    refine XS.iloadN X4.here hx rfl (hb hby d15_18) rfl ?_
    show Steps p.tables e below (T4.setTop (mkF m 19 #[.val (.ref a1), .val (.int p2), .val (.int z_bv), .val (.int (p2 <<< ((0 : Int32) &&& 31))), .val (.int ((p2 <<< ((0 : Int32) &&& 31)) - z_bv)), .unset] [(.int z_bv)])) _
    refine XS.iload X4.here hx rfl (hb hby d15_19) rfl ?_
    show Steps p.tables e below (T4.setTop (mkF m 21 #[.val (.ref a1), .val (.int p2), .val (.int z_bv), .val (.int (p2 <<< ((0 : Int32) &&& 31))), .val (.int ((p2 <<< ((0 : Int32) &&& 31)) - z_bv)), .unset] [(.int ((p2 <<< ((0 : Int32) &&& 31)) - z_bv)), (.int z_bv)])) _
    refine XS.iloadN X4.here hx rfl (hb hby d15_21) rfl ?_
    show Steps p.tables e below (T4.setTop (mkF m 22 #[.val (.ref a1), .val (.int p2), .val (.int z_bv), .val (.int (p2 <<< ((0 : Int32) &&& 31))), .val (.int ((p2 <<< ((0 : Int32) &&& 31)) - z_bv)), .unset] [(.int z_bv), (.int ((p2 <<< ((0 : Int32) &&& 31)) - z_bv)), (.int z_bv)])) _
    refine XS.iconst X4.here hx rfl (hb hby d15_22) ?_
    show Steps p.tables e below (T4.setTop (mkF m 23 #[.val (.ref a1), .val (.int p2), .val (.int z_bv), .val (.int (p2 <<< ((0 : Int32) &&& 31))), .val (.int ((p2 <<< ((0 : Int32) &&& 31)) - z_bv)), .unset] [(.int (2 : Int32)), (.int z_bv), (.int ((p2 <<< ((0 : Int32) &&& 31)) - z_bv)), (.int z_bv)])) _
    refine XS.aloadN X4.here hx rfl (hb hby d15_23) rfl rfl ?_
    show Steps p.tables e below (T4.setTop (mkF m 24 #[.val (.ref a1), .val (.int p2), .val (.int z_bv), .val (.int (p2 <<< ((0 : Int32) &&& 31))), .val (.int ((p2 <<< ((0 : Int32) &&& 31)) - z_bv)), .unset] [(.ref a1), (.int (2 : Int32)), (.int z_bv), (.int ((p2 <<< ((0 : Int32) &&& 31)) - z_bv)), (.int z_bv)])) _
    refine st5 _ ?_
    show Steps p.tables e below (T5.setTop (mkF m 27 #[.val (.ref a1), .val (.int p2), .val (.int z_bv), .val (.int (p2 <<< ((0 : Int32) &&& 31))), .val (.int ((p2 <<< ((0 : Int32) &&& 31)) - z_bv)), .unset] [(.int (0 : Int32)), (.int (2 : Int32)), (.int z_bv), (.int ((p2 <<< ((0 : Int32) &&& 31)) - z_bv)), (.int z_bv)])) _
    refine XS.ishl X5.here hx rfl (hb hby d15_27) rfl ?_
    show Steps p.tables e below (T5.setTop (mkF m 28 #[.val (.ref a1), .val (.int p2), .val (.int z_bv), .val (.int (p2 <<< ((0 : Int32) &&& 31))), .val (.int ((p2 <<< ((0 : Int32) &&& 31)) - z_bv)), .unset] [(.int ((2 : Int32) <<< ((0 : Int32) &&& 31))), (.int z_bv), (.int ((p2 <<< ((0 : Int32) &&& 31)) - z_bv)), (.int z_bv)])) _
    refine XS.iadd X5.here hx rfl (hb hby d15_28) rfl ?_
    show Steps p.tables e below (T5.setTop (mkF m 29 #[.val (.ref a1), .val (.int p2), .val (.int z_bv), .val (.int (p2 <<< ((0 : Int32) &&& 31))), .val (.int ((p2 <<< ((0 : Int32) &&& 31)) - z_bv)), .unset] [(.int (z_bv + ((2 : Int32) <<< ((0 : Int32) &&& 31)))), (.int ((p2 <<< ((0 : Int32) &&& 31)) - z_bv)), (.int z_bv)])) _
    refine st6 _ ?_
    show Steps p.tables e below (T6.setTop (mkF m 32 #[.val (.ref a1), .val (.int p2), .val (.int z_bv), .val (.int (p2 <<< ((0 : Int32) &&& 31))), .val (.int ((p2 <<< ((0 : Int32) &&& 31)) - z_bv)), .unset] [(.int (z_bv + (z_bv + ((2 : Int32) <<< ((0 : Int32) &&& 31)))))])) _
    refine XS.istore X6.here hx rfl (hb hby d15_32) rfl (l' := #[.val (.ref a1), .val (.int p2), .val (.int z_bv), .val (.int (p2 <<< ((0 : Int32) &&& 31))), .val (.int ((p2 <<< ((0 : Int32) &&& 31)) - z_bv)), .val (.int (z_bv + (z_bv + ((2 : Int32) <<< ((0 : Int32) &&& 31)))))]) rfl ?_
    show Steps p.tables e below (T6.setTop (mkF m 34 #[.val (.ref a1), .val (.int p2), .val (.int z_bv), .val (.int (p2 <<< ((0 : Int32) &&& 31))), .val (.int ((p2 <<< ((0 : Int32) &&& 31)) - z_bv)), .val (.int (z_bv + (z_bv + ((2 : Int32) <<< ((0 : Int32) &&& 31)))))] [])) _
    refine XS.iload X6.here hx rfl (hb hby d15_34) rfl ?_
    show Steps p.tables e below (T6.setTop (mkF m 36 #[.val (.ref a1), .val (.int p2), .val (.int z_bv), .val (.int (p2 <<< ((0 : Int32) &&& 31))), .val (.int ((p2 <<< ((0 : Int32) &&& 31)) - z_bv)), .val (.int (z_bv + (z_bv + ((2 : Int32) <<< ((0 : Int32) &&& 31)))))] [(.int (z_bv + (z_bv + ((2 : Int32) <<< ((0 : Int32) &&& 31)))))])) _
    refine X6.ldcInt hx hown (mvT hZ (hw _ (wI 97 rfl))) (g := (mkF m 36 #[.val (.ref a1), .val (.int p2), .val (.int z_bv), .val (.int (p2 <<< ((0 : Int32) &&& 31))), .val (.int ((p2 <<< ((0 : Int32) &&& 31)) - z_bv)), .val (.int (z_bv + (z_bv + ((2 : Int32) <<< ((0 : Int32) &&& 31)))))] [(.int (z_bv + (z_bv + ((2 : Int32) <<< ((0 : Int32) &&& 31)))))])) rfl (hb hby d15_36) _ ?_
    show Steps p.tables e below (T6.setTop (mkF m 38 #[.val (.ref a1), .val (.int p2), .val (.int z_bv), .val (.int (p2 <<< ((0 : Int32) &&& 31))), .val (.int ((p2 <<< ((0 : Int32) &&& 31)) - z_bv)), .val (.int (z_bv + (z_bv + ((2 : Int32) <<< ((0 : Int32) &&& 31)))))] [(.int (2147483647 : Int32)), (.int (z_bv + (z_bv + ((2 : Int32) <<< ((0 : Int32) &&& 31)))))])) _
    refine XS.icmpYes X6.here hx rfl (pc0 := 38) (pc' := 51) rfl (hb hby d15_38) rfl (feq hc38).2 (by decide) (by decide) ?_
    show Steps p.tables e below (T6.setTop (mkF m 51 #[.val (.ref a1), .val (.int p2), .val (.int z_bv), .val (.int (p2 <<< ((0 : Int32) &&& 31))), .val (.int ((p2 <<< ((0 : Int32) &&& 31)) - z_bv)), .val (.int (z_bv + (z_bv + ((2 : Int32) <<< ((0 : Int32) &&& 31)))))] [])) _
    refine XS.iload X6.here hx rfl (hb hby d15_51) rfl ?_
    show Steps p.tables e below (T6.setTop (mkF m 53 #[.val (.ref a1), .val (.int p2), .val (.int z_bv), .val (.int (p2 <<< ((0 : Int32) &&& 31))), .val (.int ((p2 <<< ((0 : Int32) &&& 31)) - z_bv)), .val (.int (z_bv + (z_bv + ((2 : Int32) <<< ((0 : Int32) &&& 31)))))] [(.int (z_bv + (z_bv + ((2 : Int32) <<< ((0 : Int32) &&& 31)))))])) _
    refine XS.aloadN X6.here hx rfl (hb hby d15_53) rfl rfl ?_
    show Steps p.tables e below (T6.setTop (mkF m 54 #[.val (.ref a1), .val (.int p2), .val (.int z_bv), .val (.int (p2 <<< ((0 : Int32) &&& 31))), .val (.int ((p2 <<< ((0 : Int32) &&& 31)) - z_bv)), .val (.int (z_bv + (z_bv + ((2 : Int32) <<< ((0 : Int32) &&& 31)))))] [(.ref a1), (.int (z_bv + (z_bv + ((2 : Int32) <<< ((0 : Int32) &&& 31)))))])) _
    refine st7 _ ?_
    show Steps p.tables e below (T7.setTop (mkF m 57 #[.val (.ref a1), .val (.int p2), .val (.int z_bv), .val (.int (p2 <<< ((0 : Int32) &&& 31))), .val (.int ((p2 <<< ((0 : Int32) &&& 31)) - z_bv)), .val (.int (z_bv + (z_bv + ((2 : Int32) <<< ((0 : Int32) &&& 31)))))] [(.int (0 : Int32)), (.int (z_bv + (z_bv + ((2 : Int32) <<< ((0 : Int32) &&& 31)))))])) _
    refine XS.ishr X7.here hx rfl (hb hby d15_57) rfl ?_
    show Steps p.tables e below (T7.setTop (mkF m 58 #[.val (.ref a1), .val (.int p2), .val (.int z_bv), .val (.int (p2 <<< ((0 : Int32) &&& 31))), .val (.int ((p2 <<< ((0 : Int32) &&& 31)) - z_bv)), .val (.int (z_bv + (z_bv + ((2 : Int32) <<< ((0 : Int32) &&& 31)))))] [(.int ((z_bv + (z_bv + ((2 : Int32) <<< ((0 : Int32) &&& 31)))) >>> ((0 : Int32) &&& 31)))])) _
    exact retI X7 hx Bd.returns (hb hby d15_58) hr      -- retI stands in the head ('lawwalk <made dir>' prints it)
  · show own_QR (.int nc) h0 n0 _ T7.heap _
    rw [e7]
    exact ⟨congrArg (fun z => some (Value.int z)) hnc, N6, eqN⟩
theorem own_cpyG {Z : State} {h : Heap} {b : Addr} {k : ClassId} {z : Int32} {us : List Value} {d : Value} {n : Nat} (hn : n = us.length) (V : Arv Z h b k .byte z ((List.replicate z.toNatClampNeg d).take ((0 : Int32)).toNatClampNeg ++ us ++ (List.replicate z.toNatClampNeg d).drop (((0 : Int32)).toNatClampNeg + n)) d) : Arv Z h b k .byte z (us ++ (List.replicate z.toNatClampNeg d).drop us.length) d := by
  have e : ((0 : Int32)).toNatClampNeg = 0 := rfl
  rw [e, hn] at V
  simpa using V
theorem d18_0 : decode jdk_65_method_121_code 0 = .ok (.iload_n 1, 1) := by decide +kernel
theorem d18_1 : decode jdk_65_method_121_code 1 = .ok (.aload_n 0, 1) := by decide +kernel
theorem d18_2 : decode jdk_65_method_121_code 2 = .ok (.arraylength, 1) := by decide +kernel
theorem d18_3 : decode jdk_65_method_121_code 3 = .ok (.if_icmp .ne 11, 3) := by decide +kernel
theorem d18_14 : decode jdk_65_method_121_code 14 = .ok (.iload_n 1, 1) := by decide +kernel
theorem d18_15 : decode jdk_65_method_121_code 15 = .ok (.newarray .byte, 2) := by decide +kernel
theorem d18_17 : decode jdk_65_method_121_code 17 = .ok (.astore_n 2, 1) := by decide +kernel
theorem d18_18 : decode jdk_65_method_121_code 18 = .ok (.aload_n 0, 1) := by decide +kernel
theorem d18_19 : decode jdk_65_method_121_code 19 = .ok (.iconst 0, 1) := by decide +kernel
theorem d18_20 : decode jdk_65_method_121_code 20 = .ok (.aload_n 2, 1) := by decide +kernel
theorem d18_21 : decode jdk_65_method_121_code 21 = .ok (.iconst 0, 1) := by decide +kernel
theorem d18_22 : decode jdk_65_method_121_code 22 = .ok (.aload_n 0, 1) := by decide +kernel
theorem d18_23 : decode jdk_65_method_121_code 23 = .ok (.arraylength, 1) := by decide +kernel
theorem d18_24 : decode jdk_65_method_121_code 24 = .ok (.iload_n 1, 1) := by decide +kernel
theorem d18_25 : decode jdk_65_method_121_code 25 = .ok (.invokestatic 304, 3) := by decide +kernel
theorem d18_28 : decode jdk_65_method_121_code 28 = .ok (.invokestatic 150, 3) := by decide +kernel
theorem d18_31 : decode jdk_65_method_121_code 31 = .ok (.aload_n 2, 1) := by decide +kernel
theorem d18_32 : decode jdk_65_method_121_code 32 = .ok (.areturn, 1) := by decide +kernel
theorem pn_18 : plainName "java/util/Arrays" = true := by first | (simp [plainName, overriddenIn]; done) | decide +kernel
theorem pd_18_14 : parseMethodDescriptor "(II)I" = some ⟨[.int, .int], some .int⟩ := by decide +kernel
theorem ef_18 (m : MethodId) (x0 : Addr) (x1 : Int32) : entryFrame m #[(.ref x0), (.int x1)] 3 = mkF m 0 #[.val (.ref x0), .val (.int x1), .unset] [] := by first | (simp [entryFrame, mkF, argsToLocals, Value.category]; done) | rfl
set_option maxRecDepth 65536 in
set_option maxHeartbeats 40000000 in
theorem rm18 (l : Launch) (Z : State) (a0 : Array Value) (hw : ∀ d ∈ tables_1, d.before a0 Z = true) (ws : List Jvm.Cond) (a1 : Addr) (p2 : Int32) (k_a1 : ClassId) (z_a1 : Int32) (vs_a1 : List Value) (dv_a1 : Value) (h0 : Heap) (n0 : Nat) (Z0 : n0 ≤ h0.size) (V_a1 : Arv Z h0 a1 k_a1 .byte z_a1 vs_a1 dv_a1) (hzn : ¬ z_a1 < 0) (hnn : ¬ p2 < 0) (hlt : z_a1 < p2) (hmn : ¬ (p2 < z_a1)) (hle : p2.toNatClampNeg ≤ 70) (hz : z_a1.toNatClampNeg = vs_a1.length) (hc3 : ¬ (p2 = z_a1)) :
    MetFree l (⟨"java/util/Arrays", "copyOf", "([BI)[B"⟩ : MethodName) (head1 (Jvm.Cond.code (⟨"java/util/Arrays", "copyOf", "([BI)[B"⟩ : MethodName) jdk_65_method_121_code 3 (some (.array .byte)) :: ws) ({ frames := 2, cells := 1, slots := 70, locals := 32 } : Room)) (fun a U => a = #[(.ref a1), (.int p2)] ∧ Z.Warmed39 U.vm ∧ U.heap = h0) (fun _ _ _ _ _ => True) (fun _ U o U' => ∃ v L, o = .returned v ∧ own_QC Z p2 (vs_a1 ++ (List.replicate p2.toNatClampNeg (.int (0 : Int32))).drop vs_a1.length) h0 n0 v U'.heap L ∧ FrameEnd U o U' L ({ frames := 2, cells := 1, slots := 70, locals := 32 } : Room).cells ({ frames := 2, cells := 1, slots := 70, locals := 32 } : Room).slots) := by
  refine MetFree.of_bodySF (plainFor_of_name pn_18) hisR ?_
  intro p e s m args below meth c s₁ Bd hml0 hP hK
  obtain ⟨rfl, hZ, hh⟩ := hP
  have hx := Bd.exec
  have hby := Bd.bytes
  have hml : c.maxLocals = 3 := hml0
  have hown : s.vm.findClass "java/util/Arrays" = some m.cls := findClass_of_methodNamed Bd.named
  have hnm := (name_of_methodNamed Bd.named Bd.method).1
  have X0 : Stand p l e ({ frames := 2, cells := 1, slots := 70, locals := 32 } : Room) s m #[(.ref a1), (.int p2)] below meth c s₁ [] 0 0 := Stand.of_body Bd
  have e0 : s₁.heap = h0 := by rw [← hh, Bd.state]; rfl
  have N0 := Fr.nil n0
  have pre0 : ∀ t, Steps p.tables e below (s₁.setTop (mkF m 0 #[.val (.ref a1), .val (.int p2), .unset] [])) t → Steps p.tables e below (s₁.setTop (entryFrame m #[(.ref a1), (.int p2)] 3)) t := fun t k => castTop (ef_18 m a1 p2) k
  obtain ⟨cl_a1_2, Ar_p, -, S_p, N_p, -, -⟩ := id V_a1
  obtain ⟨T3, h3, k3, X3, e3, E3, A3, st3⟩ := newP X0 hx hZ (hw _ (wI 19 rfl)) e0 (g := (mkF m 15 #[.val (.ref a1), .val (.int p2), .unset] [(.int p2)])) rfl (hb hby d18_15) rfl hnn (cap := 70) hle (by decide) (by decide) (by decide)
  obtain ⟨b3, g3⟩ : ∃ z, z = h0.size := ⟨_, rfl⟩
  rw [← g3] at A3 st3
  have V_b3 : Arv Z h3 b3 k3 .byte p2 (List.replicate p2.toNatClampNeg (.int (0 : Int32))) (.int (0 : Int32)) := (Arv.new A3 hnn).pad (pad_rep [] (.int (0 : Int32)) p2.toNatClampNeg)
  have g_b3 : n0 ≤ b3 := Nat.le_trans Z0 (Nat.le_of_eq g3.symm)
  have sz_b3 : h0.size ≤ b3 := (Nat.le_trans (Keep.refl h0 []).1 (Nat.le_of_eq g3.symm))
  have K3 : Keep h0 h3 [] := (Keep.refl h0 []).ext E3
  obtain ⟨cl_a1_23, Ar_a1, -, S_a1, N_a1, -, -⟩ := (V_a1.ext E3)
  obtain ⟨_, _, ⟨T4, L4, k4, n4⟩, -, X4, ⟨Lc4, hQ4, l4, y4, z4⟩, st4⟩ := Jvm.LawKit.callS X3 hx (y := (⟨"java/lang/Math", "min", "(II)I"⟩ : MethodName)) hown (mvT hZ (hw _ (wI 102 rfl))) (mvT hZ (hw _ (wI 103 rfl))) (mvT hZ (hw _ (wI 94 rfl))) (mvT hZ (hw _ (wI 104 rfl))) (by decide) (backOf (W := 4) (rm19f l Z a0 hw [] z_a1 p2  h3 n0 (Nat.le_trans Z0 E3.1) hmn) hZ (hw _ (wI 104 rfl)) (hw _ (wI 94 rfl)) (by decide) (by decide)) (g := (mkF m 25 #[.val (.ref a1), .val (.int p2), .val (.ref b3)] [(.int p2), (.int z_a1), (.int (0 : Int32)), (.ref b3), (.int (0 : Int32)), (.ref a1)])) rfl (by rw [hml]; rfl) (argsL := [(.int z_a1), (.int p2)]) (rest := [(.int (0 : Int32)), (.ref b3), (.int (0 : Int32)), (.ref a1)]) (lenOf pd_18_14 rfl) rfl (by show 2 * 0 + _ ≤ _; exact Nat.le_of_eq rfl) (hb hby d18_25) (fun _ _ => ⟨rfl, e3, (by decide : 1 + 0 ≤ _), (by decide : 70 + 0 ≤ _)⟩)
  dsimp only [Pt.U, Pt.locs, Pt.cells, Pt.slots] at X4 l4 y4 z4 st4 hQ4
  subst l4 y4 z4
  obtain ⟨rfl, N4q, eq4⟩ := hQ4
  have N4 := Fr.app N0 N4q
  have Kq4 : Keep h3 T4.heap [] := (own_keq eq4)
  have K4 : Keep h0 T4.heap [] := K3.trans Kq4 all0
  obtain ⟨T5, h5, L5, X5, e5, N5, Kq5, V_b3_5, st5⟩ := cpA X4 hx hZ hown (hw _ (wI 105 rfl)) (hw _ (wI 108 rfl)) (hw _ (wI 106 rfl)) (hw _ (wI 107 rfl)) rfl ((V_a1.ext E3).keep Kq4 (fun q => nomatch q)) (V_b3.keep Kq4 (fun q => nomatch q)) (Or.inl ⟨rfl, rfl⟩) (by decide) (by decide) hzn (by show 0 + _ ≤ _; rw [Nat.zero_add]; exact Nat.le_refl _) (by show 0 + _ ≤ _; rw [Nat.zero_add]; exact own_cl hlt) (us := vs_a1) (own_range0 _ _ _ hz) (by show 0 + _ ≤ _; rw [Nat.zero_add, List.length_replicate]; exact own_cl hlt) N4 g_b3 (g := (mkF m 28 #[.val (.ref a1), .val (.int p2), .val (.ref b3)] [(.int z_a1), (.int (0 : Int32)), (.ref b3), (.int (0 : Int32)), (.ref a1)])) rfl (by rw [hml]; rfl) rfl (hb hby d18_28) (by decide) (W := 0) (by show 2 * 0 + _ ≤ _; exact Nat.le_of_eq rfl) (by decide)
  have K5 : Keep h0 h5 [] := K4.trans Kq5 (own_trS (Or.inr sz_b3) all0)
  obtain ⟨fs, hr, hrun, hended, hW, hsame⟩ := X5.leave (v := some (.ref b3)) (fun h => by rw [Bd.returns] at h; cases h)
  refine ⟨_, _, pre0 _ ?_, hrun, hended, _, _, rfl, ?_, ⟨_, rfl⟩, hW, hsame.mono (by decide) (by decide)⟩
  · show Steps p.tables e below (s₁.setTop (mkF m 0 #[.val (.ref a1), .val (.int p2), .unset] [])) _
    refine XS.iloadN X0.here hx rfl (hb hby d18_0) rfl ?_
    show Steps p.tables e below (s₁.setTop (mkF m 1 #[.val (.ref a1), .val (.int p2), .unset] [(.int p2)])) _
    refine XS.aloadN X0.here hx rfl (hb hby d18_1) rfl rfl ?_
    show Steps p.tables e below (s₁.setTop (mkF m 2 #[.val (.ref a1), .val (.int p2), .unset] [(.ref a1), (.int p2)])) _
    refine X0.arraylength hx (by rw [e0]; exact Ar_p.1) (State.isArrayOf_alike hZ.alike Ar_p.2.1) (g := (mkF m 2 #[.val (.ref a1), .val (.int p2), .unset] [(.ref a1), (.int p2)])) rfl rfl (hb hby d18_2) _ ?_
    rw [len_of S_p N_p]
    show Steps p.tables e below (s₁.setTop (mkF m 3 #[.val (.ref a1), .val (.int p2), .unset] [(.int z_a1), (.int p2)])) _
    refine XS.icmpYes X0.here hx rfl (pc0 := 3) (pc' := 14) rfl (hb hby d18_3) rfl (feq hc3).2 (by decide) (by decide) ?_
    show Steps p.tables e below (s₁.setTop (mkF m 14 #[.val (.ref a1), .val (.int p2), .unset] [])) _
    refine XS.iloadN X0.here hx rfl (hb hby d18_14) rfl ?_
    show Steps p.tables e below (s₁.setTop (mkF m 15 #[.val (.ref a1), .val (.int p2), .unset] [(.int p2)])) _
    refine st3 _ ?_
    show Steps p.tables e below (T3.setTop (mkF m 17 #[.val (.ref a1), .val (.int p2), .unset] [(.ref b3)])) _
    refine XS.astoreN X3.here hx rfl (hb hby d18_17) rfl rfl (l' := #[.val (.ref a1), .val (.int p2), .val (.ref b3)]) rfl ?_
    show Steps p.tables e below (T3.setTop (mkF m 18 #[.val (.ref a1), .val (.int p2), .val (.ref b3)] [])) _
    refine XS.aloadN X3.here hx rfl (hb hby d18_18) rfl rfl ?_
    show Steps p.tables e below (T3.setTop (mkF m 19 #[.val (.ref a1), .val (.int p2), .val (.ref b3)] [(.ref a1)])) _
    refine XS.iconst X3.here hx rfl (hb hby d18_19) ?_
    show Steps p.tables e below (T3.setTop (mkF m 20 #[.val (.ref a1), .val (.int p2), .val (.ref b3)] [(.int (0 : Int32)), (.ref a1)])) _
    refine XS.aloadN X3.here hx rfl (hb hby d18_20) rfl rfl ?_
    show Steps p.tables e below (T3.setTop (mkF m 21 #[.val (.ref a1), .val (.int p2), .val (.ref b3)] [(.ref b3), (.int (0 : Int32)), (.ref a1)])) _
    refine XS.iconst X3.here hx rfl (hb hby d18_21) ?_
    show Steps p.tables e below (T3.setTop (mkF m 22 #[.val (.ref a1), .val (.int p2), .val (.ref b3)] [(.int (0 : Int32)), (.ref b3), (.int (0 : Int32)), (.ref a1)])) _
    refine XS.aloadN X3.here hx rfl (hb hby d18_22) rfl rfl ?_
    show Steps p.tables e below (T3.setTop (mkF m 23 #[.val (.ref a1), .val (.int p2), .val (.ref b3)] [(.ref a1), (.int (0 : Int32)), (.ref b3), (.int (0 : Int32)), (.ref a1)])) _
    refine X3.arraylength hx (by rw [e3]; exact Ar_a1.1) (State.isArrayOf_alike hZ.alike Ar_a1.2.1) (g := (mkF m 23 #[.val (.ref a1), .val (.int p2), .val (.ref b3)] [(.ref a1), (.int (0 : Int32)), (.ref b3), (.int (0 : Int32)), (.ref a1)])) rfl rfl (hb hby d18_23) _ ?_
    rw [len_of S_a1 N_a1]
    show Steps p.tables e below (T3.setTop (mkF m 24 #[.val (.ref a1), .val (.int p2), .val (.ref b3)] [(.int z_a1), (.int (0 : Int32)), (.ref b3), (.int (0 : Int32)), (.ref a1)])) _
    refine XS.iloadN X3.here hx rfl (hb hby d18_24) rfl ?_
    show Steps p.tables e below (T3.setTop (mkF m 25 #[.val (.ref a1), .val (.int p2), .val (.ref b3)] [(.int p2), (.int z_a1), (.int (0 : Int32)), (.ref b3), (.int (0 : Int32)), (.ref a1)])) _
    refine st4 _ ?_
    show Steps p.tables e below (T4.setTop (mkF m 28 #[.val (.ref a1), .val (.int p2), .val (.ref b3)] [(.int z_a1), (.int (0 : Int32)), (.ref b3), (.int (0 : Int32)), (.ref a1)])) _
    refine st5 _ ?_
    show Steps p.tables e below (T5.setTop (mkF m 31 #[.val (.ref a1), .val (.int p2), .val (.ref b3)] [])) _
    refine XS.aloadN X5.here hx rfl (hb hby d18_31) rfl rfl ?_
    show Steps p.tables e below (T5.setTop (mkF m 32 #[.val (.ref a1), .val (.int p2), .val (.ref b3)] [(.ref b3)])) _
    jvm_step X5.here [X5.here.top, hx, (hb hby d18_32), X5.method', Bd.returns, Value.isRef, FieldType.isReference]
    first | (intro acts; rw [hr _ acts rfl rfl rfl]) | rw [hr _ _ rfl rfl rfl]
    exact Steps.refl _
  · show own_QC Z p2 (vs_a1 ++ (List.replicate p2.toNatClampNeg (.int (0 : Int32))).drop vs_a1.length) h0 n0 _ T5.heap _
    rw [e5]
    exact ⟨b3, rfl, N5, g_b3, sz_b3, K5, k3, own_cpyG hz V_b3_5⟩
def own_QE (Z : State) (a1 : Addr) (c nc : Int32) (vs : List Value) (h0 : Heap) (n0 : Nat) (v : Option Value) (h : Heap) (L : List Loc) : Prop := v = none ∧ Fr n0 L ∧ Keep h0 h [a1] ∧ ∃ (b : Addr) (k : ClassId), n0 ≤ b ∧ h0.size ≤ b ∧ Fld Z h a1 "java/lang/AbstractStringBuilder" "value" "[B" (.ref b) ∧ Fld Z h a1 "java/lang/AbstractStringBuilder" "coder" "B" (.int (0 : Int32)) ∧ Fld Z h a1 "java/lang/AbstractStringBuilder" "count" "I" (.int c) ∧ Arv Z h b k .byte nc vs (.int (0 : Int32))
theorem d14_17 : decode jdk_68_method_9_code 17 = .ok (.aload_n 0, 1) := by decide +kernel
theorem d14_18 : decode jdk_68_method_9_code 18 = .ok (.aload_n 0, 1) := by decide +kernel
theorem d14_19 : decode jdk_68_method_9_code 19 = .ok (.getfield 15, 3) := by decide +kernel
theorem d14_22 : decode jdk_68_method_9_code 22 = .ok (.aload_n 0, 1) := by decide +kernel
theorem d14_23 : decode jdk_68_method_9_code 23 = .ok (.iload_n 1, 1) := by decide +kernel
theorem d14_24 : decode jdk_68_method_9_code 24 = .ok (.invokevirtual 104, 3) := by decide +kernel
theorem d14_27 : decode jdk_68_method_9_code 27 = .ok (.aload_n 0, 1) := by decide +kernel
theorem d14_28 : decode jdk_68_method_9_code 28 = .ok (.getfield 22, 3) := by decide +kernel
theorem d14_31 : decode jdk_68_method_9_code 31 = .ok (.ishl, 1) := by decide +kernel
theorem d14_32 : decode jdk_68_method_9_code 32 = .ok (.invokestatic 108, 3) := by decide +kernel
theorem d14_35 : decode jdk_68_method_9_code 35 = .ok (.putfield 15, 3) := by decide +kernel
theorem pd_14_12 : parseMethodDescriptor "(I)I" = some ⟨[.int], some .int⟩ := by decide +kernel
theorem pd_14_15 : parseMethodDescriptor "([BI)[B" = some ⟨[(.array .byte), .int], some (.array .byte)⟩ := by decide +kernel
set_option maxRecDepth 65536 in
set_option maxHeartbeats 40000000 in
theorem rm14g (l : Launch) (Z : State) (a0 : Array Value) (hw : ∀ d ∈ tables_1, d.before a0 Z = true) (ws : List Jvm.Cond) (a1 : Addr) (p2 : Int32) (bv : Addr) (c0 : Int32) (nc : Int32) (k_bv : ClassId) (z_bv : Int32) (vs_bv : List Value) (dv_bv : Value) (h0 : Heap) (n0 : Nat) (Z0 : n0 ≤ h0.size) (E_a1 : Exa Z h0 a1 "java/lang/StringBuilder") (F_value_a1 : Fld Z h0 a1 "java/lang/AbstractStringBuilder" "value" "[B" (.ref bv)) (F_coder_a1 : Fld Z h0 a1 "java/lang/AbstractStringBuilder" "coder" "B" (.int (0 : Int32))) (F_count_a1 : Fld Z h0 a1 "java/lang/AbstractStringBuilder" "count" "I" (.int c0)) (V_bv : Arv Z h0 bv k_bv .byte z_bv vs_bv dv_bv) (g_a1 : n0 ≤ a1) (hgr : (0 : Int32) < (p2 - (z_bv >>> ((0 : Int32) &&& 31)))) (g1 : ((p2 <<< ((0 : Int32) &&& 31)) - z_bv) < (z_bv + ((2 : Int32) <<< ((0 : Int32) &&& 31)))) (g2 : (0 : Int32) < (z_bv + (z_bv + ((2 : Int32) <<< ((0 : Int32) &&& 31))))) (g3 : ¬ ((2147483639 : Int32) < (z_bv + (z_bv + ((2 : Int32) <<< ((0 : Int32) &&& 31)))))) (g4 : ¬ ((z_bv + (z_bv + ((2 : Int32) <<< ((0 : Int32) &&& 31)))) = (2147483647 : Int32))) (hnc : ((z_bv + (z_bv + ((2 : Int32) <<< ((0 : Int32) &&& 31)))) >>> ((0 : Int32) &&& 31)) = nc) (hzn : ¬ z_bv < 0) (hnn : ¬ nc < 0) (hlt : z_bv < nc) (hmn : ¬ (nc < z_bv)) (hle : nc.toNatClampNeg ≤ 70) (hz : z_bv.toNatClampNeg = vs_bv.length) (hne : ¬ (nc = z_bv)) (hc14 : (0 : Int32) < (p2 - (z_bv >>> ((0 : Int32) &&& 31)))) :
    MetFree l (⟨"java/lang/AbstractStringBuilder", "ensureCapacityInternal", "(I)V"⟩ : MethodName) (head1 (Jvm.Cond.code (⟨"java/lang/AbstractStringBuilder", "ensureCapacityInternal", "(I)V"⟩ : MethodName) jdk_68_method_9_code 3 none :: ws) ({ frames := 3, cells := 1, slots := 70, locals := 64 } : Room)) (fun a U => a = #[(.ref a1), (.int p2)] ∧ Z.Warmed39 U.vm ∧ U.heap = h0) (fun _ _ _ _ _ => True) (fun _ U o U' => ∃ v L, o = .returned v ∧ own_QE Z a1 c0 nc (vs_bv ++ (List.replicate nc.toNatClampNeg (Value.int (0 : Int32))).drop vs_bv.length) h0 n0 v U'.heap L ∧ FrameEnd U o U' L ({ frames := 3, cells := 1, slots := 70, locals := 64 } : Room).cells ({ frames := 3, cells := 1, slots := 70, locals := 64 } : Room).slots) := by
  refine MetFree.of_bodySF (plainFor_of_name pn_14) hisR ?_
  intro p e s m args below meth c s₁ Bd hml0 hP hK
  obtain ⟨rfl, hZ, hh⟩ := hP
  have hx := Bd.exec
  have hby := Bd.bytes
  have hml : c.maxLocals = 3 := hml0
  have hown : s.vm.findClass "java/lang/AbstractStringBuilder" = some m.cls := findClass_of_methodNamed Bd.named
  have hnm := (name_of_methodNamed Bd.named Bd.method).1
  have X0 : Stand p l e ({ frames := 3, cells := 1, slots := 70, locals := 64 } : Room) s m #[(.ref a1), (.int p2)] below meth c s₁ [] 0 0 := Stand.of_body Bd
  have e0 : s₁.heap = h0 := by rw [← hh, Bd.state]; rfl
  have N0 := Fr.nil n0
  have pre0 : ∀ t, Steps p.tables e below (s₁.setTop (mkF m 0 #[.val (.ref a1), .val (.int p2), .unset] [])) t → Steps p.tables e below (s₁.setTop (entryFrame m #[(.ref a1), (.int p2)] 3)) t := fun t k => castTop (ef_14 m a1 p2) k
  have eS : nc <<< ((0 : Int32) &&& 31) = nc := own_shl0 nc
  obtain ⟨T3, X3, e3, st3⟩ := getF X0 hx hZ hown (host := "") (Or.inl (hw _ (wI 51 rfl))) Via.refl e0 F_value_a1 (g := (mkF m 1 #[.val (.ref a1), .val (.int p2), .unset] [(.ref a1)])) rfl rfl (hb hby d14_1)
  obtain ⟨cl_bv_4, Ar_bv, -, S_bv, N_bv, -, -⟩ := id V_bv
  obtain ⟨T4, X4, e4, st4⟩ := getF X3 hx hZ hown (host := "") (Or.inl (hw _ (wI 53 rfl))) Via.refl e3 F_coder_a1 (g := (mkF m 6 #[.val (.ref a1), .val (.int p2), .unset] [(.ref a1), (.int z_bv)])) rfl rfl (hb hby d14_6)
  obtain ⟨T5, X5, e5, st5⟩ := getF X4 hx hZ hown (host := "") (Or.inl (hw _ (wI 51 rfl))) Via.refl e4 F_value_a1 (g := (mkF m 19 #[.val (.ref a1), .val (.int p2), .val (.int (z_bv >>> ((0 : Int32) &&& 31)))] [(.ref a1), (.ref a1)])) rfl rfl (hb hby d14_19)
  obtain ⟨cq6, q6, q6'⟩ := E_a1.cell
  obtain ⟨_, _, ⟨T6, L6, k6, n6⟩, -, X6, ⟨Lc6, hQ6, l6, y6, z6⟩, st6⟩ := X5.privateBack hx (y := (⟨"java/lang/AbstractStringBuilder", "newCapacity", "(I)I"⟩ : MethodName)) hown (mvT hZ (hw _ (wI 83 rfl))) (mvT hZ (hw _ (wI 84 rfl))) (own_selP (mvT hZ (hw _ (wI 86 rfl))) (Cond.privateMethod_at (mvP hZ (hw _ (wI 85 rfl)) (args := #[]))) (mvT hZ (hw _ (wI 84 rfl))) (by decide)) (Cond.privateMethod_at (mvP hZ (hw _ (wI 85 rfl)) (args := #[]))) (mvT hZ (hw _ (wI 87 rfl))) (by decide) (backOf (W := 2) (rm15 l Z a0 hw [] a1 p2 bv nc k_bv z_bv vs_bv dv_bv h0 n0 Z0 E_a1 F_value_a1 F_coder_a1 V_bv g1 g2 g3 hnc g4) hZ (hw _ (wI 87 rfl)) (hw _ (wI 47 rfl)) (by decide) (by decide)) (g := (mkF m 24 #[.val (.ref a1), .val (.int p2), .val (.int (z_bv >>> ((0 : Int32) &&& 31)))] [(.int p2), (.ref a1), (.ref bv), (.ref a1)])) rfl (by rw [hml]; rfl) (Steps.refl _) (a := a1) (by rw [e5]; exact q6) q6' (argsL := [(.int p2)]) (rest := [(.ref bv), (.ref a1)]) (lenOf pd_14_12 rfl) rfl (by show 2 * 0 + _ ≤ _; exact Nat.le_of_eq rfl) (hb hby d14_24) (fun _ _ => ⟨rfl, e5, (by decide : 0 + 0 ≤ _), (by decide : 0 + 0 ≤ _)⟩)
  dsimp only [Pt.U, Pt.locs, Pt.cells, Pt.slots] at X6 l6 y6 z6 st6 hQ6
  subst l6 y6 z6
  obtain ⟨rfl, N6q, eq6⟩ := hQ6
  have N6 := Fr.app N0 N6q
  have Kq6 : Keep h0 T6.heap [] := (own_keq eq6)
  have K6 : Keep h0 T6.heap [a1] := (Keep.refl h0 [a1]).trans Kq6 all0
  obtain ⟨T7, X7, e7, st7⟩ := getF X6 hx hZ hown (host := "") (Or.inl (hw _ (wI 53 rfl))) Via.refl rfl (F_coder_a1.keep Kq6 (fun q => nomatch q)) (g := (mkF m 28 #[.val (.ref a1), .val (.int p2), .val (.int (z_bv >>> ((0 : Int32) &&& 31)))] [(.ref a1), (.int nc), (.ref bv), (.ref a1)])) rfl rfl (hb hby d14_28)
  obtain ⟨_, _, ⟨T8, L8, k8, n8⟩, -, X8, ⟨Lc8, hQ8, l8, y8, z8⟩, st8⟩ := Jvm.LawKit.callS X7 hx (y := (⟨"java/util/Arrays", "copyOf", "([BI)[B"⟩ : MethodName)) hown (mvT hZ (hw _ (wI 98 rfl))) (mvT hZ (hw _ (wI 99 rfl))) (mvT hZ (hw _ (wI 100 rfl))) (mvT hZ (hw _ (wI 101 rfl))) (by decide) (backOf (W := 1) (rm18 l Z a0 hw [] bv (nc <<< ((0 : Int32) &&& 31)) k_bv z_bv vs_bv dv_bv T6.heap n0 (Nat.le_trans Z0 Kq6.1) (V_bv.keep Kq6 (fun q => nomatch q)) hzn (by rw [eS]; exact hnn) (by rw [eS]; exact hlt) (by rw [eS]; exact hmn) (by rw [eS]; exact hle) hz (by rw [eS]; exact hne)) hZ (hw _ (wI 101 rfl)) (hw _ (wI 100 rfl)) (by decide) (by decide)) (g := (mkF m 32 #[.val (.ref a1), .val (.int p2), .val (.int (z_bv >>> ((0 : Int32) &&& 31)))] [(.int (nc <<< ((0 : Int32) &&& 31))), (.ref bv), (.ref a1)])) rfl (by rw [hml]; rfl) (argsL := [(.ref bv), (.int (nc <<< ((0 : Int32) &&& 31)))]) (rest := [(.ref a1)]) (lenOf pd_14_15 rfl) rfl (by show 2 * 0 + _ ≤ _; exact Nat.le_of_eq rfl) (hb hby d14_32) (fun _ _ => ⟨rfl, e7, (by decide : 0 + 1 ≤ _), (by decide : 0 + 70 ≤ _)⟩)
  dsimp only [Pt.U, Pt.locs, Pt.cells, Pt.slots] at X8 l8 y8 z8 st8 hQ8
  subst l8 y8 z8
  obtain ⟨tX, rfl, N8q, g_tX, gz_tX, Kt8, kx, Vx0⟩ := hQ8
  have N8 := Fr.app N6 N8q
  have Vx : Arv Z T8.heap tX kx .byte nc (vs_bv ++ (List.replicate nc.toNatClampNeg (Value.int (0 : Int32))).drop vs_bv.length) (.int (0 : Int32)) := by
    rw [eS] at Vx0
    exact Vx0
  have Kq8 : Keep T6.heap T8.heap [] := Kt8
  have K8 : Keep h0 T8.heap [a1] := K6.trans Kq8 all0
  obtain ⟨T9, h9, X9, e9, W9, st9⟩ := putF X8 hx hZ hown (host := "") (Or.inl (hw _ (wI 51 rfl))) Via.refl rfl ((F_value_a1.keep Kq6 (fun q => nomatch q)).keep Kq8 (fun q => nomatch q)) ((E_a1.keep Kq6).keep Kq8) (Or.inl (hw _ (wI 52 rfl))) (hw _ (wI 38 rfl)) (ty := (.array .byte)) (by decide) rfl rfl (g := (mkF m 35 #[.val (.ref a1), .val (.int p2), .val (.int (z_bv >>> ((0 : Int32) &&& 31)))] [(.ref tX), (.ref a1)])) rfl rfl (hb hby d14_35)
  have Fw9 := ((F_value_a1.keep Kq6 (fun q => nomatch q)).keep Kq8 (fun q => nomatch q)).same W9
  have K9 : Keep h0 h9 [a1] := K8.wr W9 (Or.inl (List.mem_of_getElem? (i := 0) rfl))
  have N9 := Fr.snoc X9 N8 g_a1
  have End_0 := Fw9
  have End_1 := (((F_coder_a1.keep Kq6 (fun q => nomatch q)).keep Kq8 (fun q => nomatch q)).other W9 (Or.inr (slot_ne (Or.inl (hw _ (wI 54 rfl))) (Or.inl (hw _ (wI 52 rfl))) (by decide) (t := .byte) (t' := (.array .byte)) (by decide) (by decide))))
  have End_2 := (((F_count_a1.keep Kq6 (fun q => nomatch q)).keep Kq8 (fun q => nomatch q)).other W9 (Or.inr (slot_ne (Or.inl (hw _ (wI 77 rfl))) (Or.inl (hw _ (wI 52 rfl))) (by decide) (t := .int) (t' := (.array .byte)) (by decide) (by decide))))
  have End_3 := (Vx.other W9 (Ne.symm (Nat.ne_of_lt (Nat.lt_of_lt_of_le (E_a1.keep Kq6).lt gz_tX))))
  obtain ⟨fs, hr, hrun, hended, hW, hsame⟩ := X9.leave (v := none) (fun _ => rfl)
  refine ⟨_, _, pre0 _ ?_, hrun, hended, _, _, rfl, ?_, ⟨_, rfl⟩, hW, hsame.mono (by decide) (by decide)⟩
  · show Steps p.tables e below (s₁.setTop (mkF m 0 #[.val (.ref a1), .val (.int p2), .unset] [])) _
    refine XS.aloadN X0.here hx rfl (hb hby d14_0) rfl rfl ?_
    show Steps p.tables e below (s₁.setTop (mkF m 1 #[.val (.ref a1), .val (.int p2), .unset] [(.ref a1)])) _
    refine st3 _ ?_
    show Steps p.tables e below (T3.setTop (mkF m 4 #[.val (.ref a1), .val (.int p2), .unset] [(.ref bv)])) _
    refine X3.arraylength hx (by rw [e3]; exact Ar_bv.1) (State.isArrayOf_alike hZ.alike Ar_bv.2.1) (g := (mkF m 4 #[.val (.ref a1), .val (.int p2), .unset] [(.ref bv)])) rfl rfl (hb hby d14_4) _ ?_
    rw [len_of S_bv N_bv]
    show Steps p.tables e below (T3.setTop (mkF m 5 #[.val (.ref a1), .val (.int p2), .unset] [(.int z_bv)])) _
    refine XS.aloadN X3.here hx rfl (hb hby d14_5) rfl rfl ?_
    show Steps p.tables e below (T3.setTop (mkF m 6 #[.val (.ref a1), .val (.int p2), .unset] [(.ref a1), (.int z_bv)])) _
    refine st4 _ ?_
    show Steps p.tables e below (T4.setTop (mkF m 9 #[.val (.ref a1), .val (.int p2), .unset] [(.int (0 : Int32)), (.int z_bv)])) _
    refine XS.ishr X4.here hx rfl (hb hby d14_9) rfl ?_
    show Steps p.tables e below (T4.setTop (mkF m 10 #[.val (.ref a1), .val (.int p2), .unset] [(.int (z_bv >>> ((0 : Int32) &&& 31)))])) _
    refine XS.istoreN X4.here hx rfl (hb hby d14_10) rfl (l' := #[.val (.ref a1), .val (.int p2), .val (.int (z_bv >>> ((0 : Int32) &&& 31)))]) rfl ?_
    show Steps p.tables e below (T4.setTop (mkF m 11 #[.val (.ref a1), .val (.int p2), .val (.int (z_bv >>> ((0 : Int32) &&& 31)))] [])) _
    refine XS.iloadN X4.here hx rfl (hb hby d14_11) rfl ?_
    show Steps p.tables e below (T4.setTop (mkF m 12 #[.val (.ref a1), .val (.int p2), .val (.int (z_bv >>> ((0 : Int32) &&& 31)))] [(.int p2)])) _
    refine XS.iloadN X4.here hx rfl (hb hby d14_12) rfl ?_
    show Steps p.tables e below (T4.setTop (mkF m 13 #[.val (.ref a1), .val (.int p2), .val (.int (z_bv >>> ((0 : Int32) &&& 31)))] [(.int (z_bv >>> ((0 : Int32) &&& 31))), (.int p2)])) _
    refine XS.isub X4.here hx rfl (hb hby d14_13) rfl ?_
    show Steps p.tables e below (T4.setTop (mkF m 14 #[.val (.ref a1), .val (.int p2), .val (.int (z_bv >>> ((0 : Int32) &&& 31)))] [(.int (p2 - (z_bv >>> ((0 : Int32) &&& 31))))])) _
    refine XS.ifNo X4.here hx rfl (hb hby d14_14) rfl ((if0 _ _).trans (tlt hc14).2.2.2) ?_
    show Steps p.tables e below (T4.setTop (mkF m 17 #[.val (.ref a1), .val (.int p2), .val (.int (z_bv >>> ((0 : Int32) &&& 31)))] [])) _
    refine XS.aloadN X4.here hx rfl (hb hby d14_17) rfl rfl ?_
    show Steps p.tables e below (T4.setTop (mkF m 18 #[.val (.ref a1), .val (.int p2), .val (.int (z_bv >>> ((0 : Int32) &&& 31)))] [(.ref a1)])) _
    refine XS.aloadN X4.here hx rfl (hb hby d14_18) rfl rfl ?_
    show Steps p.tables e below (T4.setTop (mkF m 19 #[.val (.ref a1), .val (.int p2), .val (.int (z_bv >>> ((0 : Int32) &&& 31)))] [(.ref a1), (.ref a1)])) _
    refine st5 _ ?_
    show Steps p.tables e below (T5.setTop (mkF m 22 #[.val (.ref a1), .val (.int p2), .val (.int (z_bv >>> ((0 : Int32) &&& 31)))] [(.ref bv), (.ref a1)])) _
    refine XS.aloadN X5.here hx rfl (hb hby d14_22) rfl rfl ?_
    show Steps p.tables e below (T5.setTop (mkF m 23 #[.val (.ref a1), .val (.int p2), .val (.int (z_bv >>> ((0 : Int32) &&& 31)))] [(.ref a1), (.ref bv), (.ref a1)])) _
    refine XS.iloadN X5.here hx rfl (hb hby d14_23) rfl ?_
    show Steps p.tables e below (T5.setTop (mkF m 24 #[.val (.ref a1), .val (.int p2), .val (.int (z_bv >>> ((0 : Int32) &&& 31)))] [(.int p2), (.ref a1), (.ref bv), (.ref a1)])) _
    refine st6.trans ?_
    show Steps p.tables e below (T6.setTop (mkF m 27 #[.val (.ref a1), .val (.int p2), .val (.int (z_bv >>> ((0 : Int32) &&& 31)))] [(.int nc), (.ref bv), (.ref a1)])) _
    refine XS.aloadN X6.here hx rfl (hb hby d14_27) rfl rfl ?_
    show Steps p.tables e below (T6.setTop (mkF m 28 #[.val (.ref a1), .val (.int p2), .val (.int (z_bv >>> ((0 : Int32) &&& 31)))] [(.ref a1), (.int nc), (.ref bv), (.ref a1)])) _
    refine st7 _ ?_
    show Steps p.tables e below (T7.setTop (mkF m 31 #[.val (.ref a1), .val (.int p2), .val (.int (z_bv >>> ((0 : Int32) &&& 31)))] [(.int (0 : Int32)), (.int nc), (.ref bv), (.ref a1)])) _
    refine XS.ishl X7.here hx rfl (hb hby d14_31) rfl ?_
    show Steps p.tables e below (T7.setTop (mkF m 32 #[.val (.ref a1), .val (.int p2), .val (.int (z_bv >>> ((0 : Int32) &&& 31)))] [(.int (nc <<< ((0 : Int32) &&& 31))), (.ref bv), (.ref a1)])) _
    refine st8 _ ?_
    show Steps p.tables e below (T8.setTop (mkF m 35 #[.val (.ref a1), .val (.int p2), .val (.int (z_bv >>> ((0 : Int32) &&& 31)))] [(.ref tX), (.ref a1)])) _
    refine st9 _ ?_
    show Steps p.tables e below (T9.setTop (mkF m 38 #[.val (.ref a1), .val (.int p2), .val (.int (z_bv >>> ((0 : Int32) &&& 31)))] [])) _
    exact X9.returnOut hx Bd.returns (hb hby d14_38) hr
  · show own_QE Z a1 c0 nc (vs_bv ++ (List.replicate nc.toNatClampNeg (Value.int (0 : Int32))).drop vs_bv.length) h0 n0 _ T9.heap _
    rw [e9]
    exact ⟨rfl, N9, K9, tX, kx, g_tX, (Nat.le_trans K6.1 gz_tX), End_0, End_1, End_2, End_3⟩
def own_QG (Z : State) (a1 : Addr) (c nc : Int32) (vs : List Value) (h0 : Heap) (n0 : Nat) (v : Option Value) (h : Heap) (L : List Loc) : Prop := v = some (.ref a1) ∧ Fr n0 L ∧ Keep h0 h [a1] ∧ ∃ (b : Addr) (k : ClassId), n0 ≤ b ∧ h0.size ≤ b ∧ Fld Z h a1 "java/lang/AbstractStringBuilder" "count" "I" (.int c) ∧ Fld Z h a1 "java/lang/AbstractStringBuilder" "value" "[B" (.ref b) ∧ Fld Z h a1 "java/lang/AbstractStringBuilder" "coder" "B" (.int (0 : Int32)) ∧ Arv Z h b k .byte nc vs (.int (0 : Int32))
set_option maxRecDepth 65536 in
set_option maxHeartbeats 40000000 in
theorem rm11g (l : Launch) (Z : State) (a0 : Array Value) (hw : ∀ d ∈ tables_1, d.before a0 Z = true) (ws : List Jvm.Cond) (a1 : Addr) (a2 : Addr) (G1 : Int32) (bv : Addr) (sv : Addr) (c0 : Int32) (nc : Int32) (k_bv : ClassId) (z_bv : Int32) (vs_bv : List Value) (dv_bv : Value) (k_sv : ClassId) (z_sv : Int32) (vs_sv : List Value) (dv_sv : Value) (h0 : Heap) (n0 : Nat) (Z0 : n0 ≤ h0.size) (S_COMPACT_STRINGS : Sta Z Z.heap "java/lang/String" "COMPACT_STRINGS" "Z" (.int G1)) (X00 : Old Z n0 h0) (P3 : ¬ (G1 = (0 : Int32))) (E_a1 : Exa Z h0 a1 "java/lang/StringBuilder") (F_value_a1 : Fld Z h0 a1 "java/lang/AbstractStringBuilder" "value" "[B" (.ref bv)) (F_coder_a1 : Fld Z h0 a1 "java/lang/AbstractStringBuilder" "coder" "B" (.int (0 : Int32))) (F_count_a1 : Fld Z h0 a1 "java/lang/AbstractStringBuilder" "count" "I" (.int c0)) (E_a2 : Exa Z h0 a2 "java/lang/String") (F_value_a2 : Fld Z h0 a2 "java/lang/String" "value" "[B" (.ref sv)) (F_coder_a2 : Fld Z h0 a2 "java/lang/String" "coder" "B" (.int (0 : Int32))) (V_bv : Arv Z h0 bv k_bv .byte z_bv vs_bv dv_bv) (V_sv : Arv Z h0 sv k_sv .byte z_sv vs_sv dv_sv) (g_a1 : n0 ≤ a1) (hgr : (0 : Int32) < ((c0 + z_sv) - (z_bv >>> ((0 : Int32) &&& 31)))) (g1 : (((c0 + z_sv) <<< ((0 : Int32) &&& 31)) - z_bv) < (z_bv + ((2 : Int32) <<< ((0 : Int32) &&& 31)))) (g2 : (0 : Int32) < (z_bv + (z_bv + ((2 : Int32) <<< ((0 : Int32) &&& 31))))) (g3 : ¬ ((2147483639 : Int32) < (z_bv + (z_bv + ((2 : Int32) <<< ((0 : Int32) &&& 31)))))) (g4 : ¬ ((z_bv + (z_bv + ((2 : Int32) <<< ((0 : Int32) &&& 31)))) = (2147483647 : Int32))) (hnc : ((z_bv + (z_bv + ((2 : Int32) <<< ((0 : Int32) &&& 31)))) >>> ((0 : Int32) &&& 31)) = nc) (hzn : ¬ z_bv < 0) (hnn : ¬ nc < 0) (hlt : z_bv < nc) (hmn : ¬ (nc < z_bv)) (hle : nc.toNatClampNeg ≤ 70) (hz : z_bv.toNatClampNeg = vs_bv.length) (hne : ¬ (nc = z_bv)) (hzl : z_sv.toNatClampNeg = vs_sv.length) (hps : ¬ c0 < 0) (hbo : c0.toNatClampNeg + vs_sv.length ≤ nc.toNatClampNeg) (hln : c0.toNatClampNeg + vs_sv.length ≤ (vs_bv ++ (List.replicate nc.toNatClampNeg (Value.int (0 : Int32))).drop vs_bv.length).length) :
    MetFree l (⟨"java/lang/AbstractStringBuilder", "append", "(Ljava/lang/String;)Ljava/lang/AbstractStringBuilder;"⟩ : MethodName) (head1 (Jvm.Cond.code (⟨"java/lang/AbstractStringBuilder", "append", "(Ljava/lang/String;)Ljava/lang/AbstractStringBuilder;"⟩ : MethodName) jdk_68_method_22_code 3 (some (.object "java/lang/AbstractStringBuilder")) :: ws) ({ frames := 4, cells := 1, slots := 70, locals := 80 } : Room)) (fun a U => a = #[(.ref a1), (.ref a2)] ∧ Z.Warmed39 U.vm ∧ U.heap = h0) (fun _ _ _ _ _ => True) (fun _ U o U' => ∃ v L, o = .returned v ∧ own_QG Z a1 (c0 + z_sv) nc (own_upd (vs_bv ++ (List.replicate nc.toNatClampNeg (Value.int (0 : Int32))).drop vs_bv.length) c0.toNatClampNeg vs_sv) h0 n0 v U'.heap L ∧ FrameEnd U o U' L ({ frames := 4, cells := 1, slots := 70, locals := 80 } : Room).cells ({ frames := 4, cells := 1, slots := 70, locals := 80 } : Room).slots) := by
  refine MetFree.of_bodySF (plainFor_of_name pn_11) hisR ?_
  intro p e s m args below meth c s₁ Bd hml0 hP hK
  obtain ⟨rfl, hZ, hh⟩ := hP
  have hx := Bd.exec
  have hby := Bd.bytes
  have hml : c.maxLocals = 3 := hml0
  have hown : s.vm.findClass "java/lang/AbstractStringBuilder" = some m.cls := findClass_of_methodNamed Bd.named
  have hnm := (name_of_methodNamed Bd.named Bd.method).1
  have X0 : Stand p l e ({ frames := 4, cells := 1, slots := 70, locals := 80 } : Room) s m #[(.ref a1), (.ref a2)] below meth c s₁ [] 0 0 := Stand.of_body Bd
  have e0 : s₁.heap = h0 := by rw [← hh, Bd.state]; rfl
  have N0 := Fr.nil n0
  have pre0 : ∀ t, Steps p.tables e below (s₁.setTop (mkF m 0 #[.val (.ref a1), .val (.ref a2), .unset] [])) t → Steps p.tables e below (s₁.setTop (entryFrame m #[(.ref a1), (.ref a2)] 3)) t := fun t k => castTop (ef_11 m a1 a2) k
  obtain ⟨cq3, kq3, q3a, q3b, q3c⟩ := isOf hZ e0 E_a2
  obtain ⟨_, _, ⟨T3, L3, k3, n3⟩, -, X3, ⟨Lc3, hQ3, l3, y3, z3⟩, st3⟩ := X0.virtualBack hx (y := (⟨"java/lang/String", "length", "()I"⟩ : MethodName)) (z := (⟨"java/lang/String", "length", "()I"⟩ : MethodName)) hown (mvT hZ (hw _ (wI 66 rfl))) (mvT hZ (hw _ (wI 67 rfl))) (notFace_of_selects (args := #[]) (mvT hZ (hw _ (wI 69 rfl)))) (mvT hZ (hw _ (wI 69 rfl))) (mvT hZ (hw _ (wI 68 rfl))) (by decide) (backOf (W := 0) (rm12 l Z a0 hw [] a2 G1 sv k_sv z_sv vs_sv dv_sv h0 n0 Z0 S_COMPACT_STRINGS X00 P3 E_a2 F_value_a2 F_coder_a2 V_sv) hZ (hw _ (wI 70 rfl)) (hw _ (wI 2 rfl)) (by decide) (by decide)) q3a q3c (g := (mkF m 10 #[.val (.ref a1), .val (.ref a2), .unset] [(.ref a2)])) rfl (by rw [hml]; rfl) (Steps.refl _) (argsL := []) (rest := []) (lenOf pd_11_10 rfl) rfl (by show 2 * 0 + _ ≤ _; exact Nat.le_of_eq rfl) (hb hby d11_10) (fun _ _ => ⟨rfl, e0, (by decide : 0 + 0 ≤ _), (by decide : 0 + 0 ≤ _)⟩)
  dsimp only [Pt.U, Pt.locs, Pt.cells, Pt.slots] at X3 l3 y3 z3 st3 hQ3
  subst l3 y3 z3
  obtain ⟨rfl, N3q, eq3⟩ := hQ3
  have N3 := Fr.app N0 N3q
  have Kq3 : Keep h0 T3.heap [] := (own_keq eq3)
  have K3 : Keep h0 T3.heap [a1] := (Keep.refl h0 [a1]).trans Kq3 all0
  obtain ⟨T4, X4, e4, st4⟩ := getF X3 hx hZ hown (host := "") (Or.inl (hw _ (wI 76 rfl))) Via.refl rfl (F_count_a1.keep Kq3 (fun q => nomatch q)) (g := (mkF m 16 #[.val (.ref a1), .val (.ref a2), .val (.int z_sv)] [(.ref a1), (.ref a1)])) rfl rfl (hb hby d11_16)
  obtain ⟨cq5, q5, q5'⟩ := (E_a1.keep Kq3).cell
  obtain ⟨_, _, ⟨T5, L5, k5, n5⟩, -, X5, ⟨Lc5, hQ5, l5, y5, z5⟩, st5⟩ := X4.privateBack hx (y := (⟨"java/lang/AbstractStringBuilder", "ensureCapacityInternal", "(I)V"⟩ : MethodName)) hown (mvT hZ (hw _ (wI 78 rfl))) (mvT hZ (hw _ (wI 79 rfl))) (own_selP (mvT hZ (hw _ (wI 81 rfl))) (Cond.privateMethod_at (mvP hZ (hw _ (wI 80 rfl)) (args := #[]))) (mvT hZ (hw _ (wI 79 rfl))) (by decide)) (Cond.privateMethod_at (mvP hZ (hw _ (wI 80 rfl)) (args := #[]))) (mvT hZ (hw _ (wI 82 rfl))) (by decide) (backOf (W := 0) (rm14g l Z a0 hw [] a1 (c0 + z_sv) bv c0 nc k_bv z_bv vs_bv dv_bv T3.heap n0 (Nat.le_trans Z0 Kq3.1) (E_a1.keep Kq3) (F_value_a1.keep Kq3 (fun q => nomatch q)) (F_coder_a1.keep Kq3 (fun q => nomatch q)) (F_count_a1.keep Kq3 (fun q => nomatch q)) (V_bv.keep Kq3 (fun q => nomatch q)) g_a1 hgr g1 g2 g3 g4 hnc hzn hnn hlt hmn hle hz hne hgr) hZ (hw _ (wI 82 rfl)) (hw _ (wI 47 rfl)) (by decide) (by decide)) (g := (mkF m 21 #[.val (.ref a1), .val (.ref a2), .val (.int z_sv)] [(.int (c0 + z_sv)), (.ref a1)])) rfl (by rw [hml]; rfl) (Steps.refl _) (a := a1) (by rw [e4]; exact q5) q5' (argsL := [(.int (c0 + z_sv))]) (rest := []) (lenOf pd_11_7 rfl) rfl (by show 2 * 0 + _ ≤ _; exact Nat.le_of_eq rfl) (hb hby d11_21) (fun _ _ => ⟨rfl, e4, (by decide : 0 + 1 ≤ _), (by decide : 0 + 70 ≤ _)⟩)
  dsimp only [Pt.U, Pt.locs, Pt.cells, Pt.slots] at X5 l5 y5 z5 st5 hQ5
  subst l5 y5 z5
  obtain ⟨rfl, N5q, Kc5, bn, kn, g_bn, gz_bn, Fv5, Fd5, Fn5, Vn5⟩ := hQ5
  have N5 := Fr.app N3 N5q
  have sz_bn : h0.size ≤ bn := Nat.le_trans K3.1 gz_bn
  have Kq5 : Keep T3.heap T5.heap [a1] := Kc5
  have K5 : Keep h0 T5.heap [a1] := K3.trans Kq5 (own_trS (Or.inl (List.mem_of_getElem? (i := 0) rfl)) all0)
  obtain ⟨T6, X6, e6, st6⟩ := getF X5 hx hZ hown (host := "") (Or.inl (hw _ (wI 76 rfl))) Via.refl rfl Fn5 (g := (mkF m 26 #[.val (.ref a1), .val (.ref a2), .val (.int z_sv)] [(.ref a1), (.ref a1)])) rfl rfl (hb hby d11_26)
  obtain ⟨cq7, q7, q7'⟩ := ((E_a1.keep Kq3).keep Kq5).cell
  obtain ⟨_, _, ⟨T7, L7, k7, n7⟩, -, X7, ⟨Lc7, hQ7, l7, y7, z7⟩, st7⟩ := X6.privateBack hx (y := (⟨"java/lang/AbstractStringBuilder", "putStringAt", "(ILjava/lang/String;)V"⟩ : MethodName)) hown (mvT hZ (hw _ (wI 109 rfl))) (mvT hZ (hw _ (wI 110 rfl))) (own_selP (mvT hZ (hw _ (wI 112 rfl))) (Cond.privateMethod_at (mvP hZ (hw _ (wI 111 rfl)) (args := #[]))) (mvT hZ (hw _ (wI 110 rfl))) (by decide)) (Cond.privateMethod_at (mvP hZ (hw _ (wI 111 rfl)) (args := #[]))) (mvT hZ (hw _ (wI 113 rfl))) (by decide) (backOf (W := 0) (rm20 l Z a0 hw [] a1 c0 a2 G1 bn sv kn nc (vs_bv ++ (List.replicate nc.toNatClampNeg (Value.int (0 : Int32))).drop vs_bv.length) (.int (0 : Int32)) k_sv z_sv vs_sv dv_sv T5.heap n0 (Nat.le_trans (Nat.le_trans Z0 Kq3.1) Kq5.1) S_COMPACT_STRINGS (X00.keep K5 (allS g_a1 all0)) P3 ((E_a1.keep Kq3).keep Kq5) Fv5 Fd5 ((E_a2.keep Kq3).keep Kq5) ((F_value_a2.keep Kq3 (fun q => nomatch q)).keep Kq5 (fun q => absurd (List.mem_singleton.mp q) (Exa.ne E_a2 E_a1 (by decide)))) ((F_coder_a2.keep Kq3 (fun q => nomatch q)).keep Kq5 (fun q => absurd (List.mem_singleton.mp q) (Exa.ne E_a2 E_a1 (by decide)))) Vn5 ((V_sv.keep Kq3 (fun q => nomatch q)).keep Kq5 (fun q => absurd (List.mem_singleton.mp q) (Ne.symm (Exa.neArv E_a1 V_sv (hw _ (wI 38 rfl)))))) g_bn hzl hps hbo hln) hZ (hw _ (wI 113 rfl)) (hw _ (wI 47 rfl)) (by decide) (by decide)) (g := (mkF m 30 #[.val (.ref a1), .val (.ref a2), .val (.int z_sv)] [(.ref a2), (.int c0), (.ref a1)])) rfl (by rw [hml]; rfl) (Steps.refl _) (a := a1) (by rw [e6]; exact q7) q7' (argsL := [(.int c0), (.ref a2)]) (rest := []) (lenOf pd_11_17 rfl) rfl (by show 2 * 0 + _ ≤ _; exact Nat.le_of_eq rfl) (hb hby d11_30) (fun _ _ => ⟨rfl, e6, (by decide : 1 + 0 ≤ _), (by decide : 70 + 0 ≤ _)⟩)
  dsimp only [Pt.U, Pt.locs, Pt.cells, Pt.slots] at X7 l7 y7 z7 st7 hQ7
  subst l7 y7 z7
  obtain ⟨rfl, N7q, Kc7, Vq7⟩ := hQ7
  have N7 := Fr.app N5 N7q
  have Kq7 : Keep T5.heap T7.heap [bn] := Kc7
  have K7 : Keep h0 T7.heap [a1] := K5.trans Kq7 (own_trS (Or.inr sz_bn) all0)
  obtain ⟨T8, X8, e8, st8⟩ := getF X7 hx hZ hown (host := "") (Or.inl (hw _ (wI 76 rfl))) Via.refl rfl (Fn5.keep Kq7 (fun q => absurd (List.mem_singleton.mp q) (Nat.ne_of_lt (Nat.lt_of_lt_of_le (E_a1.keep Kq3).lt gz_bn)))) (g := (mkF m 35 #[.val (.ref a1), .val (.ref a2), .val (.int z_sv)] [(.ref a1), (.ref a1)])) rfl rfl (hb hby d11_35)
  obtain ⟨T9, h9, X9, e9, W9, st9⟩ := putF X8 hx hZ hown (host := "") (Or.inl (hw _ (wI 76 rfl))) Via.refl e8 (Fn5.keep Kq7 (fun q => absurd (List.mem_singleton.mp q) (Nat.ne_of_lt (Nat.lt_of_lt_of_le (E_a1.keep Kq3).lt gz_bn)))) (((E_a1.keep Kq3).keep Kq5).keep Kq7) (Or.inl (hw _ (wI 77 rfl))) (hw _ (wI 38 rfl)) (ty := .int) (by decide) rfl rfl (g := (mkF m 40 #[.val (.ref a1), .val (.ref a2), .val (.int z_sv)] [(.int (c0 + z_sv)), (.ref a1)])) rfl rfl (hb hby d11_40)
  have Fw9 := (Fn5.keep Kq7 (fun q => absurd (List.mem_singleton.mp q) (Nat.ne_of_lt (Nat.lt_of_lt_of_le (E_a1.keep Kq3).lt gz_bn)))).same W9
  have K9 : Keep h0 h9 [a1] := K7.wr W9 (Or.inl (List.mem_of_getElem? (i := 0) rfl))
  have N9 := Fr.snoc X9 N7 g_a1
  have End_0 := Fw9
  have End_1 := (Vq7.other W9 (Ne.symm (Nat.ne_of_lt (Nat.lt_of_lt_of_le (E_a1.keep Kq3).lt gz_bn))))
  have End_2 := ((Fv5.keep Kq7 (fun q => absurd (List.mem_singleton.mp q) (Nat.ne_of_lt (Nat.lt_of_lt_of_le (E_a1.keep Kq3).lt gz_bn)))).other W9 (Or.inr (slot_ne (Or.inl (hw _ (wI 52 rfl))) (Or.inl (hw _ (wI 77 rfl))) (by decide) (t := (.array .byte)) (t' := .int) (by decide) (by decide))))
  have End_3 := ((Fd5.keep Kq7 (fun q => absurd (List.mem_singleton.mp q) (Nat.ne_of_lt (Nat.lt_of_lt_of_le (E_a1.keep Kq3).lt gz_bn)))).other W9 (Or.inr (slot_ne (Or.inl (hw _ (wI 54 rfl))) (Or.inl (hw _ (wI 77 rfl))) (by decide) (t := .byte) (t' := .int) (by decide) (by decide))))
  obtain ⟨fs, hr, hrun, hended, hW, hsame⟩ := X9.leave (v := some (.ref a1)) (fun h => by rw [Bd.returns] at h; cases h)
  refine ⟨_, _, pre0 _ ?_, hrun, hended, _, _, rfl, ?_, ⟨_, rfl⟩, hW, hsame.mono (by decide) (by decide)⟩
  · show Steps p.tables e below (s₁.setTop (mkF m 0 #[.val (.ref a1), .val (.ref a2), .unset] [])) _
    refine XS.aloadN X0.here hx rfl (hb hby d11_0) rfl rfl ?_
    show Steps p.tables e below (s₁.setTop (mkF m 1 #[.val (.ref a1), .val (.ref a2), .unset] [(.ref a2)])) _
    refine XS.ifnonnullYes X0.here hx rfl (pc0 := 1) (pc' := 9) rfl (hb hby d11_1) rfl (by decide) (by decide) ?_
    show Steps p.tables e below (s₁.setTop (mkF m 9 #[.val (.ref a1), .val (.ref a2), .unset] [])) _
    refine XS.aloadN X0.here hx rfl (hb hby d11_9) rfl rfl ?_
    show Steps p.tables e below (s₁.setTop (mkF m 10 #[.val (.ref a1), .val (.ref a2), .unset] [(.ref a2)])) _
    refine st3.trans ?_
    show Steps p.tables e below (T3.setTop (mkF m 13 #[.val (.ref a1), .val (.ref a2), .unset] [(.int z_sv)])) _
    refine XS.istoreN X3.here hx rfl (hb hby d11_13) rfl (l' := #[.val (.ref a1), .val (.ref a2), .val (.int z_sv)]) rfl ?_
    show Steps p.tables e below (T3.setTop (mkF m 14 #[.val (.ref a1), .val (.ref a2), .val (.int z_sv)] [])) _
    refine XS.aloadN X3.here hx rfl (hb hby d11_14) rfl rfl ?_
    show Steps p.tables e below (T3.setTop (mkF m 15 #[.val (.ref a1), .val (.ref a2), .val (.int z_sv)] [(.ref a1)])) _
    refine XS.aloadN X3.here hx rfl (hb hby d11_15) rfl rfl ?_
    show Steps p.tables e below (T3.setTop (mkF m 16 #[.val (.ref a1), .val (.ref a2), .val (.int z_sv)] [(.ref a1), (.ref a1)])) _
    refine st4 _ ?_
    show Steps p.tables e below (T4.setTop (mkF m 19 #[.val (.ref a1), .val (.ref a2), .val (.int z_sv)] [(.int c0), (.ref a1)])) _
    refine XS.iloadN X4.here hx rfl (hb hby d11_19) rfl ?_
    show Steps p.tables e below (T4.setTop (mkF m 20 #[.val (.ref a1), .val (.ref a2), .val (.int z_sv)] [(.int z_sv), (.int c0), (.ref a1)])) _
    refine XS.iadd X4.here hx rfl (hb hby d11_20) rfl ?_
    show Steps p.tables e below (T4.setTop (mkF m 21 #[.val (.ref a1), .val (.ref a2), .val (.int z_sv)] [(.int (c0 + z_sv)), (.ref a1)])) _
    refine st5.trans ?_
    show Steps p.tables e below (T5.setTop (mkF m 24 #[.val (.ref a1), .val (.ref a2), .val (.int z_sv)] [])) _
    refine XS.aloadN X5.here hx rfl (hb hby d11_24) rfl rfl ?_
    show Steps p.tables e below (T5.setTop (mkF m 25 #[.val (.ref a1), .val (.ref a2), .val (.int z_sv)] [(.ref a1)])) _
    refine XS.aloadN X5.here hx rfl (hb hby d11_25) rfl rfl ?_
    show Steps p.tables e below (T5.setTop (mkF m 26 #[.val (.ref a1), .val (.ref a2), .val (.int z_sv)] [(.ref a1), (.ref a1)])) _
    refine st6 _ ?_
    show Steps p.tables e below (T6.setTop (mkF m 29 #[.val (.ref a1), .val (.ref a2), .val (.int z_sv)] [(.int c0), (.ref a1)])) _
    refine XS.aloadN X6.here hx rfl (hb hby d11_29) rfl rfl ?_
    show Steps p.tables e below (T6.setTop (mkF m 30 #[.val (.ref a1), .val (.ref a2), .val (.int z_sv)] [(.ref a2), (.int c0), (.ref a1)])) _
    refine st7.trans ?_
    show Steps p.tables e below (T7.setTop (mkF m 33 #[.val (.ref a1), .val (.ref a2), .val (.int z_sv)] [])) _
    refine XS.aloadN X7.here hx rfl (hb hby d11_33) rfl rfl ?_
    show Steps p.tables e below (T7.setTop (mkF m 34 #[.val (.ref a1), .val (.ref a2), .val (.int z_sv)] [(.ref a1)])) _
    refine XS.dup X7.here hx rfl (hb hby d11_34) rfl rfl ?_
    show Steps p.tables e below (T7.setTop (mkF m 35 #[.val (.ref a1), .val (.ref a2), .val (.int z_sv)] [(.ref a1), (.ref a1)])) _
    refine st8 _ ?_
    show Steps p.tables e below (T8.setTop (mkF m 38 #[.val (.ref a1), .val (.ref a2), .val (.int z_sv)] [(.int c0), (.ref a1)])) _
    refine XS.iloadN X8.here hx rfl (hb hby d11_38) rfl ?_
    show Steps p.tables e below (T8.setTop (mkF m 39 #[.val (.ref a1), .val (.ref a2), .val (.int z_sv)] [(.int z_sv), (.int c0), (.ref a1)])) _
    refine XS.iadd X8.here hx rfl (hb hby d11_39) rfl ?_
    show Steps p.tables e below (T8.setTop (mkF m 40 #[.val (.ref a1), .val (.ref a2), .val (.int z_sv)] [(.int (c0 + z_sv)), (.ref a1)])) _
    refine st9 _ ?_
    show Steps p.tables e below (T9.setTop (mkF m 43 #[.val (.ref a1), .val (.ref a2), .val (.int z_sv)] [])) _
    refine XS.aloadN X9.here hx rfl (hb hby d11_43) rfl rfl ?_
    show Steps p.tables e below (T9.setTop (mkF m 44 #[.val (.ref a1), .val (.ref a2), .val (.int z_sv)] [(.ref a1)])) _
    jvm_step X9.here [X9.here.top, hx, (hb hby d11_44), X9.method', Bd.returns, Value.isRef, FieldType.isReference]
    first | (intro acts; rw [hr _ acts rfl rfl rfl]) | rw [hr _ _ rfl rfl rfl]
    exact Steps.refl _
  · show own_QG Z a1 (c0 + z_sv) nc (own_upd (vs_bv ++ (List.replicate nc.toNatClampNeg (Value.int (0 : Int32))).drop vs_bv.length) c0.toNatClampNeg vs_sv) h0 n0 _ T9.heap _
    rw [e9]
    exact ⟨rfl, N9, K9, bn, kn, g_bn, sz_bn, End_0, End_2, End_3, End_1⟩
set_option maxRecDepth 65536 in
set_option maxHeartbeats 40000000 in
theorem rm10g (l : Launch) (Z : State) (a0 : Array Value) (hw : ∀ d ∈ tables_1, d.before a0 Z = true) (ws : List Jvm.Cond) (a1 : Addr) (a2 : Addr) (G1 : Int32) (bv : Addr) (sv : Addr) (c0 : Int32) (nc : Int32) (k_bv : ClassId) (z_bv : Int32) (vs_bv : List Value) (dv_bv : Value) (k_sv : ClassId) (z_sv : Int32) (vs_sv : List Value) (dv_sv : Value) (h0 : Heap) (n0 : Nat) (Z0 : n0 ≤ h0.size) (S_COMPACT_STRINGS : Sta Z Z.heap "java/lang/String" "COMPACT_STRINGS" "Z" (.int G1)) (X00 : Old Z n0 h0) (P3 : ¬ (G1 = (0 : Int32))) (E_a1 : Exa Z h0 a1 "java/lang/StringBuilder") (F_value_a1 : Fld Z h0 a1 "java/lang/AbstractStringBuilder" "value" "[B" (.ref bv)) (F_coder_a1 : Fld Z h0 a1 "java/lang/AbstractStringBuilder" "coder" "B" (.int (0 : Int32))) (F_count_a1 : Fld Z h0 a1 "java/lang/AbstractStringBuilder" "count" "I" (.int c0)) (E_a2 : Exa Z h0 a2 "java/lang/String") (F_value_a2 : Fld Z h0 a2 "java/lang/String" "value" "[B" (.ref sv)) (F_coder_a2 : Fld Z h0 a2 "java/lang/String" "coder" "B" (.int (0 : Int32))) (V_bv : Arv Z h0 bv k_bv .byte z_bv vs_bv dv_bv) (V_sv : Arv Z h0 sv k_sv .byte z_sv vs_sv dv_sv) (g_a1 : n0 ≤ a1) (hgr : (0 : Int32) < ((c0 + z_sv) - (z_bv >>> ((0 : Int32) &&& 31)))) (g1 : (((c0 + z_sv) <<< ((0 : Int32) &&& 31)) - z_bv) < (z_bv + ((2 : Int32) <<< ((0 : Int32) &&& 31)))) (g2 : (0 : Int32) < (z_bv + (z_bv + ((2 : Int32) <<< ((0 : Int32) &&& 31))))) (g3 : ¬ ((2147483639 : Int32) < (z_bv + (z_bv + ((2 : Int32) <<< ((0 : Int32) &&& 31)))))) (g4 : ¬ ((z_bv + (z_bv + ((2 : Int32) <<< ((0 : Int32) &&& 31)))) = (2147483647 : Int32))) (hnc : ((z_bv + (z_bv + ((2 : Int32) <<< ((0 : Int32) &&& 31)))) >>> ((0 : Int32) &&& 31)) = nc) (hzn : ¬ z_bv < 0) (hnn : ¬ nc < 0) (hlt : z_bv < nc) (hmn : ¬ (nc < z_bv)) (hle : nc.toNatClampNeg ≤ 70) (hz : z_bv.toNatClampNeg = vs_bv.length) (hne : ¬ (nc = z_bv)) (hzl : z_sv.toNatClampNeg = vs_sv.length) (hps : ¬ c0 < 0) (hbo : c0.toNatClampNeg + vs_sv.length ≤ nc.toNatClampNeg) (hln : c0.toNatClampNeg + vs_sv.length ≤ (vs_bv ++ (List.replicate nc.toNatClampNeg (Value.int (0 : Int32))).drop vs_bv.length).length) :
    MetFree l (⟨"java/lang/StringBuilder", "append", "(Ljava/lang/String;)Ljava/lang/StringBuilder;"⟩ : MethodName) (head1 (Jvm.Cond.code (⟨"java/lang/StringBuilder", "append", "(Ljava/lang/String;)Ljava/lang/StringBuilder;"⟩ : MethodName) jdk_67_method_7_code 2 (some (.object "java/lang/StringBuilder")) :: ws) ({ frames := 5, cells := 1, slots := 70, locals := 94 } : Room)) (fun a U => a = #[(.ref a1), (.ref a2)] ∧ Z.Warmed39 U.vm ∧ U.heap = h0) (fun _ _ _ _ _ => True) (fun _ U o U' => ∃ v L, o = .returned v ∧ own_QG Z a1 (c0 + z_sv) nc (own_upd (vs_bv ++ (List.replicate nc.toNatClampNeg (Value.int (0 : Int32))).drop vs_bv.length) c0.toNatClampNeg vs_sv) h0 n0 v U'.heap L ∧ FrameEnd U o U' L ({ frames := 5, cells := 1, slots := 70, locals := 94 } : Room).cells ({ frames := 5, cells := 1, slots := 70, locals := 94 } : Room).slots) := by
  refine MetFree.of_bodySF (plainFor_of_name pn_10) hisR ?_
  intro p e s m args below meth c s₁ Bd hml0 hP hK
  obtain ⟨rfl, hZ, hh⟩ := hP
  have hx := Bd.exec
  have hby := Bd.bytes
  have hml : c.maxLocals = 2 := hml0
  have hown : s.vm.findClass "java/lang/StringBuilder" = some m.cls := findClass_of_methodNamed Bd.named
  have hnm := (name_of_methodNamed Bd.named Bd.method).1
  have X0 : Stand p l e ({ frames := 5, cells := 1, slots := 70, locals := 94 } : Room) s m #[(.ref a1), (.ref a2)] below meth c s₁ [] 0 0 := Stand.of_body Bd
  have e0 : s₁.heap = h0 := by rw [← hh, Bd.state]; rfl
  have N0 := Fr.nil n0
  have pre0 : ∀ t, Steps p.tables e below (s₁.setTop (mkF m 0 #[.val (.ref a1), .val (.ref a2)] [])) t → Steps p.tables e below (s₁.setTop (entryFrame m #[(.ref a1), (.ref a2)] 2)) t := fun t k => castTop (ef_10 m a1 a2) k
  obtain ⟨_, _, ⟨T3, L3, k3, n3⟩, -, X3, ⟨Lc3, hQ3, l3, y3, z3⟩, st3⟩ := superBack X0 hx hZ (y := (⟨"java/lang/AbstractStringBuilder", "append", "(Ljava/lang/String;)Ljava/lang/AbstractStringBuilder;"⟩ : MethodName)) hown (hw _ (wI 61 rfl)) (own_same (hw _ (wI 62 rfl)) (by decide) (own_notIf (y := (⟨"java/lang/AbstractStringBuilder", "ensureCapacityInternal", "(I)V"⟩ : MethodName)) (hw _ (wI 81 rfl)))) (hw _ (wI 62 rfl)) (hw _ (wI 63 rfl)) (by decide) (backOf (W := 0) (rm11g l Z a0 hw [] a1 a2 G1 bv sv c0 nc k_bv z_bv vs_bv dv_bv k_sv z_sv vs_sv dv_sv h0 n0 Z0 S_COMPACT_STRINGS X00 P3 E_a1 F_value_a1 F_coder_a1 F_count_a1 E_a2 F_value_a2 F_coder_a2 V_bv V_sv g_a1 hgr g1 g2 g3 g4 hnc hzn hnn hlt hmn hle hz hne hzl hps hbo hln) hZ (hw _ (wI 65 rfl)) (hw _ (wI 47 rfl)) (by decide) (by decide)) e0 (Ins.self E_a1) (g := (mkF m 2 #[.val (.ref a1), .val (.ref a2)] [(.ref a2), (.ref a1)])) rfl (by rw [hml]; rfl) (hw _ (wI 65 rfl)) (argsL := [(.ref a2)]) (rest := []) (lenOf pd_10_9 rfl) rfl (by show 2 * 0 + _ ≤ _; exact Nat.le_of_eq rfl) (hb hby d10_2) (fun _ _ => ⟨rfl, e0, (by decide : 0 + 1 ≤ _), (by decide : 0 + 70 ≤ _)⟩)
  dsimp only [Pt.U, Pt.locs, Pt.cells, Pt.slots] at X3 l3 y3 z3 st3 hQ3
  subst l3 y3 z3
  obtain ⟨rfl, N3q, KcX, RcX⟩ := hQ3
  have N3 := Fr.app N0 N3q
  have Kq3 : Keep h0 T3.heap [a1] := KcX
  have K3 : Keep h0 T3.heap [a1] := (Keep.refl h0 [a1]).trans Kq3 (own_trS (Or.inl (List.mem_of_getElem? (i := 0) rfl)) all0)
  obtain ⟨fs, hr, hrun, hended, hW, hsame⟩ := X3.leave (v := some (.ref a1)) (fun h => by rw [Bd.returns] at h; cases h)
  refine ⟨_, _, pre0 _ ?_, hrun, hended, _, _, rfl, ?_, ⟨_, rfl⟩, hW, hsame.mono (by decide) (by decide)⟩
  · show Steps p.tables e below (s₁.setTop (mkF m 0 #[.val (.ref a1), .val (.ref a2)] [])) _
    refine XS.aloadN X0.here hx rfl (hb hby d10_0) rfl rfl ?_
    show Steps p.tables e below (s₁.setTop (mkF m 1 #[.val (.ref a1), .val (.ref a2)] [(.ref a1)])) _
    refine XS.aloadN X0.here hx rfl (hb hby d10_1) rfl rfl ?_
    show Steps p.tables e below (s₁.setTop (mkF m 2 #[.val (.ref a1), .val (.ref a2)] [(.ref a2), (.ref a1)])) _
    refine st3.trans ?_
    show Steps p.tables e below (T3.setTop (mkF m 5 #[.val (.ref a1), .val (.ref a2)] [(.ref a1)])) _
    refine XS.pop X3.here hx rfl (hb hby d10_5) rfl rfl ?_
    show Steps p.tables e below (T3.setTop (mkF m 6 #[.val (.ref a1), .val (.ref a2)] [])) _
    refine XS.aloadN X3.here hx rfl (hb hby d10_6) rfl rfl ?_
    show Steps p.tables e below (T3.setTop (mkF m 7 #[.val (.ref a1), .val (.ref a2)] [(.ref a1)])) _
    jvm_step X3.here [X3.here.top, hx, (hb hby d10_7), X3.method', Bd.returns, Value.isRef, FieldType.isReference]
    first | (intro acts; rw [hr _ acts rfl rfl rfl]) | rw [hr _ _ rfl rfl rfl]
    exact Steps.refl _
  · show own_QG Z a1 (c0 + z_sv) nc (own_upd (vs_bv ++ (List.replicate nc.toNatClampNeg (Value.int (0 : Int32))).drop vs_bv.length) c0.toNatClampNeg vs_sv) h0 n0 _ T3.heap _
    exact ⟨rfl, N3, KcX, RcX⟩
theorem own_frB {n0 : Nat} {a : Addr} {L : List Loc} (h : ∀ x ∈ L, x.base = a) (g : n0 ≤ a) : Fr n0 L := fun y hy => by rw [h y hy]; exact g
theorem own_b0 {a : Addr} : ∀ x ∈ ([] : List Loc), x.base = a := fun _ q => nomatch q
theorem own_bS {a : Addr} {i : Nat} {L : List Loc} (h : ∀ x ∈ L, x.base = a) : ∀ x ∈ L ++ [(⟨a, i⟩ : Loc)], x.base = a := fun x q => by
  rcases List.mem_append.mp q with q | q
  · exact h x q
  · rw [List.mem_singleton.mp q]
theorem own_bA {a : Addr} {L L' : List Loc} (h : ∀ x ∈ L, x.base = a) (h' : ∀ x ∈ L', x.base = a) : ∀ x ∈ L ++ L', x.base = a := fun x q => by
  rcases List.mem_append.mp q with q | q
  · exact h x q
  · exact h' x q
open Jvm.Free.Exc Bundle in
theorem own_excw {a0 : Array Value} {Z : State} (hw : ∀ d ∈ tables_1, d.before a0 Z = true) : ∀ d ∈ excAtoms "com/example/shiken/shiken/ContextException", d ≠ own_lack → d.before a0 Z = true := fun d hd hn => hw d ((by decide +kernel : ∀ d ∈ excAtoms "com/example/shiken/shiken/ContextException", d ≠ own_lack → d ∈ tables_1) d hd hn)
def own_QX (Z : State) (a1 a2 : Addr) (h0 : Heap) (n0 : Nat) (v : Option Value) (h : Heap) (L : List Loc) : Prop := v = none ∧ Fr n0 L ∧ Keep h0 h [a1] ∧ Unt h a1 ∧ Fld Z h a1 "java/lang/Throwable" "detailMessage" "Ljava/lang/String;" (.ref a2) ∧ Fld Z h a1 "java/lang/Throwable" "cause" "Ljava/lang/Throwable;" (.ref a1)
theorem d37_0 : decode jdk_78_method_2_code 0 = .ok (.aload_n 0, 1) := by decide +kernel
theorem d37_1 : decode jdk_78_method_2_code 1 = .ok (.invokespecial 1, 3) := by decide +kernel
theorem d37_4 : decode jdk_78_method_2_code 4 = .ok (.aload_n 0, 1) := by decide +kernel
theorem d37_5 : decode jdk_78_method_2_code 5 = .ok (.aload_n 0, 1) := by decide +kernel
theorem d37_6 : decode jdk_78_method_2_code 6 = .ok (.putfield 7, 3) := by decide +kernel
theorem d37_9 : decode jdk_78_method_2_code 9 = .ok (.aload_n 0, 1) := by decide +kernel
theorem d37_10 : decode jdk_78_method_2_code 10 = .ok (.getstatic 13, 3) := by decide +kernel
theorem d37_13 : decode jdk_78_method_2_code 13 = .ok (.putfield 17, 3) := by decide +kernel
theorem d37_16 : decode jdk_78_method_2_code 16 = .ok (.aload_n 0, 1) := by decide +kernel
theorem d37_17 : decode jdk_78_method_2_code 17 = .ok (.getstatic 20, 3) := by decide +kernel
theorem d37_20 : decode jdk_78_method_2_code 20 = .ok (.putfield 24, 3) := by decide +kernel
theorem d37_23 : decode jdk_78_method_2_code 23 = .ok (.aload_n 0, 1) := by decide +kernel
theorem d37_24 : decode jdk_78_method_2_code 24 = .ok (.invokevirtual 27, 3) := by decide +kernel
theorem d37_27 : decode jdk_78_method_2_code 27 = .ok (.pop, 1) := by decide +kernel
theorem d37_28 : decode jdk_78_method_2_code 28 = .ok (.aload_n 0, 1) := by decide +kernel
theorem d37_29 : decode jdk_78_method_2_code 29 = .ok (.aload_n 1, 1) := by decide +kernel
theorem d37_30 : decode jdk_78_method_2_code 30 = .ok (.putfield 31, 3) := by decide +kernel
theorem d37_33 : decode jdk_78_method_2_code 33 = .ok (.return_, 1) := by decide +kernel
theorem pn_37 : plainName "java/lang/Throwable" = true := by first | (simp [plainName, overriddenIn]; done) | decide +kernel
theorem pd_37_27 : parseMethodDescriptor "()Ljava/lang/Throwable;" = some ⟨[], some (.object "java/lang/Throwable")⟩ := by decide +kernel
theorem ef_37 (m : MethodId) (x0 : Addr) (x1 : Addr) : entryFrame m #[(.ref x0), (.ref x1)] 2 = mkF m 0 #[.val (.ref x0), .val (.ref x1)] [] := by first | (simp [entryFrame, mkF, argsToLocals, Value.category]; done) | rfl
set_option maxRecDepth 65536 in
set_option maxHeartbeats 40000000 in
theorem rm37 (l : Launch) (Z : State) (a0 : Array Value) (hw : ∀ d ∈ tables_1, d.before a0 Z = true) (ws : List Jvm.Cond) (a1 : Addr) (a2 : Addr) (G2 : Addr) (G3 : Addr) (h0 : Heap) (n0 : Nat) (Z0 : n0 ≤ h0.size) (hl : l.stackTraces = true) (S_UNASSIGNED_STACK : Sta Z Z.heap "java/lang/Throwable" "UNASSIGNED_STACK" "[Ljava/lang/StackTraceElement;" (.ref G2)) (X00 : Old Z n0 h0) (S_SUPPRESSED_SENTINEL : Sta Z Z.heap "java/lang/Throwable" "SUPPRESSED_SENTINEL" "Ljava/util/List;" (.ref G3)) (E_a1 : Exa Z h0 a1 "com/example/shiken/shiken/ContextException") (F_cause_a1 : Fld Z h0 a1 "java/lang/Throwable" "cause" "Ljava/lang/Throwable;" .null) (F_stackTrace_a1 : Fld Z h0 a1 "java/lang/Throwable" "stackTrace" "[Ljava/lang/StackTraceElement;" .null) (F_suppressedExceptions_a1 : Fld Z h0 a1 "java/lang/Throwable" "suppressedExceptions" "Ljava/util/List;" .null) (F_detailMessage_a1 : Fld Z h0 a1 "java/lang/Throwable" "detailMessage" "Ljava/lang/String;" .null) (F_backtrace_a1 : Fld Z h0 a1 "java/lang/Throwable" "backtrace" "Ljava/lang/Object;" .null) (U_a1 : Unt h0 a1) (g_a1 : n0 ≤ a1) :
    MetFree l (⟨"java/lang/Throwable", "<init>", "(Ljava/lang/String;)V"⟩ : MethodName) (head1 (Jvm.Cond.code (⟨"java/lang/Throwable", "<init>", "(Ljava/lang/String;)V"⟩ : MethodName) jdk_78_method_2_code 2 none :: ws) ({ frames := 3, cells := 1, slots := 2752, locals := 42 } : Room)) (fun a U => a = #[(.ref a1), (.ref a2)] ∧ Z.Warmed39 U.vm ∧ U.heap = h0) (fun _ _ bl s _ => s.vm.MethodsKnown ∧ s.vm.FramesKnown bl) (fun _ U o U' => ∃ v L, o = .returned v ∧ own_QX Z a1 a2 h0 n0 v U'.heap L ∧ FrameEnd U o U' L ({ frames := 3, cells := 1, slots := 2752, locals := 42 } : Room).cells ({ frames := 3, cells := 1, slots := 2752, locals := 42 } : Room).slots) := by
  refine MetFree.of_bodySF (plainFor_of_name pn_37) hisR ?_
  intro p e s m args below meth c s₁ Bd hml0 hP hK
  obtain ⟨rfl, hZ, hh⟩ := hP
  have hx := Bd.exec
  have hby := Bd.bytes
  have hml : c.maxLocals = 2 := hml0
  have hown : s.vm.findClass "java/lang/Throwable" = some m.cls := findClass_of_methodNamed Bd.named
  have hnm := (name_of_methodNamed Bd.named Bd.method).1
  have X0 : Stand p l e ({ frames := 3, cells := 1, slots := 2752, locals := 42 } : Room) s m #[(.ref a1), (.ref a2)] below meth c s₁ [] 0 0 := Stand.of_body Bd
  have e0 : s₁.heap = h0 := by rw [← hh, Bd.state]; rfl
  have N0 := Fr.nil n0
  have pre0 : ∀ t, Steps p.tables e below (s₁.setTop (mkF m 0 #[.val (.ref a1), .val (.ref a2)] [])) t → Steps p.tables e below (s₁.setTop (entryFrame m #[(.ref a1), (.ref a2)] 2)) t := fun t k => castTop (ef_37 m a1 a2) k
  obtain ⟨T3, X3, e3, st3⟩ := initO X0 hx hZ hown (hw _ (wI 192 rfl)) (hw _ (wI 12 rfl)) (hw _ (wI 13 rfl)) e0 (g := (mkF m 1 #[.val (.ref a1), .val (.ref a2)] [(.ref a1)])) rfl (by rw [hml]; rfl) rfl (hb hby d37_1) (by decide) (W := 0) (by show 2 * 0 + _ ≤ _; exact Nat.le_of_eq rfl) (by decide)
  obtain ⟨T4, h4, X4, e4, W4, st4⟩ := putF X3 hx hZ hown (host := "") (Or.inl (hw _ (wI 193 rfl))) Via.refl e3 F_cause_a1 E_a1 (Or.inl (hw _ (wI 194 rfl))) (hw _ (wI 169 rfl)) (ty := (.object "java/lang/Throwable")) (by decide) rfl rfl (g := (mkF m 6 #[.val (.ref a1), .val (.ref a2)] [(.ref a1), (.ref a1)])) rfl rfl (hb hby d37_6)
  have Fw4 := F_cause_a1.same W4
  have K4 : Keep h0 h4 [a1] := (Keep.refl h0 [a1]).wr W4 (Or.inl (List.mem_of_getElem? (i := 0) rfl))
  have N4 := Fr.snoc X4 N0 g_a1
  obtain ⟨T5, X5, e5, st5⟩ := getS2 X4 hx hZ hown (host := "") (Or.inl (hw _ (wI 195 rfl))) Via.refl e4 (S_UNASSIGNED_STACK.ext (X00.keep K4 (allS g_a1 all0)).2) (g := (mkF m 10 #[.val (.ref a1), .val (.ref a2)] [(.ref a1)])) rfl (hb hby d37_10)
  obtain ⟨T6, h6, X6, e6, W6, st6⟩ := putF X5 hx hZ hown (host := "") (Or.inl (hw _ (wI 196 rfl))) Via.refl e5 (F_stackTrace_a1.other W4 (Or.inr (slot_ne (Or.inl (hw _ (wI 197 rfl))) (Or.inl (hw _ (wI 194 rfl))) (by decide) (t := (.array (.object "java/lang/StackTraceElement"))) (t' := (.object "java/lang/Throwable")) (by decide) (by decide)))) (E_a1.wr W4) (Or.inl (hw _ (wI 197 rfl))) (hw _ (wI 169 rfl)) (ty := (.array (.object "java/lang/StackTraceElement"))) (by decide) rfl rfl (g := (mkF m 13 #[.val (.ref a1), .val (.ref a2)] [(.ref G2), (.ref a1)])) rfl rfl (hb hby d37_13)
  have Fw6 := (F_stackTrace_a1.other W4 (Or.inr (slot_ne (Or.inl (hw _ (wI 197 rfl))) (Or.inl (hw _ (wI 194 rfl))) (by decide) (t := (.array (.object "java/lang/StackTraceElement"))) (t' := (.object "java/lang/Throwable")) (by decide) (by decide)))).same W6
  have K6 : Keep h0 h6 [a1] := K4.wr W6 (Or.inl (List.mem_of_getElem? (i := 0) rfl))
  have N6 := Fr.snoc X6 N4 g_a1
  obtain ⟨T7, X7, e7, st7⟩ := getS2 X6 hx hZ hown (host := "") (Or.inl (hw _ (wI 198 rfl))) Via.refl e6 (S_SUPPRESSED_SENTINEL.ext (X00.keep K6 (allS g_a1 all0)).2) (g := (mkF m 17 #[.val (.ref a1), .val (.ref a2)] [(.ref a1)])) rfl (hb hby d37_17)
  obtain ⟨T8, h8, X8, e8, W8, st8⟩ := putF X7 hx hZ hown (host := "") (Or.inl (hw _ (wI 199 rfl))) Via.refl e7 ((F_suppressedExceptions_a1.other W4 (Or.inr (slot_ne (Or.inl (hw _ (wI 200 rfl))) (Or.inl (hw _ (wI 194 rfl))) (by decide) (t := (.object "java/util/List")) (t' := (.object "java/lang/Throwable")) (by decide) (by decide)))).other W6 (Or.inr (slot_ne (Or.inl (hw _ (wI 200 rfl))) (Or.inl (hw _ (wI 197 rfl))) (by decide) (t := (.object "java/util/List")) (t' := (.array (.object "java/lang/StackTraceElement"))) (by decide) (by decide)))) ((E_a1.wr W4).wr W6) (Or.inl (hw _ (wI 200 rfl))) (hw _ (wI 169 rfl)) (ty := (.object "java/util/List")) (by decide) rfl rfl (g := (mkF m 20 #[.val (.ref a1), .val (.ref a2)] [(.ref G3), (.ref a1)])) rfl rfl (hb hby d37_20)
  have Fw8 := ((F_suppressedExceptions_a1.other W4 (Or.inr (slot_ne (Or.inl (hw _ (wI 200 rfl))) (Or.inl (hw _ (wI 194 rfl))) (by decide) (t := (.object "java/util/List")) (t' := (.object "java/lang/Throwable")) (by decide) (by decide)))).other W6 (Or.inr (slot_ne (Or.inl (hw _ (wI 200 rfl))) (Or.inl (hw _ (wI 197 rfl))) (by decide) (t := (.object "java/util/List")) (t' := (.array (.object "java/lang/StackTraceElement"))) (by decide) (by decide)))).same W8
  have K8 : Keep h0 h8 [a1] := K6.wr W8 (Or.inl (List.mem_of_getElem? (i := 0) rfl))
  have N8 := Fr.snoc X8 N6 g_a1
  have Fc0 := ((Fw4.other W6 (Or.inr (slot_ne (Or.inl (hw _ (wI 194 rfl))) (Or.inl (hw _ (wI 197 rfl))) (by decide) (t := (.object "java/lang/Throwable")) (t' := (.array (.object "java/lang/StackTraceElement"))) (by decide) (by decide)))).other W8 (Or.inr (slot_ne (Or.inl (hw _ (wI 194 rfl))) (Or.inl (hw _ (wI 200 rfl))) (by decide) (t := (.object "java/lang/Throwable")) (t' := (.object "java/util/List")) (by decide) (by decide))))
  have Fm0 := (((F_detailMessage_a1.other W4 (Or.inr (slot_ne (Or.inl (hw _ (wI 224 rfl))) (Or.inl (hw _ (wI 194 rfl))) (by decide) (t := (.object "java/lang/String")) (t' := (.object "java/lang/Throwable")) (by decide) (by decide)))).other W6 (Or.inr (slot_ne (Or.inl (hw _ (wI 224 rfl))) (Or.inl (hw _ (wI 197 rfl))) (by decide) (t := (.object "java/lang/String")) (t' := (.array (.object "java/lang/StackTraceElement"))) (by decide) (by decide)))).other W8 (Or.inr (slot_ne (Or.inl (hw _ (wI 224 rfl))) (Or.inl (hw _ (wI 200 rfl))) (by decide) (t := (.object "java/lang/String")) (t' := (.object "java/util/List")) (by decide) (by decide))))
  have Fk0 := (Fw6.other W8 (Or.inr (slot_ne (Or.inl (hw _ (wI 197 rfl))) (Or.inl (hw _ (wI 200 rfl))) (by decide) (t := (.array (.object "java/lang/StackTraceElement"))) (t' := (.object "java/util/List")) (by decide) (by decide))))
  have Fb0 := (((F_backtrace_a1.other W4 (Or.inr (slot_ne (Or.inl (hw _ (wI 225 rfl))) (Or.inl (hw _ (wI 194 rfl))) (by decide) (t := (.object "java/lang/Object")) (t' := (.object "java/lang/Throwable")) (by decide) (by decide)))).other W6 (Or.inr (slot_ne (Or.inl (hw _ (wI 225 rfl))) (Or.inl (hw _ (wI 197 rfl))) (by decide) (t := (.object "java/lang/Object")) (t' := (.array (.object "java/lang/StackTraceElement"))) (by decide) (by decide)))).other W8 (Or.inr (slot_ne (Or.inl (hw _ (wI 225 rfl))) (Or.inl (hw _ (wI 200 rfl))) (by decide) (t := (.object "java/lang/Object")) (t' := (.object "java/util/List")) (by decide) (by decide))))
  have E0 := (((E_a1.wr W4).wr W6).wr W8)
  have Su0 := S_UNASSIGNED_STACK.ext ((X00.keep K8 (allS g_a1 all0))).2
  obtain ⟨T9, L9, X9, hL9, hF9, st9⟩ := own_fill X8 hx hl hZ hown (rc := "com/example/shiken/shiken/ContextException") (by decide) (own_excw hw) (hw _ (wI 169 rfl)) (by rw [hh]; exact ThS.ext X00.2 ThS.start) hK.1 hK.2 e8 E0 (((U_a1.wr W4).wr W6).wr W8) Fb0 Fk0 Su0 (g := (mkF m 24 #[.val (.ref a1), .val (.ref a2)] [(.ref a1)])) rfl (by rw [hml]; rfl) (rest := []) rfl (hb hby d37_24) (by decide) (by show 2 * 0 + 0 + 42 ≤ 42; exact Nat.le_refl _) (by decide) (by decide)
  have N9 := Fr.app N8 (own_frB hL9 g_a1)
  have K9 : Keep h0 T9.heap [a1] := by
    have q := own_keepS X9 (own_bA (own_bS (own_bS (own_bS own_b0))) hL9)
    rw [hh] at q
    exact q
  have U9 : Unt T9.heap a1 := own_untS X9 (by rw [hh]; exact U_a1)
  have E1 := hF9.exa E0
  have Fc1 := hF9.fld Fc0 (slot_ne (Or.inl (hw _ (wI 225 rfl))) (Or.inl (hw _ (wI 194 rfl))) (by decide) (t := (.object "java/lang/Object")) (t' := (.object "java/lang/Throwable")) (by decide) (by decide)) (slot_ne (Or.inl (hw _ (wI 226 rfl))) (Or.inl (hw _ (wI 194 rfl))) (by decide) (t := .int) (t' := (.object "java/lang/Throwable")) (by decide) (by decide)) (slot_ne (Or.inl (hw _ (wI 197 rfl))) (Or.inl (hw _ (wI 194 rfl))) (by decide) (t := (.array (.object "java/lang/StackTraceElement"))) (t' := (.object "java/lang/Throwable")) (by decide) (by decide))
  have Fm1 := hF9.fld Fm0 (slot_ne (Or.inl (hw _ (wI 225 rfl))) (Or.inl (hw _ (wI 224 rfl))) (by decide) (t := (.object "java/lang/Object")) (t' := (.object "java/lang/String")) (by decide) (by decide)) (slot_ne (Or.inl (hw _ (wI 226 rfl))) (Or.inl (hw _ (wI 224 rfl))) (by decide) (t := .int) (t' := (.object "java/lang/String")) (by decide) (by decide)) (slot_ne (Or.inl (hw _ (wI 197 rfl))) (Or.inl (hw _ (wI 224 rfl))) (by decide) (t := (.array (.object "java/lang/StackTraceElement"))) (t' := (.object "java/lang/String")) (by decide) (by decide))
  obtain ⟨T10, h10, X10, e10, W10, st10⟩ := putF X9 hx hZ hown (host := "") (Or.inl (hw _ (wI 228 rfl))) Via.refl rfl Fm1 E1 (Or.inl (hw _ (wI 224 rfl))) (hw _ (wI 169 rfl)) (ty := (.object "java/lang/String")) (by decide) rfl rfl (g := (mkF m 30 #[.val (.ref a1), .val (.ref a2)] [(.ref a2), (.ref a1)])) rfl rfl (hb hby d37_30)
  have Fw10 := Fm1.same W10
  have K10 : Keep h0 h10 [a1] := K9.wr W10 (Or.inl (List.mem_of_getElem? (i := 0) rfl))
  have N10 := Fr.snoc X10 N9 g_a1
  have End_0 := Fw10
  have End_1 := (Fc1.other W10 (Or.inr (slot_ne (Or.inl (hw _ (wI 194 rfl))) (Or.inl (hw _ (wI 224 rfl))) (by decide) (t := (.object "java/lang/Throwable")) (t' := (.object "java/lang/String")) (by decide) (by decide))))
  obtain ⟨fs, hr, hrun, hended, hW, hsame⟩ := X10.leave (v := none) (fun _ => rfl)
  refine ⟨_, _, pre0 _ ?_, hrun, hended, _, _, rfl, ?_, ⟨_, rfl⟩, hW, hsame.mono (by decide) (by decide)⟩
  · show Steps p.tables e below (s₁.setTop (mkF m 0 #[.val (.ref a1), .val (.ref a2)] [])) _
    refine XS.aloadN X0.here hx rfl (hb hby d37_0) rfl rfl ?_
    show Steps p.tables e below (s₁.setTop (mkF m 1 #[.val (.ref a1), .val (.ref a2)] [(.ref a1)])) _
    refine st3 _ ?_
    show Steps p.tables e below (T3.setTop (mkF m 4 #[.val (.ref a1), .val (.ref a2)] [])) _
    refine XS.aloadN X3.here hx rfl (hb hby d37_4) rfl rfl ?_
    show Steps p.tables e below (T3.setTop (mkF m 5 #[.val (.ref a1), .val (.ref a2)] [(.ref a1)])) _
    refine XS.aloadN X3.here hx rfl (hb hby d37_5) rfl rfl ?_
    show Steps p.tables e below (T3.setTop (mkF m 6 #[.val (.ref a1), .val (.ref a2)] [(.ref a1), (.ref a1)])) _
    refine st4 _ ?_
    show Steps p.tables e below (T4.setTop (mkF m 9 #[.val (.ref a1), .val (.ref a2)] [])) _
    refine XS.aloadN X4.here hx rfl (hb hby d37_9) rfl rfl ?_
    show Steps p.tables e below (T4.setTop (mkF m 10 #[.val (.ref a1), .val (.ref a2)] [(.ref a1)])) _
    refine st5 _ ?_
    show Steps p.tables e below (T5.setTop (mkF m 13 #[.val (.ref a1), .val (.ref a2)] [(.ref G2), (.ref a1)])) _
    refine st6 _ ?_
    show Steps p.tables e below (T6.setTop (mkF m 16 #[.val (.ref a1), .val (.ref a2)] [])) _
    refine XS.aloadN X6.here hx rfl (hb hby d37_16) rfl rfl ?_
    show Steps p.tables e below (T6.setTop (mkF m 17 #[.val (.ref a1), .val (.ref a2)] [(.ref a1)])) _
    refine st7 _ ?_
    show Steps p.tables e below (T7.setTop (mkF m 20 #[.val (.ref a1), .val (.ref a2)] [(.ref G3), (.ref a1)])) _
    refine st8 _ ?_
    show Steps p.tables e below (T8.setTop (mkF m 23 #[.val (.ref a1), .val (.ref a2)] [])) _
    refine XS.aloadN X8.here hx rfl (hb hby d37_23) rfl rfl ?_
    show Steps p.tables e below (T8.setTop (mkF m 24 #[.val (.ref a1), .val (.ref a2)] [(.ref a1)])) _
    refine st9.trans ?_
    show Steps p.tables e below (T9.setTop (mkF m 27 #[.val (.ref a1), .val (.ref a2)] [(.ref a1)])) _
    refine XS.pop X9.here hx rfl (hb hby d37_27) rfl rfl ?_
    show Steps p.tables e below (T9.setTop (mkF m 28 #[.val (.ref a1), .val (.ref a2)] [])) _
    refine XS.aloadN X9.here hx rfl (hb hby d37_28) rfl rfl ?_
    show Steps p.tables e below (T9.setTop (mkF m 29 #[.val (.ref a1), .val (.ref a2)] [(.ref a1)])) _
    refine XS.aloadN X9.here hx rfl (hb hby d37_29) rfl rfl ?_
    show Steps p.tables e below (T9.setTop (mkF m 30 #[.val (.ref a1), .val (.ref a2)] [(.ref a2), (.ref a1)])) _
    refine st10 _ ?_
    show Steps p.tables e below (T10.setTop (mkF m 33 #[.val (.ref a1), .val (.ref a2)] [])) _
    exact X10.returnOut hx Bd.returns (hb hby d37_33) hr
  · show own_QX Z a1 a2 h0 n0 _ T10.heap _
    rw [e10]
    exact ⟨rfl, N10, K10, (U9.wr W10), End_0, End_1⟩
theorem d36_0 : decode jdk_59_method_2_code 0 = .ok (.aload_n 0, 1) := by decide +kernel
theorem d36_1 : decode jdk_59_method_2_code 1 = .ok (.aload_n 1, 1) := by decide +kernel
theorem d36_2 : decode jdk_59_method_2_code 2 = .ok (.invokespecial 7, 3) := by decide +kernel
theorem d36_5 : decode jdk_59_method_2_code 5 = .ok (.return_, 1) := by decide +kernel
theorem pn_36 : plainName "java/lang/Exception" = true := by first | (simp [plainName, overriddenIn]; done) | decide +kernel
theorem pd_36_18 : parseMethodDescriptor "(Ljava/lang/String;)V" = some ⟨[(.object "java/lang/String")], none⟩ := by decide +kernel
theorem ef_36 (m : MethodId) (x0 : Addr) (x1 : Addr) : entryFrame m #[(.ref x0), (.ref x1)] 2 = mkF m 0 #[.val (.ref x0), .val (.ref x1)] [] := by first | (simp [entryFrame, mkF, argsToLocals, Value.category]; done) | rfl
set_option maxRecDepth 65536 in
set_option maxHeartbeats 40000000 in
theorem rm36 (l : Launch) (Z : State) (a0 : Array Value) (hw : ∀ d ∈ tables_1, d.before a0 Z = true) (ws : List Jvm.Cond) (a1 : Addr) (a2 : Addr) (G2 : Addr) (G3 : Addr) (h0 : Heap) (n0 : Nat) (Z0 : n0 ≤ h0.size) (hl : l.stackTraces = true) (S_UNASSIGNED_STACK : Sta Z Z.heap "java/lang/Throwable" "UNASSIGNED_STACK" "[Ljava/lang/StackTraceElement;" (.ref G2)) (X00 : Old Z n0 h0) (S_SUPPRESSED_SENTINEL : Sta Z Z.heap "java/lang/Throwable" "SUPPRESSED_SENTINEL" "Ljava/util/List;" (.ref G3)) (E_a1 : Exa Z h0 a1 "com/example/shiken/shiken/ContextException") (F_cause_a1 : Fld Z h0 a1 "java/lang/Throwable" "cause" "Ljava/lang/Throwable;" .null) (F_stackTrace_a1 : Fld Z h0 a1 "java/lang/Throwable" "stackTrace" "[Ljava/lang/StackTraceElement;" .null) (F_suppressedExceptions_a1 : Fld Z h0 a1 "java/lang/Throwable" "suppressedExceptions" "Ljava/util/List;" .null) (F_detailMessage_a1 : Fld Z h0 a1 "java/lang/Throwable" "detailMessage" "Ljava/lang/String;" .null) (F_backtrace_a1 : Fld Z h0 a1 "java/lang/Throwable" "backtrace" "Ljava/lang/Object;" .null) (U_a1 : Unt h0 a1) (g_a1 : n0 ≤ a1) :
    MetFree l (⟨"java/lang/Exception", "<init>", "(Ljava/lang/String;)V"⟩ : MethodName) (head1 (Jvm.Cond.code (⟨"java/lang/Exception", "<init>", "(Ljava/lang/String;)V"⟩ : MethodName) jdk_59_method_2_code 2 none :: ws) ({ frames := 4, cells := 1, slots := 2752, locals := 55 } : Room)) (fun a U => a = #[(.ref a1), (.ref a2)] ∧ Z.Warmed39 U.vm ∧ U.heap = h0) (fun _ _ bl s _ => s.vm.MethodsKnown ∧ s.vm.FramesKnown bl) (fun _ U o U' => ∃ v L, o = .returned v ∧ own_QX Z a1 a2 h0 n0 v U'.heap L ∧ FrameEnd U o U' L ({ frames := 4, cells := 1, slots := 2752, locals := 55 } : Room).cells ({ frames := 4, cells := 1, slots := 2752, locals := 55 } : Room).slots) := by
  refine MetFree.of_bodySF (plainFor_of_name pn_36) hisR ?_
  intro p e s m args below meth c s₁ Bd hml0 hP hK
  obtain ⟨rfl, hZ, hh⟩ := hP
  have hx := Bd.exec
  have hby := Bd.bytes
  have hml : c.maxLocals = 2 := hml0
  have hown : s.vm.findClass "java/lang/Exception" = some m.cls := findClass_of_methodNamed Bd.named
  have hnm := (name_of_methodNamed Bd.named Bd.method).1
  have X0 : Stand p l e ({ frames := 4, cells := 1, slots := 2752, locals := 55 } : Room) s m #[(.ref a1), (.ref a2)] below meth c s₁ [] 0 0 := Stand.of_body Bd
  have e0 : s₁.heap = h0 := by rw [← hh, Bd.state]; rfl
  have N0 := Fr.nil n0
  have pre0 : ∀ t, Steps p.tables e below (s₁.setTop (mkF m 0 #[.val (.ref a1), .val (.ref a2)] [])) t → Steps p.tables e below (s₁.setTop (entryFrame m #[(.ref a1), (.ref a2)] 2)) t := fun t k => castTop (ef_36 m a1 a2) k
  obtain ⟨_, _, ⟨T3, L3, k3, n3⟩, -, X3, ⟨Lc3, hQ3, l3, y3, z3⟩, st3⟩ := X0.specialBack hx (y := (⟨"java/lang/Throwable", "<init>", "(Ljava/lang/String;)V"⟩ : MethodName)) rfl hown (mvT hZ (hw _ (wI 186 rfl))) (mvT hZ (hw _ (wI 187 rfl))) (mvT hZ (hw _ (wI 191 rfl))) (by decide) (backOfKL (W := 0) (rm37 l Z a0 hw [] a1 a2 G2 G3 h0 n0 Z0 hl S_UNASSIGNED_STACK X00 S_SUPPRESSED_SENTINEL E_a1 F_cause_a1 F_stackTrace_a1 F_suppressedExceptions_a1 F_detailMessage_a1 F_backtrace_a1 U_a1 g_a1) hZ (hw _ (wI 191 rfl)) (hw _ (wI 190 rfl)) (by decide) (by decide) hK.1 hK.2) (g := (mkF m 2 #[.val (.ref a1), .val (.ref a2)] [(.ref a2), (.ref a1)])) rfl (by rw [hml]; rfl) (Steps.refl _) (a := a1) (argsL := [(.ref a2)]) (rest := []) (lenOf pd_36_18 rfl) rfl (by show 2 * 0 + _ ≤ _; exact Nat.le_of_eq rfl) (hb hby d36_2) (fun _ _ => ⟨rfl, e0, (by decide : 0 + 1 ≤ _), (by decide : 0 + 2752 ≤ _)⟩)
  dsimp only [Pt.U, Pt.locs, Pt.cells, Pt.slots] at X3 l3 y3 z3 st3 hQ3
  subst l3 y3 z3
  obtain ⟨rfl, N3q, Kc3, Uc3, Fm3, Fc3⟩ := hQ3
  have N3 := Fr.app N0 N3q
  have Kq3 : Keep h0 T3.heap [a1] := Kc3
  have K3 : Keep h0 T3.heap [a1] := (Keep.refl h0 [a1]).trans Kq3 (own_trS (Or.inl (List.mem_of_getElem? (i := 0) rfl)) all0)
  obtain ⟨fs, hr, hrun, hended, hW, hsame⟩ := X3.leave (v := none) (fun _ => rfl)
  refine ⟨_, _, pre0 _ ?_, hrun, hended, _, _, rfl, ?_, ⟨_, rfl⟩, hW, hsame.mono (by decide) (by decide)⟩
  · show Steps p.tables e below (s₁.setTop (mkF m 0 #[.val (.ref a1), .val (.ref a2)] [])) _
    refine XS.aloadN X0.here hx rfl (hb hby d36_0) rfl rfl ?_
    show Steps p.tables e below (s₁.setTop (mkF m 1 #[.val (.ref a1), .val (.ref a2)] [(.ref a1)])) _
    refine XS.aloadN X0.here hx rfl (hb hby d36_1) rfl rfl ?_
    show Steps p.tables e below (s₁.setTop (mkF m 2 #[.val (.ref a1), .val (.ref a2)] [(.ref a2), (.ref a1)])) _
    refine st3.trans ?_
    show Steps p.tables e below (T3.setTop (mkF m 5 #[.val (.ref a1), .val (.ref a2)] [])) _
    exact X3.returnOut hx Bd.returns (hb hby d36_5) hr
  · show own_QX Z a1 a2 h0 n0 _ T3.heap _
    exact ⟨rfl, N3, Kc3, Uc3, Fm3, Fc3⟩
theorem d35_0 : decode jdk_58_method_2_code 0 = .ok (.aload_n 0, 1) := by decide +kernel
theorem d35_1 : decode jdk_58_method_2_code 1 = .ok (.aload_n 1, 1) := by decide +kernel
theorem d35_2 : decode jdk_58_method_2_code 2 = .ok (.invokespecial 7, 3) := by decide +kernel
theorem d35_5 : decode jdk_58_method_2_code 5 = .ok (.return_, 1) := by decide +kernel
theorem pn_35 : plainName "java/lang/RuntimeException" = true := by first | (simp [plainName, overriddenIn]; done) | decide +kernel
theorem pd_35_18 : parseMethodDescriptor "(Ljava/lang/String;)V" = some ⟨[(.object "java/lang/String")], none⟩ := by decide +kernel
theorem ef_35 (m : MethodId) (x0 : Addr) (x1 : Addr) : entryFrame m #[(.ref x0), (.ref x1)] 2 = mkF m 0 #[.val (.ref x0), .val (.ref x1)] [] := by first | (simp [entryFrame, mkF, argsToLocals, Value.category]; done) | rfl
set_option maxRecDepth 65536 in
set_option maxHeartbeats 40000000 in
theorem rm35 (l : Launch) (Z : State) (a0 : Array Value) (hw : ∀ d ∈ tables_1, d.before a0 Z = true) (ws : List Jvm.Cond) (a1 : Addr) (a2 : Addr) (G2 : Addr) (G3 : Addr) (h0 : Heap) (n0 : Nat) (Z0 : n0 ≤ h0.size) (hl : l.stackTraces = true) (S_UNASSIGNED_STACK : Sta Z Z.heap "java/lang/Throwable" "UNASSIGNED_STACK" "[Ljava/lang/StackTraceElement;" (.ref G2)) (X00 : Old Z n0 h0) (S_SUPPRESSED_SENTINEL : Sta Z Z.heap "java/lang/Throwable" "SUPPRESSED_SENTINEL" "Ljava/util/List;" (.ref G3)) (E_a1 : Exa Z h0 a1 "com/example/shiken/shiken/ContextException") (F_cause_a1 : Fld Z h0 a1 "java/lang/Throwable" "cause" "Ljava/lang/Throwable;" .null) (F_stackTrace_a1 : Fld Z h0 a1 "java/lang/Throwable" "stackTrace" "[Ljava/lang/StackTraceElement;" .null) (F_suppressedExceptions_a1 : Fld Z h0 a1 "java/lang/Throwable" "suppressedExceptions" "Ljava/util/List;" .null) (F_detailMessage_a1 : Fld Z h0 a1 "java/lang/Throwable" "detailMessage" "Ljava/lang/String;" .null) (F_backtrace_a1 : Fld Z h0 a1 "java/lang/Throwable" "backtrace" "Ljava/lang/Object;" .null) (U_a1 : Unt h0 a1) (g_a1 : n0 ≤ a1) :
    MetFree l (⟨"java/lang/RuntimeException", "<init>", "(Ljava/lang/String;)V"⟩ : MethodName) (head1 (Jvm.Cond.code (⟨"java/lang/RuntimeException", "<init>", "(Ljava/lang/String;)V"⟩ : MethodName) jdk_58_method_2_code 2 none :: ws) ({ frames := 5, cells := 1, slots := 2752, locals := 68 } : Room)) (fun a U => a = #[(.ref a1), (.ref a2)] ∧ Z.Warmed39 U.vm ∧ U.heap = h0) (fun _ _ bl s _ => s.vm.MethodsKnown ∧ s.vm.FramesKnown bl) (fun _ U o U' => ∃ v L, o = .returned v ∧ own_QX Z a1 a2 h0 n0 v U'.heap L ∧ FrameEnd U o U' L ({ frames := 5, cells := 1, slots := 2752, locals := 68 } : Room).cells ({ frames := 5, cells := 1, slots := 2752, locals := 68 } : Room).slots) := by
  refine MetFree.of_bodySF (plainFor_of_name pn_35) hisR ?_
  intro p e s m args below meth c s₁ Bd hml0 hP hK
  obtain ⟨rfl, hZ, hh⟩ := hP
  have hx := Bd.exec
  have hby := Bd.bytes
  have hml : c.maxLocals = 2 := hml0
  have hown : s.vm.findClass "java/lang/RuntimeException" = some m.cls := findClass_of_methodNamed Bd.named
  have hnm := (name_of_methodNamed Bd.named Bd.method).1
  have X0 : Stand p l e ({ frames := 5, cells := 1, slots := 2752, locals := 68 } : Room) s m #[(.ref a1), (.ref a2)] below meth c s₁ [] 0 0 := Stand.of_body Bd
  have e0 : s₁.heap = h0 := by rw [← hh, Bd.state]; rfl
  have N0 := Fr.nil n0
  have pre0 : ∀ t, Steps p.tables e below (s₁.setTop (mkF m 0 #[.val (.ref a1), .val (.ref a2)] [])) t → Steps p.tables e below (s₁.setTop (entryFrame m #[(.ref a1), (.ref a2)] 2)) t := fun t k => castTop (ef_35 m a1 a2) k
  obtain ⟨_, _, ⟨T3, L3, k3, n3⟩, -, X3, ⟨Lc3, hQ3, l3, y3, z3⟩, st3⟩ := X0.specialBack hx (y := (⟨"java/lang/Exception", "<init>", "(Ljava/lang/String;)V"⟩ : MethodName)) rfl hown (mvT hZ (hw _ (wI 180 rfl))) (mvT hZ (hw _ (wI 181 rfl))) (mvT hZ (hw _ (wI 185 rfl))) (by decide) (backOfKL (W := 0) (rm36 l Z a0 hw [] a1 a2 G2 G3 h0 n0 Z0 hl S_UNASSIGNED_STACK X00 S_SUPPRESSED_SENTINEL E_a1 F_cause_a1 F_stackTrace_a1 F_suppressedExceptions_a1 F_detailMessage_a1 F_backtrace_a1 U_a1 g_a1) hZ (hw _ (wI 185 rfl)) (hw _ (wI 184 rfl)) (by decide) (by decide) hK.1 hK.2) (g := (mkF m 2 #[.val (.ref a1), .val (.ref a2)] [(.ref a2), (.ref a1)])) rfl (by rw [hml]; rfl) (Steps.refl _) (a := a1) (argsL := [(.ref a2)]) (rest := []) (lenOf pd_35_18 rfl) rfl (by show 2 * 0 + _ ≤ _; exact Nat.le_of_eq rfl) (hb hby d35_2) (fun _ _ => ⟨rfl, e0, (by decide : 0 + 1 ≤ _), (by decide : 0 + 2752 ≤ _)⟩)
  dsimp only [Pt.U, Pt.locs, Pt.cells, Pt.slots] at X3 l3 y3 z3 st3 hQ3
  subst l3 y3 z3
  obtain ⟨rfl, N3q, Kc3, Uc3, Fm3, Fc3⟩ := hQ3
  have N3 := Fr.app N0 N3q
  have Kq3 : Keep h0 T3.heap [a1] := Kc3
  have K3 : Keep h0 T3.heap [a1] := (Keep.refl h0 [a1]).trans Kq3 (own_trS (Or.inl (List.mem_of_getElem? (i := 0) rfl)) all0)
  obtain ⟨fs, hr, hrun, hended, hW, hsame⟩ := X3.leave (v := none) (fun _ => rfl)
  refine ⟨_, _, pre0 _ ?_, hrun, hended, _, _, rfl, ?_, ⟨_, rfl⟩, hW, hsame.mono (by decide) (by decide)⟩
  · show Steps p.tables e below (s₁.setTop (mkF m 0 #[.val (.ref a1), .val (.ref a2)] [])) _
    refine XS.aloadN X0.here hx rfl (hb hby d35_0) rfl rfl ?_
    show Steps p.tables e below (s₁.setTop (mkF m 1 #[.val (.ref a1), .val (.ref a2)] [(.ref a1)])) _
    refine XS.aloadN X0.here hx rfl (hb hby d35_1) rfl rfl ?_
    show Steps p.tables e below (s₁.setTop (mkF m 2 #[.val (.ref a1), .val (.ref a2)] [(.ref a2), (.ref a1)])) _
    refine st3.trans ?_
    show Steps p.tables e below (T3.setTop (mkF m 5 #[.val (.ref a1), .val (.ref a2)] [])) _
    exact X3.returnOut hx Bd.returns (hb hby d35_5) hr
  · show own_QX Z a1 a2 h0 n0 _ T3.heap _
    exact ⟨rfl, N3, Kc3, Uc3, Fm3, Fc3⟩
theorem d34_0 : decode prog_12_method_1_code 0 = .ok (.aload_n 0, 1) := by decide +kernel
theorem d34_1 : decode prog_12_method_1_code 1 = .ok (.aload_n 1, 1) := by decide +kernel
theorem d34_2 : decode prog_12_method_1_code 2 = .ok (.invokespecial 1, 3) := by decide +kernel
theorem d34_5 : decode prog_12_method_1_code 5 = .ok (.return_, 1) := by decide +kernel
theorem pn_34 : plainName "com/example/shiken/shiken/ContextException" = true := by first | (simp [plainName, overriddenIn]; done) | decide +kernel
theorem pd_34_18 : parseMethodDescriptor "(Ljava/lang/String;)V" = some ⟨[(.object "java/lang/String")], none⟩ := by decide +kernel
theorem ef_34 (m : MethodId) (x0 : Addr) (x1 : Addr) : entryFrame m #[(.ref x0), (.ref x1)] 2 = mkF m 0 #[.val (.ref x0), .val (.ref x1)] [] := by first | (simp [entryFrame, mkF, argsToLocals, Value.category]; done) | rfl
set_option maxRecDepth 65536 in
set_option maxHeartbeats 40000000 in
theorem rm34 (l : Launch) (Z : State) (a0 : Array Value) (hw : ∀ d ∈ tables_1, d.before a0 Z = true) (ws : List Jvm.Cond) (a1 : Addr) (a2 : Addr) (G2 : Addr) (G3 : Addr) (h0 : Heap) (n0 : Nat) (Z0 : n0 ≤ h0.size) (hl : l.stackTraces = true) (S_UNASSIGNED_STACK : Sta Z Z.heap "java/lang/Throwable" "UNASSIGNED_STACK" "[Ljava/lang/StackTraceElement;" (.ref G2)) (X00 : Old Z n0 h0) (S_SUPPRESSED_SENTINEL : Sta Z Z.heap "java/lang/Throwable" "SUPPRESSED_SENTINEL" "Ljava/util/List;" (.ref G3)) (E_a1 : Exa Z h0 a1 "com/example/shiken/shiken/ContextException") (F_cause_a1 : Fld Z h0 a1 "java/lang/Throwable" "cause" "Ljava/lang/Throwable;" .null) (F_stackTrace_a1 : Fld Z h0 a1 "java/lang/Throwable" "stackTrace" "[Ljava/lang/StackTraceElement;" .null) (F_suppressedExceptions_a1 : Fld Z h0 a1 "java/lang/Throwable" "suppressedExceptions" "Ljava/util/List;" .null) (F_detailMessage_a1 : Fld Z h0 a1 "java/lang/Throwable" "detailMessage" "Ljava/lang/String;" .null) (F_backtrace_a1 : Fld Z h0 a1 "java/lang/Throwable" "backtrace" "Ljava/lang/Object;" .null) (U_a1 : Unt h0 a1) (g_a1 : n0 ≤ a1) :
    MetFree l (⟨"com/example/shiken/shiken/ContextException", "<init>", "(Ljava/lang/String;)V"⟩ : MethodName) (head1 (Jvm.Cond.code (⟨"com/example/shiken/shiken/ContextException", "<init>", "(Ljava/lang/String;)V"⟩ : MethodName) prog_12_method_1_code 2 none :: ws) ({ frames := 6, cells := 1, slots := 2752, locals := 81 } : Room)) (fun a U => a = #[(.ref a1), (.ref a2)] ∧ Z.Warmed39 U.vm ∧ U.heap = h0) (fun _ _ bl s _ => s.vm.MethodsKnown ∧ s.vm.FramesKnown bl) (fun _ U o U' => ∃ v L, o = .returned v ∧ own_QX Z a1 a2 h0 n0 v U'.heap L ∧ FrameEnd U o U' L ({ frames := 6, cells := 1, slots := 2752, locals := 81 } : Room).cells ({ frames := 6, cells := 1, slots := 2752, locals := 81 } : Room).slots) := by
  refine MetFree.of_bodySF (plainFor_of_name pn_34) hisR ?_
  intro p e s m args below meth c s₁ Bd hml0 hP hK
  obtain ⟨rfl, hZ, hh⟩ := hP
  have hx := Bd.exec
  have hby := Bd.bytes
  have hml : c.maxLocals = 2 := hml0
  have hown : s.vm.findClass "com/example/shiken/shiken/ContextException" = some m.cls := findClass_of_methodNamed Bd.named
  have hnm := (name_of_methodNamed Bd.named Bd.method).1
  have X0 : Stand p l e ({ frames := 6, cells := 1, slots := 2752, locals := 81 } : Room) s m #[(.ref a1), (.ref a2)] below meth c s₁ [] 0 0 := Stand.of_body Bd
  have e0 : s₁.heap = h0 := by rw [← hh, Bd.state]; rfl
  have N0 := Fr.nil n0
  have pre0 : ∀ t, Steps p.tables e below (s₁.setTop (mkF m 0 #[.val (.ref a1), .val (.ref a2)] [])) t → Steps p.tables e below (s₁.setTop (entryFrame m #[(.ref a1), (.ref a2)] 2)) t := fun t k => castTop (ef_34 m a1 a2) k
  obtain ⟨_, _, ⟨T3, L3, k3, n3⟩, -, X3, ⟨Lc3, hQ3, l3, y3, z3⟩, st3⟩ := X0.specialBack hx (y := (⟨"java/lang/RuntimeException", "<init>", "(Ljava/lang/String;)V"⟩ : MethodName)) rfl hown (mvT hZ (hw _ (wI 175 rfl))) (mvT hZ (hw _ (wI 176 rfl))) (mvT hZ (hw _ (wI 179 rfl))) (by decide) (backOfKL (W := 0) (rm35 l Z a0 hw [] a1 a2 G2 G3 h0 n0 Z0 hl S_UNASSIGNED_STACK X00 S_SUPPRESSED_SENTINEL E_a1 F_cause_a1 F_stackTrace_a1 F_suppressedExceptions_a1 F_detailMessage_a1 F_backtrace_a1 U_a1 g_a1) hZ (hw _ (wI 179 rfl)) (hw _ (wI 178 rfl)) (by decide) (by decide) hK.1 hK.2) (g := (mkF m 2 #[.val (.ref a1), .val (.ref a2)] [(.ref a2), (.ref a1)])) rfl (by rw [hml]; rfl) (Steps.refl _) (a := a1) (argsL := [(.ref a2)]) (rest := []) (lenOf pd_34_18 rfl) rfl (by show 2 * 0 + _ ≤ _; exact Nat.le_of_eq rfl) (hb hby d34_2) (fun _ _ => ⟨rfl, e0, (by decide : 0 + 1 ≤ _), (by decide : 0 + 2752 ≤ _)⟩)
  dsimp only [Pt.U, Pt.locs, Pt.cells, Pt.slots] at X3 l3 y3 z3 st3 hQ3
  subst l3 y3 z3
  obtain ⟨rfl, N3q, Kc3, Uc3, Fm3, Fc3⟩ := hQ3
  have N3 := Fr.app N0 N3q
  have Kq3 : Keep h0 T3.heap [a1] := Kc3
  have K3 : Keep h0 T3.heap [a1] := (Keep.refl h0 [a1]).trans Kq3 (own_trS (Or.inl (List.mem_of_getElem? (i := 0) rfl)) all0)
  obtain ⟨fs, hr, hrun, hended, hW, hsame⟩ := X3.leave (v := none) (fun _ => rfl)
  refine ⟨_, _, pre0 _ ?_, hrun, hended, _, _, rfl, ?_, ⟨_, rfl⟩, hW, hsame.mono (by decide) (by decide)⟩
  · show Steps p.tables e below (s₁.setTop (mkF m 0 #[.val (.ref a1), .val (.ref a2)] [])) _
    refine XS.aloadN X0.here hx rfl (hb hby d34_0) rfl rfl ?_
    show Steps p.tables e below (s₁.setTop (mkF m 1 #[.val (.ref a1), .val (.ref a2)] [(.ref a1)])) _
    refine XS.aloadN X0.here hx rfl (hb hby d34_1) rfl rfl ?_
    show Steps p.tables e below (s₁.setTop (mkF m 2 #[.val (.ref a1), .val (.ref a2)] [(.ref a2), (.ref a1)])) _
    refine st3.trans ?_
    show Steps p.tables e below (T3.setTop (mkF m 5 #[.val (.ref a1), .val (.ref a2)] [])) _
    exact X3.returnOut hx Bd.returns (hb hby d34_5) hr
  · show own_QX Z a1 a2 h0 n0 _ T3.heap _
    exact ⟨rfl, N3, Kc3, Uc3, Fm3, Fc3⟩
def own_fl (cap : Nat) (pre : List Value) : List Value := pre ++ List.replicate (cap - pre.length) (Value.int (0 : Int32))
theorem own_fl_len {cap : Nat} {pre : List Value} (h : pre.length ≤ cap) : (own_fl cap pre).length = cap := by simp [own_fl]; omega
theorem own_fl_upd (cap : Nat) (pre us : List Value) {n : Nat} (hn : n = pre.length) : own_upd (own_fl cap pre) n us = own_fl cap (pre ++ us) := by
  subst hn
  have e : cap - pre.length - us.length = cap - (pre.length + us.length) := by omega
  simp [own_upd, own_fl, List.drop_append, e]
theorem own_fl_grow {c nc : Nat} {pre : List Value} (h : pre.length ≤ c) (h2 : c ≤ nc) : own_fl c pre ++ (List.replicate nc (Value.int (0 : Int32))).drop (own_fl c pre).length = own_fl nc pre := by
  rw [own_fl_len h, List.drop_replicate, own_fl, List.append_assoc, List.replicate_append_replicate, own_fl]
  have e : c - pre.length + (nc - c) = nc - pre.length := by omega
  rw [e]
theorem own_fl_take (cap : Nat) (pre : List Value) {n : Nat} (hn : n = pre.length) : (own_fl cap pre).take n = pre := by
  subst hn
  simp [own_fl]
theorem own_fl0 : List.replicate 16 (Value.int (0 : Int32)) = own_fl 16 [] := rfl
def own_QW (Z : State) (c : Int32) (vs : List Value) (h0 : Heap) (n0 : Nat) (v : Option Value) (h : Heap) (L : List Loc) : Prop := ∃ r : Addr, v = some (.ref r) ∧ Fr n0 L ∧ Keep h0 h [] ∧ Exa Z h r "com/example/shiken/shiken/ContextException" ∧ Unt h r ∧ Fld Z h r "java/lang/Throwable" "cause" "Ljava/lang/Throwable;" (.ref r) ∧ ∃ b : Addr, Fld Z h r "java/lang/Throwable" "detailMessage" "Ljava/lang/String;" (.ref b) ∧ Exa Z h b "java/lang/String" ∧ ∃ (t : Addr) (k : ClassId), Fld Z h b "java/lang/String" "value" "[B" (.ref t) ∧ Fld Z h b "java/lang/String" "coder" "B" (.int (0 : Int32)) ∧ Arv Z h t k .byte c vs (.int (0 : Int32))
theorem d33_0 : decode prog_12_method_6_code 0 = .ok (.new 10, 3) := by decide +kernel
theorem d33_3 : decode prog_12_method_6_code 3 = .ok (.dup, 1) := by decide +kernel
theorem d33_4 : decode prog_12_method_6_code 4 = .ok (.new 25, 3) := by decide +kernel
theorem d33_7 : decode prog_12_method_6_code 7 = .ok (.dup, 1) := by decide +kernel
theorem d33_8 : decode prog_12_method_6_code 8 = .ok (.invokespecial 27, 3) := by decide +kernel
theorem d33_11 : decode prog_12_method_6_code 11 = .ok (.aload_n 0, 1) := by decide +kernel
theorem d33_12 : decode prog_12_method_6_code 12 = .ok (.invokevirtual 30, 3) := by decide +kernel
theorem d33_15 : decode prog_12_method_6_code 15 = .ok (.ldc 51, 2) := by decide +kernel
theorem d33_17 : decode prog_12_method_6_code 17 = .ok (.invokevirtual 30, 3) := by decide +kernel
theorem d33_20 : decode prog_12_method_6_code 20 = .ok (.aload_n 1, 1) := by decide +kernel
theorem d33_21 : decode prog_12_method_6_code 21 = .ok (.invokevirtual 30, 3) := by decide +kernel
theorem d33_24 : decode prog_12_method_6_code 24 = .ok (.ldc 53, 2) := by decide +kernel
theorem d33_26 : decode prog_12_method_6_code 26 = .ok (.invokevirtual 30, 3) := by decide +kernel
theorem d33_29 : decode prog_12_method_6_code 29 = .ok (.aload_n 2, 1) := by decide +kernel
theorem d33_30 : decode prog_12_method_6_code 30 = .ok (.invokevirtual 30, 3) := by decide +kernel
theorem d33_33 : decode prog_12_method_6_code 33 = .ok (.invokevirtual 43, 3) := by decide +kernel
theorem d33_36 : decode prog_12_method_6_code 36 = .ok (.invokespecial 55, 3) := by decide +kernel
theorem d33_39 : decode prog_12_method_6_code 39 = .ok (.areturn, 1) := by decide +kernel
theorem pn_33 : plainName "com/example/shiken/shiken/ContextException" = true := by first | (simp [plainName, overriddenIn]; done) | decide +kernel
theorem pd_33_2 : parseMethodDescriptor "()V" = some ⟨[], none⟩ := by decide +kernel
theorem pd_33_8 : parseMethodDescriptor "(Ljava/lang/String;)Ljava/lang/StringBuilder;" = some ⟨[(.object "java/lang/String")], some (.object "java/lang/StringBuilder")⟩ := by decide +kernel
theorem pd_33_20 : parseMethodDescriptor "()Ljava/lang/String;" = some ⟨[], some (.object "java/lang/String")⟩ := by decide +kernel
theorem pd_33_18 : parseMethodDescriptor "(Ljava/lang/String;)V" = some ⟨[(.object "java/lang/String")], none⟩ := by decide +kernel
theorem ef_33 (m : MethodId) (x0 : Addr) (x1 : Addr) (x2 : Addr) : entryFrame m #[(.ref x0), (.ref x1), (.ref x2)] 3 = mkF m 0 #[.val (.ref x0), .val (.ref x1), .val (.ref x2)] [] := by first | (simp [entryFrame, mkF, argsToLocals, Value.category]; done) | rfl
set_option maxRecDepth 65536 in
set_option maxHeartbeats 40000000 in
theorem rm33 (l : Launch) (Z : State) (a0 : Array Value) (hw : ∀ d ∈ tables_1, d.before a0 Z = true) (ws : List Jvm.Cond) (a1 : Addr) (a2 : Addr) (a3 : Addr) (G1 : Int32) (G2 : Addr) (G3 : Addr) (s1 : Addr) (s2 : Addr) (s3 : Addr) (k_s1 : ClassId) (z_s1 : Int32) (vs_s1 : List Value) (dv_s1 : Value) (k_s2 : ClassId) (z_s2 : Int32) (vs_s2 : List Value) (dv_s2 : Value) (k_s3 : ClassId) (z_s3 : Int32) (vs_s3 : List Value) (dv_s3 : Value) (h0 : Heap) (n0 : Nat) (Z0 : n0 ≤ h0.size) (hl : l.stackTraces = true) (S_COMPACT_STRINGS : Sta Z Z.heap "java/lang/String" "COMPACT_STRINGS" "Z" (.int G1)) (X00 : Old Z n0 h0) (P3 : ¬ (G1 = (0 : Int32))) (S_UNASSIGNED_STACK : Sta Z Z.heap "java/lang/Throwable" "UNASSIGNED_STACK" "[Ljava/lang/StackTraceElement;" (.ref G2)) (S_SUPPRESSED_SENTINEL : Sta Z Z.heap "java/lang/Throwable" "SUPPRESSED_SENTINEL" "Ljava/util/List;" (.ref G3)) (E_a1 : Exa Z h0 a1 "java/lang/String") (F_value_a1 : Fld Z h0 a1 "java/lang/String" "value" "[B" (.ref s1)) (F_coder_a1 : Fld Z h0 a1 "java/lang/String" "coder" "B" (.int (0 : Int32))) (E_a2 : Exa Z h0 a2 "java/lang/String") (F_value_a2 : Fld Z h0 a2 "java/lang/String" "value" "[B" (.ref s2)) (F_coder_a2 : Fld Z h0 a2 "java/lang/String" "coder" "B" (.int (0 : Int32))) (E_a3 : Exa Z h0 a3 "java/lang/String") (F_value_a3 : Fld Z h0 a3 "java/lang/String" "value" "[B" (.ref s3)) (F_coder_a3 : Fld Z h0 a3 "java/lang/String" "coder" "B" (.int (0 : Int32))) (V_s1 : Arv Z h0 s1 k_s1 .byte z_s1 vs_s1 dv_s1) (V_s2 : Arv Z h0 s2 k_s2 .byte z_s2 vs_s2 dv_s2) (V_s3 : Arv Z h0 s3 k_s3 .byte z_s3 vs_s3 dv_s3) (hz1 : z_s1 = (22 : Int32)) (hv : z_s2 = 0 ∨ z_s2 = 1) (hz3 : z_s3 = (2 : Int32)) (hl1 : z_s1.toNatClampNeg = vs_s1.length) (hl2 : z_s2.toNatClampNeg = vs_s2.length) (hl3 : z_s3.toNatClampNeg = vs_s3.length) :
    MetFree l (⟨"com/example/shiken/shiken/ContextException", "forSetting", "(Ljava/lang/String;Ljava/lang/String;Ljava/lang/String;)Lcom/example/shiken/shiken/ContextException;"⟩ : MethodName) (head1 (Jvm.Cond.code (⟨"com/example/shiken/shiken/ContextException", "forSetting", "(Ljava/lang/String;Ljava/lang/String;Ljava/lang/String;)Lcom/example/shiken/shiken/ContextException;"⟩ : MethodName) prog_12_method_6_code 3 (some (.object "com/example/shiken/shiken/ContextException")) :: ws) ({ frames := 7, cells := 12, slots := 3022, locals := 130 } : Room)) (fun a U => a = #[(.ref a1), (.ref a2), (.ref a3)] ∧ Z.Warmed39 U.vm ∧ U.heap = h0 ∧ CHv Z consts_1 U.vm h0) (fun _ _ bl s _ => s.vm.MethodsKnown ∧ s.vm.FramesKnown bl) (fun _ U o U' => ∃ v L, o = .returned v ∧ own_QW Z ((((((0 : Int32) + z_s1) + (5 : Int32)) + z_s2) + (8 : Int32)) + z_s3) (((((([] : List Value) ++ vs_s1) ++ [(.int (32 : Int32)), (.int (105 : Int32)), (.int (115 : Int32)), (.int (32 : Int32)), (.int (34 : Int32))]) ++ vs_s2) ++ [(.int (34 : Int32)), (.int (59 : Int32)), (.int (32 : Int32)), (.int (103 : Int32)), (.int (105 : Int32)), (.int (118 : Int32)), (.int (101 : Int32)), (.int (32 : Int32))]) ++ vs_s3) h0 n0 v U'.heap L ∧ CHr Z consts_1 U.vm U.heap U'.vm U'.heap ∧ ReturnedEndW U o U' L ({ frames := 7, cells := 12, slots := 3022, locals := 130 } : Room).cells ({ frames := 7, cells := 12, slots := 3022, locals := 130 } : Room).slots) := by
  refine MetFree.of_bodySF (plainFor_of_name pn_33) hisR ?_
  intro p e s m args below meth c s₁ Bd hml0 hP hK
  obtain ⟨rfl, hZ, hh, H0⟩ := hP
  have hx := Bd.exec
  have hby := Bd.bytes
  have hml : c.maxLocals = 3 := hml0
  have hown : s.vm.findClass "com/example/shiken/shiken/ContextException" = some m.cls := findClass_of_methodNamed Bd.named
  have hnm := (name_of_methodNamed Bd.named Bd.method).1
  have X0 : Stand p l e ({ frames := 7, cells := 12, slots := 3022, locals := 130 } : Room) (s.setVm s.vm) m #[(.ref a1), (.ref a2), (.ref a3)] below meth c s₁ [] 0 0 := Stand.of_body Bd
  have e0 : s₁.heap = h0 := by rw [← hh, Bd.state]; rfl
  have N0 := Fr.nil n0
  have pre0 : ∀ t, Steps p.tables e below (s₁.setTop (mkF m 0 #[.val (.ref a1), .val (.ref a2), .val (.ref a3)] [])) t → Steps p.tables e below (s₁.setTop (entryFrame m #[(.ref a1), (.ref a2), (.ref a3)] 3)) t := fun t k => castTop (ef_33 m a1 a2 a3) k
  have hS : s.Since s.vm 0 := (State.WarmedH.refl s).since 0
  have hk := Nat.zero_le h0.size
  have R0 : CHr Z consts_1 s.vm h0 s.vm h0 := CHr.refl H0
  obtain ⟨T4, h4, X4, e4, E4, A4, D4, Un4, st4⟩ := newO X0 hx hZ hown (hw _ (wI 168 rfl)) (hw _ (wI 169 rfl)) (hw _ (wI 35 rfl)) e0 (g := (mkF m 0 #[.val (.ref a1), .val (.ref a2), .val (.ref a3)] [])) rfl (hb hby d33_0) (by decide) (by decide)
  obtain ⟨b4, g4⟩ : ∃ z, z = h0.size := ⟨_, rfl⟩
  rw [← g4] at A4 D4 Un4 st4
  have U_b4 : Unt h4 b4 := Un4
  have F_cause_b4 : Fld Z h4 b4 "java/lang/Throwable" "cause" "Ljava/lang/Throwable;" .null := D4 (Or.inl (hw _ (wI 194 rfl))) (ty := (.object "java/lang/Throwable")) (by decide)
  have F_stackTrace_b4 : Fld Z h4 b4 "java/lang/Throwable" "stackTrace" "[Ljava/lang/StackTraceElement;" .null := D4 (Or.inl (hw _ (wI 197 rfl))) (ty := (.array (.object "java/lang/StackTraceElement"))) (by decide)
  have F_suppressedExceptions_b4 : Fld Z h4 b4 "java/lang/Throwable" "suppressedExceptions" "Ljava/util/List;" .null := D4 (Or.inl (hw _ (wI 200 rfl))) (ty := (.object "java/util/List")) (by decide)
  have F_detailMessage_b4 : Fld Z h4 b4 "java/lang/Throwable" "detailMessage" "Ljava/lang/String;" .null := D4 (Or.inl (hw _ (wI 224 rfl))) (ty := (.object "java/lang/String")) (by decide)
  have F_backtrace_b4 : Fld Z h4 b4 "java/lang/Throwable" "backtrace" "Ljava/lang/Object;" .null := D4 (Or.inl (hw _ (wI 225 rfl))) (ty := (.object "java/lang/Object")) (by decide)
  have F_depth_b4 : Fld Z h4 b4 "java/lang/Throwable" "depth" "I" (.int (0 : Int32)) := D4 (Or.inl (hw _ (wI 226 rfl))) (ty := .int) (by decide)
  have R4 := R0.trans (CHr.ext E4 R0.1)
  have Sf_b4_4 := Safe.ext E4 R0.1 (Safe.new (Nat.le_of_eq g4.symm))
  have E_b4 := A4
  have g_b4 : n0 ≤ b4 := Nat.le_trans Z0 (Nat.le_of_eq g4.symm)
  have sz_b4 : h0.size ≤ b4 := (Nat.le_trans (Keep.refl h0 []).1 (Nat.le_of_eq g4.symm))
  have K4 : Keep h0 h4 [] := (Keep.refl h0 []).ext E4
  obtain ⟨T5, h5, X5, e5, E5, A5, D5, Un5, st5⟩ := newO X4 hx hZ hown (hw _ (wI 37 rfl)) (hw _ (wI 38 rfl)) (hw _ (wI 39 rfl)) e4 (g := (mkF m 4 #[.val (.ref a1), .val (.ref a2), .val (.ref a3)] [(.ref b4), (.ref b4)])) rfl (hb hby d33_4) (by decide) (by decide)
  obtain ⟨b5, g5⟩ : ∃ z, z = h4.size := ⟨_, rfl⟩
  rw [← g5] at A5 D5 Un5 st5
  have U_b5 : Unt h5 b5 := Un5
  have F_value_b5 : Fld Z h5 b5 "java/lang/AbstractStringBuilder" "value" "[B" .null := D5 (Or.inl (hw _ (wI 52 rfl))) (ty := (.array .byte)) (by decide)
  have F_coder_b5 : Fld Z h5 b5 "java/lang/AbstractStringBuilder" "coder" "B" (.int (0 : Int32)) := D5 (Or.inl (hw _ (wI 54 rfl))) (ty := .byte) (by decide)
  have F_count_b5 : Fld Z h5 b5 "java/lang/AbstractStringBuilder" "count" "I" (.int (0 : Int32)) := D5 (Or.inl (hw _ (wI 77 rfl))) (ty := .int) (by decide)
  have R5 := R4.trans (CHr.ext E5 R4.1)
  have Sf_b4_5 := Safe.ext E5 R4.1 Sf_b4_4
  have Sf_b5_5 := Safe.ext E5 R4.1 (Safe.new (Nat.le_of_eq g5.symm))
  have E_b5 := A5
  have g_b5 : n0 ≤ b5 := Nat.le_trans (Nat.le_trans Z0 E4.1) (Nat.le_of_eq g5.symm)
  have sz_b5 : h0.size ≤ b5 := (Nat.le_trans K4.1 (Nat.le_of_eq g5.symm))
  have K5 : Keep h0 h5 [] := K4.ext E5
  obtain ⟨_, _, ⟨T6, L6, k6, n6⟩, -, X6, ⟨Lc6, hQ6, l6, y6, z6⟩, st6⟩ := X5.specialBack hx (y := (⟨"java/lang/StringBuilder", "<init>", "()V"⟩ : MethodName)) rfl hown (mvT hZ (hw _ (wI 40 rfl))) (mvT hZ (hw _ (wI 41 rfl))) (mvT hZ (hw _ (wI 42 rfl))) (by decide) (backOf (W := 3) (rm8 l Z a0 hw [] b5 G1 h5 n0 (Nat.le_trans (Nat.le_trans Z0 E4.1) E5.1) S_COMPACT_STRINGS (X00.keep K5 all0) P3 E_b5 F_value_b5 F_coder_b5 F_count_b5 g_b5) hZ (hw _ (wI 42 rfl)) (hw _ (wI 39 rfl)) (by decide) (by decide)) (g := (mkF m 8 #[.val (.ref a1), .val (.ref a2), .val (.ref a3)] [(.ref b5), (.ref b5), (.ref b4), (.ref b4)])) rfl (by rw [hml]; rfl) (Steps.refl _) (a := b5) (argsL := []) (rest := [(.ref b5), (.ref b4), (.ref b4)]) (lenOf pd_33_2 rfl) rfl (by show 2 * 0 + _ ≤ _; exact Nat.le_of_eq rfl) (hb hby d33_8) (fun _ _ => ⟨rfl, e5, (by decide : 2 + 1 ≤ _), (by decide : 10 + 16 ≤ _)⟩)
  dsimp only [Pt.U, Pt.locs, Pt.cells, Pt.slots] at X6 l6 y6 z6 st6 hQ6
  subst l6 y6 z6
  obtain ⟨rfl, N6q, Kc6, bv, kbv, g_bv, gz_bv, Fv6, Fd6, Fn6, Vb6⟩ := hQ6
  have N6 := Fr.app N0 N6q
  have sz_bv : h0.size ≤ bv := Nat.le_trans K5.1 gz_bv
  have Kq6 : Keep h5 T6.heap [b5] := Kc6
  have K6 : Keep h0 T6.heap [] := K5.trans Kq6 (own_trS (Or.inr sz_b5) all0)
  have R6 := R5.trans (CHr.keep Kq6 (sfS Sf_b5_5 sf0) R5.1)
  have Sf_b4_6 := Safe.keep Kq6 (sfS Sf_b5_5 sf0) R5.1 Sf_b4_5
  have Sf_b5_6 := Safe.keep Kq6 (sfS Sf_b5_5 sf0) R5.1 Sf_b5_5
  have Sf_bv_6 := Safe.keep Kq6 (sfS Sf_b5_5 sf0) R5.1 (Safe.new gz_bv)
  obtain ⟨cq7, kq7, q7a, q7b, q7c⟩ := isOf hZ rfl (E_b5.keep Kq6)
  obtain ⟨_, _, ⟨T7, L7, k7, n7⟩, -, X7, ⟨Lc7, hQ7, l7, y7, z7⟩, st7⟩ := X6.virtualBack hx (y := (⟨"java/lang/StringBuilder", "append", "(Ljava/lang/String;)Ljava/lang/StringBuilder;"⟩ : MethodName)) (z := (⟨"java/lang/StringBuilder", "append", "(Ljava/lang/String;)Ljava/lang/StringBuilder;"⟩ : MethodName)) hown (mvT hZ (hw _ (wI 56 rfl))) (mvT hZ (hw _ (wI 57 rfl))) (notFace_of_selects (args := #[]) (mvT hZ (hw _ (wI 59 rfl)))) (mvT hZ (hw _ (wI 59 rfl))) (mvT hZ (hw _ (wI 58 rfl))) (by decide) (backOf (W := 2) (rm10g l Z a0 hw [] b5 a1 G1 bv s1 (0 : Int32) (34 : Int32) kbv (16 : Int32) (own_fl 16 ([] : List Value)) (.int (0 : Int32)) k_s1 z_s1 vs_s1 dv_s1 T6.heap n0 (Nat.le_trans (Nat.le_trans (Nat.le_trans Z0 E4.1) E5.1) Kq6.1) S_COMPACT_STRINGS (X00.keep K6 all0) P3 (E_b5.keep Kq6) Fv6 Fd6 Fn6 (((E_a1.ext E4).ext E5).keep Kq6) (((F_value_a1.ext E4).ext E5).keep Kq6 (fun q => absurd (List.mem_singleton.mp q) (Nat.ne_of_lt (Nat.lt_of_lt_of_le (E_a1.ext E4).lt (Nat.le_of_eq g5.symm))))) (((F_coder_a1.ext E4).ext E5).keep Kq6 (fun q => absurd (List.mem_singleton.mp q) (Nat.ne_of_lt (Nat.lt_of_lt_of_le (E_a1.ext E4).lt (Nat.le_of_eq g5.symm))))) Vb6 (((V_s1.ext E4).ext E5).keep Kq6 (fun q => absurd (List.mem_singleton.mp q) (Nat.ne_of_lt (Nat.lt_of_lt_of_le (V_s1.ext E4).lt (Nat.le_of_eq g5.symm))))) g_b5 (by (try simp only [List.length_append, ← hl1, ← hl2, ← hl3]); subst hz1 hz3; rcases hv with rfl | rfl <;> decide) (by (try simp only [List.length_append, ← hl1, ← hl2, ← hl3]); subst hz1 hz3; rcases hv with rfl | rfl <;> decide) (by (try simp only [List.length_append, ← hl1, ← hl2, ← hl3]); subst hz1 hz3; rcases hv with rfl | rfl <;> decide) (by (try simp only [List.length_append, ← hl1, ← hl2, ← hl3]); subst hz1 hz3; rcases hv with rfl | rfl <;> decide) (by (try simp only [List.length_append, ← hl1, ← hl2, ← hl3]); subst hz1 hz3; rcases hv with rfl | rfl <;> decide) (by decide) (by decide) (by decide) (by decide) (by decide) (by decide) (by rw [own_fl_len (by (try simp only [List.length_append, ← hl1, ← hl2, ← hl3]); subst hz1 hz3; rcases hv with rfl | rfl <;> decide)]; (try simp only [List.length_append, ← hl1, ← hl2, ← hl3]); subst hz1 hz3; rcases hv with rfl | rfl <;> decide) (by decide) hl1 (by (try simp only [List.length_append, ← hl1, ← hl2, ← hl3]); subst hz1 hz3; rcases hv with rfl | rfl <;> decide) (by (try simp only [List.length_append, ← hl1, ← hl2, ← hl3]); subst hz1 hz3; rcases hv with rfl | rfl <;> decide) (by rw [own_fl_grow (by (try simp only [List.length_append, ← hl1, ← hl2, ← hl3]); subst hz1 hz3; rcases hv with rfl | rfl <;> decide) (by decide), own_fl_len (by (try simp only [List.length_append, ← hl1, ← hl2, ← hl3]); subst hz1 hz3; rcases hv with rfl | rfl <;> decide)]; (try simp only [List.length_append, ← hl1, ← hl2, ← hl3]); subst hz1 hz3; rcases hv with rfl | rfl <;> decide)) hZ (hw _ (wI 60 rfl)) (hw _ (wI 39 rfl)) (by decide) (by decide)) q7a q7c (g := (mkF m 12 #[.val (.ref a1), .val (.ref a2), .val (.ref a3)] [(.ref a1), (.ref b5), (.ref b4), (.ref b4)])) rfl (by rw [hml]; rfl) (Steps.refl _) (argsL := [(.ref a1)]) (rest := [(.ref b4), (.ref b4)]) (lenOf pd_33_8 rfl) rfl (by show 2 * 0 + _ ≤ _; exact Nat.le_of_eq rfl) (hb hby d33_12) (fun _ _ => ⟨rfl, rfl, (by decide : 3 + 1 ≤ _), (by decide : 26 + 70 ≤ _)⟩)
  dsimp only [Pt.U, Pt.locs, Pt.cells, Pt.slots] at X7 l7 y7 z7 st7 hQ7
  subst l7 y7 z7
  obtain ⟨rfl, N7q, Kc7, bn, kbn, g_bn, gz_bn, Fn7, Fv7, Fd7, Vb7⟩ := hQ7
  have N7 := Fr.app N6 N7q
  have sz_bn : h0.size ≤ bn := Nat.le_trans K6.1 gz_bn
  have Vf7 : Arv Z T7.heap bn kbn .byte (34 : Int32) (own_fl 34 (([] : List Value) ++ vs_s1)) (.int (0 : Int32)) := by
    have q := Vb7
    rw [own_fl_grow (by (try simp only [List.length_append, ← hl1, ← hl2, ← hl3]); subst hz1 hz3; rcases hv with rfl | rfl <;> decide) (by decide), own_fl_upd _ _ _ (by (try simp only [List.length_append, ← hl1, ← hl2, ← hl3]); subst hz1 hz3; rcases hv with rfl | rfl <;> decide)] at q
    exact q
  have Kq7 : Keep T6.heap T7.heap [b5] := Kc7
  have K7 : Keep h0 T7.heap [] := K6.trans Kq7 (own_trS (Or.inr sz_b5) all0)
  have R7 := R6.trans (CHr.keep Kq7 (sfS Sf_b5_6 sf0) R6.1)
  have Sf_b4_7 := Safe.keep Kq7 (sfS Sf_b5_6 sf0) R6.1 Sf_b4_6
  have Sf_b5_7 := Safe.keep Kq7 (sfS Sf_b5_6 sf0) R6.1 Sf_b5_6
  have Sf_bv_7 := Safe.keep Kq7 (sfS Sf_b5_6 sf0) R6.1 Sf_bv_6
  have Sf_bn_7 := Safe.keep Kq7 (sfS Sf_b5_6 sf0) R6.1 (Safe.new gz_bn)
  obtain ⟨b8, T8, h8, k1_8, v8, kc8, X8, e8, E8, hS, hk, hZ8, hown8, E_b8, F_coder_b8, F_value_b8, V_v8, lt_b8, lt_v8, Cr8, Lit_b8, Sep8, st8⟩ := ldcCH X7 hx hZ hown (hw _ (wI 170 rfl)) (own_wS hw) rfl hS (Nat.le_trans (Nat.le_trans (Nat.le_trans (Nat.le_trans hk E4.1) E5.1) Kq6.1) Kq7.1) (own_EW hw) (by decide) R7.1 (vs := [(.int (32 : Int32)), (.int (105 : Int32)), (.int (115 : Int32)), (.int (32 : Int32)), (.int (34 : Int32))]) (z := (5 : Int32)) ⟨by decide, by decide⟩ (by decide) (by decide) (g := (mkF m 15 #[.val (.ref a1), .val (.ref a2), .val (.ref a3)] [(.ref b5), (.ref b4), (.ref b4)])) rfl (hb hby d33_15) (n := 20) (by decide) (by decide) (by decide) (by decide)
  have Sf_b4_8 := Cr8.safe (((E_b4.ext E5).keep Kq6).keep Kq7).lt Sf_b4_7
  have Sf_b5_8 := Cr8.safe ((E_b5.keep Kq6).keep Kq7).lt Sf_b5_7
  have Sf_bv_8 := Cr8.safe (Vb6.keep Kq7 (fun q => absurd (List.mem_singleton.mp q) (Ne.symm (Nat.ne_of_lt (Nat.lt_of_lt_of_le E_b5.lt gz_bv))))).lt Sf_bv_7
  have Sf_bn_8 := Cr8.safe Vf7.lt Sf_bn_7
  have R8 := R7.trans Cr8
  have K8 : Keep h0 h8 [] := K7.ext E8
  obtain ⟨cq9, kq9, q9a, q9b, q9c⟩ := isOf hZ8 e8 (((E_b5.keep Kq6).keep Kq7).ext E8)
  obtain ⟨_, _, ⟨T9, L9, k9, n9⟩, -, X9, ⟨Lc9, hQ9, l9, y9, z9⟩, st9⟩ := X8.virtualBack hx (y := (⟨"java/lang/StringBuilder", "append", "(Ljava/lang/String;)Ljava/lang/StringBuilder;"⟩ : MethodName)) (z := (⟨"java/lang/StringBuilder", "append", "(Ljava/lang/String;)Ljava/lang/StringBuilder;"⟩ : MethodName)) hown8 (mvT hZ8 (hw _ (wI 56 rfl))) (mvT hZ8 (hw _ (wI 57 rfl))) (notFace_of_selects (args := #[]) (mvT hZ8 (hw _ (wI 59 rfl)))) (mvT hZ8 (hw _ (wI 59 rfl))) (mvT hZ8 (hw _ (wI 58 rfl))) (by decide) (backOf (W := 2) (rm10 l Z a0 hw [] b5 b8 G1 bn v8 ((0 : Int32) + z_s1) kbn (34 : Int32) (own_fl 34 (([] : List Value) ++ vs_s1)) (.int (0 : Int32)) kc8 (5 : Int32) [(.int (32 : Int32)), (.int (105 : Int32)), (.int (115 : Int32)), (.int (32 : Int32)), (.int (34 : Int32))] (.int (0 : Int32)) h8 n0 (Nat.le_trans (Nat.le_trans (Nat.le_trans (Nat.le_trans (Nat.le_trans Z0 E4.1) E5.1) Kq6.1) Kq7.1) E8.1) S_COMPACT_STRINGS (X00.keep K8 all0) P3 (((E_b5.keep Kq6).keep Kq7).ext E8) (Fv7.ext E8) (Fd7.ext E8) (Fn7.ext E8) E_b8 F_value_b8 F_coder_b8 (Vf7.ext E8) V_v8 g_bn g_b5 (by decide) (by (try simp only [List.length_append, ← hl1, ← hl2, ← hl3]); subst hz1 hz3; rcases hv with rfl | rfl <;> decide) (by (try simp only [List.length_append, ← hl1, ← hl2, ← hl3]); subst hz1 hz3; rcases hv with rfl | rfl <;> decide) (by rw [own_fl_len (by (try simp only [List.length_append, ← hl1, ← hl2, ← hl3]); subst hz1 hz3; rcases hv with rfl | rfl <;> decide)]; (try simp only [List.length_append, ← hl1, ← hl2, ← hl3]); subst hz1 hz3; rcases hv with rfl | rfl <;> decide) (by (try simp only [List.length_append, ← hl1, ← hl2, ← hl3]); subst hz1 hz3; rcases hv with rfl | rfl <;> decide)) hZ8 (hw _ (wI 60 rfl)) (hw _ (wI 39 rfl)) (by decide) (by decide)) q9a q9c (g := (mkF m 17 #[.val (.ref a1), .val (.ref a2), .val (.ref a3)] [(.ref b8), (.ref b5), (.ref b4), (.ref b4)])) rfl (by rw [hml]; rfl) (Steps.refl _) (argsL := [(.ref b8)]) (rest := [(.ref b4), (.ref b4)]) (lenOf pd_33_8 rfl) rfl (by show 2 * 0 + _ ≤ _; exact Nat.le_of_eq rfl) (hb hby d33_17) (fun _ _ => ⟨rfl, e8, (by decide : 6 + 0 ≤ _), (by decide : 120 + 0 ≤ _)⟩)
  dsimp only [Pt.U, Pt.locs, Pt.cells, Pt.slots] at X9 l9 y9 z9 st9 hQ9
  subst l9 y9 z9
  obtain ⟨rfl, N9q, Kc9, Fn9, Fv9, Fd9, Vb9⟩ := hQ9
  have N9 := Fr.app N7 N9q
  have Vf9 : Arv Z T9.heap bn kbn .byte (34 : Int32) (own_fl 34 ((([] : List Value) ++ vs_s1) ++ [(.int (32 : Int32)), (.int (105 : Int32)), (.int (115 : Int32)), (.int (32 : Int32)), (.int (34 : Int32))])) (.int (0 : Int32)) := by
    have q := Vb9
    rw [own_fl_upd _ _ _ (by (try simp only [List.length_append, ← hl1, ← hl2, ← hl3]); subst hz1 hz3; rcases hv with rfl | rfl <;> decide)] at q
    exact q
  have Kq9 : Keep h8 T9.heap [bn, b5] := Kc9
  have K9 : Keep h0 T9.heap [] := K8.trans Kq9 (own_trS (Or.inr sz_bn) (own_trS (Or.inr sz_b5) all0))
  have R9 := R8.trans (CHr.keep Kq9 (sfS Sf_bn_8 (sfS Sf_b5_8 sf0)) R8.1)
  have Sf_b4_9 := Safe.keep Kq9 (sfS Sf_bn_8 (sfS Sf_b5_8 sf0)) R8.1 Sf_b4_8
  have Sf_b5_9 := Safe.keep Kq9 (sfS Sf_bn_8 (sfS Sf_b5_8 sf0)) R8.1 Sf_b5_8
  have Sf_bv_9 := Safe.keep Kq9 (sfS Sf_bn_8 (sfS Sf_b5_8 sf0)) R8.1 Sf_bv_8
  have Sf_bn_9 := Safe.keep Kq9 (sfS Sf_bn_8 (sfS Sf_b5_8 sf0)) R8.1 Sf_bn_8
  obtain ⟨cq10, kq10, q10a, q10b, q10c⟩ := isOf hZ8 rfl ((((E_b5.keep Kq6).keep Kq7).ext E8).keep Kq9)
  obtain ⟨_, _, ⟨T10, L10, k10, n10⟩, -, X10, ⟨Lc10, hQ10, l10, y10, z10⟩, st10⟩ := X9.virtualBack hx (y := (⟨"java/lang/StringBuilder", "append", "(Ljava/lang/String;)Ljava/lang/StringBuilder;"⟩ : MethodName)) (z := (⟨"java/lang/StringBuilder", "append", "(Ljava/lang/String;)Ljava/lang/StringBuilder;"⟩ : MethodName)) hown8 (mvT hZ8 (hw _ (wI 56 rfl))) (mvT hZ8 (hw _ (wI 57 rfl))) (notFace_of_selects (args := #[]) (mvT hZ8 (hw _ (wI 59 rfl)))) (mvT hZ8 (hw _ (wI 59 rfl))) (mvT hZ8 (hw _ (wI 58 rfl))) (by decide) (backOf (W := 2) (rm10 l Z a0 hw [] b5 a2 G1 bn s2 (((0 : Int32) + z_s1) + (5 : Int32)) kbn (34 : Int32) (own_fl 34 ((([] : List Value) ++ vs_s1) ++ [(.int (32 : Int32)), (.int (105 : Int32)), (.int (115 : Int32)), (.int (32 : Int32)), (.int (34 : Int32))])) (.int (0 : Int32)) k_s2 z_s2 vs_s2 dv_s2 T9.heap n0 (Nat.le_trans (Nat.le_trans (Nat.le_trans (Nat.le_trans (Nat.le_trans (Nat.le_trans Z0 E4.1) E5.1) Kq6.1) Kq7.1) E8.1) Kq9.1) S_COMPACT_STRINGS (X00.keep K9 all0) P3 ((((E_b5.keep Kq6).keep Kq7).ext E8).keep Kq9) Fv9 Fd9 Fn9 ((((((E_a2.ext E4).ext E5).keep Kq6).keep Kq7).ext E8).keep Kq9) ((((((F_value_a2.ext E4).ext E5).keep Kq6 (fun q => absurd (List.mem_singleton.mp q) (Nat.ne_of_lt (Nat.lt_of_lt_of_le (E_a2.ext E4).lt (Nat.le_of_eq g5.symm))))).keep Kq7 (fun q => absurd (List.mem_singleton.mp q) (Nat.ne_of_lt (Nat.lt_of_lt_of_le (E_a2.ext E4).lt (Nat.le_of_eq g5.symm))))).ext E8).keep Kq9 (own_nm (Nat.ne_of_lt (Nat.lt_of_lt_of_le (((E_a2.ext E4).ext E5).keep Kq6).lt gz_bn)) (fun q => absurd (List.mem_singleton.mp q) (Nat.ne_of_lt (Nat.lt_of_lt_of_le (E_a2.ext E4).lt (Nat.le_of_eq g5.symm)))))) ((((((F_coder_a2.ext E4).ext E5).keep Kq6 (fun q => absurd (List.mem_singleton.mp q) (Nat.ne_of_lt (Nat.lt_of_lt_of_le (E_a2.ext E4).lt (Nat.le_of_eq g5.symm))))).keep Kq7 (fun q => absurd (List.mem_singleton.mp q) (Nat.ne_of_lt (Nat.lt_of_lt_of_le (E_a2.ext E4).lt (Nat.le_of_eq g5.symm))))).ext E8).keep Kq9 (own_nm (Nat.ne_of_lt (Nat.lt_of_lt_of_le (((E_a2.ext E4).ext E5).keep Kq6).lt gz_bn)) (fun q => absurd (List.mem_singleton.mp q) (Nat.ne_of_lt (Nat.lt_of_lt_of_le (E_a2.ext E4).lt (Nat.le_of_eq g5.symm)))))) Vf9 ((((((V_s2.ext E4).ext E5).keep Kq6 (fun q => absurd (List.mem_singleton.mp q) (Nat.ne_of_lt (Nat.lt_of_lt_of_le (V_s2.ext E4).lt (Nat.le_of_eq g5.symm))))).keep Kq7 (fun q => absurd (List.mem_singleton.mp q) (Nat.ne_of_lt (Nat.lt_of_lt_of_le (V_s2.ext E4).lt (Nat.le_of_eq g5.symm))))).ext E8).keep Kq9 (own_nm (Nat.ne_of_lt (Nat.lt_of_lt_of_le (((V_s2.ext E4).ext E5).keep Kq6 (fun q => absurd (List.mem_singleton.mp q) (Nat.ne_of_lt (Nat.lt_of_lt_of_le (V_s2.ext E4).lt (Nat.le_of_eq g5.symm))))).lt gz_bn)) (fun q => absurd (List.mem_singleton.mp q) (Nat.ne_of_lt (Nat.lt_of_lt_of_le (V_s2.ext E4).lt (Nat.le_of_eq g5.symm)))))) g_bn g_b5 hl2 (by (try simp only [List.length_append, ← hl1, ← hl2, ← hl3]); subst hz1 hz3; rcases hv with rfl | rfl <;> decide) (by (try simp only [List.length_append, ← hl1, ← hl2, ← hl3]); subst hz1 hz3; rcases hv with rfl | rfl <;> decide) (by rw [own_fl_len (by (try simp only [List.length_append, ← hl1, ← hl2, ← hl3]); subst hz1 hz3; rcases hv with rfl | rfl <;> decide)]; (try simp only [List.length_append, ← hl1, ← hl2, ← hl3]); subst hz1 hz3; rcases hv with rfl | rfl <;> decide) (by (try simp only [List.length_append, ← hl1, ← hl2, ← hl3]); subst hz1 hz3; rcases hv with rfl | rfl <;> decide)) hZ8 (hw _ (wI 60 rfl)) (hw _ (wI 39 rfl)) (by decide) (by decide)) q10a q10c (g := (mkF m 21 #[.val (.ref a1), .val (.ref a2), .val (.ref a3)] [(.ref a2), (.ref b5), (.ref b4), (.ref b4)])) rfl (by rw [hml]; rfl) (Steps.refl _) (argsL := [(.ref a2)]) (rest := [(.ref b4), (.ref b4)]) (lenOf pd_33_8 rfl) rfl (by show 2 * 0 + _ ≤ _; exact Nat.le_of_eq rfl) (hb hby d33_21) (fun _ _ => ⟨rfl, rfl, (by decide : 6 + 0 ≤ _), (by decide : 120 + 0 ≤ _)⟩)
  dsimp only [Pt.U, Pt.locs, Pt.cells, Pt.slots] at X10 l10 y10 z10 st10 hQ10
  subst l10 y10 z10
  obtain ⟨rfl, N10q, Kc10, Fn10, Fv10, Fd10, Vb10⟩ := hQ10
  have N10 := Fr.app N9 N10q
  have Vf10 : Arv Z T10.heap bn kbn .byte (34 : Int32) (own_fl 34 (((([] : List Value) ++ vs_s1) ++ [(.int (32 : Int32)), (.int (105 : Int32)), (.int (115 : Int32)), (.int (32 : Int32)), (.int (34 : Int32))]) ++ vs_s2)) (.int (0 : Int32)) := by
    have q := Vb10
    rw [own_fl_upd _ _ _ (by (try simp only [List.length_append, ← hl1, ← hl2, ← hl3]); subst hz1 hz3; rcases hv with rfl | rfl <;> decide)] at q
    exact q
  have Kq10 : Keep T9.heap T10.heap [bn, b5] := Kc10
  have K10 : Keep h0 T10.heap [] := K9.trans Kq10 (own_trS (Or.inr sz_bn) (own_trS (Or.inr sz_b5) all0))
  have R10 := R9.trans (CHr.keep Kq10 (sfS Sf_bn_9 (sfS Sf_b5_9 sf0)) R9.1)
  have Sf_b4_10 := Safe.keep Kq10 (sfS Sf_bn_9 (sfS Sf_b5_9 sf0)) R9.1 Sf_b4_9
  have Sf_b5_10 := Safe.keep Kq10 (sfS Sf_bn_9 (sfS Sf_b5_9 sf0)) R9.1 Sf_b5_9
  have Sf_bv_10 := Safe.keep Kq10 (sfS Sf_bn_9 (sfS Sf_b5_9 sf0)) R9.1 Sf_bv_9
  have Sf_bn_10 := Safe.keep Kq10 (sfS Sf_bn_9 (sfS Sf_b5_9 sf0)) R9.1 Sf_bn_9
  obtain ⟨b11, T11, h11, k1_11, v11, kc11, X11, e11, E11, hS, hk, hZ11, hown11, E_b11, F_coder_b11, F_value_b11, V_v11, lt_b11, lt_v11, Cr11, Lit_b11, Sep11, st11⟩ := ldcCH X10 hx hZ8 hown8 (hw _ (wI 171 rfl)) (own_wS hw) rfl hS (Nat.le_trans (Nat.le_trans hk Kq9.1) Kq10.1) (own_EW hw) (by decide) R10.1 (vs := [(.int (34 : Int32)), (.int (59 : Int32)), (.int (32 : Int32)), (.int (103 : Int32)), (.int (105 : Int32)), (.int (118 : Int32)), (.int (101 : Int32)), (.int (32 : Int32))]) (z := (8 : Int32)) ⟨by decide, by decide⟩ (by decide) (by decide) (g := (mkF m 24 #[.val (.ref a1), .val (.ref a2), .val (.ref a3)] [(.ref b5), (.ref b4), (.ref b4)])) rfl (hb hby d33_24) (n := 32) (by decide) (by decide) (by decide) (by decide)
  have Sf_b4_11 := Cr11.safe ((((((E_b4.ext E5).keep Kq6).keep Kq7).ext E8).keep Kq9).keep Kq10).lt Sf_b4_10
  have Sf_b5_11 := Cr11.safe (((((E_b5.keep Kq6).keep Kq7).ext E8).keep Kq9).keep Kq10).lt Sf_b5_10
  have Sf_bv_11 := Cr11.safe ((((Vb6.keep Kq7 (fun q => absurd (List.mem_singleton.mp q) (Ne.symm (Nat.ne_of_lt (Nat.lt_of_lt_of_le E_b5.lt gz_bv))))).ext E8).keep Kq9 (own_nm (Nat.ne_of_lt (Nat.lt_of_lt_of_le Vb6.lt gz_bn)) (fun q => absurd (List.mem_singleton.mp q) (Ne.symm (Nat.ne_of_lt (Nat.lt_of_lt_of_le E_b5.lt gz_bv)))))).keep Kq10 (own_nm (Nat.ne_of_lt (Nat.lt_of_lt_of_le Vb6.lt gz_bn)) (fun q => absurd (List.mem_singleton.mp q) (Ne.symm (Nat.ne_of_lt (Nat.lt_of_lt_of_le E_b5.lt gz_bv)))))).lt Sf_bv_10
  have Sf_bn_11 := Cr11.safe Vf10.lt Sf_bn_10
  have R11 := R10.trans Cr11
  have K11 : Keep h0 h11 [] := K10.ext E11
  obtain ⟨cq12, kq12, q12a, q12b, q12c⟩ := isOf hZ11 e11 ((((((E_b5.keep Kq6).keep Kq7).ext E8).keep Kq9).keep Kq10).ext E11)
  obtain ⟨_, _, ⟨T12, L12, k12, n12⟩, -, X12, ⟨Lc12, hQ12, l12, y12, z12⟩, st12⟩ := X11.virtualBack hx (y := (⟨"java/lang/StringBuilder", "append", "(Ljava/lang/String;)Ljava/lang/StringBuilder;"⟩ : MethodName)) (z := (⟨"java/lang/StringBuilder", "append", "(Ljava/lang/String;)Ljava/lang/StringBuilder;"⟩ : MethodName)) hown11 (mvT hZ11 (hw _ (wI 56 rfl))) (mvT hZ11 (hw _ (wI 57 rfl))) (notFace_of_selects (args := #[]) (mvT hZ11 (hw _ (wI 59 rfl)))) (mvT hZ11 (hw _ (wI 59 rfl))) (mvT hZ11 (hw _ (wI 58 rfl))) (by decide) (backOf (W := 2) (rm10g l Z a0 hw [] b5 b11 G1 bn v11 ((((0 : Int32) + z_s1) + (5 : Int32)) + z_s2) (70 : Int32) kbn (34 : Int32) (own_fl 34 (((([] : List Value) ++ vs_s1) ++ [(.int (32 : Int32)), (.int (105 : Int32)), (.int (115 : Int32)), (.int (32 : Int32)), (.int (34 : Int32))]) ++ vs_s2)) (.int (0 : Int32)) kc11 (8 : Int32) [(.int (34 : Int32)), (.int (59 : Int32)), (.int (32 : Int32)), (.int (103 : Int32)), (.int (105 : Int32)), (.int (118 : Int32)), (.int (101 : Int32)), (.int (32 : Int32))] (.int (0 : Int32)) h11 n0 (Nat.le_trans (Nat.le_trans (Nat.le_trans (Nat.le_trans (Nat.le_trans (Nat.le_trans (Nat.le_trans (Nat.le_trans Z0 E4.1) E5.1) Kq6.1) Kq7.1) E8.1) Kq9.1) Kq10.1) E11.1) S_COMPACT_STRINGS (X00.keep K11 all0) P3 ((((((E_b5.keep Kq6).keep Kq7).ext E8).keep Kq9).keep Kq10).ext E11) (Fv10.ext E11) (Fd10.ext E11) (Fn10.ext E11) E_b11 F_value_b11 F_coder_b11 (Vf10.ext E11) V_v11 g_b5 (by (try simp only [List.length_append, ← hl1, ← hl2, ← hl3]); subst hz1 hz3; rcases hv with rfl | rfl <;> decide) (by (try simp only [List.length_append, ← hl1, ← hl2, ← hl3]); subst hz1 hz3; rcases hv with rfl | rfl <;> decide) (by (try simp only [List.length_append, ← hl1, ← hl2, ← hl3]); subst hz1 hz3; rcases hv with rfl | rfl <;> decide) (by (try simp only [List.length_append, ← hl1, ← hl2, ← hl3]); subst hz1 hz3; rcases hv with rfl | rfl <;> decide) (by (try simp only [List.length_append, ← hl1, ← hl2, ← hl3]); subst hz1 hz3; rcases hv with rfl | rfl <;> decide) (by decide) (by decide) (by decide) (by decide) (by decide) (by decide) (by rw [own_fl_len (by (try simp only [List.length_append, ← hl1, ← hl2, ← hl3]); subst hz1 hz3; rcases hv with rfl | rfl <;> decide)]; (try simp only [List.length_append, ← hl1, ← hl2, ← hl3]); subst hz1 hz3; rcases hv with rfl | rfl <;> decide) (by decide) (by decide) (by (try simp only [List.length_append, ← hl1, ← hl2, ← hl3]); subst hz1 hz3; rcases hv with rfl | rfl <;> decide) (by (try simp only [List.length_append, ← hl1, ← hl2, ← hl3]); subst hz1 hz3; rcases hv with rfl | rfl <;> decide) (by rw [own_fl_grow (by (try simp only [List.length_append, ← hl1, ← hl2, ← hl3]); subst hz1 hz3; rcases hv with rfl | rfl <;> decide) (by decide), own_fl_len (by (try simp only [List.length_append, ← hl1, ← hl2, ← hl3]); subst hz1 hz3; rcases hv with rfl | rfl <;> decide)]; (try simp only [List.length_append, ← hl1, ← hl2, ← hl3]); subst hz1 hz3; rcases hv with rfl | rfl <;> decide)) hZ11 (hw _ (wI 60 rfl)) (hw _ (wI 39 rfl)) (by decide) (by decide)) q12a q12c (g := (mkF m 26 #[.val (.ref a1), .val (.ref a2), .val (.ref a3)] [(.ref b11), (.ref b5), (.ref b4), (.ref b4)])) rfl (by rw [hml]; rfl) (Steps.refl _) (argsL := [(.ref b11)]) (rest := [(.ref b4), (.ref b4)]) (lenOf pd_33_8 rfl) rfl (by show 2 * 0 + _ ≤ _; exact Nat.le_of_eq rfl) (hb hby d33_26) (fun _ _ => ⟨rfl, e11, (by decide : 8 + 1 ≤ _), (by decide : 156 + 70 ≤ _)⟩)
  dsimp only [Pt.U, Pt.locs, Pt.cells, Pt.slots] at X12 l12 y12 z12 st12 hQ12
  subst l12 y12 z12
  obtain ⟨rfl, N12q, Kc12, bq, kbq, g_bq, gz_bq, Fn12, Fv12, Fd12, Vb12⟩ := hQ12
  have N12 := Fr.app N10 N12q
  have sz_bq : h0.size ≤ bq := Nat.le_trans K11.1 gz_bq
  have Vf12 : Arv Z T12.heap bq kbq .byte (70 : Int32) (own_fl 70 ((((([] : List Value) ++ vs_s1) ++ [(.int (32 : Int32)), (.int (105 : Int32)), (.int (115 : Int32)), (.int (32 : Int32)), (.int (34 : Int32))]) ++ vs_s2) ++ [(.int (34 : Int32)), (.int (59 : Int32)), (.int (32 : Int32)), (.int (103 : Int32)), (.int (105 : Int32)), (.int (118 : Int32)), (.int (101 : Int32)), (.int (32 : Int32))])) (.int (0 : Int32)) := by
    have q := Vb12
    rw [own_fl_grow (by (try simp only [List.length_append, ← hl1, ← hl2, ← hl3]); subst hz1 hz3; rcases hv with rfl | rfl <;> decide) (by decide), own_fl_upd _ _ _ (by (try simp only [List.length_append, ← hl1, ← hl2, ← hl3]); subst hz1 hz3; rcases hv with rfl | rfl <;> decide)] at q
    exact q
  have Kq12 : Keep h11 T12.heap [b5] := Kc12
  have K12 : Keep h0 T12.heap [] := K11.trans Kq12 (own_trS (Or.inr sz_b5) all0)
  have R12 := R11.trans (CHr.keep Kq12 (sfS Sf_b5_11 sf0) R11.1)
  have Sf_b4_12 := Safe.keep Kq12 (sfS Sf_b5_11 sf0) R11.1 Sf_b4_11
  have Sf_b5_12 := Safe.keep Kq12 (sfS Sf_b5_11 sf0) R11.1 Sf_b5_11
  have Sf_bv_12 := Safe.keep Kq12 (sfS Sf_b5_11 sf0) R11.1 Sf_bv_11
  have Sf_bn_12 := Safe.keep Kq12 (sfS Sf_b5_11 sf0) R11.1 Sf_bn_11
  have Sf_bq_12 := Safe.keep Kq12 (sfS Sf_b5_11 sf0) R11.1 (Safe.new gz_bq)
  obtain ⟨cq13, kq13, q13a, q13b, q13c⟩ := isOf hZ11 rfl (((((((E_b5.keep Kq6).keep Kq7).ext E8).keep Kq9).keep Kq10).ext E11).keep Kq12)
  obtain ⟨_, _, ⟨T13, L13, k13, n13⟩, -, X13, ⟨Lc13, hQ13, l13, y13, z13⟩, st13⟩ := X12.virtualBack hx (y := (⟨"java/lang/StringBuilder", "append", "(Ljava/lang/String;)Ljava/lang/StringBuilder;"⟩ : MethodName)) (z := (⟨"java/lang/StringBuilder", "append", "(Ljava/lang/String;)Ljava/lang/StringBuilder;"⟩ : MethodName)) hown11 (mvT hZ11 (hw _ (wI 56 rfl))) (mvT hZ11 (hw _ (wI 57 rfl))) (notFace_of_selects (args := #[]) (mvT hZ11 (hw _ (wI 59 rfl)))) (mvT hZ11 (hw _ (wI 59 rfl))) (mvT hZ11 (hw _ (wI 58 rfl))) (by decide) (backOf (W := 2) (rm10 l Z a0 hw [] b5 a3 G1 bq s3 (((((0 : Int32) + z_s1) + (5 : Int32)) + z_s2) + (8 : Int32)) kbq (70 : Int32) (own_fl 70 ((((([] : List Value) ++ vs_s1) ++ [(.int (32 : Int32)), (.int (105 : Int32)), (.int (115 : Int32)), (.int (32 : Int32)), (.int (34 : Int32))]) ++ vs_s2) ++ [(.int (34 : Int32)), (.int (59 : Int32)), (.int (32 : Int32)), (.int (103 : Int32)), (.int (105 : Int32)), (.int (118 : Int32)), (.int (101 : Int32)), (.int (32 : Int32))])) (.int (0 : Int32)) k_s3 z_s3 vs_s3 dv_s3 T12.heap n0 (Nat.le_trans (Nat.le_trans (Nat.le_trans (Nat.le_trans (Nat.le_trans (Nat.le_trans (Nat.le_trans (Nat.le_trans (Nat.le_trans Z0 E4.1) E5.1) Kq6.1) Kq7.1) E8.1) Kq9.1) Kq10.1) E11.1) Kq12.1) S_COMPACT_STRINGS (X00.keep K12 all0) P3 (((((((E_b5.keep Kq6).keep Kq7).ext E8).keep Kq9).keep Kq10).ext E11).keep Kq12) Fv12 Fd12 Fn12 (((((((((E_a3.ext E4).ext E5).keep Kq6).keep Kq7).ext E8).keep Kq9).keep Kq10).ext E11).keep Kq12) (((((((((F_value_a3.ext E4).ext E5).keep Kq6 (fun q => absurd (List.mem_singleton.mp q) (Nat.ne_of_lt (Nat.lt_of_lt_of_le (E_a3.ext E4).lt (Nat.le_of_eq g5.symm))))).keep Kq7 (fun q => absurd (List.mem_singleton.mp q) (Nat.ne_of_lt (Nat.lt_of_lt_of_le (E_a3.ext E4).lt (Nat.le_of_eq g5.symm))))).ext E8).keep Kq9 (own_nm (Nat.ne_of_lt (Nat.lt_of_lt_of_le (((E_a3.ext E4).ext E5).keep Kq6).lt gz_bn)) (fun q => absurd (List.mem_singleton.mp q) (Nat.ne_of_lt (Nat.lt_of_lt_of_le (E_a3.ext E4).lt (Nat.le_of_eq g5.symm)))))).keep Kq10 (own_nm (Nat.ne_of_lt (Nat.lt_of_lt_of_le (((E_a3.ext E4).ext E5).keep Kq6).lt gz_bn)) (fun q => absurd (List.mem_singleton.mp q) (Nat.ne_of_lt (Nat.lt_of_lt_of_le (E_a3.ext E4).lt (Nat.le_of_eq g5.symm)))))).ext E11).keep Kq12 (fun q => absurd (List.mem_singleton.mp q) (Nat.ne_of_lt (Nat.lt_of_lt_of_le (E_a3.ext E4).lt (Nat.le_of_eq g5.symm))))) (((((((((F_coder_a3.ext E4).ext E5).keep Kq6 (fun q => absurd (List.mem_singleton.mp q) (Nat.ne_of_lt (Nat.lt_of_lt_of_le (E_a3.ext E4).lt (Nat.le_of_eq g5.symm))))).keep Kq7 (fun q => absurd (List.mem_singleton.mp q) (Nat.ne_of_lt (Nat.lt_of_lt_of_le (E_a3.ext E4).lt (Nat.le_of_eq g5.symm))))).ext E8).keep Kq9 (own_nm (Nat.ne_of_lt (Nat.lt_of_lt_of_le (((E_a3.ext E4).ext E5).keep Kq6).lt gz_bn)) (fun q => absurd (List.mem_singleton.mp q) (Nat.ne_of_lt (Nat.lt_of_lt_of_le (E_a3.ext E4).lt (Nat.le_of_eq g5.symm)))))).keep Kq10 (own_nm (Nat.ne_of_lt (Nat.lt_of_lt_of_le (((E_a3.ext E4).ext E5).keep Kq6).lt gz_bn)) (fun q => absurd (List.mem_singleton.mp q) (Nat.ne_of_lt (Nat.lt_of_lt_of_le (E_a3.ext E4).lt (Nat.le_of_eq g5.symm)))))).ext E11).keep Kq12 (fun q => absurd (List.mem_singleton.mp q) (Nat.ne_of_lt (Nat.lt_of_lt_of_le (E_a3.ext E4).lt (Nat.le_of_eq g5.symm))))) Vf12 (((((((((V_s3.ext E4).ext E5).keep Kq6 (fun q => absurd (List.mem_singleton.mp q) (Nat.ne_of_lt (Nat.lt_of_lt_of_le (V_s3.ext E4).lt (Nat.le_of_eq g5.symm))))).keep Kq7 (fun q => absurd (List.mem_singleton.mp q) (Nat.ne_of_lt (Nat.lt_of_lt_of_le (V_s3.ext E4).lt (Nat.le_of_eq g5.symm))))).ext E8).keep Kq9 (own_nm (Nat.ne_of_lt (Nat.lt_of_lt_of_le (((V_s3.ext E4).ext E5).keep Kq6 (fun q => absurd (List.mem_singleton.mp q) (Nat.ne_of_lt (Nat.lt_of_lt_of_le (V_s3.ext E4).lt (Nat.le_of_eq g5.symm))))).lt gz_bn)) (fun q => absurd (List.mem_singleton.mp q) (Nat.ne_of_lt (Nat.lt_of_lt_of_le (V_s3.ext E4).lt (Nat.le_of_eq g5.symm)))))).keep Kq10 (own_nm (Nat.ne_of_lt (Nat.lt_of_lt_of_le (((V_s3.ext E4).ext E5).keep Kq6 (fun q => absurd (List.mem_singleton.mp q) (Nat.ne_of_lt (Nat.lt_of_lt_of_le (V_s3.ext E4).lt (Nat.le_of_eq g5.symm))))).lt gz_bn)) (fun q => absurd (List.mem_singleton.mp q) (Nat.ne_of_lt (Nat.lt_of_lt_of_le (V_s3.ext E4).lt (Nat.le_of_eq g5.symm)))))).ext E11).keep Kq12 (fun q => absurd (List.mem_singleton.mp q) (Nat.ne_of_lt (Nat.lt_of_lt_of_le (V_s3.ext E4).lt (Nat.le_of_eq g5.symm))))) g_bq g_b5 hl3 (by (try simp only [List.length_append, ← hl1, ← hl2, ← hl3]); subst hz1 hz3; rcases hv with rfl | rfl <;> decide) (by (try simp only [List.length_append, ← hl1, ← hl2, ← hl3]); subst hz1 hz3; rcases hv with rfl | rfl <;> decide) (by rw [own_fl_len (by (try simp only [List.length_append, ← hl1, ← hl2, ← hl3]); subst hz1 hz3; rcases hv with rfl | rfl <;> decide)]; (try simp only [List.length_append, ← hl1, ← hl2, ← hl3]); subst hz1 hz3; rcases hv with rfl | rfl <;> decide) (by (try simp only [List.length_append, ← hl1, ← hl2, ← hl3]); subst hz1 hz3; rcases hv with rfl | rfl <;> decide)) hZ11 (hw _ (wI 60 rfl)) (hw _ (wI 39 rfl)) (by decide) (by decide)) q13a q13c (g := (mkF m 30 #[.val (.ref a1), .val (.ref a2), .val (.ref a3)] [(.ref a3), (.ref b5), (.ref b4), (.ref b4)])) rfl (by rw [hml]; rfl) (Steps.refl _) (argsL := [(.ref a3)]) (rest := [(.ref b4), (.ref b4)]) (lenOf pd_33_8 rfl) rfl (by show 2 * 0 + _ ≤ _; exact Nat.le_of_eq rfl) (hb hby d33_30) (fun _ _ => ⟨rfl, rfl, (by decide : 9 + 0 ≤ _), (by decide : 226 + 0 ≤ _)⟩)
  dsimp only [Pt.U, Pt.locs, Pt.cells, Pt.slots] at X13 l13 y13 z13 st13 hQ13
  subst l13 y13 z13
  obtain ⟨rfl, N13q, Kc13, Fn13, Fv13, Fd13, Vb13⟩ := hQ13
  have N13 := Fr.app N12 N13q
  have Vf13 : Arv Z T13.heap bq kbq .byte (70 : Int32) (own_fl 70 (((((([] : List Value) ++ vs_s1) ++ [(.int (32 : Int32)), (.int (105 : Int32)), (.int (115 : Int32)), (.int (32 : Int32)), (.int (34 : Int32))]) ++ vs_s2) ++ [(.int (34 : Int32)), (.int (59 : Int32)), (.int (32 : Int32)), (.int (103 : Int32)), (.int (105 : Int32)), (.int (118 : Int32)), (.int (101 : Int32)), (.int (32 : Int32))]) ++ vs_s3)) (.int (0 : Int32)) := by
    have q := Vb13
    rw [own_fl_upd _ _ _ (by (try simp only [List.length_append, ← hl1, ← hl2, ← hl3]); subst hz1 hz3; rcases hv with rfl | rfl <;> decide)] at q
    exact q
  have Kq13 : Keep T12.heap T13.heap [bq, b5] := Kc13
  have K13 : Keep h0 T13.heap [] := K12.trans Kq13 (own_trS (Or.inr sz_bq) (own_trS (Or.inr sz_b5) all0))
  have R13 := R12.trans (CHr.keep Kq13 (sfS Sf_bq_12 (sfS Sf_b5_12 sf0)) R12.1)
  have Sf_b4_13 := Safe.keep Kq13 (sfS Sf_bq_12 (sfS Sf_b5_12 sf0)) R12.1 Sf_b4_12
  have Sf_b5_13 := Safe.keep Kq13 (sfS Sf_bq_12 (sfS Sf_b5_12 sf0)) R12.1 Sf_b5_12
  have Sf_bv_13 := Safe.keep Kq13 (sfS Sf_bq_12 (sfS Sf_b5_12 sf0)) R12.1 Sf_bv_12
  have Sf_bn_13 := Safe.keep Kq13 (sfS Sf_bq_12 (sfS Sf_b5_12 sf0)) R12.1 Sf_bn_12
  have Sf_bq_13 := Safe.keep Kq13 (sfS Sf_bq_12 (sfS Sf_b5_12 sf0)) R12.1 Sf_bq_12
  obtain ⟨cq14, kq14, q14a, q14b, q14c⟩ := isOf hZ11 rfl ((((((((E_b5.keep Kq6).keep Kq7).ext E8).keep Kq9).keep Kq10).ext E11).keep Kq12).keep Kq13)
  obtain ⟨_, _, ⟨T14, L14, k14, n14⟩, -, X14, ⟨Lc14, hQ14, l14, y14, z14⟩, st14⟩ := X13.virtualBack hx (y := (⟨"java/lang/StringBuilder", "toString", "()Ljava/lang/String;"⟩ : MethodName)) (z := (⟨"java/lang/StringBuilder", "toString", "()Ljava/lang/String;"⟩ : MethodName)) hown11 (mvT hZ11 (hw _ (wI 126 rfl))) (mvT hZ11 (hw _ (wI 127 rfl))) (notFace_of_selects (args := #[]) (mvT hZ11 (hw _ (wI 129 rfl)))) (mvT hZ11 (hw _ (wI 129 rfl))) (mvT hZ11 (hw _ (wI 128 rfl))) (by decide) (backOf (W := 2) (rm23 l Z a0 hw [] b5 G1 bq ((((((0 : Int32) + z_s1) + (5 : Int32)) + z_s2) + (8 : Int32)) + z_s3) kbq (70 : Int32) (own_fl 70 (((((([] : List Value) ++ vs_s1) ++ [(.int (32 : Int32)), (.int (105 : Int32)), (.int (115 : Int32)), (.int (32 : Int32)), (.int (34 : Int32))]) ++ vs_s2) ++ [(.int (34 : Int32)), (.int (59 : Int32)), (.int (32 : Int32)), (.int (103 : Int32)), (.int (105 : Int32)), (.int (118 : Int32)), (.int (101 : Int32)), (.int (32 : Int32))]) ++ vs_s3)) (.int (0 : Int32)) T13.heap n0 (Nat.le_trans (Nat.le_trans (Nat.le_trans (Nat.le_trans (Nat.le_trans (Nat.le_trans (Nat.le_trans (Nat.le_trans (Nat.le_trans (Nat.le_trans Z0 E4.1) E5.1) Kq6.1) Kq7.1) E8.1) Kq9.1) Kq10.1) E11.1) Kq12.1) Kq13.1) S_COMPACT_STRINGS (X00.keep K13 all0) P3 ((((((((E_b5.keep Kq6).keep Kq7).ext E8).keep Kq9).keep Kq10).ext E11).keep Kq12).keep Kq13) Fv13 Fd13 Fn13 Vf13 (by (try simp only [List.length_append, ← hl1, ← hl2, ← hl3]); subst hz1 hz3; rcases hv with rfl | rfl <;> decide) (by (try simp only [List.length_append, ← hl1, ← hl2, ← hl3]); subst hz1 hz3; rcases hv with rfl | rfl <;> decide) (by (try simp only [List.length_append, ← hl1, ← hl2, ← hl3]); subst hz1 hz3; rcases hv with rfl | rfl <;> decide) (by rw [own_fl_len (by (try simp only [List.length_append, ← hl1, ← hl2, ← hl3]); subst hz1 hz3; rcases hv with rfl | rfl <;> decide)]; (try simp only [List.length_append, ← hl1, ← hl2, ← hl3]); subst hz1 hz3; rcases hv with rfl | rfl <;> decide)) hZ11 (hw _ (wI 130 rfl)) (hw _ (wI 39 rfl)) (by decide) (by decide)) q14a q14c (g := (mkF m 33 #[.val (.ref a1), .val (.ref a2), .val (.ref a3)] [(.ref b5), (.ref b4), (.ref b4)])) rfl (by rw [hml]; rfl) (Steps.refl _) (argsL := []) (rest := [(.ref b4), (.ref b4)]) (lenOf pd_33_20 rfl) rfl (by show 2 * 0 + _ ≤ _; exact Nat.le_of_eq rfl) (hb hby d33_33) (fun _ _ => ⟨rfl, rfl, (by decide : 9 + 2 ≤ _), (by decide : 226 + 44 ≤ _)⟩)
  dsimp only [Pt.U, Pt.locs, Pt.cells, Pt.slots] at X14 l14 y14 z14 st14 hQ14
  subst l14 y14 z14
  obtain ⟨bm, rfl, N14q, g_bm, gz_bm, Kt14, E_bm, tm, ktm, g_tm, gz_tm, Fv_bm, Fc_bm, V_tm0⟩ := hQ14
  have N14 := Fr.app N13 N14q
  have V_tm : Arv Z T14.heap tm ktm .byte ((((((0 : Int32) + z_s1) + (5 : Int32)) + z_s2) + (8 : Int32)) + z_s3) (((((([] : List Value) ++ vs_s1) ++ [(.int (32 : Int32)), (.int (105 : Int32)), (.int (115 : Int32)), (.int (32 : Int32)), (.int (34 : Int32))]) ++ vs_s2) ++ [(.int (34 : Int32)), (.int (59 : Int32)), (.int (32 : Int32)), (.int (103 : Int32)), (.int (105 : Int32)), (.int (118 : Int32)), (.int (101 : Int32)), (.int (32 : Int32))]) ++ vs_s3) (.int (0 : Int32)) := by
    have q := V_tm0
    rw [own_fl_take _ _ (by (try simp only [List.length_append, ← hl1, ← hl2, ← hl3]); subst hz1 hz3; rcases hv with rfl | rfl <;> decide)] at q
    exact q
  have Kq14 : Keep T13.heap T14.heap [] := Kt14
  have K14 : Keep h0 T14.heap [] := K13.trans Kq14 all0
  have R14 := R13.trans (CHr.keep Kq14 sf0 R13.1)
  have Sf_b4_14 := Safe.keep Kq14 sf0 R13.1 Sf_b4_13
  have Sf_b5_14 := Safe.keep Kq14 sf0 R13.1 Sf_b5_13
  have Sf_bv_14 := Safe.keep Kq14 sf0 R13.1 Sf_bv_13
  have Sf_bn_14 := Safe.keep Kq14 sf0 R13.1 Sf_bn_13
  have Sf_bq_14 := Safe.keep Kq14 sf0 R13.1 Sf_bq_13
  have Sf_bm_14 := Safe.keep Kq14 sf0 R13.1 (Safe.new gz_bm)
  have Sf_tm_14 := Safe.keep Kq14 sf0 R13.1 (Safe.new gz_tm)
  obtain ⟨_, _, ⟨T15, L15, k15, n15⟩, -, X15, ⟨Lc15, hQ15, l15, y15, z15⟩, st15⟩ := X14.specialBack hx (y := (⟨"com/example/shiken/shiken/ContextException", "<init>", "(Ljava/lang/String;)V"⟩ : MethodName)) rfl hown11 (mvT hZ11 (hw _ (wI 172 rfl))) (mvT hZ11 (hw _ (wI 173 rfl))) (mvT hZ11 (hw _ (wI 174 rfl))) (by decide) (backOfKL (W := 1) (rm34 l Z a0 hw [] b4 bm G2 G3 T14.heap n0 (Nat.le_trans (Nat.le_trans (Nat.le_trans (Nat.le_trans (Nat.le_trans (Nat.le_trans (Nat.le_trans (Nat.le_trans (Nat.le_trans (Nat.le_trans (Nat.le_trans Z0 E4.1) E5.1) Kq6.1) Kq7.1) E8.1) Kq9.1) Kq10.1) E11.1) Kq12.1) Kq13.1) Kq14.1) hl S_UNASSIGNED_STACK (X00.keep K14 all0) S_SUPPRESSED_SENTINEL ((((((((((E_b4.ext E5).keep Kq6).keep Kq7).ext E8).keep Kq9).keep Kq10).ext E11).keep Kq12).keep Kq13).keep Kq14) ((((((((((F_cause_b4.ext E5).keep Kq6 (fun q => absurd (List.mem_singleton.mp q) (Nat.ne_of_lt (Nat.lt_of_lt_of_le E_b4.lt (Nat.le_of_eq g5.symm))))).keep Kq7 (fun q => absurd (List.mem_singleton.mp q) (Nat.ne_of_lt (Nat.lt_of_lt_of_le E_b4.lt (Nat.le_of_eq g5.symm))))).ext E8).keep Kq9 (own_nm (Nat.ne_of_lt (Nat.lt_of_lt_of_le ((E_b4.ext E5).keep Kq6).lt gz_bn)) (fun q => absurd (List.mem_singleton.mp q) (Nat.ne_of_lt (Nat.lt_of_lt_of_le E_b4.lt (Nat.le_of_eq g5.symm)))))).keep Kq10 (own_nm (Nat.ne_of_lt (Nat.lt_of_lt_of_le ((E_b4.ext E5).keep Kq6).lt gz_bn)) (fun q => absurd (List.mem_singleton.mp q) (Nat.ne_of_lt (Nat.lt_of_lt_of_le E_b4.lt (Nat.le_of_eq g5.symm)))))).ext E11).keep Kq12 (fun q => absurd (List.mem_singleton.mp q) (Nat.ne_of_lt (Nat.lt_of_lt_of_le E_b4.lt (Nat.le_of_eq g5.symm))))).keep Kq13 (own_nm (Nat.ne_of_lt (Nat.lt_of_lt_of_le (((((((E_b4.ext E5).keep Kq6).keep Kq7).ext E8).keep Kq9).keep Kq10).ext E11).lt gz_bq)) (fun q => absurd (List.mem_singleton.mp q) (Nat.ne_of_lt (Nat.lt_of_lt_of_le E_b4.lt (Nat.le_of_eq g5.symm)))))).keep Kq14 (fun q => nomatch q)) ((((((((((F_stackTrace_b4.ext E5).keep Kq6 (fun q => absurd (List.mem_singleton.mp q) (Nat.ne_of_lt (Nat.lt_of_lt_of_le E_b4.lt (Nat.le_of_eq g5.symm))))).keep Kq7 (fun q => absurd (List.mem_singleton.mp q) (Nat.ne_of_lt (Nat.lt_of_lt_of_le E_b4.lt (Nat.le_of_eq g5.symm))))).ext E8).keep Kq9 (own_nm (Nat.ne_of_lt (Nat.lt_of_lt_of_le ((E_b4.ext E5).keep Kq6).lt gz_bn)) (fun q => absurd (List.mem_singleton.mp q) (Nat.ne_of_lt (Nat.lt_of_lt_of_le E_b4.lt (Nat.le_of_eq g5.symm)))))).keep Kq10 (own_nm (Nat.ne_of_lt (Nat.lt_of_lt_of_le ((E_b4.ext E5).keep Kq6).lt gz_bn)) (fun q => absurd (List.mem_singleton.mp q) (Nat.ne_of_lt (Nat.lt_of_lt_of_le E_b4.lt (Nat.le_of_eq g5.symm)))))).ext E11).keep Kq12 (fun q => absurd (List.mem_singleton.mp q) (Nat.ne_of_lt (Nat.lt_of_lt_of_le E_b4.lt (Nat.le_of_eq g5.symm))))).keep Kq13 (own_nm (Nat.ne_of_lt (Nat.lt_of_lt_of_le (((((((E_b4.ext E5).keep Kq6).keep Kq7).ext E8).keep Kq9).keep Kq10).ext E11).lt gz_bq)) (fun q => absurd (List.mem_singleton.mp q) (Nat.ne_of_lt (Nat.lt_of_lt_of_le E_b4.lt (Nat.le_of_eq g5.symm)))))).keep Kq14 (fun q => nomatch q)) ((((((((((F_suppressedExceptions_b4.ext E5).keep Kq6 (fun q => absurd (List.mem_singleton.mp q) (Nat.ne_of_lt (Nat.lt_of_lt_of_le E_b4.lt (Nat.le_of_eq g5.symm))))).keep Kq7 (fun q => absurd (List.mem_singleton.mp q) (Nat.ne_of_lt (Nat.lt_of_lt_of_le E_b4.lt (Nat.le_of_eq g5.symm))))).ext E8).keep Kq9 (own_nm (Nat.ne_of_lt (Nat.lt_of_lt_of_le ((E_b4.ext E5).keep Kq6).lt gz_bn)) (fun q => absurd (List.mem_singleton.mp q) (Nat.ne_of_lt (Nat.lt_of_lt_of_le E_b4.lt (Nat.le_of_eq g5.symm)))))).keep Kq10 (own_nm (Nat.ne_of_lt (Nat.lt_of_lt_of_le ((E_b4.ext E5).keep Kq6).lt gz_bn)) (fun q => absurd (List.mem_singleton.mp q) (Nat.ne_of_lt (Nat.lt_of_lt_of_le E_b4.lt (Nat.le_of_eq g5.symm)))))).ext E11).keep Kq12 (fun q => absurd (List.mem_singleton.mp q) (Nat.ne_of_lt (Nat.lt_of_lt_of_le E_b4.lt (Nat.le_of_eq g5.symm))))).keep Kq13 (own_nm (Nat.ne_of_lt (Nat.lt_of_lt_of_le (((((((E_b4.ext E5).keep Kq6).keep Kq7).ext E8).keep Kq9).keep Kq10).ext E11).lt gz_bq)) (fun q => absurd (List.mem_singleton.mp q) (Nat.ne_of_lt (Nat.lt_of_lt_of_le E_b4.lt (Nat.le_of_eq g5.symm)))))).keep Kq14 (fun q => nomatch q)) ((((((((((F_detailMessage_b4.ext E5).keep Kq6 (fun q => absurd (List.mem_singleton.mp q) (Nat.ne_of_lt (Nat.lt_of_lt_of_le E_b4.lt (Nat.le_of_eq g5.symm))))).keep Kq7 (fun q => absurd (List.mem_singleton.mp q) (Nat.ne_of_lt (Nat.lt_of_lt_of_le E_b4.lt (Nat.le_of_eq g5.symm))))).ext E8).keep Kq9 (own_nm (Nat.ne_of_lt (Nat.lt_of_lt_of_le ((E_b4.ext E5).keep Kq6).lt gz_bn)) (fun q => absurd (List.mem_singleton.mp q) (Nat.ne_of_lt (Nat.lt_of_lt_of_le E_b4.lt (Nat.le_of_eq g5.symm)))))).keep Kq10 (own_nm (Nat.ne_of_lt (Nat.lt_of_lt_of_le ((E_b4.ext E5).keep Kq6).lt gz_bn)) (fun q => absurd (List.mem_singleton.mp q) (Nat.ne_of_lt (Nat.lt_of_lt_of_le E_b4.lt (Nat.le_of_eq g5.symm)))))).ext E11).keep Kq12 (fun q => absurd (List.mem_singleton.mp q) (Nat.ne_of_lt (Nat.lt_of_lt_of_le E_b4.lt (Nat.le_of_eq g5.symm))))).keep Kq13 (own_nm (Nat.ne_of_lt (Nat.lt_of_lt_of_le (((((((E_b4.ext E5).keep Kq6).keep Kq7).ext E8).keep Kq9).keep Kq10).ext E11).lt gz_bq)) (fun q => absurd (List.mem_singleton.mp q) (Nat.ne_of_lt (Nat.lt_of_lt_of_le E_b4.lt (Nat.le_of_eq g5.symm)))))).keep Kq14 (fun q => nomatch q)) ((((((((((F_backtrace_b4.ext E5).keep Kq6 (fun q => absurd (List.mem_singleton.mp q) (Nat.ne_of_lt (Nat.lt_of_lt_of_le E_b4.lt (Nat.le_of_eq g5.symm))))).keep Kq7 (fun q => absurd (List.mem_singleton.mp q) (Nat.ne_of_lt (Nat.lt_of_lt_of_le E_b4.lt (Nat.le_of_eq g5.symm))))).ext E8).keep Kq9 (own_nm (Nat.ne_of_lt (Nat.lt_of_lt_of_le ((E_b4.ext E5).keep Kq6).lt gz_bn)) (fun q => absurd (List.mem_singleton.mp q) (Nat.ne_of_lt (Nat.lt_of_lt_of_le E_b4.lt (Nat.le_of_eq g5.symm)))))).keep Kq10 (own_nm (Nat.ne_of_lt (Nat.lt_of_lt_of_le ((E_b4.ext E5).keep Kq6).lt gz_bn)) (fun q => absurd (List.mem_singleton.mp q) (Nat.ne_of_lt (Nat.lt_of_lt_of_le E_b4.lt (Nat.le_of_eq g5.symm)))))).ext E11).keep Kq12 (fun q => absurd (List.mem_singleton.mp q) (Nat.ne_of_lt (Nat.lt_of_lt_of_le E_b4.lt (Nat.le_of_eq g5.symm))))).keep Kq13 (own_nm (Nat.ne_of_lt (Nat.lt_of_lt_of_le (((((((E_b4.ext E5).keep Kq6).keep Kq7).ext E8).keep Kq9).keep Kq10).ext E11).lt gz_bq)) (fun q => absurd (List.mem_singleton.mp q) (Nat.ne_of_lt (Nat.lt_of_lt_of_le E_b4.lt (Nat.le_of_eq g5.symm)))))).keep Kq14 (fun q => nomatch q)) ((((((((((U_b4.ext E5).keep Kq6 (fun q => absurd (List.mem_singleton.mp q) (Nat.ne_of_lt (Nat.lt_of_lt_of_le E_b4.lt (Nat.le_of_eq g5.symm))))).keep Kq7 (fun q => absurd (List.mem_singleton.mp q) (Nat.ne_of_lt (Nat.lt_of_lt_of_le E_b4.lt (Nat.le_of_eq g5.symm))))).ext E8).keep Kq9 (own_nm (Nat.ne_of_lt (Nat.lt_of_lt_of_le ((E_b4.ext E5).keep Kq6).lt gz_bn)) (fun q => absurd (List.mem_singleton.mp q) (Nat.ne_of_lt (Nat.lt_of_lt_of_le E_b4.lt (Nat.le_of_eq g5.symm)))))).keep Kq10 (own_nm (Nat.ne_of_lt (Nat.lt_of_lt_of_le ((E_b4.ext E5).keep Kq6).lt gz_bn)) (fun q => absurd (List.mem_singleton.mp q) (Nat.ne_of_lt (Nat.lt_of_lt_of_le E_b4.lt (Nat.le_of_eq g5.symm)))))).ext E11).keep Kq12 (fun q => absurd (List.mem_singleton.mp q) (Nat.ne_of_lt (Nat.lt_of_lt_of_le E_b4.lt (Nat.le_of_eq g5.symm))))).keep Kq13 (own_nm (Nat.ne_of_lt (Nat.lt_of_lt_of_le (((((((E_b4.ext E5).keep Kq6).keep Kq7).ext E8).keep Kq9).keep Kq10).ext E11).lt gz_bq)) (fun q => absurd (List.mem_singleton.mp q) (Nat.ne_of_lt (Nat.lt_of_lt_of_le E_b4.lt (Nat.le_of_eq g5.symm)))))).keep Kq14 (fun q => nomatch q)) g_b4) hZ11 (hw _ (wI 174 rfl)) (hw _ (wI 35 rfl)) (by decide) (by decide) (Vm.MethodsKnown.alikeC (hZ.alike.symm.trans hZ11.alike) hK.1) (Vm.FramesKnown.alikeC (hZ.alike.symm.trans hZ11.alike) hK.2)) (g := (mkF m 36 #[.val (.ref a1), .val (.ref a2), .val (.ref a3)] [(.ref bm), (.ref b4), (.ref b4)])) rfl (by rw [hml]; rfl) (Steps.refl _) (a := b4) (argsL := [(.ref bm)]) (rest := [(.ref b4)]) (lenOf pd_33_18 rfl) rfl (by show 2 * 0 + _ ≤ _; exact Nat.le_of_eq rfl) (hb hby d33_36) (fun _ _ => ⟨rfl, rfl, (by decide : 11 + 1 ≤ _), (by decide : 270 + 2752 ≤ _)⟩)
  dsimp only [Pt.U, Pt.locs, Pt.cells, Pt.slots] at X15 l15 y15 z15 st15 hQ15
  subst l15 y15 z15
  obtain ⟨rfl, N15q, Kc15, Uc15, Fm15, Fc15⟩ := hQ15
  have N15 := Fr.app N14 N15q
  have Kq15 : Keep T14.heap T15.heap [b4] := Kc15
  have K15 : Keep h0 T15.heap [] := K14.trans Kq15 (own_trS (Or.inr sz_b4) all0)
  have R15 := R14.trans (CHr.keep Kq15 (sfS Sf_b4_14 sf0) R14.1)
  have Sf_b4_15 := Safe.keep Kq15 (sfS Sf_b4_14 sf0) R14.1 Sf_b4_14
  have Sf_b5_15 := Safe.keep Kq15 (sfS Sf_b4_14 sf0) R14.1 Sf_b5_14
  have Sf_bv_15 := Safe.keep Kq15 (sfS Sf_b4_14 sf0) R14.1 Sf_bv_14
  have Sf_bn_15 := Safe.keep Kq15 (sfS Sf_b4_14 sf0) R14.1 Sf_bn_14
  have Sf_bq_15 := Safe.keep Kq15 (sfS Sf_b4_14 sf0) R14.1 Sf_bq_14
  have Sf_bm_15 := Safe.keep Kq15 (sfS Sf_b4_14 sf0) R14.1 Sf_bm_14
  have Sf_tm_15 := Safe.keep Kq15 (sfS Sf_b4_14 sf0) R14.1 Sf_tm_14
  have End_0 := (((((((((((E_b4.ext E5).keep Kq6).keep Kq7).ext E8).keep Kq9).keep Kq10).ext E11).keep Kq12).keep Kq13).keep Kq14).keep Kq15)
  have End_1 := Uc15
  have End_2 := Fc15
  have End_3 := Fm15
  have End_4 := (E_bm.keep Kq15)
  have End_5 := (Fv_bm.keep Kq15 (fun q => absurd (List.mem_singleton.mp q) (Ne.symm (Nat.ne_of_lt (Nat.lt_of_lt_of_le (((((((((E_b4.ext E5).keep Kq6).keep Kq7).ext E8).keep Kq9).keep Kq10).ext E11).keep Kq12).keep Kq13).lt gz_bm)))))
  have End_6 := (Fc_bm.keep Kq15 (fun q => absurd (List.mem_singleton.mp q) (Ne.symm (Nat.ne_of_lt (Nat.lt_of_lt_of_le (((((((((E_b4.ext E5).keep Kq6).keep Kq7).ext E8).keep Kq9).keep Kq10).ext E11).keep Kq12).keep Kq13).lt gz_bm)))))
  have End_7 := (V_tm.keep Kq15 (fun q => absurd (List.mem_singleton.mp q) (Ne.symm (Nat.ne_of_lt (Nat.lt_of_lt_of_le (((((((((E_b4.ext E5).keep Kq6).keep Kq7).ext E8).keep Kq9).keep Kq10).ext E11).keep Kq12).keep Kq13).lt gz_tm)))))
  obtain ⟨fs, hr, hrun, hended, hRW⟩ := X15.leaveW hS ((Nat.le_trans (Nat.le_trans (Nat.le_trans (Nat.le_trans hk Kq12.1) Kq13.1) Kq14.1) Kq15.1)) (v := some (.ref b4)) (fun h => by rw [Bd.returns] at h; cases h)
  refine ⟨_, _, pre0 _ ?_, hrun, hended, _, _, rfl, ?_, ?_, hRW.1, hRW.2.1, hRW.2.2.1, hRW.2.2.2.mono (by decide) (by decide)⟩
  · show Steps p.tables e below (s₁.setTop (mkF m 0 #[.val (.ref a1), .val (.ref a2), .val (.ref a3)] [])) _
    refine st4 _ ?_
    show Steps p.tables e below (T4.setTop (mkF m 3 #[.val (.ref a1), .val (.ref a2), .val (.ref a3)] [(.ref b4)])) _
    refine XS.dup X4.here hx rfl (hb hby d33_3) rfl rfl ?_
    show Steps p.tables e below (T4.setTop (mkF m 4 #[.val (.ref a1), .val (.ref a2), .val (.ref a3)] [(.ref b4), (.ref b4)])) _
    refine st5 _ ?_
    show Steps p.tables e below (T5.setTop (mkF m 7 #[.val (.ref a1), .val (.ref a2), .val (.ref a3)] [(.ref b5), (.ref b4), (.ref b4)])) _
    refine XS.dup X5.here hx rfl (hb hby d33_7) rfl rfl ?_
    show Steps p.tables e below (T5.setTop (mkF m 8 #[.val (.ref a1), .val (.ref a2), .val (.ref a3)] [(.ref b5), (.ref b5), (.ref b4), (.ref b4)])) _
    refine st6.trans ?_
    show Steps p.tables e below (T6.setTop (mkF m 11 #[.val (.ref a1), .val (.ref a2), .val (.ref a3)] [(.ref b5), (.ref b4), (.ref b4)])) _
    refine XS.aloadN X6.here hx rfl (hb hby d33_11) rfl rfl ?_
    show Steps p.tables e below (T6.setTop (mkF m 12 #[.val (.ref a1), .val (.ref a2), .val (.ref a3)] [(.ref a1), (.ref b5), (.ref b4), (.ref b4)])) _
    refine st7.trans ?_
    show Steps p.tables e below (T7.setTop (mkF m 15 #[.val (.ref a1), .val (.ref a2), .val (.ref a3)] [(.ref b5), (.ref b4), (.ref b4)])) _
    refine st8 _ ?_
    show Steps p.tables e below (T8.setTop (mkF m 17 #[.val (.ref a1), .val (.ref a2), .val (.ref a3)] [(.ref b8), (.ref b5), (.ref b4), (.ref b4)])) _
    refine st9.trans ?_
    show Steps p.tables e below (T9.setTop (mkF m 20 #[.val (.ref a1), .val (.ref a2), .val (.ref a3)] [(.ref b5), (.ref b4), (.ref b4)])) _
    refine XS.aloadN X9.here hx rfl (hb hby d33_20) rfl rfl ?_
    show Steps p.tables e below (T9.setTop (mkF m 21 #[.val (.ref a1), .val (.ref a2), .val (.ref a3)] [(.ref a2), (.ref b5), (.ref b4), (.ref b4)])) _
    refine st10.trans ?_
    show Steps p.tables e below (T10.setTop (mkF m 24 #[.val (.ref a1), .val (.ref a2), .val (.ref a3)] [(.ref b5), (.ref b4), (.ref b4)])) _
    refine st11 _ ?_
    show Steps p.tables e below (T11.setTop (mkF m 26 #[.val (.ref a1), .val (.ref a2), .val (.ref a3)] [(.ref b11), (.ref b5), (.ref b4), (.ref b4)])) _
    refine st12.trans ?_
    show Steps p.tables e below (T12.setTop (mkF m 29 #[.val (.ref a1), .val (.ref a2), .val (.ref a3)] [(.ref b5), (.ref b4), (.ref b4)])) _
    refine XS.aloadN X12.here hx rfl (hb hby d33_29) rfl rfl ?_
    show Steps p.tables e below (T12.setTop (mkF m 30 #[.val (.ref a1), .val (.ref a2), .val (.ref a3)] [(.ref a3), (.ref b5), (.ref b4), (.ref b4)])) _
    refine st13.trans ?_
    show Steps p.tables e below (T13.setTop (mkF m 33 #[.val (.ref a1), .val (.ref a2), .val (.ref a3)] [(.ref b5), (.ref b4), (.ref b4)])) _
    refine st14.trans ?_
    show Steps p.tables e below (T14.setTop (mkF m 36 #[.val (.ref a1), .val (.ref a2), .val (.ref a3)] [(.ref bm), (.ref b4), (.ref b4)])) _
    refine st15.trans ?_
    show Steps p.tables e below (T15.setTop (mkF m 39 #[.val (.ref a1), .val (.ref a2), .val (.ref a3)] [(.ref b4)])) _
    jvm_step X15.here [X15.here.top, hx, (hb hby d33_39), X15.method', Bd.returns, Value.isRef, FieldType.isReference]
    first | (intro acts; rw [hr _ acts rfl rfl rfl]) | rw [hr _ _ rfl rfl rfl]
    exact Steps.refl _
  · show own_QW Z ((((((0 : Int32) + z_s1) + (5 : Int32)) + z_s2) + (8 : Int32)) + z_s3) (((((([] : List Value) ++ vs_s1) ++ [(.int (32 : Int32)), (.int (105 : Int32)), (.int (115 : Int32)), (.int (32 : Int32)), (.int (34 : Int32))]) ++ vs_s2) ++ [(.int (34 : Int32)), (.int (59 : Int32)), (.int (32 : Int32)), (.int (103 : Int32)), (.int (105 : Int32)), (.int (118 : Int32)), (.int (101 : Int32)), (.int (32 : Int32))]) ++ vs_s3) h0 n0 _ T15.heap _
    exact ⟨b4, rfl, N15, K15, End_0, End_1, End_2, bm, End_3, End_4, tm, ktm, End_5, End_6, End_7⟩
  · show CHr Z consts_1 s.vm s.heap T15.vm T15.heap
    rw [hh]
    exact R15.trans (CHv.at X15 hZ11 (own_EW hw) R15.1)
theorem d7_0 : decode prog_12_method_5_code 0 = .ok (.new 25, 3) := by decide +kernel
theorem d7_3 : decode prog_12_method_5_code 3 = .ok (.dup, 1) := by decide +kernel
theorem d7_4 : decode prog_12_method_5_code 4 = .ok (.invokespecial 27, 3) := by decide +kernel
theorem d7_7 : decode prog_12_method_5_code 7 = .ok (.ldc 45, 2) := by decide +kernel
theorem d7_9 : decode prog_12_method_5_code 9 = .ok (.invokevirtual 30, 3) := by decide +kernel
theorem d7_12 : decode prog_12_method_5_code 12 = .ok (.aload_n 0, 1) := by decide +kernel
theorem d7_13 : decode prog_12_method_5_code 13 = .ok (.invokevirtual 30, 3) := by decide +kernel
theorem d7_16 : decode prog_12_method_5_code 16 = .ok (.invokevirtual 43, 3) := by decide +kernel
theorem d7_19 : decode prog_12_method_5_code 19 = .ok (.aload_n 1, 1) := by decide +kernel
theorem d7_20 : decode prog_12_method_5_code 20 = .ok (.aload_n 2, 1) := by decide +kernel
theorem d7_21 : decode prog_12_method_5_code 21 = .ok (.invokestatic 47, 3) := by decide +kernel
theorem d7_24 : decode prog_12_method_5_code 24 = .ok (.areturn, 1) := by decide +kernel
theorem pn_7 : plainName "com/example/shiken/shiken/ContextException" = true := by first | (simp [plainName, overriddenIn]; done) | decide +kernel
theorem pd_7_2 : parseMethodDescriptor "()V" = some ⟨[], none⟩ := by decide +kernel
theorem pd_7_8 : parseMethodDescriptor "(Ljava/lang/String;)Ljava/lang/StringBuilder;" = some ⟨[(.object "java/lang/String")], some (.object "java/lang/StringBuilder")⟩ := by decide +kernel
theorem pd_7_20 : parseMethodDescriptor "()Ljava/lang/String;" = some ⟨[], some (.object "java/lang/String")⟩ := by decide +kernel
theorem pd_7_6 : parseMethodDescriptor "(Ljava/lang/String;Ljava/lang/String;Ljava/lang/String;)Lcom/example/shiken/shiken/ContextException;" = some ⟨[(.object "java/lang/String"), (.object "java/lang/String"), (.object "java/lang/String")], some (.object "com/example/shiken/shiken/ContextException")⟩ := by decide +kernel
theorem ef_7 (m : MethodId) (x0 : Addr) (x1 : Addr) (x2 : Addr) : entryFrame m #[(.ref x0), (.ref x1), (.ref x2)] 3 = mkF m 0 #[.val (.ref x0), .val (.ref x1), .val (.ref x2)] [] := by first | (simp [entryFrame, mkF, argsToLocals, Value.category]; done) | rfl
set_option maxRecDepth 65536 in
set_option maxHeartbeats 40000000 in
theorem rm7 (l : Launch) (Z : State) (a0 : Array Value) (hw : ∀ d ∈ tables_1, d.before a0 Z = true) (ws : List Jvm.Cond) (a1 : Addr) (a2 : Addr) (a3 : Addr) (G1 : Int32) (G2 : Addr) (G3 : Addr) (s1 : Addr) (s2 : Addr) (s3 : Addr) (k_s1 : ClassId) (z_s1 : Int32) (vs_s1 : List Value) (dv_s1 : Value) (k_s2 : ClassId) (z_s2 : Int32) (vs_s2 : List Value) (dv_s2 : Value) (k_s3 : ClassId) (z_s3 : Int32) (vs_s3 : List Value) (dv_s3 : Value) (h0 : Heap) (n0 : Nat) (Z0 : n0 ≤ h0.size) (hl : l.stackTraces = true) (S_COMPACT_STRINGS : Sta Z Z.heap "java/lang/String" "COMPACT_STRINGS" "Z" (.int G1)) (X00 : Old Z n0 h0) (P3 : ¬ (G1 = (0 : Int32))) (S_UNASSIGNED_STACK : Sta Z Z.heap "java/lang/Throwable" "UNASSIGNED_STACK" "[Ljava/lang/StackTraceElement;" (.ref G2)) (S_SUPPRESSED_SENTINEL : Sta Z Z.heap "java/lang/Throwable" "SUPPRESSED_SENTINEL" "Ljava/util/List;" (.ref G3)) (E_a1 : Exa Z h0 a1 "java/lang/String") (F_value_a1 : Fld Z h0 a1 "java/lang/String" "value" "[B" (.ref s1)) (F_coder_a1 : Fld Z h0 a1 "java/lang/String" "coder" "B" (.int (0 : Int32))) (E_a2 : Exa Z h0 a2 "java/lang/String") (F_value_a2 : Fld Z h0 a2 "java/lang/String" "value" "[B" (.ref s2)) (F_coder_a2 : Fld Z h0 a2 "java/lang/String" "coder" "B" (.int (0 : Int32))) (E_a3 : Exa Z h0 a3 "java/lang/String") (F_value_a3 : Fld Z h0 a3 "java/lang/String" "value" "[B" (.ref s3)) (F_coder_a3 : Fld Z h0 a3 "java/lang/String" "coder" "B" (.int (0 : Int32))) (V_s1 : Arv Z h0 s1 k_s1 .byte z_s1 vs_s1 dv_s1) (V_s2 : Arv Z h0 s2 k_s2 .byte z_s2 vs_s2 dv_s2) (V_s3 : Arv Z h0 s3 k_s3 .byte z_s3 vs_s3 dv_s3) (hz1 : z_s1 = (2 : Int32)) (hv : z_s2 = 0 ∨ z_s2 = 1) (hz3 : z_s3 = (2 : Int32)) (hl1 : z_s1.toNatClampNeg = vs_s1.length) (hl2 : z_s2.toNatClampNeg = vs_s2.length) (hl3 : z_s3.toNatClampNeg = vs_s3.length) :
    MetFree l (⟨"com/example/shiken/shiken/ContextException", "forSystemProperty", "(Ljava/lang/String;Ljava/lang/String;Ljava/lang/String;)Lcom/example/shiken/shiken/ContextException;"⟩ : MethodName) (head1 (Jvm.Cond.code (⟨"com/example/shiken/shiken/ContextException", "forSystemProperty", "(Ljava/lang/String;Ljava/lang/String;Ljava/lang/String;)Lcom/example/shiken/shiken/ContextException;"⟩ : MethodName) prog_12_method_5_code 3 (some (.object "com/example/shiken/shiken/ContextException")) :: ws) ({ frames := 8, cells := 19, slots := 3240, locals := 144 } : Room)) (fun a U => a = #[(.ref a1), (.ref a2), (.ref a3)] ∧ Z.Warmed39 U.vm ∧ U.heap = h0 ∧ CHv Z consts_1 U.vm h0) (fun _ _ bl s _ => s.vm.MethodsKnown ∧ s.vm.FramesKnown bl) (fun _ U o U' => ∃ v L, o = .returned v ∧ own_QW Z ((((((0 : Int32) + (((0 : Int32) + (20 : Int32)) + z_s1)) + (5 : Int32)) + z_s2) + (8 : Int32)) + z_s3) (((((([] : List Value) ++ ((([] : List Value) ++ [(.int (116 : Int32)), (.int (104 : Int32)), (.int (101 : Int32)), (.int (32 : Int32)), (.int (115 : Int32)), (.int (121 : Int32)), (.int (115 : Int32)), (.int (116 : Int32)), (.int (101 : Int32)), (.int (109 : Int32)), (.int (32 : Int32)), (.int (112 : Int32)), (.int (114 : Int32)), (.int (111 : Int32)), (.int (112 : Int32)), (.int (101 : Int32)), (.int (114 : Int32)), (.int (116 : Int32)), (.int (121 : Int32)), (.int (32 : Int32))]) ++ vs_s1)) ++ [(.int (32 : Int32)), (.int (105 : Int32)), (.int (115 : Int32)), (.int (32 : Int32)), (.int (34 : Int32))]) ++ vs_s2) ++ [(.int (34 : Int32)), (.int (59 : Int32)), (.int (32 : Int32)), (.int (103 : Int32)), (.int (105 : Int32)), (.int (118 : Int32)), (.int (101 : Int32)), (.int (32 : Int32))]) ++ vs_s3) h0 n0 v U'.heap L ∧ CHr Z consts_1 U.vm U.heap U'.vm U'.heap ∧ ReturnedEndW U o U' L ({ frames := 8, cells := 19, slots := 3240, locals := 144 } : Room).cells ({ frames := 8, cells := 19, slots := 3240, locals := 144 } : Room).slots) := by
  refine MetFree.of_bodySF (plainFor_of_name pn_7) hisR ?_
  intro p e s m args below meth c s₁ Bd hml0 hP hK
  obtain ⟨rfl, hZ, hh, H0⟩ := hP
  have hx := Bd.exec
  have hby := Bd.bytes
  have hml : c.maxLocals = 3 := hml0
  have hown : s.vm.findClass "com/example/shiken/shiken/ContextException" = some m.cls := findClass_of_methodNamed Bd.named
  have hnm := (name_of_methodNamed Bd.named Bd.method).1
  have X0 : Stand p l e ({ frames := 8, cells := 19, slots := 3240, locals := 144 } : Room) (s.setVm s.vm) m #[(.ref a1), (.ref a2), (.ref a3)] below meth c s₁ [] 0 0 := Stand.of_body Bd
  have e0 : s₁.heap = h0 := by rw [← hh, Bd.state]; rfl
  have N0 := Fr.nil n0
  have pre0 : ∀ t, Steps p.tables e below (s₁.setTop (mkF m 0 #[.val (.ref a1), .val (.ref a2), .val (.ref a3)] [])) t → Steps p.tables e below (s₁.setTop (entryFrame m #[(.ref a1), (.ref a2), (.ref a3)] 3)) t := fun t k => castTop (ef_7 m a1 a2 a3) k
  have hS : s.Since s.vm 0 := (State.WarmedH.refl s).since 0
  have hk := Nat.zero_le h0.size
  have R0 : CHr Z consts_1 s.vm h0 s.vm h0 := CHr.refl H0
  obtain ⟨T4, h4, X4, e4, E4, A4, D4, Un4, st4⟩ := newO X0 hx hZ hown (hw _ (wI 37 rfl)) (hw _ (wI 38 rfl)) (hw _ (wI 39 rfl)) e0 (g := (mkF m 0 #[.val (.ref a1), .val (.ref a2), .val (.ref a3)] [])) rfl (hb hby d7_0) (by decide) (by decide)
  obtain ⟨b4, g4⟩ : ∃ z, z = h0.size := ⟨_, rfl⟩
  rw [← g4] at A4 D4 Un4 st4
  have U_b4 : Unt h4 b4 := Un4
  have F_value_b4 : Fld Z h4 b4 "java/lang/AbstractStringBuilder" "value" "[B" .null := D4 (Or.inl (hw _ (wI 52 rfl))) (ty := (.array .byte)) (by decide)
  have F_coder_b4 : Fld Z h4 b4 "java/lang/AbstractStringBuilder" "coder" "B" (.int (0 : Int32)) := D4 (Or.inl (hw _ (wI 54 rfl))) (ty := .byte) (by decide)
  have F_count_b4 : Fld Z h4 b4 "java/lang/AbstractStringBuilder" "count" "I" (.int (0 : Int32)) := D4 (Or.inl (hw _ (wI 77 rfl))) (ty := .int) (by decide)
  have R4 := R0.trans (CHr.ext E4 R0.1)
  have Sf_b4_4 := Safe.ext E4 R0.1 (Safe.new (Nat.le_of_eq g4.symm))
  have E_b4 := A4
  have g_b4 : n0 ≤ b4 := Nat.le_trans Z0 (Nat.le_of_eq g4.symm)
  have sz_b4 : h0.size ≤ b4 := (Nat.le_trans (Keep.refl h0 []).1 (Nat.le_of_eq g4.symm))
  have K4 : Keep h0 h4 [] := (Keep.refl h0 []).ext E4
  obtain ⟨_, _, ⟨T5, L5, k5, n5⟩, -, X5, ⟨Lc5, hQ5, l5, y5, z5⟩, st5⟩ := X4.specialBack hx (y := (⟨"java/lang/StringBuilder", "<init>", "()V"⟩ : MethodName)) rfl hown (mvT hZ (hw _ (wI 40 rfl))) (mvT hZ (hw _ (wI 41 rfl))) (mvT hZ (hw _ (wI 42 rfl))) (by decide) (backOf (W := 1) (rm8 l Z a0 hw [] b4 G1 h4 n0 (Nat.le_trans Z0 E4.1) S_COMPACT_STRINGS (X00.keep K4 all0) P3 E_b4 F_value_b4 F_coder_b4 F_count_b4 g_b4) hZ (hw _ (wI 42 rfl)) (hw _ (wI 39 rfl)) (by decide) (by decide)) (g := (mkF m 4 #[.val (.ref a1), .val (.ref a2), .val (.ref a3)] [(.ref b4), (.ref b4)])) rfl (by rw [hml]; rfl) (Steps.refl _) (a := b4) (argsL := []) (rest := [(.ref b4)]) (lenOf pd_7_2 rfl) rfl (by show 2 * 0 + _ ≤ _; exact Nat.le_of_eq rfl) (hb hby d7_4) (fun _ _ => ⟨rfl, e4, (by decide : 1 + 1 ≤ _), (by decide : 4 + 16 ≤ _)⟩)
  dsimp only [Pt.U, Pt.locs, Pt.cells, Pt.slots] at X5 l5 y5 z5 st5 hQ5
  subst l5 y5 z5
  obtain ⟨rfl, N5q, Kc5, bv, kbv, g_bv, gz_bv, Fv5, Fd5, Fn5, Vb5⟩ := hQ5
  have N5 := Fr.app N0 N5q
  have sz_bv : h0.size ≤ bv := Nat.le_trans K4.1 gz_bv
  have Kq5 : Keep h4 T5.heap [b4] := Kc5
  have K5 : Keep h0 T5.heap [] := K4.trans Kq5 (own_trS (Or.inr sz_b4) all0)
  have R5 := R4.trans (CHr.keep Kq5 (sfS Sf_b4_4 sf0) R4.1)
  have Sf_b4_5 := Safe.keep Kq5 (sfS Sf_b4_4 sf0) R4.1 Sf_b4_4
  have Sf_bv_5 := Safe.keep Kq5 (sfS Sf_b4_4 sf0) R4.1 (Safe.new gz_bv)
  obtain ⟨b6, T6, h6, k1_6, v6, kc6, X6, e6, E6, hS, hk, hZ6, hown6, E_b6, F_coder_b6, F_value_b6, V_v6, lt_b6, lt_v6, Cr6, Lit_b6, Sep6, st6⟩ := ldcCH X5 hx hZ hown (hw _ (wI 55 rfl)) (own_wS hw) rfl hS (Nat.le_trans (Nat.le_trans hk E4.1) Kq5.1) (own_EW hw) (by decide) R5.1 (vs := [(.int (116 : Int32)), (.int (104 : Int32)), (.int (101 : Int32)), (.int (32 : Int32)), (.int (115 : Int32)), (.int (121 : Int32)), (.int (115 : Int32)), (.int (116 : Int32)), (.int (101 : Int32)), (.int (109 : Int32)), (.int (32 : Int32)), (.int (112 : Int32)), (.int (114 : Int32)), (.int (111 : Int32)), (.int (112 : Int32)), (.int (101 : Int32)), (.int (114 : Int32)), (.int (116 : Int32)), (.int (121 : Int32)), (.int (32 : Int32))]) (z := (20 : Int32)) ⟨by decide, by decide⟩ (by decide) (by decide) (g := (mkF m 7 #[.val (.ref a1), .val (.ref a2), .val (.ref a3)] [(.ref b4)])) rfl (hb hby d7_7) (n := 80) (by decide) (by decide) (by decide) (by decide)
  have Sf_b4_6 := Cr6.safe (E_b4.keep Kq5).lt Sf_b4_5
  have Sf_bv_6 := Cr6.safe Vb5.lt Sf_bv_5
  have R6 := R5.trans Cr6
  have K6 : Keep h0 h6 [] := K5.ext E6
  obtain ⟨cq7, kq7, q7a, q7b, q7c⟩ := isOf hZ6 e6 ((E_b4.keep Kq5).ext E6)
  obtain ⟨_, _, ⟨T7, L7, k7, n7⟩, -, X7, ⟨Lc7, hQ7, l7, y7, z7⟩, st7⟩ := X6.virtualBack hx (y := (⟨"java/lang/StringBuilder", "append", "(Ljava/lang/String;)Ljava/lang/StringBuilder;"⟩ : MethodName)) (z := (⟨"java/lang/StringBuilder", "append", "(Ljava/lang/String;)Ljava/lang/StringBuilder;"⟩ : MethodName)) hown6 (mvT hZ6 (hw _ (wI 56 rfl))) (mvT hZ6 (hw _ (wI 57 rfl))) (notFace_of_selects (args := #[]) (mvT hZ6 (hw _ (wI 59 rfl)))) (mvT hZ6 (hw _ (wI 59 rfl))) (mvT hZ6 (hw _ (wI 58 rfl))) (by decide) (backOf (W := 0) (rm10g l Z a0 hw [] b4 b6 G1 bv v6 (0 : Int32) (34 : Int32) kbv (16 : Int32) (own_fl 16 ([] : List Value)) (.int (0 : Int32)) kc6 (20 : Int32) [(.int (116 : Int32)), (.int (104 : Int32)), (.int (101 : Int32)), (.int (32 : Int32)), (.int (115 : Int32)), (.int (121 : Int32)), (.int (115 : Int32)), (.int (116 : Int32)), (.int (101 : Int32)), (.int (109 : Int32)), (.int (32 : Int32)), (.int (112 : Int32)), (.int (114 : Int32)), (.int (111 : Int32)), (.int (112 : Int32)), (.int (101 : Int32)), (.int (114 : Int32)), (.int (116 : Int32)), (.int (121 : Int32)), (.int (32 : Int32))] (.int (0 : Int32)) h6 n0 (Nat.le_trans (Nat.le_trans (Nat.le_trans Z0 E4.1) Kq5.1) E6.1) S_COMPACT_STRINGS (X00.keep K6 all0) P3 ((E_b4.keep Kq5).ext E6) (Fv5.ext E6) (Fd5.ext E6) (Fn5.ext E6) E_b6 F_value_b6 F_coder_b6 (Vb5.ext E6) V_v6 g_b4 (by (try simp only [List.length_append, ← hl1, ← hl2, ← hl3]); subst hz1 hz3; rcases hv with rfl | rfl <;> decide) (by (try simp only [List.length_append, ← hl1, ← hl2, ← hl3]); subst hz1 hz3; rcases hv with rfl | rfl <;> decide) (by (try simp only [List.length_append, ← hl1, ← hl2, ← hl3]); subst hz1 hz3; rcases hv with rfl | rfl <;> decide) (by (try simp only [List.length_append, ← hl1, ← hl2, ← hl3]); subst hz1 hz3; rcases hv with rfl | rfl <;> decide) (by (try simp only [List.length_append, ← hl1, ← hl2, ← hl3]); subst hz1 hz3; rcases hv with rfl | rfl <;> decide) (by decide) (by decide) (by decide) (by decide) (by decide) (by decide) (by rw [own_fl_len (by (try simp only [List.length_append, ← hl1, ← hl2, ← hl3]); subst hz1 hz3; rcases hv with rfl | rfl <;> decide)]; (try simp only [List.length_append, ← hl1, ← hl2, ← hl3]); subst hz1 hz3; rcases hv with rfl | rfl <;> decide) (by decide) (by decide) (by (try simp only [List.length_append, ← hl1, ← hl2, ← hl3]); subst hz1 hz3; rcases hv with rfl | rfl <;> decide) (by (try simp only [List.length_append, ← hl1, ← hl2, ← hl3]); subst hz1 hz3; rcases hv with rfl | rfl <;> decide) (by rw [own_fl_grow (by (try simp only [List.length_append, ← hl1, ← hl2, ← hl3]); subst hz1 hz3; rcases hv with rfl | rfl <;> decide) (by decide), own_fl_len (by (try simp only [List.length_append, ← hl1, ← hl2, ← hl3]); subst hz1 hz3; rcases hv with rfl | rfl <;> decide)]; (try simp only [List.length_append, ← hl1, ← hl2, ← hl3]); subst hz1 hz3; rcases hv with rfl | rfl <;> decide)) hZ6 (hw _ (wI 60 rfl)) (hw _ (wI 39 rfl)) (by decide) (by decide)) q7a q7c (g := (mkF m 9 #[.val (.ref a1), .val (.ref a2), .val (.ref a3)] [(.ref b6), (.ref b4)])) rfl (by rw [hml]; rfl) (Steps.refl _) (argsL := [(.ref b6)]) (rest := []) (lenOf pd_7_8 rfl) rfl (by show 2 * 0 + _ ≤ _; exact Nat.le_of_eq rfl) (hb hby d7_9) (fun _ _ => ⟨rfl, e6, (by decide : 4 + 1 ≤ _), (by decide : 104 + 70 ≤ _)⟩)
  dsimp only [Pt.U, Pt.locs, Pt.cells, Pt.slots] at X7 l7 y7 z7 st7 hQ7
  subst l7 y7 z7
  obtain ⟨rfl, N7q, Kc7, bn, kbn, g_bn, gz_bn, Fn7, Fv7, Fd7, Vb7⟩ := hQ7
  have N7 := Fr.app N5 N7q
  have sz_bn : h0.size ≤ bn := Nat.le_trans K6.1 gz_bn
  have Vf7 : Arv Z T7.heap bn kbn .byte (34 : Int32) (own_fl 34 (([] : List Value) ++ [(.int (116 : Int32)), (.int (104 : Int32)), (.int (101 : Int32)), (.int (32 : Int32)), (.int (115 : Int32)), (.int (121 : Int32)), (.int (115 : Int32)), (.int (116 : Int32)), (.int (101 : Int32)), (.int (109 : Int32)), (.int (32 : Int32)), (.int (112 : Int32)), (.int (114 : Int32)), (.int (111 : Int32)), (.int (112 : Int32)), (.int (101 : Int32)), (.int (114 : Int32)), (.int (116 : Int32)), (.int (121 : Int32)), (.int (32 : Int32))])) (.int (0 : Int32)) := by
    have q := Vb7
    rw [own_fl_grow (by (try simp only [List.length_append, ← hl1, ← hl2, ← hl3]); subst hz1 hz3; rcases hv with rfl | rfl <;> decide) (by decide), own_fl_upd _ _ _ (by (try simp only [List.length_append, ← hl1, ← hl2, ← hl3]); subst hz1 hz3; rcases hv with rfl | rfl <;> decide)] at q
    exact q
  have Kq7 : Keep h6 T7.heap [b4] := Kc7
  have K7 : Keep h0 T7.heap [] := K6.trans Kq7 (own_trS (Or.inr sz_b4) all0)
  have R7 := R6.trans (CHr.keep Kq7 (sfS Sf_b4_6 sf0) R6.1)
  have Sf_b4_7 := Safe.keep Kq7 (sfS Sf_b4_6 sf0) R6.1 Sf_b4_6
  have Sf_bv_7 := Safe.keep Kq7 (sfS Sf_b4_6 sf0) R6.1 Sf_bv_6
  have Sf_bn_7 := Safe.keep Kq7 (sfS Sf_b4_6 sf0) R6.1 (Safe.new gz_bn)
  obtain ⟨cq8, kq8, q8a, q8b, q8c⟩ := isOf hZ6 rfl (((E_b4.keep Kq5).ext E6).keep Kq7)
  obtain ⟨_, _, ⟨T8, L8, k8, n8⟩, -, X8, ⟨Lc8, hQ8, l8, y8, z8⟩, st8⟩ := X7.virtualBack hx (y := (⟨"java/lang/StringBuilder", "append", "(Ljava/lang/String;)Ljava/lang/StringBuilder;"⟩ : MethodName)) (z := (⟨"java/lang/StringBuilder", "append", "(Ljava/lang/String;)Ljava/lang/StringBuilder;"⟩ : MethodName)) hown6 (mvT hZ6 (hw _ (wI 56 rfl))) (mvT hZ6 (hw _ (wI 57 rfl))) (notFace_of_selects (args := #[]) (mvT hZ6 (hw _ (wI 59 rfl)))) (mvT hZ6 (hw _ (wI 59 rfl))) (mvT hZ6 (hw _ (wI 58 rfl))) (by decide) (backOf (W := 0) (rm10 l Z a0 hw [] b4 a1 G1 bn s1 ((0 : Int32) + (20 : Int32)) kbn (34 : Int32) (own_fl 34 (([] : List Value) ++ [(.int (116 : Int32)), (.int (104 : Int32)), (.int (101 : Int32)), (.int (32 : Int32)), (.int (115 : Int32)), (.int (121 : Int32)), (.int (115 : Int32)), (.int (116 : Int32)), (.int (101 : Int32)), (.int (109 : Int32)), (.int (32 : Int32)), (.int (112 : Int32)), (.int (114 : Int32)), (.int (111 : Int32)), (.int (112 : Int32)), (.int (101 : Int32)), (.int (114 : Int32)), (.int (116 : Int32)), (.int (121 : Int32)), (.int (32 : Int32))])) (.int (0 : Int32)) k_s1 z_s1 vs_s1 dv_s1 T7.heap n0 (Nat.le_trans (Nat.le_trans (Nat.le_trans (Nat.le_trans Z0 E4.1) Kq5.1) E6.1) Kq7.1) S_COMPACT_STRINGS (X00.keep K7 all0) P3 (((E_b4.keep Kq5).ext E6).keep Kq7) Fv7 Fd7 Fn7 ((((E_a1.ext E4).keep Kq5).ext E6).keep Kq7) ((((F_value_a1.ext E4).keep Kq5 (fun q => absurd (List.mem_singleton.mp q) (Nat.ne_of_lt (Nat.lt_of_lt_of_le E_a1.lt (Nat.le_of_eq g4.symm))))).ext E6).keep Kq7 (fun q => absurd (List.mem_singleton.mp q) (Nat.ne_of_lt (Nat.lt_of_lt_of_le E_a1.lt (Nat.le_of_eq g4.symm))))) ((((F_coder_a1.ext E4).keep Kq5 (fun q => absurd (List.mem_singleton.mp q) (Nat.ne_of_lt (Nat.lt_of_lt_of_le E_a1.lt (Nat.le_of_eq g4.symm))))).ext E6).keep Kq7 (fun q => absurd (List.mem_singleton.mp q) (Nat.ne_of_lt (Nat.lt_of_lt_of_le E_a1.lt (Nat.le_of_eq g4.symm))))) Vf7 ((((V_s1.ext E4).keep Kq5 (fun q => absurd (List.mem_singleton.mp q) (Nat.ne_of_lt (Nat.lt_of_lt_of_le V_s1.lt (Nat.le_of_eq g4.symm))))).ext E6).keep Kq7 (fun q => absurd (List.mem_singleton.mp q) (Nat.ne_of_lt (Nat.lt_of_lt_of_le V_s1.lt (Nat.le_of_eq g4.symm))))) g_bn g_b4 hl1 (by (try simp only [List.length_append, ← hl1, ← hl2, ← hl3]); subst hz1 hz3; rcases hv with rfl | rfl <;> decide) (by (try simp only [List.length_append, ← hl1, ← hl2, ← hl3]); subst hz1 hz3; rcases hv with rfl | rfl <;> decide) (by rw [own_fl_len (by (try simp only [List.length_append, ← hl1, ← hl2, ← hl3]); subst hz1 hz3; rcases hv with rfl | rfl <;> decide)]; (try simp only [List.length_append, ← hl1, ← hl2, ← hl3]); subst hz1 hz3; rcases hv with rfl | rfl <;> decide) (by (try simp only [List.length_append, ← hl1, ← hl2, ← hl3]); subst hz1 hz3; rcases hv with rfl | rfl <;> decide)) hZ6 (hw _ (wI 60 rfl)) (hw _ (wI 39 rfl)) (by decide) (by decide)) q8a q8c (g := (mkF m 13 #[.val (.ref a1), .val (.ref a2), .val (.ref a3)] [(.ref a1), (.ref b4)])) rfl (by rw [hml]; rfl) (Steps.refl _) (argsL := [(.ref a1)]) (rest := []) (lenOf pd_7_8 rfl) rfl (by show 2 * 0 + _ ≤ _; exact Nat.le_of_eq rfl) (hb hby d7_13) (fun _ _ => ⟨rfl, rfl, (by decide : 5 + 0 ≤ _), (by decide : 174 + 0 ≤ _)⟩)
  dsimp only [Pt.U, Pt.locs, Pt.cells, Pt.slots] at X8 l8 y8 z8 st8 hQ8
  subst l8 y8 z8
  obtain ⟨rfl, N8q, Kc8, Fn8, Fv8, Fd8, Vb8⟩ := hQ8
  have N8 := Fr.app N7 N8q
  have Vf8 : Arv Z T8.heap bn kbn .byte (34 : Int32) (own_fl 34 ((([] : List Value) ++ [(.int (116 : Int32)), (.int (104 : Int32)), (.int (101 : Int32)), (.int (32 : Int32)), (.int (115 : Int32)), (.int (121 : Int32)), (.int (115 : Int32)), (.int (116 : Int32)), (.int (101 : Int32)), (.int (109 : Int32)), (.int (32 : Int32)), (.int (112 : Int32)), (.int (114 : Int32)), (.int (111 : Int32)), (.int (112 : Int32)), (.int (101 : Int32)), (.int (114 : Int32)), (.int (116 : Int32)), (.int (121 : Int32)), (.int (32 : Int32))]) ++ vs_s1)) (.int (0 : Int32)) := by
    have q := Vb8
    rw [own_fl_upd _ _ _ (by (try simp only [List.length_append, ← hl1, ← hl2, ← hl3]); subst hz1 hz3; rcases hv with rfl | rfl <;> decide)] at q
    exact q
  have Kq8 : Keep T7.heap T8.heap [bn, b4] := Kc8
  have K8 : Keep h0 T8.heap [] := K7.trans Kq8 (own_trS (Or.inr sz_bn) (own_trS (Or.inr sz_b4) all0))
  have R8 := R7.trans (CHr.keep Kq8 (sfS Sf_bn_7 (sfS Sf_b4_7 sf0)) R7.1)
  have Sf_b4_8 := Safe.keep Kq8 (sfS Sf_bn_7 (sfS Sf_b4_7 sf0)) R7.1 Sf_b4_7
  have Sf_bv_8 := Safe.keep Kq8 (sfS Sf_bn_7 (sfS Sf_b4_7 sf0)) R7.1 Sf_bv_7
  have Sf_bn_8 := Safe.keep Kq8 (sfS Sf_bn_7 (sfS Sf_b4_7 sf0)) R7.1 Sf_bn_7
  obtain ⟨cq9, kq9, q9a, q9b, q9c⟩ := isOf hZ6 rfl ((((E_b4.keep Kq5).ext E6).keep Kq7).keep Kq8)
  obtain ⟨_, _, ⟨T9, L9, k9, n9⟩, -, X9, ⟨Lc9, hQ9, l9, y9, z9⟩, st9⟩ := X8.virtualBack hx (y := (⟨"java/lang/StringBuilder", "toString", "()Ljava/lang/String;"⟩ : MethodName)) (z := (⟨"java/lang/StringBuilder", "toString", "()Ljava/lang/String;"⟩ : MethodName)) hown6 (mvT hZ6 (hw _ (wI 126 rfl))) (mvT hZ6 (hw _ (wI 127 rfl))) (notFace_of_selects (args := #[]) (mvT hZ6 (hw _ (wI 129 rfl)))) (mvT hZ6 (hw _ (wI 129 rfl))) (mvT hZ6 (hw _ (wI 128 rfl))) (by decide) (backOf (W := 0) (rm23 l Z a0 hw [] b4 G1 bn (((0 : Int32) + (20 : Int32)) + z_s1) kbn (34 : Int32) (own_fl 34 ((([] : List Value) ++ [(.int (116 : Int32)), (.int (104 : Int32)), (.int (101 : Int32)), (.int (32 : Int32)), (.int (115 : Int32)), (.int (121 : Int32)), (.int (115 : Int32)), (.int (116 : Int32)), (.int (101 : Int32)), (.int (109 : Int32)), (.int (32 : Int32)), (.int (112 : Int32)), (.int (114 : Int32)), (.int (111 : Int32)), (.int (112 : Int32)), (.int (101 : Int32)), (.int (114 : Int32)), (.int (116 : Int32)), (.int (121 : Int32)), (.int (32 : Int32))]) ++ vs_s1)) (.int (0 : Int32)) T8.heap n0 (Nat.le_trans (Nat.le_trans (Nat.le_trans (Nat.le_trans (Nat.le_trans Z0 E4.1) Kq5.1) E6.1) Kq7.1) Kq8.1) S_COMPACT_STRINGS (X00.keep K8 all0) P3 ((((E_b4.keep Kq5).ext E6).keep Kq7).keep Kq8) Fv8 Fd8 Fn8 Vf8 (by (try simp only [List.length_append, ← hl1, ← hl2, ← hl3]); subst hz1 hz3; rcases hv with rfl | rfl <;> decide) (by (try simp only [List.length_append, ← hl1, ← hl2, ← hl3]); subst hz1 hz3; rcases hv with rfl | rfl <;> decide) (by (try simp only [List.length_append, ← hl1, ← hl2, ← hl3]); subst hz1 hz3; rcases hv with rfl | rfl <;> decide) (by rw [own_fl_len (by (try simp only [List.length_append, ← hl1, ← hl2, ← hl3]); subst hz1 hz3; rcases hv with rfl | rfl <;> decide)]; (try simp only [List.length_append, ← hl1, ← hl2, ← hl3]); subst hz1 hz3; rcases hv with rfl | rfl <;> decide)) hZ6 (hw _ (wI 130 rfl)) (hw _ (wI 39 rfl)) (by decide) (by decide)) q9a q9c (g := (mkF m 16 #[.val (.ref a1), .val (.ref a2), .val (.ref a3)] [(.ref b4)])) rfl (by rw [hml]; rfl) (Steps.refl _) (argsL := []) (rest := []) (lenOf pd_7_20 rfl) rfl (by show 2 * 0 + _ ≤ _; exact Nat.le_of_eq rfl) (hb hby d7_16) (fun _ _ => ⟨rfl, rfl, (by decide : 5 + 2 ≤ _), (by decide : 174 + 44 ≤ _)⟩)
  dsimp only [Pt.U, Pt.locs, Pt.cells, Pt.slots] at X9 l9 y9 z9 st9 hQ9
  subst l9 y9 z9
  obtain ⟨bm, rfl, N9q, g_bm, gz_bm, Kt9, E_bm, tm, ktm, g_tm, gz_tm, Fv_bm, Fc_bm, V_tm0⟩ := hQ9
  have N9 := Fr.app N8 N9q
  have V_tm : Arv Z T9.heap tm ktm .byte (((0 : Int32) + (20 : Int32)) + z_s1) ((([] : List Value) ++ [(.int (116 : Int32)), (.int (104 : Int32)), (.int (101 : Int32)), (.int (32 : Int32)), (.int (115 : Int32)), (.int (121 : Int32)), (.int (115 : Int32)), (.int (116 : Int32)), (.int (101 : Int32)), (.int (109 : Int32)), (.int (32 : Int32)), (.int (112 : Int32)), (.int (114 : Int32)), (.int (111 : Int32)), (.int (112 : Int32)), (.int (101 : Int32)), (.int (114 : Int32)), (.int (116 : Int32)), (.int (121 : Int32)), (.int (32 : Int32))]) ++ vs_s1) (.int (0 : Int32)) := by
    have q := V_tm0
    rw [own_fl_take _ _ (by (try simp only [List.length_append, ← hl1, ← hl2, ← hl3]); subst hz1 hz3; rcases hv with rfl | rfl <;> decide)] at q
    exact q
  have Kq9 : Keep T8.heap T9.heap [] := Kt9
  have K9 : Keep h0 T9.heap [] := K8.trans Kq9 all0
  have R9 := R8.trans (CHr.keep Kq9 sf0 R8.1)
  have Sf_b4_9 := Safe.keep Kq9 sf0 R8.1 Sf_b4_8
  have Sf_bv_9 := Safe.keep Kq9 sf0 R8.1 Sf_bv_8
  have Sf_bn_9 := Safe.keep Kq9 sf0 R8.1 Sf_bn_8
  have Sf_bm_9 := Safe.keep Kq9 sf0 R8.1 (Safe.new gz_bm)
  have Sf_tm_9 := Safe.keep Kq9 sf0 R8.1 (Safe.new gz_tm)
  obtain ⟨_, _, ⟨T10, L10, k10, n10⟩, -, X10, hSc10, hgr10, ⟨Lc10, hQ10, l10, y10, z10, Cr10⟩, st10⟩ := callSS X9 hx (y := (⟨"com/example/shiken/shiken/ContextException", "forSetting", "(Ljava/lang/String;Ljava/lang/String;Ljava/lang/String;)Lcom/example/shiken/shiken/ContextException;"⟩ : MethodName)) hown6 (mvT hZ6 (hw _ (wI 165 rfl))) (mvT hZ6 (hw _ (wI 166 rfl))) (mvT hZ6 (hw _ (wI 35 rfl))) (mvT hZ6 (hw _ (wI 167 rfl))) (by decide) (backOfSKH (W := 0) (rm33 l Z a0 hw [] bm a2 a3 G1 G2 G3 tm s2 s3 ktm (((0 : Int32) + (20 : Int32)) + z_s1) ((([] : List Value) ++ [(.int (116 : Int32)), (.int (104 : Int32)), (.int (101 : Int32)), (.int (32 : Int32)), (.int (115 : Int32)), (.int (121 : Int32)), (.int (115 : Int32)), (.int (116 : Int32)), (.int (101 : Int32)), (.int (109 : Int32)), (.int (32 : Int32)), (.int (112 : Int32)), (.int (114 : Int32)), (.int (111 : Int32)), (.int (112 : Int32)), (.int (101 : Int32)), (.int (114 : Int32)), (.int (116 : Int32)), (.int (121 : Int32)), (.int (32 : Int32))]) ++ vs_s1) (.int (0 : Int32)) k_s2 z_s2 vs_s2 dv_s2 k_s3 z_s3 vs_s3 dv_s3 T9.heap n0 (Nat.le_trans (Nat.le_trans (Nat.le_trans (Nat.le_trans (Nat.le_trans (Nat.le_trans Z0 E4.1) Kq5.1) E6.1) Kq7.1) Kq8.1) Kq9.1) hl S_COMPACT_STRINGS (X00.keep K9 all0) P3 S_UNASSIGNED_STACK S_SUPPRESSED_SENTINEL E_bm Fv_bm Fc_bm ((((((E_a2.ext E4).keep Kq5).ext E6).keep Kq7).keep Kq8).keep Kq9) ((((((F_value_a2.ext E4).keep Kq5 (fun q => absurd (List.mem_singleton.mp q) (Nat.ne_of_lt (Nat.lt_of_lt_of_le E_a2.lt (Nat.le_of_eq g4.symm))))).ext E6).keep Kq7 (fun q => absurd (List.mem_singleton.mp q) (Nat.ne_of_lt (Nat.lt_of_lt_of_le E_a2.lt (Nat.le_of_eq g4.symm))))).keep Kq8 (own_nm (Nat.ne_of_lt (Nat.lt_of_lt_of_le (((E_a2.ext E4).keep Kq5).ext E6).lt gz_bn)) (fun q => absurd (List.mem_singleton.mp q) (Nat.ne_of_lt (Nat.lt_of_lt_of_le E_a2.lt (Nat.le_of_eq g4.symm)))))).keep Kq9 (fun q => nomatch q)) ((((((F_coder_a2.ext E4).keep Kq5 (fun q => absurd (List.mem_singleton.mp q) (Nat.ne_of_lt (Nat.lt_of_lt_of_le E_a2.lt (Nat.le_of_eq g4.symm))))).ext E6).keep Kq7 (fun q => absurd (List.mem_singleton.mp q) (Nat.ne_of_lt (Nat.lt_of_lt_of_le E_a2.lt (Nat.le_of_eq g4.symm))))).keep Kq8 (own_nm (Nat.ne_of_lt (Nat.lt_of_lt_of_le (((E_a2.ext E4).keep Kq5).ext E6).lt gz_bn)) (fun q => absurd (List.mem_singleton.mp q) (Nat.ne_of_lt (Nat.lt_of_lt_of_le E_a2.lt (Nat.le_of_eq g4.symm)))))).keep Kq9 (fun q => nomatch q)) ((((((E_a3.ext E4).keep Kq5).ext E6).keep Kq7).keep Kq8).keep Kq9) ((((((F_value_a3.ext E4).keep Kq5 (fun q => absurd (List.mem_singleton.mp q) (Nat.ne_of_lt (Nat.lt_of_lt_of_le E_a3.lt (Nat.le_of_eq g4.symm))))).ext E6).keep Kq7 (fun q => absurd (List.mem_singleton.mp q) (Nat.ne_of_lt (Nat.lt_of_lt_of_le E_a3.lt (Nat.le_of_eq g4.symm))))).keep Kq8 (own_nm (Nat.ne_of_lt (Nat.lt_of_lt_of_le (((E_a3.ext E4).keep Kq5).ext E6).lt gz_bn)) (fun q => absurd (List.mem_singleton.mp q) (Nat.ne_of_lt (Nat.lt_of_lt_of_le E_a3.lt (Nat.le_of_eq g4.symm)))))).keep Kq9 (fun q => nomatch q)) ((((((F_coder_a3.ext E4).keep Kq5 (fun q => absurd (List.mem_singleton.mp q) (Nat.ne_of_lt (Nat.lt_of_lt_of_le E_a3.lt (Nat.le_of_eq g4.symm))))).ext E6).keep Kq7 (fun q => absurd (List.mem_singleton.mp q) (Nat.ne_of_lt (Nat.lt_of_lt_of_le E_a3.lt (Nat.le_of_eq g4.symm))))).keep Kq8 (own_nm (Nat.ne_of_lt (Nat.lt_of_lt_of_le (((E_a3.ext E4).keep Kq5).ext E6).lt gz_bn)) (fun q => absurd (List.mem_singleton.mp q) (Nat.ne_of_lt (Nat.lt_of_lt_of_le E_a3.lt (Nat.le_of_eq g4.symm)))))).keep Kq9 (fun q => nomatch q)) V_tm ((((((V_s2.ext E4).keep Kq5 (fun q => absurd (List.mem_singleton.mp q) (Nat.ne_of_lt (Nat.lt_of_lt_of_le V_s2.lt (Nat.le_of_eq g4.symm))))).ext E6).keep Kq7 (fun q => absurd (List.mem_singleton.mp q) (Nat.ne_of_lt (Nat.lt_of_lt_of_le V_s2.lt (Nat.le_of_eq g4.symm))))).keep Kq8 (own_nm (Nat.ne_of_lt (Nat.lt_of_lt_of_le (((V_s2.ext E4).keep Kq5 (fun q => absurd (List.mem_singleton.mp q) (Nat.ne_of_lt (Nat.lt_of_lt_of_le V_s2.lt (Nat.le_of_eq g4.symm))))).ext E6).lt gz_bn)) (fun q => absurd (List.mem_singleton.mp q) (Nat.ne_of_lt (Nat.lt_of_lt_of_le V_s2.lt (Nat.le_of_eq g4.symm)))))).keep Kq9 (fun q => nomatch q)) ((((((V_s3.ext E4).keep Kq5 (fun q => absurd (List.mem_singleton.mp q) (Nat.ne_of_lt (Nat.lt_of_lt_of_le V_s3.lt (Nat.le_of_eq g4.symm))))).ext E6).keep Kq7 (fun q => absurd (List.mem_singleton.mp q) (Nat.ne_of_lt (Nat.lt_of_lt_of_le V_s3.lt (Nat.le_of_eq g4.symm))))).keep Kq8 (own_nm (Nat.ne_of_lt (Nat.lt_of_lt_of_le (((V_s3.ext E4).keep Kq5 (fun q => absurd (List.mem_singleton.mp q) (Nat.ne_of_lt (Nat.lt_of_lt_of_le V_s3.lt (Nat.le_of_eq g4.symm))))).ext E6).lt gz_bn)) (fun q => absurd (List.mem_singleton.mp q) (Nat.ne_of_lt (Nat.lt_of_lt_of_le V_s3.lt (Nat.le_of_eq g4.symm)))))).keep Kq9 (fun q => nomatch q)) (by (try simp only [List.length_append, ← hl1, ← hl2, ← hl3]); subst hz1 hz3; rcases hv with rfl | rfl <;> decide) hv hz3 (by (try simp only [List.length_append, ← hl1, ← hl2, ← hl3]); subst hz1 hz3; rcases hv with rfl | rfl <;> decide) hl2 hl3) hZ6 (hw _ (wI 167 rfl)) (hw _ (wI 35 rfl)) (by decide) (by decide) (own_EW hw) R9.1 (Vm.MethodsKnown.alikeC (hZ.alike.symm.trans hZ6.alike) hK.1) (Vm.FramesKnown.alikeC (hZ.alike.symm.trans hZ6.alike) hK.2)) (g := (mkF m 21 #[.val (.ref a1), .val (.ref a2), .val (.ref a3)] [(.ref a3), (.ref a2), (.ref bm)])) rfl (by rw [hml]; rfl) (argsL := [(.ref bm), (.ref a2), (.ref a3)]) (rest := []) (lenOf pd_7_6 rfl) rfl (by show 2 * 0 + _ ≤ _; exact Nat.le_of_eq rfl) (hb hby d7_21) (fun _ _ => ⟨rfl, rfl, (by decide : 7 + 12 ≤ _), (by decide : 218 + 3022 ≤ _)⟩)
  dsimp only [Pt.U, Pt.locs, Pt.cells, Pt.slots] at hSc10 hgr10 Cr10
  dsimp only [Pt.U, Pt.locs, Pt.cells, Pt.slots] at X10 l10 y10 z10 st10 hQ10
  subst l10 y10 z10
  obtain ⟨rX, rfl, N10q, KtX, RX⟩ := hQ10
  have N10 := Fr.app N9 N10q
  obtain ⟨X10, hS, hZ10, hown10⟩ := rebS hS ((Nat.le_trans (Nat.le_trans (Nat.le_trans hk Kq7.1) Kq8.1) Kq9.1)) X10 hSc10 hgr10 hZ6 hown6
  have hk := Nat.le_refl T10.heap.size
  have Kq10 : Keep T9.heap T10.heap [] := KtX
  have K10 : Keep h0 T10.heap [] := K9.trans Kq10 all0
  have R10 := R9.trans Cr10
  have Sf_b4_10 := Cr10.safe (((((E_b4.keep Kq5).ext E6).keep Kq7).keep Kq8).keep Kq9).lt Sf_b4_9
  have Sf_bv_10 := Cr10.safe ((((Vb5.ext E6).keep Kq7 (fun q => absurd (List.mem_singleton.mp q) (Ne.symm (Nat.ne_of_lt (Nat.lt_of_lt_of_le E_b4.lt gz_bv))))).keep Kq8 (own_nm (Nat.ne_of_lt (Nat.lt_of_lt_of_le (Vb5.ext E6).lt gz_bn)) (fun q => absurd (List.mem_singleton.mp q) (Ne.symm (Nat.ne_of_lt (Nat.lt_of_lt_of_le E_b4.lt gz_bv)))))).keep Kq9 (fun q => nomatch q)).lt Sf_bv_9
  have Sf_bn_10 := Cr10.safe (Vf8.keep Kq9 (fun q => nomatch q)).lt Sf_bn_9
  have Sf_bm_10 := Cr10.safe E_bm.lt Sf_bm_9
  have Sf_tm_10 := Cr10.safe V_tm.lt Sf_tm_9
  obtain ⟨fs, hr, hrun, hended, hRW⟩ := X10.leaveW hS (hk) (v := some (.ref rX)) (fun h => by rw [Bd.returns] at h; cases h)
  refine ⟨_, _, pre0 _ ?_, hrun, hended, _, _, rfl, ?_, ?_, hRW.1, hRW.2.1, hRW.2.2.1, hRW.2.2.2.mono (by decide) (by decide)⟩
  · show Steps p.tables e below (s₁.setTop (mkF m 0 #[.val (.ref a1), .val (.ref a2), .val (.ref a3)] [])) _
    refine st4 _ ?_
    show Steps p.tables e below (T4.setTop (mkF m 3 #[.val (.ref a1), .val (.ref a2), .val (.ref a3)] [(.ref b4)])) _
    refine XS.dup X4.here hx rfl (hb hby d7_3) rfl rfl ?_
    show Steps p.tables e below (T4.setTop (mkF m 4 #[.val (.ref a1), .val (.ref a2), .val (.ref a3)] [(.ref b4), (.ref b4)])) _
    refine st5.trans ?_
    show Steps p.tables e below (T5.setTop (mkF m 7 #[.val (.ref a1), .val (.ref a2), .val (.ref a3)] [(.ref b4)])) _
    refine st6 _ ?_
    show Steps p.tables e below (T6.setTop (mkF m 9 #[.val (.ref a1), .val (.ref a2), .val (.ref a3)] [(.ref b6), (.ref b4)])) _
    refine st7.trans ?_
    show Steps p.tables e below (T7.setTop (mkF m 12 #[.val (.ref a1), .val (.ref a2), .val (.ref a3)] [(.ref b4)])) _
    refine XS.aloadN X7.here hx rfl (hb hby d7_12) rfl rfl ?_
    show Steps p.tables e below (T7.setTop (mkF m 13 #[.val (.ref a1), .val (.ref a2), .val (.ref a3)] [(.ref a1), (.ref b4)])) _
    refine st8.trans ?_
    show Steps p.tables e below (T8.setTop (mkF m 16 #[.val (.ref a1), .val (.ref a2), .val (.ref a3)] [(.ref b4)])) _
    refine st9.trans ?_
    show Steps p.tables e below (T9.setTop (mkF m 19 #[.val (.ref a1), .val (.ref a2), .val (.ref a3)] [(.ref bm)])) _
    refine XS.aloadN X9.here hx rfl (hb hby d7_19) rfl rfl ?_
    show Steps p.tables e below (T9.setTop (mkF m 20 #[.val (.ref a1), .val (.ref a2), .val (.ref a3)] [(.ref a2), (.ref bm)])) _
    refine XS.aloadN X9.here hx rfl (hb hby d7_20) rfl rfl ?_
    show Steps p.tables e below (T9.setTop (mkF m 21 #[.val (.ref a1), .val (.ref a2), .val (.ref a3)] [(.ref a3), (.ref a2), (.ref bm)])) _
    refine st10.trans ?_
    show Steps p.tables e below (T10.setTop (mkF m 24 #[.val (.ref a1), .val (.ref a2), .val (.ref a3)] [(.ref rX)])) _
    jvm_step X10.here [X10.here.top, hx, (hb hby d7_24), X10.method', Bd.returns, Value.isRef, FieldType.isReference]
    first | (intro acts; rw [hr _ acts rfl rfl rfl]) | rw [hr _ _ rfl rfl rfl]
    exact Steps.refl _
  · show own_QW Z ((((((0 : Int32) + (((0 : Int32) + (20 : Int32)) + z_s1)) + (5 : Int32)) + z_s2) + (8 : Int32)) + z_s3) (((((([] : List Value) ++ ((([] : List Value) ++ [(.int (116 : Int32)), (.int (104 : Int32)), (.int (101 : Int32)), (.int (32 : Int32)), (.int (115 : Int32)), (.int (121 : Int32)), (.int (115 : Int32)), (.int (116 : Int32)), (.int (101 : Int32)), (.int (109 : Int32)), (.int (32 : Int32)), (.int (112 : Int32)), (.int (114 : Int32)), (.int (111 : Int32)), (.int (112 : Int32)), (.int (101 : Int32)), (.int (114 : Int32)), (.int (116 : Int32)), (.int (121 : Int32)), (.int (32 : Int32))]) ++ vs_s1)) ++ [(.int (32 : Int32)), (.int (105 : Int32)), (.int (115 : Int32)), (.int (32 : Int32)), (.int (34 : Int32))]) ++ vs_s2) ++ [(.int (34 : Int32)), (.int (59 : Int32)), (.int (32 : Int32)), (.int (103 : Int32)), (.int (105 : Int32)), (.int (118 : Int32)), (.int (101 : Int32)), (.int (32 : Int32))]) ++ vs_s3) h0 n0 _ T10.heap _
    exact ⟨rX, rfl, N10, K10, RX⟩
  · show CHr Z consts_1 s.vm s.heap T10.vm T10.heap
    rw [hh]
    exact R10.trans (CHv.at X10 hZ10 (own_EW hw) R10.1)
theorem d40_0 : decode jdk_78_method_6_code 0 = .ok (.aload_n 0, 1) := by decide +kernel
theorem d40_1 : decode jdk_78_method_6_code 1 = .ok (.getfield 31, 3) := by decide +kernel
theorem d40_4 : decode jdk_78_method_6_code 4 = .ok (.areturn, 1) := by decide +kernel
theorem pn_40 : plainName "java/lang/Throwable" = true := by first | (simp [plainName, overriddenIn]; done) | decide +kernel
theorem ef_40 (m : MethodId) (x0 : Addr) : entryFrame m #[(.ref x0)] 1 = mkF m 0 #[.val (.ref x0)] [] := by first | (simp [entryFrame, mkF, argsToLocals, Value.category]; done) | rfl
set_option maxRecDepth 65536 in
set_option maxHeartbeats 40000000 in
theorem rm40 (l : Launch) (Z : State) (a0 : Array Value) (hw : ∀ d ∈ tables_1, d.before a0 Z = true) (ws : List Jvm.Cond) (a1 : Addr) (mv : Addr) (h0 : Heap) (n0 : Nat) (Z0 : n0 ≤ h0.size) (E_a1 : Exa Z h0 a1 "com/example/shiken/shiken/ContextException") (F_detailMessage_a1 : Fld Z h0 a1 "java/lang/Throwable" "detailMessage" "Ljava/lang/String;" (.ref mv)) :
    MetFree l (⟨"java/lang/Throwable", "getMessage", "()Ljava/lang/String;"⟩ : MethodName) (head1 (Jvm.Cond.code (⟨"java/lang/Throwable", "getMessage", "()Ljava/lang/String;"⟩ : MethodName) jdk_78_method_6_code 1 (some (.object "java/lang/String")) :: ws) ({ frames := 0, cells := 0, slots := 0, locals := 0 } : Room)) (fun a U => a = #[(.ref a1)] ∧ Z.Warmed39 U.vm ∧ U.heap = h0) (fun _ _ _ _ _ => True) (fun _ U o U' => ∃ v L, o = .returned v ∧ own_QR (.ref mv) h0 n0 v U'.heap L ∧ FrameEnd U o U' L ({ frames := 0, cells := 0, slots := 0, locals := 0 } : Room).cells ({ frames := 0, cells := 0, slots := 0, locals := 0 } : Room).slots) := by
  refine MetFree.of_bodySF (plainFor_of_name pn_40) hisR ?_
  intro p e s m args below meth c s₁ Bd hml0 hP hK
  obtain ⟨rfl, hZ, hh⟩ := hP
  have hx := Bd.exec
  have hby := Bd.bytes
  have hml : c.maxLocals = 1 := hml0
  have hown : s.vm.findClass "java/lang/Throwable" = some m.cls := findClass_of_methodNamed Bd.named
  have hnm := (name_of_methodNamed Bd.named Bd.method).1
  have X0 : Stand p l e ({ frames := 0, cells := 0, slots := 0, locals := 0 } : Room) s m #[(.ref a1)] below meth c s₁ [] 0 0 := Stand.of_body Bd
  have e0 : s₁.heap = h0 := by rw [← hh, Bd.state]; rfl
  have N0 := Fr.nil n0
  have pre0 : ∀ t, Steps p.tables e below (s₁.setTop (mkF m 0 #[.val (.ref a1)] [])) t → Steps p.tables e below (s₁.setTop (entryFrame m #[(.ref a1)] 1)) t := fun t k => castTop (ef_40 m a1) k
  obtain ⟨T2, X2, e2, st2⟩ := getF X0 hx hZ hown (host := "") (Or.inl (hw _ (wI 228 rfl))) Via.refl e0 F_detailMessage_a1 (g := (mkF m 1 #[.val (.ref a1)] [(.ref a1)])) rfl rfl (hb hby d40_1)
  obtain ⟨fs, hr, hrun, hended, hW, hsame⟩ := X2.leave (v := some (.ref mv)) (fun h => by rw [Bd.returns] at h; cases h)
  refine ⟨_, _, pre0 _ ?_, hrun, hended, _, _, rfl, ?_, ⟨_, rfl⟩, hW, hsame.mono (by decide) (by decide)⟩
  · show Steps p.tables e below (s₁.setTop (mkF m 0 #[.val (.ref a1)] [])) _
    refine XS.aloadN X0.here hx rfl (hb hby d40_0) rfl rfl ?_
    show Steps p.tables e below (s₁.setTop (mkF m 1 #[.val (.ref a1)] [(.ref a1)])) _
    refine st2 _ ?_
    show Steps p.tables e below (T2.setTop (mkF m 4 #[.val (.ref a1)] [(.ref mv)])) _
    jvm_step X2.here [X2.here.top, hx, (hb hby d40_4), X2.method', Bd.returns, Value.isRef, FieldType.isReference]
    first | (intro acts; rw [hr _ acts rfl rfl rfl]) | rw [hr _ _ rfl rfl rfl]
    exact Steps.refl _
  · show own_QR (.ref mv) h0 n0 _ T2.heap _
    rw [e2]
    exact ⟨rfl, N0, rfl⟩
def own_Q00 (Z : State) (a1 : Addr) (h0 : Heap) (n0 : Nat) (v : Option Value) (h : Heap) (L : List Loc) : Prop := v = none ∧ Fr n0 L ∧ Keep h0 h [a1] ∧ ∃ (t : Addr) (k : ClassId), Fld Z h a1 "java/lang/String" "value" "[B" (.ref t) ∧ Fld Z h a1 "java/lang/String" "coder" "B" (.int (0 : Int32)) ∧ Arv Z h t k .byte (0 : Int32) [] (.int (0 : Int32))
theorem d2_0 : decode jdk_42_method_149_code 0 = .ok (.aload_n 0, 1) := by decide +kernel
theorem d2_1 : decode jdk_42_method_149_code 1 = .ok (.invokespecial 1, 3) := by decide +kernel
theorem d2_4 : decode jdk_42_method_149_code 4 = .ok (.iload_n 3, 1) := by decide +kernel
theorem d2_5 : decode jdk_42_method_149_code 5 = .ok (.ifCond .ne 22, 3) := by decide +kernel
theorem d2_8 : decode jdk_42_method_149_code 8 = .ok (.aload_n 0, 1) := by decide +kernel
theorem d2_9 : decode jdk_42_method_149_code 9 = .ok (.ldc 7, 2) := by decide +kernel
theorem d2_11 : decode jdk_42_method_149_code 11 = .ok (.getfield 9, 3) := by decide +kernel
theorem d2_14 : decode jdk_42_method_149_code 14 = .ok (.putfield 9, 3) := by decide +kernel
theorem d2_17 : decode jdk_42_method_149_code 17 = .ok (.aload_n 0, 1) := by decide +kernel
theorem d2_18 : decode jdk_42_method_149_code 18 = .ok (.ldc 7, 2) := by decide +kernel
theorem d2_20 : decode jdk_42_method_149_code 20 = .ok (.getfield 15, 3) := by decide +kernel
theorem d2_23 : decode jdk_42_method_149_code 23 = .ok (.putfield 15, 3) := by decide +kernel
theorem d2_26 : decode jdk_42_method_149_code 26 = .ok (.return_, 1) := by decide +kernel
theorem pn_2 : plainName "java/lang/String" = true := by first | (simp [plainName, overriddenIn]; done) | decide +kernel
theorem ef_2_null4 (m : MethodId) (x0 : Addr) (x1 : Addr) (x2 : Int32) (x3 : Int32) : entryFrame m #[(.ref x0), (.ref x1), (.int x2), (.int x3), .null] 6 = mkF m 0 #[.val (.ref x0), .val (.ref x1), .val (.int x2), .val (.int x3), .val .null, .unset] [] := by first | (simp [entryFrame, mkF, argsToLocals, Value.category]; done) | rfl
set_option maxRecDepth 65536 in
set_option maxHeartbeats 40000000 in
theorem rm2 (l : Launch) (Z : State) (a0 : Array Value) (hw : ∀ d ∈ tables_1, d.before a0 Z = true) (ws : List Jvm.Cond) (a1 : Addr) (a2 : Addr) (p3 : Int32) (p4 : Int32) (h0 : Heap) (n0 : Nat) (Z0 : n0 ≤ h0.size) (E_a1 : Exa Z h0 a1 "java/lang/String") (F_value_a1 : Fld Z h0 a1 "java/lang/String" "value" "[B" .null) (F_coder_a1 : Fld Z h0 a1 "java/lang/String" "coder" "B" (.int (0 : Int32))) (g_a1 : n0 ≤ a1) (hc5 : p4 = (0 : Int32)) :
    MetFree l (⟨"java/lang/String", "<init>", "([CIILjava/lang/Void;)V"⟩ : MethodName) (head1 (Jvm.Cond.code (⟨"java/lang/String", "<init>", "([CIILjava/lang/Void;)V"⟩ : MethodName) jdk_42_method_149_code 6 none :: ws) ({ frames := 1, cells := 2, slots := 4, locals := 12 } : Room)) (fun a U => a = #[(.ref a1), (.ref a2), (.int p3), (.int p4), .null] ∧ Z.Warmed39 U.vm ∧ U.heap = h0 ∧ CHv Z consts_1 U.vm h0) (fun _ _ _ _ _ => True) (fun _ U o U' => ∃ v L, o = .returned v ∧ own_Q00 Z a1 h0 n0 v U'.heap L ∧ CHr Z consts_1 U.vm U.heap U'.vm U'.heap ∧ ReturnedEndW U o U' L ({ frames := 1, cells := 2, slots := 4, locals := 12 } : Room).cells ({ frames := 1, cells := 2, slots := 4, locals := 12 } : Room).slots) := by
  refine MetFree.of_bodySF (plainFor_of_name pn_2) hisR ?_
  intro p e s m args below meth c s₁ Bd hml0 hP hK
  obtain ⟨rfl, hZ, hh, H0⟩ := hP
  have hx := Bd.exec
  have hby := Bd.bytes
  have hml : c.maxLocals = 6 := hml0
  have hown : s.vm.findClass "java/lang/String" = some m.cls := findClass_of_methodNamed Bd.named
  have hnm := (name_of_methodNamed Bd.named Bd.method).1
  have X0 : Stand p l e ({ frames := 1, cells := 2, slots := 4, locals := 12 } : Room) (s.setVm s.vm) m #[(.ref a1), (.ref a2), (.int p3), (.int p4), .null] below meth c s₁ [] 0 0 := Stand.of_body Bd
  have e0 : s₁.heap = h0 := by rw [← hh, Bd.state]; rfl
  have N0 := Fr.nil n0
  have pre0 : ∀ t, Steps p.tables e below (s₁.setTop (mkF m 0 #[.val (.ref a1), .val (.ref a2), .val (.int p3), .val (.int p4), .val .null, .unset] [])) t → Steps p.tables e below (s₁.setTop (entryFrame m #[(.ref a1), (.ref a2), (.int p3), (.int p4), .null] 6)) t := fun t k => castTop (ef_2_null4 m a1 a2 p3 p4) k
  have hS : s.Since s.vm 0 := (State.WarmedH.refl s).since 0
  have hk := Nat.zero_le h0.size
  have R0 : CHr Z consts_1 s.vm h0 s.vm h0 := CHr.refl H0
  have Sf_a1_0 := own_safeN (EL := consts_1) (vm := s.vm) hZ.alike E_a1 F_value_a1
  obtain ⟨T5, X5, e5, st5⟩ := initO X0 hx hZ hown (hw _ (wI 11 rfl)) (hw _ (wI 12 rfl)) (hw _ (wI 13 rfl)) e0 (g := (mkF m 1 #[.val (.ref a1), .val (.ref a2), .val (.int p3), .val (.int p4), .val .null, .unset] [(.ref a1)])) rfl (by rw [hml]; rfl) rfl (hb hby d2_1) (by decide) (W := 0) (by show 2 * 0 + _ ≤ _; exact Nat.le_of_eq rfl) (by decide)
  obtain ⟨b6, T6, h6, k1_6, v6, kc6, X6, e6, E6, hS, hk, hZ6, hown6, E_b6, F_coder_b6, F_value_b6, V_v6, lt_b6, lt_v6, Cr6, Lit_b6, Sep6, st6⟩ := ldcCH X5 hx hZ hown (hw _ (wI 30 rfl)) (own_wS hw) e5 hS hk (own_EW hw) (by decide) R0.1 (vs := []) (z := (0 : Int32)) ⟨by decide, by decide⟩ (by decide) (by decide) (g := (mkF m 9 #[.val (.ref a1), .val (.ref a2), .val (.int p3), .val (.int p4), .val .null, .unset] [(.ref a1)])) rfl (hb hby d2_9) (n := 0) (by decide) (by decide) (by decide) (by decide)
  have Sf_a1_6 := Cr6.safe E_a1.lt Sf_a1_0
  have R6 := R0.trans Cr6
  have K6 : Keep h0 h6 [a1] := (Keep.refl h0 [a1]).ext E6
  obtain ⟨T7, X7, e7, st7⟩ := getF X6 hx hZ6 hown6 (host := "") (Or.inl (hw _ (wI 28 rfl))) Via.refl e6 F_value_b6 (g := (mkF m 11 #[.val (.ref a1), .val (.ref a2), .val (.int p3), .val (.int p4), .val .null, .unset] [(.ref b6), (.ref a1)])) rfl rfl (hb hby d2_11)
  obtain ⟨T8, h8, X8, e8, W8, st8⟩ := putF X7 hx hZ6 hown6 (host := "") (Or.inl (hw _ (wI 28 rfl))) Via.refl e7 (F_value_a1.ext E6) (E_a1.ext E6) (Or.inr ⟨(hw _ (wI 29 rfl)), rfl, hnm⟩) (hw _ (wI 1 rfl)) (ty := (.array .byte)) (by decide) rfl rfl (g := (mkF m 14 #[.val (.ref a1), .val (.ref a2), .val (.int p3), .val (.int p4), .val .null, .unset] [(.ref v6), (.ref a1)])) rfl rfl (hb hby d2_14)
  have R8 := R6.trans (CHr.wr W8 Sf_a1_6 R6.1)
  have Sf_a1_8 := Safe.wr W8 Sf_a1_6 R6.1 Sf_a1_6
  have Fw8 := (F_value_a1.ext E6).same W8
  have K8 : Keep h0 h8 [a1] := K6.wr W8 (Or.inl (List.mem_of_getElem? (i := 0) rfl))
  have N8 := Fr.snoc X8 N0 g_a1
  obtain ⟨T9, X9, e9, st9⟩ := getF X8 hx hZ6 hown6 (host := "") (Or.inl (hw _ (wI 26 rfl))) Via.refl e8 (F_coder_b6.other W8 (Or.inl (Ne.symm (Sep6 _ Sf_a1_6).1))) (g := (mkF m 20 #[.val (.ref a1), .val (.ref a2), .val (.int p3), .val (.int p4), .val .null, .unset] [(.ref b6), (.ref a1)])) rfl rfl (hb hby d2_20)
  obtain ⟨T10, h10, X10, e10, W10, st10⟩ := putFN X9 hx hZ6 hown6 (hw _ (wI 26 rfl)) Via.refl e9 ((F_coder_a1.ext E6).other W8 (Or.inr (slot_ne (Or.inr (hw _ (wI 27 rfl))) (Or.inr (hw _ (wI 29 rfl))) (by decide) (t := .byte) (t' := (.array .byte)) (by decide) (by decide)))) ((E_a1.ext E6).wr W8) (Or.inr ⟨(hw _ (wI 27 rfl)), rfl, hnm⟩) (hw _ (wI 1 rfl)) (ty := .byte) (v' := .int (nar .byte (0 : Int32))) (by decide) rfl (fits_nar_byte _) (g := (mkF m 23 #[.val (.ref a1), .val (.ref a2), .val (.int p3), .val (.int p4), .val .null, .unset] [(.int (0 : Int32)), (.ref a1)])) rfl rfl (hb hby d2_23)
  have R10 := R8.trans (CHr.wr W10 Sf_a1_8 R8.1)
  have Sf_a1_10 := Safe.wr W10 Sf_a1_8 R8.1 Sf_a1_8
  have Fw10 := ((F_coder_a1.ext E6).other W8 (Or.inr (slot_ne (Or.inr (hw _ (wI 27 rfl))) (Or.inr (hw _ (wI 29 rfl))) (by decide) (t := .byte) (t' := (.array .byte)) (by decide) (by decide)))).same W10
  have K10 : Keep h0 h10 [a1] := K8.wr W10 (Or.inl (List.mem_of_getElem? (i := 0) rfl))
  have N10 := Fr.snoc X10 N8 g_a1
  have End_0 := (Fw8.other W10 (Or.inr (slot_ne (Or.inr (hw _ (wI 29 rfl))) (Or.inr (hw _ (wI 27 rfl))) (by decide) (t := (.array .byte)) (t' := .byte) (by decide) (by decide))))
  have End_1 := Fw10
  have End_2 := ((V_v6.other W8 (Ne.symm (Sep6 _ Sf_a1_6).2)).other W10 (Ne.symm (Sep6 _ Sf_a1_6).2))
  obtain ⟨fs, hr, hrun, hended, hRW⟩ := X10.leaveW hS (by rw [e10]; exact (Nat.le_trans (Nat.le_trans hk (Keep.of_wr W8).1) (Keep.of_wr W10).1)) (v := none) (fun _ => rfl)
  refine ⟨_, _, pre0 _ ?_, hrun, hended, _, _, rfl, ?_, ?_, hRW.1, hRW.2.1, hRW.2.2.1, hRW.2.2.2.mono (by decide) (by decide)⟩
  · show Steps p.tables e below (s₁.setTop (mkF m 0 #[.val (.ref a1), .val (.ref a2), .val (.int p3), .val (.int p4), .val .null, .unset] [])) _
    refine XS.aloadN X0.here hx rfl (hb hby d2_0) rfl rfl ?_
    show Steps p.tables e below (s₁.setTop (mkF m 1 #[.val (.ref a1), .val (.ref a2), .val (.int p3), .val (.int p4), .val .null, .unset] [(.ref a1)])) _
    refine st5 _ ?_
    show Steps p.tables e below (T5.setTop (mkF m 4 #[.val (.ref a1), .val (.ref a2), .val (.int p3), .val (.int p4), .val .null, .unset] [])) _
    refine XS.iloadN X5.here hx rfl (hb hby d2_4) rfl ?_
    show Steps p.tables e below (T5.setTop (mkF m 5 #[.val (.ref a1), .val (.ref a2), .val (.int p3), .val (.int p4), .val .null, .unset] [(.int p4)])) _
    refine XS.ifNo X5.here hx rfl (hb hby d2_5) rfl ((if0 _ _).trans (teq hc5).2) ?_
    show Steps p.tables e below (T5.setTop (mkF m 8 #[.val (.ref a1), .val (.ref a2), .val (.int p3), .val (.int p4), .val .null, .unset] [])) _
    refine XS.aloadN X5.here hx rfl (hb hby d2_8) rfl rfl ?_
    show Steps p.tables e below (T5.setTop (mkF m 9 #[.val (.ref a1), .val (.ref a2), .val (.int p3), .val (.int p4), .val .null, .unset] [(.ref a1)])) _
    refine st6 _ ?_
    show Steps p.tables e below (T6.setTop (mkF m 11 #[.val (.ref a1), .val (.ref a2), .val (.int p3), .val (.int p4), .val .null, .unset] [(.ref b6), (.ref a1)])) _
    refine st7 _ ?_
    show Steps p.tables e below (T7.setTop (mkF m 14 #[.val (.ref a1), .val (.ref a2), .val (.int p3), .val (.int p4), .val .null, .unset] [(.ref v6), (.ref a1)])) _
    refine st8 _ ?_
    show Steps p.tables e below (T8.setTop (mkF m 17 #[.val (.ref a1), .val (.ref a2), .val (.int p3), .val (.int p4), .val .null, .unset] [])) _
    refine XS.aloadN X8.here hx rfl (hb hby d2_17) rfl rfl ?_
    show Steps p.tables e below (T8.setTop (mkF m 18 #[.val (.ref a1), .val (.ref a2), .val (.int p3), .val (.int p4), .val .null, .unset] [(.ref a1)])) _
    refine ldcAgain X8 hx hZ6 hown6 (hw _ (wI 30 rfl)) Lit_b6 (g := (mkF m 18 #[.val (.ref a1), .val (.ref a2), .val (.int p3), .val (.int p4), .val .null, .unset] [(.ref a1)])) rfl (hb hby d2_18) _ ?_
    show Steps p.tables e below (T8.setTop (mkF m 20 #[.val (.ref a1), .val (.ref a2), .val (.int p3), .val (.int p4), .val .null, .unset] [(.ref b6), (.ref a1)])) _
    refine st9 _ ?_
    show Steps p.tables e below (T9.setTop (mkF m 23 #[.val (.ref a1), .val (.ref a2), .val (.int p3), .val (.int p4), .val .null, .unset] [(.int (0 : Int32)), (.ref a1)])) _
    refine st10 _ ?_
    show Steps p.tables e below (T10.setTop (mkF m 26 #[.val (.ref a1), .val (.ref a2), .val (.int p3), .val (.int p4), .val .null, .unset] [])) _
    exact X10.returnOut hx Bd.returns (hb hby d2_26) hr
  · show own_Q00 Z a1 h0 n0 _ T10.heap _
    rw [e10]
    exact ⟨rfl, N10, K10, v6, kc6, End_0, End_1, End_2⟩
  · show CHr Z consts_1 s.vm s.heap T10.vm T10.heap
    rw [hh, e10]
    exact R10.trans (CHv.at X10 hZ6 (own_EW hw) R10.1)
theorem d1_0 : decode jdk_42_method_3_code 0 = .ok (.aload_n 0, 1) := by decide +kernel
theorem d1_1 : decode jdk_42_method_3_code 1 = .ok (.aload_n 1, 1) := by decide +kernel
theorem d1_2 : decode jdk_42_method_3_code 2 = .ok (.iconst 0, 1) := by decide +kernel
theorem d1_3 : decode jdk_42_method_3_code 3 = .ok (.aload_n 1, 1) := by decide +kernel
theorem d1_4 : decode jdk_42_method_3_code 4 = .ok (.arraylength, 1) := by decide +kernel
theorem d1_5 : decode jdk_42_method_3_code 5 = .ok (.aconst_null, 1) := by decide +kernel
theorem d1_6 : decode jdk_42_method_3_code 6 = .ok (.invokespecial 27, 3) := by decide +kernel
theorem d1_9 : decode jdk_42_method_3_code 9 = .ok (.return_, 1) := by decide +kernel
theorem pn_1 : plainName "java/lang/String" = true := by first | (simp [plainName, overriddenIn]; done) | decide +kernel
theorem pd_1_1 : parseMethodDescriptor "([CIILjava/lang/Void;)V" = some ⟨[(.array .char), .int, .int, (.object "java/lang/Void")], none⟩ := by decide +kernel
theorem ef_1 (m : MethodId) (x0 : Addr) (x1 : Addr) : entryFrame m #[(.ref x0), (.ref x1)] 2 = mkF m 0 #[.val (.ref x0), .val (.ref x1)] [] := by first | (simp [entryFrame, mkF, argsToLocals, Value.category]; done) | rfl
set_option maxRecDepth 65536 in
set_option maxHeartbeats 40000000 in
theorem rm1 (l : Launch) (Z : State) (a0 : Array Value) (hw : ∀ d ∈ tables_1, d.before a0 Z = true) (ws : List Jvm.Cond) (a1 : Addr) (a2 : Addr) (k_a2 : ClassId) (z_a2 : Int32) (vs_a2 : List Value) (dv_a2 : Value) (h0 : Heap) (n0 : Nat) (Z0 : n0 ≤ h0.size) (hz0 : z_a2 = (0 : Int32)) (E_a1 : Exa Z h0 a1 "java/lang/String") (F_value_a1 : Fld Z h0 a1 "java/lang/String" "value" "[B" .null) (F_coder_a1 : Fld Z h0 a1 "java/lang/String" "coder" "B" (.int (0 : Int32))) (g_a1 : n0 ≤ a1) (V_a2 : Arv Z h0 a2 k_a2 .char z_a2 vs_a2 dv_a2) :
    MetFree l (⟨"java/lang/String", "<init>", "([C)V"⟩ : MethodName) (head1 (Jvm.Cond.code (⟨"java/lang/String", "<init>", "([C)V"⟩ : MethodName) jdk_42_method_3_code 2 none :: ws) ({ frames := 2, cells := 2, slots := 4, locals := 29 } : Room)) (fun a U => a = #[(.ref a1), (.ref a2)] ∧ Z.Warmed39 U.vm ∧ U.heap = h0 ∧ CHv Z consts_1 U.vm h0) (fun _ _ _ _ _ => True) (fun _ U o U' => ∃ v L, o = .returned v ∧ own_Q00 Z a1 h0 n0 v U'.heap L ∧ CHr Z consts_1 U.vm U.heap U'.vm U'.heap ∧ ReturnedEndW U o U' L ({ frames := 2, cells := 2, slots := 4, locals := 29 } : Room).cells ({ frames := 2, cells := 2, slots := 4, locals := 29 } : Room).slots) := by
  refine MetFree.of_bodySF (plainFor_of_name pn_1) hisR ?_
  intro p e s m args below meth c s₁ Bd hml0 hP hK
  obtain ⟨rfl, hZ, hh, H0⟩ := hP
  have hx := Bd.exec
  have hby := Bd.bytes
  have hml : c.maxLocals = 2 := hml0
  have hown : s.vm.findClass "java/lang/String" = some m.cls := findClass_of_methodNamed Bd.named
  have hnm := (name_of_methodNamed Bd.named Bd.method).1
  have X0 : Stand p l e ({ frames := 2, cells := 2, slots := 4, locals := 29 } : Room) (s.setVm s.vm) m #[(.ref a1), (.ref a2)] below meth c s₁ [] 0 0 := Stand.of_body Bd
  have e0 : s₁.heap = h0 := by rw [← hh, Bd.state]; rfl
  have N0 := Fr.nil n0
  have pre0 : ∀ t, Steps p.tables e below (s₁.setTop (mkF m 0 #[.val (.ref a1), .val (.ref a2)] [])) t → Steps p.tables e below (s₁.setTop (entryFrame m #[(.ref a1), (.ref a2)] 2)) t := fun t k => castTop (ef_1 m a1 a2) k
  have hS : s.Since s.vm 0 := (State.WarmedH.refl s).since 0
  have hk := Nat.zero_le h0.size
  have R0 : CHr Z consts_1 s.vm h0 s.vm h0 := CHr.refl H0
  have Sf_a1_0 := own_safeN (EL := consts_1) (vm := s.vm) hZ.alike E_a1 F_value_a1
  obtain ⟨cl_a2_4, Ar_a2, -, S_a2, N_a2, -, -⟩ := V_a2
  obtain ⟨_, _, ⟨T3, L3, k3, n3⟩, -, X3, hSc3, hgr3, ⟨Lc3, hQ3, l3, y3, z3, Cr3⟩, st3⟩ := X0.specialBackS hx (y := (⟨"java/lang/String", "<init>", "([CIILjava/lang/Void;)V"⟩ : MethodName)) rfl hown (mvT hZ (hw _ (wI 7 rfl))) (mvT hZ (hw _ (wI 8 rfl))) (mvT hZ (hw _ (wI 10 rfl))) (by decide) (backOfSH (W := 0) (rm2 l Z a0 hw [] a1 a2 (0 : Int32) z_a2  h0 n0 Z0 E_a1 F_value_a1 F_coder_a1 g_a1 hz0) hZ (hw _ (wI 10 rfl)) (hw _ (wI 2 rfl)) (by decide) (by decide) (own_EW hw) R0.1) (g := (mkF m 6 #[.val (.ref a1), .val (.ref a2)] [.null, (.int z_a2), (.int (0 : Int32)), (.ref a2), (.ref a1)])) rfl (by rw [hml]; rfl) (Steps.refl _) (a := a1) (argsL := [(.ref a2), (.int (0 : Int32)), (.int z_a2), .null]) (rest := []) (lenOf pd_1_1 rfl) rfl (by show 2 * 0 + _ ≤ _; exact Nat.le_of_eq rfl) (hb hby d1_6) (fun _ _ => ⟨rfl, e0, (by decide : 0 + 2 ≤ _), (by decide : 0 + 4 ≤ _)⟩)
  dsimp only [Pt.U, Pt.locs, Pt.cells, Pt.slots] at hSc3 hgr3 Cr3
  dsimp only [Pt.U, Pt.locs, Pt.cells, Pt.slots] at X3 l3 y3 z3 st3 hQ3
  subst l3 y3 z3
  obtain ⟨rfl, N3q, Kc3, Rc⟩ := hQ3
  have N3 := Fr.app N0 N3q
  obtain ⟨X3, hS, hZ3, hown3⟩ := rebS hS (by rw [e0]; exact hk) X3 hSc3 hgr3 hZ hown
  have hk := Nat.le_refl T3.heap.size
  have Kq3 : Keep h0 T3.heap [a1] := Kc3
  have K3 : Keep h0 T3.heap [a1] := (Keep.refl h0 [a1]).trans Kq3 (own_trS (Or.inl (List.mem_of_getElem? (i := 0) rfl)) all0)
  have R3 := R0.trans Cr3
  have Sf_a1_3 := Cr3.safe E_a1.lt Sf_a1_0
  obtain ⟨fs, hr, hrun, hended, hRW⟩ := X3.leaveW hS (hk) (v := none) (fun _ => rfl)
  refine ⟨_, _, pre0 _ ?_, hrun, hended, _, _, rfl, ?_, ?_, hRW.1, hRW.2.1, hRW.2.2.1, hRW.2.2.2.mono (by decide) (by decide)⟩
  · show Steps p.tables e below (s₁.setTop (mkF m 0 #[.val (.ref a1), .val (.ref a2)] [])) _
    refine XS.aloadN X0.here hx rfl (hb hby d1_0) rfl rfl ?_
    show Steps p.tables e below (s₁.setTop (mkF m 1 #[.val (.ref a1), .val (.ref a2)] [(.ref a1)])) _
    refine XS.aloadN X0.here hx rfl (hb hby d1_1) rfl rfl ?_
    show Steps p.tables e below (s₁.setTop (mkF m 2 #[.val (.ref a1), .val (.ref a2)] [(.ref a2), (.ref a1)])) _
    refine XS.iconst X0.here hx rfl (hb hby d1_2) ?_
    show Steps p.tables e below (s₁.setTop (mkF m 3 #[.val (.ref a1), .val (.ref a2)] [(.int (0 : Int32)), (.ref a2), (.ref a1)])) _
    refine XS.aloadN X0.here hx rfl (hb hby d1_3) rfl rfl ?_
    show Steps p.tables e below (s₁.setTop (mkF m 4 #[.val (.ref a1), .val (.ref a2)] [(.ref a2), (.int (0 : Int32)), (.ref a2), (.ref a1)])) _
    refine X0.arraylength hx (by rw [e0]; exact Ar_a2.1) (State.isArrayOf_alike hZ.alike Ar_a2.2.1) (g := (mkF m 4 #[.val (.ref a1), .val (.ref a2)] [(.ref a2), (.int (0 : Int32)), (.ref a2), (.ref a1)])) rfl rfl (hb hby d1_4) _ ?_
    rw [len_of S_a2 N_a2]
    show Steps p.tables e below (s₁.setTop (mkF m 5 #[.val (.ref a1), .val (.ref a2)] [(.int z_a2), (.int (0 : Int32)), (.ref a2), (.ref a1)])) _
    refine XS.aconstNull X0.here hx rfl (hb hby d1_5) ?_
    show Steps p.tables e below (s₁.setTop (mkF m 6 #[.val (.ref a1), .val (.ref a2)] [.null, (.int z_a2), (.int (0 : Int32)), (.ref a2), (.ref a1)])) _
    refine st3.trans ?_
    show Steps p.tables e below (T3.setTop (mkF m 9 #[.val (.ref a1), .val (.ref a2)] [])) _
    exact X3.returnOut hx Bd.returns (hb hby d1_9) hr
  · show own_Q00 Z a1 h0 n0 _ T3.heap _
    exact ⟨rfl, N3, K3, Rc⟩
  · show CHr Z consts_1 s.vm s.heap T3.vm T3.heap
    rw [hh]
    exact R3.trans (CHv.at X3 hZ3 (own_EW hw) R3.1)
abbrev own_irem (x y : Int32) : Int32 := x % y
theorem own_x255 (x : Int32) : ¬ ((x &&& (255 : Int32)).toUInt32.toUInt16.toUInt32.toInt32) < 0 ∧ ¬ (255 : Int32) < ((x &&& (255 : Int32)).toUInt32.toUInt16.toUInt32.toInt32) := by rw [i2c_mask]; exact own_and255 x
theorem own_xnar (x : Int32) : nar .char ((x &&& (255 : Int32)).toUInt32.toUInt16.toUInt32.toInt32) = ((x &&& (255 : Int32)).toUInt32.toUInt16.toUInt32.toInt32) := by rw [own_nar, i2c_mask]
theorem own_arvc {Z : State} {h : Heap} {b : Addr} {k : ClassId} {z z' : Int32} {vs vs' : List Value} {d : Value} (V : Arv Z h b k .byte z vs d) (e : z = z') (ev : vs = vs') : Arv Z h b k .byte z' vs' d := by subst e ev; exact V
theorem own_65 {cs : List Int32} (h : ∀ c ∈ cs, ¬ c < 0 ∧ ¬ (255 : Int32) < c) : ∀ c ∈ cs, ¬ c < 0 ∧ ¬ (65535 : Int32) < c := fun c hc => by
  refine ⟨(h c hc).1, fun q => (h c hc).2 ?_⟩
  rw [Int32.lt_iff_toInt_lt] at q ⊢
  have y : (255 : Int32).toInt = 255 := by decide
  have z : (65535 : Int32).toInt = 65535 := by decide
  omega
theorem own_eq1 {p : Program} {l : Launch} {e : Env} {R : Room} {s : State} {args : Array Value} {below : List Frame} {len W : Nat} {Z : State} {a0 : Array Value} {h : Heap} {n0 : Nat} (hZ : Z.Warmed39 s.vm) (hw : ∀ d ∈ tables_1, d.before a0 Z = true) {x t y t' : Addr} {kb kb' : ClassId} {cs : List Int32} {z : Int32}
    (E : Exa Z h x "java/lang/String") (V : Fld Z h x "java/lang/String" "value" "[B" (.ref t)) (C : Fld Z h x "java/lang/String" "coder" "B" (.int 0)) (K : Arv Z h t kb .byte (Int32.ofNat cs.length) (cs.map fun c => Value.int (StrChars.lo8 c)) (.int 0)) (E' : Exa Z h y "java/lang/String") (V' : Fld Z h y "java/lang/String" "value" "[B" (.ref t')) (C' : Fld Z h y "java/lang/String" "coder" "B" (.int 0)) (K' : Arv Z h t' kb' .byte (Int32.ofNat cs.length) (cs.map fun c => Value.int (StrChars.lo8 c)) (.int 0))
    (hb : ∀ c ∈ cs, ¬ c < 0 ∧ ¬ (255 : Int32) < c) (l2 : cs.length ≤ 4000) (S : Sta Z h "java/lang/String" "COMPACT_STRINGS" "Z" (.int z)) (hz : ¬ z = 0) (hfr : 2 ≤ R.frames) (hlo : W + 28 ≤ R.locals) :
    Back l R p e below s args (⟨"java/lang/String", "equals", "(Ljava/lang/Object;)Z"⟩ : MethodName) len W (fun P a => a = #[.ref x, .ref y] ∧ P.U.heap = h ∧ P.cells + 0 ≤ R.cells ∧ P.slots + 0 ≤ R.slots)
      (fun P _ v B => ∃ L, own_QR (.int (1 : Int32)) h n0 v B.U.heap L ∧ B.locs = P.locs ++ L ∧ B.cells = P.cells + 0 ∧ B.slots = P.slots + 0) :=
  Back.mono (StrChars.Road.eqW (kI := 4) hZ (fun d hd => hw d ((by decide +kernel : ∀ d ∈ StrChars.Road.wordsEq, d ∈ tables_1) d hd)) (hw _ (wI 1 rfl)) E V C K (Or.inl ⟨rfl, rfl, rfl, fun c hc => (hb c hc).2⟩) (own_65 hb) l2 E' V' C' K' (Or.inl ⟨rfl, rfl, rfl, fun c hc => (hb c hc).2⟩) (own_65 hb) l2 S hz hfr hlo) (fun P a hp => hp) (fun P a v B hp hq => by
    obtain ⟨L, ⟨q1, q2, q3⟩, q4⟩ := hq
    refine ⟨L, ⟨?_, by rw [q2]; exact Fr.nil n0, q3⟩, q4⟩
    rcases q1 with ⟨r, -⟩ | ⟨-, r⟩
    · exact r
    · exact absurd rfl r)
open Jvm.Free.Exc Bundle in
theorem own_gc {p : Program} {l : Launch} {e : Env} {R : Room} {s : State} {args : Array Value} {below : List Frame} {len W : Nat} {Z : State} {a0 : Array Value} {h : Heap} {n0 : Nat} (hZ : Z.Warmed39 s.vm) (hw : ∀ d ∈ tables_1, d.before a0 Z = true) {a : Addr} (N : Unt h a) (F : Fld Z h a tN "cause" thD (.ref a)) (hf : 1 ≤ R.frames) (hl : W + 12 ≤ R.locals) :
    Back l R p e below s args RoadKit.gcN len W (fun P as => as = #[.ref a] ∧ P.U.heap = h ∧ P.cells + 0 ≤ R.cells ∧ P.slots + 0 ≤ R.slots)
      (fun P _ v B => ∃ L, own_QR .null h n0 v B.U.heap L ∧ B.locs = P.locs ++ L ∧ B.cells = P.cells + 0 ∧ B.slots = P.slots + 0) :=
  Back.mono (gcBackPure (rm := { frames := 0, cells := 0, slots := 0, locals := 0 }) hZ (hw _ ((by decide +kernel : (Cond.codeSync RoadKit.gcN RoadKit.gcB 1 (some (.object tN))) ∈ tables_1))) (hw _ ((by decide +kernel : (Cond.instanceMethod RoadKit.gcN) ∈ tables_1))) (hw _ ((by decide +kernel : (Cond.initialized tN) ∈ tables_1))) (hw _ ((by decide +kernel : (Cond.fieldLink tN 7 tN "cause" thD) ∈ tables_1))) N F rfl hf hl) (fun P a hp => hp) (fun P as v B hp hq => by
    obtain ⟨q1, q2, q3, q4, q5⟩ := hq
    exact ⟨[], ⟨by rw [q1, gcv_self], Fr.nil n0, q2⟩, by rw [q3, List.append_nil], q4, q5⟩)
theorem own_l0 : ∀ c ∈ ([] : List Int32), ¬ c < 0 ∧ ¬ (255 : Int32) < c := fun _ q => nomatch q
theorem own_lS {x : Int32} {L : List Int32} (h : ¬ x < 0 ∧ ¬ (255 : Int32) < x) (r : ∀ c ∈ L, ¬ c < 0 ∧ ¬ (255 : Int32) < c) : ∀ c ∈ x :: L, ¬ c < 0 ∧ ¬ (255 : Int32) < c := fun c q => by
  rcases List.mem_cons.mp q with rfl | q
  · exact h
  · exact r c q
theorem pn_0 : plainName "com/example/shiken/shiken/ContextExceptionForSystemPropertyPinLaw" = true := by first | (simp [plainName, overriddenIn]; done) | decide +kernel
theorem pd_0_0 : parseMethodDescriptor "([C)V" = some ⟨[(.array .char)], none⟩ := by decide +kernel
theorem pd_0_6 : parseMethodDescriptor "(Ljava/lang/String;Ljava/lang/String;Ljava/lang/String;)Lcom/example/shiken/shiken/ContextException;" = some ⟨[(.object "java/lang/String"), (.object "java/lang/String"), (.object "java/lang/String")], some (.object "com/example/shiken/shiken/ContextException")⟩ := by decide +kernel
theorem pd_0_20 : parseMethodDescriptor "()Ljava/lang/String;" = some ⟨[], some (.object "java/lang/String")⟩ := by decide +kernel
theorem pd_0_29 : parseMethodDescriptor "(Ljava/lang/Object;)Z" = some ⟨[(.object "java/lang/Object")], some .boolean⟩ := by decide +kernel
theorem pd_0_27 : parseMethodDescriptor "()Ljava/lang/Throwable;" = some ⟨[], some (.object "java/lang/Throwable")⟩ := by decide +kernel
theorem ef_0 (m : MethodId) (x0 : Int32) (x1 : Int32) (x2 : Int32) : entryFrame m #[(.int x0), (.int x1), (.int x2)] maxLocals = mkF m 0 #[.val (.int x0), .val (.int x1), .val (.int x2), .unset, .unset, .unset, .unset, .unset, .unset, .unset, .unset, .unset, .unset, .unset, .unset] [] := by first | (simp [entryFrame, mkF, argsToLocals, Value.category, maxLocals]; done) | rfl
abbrev own_csv (p1 p2 p3 : Int32) : List Int32 := [(116 : Int32), (104 : Int32), (101 : Int32), (32 : Int32), (115 : Int32), (121 : Int32), (115 : Int32), (116 : Int32), (101 : Int32), (109 : Int32), (32 : Int32), (112 : Int32), (114 : Int32), (111 : Int32), (112 : Int32), (101 : Int32), (114 : Int32), (116 : Int32), (121 : Int32), (32 : Int32), ((p1 &&& (255 : Int32)).toUInt32.toUInt16.toUInt32.toInt32), ((((p1.toUInt32 >>> ((8 : Int32) &&& 31).toUInt32).toInt32) &&& (255 : Int32)).toUInt32.toUInt16.toUInt32.toInt32), (32 : Int32), (105 : Int32), (115 : Int32), (32 : Int32), (34 : Int32), ((p2 &&& (255 : Int32)).toUInt32.toUInt16.toUInt32.toInt32), (34 : Int32), (59 : Int32), (32 : Int32), (103 : Int32), (105 : Int32), (118 : Int32), (101 : Int32), (32 : Int32), ((p3 &&& (255 : Int32)).toUInt32.toUInt16.toUInt32.toInt32), ((((p3.toUInt32 >>> ((8 : Int32) &&& 31).toUInt32).toInt32) &&& (255 : Int32)).toUInt32.toUInt16.toUInt32.toInt32)]
abbrev own_Lv0 (p1 p2 p3 : Int32) (b13 b4 b9 : Addr) : Array Slot := #[.val (.int p1), .val (.int p2), .val (.int p3), .val (.int ((p1 &&& (255 : Int32)).toUInt32.toUInt16.toUInt32.toInt32)), .val (.int ((((p1.toUInt32 >>> ((8 : Int32) &&& 31).toUInt32).toInt32) &&& (255 : Int32)).toUInt32.toUInt16.toUInt32.toInt32)), .val (.int ((p2 &&& (255 : Int32)).toUInt32.toUInt16.toUInt32.toInt32)), .val (.int (1 : Int32)), .val (.int ((p3 &&& (255 : Int32)).toUInt32.toUInt16.toUInt32.toInt32)), .val (.int ((((p3.toUInt32 >>> ((8 : Int32) &&& 31).toUInt32).toInt32) &&& (255 : Int32)).toUInt32.toUInt16.toUInt32.toInt32)), .val (.ref b4), .val (.ref b9), .val (.ref b13), .unset, .unset, .unset]
abbrev own_Lv1 (p1 p2 p3 : Int32) : Array Slot := #[.val (.int p1), .val (.int p2), .val (.int p3), .val (.int ((p1 &&& (255 : Int32)).toUInt32.toUInt16.toUInt32.toInt32)), .val (.int ((((p1.toUInt32 >>> ((8 : Int32) &&& 31).toUInt32).toInt32) &&& (255 : Int32)).toUInt32.toUInt16.toUInt32.toInt32)), .val (.int ((p2 &&& (255 : Int32)).toUInt32.toUInt16.toUInt32.toInt32)), .val (.int (1 : Int32)), .val (.int ((p3 &&& (255 : Int32)).toUInt32.toUInt16.toUInt32.toInt32)), .val (.int ((((p3.toUInt32 >>> ((8 : Int32) &&& 31).toUInt32).toInt32) &&& (255 : Int32)).toUInt32.toUInt16.toUInt32.toInt32)), .unset, .unset, .unset, .unset, .unset, .unset]
abbrev own_Lv2 (p1 p2 p3 : Int32) (b4 b9 : Addr) : Array Slot := #[.val (.int p1), .val (.int p2), .val (.int p3), .val (.int ((p1 &&& (255 : Int32)).toUInt32.toUInt16.toUInt32.toInt32)), .val (.int ((((p1.toUInt32 >>> ((8 : Int32) &&& 31).toUInt32).toInt32) &&& (255 : Int32)).toUInt32.toUInt16.toUInt32.toInt32)), .val (.int ((p2 &&& (255 : Int32)).toUInt32.toUInt16.toUInt32.toInt32)), .val (.int (1 : Int32)), .val (.int ((p3 &&& (255 : Int32)).toUInt32.toUInt16.toUInt32.toInt32)), .val (.int ((((p3.toUInt32 >>> ((8 : Int32) &&& 31).toUInt32).toInt32) &&& (255 : Int32)).toUInt32.toUInt16.toUInt32.toInt32)), .val (.ref b4), .val (.ref b9), .unset, .unset, .unset, .unset]
abbrev own_Lv3 (p1 p2 p3 : Int32) (b4 : Addr) : Array Slot := #[.val (.int p1), .val (.int p2), .val (.int p3), .val (.int ((p1 &&& (255 : Int32)).toUInt32.toUInt16.toUInt32.toInt32)), .val (.int ((((p1.toUInt32 >>> ((8 : Int32) &&& 31).toUInt32).toInt32) &&& (255 : Int32)).toUInt32.toUInt16.toUInt32.toInt32)), .val (.int ((p2 &&& (255 : Int32)).toUInt32.toUInt16.toUInt32.toInt32)), .val (.int (1 : Int32)), .val (.int ((p3 &&& (255 : Int32)).toUInt32.toUInt16.toUInt32.toInt32)), .val (.int ((((p3.toUInt32 >>> ((8 : Int32) &&& 31).toUInt32).toInt32) &&& (255 : Int32)).toUInt32.toUInt16.toUInt32.toInt32)), .val (.ref b4), .unset, .unset, .unset, .unset, .unset]
abbrev own_Lv4 (p1 p2 p3 : Int32) (b13 b18 b4 b9 bm rR : Addr) : Array Slot := #[.val (.int p1), .val (.int p2), .val (.int p3), .val (.int ((p1 &&& (255 : Int32)).toUInt32.toUInt16.toUInt32.toInt32)), .val (.int ((((p1.toUInt32 >>> ((8 : Int32) &&& 31).toUInt32).toInt32) &&& (255 : Int32)).toUInt32.toUInt16.toUInt32.toInt32)), .val (.int ((p2 &&& (255 : Int32)).toUInt32.toUInt16.toUInt32.toInt32)), .val (.int (1 : Int32)), .val (.int ((p3 &&& (255 : Int32)).toUInt32.toUInt16.toUInt32.toInt32)), .val (.int ((((p3.toUInt32 >>> ((8 : Int32) &&& 31).toUInt32).toInt32) &&& (255 : Int32)).toUInt32.toUInt16.toUInt32.toInt32)), .val (.ref b4), .val (.ref b9), .val (.ref b13), .val (.ref b18), .val (.ref rR), .val (.ref bm)]
abbrev own_Lv5 (p1 p2 p3 : Int32) : Array Slot := #[.val (.int p1), .val (.int p2), .val (.int p3), .val (.int ((p1 &&& (255 : Int32)).toUInt32.toUInt16.toUInt32.toInt32)), .val (.int ((((p1.toUInt32 >>> ((8 : Int32) &&& 31).toUInt32).toInt32) &&& (255 : Int32)).toUInt32.toUInt16.toUInt32.toInt32)), .val (.int ((p2 &&& (255 : Int32)).toUInt32.toUInt16.toUInt32.toInt32)), .unset, .unset, .unset, .unset, .unset, .unset, .unset, .unset, .unset]
abbrev own_Lv6 (p1 p2 p3 : Int32) (b13 b18 b4 b9 : Addr) : Array Slot := #[.val (.int p1), .val (.int p2), .val (.int p3), .val (.int ((p1 &&& (255 : Int32)).toUInt32.toUInt16.toUInt32.toInt32)), .val (.int ((((p1.toUInt32 >>> ((8 : Int32) &&& 31).toUInt32).toInt32) &&& (255 : Int32)).toUInt32.toUInt16.toUInt32.toInt32)), .val (.int ((p2 &&& (255 : Int32)).toUInt32.toUInt16.toUInt32.toInt32)), .val (.int (1 : Int32)), .val (.int ((p3 &&& (255 : Int32)).toUInt32.toUInt16.toUInt32.toInt32)), .val (.int ((((p3.toUInt32 >>> ((8 : Int32) &&& 31).toUInt32).toInt32) &&& (255 : Int32)).toUInt32.toUInt16.toUInt32.toInt32)), .val (.ref b4), .val (.ref b9), .val (.ref b13), .val (.ref b18), .unset, .unset]
abbrev own_Lv7 (p1 p2 p3 : Int32) : Array Slot := #[.val (.int p1), .val (.int p2), .val (.int p3), .val (.int ((p1 &&& (255 : Int32)).toUInt32.toUInt16.toUInt32.toInt32)), .unset, .unset, .unset, .unset, .unset, .unset, .unset, .unset, .unset, .unset, .unset]
abbrev own_Lv8 (p1 p2 p3 : Int32) : Array Slot := #[.val (.int p1), .val (.int p2), .val (.int p3), .val (.int ((p1 &&& (255 : Int32)).toUInt32.toUInt16.toUInt32.toInt32)), .val (.int ((((p1.toUInt32 >>> ((8 : Int32) &&& 31).toUInt32).toInt32) &&& (255 : Int32)).toUInt32.toUInt16.toUInt32.toInt32)), .val (.int ((p2 &&& (255 : Int32)).toUInt32.toUInt16.toUInt32.toInt32)), .val (.int (1 : Int32)), .val (.int ((p3 &&& (255 : Int32)).toUInt32.toUInt16.toUInt32.toInt32)), .unset, .unset, .unset, .unset, .unset, .unset, .unset]
abbrev own_Lv9 (p1 p2 p3 : Int32) (b13 b18 b4 b9 rR : Addr) : Array Slot := #[.val (.int p1), .val (.int p2), .val (.int p3), .val (.int ((p1 &&& (255 : Int32)).toUInt32.toUInt16.toUInt32.toInt32)), .val (.int ((((p1.toUInt32 >>> ((8 : Int32) &&& 31).toUInt32).toInt32) &&& (255 : Int32)).toUInt32.toUInt16.toUInt32.toInt32)), .val (.int ((p2 &&& (255 : Int32)).toUInt32.toUInt16.toUInt32.toInt32)), .val (.int (1 : Int32)), .val (.int ((p3 &&& (255 : Int32)).toUInt32.toUInt16.toUInt32.toInt32)), .val (.int ((((p3.toUInt32 >>> ((8 : Int32) &&& 31).toUInt32).toInt32) &&& (255 : Int32)).toUInt32.toUInt16.toUInt32.toInt32)), .val (.ref b4), .val (.ref b9), .val (.ref b13), .val (.ref b18), .val (.ref rR), .unset]
abbrev own_Lv10 (p1 p2 p3 : Int32) : Array Slot := #[.val (.int p1), .val (.int p2), .val (.int p3), .unset, .unset, .unset, .unset, .unset, .unset, .unset, .unset, .unset, .unset, .unset, .unset]
abbrev own_Lv11 (p1 p2 p3 : Int32) : Array Slot := #[.val (.int p1), .val (.int p2), .val (.int p3), .val (.int ((p1 &&& (255 : Int32)).toUInt32.toUInt16.toUInt32.toInt32)), .val (.int ((((p1.toUInt32 >>> ((8 : Int32) &&& 31).toUInt32).toInt32) &&& (255 : Int32)).toUInt32.toUInt16.toUInt32.toInt32)), .unset, .unset, .unset, .unset, .unset, .unset, .unset, .unset, .unset, .unset]
abbrev own_Lv12 (p1 p2 p3 : Int32) : Array Slot := #[.val (.int p1), .val (.int p2), .val (.int p3), .val (.int ((p1 &&& (255 : Int32)).toUInt32.toUInt16.toUInt32.toInt32)), .val (.int ((((p1.toUInt32 >>> ((8 : Int32) &&& 31).toUInt32).toInt32) &&& (255 : Int32)).toUInt32.toUInt16.toUInt32.toInt32)), .val (.int ((p2 &&& (255 : Int32)).toUInt32.toUInt16.toUInt32.toInt32)), .val (.int (1 : Int32)), .unset, .unset, .unset, .unset, .unset, .unset, .unset, .unset]
def own_fill (F : List Value) (n k : Nat) : List Value := F.take k ++ List.replicate (n - k) (Value.int (0 : Int32))
theorem own_fill_all {F : List Value} {n : Nat} (hF : F.length = n) : own_fill F n n = F := by
  subst hF
  simp [own_fill]
theorem own_flt {F : List Value} {n k : Nat} (hF : F.length = n) (hk : k < n) : k < (own_fill F n k).length := by
  simp [own_fill]; omega
theorem own_fill_set {F : List Value} {n k : Nat} {v : Value} (hF : F.length = n) (hk : k < n) (hv : F[k]? = some v) : (own_fill F n k).set k v = own_fill F n (k + 1) := by
  have hl : (F.take k).length = k := by simp; omega
  have hr : List.replicate (n - k) (Value.int (0 : Int32)) = Value.int (0 : Int32) :: List.replicate (n - (k + 1)) (Value.int (0 : Int32)) := by
    have e : n - k = (n - (k + 1)) + 1 := by omega
    rw [e, List.replicate_succ]
  rw [own_fill, own_fill, List.set_append_right _ _ (by omega), hl, Nat.sub_self, hr, List.set_cons_zero, List.take_add_one, hv]
  simp
theorem own_fillS {Z : State} {h : Heap} {b : Addr} {kk : ClassId} {z : Int32} {F : List Value} {n k : Nat} {v d : Value} (hF : F.length = n) (hk : k < n) (hv : F[k]? = some v) (V : Arv Z h b kk .char z ((own_fill F n k).set k v) d) : Arv Z h b kk .char z (own_fill F n (k + 1)) d := by
  rw [← own_fill_set hF hk hv]; exact V
theorem own_nar255 {x : Int32} (h : ¬ x < 0 ∧ ¬ (255 : Int32) < x) : nar .char x = x := by
  obtain ⟨h0, h1⟩ := h
  have t : ∀ k : Fin 256, nar .char (Int32.ofNat k.val) = Int32.ofNat k.val := by decide +kernel
  rw [Int32.lt_iff_toInt_lt] at h0 h1
  have e0 : (0 : Int32).toInt = 0 := rfl
  have e1 : (255 : Int32).toInt = 255 := rfl
  obtain ⟨k, hk⟩ : ∃ k : Nat, x.toInt = k := ⟨x.toInt.toNat, by omega⟩
  have hx : x = Int32.ofNat k := Int32.toInt_inj.mp (by rw [hk, Int32.toInt_ofNat_small (by omega)])
  rw [hx]
  exact t ⟨k, by omega⟩
theorem own_c {a b : Value} {l m : List Value} (h : a = b) (r : l = m) : a :: l = b :: m := by rw [h, r]
theorem own_csvr (p1 p2 p3 : Int32) : ∀ c ∈ own_csv p1 p2 p3, ¬ c < 0 ∧ ¬ (255 : Int32) < c := (own_lS (by decide) (own_lS (by decide) (own_lS (by decide) (own_lS (by decide) (own_lS (by decide) (own_lS (by decide) (own_lS (by decide) (own_lS (by decide) (own_lS (by decide) (own_lS (by decide) (own_lS (by decide) (own_lS (by decide) (own_lS (by decide) (own_lS (by decide) (own_lS (by decide) (own_lS (by decide) (own_lS (by decide) (own_lS (by decide) (own_lS (by decide) (own_lS (by decide) (own_lS (own_x255 _) (own_lS (own_x255 _) (own_lS (by decide) (own_lS (by decide) (own_lS (by decide) (own_lS (by decide) (own_lS (by decide) (own_lS (own_x255 _) (own_lS (by decide) (own_lS (by decide) (own_lS (by decide) (own_lS (by decide) (own_lS (by decide) (own_lS (by decide) (own_lS (by decide) (own_lS (by decide) (own_lS (own_x255 _) (own_lS (own_x255 _) own_l0))))))))))))))))))))))))))))))))))))))
abbrev own_Fv (p1 p2 p3 : Int32) : List Value := (own_csv p1 p2 p3).map fun c => Value.int (nar .char c)
theorem own_Fvl (p1 p2 p3 : Int32) : (own_Fv p1 p2 p3).length = 38 := rfl
theorem own_Fvc (p1 p2 p3 : Int32) : own_Fv p1 p2 p3 = (own_csv p1 p2 p3).map Value.int := List.map_congr_left fun c hc => congrArg Value.int (own_nar255 (own_csvr p1 p2 p3 c hc))
theorem own_evv (p1 p2 p3 : Int32) : (((((([] : List Value) ++ ((([] : List Value) ++ ([(.int (116 : Int32)), (.int (104 : Int32)), (.int (101 : Int32)), (.int (32 : Int32)), (.int (115 : Int32)), (.int (121 : Int32)), (.int (115 : Int32)), (.int (116 : Int32)), (.int (101 : Int32)), (.int (109 : Int32)), (.int (32 : Int32)), (.int (112 : Int32)), (.int (114 : Int32)), (.int (111 : Int32)), (.int (112 : Int32)), (.int (101 : Int32)), (.int (114 : Int32)), (.int (116 : Int32)), (.int (121 : Int32)), (.int (32 : Int32))] : List Value)) ++ ([(.int ((((p1 &&& (255 : Int32)).toUInt32.toUInt16.toUInt32.toInt32)).toInt8.toInt32)), (.int ((((((p1.toUInt32 >>> ((8 : Int32) &&& 31).toUInt32).toInt32) &&& (255 : Int32)).toUInt32.toUInt16.toUInt32.toInt32)).toInt8.toInt32))] : List Value))) ++ ([(.int (32 : Int32)), (.int (105 : Int32)), (.int (115 : Int32)), (.int (32 : Int32)), (.int (34 : Int32))] : List Value)) ++ ([(.int ((((p2 &&& (255 : Int32)).toUInt32.toUInt16.toUInt32.toInt32)).toInt8.toInt32))] : List Value)) ++ ([(.int (34 : Int32)), (.int (59 : Int32)), (.int (32 : Int32)), (.int (103 : Int32)), (.int (105 : Int32)), (.int (118 : Int32)), (.int (101 : Int32)), (.int (32 : Int32))] : List Value)) ++ ([(.int ((((p3 &&& (255 : Int32)).toUInt32.toUInt16.toUInt32.toInt32)).toInt8.toInt32)), (.int ((((((p3.toUInt32 >>> ((8 : Int32) &&& 31).toUInt32).toInt32) &&& (255 : Int32)).toUInt32.toUInt16.toUInt32.toInt32)).toInt8.toInt32))] : List Value)) = (own_csv p1 p2 p3).map fun c => Value.int (StrChars.lo8 c) := by
  simp only [own_csv, List.map_cons, List.map_nil, List.nil_append, List.cons_append, List.append_nil]
  refine own_c (congrArg Value.int (by decide)) ?_
  refine own_c (congrArg Value.int (by decide)) ?_
  refine own_c (congrArg Value.int (by decide)) ?_
  refine own_c (congrArg Value.int (by decide)) ?_
  refine own_c (congrArg Value.int (by decide)) ?_
  refine own_c (congrArg Value.int (by decide)) ?_
  refine own_c (congrArg Value.int (by decide)) ?_
  refine own_c (congrArg Value.int (by decide)) ?_
  refine own_c (congrArg Value.int (by decide)) ?_
  refine own_c (congrArg Value.int (by decide)) ?_
  refine own_c (congrArg Value.int (by decide)) ?_
  refine own_c (congrArg Value.int (by decide)) ?_
  refine own_c (congrArg Value.int (by decide)) ?_
  refine own_c (congrArg Value.int (by decide)) ?_
  refine own_c (congrArg Value.int (by decide)) ?_
  refine own_c (congrArg Value.int (by decide)) ?_
  refine own_c (congrArg Value.int (by decide)) ?_
  refine own_c (congrArg Value.int (by decide)) ?_
  refine own_c (congrArg Value.int (by decide)) ?_
  refine own_c (congrArg Value.int (by decide)) ?_
  refine own_c rfl ?_
  refine own_c rfl ?_
  refine own_c (congrArg Value.int (by decide)) ?_
  refine own_c (congrArg Value.int (by decide)) ?_
  refine own_c (congrArg Value.int (by decide)) ?_
  refine own_c (congrArg Value.int (by decide)) ?_
  refine own_c (congrArg Value.int (by decide)) ?_
  refine own_c rfl ?_
  refine own_c (congrArg Value.int (by decide)) ?_
  refine own_c (congrArg Value.int (by decide)) ?_
  refine own_c (congrArg Value.int (by decide)) ?_
  refine own_c (congrArg Value.int (by decide)) ?_
  refine own_c (congrArg Value.int (by decide)) ?_
  refine own_c (congrArg Value.int (by decide)) ?_
  refine own_c (congrArg Value.int (by decide)) ?_
  refine own_c (congrArg Value.int (by decide)) ?_
  refine own_c rfl ?_
  refine own_c rfl ?_
  rfl
set_option maxRecDepth 65536 in
set_option maxHeartbeats 40000000 in
theorem rm0_v (l : Launch) (Z : State) (a0 : Array Value) (hw : ∀ d ∈ tables_1, d.before a0 Z = true) (ws : List Jvm.Cond) (p1 : Int32) (p2 : Int32) (p3 : Int32) (G1 : Int32) (G2 : Addr) (G3 : Addr) (h0 : Heap) (n0 : Nat) (Z0 : n0 ≤ h0.size) (hl : l.stackTraces = true) (S_COMPACT_STRINGS : Sta Z Z.heap "java/lang/String" "COMPACT_STRINGS" "Z" (.int G1)) (X00 : Old Z n0 h0) (P3 : ¬ (G1 = (0 : Int32))) (S_UNASSIGNED_STACK : Sta Z Z.heap "java/lang/Throwable" "UNASSIGNED_STACK" "[Ljava/lang/StackTraceElement;" (.ref G2)) (S_SUPPRESSED_SENTINEL : Sta Z Z.heap "java/lang/Throwable" "SUPPRESSED_SENTINEL" "Ljava/util/List;" (.ref G3)) (hc32 : ¬ ((((p2.toUInt32 >>> ((8 : Int32) &&& 31).toUInt32).toInt32) &&& (1 : Int32)) = (0 : Int32))) (hc84 : ¬ ((1 : Int32) = (0 : Int32))) (hc141 : ¬ ((1 : Int32) = (0 : Int32))) (hc646 : ¬ ((1 : Int32) = (0 : Int32))) :
    MetFree l x (head1 (Jvm.Cond.code x code maxLocals ret :: ws) room_1) (fun a U => a = #[(.int p1), (.int p2), (.int p3)] ∧ Z.Warmed39 U.vm ∧ U.heap = h0 ∧ CHv Z consts_1 U.vm h0) (fun _ _ bl s _ => s.vm.MethodsKnown ∧ s.vm.FramesKnown bl) (fun _ U o U' => ∃ v L, o = .returned v ∧ own_Q1 h0 n0 v U'.heap L ∧ CHr Z consts_1 U.vm U.heap U'.vm U'.heap ∧ ReturnedEndW U o U' L room_1.cells room_1.slots) := by
  refine MetFree.of_bodySF (plainFor_of_name pn_0) hisR ?_
  intro p e s m args below meth c s₁ Bd hml0 hP hK
  obtain ⟨rfl, hZ, hh, H0⟩ := hP
  have hx := Bd.exec
  have hby := Bd.bytes
  have hml : c.maxLocals = 15 := hml0
  have hown : s.vm.findClass "com/example/shiken/shiken/ContextExceptionForSystemPropertyPinLaw" = some m.cls := findClass_of_methodNamed Bd.named
  have hnm := (name_of_methodNamed Bd.named Bd.method).1
  have X0 : Stand p l e room_1 (s.setVm s.vm) m #[(.int p1), (.int p2), (.int p3)] below meth c s₁ [] 0 0 := Stand.of_body Bd
  have e0 : s₁.heap = h0 := by rw [← hh, Bd.state]; rfl
  have N0 := Fr.nil n0
  have pre0 : ∀ t, Steps p.tables e below (s₁.setTop (mkF m 0 (own_Lv10 p1 p2 p3) [])) t → Steps p.tables e below (s₁.setTop (entryFrame m #[(.int p1), (.int p2), (.int p3)] maxLocals)) t := fun t k => castTop (ef_0 m p1 p2 p3) k
  have hws : ∀ d ∈ StrChars.Road.words, d.before a0 Z = true := fun d hd => hw d ((by decide +kernel : ∀ d ∈ StrChars.Road.words, d ∈ tables_1) d hd)
  have hS : s.Since s.vm 0 := (State.WarmedH.refl s).since 0
  have hk := Nat.zero_le h0.size
  have R0 : CHr Z consts_1 s.vm h0 s.vm h0 := CHr.refl H0
  obtain ⟨T4, h4, X4, e4, E4, A4, D4, Un4, st4⟩ := newO X0 hx hZ hown (hw _ (wI 0 rfl)) (hw _ (wI 1 rfl)) (hw _ (wI 2 rfl)) e0 (g := (mkF m 61 (own_Lv1 p1 p2 p3) [])) rfl (hb hby at_61) (by decide) (by decide)
  obtain ⟨b4, g4⟩ : ∃ z, z = h0.size := ⟨_, rfl⟩
  rw [← g4] at A4 D4 Un4 st4
  have U_b4 : Unt h4 b4 := Un4
  have F_coder_b4 : Fld Z h4 b4 "java/lang/String" "coder" "B" (.int (0 : Int32)) := D4 (Or.inr (hw _ (wI 27 rfl))) (ty := .byte) (by decide)
  have F_value_b4 : Fld Z h4 b4 "java/lang/String" "value" "[B" .null := D4 (Or.inr (hw _ (wI 29 rfl))) (ty := (.array .byte)) (by decide)
  have R4 := R0.trans (CHr.ext E4 R0.1)
  have Sf_b4_4 := Safe.ext E4 R0.1 (Safe.new (Nat.le_of_eq g4.symm))
  have E_b4 := A4
  have g_b4 : n0 ≤ b4 := Nat.le_trans Z0 (Nat.le_of_eq g4.symm)
  have sz_b4 : h0.size ≤ b4 := (Nat.le_trans (Keep.refl h0 []).1 (Nat.le_of_eq g4.symm))
  have K4 : Keep h0 h4 [] := (Keep.refl h0 []).ext E4
  obtain ⟨T5, h5, k5, X5, e5, E5, A5, st5⟩ := newP X4 hx hZ (hw _ (wI 3 rfl)) e4 (g := (mkF m 66 (own_Lv1 p1 p2 p3) [(.int (2 : Int32)), (.ref b4), (.ref b4)])) rfl (hb hby at_66) rfl (by decide) (cap := 2) (by decide) (by decide) (by decide) (by decide)
  obtain ⟨b5, g5⟩ : ∃ z, z = h4.size := ⟨_, rfl⟩
  rw [← g5] at A5 st5
  have V_b5 : Arv Z h5 b5 k5 .char (2 : Int32) [(.int (0 : Int32)), (.int (0 : Int32))] (.int (0 : Int32)) := (Arv.new A5 (by decide)).pad (pad_rep [] (.int (0 : Int32)) 2)
  have g_b5 : n0 ≤ b5 := Nat.le_trans (Nat.le_trans Z0 E4.1) (Nat.le_of_eq g5.symm)
  have sz_b5 : h0.size ≤ b5 := (Nat.le_trans K4.1 (Nat.le_of_eq g5.symm))
  have R5 := R4.trans (CHr.ext E5 R4.1)
  have Sf_b4_5 := Safe.ext E5 R4.1 Sf_b4_4
  have Sf_b5_5 := Safe.ext E5 R4.1 (Safe.new (Nat.le_of_eq g5.symm))
  have K5 : Keep h0 h5 [] := K4.ext E5
  obtain ⟨cl_b5_71, Ar_b5, q_b5, S_b5, N_b5, H_b5, G_b5⟩ := V_b5
  have hin71 : ¬ ((0 : Int32) < 0 ∨ cl_b5_71.slots.size ≤ ((0 : Int32)).toNatClampNeg) := inb_of S_b5 ⟨by decide, by decide⟩
  obtain ⟨T6, h6, X6, e6, W6, st6⟩ := stC X5 hx hZ e5 Ar_b5 (j := (0 : Int32)) hin71 (g := (mkF m 71 (own_Lv1 p1 p2 p3) [(.int ((p1 &&& (255 : Int32)).toUInt32.toUInt16.toUInt32.toInt32)), (.int (0 : Int32)), (.ref b5), (.ref b5), (.ref b4), (.ref b4)])) rfl rfl (hb hby at_71)
  have V_b5_6 := Arv.set Ar_b5 q_b5 S_b5 N_b5 H_b5 G_b5 (fits_nar_char _) W6 0 rfl (Nat.le_of_ble_eq_true rfl)
  have R6 := R5.trans (CHr.wr W6 Sf_b5_5 R5.1)
  have Sf_b4_6 := Safe.wr W6 Sf_b5_5 R5.1 Sf_b4_5
  have Sf_b5_6 := Safe.wr W6 Sf_b5_5 R5.1 Sf_b5_5
  have K6 : Keep h0 h6 [] := K5.wr W6 (Or.inr sz_b5)
  have N6 := Fr.snoc X6 N0 g_b5
  obtain ⟨cl_b5_76, Ar_b5, q_b5, S_b5, N_b5, H_b5, G_b5⟩ := V_b5_6
  have hin76 : ¬ ((1 : Int32) < 0 ∨ cl_b5_76.slots.size ≤ ((1 : Int32)).toNatClampNeg) := inb_of S_b5 ⟨by decide, by decide⟩
  obtain ⟨T7, h7, X7, e7, W7, st7⟩ := stC X6 hx hZ e6 Ar_b5 (j := (1 : Int32)) hin76 (g := (mkF m 76 (own_Lv1 p1 p2 p3) [(.int ((((p1.toUInt32 >>> ((8 : Int32) &&& 31).toUInt32).toInt32) &&& (255 : Int32)).toUInt32.toUInt16.toUInt32.toInt32)), (.int (1 : Int32)), (.ref b5), (.ref b5), (.ref b4), (.ref b4)])) rfl rfl (hb hby at_76)
  have V_b5_7 := Arv.set Ar_b5 q_b5 S_b5 N_b5 H_b5 G_b5 (fits_nar_char _) W7 1 rfl (Nat.le_of_ble_eq_true rfl)
  have R7 := R6.trans (CHr.wr W7 Sf_b5_6 R6.1)
  have Sf_b4_7 := Safe.wr W7 Sf_b5_6 R6.1 Sf_b4_6
  have Sf_b5_7 := Safe.wr W7 Sf_b5_6 R6.1 Sf_b5_6
  have K7 : Keep h0 h7 [] := K6.wr W7 (Or.inr sz_b5)
  have N7 := Fr.snoc X7 N6 g_b5
  have SC8 := S_COMPACT_STRINGS.ext ((X00.keep K7 all0)).2
  have Eb8 := (((E_b4.ext E5).wr W6).wr W7)
  have Fvb8 := (((F_value_b4.ext E5).other W6 (Or.inl (Nat.ne_of_lt (Nat.lt_of_lt_of_le E_b4.lt (Nat.le_of_eq g5.symm))))).other W7 (Or.inl (Nat.ne_of_lt (Nat.lt_of_lt_of_le E_b4.lt (Nat.le_of_eq g5.symm)))))
  have Fcb8 := (((F_coder_b4.ext E5).other W6 (Or.inl (Nat.ne_of_lt (Nat.lt_of_lt_of_le E_b4.lt (Nat.le_of_eq g5.symm))))).other W7 (Or.inl (Nat.ne_of_lt (Nat.lt_of_lt_of_le E_b4.lt (Nat.le_of_eq g5.symm)))))
  have Zb8 := (Nat.le_trans (Nat.le_trans (Nat.le_trans (Nat.le_trans Z0 E4.1) E5.1) (Keep.of_wr W6).1) (Keep.of_wr W7).1)
  have Vb8 : Arv Z h7 b5 k5 .char (2 : Int32) [(.int ((p1 &&& (255 : Int32)).toUInt32.toUInt16.toUInt32.toInt32)), (.int ((((p1.toUInt32 >>> ((8 : Int32) &&& 31).toUInt32).toInt32) &&& (255 : Int32)).toUInt32.toUInt16.toUInt32.toInt32))] (.int (0 : Int32)) := by
    have q : Arv Z h7 b5 k5 .char (2 : Int32) [(.int (nar .char ((p1 &&& (255 : Int32)).toUInt32.toUInt16.toUInt32.toInt32))), (.int (nar .char ((((p1.toUInt32 >>> ((8 : Int32) &&& 31).toUInt32).toInt32) &&& (255 : Int32)).toUInt32.toUInt16.toUInt32.toInt32)))] (.int (0 : Int32)) := V_b5_7
    simp only [own_xnar] at q
    exact q
  obtain ⟨_, _, ⟨T8, L8, k8, n8⟩, -, X8, ⟨Lc8, hQ8, l8, y8, z8⟩, st8⟩ := X7.specialBack hx (y := (⟨"java/lang/String", "<init>", "([C)V"⟩ : MethodName)) rfl hown (mvT hZ (hw _ (wI 4 rfl))) (mvT hZ (hw _ (wI 5 rfl))) (mvT hZ (hw _ (wI 6 rfl))) (by decide) (StrChars.Road.backV (W := 1) hZ hws (kI := 4) (hw _ (wI 1 rfl)) (cs := [((p1 &&& (255 : Int32)).toUInt32.toUInt16.toUInt32.toInt32), ((((p1.toUInt32 >>> ((8 : Int32) &&& 31).toUInt32).toInt32) &&& (255 : Int32)).toUInt32.toUInt16.toUInt32.toInt32)]) (bs := [(((p1 &&& (255 : Int32)).toUInt32.toUInt16.toUInt32.toInt32)).toInt8.toInt32, (((((p1.toUInt32 >>> ((8 : Int32) &&& 31).toUInt32).toInt32) &&& (255 : Int32)).toUInt32.toUInt16.toUInt32.toInt32)).toInt8.toInt32]) (n := 2) g_b4 Zb8 Eb8 Fvb8 Fcb8 Vb8 SC8 P3 rfl rfl (by decide) (by decide) (own_lS (own_x255 _) (own_lS (own_x255 _) own_l0)) rfl (by decide) (by decide)) (g := (mkF m 77 (own_Lv1 p1 p2 p3) [(.ref b5), (.ref b4), (.ref b4)])) rfl (by rw [hml]; rfl) (Steps.refl _) (a := b4) (argsL := [(.ref b5)]) (rest := [(.ref b4)]) (lenOf pd_0_0 rfl) rfl (by show 2 * 0 + _ ≤ _; exact Nat.le_of_eq rfl) (hb hby at_77) (fun _ _ => ⟨rfl, e7, (by decide : 2 + 1 ≤ _), (by decide : 6 + 2 ≤ _)⟩)
  dsimp only [Pt.U, Pt.locs, Pt.cells, Pt.slots] at X8 l8 y8 z8 st8 hQ8
  rw [l8, y8, z8] at X8
  obtain ⟨rfl, N8q, Kc8, Eq8, Fcq8, t8, kt8, g_t8, gz_t8, ne_t8, Fvq8, Vq8⟩ := hQ8
  have N8 := Fr.app N7 N8q
  have Kq8 : Keep h7 T8.heap [b4] := Kc8
  have K8 : Keep h0 T8.heap [] := K7.trans Kq8 (own_trS (Or.inr sz_b4) all0)
  have R8 := R7.trans (CHr.keep Kq8 (sfS Sf_b4_7 sf0) R7.1)
  have Sf_b4_8 := Safe.keep Kq8 (sfS Sf_b4_7 sf0) R7.1 Sf_b4_7
  have Sf_b5_8 := Safe.keep Kq8 (sfS Sf_b4_7 sf0) R7.1 Sf_b5_7
  have Sf_t8_8 := Safe.keep Kq8 (sfS Sf_b4_7 sf0) R7.1 (Safe.new gz_t8)
  obtain ⟨T9, h9, X9, e9, E9, A9, D9, Un9, st9⟩ := newO X8 hx hZ hown (hw _ (wI 0 rfl)) (hw _ (wI 1 rfl)) (hw _ (wI 2 rfl)) rfl (g := (mkF m 87 (own_Lv3 p1 p2 p3 b4) [])) rfl (hb hby at_87) (by decide) (by decide)
  obtain ⟨b9, g9⟩ : ∃ z, z = T8.heap.size := ⟨_, rfl⟩
  rw [← g9] at A9 D9 Un9 st9
  have U_b9 : Unt h9 b9 := Un9
  have F_coder_b9 : Fld Z h9 b9 "java/lang/String" "coder" "B" (.int (0 : Int32)) := D9 (Or.inr (hw _ (wI 27 rfl))) (ty := .byte) (by decide)
  have F_value_b9 : Fld Z h9 b9 "java/lang/String" "value" "[B" .null := D9 (Or.inr (hw _ (wI 29 rfl))) (ty := (.array .byte)) (by decide)
  have R9 := R8.trans (CHr.ext E9 R8.1)
  have Sf_b9_9 := Safe.ext E9 R8.1 (Safe.new (Nat.le_of_eq g9.symm))
  have E_b9 := A9
  have g_b9 : n0 ≤ b9 := Nat.le_trans (Nat.le_trans (Nat.le_trans (Nat.le_trans (Nat.le_trans (Nat.le_trans Z0 E4.1) E5.1) (Keep.of_wr W6).1) (Keep.of_wr W7).1) Kq8.1) (Nat.le_of_eq g9.symm)
  have sz_b9 : h0.size ≤ b9 := (Nat.le_trans K8.1 (Nat.le_of_eq g9.symm))
  have K9 : Keep h0 h9 [] := K8.ext E9
  obtain ⟨T10, h10, k10, X10, e10, E10, A10, st10⟩ := newP X9 hx hZ (hw _ (wI 3 rfl)) e9 (g := (mkF m 92 (own_Lv3 p1 p2 p3 b4) [(.int (1 : Int32)), (.ref b9), (.ref b9)])) rfl (hb hby at_92) rfl (by decide) (cap := 1) (by decide) (by decide) (by decide) (by decide)
  obtain ⟨b10, g10⟩ : ∃ z, z = h9.size := ⟨_, rfl⟩
  rw [← g10] at A10 st10
  have V_b10 : Arv Z h10 b10 k10 .char (1 : Int32) [(.int (0 : Int32))] (.int (0 : Int32)) := (Arv.new A10 (by decide)).pad (pad_rep [] (.int (0 : Int32)) 1)
  have g_b10 : n0 ≤ b10 := Nat.le_trans (Nat.le_trans (Nat.le_trans (Nat.le_trans (Nat.le_trans (Nat.le_trans (Nat.le_trans Z0 E4.1) E5.1) (Keep.of_wr W6).1) (Keep.of_wr W7).1) Kq8.1) E9.1) (Nat.le_of_eq g10.symm)
  have sz_b10 : h0.size ≤ b10 := (Nat.le_trans K9.1 (Nat.le_of_eq g10.symm))
  have R10 := R9.trans (CHr.ext E10 R9.1)
  have Sf_b9_10 := Safe.ext E10 R9.1 Sf_b9_9
  have Sf_b10_10 := Safe.ext E10 R9.1 (Safe.new (Nat.le_of_eq g10.symm))
  have K10 : Keep h0 h10 [] := K9.ext E10
  obtain ⟨cl_b10_98, Ar_b10, q_b10, S_b10, N_b10, H_b10, G_b10⟩ := V_b10
  have hin98 : ¬ ((0 : Int32) < 0 ∨ cl_b10_98.slots.size ≤ ((0 : Int32)).toNatClampNeg) := inb_of S_b10 ⟨by decide, by decide⟩
  obtain ⟨T11, h11, X11, e11, W11, st11⟩ := stC X10 hx hZ e10 Ar_b10 (j := (0 : Int32)) hin98 (g := (mkF m 98 (own_Lv3 p1 p2 p3 b4) [(.int ((p2 &&& (255 : Int32)).toUInt32.toUInt16.toUInt32.toInt32)), (.int (0 : Int32)), (.ref b10), (.ref b10), (.ref b9), (.ref b9)])) rfl rfl (hb hby at_98)
  have V_b10_11 := Arv.set Ar_b10 q_b10 S_b10 N_b10 H_b10 G_b10 (fits_nar_char _) W11 0 rfl (Nat.le_of_ble_eq_true rfl)
  have R11 := R10.trans (CHr.wr W11 Sf_b10_10 R10.1)
  have Sf_b9_11 := Safe.wr W11 Sf_b10_10 R10.1 Sf_b9_10
  have Sf_b10_11 := Safe.wr W11 Sf_b10_10 R10.1 Sf_b10_10
  have K11 : Keep h0 h11 [] := K10.wr W11 (Or.inr sz_b10)
  have N11 := Fr.snoc X11 N8 g_b10
  have SC12 := S_COMPACT_STRINGS.ext ((X00.keep K11 all0)).2
  have Eb12 := ((E_b9.ext E10).wr W11)
  have Fvb12 := ((F_value_b9.ext E10).other W11 (Or.inl (Nat.ne_of_lt (Nat.lt_of_lt_of_le E_b9.lt (Nat.le_of_eq g10.symm)))))
  have Fcb12 := ((F_coder_b9.ext E10).other W11 (Or.inl (Nat.ne_of_lt (Nat.lt_of_lt_of_le E_b9.lt (Nat.le_of_eq g10.symm)))))
  have Zb12 := (Nat.le_trans (Nat.le_trans (Nat.le_trans (Nat.le_trans (Nat.le_trans (Nat.le_trans (Nat.le_trans (Nat.le_trans Z0 E4.1) E5.1) (Keep.of_wr W6).1) (Keep.of_wr W7).1) Kq8.1) E9.1) E10.1) (Keep.of_wr W11).1)
  have Vb12 : Arv Z h11 b10 k10 .char (1 : Int32) [(.int ((p2 &&& (255 : Int32)).toUInt32.toUInt16.toUInt32.toInt32))] (.int (0 : Int32)) := by
    have q : Arv Z h11 b10 k10 .char (1 : Int32) [(.int (nar .char ((p2 &&& (255 : Int32)).toUInt32.toUInt16.toUInt32.toInt32)))] (.int (0 : Int32)) := V_b10_11
    simp only [own_xnar] at q
    exact q
  obtain ⟨_, _, ⟨T12, L12, k12, n12⟩, -, X12, ⟨Lc12, hQ12, l12, y12, z12⟩, st12⟩ := X11.specialBack hx (y := (⟨"java/lang/String", "<init>", "([C)V"⟩ : MethodName)) rfl hown (mvT hZ (hw _ (wI 4 rfl))) (mvT hZ (hw _ (wI 5 rfl))) (mvT hZ (hw _ (wI 6 rfl))) (by decide) (StrChars.Road.backV (W := 1) hZ hws (kI := 4) (hw _ (wI 1 rfl)) (cs := [((p2 &&& (255 : Int32)).toUInt32.toUInt16.toUInt32.toInt32)]) (bs := [(((p2 &&& (255 : Int32)).toUInt32.toUInt16.toUInt32.toInt32)).toInt8.toInt32]) (n := 1) g_b9 Zb12 Eb12 Fvb12 Fcb12 Vb12 SC12 P3 rfl rfl (by decide) (by decide) (own_lS (own_x255 _) own_l0) rfl (by decide) (by decide)) (g := (mkF m 99 (own_Lv3 p1 p2 p3 b4) [(.ref b10), (.ref b9), (.ref b9)])) rfl (by rw [hml]; rfl) (Steps.refl _) (a := b9) (argsL := [(.ref b10)]) (rest := [(.ref b9)]) (lenOf pd_0_0 rfl) rfl (by show 2 * 0 + _ ≤ _; exact Nat.le_of_eq rfl) (hb hby at_99) (fun _ _ => ⟨rfl, e11, (by decide : 5 + 1 ≤ _), (by decide : 13 + 1 ≤ _)⟩)
  dsimp only [Pt.U, Pt.locs, Pt.cells, Pt.slots] at X12 l12 y12 z12 st12 hQ12
  rw [l12, y12, z12] at X12
  obtain ⟨rfl, N12q, Kc12, Eq12, Fcq12, t12, kt12, g_t12, gz_t12, ne_t12, Fvq12, Vq12⟩ := hQ12
  have N12 := Fr.app N11 N12q
  have Kq12 : Keep h11 T12.heap [b9] := Kc12
  have K12 : Keep h0 T12.heap [] := K11.trans Kq12 (own_trS (Or.inr sz_b9) all0)
  have R12 := R11.trans (CHr.keep Kq12 (sfS Sf_b9_11 sf0) R11.1)
  have Sf_b9_12 := Safe.keep Kq12 (sfS Sf_b9_11 sf0) R11.1 Sf_b9_11
  have Sf_b10_12 := Safe.keep Kq12 (sfS Sf_b9_11 sf0) R11.1 Sf_b10_11
  have Sf_t12_12 := Safe.keep Kq12 (sfS Sf_b9_11 sf0) R11.1 (Safe.new gz_t12)
  obtain ⟨T13, h13, X13, e13, E13, A13, D13, Un13, st13⟩ := newO X12 hx hZ hown (hw _ (wI 0 rfl)) (hw _ (wI 1 rfl)) (hw _ (wI 2 rfl)) rfl (g := (mkF m 117 (own_Lv2 p1 p2 p3 b4 b9) [])) rfl (hb hby at_117) (by decide) (by decide)
  obtain ⟨b13, g13⟩ : ∃ z, z = T12.heap.size := ⟨_, rfl⟩
  rw [← g13] at A13 D13 Un13 st13
  have U_b13 : Unt h13 b13 := Un13
  have F_coder_b13 : Fld Z h13 b13 "java/lang/String" "coder" "B" (.int (0 : Int32)) := D13 (Or.inr (hw _ (wI 27 rfl))) (ty := .byte) (by decide)
  have F_value_b13 : Fld Z h13 b13 "java/lang/String" "value" "[B" .null := D13 (Or.inr (hw _ (wI 29 rfl))) (ty := (.array .byte)) (by decide)
  have R13 := R12.trans (CHr.ext E13 R12.1)
  have Sf_b13_13 := Safe.ext E13 R12.1 (Safe.new (Nat.le_of_eq g13.symm))
  have E_b13 := A13
  have g_b13 : n0 ≤ b13 := Nat.le_trans (Nat.le_trans (Nat.le_trans (Nat.le_trans (Nat.le_trans (Nat.le_trans (Nat.le_trans (Nat.le_trans (Nat.le_trans (Nat.le_trans Z0 E4.1) E5.1) (Keep.of_wr W6).1) (Keep.of_wr W7).1) Kq8.1) E9.1) E10.1) (Keep.of_wr W11).1) Kq12.1) (Nat.le_of_eq g13.symm)
  have sz_b13 : h0.size ≤ b13 := (Nat.le_trans K12.1 (Nat.le_of_eq g13.symm))
  have K13 : Keep h0 h13 [] := K12.ext E13
  obtain ⟨T14, h14, k14, X14, e14, E14, A14, st14⟩ := newP X13 hx hZ (hw _ (wI 3 rfl)) e13 (g := (mkF m 122 (own_Lv2 p1 p2 p3 b4 b9) [(.int (2 : Int32)), (.ref b13), (.ref b13)])) rfl (hb hby at_122) rfl (by decide) (cap := 2) (by decide) (by decide) (by decide) (by decide)
  obtain ⟨b14, g14⟩ : ∃ z, z = h13.size := ⟨_, rfl⟩
  rw [← g14] at A14 st14
  have V_b14 : Arv Z h14 b14 k14 .char (2 : Int32) [(.int (0 : Int32)), (.int (0 : Int32))] (.int (0 : Int32)) := (Arv.new A14 (by decide)).pad (pad_rep [] (.int (0 : Int32)) 2)
  have g_b14 : n0 ≤ b14 := Nat.le_trans (Nat.le_trans (Nat.le_trans (Nat.le_trans (Nat.le_trans (Nat.le_trans (Nat.le_trans (Nat.le_trans (Nat.le_trans (Nat.le_trans (Nat.le_trans Z0 E4.1) E5.1) (Keep.of_wr W6).1) (Keep.of_wr W7).1) Kq8.1) E9.1) E10.1) (Keep.of_wr W11).1) Kq12.1) E13.1) (Nat.le_of_eq g14.symm)
  have sz_b14 : h0.size ≤ b14 := (Nat.le_trans K13.1 (Nat.le_of_eq g14.symm))
  have R14 := R13.trans (CHr.ext E14 R13.1)
  have Sf_b13_14 := Safe.ext E14 R13.1 Sf_b13_13
  have Sf_b14_14 := Safe.ext E14 R13.1 (Safe.new (Nat.le_of_eq g14.symm))
  have K14 : Keep h0 h14 [] := K13.ext E14
  obtain ⟨cl_b14_128, Ar_b14, q_b14, S_b14, N_b14, H_b14, G_b14⟩ := V_b14
  have hin128 : ¬ ((0 : Int32) < 0 ∨ cl_b14_128.slots.size ≤ ((0 : Int32)).toNatClampNeg) := inb_of S_b14 ⟨by decide, by decide⟩
  obtain ⟨T15, h15, X15, e15, W15, st15⟩ := stC X14 hx hZ e14 Ar_b14 (j := (0 : Int32)) hin128 (g := (mkF m 128 (own_Lv2 p1 p2 p3 b4 b9) [(.int ((p3 &&& (255 : Int32)).toUInt32.toUInt16.toUInt32.toInt32)), (.int (0 : Int32)), (.ref b14), (.ref b14), (.ref b13), (.ref b13)])) rfl rfl (hb hby at_128)
  have V_b14_15 := Arv.set Ar_b14 q_b14 S_b14 N_b14 H_b14 G_b14 (fits_nar_char _) W15 0 rfl (Nat.le_of_ble_eq_true rfl)
  have R15 := R14.trans (CHr.wr W15 Sf_b14_14 R14.1)
  have Sf_b13_15 := Safe.wr W15 Sf_b14_14 R14.1 Sf_b13_14
  have Sf_b14_15 := Safe.wr W15 Sf_b14_14 R14.1 Sf_b14_14
  have K15 : Keep h0 h15 [] := K14.wr W15 (Or.inr sz_b14)
  have N15 := Fr.snoc X15 N12 g_b14
  obtain ⟨cl_b14_133, Ar_b14, q_b14, S_b14, N_b14, H_b14, G_b14⟩ := V_b14_15
  have hin133 : ¬ ((1 : Int32) < 0 ∨ cl_b14_133.slots.size ≤ ((1 : Int32)).toNatClampNeg) := inb_of S_b14 ⟨by decide, by decide⟩
  obtain ⟨T16, h16, X16, e16, W16, st16⟩ := stC X15 hx hZ e15 Ar_b14 (j := (1 : Int32)) hin133 (g := (mkF m 133 (own_Lv2 p1 p2 p3 b4 b9) [(.int ((((p3.toUInt32 >>> ((8 : Int32) &&& 31).toUInt32).toInt32) &&& (255 : Int32)).toUInt32.toUInt16.toUInt32.toInt32)), (.int (1 : Int32)), (.ref b14), (.ref b14), (.ref b13), (.ref b13)])) rfl rfl (hb hby at_133)
  have V_b14_16 := Arv.set Ar_b14 q_b14 S_b14 N_b14 H_b14 G_b14 (fits_nar_char _) W16 1 rfl (Nat.le_of_ble_eq_true rfl)
  have R16 := R15.trans (CHr.wr W16 Sf_b14_15 R15.1)
  have Sf_b13_16 := Safe.wr W16 Sf_b14_15 R15.1 Sf_b13_15
  have Sf_b14_16 := Safe.wr W16 Sf_b14_15 R15.1 Sf_b14_15
  have K16 : Keep h0 h16 [] := K15.wr W16 (Or.inr sz_b14)
  have N16 := Fr.snoc X16 N15 g_b14
  have SC17 := S_COMPACT_STRINGS.ext ((X00.keep K16 all0)).2
  have Eb17 := (((E_b13.ext E14).wr W15).wr W16)
  have Fvb17 := (((F_value_b13.ext E14).other W15 (Or.inl (Nat.ne_of_lt (Nat.lt_of_lt_of_le E_b13.lt (Nat.le_of_eq g14.symm))))).other W16 (Or.inl (Nat.ne_of_lt (Nat.lt_of_lt_of_le E_b13.lt (Nat.le_of_eq g14.symm)))))
  have Fcb17 := (((F_coder_b13.ext E14).other W15 (Or.inl (Nat.ne_of_lt (Nat.lt_of_lt_of_le E_b13.lt (Nat.le_of_eq g14.symm))))).other W16 (Or.inl (Nat.ne_of_lt (Nat.lt_of_lt_of_le E_b13.lt (Nat.le_of_eq g14.symm)))))
  have Zb17 := (Nat.le_trans (Nat.le_trans (Nat.le_trans (Nat.le_trans (Nat.le_trans (Nat.le_trans (Nat.le_trans (Nat.le_trans (Nat.le_trans (Nat.le_trans (Nat.le_trans (Nat.le_trans (Nat.le_trans Z0 E4.1) E5.1) (Keep.of_wr W6).1) (Keep.of_wr W7).1) Kq8.1) E9.1) E10.1) (Keep.of_wr W11).1) Kq12.1) E13.1) E14.1) (Keep.of_wr W15).1) (Keep.of_wr W16).1)
  have Vb17 : Arv Z h16 b14 k14 .char (2 : Int32) [(.int ((p3 &&& (255 : Int32)).toUInt32.toUInt16.toUInt32.toInt32)), (.int ((((p3.toUInt32 >>> ((8 : Int32) &&& 31).toUInt32).toInt32) &&& (255 : Int32)).toUInt32.toUInt16.toUInt32.toInt32))] (.int (0 : Int32)) := by
    have q : Arv Z h16 b14 k14 .char (2 : Int32) [(.int (nar .char ((p3 &&& (255 : Int32)).toUInt32.toUInt16.toUInt32.toInt32))), (.int (nar .char ((((p3.toUInt32 >>> ((8 : Int32) &&& 31).toUInt32).toInt32) &&& (255 : Int32)).toUInt32.toUInt16.toUInt32.toInt32)))] (.int (0 : Int32)) := V_b14_16
    simp only [own_xnar] at q
    exact q
  obtain ⟨_, _, ⟨T17, L17, k17, n17⟩, -, X17, ⟨Lc17, hQ17, l17, y17, z17⟩, st17⟩ := X16.specialBack hx (y := (⟨"java/lang/String", "<init>", "([C)V"⟩ : MethodName)) rfl hown (mvT hZ (hw _ (wI 4 rfl))) (mvT hZ (hw _ (wI 5 rfl))) (mvT hZ (hw _ (wI 6 rfl))) (by decide) (StrChars.Road.backV (W := 1) hZ hws (kI := 4) (hw _ (wI 1 rfl)) (cs := [((p3 &&& (255 : Int32)).toUInt32.toUInt16.toUInt32.toInt32), ((((p3.toUInt32 >>> ((8 : Int32) &&& 31).toUInt32).toInt32) &&& (255 : Int32)).toUInt32.toUInt16.toUInt32.toInt32)]) (bs := [(((p3 &&& (255 : Int32)).toUInt32.toUInt16.toUInt32.toInt32)).toInt8.toInt32, (((((p3.toUInt32 >>> ((8 : Int32) &&& 31).toUInt32).toInt32) &&& (255 : Int32)).toUInt32.toUInt16.toUInt32.toInt32)).toInt8.toInt32]) (n := 2) g_b13 Zb17 Eb17 Fvb17 Fcb17 Vb17 SC17 P3 rfl rfl (by decide) (by decide) (own_lS (own_x255 _) (own_lS (own_x255 _) own_l0)) rfl (by decide) (by decide)) (g := (mkF m 134 (own_Lv2 p1 p2 p3 b4 b9) [(.ref b14), (.ref b13), (.ref b13)])) rfl (by rw [hml]; rfl) (Steps.refl _) (a := b13) (argsL := [(.ref b14)]) (rest := [(.ref b13)]) (lenOf pd_0_0 rfl) rfl (by show 2 * 0 + _ ≤ _; exact Nat.le_of_eq rfl) (hb hby at_134) (fun _ _ => ⟨rfl, e16, (by decide : 8 + 1 ≤ _), (by decide : 20 + 2 ≤ _)⟩)
  dsimp only [Pt.U, Pt.locs, Pt.cells, Pt.slots] at X17 l17 y17 z17 st17 hQ17
  rw [l17, y17, z17] at X17
  obtain ⟨rfl, N17q, Kc17, Eq17, Fcq17, t17, kt17, g_t17, gz_t17, ne_t17, Fvq17, Vq17⟩ := hQ17
  have N17 := Fr.app N16 N17q
  have Kq17 : Keep h16 T17.heap [b13] := Kc17
  have K17 : Keep h0 T17.heap [] := K16.trans Kq17 (own_trS (Or.inr sz_b13) all0)
  have R17 := R16.trans (CHr.keep Kq17 (sfS Sf_b13_16 sf0) R16.1)
  have Sf_b13_17 := Safe.keep Kq17 (sfS Sf_b13_16 sf0) R16.1 Sf_b13_16
  have Sf_b14_17 := Safe.keep Kq17 (sfS Sf_b13_16 sf0) R16.1 Sf_b14_16
  have Sf_t17_17 := Safe.keep Kq17 (sfS Sf_b13_16 sf0) R16.1 (Safe.new gz_t17)
  obtain ⟨T18, h18, X18, e18, E18, A18, D18, Un18, st18⟩ := newO X17 hx hZ hown (hw _ (wI 0 rfl)) (hw _ (wI 1 rfl)) (hw _ (wI 2 rfl)) rfl (g := (mkF m 144 (own_Lv0 p1 p2 p3 b13 b4 b9) [])) rfl (hb hby at_144) (by decide) (by decide)
  obtain ⟨b18, g18⟩ : ∃ z, z = T17.heap.size := ⟨_, rfl⟩
  rw [← g18] at A18 D18 Un18 st18
  have U_b18 : Unt h18 b18 := Un18
  have F_coder_b18 : Fld Z h18 b18 "java/lang/String" "coder" "B" (.int (0 : Int32)) := D18 (Or.inr (hw _ (wI 27 rfl))) (ty := .byte) (by decide)
  have F_value_b18 : Fld Z h18 b18 "java/lang/String" "value" "[B" .null := D18 (Or.inr (hw _ (wI 29 rfl))) (ty := (.array .byte)) (by decide)
  have R18 := R17.trans (CHr.ext E18 R17.1)
  have Sf_b18_18 := Safe.ext E18 R17.1 (Safe.new (Nat.le_of_eq g18.symm))
  have E_b18 := A18
  have g_b18 : n0 ≤ b18 := Nat.le_trans (Nat.le_trans (Nat.le_trans (Nat.le_trans (Nat.le_trans (Nat.le_trans (Nat.le_trans (Nat.le_trans (Nat.le_trans (Nat.le_trans (Nat.le_trans (Nat.le_trans (Nat.le_trans (Nat.le_trans (Nat.le_trans Z0 E4.1) E5.1) (Keep.of_wr W6).1) (Keep.of_wr W7).1) Kq8.1) E9.1) E10.1) (Keep.of_wr W11).1) Kq12.1) E13.1) E14.1) (Keep.of_wr W15).1) (Keep.of_wr W16).1) Kq17.1) (Nat.le_of_eq g18.symm)
  have sz_b18 : h0.size ≤ b18 := (Nat.le_trans K17.1 (Nat.le_of_eq g18.symm))
  have K18 : Keep h0 h18 [] := K17.ext E18
  obtain ⟨T19, h19, k19, X19, e19, E19, A19, st19⟩ := newP X18 hx hZ (hw _ (wI 3 rfl)) e18 (g := (mkF m 150 (own_Lv0 p1 p2 p3 b13 b4 b9) [(.int (38 : Int32)), (.ref b18), (.ref b18)])) rfl (hb hby at_150) rfl (by decide) (cap := 38) (by decide) (by decide) (by decide) (by decide)
  obtain ⟨b19, g19⟩ : ∃ z, z = h18.size := ⟨_, rfl⟩
  rw [← g19] at A19 st19
  have V_b19 : Arv Z h19 b19 k19 .char (38 : Int32) [(.int (0 : Int32)), (.int (0 : Int32)), (.int (0 : Int32)), (.int (0 : Int32)), (.int (0 : Int32)), (.int (0 : Int32)), (.int (0 : Int32)), (.int (0 : Int32)), (.int (0 : Int32)), (.int (0 : Int32)), (.int (0 : Int32)), (.int (0 : Int32)), (.int (0 : Int32)), (.int (0 : Int32)), (.int (0 : Int32)), (.int (0 : Int32)), (.int (0 : Int32)), (.int (0 : Int32)), (.int (0 : Int32)), (.int (0 : Int32)), (.int (0 : Int32)), (.int (0 : Int32)), (.int (0 : Int32)), (.int (0 : Int32)), (.int (0 : Int32)), (.int (0 : Int32)), (.int (0 : Int32)), (.int (0 : Int32)), (.int (0 : Int32)), (.int (0 : Int32)), (.int (0 : Int32)), (.int (0 : Int32)), (.int (0 : Int32)), (.int (0 : Int32)), (.int (0 : Int32)), (.int (0 : Int32)), (.int (0 : Int32)), (.int (0 : Int32))] (.int (0 : Int32)) := (Arv.new A19 (by decide)).pad (pad_rep [] (.int (0 : Int32)) 38)
  have V_b19 : Arv Z h19 b19 k19 .char (38 : Int32) (own_fill (own_Fv p1 p2 p3) 38 0) (.int (0 : Int32)) := V_b19
  have g_b19 : n0 ≤ b19 := Nat.le_trans (Nat.le_trans (Nat.le_trans (Nat.le_trans (Nat.le_trans (Nat.le_trans (Nat.le_trans (Nat.le_trans (Nat.le_trans (Nat.le_trans (Nat.le_trans (Nat.le_trans (Nat.le_trans (Nat.le_trans (Nat.le_trans (Nat.le_trans Z0 E4.1) E5.1) (Keep.of_wr W6).1) (Keep.of_wr W7).1) Kq8.1) E9.1) E10.1) (Keep.of_wr W11).1) Kq12.1) E13.1) E14.1) (Keep.of_wr W15).1) (Keep.of_wr W16).1) Kq17.1) E18.1) (Nat.le_of_eq g19.symm)
  have sz_b19 : h0.size ≤ b19 := (Nat.le_trans K18.1 (Nat.le_of_eq g19.symm))
  have R19 := R18.trans (CHr.ext E19 R18.1)
  have Sf_b18_19 := Safe.ext E19 R18.1 Sf_b18_18
  have Sf_b19_19 := Safe.ext E19 R18.1 (Safe.new (Nat.le_of_eq g19.symm))
  have K19 : Keep h0 h19 [] := K18.ext E19
  obtain ⟨cl_b19_156, Ar_b19, q_b19, S_b19, N_b19, H_b19, G_b19⟩ := V_b19
  have hin156 : ¬ ((0 : Int32) < 0 ∨ cl_b19_156.slots.size ≤ ((0 : Int32)).toNatClampNeg) := inb_of S_b19 ⟨by decide, by decide⟩
  obtain ⟨T20, h20, X20, e20, W20, st20⟩ := stC X19 hx hZ e19 Ar_b19 (j := (0 : Int32)) hin156 (g := (mkF m 156 (own_Lv0 p1 p2 p3 b13 b4 b9) [(.int (116 : Int32)), (.int (0 : Int32)), (.ref b19), (.ref b19), (.ref b18), (.ref b18)])) rfl rfl (hb hby at_156)
  have V_b19_20 := own_fillS (k := 0) (own_Fvl p1 p2 p3) (by decide) rfl (Arv.set Ar_b19 q_b19 S_b19 N_b19 H_b19 G_b19 (fits_nar_char _) W20 0 rfl (own_flt (own_Fvl p1 p2 p3) (by decide)))
  have R20 := R19.trans (CHr.wr W20 Sf_b19_19 R19.1)
  have Sf_b18_20 := Safe.wr W20 Sf_b19_19 R19.1 Sf_b18_19
  have Sf_b19_20 := Safe.wr W20 Sf_b19_19 R19.1 Sf_b19_19
  have K20 : Keep h0 h20 [] := K19.wr W20 (Or.inr sz_b19)
  have N20 := Fr.snoc X20 N17 g_b19
  obtain ⟨cl_b19_161, Ar_b19, q_b19, S_b19, N_b19, H_b19, G_b19⟩ := V_b19_20
  have hin161 : ¬ ((1 : Int32) < 0 ∨ cl_b19_161.slots.size ≤ ((1 : Int32)).toNatClampNeg) := inb_of S_b19 ⟨by decide, by decide⟩
  obtain ⟨T21, h21, X21, e21, W21, st21⟩ := stC X20 hx hZ e20 Ar_b19 (j := (1 : Int32)) hin161 (g := (mkF m 161 (own_Lv0 p1 p2 p3 b13 b4 b9) [(.int (104 : Int32)), (.int (1 : Int32)), (.ref b19), (.ref b19), (.ref b18), (.ref b18)])) rfl rfl (hb hby at_161)
  have V_b19_21 := own_fillS (k := 1) (own_Fvl p1 p2 p3) (by decide) rfl (Arv.set Ar_b19 q_b19 S_b19 N_b19 H_b19 G_b19 (fits_nar_char _) W21 1 rfl (own_flt (own_Fvl p1 p2 p3) (by decide)))
  have R21 := R20.trans (CHr.wr W21 Sf_b19_20 R20.1)
  have Sf_b18_21 := Safe.wr W21 Sf_b19_20 R20.1 Sf_b18_20
  have Sf_b19_21 := Safe.wr W21 Sf_b19_20 R20.1 Sf_b19_20
  have K21 : Keep h0 h21 [] := K20.wr W21 (Or.inr sz_b19)
  have N21 := Fr.snoc X21 N20 g_b19
  obtain ⟨cl_b19_166, Ar_b19, q_b19, S_b19, N_b19, H_b19, G_b19⟩ := V_b19_21
  have hin166 : ¬ ((2 : Int32) < 0 ∨ cl_b19_166.slots.size ≤ ((2 : Int32)).toNatClampNeg) := inb_of S_b19 ⟨by decide, by decide⟩
  obtain ⟨T22, h22, X22, e22, W22, st22⟩ := stC X21 hx hZ e21 Ar_b19 (j := (2 : Int32)) hin166 (g := (mkF m 166 (own_Lv0 p1 p2 p3 b13 b4 b9) [(.int (101 : Int32)), (.int (2 : Int32)), (.ref b19), (.ref b19), (.ref b18), (.ref b18)])) rfl rfl (hb hby at_166)
  have V_b19_22 := own_fillS (k := 2) (own_Fvl p1 p2 p3) (by decide) rfl (Arv.set Ar_b19 q_b19 S_b19 N_b19 H_b19 G_b19 (fits_nar_char _) W22 2 rfl (own_flt (own_Fvl p1 p2 p3) (by decide)))
  have R22 := R21.trans (CHr.wr W22 Sf_b19_21 R21.1)
  have Sf_b18_22 := Safe.wr W22 Sf_b19_21 R21.1 Sf_b18_21
  have Sf_b19_22 := Safe.wr W22 Sf_b19_21 R21.1 Sf_b19_21
  have K22 : Keep h0 h22 [] := K21.wr W22 (Or.inr sz_b19)
  have N22 := Fr.snoc X22 N21 g_b19
  obtain ⟨cl_b19_171, Ar_b19, q_b19, S_b19, N_b19, H_b19, G_b19⟩ := V_b19_22
  have hin171 : ¬ ((3 : Int32) < 0 ∨ cl_b19_171.slots.size ≤ ((3 : Int32)).toNatClampNeg) := inb_of S_b19 ⟨by decide, by decide⟩
  obtain ⟨T23, h23, X23, e23, W23, st23⟩ := stC X22 hx hZ e22 Ar_b19 (j := (3 : Int32)) hin171 (g := (mkF m 171 (own_Lv0 p1 p2 p3 b13 b4 b9) [(.int (32 : Int32)), (.int (3 : Int32)), (.ref b19), (.ref b19), (.ref b18), (.ref b18)])) rfl rfl (hb hby at_171)
  have V_b19_23 := own_fillS (k := 3) (own_Fvl p1 p2 p3) (by decide) rfl (Arv.set Ar_b19 q_b19 S_b19 N_b19 H_b19 G_b19 (fits_nar_char _) W23 3 rfl (own_flt (own_Fvl p1 p2 p3) (by decide)))
  have R23 := R22.trans (CHr.wr W23 Sf_b19_22 R22.1)
  have Sf_b18_23 := Safe.wr W23 Sf_b19_22 R22.1 Sf_b18_22
  have Sf_b19_23 := Safe.wr W23 Sf_b19_22 R22.1 Sf_b19_22
  have K23 : Keep h0 h23 [] := K22.wr W23 (Or.inr sz_b19)
  have N23 := Fr.snoc X23 N22 g_b19
  obtain ⟨cl_b19_176, Ar_b19, q_b19, S_b19, N_b19, H_b19, G_b19⟩ := V_b19_23
  have hin176 : ¬ ((4 : Int32) < 0 ∨ cl_b19_176.slots.size ≤ ((4 : Int32)).toNatClampNeg) := inb_of S_b19 ⟨by decide, by decide⟩
  obtain ⟨T24, h24, X24, e24, W24, st24⟩ := stC X23 hx hZ e23 Ar_b19 (j := (4 : Int32)) hin176 (g := (mkF m 176 (own_Lv0 p1 p2 p3 b13 b4 b9) [(.int (115 : Int32)), (.int (4 : Int32)), (.ref b19), (.ref b19), (.ref b18), (.ref b18)])) rfl rfl (hb hby at_176)
  have V_b19_24 := own_fillS (k := 4) (own_Fvl p1 p2 p3) (by decide) rfl (Arv.set Ar_b19 q_b19 S_b19 N_b19 H_b19 G_b19 (fits_nar_char _) W24 4 rfl (own_flt (own_Fvl p1 p2 p3) (by decide)))
  have R24 := R23.trans (CHr.wr W24 Sf_b19_23 R23.1)
  have Sf_b18_24 := Safe.wr W24 Sf_b19_23 R23.1 Sf_b18_23
  have Sf_b19_24 := Safe.wr W24 Sf_b19_23 R23.1 Sf_b19_23
  have K24 : Keep h0 h24 [] := K23.wr W24 (Or.inr sz_b19)
  have N24 := Fr.snoc X24 N23 g_b19
  obtain ⟨cl_b19_181, Ar_b19, q_b19, S_b19, N_b19, H_b19, G_b19⟩ := V_b19_24
  have hin181 : ¬ ((5 : Int32) < 0 ∨ cl_b19_181.slots.size ≤ ((5 : Int32)).toNatClampNeg) := inb_of S_b19 ⟨by decide, by decide⟩
  obtain ⟨T25, h25, X25, e25, W25, st25⟩ := stC X24 hx hZ e24 Ar_b19 (j := (5 : Int32)) hin181 (g := (mkF m 181 (own_Lv0 p1 p2 p3 b13 b4 b9) [(.int (121 : Int32)), (.int (5 : Int32)), (.ref b19), (.ref b19), (.ref b18), (.ref b18)])) rfl rfl (hb hby at_181)
  have V_b19_25 := own_fillS (k := 5) (own_Fvl p1 p2 p3) (by decide) rfl (Arv.set Ar_b19 q_b19 S_b19 N_b19 H_b19 G_b19 (fits_nar_char _) W25 5 rfl (own_flt (own_Fvl p1 p2 p3) (by decide)))
  have R25 := R24.trans (CHr.wr W25 Sf_b19_24 R24.1)
  have Sf_b18_25 := Safe.wr W25 Sf_b19_24 R24.1 Sf_b18_24
  have Sf_b19_25 := Safe.wr W25 Sf_b19_24 R24.1 Sf_b19_24
  have K25 : Keep h0 h25 [] := K24.wr W25 (Or.inr sz_b19)
  have N25 := Fr.snoc X25 N24 g_b19
  obtain ⟨cl_b19_187, Ar_b19, q_b19, S_b19, N_b19, H_b19, G_b19⟩ := V_b19_25
  have hin187 : ¬ ((6 : Int32) < 0 ∨ cl_b19_187.slots.size ≤ ((6 : Int32)).toNatClampNeg) := inb_of S_b19 ⟨by decide, by decide⟩
  obtain ⟨T26, h26, X26, e26, W26, st26⟩ := stC X25 hx hZ e25 Ar_b19 (j := (6 : Int32)) hin187 (g := (mkF m 187 (own_Lv0 p1 p2 p3 b13 b4 b9) [(.int (115 : Int32)), (.int (6 : Int32)), (.ref b19), (.ref b19), (.ref b18), (.ref b18)])) rfl rfl (hb hby at_187)
  have V_b19_26 := own_fillS (k := 6) (own_Fvl p1 p2 p3) (by decide) rfl (Arv.set Ar_b19 q_b19 S_b19 N_b19 H_b19 G_b19 (fits_nar_char _) W26 6 rfl (own_flt (own_Fvl p1 p2 p3) (by decide)))
  have R26 := R25.trans (CHr.wr W26 Sf_b19_25 R25.1)
  have Sf_b18_26 := Safe.wr W26 Sf_b19_25 R25.1 Sf_b18_25
  have Sf_b19_26 := Safe.wr W26 Sf_b19_25 R25.1 Sf_b19_25
  have K26 : Keep h0 h26 [] := K25.wr W26 (Or.inr sz_b19)
  have N26 := Fr.snoc X26 N25 g_b19
  obtain ⟨cl_b19_193, Ar_b19, q_b19, S_b19, N_b19, H_b19, G_b19⟩ := V_b19_26
  have hin193 : ¬ ((7 : Int32) < 0 ∨ cl_b19_193.slots.size ≤ ((7 : Int32)).toNatClampNeg) := inb_of S_b19 ⟨by decide, by decide⟩
  obtain ⟨T27, h27, X27, e27, W27, st27⟩ := stC X26 hx hZ e26 Ar_b19 (j := (7 : Int32)) hin193 (g := (mkF m 193 (own_Lv0 p1 p2 p3 b13 b4 b9) [(.int (116 : Int32)), (.int (7 : Int32)), (.ref b19), (.ref b19), (.ref b18), (.ref b18)])) rfl rfl (hb hby at_193)
  have V_b19_27 := own_fillS (k := 7) (own_Fvl p1 p2 p3) (by decide) rfl (Arv.set Ar_b19 q_b19 S_b19 N_b19 H_b19 G_b19 (fits_nar_char _) W27 7 rfl (own_flt (own_Fvl p1 p2 p3) (by decide)))
  have R27 := R26.trans (CHr.wr W27 Sf_b19_26 R26.1)
  have Sf_b18_27 := Safe.wr W27 Sf_b19_26 R26.1 Sf_b18_26
  have Sf_b19_27 := Safe.wr W27 Sf_b19_26 R26.1 Sf_b19_26
  have K27 : Keep h0 h27 [] := K26.wr W27 (Or.inr sz_b19)
  have N27 := Fr.snoc X27 N26 g_b19
  obtain ⟨cl_b19_199, Ar_b19, q_b19, S_b19, N_b19, H_b19, G_b19⟩ := V_b19_27
  have hin199 : ¬ ((8 : Int32) < 0 ∨ cl_b19_199.slots.size ≤ ((8 : Int32)).toNatClampNeg) := inb_of S_b19 ⟨by decide, by decide⟩
  obtain ⟨T28, h28, X28, e28, W28, st28⟩ := stC X27 hx hZ e27 Ar_b19 (j := (8 : Int32)) hin199 (g := (mkF m 199 (own_Lv0 p1 p2 p3 b13 b4 b9) [(.int (101 : Int32)), (.int (8 : Int32)), (.ref b19), (.ref b19), (.ref b18), (.ref b18)])) rfl rfl (hb hby at_199)
  have V_b19_28 := own_fillS (k := 8) (own_Fvl p1 p2 p3) (by decide) rfl (Arv.set Ar_b19 q_b19 S_b19 N_b19 H_b19 G_b19 (fits_nar_char _) W28 8 rfl (own_flt (own_Fvl p1 p2 p3) (by decide)))
  have R28 := R27.trans (CHr.wr W28 Sf_b19_27 R27.1)
  have Sf_b18_28 := Safe.wr W28 Sf_b19_27 R27.1 Sf_b18_27
  have Sf_b19_28 := Safe.wr W28 Sf_b19_27 R27.1 Sf_b19_27
  have K28 : Keep h0 h28 [] := K27.wr W28 (Or.inr sz_b19)
  have N28 := Fr.snoc X28 N27 g_b19
  obtain ⟨cl_b19_205, Ar_b19, q_b19, S_b19, N_b19, H_b19, G_b19⟩ := V_b19_28
  have hin205 : ¬ ((9 : Int32) < 0 ∨ cl_b19_205.slots.size ≤ ((9 : Int32)).toNatClampNeg) := inb_of S_b19 ⟨by decide, by decide⟩
  obtain ⟨T29, h29, X29, e29, W29, st29⟩ := stC X28 hx hZ e28 Ar_b19 (j := (9 : Int32)) hin205 (g := (mkF m 205 (own_Lv0 p1 p2 p3 b13 b4 b9) [(.int (109 : Int32)), (.int (9 : Int32)), (.ref b19), (.ref b19), (.ref b18), (.ref b18)])) rfl rfl (hb hby at_205)
  have V_b19_29 := own_fillS (k := 9) (own_Fvl p1 p2 p3) (by decide) rfl (Arv.set Ar_b19 q_b19 S_b19 N_b19 H_b19 G_b19 (fits_nar_char _) W29 9 rfl (own_flt (own_Fvl p1 p2 p3) (by decide)))
  have R29 := R28.trans (CHr.wr W29 Sf_b19_28 R28.1)
  have Sf_b18_29 := Safe.wr W29 Sf_b19_28 R28.1 Sf_b18_28
  have Sf_b19_29 := Safe.wr W29 Sf_b19_28 R28.1 Sf_b19_28
  have K29 : Keep h0 h29 [] := K28.wr W29 (Or.inr sz_b19)
  have N29 := Fr.snoc X29 N28 g_b19
  obtain ⟨cl_b19_211, Ar_b19, q_b19, S_b19, N_b19, H_b19, G_b19⟩ := V_b19_29
  have hin211 : ¬ ((10 : Int32) < 0 ∨ cl_b19_211.slots.size ≤ ((10 : Int32)).toNatClampNeg) := inb_of S_b19 ⟨by decide, by decide⟩
  obtain ⟨T30, h30, X30, e30, W30, st30⟩ := stC X29 hx hZ e29 Ar_b19 (j := (10 : Int32)) hin211 (g := (mkF m 211 (own_Lv0 p1 p2 p3 b13 b4 b9) [(.int (32 : Int32)), (.int (10 : Int32)), (.ref b19), (.ref b19), (.ref b18), (.ref b18)])) rfl rfl (hb hby at_211)
  have V_b19_30 := own_fillS (k := 10) (own_Fvl p1 p2 p3) (by decide) rfl (Arv.set Ar_b19 q_b19 S_b19 N_b19 H_b19 G_b19 (fits_nar_char _) W30 10 rfl (own_flt (own_Fvl p1 p2 p3) (by decide)))
  have R30 := R29.trans (CHr.wr W30 Sf_b19_29 R29.1)
  have Sf_b18_30 := Safe.wr W30 Sf_b19_29 R29.1 Sf_b18_29
  have Sf_b19_30 := Safe.wr W30 Sf_b19_29 R29.1 Sf_b19_29
  have K30 : Keep h0 h30 [] := K29.wr W30 (Or.inr sz_b19)
  have N30 := Fr.snoc X30 N29 g_b19
  obtain ⟨cl_b19_217, Ar_b19, q_b19, S_b19, N_b19, H_b19, G_b19⟩ := V_b19_30
  have hin217 : ¬ ((11 : Int32) < 0 ∨ cl_b19_217.slots.size ≤ ((11 : Int32)).toNatClampNeg) := inb_of S_b19 ⟨by decide, by decide⟩
  obtain ⟨T31, h31, X31, e31, W31, st31⟩ := stC X30 hx hZ e30 Ar_b19 (j := (11 : Int32)) hin217 (g := (mkF m 217 (own_Lv0 p1 p2 p3 b13 b4 b9) [(.int (112 : Int32)), (.int (11 : Int32)), (.ref b19), (.ref b19), (.ref b18), (.ref b18)])) rfl rfl (hb hby at_217)
  have V_b19_31 := own_fillS (k := 11) (own_Fvl p1 p2 p3) (by decide) rfl (Arv.set Ar_b19 q_b19 S_b19 N_b19 H_b19 G_b19 (fits_nar_char _) W31 11 rfl (own_flt (own_Fvl p1 p2 p3) (by decide)))
  have R31 := R30.trans (CHr.wr W31 Sf_b19_30 R30.1)
  have Sf_b18_31 := Safe.wr W31 Sf_b19_30 R30.1 Sf_b18_30
  have Sf_b19_31 := Safe.wr W31 Sf_b19_30 R30.1 Sf_b19_30
  have K31 : Keep h0 h31 [] := K30.wr W31 (Or.inr sz_b19)
  have N31 := Fr.snoc X31 N30 g_b19
  obtain ⟨cl_b19_223, Ar_b19, q_b19, S_b19, N_b19, H_b19, G_b19⟩ := V_b19_31
  have hin223 : ¬ ((12 : Int32) < 0 ∨ cl_b19_223.slots.size ≤ ((12 : Int32)).toNatClampNeg) := inb_of S_b19 ⟨by decide, by decide⟩
  obtain ⟨T32, h32, X32, e32, W32, st32⟩ := stC X31 hx hZ e31 Ar_b19 (j := (12 : Int32)) hin223 (g := (mkF m 223 (own_Lv0 p1 p2 p3 b13 b4 b9) [(.int (114 : Int32)), (.int (12 : Int32)), (.ref b19), (.ref b19), (.ref b18), (.ref b18)])) rfl rfl (hb hby at_223)
  have V_b19_32 := own_fillS (k := 12) (own_Fvl p1 p2 p3) (by decide) rfl (Arv.set Ar_b19 q_b19 S_b19 N_b19 H_b19 G_b19 (fits_nar_char _) W32 12 rfl (own_flt (own_Fvl p1 p2 p3) (by decide)))
  have R32 := R31.trans (CHr.wr W32 Sf_b19_31 R31.1)
  have Sf_b18_32 := Safe.wr W32 Sf_b19_31 R31.1 Sf_b18_31
  have Sf_b19_32 := Safe.wr W32 Sf_b19_31 R31.1 Sf_b19_31
  have K32 : Keep h0 h32 [] := K31.wr W32 (Or.inr sz_b19)
  have N32 := Fr.snoc X32 N31 g_b19
  obtain ⟨cl_b19_229, Ar_b19, q_b19, S_b19, N_b19, H_b19, G_b19⟩ := V_b19_32
  have hin229 : ¬ ((13 : Int32) < 0 ∨ cl_b19_229.slots.size ≤ ((13 : Int32)).toNatClampNeg) := inb_of S_b19 ⟨by decide, by decide⟩
  obtain ⟨T33, h33, X33, e33, W33, st33⟩ := stC X32 hx hZ e32 Ar_b19 (j := (13 : Int32)) hin229 (g := (mkF m 229 (own_Lv0 p1 p2 p3 b13 b4 b9) [(.int (111 : Int32)), (.int (13 : Int32)), (.ref b19), (.ref b19), (.ref b18), (.ref b18)])) rfl rfl (hb hby at_229)
  have V_b19_33 := own_fillS (k := 13) (own_Fvl p1 p2 p3) (by decide) rfl (Arv.set Ar_b19 q_b19 S_b19 N_b19 H_b19 G_b19 (fits_nar_char _) W33 13 rfl (own_flt (own_Fvl p1 p2 p3) (by decide)))
  have R33 := R32.trans (CHr.wr W33 Sf_b19_32 R32.1)
  have Sf_b18_33 := Safe.wr W33 Sf_b19_32 R32.1 Sf_b18_32
  have Sf_b19_33 := Safe.wr W33 Sf_b19_32 R32.1 Sf_b19_32
  have K33 : Keep h0 h33 [] := K32.wr W33 (Or.inr sz_b19)
  have N33 := Fr.snoc X33 N32 g_b19
  obtain ⟨cl_b19_235, Ar_b19, q_b19, S_b19, N_b19, H_b19, G_b19⟩ := V_b19_33
  have hin235 : ¬ ((14 : Int32) < 0 ∨ cl_b19_235.slots.size ≤ ((14 : Int32)).toNatClampNeg) := inb_of S_b19 ⟨by decide, by decide⟩
  obtain ⟨T34, h34, X34, e34, W34, st34⟩ := stC X33 hx hZ e33 Ar_b19 (j := (14 : Int32)) hin235 (g := (mkF m 235 (own_Lv0 p1 p2 p3 b13 b4 b9) [(.int (112 : Int32)), (.int (14 : Int32)), (.ref b19), (.ref b19), (.ref b18), (.ref b18)])) rfl rfl (hb hby at_235)
  have V_b19_34 := own_fillS (k := 14) (own_Fvl p1 p2 p3) (by decide) rfl (Arv.set Ar_b19 q_b19 S_b19 N_b19 H_b19 G_b19 (fits_nar_char _) W34 14 rfl (own_flt (own_Fvl p1 p2 p3) (by decide)))
  have R34 := R33.trans (CHr.wr W34 Sf_b19_33 R33.1)
  have Sf_b18_34 := Safe.wr W34 Sf_b19_33 R33.1 Sf_b18_33
  have Sf_b19_34 := Safe.wr W34 Sf_b19_33 R33.1 Sf_b19_33
  have K34 : Keep h0 h34 [] := K33.wr W34 (Or.inr sz_b19)
  have N34 := Fr.snoc X34 N33 g_b19
  obtain ⟨cl_b19_241, Ar_b19, q_b19, S_b19, N_b19, H_b19, G_b19⟩ := V_b19_34
  have hin241 : ¬ ((15 : Int32) < 0 ∨ cl_b19_241.slots.size ≤ ((15 : Int32)).toNatClampNeg) := inb_of S_b19 ⟨by decide, by decide⟩
  obtain ⟨T35, h35, X35, e35, W35, st35⟩ := stC X34 hx hZ e34 Ar_b19 (j := (15 : Int32)) hin241 (g := (mkF m 241 (own_Lv0 p1 p2 p3 b13 b4 b9) [(.int (101 : Int32)), (.int (15 : Int32)), (.ref b19), (.ref b19), (.ref b18), (.ref b18)])) rfl rfl (hb hby at_241)
  have V_b19_35 := own_fillS (k := 15) (own_Fvl p1 p2 p3) (by decide) rfl (Arv.set Ar_b19 q_b19 S_b19 N_b19 H_b19 G_b19 (fits_nar_char _) W35 15 rfl (own_flt (own_Fvl p1 p2 p3) (by decide)))
  have R35 := R34.trans (CHr.wr W35 Sf_b19_34 R34.1)
  have Sf_b18_35 := Safe.wr W35 Sf_b19_34 R34.1 Sf_b18_34
  have Sf_b19_35 := Safe.wr W35 Sf_b19_34 R34.1 Sf_b19_34
  have K35 : Keep h0 h35 [] := K34.wr W35 (Or.inr sz_b19)
  have N35 := Fr.snoc X35 N34 g_b19
  obtain ⟨cl_b19_247, Ar_b19, q_b19, S_b19, N_b19, H_b19, G_b19⟩ := V_b19_35
  have hin247 : ¬ ((16 : Int32) < 0 ∨ cl_b19_247.slots.size ≤ ((16 : Int32)).toNatClampNeg) := inb_of S_b19 ⟨by decide, by decide⟩
  obtain ⟨T36, h36, X36, e36, W36, st36⟩ := stC X35 hx hZ e35 Ar_b19 (j := (16 : Int32)) hin247 (g := (mkF m 247 (own_Lv0 p1 p2 p3 b13 b4 b9) [(.int (114 : Int32)), (.int (16 : Int32)), (.ref b19), (.ref b19), (.ref b18), (.ref b18)])) rfl rfl (hb hby at_247)
  have V_b19_36 := own_fillS (k := 16) (own_Fvl p1 p2 p3) (by decide) rfl (Arv.set Ar_b19 q_b19 S_b19 N_b19 H_b19 G_b19 (fits_nar_char _) W36 16 rfl (own_flt (own_Fvl p1 p2 p3) (by decide)))
  have R36 := R35.trans (CHr.wr W36 Sf_b19_35 R35.1)
  have Sf_b18_36 := Safe.wr W36 Sf_b19_35 R35.1 Sf_b18_35
  have Sf_b19_36 := Safe.wr W36 Sf_b19_35 R35.1 Sf_b19_35
  have K36 : Keep h0 h36 [] := K35.wr W36 (Or.inr sz_b19)
  have N36 := Fr.snoc X36 N35 g_b19
  obtain ⟨cl_b19_253, Ar_b19, q_b19, S_b19, N_b19, H_b19, G_b19⟩ := V_b19_36
  have hin253 : ¬ ((17 : Int32) < 0 ∨ cl_b19_253.slots.size ≤ ((17 : Int32)).toNatClampNeg) := inb_of S_b19 ⟨by decide, by decide⟩
  obtain ⟨T37, h37, X37, e37, W37, st37⟩ := stC X36 hx hZ e36 Ar_b19 (j := (17 : Int32)) hin253 (g := (mkF m 253 (own_Lv0 p1 p2 p3 b13 b4 b9) [(.int (116 : Int32)), (.int (17 : Int32)), (.ref b19), (.ref b19), (.ref b18), (.ref b18)])) rfl rfl (hb hby at_253)
  have V_b19_37 := own_fillS (k := 17) (own_Fvl p1 p2 p3) (by decide) rfl (Arv.set Ar_b19 q_b19 S_b19 N_b19 H_b19 G_b19 (fits_nar_char _) W37 17 rfl (own_flt (own_Fvl p1 p2 p3) (by decide)))
  have R37 := R36.trans (CHr.wr W37 Sf_b19_36 R36.1)
  have Sf_b18_37 := Safe.wr W37 Sf_b19_36 R36.1 Sf_b18_36
  have Sf_b19_37 := Safe.wr W37 Sf_b19_36 R36.1 Sf_b19_36
  have K37 : Keep h0 h37 [] := K36.wr W37 (Or.inr sz_b19)
  have N37 := Fr.snoc X37 N36 g_b19
  obtain ⟨cl_b19_259, Ar_b19, q_b19, S_b19, N_b19, H_b19, G_b19⟩ := V_b19_37
  have hin259 : ¬ ((18 : Int32) < 0 ∨ cl_b19_259.slots.size ≤ ((18 : Int32)).toNatClampNeg) := inb_of S_b19 ⟨by decide, by decide⟩
  obtain ⟨T38, h38, X38, e38, W38, st38⟩ := stC X37 hx hZ e37 Ar_b19 (j := (18 : Int32)) hin259 (g := (mkF m 259 (own_Lv0 p1 p2 p3 b13 b4 b9) [(.int (121 : Int32)), (.int (18 : Int32)), (.ref b19), (.ref b19), (.ref b18), (.ref b18)])) rfl rfl (hb hby at_259)
  have V_b19_38 := own_fillS (k := 18) (own_Fvl p1 p2 p3) (by decide) rfl (Arv.set Ar_b19 q_b19 S_b19 N_b19 H_b19 G_b19 (fits_nar_char _) W38 18 rfl (own_flt (own_Fvl p1 p2 p3) (by decide)))
  have R38 := R37.trans (CHr.wr W38 Sf_b19_37 R37.1)
  have Sf_b18_38 := Safe.wr W38 Sf_b19_37 R37.1 Sf_b18_37
  have Sf_b19_38 := Safe.wr W38 Sf_b19_37 R37.1 Sf_b19_37
  have K38 : Keep h0 h38 [] := K37.wr W38 (Or.inr sz_b19)
  have N38 := Fr.snoc X38 N37 g_b19
  obtain ⟨cl_b19_265, Ar_b19, q_b19, S_b19, N_b19, H_b19, G_b19⟩ := V_b19_38
  have hin265 : ¬ ((19 : Int32) < 0 ∨ cl_b19_265.slots.size ≤ ((19 : Int32)).toNatClampNeg) := inb_of S_b19 ⟨by decide, by decide⟩
  obtain ⟨T39, h39, X39, e39, W39, st39⟩ := stC X38 hx hZ e38 Ar_b19 (j := (19 : Int32)) hin265 (g := (mkF m 265 (own_Lv0 p1 p2 p3 b13 b4 b9) [(.int (32 : Int32)), (.int (19 : Int32)), (.ref b19), (.ref b19), (.ref b18), (.ref b18)])) rfl rfl (hb hby at_265)
  have V_b19_39 := own_fillS (k := 19) (own_Fvl p1 p2 p3) (by decide) rfl (Arv.set Ar_b19 q_b19 S_b19 N_b19 H_b19 G_b19 (fits_nar_char _) W39 19 rfl (own_flt (own_Fvl p1 p2 p3) (by decide)))
  have R39 := R38.trans (CHr.wr W39 Sf_b19_38 R38.1)
  have Sf_b18_39 := Safe.wr W39 Sf_b19_38 R38.1 Sf_b18_38
  have Sf_b19_39 := Safe.wr W39 Sf_b19_38 R38.1 Sf_b19_38
  have K39 : Keep h0 h39 [] := K38.wr W39 (Or.inr sz_b19)
  have N39 := Fr.snoc X39 N38 g_b19
  obtain ⟨cl_b19_270, Ar_b19, q_b19, S_b19, N_b19, H_b19, G_b19⟩ := V_b19_39
  have hin270 : ¬ ((20 : Int32) < 0 ∨ cl_b19_270.slots.size ≤ ((20 : Int32)).toNatClampNeg) := inb_of S_b19 ⟨by decide, by decide⟩
  obtain ⟨T40, h40, X40, e40, W40, st40⟩ := stC X39 hx hZ e39 Ar_b19 (j := (20 : Int32)) hin270 (g := (mkF m 270 (own_Lv0 p1 p2 p3 b13 b4 b9) [(.int ((p1 &&& (255 : Int32)).toUInt32.toUInt16.toUInt32.toInt32)), (.int (20 : Int32)), (.ref b19), (.ref b19), (.ref b18), (.ref b18)])) rfl rfl (hb hby at_270)
  have V_b19_40 := own_fillS (k := 20) (own_Fvl p1 p2 p3) (by decide) rfl (Arv.set Ar_b19 q_b19 S_b19 N_b19 H_b19 G_b19 (fits_nar_char _) W40 20 rfl (own_flt (own_Fvl p1 p2 p3) (by decide)))
  have R40 := R39.trans (CHr.wr W40 Sf_b19_39 R39.1)
  have Sf_b18_40 := Safe.wr W40 Sf_b19_39 R39.1 Sf_b18_39
  have Sf_b19_40 := Safe.wr W40 Sf_b19_39 R39.1 Sf_b19_39
  have K40 : Keep h0 h40 [] := K39.wr W40 (Or.inr sz_b19)
  have N40 := Fr.snoc X40 N39 g_b19
  obtain ⟨cl_b19_276, Ar_b19, q_b19, S_b19, N_b19, H_b19, G_b19⟩ := V_b19_40
  have hin276 : ¬ ((21 : Int32) < 0 ∨ cl_b19_276.slots.size ≤ ((21 : Int32)).toNatClampNeg) := inb_of S_b19 ⟨by decide, by decide⟩
  obtain ⟨T41, h41, X41, e41, W41, st41⟩ := stC X40 hx hZ e40 Ar_b19 (j := (21 : Int32)) hin276 (g := (mkF m 276 (own_Lv0 p1 p2 p3 b13 b4 b9) [(.int ((((p1.toUInt32 >>> ((8 : Int32) &&& 31).toUInt32).toInt32) &&& (255 : Int32)).toUInt32.toUInt16.toUInt32.toInt32)), (.int (21 : Int32)), (.ref b19), (.ref b19), (.ref b18), (.ref b18)])) rfl rfl (hb hby at_276)
  have V_b19_41 := own_fillS (k := 21) (own_Fvl p1 p2 p3) (by decide) rfl (Arv.set Ar_b19 q_b19 S_b19 N_b19 H_b19 G_b19 (fits_nar_char _) W41 21 rfl (own_flt (own_Fvl p1 p2 p3) (by decide)))
  have R41 := R40.trans (CHr.wr W41 Sf_b19_40 R40.1)
  have Sf_b18_41 := Safe.wr W41 Sf_b19_40 R40.1 Sf_b18_40
  have Sf_b19_41 := Safe.wr W41 Sf_b19_40 R40.1 Sf_b19_40
  have K41 : Keep h0 h41 [] := K40.wr W41 (Or.inr sz_b19)
  have N41 := Fr.snoc X41 N40 g_b19
  obtain ⟨cl_b19_282, Ar_b19, q_b19, S_b19, N_b19, H_b19, G_b19⟩ := V_b19_41
  have hin282 : ¬ ((22 : Int32) < 0 ∨ cl_b19_282.slots.size ≤ ((22 : Int32)).toNatClampNeg) := inb_of S_b19 ⟨by decide, by decide⟩
  obtain ⟨T42, h42, X42, e42, W42, st42⟩ := stC X41 hx hZ e41 Ar_b19 (j := (22 : Int32)) hin282 (g := (mkF m 282 (own_Lv0 p1 p2 p3 b13 b4 b9) [(.int (32 : Int32)), (.int (22 : Int32)), (.ref b19), (.ref b19), (.ref b18), (.ref b18)])) rfl rfl (hb hby at_282)
  have V_b19_42 := own_fillS (k := 22) (own_Fvl p1 p2 p3) (by decide) rfl (Arv.set Ar_b19 q_b19 S_b19 N_b19 H_b19 G_b19 (fits_nar_char _) W42 22 rfl (own_flt (own_Fvl p1 p2 p3) (by decide)))
  have R42 := R41.trans (CHr.wr W42 Sf_b19_41 R41.1)
  have Sf_b18_42 := Safe.wr W42 Sf_b19_41 R41.1 Sf_b18_41
  have Sf_b19_42 := Safe.wr W42 Sf_b19_41 R41.1 Sf_b19_41
  have K42 : Keep h0 h42 [] := K41.wr W42 (Or.inr sz_b19)
  have N42 := Fr.snoc X42 N41 g_b19
  obtain ⟨cl_b19_288, Ar_b19, q_b19, S_b19, N_b19, H_b19, G_b19⟩ := V_b19_42
  have hin288 : ¬ ((23 : Int32) < 0 ∨ cl_b19_288.slots.size ≤ ((23 : Int32)).toNatClampNeg) := inb_of S_b19 ⟨by decide, by decide⟩
  obtain ⟨T43, h43, X43, e43, W43, st43⟩ := stC X42 hx hZ e42 Ar_b19 (j := (23 : Int32)) hin288 (g := (mkF m 288 (own_Lv0 p1 p2 p3 b13 b4 b9) [(.int (105 : Int32)), (.int (23 : Int32)), (.ref b19), (.ref b19), (.ref b18), (.ref b18)])) rfl rfl (hb hby at_288)
  have V_b19_43 := own_fillS (k := 23) (own_Fvl p1 p2 p3) (by decide) rfl (Arv.set Ar_b19 q_b19 S_b19 N_b19 H_b19 G_b19 (fits_nar_char _) W43 23 rfl (own_flt (own_Fvl p1 p2 p3) (by decide)))
  have R43 := R42.trans (CHr.wr W43 Sf_b19_42 R42.1)
  have Sf_b18_43 := Safe.wr W43 Sf_b19_42 R42.1 Sf_b18_42
  have Sf_b19_43 := Safe.wr W43 Sf_b19_42 R42.1 Sf_b19_42
  have K43 : Keep h0 h43 [] := K42.wr W43 (Or.inr sz_b19)
  have N43 := Fr.snoc X43 N42 g_b19
  obtain ⟨cl_b19_294, Ar_b19, q_b19, S_b19, N_b19, H_b19, G_b19⟩ := V_b19_43
  have hin294 : ¬ ((24 : Int32) < 0 ∨ cl_b19_294.slots.size ≤ ((24 : Int32)).toNatClampNeg) := inb_of S_b19 ⟨by decide, by decide⟩
  obtain ⟨T44, h44, X44, e44, W44, st44⟩ := stC X43 hx hZ e43 Ar_b19 (j := (24 : Int32)) hin294 (g := (mkF m 294 (own_Lv0 p1 p2 p3 b13 b4 b9) [(.int (115 : Int32)), (.int (24 : Int32)), (.ref b19), (.ref b19), (.ref b18), (.ref b18)])) rfl rfl (hb hby at_294)
  have V_b19_44 := own_fillS (k := 24) (own_Fvl p1 p2 p3) (by decide) rfl (Arv.set Ar_b19 q_b19 S_b19 N_b19 H_b19 G_b19 (fits_nar_char _) W44 24 rfl (own_flt (own_Fvl p1 p2 p3) (by decide)))
  have R44 := R43.trans (CHr.wr W44 Sf_b19_43 R43.1)
  have Sf_b18_44 := Safe.wr W44 Sf_b19_43 R43.1 Sf_b18_43
  have Sf_b19_44 := Safe.wr W44 Sf_b19_43 R43.1 Sf_b19_43
  have K44 : Keep h0 h44 [] := K43.wr W44 (Or.inr sz_b19)
  have N44 := Fr.snoc X44 N43 g_b19
  obtain ⟨cl_b19_300, Ar_b19, q_b19, S_b19, N_b19, H_b19, G_b19⟩ := V_b19_44
  have hin300 : ¬ ((25 : Int32) < 0 ∨ cl_b19_300.slots.size ≤ ((25 : Int32)).toNatClampNeg) := inb_of S_b19 ⟨by decide, by decide⟩
  obtain ⟨T45, h45, X45, e45, W45, st45⟩ := stC X44 hx hZ e44 Ar_b19 (j := (25 : Int32)) hin300 (g := (mkF m 300 (own_Lv0 p1 p2 p3 b13 b4 b9) [(.int (32 : Int32)), (.int (25 : Int32)), (.ref b19), (.ref b19), (.ref b18), (.ref b18)])) rfl rfl (hb hby at_300)
  have V_b19_45 := own_fillS (k := 25) (own_Fvl p1 p2 p3) (by decide) rfl (Arv.set Ar_b19 q_b19 S_b19 N_b19 H_b19 G_b19 (fits_nar_char _) W45 25 rfl (own_flt (own_Fvl p1 p2 p3) (by decide)))
  have R45 := R44.trans (CHr.wr W45 Sf_b19_44 R44.1)
  have Sf_b18_45 := Safe.wr W45 Sf_b19_44 R44.1 Sf_b18_44
  have Sf_b19_45 := Safe.wr W45 Sf_b19_44 R44.1 Sf_b19_44
  have K45 : Keep h0 h45 [] := K44.wr W45 (Or.inr sz_b19)
  have N45 := Fr.snoc X45 N44 g_b19
  obtain ⟨cl_b19_306, Ar_b19, q_b19, S_b19, N_b19, H_b19, G_b19⟩ := V_b19_45
  have hin306 : ¬ ((26 : Int32) < 0 ∨ cl_b19_306.slots.size ≤ ((26 : Int32)).toNatClampNeg) := inb_of S_b19 ⟨by decide, by decide⟩
  obtain ⟨T46, h46, X46, e46, W46, st46⟩ := stC X45 hx hZ e45 Ar_b19 (j := (26 : Int32)) hin306 (g := (mkF m 306 (own_Lv0 p1 p2 p3 b13 b4 b9) [(.int (34 : Int32)), (.int (26 : Int32)), (.ref b19), (.ref b19), (.ref b18), (.ref b18)])) rfl rfl (hb hby at_306)
  have V_b19_46 := own_fillS (k := 26) (own_Fvl p1 p2 p3) (by decide) rfl (Arv.set Ar_b19 q_b19 S_b19 N_b19 H_b19 G_b19 (fits_nar_char _) W46 26 rfl (own_flt (own_Fvl p1 p2 p3) (by decide)))
  have R46 := R45.trans (CHr.wr W46 Sf_b19_45 R45.1)
  have Sf_b18_46 := Safe.wr W46 Sf_b19_45 R45.1 Sf_b18_45
  have Sf_b19_46 := Safe.wr W46 Sf_b19_45 R45.1 Sf_b19_45
  have K46 : Keep h0 h46 [] := K45.wr W46 (Or.inr sz_b19)
  have N46 := Fr.snoc X46 N45 g_b19
  obtain ⟨cl_b19_312, Ar_b19, q_b19, S_b19, N_b19, H_b19, G_b19⟩ := V_b19_46
  have hin312 : ¬ ((27 : Int32) < 0 ∨ cl_b19_312.slots.size ≤ ((27 : Int32)).toNatClampNeg) := inb_of S_b19 ⟨by decide, by decide⟩
  obtain ⟨T47, h47, X47, e47, W47, st47⟩ := stC X46 hx hZ e46 Ar_b19 (j := (27 : Int32)) hin312 (g := (mkF m 312 (own_Lv0 p1 p2 p3 b13 b4 b9) [(.int ((p2 &&& (255 : Int32)).toUInt32.toUInt16.toUInt32.toInt32)), (.int (27 : Int32)), (.ref b19), (.ref b19), (.ref b18), (.ref b18)])) rfl rfl (hb hby at_312)
  have V_b19_47 := own_fillS (k := 27) (own_Fvl p1 p2 p3) (by decide) rfl (Arv.set Ar_b19 q_b19 S_b19 N_b19 H_b19 G_b19 (fits_nar_char _) W47 27 rfl (own_flt (own_Fvl p1 p2 p3) (by decide)))
  have R47 := R46.trans (CHr.wr W47 Sf_b19_46 R46.1)
  have Sf_b18_47 := Safe.wr W47 Sf_b19_46 R46.1 Sf_b18_46
  have Sf_b19_47 := Safe.wr W47 Sf_b19_46 R46.1 Sf_b19_46
  have K47 : Keep h0 h47 [] := K46.wr W47 (Or.inr sz_b19)
  have N47 := Fr.snoc X47 N46 g_b19
  obtain ⟨cl_b19_318, Ar_b19, q_b19, S_b19, N_b19, H_b19, G_b19⟩ := V_b19_47
  have hin318 : ¬ ((28 : Int32) < 0 ∨ cl_b19_318.slots.size ≤ ((28 : Int32)).toNatClampNeg) := inb_of S_b19 ⟨by decide, by decide⟩
  obtain ⟨T48, h48, X48, e48, W48, st48⟩ := stC X47 hx hZ e47 Ar_b19 (j := (28 : Int32)) hin318 (g := (mkF m 318 (own_Lv0 p1 p2 p3 b13 b4 b9) [(.int (34 : Int32)), (.int (28 : Int32)), (.ref b19), (.ref b19), (.ref b18), (.ref b18)])) rfl rfl (hb hby at_318)
  have V_b19_48 := own_fillS (k := 28) (own_Fvl p1 p2 p3) (by decide) rfl (Arv.set Ar_b19 q_b19 S_b19 N_b19 H_b19 G_b19 (fits_nar_char _) W48 28 rfl (own_flt (own_Fvl p1 p2 p3) (by decide)))
  have R48 := R47.trans (CHr.wr W48 Sf_b19_47 R47.1)
  have Sf_b18_48 := Safe.wr W48 Sf_b19_47 R47.1 Sf_b18_47
  have Sf_b19_48 := Safe.wr W48 Sf_b19_47 R47.1 Sf_b19_47
  have K48 : Keep h0 h48 [] := K47.wr W48 (Or.inr sz_b19)
  have N48 := Fr.snoc X48 N47 g_b19
  obtain ⟨cl_b19_324, Ar_b19, q_b19, S_b19, N_b19, H_b19, G_b19⟩ := V_b19_48
  have hin324 : ¬ ((29 : Int32) < 0 ∨ cl_b19_324.slots.size ≤ ((29 : Int32)).toNatClampNeg) := inb_of S_b19 ⟨by decide, by decide⟩
  obtain ⟨T49, h49, X49, e49, W49, st49⟩ := stC X48 hx hZ e48 Ar_b19 (j := (29 : Int32)) hin324 (g := (mkF m 324 (own_Lv0 p1 p2 p3 b13 b4 b9) [(.int (59 : Int32)), (.int (29 : Int32)), (.ref b19), (.ref b19), (.ref b18), (.ref b18)])) rfl rfl (hb hby at_324)
  have V_b19_49 := own_fillS (k := 29) (own_Fvl p1 p2 p3) (by decide) rfl (Arv.set Ar_b19 q_b19 S_b19 N_b19 H_b19 G_b19 (fits_nar_char _) W49 29 rfl (own_flt (own_Fvl p1 p2 p3) (by decide)))
  have R49 := R48.trans (CHr.wr W49 Sf_b19_48 R48.1)
  have Sf_b18_49 := Safe.wr W49 Sf_b19_48 R48.1 Sf_b18_48
  have Sf_b19_49 := Safe.wr W49 Sf_b19_48 R48.1 Sf_b19_48
  have K49 : Keep h0 h49 [] := K48.wr W49 (Or.inr sz_b19)
  have N49 := Fr.snoc X49 N48 g_b19
  obtain ⟨cl_b19_330, Ar_b19, q_b19, S_b19, N_b19, H_b19, G_b19⟩ := V_b19_49
  have hin330 : ¬ ((30 : Int32) < 0 ∨ cl_b19_330.slots.size ≤ ((30 : Int32)).toNatClampNeg) := inb_of S_b19 ⟨by decide, by decide⟩
  obtain ⟨T50, h50, X50, e50, W50, st50⟩ := stC X49 hx hZ e49 Ar_b19 (j := (30 : Int32)) hin330 (g := (mkF m 330 (own_Lv0 p1 p2 p3 b13 b4 b9) [(.int (32 : Int32)), (.int (30 : Int32)), (.ref b19), (.ref b19), (.ref b18), (.ref b18)])) rfl rfl (hb hby at_330)
  have V_b19_50 := own_fillS (k := 30) (own_Fvl p1 p2 p3) (by decide) rfl (Arv.set Ar_b19 q_b19 S_b19 N_b19 H_b19 G_b19 (fits_nar_char _) W50 30 rfl (own_flt (own_Fvl p1 p2 p3) (by decide)))
  have R50 := R49.trans (CHr.wr W50 Sf_b19_49 R49.1)
  have Sf_b18_50 := Safe.wr W50 Sf_b19_49 R49.1 Sf_b18_49
  have Sf_b19_50 := Safe.wr W50 Sf_b19_49 R49.1 Sf_b19_49
  have K50 : Keep h0 h50 [] := K49.wr W50 (Or.inr sz_b19)
  have N50 := Fr.snoc X50 N49 g_b19
  obtain ⟨cl_b19_336, Ar_b19, q_b19, S_b19, N_b19, H_b19, G_b19⟩ := V_b19_50
  have hin336 : ¬ ((31 : Int32) < 0 ∨ cl_b19_336.slots.size ≤ ((31 : Int32)).toNatClampNeg) := inb_of S_b19 ⟨by decide, by decide⟩
  obtain ⟨T51, h51, X51, e51, W51, st51⟩ := stC X50 hx hZ e50 Ar_b19 (j := (31 : Int32)) hin336 (g := (mkF m 336 (own_Lv0 p1 p2 p3 b13 b4 b9) [(.int (103 : Int32)), (.int (31 : Int32)), (.ref b19), (.ref b19), (.ref b18), (.ref b18)])) rfl rfl (hb hby at_336)
  have V_b19_51 := own_fillS (k := 31) (own_Fvl p1 p2 p3) (by decide) rfl (Arv.set Ar_b19 q_b19 S_b19 N_b19 H_b19 G_b19 (fits_nar_char _) W51 31 rfl (own_flt (own_Fvl p1 p2 p3) (by decide)))
  have R51 := R50.trans (CHr.wr W51 Sf_b19_50 R50.1)
  have Sf_b18_51 := Safe.wr W51 Sf_b19_50 R50.1 Sf_b18_50
  have Sf_b19_51 := Safe.wr W51 Sf_b19_50 R50.1 Sf_b19_50
  have K51 : Keep h0 h51 [] := K50.wr W51 (Or.inr sz_b19)
  have N51 := Fr.snoc X51 N50 g_b19
  obtain ⟨cl_b19_342, Ar_b19, q_b19, S_b19, N_b19, H_b19, G_b19⟩ := V_b19_51
  have hin342 : ¬ ((32 : Int32) < 0 ∨ cl_b19_342.slots.size ≤ ((32 : Int32)).toNatClampNeg) := inb_of S_b19 ⟨by decide, by decide⟩
  obtain ⟨T52, h52, X52, e52, W52, st52⟩ := stC X51 hx hZ e51 Ar_b19 (j := (32 : Int32)) hin342 (g := (mkF m 342 (own_Lv0 p1 p2 p3 b13 b4 b9) [(.int (105 : Int32)), (.int (32 : Int32)), (.ref b19), (.ref b19), (.ref b18), (.ref b18)])) rfl rfl (hb hby at_342)
  have V_b19_52 := own_fillS (k := 32) (own_Fvl p1 p2 p3) (by decide) rfl (Arv.set Ar_b19 q_b19 S_b19 N_b19 H_b19 G_b19 (fits_nar_char _) W52 32 rfl (own_flt (own_Fvl p1 p2 p3) (by decide)))
  have R52 := R51.trans (CHr.wr W52 Sf_b19_51 R51.1)
  have Sf_b18_52 := Safe.wr W52 Sf_b19_51 R51.1 Sf_b18_51
  have Sf_b19_52 := Safe.wr W52 Sf_b19_51 R51.1 Sf_b19_51
  have K52 : Keep h0 h52 [] := K51.wr W52 (Or.inr sz_b19)
  have N52 := Fr.snoc X52 N51 g_b19
  obtain ⟨cl_b19_348, Ar_b19, q_b19, S_b19, N_b19, H_b19, G_b19⟩ := V_b19_52
  have hin348 : ¬ ((33 : Int32) < 0 ∨ cl_b19_348.slots.size ≤ ((33 : Int32)).toNatClampNeg) := inb_of S_b19 ⟨by decide, by decide⟩
  obtain ⟨T53, h53, X53, e53, W53, st53⟩ := stC X52 hx hZ e52 Ar_b19 (j := (33 : Int32)) hin348 (g := (mkF m 348 (own_Lv0 p1 p2 p3 b13 b4 b9) [(.int (118 : Int32)), (.int (33 : Int32)), (.ref b19), (.ref b19), (.ref b18), (.ref b18)])) rfl rfl (hb hby at_348)
  have V_b19_53 := own_fillS (k := 33) (own_Fvl p1 p2 p3) (by decide) rfl (Arv.set Ar_b19 q_b19 S_b19 N_b19 H_b19 G_b19 (fits_nar_char _) W53 33 rfl (own_flt (own_Fvl p1 p2 p3) (by decide)))
  have R53 := R52.trans (CHr.wr W53 Sf_b19_52 R52.1)
  have Sf_b18_53 := Safe.wr W53 Sf_b19_52 R52.1 Sf_b18_52
  have Sf_b19_53 := Safe.wr W53 Sf_b19_52 R52.1 Sf_b19_52
  have K53 : Keep h0 h53 [] := K52.wr W53 (Or.inr sz_b19)
  have N53 := Fr.snoc X53 N52 g_b19
  obtain ⟨cl_b19_354, Ar_b19, q_b19, S_b19, N_b19, H_b19, G_b19⟩ := V_b19_53
  have hin354 : ¬ ((34 : Int32) < 0 ∨ cl_b19_354.slots.size ≤ ((34 : Int32)).toNatClampNeg) := inb_of S_b19 ⟨by decide, by decide⟩
  obtain ⟨T54, h54, X54, e54, W54, st54⟩ := stC X53 hx hZ e53 Ar_b19 (j := (34 : Int32)) hin354 (g := (mkF m 354 (own_Lv0 p1 p2 p3 b13 b4 b9) [(.int (101 : Int32)), (.int (34 : Int32)), (.ref b19), (.ref b19), (.ref b18), (.ref b18)])) rfl rfl (hb hby at_354)
  have V_b19_54 := own_fillS (k := 34) (own_Fvl p1 p2 p3) (by decide) rfl (Arv.set Ar_b19 q_b19 S_b19 N_b19 H_b19 G_b19 (fits_nar_char _) W54 34 rfl (own_flt (own_Fvl p1 p2 p3) (by decide)))
  have R54 := R53.trans (CHr.wr W54 Sf_b19_53 R53.1)
  have Sf_b18_54 := Safe.wr W54 Sf_b19_53 R53.1 Sf_b18_53
  have Sf_b19_54 := Safe.wr W54 Sf_b19_53 R53.1 Sf_b19_53
  have K54 : Keep h0 h54 [] := K53.wr W54 (Or.inr sz_b19)
  have N54 := Fr.snoc X54 N53 g_b19
  obtain ⟨cl_b19_360, Ar_b19, q_b19, S_b19, N_b19, H_b19, G_b19⟩ := V_b19_54
  have hin360 : ¬ ((35 : Int32) < 0 ∨ cl_b19_360.slots.size ≤ ((35 : Int32)).toNatClampNeg) := inb_of S_b19 ⟨by decide, by decide⟩
  obtain ⟨T55, h55, X55, e55, W55, st55⟩ := stC X54 hx hZ e54 Ar_b19 (j := (35 : Int32)) hin360 (g := (mkF m 360 (own_Lv0 p1 p2 p3 b13 b4 b9) [(.int (32 : Int32)), (.int (35 : Int32)), (.ref b19), (.ref b19), (.ref b18), (.ref b18)])) rfl rfl (hb hby at_360)
  have V_b19_55 := own_fillS (k := 35) (own_Fvl p1 p2 p3) (by decide) rfl (Arv.set Ar_b19 q_b19 S_b19 N_b19 H_b19 G_b19 (fits_nar_char _) W55 35 rfl (own_flt (own_Fvl p1 p2 p3) (by decide)))
  have R55 := R54.trans (CHr.wr W55 Sf_b19_54 R54.1)
  have Sf_b18_55 := Safe.wr W55 Sf_b19_54 R54.1 Sf_b18_54
  have Sf_b19_55 := Safe.wr W55 Sf_b19_54 R54.1 Sf_b19_54
  have K55 : Keep h0 h55 [] := K54.wr W55 (Or.inr sz_b19)
  have N55 := Fr.snoc X55 N54 g_b19
  obtain ⟨cl_b19_366, Ar_b19, q_b19, S_b19, N_b19, H_b19, G_b19⟩ := V_b19_55
  have hin366 : ¬ ((36 : Int32) < 0 ∨ cl_b19_366.slots.size ≤ ((36 : Int32)).toNatClampNeg) := inb_of S_b19 ⟨by decide, by decide⟩
  obtain ⟨T56, h56, X56, e56, W56, st56⟩ := stC X55 hx hZ e55 Ar_b19 (j := (36 : Int32)) hin366 (g := (mkF m 366 (own_Lv0 p1 p2 p3 b13 b4 b9) [(.int ((p3 &&& (255 : Int32)).toUInt32.toUInt16.toUInt32.toInt32)), (.int (36 : Int32)), (.ref b19), (.ref b19), (.ref b18), (.ref b18)])) rfl rfl (hb hby at_366)
  have V_b19_56 := own_fillS (k := 36) (own_Fvl p1 p2 p3) (by decide) rfl (Arv.set Ar_b19 q_b19 S_b19 N_b19 H_b19 G_b19 (fits_nar_char _) W56 36 rfl (own_flt (own_Fvl p1 p2 p3) (by decide)))
  have R56 := R55.trans (CHr.wr W56 Sf_b19_55 R55.1)
  have Sf_b18_56 := Safe.wr W56 Sf_b19_55 R55.1 Sf_b18_55
  have Sf_b19_56 := Safe.wr W56 Sf_b19_55 R55.1 Sf_b19_55
  have K56 : Keep h0 h56 [] := K55.wr W56 (Or.inr sz_b19)
  have N56 := Fr.snoc X56 N55 g_b19
  obtain ⟨cl_b19_372, Ar_b19, q_b19, S_b19, N_b19, H_b19, G_b19⟩ := V_b19_56
  have hin372 : ¬ ((37 : Int32) < 0 ∨ cl_b19_372.slots.size ≤ ((37 : Int32)).toNatClampNeg) := inb_of S_b19 ⟨by decide, by decide⟩
  obtain ⟨T57, h57, X57, e57, W57, st57⟩ := stC X56 hx hZ e56 Ar_b19 (j := (37 : Int32)) hin372 (g := (mkF m 372 (own_Lv0 p1 p2 p3 b13 b4 b9) [(.int ((((p3.toUInt32 >>> ((8 : Int32) &&& 31).toUInt32).toInt32) &&& (255 : Int32)).toUInt32.toUInt16.toUInt32.toInt32)), (.int (37 : Int32)), (.ref b19), (.ref b19), (.ref b18), (.ref b18)])) rfl rfl (hb hby at_372)
  have V_b19_57 := own_fillS (k := 37) (own_Fvl p1 p2 p3) (by decide) rfl (Arv.set Ar_b19 q_b19 S_b19 N_b19 H_b19 G_b19 (fits_nar_char _) W57 37 rfl (own_flt (own_Fvl p1 p2 p3) (by decide)))
  have R57 := R56.trans (CHr.wr W57 Sf_b19_56 R56.1)
  have Sf_b18_57 := Safe.wr W57 Sf_b19_56 R56.1 Sf_b18_56
  have Sf_b19_57 := Safe.wr W57 Sf_b19_56 R56.1 Sf_b19_56
  have K57 : Keep h0 h57 [] := K56.wr W57 (Or.inr sz_b19)
  have N57 := Fr.snoc X57 N56 g_b19
  have SC58 := S_COMPACT_STRINGS.ext ((X00.keep K57 all0)).2
  have Eb58 := (((((((((((((((((((((((((((((((((((((((E_b18.ext E19).wr W20).wr W21).wr W22).wr W23).wr W24).wr W25).wr W26).wr W27).wr W28).wr W29).wr W30).wr W31).wr W32).wr W33).wr W34).wr W35).wr W36).wr W37).wr W38).wr W39).wr W40).wr W41).wr W42).wr W43).wr W44).wr W45).wr W46).wr W47).wr W48).wr W49).wr W50).wr W51).wr W52).wr W53).wr W54).wr W55).wr W56).wr W57)
  have Fvb58 := (((((((((((((((((((((((((((((((((((((((F_value_b18.ext E19).other W20 (Or.inl (Nat.ne_of_lt (Nat.lt_of_lt_of_le E_b18.lt (Nat.le_of_eq g19.symm))))).other W21 (Or.inl (Nat.ne_of_lt (Nat.lt_of_lt_of_le E_b18.lt (Nat.le_of_eq g19.symm))))).other W22 (Or.inl (Nat.ne_of_lt (Nat.lt_of_lt_of_le E_b18.lt (Nat.le_of_eq g19.symm))))).other W23 (Or.inl (Nat.ne_of_lt (Nat.lt_of_lt_of_le E_b18.lt (Nat.le_of_eq g19.symm))))).other W24 (Or.inl (Nat.ne_of_lt (Nat.lt_of_lt_of_le E_b18.lt (Nat.le_of_eq g19.symm))))).other W25 (Or.inl (Nat.ne_of_lt (Nat.lt_of_lt_of_le E_b18.lt (Nat.le_of_eq g19.symm))))).other W26 (Or.inl (Nat.ne_of_lt (Nat.lt_of_lt_of_le E_b18.lt (Nat.le_of_eq g19.symm))))).other W27 (Or.inl (Nat.ne_of_lt (Nat.lt_of_lt_of_le E_b18.lt (Nat.le_of_eq g19.symm))))).other W28 (Or.inl (Nat.ne_of_lt (Nat.lt_of_lt_of_le E_b18.lt (Nat.le_of_eq g19.symm))))).other W29 (Or.inl (Nat.ne_of_lt (Nat.lt_of_lt_of_le E_b18.lt (Nat.le_of_eq g19.symm))))).other W30 (Or.inl (Nat.ne_of_lt (Nat.lt_of_lt_of_le E_b18.lt (Nat.le_of_eq g19.symm))))).other W31 (Or.inl (Nat.ne_of_lt (Nat.lt_of_lt_of_le E_b18.lt (Nat.le_of_eq g19.symm))))).other W32 (Or.inl (Nat.ne_of_lt (Nat.lt_of_lt_of_le E_b18.lt (Nat.le_of_eq g19.symm))))).other W33 (Or.inl (Nat.ne_of_lt (Nat.lt_of_lt_of_le E_b18.lt (Nat.le_of_eq g19.symm))))).other W34 (Or.inl (Nat.ne_of_lt (Nat.lt_of_lt_of_le E_b18.lt (Nat.le_of_eq g19.symm))))).other W35 (Or.inl (Nat.ne_of_lt (Nat.lt_of_lt_of_le E_b18.lt (Nat.le_of_eq g19.symm))))).other W36 (Or.inl (Nat.ne_of_lt (Nat.lt_of_lt_of_le E_b18.lt (Nat.le_of_eq g19.symm))))).other W37 (Or.inl (Nat.ne_of_lt (Nat.lt_of_lt_of_le E_b18.lt (Nat.le_of_eq g19.symm))))).other W38 (Or.inl (Nat.ne_of_lt (Nat.lt_of_lt_of_le E_b18.lt (Nat.le_of_eq g19.symm))))).other W39 (Or.inl (Nat.ne_of_lt (Nat.lt_of_lt_of_le E_b18.lt (Nat.le_of_eq g19.symm))))).other W40 (Or.inl (Nat.ne_of_lt (Nat.lt_of_lt_of_le E_b18.lt (Nat.le_of_eq g19.symm))))).other W41 (Or.inl (Nat.ne_of_lt (Nat.lt_of_lt_of_le E_b18.lt (Nat.le_of_eq g19.symm))))).other W42 (Or.inl (Nat.ne_of_lt (Nat.lt_of_lt_of_le E_b18.lt (Nat.le_of_eq g19.symm))))).other W43 (Or.inl (Nat.ne_of_lt (Nat.lt_of_lt_of_le E_b18.lt (Nat.le_of_eq g19.symm))))).other W44 (Or.inl (Nat.ne_of_lt (Nat.lt_of_lt_of_le E_b18.lt (Nat.le_of_eq g19.symm))))).other W45 (Or.inl (Nat.ne_of_lt (Nat.lt_of_lt_of_le E_b18.lt (Nat.le_of_eq g19.symm))))).other W46 (Or.inl (Nat.ne_of_lt (Nat.lt_of_lt_of_le E_b18.lt (Nat.le_of_eq g19.symm))))).other W47 (Or.inl (Nat.ne_of_lt (Nat.lt_of_lt_of_le E_b18.lt (Nat.le_of_eq g19.symm))))).other W48 (Or.inl (Nat.ne_of_lt (Nat.lt_of_lt_of_le E_b18.lt (Nat.le_of_eq g19.symm))))).other W49 (Or.inl (Nat.ne_of_lt (Nat.lt_of_lt_of_le E_b18.lt (Nat.le_of_eq g19.symm))))).other W50 (Or.inl (Nat.ne_of_lt (Nat.lt_of_lt_of_le E_b18.lt (Nat.le_of_eq g19.symm))))).other W51 (Or.inl (Nat.ne_of_lt (Nat.lt_of_lt_of_le E_b18.lt (Nat.le_of_eq g19.symm))))).other W52 (Or.inl (Nat.ne_of_lt (Nat.lt_of_lt_of_le E_b18.lt (Nat.le_of_eq g19.symm))))).other W53 (Or.inl (Nat.ne_of_lt (Nat.lt_of_lt_of_le E_b18.lt (Nat.le_of_eq g19.symm))))).other W54 (Or.inl (Nat.ne_of_lt (Nat.lt_of_lt_of_le E_b18.lt (Nat.le_of_eq g19.symm))))).other W55 (Or.inl (Nat.ne_of_lt (Nat.lt_of_lt_of_le E_b18.lt (Nat.le_of_eq g19.symm))))).other W56 (Or.inl (Nat.ne_of_lt (Nat.lt_of_lt_of_le E_b18.lt (Nat.le_of_eq g19.symm))))).other W57 (Or.inl (Nat.ne_of_lt (Nat.lt_of_lt_of_le E_b18.lt (Nat.le_of_eq g19.symm)))))
  have Fcb58 := (((((((((((((((((((((((((((((((((((((((F_coder_b18.ext E19).other W20 (Or.inl (Nat.ne_of_lt (Nat.lt_of_lt_of_le E_b18.lt (Nat.le_of_eq g19.symm))))).other W21 (Or.inl (Nat.ne_of_lt (Nat.lt_of_lt_of_le E_b18.lt (Nat.le_of_eq g19.symm))))).other W22 (Or.inl (Nat.ne_of_lt (Nat.lt_of_lt_of_le E_b18.lt (Nat.le_of_eq g19.symm))))).other W23 (Or.inl (Nat.ne_of_lt (Nat.lt_of_lt_of_le E_b18.lt (Nat.le_of_eq g19.symm))))).other W24 (Or.inl (Nat.ne_of_lt (Nat.lt_of_lt_of_le E_b18.lt (Nat.le_of_eq g19.symm))))).other W25 (Or.inl (Nat.ne_of_lt (Nat.lt_of_lt_of_le E_b18.lt (Nat.le_of_eq g19.symm))))).other W26 (Or.inl (Nat.ne_of_lt (Nat.lt_of_lt_of_le E_b18.lt (Nat.le_of_eq g19.symm))))).other W27 (Or.inl (Nat.ne_of_lt (Nat.lt_of_lt_of_le E_b18.lt (Nat.le_of_eq g19.symm))))).other W28 (Or.inl (Nat.ne_of_lt (Nat.lt_of_lt_of_le E_b18.lt (Nat.le_of_eq g19.symm))))).other W29 (Or.inl (Nat.ne_of_lt (Nat.lt_of_lt_of_le E_b18.lt (Nat.le_of_eq g19.symm))))).other W30 (Or.inl (Nat.ne_of_lt (Nat.lt_of_lt_of_le E_b18.lt (Nat.le_of_eq g19.symm))))).other W31 (Or.inl (Nat.ne_of_lt (Nat.lt_of_lt_of_le E_b18.lt (Nat.le_of_eq g19.symm))))).other W32 (Or.inl (Nat.ne_of_lt (Nat.lt_of_lt_of_le E_b18.lt (Nat.le_of_eq g19.symm))))).other W33 (Or.inl (Nat.ne_of_lt (Nat.lt_of_lt_of_le E_b18.lt (Nat.le_of_eq g19.symm))))).other W34 (Or.inl (Nat.ne_of_lt (Nat.lt_of_lt_of_le E_b18.lt (Nat.le_of_eq g19.symm))))).other W35 (Or.inl (Nat.ne_of_lt (Nat.lt_of_lt_of_le E_b18.lt (Nat.le_of_eq g19.symm))))).other W36 (Or.inl (Nat.ne_of_lt (Nat.lt_of_lt_of_le E_b18.lt (Nat.le_of_eq g19.symm))))).other W37 (Or.inl (Nat.ne_of_lt (Nat.lt_of_lt_of_le E_b18.lt (Nat.le_of_eq g19.symm))))).other W38 (Or.inl (Nat.ne_of_lt (Nat.lt_of_lt_of_le E_b18.lt (Nat.le_of_eq g19.symm))))).other W39 (Or.inl (Nat.ne_of_lt (Nat.lt_of_lt_of_le E_b18.lt (Nat.le_of_eq g19.symm))))).other W40 (Or.inl (Nat.ne_of_lt (Nat.lt_of_lt_of_le E_b18.lt (Nat.le_of_eq g19.symm))))).other W41 (Or.inl (Nat.ne_of_lt (Nat.lt_of_lt_of_le E_b18.lt (Nat.le_of_eq g19.symm))))).other W42 (Or.inl (Nat.ne_of_lt (Nat.lt_of_lt_of_le E_b18.lt (Nat.le_of_eq g19.symm))))).other W43 (Or.inl (Nat.ne_of_lt (Nat.lt_of_lt_of_le E_b18.lt (Nat.le_of_eq g19.symm))))).other W44 (Or.inl (Nat.ne_of_lt (Nat.lt_of_lt_of_le E_b18.lt (Nat.le_of_eq g19.symm))))).other W45 (Or.inl (Nat.ne_of_lt (Nat.lt_of_lt_of_le E_b18.lt (Nat.le_of_eq g19.symm))))).other W46 (Or.inl (Nat.ne_of_lt (Nat.lt_of_lt_of_le E_b18.lt (Nat.le_of_eq g19.symm))))).other W47 (Or.inl (Nat.ne_of_lt (Nat.lt_of_lt_of_le E_b18.lt (Nat.le_of_eq g19.symm))))).other W48 (Or.inl (Nat.ne_of_lt (Nat.lt_of_lt_of_le E_b18.lt (Nat.le_of_eq g19.symm))))).other W49 (Or.inl (Nat.ne_of_lt (Nat.lt_of_lt_of_le E_b18.lt (Nat.le_of_eq g19.symm))))).other W50 (Or.inl (Nat.ne_of_lt (Nat.lt_of_lt_of_le E_b18.lt (Nat.le_of_eq g19.symm))))).other W51 (Or.inl (Nat.ne_of_lt (Nat.lt_of_lt_of_le E_b18.lt (Nat.le_of_eq g19.symm))))).other W52 (Or.inl (Nat.ne_of_lt (Nat.lt_of_lt_of_le E_b18.lt (Nat.le_of_eq g19.symm))))).other W53 (Or.inl (Nat.ne_of_lt (Nat.lt_of_lt_of_le E_b18.lt (Nat.le_of_eq g19.symm))))).other W54 (Or.inl (Nat.ne_of_lt (Nat.lt_of_lt_of_le E_b18.lt (Nat.le_of_eq g19.symm))))).other W55 (Or.inl (Nat.ne_of_lt (Nat.lt_of_lt_of_le E_b18.lt (Nat.le_of_eq g19.symm))))).other W56 (Or.inl (Nat.ne_of_lt (Nat.lt_of_lt_of_le E_b18.lt (Nat.le_of_eq g19.symm))))).other W57 (Or.inl (Nat.ne_of_lt (Nat.lt_of_lt_of_le E_b18.lt (Nat.le_of_eq g19.symm)))))
  have Zb58 := (Nat.le_trans (Nat.le_trans (Nat.le_trans (Nat.le_trans (Nat.le_trans (Nat.le_trans (Nat.le_trans (Nat.le_trans (Nat.le_trans (Nat.le_trans (Nat.le_trans (Nat.le_trans (Nat.le_trans (Nat.le_trans (Nat.le_trans (Nat.le_trans (Nat.le_trans (Nat.le_trans (Nat.le_trans (Nat.le_trans (Nat.le_trans (Nat.le_trans (Nat.le_trans (Nat.le_trans (Nat.le_trans (Nat.le_trans (Nat.le_trans (Nat.le_trans (Nat.le_trans (Nat.le_trans (Nat.le_trans (Nat.le_trans (Nat.le_trans (Nat.le_trans (Nat.le_trans (Nat.le_trans (Nat.le_trans (Nat.le_trans (Nat.le_trans (Nat.le_trans (Nat.le_trans (Nat.le_trans (Nat.le_trans (Nat.le_trans (Nat.le_trans (Nat.le_trans (Nat.le_trans (Nat.le_trans (Nat.le_trans (Nat.le_trans (Nat.le_trans (Nat.le_trans (Nat.le_trans (Nat.le_trans Z0 E4.1) E5.1) (Keep.of_wr W6).1) (Keep.of_wr W7).1) Kq8.1) E9.1) E10.1) (Keep.of_wr W11).1) Kq12.1) E13.1) E14.1) (Keep.of_wr W15).1) (Keep.of_wr W16).1) Kq17.1) E18.1) E19.1) (Keep.of_wr W20).1) (Keep.of_wr W21).1) (Keep.of_wr W22).1) (Keep.of_wr W23).1) (Keep.of_wr W24).1) (Keep.of_wr W25).1) (Keep.of_wr W26).1) (Keep.of_wr W27).1) (Keep.of_wr W28).1) (Keep.of_wr W29).1) (Keep.of_wr W30).1) (Keep.of_wr W31).1) (Keep.of_wr W32).1) (Keep.of_wr W33).1) (Keep.of_wr W34).1) (Keep.of_wr W35).1) (Keep.of_wr W36).1) (Keep.of_wr W37).1) (Keep.of_wr W38).1) (Keep.of_wr W39).1) (Keep.of_wr W40).1) (Keep.of_wr W41).1) (Keep.of_wr W42).1) (Keep.of_wr W43).1) (Keep.of_wr W44).1) (Keep.of_wr W45).1) (Keep.of_wr W46).1) (Keep.of_wr W47).1) (Keep.of_wr W48).1) (Keep.of_wr W49).1) (Keep.of_wr W50).1) (Keep.of_wr W51).1) (Keep.of_wr W52).1) (Keep.of_wr W53).1) (Keep.of_wr W54).1) (Keep.of_wr W55).1) (Keep.of_wr W56).1) (Keep.of_wr W57).1)
  have Vb58 : Arv Z h57 b19 k19 .char (38 : Int32) ((own_csv p1 p2 p3).map Value.int) (.int (0 : Int32)) := by
    have q : Arv Z h57 b19 k19 .char (38 : Int32) (own_fill (own_Fv p1 p2 p3) 38 38) (.int (0 : Int32)) := V_b19_57
    rw [own_fill_all (own_Fvl p1 p2 p3), own_Fvc] at q
    exact q
  obtain ⟨_, _, ⟨T58, L58, k58, n58⟩, -, X58, ⟨Lc58, hQ58, l58, y58, z58⟩, st58⟩ := X57.specialBack hx (y := (⟨"java/lang/String", "<init>", "([C)V"⟩ : MethodName)) rfl hown (mvT hZ (hw _ (wI 4 rfl))) (mvT hZ (hw _ (wI 5 rfl))) (mvT hZ (hw _ (wI 6 rfl))) (by decide) (StrChars.Road.backV (W := 1) hZ hws (kI := 4) (hw _ (wI 1 rfl)) (cs := (own_csv p1 p2 p3)) (bs := [((116 : Int32)).toInt8.toInt32, ((104 : Int32)).toInt8.toInt32, ((101 : Int32)).toInt8.toInt32, ((32 : Int32)).toInt8.toInt32, ((115 : Int32)).toInt8.toInt32, ((121 : Int32)).toInt8.toInt32, ((115 : Int32)).toInt8.toInt32, ((116 : Int32)).toInt8.toInt32, ((101 : Int32)).toInt8.toInt32, ((109 : Int32)).toInt8.toInt32, ((32 : Int32)).toInt8.toInt32, ((112 : Int32)).toInt8.toInt32, ((114 : Int32)).toInt8.toInt32, ((111 : Int32)).toInt8.toInt32, ((112 : Int32)).toInt8.toInt32, ((101 : Int32)).toInt8.toInt32, ((114 : Int32)).toInt8.toInt32, ((116 : Int32)).toInt8.toInt32, ((121 : Int32)).toInt8.toInt32, ((32 : Int32)).toInt8.toInt32, (((p1 &&& (255 : Int32)).toUInt32.toUInt16.toUInt32.toInt32)).toInt8.toInt32, (((((p1.toUInt32 >>> ((8 : Int32) &&& 31).toUInt32).toInt32) &&& (255 : Int32)).toUInt32.toUInt16.toUInt32.toInt32)).toInt8.toInt32, ((32 : Int32)).toInt8.toInt32, ((105 : Int32)).toInt8.toInt32, ((115 : Int32)).toInt8.toInt32, ((32 : Int32)).toInt8.toInt32, ((34 : Int32)).toInt8.toInt32, (((p2 &&& (255 : Int32)).toUInt32.toUInt16.toUInt32.toInt32)).toInt8.toInt32, ((34 : Int32)).toInt8.toInt32, ((59 : Int32)).toInt8.toInt32, ((32 : Int32)).toInt8.toInt32, ((103 : Int32)).toInt8.toInt32, ((105 : Int32)).toInt8.toInt32, ((118 : Int32)).toInt8.toInt32, ((101 : Int32)).toInt8.toInt32, ((32 : Int32)).toInt8.toInt32, (((p3 &&& (255 : Int32)).toUInt32.toUInt16.toUInt32.toInt32)).toInt8.toInt32, (((((p3.toUInt32 >>> ((8 : Int32) &&& 31).toUInt32).toInt32) &&& (255 : Int32)).toUInt32.toUInt16.toUInt32.toInt32)).toInt8.toInt32]) (n := 38) g_b18 Zb58 Eb58 Fvb58 Fcb58 Vb58 SC58 P3 rfl rfl (by decide) (by decide) (own_csvr p1 p2 p3) rfl (by decide) (by decide)) (g := (mkF m 373 (own_Lv0 p1 p2 p3 b13 b4 b9) [(.ref b19), (.ref b18), (.ref b18)])) rfl (by rw [hml]; rfl) (Steps.refl _) (a := b18) (argsL := [(.ref b19)]) (rest := [(.ref b18)]) (lenOf pd_0_0 rfl) rfl (by show 2 * 0 + _ ≤ _; exact Nat.le_of_eq rfl) (hb hby at_373) (fun _ _ => ⟨rfl, e57, (by decide : 11 + 1 ≤ _), (by decide : 64 + 38 ≤ _)⟩)
  dsimp only [Pt.U, Pt.locs, Pt.cells, Pt.slots] at X58 l58 y58 z58 st58 hQ58
  rw [l58, y58, z58] at X58
  obtain ⟨rfl, N58q, Kc58, Eq58, Fcq58, t58, kt58, g_t58, gz_t58, ne_t58, Fvq58, Vq58⟩ := hQ58
  have N58 := Fr.app N57 N58q
  have Kq58 : Keep h57 T58.heap [b18] := Kc58
  have K58 : Keep h0 T58.heap [] := K57.trans Kq58 (own_trS (Or.inr sz_b18) all0)
  have R58 := R57.trans (CHr.keep Kq58 (sfS Sf_b18_57 sf0) R57.1)
  have Sf_b18_58 := Safe.keep Kq58 (sfS Sf_b18_57 sf0) R57.1 Sf_b18_57
  have Sf_b19_58 := Safe.keep Kq58 (sfS Sf_b18_57 sf0) R57.1 Sf_b19_57
  have Sf_t58_58 := Safe.keep Kq58 (sfS Sf_b18_57 sf0) R57.1 (Safe.new gz_t58)
  have sBs : T17.heap.size ≤ b18 := Nat.le_of_eq g18.symm
  have sBa : T17.heap.size ≤ b19 := Nat.le_trans E18.1 (Nat.le_of_eq g19.symm)
  have KB : Keep T17.heap T58.heap [] := (((((((((((((((((((((((((((((((((((((((((Keep.refl T17.heap []).ext E18).ext E19).wr W20 (Or.inr sBa)).wr W21 (Or.inr sBa)).wr W22 (Or.inr sBa)).wr W23 (Or.inr sBa)).wr W24 (Or.inr sBa)).wr W25 (Or.inr sBa)).wr W26 (Or.inr sBa)).wr W27 (Or.inr sBa)).wr W28 (Or.inr sBa)).wr W29 (Or.inr sBa)).wr W30 (Or.inr sBa)).wr W31 (Or.inr sBa)).wr W32 (Or.inr sBa)).wr W33 (Or.inr sBa)).wr W34 (Or.inr sBa)).wr W35 (Or.inr sBa)).wr W36 (Or.inr sBa)).wr W37 (Or.inr sBa)).wr W38 (Or.inr sBa)).wr W39 (Or.inr sBa)).wr W40 (Or.inr sBa)).wr W41 (Or.inr sBa)).wr W42 (Or.inr sBa)).wr W43 (Or.inr sBa)).wr W44 (Or.inr sBa)).wr W45 (Or.inr sBa)).wr W46 (Or.inr sBa)).wr W47 (Or.inr sBa)).wr W48 (Or.inr sBa)).wr W49 (Or.inr sBa)).wr W50 (Or.inr sBa)).wr W51 (Or.inr sBa)).wr W52 (Or.inr sBa)).wr W53 (Or.inr sBa)).wr W54 (Or.inr sBa)).wr W55 (Or.inr sBa)).wr W56 (Or.inr sBa)).wr W57 (Or.inr sBa)).trans Kq58 (own_trS (Or.inr sBs) all0)
  obtain ⟨_, _, ⟨T59, L59, k59, n59⟩, -, X59, hSc59, hgr59, ⟨Lc59, hQ59, l59, y59, z59, Cr59⟩, st59⟩ := callSS X58 hx (y := (⟨"com/example/shiken/shiken/ContextException", "forSystemProperty", "(Ljava/lang/String;Ljava/lang/String;Ljava/lang/String;)Lcom/example/shiken/shiken/ContextException;"⟩ : MethodName)) hown (mvT hZ (hw _ (wI 33 rfl))) (mvT hZ (hw _ (wI 34 rfl))) (mvT hZ (hw _ (wI 35 rfl))) (mvT hZ (hw _ (wI 36 rfl))) (by decide) (backOfSKH (W := 0) (rm7 l Z a0 hw [] b4 b9 b13 G1 G2 G3 t8 t12 t17 kt8 (2 : Int32) [(.int ((((p1 &&& (255 : Int32)).toUInt32.toUInt16.toUInt32.toInt32)).toInt8.toInt32)), (.int ((((((p1.toUInt32 >>> ((8 : Int32) &&& 31).toUInt32).toInt32) &&& (255 : Int32)).toUInt32.toUInt16.toUInt32.toInt32)).toInt8.toInt32))] (.int (0 : Int32)) kt12 (1 : Int32) [(.int ((((p2 &&& (255 : Int32)).toUInt32.toUInt16.toUInt32.toInt32)).toInt8.toInt32))] (.int (0 : Int32)) kt17 (2 : Int32) [(.int ((((p3 &&& (255 : Int32)).toUInt32.toUInt16.toUInt32.toInt32)).toInt8.toInt32)), (.int ((((((p3.toUInt32 >>> ((8 : Int32) &&& 31).toUInt32).toInt32) &&& (255 : Int32)).toUInt32.toUInt16.toUInt32.toInt32)).toInt8.toInt32))] (.int (0 : Int32)) T58.heap n0 (Nat.le_trans (Nat.le_trans (Nat.le_trans (Nat.le_trans (Nat.le_trans (Nat.le_trans (Nat.le_trans (Nat.le_trans (Nat.le_trans (Nat.le_trans (Nat.le_trans (Nat.le_trans (Nat.le_trans (Nat.le_trans (Nat.le_trans (Nat.le_trans (Nat.le_trans (Nat.le_trans (Nat.le_trans (Nat.le_trans (Nat.le_trans (Nat.le_trans (Nat.le_trans (Nat.le_trans (Nat.le_trans (Nat.le_trans (Nat.le_trans (Nat.le_trans (Nat.le_trans (Nat.le_trans (Nat.le_trans (Nat.le_trans (Nat.le_trans (Nat.le_trans (Nat.le_trans (Nat.le_trans (Nat.le_trans (Nat.le_trans (Nat.le_trans (Nat.le_trans (Nat.le_trans (Nat.le_trans (Nat.le_trans (Nat.le_trans (Nat.le_trans (Nat.le_trans (Nat.le_trans (Nat.le_trans (Nat.le_trans (Nat.le_trans (Nat.le_trans (Nat.le_trans (Nat.le_trans (Nat.le_trans (Nat.le_trans Z0 E4.1) E5.1) (Keep.of_wr W6).1) (Keep.of_wr W7).1) Kq8.1) E9.1) E10.1) (Keep.of_wr W11).1) Kq12.1) E13.1) E14.1) (Keep.of_wr W15).1) (Keep.of_wr W16).1) Kq17.1) E18.1) E19.1) (Keep.of_wr W20).1) (Keep.of_wr W21).1) (Keep.of_wr W22).1) (Keep.of_wr W23).1) (Keep.of_wr W24).1) (Keep.of_wr W25).1) (Keep.of_wr W26).1) (Keep.of_wr W27).1) (Keep.of_wr W28).1) (Keep.of_wr W29).1) (Keep.of_wr W30).1) (Keep.of_wr W31).1) (Keep.of_wr W32).1) (Keep.of_wr W33).1) (Keep.of_wr W34).1) (Keep.of_wr W35).1) (Keep.of_wr W36).1) (Keep.of_wr W37).1) (Keep.of_wr W38).1) (Keep.of_wr W39).1) (Keep.of_wr W40).1) (Keep.of_wr W41).1) (Keep.of_wr W42).1) (Keep.of_wr W43).1) (Keep.of_wr W44).1) (Keep.of_wr W45).1) (Keep.of_wr W46).1) (Keep.of_wr W47).1) (Keep.of_wr W48).1) (Keep.of_wr W49).1) (Keep.of_wr W50).1) (Keep.of_wr W51).1) (Keep.of_wr W52).1) (Keep.of_wr W53).1) (Keep.of_wr W54).1) (Keep.of_wr W55).1) (Keep.of_wr W56).1) (Keep.of_wr W57).1) Kq58.1) hl S_COMPACT_STRINGS (X00.keep K58 all0) P3 S_UNASSIGNED_STACK S_SUPPRESSED_SENTINEL ((((((((((Eq8.ext E9).ext E10).wr W11).keep Kq12).ext E13).ext E14).wr W15).wr W16).keep Kq17).keep KB) ((((((((((Fvq8.ext E9).ext E10).other W11 (Or.inl (Nat.ne_of_lt (Nat.lt_of_lt_of_le (Eq8.ext E9).lt (Nat.le_of_eq g10.symm))))).keep Kq12 (fun q => absurd (List.mem_singleton.mp q) (Nat.ne_of_lt (Nat.lt_of_lt_of_le Eq8.lt (Nat.le_of_eq g9.symm))))).ext E13).ext E14).other W15 (Or.inl (Nat.ne_of_lt (Nat.lt_of_lt_of_le (((((Eq8.ext E9).ext E10).wr W11).keep Kq12).ext E13).lt (Nat.le_of_eq g14.symm))))).other W16 (Or.inl (Nat.ne_of_lt (Nat.lt_of_lt_of_le (((((Eq8.ext E9).ext E10).wr W11).keep Kq12).ext E13).lt (Nat.le_of_eq g14.symm))))).keep Kq17 (fun q => absurd (List.mem_singleton.mp q) (Nat.ne_of_lt (Nat.lt_of_lt_of_le ((((Eq8.ext E9).ext E10).wr W11).keep Kq12).lt (Nat.le_of_eq g13.symm))))).keep KB (fun q => nomatch q)) ((((((((((Fcq8.ext E9).ext E10).other W11 (Or.inl (Nat.ne_of_lt (Nat.lt_of_lt_of_le (Eq8.ext E9).lt (Nat.le_of_eq g10.symm))))).keep Kq12 (fun q => absurd (List.mem_singleton.mp q) (Nat.ne_of_lt (Nat.lt_of_lt_of_le Eq8.lt (Nat.le_of_eq g9.symm))))).ext E13).ext E14).other W15 (Or.inl (Nat.ne_of_lt (Nat.lt_of_lt_of_le (((((Eq8.ext E9).ext E10).wr W11).keep Kq12).ext E13).lt (Nat.le_of_eq g14.symm))))).other W16 (Or.inl (Nat.ne_of_lt (Nat.lt_of_lt_of_le (((((Eq8.ext E9).ext E10).wr W11).keep Kq12).ext E13).lt (Nat.le_of_eq g14.symm))))).keep Kq17 (fun q => absurd (List.mem_singleton.mp q) (Nat.ne_of_lt (Nat.lt_of_lt_of_le ((((Eq8.ext E9).ext E10).wr W11).keep Kq12).lt (Nat.le_of_eq g13.symm))))).keep KB (fun q => nomatch q)) ((((((Eq12.ext E13).ext E14).wr W15).wr W16).keep Kq17).keep KB) ((((((Fvq12.ext E13).ext E14).other W15 (Or.inl (Nat.ne_of_lt (Nat.lt_of_lt_of_le (Eq12.ext E13).lt (Nat.le_of_eq g14.symm))))).other W16 (Or.inl (Nat.ne_of_lt (Nat.lt_of_lt_of_le (Eq12.ext E13).lt (Nat.le_of_eq g14.symm))))).keep Kq17 (fun q => absurd (List.mem_singleton.mp q) (Nat.ne_of_lt (Nat.lt_of_lt_of_le Eq12.lt (Nat.le_of_eq g13.symm))))).keep KB (fun q => nomatch q)) ((((((Fcq12.ext E13).ext E14).other W15 (Or.inl (Nat.ne_of_lt (Nat.lt_of_lt_of_le (Eq12.ext E13).lt (Nat.le_of_eq g14.symm))))).other W16 (Or.inl (Nat.ne_of_lt (Nat.lt_of_lt_of_le (Eq12.ext E13).lt (Nat.le_of_eq g14.symm))))).keep Kq17 (fun q => absurd (List.mem_singleton.mp q) (Nat.ne_of_lt (Nat.lt_of_lt_of_le Eq12.lt (Nat.le_of_eq g13.symm))))).keep KB (fun q => nomatch q)) (Eq17.keep KB) (Fvq17.keep KB (fun q => nomatch q)) (Fcq17.keep KB (fun q => nomatch q)) ((((((((((Vq8.ext E9).ext E10).other W11 (Nat.ne_of_lt (Nat.lt_of_lt_of_le (Vq8.ext E9).lt (Nat.le_of_eq g10.symm)))).keep Kq12 (fun q => absurd (List.mem_singleton.mp q) (Nat.ne_of_lt (Nat.lt_of_lt_of_le Vq8.lt (Nat.le_of_eq g9.symm))))).ext E13).ext E14).other W15 (Nat.ne_of_lt (Nat.lt_of_lt_of_le (((((Vq8.ext E9).ext E10).other W11 (Nat.ne_of_lt (Nat.lt_of_lt_of_le (Vq8.ext E9).lt (Nat.le_of_eq g10.symm)))).keep Kq12 (fun q => absurd (List.mem_singleton.mp q) (Nat.ne_of_lt (Nat.lt_of_lt_of_le Vq8.lt (Nat.le_of_eq g9.symm))))).ext E13).lt (Nat.le_of_eq g14.symm)))).other W16 (Nat.ne_of_lt (Nat.lt_of_lt_of_le (((((Vq8.ext E9).ext E10).other W11 (Nat.ne_of_lt (Nat.lt_of_lt_of_le (Vq8.ext E9).lt (Nat.le_of_eq g10.symm)))).keep Kq12 (fun q => absurd (List.mem_singleton.mp q) (Nat.ne_of_lt (Nat.lt_of_lt_of_le Vq8.lt (Nat.le_of_eq g9.symm))))).ext E13).lt (Nat.le_of_eq g14.symm)))).keep Kq17 (fun q => absurd (List.mem_singleton.mp q) (Nat.ne_of_lt (Nat.lt_of_lt_of_le ((((Vq8.ext E9).ext E10).other W11 (Nat.ne_of_lt (Nat.lt_of_lt_of_le (Vq8.ext E9).lt (Nat.le_of_eq g10.symm)))).keep Kq12 (fun q => absurd (List.mem_singleton.mp q) (Nat.ne_of_lt (Nat.lt_of_lt_of_le Vq8.lt (Nat.le_of_eq g9.symm))))).lt (Nat.le_of_eq g13.symm))))).keep KB (fun q => nomatch q)) ((((((Vq12.ext E13).ext E14).other W15 (Nat.ne_of_lt (Nat.lt_of_lt_of_le (Vq12.ext E13).lt (Nat.le_of_eq g14.symm)))).other W16 (Nat.ne_of_lt (Nat.lt_of_lt_of_le (Vq12.ext E13).lt (Nat.le_of_eq g14.symm)))).keep Kq17 (fun q => absurd (List.mem_singleton.mp q) (Nat.ne_of_lt (Nat.lt_of_lt_of_le Vq12.lt (Nat.le_of_eq g13.symm))))).keep KB (fun q => nomatch q)) (Vq17.keep KB (fun q => nomatch q)) rfl (Or.inr rfl) rfl rfl rfl rfl) hZ (hw _ (wI 36 rfl)) (hw _ (wI 35 rfl)) (by decide) (by decide) (own_EW hw) R58.1 (Vm.MethodsKnown.alikeC (hZ.alike.symm.trans hZ.alike) hK.1) (Vm.FramesKnown.alikeC (hZ.alike.symm.trans hZ.alike) hK.2)) (g := (mkF m 615 (own_Lv6 p1 p2 p3 b13 b18 b4 b9) [(.ref b13), (.ref b9), (.ref b4)])) rfl (by rw [hml]; rfl) (argsL := [(.ref b4), (.ref b9), (.ref b13)]) (rest := []) (lenOf pd_0_6 rfl) rfl (by show 2 * 0 + _ ≤ _; exact Nat.le_of_eq rfl) (hb hby at_615) (fun _ _ => ⟨rfl, rfl, (by decide : 12 + 19 ≤ _), (by decide : 102 + 3240 ≤ _)⟩)
  dsimp only [Pt.U, Pt.locs, Pt.cells, Pt.slots] at hSc59 hgr59 Cr59
  dsimp only [Pt.U, Pt.locs, Pt.cells, Pt.slots] at X59 l59 y59 z59 st59 hQ59
  rw [l59, y59, z59] at X59
  obtain ⟨rR, rfl, N59q, Kt59, E_r, U_r, Fc_r, bm, Fm_r, E_bm, tm, km, Fv_bm, Fc_bm, V_tm0⟩ := hQ59
  have N59 := Fr.app N58 N59q
  obtain ⟨X59, hS, hZ59, hown59⟩ := rebS hS ((Nat.le_trans (Nat.le_trans (Nat.le_trans (Nat.le_trans (Nat.le_trans (Nat.le_trans (Nat.le_trans (Nat.le_trans (Nat.le_trans (Nat.le_trans (Nat.le_trans (Nat.le_trans (Nat.le_trans (Nat.le_trans (Nat.le_trans (Nat.le_trans (Nat.le_trans (Nat.le_trans (Nat.le_trans (Nat.le_trans (Nat.le_trans (Nat.le_trans (Nat.le_trans (Nat.le_trans (Nat.le_trans (Nat.le_trans (Nat.le_trans (Nat.le_trans (Nat.le_trans (Nat.le_trans (Nat.le_trans (Nat.le_trans (Nat.le_trans (Nat.le_trans (Nat.le_trans (Nat.le_trans (Nat.le_trans (Nat.le_trans (Nat.le_trans (Nat.le_trans (Nat.le_trans (Nat.le_trans (Nat.le_trans (Nat.le_trans (Nat.le_trans (Nat.le_trans (Nat.le_trans (Nat.le_trans (Nat.le_trans (Nat.le_trans (Nat.le_trans (Nat.le_trans (Nat.le_trans (Nat.le_trans (Nat.le_trans hk E4.1) E5.1) (Keep.of_wr W6).1) (Keep.of_wr W7).1) Kq8.1) E9.1) E10.1) (Keep.of_wr W11).1) Kq12.1) E13.1) E14.1) (Keep.of_wr W15).1) (Keep.of_wr W16).1) Kq17.1) E18.1) E19.1) (Keep.of_wr W20).1) (Keep.of_wr W21).1) (Keep.of_wr W22).1) (Keep.of_wr W23).1) (Keep.of_wr W24).1) (Keep.of_wr W25).1) (Keep.of_wr W26).1) (Keep.of_wr W27).1) (Keep.of_wr W28).1) (Keep.of_wr W29).1) (Keep.of_wr W30).1) (Keep.of_wr W31).1) (Keep.of_wr W32).1) (Keep.of_wr W33).1) (Keep.of_wr W34).1) (Keep.of_wr W35).1) (Keep.of_wr W36).1) (Keep.of_wr W37).1) (Keep.of_wr W38).1) (Keep.of_wr W39).1) (Keep.of_wr W40).1) (Keep.of_wr W41).1) (Keep.of_wr W42).1) (Keep.of_wr W43).1) (Keep.of_wr W44).1) (Keep.of_wr W45).1) (Keep.of_wr W46).1) (Keep.of_wr W47).1) (Keep.of_wr W48).1) (Keep.of_wr W49).1) (Keep.of_wr W50).1) (Keep.of_wr W51).1) (Keep.of_wr W52).1) (Keep.of_wr W53).1) (Keep.of_wr W54).1) (Keep.of_wr W55).1) (Keep.of_wr W56).1) (Keep.of_wr W57).1) Kq58.1)) X59 hSc59 hgr59 hZ hown
  have hk := Nat.le_refl T59.heap.size
  have V_tm : Arv Z T59.heap tm km .byte (Int32.ofNat ((own_csv p1 p2 p3)).length) (((own_csv p1 p2 p3)).map fun c => Value.int (StrChars.lo8 c)) (.int (0 : Int32)) := own_arvc V_tm0 (show ((((((0 : Int32) + (((0 : Int32) + (20 : Int32)) + (2 : Int32))) + (5 : Int32)) + (1 : Int32)) + (8 : Int32)) + (2 : Int32)) = Int32.ofNat 38 by decide) (own_evv p1 p2 p3)
  have Kq59 : Keep T58.heap T59.heap [] := Kt59
  have K59 : Keep h0 T59.heap [] := K58.trans Kq59 all0
  have R59 := R58.trans Cr59
  obtain ⟨cq60, kq60, q60a, q60b, q60c⟩ := isOf hZ59 rfl E_r
  obtain ⟨_, _, ⟨T60, L60, k60, n60⟩, -, X60, ⟨Lc60, hQ60, l60, y60, z60⟩, st60⟩ := X59.virtualBackUp hx (owner := "java/lang/Throwable") (x := (⟨"com/example/shiken/shiken/ContextException", "getMessage", "()Ljava/lang/String;"⟩ : MethodName)) (y := (⟨"java/lang/Throwable", "getMessage", "()Ljava/lang/String;"⟩ : MethodName)) hown59 (mvT hZ59 (hw _ (wI 229 rfl))) (mvT hZ59 (hw _ (wI 230 rfl))) (mvT hZ59 (hw _ (wI 231 rfl))) (by decide) (mvT hZ59 (hw _ (wI 233 rfl))) (mvT hZ59 (hw _ (wI 232 rfl))) (backOf (W := 0) (rm40 l Z a0 hw [] rR bm T59.heap n0 (Nat.le_trans (Nat.le_trans (Nat.le_trans (Nat.le_trans (Nat.le_trans (Nat.le_trans (Nat.le_trans (Nat.le_trans (Nat.le_trans (Nat.le_trans (Nat.le_trans (Nat.le_trans (Nat.le_trans (Nat.le_trans (Nat.le_trans (Nat.le_trans (Nat.le_trans (Nat.le_trans (Nat.le_trans (Nat.le_trans (Nat.le_trans (Nat.le_trans (Nat.le_trans (Nat.le_trans (Nat.le_trans (Nat.le_trans (Nat.le_trans (Nat.le_trans (Nat.le_trans (Nat.le_trans (Nat.le_trans (Nat.le_trans (Nat.le_trans (Nat.le_trans (Nat.le_trans (Nat.le_trans (Nat.le_trans (Nat.le_trans (Nat.le_trans (Nat.le_trans (Nat.le_trans (Nat.le_trans (Nat.le_trans (Nat.le_trans (Nat.le_trans (Nat.le_trans (Nat.le_trans (Nat.le_trans (Nat.le_trans (Nat.le_trans (Nat.le_trans (Nat.le_trans (Nat.le_trans (Nat.le_trans (Nat.le_trans (Nat.le_trans Z0 E4.1) E5.1) (Keep.of_wr W6).1) (Keep.of_wr W7).1) Kq8.1) E9.1) E10.1) (Keep.of_wr W11).1) Kq12.1) E13.1) E14.1) (Keep.of_wr W15).1) (Keep.of_wr W16).1) Kq17.1) E18.1) E19.1) (Keep.of_wr W20).1) (Keep.of_wr W21).1) (Keep.of_wr W22).1) (Keep.of_wr W23).1) (Keep.of_wr W24).1) (Keep.of_wr W25).1) (Keep.of_wr W26).1) (Keep.of_wr W27).1) (Keep.of_wr W28).1) (Keep.of_wr W29).1) (Keep.of_wr W30).1) (Keep.of_wr W31).1) (Keep.of_wr W32).1) (Keep.of_wr W33).1) (Keep.of_wr W34).1) (Keep.of_wr W35).1) (Keep.of_wr W36).1) (Keep.of_wr W37).1) (Keep.of_wr W38).1) (Keep.of_wr W39).1) (Keep.of_wr W40).1) (Keep.of_wr W41).1) (Keep.of_wr W42).1) (Keep.of_wr W43).1) (Keep.of_wr W44).1) (Keep.of_wr W45).1) (Keep.of_wr W46).1) (Keep.of_wr W47).1) (Keep.of_wr W48).1) (Keep.of_wr W49).1) (Keep.of_wr W50).1) (Keep.of_wr W51).1) (Keep.of_wr W52).1) (Keep.of_wr W53).1) (Keep.of_wr W54).1) (Keep.of_wr W55).1) (Keep.of_wr W56).1) (Keep.of_wr W57).1) Kq58.1) Kq59.1) E_r Fm_r) hZ59 (hw _ (wI 234 rfl)) (hw _ (wI 190 rfl)) (by decide) (by decide)) q60a q60c (g := (mkF m 629 (own_Lv9 p1 p2 p3 b13 b18 b4 b9 rR) [(.ref rR)])) rfl (by rw [hml]; rfl) (Steps.refl _) (argsL := []) (rest := []) (lenOf pd_0_20 rfl) rfl (by show 2 * 0 + _ ≤ _; exact Nat.le_of_eq rfl) (hb hby at_629) (fun _ _ => ⟨rfl, rfl, (by decide : 31 + 0 ≤ _), (by decide : 3342 + 0 ≤ _)⟩)
  dsimp only [Pt.U, Pt.locs, Pt.cells, Pt.slots] at X60 l60 y60 z60 st60 hQ60
  rw [l60, y60, z60] at X60
  obtain ⟨rfl, N60q, eq60⟩ := hQ60
  have N60 := Fr.app N59 N60q
  have Kq60 : Keep T59.heap T60.heap [] := (own_keq eq60)
  have K60 : Keep h0 T60.heap [] := K59.trans Kq60 all0
  have R60 := R59.trans (CHr.keep Kq60 sf0 R59.1)
  obtain ⟨cq61, kq61, q61a, q61b, q61c⟩ := isOf hZ59 rfl (E_bm.keep Kq60)
  have Em61 := (E_bm.keep Kq60)
  have Fvm61 := (Fv_bm.keep Kq60 (fun q => nomatch q))
  have Fcm61 := (Fc_bm.keep Kq60 (fun q => nomatch q))
  have Vm61 := (V_tm.keep Kq60 (fun q => nomatch q))
  have Ex61 := ((Eq58.keep Kq59).keep Kq60)
  have Fvx61 := ((Fvq58.keep Kq59 (fun q => nomatch q)).keep Kq60 (fun q => nomatch q))
  have Fcx61 := ((Fcq58.keep Kq59 (fun q => nomatch q)).keep Kq60 (fun q => nomatch q))
  have Vx61 := ((Vq58.keep Kq59 (fun q => nomatch q)).keep Kq60 (fun q => nomatch q))
  have SC61 := S_COMPACT_STRINGS.ext ((X00.keep K60 all0)).2
  obtain ⟨_, _, ⟨T61, L61, k61, n61⟩, -, X61, ⟨Lc61, hQ61, l61, y61, z61⟩, st61⟩ := X60.virtualBack hx (y := (⟨"java/lang/String", "equals", "(Ljava/lang/Object;)Z"⟩ : MethodName)) (z := (⟨"java/lang/String", "equals", "(Ljava/lang/Object;)Z"⟩ : MethodName)) hown59 (mvT hZ59 (hw _ (wI 235 rfl))) (mvT hZ59 (hw _ (wI 236 rfl))) (notFace_of_selects (args := #[]) (mvT hZ59 (hw _ (wI 238 rfl)))) (mvT hZ59 (hw _ (wI 238 rfl))) (mvT hZ59 (hw _ (wI 237 rfl))) (by decide) (own_eq1 (n0 := n0) (W := 0) hZ59 hw (cs := (own_csv p1 p2 p3)) Em61 Fvm61 Fcm61 Vm61 Ex61 Fvx61 Fcx61 Vx61 (own_csvr p1 p2 p3) (by show 38 ≤ 4000; decide) SC61 P3 (by decide) (by decide)) q61a q61c (g := (mkF m 643 (own_Lv4 p1 p2 p3 b13 b18 b4 b9 bm rR) [(.ref b18), (.ref bm)])) rfl (by rw [hml]; rfl) (Steps.refl _) (argsL := [(.ref b18)]) (rest := []) (lenOf pd_0_29 rfl) rfl (by show 2 * 0 + _ ≤ _; exact Nat.le_of_eq rfl) (hb hby at_643) (fun _ _ => ⟨rfl, rfl, (by decide : 31 + 0 ≤ _), (by decide : 3342 + 0 ≤ _)⟩)
  dsimp only [Pt.U, Pt.locs, Pt.cells, Pt.slots] at X61 l61 y61 z61 st61 hQ61
  rw [l61, y61, z61] at X61
  obtain ⟨rfl, N61q, eq61⟩ := hQ61
  have N61 := Fr.app N60 N61q
  have Kq61 : Keep T60.heap T61.heap [] := (own_keq eq61)
  have K61 : Keep h0 T61.heap [] := K60.trans Kq61 all0
  have R61 := R60.trans (CHr.keep Kq61 sf0 R60.1)
  obtain ⟨cq62, kq62, q62a, q62b, q62c⟩ := isOf hZ59 rfl ((E_r.keep Kq60).keep Kq61)
  have Ur62 := ((U_r.keep Kq60 (fun q => nomatch q)).keep Kq61 (fun q => nomatch q))
  have Fr62 := ((Fc_r.keep Kq60 (fun q => nomatch q)).keep Kq61 (fun q => nomatch q))
  obtain ⟨_, _, ⟨T62, L62, k62, n62⟩, -, X62, ⟨Lc62, hQ62, l62, y62, z62⟩, st62⟩ := X61.virtualBackUp hx (owner := "java/lang/Throwable") (x := (⟨"com/example/shiken/shiken/ContextException", "getCause", "()Ljava/lang/Throwable;"⟩ : MethodName)) (y := (⟨"java/lang/Throwable", "getCause", "()Ljava/lang/Throwable;"⟩ : MethodName)) hown59 (mvT hZ59 (hw _ (wI 245 rfl))) (mvT hZ59 (hw _ (wI 246 rfl))) (mvT hZ59 (hw _ (wI 247 rfl))) (by decide) (mvT hZ59 (hw _ (wI 249 rfl))) (mvT hZ59 (hw _ (wI 248 rfl))) (own_gc (n0 := n0) (W := 0) hZ59 hw Ur62 Fr62 (by decide) (by decide)) q62a q62c (g := (mkF m 651 (own_Lv4 p1 p2 p3 b13 b18 b4 b9 bm rR) [(.ref rR)])) rfl (by rw [hml]; rfl) (Steps.refl _) (argsL := []) (rest := []) (lenOf pd_0_27 rfl) rfl (by show 2 * 0 + _ ≤ _; exact Nat.le_of_eq rfl) (hb hby at_651) (fun _ _ => ⟨rfl, rfl, (by decide : 31 + 0 ≤ _), (by decide : 3342 + 0 ≤ _)⟩)
  dsimp only [Pt.U, Pt.locs, Pt.cells, Pt.slots] at X62 l62 y62 z62 st62 hQ62
  rw [l62, y62, z62] at X62
  obtain ⟨rfl, N62q, eq62⟩ := hQ62
  have N62 := Fr.app N61 N62q
  have Kq62 : Keep T61.heap T62.heap [] := (own_keq eq62)
  have K62 : Keep h0 T62.heap [] := K61.trans Kq62 all0
  have R62 := R61.trans (CHr.keep Kq62 sf0 R61.1)
  obtain ⟨fs, hr, hrun, hended, hRW⟩ := X62.leaveW hS ((Nat.le_trans (Nat.le_trans (Nat.le_trans hk Kq60.1) Kq61.1) Kq62.1)) (v := some (.int (1 : Int32))) (fun h => by rw [Bd.returns] at h; cases h)
  refine ⟨_, _, pre0 _ ?_, hrun, hended, _, _, rfl, ?_, ?_, hRW.1, hRW.2.1, hRW.2.2.1, hRW.2.2.2.mono (by decide) (by decide)⟩
  · show Steps p.tables e below (s₁.setTop (mkF m 0 (own_Lv10 p1 p2 p3) [])) _
    refine XS.iloadN X0.here hx rfl (hb hby at_0) rfl ?_
    show Steps p.tables e below (s₁.setTop (mkF m 1 (own_Lv10 p1 p2 p3) [(.int p1)])) _
    refine XS.sipush X0.here hx rfl (hb hby at_1) ?_
    show Steps p.tables e below (s₁.setTop (mkF m 4 (own_Lv10 p1 p2 p3) [(.int (255 : Int32)), (.int p1)])) _
    refine XS.iand X0.here hx rfl (hb hby at_4) rfl ?_
    show Steps p.tables e below (s₁.setTop (mkF m 5 (own_Lv10 p1 p2 p3) [(.int (p1 &&& (255 : Int32)))])) _
    refine XS.i2c X0.here hx rfl (hb hby at_5) rfl ?_
    show Steps p.tables e below (s₁.setTop (mkF m 6 (own_Lv10 p1 p2 p3) [(.int ((p1 &&& (255 : Int32)).toUInt32.toUInt16.toUInt32.toInt32))])) _
    refine XS.istoreN X0.here hx rfl (hb hby at_6) rfl (l' := (own_Lv7 p1 p2 p3)) rfl ?_
    show Steps p.tables e below (s₁.setTop (mkF m 7 (own_Lv7 p1 p2 p3) [])) _
    refine XS.iloadN X0.here hx rfl (hb hby at_7) rfl ?_
    show Steps p.tables e below (s₁.setTop (mkF m 8 (own_Lv7 p1 p2 p3) [(.int p1)])) _
    refine XS.bipush X0.here hx rfl (hb hby at_8) ?_
    show Steps p.tables e below (s₁.setTop (mkF m 10 (own_Lv7 p1 p2 p3) [(.int (8 : Int32)), (.int p1)])) _
    refine XS.iushr X0.here hx rfl (hb hby at_10) rfl ?_
    show Steps p.tables e below (s₁.setTop (mkF m 11 (own_Lv7 p1 p2 p3) [(.int ((p1.toUInt32 >>> ((8 : Int32) &&& 31).toUInt32).toInt32))])) _
    refine XS.sipush X0.here hx rfl (hb hby at_11) ?_
    show Steps p.tables e below (s₁.setTop (mkF m 14 (own_Lv7 p1 p2 p3) [(.int (255 : Int32)), (.int ((p1.toUInt32 >>> ((8 : Int32) &&& 31).toUInt32).toInt32))])) _
    refine XS.iand X0.here hx rfl (hb hby at_14) rfl ?_
    show Steps p.tables e below (s₁.setTop (mkF m 15 (own_Lv7 p1 p2 p3) [(.int (((p1.toUInt32 >>> ((8 : Int32) &&& 31).toUInt32).toInt32) &&& (255 : Int32)))])) _
    refine XS.i2c X0.here hx rfl (hb hby at_15) rfl ?_
    show Steps p.tables e below (s₁.setTop (mkF m 16 (own_Lv7 p1 p2 p3) [(.int ((((p1.toUInt32 >>> ((8 : Int32) &&& 31).toUInt32).toInt32) &&& (255 : Int32)).toUInt32.toUInt16.toUInt32.toInt32))])) _
    refine XS.istore X0.here hx rfl (hb hby at_16) rfl (l' := (own_Lv11 p1 p2 p3)) rfl ?_
    show Steps p.tables e below (s₁.setTop (mkF m 18 (own_Lv11 p1 p2 p3) [])) _
    refine XS.iloadN X0.here hx rfl (hb hby at_18) rfl ?_
    show Steps p.tables e below (s₁.setTop (mkF m 19 (own_Lv11 p1 p2 p3) [(.int p2)])) _
    refine XS.sipush X0.here hx rfl (hb hby at_19) ?_
    show Steps p.tables e below (s₁.setTop (mkF m 22 (own_Lv11 p1 p2 p3) [(.int (255 : Int32)), (.int p2)])) _
    refine XS.iand X0.here hx rfl (hb hby at_22) rfl ?_
    show Steps p.tables e below (s₁.setTop (mkF m 23 (own_Lv11 p1 p2 p3) [(.int (p2 &&& (255 : Int32)))])) _
    refine XS.i2c X0.here hx rfl (hb hby at_23) rfl ?_
    show Steps p.tables e below (s₁.setTop (mkF m 24 (own_Lv11 p1 p2 p3) [(.int ((p2 &&& (255 : Int32)).toUInt32.toUInt16.toUInt32.toInt32))])) _
    refine XS.istore X0.here hx rfl (hb hby at_24) rfl (l' := (own_Lv5 p1 p2 p3)) rfl ?_
    show Steps p.tables e below (s₁.setTop (mkF m 26 (own_Lv5 p1 p2 p3) [])) _
    refine XS.iloadN X0.here hx rfl (hb hby at_26) rfl ?_
    show Steps p.tables e below (s₁.setTop (mkF m 27 (own_Lv5 p1 p2 p3) [(.int p2)])) _
    refine XS.bipush X0.here hx rfl (hb hby at_27) ?_
    show Steps p.tables e below (s₁.setTop (mkF m 29 (own_Lv5 p1 p2 p3) [(.int (8 : Int32)), (.int p2)])) _
    refine XS.iushr X0.here hx rfl (hb hby at_29) rfl ?_
    show Steps p.tables e below (s₁.setTop (mkF m 30 (own_Lv5 p1 p2 p3) [(.int ((p2.toUInt32 >>> ((8 : Int32) &&& 31).toUInt32).toInt32))])) _
    refine XS.iconst X0.here hx rfl (hb hby at_30) ?_
    show Steps p.tables e below (s₁.setTop (mkF m 31 (own_Lv5 p1 p2 p3) [(.int (1 : Int32)), (.int ((p2.toUInt32 >>> ((8 : Int32) &&& 31).toUInt32).toInt32))])) _
    refine XS.iand X0.here hx rfl (hb hby at_31) rfl ?_
    show Steps p.tables e below (s₁.setTop (mkF m 32 (own_Lv5 p1 p2 p3) [(.int (((p2.toUInt32 >>> ((8 : Int32) &&& 31).toUInt32).toInt32) &&& (1 : Int32)))])) _
    refine XS.ifNo X0.here hx rfl (hb hby at_32) rfl ((if0 _ _).trans (feq hc32).1) ?_
    show Steps p.tables e below (s₁.setTop (mkF m 35 (own_Lv5 p1 p2 p3) [])) _
    refine XS.iconst X0.here hx rfl (hb hby at_35) ?_
    show Steps p.tables e below (s₁.setTop (mkF m 36 (own_Lv5 p1 p2 p3) [(.int (1 : Int32))])) _
    refine XS.goto X0.here hx rfl (pc0 := 36) (pc' := 40) rfl (hb hby at_36) (by decide) (by decide) ?_
    show Steps p.tables e below (s₁.setTop (mkF m 40 (own_Lv5 p1 p2 p3) [(.int (1 : Int32))])) _
    refine XS.istore X0.here hx rfl (hb hby at_40) rfl (l' := (own_Lv12 p1 p2 p3)) rfl ?_
    show Steps p.tables e below (s₁.setTop (mkF m 42 (own_Lv12 p1 p2 p3) [])) _
    refine XS.iloadN X0.here hx rfl (hb hby at_42) rfl ?_
    show Steps p.tables e below (s₁.setTop (mkF m 43 (own_Lv12 p1 p2 p3) [(.int p3)])) _
    refine XS.sipush X0.here hx rfl (hb hby at_43) ?_
    show Steps p.tables e below (s₁.setTop (mkF m 46 (own_Lv12 p1 p2 p3) [(.int (255 : Int32)), (.int p3)])) _
    refine XS.iand X0.here hx rfl (hb hby at_46) rfl ?_
    show Steps p.tables e below (s₁.setTop (mkF m 47 (own_Lv12 p1 p2 p3) [(.int (p3 &&& (255 : Int32)))])) _
    refine XS.i2c X0.here hx rfl (hb hby at_47) rfl ?_
    show Steps p.tables e below (s₁.setTop (mkF m 48 (own_Lv12 p1 p2 p3) [(.int ((p3 &&& (255 : Int32)).toUInt32.toUInt16.toUInt32.toInt32))])) _
    refine XS.istore X0.here hx rfl (hb hby at_48) rfl (l' := (own_Lv8 p1 p2 p3)) rfl ?_
    show Steps p.tables e below (s₁.setTop (mkF m 50 (own_Lv8 p1 p2 p3) [])) _
    refine XS.iloadN X0.here hx rfl (hb hby at_50) rfl ?_
    show Steps p.tables e below (s₁.setTop (mkF m 51 (own_Lv8 p1 p2 p3) [(.int p3)])) _
    refine XS.bipush X0.here hx rfl (hb hby at_51) ?_
    show Steps p.tables e below (s₁.setTop (mkF m 53 (own_Lv8 p1 p2 p3) [(.int (8 : Int32)), (.int p3)])) _
    refine XS.iushr X0.here hx rfl (hb hby at_53) rfl ?_
    show Steps p.tables e below (s₁.setTop (mkF m 54 (own_Lv8 p1 p2 p3) [(.int ((p3.toUInt32 >>> ((8 : Int32) &&& 31).toUInt32).toInt32))])) _
    refine XS.sipush X0.here hx rfl (hb hby at_54) ?_
    show Steps p.tables e below (s₁.setTop (mkF m 57 (own_Lv8 p1 p2 p3) [(.int (255 : Int32)), (.int ((p3.toUInt32 >>> ((8 : Int32) &&& 31).toUInt32).toInt32))])) _
    refine XS.iand X0.here hx rfl (hb hby at_57) rfl ?_
    show Steps p.tables e below (s₁.setTop (mkF m 58 (own_Lv8 p1 p2 p3) [(.int (((p3.toUInt32 >>> ((8 : Int32) &&& 31).toUInt32).toInt32) &&& (255 : Int32)))])) _
    refine XS.i2c X0.here hx rfl (hb hby at_58) rfl ?_
    show Steps p.tables e below (s₁.setTop (mkF m 59 (own_Lv8 p1 p2 p3) [(.int ((((p3.toUInt32 >>> ((8 : Int32) &&& 31).toUInt32).toInt32) &&& (255 : Int32)).toUInt32.toUInt16.toUInt32.toInt32))])) _
    refine XS.istore X0.here hx rfl (hb hby at_59) rfl (l' := (own_Lv1 p1 p2 p3)) rfl ?_
    show Steps p.tables e below (s₁.setTop (mkF m 61 (own_Lv1 p1 p2 p3) [])) _
    refine st4 _ ?_
    show Steps p.tables e below (T4.setTop (mkF m 64 (own_Lv1 p1 p2 p3) [(.ref b4)])) _
    refine XS.dup X4.here hx rfl (hb hby at_64) rfl rfl ?_
    show Steps p.tables e below (T4.setTop (mkF m 65 (own_Lv1 p1 p2 p3) [(.ref b4), (.ref b4)])) _
    refine XS.iconst X4.here hx rfl (hb hby at_65) ?_
    show Steps p.tables e below (T4.setTop (mkF m 66 (own_Lv1 p1 p2 p3) [(.int (2 : Int32)), (.ref b4), (.ref b4)])) _
    refine st5 _ ?_
    show Steps p.tables e below (T5.setTop (mkF m 68 (own_Lv1 p1 p2 p3) [(.ref b5), (.ref b4), (.ref b4)])) _
    refine XS.dup X5.here hx rfl (hb hby at_68) rfl rfl ?_
    show Steps p.tables e below (T5.setTop (mkF m 69 (own_Lv1 p1 p2 p3) [(.ref b5), (.ref b5), (.ref b4), (.ref b4)])) _
    refine XS.iconst X5.here hx rfl (hb hby at_69) ?_
    show Steps p.tables e below (T5.setTop (mkF m 70 (own_Lv1 p1 p2 p3) [(.int (0 : Int32)), (.ref b5), (.ref b5), (.ref b4), (.ref b4)])) _
    refine XS.iloadN X5.here hx rfl (hb hby at_70) rfl ?_
    show Steps p.tables e below (T5.setTop (mkF m 71 (own_Lv1 p1 p2 p3) [(.int ((p1 &&& (255 : Int32)).toUInt32.toUInt16.toUInt32.toInt32)), (.int (0 : Int32)), (.ref b5), (.ref b5), (.ref b4), (.ref b4)])) _
    refine st6 _ ?_
    show Steps p.tables e below (T6.setTop (mkF m 72 (own_Lv1 p1 p2 p3) [(.ref b5), (.ref b4), (.ref b4)])) _
    refine XS.dup X6.here hx rfl (hb hby at_72) rfl rfl ?_
    show Steps p.tables e below (T6.setTop (mkF m 73 (own_Lv1 p1 p2 p3) [(.ref b5), (.ref b5), (.ref b4), (.ref b4)])) _
    refine XS.iconst X6.here hx rfl (hb hby at_73) ?_
    show Steps p.tables e below (T6.setTop (mkF m 74 (own_Lv1 p1 p2 p3) [(.int (1 : Int32)), (.ref b5), (.ref b5), (.ref b4), (.ref b4)])) _
    refine XS.iload X6.here hx rfl (hb hby at_74) rfl ?_
    show Steps p.tables e below (T6.setTop (mkF m 76 (own_Lv1 p1 p2 p3) [(.int ((((p1.toUInt32 >>> ((8 : Int32) &&& 31).toUInt32).toInt32) &&& (255 : Int32)).toUInt32.toUInt16.toUInt32.toInt32)), (.int (1 : Int32)), (.ref b5), (.ref b5), (.ref b4), (.ref b4)])) _
    refine st7 _ ?_
    show Steps p.tables e below (T7.setTop (mkF m 77 (own_Lv1 p1 p2 p3) [(.ref b5), (.ref b4), (.ref b4)])) _
    refine st8.trans ?_
    show Steps p.tables e below (T8.setTop (mkF m 80 (own_Lv1 p1 p2 p3) [(.ref b4)])) _
    refine XS.astore X8.here hx rfl (hb hby at_80) rfl rfl (l' := (own_Lv3 p1 p2 p3 b4)) rfl ?_
    show Steps p.tables e below (T8.setTop (mkF m 82 (own_Lv3 p1 p2 p3 b4) [])) _
    refine XS.iload X8.here hx rfl (hb hby at_82) rfl ?_
    show Steps p.tables e below (T8.setTop (mkF m 84 (own_Lv3 p1 p2 p3 b4) [(.int (1 : Int32))])) _
    refine XS.ifNo X8.here hx rfl (hb hby at_84) rfl ((if0 _ _).trans (feq hc84).1) ?_
    show Steps p.tables e below (T8.setTop (mkF m 87 (own_Lv3 p1 p2 p3 b4) [])) _
    refine st9 _ ?_
    show Steps p.tables e below (T9.setTop (mkF m 90 (own_Lv3 p1 p2 p3 b4) [(.ref b9)])) _
    refine XS.dup X9.here hx rfl (hb hby at_90) rfl rfl ?_
    show Steps p.tables e below (T9.setTop (mkF m 91 (own_Lv3 p1 p2 p3 b4) [(.ref b9), (.ref b9)])) _
    refine XS.iconst X9.here hx rfl (hb hby at_91) ?_
    show Steps p.tables e below (T9.setTop (mkF m 92 (own_Lv3 p1 p2 p3 b4) [(.int (1 : Int32)), (.ref b9), (.ref b9)])) _
    refine st10 _ ?_
    show Steps p.tables e below (T10.setTop (mkF m 94 (own_Lv3 p1 p2 p3 b4) [(.ref b10), (.ref b9), (.ref b9)])) _
    refine XS.dup X10.here hx rfl (hb hby at_94) rfl rfl ?_
    show Steps p.tables e below (T10.setTop (mkF m 95 (own_Lv3 p1 p2 p3 b4) [(.ref b10), (.ref b10), (.ref b9), (.ref b9)])) _
    refine XS.iconst X10.here hx rfl (hb hby at_95) ?_
    show Steps p.tables e below (T10.setTop (mkF m 96 (own_Lv3 p1 p2 p3 b4) [(.int (0 : Int32)), (.ref b10), (.ref b10), (.ref b9), (.ref b9)])) _
    refine XS.iload X10.here hx rfl (hb hby at_96) rfl ?_
    show Steps p.tables e below (T10.setTop (mkF m 98 (own_Lv3 p1 p2 p3 b4) [(.int ((p2 &&& (255 : Int32)).toUInt32.toUInt16.toUInt32.toInt32)), (.int (0 : Int32)), (.ref b10), (.ref b10), (.ref b9), (.ref b9)])) _
    refine st11 _ ?_
    show Steps p.tables e below (T11.setTop (mkF m 99 (own_Lv3 p1 p2 p3 b4) [(.ref b10), (.ref b9), (.ref b9)])) _
    refine st12.trans ?_
    show Steps p.tables e below (T12.setTop (mkF m 102 (own_Lv3 p1 p2 p3 b4) [(.ref b9)])) _
    refine XS.goto X12.here hx rfl (pc0 := 102) (pc' := 115) rfl (hb hby at_102) (by decide) (by decide) ?_
    show Steps p.tables e below (T12.setTop (mkF m 115 (own_Lv3 p1 p2 p3 b4) [(.ref b9)])) _
    refine XS.astore X12.here hx rfl (hb hby at_115) rfl rfl (l' := (own_Lv2 p1 p2 p3 b4 b9)) rfl ?_
    show Steps p.tables e below (T12.setTop (mkF m 117 (own_Lv2 p1 p2 p3 b4 b9) [])) _
    refine st13 _ ?_
    show Steps p.tables e below (T13.setTop (mkF m 120 (own_Lv2 p1 p2 p3 b4 b9) [(.ref b13)])) _
    refine XS.dup X13.here hx rfl (hb hby at_120) rfl rfl ?_
    show Steps p.tables e below (T13.setTop (mkF m 121 (own_Lv2 p1 p2 p3 b4 b9) [(.ref b13), (.ref b13)])) _
    refine XS.iconst X13.here hx rfl (hb hby at_121) ?_
    show Steps p.tables e below (T13.setTop (mkF m 122 (own_Lv2 p1 p2 p3 b4 b9) [(.int (2 : Int32)), (.ref b13), (.ref b13)])) _
    refine st14 _ ?_
    show Steps p.tables e below (T14.setTop (mkF m 124 (own_Lv2 p1 p2 p3 b4 b9) [(.ref b14), (.ref b13), (.ref b13)])) _
    refine XS.dup X14.here hx rfl (hb hby at_124) rfl rfl ?_
    show Steps p.tables e below (T14.setTop (mkF m 125 (own_Lv2 p1 p2 p3 b4 b9) [(.ref b14), (.ref b14), (.ref b13), (.ref b13)])) _
    refine XS.iconst X14.here hx rfl (hb hby at_125) ?_
    show Steps p.tables e below (T14.setTop (mkF m 126 (own_Lv2 p1 p2 p3 b4 b9) [(.int (0 : Int32)), (.ref b14), (.ref b14), (.ref b13), (.ref b13)])) _
    refine XS.iload X14.here hx rfl (hb hby at_126) rfl ?_
    show Steps p.tables e below (T14.setTop (mkF m 128 (own_Lv2 p1 p2 p3 b4 b9) [(.int ((p3 &&& (255 : Int32)).toUInt32.toUInt16.toUInt32.toInt32)), (.int (0 : Int32)), (.ref b14), (.ref b14), (.ref b13), (.ref b13)])) _
    refine st15 _ ?_
    show Steps p.tables e below (T15.setTop (mkF m 129 (own_Lv2 p1 p2 p3 b4 b9) [(.ref b14), (.ref b13), (.ref b13)])) _
    refine XS.dup X15.here hx rfl (hb hby at_129) rfl rfl ?_
    show Steps p.tables e below (T15.setTop (mkF m 130 (own_Lv2 p1 p2 p3 b4 b9) [(.ref b14), (.ref b14), (.ref b13), (.ref b13)])) _
    refine XS.iconst X15.here hx rfl (hb hby at_130) ?_
    show Steps p.tables e below (T15.setTop (mkF m 131 (own_Lv2 p1 p2 p3 b4 b9) [(.int (1 : Int32)), (.ref b14), (.ref b14), (.ref b13), (.ref b13)])) _
    refine XS.iload X15.here hx rfl (hb hby at_131) rfl ?_
    show Steps p.tables e below (T15.setTop (mkF m 133 (own_Lv2 p1 p2 p3 b4 b9) [(.int ((((p3.toUInt32 >>> ((8 : Int32) &&& 31).toUInt32).toInt32) &&& (255 : Int32)).toUInt32.toUInt16.toUInt32.toInt32)), (.int (1 : Int32)), (.ref b14), (.ref b14), (.ref b13), (.ref b13)])) _
    refine st16 _ ?_
    show Steps p.tables e below (T16.setTop (mkF m 134 (own_Lv2 p1 p2 p3 b4 b9) [(.ref b14), (.ref b13), (.ref b13)])) _
    refine st17.trans ?_
    show Steps p.tables e below (T17.setTop (mkF m 137 (own_Lv2 p1 p2 p3 b4 b9) [(.ref b13)])) _
    refine XS.astore X17.here hx rfl (hb hby at_137) rfl rfl (l' := (own_Lv0 p1 p2 p3 b13 b4 b9)) rfl ?_
    show Steps p.tables e below (T17.setTop (mkF m 139 (own_Lv0 p1 p2 p3 b13 b4 b9) [])) _
    refine XS.iload X17.here hx rfl (hb hby at_139) rfl ?_
    show Steps p.tables e below (T17.setTop (mkF m 141 (own_Lv0 p1 p2 p3 b13 b4 b9) [(.int (1 : Int32))])) _
    refine XS.ifNo X17.here hx rfl (hb hby at_141) rfl ((if0 _ _).trans (feq hc141).1) ?_
    show Steps p.tables e below (T17.setTop (mkF m 144 (own_Lv0 p1 p2 p3 b13 b4 b9) [])) _
    refine st18 _ ?_
    show Steps p.tables e below (T18.setTop (mkF m 147 (own_Lv0 p1 p2 p3 b13 b4 b9) [(.ref b18)])) _
    refine XS.dup X18.here hx rfl (hb hby at_147) rfl rfl ?_
    show Steps p.tables e below (T18.setTop (mkF m 148 (own_Lv0 p1 p2 p3 b13 b4 b9) [(.ref b18), (.ref b18)])) _
    refine XS.bipush X18.here hx rfl (hb hby at_148) ?_
    show Steps p.tables e below (T18.setTop (mkF m 150 (own_Lv0 p1 p2 p3 b13 b4 b9) [(.int (38 : Int32)), (.ref b18), (.ref b18)])) _
    refine st19 _ ?_
    show Steps p.tables e below (T19.setTop (mkF m 152 (own_Lv0 p1 p2 p3 b13 b4 b9) [(.ref b19), (.ref b18), (.ref b18)])) _
    refine XS.dup X19.here hx rfl (hb hby at_152) rfl rfl ?_
    show Steps p.tables e below (T19.setTop (mkF m 153 (own_Lv0 p1 p2 p3 b13 b4 b9) [(.ref b19), (.ref b19), (.ref b18), (.ref b18)])) _
    refine XS.iconst X19.here hx rfl (hb hby at_153) ?_
    show Steps p.tables e below (T19.setTop (mkF m 154 (own_Lv0 p1 p2 p3 b13 b4 b9) [(.int (0 : Int32)), (.ref b19), (.ref b19), (.ref b18), (.ref b18)])) _
    refine XS.bipush X19.here hx rfl (hb hby at_154) ?_
    show Steps p.tables e below (T19.setTop (mkF m 156 (own_Lv0 p1 p2 p3 b13 b4 b9) [(.int (116 : Int32)), (.int (0 : Int32)), (.ref b19), (.ref b19), (.ref b18), (.ref b18)])) _
    refine st20 _ ?_
    show Steps p.tables e below (T20.setTop (mkF m 157 (own_Lv0 p1 p2 p3 b13 b4 b9) [(.ref b19), (.ref b18), (.ref b18)])) _
    refine XS.dup X20.here hx rfl (hb hby at_157) rfl rfl ?_
    show Steps p.tables e below (T20.setTop (mkF m 158 (own_Lv0 p1 p2 p3 b13 b4 b9) [(.ref b19), (.ref b19), (.ref b18), (.ref b18)])) _
    refine XS.iconst X20.here hx rfl (hb hby at_158) ?_
    show Steps p.tables e below (T20.setTop (mkF m 159 (own_Lv0 p1 p2 p3 b13 b4 b9) [(.int (1 : Int32)), (.ref b19), (.ref b19), (.ref b18), (.ref b18)])) _
    refine XS.bipush X20.here hx rfl (hb hby at_159) ?_
    show Steps p.tables e below (T20.setTop (mkF m 161 (own_Lv0 p1 p2 p3 b13 b4 b9) [(.int (104 : Int32)), (.int (1 : Int32)), (.ref b19), (.ref b19), (.ref b18), (.ref b18)])) _
    refine st21 _ ?_
    show Steps p.tables e below (T21.setTop (mkF m 162 (own_Lv0 p1 p2 p3 b13 b4 b9) [(.ref b19), (.ref b18), (.ref b18)])) _
    refine XS.dup X21.here hx rfl (hb hby at_162) rfl rfl ?_
    show Steps p.tables e below (T21.setTop (mkF m 163 (own_Lv0 p1 p2 p3 b13 b4 b9) [(.ref b19), (.ref b19), (.ref b18), (.ref b18)])) _
    refine XS.iconst X21.here hx rfl (hb hby at_163) ?_
    show Steps p.tables e below (T21.setTop (mkF m 164 (own_Lv0 p1 p2 p3 b13 b4 b9) [(.int (2 : Int32)), (.ref b19), (.ref b19), (.ref b18), (.ref b18)])) _
    refine XS.bipush X21.here hx rfl (hb hby at_164) ?_
    show Steps p.tables e below (T21.setTop (mkF m 166 (own_Lv0 p1 p2 p3 b13 b4 b9) [(.int (101 : Int32)), (.int (2 : Int32)), (.ref b19), (.ref b19), (.ref b18), (.ref b18)])) _
    refine st22 _ ?_
    show Steps p.tables e below (T22.setTop (mkF m 167 (own_Lv0 p1 p2 p3 b13 b4 b9) [(.ref b19), (.ref b18), (.ref b18)])) _
    refine XS.dup X22.here hx rfl (hb hby at_167) rfl rfl ?_
    show Steps p.tables e below (T22.setTop (mkF m 168 (own_Lv0 p1 p2 p3 b13 b4 b9) [(.ref b19), (.ref b19), (.ref b18), (.ref b18)])) _
    refine XS.iconst X22.here hx rfl (hb hby at_168) ?_
    show Steps p.tables e below (T22.setTop (mkF m 169 (own_Lv0 p1 p2 p3 b13 b4 b9) [(.int (3 : Int32)), (.ref b19), (.ref b19), (.ref b18), (.ref b18)])) _
    refine XS.bipush X22.here hx rfl (hb hby at_169) ?_
    show Steps p.tables e below (T22.setTop (mkF m 171 (own_Lv0 p1 p2 p3 b13 b4 b9) [(.int (32 : Int32)), (.int (3 : Int32)), (.ref b19), (.ref b19), (.ref b18), (.ref b18)])) _
    refine st23 _ ?_
    show Steps p.tables e below (T23.setTop (mkF m 172 (own_Lv0 p1 p2 p3 b13 b4 b9) [(.ref b19), (.ref b18), (.ref b18)])) _
    refine XS.dup X23.here hx rfl (hb hby at_172) rfl rfl ?_
    show Steps p.tables e below (T23.setTop (mkF m 173 (own_Lv0 p1 p2 p3 b13 b4 b9) [(.ref b19), (.ref b19), (.ref b18), (.ref b18)])) _
    refine XS.iconst X23.here hx rfl (hb hby at_173) ?_
    show Steps p.tables e below (T23.setTop (mkF m 174 (own_Lv0 p1 p2 p3 b13 b4 b9) [(.int (4 : Int32)), (.ref b19), (.ref b19), (.ref b18), (.ref b18)])) _
    refine XS.bipush X23.here hx rfl (hb hby at_174) ?_
    show Steps p.tables e below (T23.setTop (mkF m 176 (own_Lv0 p1 p2 p3 b13 b4 b9) [(.int (115 : Int32)), (.int (4 : Int32)), (.ref b19), (.ref b19), (.ref b18), (.ref b18)])) _
    refine st24 _ ?_
    show Steps p.tables e below (T24.setTop (mkF m 177 (own_Lv0 p1 p2 p3 b13 b4 b9) [(.ref b19), (.ref b18), (.ref b18)])) _
    refine XS.dup X24.here hx rfl (hb hby at_177) rfl rfl ?_
    show Steps p.tables e below (T24.setTop (mkF m 178 (own_Lv0 p1 p2 p3 b13 b4 b9) [(.ref b19), (.ref b19), (.ref b18), (.ref b18)])) _
    refine XS.iconst X24.here hx rfl (hb hby at_178) ?_
    show Steps p.tables e below (T24.setTop (mkF m 179 (own_Lv0 p1 p2 p3 b13 b4 b9) [(.int (5 : Int32)), (.ref b19), (.ref b19), (.ref b18), (.ref b18)])) _
    refine XS.bipush X24.here hx rfl (hb hby at_179) ?_
    show Steps p.tables e below (T24.setTop (mkF m 181 (own_Lv0 p1 p2 p3 b13 b4 b9) [(.int (121 : Int32)), (.int (5 : Int32)), (.ref b19), (.ref b19), (.ref b18), (.ref b18)])) _
    refine st25 _ ?_
    show Steps p.tables e below (T25.setTop (mkF m 182 (own_Lv0 p1 p2 p3 b13 b4 b9) [(.ref b19), (.ref b18), (.ref b18)])) _
    refine XS.dup X25.here hx rfl (hb hby at_182) rfl rfl ?_
    show Steps p.tables e below (T25.setTop (mkF m 183 (own_Lv0 p1 p2 p3 b13 b4 b9) [(.ref b19), (.ref b19), (.ref b18), (.ref b18)])) _
    refine XS.bipush X25.here hx rfl (hb hby at_183) ?_
    show Steps p.tables e below (T25.setTop (mkF m 185 (own_Lv0 p1 p2 p3 b13 b4 b9) [(.int (6 : Int32)), (.ref b19), (.ref b19), (.ref b18), (.ref b18)])) _
    refine XS.bipush X25.here hx rfl (hb hby at_185) ?_
    show Steps p.tables e below (T25.setTop (mkF m 187 (own_Lv0 p1 p2 p3 b13 b4 b9) [(.int (115 : Int32)), (.int (6 : Int32)), (.ref b19), (.ref b19), (.ref b18), (.ref b18)])) _
    refine st26 _ ?_
    show Steps p.tables e below (T26.setTop (mkF m 188 (own_Lv0 p1 p2 p3 b13 b4 b9) [(.ref b19), (.ref b18), (.ref b18)])) _
    refine XS.dup X26.here hx rfl (hb hby at_188) rfl rfl ?_
    show Steps p.tables e below (T26.setTop (mkF m 189 (own_Lv0 p1 p2 p3 b13 b4 b9) [(.ref b19), (.ref b19), (.ref b18), (.ref b18)])) _
    refine XS.bipush X26.here hx rfl (hb hby at_189) ?_
    show Steps p.tables e below (T26.setTop (mkF m 191 (own_Lv0 p1 p2 p3 b13 b4 b9) [(.int (7 : Int32)), (.ref b19), (.ref b19), (.ref b18), (.ref b18)])) _
    refine XS.bipush X26.here hx rfl (hb hby at_191) ?_
    show Steps p.tables e below (T26.setTop (mkF m 193 (own_Lv0 p1 p2 p3 b13 b4 b9) [(.int (116 : Int32)), (.int (7 : Int32)), (.ref b19), (.ref b19), (.ref b18), (.ref b18)])) _
    refine st27 _ ?_
    show Steps p.tables e below (T27.setTop (mkF m 194 (own_Lv0 p1 p2 p3 b13 b4 b9) [(.ref b19), (.ref b18), (.ref b18)])) _
    refine XS.dup X27.here hx rfl (hb hby at_194) rfl rfl ?_
    show Steps p.tables e below (T27.setTop (mkF m 195 (own_Lv0 p1 p2 p3 b13 b4 b9) [(.ref b19), (.ref b19), (.ref b18), (.ref b18)])) _
    refine XS.bipush X27.here hx rfl (hb hby at_195) ?_
    show Steps p.tables e below (T27.setTop (mkF m 197 (own_Lv0 p1 p2 p3 b13 b4 b9) [(.int (8 : Int32)), (.ref b19), (.ref b19), (.ref b18), (.ref b18)])) _
    refine XS.bipush X27.here hx rfl (hb hby at_197) ?_
    show Steps p.tables e below (T27.setTop (mkF m 199 (own_Lv0 p1 p2 p3 b13 b4 b9) [(.int (101 : Int32)), (.int (8 : Int32)), (.ref b19), (.ref b19), (.ref b18), (.ref b18)])) _
    refine st28 _ ?_
    show Steps p.tables e below (T28.setTop (mkF m 200 (own_Lv0 p1 p2 p3 b13 b4 b9) [(.ref b19), (.ref b18), (.ref b18)])) _
    refine XS.dup X28.here hx rfl (hb hby at_200) rfl rfl ?_
    show Steps p.tables e below (T28.setTop (mkF m 201 (own_Lv0 p1 p2 p3 b13 b4 b9) [(.ref b19), (.ref b19), (.ref b18), (.ref b18)])) _
    refine XS.bipush X28.here hx rfl (hb hby at_201) ?_
    show Steps p.tables e below (T28.setTop (mkF m 203 (own_Lv0 p1 p2 p3 b13 b4 b9) [(.int (9 : Int32)), (.ref b19), (.ref b19), (.ref b18), (.ref b18)])) _
    refine XS.bipush X28.here hx rfl (hb hby at_203) ?_
    show Steps p.tables e below (T28.setTop (mkF m 205 (own_Lv0 p1 p2 p3 b13 b4 b9) [(.int (109 : Int32)), (.int (9 : Int32)), (.ref b19), (.ref b19), (.ref b18), (.ref b18)])) _
    refine st29 _ ?_
    show Steps p.tables e below (T29.setTop (mkF m 206 (own_Lv0 p1 p2 p3 b13 b4 b9) [(.ref b19), (.ref b18), (.ref b18)])) _
    refine XS.dup X29.here hx rfl (hb hby at_206) rfl rfl ?_
    show Steps p.tables e below (T29.setTop (mkF m 207 (own_Lv0 p1 p2 p3 b13 b4 b9) [(.ref b19), (.ref b19), (.ref b18), (.ref b18)])) _
    refine XS.bipush X29.here hx rfl (hb hby at_207) ?_
    show Steps p.tables e below (T29.setTop (mkF m 209 (own_Lv0 p1 p2 p3 b13 b4 b9) [(.int (10 : Int32)), (.ref b19), (.ref b19), (.ref b18), (.ref b18)])) _
    refine XS.bipush X29.here hx rfl (hb hby at_209) ?_
    show Steps p.tables e below (T29.setTop (mkF m 211 (own_Lv0 p1 p2 p3 b13 b4 b9) [(.int (32 : Int32)), (.int (10 : Int32)), (.ref b19), (.ref b19), (.ref b18), (.ref b18)])) _
    refine st30 _ ?_
    show Steps p.tables e below (T30.setTop (mkF m 212 (own_Lv0 p1 p2 p3 b13 b4 b9) [(.ref b19), (.ref b18), (.ref b18)])) _
    refine XS.dup X30.here hx rfl (hb hby at_212) rfl rfl ?_
    show Steps p.tables e below (T30.setTop (mkF m 213 (own_Lv0 p1 p2 p3 b13 b4 b9) [(.ref b19), (.ref b19), (.ref b18), (.ref b18)])) _
    refine XS.bipush X30.here hx rfl (hb hby at_213) ?_
    show Steps p.tables e below (T30.setTop (mkF m 215 (own_Lv0 p1 p2 p3 b13 b4 b9) [(.int (11 : Int32)), (.ref b19), (.ref b19), (.ref b18), (.ref b18)])) _
    refine XS.bipush X30.here hx rfl (hb hby at_215) ?_
    show Steps p.tables e below (T30.setTop (mkF m 217 (own_Lv0 p1 p2 p3 b13 b4 b9) [(.int (112 : Int32)), (.int (11 : Int32)), (.ref b19), (.ref b19), (.ref b18), (.ref b18)])) _
    refine st31 _ ?_
    show Steps p.tables e below (T31.setTop (mkF m 218 (own_Lv0 p1 p2 p3 b13 b4 b9) [(.ref b19), (.ref b18), (.ref b18)])) _
    refine XS.dup X31.here hx rfl (hb hby at_218) rfl rfl ?_
    show Steps p.tables e below (T31.setTop (mkF m 219 (own_Lv0 p1 p2 p3 b13 b4 b9) [(.ref b19), (.ref b19), (.ref b18), (.ref b18)])) _
    refine XS.bipush X31.here hx rfl (hb hby at_219) ?_
    show Steps p.tables e below (T31.setTop (mkF m 221 (own_Lv0 p1 p2 p3 b13 b4 b9) [(.int (12 : Int32)), (.ref b19), (.ref b19), (.ref b18), (.ref b18)])) _
    refine XS.bipush X31.here hx rfl (hb hby at_221) ?_
    show Steps p.tables e below (T31.setTop (mkF m 223 (own_Lv0 p1 p2 p3 b13 b4 b9) [(.int (114 : Int32)), (.int (12 : Int32)), (.ref b19), (.ref b19), (.ref b18), (.ref b18)])) _
    refine st32 _ ?_
    show Steps p.tables e below (T32.setTop (mkF m 224 (own_Lv0 p1 p2 p3 b13 b4 b9) [(.ref b19), (.ref b18), (.ref b18)])) _
    refine XS.dup X32.here hx rfl (hb hby at_224) rfl rfl ?_
    show Steps p.tables e below (T32.setTop (mkF m 225 (own_Lv0 p1 p2 p3 b13 b4 b9) [(.ref b19), (.ref b19), (.ref b18), (.ref b18)])) _
    refine XS.bipush X32.here hx rfl (hb hby at_225) ?_
    show Steps p.tables e below (T32.setTop (mkF m 227 (own_Lv0 p1 p2 p3 b13 b4 b9) [(.int (13 : Int32)), (.ref b19), (.ref b19), (.ref b18), (.ref b18)])) _
    refine XS.bipush X32.here hx rfl (hb hby at_227) ?_
    show Steps p.tables e below (T32.setTop (mkF m 229 (own_Lv0 p1 p2 p3 b13 b4 b9) [(.int (111 : Int32)), (.int (13 : Int32)), (.ref b19), (.ref b19), (.ref b18), (.ref b18)])) _
    refine st33 _ ?_
    show Steps p.tables e below (T33.setTop (mkF m 230 (own_Lv0 p1 p2 p3 b13 b4 b9) [(.ref b19), (.ref b18), (.ref b18)])) _
    refine XS.dup X33.here hx rfl (hb hby at_230) rfl rfl ?_
    show Steps p.tables e below (T33.setTop (mkF m 231 (own_Lv0 p1 p2 p3 b13 b4 b9) [(.ref b19), (.ref b19), (.ref b18), (.ref b18)])) _
    refine XS.bipush X33.here hx rfl (hb hby at_231) ?_
    show Steps p.tables e below (T33.setTop (mkF m 233 (own_Lv0 p1 p2 p3 b13 b4 b9) [(.int (14 : Int32)), (.ref b19), (.ref b19), (.ref b18), (.ref b18)])) _
    refine XS.bipush X33.here hx rfl (hb hby at_233) ?_
    show Steps p.tables e below (T33.setTop (mkF m 235 (own_Lv0 p1 p2 p3 b13 b4 b9) [(.int (112 : Int32)), (.int (14 : Int32)), (.ref b19), (.ref b19), (.ref b18), (.ref b18)])) _
    refine st34 _ ?_
    show Steps p.tables e below (T34.setTop (mkF m 236 (own_Lv0 p1 p2 p3 b13 b4 b9) [(.ref b19), (.ref b18), (.ref b18)])) _
    refine XS.dup X34.here hx rfl (hb hby at_236) rfl rfl ?_
    show Steps p.tables e below (T34.setTop (mkF m 237 (own_Lv0 p1 p2 p3 b13 b4 b9) [(.ref b19), (.ref b19), (.ref b18), (.ref b18)])) _
    refine XS.bipush X34.here hx rfl (hb hby at_237) ?_
    show Steps p.tables e below (T34.setTop (mkF m 239 (own_Lv0 p1 p2 p3 b13 b4 b9) [(.int (15 : Int32)), (.ref b19), (.ref b19), (.ref b18), (.ref b18)])) _
    refine XS.bipush X34.here hx rfl (hb hby at_239) ?_
    show Steps p.tables e below (T34.setTop (mkF m 241 (own_Lv0 p1 p2 p3 b13 b4 b9) [(.int (101 : Int32)), (.int (15 : Int32)), (.ref b19), (.ref b19), (.ref b18), (.ref b18)])) _
    refine st35 _ ?_
    show Steps p.tables e below (T35.setTop (mkF m 242 (own_Lv0 p1 p2 p3 b13 b4 b9) [(.ref b19), (.ref b18), (.ref b18)])) _
    refine XS.dup X35.here hx rfl (hb hby at_242) rfl rfl ?_
    show Steps p.tables e below (T35.setTop (mkF m 243 (own_Lv0 p1 p2 p3 b13 b4 b9) [(.ref b19), (.ref b19), (.ref b18), (.ref b18)])) _
    refine XS.bipush X35.here hx rfl (hb hby at_243) ?_
    show Steps p.tables e below (T35.setTop (mkF m 245 (own_Lv0 p1 p2 p3 b13 b4 b9) [(.int (16 : Int32)), (.ref b19), (.ref b19), (.ref b18), (.ref b18)])) _
    refine XS.bipush X35.here hx rfl (hb hby at_245) ?_
    show Steps p.tables e below (T35.setTop (mkF m 247 (own_Lv0 p1 p2 p3 b13 b4 b9) [(.int (114 : Int32)), (.int (16 : Int32)), (.ref b19), (.ref b19), (.ref b18), (.ref b18)])) _
    refine st36 _ ?_
    show Steps p.tables e below (T36.setTop (mkF m 248 (own_Lv0 p1 p2 p3 b13 b4 b9) [(.ref b19), (.ref b18), (.ref b18)])) _
    refine XS.dup X36.here hx rfl (hb hby at_248) rfl rfl ?_
    show Steps p.tables e below (T36.setTop (mkF m 249 (own_Lv0 p1 p2 p3 b13 b4 b9) [(.ref b19), (.ref b19), (.ref b18), (.ref b18)])) _
    refine XS.bipush X36.here hx rfl (hb hby at_249) ?_
    show Steps p.tables e below (T36.setTop (mkF m 251 (own_Lv0 p1 p2 p3 b13 b4 b9) [(.int (17 : Int32)), (.ref b19), (.ref b19), (.ref b18), (.ref b18)])) _
    refine XS.bipush X36.here hx rfl (hb hby at_251) ?_
    show Steps p.tables e below (T36.setTop (mkF m 253 (own_Lv0 p1 p2 p3 b13 b4 b9) [(.int (116 : Int32)), (.int (17 : Int32)), (.ref b19), (.ref b19), (.ref b18), (.ref b18)])) _
    refine st37 _ ?_
    show Steps p.tables e below (T37.setTop (mkF m 254 (own_Lv0 p1 p2 p3 b13 b4 b9) [(.ref b19), (.ref b18), (.ref b18)])) _
    refine XS.dup X37.here hx rfl (hb hby at_254) rfl rfl ?_
    show Steps p.tables e below (T37.setTop (mkF m 255 (own_Lv0 p1 p2 p3 b13 b4 b9) [(.ref b19), (.ref b19), (.ref b18), (.ref b18)])) _
    refine XS.bipush X37.here hx rfl (hb hby at_255) ?_
    show Steps p.tables e below (T37.setTop (mkF m 257 (own_Lv0 p1 p2 p3 b13 b4 b9) [(.int (18 : Int32)), (.ref b19), (.ref b19), (.ref b18), (.ref b18)])) _
    refine XS.bipush X37.here hx rfl (hb hby at_257) ?_
    show Steps p.tables e below (T37.setTop (mkF m 259 (own_Lv0 p1 p2 p3 b13 b4 b9) [(.int (121 : Int32)), (.int (18 : Int32)), (.ref b19), (.ref b19), (.ref b18), (.ref b18)])) _
    refine st38 _ ?_
    show Steps p.tables e below (T38.setTop (mkF m 260 (own_Lv0 p1 p2 p3 b13 b4 b9) [(.ref b19), (.ref b18), (.ref b18)])) _
    refine XS.dup X38.here hx rfl (hb hby at_260) rfl rfl ?_
    show Steps p.tables e below (T38.setTop (mkF m 261 (own_Lv0 p1 p2 p3 b13 b4 b9) [(.ref b19), (.ref b19), (.ref b18), (.ref b18)])) _
    refine XS.bipush X38.here hx rfl (hb hby at_261) ?_
    show Steps p.tables e below (T38.setTop (mkF m 263 (own_Lv0 p1 p2 p3 b13 b4 b9) [(.int (19 : Int32)), (.ref b19), (.ref b19), (.ref b18), (.ref b18)])) _
    refine XS.bipush X38.here hx rfl (hb hby at_263) ?_
    show Steps p.tables e below (T38.setTop (mkF m 265 (own_Lv0 p1 p2 p3 b13 b4 b9) [(.int (32 : Int32)), (.int (19 : Int32)), (.ref b19), (.ref b19), (.ref b18), (.ref b18)])) _
    refine st39 _ ?_
    show Steps p.tables e below (T39.setTop (mkF m 266 (own_Lv0 p1 p2 p3 b13 b4 b9) [(.ref b19), (.ref b18), (.ref b18)])) _
    refine XS.dup X39.here hx rfl (hb hby at_266) rfl rfl ?_
    show Steps p.tables e below (T39.setTop (mkF m 267 (own_Lv0 p1 p2 p3 b13 b4 b9) [(.ref b19), (.ref b19), (.ref b18), (.ref b18)])) _
    refine XS.bipush X39.here hx rfl (hb hby at_267) ?_
    show Steps p.tables e below (T39.setTop (mkF m 269 (own_Lv0 p1 p2 p3 b13 b4 b9) [(.int (20 : Int32)), (.ref b19), (.ref b19), (.ref b18), (.ref b18)])) _
    refine XS.iloadN X39.here hx rfl (hb hby at_269) rfl ?_
    show Steps p.tables e below (T39.setTop (mkF m 270 (own_Lv0 p1 p2 p3 b13 b4 b9) [(.int ((p1 &&& (255 : Int32)).toUInt32.toUInt16.toUInt32.toInt32)), (.int (20 : Int32)), (.ref b19), (.ref b19), (.ref b18), (.ref b18)])) _
    refine st40 _ ?_
    show Steps p.tables e below (T40.setTop (mkF m 271 (own_Lv0 p1 p2 p3 b13 b4 b9) [(.ref b19), (.ref b18), (.ref b18)])) _
    refine XS.dup X40.here hx rfl (hb hby at_271) rfl rfl ?_
    show Steps p.tables e below (T40.setTop (mkF m 272 (own_Lv0 p1 p2 p3 b13 b4 b9) [(.ref b19), (.ref b19), (.ref b18), (.ref b18)])) _
    refine XS.bipush X40.here hx rfl (hb hby at_272) ?_
    show Steps p.tables e below (T40.setTop (mkF m 274 (own_Lv0 p1 p2 p3 b13 b4 b9) [(.int (21 : Int32)), (.ref b19), (.ref b19), (.ref b18), (.ref b18)])) _
    refine XS.iload X40.here hx rfl (hb hby at_274) rfl ?_
    show Steps p.tables e below (T40.setTop (mkF m 276 (own_Lv0 p1 p2 p3 b13 b4 b9) [(.int ((((p1.toUInt32 >>> ((8 : Int32) &&& 31).toUInt32).toInt32) &&& (255 : Int32)).toUInt32.toUInt16.toUInt32.toInt32)), (.int (21 : Int32)), (.ref b19), (.ref b19), (.ref b18), (.ref b18)])) _
    refine st41 _ ?_
    show Steps p.tables e below (T41.setTop (mkF m 277 (own_Lv0 p1 p2 p3 b13 b4 b9) [(.ref b19), (.ref b18), (.ref b18)])) _
    refine XS.dup X41.here hx rfl (hb hby at_277) rfl rfl ?_
    show Steps p.tables e below (T41.setTop (mkF m 278 (own_Lv0 p1 p2 p3 b13 b4 b9) [(.ref b19), (.ref b19), (.ref b18), (.ref b18)])) _
    refine XS.bipush X41.here hx rfl (hb hby at_278) ?_
    show Steps p.tables e below (T41.setTop (mkF m 280 (own_Lv0 p1 p2 p3 b13 b4 b9) [(.int (22 : Int32)), (.ref b19), (.ref b19), (.ref b18), (.ref b18)])) _
    refine XS.bipush X41.here hx rfl (hb hby at_280) ?_
    show Steps p.tables e below (T41.setTop (mkF m 282 (own_Lv0 p1 p2 p3 b13 b4 b9) [(.int (32 : Int32)), (.int (22 : Int32)), (.ref b19), (.ref b19), (.ref b18), (.ref b18)])) _
    refine st42 _ ?_
    show Steps p.tables e below (T42.setTop (mkF m 283 (own_Lv0 p1 p2 p3 b13 b4 b9) [(.ref b19), (.ref b18), (.ref b18)])) _
    refine XS.dup X42.here hx rfl (hb hby at_283) rfl rfl ?_
    show Steps p.tables e below (T42.setTop (mkF m 284 (own_Lv0 p1 p2 p3 b13 b4 b9) [(.ref b19), (.ref b19), (.ref b18), (.ref b18)])) _
    refine XS.bipush X42.here hx rfl (hb hby at_284) ?_
    show Steps p.tables e below (T42.setTop (mkF m 286 (own_Lv0 p1 p2 p3 b13 b4 b9) [(.int (23 : Int32)), (.ref b19), (.ref b19), (.ref b18), (.ref b18)])) _
    refine XS.bipush X42.here hx rfl (hb hby at_286) ?_
    show Steps p.tables e below (T42.setTop (mkF m 288 (own_Lv0 p1 p2 p3 b13 b4 b9) [(.int (105 : Int32)), (.int (23 : Int32)), (.ref b19), (.ref b19), (.ref b18), (.ref b18)])) _
    refine st43 _ ?_
    show Steps p.tables e below (T43.setTop (mkF m 289 (own_Lv0 p1 p2 p3 b13 b4 b9) [(.ref b19), (.ref b18), (.ref b18)])) _
    refine XS.dup X43.here hx rfl (hb hby at_289) rfl rfl ?_
    show Steps p.tables e below (T43.setTop (mkF m 290 (own_Lv0 p1 p2 p3 b13 b4 b9) [(.ref b19), (.ref b19), (.ref b18), (.ref b18)])) _
    refine XS.bipush X43.here hx rfl (hb hby at_290) ?_
    show Steps p.tables e below (T43.setTop (mkF m 292 (own_Lv0 p1 p2 p3 b13 b4 b9) [(.int (24 : Int32)), (.ref b19), (.ref b19), (.ref b18), (.ref b18)])) _
    refine XS.bipush X43.here hx rfl (hb hby at_292) ?_
    show Steps p.tables e below (T43.setTop (mkF m 294 (own_Lv0 p1 p2 p3 b13 b4 b9) [(.int (115 : Int32)), (.int (24 : Int32)), (.ref b19), (.ref b19), (.ref b18), (.ref b18)])) _
    refine st44 _ ?_
    show Steps p.tables e below (T44.setTop (mkF m 295 (own_Lv0 p1 p2 p3 b13 b4 b9) [(.ref b19), (.ref b18), (.ref b18)])) _
    refine XS.dup X44.here hx rfl (hb hby at_295) rfl rfl ?_
    show Steps p.tables e below (T44.setTop (mkF m 296 (own_Lv0 p1 p2 p3 b13 b4 b9) [(.ref b19), (.ref b19), (.ref b18), (.ref b18)])) _
    refine XS.bipush X44.here hx rfl (hb hby at_296) ?_
    show Steps p.tables e below (T44.setTop (mkF m 298 (own_Lv0 p1 p2 p3 b13 b4 b9) [(.int (25 : Int32)), (.ref b19), (.ref b19), (.ref b18), (.ref b18)])) _
    refine XS.bipush X44.here hx rfl (hb hby at_298) ?_
    show Steps p.tables e below (T44.setTop (mkF m 300 (own_Lv0 p1 p2 p3 b13 b4 b9) [(.int (32 : Int32)), (.int (25 : Int32)), (.ref b19), (.ref b19), (.ref b18), (.ref b18)])) _
    refine st45 _ ?_
    show Steps p.tables e below (T45.setTop (mkF m 301 (own_Lv0 p1 p2 p3 b13 b4 b9) [(.ref b19), (.ref b18), (.ref b18)])) _
    refine XS.dup X45.here hx rfl (hb hby at_301) rfl rfl ?_
    show Steps p.tables e below (T45.setTop (mkF m 302 (own_Lv0 p1 p2 p3 b13 b4 b9) [(.ref b19), (.ref b19), (.ref b18), (.ref b18)])) _
    refine XS.bipush X45.here hx rfl (hb hby at_302) ?_
    show Steps p.tables e below (T45.setTop (mkF m 304 (own_Lv0 p1 p2 p3 b13 b4 b9) [(.int (26 : Int32)), (.ref b19), (.ref b19), (.ref b18), (.ref b18)])) _
    refine XS.bipush X45.here hx rfl (hb hby at_304) ?_
    show Steps p.tables e below (T45.setTop (mkF m 306 (own_Lv0 p1 p2 p3 b13 b4 b9) [(.int (34 : Int32)), (.int (26 : Int32)), (.ref b19), (.ref b19), (.ref b18), (.ref b18)])) _
    refine st46 _ ?_
    show Steps p.tables e below (T46.setTop (mkF m 307 (own_Lv0 p1 p2 p3 b13 b4 b9) [(.ref b19), (.ref b18), (.ref b18)])) _
    refine XS.dup X46.here hx rfl (hb hby at_307) rfl rfl ?_
    show Steps p.tables e below (T46.setTop (mkF m 308 (own_Lv0 p1 p2 p3 b13 b4 b9) [(.ref b19), (.ref b19), (.ref b18), (.ref b18)])) _
    refine XS.bipush X46.here hx rfl (hb hby at_308) ?_
    show Steps p.tables e below (T46.setTop (mkF m 310 (own_Lv0 p1 p2 p3 b13 b4 b9) [(.int (27 : Int32)), (.ref b19), (.ref b19), (.ref b18), (.ref b18)])) _
    refine XS.iload X46.here hx rfl (hb hby at_310) rfl ?_
    show Steps p.tables e below (T46.setTop (mkF m 312 (own_Lv0 p1 p2 p3 b13 b4 b9) [(.int ((p2 &&& (255 : Int32)).toUInt32.toUInt16.toUInt32.toInt32)), (.int (27 : Int32)), (.ref b19), (.ref b19), (.ref b18), (.ref b18)])) _
    refine st47 _ ?_
    show Steps p.tables e below (T47.setTop (mkF m 313 (own_Lv0 p1 p2 p3 b13 b4 b9) [(.ref b19), (.ref b18), (.ref b18)])) _
    refine XS.dup X47.here hx rfl (hb hby at_313) rfl rfl ?_
    show Steps p.tables e below (T47.setTop (mkF m 314 (own_Lv0 p1 p2 p3 b13 b4 b9) [(.ref b19), (.ref b19), (.ref b18), (.ref b18)])) _
    refine XS.bipush X47.here hx rfl (hb hby at_314) ?_
    show Steps p.tables e below (T47.setTop (mkF m 316 (own_Lv0 p1 p2 p3 b13 b4 b9) [(.int (28 : Int32)), (.ref b19), (.ref b19), (.ref b18), (.ref b18)])) _
    refine XS.bipush X47.here hx rfl (hb hby at_316) ?_
    show Steps p.tables e below (T47.setTop (mkF m 318 (own_Lv0 p1 p2 p3 b13 b4 b9) [(.int (34 : Int32)), (.int (28 : Int32)), (.ref b19), (.ref b19), (.ref b18), (.ref b18)])) _
    refine st48 _ ?_
    show Steps p.tables e below (T48.setTop (mkF m 319 (own_Lv0 p1 p2 p3 b13 b4 b9) [(.ref b19), (.ref b18), (.ref b18)])) _
    refine XS.dup X48.here hx rfl (hb hby at_319) rfl rfl ?_
    show Steps p.tables e below (T48.setTop (mkF m 320 (own_Lv0 p1 p2 p3 b13 b4 b9) [(.ref b19), (.ref b19), (.ref b18), (.ref b18)])) _
    refine XS.bipush X48.here hx rfl (hb hby at_320) ?_
    show Steps p.tables e below (T48.setTop (mkF m 322 (own_Lv0 p1 p2 p3 b13 b4 b9) [(.int (29 : Int32)), (.ref b19), (.ref b19), (.ref b18), (.ref b18)])) _
    refine XS.bipush X48.here hx rfl (hb hby at_322) ?_
    show Steps p.tables e below (T48.setTop (mkF m 324 (own_Lv0 p1 p2 p3 b13 b4 b9) [(.int (59 : Int32)), (.int (29 : Int32)), (.ref b19), (.ref b19), (.ref b18), (.ref b18)])) _
    refine st49 _ ?_
    show Steps p.tables e below (T49.setTop (mkF m 325 (own_Lv0 p1 p2 p3 b13 b4 b9) [(.ref b19), (.ref b18), (.ref b18)])) _
    refine XS.dup X49.here hx rfl (hb hby at_325) rfl rfl ?_
    show Steps p.tables e below (T49.setTop (mkF m 326 (own_Lv0 p1 p2 p3 b13 b4 b9) [(.ref b19), (.ref b19), (.ref b18), (.ref b18)])) _
    refine XS.bipush X49.here hx rfl (hb hby at_326) ?_
    show Steps p.tables e below (T49.setTop (mkF m 328 (own_Lv0 p1 p2 p3 b13 b4 b9) [(.int (30 : Int32)), (.ref b19), (.ref b19), (.ref b18), (.ref b18)])) _
    refine XS.bipush X49.here hx rfl (hb hby at_328) ?_
    show Steps p.tables e below (T49.setTop (mkF m 330 (own_Lv0 p1 p2 p3 b13 b4 b9) [(.int (32 : Int32)), (.int (30 : Int32)), (.ref b19), (.ref b19), (.ref b18), (.ref b18)])) _
    refine st50 _ ?_
    show Steps p.tables e below (T50.setTop (mkF m 331 (own_Lv0 p1 p2 p3 b13 b4 b9) [(.ref b19), (.ref b18), (.ref b18)])) _
    refine XS.dup X50.here hx rfl (hb hby at_331) rfl rfl ?_
    show Steps p.tables e below (T50.setTop (mkF m 332 (own_Lv0 p1 p2 p3 b13 b4 b9) [(.ref b19), (.ref b19), (.ref b18), (.ref b18)])) _
    refine XS.bipush X50.here hx rfl (hb hby at_332) ?_
    show Steps p.tables e below (T50.setTop (mkF m 334 (own_Lv0 p1 p2 p3 b13 b4 b9) [(.int (31 : Int32)), (.ref b19), (.ref b19), (.ref b18), (.ref b18)])) _
    refine XS.bipush X50.here hx rfl (hb hby at_334) ?_
    show Steps p.tables e below (T50.setTop (mkF m 336 (own_Lv0 p1 p2 p3 b13 b4 b9) [(.int (103 : Int32)), (.int (31 : Int32)), (.ref b19), (.ref b19), (.ref b18), (.ref b18)])) _
    refine st51 _ ?_
    show Steps p.tables e below (T51.setTop (mkF m 337 (own_Lv0 p1 p2 p3 b13 b4 b9) [(.ref b19), (.ref b18), (.ref b18)])) _
    refine XS.dup X51.here hx rfl (hb hby at_337) rfl rfl ?_
    show Steps p.tables e below (T51.setTop (mkF m 338 (own_Lv0 p1 p2 p3 b13 b4 b9) [(.ref b19), (.ref b19), (.ref b18), (.ref b18)])) _
    refine XS.bipush X51.here hx rfl (hb hby at_338) ?_
    show Steps p.tables e below (T51.setTop (mkF m 340 (own_Lv0 p1 p2 p3 b13 b4 b9) [(.int (32 : Int32)), (.ref b19), (.ref b19), (.ref b18), (.ref b18)])) _
    refine XS.bipush X51.here hx rfl (hb hby at_340) ?_
    show Steps p.tables e below (T51.setTop (mkF m 342 (own_Lv0 p1 p2 p3 b13 b4 b9) [(.int (105 : Int32)), (.int (32 : Int32)), (.ref b19), (.ref b19), (.ref b18), (.ref b18)])) _
    refine st52 _ ?_
    show Steps p.tables e below (T52.setTop (mkF m 343 (own_Lv0 p1 p2 p3 b13 b4 b9) [(.ref b19), (.ref b18), (.ref b18)])) _
    refine XS.dup X52.here hx rfl (hb hby at_343) rfl rfl ?_
    show Steps p.tables e below (T52.setTop (mkF m 344 (own_Lv0 p1 p2 p3 b13 b4 b9) [(.ref b19), (.ref b19), (.ref b18), (.ref b18)])) _
    refine XS.bipush X52.here hx rfl (hb hby at_344) ?_
    show Steps p.tables e below (T52.setTop (mkF m 346 (own_Lv0 p1 p2 p3 b13 b4 b9) [(.int (33 : Int32)), (.ref b19), (.ref b19), (.ref b18), (.ref b18)])) _
    refine XS.bipush X52.here hx rfl (hb hby at_346) ?_
    show Steps p.tables e below (T52.setTop (mkF m 348 (own_Lv0 p1 p2 p3 b13 b4 b9) [(.int (118 : Int32)), (.int (33 : Int32)), (.ref b19), (.ref b19), (.ref b18), (.ref b18)])) _
    refine st53 _ ?_
    show Steps p.tables e below (T53.setTop (mkF m 349 (own_Lv0 p1 p2 p3 b13 b4 b9) [(.ref b19), (.ref b18), (.ref b18)])) _
    refine XS.dup X53.here hx rfl (hb hby at_349) rfl rfl ?_
    show Steps p.tables e below (T53.setTop (mkF m 350 (own_Lv0 p1 p2 p3 b13 b4 b9) [(.ref b19), (.ref b19), (.ref b18), (.ref b18)])) _
    refine XS.bipush X53.here hx rfl (hb hby at_350) ?_
    show Steps p.tables e below (T53.setTop (mkF m 352 (own_Lv0 p1 p2 p3 b13 b4 b9) [(.int (34 : Int32)), (.ref b19), (.ref b19), (.ref b18), (.ref b18)])) _
    refine XS.bipush X53.here hx rfl (hb hby at_352) ?_
    show Steps p.tables e below (T53.setTop (mkF m 354 (own_Lv0 p1 p2 p3 b13 b4 b9) [(.int (101 : Int32)), (.int (34 : Int32)), (.ref b19), (.ref b19), (.ref b18), (.ref b18)])) _
    refine st54 _ ?_
    show Steps p.tables e below (T54.setTop (mkF m 355 (own_Lv0 p1 p2 p3 b13 b4 b9) [(.ref b19), (.ref b18), (.ref b18)])) _
    refine XS.dup X54.here hx rfl (hb hby at_355) rfl rfl ?_
    show Steps p.tables e below (T54.setTop (mkF m 356 (own_Lv0 p1 p2 p3 b13 b4 b9) [(.ref b19), (.ref b19), (.ref b18), (.ref b18)])) _
    refine XS.bipush X54.here hx rfl (hb hby at_356) ?_
    show Steps p.tables e below (T54.setTop (mkF m 358 (own_Lv0 p1 p2 p3 b13 b4 b9) [(.int (35 : Int32)), (.ref b19), (.ref b19), (.ref b18), (.ref b18)])) _
    refine XS.bipush X54.here hx rfl (hb hby at_358) ?_
    show Steps p.tables e below (T54.setTop (mkF m 360 (own_Lv0 p1 p2 p3 b13 b4 b9) [(.int (32 : Int32)), (.int (35 : Int32)), (.ref b19), (.ref b19), (.ref b18), (.ref b18)])) _
    refine st55 _ ?_
    show Steps p.tables e below (T55.setTop (mkF m 361 (own_Lv0 p1 p2 p3 b13 b4 b9) [(.ref b19), (.ref b18), (.ref b18)])) _
    refine XS.dup X55.here hx rfl (hb hby at_361) rfl rfl ?_
    show Steps p.tables e below (T55.setTop (mkF m 362 (own_Lv0 p1 p2 p3 b13 b4 b9) [(.ref b19), (.ref b19), (.ref b18), (.ref b18)])) _
    refine XS.bipush X55.here hx rfl (hb hby at_362) ?_
    show Steps p.tables e below (T55.setTop (mkF m 364 (own_Lv0 p1 p2 p3 b13 b4 b9) [(.int (36 : Int32)), (.ref b19), (.ref b19), (.ref b18), (.ref b18)])) _
    refine XS.iload X55.here hx rfl (hb hby at_364) rfl ?_
    show Steps p.tables e below (T55.setTop (mkF m 366 (own_Lv0 p1 p2 p3 b13 b4 b9) [(.int ((p3 &&& (255 : Int32)).toUInt32.toUInt16.toUInt32.toInt32)), (.int (36 : Int32)), (.ref b19), (.ref b19), (.ref b18), (.ref b18)])) _
    refine st56 _ ?_
    show Steps p.tables e below (T56.setTop (mkF m 367 (own_Lv0 p1 p2 p3 b13 b4 b9) [(.ref b19), (.ref b18), (.ref b18)])) _
    refine XS.dup X56.here hx rfl (hb hby at_367) rfl rfl ?_
    show Steps p.tables e below (T56.setTop (mkF m 368 (own_Lv0 p1 p2 p3 b13 b4 b9) [(.ref b19), (.ref b19), (.ref b18), (.ref b18)])) _
    refine XS.bipush X56.here hx rfl (hb hby at_368) ?_
    show Steps p.tables e below (T56.setTop (mkF m 370 (own_Lv0 p1 p2 p3 b13 b4 b9) [(.int (37 : Int32)), (.ref b19), (.ref b19), (.ref b18), (.ref b18)])) _
    refine XS.iload X56.here hx rfl (hb hby at_370) rfl ?_
    show Steps p.tables e below (T56.setTop (mkF m 372 (own_Lv0 p1 p2 p3 b13 b4 b9) [(.int ((((p3.toUInt32 >>> ((8 : Int32) &&& 31).toUInt32).toInt32) &&& (255 : Int32)).toUInt32.toUInt16.toUInt32.toInt32)), (.int (37 : Int32)), (.ref b19), (.ref b19), (.ref b18), (.ref b18)])) _
    refine st57 _ ?_
    show Steps p.tables e below (T57.setTop (mkF m 373 (own_Lv0 p1 p2 p3 b13 b4 b9) [(.ref b19), (.ref b18), (.ref b18)])) _
    refine st58.trans ?_
    show Steps p.tables e below (T58.setTop (mkF m 376 (own_Lv0 p1 p2 p3 b13 b4 b9) [(.ref b18)])) _
    refine XS.astore X58.here hx rfl (hb hby at_376) rfl rfl (l' := (own_Lv6 p1 p2 p3 b13 b18 b4 b9)) rfl ?_
    show Steps p.tables e below (T58.setTop (mkF m 378 (own_Lv6 p1 p2 p3 b13 b18 b4 b9) [])) _
    refine XS.goto X58.here hx rfl (pc0 := 378) (pc' := 609) rfl (hb hby at_378) (by decide) (by decide) ?_
    show Steps p.tables e below (T58.setTop (mkF m 609 (own_Lv6 p1 p2 p3 b13 b18 b4 b9) [])) _
    refine XS.aload X58.here hx rfl (hb hby at_609) rfl rfl ?_
    show Steps p.tables e below (T58.setTop (mkF m 611 (own_Lv6 p1 p2 p3 b13 b18 b4 b9) [(.ref b4)])) _
    refine XS.aload X58.here hx rfl (hb hby at_611) rfl rfl ?_
    show Steps p.tables e below (T58.setTop (mkF m 613 (own_Lv6 p1 p2 p3 b13 b18 b4 b9) [(.ref b9), (.ref b4)])) _
    refine XS.aload X58.here hx rfl (hb hby at_613) rfl rfl ?_
    show Steps p.tables e below (T58.setTop (mkF m 615 (own_Lv6 p1 p2 p3 b13 b18 b4 b9) [(.ref b13), (.ref b9), (.ref b4)])) _
    refine st59.trans ?_
    show Steps p.tables e below (T59.setTop (mkF m 618 (own_Lv6 p1 p2 p3 b13 b18 b4 b9) [(.ref rR)])) _
    refine XS.astore X59.here hx rfl (hb hby at_618) rfl rfl (l' := (own_Lv9 p1 p2 p3 b13 b18 b4 b9 rR)) rfl ?_
    show Steps p.tables e below (T59.setTop (mkF m 620 (own_Lv9 p1 p2 p3 b13 b18 b4 b9 rR) [])) _
    refine XS.aload X59.here hx rfl (hb hby at_620) rfl rfl ?_
    show Steps p.tables e below (T59.setTop (mkF m 622 (own_Lv9 p1 p2 p3 b13 b18 b4 b9 rR) [(.ref rR)])) _
    refine XS.ifnonnullYes X59.here hx rfl (pc0 := 622) (pc' := 627) rfl (hb hby at_622) rfl (by decide) (by decide) ?_
    show Steps p.tables e below (T59.setTop (mkF m 627 (own_Lv9 p1 p2 p3 b13 b18 b4 b9 rR) [])) _
    refine XS.aload X59.here hx rfl (hb hby at_627) rfl rfl ?_
    show Steps p.tables e below (T59.setTop (mkF m 629 (own_Lv9 p1 p2 p3 b13 b18 b4 b9 rR) [(.ref rR)])) _
    refine st60.trans ?_
    show Steps p.tables e below (T60.setTop (mkF m 632 (own_Lv9 p1 p2 p3 b13 b18 b4 b9 rR) [(.ref bm)])) _
    refine XS.astore X60.here hx rfl (hb hby at_632) rfl rfl (l' := (own_Lv4 p1 p2 p3 b13 b18 b4 b9 bm rR)) rfl ?_
    show Steps p.tables e below (T60.setTop (mkF m 634 (own_Lv4 p1 p2 p3 b13 b18 b4 b9 bm rR) [])) _
    refine XS.aload X60.here hx rfl (hb hby at_634) rfl rfl ?_
    show Steps p.tables e below (T60.setTop (mkF m 636 (own_Lv4 p1 p2 p3 b13 b18 b4 b9 bm rR) [(.ref bm)])) _
    refine XS.ifnullNo X60.here hx rfl (hb hby at_636) rfl ?_
    show Steps p.tables e below (T60.setTop (mkF m 639 (own_Lv4 p1 p2 p3 b13 b18 b4 b9 bm rR) [])) _
    refine XS.aload X60.here hx rfl (hb hby at_639) rfl rfl ?_
    show Steps p.tables e below (T60.setTop (mkF m 641 (own_Lv4 p1 p2 p3 b13 b18 b4 b9 bm rR) [(.ref bm)])) _
    refine XS.aload X60.here hx rfl (hb hby at_641) rfl rfl ?_
    show Steps p.tables e below (T60.setTop (mkF m 643 (own_Lv4 p1 p2 p3 b13 b18 b4 b9 bm rR) [(.ref b18), (.ref bm)])) _
    refine st61.trans ?_
    show Steps p.tables e below (T61.setTop (mkF m 646 (own_Lv4 p1 p2 p3 b13 b18 b4 b9 bm rR) [(.int (1 : Int32))])) _
    refine XS.ifNo X61.here hx rfl (hb hby at_646) rfl ((if0 _ _).trans (feq hc646).1) ?_
    show Steps p.tables e below (T61.setTop (mkF m 649 (own_Lv4 p1 p2 p3 b13 b18 b4 b9 bm rR) [])) _
    refine XS.aload X61.here hx rfl (hb hby at_649) rfl rfl ?_
    show Steps p.tables e below (T61.setTop (mkF m 651 (own_Lv4 p1 p2 p3 b13 b18 b4 b9 bm rR) [(.ref rR)])) _
    refine st62.trans ?_
    show Steps p.tables e below (T62.setTop (mkF m 654 (own_Lv4 p1 p2 p3 b13 b18 b4 b9 bm rR) [.null])) _
    refine XS.ifnonnullNo X62.here hx rfl (hb hby at_654) rfl ?_
    show Steps p.tables e below (T62.setTop (mkF m 657 (own_Lv4 p1 p2 p3 b13 b18 b4 b9 bm rR) [])) _
    refine XS.iconst X62.here hx rfl (hb hby at_657) ?_
    show Steps p.tables e below (T62.setTop (mkF m 658 (own_Lv4 p1 p2 p3 b13 b18 b4 b9 bm rR) [(.int (1 : Int32))])) _
    refine XS.goto X62.here hx rfl (pc0 := 658) (pc' := 662) rfl (hb hby at_658) (by decide) (by decide) ?_
    show Steps p.tables e below (T62.setTop (mkF m 662 (own_Lv4 p1 p2 p3 b13 b18 b4 b9 bm rR) [(.int (1 : Int32))])) _
    exact retN X62 hx (t := .boolean) Bd.returns (by simp) (hb hby at_662) hr
  · show own_Q1 h0 n0 _ T62.heap _
    exact ⟨rfl, N62⟩
  · show CHr Z consts_1 s.vm s.heap T62.vm T62.heap
    rw [hh]
    exact R62.trans (CHv.at X62 hZ59 (own_EW hw) R62.1)
abbrev own_csn (p1 p2 p3 : Int32) : List Int32 := [(116 : Int32), (104 : Int32), (101 : Int32), (32 : Int32), (115 : Int32), (121 : Int32), (115 : Int32), (116 : Int32), (101 : Int32), (109 : Int32), (32 : Int32), (112 : Int32), (114 : Int32), (111 : Int32), (112 : Int32), (101 : Int32), (114 : Int32), (116 : Int32), (121 : Int32), (32 : Int32), ((p1 &&& (255 : Int32)).toUInt32.toUInt16.toUInt32.toInt32), ((((p1.toUInt32 >>> ((8 : Int32) &&& 31).toUInt32).toInt32) &&& (255 : Int32)).toUInt32.toUInt16.toUInt32.toInt32), (32 : Int32), (105 : Int32), (115 : Int32), (32 : Int32), (34 : Int32), (34 : Int32), (59 : Int32), (32 : Int32), (103 : Int32), (105 : Int32), (118 : Int32), (101 : Int32), (32 : Int32), ((p3 &&& (255 : Int32)).toUInt32.toUInt16.toUInt32.toInt32), ((((p3.toUInt32 >>> ((8 : Int32) &&& 31).toUInt32).toInt32) &&& (255 : Int32)).toUInt32.toUInt16.toUInt32.toInt32)]
abbrev own_Ln0 (p1 p2 p3 : Int32) (b12 b4 b9 : Addr) : Array Slot := #[.val (.int p1), .val (.int p2), .val (.int p3), .val (.int ((p1 &&& (255 : Int32)).toUInt32.toUInt16.toUInt32.toInt32)), .val (.int ((((p1.toUInt32 >>> ((8 : Int32) &&& 31).toUInt32).toInt32) &&& (255 : Int32)).toUInt32.toUInt16.toUInt32.toInt32)), .val (.int ((p2 &&& (255 : Int32)).toUInt32.toUInt16.toUInt32.toInt32)), .val (.int (0 : Int32)), .val (.int ((p3 &&& (255 : Int32)).toUInt32.toUInt16.toUInt32.toInt32)), .val (.int ((((p3.toUInt32 >>> ((8 : Int32) &&& 31).toUInt32).toInt32) &&& (255 : Int32)).toUInt32.toUInt16.toUInt32.toInt32)), .val (.ref b4), .val (.ref b9), .val (.ref b12), .unset, .unset, .unset]
abbrev own_Ln1 (p1 p2 p3 : Int32) : Array Slot := #[.val (.int p1), .val (.int p2), .val (.int p3), .val (.int ((p1 &&& (255 : Int32)).toUInt32.toUInt16.toUInt32.toInt32)), .val (.int ((((p1.toUInt32 >>> ((8 : Int32) &&& 31).toUInt32).toInt32) &&& (255 : Int32)).toUInt32.toUInt16.toUInt32.toInt32)), .val (.int ((p2 &&& (255 : Int32)).toUInt32.toUInt16.toUInt32.toInt32)), .val (.int (0 : Int32)), .val (.int ((p3 &&& (255 : Int32)).toUInt32.toUInt16.toUInt32.toInt32)), .val (.int ((((p3.toUInt32 >>> ((8 : Int32) &&& 31).toUInt32).toInt32) &&& (255 : Int32)).toUInt32.toUInt16.toUInt32.toInt32)), .unset, .unset, .unset, .unset, .unset, .unset]
abbrev own_Ln2 (p1 p2 p3 : Int32) (b4 b9 : Addr) : Array Slot := #[.val (.int p1), .val (.int p2), .val (.int p3), .val (.int ((p1 &&& (255 : Int32)).toUInt32.toUInt16.toUInt32.toInt32)), .val (.int ((((p1.toUInt32 >>> ((8 : Int32) &&& 31).toUInt32).toInt32) &&& (255 : Int32)).toUInt32.toUInt16.toUInt32.toInt32)), .val (.int ((p2 &&& (255 : Int32)).toUInt32.toUInt16.toUInt32.toInt32)), .val (.int (0 : Int32)), .val (.int ((p3 &&& (255 : Int32)).toUInt32.toUInt16.toUInt32.toInt32)), .val (.int ((((p3.toUInt32 >>> ((8 : Int32) &&& 31).toUInt32).toInt32) &&& (255 : Int32)).toUInt32.toUInt16.toUInt32.toInt32)), .val (.ref b4), .val (.ref b9), .unset, .unset, .unset, .unset]
abbrev own_Ln3 (p1 p2 p3 : Int32) (b12 b17 b4 b9 bm rR : Addr) : Array Slot := #[.val (.int p1), .val (.int p2), .val (.int p3), .val (.int ((p1 &&& (255 : Int32)).toUInt32.toUInt16.toUInt32.toInt32)), .val (.int ((((p1.toUInt32 >>> ((8 : Int32) &&& 31).toUInt32).toInt32) &&& (255 : Int32)).toUInt32.toUInt16.toUInt32.toInt32)), .val (.int ((p2 &&& (255 : Int32)).toUInt32.toUInt16.toUInt32.toInt32)), .val (.int (0 : Int32)), .val (.int ((p3 &&& (255 : Int32)).toUInt32.toUInt16.toUInt32.toInt32)), .val (.int ((((p3.toUInt32 >>> ((8 : Int32) &&& 31).toUInt32).toInt32) &&& (255 : Int32)).toUInt32.toUInt16.toUInt32.toInt32)), .val (.ref b4), .val (.ref b9), .val (.ref b12), .val (.ref b17), .val (.ref rR), .val (.ref bm)]
abbrev own_Ln4 (p1 p2 p3 : Int32) (b4 : Addr) : Array Slot := #[.val (.int p1), .val (.int p2), .val (.int p3), .val (.int ((p1 &&& (255 : Int32)).toUInt32.toUInt16.toUInt32.toInt32)), .val (.int ((((p1.toUInt32 >>> ((8 : Int32) &&& 31).toUInt32).toInt32) &&& (255 : Int32)).toUInt32.toUInt16.toUInt32.toInt32)), .val (.int ((p2 &&& (255 : Int32)).toUInt32.toUInt16.toUInt32.toInt32)), .val (.int (0 : Int32)), .val (.int ((p3 &&& (255 : Int32)).toUInt32.toUInt16.toUInt32.toInt32)), .val (.int ((((p3.toUInt32 >>> ((8 : Int32) &&& 31).toUInt32).toInt32) &&& (255 : Int32)).toUInt32.toUInt16.toUInt32.toInt32)), .val (.ref b4), .unset, .unset, .unset, .unset, .unset]
abbrev own_Ln5 (p1 p2 p3 : Int32) : Array Slot := #[.val (.int p1), .val (.int p2), .val (.int p3), .val (.int ((p1 &&& (255 : Int32)).toUInt32.toUInt16.toUInt32.toInt32)), .val (.int ((((p1.toUInt32 >>> ((8 : Int32) &&& 31).toUInt32).toInt32) &&& (255 : Int32)).toUInt32.toUInt16.toUInt32.toInt32)), .val (.int ((p2 &&& (255 : Int32)).toUInt32.toUInt16.toUInt32.toInt32)), .unset, .unset, .unset, .unset, .unset, .unset, .unset, .unset, .unset]
abbrev own_Ln6 (p1 p2 p3 : Int32) : Array Slot := #[.val (.int p1), .val (.int p2), .val (.int p3), .val (.int ((p1 &&& (255 : Int32)).toUInt32.toUInt16.toUInt32.toInt32)), .unset, .unset, .unset, .unset, .unset, .unset, .unset, .unset, .unset, .unset, .unset]
abbrev own_Ln7 (p1 p2 p3 : Int32) : Array Slot := #[.val (.int p1), .val (.int p2), .val (.int p3), .val (.int ((p1 &&& (255 : Int32)).toUInt32.toUInt16.toUInt32.toInt32)), .val (.int ((((p1.toUInt32 >>> ((8 : Int32) &&& 31).toUInt32).toInt32) &&& (255 : Int32)).toUInt32.toUInt16.toUInt32.toInt32)), .val (.int ((p2 &&& (255 : Int32)).toUInt32.toUInt16.toUInt32.toInt32)), .val (.int (0 : Int32)), .val (.int ((p3 &&& (255 : Int32)).toUInt32.toUInt16.toUInt32.toInt32)), .unset, .unset, .unset, .unset, .unset, .unset, .unset]
abbrev own_Ln8 (p1 p2 p3 : Int32) (b12 b17 b4 b9 : Addr) : Array Slot := #[.val (.int p1), .val (.int p2), .val (.int p3), .val (.int ((p1 &&& (255 : Int32)).toUInt32.toUInt16.toUInt32.toInt32)), .val (.int ((((p1.toUInt32 >>> ((8 : Int32) &&& 31).toUInt32).toInt32) &&& (255 : Int32)).toUInt32.toUInt16.toUInt32.toInt32)), .val (.int ((p2 &&& (255 : Int32)).toUInt32.toUInt16.toUInt32.toInt32)), .val (.int (0 : Int32)), .val (.int ((p3 &&& (255 : Int32)).toUInt32.toUInt16.toUInt32.toInt32)), .val (.int ((((p3.toUInt32 >>> ((8 : Int32) &&& 31).toUInt32).toInt32) &&& (255 : Int32)).toUInt32.toUInt16.toUInt32.toInt32)), .val (.ref b4), .val (.ref b9), .val (.ref b12), .val (.ref b17), .unset, .unset]
abbrev own_Ln9 (p1 p2 p3 : Int32) (b12 b17 b4 b9 rR : Addr) : Array Slot := #[.val (.int p1), .val (.int p2), .val (.int p3), .val (.int ((p1 &&& (255 : Int32)).toUInt32.toUInt16.toUInt32.toInt32)), .val (.int ((((p1.toUInt32 >>> ((8 : Int32) &&& 31).toUInt32).toInt32) &&& (255 : Int32)).toUInt32.toUInt16.toUInt32.toInt32)), .val (.int ((p2 &&& (255 : Int32)).toUInt32.toUInt16.toUInt32.toInt32)), .val (.int (0 : Int32)), .val (.int ((p3 &&& (255 : Int32)).toUInt32.toUInt16.toUInt32.toInt32)), .val (.int ((((p3.toUInt32 >>> ((8 : Int32) &&& 31).toUInt32).toInt32) &&& (255 : Int32)).toUInt32.toUInt16.toUInt32.toInt32)), .val (.ref b4), .val (.ref b9), .val (.ref b12), .val (.ref b17), .val (.ref rR), .unset]
abbrev own_Ln10 (p1 p2 p3 : Int32) : Array Slot := #[.val (.int p1), .val (.int p2), .val (.int p3), .unset, .unset, .unset, .unset, .unset, .unset, .unset, .unset, .unset, .unset, .unset, .unset]
abbrev own_Ln11 (p1 p2 p3 : Int32) : Array Slot := #[.val (.int p1), .val (.int p2), .val (.int p3), .val (.int ((p1 &&& (255 : Int32)).toUInt32.toUInt16.toUInt32.toInt32)), .val (.int ((((p1.toUInt32 >>> ((8 : Int32) &&& 31).toUInt32).toInt32) &&& (255 : Int32)).toUInt32.toUInt16.toUInt32.toInt32)), .unset, .unset, .unset, .unset, .unset, .unset, .unset, .unset, .unset, .unset]
abbrev own_Ln12 (p1 p2 p3 : Int32) : Array Slot := #[.val (.int p1), .val (.int p2), .val (.int p3), .val (.int ((p1 &&& (255 : Int32)).toUInt32.toUInt16.toUInt32.toInt32)), .val (.int ((((p1.toUInt32 >>> ((8 : Int32) &&& 31).toUInt32).toInt32) &&& (255 : Int32)).toUInt32.toUInt16.toUInt32.toInt32)), .val (.int ((p2 &&& (255 : Int32)).toUInt32.toUInt16.toUInt32.toInt32)), .val (.int (0 : Int32)), .unset, .unset, .unset, .unset, .unset, .unset, .unset, .unset]
theorem own_csnr (p1 p2 p3 : Int32) : ∀ c ∈ own_csn p1 p2 p3, ¬ c < 0 ∧ ¬ (255 : Int32) < c := (own_lS (by decide) (own_lS (by decide) (own_lS (by decide) (own_lS (by decide) (own_lS (by decide) (own_lS (by decide) (own_lS (by decide) (own_lS (by decide) (own_lS (by decide) (own_lS (by decide) (own_lS (by decide) (own_lS (by decide) (own_lS (by decide) (own_lS (by decide) (own_lS (by decide) (own_lS (by decide) (own_lS (by decide) (own_lS (by decide) (own_lS (by decide) (own_lS (by decide) (own_lS (own_x255 _) (own_lS (own_x255 _) (own_lS (by decide) (own_lS (by decide) (own_lS (by decide) (own_lS (by decide) (own_lS (by decide) (own_lS (by decide) (own_lS (by decide) (own_lS (by decide) (own_lS (by decide) (own_lS (by decide) (own_lS (by decide) (own_lS (by decide) (own_lS (by decide) (own_lS (own_x255 _) (own_lS (own_x255 _) own_l0)))))))))))))))))))))))))))))))))))))
abbrev own_Fn (p1 p2 p3 : Int32) : List Value := (own_csn p1 p2 p3).map fun c => Value.int (nar .char c)
theorem own_Fnl (p1 p2 p3 : Int32) : (own_Fn p1 p2 p3).length = 37 := rfl
theorem own_Fnc (p1 p2 p3 : Int32) : own_Fn p1 p2 p3 = (own_csn p1 p2 p3).map Value.int := List.map_congr_left fun c hc => congrArg Value.int (own_nar255 (own_csnr p1 p2 p3 c hc))
theorem own_evn (p1 p2 p3 : Int32) : (((((([] : List Value) ++ ((([] : List Value) ++ ([(.int (116 : Int32)), (.int (104 : Int32)), (.int (101 : Int32)), (.int (32 : Int32)), (.int (115 : Int32)), (.int (121 : Int32)), (.int (115 : Int32)), (.int (116 : Int32)), (.int (101 : Int32)), (.int (109 : Int32)), (.int (32 : Int32)), (.int (112 : Int32)), (.int (114 : Int32)), (.int (111 : Int32)), (.int (112 : Int32)), (.int (101 : Int32)), (.int (114 : Int32)), (.int (116 : Int32)), (.int (121 : Int32)), (.int (32 : Int32))] : List Value)) ++ ([(.int ((((p1 &&& (255 : Int32)).toUInt32.toUInt16.toUInt32.toInt32)).toInt8.toInt32)), (.int ((((((p1.toUInt32 >>> ((8 : Int32) &&& 31).toUInt32).toInt32) &&& (255 : Int32)).toUInt32.toUInt16.toUInt32.toInt32)).toInt8.toInt32))] : List Value))) ++ ([(.int (32 : Int32)), (.int (105 : Int32)), (.int (115 : Int32)), (.int (32 : Int32)), (.int (34 : Int32))] : List Value)) ++ ([] : List Value)) ++ ([(.int (34 : Int32)), (.int (59 : Int32)), (.int (32 : Int32)), (.int (103 : Int32)), (.int (105 : Int32)), (.int (118 : Int32)), (.int (101 : Int32)), (.int (32 : Int32))] : List Value)) ++ ([(.int ((((p3 &&& (255 : Int32)).toUInt32.toUInt16.toUInt32.toInt32)).toInt8.toInt32)), (.int ((((((p3.toUInt32 >>> ((8 : Int32) &&& 31).toUInt32).toInt32) &&& (255 : Int32)).toUInt32.toUInt16.toUInt32.toInt32)).toInt8.toInt32))] : List Value)) = (own_csn p1 p2 p3).map fun c => Value.int (StrChars.lo8 c) := by
  simp only [own_csn, List.map_cons, List.map_nil, List.nil_append, List.cons_append, List.append_nil]
  refine own_c (congrArg Value.int (by decide)) ?_
  refine own_c (congrArg Value.int (by decide)) ?_
  refine own_c (congrArg Value.int (by decide)) ?_
  refine own_c (congrArg Value.int (by decide)) ?_
  refine own_c (congrArg Value.int (by decide)) ?_
  refine own_c (congrArg Value.int (by decide)) ?_
  refine own_c (congrArg Value.int (by decide)) ?_
  refine own_c (congrArg Value.int (by decide)) ?_
  refine own_c (congrArg Value.int (by decide)) ?_
  refine own_c (congrArg Value.int (by decide)) ?_
  refine own_c (congrArg Value.int (by decide)) ?_
  refine own_c (congrArg Value.int (by decide)) ?_
  refine own_c (congrArg Value.int (by decide)) ?_
  refine own_c (congrArg Value.int (by decide)) ?_
  refine own_c (congrArg Value.int (by decide)) ?_
  refine own_c (congrArg Value.int (by decide)) ?_
  refine own_c (congrArg Value.int (by decide)) ?_
  refine own_c (congrArg Value.int (by decide)) ?_
  refine own_c (congrArg Value.int (by decide)) ?_
  refine own_c (congrArg Value.int (by decide)) ?_
  refine own_c rfl ?_
  refine own_c rfl ?_
  refine own_c (congrArg Value.int (by decide)) ?_
  refine own_c (congrArg Value.int (by decide)) ?_
  refine own_c (congrArg Value.int (by decide)) ?_
  refine own_c (congrArg Value.int (by decide)) ?_
  refine own_c (congrArg Value.int (by decide)) ?_
  refine own_c (congrArg Value.int (by decide)) ?_
  refine own_c (congrArg Value.int (by decide)) ?_
  refine own_c (congrArg Value.int (by decide)) ?_
  refine own_c (congrArg Value.int (by decide)) ?_
  refine own_c (congrArg Value.int (by decide)) ?_
  refine own_c (congrArg Value.int (by decide)) ?_
  refine own_c (congrArg Value.int (by decide)) ?_
  refine own_c (congrArg Value.int (by decide)) ?_
  refine own_c rfl ?_
  refine own_c rfl ?_
  rfl
set_option maxRecDepth 65536 in
set_option maxHeartbeats 40000000 in
theorem rm0_n (l : Launch) (Z : State) (a0 : Array Value) (hw : ∀ d ∈ tables_1, d.before a0 Z = true) (ws : List Jvm.Cond) (p1 : Int32) (p2 : Int32) (p3 : Int32) (G1 : Int32) (G2 : Addr) (G3 : Addr) (h0 : Heap) (n0 : Nat) (Z0 : n0 ≤ h0.size) (hl : l.stackTraces = true) (S_COMPACT_STRINGS : Sta Z Z.heap "java/lang/String" "COMPACT_STRINGS" "Z" (.int G1)) (X00 : Old Z n0 h0) (P3 : ¬ (G1 = (0 : Int32))) (S_UNASSIGNED_STACK : Sta Z Z.heap "java/lang/Throwable" "UNASSIGNED_STACK" "[Ljava/lang/StackTraceElement;" (.ref G2)) (S_SUPPRESSED_SENTINEL : Sta Z Z.heap "java/lang/Throwable" "SUPPRESSED_SENTINEL" "Ljava/util/List;" (.ref G3)) (hc32 : (((p2.toUInt32 >>> ((8 : Int32) &&& 31).toUInt32).toInt32) &&& (1 : Int32)) = (0 : Int32)) (hc646 : ¬ ((1 : Int32) = (0 : Int32))) :
    MetFree l x (head1 (Jvm.Cond.code x code maxLocals ret :: ws) room_1) (fun a U => a = #[(.int p1), (.int p2), (.int p3)] ∧ Z.Warmed39 U.vm ∧ U.heap = h0 ∧ CHv Z consts_1 U.vm h0) (fun _ _ bl s _ => s.vm.MethodsKnown ∧ s.vm.FramesKnown bl) (fun _ U o U' => ∃ v L, o = .returned v ∧ own_Q1 h0 n0 v U'.heap L ∧ CHr Z consts_1 U.vm U.heap U'.vm U'.heap ∧ ReturnedEndW U o U' L room_1.cells room_1.slots) := by
  refine MetFree.of_bodySF (plainFor_of_name pn_0) hisR ?_
  intro p e s m args below meth c s₁ Bd hml0 hP hK
  obtain ⟨rfl, hZ, hh, H0⟩ := hP
  have hx := Bd.exec
  have hby := Bd.bytes
  have hml : c.maxLocals = 15 := hml0
  have hown : s.vm.findClass "com/example/shiken/shiken/ContextExceptionForSystemPropertyPinLaw" = some m.cls := findClass_of_methodNamed Bd.named
  have hnm := (name_of_methodNamed Bd.named Bd.method).1
  have X0 : Stand p l e room_1 (s.setVm s.vm) m #[(.int p1), (.int p2), (.int p3)] below meth c s₁ [] 0 0 := Stand.of_body Bd
  have e0 : s₁.heap = h0 := by rw [← hh, Bd.state]; rfl
  have N0 := Fr.nil n0
  have pre0 : ∀ t, Steps p.tables e below (s₁.setTop (mkF m 0 (own_Ln10 p1 p2 p3) [])) t → Steps p.tables e below (s₁.setTop (entryFrame m #[(.int p1), (.int p2), (.int p3)] maxLocals)) t := fun t k => castTop (ef_0 m p1 p2 p3) k
  have hws : ∀ d ∈ StrChars.Road.words, d.before a0 Z = true := fun d hd => hw d ((by decide +kernel : ∀ d ∈ StrChars.Road.words, d ∈ tables_1) d hd)
  have hS : s.Since s.vm 0 := (State.WarmedH.refl s).since 0
  have hk := Nat.zero_le h0.size
  have R0 : CHr Z consts_1 s.vm h0 s.vm h0 := CHr.refl H0
  obtain ⟨T4, h4, X4, e4, E4, A4, D4, Un4, st4⟩ := newO X0 hx hZ hown (hw _ (wI 0 rfl)) (hw _ (wI 1 rfl)) (hw _ (wI 2 rfl)) e0 (g := (mkF m 61 (own_Ln1 p1 p2 p3) [])) rfl (hb hby at_61) (by decide) (by decide)
  obtain ⟨b4, g4⟩ : ∃ z, z = h0.size := ⟨_, rfl⟩
  rw [← g4] at A4 D4 Un4 st4
  have U_b4 : Unt h4 b4 := Un4
  have F_coder_b4 : Fld Z h4 b4 "java/lang/String" "coder" "B" (.int (0 : Int32)) := D4 (Or.inr (hw _ (wI 27 rfl))) (ty := .byte) (by decide)
  have F_value_b4 : Fld Z h4 b4 "java/lang/String" "value" "[B" .null := D4 (Or.inr (hw _ (wI 29 rfl))) (ty := (.array .byte)) (by decide)
  have R4 := R0.trans (CHr.ext E4 R0.1)
  have Sf_b4_4 := Safe.ext E4 R0.1 (Safe.new (Nat.le_of_eq g4.symm))
  have E_b4 := A4
  have g_b4 : n0 ≤ b4 := Nat.le_trans Z0 (Nat.le_of_eq g4.symm)
  have sz_b4 : h0.size ≤ b4 := (Nat.le_trans (Keep.refl h0 []).1 (Nat.le_of_eq g4.symm))
  have K4 : Keep h0 h4 [] := (Keep.refl h0 []).ext E4
  obtain ⟨T5, h5, k5, X5, e5, E5, A5, st5⟩ := newP X4 hx hZ (hw _ (wI 3 rfl)) e4 (g := (mkF m 66 (own_Ln1 p1 p2 p3) [(.int (2 : Int32)), (.ref b4), (.ref b4)])) rfl (hb hby at_66) rfl (by decide) (cap := 2) (by decide) (by decide) (by decide) (by decide)
  obtain ⟨b5, g5⟩ : ∃ z, z = h4.size := ⟨_, rfl⟩
  rw [← g5] at A5 st5
  have V_b5 : Arv Z h5 b5 k5 .char (2 : Int32) [(.int (0 : Int32)), (.int (0 : Int32))] (.int (0 : Int32)) := (Arv.new A5 (by decide)).pad (pad_rep [] (.int (0 : Int32)) 2)
  have g_b5 : n0 ≤ b5 := Nat.le_trans (Nat.le_trans Z0 E4.1) (Nat.le_of_eq g5.symm)
  have sz_b5 : h0.size ≤ b5 := (Nat.le_trans K4.1 (Nat.le_of_eq g5.symm))
  have R5 := R4.trans (CHr.ext E5 R4.1)
  have Sf_b4_5 := Safe.ext E5 R4.1 Sf_b4_4
  have Sf_b5_5 := Safe.ext E5 R4.1 (Safe.new (Nat.le_of_eq g5.symm))
  have K5 : Keep h0 h5 [] := K4.ext E5
  obtain ⟨cl_b5_71, Ar_b5, q_b5, S_b5, N_b5, H_b5, G_b5⟩ := V_b5
  have hin71 : ¬ ((0 : Int32) < 0 ∨ cl_b5_71.slots.size ≤ ((0 : Int32)).toNatClampNeg) := inb_of S_b5 ⟨by decide, by decide⟩
  obtain ⟨T6, h6, X6, e6, W6, st6⟩ := stC X5 hx hZ e5 Ar_b5 (j := (0 : Int32)) hin71 (g := (mkF m 71 (own_Ln1 p1 p2 p3) [(.int ((p1 &&& (255 : Int32)).toUInt32.toUInt16.toUInt32.toInt32)), (.int (0 : Int32)), (.ref b5), (.ref b5), (.ref b4), (.ref b4)])) rfl rfl (hb hby at_71)
  have V_b5_6 := Arv.set Ar_b5 q_b5 S_b5 N_b5 H_b5 G_b5 (fits_nar_char _) W6 0 rfl (Nat.le_of_ble_eq_true rfl)
  have R6 := R5.trans (CHr.wr W6 Sf_b5_5 R5.1)
  have Sf_b4_6 := Safe.wr W6 Sf_b5_5 R5.1 Sf_b4_5
  have Sf_b5_6 := Safe.wr W6 Sf_b5_5 R5.1 Sf_b5_5
  have K6 : Keep h0 h6 [] := K5.wr W6 (Or.inr sz_b5)
  have N6 := Fr.snoc X6 N0 g_b5
  obtain ⟨cl_b5_76, Ar_b5, q_b5, S_b5, N_b5, H_b5, G_b5⟩ := V_b5_6
  have hin76 : ¬ ((1 : Int32) < 0 ∨ cl_b5_76.slots.size ≤ ((1 : Int32)).toNatClampNeg) := inb_of S_b5 ⟨by decide, by decide⟩
  obtain ⟨T7, h7, X7, e7, W7, st7⟩ := stC X6 hx hZ e6 Ar_b5 (j := (1 : Int32)) hin76 (g := (mkF m 76 (own_Ln1 p1 p2 p3) [(.int ((((p1.toUInt32 >>> ((8 : Int32) &&& 31).toUInt32).toInt32) &&& (255 : Int32)).toUInt32.toUInt16.toUInt32.toInt32)), (.int (1 : Int32)), (.ref b5), (.ref b5), (.ref b4), (.ref b4)])) rfl rfl (hb hby at_76)
  have V_b5_7 := Arv.set Ar_b5 q_b5 S_b5 N_b5 H_b5 G_b5 (fits_nar_char _) W7 1 rfl (Nat.le_of_ble_eq_true rfl)
  have R7 := R6.trans (CHr.wr W7 Sf_b5_6 R6.1)
  have Sf_b4_7 := Safe.wr W7 Sf_b5_6 R6.1 Sf_b4_6
  have Sf_b5_7 := Safe.wr W7 Sf_b5_6 R6.1 Sf_b5_6
  have K7 : Keep h0 h7 [] := K6.wr W7 (Or.inr sz_b5)
  have N7 := Fr.snoc X7 N6 g_b5
  have SC8 := S_COMPACT_STRINGS.ext ((X00.keep K7 all0)).2
  have Eb8 := (((E_b4.ext E5).wr W6).wr W7)
  have Fvb8 := (((F_value_b4.ext E5).other W6 (Or.inl (Nat.ne_of_lt (Nat.lt_of_lt_of_le E_b4.lt (Nat.le_of_eq g5.symm))))).other W7 (Or.inl (Nat.ne_of_lt (Nat.lt_of_lt_of_le E_b4.lt (Nat.le_of_eq g5.symm)))))
  have Fcb8 := (((F_coder_b4.ext E5).other W6 (Or.inl (Nat.ne_of_lt (Nat.lt_of_lt_of_le E_b4.lt (Nat.le_of_eq g5.symm))))).other W7 (Or.inl (Nat.ne_of_lt (Nat.lt_of_lt_of_le E_b4.lt (Nat.le_of_eq g5.symm)))))
  have Zb8 := (Nat.le_trans (Nat.le_trans (Nat.le_trans (Nat.le_trans Z0 E4.1) E5.1) (Keep.of_wr W6).1) (Keep.of_wr W7).1)
  have Vb8 : Arv Z h7 b5 k5 .char (2 : Int32) [(.int ((p1 &&& (255 : Int32)).toUInt32.toUInt16.toUInt32.toInt32)), (.int ((((p1.toUInt32 >>> ((8 : Int32) &&& 31).toUInt32).toInt32) &&& (255 : Int32)).toUInt32.toUInt16.toUInt32.toInt32))] (.int (0 : Int32)) := by
    have q : Arv Z h7 b5 k5 .char (2 : Int32) [(.int (nar .char ((p1 &&& (255 : Int32)).toUInt32.toUInt16.toUInt32.toInt32))), (.int (nar .char ((((p1.toUInt32 >>> ((8 : Int32) &&& 31).toUInt32).toInt32) &&& (255 : Int32)).toUInt32.toUInt16.toUInt32.toInt32)))] (.int (0 : Int32)) := V_b5_7
    simp only [own_xnar] at q
    exact q
  obtain ⟨_, _, ⟨T8, L8, k8, n8⟩, -, X8, ⟨Lc8, hQ8, l8, y8, z8⟩, st8⟩ := X7.specialBack hx (y := (⟨"java/lang/String", "<init>", "([C)V"⟩ : MethodName)) rfl hown (mvT hZ (hw _ (wI 4 rfl))) (mvT hZ (hw _ (wI 5 rfl))) (mvT hZ (hw _ (wI 6 rfl))) (by decide) (StrChars.Road.backV (W := 1) hZ hws (kI := 4) (hw _ (wI 1 rfl)) (cs := [((p1 &&& (255 : Int32)).toUInt32.toUInt16.toUInt32.toInt32), ((((p1.toUInt32 >>> ((8 : Int32) &&& 31).toUInt32).toInt32) &&& (255 : Int32)).toUInt32.toUInt16.toUInt32.toInt32)]) (bs := [(((p1 &&& (255 : Int32)).toUInt32.toUInt16.toUInt32.toInt32)).toInt8.toInt32, (((((p1.toUInt32 >>> ((8 : Int32) &&& 31).toUInt32).toInt32) &&& (255 : Int32)).toUInt32.toUInt16.toUInt32.toInt32)).toInt8.toInt32]) (n := 2) g_b4 Zb8 Eb8 Fvb8 Fcb8 Vb8 SC8 P3 rfl rfl (by decide) (by decide) (own_lS (own_x255 _) (own_lS (own_x255 _) own_l0)) rfl (by decide) (by decide)) (g := (mkF m 77 (own_Ln1 p1 p2 p3) [(.ref b5), (.ref b4), (.ref b4)])) rfl (by rw [hml]; rfl) (Steps.refl _) (a := b4) (argsL := [(.ref b5)]) (rest := [(.ref b4)]) (lenOf pd_0_0 rfl) rfl (by show 2 * 0 + _ ≤ _; exact Nat.le_of_eq rfl) (hb hby at_77) (fun _ _ => ⟨rfl, e7, (by decide : 2 + 1 ≤ _), (by decide : 6 + 2 ≤ _)⟩)
  dsimp only [Pt.U, Pt.locs, Pt.cells, Pt.slots] at X8 l8 y8 z8 st8 hQ8
  rw [l8, y8, z8] at X8
  obtain ⟨rfl, N8q, Kc8, Eq8, Fcq8, t8, kt8, g_t8, gz_t8, ne_t8, Fvq8, Vq8⟩ := hQ8
  have N8 := Fr.app N7 N8q
  have Kq8 : Keep h7 T8.heap [b4] := Kc8
  have K8 : Keep h0 T8.heap [] := K7.trans Kq8 (own_trS (Or.inr sz_b4) all0)
  have R8 := R7.trans (CHr.keep Kq8 (sfS Sf_b4_7 sf0) R7.1)
  have Sf_b4_8 := Safe.keep Kq8 (sfS Sf_b4_7 sf0) R7.1 Sf_b4_7
  have Sf_b5_8 := Safe.keep Kq8 (sfS Sf_b4_7 sf0) R7.1 Sf_b5_7
  have Sf_t8_8 := Safe.keep Kq8 (sfS Sf_b4_7 sf0) R7.1 (Safe.new gz_t8)
  obtain ⟨T9, h9, X9, e9, E9, A9, D9, Un9, st9⟩ := newO X8 hx hZ hown (hw _ (wI 0 rfl)) (hw _ (wI 1 rfl)) (hw _ (wI 2 rfl)) rfl (g := (mkF m 105 (own_Ln4 p1 p2 p3 b4) [])) rfl (hb hby at_105) (by decide) (by decide)
  obtain ⟨b9, g9⟩ : ∃ z, z = T8.heap.size := ⟨_, rfl⟩
  rw [← g9] at A9 D9 Un9 st9
  have U_b9 : Unt h9 b9 := Un9
  have F_coder_b9 : Fld Z h9 b9 "java/lang/String" "coder" "B" (.int (0 : Int32)) := D9 (Or.inr (hw _ (wI 27 rfl))) (ty := .byte) (by decide)
  have F_value_b9 : Fld Z h9 b9 "java/lang/String" "value" "[B" .null := D9 (Or.inr (hw _ (wI 29 rfl))) (ty := (.array .byte)) (by decide)
  have R9 := R8.trans (CHr.ext E9 R8.1)
  have Sf_b9_9 := Safe.ext E9 R8.1 (Safe.new (Nat.le_of_eq g9.symm))
  have E_b9 := A9
  have g_b9 : n0 ≤ b9 := Nat.le_trans (Nat.le_trans (Nat.le_trans (Nat.le_trans (Nat.le_trans (Nat.le_trans Z0 E4.1) E5.1) (Keep.of_wr W6).1) (Keep.of_wr W7).1) Kq8.1) (Nat.le_of_eq g9.symm)
  have sz_b9 : h0.size ≤ b9 := (Nat.le_trans K8.1 (Nat.le_of_eq g9.symm))
  have K9 : Keep h0 h9 [] := K8.ext E9
  obtain ⟨T10, h10, k10, X10, e10, E10, A10, st10⟩ := newP X9 hx hZ (hw _ (wI 3 rfl)) e9 (g := (mkF m 110 (own_Ln4 p1 p2 p3 b4) [(.int (0 : Int32)), (.ref b9), (.ref b9)])) rfl (hb hby at_110) rfl (by decide) (cap := 0) (by decide) (by decide) (by decide) (by decide)
  obtain ⟨b10, g10⟩ : ∃ z, z = h9.size := ⟨_, rfl⟩
  rw [← g10] at A10 st10
  have V_b10 := Arv.new A10 (by decide)      -- Arv Z h10 b10 k10 .char (0 : Int32) [] (its first value); a place must be in the list before it's written: Arv.pad with pad_rep
  have g_b10 : n0 ≤ b10 := Nat.le_trans (Nat.le_trans (Nat.le_trans (Nat.le_trans (Nat.le_trans (Nat.le_trans (Nat.le_trans Z0 E4.1) E5.1) (Keep.of_wr W6).1) (Keep.of_wr W7).1) Kq8.1) E9.1) (Nat.le_of_eq g10.symm)
  have sz_b10 : h0.size ≤ b10 := (Nat.le_trans K9.1 (Nat.le_of_eq g10.symm))
  have R10 := R9.trans (CHr.ext E10 R9.1)
  have Sf_b9_10 := Safe.ext E10 R9.1 Sf_b9_9
  have Sf_b10_10 := Safe.ext E10 R9.1 (Safe.new (Nat.le_of_eq g10.symm))
  have K10 : Keep h0 h10 [] := K9.ext E10
  obtain ⟨_, _, ⟨T11, L11, k11, n11⟩, -, X11, hSc11, hgr11, ⟨Lc11, hQ11, l11, y11, z11, Cr11⟩, st11⟩ := X10.specialBackS hx (y := (⟨"java/lang/String", "<init>", "([C)V"⟩ : MethodName)) rfl hown (mvT hZ (hw _ (wI 4 rfl))) (mvT hZ (hw _ (wI 5 rfl))) (mvT hZ (hw _ (wI 6 rfl))) (by decide) (backOfSH (W := 1) (rm1 l Z a0 hw [] b9 b10 k10 (0 : Int32) [] (.int (0 : Int32)) h10 n0 (Nat.le_trans (Nat.le_trans (Nat.le_trans (Nat.le_trans (Nat.le_trans (Nat.le_trans (Nat.le_trans Z0 E4.1) E5.1) (Keep.of_wr W6).1) (Keep.of_wr W7).1) Kq8.1) E9.1) E10.1) rfl (E_b9.ext E10) (F_value_b9.ext E10) (F_coder_b9.ext E10) g_b9 V_b10) hZ (hw _ (wI 6 rfl)) (hw _ (wI 2 rfl)) (by decide) (by decide) (own_EW hw) R10.1) (g := (mkF m 112 (own_Ln4 p1 p2 p3 b4) [(.ref b10), (.ref b9), (.ref b9)])) rfl (by rw [hml]; rfl) (Steps.refl _) (a := b9) (argsL := [(.ref b10)]) (rest := [(.ref b9)]) (lenOf pd_0_0 rfl) rfl (by show 2 * 0 + _ ≤ _; exact Nat.le_of_eq rfl) (hb hby at_112) (fun _ _ => ⟨rfl, e10, (by decide : 5 + 2 ≤ _), (by decide : 12 + 4 ≤ _)⟩)
  dsimp only [Pt.U, Pt.locs, Pt.cells, Pt.slots] at hSc11 hgr11 Cr11
  dsimp only [Pt.U, Pt.locs, Pt.cells, Pt.slots] at X11 l11 y11 z11 st11 hQ11
  rw [l11, y11, z11] at X11
  obtain ⟨rfl, N11q, Kc11, t11, kt11, Fvq11, Fcq11, Vq11⟩ := hQ11
  have N11 := Fr.app N8 N11q
  obtain ⟨X11, hS, hZ11, hown11⟩ := rebS hS (by rw [e10]; exact (Nat.le_trans (Nat.le_trans (Nat.le_trans (Nat.le_trans (Nat.le_trans (Nat.le_trans (Nat.le_trans hk E4.1) E5.1) (Keep.of_wr W6).1) (Keep.of_wr W7).1) Kq8.1) E9.1) E10.1)) X11 hSc11 hgr11 hZ hown
  have hk := Nat.le_refl T11.heap.size
  have Kq11 : Keep h10 T11.heap [b9] := Kc11
  have K11 : Keep h0 T11.heap [] := K10.trans Kq11 (own_trS (Or.inr sz_b9) all0)
  have R11 := R10.trans Cr11
  have Sf_b9_11 := Cr11.safe (E_b9.ext E10).lt Sf_b9_10
  have Sf_b10_11 := Cr11.safe V_b10.lt Sf_b10_10
  obtain ⟨T12, h12, X12, e12, E12, A12, D12, Un12, st12⟩ := newO X11 hx hZ11 hown11 (hw _ (wI 0 rfl)) (hw _ (wI 1 rfl)) (hw _ (wI 2 rfl)) rfl (g := (mkF m 117 (own_Ln2 p1 p2 p3 b4 b9) [])) rfl (hb hby at_117) (by decide) (by decide)
  obtain ⟨b12, g12⟩ : ∃ z, z = T11.heap.size := ⟨_, rfl⟩
  rw [← g12] at A12 D12 Un12 st12
  have U_b12 : Unt h12 b12 := Un12
  have F_coder_b12 : Fld Z h12 b12 "java/lang/String" "coder" "B" (.int (0 : Int32)) := D12 (Or.inr (hw _ (wI 27 rfl))) (ty := .byte) (by decide)
  have F_value_b12 : Fld Z h12 b12 "java/lang/String" "value" "[B" .null := D12 (Or.inr (hw _ (wI 29 rfl))) (ty := (.array .byte)) (by decide)
  have R12 := R11.trans (CHr.ext E12 R11.1)
  have Sf_b12_12 := Safe.ext E12 R11.1 (Safe.new (Nat.le_of_eq g12.symm))
  have E_b12 := A12
  have g_b12 : n0 ≤ b12 := Nat.le_trans (Nat.le_trans (Nat.le_trans (Nat.le_trans (Nat.le_trans (Nat.le_trans (Nat.le_trans (Nat.le_trans (Nat.le_trans Z0 E4.1) E5.1) (Keep.of_wr W6).1) (Keep.of_wr W7).1) Kq8.1) E9.1) E10.1) Kq11.1) (Nat.le_of_eq g12.symm)
  have sz_b12 : h0.size ≤ b12 := (Nat.le_trans K11.1 (Nat.le_of_eq g12.symm))
  have K12 : Keep h0 h12 [] := K11.ext E12
  obtain ⟨T13, h13, k13, X13, e13, E13, A13, st13⟩ := newP X12 hx hZ11 (hw _ (wI 3 rfl)) e12 (g := (mkF m 122 (own_Ln2 p1 p2 p3 b4 b9) [(.int (2 : Int32)), (.ref b12), (.ref b12)])) rfl (hb hby at_122) rfl (by decide) (cap := 2) (by decide) (by decide) (by decide) (by decide)
  obtain ⟨b13, g13⟩ : ∃ z, z = h12.size := ⟨_, rfl⟩
  rw [← g13] at A13 st13
  have V_b13 : Arv Z h13 b13 k13 .char (2 : Int32) [(.int (0 : Int32)), (.int (0 : Int32))] (.int (0 : Int32)) := (Arv.new A13 (by decide)).pad (pad_rep [] (.int (0 : Int32)) 2)
  have g_b13 : n0 ≤ b13 := Nat.le_trans (Nat.le_trans (Nat.le_trans (Nat.le_trans (Nat.le_trans (Nat.le_trans (Nat.le_trans (Nat.le_trans (Nat.le_trans (Nat.le_trans Z0 E4.1) E5.1) (Keep.of_wr W6).1) (Keep.of_wr W7).1) Kq8.1) E9.1) E10.1) Kq11.1) E12.1) (Nat.le_of_eq g13.symm)
  have sz_b13 : h0.size ≤ b13 := (Nat.le_trans K12.1 (Nat.le_of_eq g13.symm))
  have R13 := R12.trans (CHr.ext E13 R12.1)
  have Sf_b12_13 := Safe.ext E13 R12.1 Sf_b12_12
  have Sf_b13_13 := Safe.ext E13 R12.1 (Safe.new (Nat.le_of_eq g13.symm))
  have K13 : Keep h0 h13 [] := K12.ext E13
  obtain ⟨cl_b13_128, Ar_b13, q_b13, S_b13, N_b13, H_b13, G_b13⟩ := V_b13
  have hin128 : ¬ ((0 : Int32) < 0 ∨ cl_b13_128.slots.size ≤ ((0 : Int32)).toNatClampNeg) := inb_of S_b13 ⟨by decide, by decide⟩
  obtain ⟨T14, h14, X14, e14, W14, st14⟩ := stC X13 hx hZ11 e13 Ar_b13 (j := (0 : Int32)) hin128 (g := (mkF m 128 (own_Ln2 p1 p2 p3 b4 b9) [(.int ((p3 &&& (255 : Int32)).toUInt32.toUInt16.toUInt32.toInt32)), (.int (0 : Int32)), (.ref b13), (.ref b13), (.ref b12), (.ref b12)])) rfl rfl (hb hby at_128)
  have V_b13_14 := Arv.set Ar_b13 q_b13 S_b13 N_b13 H_b13 G_b13 (fits_nar_char _) W14 0 rfl (Nat.le_of_ble_eq_true rfl)
  have R14 := R13.trans (CHr.wr W14 Sf_b13_13 R13.1)
  have Sf_b12_14 := Safe.wr W14 Sf_b13_13 R13.1 Sf_b12_13
  have Sf_b13_14 := Safe.wr W14 Sf_b13_13 R13.1 Sf_b13_13
  have K14 : Keep h0 h14 [] := K13.wr W14 (Or.inr sz_b13)
  have N14 := Fr.snoc X14 N11 g_b13
  obtain ⟨cl_b13_133, Ar_b13, q_b13, S_b13, N_b13, H_b13, G_b13⟩ := V_b13_14
  have hin133 : ¬ ((1 : Int32) < 0 ∨ cl_b13_133.slots.size ≤ ((1 : Int32)).toNatClampNeg) := inb_of S_b13 ⟨by decide, by decide⟩
  obtain ⟨T15, h15, X15, e15, W15, st15⟩ := stC X14 hx hZ11 e14 Ar_b13 (j := (1 : Int32)) hin133 (g := (mkF m 133 (own_Ln2 p1 p2 p3 b4 b9) [(.int ((((p3.toUInt32 >>> ((8 : Int32) &&& 31).toUInt32).toInt32) &&& (255 : Int32)).toUInt32.toUInt16.toUInt32.toInt32)), (.int (1 : Int32)), (.ref b13), (.ref b13), (.ref b12), (.ref b12)])) rfl rfl (hb hby at_133)
  have V_b13_15 := Arv.set Ar_b13 q_b13 S_b13 N_b13 H_b13 G_b13 (fits_nar_char _) W15 1 rfl (Nat.le_of_ble_eq_true rfl)
  have R15 := R14.trans (CHr.wr W15 Sf_b13_14 R14.1)
  have Sf_b12_15 := Safe.wr W15 Sf_b13_14 R14.1 Sf_b12_14
  have Sf_b13_15 := Safe.wr W15 Sf_b13_14 R14.1 Sf_b13_14
  have K15 : Keep h0 h15 [] := K14.wr W15 (Or.inr sz_b13)
  have N15 := Fr.snoc X15 N14 g_b13
  have SC16 := S_COMPACT_STRINGS.ext ((X00.keep K15 all0)).2
  have Eb16 := (((E_b12.ext E13).wr W14).wr W15)
  have Fvb16 := (((F_value_b12.ext E13).other W14 (Or.inl (Nat.ne_of_lt (Nat.lt_of_lt_of_le E_b12.lt (Nat.le_of_eq g13.symm))))).other W15 (Or.inl (Nat.ne_of_lt (Nat.lt_of_lt_of_le E_b12.lt (Nat.le_of_eq g13.symm)))))
  have Fcb16 := (((F_coder_b12.ext E13).other W14 (Or.inl (Nat.ne_of_lt (Nat.lt_of_lt_of_le E_b12.lt (Nat.le_of_eq g13.symm))))).other W15 (Or.inl (Nat.ne_of_lt (Nat.lt_of_lt_of_le E_b12.lt (Nat.le_of_eq g13.symm)))))
  have Zb16 := (Nat.le_trans (Nat.le_trans (Nat.le_trans (Nat.le_trans (Nat.le_trans (Nat.le_trans (Nat.le_trans (Nat.le_trans (Nat.le_trans (Nat.le_trans (Nat.le_trans (Nat.le_trans Z0 E4.1) E5.1) (Keep.of_wr W6).1) (Keep.of_wr W7).1) Kq8.1) E9.1) E10.1) Kq11.1) E12.1) E13.1) (Keep.of_wr W14).1) (Keep.of_wr W15).1)
  have Vb16 : Arv Z h15 b13 k13 .char (2 : Int32) [(.int ((p3 &&& (255 : Int32)).toUInt32.toUInt16.toUInt32.toInt32)), (.int ((((p3.toUInt32 >>> ((8 : Int32) &&& 31).toUInt32).toInt32) &&& (255 : Int32)).toUInt32.toUInt16.toUInt32.toInt32))] (.int (0 : Int32)) := by
    have q : Arv Z h15 b13 k13 .char (2 : Int32) [(.int (nar .char ((p3 &&& (255 : Int32)).toUInt32.toUInt16.toUInt32.toInt32))), (.int (nar .char ((((p3.toUInt32 >>> ((8 : Int32) &&& 31).toUInt32).toInt32) &&& (255 : Int32)).toUInt32.toUInt16.toUInt32.toInt32)))] (.int (0 : Int32)) := V_b13_15
    simp only [own_xnar] at q
    exact q
  obtain ⟨_, _, ⟨T16, L16, k16, n16⟩, -, X16, ⟨Lc16, hQ16, l16, y16, z16⟩, st16⟩ := X15.specialBack hx (y := (⟨"java/lang/String", "<init>", "([C)V"⟩ : MethodName)) rfl hown11 (mvT hZ11 (hw _ (wI 4 rfl))) (mvT hZ11 (hw _ (wI 5 rfl))) (mvT hZ11 (hw _ (wI 6 rfl))) (by decide) (StrChars.Road.backV (W := 1) hZ11 hws (kI := 4) (hw _ (wI 1 rfl)) (cs := [((p3 &&& (255 : Int32)).toUInt32.toUInt16.toUInt32.toInt32), ((((p3.toUInt32 >>> ((8 : Int32) &&& 31).toUInt32).toInt32) &&& (255 : Int32)).toUInt32.toUInt16.toUInt32.toInt32)]) (bs := [(((p3 &&& (255 : Int32)).toUInt32.toUInt16.toUInt32.toInt32)).toInt8.toInt32, (((((p3.toUInt32 >>> ((8 : Int32) &&& 31).toUInt32).toInt32) &&& (255 : Int32)).toUInt32.toUInt16.toUInt32.toInt32)).toInt8.toInt32]) (n := 2) g_b12 Zb16 Eb16 Fvb16 Fcb16 Vb16 SC16 P3 rfl rfl (by decide) (by decide) (own_lS (own_x255 _) (own_lS (own_x255 _) own_l0)) rfl (by decide) (by decide)) (g := (mkF m 134 (own_Ln2 p1 p2 p3 b4 b9) [(.ref b13), (.ref b12), (.ref b12)])) rfl (by rw [hml]; rfl) (Steps.refl _) (a := b12) (argsL := [(.ref b13)]) (rest := [(.ref b12)]) (lenOf pd_0_0 rfl) rfl (by show 2 * 0 + _ ≤ _; exact Nat.le_of_eq rfl) (hb hby at_134) (fun _ _ => ⟨rfl, e15, (by decide : 9 + 1 ≤ _), (by decide : 22 + 2 ≤ _)⟩)
  dsimp only [Pt.U, Pt.locs, Pt.cells, Pt.slots] at X16 l16 y16 z16 st16 hQ16
  rw [l16, y16, z16] at X16
  obtain ⟨rfl, N16q, Kc16, Eq16, Fcq16, t16, kt16, g_t16, gz_t16, ne_t16, Fvq16, Vq16⟩ := hQ16
  have N16 := Fr.app N15 N16q
  have Kq16 : Keep h15 T16.heap [b12] := Kc16
  have K16 : Keep h0 T16.heap [] := K15.trans Kq16 (own_trS (Or.inr sz_b12) all0)
  have R16 := R15.trans (CHr.keep Kq16 (sfS Sf_b12_15 sf0) R15.1)
  have Sf_b12_16 := Safe.keep Kq16 (sfS Sf_b12_15 sf0) R15.1 Sf_b12_15
  have Sf_b13_16 := Safe.keep Kq16 (sfS Sf_b12_15 sf0) R15.1 Sf_b13_15
  have Sf_t16_16 := Safe.keep Kq16 (sfS Sf_b12_15 sf0) R15.1 (Safe.new gz_t16)
  obtain ⟨T17, h17, X17, e17, E17, A17, D17, Un17, st17⟩ := newO X16 hx hZ11 hown11 (hw _ (wI 0 rfl)) (hw _ (wI 1 rfl)) (hw _ (wI 2 rfl)) rfl (g := (mkF m 381 (own_Ln0 p1 p2 p3 b12 b4 b9) [])) rfl (hb hby at_381) (by decide) (by decide)
  obtain ⟨b17, g17⟩ : ∃ z, z = T16.heap.size := ⟨_, rfl⟩
  rw [← g17] at A17 D17 Un17 st17
  have U_b17 : Unt h17 b17 := Un17
  have F_coder_b17 : Fld Z h17 b17 "java/lang/String" "coder" "B" (.int (0 : Int32)) := D17 (Or.inr (hw _ (wI 27 rfl))) (ty := .byte) (by decide)
  have F_value_b17 : Fld Z h17 b17 "java/lang/String" "value" "[B" .null := D17 (Or.inr (hw _ (wI 29 rfl))) (ty := (.array .byte)) (by decide)
  have R17 := R16.trans (CHr.ext E17 R16.1)
  have Sf_b17_17 := Safe.ext E17 R16.1 (Safe.new (Nat.le_of_eq g17.symm))
  have E_b17 := A17
  have g_b17 : n0 ≤ b17 := Nat.le_trans (Nat.le_trans (Nat.le_trans (Nat.le_trans (Nat.le_trans (Nat.le_trans (Nat.le_trans (Nat.le_trans (Nat.le_trans (Nat.le_trans (Nat.le_trans (Nat.le_trans (Nat.le_trans (Nat.le_trans Z0 E4.1) E5.1) (Keep.of_wr W6).1) (Keep.of_wr W7).1) Kq8.1) E9.1) E10.1) Kq11.1) E12.1) E13.1) (Keep.of_wr W14).1) (Keep.of_wr W15).1) Kq16.1) (Nat.le_of_eq g17.symm)
  have sz_b17 : h0.size ≤ b17 := (Nat.le_trans K16.1 (Nat.le_of_eq g17.symm))
  have K17 : Keep h0 h17 [] := K16.ext E17
  obtain ⟨T18, h18, k18, X18, e18, E18, A18, st18⟩ := newP X17 hx hZ11 (hw _ (wI 3 rfl)) e17 (g := (mkF m 387 (own_Ln0 p1 p2 p3 b12 b4 b9) [(.int (37 : Int32)), (.ref b17), (.ref b17)])) rfl (hb hby at_387) rfl (by decide) (cap := 37) (by decide) (by decide) (by decide) (by decide)
  obtain ⟨b18, g18⟩ : ∃ z, z = h17.size := ⟨_, rfl⟩
  rw [← g18] at A18 st18
  have V_b18 : Arv Z h18 b18 k18 .char (37 : Int32) [(.int (0 : Int32)), (.int (0 : Int32)), (.int (0 : Int32)), (.int (0 : Int32)), (.int (0 : Int32)), (.int (0 : Int32)), (.int (0 : Int32)), (.int (0 : Int32)), (.int (0 : Int32)), (.int (0 : Int32)), (.int (0 : Int32)), (.int (0 : Int32)), (.int (0 : Int32)), (.int (0 : Int32)), (.int (0 : Int32)), (.int (0 : Int32)), (.int (0 : Int32)), (.int (0 : Int32)), (.int (0 : Int32)), (.int (0 : Int32)), (.int (0 : Int32)), (.int (0 : Int32)), (.int (0 : Int32)), (.int (0 : Int32)), (.int (0 : Int32)), (.int (0 : Int32)), (.int (0 : Int32)), (.int (0 : Int32)), (.int (0 : Int32)), (.int (0 : Int32)), (.int (0 : Int32)), (.int (0 : Int32)), (.int (0 : Int32)), (.int (0 : Int32)), (.int (0 : Int32)), (.int (0 : Int32)), (.int (0 : Int32))] (.int (0 : Int32)) := (Arv.new A18 (by decide)).pad (pad_rep [] (.int (0 : Int32)) 37)
  have V_b18 : Arv Z h18 b18 k18 .char (37 : Int32) (own_fill (own_Fn p1 p2 p3) 37 0) (.int (0 : Int32)) := V_b18
  have g_b18 : n0 ≤ b18 := Nat.le_trans (Nat.le_trans (Nat.le_trans (Nat.le_trans (Nat.le_trans (Nat.le_trans (Nat.le_trans (Nat.le_trans (Nat.le_trans (Nat.le_trans (Nat.le_trans (Nat.le_trans (Nat.le_trans (Nat.le_trans (Nat.le_trans Z0 E4.1) E5.1) (Keep.of_wr W6).1) (Keep.of_wr W7).1) Kq8.1) E9.1) E10.1) Kq11.1) E12.1) E13.1) (Keep.of_wr W14).1) (Keep.of_wr W15).1) Kq16.1) E17.1) (Nat.le_of_eq g18.symm)
  have sz_b18 : h0.size ≤ b18 := (Nat.le_trans K17.1 (Nat.le_of_eq g18.symm))
  have R18 := R17.trans (CHr.ext E18 R17.1)
  have Sf_b17_18 := Safe.ext E18 R17.1 Sf_b17_17
  have Sf_b18_18 := Safe.ext E18 R17.1 (Safe.new (Nat.le_of_eq g18.symm))
  have K18 : Keep h0 h18 [] := K17.ext E18
  obtain ⟨cl_b18_393, Ar_b18, q_b18, S_b18, N_b18, H_b18, G_b18⟩ := V_b18
  have hin393 : ¬ ((0 : Int32) < 0 ∨ cl_b18_393.slots.size ≤ ((0 : Int32)).toNatClampNeg) := inb_of S_b18 ⟨by decide, by decide⟩
  obtain ⟨T19, h19, X19, e19, W19, st19⟩ := stC X18 hx hZ11 e18 Ar_b18 (j := (0 : Int32)) hin393 (g := (mkF m 393 (own_Ln0 p1 p2 p3 b12 b4 b9) [(.int (116 : Int32)), (.int (0 : Int32)), (.ref b18), (.ref b18), (.ref b17), (.ref b17)])) rfl rfl (hb hby at_393)
  have V_b18_19 := own_fillS (k := 0) (own_Fnl p1 p2 p3) (by decide) rfl (Arv.set Ar_b18 q_b18 S_b18 N_b18 H_b18 G_b18 (fits_nar_char _) W19 0 rfl (own_flt (own_Fnl p1 p2 p3) (by decide)))
  have R19 := R18.trans (CHr.wr W19 Sf_b18_18 R18.1)
  have Sf_b17_19 := Safe.wr W19 Sf_b18_18 R18.1 Sf_b17_18
  have Sf_b18_19 := Safe.wr W19 Sf_b18_18 R18.1 Sf_b18_18
  have K19 : Keep h0 h19 [] := K18.wr W19 (Or.inr sz_b18)
  have N19 := Fr.snoc X19 N16 g_b18
  obtain ⟨cl_b18_398, Ar_b18, q_b18, S_b18, N_b18, H_b18, G_b18⟩ := V_b18_19
  have hin398 : ¬ ((1 : Int32) < 0 ∨ cl_b18_398.slots.size ≤ ((1 : Int32)).toNatClampNeg) := inb_of S_b18 ⟨by decide, by decide⟩
  obtain ⟨T20, h20, X20, e20, W20, st20⟩ := stC X19 hx hZ11 e19 Ar_b18 (j := (1 : Int32)) hin398 (g := (mkF m 398 (own_Ln0 p1 p2 p3 b12 b4 b9) [(.int (104 : Int32)), (.int (1 : Int32)), (.ref b18), (.ref b18), (.ref b17), (.ref b17)])) rfl rfl (hb hby at_398)
  have V_b18_20 := own_fillS (k := 1) (own_Fnl p1 p2 p3) (by decide) rfl (Arv.set Ar_b18 q_b18 S_b18 N_b18 H_b18 G_b18 (fits_nar_char _) W20 1 rfl (own_flt (own_Fnl p1 p2 p3) (by decide)))
  have R20 := R19.trans (CHr.wr W20 Sf_b18_19 R19.1)
  have Sf_b17_20 := Safe.wr W20 Sf_b18_19 R19.1 Sf_b17_19
  have Sf_b18_20 := Safe.wr W20 Sf_b18_19 R19.1 Sf_b18_19
  have K20 : Keep h0 h20 [] := K19.wr W20 (Or.inr sz_b18)
  have N20 := Fr.snoc X20 N19 g_b18
  obtain ⟨cl_b18_403, Ar_b18, q_b18, S_b18, N_b18, H_b18, G_b18⟩ := V_b18_20
  have hin403 : ¬ ((2 : Int32) < 0 ∨ cl_b18_403.slots.size ≤ ((2 : Int32)).toNatClampNeg) := inb_of S_b18 ⟨by decide, by decide⟩
  obtain ⟨T21, h21, X21, e21, W21, st21⟩ := stC X20 hx hZ11 e20 Ar_b18 (j := (2 : Int32)) hin403 (g := (mkF m 403 (own_Ln0 p1 p2 p3 b12 b4 b9) [(.int (101 : Int32)), (.int (2 : Int32)), (.ref b18), (.ref b18), (.ref b17), (.ref b17)])) rfl rfl (hb hby at_403)
  have V_b18_21 := own_fillS (k := 2) (own_Fnl p1 p2 p3) (by decide) rfl (Arv.set Ar_b18 q_b18 S_b18 N_b18 H_b18 G_b18 (fits_nar_char _) W21 2 rfl (own_flt (own_Fnl p1 p2 p3) (by decide)))
  have R21 := R20.trans (CHr.wr W21 Sf_b18_20 R20.1)
  have Sf_b17_21 := Safe.wr W21 Sf_b18_20 R20.1 Sf_b17_20
  have Sf_b18_21 := Safe.wr W21 Sf_b18_20 R20.1 Sf_b18_20
  have K21 : Keep h0 h21 [] := K20.wr W21 (Or.inr sz_b18)
  have N21 := Fr.snoc X21 N20 g_b18
  obtain ⟨cl_b18_408, Ar_b18, q_b18, S_b18, N_b18, H_b18, G_b18⟩ := V_b18_21
  have hin408 : ¬ ((3 : Int32) < 0 ∨ cl_b18_408.slots.size ≤ ((3 : Int32)).toNatClampNeg) := inb_of S_b18 ⟨by decide, by decide⟩
  obtain ⟨T22, h22, X22, e22, W22, st22⟩ := stC X21 hx hZ11 e21 Ar_b18 (j := (3 : Int32)) hin408 (g := (mkF m 408 (own_Ln0 p1 p2 p3 b12 b4 b9) [(.int (32 : Int32)), (.int (3 : Int32)), (.ref b18), (.ref b18), (.ref b17), (.ref b17)])) rfl rfl (hb hby at_408)
  have V_b18_22 := own_fillS (k := 3) (own_Fnl p1 p2 p3) (by decide) rfl (Arv.set Ar_b18 q_b18 S_b18 N_b18 H_b18 G_b18 (fits_nar_char _) W22 3 rfl (own_flt (own_Fnl p1 p2 p3) (by decide)))
  have R22 := R21.trans (CHr.wr W22 Sf_b18_21 R21.1)
  have Sf_b17_22 := Safe.wr W22 Sf_b18_21 R21.1 Sf_b17_21
  have Sf_b18_22 := Safe.wr W22 Sf_b18_21 R21.1 Sf_b18_21
  have K22 : Keep h0 h22 [] := K21.wr W22 (Or.inr sz_b18)
  have N22 := Fr.snoc X22 N21 g_b18
  obtain ⟨cl_b18_413, Ar_b18, q_b18, S_b18, N_b18, H_b18, G_b18⟩ := V_b18_22
  have hin413 : ¬ ((4 : Int32) < 0 ∨ cl_b18_413.slots.size ≤ ((4 : Int32)).toNatClampNeg) := inb_of S_b18 ⟨by decide, by decide⟩
  obtain ⟨T23, h23, X23, e23, W23, st23⟩ := stC X22 hx hZ11 e22 Ar_b18 (j := (4 : Int32)) hin413 (g := (mkF m 413 (own_Ln0 p1 p2 p3 b12 b4 b9) [(.int (115 : Int32)), (.int (4 : Int32)), (.ref b18), (.ref b18), (.ref b17), (.ref b17)])) rfl rfl (hb hby at_413)
  have V_b18_23 := own_fillS (k := 4) (own_Fnl p1 p2 p3) (by decide) rfl (Arv.set Ar_b18 q_b18 S_b18 N_b18 H_b18 G_b18 (fits_nar_char _) W23 4 rfl (own_flt (own_Fnl p1 p2 p3) (by decide)))
  have R23 := R22.trans (CHr.wr W23 Sf_b18_22 R22.1)
  have Sf_b17_23 := Safe.wr W23 Sf_b18_22 R22.1 Sf_b17_22
  have Sf_b18_23 := Safe.wr W23 Sf_b18_22 R22.1 Sf_b18_22
  have K23 : Keep h0 h23 [] := K22.wr W23 (Or.inr sz_b18)
  have N23 := Fr.snoc X23 N22 g_b18
  obtain ⟨cl_b18_418, Ar_b18, q_b18, S_b18, N_b18, H_b18, G_b18⟩ := V_b18_23
  have hin418 : ¬ ((5 : Int32) < 0 ∨ cl_b18_418.slots.size ≤ ((5 : Int32)).toNatClampNeg) := inb_of S_b18 ⟨by decide, by decide⟩
  obtain ⟨T24, h24, X24, e24, W24, st24⟩ := stC X23 hx hZ11 e23 Ar_b18 (j := (5 : Int32)) hin418 (g := (mkF m 418 (own_Ln0 p1 p2 p3 b12 b4 b9) [(.int (121 : Int32)), (.int (5 : Int32)), (.ref b18), (.ref b18), (.ref b17), (.ref b17)])) rfl rfl (hb hby at_418)
  have V_b18_24 := own_fillS (k := 5) (own_Fnl p1 p2 p3) (by decide) rfl (Arv.set Ar_b18 q_b18 S_b18 N_b18 H_b18 G_b18 (fits_nar_char _) W24 5 rfl (own_flt (own_Fnl p1 p2 p3) (by decide)))
  have R24 := R23.trans (CHr.wr W24 Sf_b18_23 R23.1)
  have Sf_b17_24 := Safe.wr W24 Sf_b18_23 R23.1 Sf_b17_23
  have Sf_b18_24 := Safe.wr W24 Sf_b18_23 R23.1 Sf_b18_23
  have K24 : Keep h0 h24 [] := K23.wr W24 (Or.inr sz_b18)
  have N24 := Fr.snoc X24 N23 g_b18
  obtain ⟨cl_b18_424, Ar_b18, q_b18, S_b18, N_b18, H_b18, G_b18⟩ := V_b18_24
  have hin424 : ¬ ((6 : Int32) < 0 ∨ cl_b18_424.slots.size ≤ ((6 : Int32)).toNatClampNeg) := inb_of S_b18 ⟨by decide, by decide⟩
  obtain ⟨T25, h25, X25, e25, W25, st25⟩ := stC X24 hx hZ11 e24 Ar_b18 (j := (6 : Int32)) hin424 (g := (mkF m 424 (own_Ln0 p1 p2 p3 b12 b4 b9) [(.int (115 : Int32)), (.int (6 : Int32)), (.ref b18), (.ref b18), (.ref b17), (.ref b17)])) rfl rfl (hb hby at_424)
  have V_b18_25 := own_fillS (k := 6) (own_Fnl p1 p2 p3) (by decide) rfl (Arv.set Ar_b18 q_b18 S_b18 N_b18 H_b18 G_b18 (fits_nar_char _) W25 6 rfl (own_flt (own_Fnl p1 p2 p3) (by decide)))
  have R25 := R24.trans (CHr.wr W25 Sf_b18_24 R24.1)
  have Sf_b17_25 := Safe.wr W25 Sf_b18_24 R24.1 Sf_b17_24
  have Sf_b18_25 := Safe.wr W25 Sf_b18_24 R24.1 Sf_b18_24
  have K25 : Keep h0 h25 [] := K24.wr W25 (Or.inr sz_b18)
  have N25 := Fr.snoc X25 N24 g_b18
  obtain ⟨cl_b18_430, Ar_b18, q_b18, S_b18, N_b18, H_b18, G_b18⟩ := V_b18_25
  have hin430 : ¬ ((7 : Int32) < 0 ∨ cl_b18_430.slots.size ≤ ((7 : Int32)).toNatClampNeg) := inb_of S_b18 ⟨by decide, by decide⟩
  obtain ⟨T26, h26, X26, e26, W26, st26⟩ := stC X25 hx hZ11 e25 Ar_b18 (j := (7 : Int32)) hin430 (g := (mkF m 430 (own_Ln0 p1 p2 p3 b12 b4 b9) [(.int (116 : Int32)), (.int (7 : Int32)), (.ref b18), (.ref b18), (.ref b17), (.ref b17)])) rfl rfl (hb hby at_430)
  have V_b18_26 := own_fillS (k := 7) (own_Fnl p1 p2 p3) (by decide) rfl (Arv.set Ar_b18 q_b18 S_b18 N_b18 H_b18 G_b18 (fits_nar_char _) W26 7 rfl (own_flt (own_Fnl p1 p2 p3) (by decide)))
  have R26 := R25.trans (CHr.wr W26 Sf_b18_25 R25.1)
  have Sf_b17_26 := Safe.wr W26 Sf_b18_25 R25.1 Sf_b17_25
  have Sf_b18_26 := Safe.wr W26 Sf_b18_25 R25.1 Sf_b18_25
  have K26 : Keep h0 h26 [] := K25.wr W26 (Or.inr sz_b18)
  have N26 := Fr.snoc X26 N25 g_b18
  obtain ⟨cl_b18_436, Ar_b18, q_b18, S_b18, N_b18, H_b18, G_b18⟩ := V_b18_26
  have hin436 : ¬ ((8 : Int32) < 0 ∨ cl_b18_436.slots.size ≤ ((8 : Int32)).toNatClampNeg) := inb_of S_b18 ⟨by decide, by decide⟩
  obtain ⟨T27, h27, X27, e27, W27, st27⟩ := stC X26 hx hZ11 e26 Ar_b18 (j := (8 : Int32)) hin436 (g := (mkF m 436 (own_Ln0 p1 p2 p3 b12 b4 b9) [(.int (101 : Int32)), (.int (8 : Int32)), (.ref b18), (.ref b18), (.ref b17), (.ref b17)])) rfl rfl (hb hby at_436)
  have V_b18_27 := own_fillS (k := 8) (own_Fnl p1 p2 p3) (by decide) rfl (Arv.set Ar_b18 q_b18 S_b18 N_b18 H_b18 G_b18 (fits_nar_char _) W27 8 rfl (own_flt (own_Fnl p1 p2 p3) (by decide)))
  have R27 := R26.trans (CHr.wr W27 Sf_b18_26 R26.1)
  have Sf_b17_27 := Safe.wr W27 Sf_b18_26 R26.1 Sf_b17_26
  have Sf_b18_27 := Safe.wr W27 Sf_b18_26 R26.1 Sf_b18_26
  have K27 : Keep h0 h27 [] := K26.wr W27 (Or.inr sz_b18)
  have N27 := Fr.snoc X27 N26 g_b18
  obtain ⟨cl_b18_442, Ar_b18, q_b18, S_b18, N_b18, H_b18, G_b18⟩ := V_b18_27
  have hin442 : ¬ ((9 : Int32) < 0 ∨ cl_b18_442.slots.size ≤ ((9 : Int32)).toNatClampNeg) := inb_of S_b18 ⟨by decide, by decide⟩
  obtain ⟨T28, h28, X28, e28, W28, st28⟩ := stC X27 hx hZ11 e27 Ar_b18 (j := (9 : Int32)) hin442 (g := (mkF m 442 (own_Ln0 p1 p2 p3 b12 b4 b9) [(.int (109 : Int32)), (.int (9 : Int32)), (.ref b18), (.ref b18), (.ref b17), (.ref b17)])) rfl rfl (hb hby at_442)
  have V_b18_28 := own_fillS (k := 9) (own_Fnl p1 p2 p3) (by decide) rfl (Arv.set Ar_b18 q_b18 S_b18 N_b18 H_b18 G_b18 (fits_nar_char _) W28 9 rfl (own_flt (own_Fnl p1 p2 p3) (by decide)))
  have R28 := R27.trans (CHr.wr W28 Sf_b18_27 R27.1)
  have Sf_b17_28 := Safe.wr W28 Sf_b18_27 R27.1 Sf_b17_27
  have Sf_b18_28 := Safe.wr W28 Sf_b18_27 R27.1 Sf_b18_27
  have K28 : Keep h0 h28 [] := K27.wr W28 (Or.inr sz_b18)
  have N28 := Fr.snoc X28 N27 g_b18
  obtain ⟨cl_b18_448, Ar_b18, q_b18, S_b18, N_b18, H_b18, G_b18⟩ := V_b18_28
  have hin448 : ¬ ((10 : Int32) < 0 ∨ cl_b18_448.slots.size ≤ ((10 : Int32)).toNatClampNeg) := inb_of S_b18 ⟨by decide, by decide⟩
  obtain ⟨T29, h29, X29, e29, W29, st29⟩ := stC X28 hx hZ11 e28 Ar_b18 (j := (10 : Int32)) hin448 (g := (mkF m 448 (own_Ln0 p1 p2 p3 b12 b4 b9) [(.int (32 : Int32)), (.int (10 : Int32)), (.ref b18), (.ref b18), (.ref b17), (.ref b17)])) rfl rfl (hb hby at_448)
  have V_b18_29 := own_fillS (k := 10) (own_Fnl p1 p2 p3) (by decide) rfl (Arv.set Ar_b18 q_b18 S_b18 N_b18 H_b18 G_b18 (fits_nar_char _) W29 10 rfl (own_flt (own_Fnl p1 p2 p3) (by decide)))
  have R29 := R28.trans (CHr.wr W29 Sf_b18_28 R28.1)
  have Sf_b17_29 := Safe.wr W29 Sf_b18_28 R28.1 Sf_b17_28
  have Sf_b18_29 := Safe.wr W29 Sf_b18_28 R28.1 Sf_b18_28
  have K29 : Keep h0 h29 [] := K28.wr W29 (Or.inr sz_b18)
  have N29 := Fr.snoc X29 N28 g_b18
  obtain ⟨cl_b18_454, Ar_b18, q_b18, S_b18, N_b18, H_b18, G_b18⟩ := V_b18_29
  have hin454 : ¬ ((11 : Int32) < 0 ∨ cl_b18_454.slots.size ≤ ((11 : Int32)).toNatClampNeg) := inb_of S_b18 ⟨by decide, by decide⟩
  obtain ⟨T30, h30, X30, e30, W30, st30⟩ := stC X29 hx hZ11 e29 Ar_b18 (j := (11 : Int32)) hin454 (g := (mkF m 454 (own_Ln0 p1 p2 p3 b12 b4 b9) [(.int (112 : Int32)), (.int (11 : Int32)), (.ref b18), (.ref b18), (.ref b17), (.ref b17)])) rfl rfl (hb hby at_454)
  have V_b18_30 := own_fillS (k := 11) (own_Fnl p1 p2 p3) (by decide) rfl (Arv.set Ar_b18 q_b18 S_b18 N_b18 H_b18 G_b18 (fits_nar_char _) W30 11 rfl (own_flt (own_Fnl p1 p2 p3) (by decide)))
  have R30 := R29.trans (CHr.wr W30 Sf_b18_29 R29.1)
  have Sf_b17_30 := Safe.wr W30 Sf_b18_29 R29.1 Sf_b17_29
  have Sf_b18_30 := Safe.wr W30 Sf_b18_29 R29.1 Sf_b18_29
  have K30 : Keep h0 h30 [] := K29.wr W30 (Or.inr sz_b18)
  have N30 := Fr.snoc X30 N29 g_b18
  obtain ⟨cl_b18_460, Ar_b18, q_b18, S_b18, N_b18, H_b18, G_b18⟩ := V_b18_30
  have hin460 : ¬ ((12 : Int32) < 0 ∨ cl_b18_460.slots.size ≤ ((12 : Int32)).toNatClampNeg) := inb_of S_b18 ⟨by decide, by decide⟩
  obtain ⟨T31, h31, X31, e31, W31, st31⟩ := stC X30 hx hZ11 e30 Ar_b18 (j := (12 : Int32)) hin460 (g := (mkF m 460 (own_Ln0 p1 p2 p3 b12 b4 b9) [(.int (114 : Int32)), (.int (12 : Int32)), (.ref b18), (.ref b18), (.ref b17), (.ref b17)])) rfl rfl (hb hby at_460)
  have V_b18_31 := own_fillS (k := 12) (own_Fnl p1 p2 p3) (by decide) rfl (Arv.set Ar_b18 q_b18 S_b18 N_b18 H_b18 G_b18 (fits_nar_char _) W31 12 rfl (own_flt (own_Fnl p1 p2 p3) (by decide)))
  have R31 := R30.trans (CHr.wr W31 Sf_b18_30 R30.1)
  have Sf_b17_31 := Safe.wr W31 Sf_b18_30 R30.1 Sf_b17_30
  have Sf_b18_31 := Safe.wr W31 Sf_b18_30 R30.1 Sf_b18_30
  have K31 : Keep h0 h31 [] := K30.wr W31 (Or.inr sz_b18)
  have N31 := Fr.snoc X31 N30 g_b18
  obtain ⟨cl_b18_466, Ar_b18, q_b18, S_b18, N_b18, H_b18, G_b18⟩ := V_b18_31
  have hin466 : ¬ ((13 : Int32) < 0 ∨ cl_b18_466.slots.size ≤ ((13 : Int32)).toNatClampNeg) := inb_of S_b18 ⟨by decide, by decide⟩
  obtain ⟨T32, h32, X32, e32, W32, st32⟩ := stC X31 hx hZ11 e31 Ar_b18 (j := (13 : Int32)) hin466 (g := (mkF m 466 (own_Ln0 p1 p2 p3 b12 b4 b9) [(.int (111 : Int32)), (.int (13 : Int32)), (.ref b18), (.ref b18), (.ref b17), (.ref b17)])) rfl rfl (hb hby at_466)
  have V_b18_32 := own_fillS (k := 13) (own_Fnl p1 p2 p3) (by decide) rfl (Arv.set Ar_b18 q_b18 S_b18 N_b18 H_b18 G_b18 (fits_nar_char _) W32 13 rfl (own_flt (own_Fnl p1 p2 p3) (by decide)))
  have R32 := R31.trans (CHr.wr W32 Sf_b18_31 R31.1)
  have Sf_b17_32 := Safe.wr W32 Sf_b18_31 R31.1 Sf_b17_31
  have Sf_b18_32 := Safe.wr W32 Sf_b18_31 R31.1 Sf_b18_31
  have K32 : Keep h0 h32 [] := K31.wr W32 (Or.inr sz_b18)
  have N32 := Fr.snoc X32 N31 g_b18
  obtain ⟨cl_b18_472, Ar_b18, q_b18, S_b18, N_b18, H_b18, G_b18⟩ := V_b18_32
  have hin472 : ¬ ((14 : Int32) < 0 ∨ cl_b18_472.slots.size ≤ ((14 : Int32)).toNatClampNeg) := inb_of S_b18 ⟨by decide, by decide⟩
  obtain ⟨T33, h33, X33, e33, W33, st33⟩ := stC X32 hx hZ11 e32 Ar_b18 (j := (14 : Int32)) hin472 (g := (mkF m 472 (own_Ln0 p1 p2 p3 b12 b4 b9) [(.int (112 : Int32)), (.int (14 : Int32)), (.ref b18), (.ref b18), (.ref b17), (.ref b17)])) rfl rfl (hb hby at_472)
  have V_b18_33 := own_fillS (k := 14) (own_Fnl p1 p2 p3) (by decide) rfl (Arv.set Ar_b18 q_b18 S_b18 N_b18 H_b18 G_b18 (fits_nar_char _) W33 14 rfl (own_flt (own_Fnl p1 p2 p3) (by decide)))
  have R33 := R32.trans (CHr.wr W33 Sf_b18_32 R32.1)
  have Sf_b17_33 := Safe.wr W33 Sf_b18_32 R32.1 Sf_b17_32
  have Sf_b18_33 := Safe.wr W33 Sf_b18_32 R32.1 Sf_b18_32
  have K33 : Keep h0 h33 [] := K32.wr W33 (Or.inr sz_b18)
  have N33 := Fr.snoc X33 N32 g_b18
  obtain ⟨cl_b18_478, Ar_b18, q_b18, S_b18, N_b18, H_b18, G_b18⟩ := V_b18_33
  have hin478 : ¬ ((15 : Int32) < 0 ∨ cl_b18_478.slots.size ≤ ((15 : Int32)).toNatClampNeg) := inb_of S_b18 ⟨by decide, by decide⟩
  obtain ⟨T34, h34, X34, e34, W34, st34⟩ := stC X33 hx hZ11 e33 Ar_b18 (j := (15 : Int32)) hin478 (g := (mkF m 478 (own_Ln0 p1 p2 p3 b12 b4 b9) [(.int (101 : Int32)), (.int (15 : Int32)), (.ref b18), (.ref b18), (.ref b17), (.ref b17)])) rfl rfl (hb hby at_478)
  have V_b18_34 := own_fillS (k := 15) (own_Fnl p1 p2 p3) (by decide) rfl (Arv.set Ar_b18 q_b18 S_b18 N_b18 H_b18 G_b18 (fits_nar_char _) W34 15 rfl (own_flt (own_Fnl p1 p2 p3) (by decide)))
  have R34 := R33.trans (CHr.wr W34 Sf_b18_33 R33.1)
  have Sf_b17_34 := Safe.wr W34 Sf_b18_33 R33.1 Sf_b17_33
  have Sf_b18_34 := Safe.wr W34 Sf_b18_33 R33.1 Sf_b18_33
  have K34 : Keep h0 h34 [] := K33.wr W34 (Or.inr sz_b18)
  have N34 := Fr.snoc X34 N33 g_b18
  obtain ⟨cl_b18_484, Ar_b18, q_b18, S_b18, N_b18, H_b18, G_b18⟩ := V_b18_34
  have hin484 : ¬ ((16 : Int32) < 0 ∨ cl_b18_484.slots.size ≤ ((16 : Int32)).toNatClampNeg) := inb_of S_b18 ⟨by decide, by decide⟩
  obtain ⟨T35, h35, X35, e35, W35, st35⟩ := stC X34 hx hZ11 e34 Ar_b18 (j := (16 : Int32)) hin484 (g := (mkF m 484 (own_Ln0 p1 p2 p3 b12 b4 b9) [(.int (114 : Int32)), (.int (16 : Int32)), (.ref b18), (.ref b18), (.ref b17), (.ref b17)])) rfl rfl (hb hby at_484)
  have V_b18_35 := own_fillS (k := 16) (own_Fnl p1 p2 p3) (by decide) rfl (Arv.set Ar_b18 q_b18 S_b18 N_b18 H_b18 G_b18 (fits_nar_char _) W35 16 rfl (own_flt (own_Fnl p1 p2 p3) (by decide)))
  have R35 := R34.trans (CHr.wr W35 Sf_b18_34 R34.1)
  have Sf_b17_35 := Safe.wr W35 Sf_b18_34 R34.1 Sf_b17_34
  have Sf_b18_35 := Safe.wr W35 Sf_b18_34 R34.1 Sf_b18_34
  have K35 : Keep h0 h35 [] := K34.wr W35 (Or.inr sz_b18)
  have N35 := Fr.snoc X35 N34 g_b18
  obtain ⟨cl_b18_490, Ar_b18, q_b18, S_b18, N_b18, H_b18, G_b18⟩ := V_b18_35
  have hin490 : ¬ ((17 : Int32) < 0 ∨ cl_b18_490.slots.size ≤ ((17 : Int32)).toNatClampNeg) := inb_of S_b18 ⟨by decide, by decide⟩
  obtain ⟨T36, h36, X36, e36, W36, st36⟩ := stC X35 hx hZ11 e35 Ar_b18 (j := (17 : Int32)) hin490 (g := (mkF m 490 (own_Ln0 p1 p2 p3 b12 b4 b9) [(.int (116 : Int32)), (.int (17 : Int32)), (.ref b18), (.ref b18), (.ref b17), (.ref b17)])) rfl rfl (hb hby at_490)
  have V_b18_36 := own_fillS (k := 17) (own_Fnl p1 p2 p3) (by decide) rfl (Arv.set Ar_b18 q_b18 S_b18 N_b18 H_b18 G_b18 (fits_nar_char _) W36 17 rfl (own_flt (own_Fnl p1 p2 p3) (by decide)))
  have R36 := R35.trans (CHr.wr W36 Sf_b18_35 R35.1)
  have Sf_b17_36 := Safe.wr W36 Sf_b18_35 R35.1 Sf_b17_35
  have Sf_b18_36 := Safe.wr W36 Sf_b18_35 R35.1 Sf_b18_35
  have K36 : Keep h0 h36 [] := K35.wr W36 (Or.inr sz_b18)
  have N36 := Fr.snoc X36 N35 g_b18
  obtain ⟨cl_b18_496, Ar_b18, q_b18, S_b18, N_b18, H_b18, G_b18⟩ := V_b18_36
  have hin496 : ¬ ((18 : Int32) < 0 ∨ cl_b18_496.slots.size ≤ ((18 : Int32)).toNatClampNeg) := inb_of S_b18 ⟨by decide, by decide⟩
  obtain ⟨T37, h37, X37, e37, W37, st37⟩ := stC X36 hx hZ11 e36 Ar_b18 (j := (18 : Int32)) hin496 (g := (mkF m 496 (own_Ln0 p1 p2 p3 b12 b4 b9) [(.int (121 : Int32)), (.int (18 : Int32)), (.ref b18), (.ref b18), (.ref b17), (.ref b17)])) rfl rfl (hb hby at_496)
  have V_b18_37 := own_fillS (k := 18) (own_Fnl p1 p2 p3) (by decide) rfl (Arv.set Ar_b18 q_b18 S_b18 N_b18 H_b18 G_b18 (fits_nar_char _) W37 18 rfl (own_flt (own_Fnl p1 p2 p3) (by decide)))
  have R37 := R36.trans (CHr.wr W37 Sf_b18_36 R36.1)
  have Sf_b17_37 := Safe.wr W37 Sf_b18_36 R36.1 Sf_b17_36
  have Sf_b18_37 := Safe.wr W37 Sf_b18_36 R36.1 Sf_b18_36
  have K37 : Keep h0 h37 [] := K36.wr W37 (Or.inr sz_b18)
  have N37 := Fr.snoc X37 N36 g_b18
  obtain ⟨cl_b18_502, Ar_b18, q_b18, S_b18, N_b18, H_b18, G_b18⟩ := V_b18_37
  have hin502 : ¬ ((19 : Int32) < 0 ∨ cl_b18_502.slots.size ≤ ((19 : Int32)).toNatClampNeg) := inb_of S_b18 ⟨by decide, by decide⟩
  obtain ⟨T38, h38, X38, e38, W38, st38⟩ := stC X37 hx hZ11 e37 Ar_b18 (j := (19 : Int32)) hin502 (g := (mkF m 502 (own_Ln0 p1 p2 p3 b12 b4 b9) [(.int (32 : Int32)), (.int (19 : Int32)), (.ref b18), (.ref b18), (.ref b17), (.ref b17)])) rfl rfl (hb hby at_502)
  have V_b18_38 := own_fillS (k := 19) (own_Fnl p1 p2 p3) (by decide) rfl (Arv.set Ar_b18 q_b18 S_b18 N_b18 H_b18 G_b18 (fits_nar_char _) W38 19 rfl (own_flt (own_Fnl p1 p2 p3) (by decide)))
  have R38 := R37.trans (CHr.wr W38 Sf_b18_37 R37.1)
  have Sf_b17_38 := Safe.wr W38 Sf_b18_37 R37.1 Sf_b17_37
  have Sf_b18_38 := Safe.wr W38 Sf_b18_37 R37.1 Sf_b18_37
  have K38 : Keep h0 h38 [] := K37.wr W38 (Or.inr sz_b18)
  have N38 := Fr.snoc X38 N37 g_b18
  obtain ⟨cl_b18_507, Ar_b18, q_b18, S_b18, N_b18, H_b18, G_b18⟩ := V_b18_38
  have hin507 : ¬ ((20 : Int32) < 0 ∨ cl_b18_507.slots.size ≤ ((20 : Int32)).toNatClampNeg) := inb_of S_b18 ⟨by decide, by decide⟩
  obtain ⟨T39, h39, X39, e39, W39, st39⟩ := stC X38 hx hZ11 e38 Ar_b18 (j := (20 : Int32)) hin507 (g := (mkF m 507 (own_Ln0 p1 p2 p3 b12 b4 b9) [(.int ((p1 &&& (255 : Int32)).toUInt32.toUInt16.toUInt32.toInt32)), (.int (20 : Int32)), (.ref b18), (.ref b18), (.ref b17), (.ref b17)])) rfl rfl (hb hby at_507)
  have V_b18_39 := own_fillS (k := 20) (own_Fnl p1 p2 p3) (by decide) rfl (Arv.set Ar_b18 q_b18 S_b18 N_b18 H_b18 G_b18 (fits_nar_char _) W39 20 rfl (own_flt (own_Fnl p1 p2 p3) (by decide)))
  have R39 := R38.trans (CHr.wr W39 Sf_b18_38 R38.1)
  have Sf_b17_39 := Safe.wr W39 Sf_b18_38 R38.1 Sf_b17_38
  have Sf_b18_39 := Safe.wr W39 Sf_b18_38 R38.1 Sf_b18_38
  have K39 : Keep h0 h39 [] := K38.wr W39 (Or.inr sz_b18)
  have N39 := Fr.snoc X39 N38 g_b18
  obtain ⟨cl_b18_513, Ar_b18, q_b18, S_b18, N_b18, H_b18, G_b18⟩ := V_b18_39
  have hin513 : ¬ ((21 : Int32) < 0 ∨ cl_b18_513.slots.size ≤ ((21 : Int32)).toNatClampNeg) := inb_of S_b18 ⟨by decide, by decide⟩
  obtain ⟨T40, h40, X40, e40, W40, st40⟩ := stC X39 hx hZ11 e39 Ar_b18 (j := (21 : Int32)) hin513 (g := (mkF m 513 (own_Ln0 p1 p2 p3 b12 b4 b9) [(.int ((((p1.toUInt32 >>> ((8 : Int32) &&& 31).toUInt32).toInt32) &&& (255 : Int32)).toUInt32.toUInt16.toUInt32.toInt32)), (.int (21 : Int32)), (.ref b18), (.ref b18), (.ref b17), (.ref b17)])) rfl rfl (hb hby at_513)
  have V_b18_40 := own_fillS (k := 21) (own_Fnl p1 p2 p3) (by decide) rfl (Arv.set Ar_b18 q_b18 S_b18 N_b18 H_b18 G_b18 (fits_nar_char _) W40 21 rfl (own_flt (own_Fnl p1 p2 p3) (by decide)))
  have R40 := R39.trans (CHr.wr W40 Sf_b18_39 R39.1)
  have Sf_b17_40 := Safe.wr W40 Sf_b18_39 R39.1 Sf_b17_39
  have Sf_b18_40 := Safe.wr W40 Sf_b18_39 R39.1 Sf_b18_39
  have K40 : Keep h0 h40 [] := K39.wr W40 (Or.inr sz_b18)
  have N40 := Fr.snoc X40 N39 g_b18
  obtain ⟨cl_b18_519, Ar_b18, q_b18, S_b18, N_b18, H_b18, G_b18⟩ := V_b18_40
  have hin519 : ¬ ((22 : Int32) < 0 ∨ cl_b18_519.slots.size ≤ ((22 : Int32)).toNatClampNeg) := inb_of S_b18 ⟨by decide, by decide⟩
  obtain ⟨T41, h41, X41, e41, W41, st41⟩ := stC X40 hx hZ11 e40 Ar_b18 (j := (22 : Int32)) hin519 (g := (mkF m 519 (own_Ln0 p1 p2 p3 b12 b4 b9) [(.int (32 : Int32)), (.int (22 : Int32)), (.ref b18), (.ref b18), (.ref b17), (.ref b17)])) rfl rfl (hb hby at_519)
  have V_b18_41 := own_fillS (k := 22) (own_Fnl p1 p2 p3) (by decide) rfl (Arv.set Ar_b18 q_b18 S_b18 N_b18 H_b18 G_b18 (fits_nar_char _) W41 22 rfl (own_flt (own_Fnl p1 p2 p3) (by decide)))
  have R41 := R40.trans (CHr.wr W41 Sf_b18_40 R40.1)
  have Sf_b17_41 := Safe.wr W41 Sf_b18_40 R40.1 Sf_b17_40
  have Sf_b18_41 := Safe.wr W41 Sf_b18_40 R40.1 Sf_b18_40
  have K41 : Keep h0 h41 [] := K40.wr W41 (Or.inr sz_b18)
  have N41 := Fr.snoc X41 N40 g_b18
  obtain ⟨cl_b18_525, Ar_b18, q_b18, S_b18, N_b18, H_b18, G_b18⟩ := V_b18_41
  have hin525 : ¬ ((23 : Int32) < 0 ∨ cl_b18_525.slots.size ≤ ((23 : Int32)).toNatClampNeg) := inb_of S_b18 ⟨by decide, by decide⟩
  obtain ⟨T42, h42, X42, e42, W42, st42⟩ := stC X41 hx hZ11 e41 Ar_b18 (j := (23 : Int32)) hin525 (g := (mkF m 525 (own_Ln0 p1 p2 p3 b12 b4 b9) [(.int (105 : Int32)), (.int (23 : Int32)), (.ref b18), (.ref b18), (.ref b17), (.ref b17)])) rfl rfl (hb hby at_525)
  have V_b18_42 := own_fillS (k := 23) (own_Fnl p1 p2 p3) (by decide) rfl (Arv.set Ar_b18 q_b18 S_b18 N_b18 H_b18 G_b18 (fits_nar_char _) W42 23 rfl (own_flt (own_Fnl p1 p2 p3) (by decide)))
  have R42 := R41.trans (CHr.wr W42 Sf_b18_41 R41.1)
  have Sf_b17_42 := Safe.wr W42 Sf_b18_41 R41.1 Sf_b17_41
  have Sf_b18_42 := Safe.wr W42 Sf_b18_41 R41.1 Sf_b18_41
  have K42 : Keep h0 h42 [] := K41.wr W42 (Or.inr sz_b18)
  have N42 := Fr.snoc X42 N41 g_b18
  obtain ⟨cl_b18_531, Ar_b18, q_b18, S_b18, N_b18, H_b18, G_b18⟩ := V_b18_42
  have hin531 : ¬ ((24 : Int32) < 0 ∨ cl_b18_531.slots.size ≤ ((24 : Int32)).toNatClampNeg) := inb_of S_b18 ⟨by decide, by decide⟩
  obtain ⟨T43, h43, X43, e43, W43, st43⟩ := stC X42 hx hZ11 e42 Ar_b18 (j := (24 : Int32)) hin531 (g := (mkF m 531 (own_Ln0 p1 p2 p3 b12 b4 b9) [(.int (115 : Int32)), (.int (24 : Int32)), (.ref b18), (.ref b18), (.ref b17), (.ref b17)])) rfl rfl (hb hby at_531)
  have V_b18_43 := own_fillS (k := 24) (own_Fnl p1 p2 p3) (by decide) rfl (Arv.set Ar_b18 q_b18 S_b18 N_b18 H_b18 G_b18 (fits_nar_char _) W43 24 rfl (own_flt (own_Fnl p1 p2 p3) (by decide)))
  have R43 := R42.trans (CHr.wr W43 Sf_b18_42 R42.1)
  have Sf_b17_43 := Safe.wr W43 Sf_b18_42 R42.1 Sf_b17_42
  have Sf_b18_43 := Safe.wr W43 Sf_b18_42 R42.1 Sf_b18_42
  have K43 : Keep h0 h43 [] := K42.wr W43 (Or.inr sz_b18)
  have N43 := Fr.snoc X43 N42 g_b18
  obtain ⟨cl_b18_537, Ar_b18, q_b18, S_b18, N_b18, H_b18, G_b18⟩ := V_b18_43
  have hin537 : ¬ ((25 : Int32) < 0 ∨ cl_b18_537.slots.size ≤ ((25 : Int32)).toNatClampNeg) := inb_of S_b18 ⟨by decide, by decide⟩
  obtain ⟨T44, h44, X44, e44, W44, st44⟩ := stC X43 hx hZ11 e43 Ar_b18 (j := (25 : Int32)) hin537 (g := (mkF m 537 (own_Ln0 p1 p2 p3 b12 b4 b9) [(.int (32 : Int32)), (.int (25 : Int32)), (.ref b18), (.ref b18), (.ref b17), (.ref b17)])) rfl rfl (hb hby at_537)
  have V_b18_44 := own_fillS (k := 25) (own_Fnl p1 p2 p3) (by decide) rfl (Arv.set Ar_b18 q_b18 S_b18 N_b18 H_b18 G_b18 (fits_nar_char _) W44 25 rfl (own_flt (own_Fnl p1 p2 p3) (by decide)))
  have R44 := R43.trans (CHr.wr W44 Sf_b18_43 R43.1)
  have Sf_b17_44 := Safe.wr W44 Sf_b18_43 R43.1 Sf_b17_43
  have Sf_b18_44 := Safe.wr W44 Sf_b18_43 R43.1 Sf_b18_43
  have K44 : Keep h0 h44 [] := K43.wr W44 (Or.inr sz_b18)
  have N44 := Fr.snoc X44 N43 g_b18
  obtain ⟨cl_b18_543, Ar_b18, q_b18, S_b18, N_b18, H_b18, G_b18⟩ := V_b18_44
  have hin543 : ¬ ((26 : Int32) < 0 ∨ cl_b18_543.slots.size ≤ ((26 : Int32)).toNatClampNeg) := inb_of S_b18 ⟨by decide, by decide⟩
  obtain ⟨T45, h45, X45, e45, W45, st45⟩ := stC X44 hx hZ11 e44 Ar_b18 (j := (26 : Int32)) hin543 (g := (mkF m 543 (own_Ln0 p1 p2 p3 b12 b4 b9) [(.int (34 : Int32)), (.int (26 : Int32)), (.ref b18), (.ref b18), (.ref b17), (.ref b17)])) rfl rfl (hb hby at_543)
  have V_b18_45 := own_fillS (k := 26) (own_Fnl p1 p2 p3) (by decide) rfl (Arv.set Ar_b18 q_b18 S_b18 N_b18 H_b18 G_b18 (fits_nar_char _) W45 26 rfl (own_flt (own_Fnl p1 p2 p3) (by decide)))
  have R45 := R44.trans (CHr.wr W45 Sf_b18_44 R44.1)
  have Sf_b17_45 := Safe.wr W45 Sf_b18_44 R44.1 Sf_b17_44
  have Sf_b18_45 := Safe.wr W45 Sf_b18_44 R44.1 Sf_b18_44
  have K45 : Keep h0 h45 [] := K44.wr W45 (Or.inr sz_b18)
  have N45 := Fr.snoc X45 N44 g_b18
  obtain ⟨cl_b18_549, Ar_b18, q_b18, S_b18, N_b18, H_b18, G_b18⟩ := V_b18_45
  have hin549 : ¬ ((27 : Int32) < 0 ∨ cl_b18_549.slots.size ≤ ((27 : Int32)).toNatClampNeg) := inb_of S_b18 ⟨by decide, by decide⟩
  obtain ⟨T46, h46, X46, e46, W46, st46⟩ := stC X45 hx hZ11 e45 Ar_b18 (j := (27 : Int32)) hin549 (g := (mkF m 549 (own_Ln0 p1 p2 p3 b12 b4 b9) [(.int (34 : Int32)), (.int (27 : Int32)), (.ref b18), (.ref b18), (.ref b17), (.ref b17)])) rfl rfl (hb hby at_549)
  have V_b18_46 := own_fillS (k := 27) (own_Fnl p1 p2 p3) (by decide) rfl (Arv.set Ar_b18 q_b18 S_b18 N_b18 H_b18 G_b18 (fits_nar_char _) W46 27 rfl (own_flt (own_Fnl p1 p2 p3) (by decide)))
  have R46 := R45.trans (CHr.wr W46 Sf_b18_45 R45.1)
  have Sf_b17_46 := Safe.wr W46 Sf_b18_45 R45.1 Sf_b17_45
  have Sf_b18_46 := Safe.wr W46 Sf_b18_45 R45.1 Sf_b18_45
  have K46 : Keep h0 h46 [] := K45.wr W46 (Or.inr sz_b18)
  have N46 := Fr.snoc X46 N45 g_b18
  obtain ⟨cl_b18_555, Ar_b18, q_b18, S_b18, N_b18, H_b18, G_b18⟩ := V_b18_46
  have hin555 : ¬ ((28 : Int32) < 0 ∨ cl_b18_555.slots.size ≤ ((28 : Int32)).toNatClampNeg) := inb_of S_b18 ⟨by decide, by decide⟩
  obtain ⟨T47, h47, X47, e47, W47, st47⟩ := stC X46 hx hZ11 e46 Ar_b18 (j := (28 : Int32)) hin555 (g := (mkF m 555 (own_Ln0 p1 p2 p3 b12 b4 b9) [(.int (59 : Int32)), (.int (28 : Int32)), (.ref b18), (.ref b18), (.ref b17), (.ref b17)])) rfl rfl (hb hby at_555)
  have V_b18_47 := own_fillS (k := 28) (own_Fnl p1 p2 p3) (by decide) rfl (Arv.set Ar_b18 q_b18 S_b18 N_b18 H_b18 G_b18 (fits_nar_char _) W47 28 rfl (own_flt (own_Fnl p1 p2 p3) (by decide)))
  have R47 := R46.trans (CHr.wr W47 Sf_b18_46 R46.1)
  have Sf_b17_47 := Safe.wr W47 Sf_b18_46 R46.1 Sf_b17_46
  have Sf_b18_47 := Safe.wr W47 Sf_b18_46 R46.1 Sf_b18_46
  have K47 : Keep h0 h47 [] := K46.wr W47 (Or.inr sz_b18)
  have N47 := Fr.snoc X47 N46 g_b18
  obtain ⟨cl_b18_561, Ar_b18, q_b18, S_b18, N_b18, H_b18, G_b18⟩ := V_b18_47
  have hin561 : ¬ ((29 : Int32) < 0 ∨ cl_b18_561.slots.size ≤ ((29 : Int32)).toNatClampNeg) := inb_of S_b18 ⟨by decide, by decide⟩
  obtain ⟨T48, h48, X48, e48, W48, st48⟩ := stC X47 hx hZ11 e47 Ar_b18 (j := (29 : Int32)) hin561 (g := (mkF m 561 (own_Ln0 p1 p2 p3 b12 b4 b9) [(.int (32 : Int32)), (.int (29 : Int32)), (.ref b18), (.ref b18), (.ref b17), (.ref b17)])) rfl rfl (hb hby at_561)
  have V_b18_48 := own_fillS (k := 29) (own_Fnl p1 p2 p3) (by decide) rfl (Arv.set Ar_b18 q_b18 S_b18 N_b18 H_b18 G_b18 (fits_nar_char _) W48 29 rfl (own_flt (own_Fnl p1 p2 p3) (by decide)))
  have R48 := R47.trans (CHr.wr W48 Sf_b18_47 R47.1)
  have Sf_b17_48 := Safe.wr W48 Sf_b18_47 R47.1 Sf_b17_47
  have Sf_b18_48 := Safe.wr W48 Sf_b18_47 R47.1 Sf_b18_47
  have K48 : Keep h0 h48 [] := K47.wr W48 (Or.inr sz_b18)
  have N48 := Fr.snoc X48 N47 g_b18
  obtain ⟨cl_b18_567, Ar_b18, q_b18, S_b18, N_b18, H_b18, G_b18⟩ := V_b18_48
  have hin567 : ¬ ((30 : Int32) < 0 ∨ cl_b18_567.slots.size ≤ ((30 : Int32)).toNatClampNeg) := inb_of S_b18 ⟨by decide, by decide⟩
  obtain ⟨T49, h49, X49, e49, W49, st49⟩ := stC X48 hx hZ11 e48 Ar_b18 (j := (30 : Int32)) hin567 (g := (mkF m 567 (own_Ln0 p1 p2 p3 b12 b4 b9) [(.int (103 : Int32)), (.int (30 : Int32)), (.ref b18), (.ref b18), (.ref b17), (.ref b17)])) rfl rfl (hb hby at_567)
  have V_b18_49 := own_fillS (k := 30) (own_Fnl p1 p2 p3) (by decide) rfl (Arv.set Ar_b18 q_b18 S_b18 N_b18 H_b18 G_b18 (fits_nar_char _) W49 30 rfl (own_flt (own_Fnl p1 p2 p3) (by decide)))
  have R49 := R48.trans (CHr.wr W49 Sf_b18_48 R48.1)
  have Sf_b17_49 := Safe.wr W49 Sf_b18_48 R48.1 Sf_b17_48
  have Sf_b18_49 := Safe.wr W49 Sf_b18_48 R48.1 Sf_b18_48
  have K49 : Keep h0 h49 [] := K48.wr W49 (Or.inr sz_b18)
  have N49 := Fr.snoc X49 N48 g_b18
  obtain ⟨cl_b18_573, Ar_b18, q_b18, S_b18, N_b18, H_b18, G_b18⟩ := V_b18_49
  have hin573 : ¬ ((31 : Int32) < 0 ∨ cl_b18_573.slots.size ≤ ((31 : Int32)).toNatClampNeg) := inb_of S_b18 ⟨by decide, by decide⟩
  obtain ⟨T50, h50, X50, e50, W50, st50⟩ := stC X49 hx hZ11 e49 Ar_b18 (j := (31 : Int32)) hin573 (g := (mkF m 573 (own_Ln0 p1 p2 p3 b12 b4 b9) [(.int (105 : Int32)), (.int (31 : Int32)), (.ref b18), (.ref b18), (.ref b17), (.ref b17)])) rfl rfl (hb hby at_573)
  have V_b18_50 := own_fillS (k := 31) (own_Fnl p1 p2 p3) (by decide) rfl (Arv.set Ar_b18 q_b18 S_b18 N_b18 H_b18 G_b18 (fits_nar_char _) W50 31 rfl (own_flt (own_Fnl p1 p2 p3) (by decide)))
  have R50 := R49.trans (CHr.wr W50 Sf_b18_49 R49.1)
  have Sf_b17_50 := Safe.wr W50 Sf_b18_49 R49.1 Sf_b17_49
  have Sf_b18_50 := Safe.wr W50 Sf_b18_49 R49.1 Sf_b18_49
  have K50 : Keep h0 h50 [] := K49.wr W50 (Or.inr sz_b18)
  have N50 := Fr.snoc X50 N49 g_b18
  obtain ⟨cl_b18_579, Ar_b18, q_b18, S_b18, N_b18, H_b18, G_b18⟩ := V_b18_50
  have hin579 : ¬ ((32 : Int32) < 0 ∨ cl_b18_579.slots.size ≤ ((32 : Int32)).toNatClampNeg) := inb_of S_b18 ⟨by decide, by decide⟩
  obtain ⟨T51, h51, X51, e51, W51, st51⟩ := stC X50 hx hZ11 e50 Ar_b18 (j := (32 : Int32)) hin579 (g := (mkF m 579 (own_Ln0 p1 p2 p3 b12 b4 b9) [(.int (118 : Int32)), (.int (32 : Int32)), (.ref b18), (.ref b18), (.ref b17), (.ref b17)])) rfl rfl (hb hby at_579)
  have V_b18_51 := own_fillS (k := 32) (own_Fnl p1 p2 p3) (by decide) rfl (Arv.set Ar_b18 q_b18 S_b18 N_b18 H_b18 G_b18 (fits_nar_char _) W51 32 rfl (own_flt (own_Fnl p1 p2 p3) (by decide)))
  have R51 := R50.trans (CHr.wr W51 Sf_b18_50 R50.1)
  have Sf_b17_51 := Safe.wr W51 Sf_b18_50 R50.1 Sf_b17_50
  have Sf_b18_51 := Safe.wr W51 Sf_b18_50 R50.1 Sf_b18_50
  have K51 : Keep h0 h51 [] := K50.wr W51 (Or.inr sz_b18)
  have N51 := Fr.snoc X51 N50 g_b18
  obtain ⟨cl_b18_585, Ar_b18, q_b18, S_b18, N_b18, H_b18, G_b18⟩ := V_b18_51
  have hin585 : ¬ ((33 : Int32) < 0 ∨ cl_b18_585.slots.size ≤ ((33 : Int32)).toNatClampNeg) := inb_of S_b18 ⟨by decide, by decide⟩
  obtain ⟨T52, h52, X52, e52, W52, st52⟩ := stC X51 hx hZ11 e51 Ar_b18 (j := (33 : Int32)) hin585 (g := (mkF m 585 (own_Ln0 p1 p2 p3 b12 b4 b9) [(.int (101 : Int32)), (.int (33 : Int32)), (.ref b18), (.ref b18), (.ref b17), (.ref b17)])) rfl rfl (hb hby at_585)
  have V_b18_52 := own_fillS (k := 33) (own_Fnl p1 p2 p3) (by decide) rfl (Arv.set Ar_b18 q_b18 S_b18 N_b18 H_b18 G_b18 (fits_nar_char _) W52 33 rfl (own_flt (own_Fnl p1 p2 p3) (by decide)))
  have R52 := R51.trans (CHr.wr W52 Sf_b18_51 R51.1)
  have Sf_b17_52 := Safe.wr W52 Sf_b18_51 R51.1 Sf_b17_51
  have Sf_b18_52 := Safe.wr W52 Sf_b18_51 R51.1 Sf_b18_51
  have K52 : Keep h0 h52 [] := K51.wr W52 (Or.inr sz_b18)
  have N52 := Fr.snoc X52 N51 g_b18
  obtain ⟨cl_b18_591, Ar_b18, q_b18, S_b18, N_b18, H_b18, G_b18⟩ := V_b18_52
  have hin591 : ¬ ((34 : Int32) < 0 ∨ cl_b18_591.slots.size ≤ ((34 : Int32)).toNatClampNeg) := inb_of S_b18 ⟨by decide, by decide⟩
  obtain ⟨T53, h53, X53, e53, W53, st53⟩ := stC X52 hx hZ11 e52 Ar_b18 (j := (34 : Int32)) hin591 (g := (mkF m 591 (own_Ln0 p1 p2 p3 b12 b4 b9) [(.int (32 : Int32)), (.int (34 : Int32)), (.ref b18), (.ref b18), (.ref b17), (.ref b17)])) rfl rfl (hb hby at_591)
  have V_b18_53 := own_fillS (k := 34) (own_Fnl p1 p2 p3) (by decide) rfl (Arv.set Ar_b18 q_b18 S_b18 N_b18 H_b18 G_b18 (fits_nar_char _) W53 34 rfl (own_flt (own_Fnl p1 p2 p3) (by decide)))
  have R53 := R52.trans (CHr.wr W53 Sf_b18_52 R52.1)
  have Sf_b17_53 := Safe.wr W53 Sf_b18_52 R52.1 Sf_b17_52
  have Sf_b18_53 := Safe.wr W53 Sf_b18_52 R52.1 Sf_b18_52
  have K53 : Keep h0 h53 [] := K52.wr W53 (Or.inr sz_b18)
  have N53 := Fr.snoc X53 N52 g_b18
  obtain ⟨cl_b18_597, Ar_b18, q_b18, S_b18, N_b18, H_b18, G_b18⟩ := V_b18_53
  have hin597 : ¬ ((35 : Int32) < 0 ∨ cl_b18_597.slots.size ≤ ((35 : Int32)).toNatClampNeg) := inb_of S_b18 ⟨by decide, by decide⟩
  obtain ⟨T54, h54, X54, e54, W54, st54⟩ := stC X53 hx hZ11 e53 Ar_b18 (j := (35 : Int32)) hin597 (g := (mkF m 597 (own_Ln0 p1 p2 p3 b12 b4 b9) [(.int ((p3 &&& (255 : Int32)).toUInt32.toUInt16.toUInt32.toInt32)), (.int (35 : Int32)), (.ref b18), (.ref b18), (.ref b17), (.ref b17)])) rfl rfl (hb hby at_597)
  have V_b18_54 := own_fillS (k := 35) (own_Fnl p1 p2 p3) (by decide) rfl (Arv.set Ar_b18 q_b18 S_b18 N_b18 H_b18 G_b18 (fits_nar_char _) W54 35 rfl (own_flt (own_Fnl p1 p2 p3) (by decide)))
  have R54 := R53.trans (CHr.wr W54 Sf_b18_53 R53.1)
  have Sf_b17_54 := Safe.wr W54 Sf_b18_53 R53.1 Sf_b17_53
  have Sf_b18_54 := Safe.wr W54 Sf_b18_53 R53.1 Sf_b18_53
  have K54 : Keep h0 h54 [] := K53.wr W54 (Or.inr sz_b18)
  have N54 := Fr.snoc X54 N53 g_b18
  obtain ⟨cl_b18_603, Ar_b18, q_b18, S_b18, N_b18, H_b18, G_b18⟩ := V_b18_54
  have hin603 : ¬ ((36 : Int32) < 0 ∨ cl_b18_603.slots.size ≤ ((36 : Int32)).toNatClampNeg) := inb_of S_b18 ⟨by decide, by decide⟩
  obtain ⟨T55, h55, X55, e55, W55, st55⟩ := stC X54 hx hZ11 e54 Ar_b18 (j := (36 : Int32)) hin603 (g := (mkF m 603 (own_Ln0 p1 p2 p3 b12 b4 b9) [(.int ((((p3.toUInt32 >>> ((8 : Int32) &&& 31).toUInt32).toInt32) &&& (255 : Int32)).toUInt32.toUInt16.toUInt32.toInt32)), (.int (36 : Int32)), (.ref b18), (.ref b18), (.ref b17), (.ref b17)])) rfl rfl (hb hby at_603)
  have V_b18_55 := own_fillS (k := 36) (own_Fnl p1 p2 p3) (by decide) rfl (Arv.set Ar_b18 q_b18 S_b18 N_b18 H_b18 G_b18 (fits_nar_char _) W55 36 rfl (own_flt (own_Fnl p1 p2 p3) (by decide)))
  have R55 := R54.trans (CHr.wr W55 Sf_b18_54 R54.1)
  have Sf_b17_55 := Safe.wr W55 Sf_b18_54 R54.1 Sf_b17_54
  have Sf_b18_55 := Safe.wr W55 Sf_b18_54 R54.1 Sf_b18_54
  have K55 : Keep h0 h55 [] := K54.wr W55 (Or.inr sz_b18)
  have N55 := Fr.snoc X55 N54 g_b18
  have SC56 := S_COMPACT_STRINGS.ext ((X00.keep K55 all0)).2
  have Eb56 := ((((((((((((((((((((((((((((((((((((((E_b17.ext E18).wr W19).wr W20).wr W21).wr W22).wr W23).wr W24).wr W25).wr W26).wr W27).wr W28).wr W29).wr W30).wr W31).wr W32).wr W33).wr W34).wr W35).wr W36).wr W37).wr W38).wr W39).wr W40).wr W41).wr W42).wr W43).wr W44).wr W45).wr W46).wr W47).wr W48).wr W49).wr W50).wr W51).wr W52).wr W53).wr W54).wr W55)
  have Fvb56 := ((((((((((((((((((((((((((((((((((((((F_value_b17.ext E18).other W19 (Or.inl (Nat.ne_of_lt (Nat.lt_of_lt_of_le E_b17.lt (Nat.le_of_eq g18.symm))))).other W20 (Or.inl (Nat.ne_of_lt (Nat.lt_of_lt_of_le E_b17.lt (Nat.le_of_eq g18.symm))))).other W21 (Or.inl (Nat.ne_of_lt (Nat.lt_of_lt_of_le E_b17.lt (Nat.le_of_eq g18.symm))))).other W22 (Or.inl (Nat.ne_of_lt (Nat.lt_of_lt_of_le E_b17.lt (Nat.le_of_eq g18.symm))))).other W23 (Or.inl (Nat.ne_of_lt (Nat.lt_of_lt_of_le E_b17.lt (Nat.le_of_eq g18.symm))))).other W24 (Or.inl (Nat.ne_of_lt (Nat.lt_of_lt_of_le E_b17.lt (Nat.le_of_eq g18.symm))))).other W25 (Or.inl (Nat.ne_of_lt (Nat.lt_of_lt_of_le E_b17.lt (Nat.le_of_eq g18.symm))))).other W26 (Or.inl (Nat.ne_of_lt (Nat.lt_of_lt_of_le E_b17.lt (Nat.le_of_eq g18.symm))))).other W27 (Or.inl (Nat.ne_of_lt (Nat.lt_of_lt_of_le E_b17.lt (Nat.le_of_eq g18.symm))))).other W28 (Or.inl (Nat.ne_of_lt (Nat.lt_of_lt_of_le E_b17.lt (Nat.le_of_eq g18.symm))))).other W29 (Or.inl (Nat.ne_of_lt (Nat.lt_of_lt_of_le E_b17.lt (Nat.le_of_eq g18.symm))))).other W30 (Or.inl (Nat.ne_of_lt (Nat.lt_of_lt_of_le E_b17.lt (Nat.le_of_eq g18.symm))))).other W31 (Or.inl (Nat.ne_of_lt (Nat.lt_of_lt_of_le E_b17.lt (Nat.le_of_eq g18.symm))))).other W32 (Or.inl (Nat.ne_of_lt (Nat.lt_of_lt_of_le E_b17.lt (Nat.le_of_eq g18.symm))))).other W33 (Or.inl (Nat.ne_of_lt (Nat.lt_of_lt_of_le E_b17.lt (Nat.le_of_eq g18.symm))))).other W34 (Or.inl (Nat.ne_of_lt (Nat.lt_of_lt_of_le E_b17.lt (Nat.le_of_eq g18.symm))))).other W35 (Or.inl (Nat.ne_of_lt (Nat.lt_of_lt_of_le E_b17.lt (Nat.le_of_eq g18.symm))))).other W36 (Or.inl (Nat.ne_of_lt (Nat.lt_of_lt_of_le E_b17.lt (Nat.le_of_eq g18.symm))))).other W37 (Or.inl (Nat.ne_of_lt (Nat.lt_of_lt_of_le E_b17.lt (Nat.le_of_eq g18.symm))))).other W38 (Or.inl (Nat.ne_of_lt (Nat.lt_of_lt_of_le E_b17.lt (Nat.le_of_eq g18.symm))))).other W39 (Or.inl (Nat.ne_of_lt (Nat.lt_of_lt_of_le E_b17.lt (Nat.le_of_eq g18.symm))))).other W40 (Or.inl (Nat.ne_of_lt (Nat.lt_of_lt_of_le E_b17.lt (Nat.le_of_eq g18.symm))))).other W41 (Or.inl (Nat.ne_of_lt (Nat.lt_of_lt_of_le E_b17.lt (Nat.le_of_eq g18.symm))))).other W42 (Or.inl (Nat.ne_of_lt (Nat.lt_of_lt_of_le E_b17.lt (Nat.le_of_eq g18.symm))))).other W43 (Or.inl (Nat.ne_of_lt (Nat.lt_of_lt_of_le E_b17.lt (Nat.le_of_eq g18.symm))))).other W44 (Or.inl (Nat.ne_of_lt (Nat.lt_of_lt_of_le E_b17.lt (Nat.le_of_eq g18.symm))))).other W45 (Or.inl (Nat.ne_of_lt (Nat.lt_of_lt_of_le E_b17.lt (Nat.le_of_eq g18.symm))))).other W46 (Or.inl (Nat.ne_of_lt (Nat.lt_of_lt_of_le E_b17.lt (Nat.le_of_eq g18.symm))))).other W47 (Or.inl (Nat.ne_of_lt (Nat.lt_of_lt_of_le E_b17.lt (Nat.le_of_eq g18.symm))))).other W48 (Or.inl (Nat.ne_of_lt (Nat.lt_of_lt_of_le E_b17.lt (Nat.le_of_eq g18.symm))))).other W49 (Or.inl (Nat.ne_of_lt (Nat.lt_of_lt_of_le E_b17.lt (Nat.le_of_eq g18.symm))))).other W50 (Or.inl (Nat.ne_of_lt (Nat.lt_of_lt_of_le E_b17.lt (Nat.le_of_eq g18.symm))))).other W51 (Or.inl (Nat.ne_of_lt (Nat.lt_of_lt_of_le E_b17.lt (Nat.le_of_eq g18.symm))))).other W52 (Or.inl (Nat.ne_of_lt (Nat.lt_of_lt_of_le E_b17.lt (Nat.le_of_eq g18.symm))))).other W53 (Or.inl (Nat.ne_of_lt (Nat.lt_of_lt_of_le E_b17.lt (Nat.le_of_eq g18.symm))))).other W54 (Or.inl (Nat.ne_of_lt (Nat.lt_of_lt_of_le E_b17.lt (Nat.le_of_eq g18.symm))))).other W55 (Or.inl (Nat.ne_of_lt (Nat.lt_of_lt_of_le E_b17.lt (Nat.le_of_eq g18.symm)))))
  have Fcb56 := ((((((((((((((((((((((((((((((((((((((F_coder_b17.ext E18).other W19 (Or.inl (Nat.ne_of_lt (Nat.lt_of_lt_of_le E_b17.lt (Nat.le_of_eq g18.symm))))).other W20 (Or.inl (Nat.ne_of_lt (Nat.lt_of_lt_of_le E_b17.lt (Nat.le_of_eq g18.symm))))).other W21 (Or.inl (Nat.ne_of_lt (Nat.lt_of_lt_of_le E_b17.lt (Nat.le_of_eq g18.symm))))).other W22 (Or.inl (Nat.ne_of_lt (Nat.lt_of_lt_of_le E_b17.lt (Nat.le_of_eq g18.symm))))).other W23 (Or.inl (Nat.ne_of_lt (Nat.lt_of_lt_of_le E_b17.lt (Nat.le_of_eq g18.symm))))).other W24 (Or.inl (Nat.ne_of_lt (Nat.lt_of_lt_of_le E_b17.lt (Nat.le_of_eq g18.symm))))).other W25 (Or.inl (Nat.ne_of_lt (Nat.lt_of_lt_of_le E_b17.lt (Nat.le_of_eq g18.symm))))).other W26 (Or.inl (Nat.ne_of_lt (Nat.lt_of_lt_of_le E_b17.lt (Nat.le_of_eq g18.symm))))).other W27 (Or.inl (Nat.ne_of_lt (Nat.lt_of_lt_of_le E_b17.lt (Nat.le_of_eq g18.symm))))).other W28 (Or.inl (Nat.ne_of_lt (Nat.lt_of_lt_of_le E_b17.lt (Nat.le_of_eq g18.symm))))).other W29 (Or.inl (Nat.ne_of_lt (Nat.lt_of_lt_of_le E_b17.lt (Nat.le_of_eq g18.symm))))).other W30 (Or.inl (Nat.ne_of_lt (Nat.lt_of_lt_of_le E_b17.lt (Nat.le_of_eq g18.symm))))).other W31 (Or.inl (Nat.ne_of_lt (Nat.lt_of_lt_of_le E_b17.lt (Nat.le_of_eq g18.symm))))).other W32 (Or.inl (Nat.ne_of_lt (Nat.lt_of_lt_of_le E_b17.lt (Nat.le_of_eq g18.symm))))).other W33 (Or.inl (Nat.ne_of_lt (Nat.lt_of_lt_of_le E_b17.lt (Nat.le_of_eq g18.symm))))).other W34 (Or.inl (Nat.ne_of_lt (Nat.lt_of_lt_of_le E_b17.lt (Nat.le_of_eq g18.symm))))).other W35 (Or.inl (Nat.ne_of_lt (Nat.lt_of_lt_of_le E_b17.lt (Nat.le_of_eq g18.symm))))).other W36 (Or.inl (Nat.ne_of_lt (Nat.lt_of_lt_of_le E_b17.lt (Nat.le_of_eq g18.symm))))).other W37 (Or.inl (Nat.ne_of_lt (Nat.lt_of_lt_of_le E_b17.lt (Nat.le_of_eq g18.symm))))).other W38 (Or.inl (Nat.ne_of_lt (Nat.lt_of_lt_of_le E_b17.lt (Nat.le_of_eq g18.symm))))).other W39 (Or.inl (Nat.ne_of_lt (Nat.lt_of_lt_of_le E_b17.lt (Nat.le_of_eq g18.symm))))).other W40 (Or.inl (Nat.ne_of_lt (Nat.lt_of_lt_of_le E_b17.lt (Nat.le_of_eq g18.symm))))).other W41 (Or.inl (Nat.ne_of_lt (Nat.lt_of_lt_of_le E_b17.lt (Nat.le_of_eq g18.symm))))).other W42 (Or.inl (Nat.ne_of_lt (Nat.lt_of_lt_of_le E_b17.lt (Nat.le_of_eq g18.symm))))).other W43 (Or.inl (Nat.ne_of_lt (Nat.lt_of_lt_of_le E_b17.lt (Nat.le_of_eq g18.symm))))).other W44 (Or.inl (Nat.ne_of_lt (Nat.lt_of_lt_of_le E_b17.lt (Nat.le_of_eq g18.symm))))).other W45 (Or.inl (Nat.ne_of_lt (Nat.lt_of_lt_of_le E_b17.lt (Nat.le_of_eq g18.symm))))).other W46 (Or.inl (Nat.ne_of_lt (Nat.lt_of_lt_of_le E_b17.lt (Nat.le_of_eq g18.symm))))).other W47 (Or.inl (Nat.ne_of_lt (Nat.lt_of_lt_of_le E_b17.lt (Nat.le_of_eq g18.symm))))).other W48 (Or.inl (Nat.ne_of_lt (Nat.lt_of_lt_of_le E_b17.lt (Nat.le_of_eq g18.symm))))).other W49 (Or.inl (Nat.ne_of_lt (Nat.lt_of_lt_of_le E_b17.lt (Nat.le_of_eq g18.symm))))).other W50 (Or.inl (Nat.ne_of_lt (Nat.lt_of_lt_of_le E_b17.lt (Nat.le_of_eq g18.symm))))).other W51 (Or.inl (Nat.ne_of_lt (Nat.lt_of_lt_of_le E_b17.lt (Nat.le_of_eq g18.symm))))).other W52 (Or.inl (Nat.ne_of_lt (Nat.lt_of_lt_of_le E_b17.lt (Nat.le_of_eq g18.symm))))).other W53 (Or.inl (Nat.ne_of_lt (Nat.lt_of_lt_of_le E_b17.lt (Nat.le_of_eq g18.symm))))).other W54 (Or.inl (Nat.ne_of_lt (Nat.lt_of_lt_of_le E_b17.lt (Nat.le_of_eq g18.symm))))).other W55 (Or.inl (Nat.ne_of_lt (Nat.lt_of_lt_of_le E_b17.lt (Nat.le_of_eq g18.symm)))))
  have Zb56 := (Nat.le_trans (Nat.le_trans (Nat.le_trans (Nat.le_trans (Nat.le_trans (Nat.le_trans (Nat.le_trans (Nat.le_trans (Nat.le_trans (Nat.le_trans (Nat.le_trans (Nat.le_trans (Nat.le_trans (Nat.le_trans (Nat.le_trans (Nat.le_trans (Nat.le_trans (Nat.le_trans (Nat.le_trans (Nat.le_trans (Nat.le_trans (Nat.le_trans (Nat.le_trans (Nat.le_trans (Nat.le_trans (Nat.le_trans (Nat.le_trans (Nat.le_trans (Nat.le_trans (Nat.le_trans (Nat.le_trans (Nat.le_trans (Nat.le_trans (Nat.le_trans (Nat.le_trans (Nat.le_trans (Nat.le_trans (Nat.le_trans (Nat.le_trans (Nat.le_trans (Nat.le_trans (Nat.le_trans (Nat.le_trans (Nat.le_trans (Nat.le_trans (Nat.le_trans (Nat.le_trans (Nat.le_trans (Nat.le_trans (Nat.le_trans (Nat.le_trans (Nat.le_trans Z0 E4.1) E5.1) (Keep.of_wr W6).1) (Keep.of_wr W7).1) Kq8.1) E9.1) E10.1) Kq11.1) E12.1) E13.1) (Keep.of_wr W14).1) (Keep.of_wr W15).1) Kq16.1) E17.1) E18.1) (Keep.of_wr W19).1) (Keep.of_wr W20).1) (Keep.of_wr W21).1) (Keep.of_wr W22).1) (Keep.of_wr W23).1) (Keep.of_wr W24).1) (Keep.of_wr W25).1) (Keep.of_wr W26).1) (Keep.of_wr W27).1) (Keep.of_wr W28).1) (Keep.of_wr W29).1) (Keep.of_wr W30).1) (Keep.of_wr W31).1) (Keep.of_wr W32).1) (Keep.of_wr W33).1) (Keep.of_wr W34).1) (Keep.of_wr W35).1) (Keep.of_wr W36).1) (Keep.of_wr W37).1) (Keep.of_wr W38).1) (Keep.of_wr W39).1) (Keep.of_wr W40).1) (Keep.of_wr W41).1) (Keep.of_wr W42).1) (Keep.of_wr W43).1) (Keep.of_wr W44).1) (Keep.of_wr W45).1) (Keep.of_wr W46).1) (Keep.of_wr W47).1) (Keep.of_wr W48).1) (Keep.of_wr W49).1) (Keep.of_wr W50).1) (Keep.of_wr W51).1) (Keep.of_wr W52).1) (Keep.of_wr W53).1) (Keep.of_wr W54).1) (Keep.of_wr W55).1)
  have Vb56 : Arv Z h55 b18 k18 .char (37 : Int32) ((own_csn p1 p2 p3).map Value.int) (.int (0 : Int32)) := by
    have q : Arv Z h55 b18 k18 .char (37 : Int32) (own_fill (own_Fn p1 p2 p3) 37 37) (.int (0 : Int32)) := V_b18_55
    rw [own_fill_all (own_Fnl p1 p2 p3), own_Fnc] at q
    exact q
  obtain ⟨_, _, ⟨T56, L56, k56, n56⟩, -, X56, ⟨Lc56, hQ56, l56, y56, z56⟩, st56⟩ := X55.specialBack hx (y := (⟨"java/lang/String", "<init>", "([C)V"⟩ : MethodName)) rfl hown11 (mvT hZ11 (hw _ (wI 4 rfl))) (mvT hZ11 (hw _ (wI 5 rfl))) (mvT hZ11 (hw _ (wI 6 rfl))) (by decide) (StrChars.Road.backV (W := 1) hZ11 hws (kI := 4) (hw _ (wI 1 rfl)) (cs := (own_csn p1 p2 p3)) (bs := [((116 : Int32)).toInt8.toInt32, ((104 : Int32)).toInt8.toInt32, ((101 : Int32)).toInt8.toInt32, ((32 : Int32)).toInt8.toInt32, ((115 : Int32)).toInt8.toInt32, ((121 : Int32)).toInt8.toInt32, ((115 : Int32)).toInt8.toInt32, ((116 : Int32)).toInt8.toInt32, ((101 : Int32)).toInt8.toInt32, ((109 : Int32)).toInt8.toInt32, ((32 : Int32)).toInt8.toInt32, ((112 : Int32)).toInt8.toInt32, ((114 : Int32)).toInt8.toInt32, ((111 : Int32)).toInt8.toInt32, ((112 : Int32)).toInt8.toInt32, ((101 : Int32)).toInt8.toInt32, ((114 : Int32)).toInt8.toInt32, ((116 : Int32)).toInt8.toInt32, ((121 : Int32)).toInt8.toInt32, ((32 : Int32)).toInt8.toInt32, (((p1 &&& (255 : Int32)).toUInt32.toUInt16.toUInt32.toInt32)).toInt8.toInt32, (((((p1.toUInt32 >>> ((8 : Int32) &&& 31).toUInt32).toInt32) &&& (255 : Int32)).toUInt32.toUInt16.toUInt32.toInt32)).toInt8.toInt32, ((32 : Int32)).toInt8.toInt32, ((105 : Int32)).toInt8.toInt32, ((115 : Int32)).toInt8.toInt32, ((32 : Int32)).toInt8.toInt32, ((34 : Int32)).toInt8.toInt32, ((34 : Int32)).toInt8.toInt32, ((59 : Int32)).toInt8.toInt32, ((32 : Int32)).toInt8.toInt32, ((103 : Int32)).toInt8.toInt32, ((105 : Int32)).toInt8.toInt32, ((118 : Int32)).toInt8.toInt32, ((101 : Int32)).toInt8.toInt32, ((32 : Int32)).toInt8.toInt32, (((p3 &&& (255 : Int32)).toUInt32.toUInt16.toUInt32.toInt32)).toInt8.toInt32, (((((p3.toUInt32 >>> ((8 : Int32) &&& 31).toUInt32).toInt32) &&& (255 : Int32)).toUInt32.toUInt16.toUInt32.toInt32)).toInt8.toInt32]) (n := 37) g_b17 Zb56 Eb56 Fvb56 Fcb56 Vb56 SC56 P3 rfl rfl (by decide) (by decide) (own_csnr p1 p2 p3) rfl (by decide) (by decide)) (g := (mkF m 604 (own_Ln0 p1 p2 p3 b12 b4 b9) [(.ref b18), (.ref b17), (.ref b17)])) rfl (by rw [hml]; rfl) (Steps.refl _) (a := b17) (argsL := [(.ref b18)]) (rest := [(.ref b17)]) (lenOf pd_0_0 rfl) rfl (by show 2 * 0 + _ ≤ _; exact Nat.le_of_eq rfl) (hb hby at_604) (fun _ _ => ⟨rfl, e55, (by decide : 12 + 1 ≤ _), (by decide : 65 + 37 ≤ _)⟩)
  dsimp only [Pt.U, Pt.locs, Pt.cells, Pt.slots] at X56 l56 y56 z56 st56 hQ56
  rw [l56, y56, z56] at X56
  obtain ⟨rfl, N56q, Kc56, Eq56, Fcq56, t56, kt56, g_t56, gz_t56, ne_t56, Fvq56, Vq56⟩ := hQ56
  have N56 := Fr.app N55 N56q
  have Kq56 : Keep h55 T56.heap [b17] := Kc56
  have K56 : Keep h0 T56.heap [] := K55.trans Kq56 (own_trS (Or.inr sz_b17) all0)
  have R56 := R55.trans (CHr.keep Kq56 (sfS Sf_b17_55 sf0) R55.1)
  have Sf_b17_56 := Safe.keep Kq56 (sfS Sf_b17_55 sf0) R55.1 Sf_b17_55
  have Sf_b18_56 := Safe.keep Kq56 (sfS Sf_b17_55 sf0) R55.1 Sf_b18_55
  have Sf_t56_56 := Safe.keep Kq56 (sfS Sf_b17_55 sf0) R55.1 (Safe.new gz_t56)
  have sBs : T16.heap.size ≤ b17 := Nat.le_of_eq g17.symm
  have sBa : T16.heap.size ≤ b18 := Nat.le_trans E17.1 (Nat.le_of_eq g18.symm)
  have KB : Keep T16.heap T56.heap [] := ((((((((((((((((((((((((((((((((((((((((Keep.refl T16.heap []).ext E17).ext E18).wr W19 (Or.inr sBa)).wr W20 (Or.inr sBa)).wr W21 (Or.inr sBa)).wr W22 (Or.inr sBa)).wr W23 (Or.inr sBa)).wr W24 (Or.inr sBa)).wr W25 (Or.inr sBa)).wr W26 (Or.inr sBa)).wr W27 (Or.inr sBa)).wr W28 (Or.inr sBa)).wr W29 (Or.inr sBa)).wr W30 (Or.inr sBa)).wr W31 (Or.inr sBa)).wr W32 (Or.inr sBa)).wr W33 (Or.inr sBa)).wr W34 (Or.inr sBa)).wr W35 (Or.inr sBa)).wr W36 (Or.inr sBa)).wr W37 (Or.inr sBa)).wr W38 (Or.inr sBa)).wr W39 (Or.inr sBa)).wr W40 (Or.inr sBa)).wr W41 (Or.inr sBa)).wr W42 (Or.inr sBa)).wr W43 (Or.inr sBa)).wr W44 (Or.inr sBa)).wr W45 (Or.inr sBa)).wr W46 (Or.inr sBa)).wr W47 (Or.inr sBa)).wr W48 (Or.inr sBa)).wr W49 (Or.inr sBa)).wr W50 (Or.inr sBa)).wr W51 (Or.inr sBa)).wr W52 (Or.inr sBa)).wr W53 (Or.inr sBa)).wr W54 (Or.inr sBa)).wr W55 (Or.inr sBa)).trans Kq56 (own_trS (Or.inr sBs) all0)
  obtain ⟨_, _, ⟨T57, L57, k57, n57⟩, -, X57, hSc57, hgr57, ⟨Lc57, hQ57, l57, y57, z57, Cr57⟩, st57⟩ := callSS X56 hx (y := (⟨"com/example/shiken/shiken/ContextException", "forSystemProperty", "(Ljava/lang/String;Ljava/lang/String;Ljava/lang/String;)Lcom/example/shiken/shiken/ContextException;"⟩ : MethodName)) hown11 (mvT hZ11 (hw _ (wI 33 rfl))) (mvT hZ11 (hw _ (wI 34 rfl))) (mvT hZ11 (hw _ (wI 35 rfl))) (mvT hZ11 (hw _ (wI 36 rfl))) (by decide) (backOfSKH (W := 0) (rm7 l Z a0 hw [] b4 b9 b12 G1 G2 G3 t8 t11 t16 kt8 (2 : Int32) [(.int ((((p1 &&& (255 : Int32)).toUInt32.toUInt16.toUInt32.toInt32)).toInt8.toInt32)), (.int ((((((p1.toUInt32 >>> ((8 : Int32) &&& 31).toUInt32).toInt32) &&& (255 : Int32)).toUInt32.toUInt16.toUInt32.toInt32)).toInt8.toInt32))] (.int (0 : Int32)) kt11 (0 : Int32) [] (.int (0 : Int32)) kt16 (2 : Int32) [(.int ((((p3 &&& (255 : Int32)).toUInt32.toUInt16.toUInt32.toInt32)).toInt8.toInt32)), (.int ((((((p3.toUInt32 >>> ((8 : Int32) &&& 31).toUInt32).toInt32) &&& (255 : Int32)).toUInt32.toUInt16.toUInt32.toInt32)).toInt8.toInt32))] (.int (0 : Int32)) T56.heap n0 (Nat.le_trans (Nat.le_trans (Nat.le_trans (Nat.le_trans (Nat.le_trans (Nat.le_trans (Nat.le_trans (Nat.le_trans (Nat.le_trans (Nat.le_trans (Nat.le_trans (Nat.le_trans (Nat.le_trans (Nat.le_trans (Nat.le_trans (Nat.le_trans (Nat.le_trans (Nat.le_trans (Nat.le_trans (Nat.le_trans (Nat.le_trans (Nat.le_trans (Nat.le_trans (Nat.le_trans (Nat.le_trans (Nat.le_trans (Nat.le_trans (Nat.le_trans (Nat.le_trans (Nat.le_trans (Nat.le_trans (Nat.le_trans (Nat.le_trans (Nat.le_trans (Nat.le_trans (Nat.le_trans (Nat.le_trans (Nat.le_trans (Nat.le_trans (Nat.le_trans (Nat.le_trans (Nat.le_trans (Nat.le_trans (Nat.le_trans (Nat.le_trans (Nat.le_trans (Nat.le_trans (Nat.le_trans (Nat.le_trans (Nat.le_trans (Nat.le_trans (Nat.le_trans (Nat.le_trans Z0 E4.1) E5.1) (Keep.of_wr W6).1) (Keep.of_wr W7).1) Kq8.1) E9.1) E10.1) Kq11.1) E12.1) E13.1) (Keep.of_wr W14).1) (Keep.of_wr W15).1) Kq16.1) E17.1) E18.1) (Keep.of_wr W19).1) (Keep.of_wr W20).1) (Keep.of_wr W21).1) (Keep.of_wr W22).1) (Keep.of_wr W23).1) (Keep.of_wr W24).1) (Keep.of_wr W25).1) (Keep.of_wr W26).1) (Keep.of_wr W27).1) (Keep.of_wr W28).1) (Keep.of_wr W29).1) (Keep.of_wr W30).1) (Keep.of_wr W31).1) (Keep.of_wr W32).1) (Keep.of_wr W33).1) (Keep.of_wr W34).1) (Keep.of_wr W35).1) (Keep.of_wr W36).1) (Keep.of_wr W37).1) (Keep.of_wr W38).1) (Keep.of_wr W39).1) (Keep.of_wr W40).1) (Keep.of_wr W41).1) (Keep.of_wr W42).1) (Keep.of_wr W43).1) (Keep.of_wr W44).1) (Keep.of_wr W45).1) (Keep.of_wr W46).1) (Keep.of_wr W47).1) (Keep.of_wr W48).1) (Keep.of_wr W49).1) (Keep.of_wr W50).1) (Keep.of_wr W51).1) (Keep.of_wr W52).1) (Keep.of_wr W53).1) (Keep.of_wr W54).1) (Keep.of_wr W55).1) Kq56.1) hl S_COMPACT_STRINGS (X00.keep K56 all0) P3 S_UNASSIGNED_STACK S_SUPPRESSED_SENTINEL (((((((((Eq8.ext E9).ext E10).keep Kq11).ext E12).ext E13).wr W14).wr W15).keep Kq16).keep KB) (((((((((Fvq8.ext E9).ext E10).keep Kq11 (fun q => absurd (List.mem_singleton.mp q) (Nat.ne_of_lt (Nat.lt_of_lt_of_le Eq8.lt (Nat.le_of_eq g9.symm))))).ext E12).ext E13).other W14 (Or.inl (Nat.ne_of_lt (Nat.lt_of_lt_of_le ((((Eq8.ext E9).ext E10).keep Kq11).ext E12).lt (Nat.le_of_eq g13.symm))))).other W15 (Or.inl (Nat.ne_of_lt (Nat.lt_of_lt_of_le ((((Eq8.ext E9).ext E10).keep Kq11).ext E12).lt (Nat.le_of_eq g13.symm))))).keep Kq16 (fun q => absurd (List.mem_singleton.mp q) (Nat.ne_of_lt (Nat.lt_of_lt_of_le (((Eq8.ext E9).ext E10).keep Kq11).lt (Nat.le_of_eq g12.symm))))).keep KB (fun q => nomatch q)) (((((((((Fcq8.ext E9).ext E10).keep Kq11 (fun q => absurd (List.mem_singleton.mp q) (Nat.ne_of_lt (Nat.lt_of_lt_of_le Eq8.lt (Nat.le_of_eq g9.symm))))).ext E12).ext E13).other W14 (Or.inl (Nat.ne_of_lt (Nat.lt_of_lt_of_le ((((Eq8.ext E9).ext E10).keep Kq11).ext E12).lt (Nat.le_of_eq g13.symm))))).other W15 (Or.inl (Nat.ne_of_lt (Nat.lt_of_lt_of_le ((((Eq8.ext E9).ext E10).keep Kq11).ext E12).lt (Nat.le_of_eq g13.symm))))).keep Kq16 (fun q => absurd (List.mem_singleton.mp q) (Nat.ne_of_lt (Nat.lt_of_lt_of_le (((Eq8.ext E9).ext E10).keep Kq11).lt (Nat.le_of_eq g12.symm))))).keep KB (fun q => nomatch q)) ((((((((E_b9.ext E10).keep Kq11).ext E12).ext E13).wr W14).wr W15).keep Kq16).keep KB) ((((((Fvq11.ext E12).ext E13).other W14 (Or.inl (Nat.ne_of_lt (Nat.lt_of_lt_of_le (((E_b9.ext E10).keep Kq11).ext E12).lt (Nat.le_of_eq g13.symm))))).other W15 (Or.inl (Nat.ne_of_lt (Nat.lt_of_lt_of_le (((E_b9.ext E10).keep Kq11).ext E12).lt (Nat.le_of_eq g13.symm))))).keep Kq16 (fun q => absurd (List.mem_singleton.mp q) (Nat.ne_of_lt (Nat.lt_of_lt_of_le ((E_b9.ext E10).keep Kq11).lt (Nat.le_of_eq g12.symm))))).keep KB (fun q => nomatch q)) ((((((Fcq11.ext E12).ext E13).other W14 (Or.inl (Nat.ne_of_lt (Nat.lt_of_lt_of_le (((E_b9.ext E10).keep Kq11).ext E12).lt (Nat.le_of_eq g13.symm))))).other W15 (Or.inl (Nat.ne_of_lt (Nat.lt_of_lt_of_le (((E_b9.ext E10).keep Kq11).ext E12).lt (Nat.le_of_eq g13.symm))))).keep Kq16 (fun q => absurd (List.mem_singleton.mp q) (Nat.ne_of_lt (Nat.lt_of_lt_of_le ((E_b9.ext E10).keep Kq11).lt (Nat.le_of_eq g12.symm))))).keep KB (fun q => nomatch q)) (Eq16.keep KB) (Fvq16.keep KB (fun q => nomatch q)) (Fcq16.keep KB (fun q => nomatch q)) (((((((((Vq8.ext E9).ext E10).keep Kq11 (fun q => absurd (List.mem_singleton.mp q) (Nat.ne_of_lt (Nat.lt_of_lt_of_le Vq8.lt (Nat.le_of_eq g9.symm))))).ext E12).ext E13).other W14 (Nat.ne_of_lt (Nat.lt_of_lt_of_le ((((Vq8.ext E9).ext E10).keep Kq11 (fun q => absurd (List.mem_singleton.mp q) (Nat.ne_of_lt (Nat.lt_of_lt_of_le Vq8.lt (Nat.le_of_eq g9.symm))))).ext E12).lt (Nat.le_of_eq g13.symm)))).other W15 (Nat.ne_of_lt (Nat.lt_of_lt_of_le ((((Vq8.ext E9).ext E10).keep Kq11 (fun q => absurd (List.mem_singleton.mp q) (Nat.ne_of_lt (Nat.lt_of_lt_of_le Vq8.lt (Nat.le_of_eq g9.symm))))).ext E12).lt (Nat.le_of_eq g13.symm)))).keep Kq16 (fun q => absurd (List.mem_singleton.mp q) (Nat.ne_of_lt (Nat.lt_of_lt_of_le (((Vq8.ext E9).ext E10).keep Kq11 (fun q => absurd (List.mem_singleton.mp q) (Nat.ne_of_lt (Nat.lt_of_lt_of_le Vq8.lt (Nat.le_of_eq g9.symm))))).lt (Nat.le_of_eq g12.symm))))).keep KB (fun q => nomatch q)) ((((((Vq11.ext E12).ext E13).other W14 (Nat.ne_of_lt (Nat.lt_of_lt_of_le (Vq11.ext E12).lt (Nat.le_of_eq g13.symm)))).other W15 (Nat.ne_of_lt (Nat.lt_of_lt_of_le (Vq11.ext E12).lt (Nat.le_of_eq g13.symm)))).keep Kq16 (fun q => absurd (List.mem_singleton.mp q) (Nat.ne_of_lt (Nat.lt_of_lt_of_le Vq11.lt (Nat.le_of_eq g12.symm))))).keep KB (fun q => nomatch q)) (Vq16.keep KB (fun q => nomatch q)) rfl (Or.inl rfl) rfl rfl rfl rfl) hZ11 (hw _ (wI 36 rfl)) (hw _ (wI 35 rfl)) (by decide) (by decide) (own_EW hw) R56.1 (Vm.MethodsKnown.alikeC (hZ.alike.symm.trans hZ11.alike) hK.1) (Vm.FramesKnown.alikeC (hZ.alike.symm.trans hZ11.alike) hK.2)) (g := (mkF m 615 (own_Ln8 p1 p2 p3 b12 b17 b4 b9) [(.ref b12), (.ref b9), (.ref b4)])) rfl (by rw [hml]; rfl) (argsL := [(.ref b4), (.ref b9), (.ref b12)]) (rest := []) (lenOf pd_0_6 rfl) rfl (by show 2 * 0 + _ ≤ _; exact Nat.le_of_eq rfl) (hb hby at_615) (fun _ _ => ⟨rfl, rfl, (by decide : 13 + 19 ≤ _), (by decide : 102 + 3240 ≤ _)⟩)
  dsimp only [Pt.U, Pt.locs, Pt.cells, Pt.slots] at hSc57 hgr57 Cr57
  dsimp only [Pt.U, Pt.locs, Pt.cells, Pt.slots] at X57 l57 y57 z57 st57 hQ57
  rw [l57, y57, z57] at X57
  obtain ⟨rR, rfl, N57q, Kt57, E_r, U_r, Fc_r, bm, Fm_r, E_bm, tm, km, Fv_bm, Fc_bm, V_tm0⟩ := hQ57
  have N57 := Fr.app N56 N57q
  obtain ⟨X57, hS, hZ57, hown57⟩ := rebS hS ((Nat.le_trans (Nat.le_trans (Nat.le_trans (Nat.le_trans (Nat.le_trans (Nat.le_trans (Nat.le_trans (Nat.le_trans (Nat.le_trans (Nat.le_trans (Nat.le_trans (Nat.le_trans (Nat.le_trans (Nat.le_trans (Nat.le_trans (Nat.le_trans (Nat.le_trans (Nat.le_trans (Nat.le_trans (Nat.le_trans (Nat.le_trans (Nat.le_trans (Nat.le_trans (Nat.le_trans (Nat.le_trans (Nat.le_trans (Nat.le_trans (Nat.le_trans (Nat.le_trans (Nat.le_trans (Nat.le_trans (Nat.le_trans (Nat.le_trans (Nat.le_trans (Nat.le_trans (Nat.le_trans (Nat.le_trans (Nat.le_trans (Nat.le_trans (Nat.le_trans (Nat.le_trans (Nat.le_trans (Nat.le_trans (Nat.le_trans (Nat.le_trans hk E12.1) E13.1) (Keep.of_wr W14).1) (Keep.of_wr W15).1) Kq16.1) E17.1) E18.1) (Keep.of_wr W19).1) (Keep.of_wr W20).1) (Keep.of_wr W21).1) (Keep.of_wr W22).1) (Keep.of_wr W23).1) (Keep.of_wr W24).1) (Keep.of_wr W25).1) (Keep.of_wr W26).1) (Keep.of_wr W27).1) (Keep.of_wr W28).1) (Keep.of_wr W29).1) (Keep.of_wr W30).1) (Keep.of_wr W31).1) (Keep.of_wr W32).1) (Keep.of_wr W33).1) (Keep.of_wr W34).1) (Keep.of_wr W35).1) (Keep.of_wr W36).1) (Keep.of_wr W37).1) (Keep.of_wr W38).1) (Keep.of_wr W39).1) (Keep.of_wr W40).1) (Keep.of_wr W41).1) (Keep.of_wr W42).1) (Keep.of_wr W43).1) (Keep.of_wr W44).1) (Keep.of_wr W45).1) (Keep.of_wr W46).1) (Keep.of_wr W47).1) (Keep.of_wr W48).1) (Keep.of_wr W49).1) (Keep.of_wr W50).1) (Keep.of_wr W51).1) (Keep.of_wr W52).1) (Keep.of_wr W53).1) (Keep.of_wr W54).1) (Keep.of_wr W55).1) Kq56.1)) X57 hSc57 hgr57 hZ11 hown11
  have hk := Nat.le_refl T57.heap.size
  have V_tm : Arv Z T57.heap tm km .byte (Int32.ofNat ((own_csn p1 p2 p3)).length) (((own_csn p1 p2 p3)).map fun c => Value.int (StrChars.lo8 c)) (.int (0 : Int32)) := own_arvc V_tm0 (show ((((((0 : Int32) + (((0 : Int32) + (20 : Int32)) + (2 : Int32))) + (5 : Int32)) + (0 : Int32)) + (8 : Int32)) + (2 : Int32)) = Int32.ofNat 37 by decide) (own_evn p1 p2 p3)
  have Kq57 : Keep T56.heap T57.heap [] := Kt57
  have K57 : Keep h0 T57.heap [] := K56.trans Kq57 all0
  have R57 := R56.trans Cr57
  obtain ⟨cq58, kq58, q58a, q58b, q58c⟩ := isOf hZ57 rfl E_r
  obtain ⟨_, _, ⟨T58, L58, k58, n58⟩, -, X58, ⟨Lc58, hQ58, l58, y58, z58⟩, st58⟩ := X57.virtualBackUp hx (owner := "java/lang/Throwable") (x := (⟨"com/example/shiken/shiken/ContextException", "getMessage", "()Ljava/lang/String;"⟩ : MethodName)) (y := (⟨"java/lang/Throwable", "getMessage", "()Ljava/lang/String;"⟩ : MethodName)) hown57 (mvT hZ57 (hw _ (wI 229 rfl))) (mvT hZ57 (hw _ (wI 230 rfl))) (mvT hZ57 (hw _ (wI 231 rfl))) (by decide) (mvT hZ57 (hw _ (wI 233 rfl))) (mvT hZ57 (hw _ (wI 232 rfl))) (backOf (W := 0) (rm40 l Z a0 hw [] rR bm T57.heap n0 (Nat.le_trans (Nat.le_trans (Nat.le_trans (Nat.le_trans (Nat.le_trans (Nat.le_trans (Nat.le_trans (Nat.le_trans (Nat.le_trans (Nat.le_trans (Nat.le_trans (Nat.le_trans (Nat.le_trans (Nat.le_trans (Nat.le_trans (Nat.le_trans (Nat.le_trans (Nat.le_trans (Nat.le_trans (Nat.le_trans (Nat.le_trans (Nat.le_trans (Nat.le_trans (Nat.le_trans (Nat.le_trans (Nat.le_trans (Nat.le_trans (Nat.le_trans (Nat.le_trans (Nat.le_trans (Nat.le_trans (Nat.le_trans (Nat.le_trans (Nat.le_trans (Nat.le_trans (Nat.le_trans (Nat.le_trans (Nat.le_trans (Nat.le_trans (Nat.le_trans (Nat.le_trans (Nat.le_trans (Nat.le_trans (Nat.le_trans (Nat.le_trans (Nat.le_trans (Nat.le_trans (Nat.le_trans (Nat.le_trans (Nat.le_trans (Nat.le_trans (Nat.le_trans (Nat.le_trans (Nat.le_trans Z0 E4.1) E5.1) (Keep.of_wr W6).1) (Keep.of_wr W7).1) Kq8.1) E9.1) E10.1) Kq11.1) E12.1) E13.1) (Keep.of_wr W14).1) (Keep.of_wr W15).1) Kq16.1) E17.1) E18.1) (Keep.of_wr W19).1) (Keep.of_wr W20).1) (Keep.of_wr W21).1) (Keep.of_wr W22).1) (Keep.of_wr W23).1) (Keep.of_wr W24).1) (Keep.of_wr W25).1) (Keep.of_wr W26).1) (Keep.of_wr W27).1) (Keep.of_wr W28).1) (Keep.of_wr W29).1) (Keep.of_wr W30).1) (Keep.of_wr W31).1) (Keep.of_wr W32).1) (Keep.of_wr W33).1) (Keep.of_wr W34).1) (Keep.of_wr W35).1) (Keep.of_wr W36).1) (Keep.of_wr W37).1) (Keep.of_wr W38).1) (Keep.of_wr W39).1) (Keep.of_wr W40).1) (Keep.of_wr W41).1) (Keep.of_wr W42).1) (Keep.of_wr W43).1) (Keep.of_wr W44).1) (Keep.of_wr W45).1) (Keep.of_wr W46).1) (Keep.of_wr W47).1) (Keep.of_wr W48).1) (Keep.of_wr W49).1) (Keep.of_wr W50).1) (Keep.of_wr W51).1) (Keep.of_wr W52).1) (Keep.of_wr W53).1) (Keep.of_wr W54).1) (Keep.of_wr W55).1) Kq56.1) Kq57.1) E_r Fm_r) hZ57 (hw _ (wI 234 rfl)) (hw _ (wI 190 rfl)) (by decide) (by decide)) q58a q58c (g := (mkF m 629 (own_Ln9 p1 p2 p3 b12 b17 b4 b9 rR) [(.ref rR)])) rfl (by rw [hml]; rfl) (Steps.refl _) (argsL := []) (rest := []) (lenOf pd_0_20 rfl) rfl (by show 2 * 0 + _ ≤ _; exact Nat.le_of_eq rfl) (hb hby at_629) (fun _ _ => ⟨rfl, rfl, (by decide : 32 + 0 ≤ _), (by decide : 3342 + 0 ≤ _)⟩)
  dsimp only [Pt.U, Pt.locs, Pt.cells, Pt.slots] at X58 l58 y58 z58 st58 hQ58
  rw [l58, y58, z58] at X58
  obtain ⟨rfl, N58q, eq58⟩ := hQ58
  have N58 := Fr.app N57 N58q
  have Kq58 : Keep T57.heap T58.heap [] := (own_keq eq58)
  have K58 : Keep h0 T58.heap [] := K57.trans Kq58 all0
  have R58 := R57.trans (CHr.keep Kq58 sf0 R57.1)
  obtain ⟨cq59, kq59, q59a, q59b, q59c⟩ := isOf hZ57 rfl (E_bm.keep Kq58)
  have Em59 := (E_bm.keep Kq58)
  have Fvm59 := (Fv_bm.keep Kq58 (fun q => nomatch q))
  have Fcm59 := (Fc_bm.keep Kq58 (fun q => nomatch q))
  have Vm59 := (V_tm.keep Kq58 (fun q => nomatch q))
  have Ex59 := ((Eq56.keep Kq57).keep Kq58)
  have Fvx59 := ((Fvq56.keep Kq57 (fun q => nomatch q)).keep Kq58 (fun q => nomatch q))
  have Fcx59 := ((Fcq56.keep Kq57 (fun q => nomatch q)).keep Kq58 (fun q => nomatch q))
  have Vx59 := ((Vq56.keep Kq57 (fun q => nomatch q)).keep Kq58 (fun q => nomatch q))
  have SC59 := S_COMPACT_STRINGS.ext ((X00.keep K58 all0)).2
  obtain ⟨_, _, ⟨T59, L59, k59, n59⟩, -, X59, ⟨Lc59, hQ59, l59, y59, z59⟩, st59⟩ := X58.virtualBack hx (y := (⟨"java/lang/String", "equals", "(Ljava/lang/Object;)Z"⟩ : MethodName)) (z := (⟨"java/lang/String", "equals", "(Ljava/lang/Object;)Z"⟩ : MethodName)) hown57 (mvT hZ57 (hw _ (wI 235 rfl))) (mvT hZ57 (hw _ (wI 236 rfl))) (notFace_of_selects (args := #[]) (mvT hZ57 (hw _ (wI 238 rfl)))) (mvT hZ57 (hw _ (wI 238 rfl))) (mvT hZ57 (hw _ (wI 237 rfl))) (by decide) (own_eq1 (n0 := n0) (W := 0) hZ57 hw (cs := (own_csn p1 p2 p3)) Em59 Fvm59 Fcm59 Vm59 Ex59 Fvx59 Fcx59 Vx59 (own_csnr p1 p2 p3) (by show 37 ≤ 4000; decide) SC59 P3 (by decide) (by decide)) q59a q59c (g := (mkF m 643 (own_Ln3 p1 p2 p3 b12 b17 b4 b9 bm rR) [(.ref b17), (.ref bm)])) rfl (by rw [hml]; rfl) (Steps.refl _) (argsL := [(.ref b17)]) (rest := []) (lenOf pd_0_29 rfl) rfl (by show 2 * 0 + _ ≤ _; exact Nat.le_of_eq rfl) (hb hby at_643) (fun _ _ => ⟨rfl, rfl, (by decide : 32 + 0 ≤ _), (by decide : 3342 + 0 ≤ _)⟩)
  dsimp only [Pt.U, Pt.locs, Pt.cells, Pt.slots] at X59 l59 y59 z59 st59 hQ59
  rw [l59, y59, z59] at X59
  obtain ⟨rfl, N59q, eq59⟩ := hQ59
  have N59 := Fr.app N58 N59q
  have Kq59 : Keep T58.heap T59.heap [] := (own_keq eq59)
  have K59 : Keep h0 T59.heap [] := K58.trans Kq59 all0
  have R59 := R58.trans (CHr.keep Kq59 sf0 R58.1)
  obtain ⟨cq60, kq60, q60a, q60b, q60c⟩ := isOf hZ57 rfl ((E_r.keep Kq58).keep Kq59)
  have Ur60 := ((U_r.keep Kq58 (fun q => nomatch q)).keep Kq59 (fun q => nomatch q))
  have Fr60 := ((Fc_r.keep Kq58 (fun q => nomatch q)).keep Kq59 (fun q => nomatch q))
  obtain ⟨_, _, ⟨T60, L60, k60, n60⟩, -, X60, ⟨Lc60, hQ60, l60, y60, z60⟩, st60⟩ := X59.virtualBackUp hx (owner := "java/lang/Throwable") (x := (⟨"com/example/shiken/shiken/ContextException", "getCause", "()Ljava/lang/Throwable;"⟩ : MethodName)) (y := (⟨"java/lang/Throwable", "getCause", "()Ljava/lang/Throwable;"⟩ : MethodName)) hown57 (mvT hZ57 (hw _ (wI 245 rfl))) (mvT hZ57 (hw _ (wI 246 rfl))) (mvT hZ57 (hw _ (wI 247 rfl))) (by decide) (mvT hZ57 (hw _ (wI 249 rfl))) (mvT hZ57 (hw _ (wI 248 rfl))) (own_gc (n0 := n0) (W := 0) hZ57 hw Ur60 Fr60 (by decide) (by decide)) q60a q60c (g := (mkF m 651 (own_Ln3 p1 p2 p3 b12 b17 b4 b9 bm rR) [(.ref rR)])) rfl (by rw [hml]; rfl) (Steps.refl _) (argsL := []) (rest := []) (lenOf pd_0_27 rfl) rfl (by show 2 * 0 + _ ≤ _; exact Nat.le_of_eq rfl) (hb hby at_651) (fun _ _ => ⟨rfl, rfl, (by decide : 32 + 0 ≤ _), (by decide : 3342 + 0 ≤ _)⟩)
  dsimp only [Pt.U, Pt.locs, Pt.cells, Pt.slots] at X60 l60 y60 z60 st60 hQ60
  rw [l60, y60, z60] at X60
  obtain ⟨rfl, N60q, eq60⟩ := hQ60
  have N60 := Fr.app N59 N60q
  have Kq60 : Keep T59.heap T60.heap [] := (own_keq eq60)
  have K60 : Keep h0 T60.heap [] := K59.trans Kq60 all0
  have R60 := R59.trans (CHr.keep Kq60 sf0 R59.1)
  obtain ⟨fs, hr, hrun, hended, hRW⟩ := X60.leaveW hS ((Nat.le_trans (Nat.le_trans (Nat.le_trans hk Kq58.1) Kq59.1) Kq60.1)) (v := some (.int (1 : Int32))) (fun h => by rw [Bd.returns] at h; cases h)
  refine ⟨_, _, pre0 _ ?_, hrun, hended, _, _, rfl, ?_, ?_, hRW.1, hRW.2.1, hRW.2.2.1, hRW.2.2.2.mono (by decide) (by decide)⟩
  · show Steps p.tables e below (s₁.setTop (mkF m 0 (own_Ln10 p1 p2 p3) [])) _
    refine XS.iloadN X0.here hx rfl (hb hby at_0) rfl ?_
    show Steps p.tables e below (s₁.setTop (mkF m 1 (own_Ln10 p1 p2 p3) [(.int p1)])) _
    refine XS.sipush X0.here hx rfl (hb hby at_1) ?_
    show Steps p.tables e below (s₁.setTop (mkF m 4 (own_Ln10 p1 p2 p3) [(.int (255 : Int32)), (.int p1)])) _
    refine XS.iand X0.here hx rfl (hb hby at_4) rfl ?_
    show Steps p.tables e below (s₁.setTop (mkF m 5 (own_Ln10 p1 p2 p3) [(.int (p1 &&& (255 : Int32)))])) _
    refine XS.i2c X0.here hx rfl (hb hby at_5) rfl ?_
    show Steps p.tables e below (s₁.setTop (mkF m 6 (own_Ln10 p1 p2 p3) [(.int ((p1 &&& (255 : Int32)).toUInt32.toUInt16.toUInt32.toInt32))])) _
    refine XS.istoreN X0.here hx rfl (hb hby at_6) rfl (l' := (own_Ln6 p1 p2 p3)) rfl ?_
    show Steps p.tables e below (s₁.setTop (mkF m 7 (own_Ln6 p1 p2 p3) [])) _
    refine XS.iloadN X0.here hx rfl (hb hby at_7) rfl ?_
    show Steps p.tables e below (s₁.setTop (mkF m 8 (own_Ln6 p1 p2 p3) [(.int p1)])) _
    refine XS.bipush X0.here hx rfl (hb hby at_8) ?_
    show Steps p.tables e below (s₁.setTop (mkF m 10 (own_Ln6 p1 p2 p3) [(.int (8 : Int32)), (.int p1)])) _
    refine XS.iushr X0.here hx rfl (hb hby at_10) rfl ?_
    show Steps p.tables e below (s₁.setTop (mkF m 11 (own_Ln6 p1 p2 p3) [(.int ((p1.toUInt32 >>> ((8 : Int32) &&& 31).toUInt32).toInt32))])) _
    refine XS.sipush X0.here hx rfl (hb hby at_11) ?_
    show Steps p.tables e below (s₁.setTop (mkF m 14 (own_Ln6 p1 p2 p3) [(.int (255 : Int32)), (.int ((p1.toUInt32 >>> ((8 : Int32) &&& 31).toUInt32).toInt32))])) _
    refine XS.iand X0.here hx rfl (hb hby at_14) rfl ?_
    show Steps p.tables e below (s₁.setTop (mkF m 15 (own_Ln6 p1 p2 p3) [(.int (((p1.toUInt32 >>> ((8 : Int32) &&& 31).toUInt32).toInt32) &&& (255 : Int32)))])) _
    refine XS.i2c X0.here hx rfl (hb hby at_15) rfl ?_
    show Steps p.tables e below (s₁.setTop (mkF m 16 (own_Ln6 p1 p2 p3) [(.int ((((p1.toUInt32 >>> ((8 : Int32) &&& 31).toUInt32).toInt32) &&& (255 : Int32)).toUInt32.toUInt16.toUInt32.toInt32))])) _
    refine XS.istore X0.here hx rfl (hb hby at_16) rfl (l' := (own_Ln11 p1 p2 p3)) rfl ?_
    show Steps p.tables e below (s₁.setTop (mkF m 18 (own_Ln11 p1 p2 p3) [])) _
    refine XS.iloadN X0.here hx rfl (hb hby at_18) rfl ?_
    show Steps p.tables e below (s₁.setTop (mkF m 19 (own_Ln11 p1 p2 p3) [(.int p2)])) _
    refine XS.sipush X0.here hx rfl (hb hby at_19) ?_
    show Steps p.tables e below (s₁.setTop (mkF m 22 (own_Ln11 p1 p2 p3) [(.int (255 : Int32)), (.int p2)])) _
    refine XS.iand X0.here hx rfl (hb hby at_22) rfl ?_
    show Steps p.tables e below (s₁.setTop (mkF m 23 (own_Ln11 p1 p2 p3) [(.int (p2 &&& (255 : Int32)))])) _
    refine XS.i2c X0.here hx rfl (hb hby at_23) rfl ?_
    show Steps p.tables e below (s₁.setTop (mkF m 24 (own_Ln11 p1 p2 p3) [(.int ((p2 &&& (255 : Int32)).toUInt32.toUInt16.toUInt32.toInt32))])) _
    refine XS.istore X0.here hx rfl (hb hby at_24) rfl (l' := (own_Ln5 p1 p2 p3)) rfl ?_
    show Steps p.tables e below (s₁.setTop (mkF m 26 (own_Ln5 p1 p2 p3) [])) _
    refine XS.iloadN X0.here hx rfl (hb hby at_26) rfl ?_
    show Steps p.tables e below (s₁.setTop (mkF m 27 (own_Ln5 p1 p2 p3) [(.int p2)])) _
    refine XS.bipush X0.here hx rfl (hb hby at_27) ?_
    show Steps p.tables e below (s₁.setTop (mkF m 29 (own_Ln5 p1 p2 p3) [(.int (8 : Int32)), (.int p2)])) _
    refine XS.iushr X0.here hx rfl (hb hby at_29) rfl ?_
    show Steps p.tables e below (s₁.setTop (mkF m 30 (own_Ln5 p1 p2 p3) [(.int ((p2.toUInt32 >>> ((8 : Int32) &&& 31).toUInt32).toInt32))])) _
    refine XS.iconst X0.here hx rfl (hb hby at_30) ?_
    show Steps p.tables e below (s₁.setTop (mkF m 31 (own_Ln5 p1 p2 p3) [(.int (1 : Int32)), (.int ((p2.toUInt32 >>> ((8 : Int32) &&& 31).toUInt32).toInt32))])) _
    refine XS.iand X0.here hx rfl (hb hby at_31) rfl ?_
    show Steps p.tables e below (s₁.setTop (mkF m 32 (own_Ln5 p1 p2 p3) [(.int (((p2.toUInt32 >>> ((8 : Int32) &&& 31).toUInt32).toInt32) &&& (1 : Int32)))])) _
    refine XS.ifYes X0.here hx rfl (pc0 := 32) (pc' := 39) rfl (hb hby at_32) rfl ((if0 _ _).trans (teq hc32).1) (by decide) (by decide) ?_
    show Steps p.tables e below (s₁.setTop (mkF m 39 (own_Ln5 p1 p2 p3) [])) _
    refine XS.iconst X0.here hx rfl (hb hby at_39) ?_
    show Steps p.tables e below (s₁.setTop (mkF m 40 (own_Ln5 p1 p2 p3) [(.int (0 : Int32))])) _
    refine XS.istore X0.here hx rfl (hb hby at_40) rfl (l' := (own_Ln12 p1 p2 p3)) rfl ?_
    show Steps p.tables e below (s₁.setTop (mkF m 42 (own_Ln12 p1 p2 p3) [])) _
    refine XS.iloadN X0.here hx rfl (hb hby at_42) rfl ?_
    show Steps p.tables e below (s₁.setTop (mkF m 43 (own_Ln12 p1 p2 p3) [(.int p3)])) _
    refine XS.sipush X0.here hx rfl (hb hby at_43) ?_
    show Steps p.tables e below (s₁.setTop (mkF m 46 (own_Ln12 p1 p2 p3) [(.int (255 : Int32)), (.int p3)])) _
    refine XS.iand X0.here hx rfl (hb hby at_46) rfl ?_
    show Steps p.tables e below (s₁.setTop (mkF m 47 (own_Ln12 p1 p2 p3) [(.int (p3 &&& (255 : Int32)))])) _
    refine XS.i2c X0.here hx rfl (hb hby at_47) rfl ?_
    show Steps p.tables e below (s₁.setTop (mkF m 48 (own_Ln12 p1 p2 p3) [(.int ((p3 &&& (255 : Int32)).toUInt32.toUInt16.toUInt32.toInt32))])) _
    refine XS.istore X0.here hx rfl (hb hby at_48) rfl (l' := (own_Ln7 p1 p2 p3)) rfl ?_
    show Steps p.tables e below (s₁.setTop (mkF m 50 (own_Ln7 p1 p2 p3) [])) _
    refine XS.iloadN X0.here hx rfl (hb hby at_50) rfl ?_
    show Steps p.tables e below (s₁.setTop (mkF m 51 (own_Ln7 p1 p2 p3) [(.int p3)])) _
    refine XS.bipush X0.here hx rfl (hb hby at_51) ?_
    show Steps p.tables e below (s₁.setTop (mkF m 53 (own_Ln7 p1 p2 p3) [(.int (8 : Int32)), (.int p3)])) _
    refine XS.iushr X0.here hx rfl (hb hby at_53) rfl ?_
    show Steps p.tables e below (s₁.setTop (mkF m 54 (own_Ln7 p1 p2 p3) [(.int ((p3.toUInt32 >>> ((8 : Int32) &&& 31).toUInt32).toInt32))])) _
    refine XS.sipush X0.here hx rfl (hb hby at_54) ?_
    show Steps p.tables e below (s₁.setTop (mkF m 57 (own_Ln7 p1 p2 p3) [(.int (255 : Int32)), (.int ((p3.toUInt32 >>> ((8 : Int32) &&& 31).toUInt32).toInt32))])) _
    refine XS.iand X0.here hx rfl (hb hby at_57) rfl ?_
    show Steps p.tables e below (s₁.setTop (mkF m 58 (own_Ln7 p1 p2 p3) [(.int (((p3.toUInt32 >>> ((8 : Int32) &&& 31).toUInt32).toInt32) &&& (255 : Int32)))])) _
    refine XS.i2c X0.here hx rfl (hb hby at_58) rfl ?_
    show Steps p.tables e below (s₁.setTop (mkF m 59 (own_Ln7 p1 p2 p3) [(.int ((((p3.toUInt32 >>> ((8 : Int32) &&& 31).toUInt32).toInt32) &&& (255 : Int32)).toUInt32.toUInt16.toUInt32.toInt32))])) _
    refine XS.istore X0.here hx rfl (hb hby at_59) rfl (l' := (own_Ln1 p1 p2 p3)) rfl ?_
    show Steps p.tables e below (s₁.setTop (mkF m 61 (own_Ln1 p1 p2 p3) [])) _
    refine st4 _ ?_
    show Steps p.tables e below (T4.setTop (mkF m 64 (own_Ln1 p1 p2 p3) [(.ref b4)])) _
    refine XS.dup X4.here hx rfl (hb hby at_64) rfl rfl ?_
    show Steps p.tables e below (T4.setTop (mkF m 65 (own_Ln1 p1 p2 p3) [(.ref b4), (.ref b4)])) _
    refine XS.iconst X4.here hx rfl (hb hby at_65) ?_
    show Steps p.tables e below (T4.setTop (mkF m 66 (own_Ln1 p1 p2 p3) [(.int (2 : Int32)), (.ref b4), (.ref b4)])) _
    refine st5 _ ?_
    show Steps p.tables e below (T5.setTop (mkF m 68 (own_Ln1 p1 p2 p3) [(.ref b5), (.ref b4), (.ref b4)])) _
    refine XS.dup X5.here hx rfl (hb hby at_68) rfl rfl ?_
    show Steps p.tables e below (T5.setTop (mkF m 69 (own_Ln1 p1 p2 p3) [(.ref b5), (.ref b5), (.ref b4), (.ref b4)])) _
    refine XS.iconst X5.here hx rfl (hb hby at_69) ?_
    show Steps p.tables e below (T5.setTop (mkF m 70 (own_Ln1 p1 p2 p3) [(.int (0 : Int32)), (.ref b5), (.ref b5), (.ref b4), (.ref b4)])) _
    refine XS.iloadN X5.here hx rfl (hb hby at_70) rfl ?_
    show Steps p.tables e below (T5.setTop (mkF m 71 (own_Ln1 p1 p2 p3) [(.int ((p1 &&& (255 : Int32)).toUInt32.toUInt16.toUInt32.toInt32)), (.int (0 : Int32)), (.ref b5), (.ref b5), (.ref b4), (.ref b4)])) _
    refine st6 _ ?_
    show Steps p.tables e below (T6.setTop (mkF m 72 (own_Ln1 p1 p2 p3) [(.ref b5), (.ref b4), (.ref b4)])) _
    refine XS.dup X6.here hx rfl (hb hby at_72) rfl rfl ?_
    show Steps p.tables e below (T6.setTop (mkF m 73 (own_Ln1 p1 p2 p3) [(.ref b5), (.ref b5), (.ref b4), (.ref b4)])) _
    refine XS.iconst X6.here hx rfl (hb hby at_73) ?_
    show Steps p.tables e below (T6.setTop (mkF m 74 (own_Ln1 p1 p2 p3) [(.int (1 : Int32)), (.ref b5), (.ref b5), (.ref b4), (.ref b4)])) _
    refine XS.iload X6.here hx rfl (hb hby at_74) rfl ?_
    show Steps p.tables e below (T6.setTop (mkF m 76 (own_Ln1 p1 p2 p3) [(.int ((((p1.toUInt32 >>> ((8 : Int32) &&& 31).toUInt32).toInt32) &&& (255 : Int32)).toUInt32.toUInt16.toUInt32.toInt32)), (.int (1 : Int32)), (.ref b5), (.ref b5), (.ref b4), (.ref b4)])) _
    refine st7 _ ?_
    show Steps p.tables e below (T7.setTop (mkF m 77 (own_Ln1 p1 p2 p3) [(.ref b5), (.ref b4), (.ref b4)])) _
    refine st8.trans ?_
    show Steps p.tables e below (T8.setTop (mkF m 80 (own_Ln1 p1 p2 p3) [(.ref b4)])) _
    refine XS.astore X8.here hx rfl (hb hby at_80) rfl rfl (l' := (own_Ln4 p1 p2 p3 b4)) rfl ?_
    show Steps p.tables e below (T8.setTop (mkF m 82 (own_Ln4 p1 p2 p3 b4) [])) _
    refine XS.iload X8.here hx rfl (hb hby at_82) rfl ?_
    show Steps p.tables e below (T8.setTop (mkF m 84 (own_Ln4 p1 p2 p3 b4) [(.int (0 : Int32))])) _
    refine XS.ifYes X8.here hx rfl (pc0 := 84) (pc' := 105) rfl (hb hby at_84) rfl ((if0 _ _).trans (teq (rfl : (0 : Int32) = (0 : Int32))).1) (by decide) (by decide) ?_
    show Steps p.tables e below (T8.setTop (mkF m 105 (own_Ln4 p1 p2 p3 b4) [])) _
    refine st9 _ ?_
    show Steps p.tables e below (T9.setTop (mkF m 108 (own_Ln4 p1 p2 p3 b4) [(.ref b9)])) _
    refine XS.dup X9.here hx rfl (hb hby at_108) rfl rfl ?_
    show Steps p.tables e below (T9.setTop (mkF m 109 (own_Ln4 p1 p2 p3 b4) [(.ref b9), (.ref b9)])) _
    refine XS.iconst X9.here hx rfl (hb hby at_109) ?_
    show Steps p.tables e below (T9.setTop (mkF m 110 (own_Ln4 p1 p2 p3 b4) [(.int (0 : Int32)), (.ref b9), (.ref b9)])) _
    refine st10 _ ?_
    show Steps p.tables e below (T10.setTop (mkF m 112 (own_Ln4 p1 p2 p3 b4) [(.ref b10), (.ref b9), (.ref b9)])) _
    refine st11.trans ?_
    show Steps p.tables e below (T11.setTop (mkF m 115 (own_Ln4 p1 p2 p3 b4) [(.ref b9)])) _
    refine XS.astore X11.here hx rfl (hb hby at_115) rfl rfl (l' := (own_Ln2 p1 p2 p3 b4 b9)) rfl ?_
    show Steps p.tables e below (T11.setTop (mkF m 117 (own_Ln2 p1 p2 p3 b4 b9) [])) _
    refine st12 _ ?_
    show Steps p.tables e below (T12.setTop (mkF m 120 (own_Ln2 p1 p2 p3 b4 b9) [(.ref b12)])) _
    refine XS.dup X12.here hx rfl (hb hby at_120) rfl rfl ?_
    show Steps p.tables e below (T12.setTop (mkF m 121 (own_Ln2 p1 p2 p3 b4 b9) [(.ref b12), (.ref b12)])) _
    refine XS.iconst X12.here hx rfl (hb hby at_121) ?_
    show Steps p.tables e below (T12.setTop (mkF m 122 (own_Ln2 p1 p2 p3 b4 b9) [(.int (2 : Int32)), (.ref b12), (.ref b12)])) _
    refine st13 _ ?_
    show Steps p.tables e below (T13.setTop (mkF m 124 (own_Ln2 p1 p2 p3 b4 b9) [(.ref b13), (.ref b12), (.ref b12)])) _
    refine XS.dup X13.here hx rfl (hb hby at_124) rfl rfl ?_
    show Steps p.tables e below (T13.setTop (mkF m 125 (own_Ln2 p1 p2 p3 b4 b9) [(.ref b13), (.ref b13), (.ref b12), (.ref b12)])) _
    refine XS.iconst X13.here hx rfl (hb hby at_125) ?_
    show Steps p.tables e below (T13.setTop (mkF m 126 (own_Ln2 p1 p2 p3 b4 b9) [(.int (0 : Int32)), (.ref b13), (.ref b13), (.ref b12), (.ref b12)])) _
    refine XS.iload X13.here hx rfl (hb hby at_126) rfl ?_
    show Steps p.tables e below (T13.setTop (mkF m 128 (own_Ln2 p1 p2 p3 b4 b9) [(.int ((p3 &&& (255 : Int32)).toUInt32.toUInt16.toUInt32.toInt32)), (.int (0 : Int32)), (.ref b13), (.ref b13), (.ref b12), (.ref b12)])) _
    refine st14 _ ?_
    show Steps p.tables e below (T14.setTop (mkF m 129 (own_Ln2 p1 p2 p3 b4 b9) [(.ref b13), (.ref b12), (.ref b12)])) _
    refine XS.dup X14.here hx rfl (hb hby at_129) rfl rfl ?_
    show Steps p.tables e below (T14.setTop (mkF m 130 (own_Ln2 p1 p2 p3 b4 b9) [(.ref b13), (.ref b13), (.ref b12), (.ref b12)])) _
    refine XS.iconst X14.here hx rfl (hb hby at_130) ?_
    show Steps p.tables e below (T14.setTop (mkF m 131 (own_Ln2 p1 p2 p3 b4 b9) [(.int (1 : Int32)), (.ref b13), (.ref b13), (.ref b12), (.ref b12)])) _
    refine XS.iload X14.here hx rfl (hb hby at_131) rfl ?_
    show Steps p.tables e below (T14.setTop (mkF m 133 (own_Ln2 p1 p2 p3 b4 b9) [(.int ((((p3.toUInt32 >>> ((8 : Int32) &&& 31).toUInt32).toInt32) &&& (255 : Int32)).toUInt32.toUInt16.toUInt32.toInt32)), (.int (1 : Int32)), (.ref b13), (.ref b13), (.ref b12), (.ref b12)])) _
    refine st15 _ ?_
    show Steps p.tables e below (T15.setTop (mkF m 134 (own_Ln2 p1 p2 p3 b4 b9) [(.ref b13), (.ref b12), (.ref b12)])) _
    refine st16.trans ?_
    show Steps p.tables e below (T16.setTop (mkF m 137 (own_Ln2 p1 p2 p3 b4 b9) [(.ref b12)])) _
    refine XS.astore X16.here hx rfl (hb hby at_137) rfl rfl (l' := (own_Ln0 p1 p2 p3 b12 b4 b9)) rfl ?_
    show Steps p.tables e below (T16.setTop (mkF m 139 (own_Ln0 p1 p2 p3 b12 b4 b9) [])) _
    refine XS.iload X16.here hx rfl (hb hby at_139) rfl ?_
    show Steps p.tables e below (T16.setTop (mkF m 141 (own_Ln0 p1 p2 p3 b12 b4 b9) [(.int (0 : Int32))])) _
    refine XS.ifYes X16.here hx rfl (pc0 := 141) (pc' := 381) rfl (hb hby at_141) rfl ((if0 _ _).trans (teq (rfl : (0 : Int32) = (0 : Int32))).1) (by decide) (by decide) ?_
    show Steps p.tables e below (T16.setTop (mkF m 381 (own_Ln0 p1 p2 p3 b12 b4 b9) [])) _
    refine st17 _ ?_
    show Steps p.tables e below (T17.setTop (mkF m 384 (own_Ln0 p1 p2 p3 b12 b4 b9) [(.ref b17)])) _
    refine XS.dup X17.here hx rfl (hb hby at_384) rfl rfl ?_
    show Steps p.tables e below (T17.setTop (mkF m 385 (own_Ln0 p1 p2 p3 b12 b4 b9) [(.ref b17), (.ref b17)])) _
    refine XS.bipush X17.here hx rfl (hb hby at_385) ?_
    show Steps p.tables e below (T17.setTop (mkF m 387 (own_Ln0 p1 p2 p3 b12 b4 b9) [(.int (37 : Int32)), (.ref b17), (.ref b17)])) _
    refine st18 _ ?_
    show Steps p.tables e below (T18.setTop (mkF m 389 (own_Ln0 p1 p2 p3 b12 b4 b9) [(.ref b18), (.ref b17), (.ref b17)])) _
    refine XS.dup X18.here hx rfl (hb hby at_389) rfl rfl ?_
    show Steps p.tables e below (T18.setTop (mkF m 390 (own_Ln0 p1 p2 p3 b12 b4 b9) [(.ref b18), (.ref b18), (.ref b17), (.ref b17)])) _
    refine XS.iconst X18.here hx rfl (hb hby at_390) ?_
    show Steps p.tables e below (T18.setTop (mkF m 391 (own_Ln0 p1 p2 p3 b12 b4 b9) [(.int (0 : Int32)), (.ref b18), (.ref b18), (.ref b17), (.ref b17)])) _
    refine XS.bipush X18.here hx rfl (hb hby at_391) ?_
    show Steps p.tables e below (T18.setTop (mkF m 393 (own_Ln0 p1 p2 p3 b12 b4 b9) [(.int (116 : Int32)), (.int (0 : Int32)), (.ref b18), (.ref b18), (.ref b17), (.ref b17)])) _
    refine st19 _ ?_
    show Steps p.tables e below (T19.setTop (mkF m 394 (own_Ln0 p1 p2 p3 b12 b4 b9) [(.ref b18), (.ref b17), (.ref b17)])) _
    refine XS.dup X19.here hx rfl (hb hby at_394) rfl rfl ?_
    show Steps p.tables e below (T19.setTop (mkF m 395 (own_Ln0 p1 p2 p3 b12 b4 b9) [(.ref b18), (.ref b18), (.ref b17), (.ref b17)])) _
    refine XS.iconst X19.here hx rfl (hb hby at_395) ?_
    show Steps p.tables e below (T19.setTop (mkF m 396 (own_Ln0 p1 p2 p3 b12 b4 b9) [(.int (1 : Int32)), (.ref b18), (.ref b18), (.ref b17), (.ref b17)])) _
    refine XS.bipush X19.here hx rfl (hb hby at_396) ?_
    show Steps p.tables e below (T19.setTop (mkF m 398 (own_Ln0 p1 p2 p3 b12 b4 b9) [(.int (104 : Int32)), (.int (1 : Int32)), (.ref b18), (.ref b18), (.ref b17), (.ref b17)])) _
    refine st20 _ ?_
    show Steps p.tables e below (T20.setTop (mkF m 399 (own_Ln0 p1 p2 p3 b12 b4 b9) [(.ref b18), (.ref b17), (.ref b17)])) _
    refine XS.dup X20.here hx rfl (hb hby at_399) rfl rfl ?_
    show Steps p.tables e below (T20.setTop (mkF m 400 (own_Ln0 p1 p2 p3 b12 b4 b9) [(.ref b18), (.ref b18), (.ref b17), (.ref b17)])) _
    refine XS.iconst X20.here hx rfl (hb hby at_400) ?_
    show Steps p.tables e below (T20.setTop (mkF m 401 (own_Ln0 p1 p2 p3 b12 b4 b9) [(.int (2 : Int32)), (.ref b18), (.ref b18), (.ref b17), (.ref b17)])) _
    refine XS.bipush X20.here hx rfl (hb hby at_401) ?_
    show Steps p.tables e below (T20.setTop (mkF m 403 (own_Ln0 p1 p2 p3 b12 b4 b9) [(.int (101 : Int32)), (.int (2 : Int32)), (.ref b18), (.ref b18), (.ref b17), (.ref b17)])) _
    refine st21 _ ?_
    show Steps p.tables e below (T21.setTop (mkF m 404 (own_Ln0 p1 p2 p3 b12 b4 b9) [(.ref b18), (.ref b17), (.ref b17)])) _
    refine XS.dup X21.here hx rfl (hb hby at_404) rfl rfl ?_
    show Steps p.tables e below (T21.setTop (mkF m 405 (own_Ln0 p1 p2 p3 b12 b4 b9) [(.ref b18), (.ref b18), (.ref b17), (.ref b17)])) _
    refine XS.iconst X21.here hx rfl (hb hby at_405) ?_
    show Steps p.tables e below (T21.setTop (mkF m 406 (own_Ln0 p1 p2 p3 b12 b4 b9) [(.int (3 : Int32)), (.ref b18), (.ref b18), (.ref b17), (.ref b17)])) _
    refine XS.bipush X21.here hx rfl (hb hby at_406) ?_
    show Steps p.tables e below (T21.setTop (mkF m 408 (own_Ln0 p1 p2 p3 b12 b4 b9) [(.int (32 : Int32)), (.int (3 : Int32)), (.ref b18), (.ref b18), (.ref b17), (.ref b17)])) _
    refine st22 _ ?_
    show Steps p.tables e below (T22.setTop (mkF m 409 (own_Ln0 p1 p2 p3 b12 b4 b9) [(.ref b18), (.ref b17), (.ref b17)])) _
    refine XS.dup X22.here hx rfl (hb hby at_409) rfl rfl ?_
    show Steps p.tables e below (T22.setTop (mkF m 410 (own_Ln0 p1 p2 p3 b12 b4 b9) [(.ref b18), (.ref b18), (.ref b17), (.ref b17)])) _
    refine XS.iconst X22.here hx rfl (hb hby at_410) ?_
    show Steps p.tables e below (T22.setTop (mkF m 411 (own_Ln0 p1 p2 p3 b12 b4 b9) [(.int (4 : Int32)), (.ref b18), (.ref b18), (.ref b17), (.ref b17)])) _
    refine XS.bipush X22.here hx rfl (hb hby at_411) ?_
    show Steps p.tables e below (T22.setTop (mkF m 413 (own_Ln0 p1 p2 p3 b12 b4 b9) [(.int (115 : Int32)), (.int (4 : Int32)), (.ref b18), (.ref b18), (.ref b17), (.ref b17)])) _
    refine st23 _ ?_
    show Steps p.tables e below (T23.setTop (mkF m 414 (own_Ln0 p1 p2 p3 b12 b4 b9) [(.ref b18), (.ref b17), (.ref b17)])) _
    refine XS.dup X23.here hx rfl (hb hby at_414) rfl rfl ?_
    show Steps p.tables e below (T23.setTop (mkF m 415 (own_Ln0 p1 p2 p3 b12 b4 b9) [(.ref b18), (.ref b18), (.ref b17), (.ref b17)])) _
    refine XS.iconst X23.here hx rfl (hb hby at_415) ?_
    show Steps p.tables e below (T23.setTop (mkF m 416 (own_Ln0 p1 p2 p3 b12 b4 b9) [(.int (5 : Int32)), (.ref b18), (.ref b18), (.ref b17), (.ref b17)])) _
    refine XS.bipush X23.here hx rfl (hb hby at_416) ?_
    show Steps p.tables e below (T23.setTop (mkF m 418 (own_Ln0 p1 p2 p3 b12 b4 b9) [(.int (121 : Int32)), (.int (5 : Int32)), (.ref b18), (.ref b18), (.ref b17), (.ref b17)])) _
    refine st24 _ ?_
    show Steps p.tables e below (T24.setTop (mkF m 419 (own_Ln0 p1 p2 p3 b12 b4 b9) [(.ref b18), (.ref b17), (.ref b17)])) _
    refine XS.dup X24.here hx rfl (hb hby at_419) rfl rfl ?_
    show Steps p.tables e below (T24.setTop (mkF m 420 (own_Ln0 p1 p2 p3 b12 b4 b9) [(.ref b18), (.ref b18), (.ref b17), (.ref b17)])) _
    refine XS.bipush X24.here hx rfl (hb hby at_420) ?_
    show Steps p.tables e below (T24.setTop (mkF m 422 (own_Ln0 p1 p2 p3 b12 b4 b9) [(.int (6 : Int32)), (.ref b18), (.ref b18), (.ref b17), (.ref b17)])) _
    refine XS.bipush X24.here hx rfl (hb hby at_422) ?_
    show Steps p.tables e below (T24.setTop (mkF m 424 (own_Ln0 p1 p2 p3 b12 b4 b9) [(.int (115 : Int32)), (.int (6 : Int32)), (.ref b18), (.ref b18), (.ref b17), (.ref b17)])) _
    refine st25 _ ?_
    show Steps p.tables e below (T25.setTop (mkF m 425 (own_Ln0 p1 p2 p3 b12 b4 b9) [(.ref b18), (.ref b17), (.ref b17)])) _
    refine XS.dup X25.here hx rfl (hb hby at_425) rfl rfl ?_
    show Steps p.tables e below (T25.setTop (mkF m 426 (own_Ln0 p1 p2 p3 b12 b4 b9) [(.ref b18), (.ref b18), (.ref b17), (.ref b17)])) _
    refine XS.bipush X25.here hx rfl (hb hby at_426) ?_
    show Steps p.tables e below (T25.setTop (mkF m 428 (own_Ln0 p1 p2 p3 b12 b4 b9) [(.int (7 : Int32)), (.ref b18), (.ref b18), (.ref b17), (.ref b17)])) _
    refine XS.bipush X25.here hx rfl (hb hby at_428) ?_
    show Steps p.tables e below (T25.setTop (mkF m 430 (own_Ln0 p1 p2 p3 b12 b4 b9) [(.int (116 : Int32)), (.int (7 : Int32)), (.ref b18), (.ref b18), (.ref b17), (.ref b17)])) _
    refine st26 _ ?_
    show Steps p.tables e below (T26.setTop (mkF m 431 (own_Ln0 p1 p2 p3 b12 b4 b9) [(.ref b18), (.ref b17), (.ref b17)])) _
    refine XS.dup X26.here hx rfl (hb hby at_431) rfl rfl ?_
    show Steps p.tables e below (T26.setTop (mkF m 432 (own_Ln0 p1 p2 p3 b12 b4 b9) [(.ref b18), (.ref b18), (.ref b17), (.ref b17)])) _
    refine XS.bipush X26.here hx rfl (hb hby at_432) ?_
    show Steps p.tables e below (T26.setTop (mkF m 434 (own_Ln0 p1 p2 p3 b12 b4 b9) [(.int (8 : Int32)), (.ref b18), (.ref b18), (.ref b17), (.ref b17)])) _
    refine XS.bipush X26.here hx rfl (hb hby at_434) ?_
    show Steps p.tables e below (T26.setTop (mkF m 436 (own_Ln0 p1 p2 p3 b12 b4 b9) [(.int (101 : Int32)), (.int (8 : Int32)), (.ref b18), (.ref b18), (.ref b17), (.ref b17)])) _
    refine st27 _ ?_
    show Steps p.tables e below (T27.setTop (mkF m 437 (own_Ln0 p1 p2 p3 b12 b4 b9) [(.ref b18), (.ref b17), (.ref b17)])) _
    refine XS.dup X27.here hx rfl (hb hby at_437) rfl rfl ?_
    show Steps p.tables e below (T27.setTop (mkF m 438 (own_Ln0 p1 p2 p3 b12 b4 b9) [(.ref b18), (.ref b18), (.ref b17), (.ref b17)])) _
    refine XS.bipush X27.here hx rfl (hb hby at_438) ?_
    show Steps p.tables e below (T27.setTop (mkF m 440 (own_Ln0 p1 p2 p3 b12 b4 b9) [(.int (9 : Int32)), (.ref b18), (.ref b18), (.ref b17), (.ref b17)])) _
    refine XS.bipush X27.here hx rfl (hb hby at_440) ?_
    show Steps p.tables e below (T27.setTop (mkF m 442 (own_Ln0 p1 p2 p3 b12 b4 b9) [(.int (109 : Int32)), (.int (9 : Int32)), (.ref b18), (.ref b18), (.ref b17), (.ref b17)])) _
    refine st28 _ ?_
    show Steps p.tables e below (T28.setTop (mkF m 443 (own_Ln0 p1 p2 p3 b12 b4 b9) [(.ref b18), (.ref b17), (.ref b17)])) _
    refine XS.dup X28.here hx rfl (hb hby at_443) rfl rfl ?_
    show Steps p.tables e below (T28.setTop (mkF m 444 (own_Ln0 p1 p2 p3 b12 b4 b9) [(.ref b18), (.ref b18), (.ref b17), (.ref b17)])) _
    refine XS.bipush X28.here hx rfl (hb hby at_444) ?_
    show Steps p.tables e below (T28.setTop (mkF m 446 (own_Ln0 p1 p2 p3 b12 b4 b9) [(.int (10 : Int32)), (.ref b18), (.ref b18), (.ref b17), (.ref b17)])) _
    refine XS.bipush X28.here hx rfl (hb hby at_446) ?_
    show Steps p.tables e below (T28.setTop (mkF m 448 (own_Ln0 p1 p2 p3 b12 b4 b9) [(.int (32 : Int32)), (.int (10 : Int32)), (.ref b18), (.ref b18), (.ref b17), (.ref b17)])) _
    refine st29 _ ?_
    show Steps p.tables e below (T29.setTop (mkF m 449 (own_Ln0 p1 p2 p3 b12 b4 b9) [(.ref b18), (.ref b17), (.ref b17)])) _
    refine XS.dup X29.here hx rfl (hb hby at_449) rfl rfl ?_
    show Steps p.tables e below (T29.setTop (mkF m 450 (own_Ln0 p1 p2 p3 b12 b4 b9) [(.ref b18), (.ref b18), (.ref b17), (.ref b17)])) _
    refine XS.bipush X29.here hx rfl (hb hby at_450) ?_
    show Steps p.tables e below (T29.setTop (mkF m 452 (own_Ln0 p1 p2 p3 b12 b4 b9) [(.int (11 : Int32)), (.ref b18), (.ref b18), (.ref b17), (.ref b17)])) _
    refine XS.bipush X29.here hx rfl (hb hby at_452) ?_
    show Steps p.tables e below (T29.setTop (mkF m 454 (own_Ln0 p1 p2 p3 b12 b4 b9) [(.int (112 : Int32)), (.int (11 : Int32)), (.ref b18), (.ref b18), (.ref b17), (.ref b17)])) _
    refine st30 _ ?_
    show Steps p.tables e below (T30.setTop (mkF m 455 (own_Ln0 p1 p2 p3 b12 b4 b9) [(.ref b18), (.ref b17), (.ref b17)])) _
    refine XS.dup X30.here hx rfl (hb hby at_455) rfl rfl ?_
    show Steps p.tables e below (T30.setTop (mkF m 456 (own_Ln0 p1 p2 p3 b12 b4 b9) [(.ref b18), (.ref b18), (.ref b17), (.ref b17)])) _
    refine XS.bipush X30.here hx rfl (hb hby at_456) ?_
    show Steps p.tables e below (T30.setTop (mkF m 458 (own_Ln0 p1 p2 p3 b12 b4 b9) [(.int (12 : Int32)), (.ref b18), (.ref b18), (.ref b17), (.ref b17)])) _
    refine XS.bipush X30.here hx rfl (hb hby at_458) ?_
    show Steps p.tables e below (T30.setTop (mkF m 460 (own_Ln0 p1 p2 p3 b12 b4 b9) [(.int (114 : Int32)), (.int (12 : Int32)), (.ref b18), (.ref b18), (.ref b17), (.ref b17)])) _
    refine st31 _ ?_
    show Steps p.tables e below (T31.setTop (mkF m 461 (own_Ln0 p1 p2 p3 b12 b4 b9) [(.ref b18), (.ref b17), (.ref b17)])) _
    refine XS.dup X31.here hx rfl (hb hby at_461) rfl rfl ?_
    show Steps p.tables e below (T31.setTop (mkF m 462 (own_Ln0 p1 p2 p3 b12 b4 b9) [(.ref b18), (.ref b18), (.ref b17), (.ref b17)])) _
    refine XS.bipush X31.here hx rfl (hb hby at_462) ?_
    show Steps p.tables e below (T31.setTop (mkF m 464 (own_Ln0 p1 p2 p3 b12 b4 b9) [(.int (13 : Int32)), (.ref b18), (.ref b18), (.ref b17), (.ref b17)])) _
    refine XS.bipush X31.here hx rfl (hb hby at_464) ?_
    show Steps p.tables e below (T31.setTop (mkF m 466 (own_Ln0 p1 p2 p3 b12 b4 b9) [(.int (111 : Int32)), (.int (13 : Int32)), (.ref b18), (.ref b18), (.ref b17), (.ref b17)])) _
    refine st32 _ ?_
    show Steps p.tables e below (T32.setTop (mkF m 467 (own_Ln0 p1 p2 p3 b12 b4 b9) [(.ref b18), (.ref b17), (.ref b17)])) _
    refine XS.dup X32.here hx rfl (hb hby at_467) rfl rfl ?_
    show Steps p.tables e below (T32.setTop (mkF m 468 (own_Ln0 p1 p2 p3 b12 b4 b9) [(.ref b18), (.ref b18), (.ref b17), (.ref b17)])) _
    refine XS.bipush X32.here hx rfl (hb hby at_468) ?_
    show Steps p.tables e below (T32.setTop (mkF m 470 (own_Ln0 p1 p2 p3 b12 b4 b9) [(.int (14 : Int32)), (.ref b18), (.ref b18), (.ref b17), (.ref b17)])) _
    refine XS.bipush X32.here hx rfl (hb hby at_470) ?_
    show Steps p.tables e below (T32.setTop (mkF m 472 (own_Ln0 p1 p2 p3 b12 b4 b9) [(.int (112 : Int32)), (.int (14 : Int32)), (.ref b18), (.ref b18), (.ref b17), (.ref b17)])) _
    refine st33 _ ?_
    show Steps p.tables e below (T33.setTop (mkF m 473 (own_Ln0 p1 p2 p3 b12 b4 b9) [(.ref b18), (.ref b17), (.ref b17)])) _
    refine XS.dup X33.here hx rfl (hb hby at_473) rfl rfl ?_
    show Steps p.tables e below (T33.setTop (mkF m 474 (own_Ln0 p1 p2 p3 b12 b4 b9) [(.ref b18), (.ref b18), (.ref b17), (.ref b17)])) _
    refine XS.bipush X33.here hx rfl (hb hby at_474) ?_
    show Steps p.tables e below (T33.setTop (mkF m 476 (own_Ln0 p1 p2 p3 b12 b4 b9) [(.int (15 : Int32)), (.ref b18), (.ref b18), (.ref b17), (.ref b17)])) _
    refine XS.bipush X33.here hx rfl (hb hby at_476) ?_
    show Steps p.tables e below (T33.setTop (mkF m 478 (own_Ln0 p1 p2 p3 b12 b4 b9) [(.int (101 : Int32)), (.int (15 : Int32)), (.ref b18), (.ref b18), (.ref b17), (.ref b17)])) _
    refine st34 _ ?_
    show Steps p.tables e below (T34.setTop (mkF m 479 (own_Ln0 p1 p2 p3 b12 b4 b9) [(.ref b18), (.ref b17), (.ref b17)])) _
    refine XS.dup X34.here hx rfl (hb hby at_479) rfl rfl ?_
    show Steps p.tables e below (T34.setTop (mkF m 480 (own_Ln0 p1 p2 p3 b12 b4 b9) [(.ref b18), (.ref b18), (.ref b17), (.ref b17)])) _
    refine XS.bipush X34.here hx rfl (hb hby at_480) ?_
    show Steps p.tables e below (T34.setTop (mkF m 482 (own_Ln0 p1 p2 p3 b12 b4 b9) [(.int (16 : Int32)), (.ref b18), (.ref b18), (.ref b17), (.ref b17)])) _
    refine XS.bipush X34.here hx rfl (hb hby at_482) ?_
    show Steps p.tables e below (T34.setTop (mkF m 484 (own_Ln0 p1 p2 p3 b12 b4 b9) [(.int (114 : Int32)), (.int (16 : Int32)), (.ref b18), (.ref b18), (.ref b17), (.ref b17)])) _
    refine st35 _ ?_
    show Steps p.tables e below (T35.setTop (mkF m 485 (own_Ln0 p1 p2 p3 b12 b4 b9) [(.ref b18), (.ref b17), (.ref b17)])) _
    refine XS.dup X35.here hx rfl (hb hby at_485) rfl rfl ?_
    show Steps p.tables e below (T35.setTop (mkF m 486 (own_Ln0 p1 p2 p3 b12 b4 b9) [(.ref b18), (.ref b18), (.ref b17), (.ref b17)])) _
    refine XS.bipush X35.here hx rfl (hb hby at_486) ?_
    show Steps p.tables e below (T35.setTop (mkF m 488 (own_Ln0 p1 p2 p3 b12 b4 b9) [(.int (17 : Int32)), (.ref b18), (.ref b18), (.ref b17), (.ref b17)])) _
    refine XS.bipush X35.here hx rfl (hb hby at_488) ?_
    show Steps p.tables e below (T35.setTop (mkF m 490 (own_Ln0 p1 p2 p3 b12 b4 b9) [(.int (116 : Int32)), (.int (17 : Int32)), (.ref b18), (.ref b18), (.ref b17), (.ref b17)])) _
    refine st36 _ ?_
    show Steps p.tables e below (T36.setTop (mkF m 491 (own_Ln0 p1 p2 p3 b12 b4 b9) [(.ref b18), (.ref b17), (.ref b17)])) _
    refine XS.dup X36.here hx rfl (hb hby at_491) rfl rfl ?_
    show Steps p.tables e below (T36.setTop (mkF m 492 (own_Ln0 p1 p2 p3 b12 b4 b9) [(.ref b18), (.ref b18), (.ref b17), (.ref b17)])) _
    refine XS.bipush X36.here hx rfl (hb hby at_492) ?_
    show Steps p.tables e below (T36.setTop (mkF m 494 (own_Ln0 p1 p2 p3 b12 b4 b9) [(.int (18 : Int32)), (.ref b18), (.ref b18), (.ref b17), (.ref b17)])) _
    refine XS.bipush X36.here hx rfl (hb hby at_494) ?_
    show Steps p.tables e below (T36.setTop (mkF m 496 (own_Ln0 p1 p2 p3 b12 b4 b9) [(.int (121 : Int32)), (.int (18 : Int32)), (.ref b18), (.ref b18), (.ref b17), (.ref b17)])) _
    refine st37 _ ?_
    show Steps p.tables e below (T37.setTop (mkF m 497 (own_Ln0 p1 p2 p3 b12 b4 b9) [(.ref b18), (.ref b17), (.ref b17)])) _
    refine XS.dup X37.here hx rfl (hb hby at_497) rfl rfl ?_
    show Steps p.tables e below (T37.setTop (mkF m 498 (own_Ln0 p1 p2 p3 b12 b4 b9) [(.ref b18), (.ref b18), (.ref b17), (.ref b17)])) _
    refine XS.bipush X37.here hx rfl (hb hby at_498) ?_
    show Steps p.tables e below (T37.setTop (mkF m 500 (own_Ln0 p1 p2 p3 b12 b4 b9) [(.int (19 : Int32)), (.ref b18), (.ref b18), (.ref b17), (.ref b17)])) _
    refine XS.bipush X37.here hx rfl (hb hby at_500) ?_
    show Steps p.tables e below (T37.setTop (mkF m 502 (own_Ln0 p1 p2 p3 b12 b4 b9) [(.int (32 : Int32)), (.int (19 : Int32)), (.ref b18), (.ref b18), (.ref b17), (.ref b17)])) _
    refine st38 _ ?_
    show Steps p.tables e below (T38.setTop (mkF m 503 (own_Ln0 p1 p2 p3 b12 b4 b9) [(.ref b18), (.ref b17), (.ref b17)])) _
    refine XS.dup X38.here hx rfl (hb hby at_503) rfl rfl ?_
    show Steps p.tables e below (T38.setTop (mkF m 504 (own_Ln0 p1 p2 p3 b12 b4 b9) [(.ref b18), (.ref b18), (.ref b17), (.ref b17)])) _
    refine XS.bipush X38.here hx rfl (hb hby at_504) ?_
    show Steps p.tables e below (T38.setTop (mkF m 506 (own_Ln0 p1 p2 p3 b12 b4 b9) [(.int (20 : Int32)), (.ref b18), (.ref b18), (.ref b17), (.ref b17)])) _
    refine XS.iloadN X38.here hx rfl (hb hby at_506) rfl ?_
    show Steps p.tables e below (T38.setTop (mkF m 507 (own_Ln0 p1 p2 p3 b12 b4 b9) [(.int ((p1 &&& (255 : Int32)).toUInt32.toUInt16.toUInt32.toInt32)), (.int (20 : Int32)), (.ref b18), (.ref b18), (.ref b17), (.ref b17)])) _
    refine st39 _ ?_
    show Steps p.tables e below (T39.setTop (mkF m 508 (own_Ln0 p1 p2 p3 b12 b4 b9) [(.ref b18), (.ref b17), (.ref b17)])) _
    refine XS.dup X39.here hx rfl (hb hby at_508) rfl rfl ?_
    show Steps p.tables e below (T39.setTop (mkF m 509 (own_Ln0 p1 p2 p3 b12 b4 b9) [(.ref b18), (.ref b18), (.ref b17), (.ref b17)])) _
    refine XS.bipush X39.here hx rfl (hb hby at_509) ?_
    show Steps p.tables e below (T39.setTop (mkF m 511 (own_Ln0 p1 p2 p3 b12 b4 b9) [(.int (21 : Int32)), (.ref b18), (.ref b18), (.ref b17), (.ref b17)])) _
    refine XS.iload X39.here hx rfl (hb hby at_511) rfl ?_
    show Steps p.tables e below (T39.setTop (mkF m 513 (own_Ln0 p1 p2 p3 b12 b4 b9) [(.int ((((p1.toUInt32 >>> ((8 : Int32) &&& 31).toUInt32).toInt32) &&& (255 : Int32)).toUInt32.toUInt16.toUInt32.toInt32)), (.int (21 : Int32)), (.ref b18), (.ref b18), (.ref b17), (.ref b17)])) _
    refine st40 _ ?_
    show Steps p.tables e below (T40.setTop (mkF m 514 (own_Ln0 p1 p2 p3 b12 b4 b9) [(.ref b18), (.ref b17), (.ref b17)])) _
    refine XS.dup X40.here hx rfl (hb hby at_514) rfl rfl ?_
    show Steps p.tables e below (T40.setTop (mkF m 515 (own_Ln0 p1 p2 p3 b12 b4 b9) [(.ref b18), (.ref b18), (.ref b17), (.ref b17)])) _
    refine XS.bipush X40.here hx rfl (hb hby at_515) ?_
    show Steps p.tables e below (T40.setTop (mkF m 517 (own_Ln0 p1 p2 p3 b12 b4 b9) [(.int (22 : Int32)), (.ref b18), (.ref b18), (.ref b17), (.ref b17)])) _
    refine XS.bipush X40.here hx rfl (hb hby at_517) ?_
    show Steps p.tables e below (T40.setTop (mkF m 519 (own_Ln0 p1 p2 p3 b12 b4 b9) [(.int (32 : Int32)), (.int (22 : Int32)), (.ref b18), (.ref b18), (.ref b17), (.ref b17)])) _
    refine st41 _ ?_
    show Steps p.tables e below (T41.setTop (mkF m 520 (own_Ln0 p1 p2 p3 b12 b4 b9) [(.ref b18), (.ref b17), (.ref b17)])) _
    refine XS.dup X41.here hx rfl (hb hby at_520) rfl rfl ?_
    show Steps p.tables e below (T41.setTop (mkF m 521 (own_Ln0 p1 p2 p3 b12 b4 b9) [(.ref b18), (.ref b18), (.ref b17), (.ref b17)])) _
    refine XS.bipush X41.here hx rfl (hb hby at_521) ?_
    show Steps p.tables e below (T41.setTop (mkF m 523 (own_Ln0 p1 p2 p3 b12 b4 b9) [(.int (23 : Int32)), (.ref b18), (.ref b18), (.ref b17), (.ref b17)])) _
    refine XS.bipush X41.here hx rfl (hb hby at_523) ?_
    show Steps p.tables e below (T41.setTop (mkF m 525 (own_Ln0 p1 p2 p3 b12 b4 b9) [(.int (105 : Int32)), (.int (23 : Int32)), (.ref b18), (.ref b18), (.ref b17), (.ref b17)])) _
    refine st42 _ ?_
    show Steps p.tables e below (T42.setTop (mkF m 526 (own_Ln0 p1 p2 p3 b12 b4 b9) [(.ref b18), (.ref b17), (.ref b17)])) _
    refine XS.dup X42.here hx rfl (hb hby at_526) rfl rfl ?_
    show Steps p.tables e below (T42.setTop (mkF m 527 (own_Ln0 p1 p2 p3 b12 b4 b9) [(.ref b18), (.ref b18), (.ref b17), (.ref b17)])) _
    refine XS.bipush X42.here hx rfl (hb hby at_527) ?_
    show Steps p.tables e below (T42.setTop (mkF m 529 (own_Ln0 p1 p2 p3 b12 b4 b9) [(.int (24 : Int32)), (.ref b18), (.ref b18), (.ref b17), (.ref b17)])) _
    refine XS.bipush X42.here hx rfl (hb hby at_529) ?_
    show Steps p.tables e below (T42.setTop (mkF m 531 (own_Ln0 p1 p2 p3 b12 b4 b9) [(.int (115 : Int32)), (.int (24 : Int32)), (.ref b18), (.ref b18), (.ref b17), (.ref b17)])) _
    refine st43 _ ?_
    show Steps p.tables e below (T43.setTop (mkF m 532 (own_Ln0 p1 p2 p3 b12 b4 b9) [(.ref b18), (.ref b17), (.ref b17)])) _
    refine XS.dup X43.here hx rfl (hb hby at_532) rfl rfl ?_
    show Steps p.tables e below (T43.setTop (mkF m 533 (own_Ln0 p1 p2 p3 b12 b4 b9) [(.ref b18), (.ref b18), (.ref b17), (.ref b17)])) _
    refine XS.bipush X43.here hx rfl (hb hby at_533) ?_
    show Steps p.tables e below (T43.setTop (mkF m 535 (own_Ln0 p1 p2 p3 b12 b4 b9) [(.int (25 : Int32)), (.ref b18), (.ref b18), (.ref b17), (.ref b17)])) _
    refine XS.bipush X43.here hx rfl (hb hby at_535) ?_
    show Steps p.tables e below (T43.setTop (mkF m 537 (own_Ln0 p1 p2 p3 b12 b4 b9) [(.int (32 : Int32)), (.int (25 : Int32)), (.ref b18), (.ref b18), (.ref b17), (.ref b17)])) _
    refine st44 _ ?_
    show Steps p.tables e below (T44.setTop (mkF m 538 (own_Ln0 p1 p2 p3 b12 b4 b9) [(.ref b18), (.ref b17), (.ref b17)])) _
    refine XS.dup X44.here hx rfl (hb hby at_538) rfl rfl ?_
    show Steps p.tables e below (T44.setTop (mkF m 539 (own_Ln0 p1 p2 p3 b12 b4 b9) [(.ref b18), (.ref b18), (.ref b17), (.ref b17)])) _
    refine XS.bipush X44.here hx rfl (hb hby at_539) ?_
    show Steps p.tables e below (T44.setTop (mkF m 541 (own_Ln0 p1 p2 p3 b12 b4 b9) [(.int (26 : Int32)), (.ref b18), (.ref b18), (.ref b17), (.ref b17)])) _
    refine XS.bipush X44.here hx rfl (hb hby at_541) ?_
    show Steps p.tables e below (T44.setTop (mkF m 543 (own_Ln0 p1 p2 p3 b12 b4 b9) [(.int (34 : Int32)), (.int (26 : Int32)), (.ref b18), (.ref b18), (.ref b17), (.ref b17)])) _
    refine st45 _ ?_
    show Steps p.tables e below (T45.setTop (mkF m 544 (own_Ln0 p1 p2 p3 b12 b4 b9) [(.ref b18), (.ref b17), (.ref b17)])) _
    refine XS.dup X45.here hx rfl (hb hby at_544) rfl rfl ?_
    show Steps p.tables e below (T45.setTop (mkF m 545 (own_Ln0 p1 p2 p3 b12 b4 b9) [(.ref b18), (.ref b18), (.ref b17), (.ref b17)])) _
    refine XS.bipush X45.here hx rfl (hb hby at_545) ?_
    show Steps p.tables e below (T45.setTop (mkF m 547 (own_Ln0 p1 p2 p3 b12 b4 b9) [(.int (27 : Int32)), (.ref b18), (.ref b18), (.ref b17), (.ref b17)])) _
    refine XS.bipush X45.here hx rfl (hb hby at_547) ?_
    show Steps p.tables e below (T45.setTop (mkF m 549 (own_Ln0 p1 p2 p3 b12 b4 b9) [(.int (34 : Int32)), (.int (27 : Int32)), (.ref b18), (.ref b18), (.ref b17), (.ref b17)])) _
    refine st46 _ ?_
    show Steps p.tables e below (T46.setTop (mkF m 550 (own_Ln0 p1 p2 p3 b12 b4 b9) [(.ref b18), (.ref b17), (.ref b17)])) _
    refine XS.dup X46.here hx rfl (hb hby at_550) rfl rfl ?_
    show Steps p.tables e below (T46.setTop (mkF m 551 (own_Ln0 p1 p2 p3 b12 b4 b9) [(.ref b18), (.ref b18), (.ref b17), (.ref b17)])) _
    refine XS.bipush X46.here hx rfl (hb hby at_551) ?_
    show Steps p.tables e below (T46.setTop (mkF m 553 (own_Ln0 p1 p2 p3 b12 b4 b9) [(.int (28 : Int32)), (.ref b18), (.ref b18), (.ref b17), (.ref b17)])) _
    refine XS.bipush X46.here hx rfl (hb hby at_553) ?_
    show Steps p.tables e below (T46.setTop (mkF m 555 (own_Ln0 p1 p2 p3 b12 b4 b9) [(.int (59 : Int32)), (.int (28 : Int32)), (.ref b18), (.ref b18), (.ref b17), (.ref b17)])) _
    refine st47 _ ?_
    show Steps p.tables e below (T47.setTop (mkF m 556 (own_Ln0 p1 p2 p3 b12 b4 b9) [(.ref b18), (.ref b17), (.ref b17)])) _
    refine XS.dup X47.here hx rfl (hb hby at_556) rfl rfl ?_
    show Steps p.tables e below (T47.setTop (mkF m 557 (own_Ln0 p1 p2 p3 b12 b4 b9) [(.ref b18), (.ref b18), (.ref b17), (.ref b17)])) _
    refine XS.bipush X47.here hx rfl (hb hby at_557) ?_
    show Steps p.tables e below (T47.setTop (mkF m 559 (own_Ln0 p1 p2 p3 b12 b4 b9) [(.int (29 : Int32)), (.ref b18), (.ref b18), (.ref b17), (.ref b17)])) _
    refine XS.bipush X47.here hx rfl (hb hby at_559) ?_
    show Steps p.tables e below (T47.setTop (mkF m 561 (own_Ln0 p1 p2 p3 b12 b4 b9) [(.int (32 : Int32)), (.int (29 : Int32)), (.ref b18), (.ref b18), (.ref b17), (.ref b17)])) _
    refine st48 _ ?_
    show Steps p.tables e below (T48.setTop (mkF m 562 (own_Ln0 p1 p2 p3 b12 b4 b9) [(.ref b18), (.ref b17), (.ref b17)])) _
    refine XS.dup X48.here hx rfl (hb hby at_562) rfl rfl ?_
    show Steps p.tables e below (T48.setTop (mkF m 563 (own_Ln0 p1 p2 p3 b12 b4 b9) [(.ref b18), (.ref b18), (.ref b17), (.ref b17)])) _
    refine XS.bipush X48.here hx rfl (hb hby at_563) ?_
    show Steps p.tables e below (T48.setTop (mkF m 565 (own_Ln0 p1 p2 p3 b12 b4 b9) [(.int (30 : Int32)), (.ref b18), (.ref b18), (.ref b17), (.ref b17)])) _
    refine XS.bipush X48.here hx rfl (hb hby at_565) ?_
    show Steps p.tables e below (T48.setTop (mkF m 567 (own_Ln0 p1 p2 p3 b12 b4 b9) [(.int (103 : Int32)), (.int (30 : Int32)), (.ref b18), (.ref b18), (.ref b17), (.ref b17)])) _
    refine st49 _ ?_
    show Steps p.tables e below (T49.setTop (mkF m 568 (own_Ln0 p1 p2 p3 b12 b4 b9) [(.ref b18), (.ref b17), (.ref b17)])) _
    refine XS.dup X49.here hx rfl (hb hby at_568) rfl rfl ?_
    show Steps p.tables e below (T49.setTop (mkF m 569 (own_Ln0 p1 p2 p3 b12 b4 b9) [(.ref b18), (.ref b18), (.ref b17), (.ref b17)])) _
    refine XS.bipush X49.here hx rfl (hb hby at_569) ?_
    show Steps p.tables e below (T49.setTop (mkF m 571 (own_Ln0 p1 p2 p3 b12 b4 b9) [(.int (31 : Int32)), (.ref b18), (.ref b18), (.ref b17), (.ref b17)])) _
    refine XS.bipush X49.here hx rfl (hb hby at_571) ?_
    show Steps p.tables e below (T49.setTop (mkF m 573 (own_Ln0 p1 p2 p3 b12 b4 b9) [(.int (105 : Int32)), (.int (31 : Int32)), (.ref b18), (.ref b18), (.ref b17), (.ref b17)])) _
    refine st50 _ ?_
    show Steps p.tables e below (T50.setTop (mkF m 574 (own_Ln0 p1 p2 p3 b12 b4 b9) [(.ref b18), (.ref b17), (.ref b17)])) _
    refine XS.dup X50.here hx rfl (hb hby at_574) rfl rfl ?_
    show Steps p.tables e below (T50.setTop (mkF m 575 (own_Ln0 p1 p2 p3 b12 b4 b9) [(.ref b18), (.ref b18), (.ref b17), (.ref b17)])) _
    refine XS.bipush X50.here hx rfl (hb hby at_575) ?_
    show Steps p.tables e below (T50.setTop (mkF m 577 (own_Ln0 p1 p2 p3 b12 b4 b9) [(.int (32 : Int32)), (.ref b18), (.ref b18), (.ref b17), (.ref b17)])) _
    refine XS.bipush X50.here hx rfl (hb hby at_577) ?_
    show Steps p.tables e below (T50.setTop (mkF m 579 (own_Ln0 p1 p2 p3 b12 b4 b9) [(.int (118 : Int32)), (.int (32 : Int32)), (.ref b18), (.ref b18), (.ref b17), (.ref b17)])) _
    refine st51 _ ?_
    show Steps p.tables e below (T51.setTop (mkF m 580 (own_Ln0 p1 p2 p3 b12 b4 b9) [(.ref b18), (.ref b17), (.ref b17)])) _
    refine XS.dup X51.here hx rfl (hb hby at_580) rfl rfl ?_
    show Steps p.tables e below (T51.setTop (mkF m 581 (own_Ln0 p1 p2 p3 b12 b4 b9) [(.ref b18), (.ref b18), (.ref b17), (.ref b17)])) _
    refine XS.bipush X51.here hx rfl (hb hby at_581) ?_
    show Steps p.tables e below (T51.setTop (mkF m 583 (own_Ln0 p1 p2 p3 b12 b4 b9) [(.int (33 : Int32)), (.ref b18), (.ref b18), (.ref b17), (.ref b17)])) _
    refine XS.bipush X51.here hx rfl (hb hby at_583) ?_
    show Steps p.tables e below (T51.setTop (mkF m 585 (own_Ln0 p1 p2 p3 b12 b4 b9) [(.int (101 : Int32)), (.int (33 : Int32)), (.ref b18), (.ref b18), (.ref b17), (.ref b17)])) _
    refine st52 _ ?_
    show Steps p.tables e below (T52.setTop (mkF m 586 (own_Ln0 p1 p2 p3 b12 b4 b9) [(.ref b18), (.ref b17), (.ref b17)])) _
    refine XS.dup X52.here hx rfl (hb hby at_586) rfl rfl ?_
    show Steps p.tables e below (T52.setTop (mkF m 587 (own_Ln0 p1 p2 p3 b12 b4 b9) [(.ref b18), (.ref b18), (.ref b17), (.ref b17)])) _
    refine XS.bipush X52.here hx rfl (hb hby at_587) ?_
    show Steps p.tables e below (T52.setTop (mkF m 589 (own_Ln0 p1 p2 p3 b12 b4 b9) [(.int (34 : Int32)), (.ref b18), (.ref b18), (.ref b17), (.ref b17)])) _
    refine XS.bipush X52.here hx rfl (hb hby at_589) ?_
    show Steps p.tables e below (T52.setTop (mkF m 591 (own_Ln0 p1 p2 p3 b12 b4 b9) [(.int (32 : Int32)), (.int (34 : Int32)), (.ref b18), (.ref b18), (.ref b17), (.ref b17)])) _
    refine st53 _ ?_
    show Steps p.tables e below (T53.setTop (mkF m 592 (own_Ln0 p1 p2 p3 b12 b4 b9) [(.ref b18), (.ref b17), (.ref b17)])) _
    refine XS.dup X53.here hx rfl (hb hby at_592) rfl rfl ?_
    show Steps p.tables e below (T53.setTop (mkF m 593 (own_Ln0 p1 p2 p3 b12 b4 b9) [(.ref b18), (.ref b18), (.ref b17), (.ref b17)])) _
    refine XS.bipush X53.here hx rfl (hb hby at_593) ?_
    show Steps p.tables e below (T53.setTop (mkF m 595 (own_Ln0 p1 p2 p3 b12 b4 b9) [(.int (35 : Int32)), (.ref b18), (.ref b18), (.ref b17), (.ref b17)])) _
    refine XS.iload X53.here hx rfl (hb hby at_595) rfl ?_
    show Steps p.tables e below (T53.setTop (mkF m 597 (own_Ln0 p1 p2 p3 b12 b4 b9) [(.int ((p3 &&& (255 : Int32)).toUInt32.toUInt16.toUInt32.toInt32)), (.int (35 : Int32)), (.ref b18), (.ref b18), (.ref b17), (.ref b17)])) _
    refine st54 _ ?_
    show Steps p.tables e below (T54.setTop (mkF m 598 (own_Ln0 p1 p2 p3 b12 b4 b9) [(.ref b18), (.ref b17), (.ref b17)])) _
    refine XS.dup X54.here hx rfl (hb hby at_598) rfl rfl ?_
    show Steps p.tables e below (T54.setTop (mkF m 599 (own_Ln0 p1 p2 p3 b12 b4 b9) [(.ref b18), (.ref b18), (.ref b17), (.ref b17)])) _
    refine XS.bipush X54.here hx rfl (hb hby at_599) ?_
    show Steps p.tables e below (T54.setTop (mkF m 601 (own_Ln0 p1 p2 p3 b12 b4 b9) [(.int (36 : Int32)), (.ref b18), (.ref b18), (.ref b17), (.ref b17)])) _
    refine XS.iload X54.here hx rfl (hb hby at_601) rfl ?_
    show Steps p.tables e below (T54.setTop (mkF m 603 (own_Ln0 p1 p2 p3 b12 b4 b9) [(.int ((((p3.toUInt32 >>> ((8 : Int32) &&& 31).toUInt32).toInt32) &&& (255 : Int32)).toUInt32.toUInt16.toUInt32.toInt32)), (.int (36 : Int32)), (.ref b18), (.ref b18), (.ref b17), (.ref b17)])) _
    refine st55 _ ?_
    show Steps p.tables e below (T55.setTop (mkF m 604 (own_Ln0 p1 p2 p3 b12 b4 b9) [(.ref b18), (.ref b17), (.ref b17)])) _
    refine st56.trans ?_
    show Steps p.tables e below (T56.setTop (mkF m 607 (own_Ln0 p1 p2 p3 b12 b4 b9) [(.ref b17)])) _
    refine XS.astore X56.here hx rfl (hb hby at_607) rfl rfl (l' := (own_Ln8 p1 p2 p3 b12 b17 b4 b9)) rfl ?_
    show Steps p.tables e below (T56.setTop (mkF m 609 (own_Ln8 p1 p2 p3 b12 b17 b4 b9) [])) _
    refine XS.aload X56.here hx rfl (hb hby at_609) rfl rfl ?_
    show Steps p.tables e below (T56.setTop (mkF m 611 (own_Ln8 p1 p2 p3 b12 b17 b4 b9) [(.ref b4)])) _
    refine XS.aload X56.here hx rfl (hb hby at_611) rfl rfl ?_
    show Steps p.tables e below (T56.setTop (mkF m 613 (own_Ln8 p1 p2 p3 b12 b17 b4 b9) [(.ref b9), (.ref b4)])) _
    refine XS.aload X56.here hx rfl (hb hby at_613) rfl rfl ?_
    show Steps p.tables e below (T56.setTop (mkF m 615 (own_Ln8 p1 p2 p3 b12 b17 b4 b9) [(.ref b12), (.ref b9), (.ref b4)])) _
    refine st57.trans ?_
    show Steps p.tables e below (T57.setTop (mkF m 618 (own_Ln8 p1 p2 p3 b12 b17 b4 b9) [(.ref rR)])) _
    refine XS.astore X57.here hx rfl (hb hby at_618) rfl rfl (l' := (own_Ln9 p1 p2 p3 b12 b17 b4 b9 rR)) rfl ?_
    show Steps p.tables e below (T57.setTop (mkF m 620 (own_Ln9 p1 p2 p3 b12 b17 b4 b9 rR) [])) _
    refine XS.aload X57.here hx rfl (hb hby at_620) rfl rfl ?_
    show Steps p.tables e below (T57.setTop (mkF m 622 (own_Ln9 p1 p2 p3 b12 b17 b4 b9 rR) [(.ref rR)])) _
    refine XS.ifnonnullYes X57.here hx rfl (pc0 := 622) (pc' := 627) rfl (hb hby at_622) rfl (by decide) (by decide) ?_
    show Steps p.tables e below (T57.setTop (mkF m 627 (own_Ln9 p1 p2 p3 b12 b17 b4 b9 rR) [])) _
    refine XS.aload X57.here hx rfl (hb hby at_627) rfl rfl ?_
    show Steps p.tables e below (T57.setTop (mkF m 629 (own_Ln9 p1 p2 p3 b12 b17 b4 b9 rR) [(.ref rR)])) _
    refine st58.trans ?_
    show Steps p.tables e below (T58.setTop (mkF m 632 (own_Ln9 p1 p2 p3 b12 b17 b4 b9 rR) [(.ref bm)])) _
    refine XS.astore X58.here hx rfl (hb hby at_632) rfl rfl (l' := (own_Ln3 p1 p2 p3 b12 b17 b4 b9 bm rR)) rfl ?_
    show Steps p.tables e below (T58.setTop (mkF m 634 (own_Ln3 p1 p2 p3 b12 b17 b4 b9 bm rR) [])) _
    refine XS.aload X58.here hx rfl (hb hby at_634) rfl rfl ?_
    show Steps p.tables e below (T58.setTop (mkF m 636 (own_Ln3 p1 p2 p3 b12 b17 b4 b9 bm rR) [(.ref bm)])) _
    refine XS.ifnullNo X58.here hx rfl (hb hby at_636) rfl ?_
    show Steps p.tables e below (T58.setTop (mkF m 639 (own_Ln3 p1 p2 p3 b12 b17 b4 b9 bm rR) [])) _
    refine XS.aload X58.here hx rfl (hb hby at_639) rfl rfl ?_
    show Steps p.tables e below (T58.setTop (mkF m 641 (own_Ln3 p1 p2 p3 b12 b17 b4 b9 bm rR) [(.ref bm)])) _
    refine XS.aload X58.here hx rfl (hb hby at_641) rfl rfl ?_
    show Steps p.tables e below (T58.setTop (mkF m 643 (own_Ln3 p1 p2 p3 b12 b17 b4 b9 bm rR) [(.ref b17), (.ref bm)])) _
    refine st59.trans ?_
    show Steps p.tables e below (T59.setTop (mkF m 646 (own_Ln3 p1 p2 p3 b12 b17 b4 b9 bm rR) [(.int (1 : Int32))])) _
    refine XS.ifNo X59.here hx rfl (hb hby at_646) rfl ((if0 _ _).trans (feq hc646).1) ?_
    show Steps p.tables e below (T59.setTop (mkF m 649 (own_Ln3 p1 p2 p3 b12 b17 b4 b9 bm rR) [])) _
    refine XS.aload X59.here hx rfl (hb hby at_649) rfl rfl ?_
    show Steps p.tables e below (T59.setTop (mkF m 651 (own_Ln3 p1 p2 p3 b12 b17 b4 b9 bm rR) [(.ref rR)])) _
    refine st60.trans ?_
    show Steps p.tables e below (T60.setTop (mkF m 654 (own_Ln3 p1 p2 p3 b12 b17 b4 b9 bm rR) [.null])) _
    refine XS.ifnonnullNo X60.here hx rfl (hb hby at_654) rfl ?_
    show Steps p.tables e below (T60.setTop (mkF m 657 (own_Ln3 p1 p2 p3 b12 b17 b4 b9 bm rR) [])) _
    refine XS.iconst X60.here hx rfl (hb hby at_657) ?_
    show Steps p.tables e below (T60.setTop (mkF m 658 (own_Ln3 p1 p2 p3 b12 b17 b4 b9 bm rR) [(.int (1 : Int32))])) _
    refine XS.goto X60.here hx rfl (pc0 := 658) (pc' := 662) rfl (hb hby at_658) (by decide) (by decide) ?_
    show Steps p.tables e below (T60.setTop (mkF m 662 (own_Ln3 p1 p2 p3 b12 b17 b4 b9 bm rR) [(.int (1 : Int32))])) _
    exact retN X60 hx (t := .boolean) Bd.returns (by simp) (hb hby at_662) hr
  · show own_Q1 h0 n0 _ T60.heap _
    exact ⟨rfl, N60⟩
  · show CHr Z consts_1 s.vm s.heap T60.vm T60.heap
    rw [hh]
    exact R60.trans (CHv.at X60 hZ57 (own_EW hw) R60.1)
theorem rm0 (l : Launch) (Z : State) (a0 : Array Value) (hw : ∀ d ∈ tables_1, d.before a0 Z = true) (ws : List Jvm.Cond) (p1 : Int32) (p2 : Int32) (p3 : Int32) (G1 : Int32) (G2 : Addr) (G3 : Addr) (h0 : Heap) (n0 : Nat) (Z0 : n0 ≤ h0.size) (hl : l.stackTraces = true) (S_COMPACT_STRINGS : Sta Z Z.heap "java/lang/String" "COMPACT_STRINGS" "Z" (.int G1)) (X00 : Old Z n0 h0) (P3 : ¬ (G1 = (0 : Int32))) (S_UNASSIGNED_STACK : Sta Z Z.heap "java/lang/Throwable" "UNASSIGNED_STACK" "[Ljava/lang/StackTraceElement;" (.ref G2)) (S_SUPPRESSED_SENTINEL : Sta Z Z.heap "java/lang/Throwable" "SUPPRESSED_SENTINEL" "Ljava/util/List;" (.ref G3)) :
    MetFree l x (head1 (Jvm.Cond.code x code maxLocals ret :: ws) room_1) (fun a U => a = #[(.int p1), (.int p2), (.int p3)] ∧ Z.Warmed39 U.vm ∧ U.heap = h0 ∧ CHv Z consts_1 U.vm h0) (fun _ _ bl s _ => s.vm.MethodsKnown ∧ s.vm.FramesKnown bl) (fun _ U o U' => ∃ v L, o = .returned v ∧ own_Q1 h0 n0 v U'.heap L ∧ CHr Z consts_1 U.vm U.heap U'.vm U'.heap ∧ ReturnedEndW U o U' L room_1.cells room_1.slots) := by
  by_cases hc32 : (((p2.toUInt32 >>> ((8 : Int32) &&& 31).toUInt32).toInt32) &&& (1 : Int32)) = (0 : Int32)
  · exact rm0_n l Z a0 hw ws p1 p2 p3 G1 G2 G3 h0 n0 Z0 hl S_COMPACT_STRINGS X00 P3 S_UNASSIGNED_STACK S_SUPPRESSED_SENTINEL hc32 (by decide)
  · exact rm0_v l Z a0 hw ws p1 p2 p3 G1 G2 G3 h0 n0 Z0 hl S_COMPACT_STRINGS X00 P3 S_UNASSIGNED_STACK S_SUPPRESSED_SENTINEL hc32 (by decide) (by decide) (by decide)
theorem own_mk {s : State} (h : Jvm.D.tablesKnown s = true) : s.vm.MethodsKnown := fun m x hx => by
  simp only [Vm.method?, Option.bind_eq_bind, Option.bind_eq_some_iff] at hx
  obtain ⟨k, hk, hm⟩ := hx
  refine ⟨k, hk, fun cf hcf => ?_⟩
  have q := Array.all_eq_true_iff_forall_mem.mp h k (Array.mem_of_getElem? hk)
  simp only [hcf, beq_iff_eq] at q
  have r := (Array.getElem?_eq_some_iff.mp hm).1
  rw [q] at r
  simp [r]
theorem own_fk {s : State} {f : Frame} {below : List Frame} (h : Jvm.D.framesKnown s = true) (hf : s.frames = f :: below) : s.vm.FramesKnown below := fun y hy m' hm' => by
  have q := List.all_eq_true.mp h y (by rw [hf]; exact List.mem_cons_of_mem _ hy)
  have mk : Jvm.D.methodKnown s.vm m' = true → s.vm.knowsMethod m' := fun r => by
    unfold Jvm.D.methodKnown at r
    split at r
    · rename_i k hk
      refine ⟨k, hk, fun cf hcf => ?_⟩
      rw [hcf] at r
      exact r
    · cases r
  cases y <;> simp [frameMethod?] at hm' <;> (subst hm'; exact mk q)
set_option maxRecDepth 65536 in
set_option maxHeartbeats 40000000 in
theorem comes_1 {Post : Tables → Env → Array Value → State → Outcome → State → Prop} (hpost : ∀ tb e args s v u, (limb_1_1.after args s (.returned v) u = true ∧ limb_1_2.after args s (.returned v) u = true ∧ True) → ReturnedEndW s (.returned v) u (Jvm.fieldLocs frame_1_writes args s ++ Jvm.arrayLocs frame_1_arrays args s ++ Jvm.staticLocs frame_1_statics s) 72 10432 → Post tb e args s (.returned v) u) :
    ArmFor flags0 classFile x code maxLocals ret World_1 tables_1 room_1 Calls_1 rest_1 Pre_1 Post := by
  intro l hfl _ _ p e ha hc hk s m args below hf hA hF happ hP
  obtain ⟨hcalls, hrest, hpre⟩ := hP
  obtain ⟨-, -, -, hnamed, -, -, -, hat⟩ := (Spec.applies_iff hf).mp happ
  obtain ⟨hg, hn⟩ := and_e (Cond.before_iff.mp (show (Jvm.Cond.and given_1 narrow_1).before args s = true from hpre))
  obtain ⟨g63, g64⟩ := and_e hg
  obtain ⟨g65, g66⟩ := and_e g64
  obtain ⟨g67, g68⟩ := and_e g66
  obtain ⟨w0, w1, w2, rfl⟩ : ∃ w0 w1 w2 : Value, args = #[w0, w1, w2] := by
    have hs : args.size = 3 := by simpa [Cond.value, given_1] using g63
    obtain ⟨L⟩ := args
    match L, hs with
    | [w0, w1, w2], _ => exact ⟨w0, w1, w2, rfl⟩
  have hw := fun d (hd : d ∈ tables_1) => atoms_spec (ws := Jvm.Cond.code x code maxLocals ret :: tables_1) hat d (List.mem_cons_of_mem _ hd)
  have hfit : Fit s := fun {y c} hc i hi => by
    obtain ⟨ha, rfl⟩ := Array.getElem?_eq_some_iff.mp hc
    have q := List.all_eq_true.mp ((Array.all_eq_true_iff_forall_mem.mp hF) _ (Array.getElem_mem ha)) i (List.mem_range.mpr hi)
    simpa [Array.getElem?_eq_getElem hi] using q
  obtain ⟨hsets, hown0⟩ := atoms_of _ (rest_1_c_eq ▸ (show rest_1_c.before _ s = true from hrest))
  have hr0 := Cond.before_iff.mp hown0
  obtain ⟨i0, ei0⟩ := is_v g65
  obtain rfl : w0 = (.int i0) := Option.some.inj ei0
  obtain ⟨i1, ei1⟩ := is_v g67
  obtain rfl : w1 = (.int i1) := Option.some.inj ei1
  obtain ⟨i2, ei2⟩ := is_v g68
  obtain rfl : w2 = (.int i2) := Option.some.inj ei2
  have n3s := not_v (Cond.before_iff.mp (hsets _ (List.mem_of_getElem? (i := 2) rfl)))
  obtain ⟨i7, e6s⟩ := is_v (Cond.before_iff.mp (hsets _ (List.mem_of_getElem? (i := 1) rfl)))
  have S8 : Sta s s.heap "java/lang/String" "COMPACT_STRINGS" "Z" (.int i7) := Sta.start e6s (Or.inl (hsets _ (List.mem_of_getElem? (i := 0) rfl)))
  have c9 : ¬ (i7 = (0 : Int32)) := gotF (Cond.eq_ints e6s (Term.int_eval (0))) n3s
  obtain ⟨g2, eg2⟩ := arr_v (Cond.before_iff.mp (hsets _ (List.mem_of_getElem? (i := 17) rfl)))
  have SU := Sta.start eg2 (Or.inl (hsets _ (List.mem_of_getElem? (i := 15) rfl)))
  obtain ⟨g3, eg3⟩ := exa_v (Cond.before_iff.mp (hsets _ (List.mem_of_getElem? (i := 22) rfl)))
  have SS := Sta.start eg3 (Or.inl (hsets _ (List.mem_of_getElem? (i := 20) rfl)))
  have hst : l.stackTraces = true := by unfold Launch.stackTraces; rw [hfl]; decide
  have hCH : CHv s consts_1 s.vm s.heap := CHv.start (own_EW hw) (fun p hp => hcalls.2.2.1 p hp) (hsets _ (List.mem_of_getElem? (i := 2) rfl)) (hw _ (wI 19 rfl)) (hw _ (wI 1 rfl))
  obtain ⟨n, o, h1, h2, h3, _, L, rfl, ⟨rfl, N⟩, hCr, hq⟩ := rm0 l s _ hw tables_1 i0 i1 i2 i7 g2 g3 s.heap s.heap.size (Nat.le_refl _) hst S8 (Old.start s) c9 SU SS p e ha hc hk s m _ below hf ((Spec.applies_iff_loose hf).mp happ).1 ⟨rfl, State.Warmed39.refl s, rfl, hCH⟩ ⟨own_mk hcalls.2.1, own_fk hcalls.1 hf⟩
  refine ⟨n, _, h1, h2, h3, hpost _ _ _ _ _ _ ⟨Cond.after_iff.mpr rfl, Cond.after_iff.mpr (eq_i res_at (Term.int_eval (1)) rfl), trivial⟩ ⟨hq.1, hq.2.1, hq.2.2.1, (hq.2.2.2.sift fun y hy => Or.inr (N y hy)).mono (by decide) (by decide)⟩⟩
theorem main_1_1 : Claimed_1_1 := comes_1 fun _ _ _ _ _ _ h hF => ⟨h.1, hF⟩
theorem main_1_2 : Claimed_1_2 := comes_1 fun _ _ _ _ _ _ h hF => ⟨h.2.1, hF⟩
end Jvm.Pilot.@@N@@
namespace Jvm.Pilot.@@N@@
open Jvm Jvm.ClassFile Sem Op Lib Jvm.Free Jvm.Stand Jvm.Pilot.@@N@@.Jvm.D
/-! MADE BY PROGRAM (witnessworld.py) out of the Statement's table words and the real class files: 42 classes; the members and pool entries that the words name. The judged class is class 1, her method 1. -/
namespace start1
open Jvm.ClassFile
def u (s : String) : CpInfo := .utf8 (stringToUtf16 s)
/-- a pool by its gaps: so many unusable entries, then the entry; so many at the end -/
def gap : Nat → List CpInfo → List CpInfo
  | 0, r => r
  | n + 1, r => .unusable :: gap n r
def poolList (es : List (Nat × CpInfo)) (last : Nat) : List CpInfo := es.foldr (fun e r => gap e.1 (e.2 :: r)) (gap last [])
def pool (es : List (Nat × CpInfo)) (last : Nat) : Array CpInfo := ⟨poolList es last⟩
def fileOf (pool : Array CpInfo) (this : Nat) (attrs : Array Attribute := #[]) (ms : Array MethodInfo := #[]) (fl : Nat := 33) (sup : Nat := 0) (ifs : Array Nat := #[]) (fds : Array FieldInfo := #[]) : ClassFile where
  minorVersion := 0
  majorVersion := 65
  constantPool := pool
  accessFlags := fl
  thisClass := this
  superClass := sup
  interfaces := ifs
  fields := fds
  methods := ms
  attributes := attrs
def plain (name : String) (sup : Option ClassId) : Class where
  name := name
  kind := .ordinary
  loader := none
  accessFlags := 33
  super := sup
  interfaces := #[]
  cf := none
  fields := #[]
  methods := #[]
  instanceTypes := #[]
  staticTypes := #[]
  resolved := #[]
  callSites := []
  init := .initialized
  statics := none
  mirror := none

def pool0 : Array CpInfo := pool [(5, u "<init>"), (0, u "()V"), (1, .class_ 10), (1, u "java/lang/Object")] 113

def k0c0 : Code := { maxStack := 0, maxLocals := 1, code := object_method_1_code, exceptionTable := #[], attributes := #[] }
def k0m0 : Method := { name := "<init>", desc := "()V", sig := { parameters := [], returnType := none }, accessFlags := 1, code := some k0c0 }
/-- java/lang/Object -/
def k0 : Class := { plain "java/lang/Object" none with
  accessFlags := 33
  interfaces := #[]
  cf := some (fileOf pool0 8 #[] #[{ accessFlags := 1, nameIndex := 5, descriptorIndex := 6, attributes := #[] }] 33 0 #[] #[])
  fields := #[]
  methods := #[k0m0]
  instanceTypes := #[]
  staticTypes := #[]
  resolved := Array.replicate 124 none
  statics := none }

def pool1 : Array CpInfo := pool [(2, .class_ 4), (1, u "java/lang/Object"), (0, u "<init>"), (0, u "()V"), (0, .class_ 8), (0, u "java/lang/String"), (0, .methodref 7 10), (0, .nameAndType 5 11), (0, u "([C)V"), (0, .methodref 13 14), (0, .class_ 15), (0, .nameAndType 16 17), (0, u "com/example/shiken/shiken/ContextException"), (0, u "forSystemProperty"), (0, u "(Ljava/lang/String;Ljava/lang/String;Ljava/lang/String;)Lcom/example/shiken/shiken/ContextException;"), (0, .methodref 13 19), (0, .nameAndType 20 21), (0, u "getMessage"), (0, u "()Ljava/lang/String;"), (0, .methodref 7 23), (0, .nameAndType 24 25), (0, u "equals"), (0, u "(Ljava/lang/Object;)Z"), (0, .methodref 13 27), (0, .nameAndType 28 29), (0, u "getCause"), (0, u "()Ljava/lang/Throwable;"), (0, .class_ 31), (0, u "com/example/shiken/shiken/ContextExceptionForSystemPropertyPinLaw"), (2, u "law"), (0, u "(III)Z")] 3

def k1m0 : Method := { name := "<init>", desc := "()V", sig := { parameters := [], returnType := none }, accessFlags := 1, code := none }
def k1c1 : Code := { maxStack := 6, maxLocals := 15, code := code, exceptionTable := #[], attributes := #[] }
def k1m1 : Method := { name := "law", desc := "(III)Z", sig := { parameters := [.int, .int, .int], returnType := some .boolean }, accessFlags := 9, code := some k1c1 }
/-- com/example/shiken/shiken/ContextExceptionForSystemPropertyPinLaw -/
def k1 : Class := { plain "com/example/shiken/shiken/ContextExceptionForSystemPropertyPinLaw" (some 0) with
  accessFlags := 49
  interfaces := #[]
  cf := some (fileOf pool1 30 #[] #[{ accessFlags := 1, nameIndex := 5, descriptorIndex := 6, attributes := #[] }, { accessFlags := 9, nameIndex := 34, descriptorIndex := 35, attributes := #[] }] 49 2 #[] #[])
  fields := #[]
  methods := #[k1m0, k1m1]
  instanceTypes := #[]
  staticTypes := #[]
  resolved := Array.replicate 39 none
  statics := none }

def pool2 : Array CpInfo := pool [(1, .class_ 2), (0, u "java/io/Serializable"), (0, .class_ 4), (0, u "java/lang/Object")] 2

/-- java/io/Serializable -/
def k2 : Class := { plain "java/io/Serializable" (some 0) with
  accessFlags := 1537
  interfaces := #[]
  cf := some (fileOf pool2 1 #[] #[] 1537 3 #[] #[])
  fields := #[]
  methods := #[]
  instanceTypes := #[]
  staticTypes := #[]
  resolved := Array.replicate 7 none
  statics := none }

def pool3 : Array CpInfo := pool [(1, .class_ 2), (0, u "java/lang/Comparable"), (0, .class_ 4), (0, u "java/lang/Object")] 7

/-- java/lang/Comparable -/
def k3 : Class := { plain "java/lang/Comparable" (some 0) with
  accessFlags := 1537
  interfaces := #[]
  cf := some (fileOf pool3 1 #[] #[] 1537 3 #[] #[])
  fields := #[]
  methods := #[]
  instanceTypes := #[]
  staticTypes := #[]
  resolved := Array.replicate 12 none
  statics := none }

def pool4 : Array CpInfo := pool [(2, .class_ 4), (1, u "java/lang/CharSequence"), (42, .class_ 48), (0, u "java/lang/CharSequence$1CodePointIterator"), (10, .class_ 60), (0, u "java/lang/CharSequence$1CharIterator"), (5, .class_ 67), (0, u "java/lang/Object")] 63

/-- java/lang/CharSequence -/
def k4 : Class := { plain "java/lang/CharSequence" (some 0) with
  accessFlags := 1537
  interfaces := #[]
  cf := some (fileOf pool4 2 #[.nestMembers #[47, 59]] #[] 1537 66 #[] #[])
  fields := #[]
  methods := #[]
  instanceTypes := #[]
  staticTypes := #[]
  resolved := Array.replicate 131 none
  statics := none }

def pool5 : Array CpInfo := pool [(1, .class_ 2), (0, u "java/lang/constant/Constable"), (0, .class_ 4), (0, u "java/lang/Object")] 6

/-- java/lang/constant/Constable -/
def k5 : Class := { plain "java/lang/constant/Constable" (some 0) with
  accessFlags := 1537
  interfaces := #[]
  cf := some (fileOf pool5 1 #[] #[] 1537 3 #[] #[])
  fields := #[]
  methods := #[]
  instanceTypes := #[]
  staticTypes := #[]
  resolved := Array.replicate 11 none
  statics := none }

def pool6 : Array CpInfo := pool [(1, .class_ 2), (0, u "java/lang/constant/ConstantDesc"), (0, .class_ 4), (0, u "java/lang/Object")] 32

/-- java/lang/constant/ConstantDesc -/
def k6 : Class := { plain "java/lang/constant/ConstantDesc" (some 0) with
  accessFlags := 1537
  interfaces := #[]
  cf := some (fileOf pool6 1 #[] #[] 1537 3 #[] #[])
  fields := #[]
  methods := #[]
  instanceTypes := #[]
  staticTypes := #[]
  resolved := Array.replicate 37 none
  statics := none }

def pool7 : Array CpInfo := pool [(1, .methodref 2 3), (0, .class_ 4), (0, .nameAndType 5 6), (0, u "java/lang/Object"), (0, u "<init>"), (0, u "()V"), (0, .string 8), (0, u ""), (0, .fieldref 10 11), (0, .class_ 12), (0, .nameAndType 13 14), (0, u "java/lang/String"), (0, u "value"), (0, u "[B"), (0, .fieldref 10 16), (0, .nameAndType 17 18), (0, u "coder"), (0, u "B"), (2, u "hash"), (0, u "I"), (2, u "hashIsZero"), (0, u "Z"), (0, .methodref 10 28), (0, .nameAndType 5 29), (0, u "([CIILjava/lang/Void;)V"), (8, .fieldref 10 39), (0, .nameAndType 40 26), (0, u "COMPACT_STRINGS"), (1, .class_ 44), (1, u "java/lang/StringUTF16"), (0, u "compress"), (1, .methodref 42 48), (0, .nameAndType 49 50), (0, u "coderFromArrayLen"), (0, u "([BI)B"), (3, .methodref 55 56), (0, .class_ 57), (0, .nameAndType 58 59), (0, u "java/util/Arrays"), (0, u "copyOfRange"), (0, u "([BII)[B"), (47, .class_ 109), (1, u "java/lang/StringLatin1"), (32, u "()Z"), (34, .methodref 42 178), (0, .nameAndType 45 179), (0, u "([CII)[B"), (13, .class_ 195), (1, u "java/lang/System"), (16, .methodref 193 213), (0, .nameAndType 214 215), (0, u "arraycopy"), (0, u "(Ljava/lang/Object;ILjava/lang/Object;II)V"), (118, u "()I"), (0, .methodref 10 336), (0, .nameAndType 17 337), (0, u "()B"), (2, u "()[B"), (148, .methodref 10 490), (0, .nameAndType 5 491), (0, u "(Ljava/lang/AbstractStringBuilder;Ljava/lang/Void;)V"), (1, .nameAndType 494 142), (0, u "isLatin1"), (11, .nameAndType 507 334), (0, u "length"), (24, u "getBytes"), (8, .methodref 107 542), (0, .nameAndType 543 544), (0, u "equals"), (0, u "([B[B)Z"), (4, .methodref 550 506), (0, .class_ 551), (0, u "java/lang/AbstractStringBuilder"), (0, .methodref 550 553), (0, .nameAndType 554 340), (0, u "getValue"), (18, u "(Ljava/lang/Object;)Z"), (1, .class_ 576), (0, u "java/lang/CharSequence"), (22, u "CASE_INSENSITIVE_ORDER"), (0, u "Ljava/util/Comparator;"), (220, u "([BIB)V"), (188, u "([C)V"), (36, .methodref 550 493), (53, u "serialPersistentFields"), (0, u "[Ljava/io/ObjectStreamField;"), (0, .class_ 1104), (0, u "java/lang/String$CaseInsensitiveComparator"), (1, .class_ 1107), (0, u "java/io/Serializable"), (0, .class_ 1109), (0, u "java/lang/Comparable"), (0, .class_ 1111), (0, u "java/lang/constant/Constable"), (0, .class_ 1113), (0, u "java/lang/constant/ConstantDesc"), (2, u "serialVersionUID"), (0, u "J"), (3, u "REPL"), (0, u "C"), (2, u "LATIN1"), (1, u "UTF16"), (105, u "(Ljava/lang/StringBuilder;)V")] 217

def k7m0 : Method := { name := "<init>", desc := "()V", sig := { parameters := [], returnType := none }, accessFlags := 1, code := none }
def k7c1 : Code := { maxStack := 5, maxLocals := 2, code := jdk_42_method_3_code, exceptionTable := #[], attributes := #[] }
def k7m1 : Method := { name := "<init>", desc := "([C)V", sig := { parameters := [(.array .char)], returnType := none }, accessFlags := 1, code := some k7c1 }
def k7c2 : Code := { maxStack := 3, maxLocals := 2, code := jdk_42_method_53_code, exceptionTable := #[], attributes := #[] }
def k7m2 : Method := { name := "<init>", desc := "(Ljava/lang/StringBuilder;)V", sig := { parameters := [(.object "java/lang/StringBuilder")], returnType := none }, accessFlags := 1, code := some k7c2 }
def k7c3 : Code := { maxStack := 2, maxLocals := 1, code := jdk_42_method_54_code, exceptionTable := #[], attributes := #[] }
def k7m3 : Method := { name := "length", desc := "()I", sig := { parameters := [], returnType := some .int }, accessFlags := 1, code := some k7c3 }
def k7c4 : Code := { maxStack := 2, maxLocals := 3, code := jdk_42_method_66_code, exceptionTable := #[], attributes := #[] }
def k7m4 : Method := { name := "equals", desc := "(Ljava/lang/Object;)Z", sig := { parameters := [(.object "java/lang/Object")], returnType := some .boolean }, accessFlags := 1, code := some k7c4 }
def k7c5 : Code := { maxStack := 5, maxLocals := 4, code := jdk_42_method_147_code, exceptionTable := #[], attributes := #[] }
def k7m5 : Method := { name := "getBytes", desc := "([BIB)V", sig := { parameters := [(.array .byte), .int, .byte], returnType := none }, accessFlags := 0, code := some k7c5 }
def k7c6 : Code := { maxStack := 4, maxLocals := 6, code := jdk_42_method_149_code, exceptionTable := #[], attributes := #[] }
def k7m6 : Method := { name := "<init>", desc := "([CIILjava/lang/Void;)V", sig := { parameters := [(.array .char), .int, .int, (.object "java/lang/Void")], returnType := none }, accessFlags := 2, code := some k7c6 }
def k7c7 : Code := { maxStack := 5, maxLocals := 5, code := jdk_42_method_150_code, exceptionTable := #[], attributes := #[] }
def k7m7 : Method := { name := "<init>", desc := "(Ljava/lang/AbstractStringBuilder;Ljava/lang/Void;)V", sig := { parameters := [(.object "java/lang/AbstractStringBuilder"), (.object "java/lang/Void")], returnType := none }, accessFlags := 0, code := some k7c7 }
def k7c8 : Code := { maxStack := 1, maxLocals := 1, code := jdk_42_method_152_code, exceptionTable := #[], attributes := #[] }
def k7m8 : Method := { name := "coder", desc := "()B", sig := { parameters := [], returnType := some .byte }, accessFlags := 0, code := some k7c8 }
/-- java/lang/String -/
def k7 : Class := { plain "java/lang/String" (some 0) with
  accessFlags := 49
  interfaces := #[2, 3, 4, 5, 6]
  cf := some (fileOf pool7 10 #[.nestMembers #[1103]] #[{ accessFlags := 1, nameIndex := 5, descriptorIndex := 6, attributes := #[] }, { accessFlags := 1, nameIndex := 5, descriptorIndex := 1010, attributes := #[] }, { accessFlags := 1, nameIndex := 5, descriptorIndex := 1233, attributes := #[] }, { accessFlags := 1, nameIndex := 507, descriptorIndex := 334, attributes := #[] }, { accessFlags := 1, nameIndex := 543, descriptorIndex := 573, attributes := #[] }, { accessFlags := 0, nameIndex := 532, descriptorIndex := 821, attributes := #[] }, { accessFlags := 2, nameIndex := 5, descriptorIndex := 29, attributes := #[] }, { accessFlags := 0, nameIndex := 5, descriptorIndex := 491, attributes := #[] }, { accessFlags := 0, nameIndex := 17, descriptorIndex := 337, attributes := #[] }] 49 2 #[1106, 1108, 575, 1110, 1112] #[{ accessFlags := 18, nameIndex := 13, descriptorIndex := 14, attributes := #[] }, { accessFlags := 18, nameIndex := 17, descriptorIndex := 18, attributes := #[] }, { accessFlags := 2, nameIndex := 21, descriptorIndex := 22, attributes := #[] }, { accessFlags := 2, nameIndex := 25, descriptorIndex := 26, attributes := #[] }, { accessFlags := 26, nameIndex := 1116, descriptorIndex := 1117, attributes := #[] }, { accessFlags := 24, nameIndex := 40, descriptorIndex := 26, attributes := #[] }, { accessFlags := 26, nameIndex := 1101, descriptorIndex := 1102, attributes := #[] }, { accessFlags := 26, nameIndex := 1121, descriptorIndex := 1122, attributes := #[] }, { accessFlags := 25, nameIndex := 599, descriptorIndex := 600, attributes := #[] }, { accessFlags := 24, nameIndex := 1125, descriptorIndex := 18, attributes := #[] }, { accessFlags := 24, nameIndex := 1127, descriptorIndex := 18, attributes := #[] }])
  fields := #[{ name := "value", type := (.array .byte), accessFlags := 18, slot := 0, constantValue := 0 }, { name := "coder", type := .byte, accessFlags := 18, slot := 1, constantValue := 0 }, { name := "hash", type := .int, accessFlags := 2, slot := 2, constantValue := 0 }, { name := "hashIsZero", type := .boolean, accessFlags := 2, slot := 3, constantValue := 0 }, { name := "serialVersionUID", type := .long, accessFlags := 26, slot := 0, constantValue := 0 }, { name := "COMPACT_STRINGS", type := .boolean, accessFlags := 24, slot := 1, constantValue := 0 }, { name := "serialPersistentFields", type := (.array (.object "java/io/ObjectStreamField")), accessFlags := 26, slot := 2, constantValue := 0 }, { name := "REPL", type := .char, accessFlags := 26, slot := 3, constantValue := 0 }, { name := "CASE_INSENSITIVE_ORDER", type := (.object "java/util/Comparator"), accessFlags := 25, slot := 4, constantValue := 0 }, { name := "LATIN1", type := .byte, accessFlags := 24, slot := 5, constantValue := 0 }, { name := "UTF16", type := .byte, accessFlags := 24, slot := 6, constantValue := 0 }]
  methods := #[k7m0, k7m1, k7m2, k7m3, k7m4, k7m5, k7m6, k7m7, k7m8]
  instanceTypes := #[(.array .byte), .byte, .int, .boolean]
  staticTypes := #[.long, .boolean, (.array (.object "java/io/ObjectStreamField")), .char, (.object "java/util/Comparator"), .byte, .byte]
  resolved := Array.replicate 1451 none
  statics := some 0 }

def pool8 : Array CpInfo := pool [(6, .class_ 8), (1, u "java/lang/Object"), (0, u "<init>"), (0, u "()V"), (1, .class_ 14), (1, u "java/lang/StringUTF16"), (31, u "$assertionsDisabled"), (0, u "Z"), (13, u "HI_BYTE_SHIFT"), (0, u "I"), (2, u "LO_BYTE_SHIFT"), (49, .methodref 12 116), (0, .nameAndType 117 118), (0, u "compress"), (0, u "([CI[BII)I"), (3, u "([CII)[B"), (138, u "coderFromArrayLen"), (0, u "([BI)B"), (106, .class_ 371), (1, u "java/lang/StringUTF16$LinesSpliterator"), (58, u "MAX_LENGTH"), (196, .class_ 628), (0, u "java/lang/StringUTF16$CodePointsSpliterator"), (0, .class_ 630), (0, u "java/lang/StringUTF16$CharsSpliterator")] 4

def k8m0 : Method := { name := "<init>", desc := "()V", sig := { parameters := [], returnType := none }, accessFlags := 0, code := none }
def k8c1 : Code := { maxStack := 2, maxLocals := 2, code := jdk_52_method_15_code, exceptionTable := #[], attributes := #[] }
def k8m1 : Method := { name := "coderFromArrayLen", desc := "([BI)B", sig := { parameters := [(.array .byte), .int], returnType := some .byte }, accessFlags := 8, code := some k8c1 }
def k8c2 : Code := { maxStack := 5, maxLocals := 6, code := jdk_52_method_16_code, exceptionTable := #[], attributes := #[] }
def k8m2 : Method := { name := "compress", desc := "([CII)[B", sig := { parameters := [(.array .char), .int, .int], returnType := some (.array .byte) }, accessFlags := 9, code := some k8c2 }
def k8c3 : Code := { maxStack := 3, maxLocals := 7, code := jdk_52_method_21_code, exceptionTable := #[], attributes := #[] }
def k8m3 : Method := { name := "compress", desc := "([CI[BII)I", sig := { parameters := [(.array .char), .int, (.array .byte), .int, .int], returnType := some .int }, accessFlags := 9, code := some k8c3 }
/-- java/lang/StringUTF16 -/
def k8 : Class := { plain "java/lang/StringUTF16" (some 0) with
  accessFlags := 48
  interfaces := #[]
  cf := some (fileOf pool8 12 #[.nestMembers #[627, 629, 369]] #[{ accessFlags := 0, nameIndex := 9, descriptorIndex := 10, attributes := #[] }, { accessFlags := 8, nameIndex := 261, descriptorIndex := 262, attributes := #[] }, { accessFlags := 9, nameIndex := 117, descriptorIndex := 122, attributes := #[] }, { accessFlags := 9, nameIndex := 117, descriptorIndex := 118, attributes := #[] }] 48 6 #[] #[{ accessFlags := 26, nameIndex := 61, descriptorIndex := 62, attributes := #[] }, { accessFlags := 26, nameIndex := 65, descriptorIndex := 62, attributes := #[] }, { accessFlags := 24, nameIndex := 430, descriptorIndex := 62, attributes := #[] }, { accessFlags := 4120, nameIndex := 46, descriptorIndex := 47, attributes := #[] }])
  fields := #[{ name := "HI_BYTE_SHIFT", type := .int, accessFlags := 26, slot := 0, constantValue := 0 }, { name := "LO_BYTE_SHIFT", type := .int, accessFlags := 26, slot := 1, constantValue := 0 }, { name := "MAX_LENGTH", type := .int, accessFlags := 24, slot := 2, constantValue := 0 }, { name := "$assertionsDisabled", type := .boolean, accessFlags := 4120, slot := 3, constantValue := 0 }]
  methods := #[k8m0, k8m1, k8m2, k8m3]
  instanceTypes := #[]
  staticTypes := #[.int, .int, .int, .boolean]
  resolved := Array.replicate 635 none
  statics := none }

def pool9 : Array CpInfo := pool [(1, .methodref 2 3), (0, .class_ 4), (0, .nameAndType 5 6), (0, u "java/lang/Object"), (0, u "<init>"), (0, u "()V"), (0, .fieldref 8 9), (0, .class_ 10), (0, .nameAndType 11 12), (0, u "java/lang/Throwable"), (0, u "cause"), (0, u "Ljava/lang/Throwable;"), (0, .fieldref 8 14), (0, .nameAndType 15 16), (0, u "UNASSIGNED_STACK"), (0, u "[Ljava/lang/StackTraceElement;"), (0, .fieldref 8 18), (0, .nameAndType 19 16), (0, u "stackTrace"), (0, .fieldref 8 21), (0, .nameAndType 22 23), (0, u "SUPPRESSED_SENTINEL"), (0, u "Ljava/util/List;"), (0, .fieldref 8 25), (0, .nameAndType 26 23), (0, u "suppressedExceptions"), (0, .methodref 8 28), (0, .nameAndType 29 30), (0, u "fillInStackTrace"), (0, u "()Ljava/lang/Throwable;"), (0, .fieldref 8 32), (0, .nameAndType 33 34), (0, u "detailMessage"), (0, u "Ljava/lang/String;"), (3, u "()Ljava/lang/String;"), (2, u "getMessage"), (51, .class_ 94), (0, u "java/lang/Throwable$WrappedPrintStream"), (6, .class_ 103), (1, u "java/lang/Throwable$PrintStreamOrWriter"), (54, u "getCause"), (6, u "$assertionsDisabled"), (0, u "Z"), (26, .class_ 194), (0, u "java/lang/Throwable$WrappedPrintWriter"), (3, .fieldref 8 199), (0, .nameAndType 200 201), (0, u "backtrace"), (0, u "Ljava/lang/Object;"), (0, .methodref 8 203), (0, .nameAndType 29 204), (0, u "(I)Ljava/lang/Throwable;"), (6, u "depth"), (0, u "I"), (10, u "(Ljava/lang/String;)V"), (45, .class_ 271), (1, u "java/lang/Throwable$SentinelHolder"), (32, u "EMPTY_THROWABLE_ARRAY"), (0, u "[Ljava/lang/Throwable;"), (12, .class_ 319), (0, u "java/io/Serializable"), (0, u "serialVersionUID"), (0, u "J"), (5, u "NULL_CAUSE_MESSAGE"), (0, u "SELF_SUPPRESSION_MESSAGE"), (0, u "CAUSE_CAPTION"), (0, u "SUPPRESSED_CAPTION")] 73

def k9c0 : Code := { maxStack := 2, maxLocals := 1, code := jdk_78_method_1_code, exceptionTable := #[], attributes := #[] }
def k9m0 : Method := { name := "<init>", desc := "()V", sig := { parameters := [], returnType := none }, accessFlags := 1, code := some k9c0 }
def k9c1 : Code := { maxStack := 2, maxLocals := 2, code := jdk_78_method_2_code, exceptionTable := #[], attributes := #[] }
def k9m1 : Method := { name := "<init>", desc := "(Ljava/lang/String;)V", sig := { parameters := [(.object "java/lang/String")], returnType := none }, accessFlags := 1, code := some k9c1 }
def k9c2 : Code := { maxStack := 1, maxLocals := 1, code := jdk_78_method_6_code, exceptionTable := #[], attributes := #[] }
def k9m2 : Method := { name := "getMessage", desc := "()Ljava/lang/String;", sig := { parameters := [], returnType := some (.object "java/lang/String") }, accessFlags := 1, code := some k9c2 }
def k9c3 : Code := { maxStack := 2, maxLocals := 1, code := ⟨#[0x2a, 0xb4, 0x00, 0x07, 0x2a, 0xa6, 0x00, 0x07, 0x01, 0xa7, 0x00, 0x07, 0x2a, 0xb4, 0x00, 0x07, 0xb0]⟩, exceptionTable := #[], attributes := #[] }
def k9m3 : Method := { name := "getCause", desc := "()Ljava/lang/Throwable;", sig := { parameters := [], returnType := some (.object "java/lang/Throwable") }, accessFlags := 33, code := some k9c3 }
def k9c4 : Code := { maxStack := 2, maxLocals := 1, code := ⟨#[0x2a, 0xb4, 0x00, 0x11, 0xc7, 0x00, 0x0a, 0x2a, 0xb4, 0x00, 0xc6, 0xc6, 0x00, 0x10, 0x2a, 0x03, 0xb6, 0x00, 0xca, 0x57, 0x2a, 0xb2, 0x00, 0x0d, 0xb5, 0x00, 0x11, 0x2a, 0xb0]⟩, exceptionTable := #[], attributes := #[] }
def k9m4 : Method := { name := "fillInStackTrace", desc := "()Ljava/lang/Throwable;", sig := { parameters := [], returnType := some (.object "java/lang/Throwable") }, accessFlags := 33, code := some k9c4 }
def k9m5 : Method := { name := "fillInStackTrace", desc := "(I)Ljava/lang/Throwable;", sig := { parameters := [.int], returnType := some (.object "java/lang/Throwable") }, accessFlags := 258, code := none }
/-- java/lang/Throwable -/
def k9 : Class := { plain "java/lang/Throwable" (some 0) with
  accessFlags := 33
  interfaces := #[2]
  cf := some (fileOf pool9 8 #[.nestMembers #[193, 93, 101, 269]] #[{ accessFlags := 1, nameIndex := 5, descriptorIndex := 6, attributes := #[] }, { accessFlags := 1, nameIndex := 5, descriptorIndex := 223, attributes := #[] }, { accessFlags := 1, nameIndex := 41, descriptorIndex := 38, attributes := #[] }, { accessFlags := 33, nameIndex := 158, descriptorIndex := 30, attributes := #[] }, { accessFlags := 33, nameIndex := 29, descriptorIndex := 30, attributes := #[] }, { accessFlags := 258, nameIndex := 29, descriptorIndex := 204, attributes := #[] }] 33 2 #[318] #[{ accessFlags := 26, nameIndex := 320, descriptorIndex := 321, attributes := #[] }, { accessFlags := 130, nameIndex := 200, descriptorIndex := 201, attributes := #[] }, { accessFlags := 2, nameIndex := 33, descriptorIndex := 34, attributes := #[] }, { accessFlags := 26, nameIndex := 15, descriptorIndex := 16, attributes := #[] }, { accessFlags := 2, nameIndex := 11, descriptorIndex := 12, attributes := #[] }, { accessFlags := 2, nameIndex := 19, descriptorIndex := 16, attributes := #[] }, { accessFlags := 130, nameIndex := 211, descriptorIndex := 212, attributes := #[] }, { accessFlags := 26, nameIndex := 22, descriptorIndex := 23, attributes := #[] }, { accessFlags := 2, nameIndex := 26, descriptorIndex := 23, attributes := #[] }, { accessFlags := 26, nameIndex := 327, descriptorIndex := 34, attributes := #[] }, { accessFlags := 26, nameIndex := 328, descriptorIndex := 34, attributes := #[] }, { accessFlags := 26, nameIndex := 329, descriptorIndex := 34, attributes := #[] }, { accessFlags := 26, nameIndex := 330, descriptorIndex := 34, attributes := #[] }, { accessFlags := 26, nameIndex := 304, descriptorIndex := 305, attributes := #[] }, { accessFlags := 4120, nameIndex := 165, descriptorIndex := 166, attributes := #[] }])
  fields := #[{ name := "serialVersionUID", type := .long, accessFlags := 26, slot := 0, constantValue := 0 }, { name := "backtrace", type := (.object "java/lang/Object"), accessFlags := 130, slot := 0, constantValue := 0 }, { name := "detailMessage", type := (.object "java/lang/String"), accessFlags := 2, slot := 1, constantValue := 0 }, { name := "UNASSIGNED_STACK", type := (.array (.object "java/lang/StackTraceElement")), accessFlags := 26, slot := 1, constantValue := 0 }, { name := "cause", type := (.object "java/lang/Throwable"), accessFlags := 2, slot := 2, constantValue := 0 }, { name := "stackTrace", type := (.array (.object "java/lang/StackTraceElement")), accessFlags := 2, slot := 3, constantValue := 0 }, { name := "depth", type := .int, accessFlags := 130, slot := 4, constantValue := 0 }, { name := "SUPPRESSED_SENTINEL", type := (.object "java/util/List"), accessFlags := 26, slot := 2, constantValue := 0 }, { name := "suppressedExceptions", type := (.object "java/util/List"), accessFlags := 2, slot := 5, constantValue := 0 }, { name := "NULL_CAUSE_MESSAGE", type := (.object "java/lang/String"), accessFlags := 26, slot := 3, constantValue := 0 }, { name := "SELF_SUPPRESSION_MESSAGE", type := (.object "java/lang/String"), accessFlags := 26, slot := 4, constantValue := 0 }, { name := "CAUSE_CAPTION", type := (.object "java/lang/String"), accessFlags := 26, slot := 5, constantValue := 0 }, { name := "SUPPRESSED_CAPTION", type := (.object "java/lang/String"), accessFlags := 26, slot := 6, constantValue := 0 }, { name := "EMPTY_THROWABLE_ARRAY", type := (.array (.object "java/lang/Throwable")), accessFlags := 26, slot := 7, constantValue := 0 }, { name := "$assertionsDisabled", type := .boolean, accessFlags := 4120, slot := 8, constantValue := 0 }]
  methods := #[k9m0, k9m1, k9m2, k9m3, k9m4, k9m5]
  instanceTypes := #[(.object "java/lang/Object"), (.object "java/lang/String"), (.object "java/lang/Throwable"), (.array (.object "java/lang/StackTraceElement")), .int, (.object "java/util/List")]
  staticTypes := #[.long, (.array (.object "java/lang/StackTraceElement")), (.object "java/util/List"), (.object "java/lang/String"), (.object "java/lang/String"), (.object "java/lang/String"), (.object "java/lang/String"), (.array (.object "java/lang/Throwable")), .boolean]
  resolved := Array.replicate 404 none
  statics := some 1 }

def pool10 : Array CpInfo := pool [(2, .class_ 4), (1, u "java/lang/Throwable"), (0, u "<init>"), (0, u "()V"), (0, .methodref 2 8), (0, .nameAndType 5 9), (0, u "(Ljava/lang/String;)V"), (9, .class_ 20), (0, u "java/lang/Exception"), (0, u "serialVersionUID"), (0, u "J")] 17

def k10m0 : Method := { name := "<init>", desc := "()V", sig := { parameters := [], returnType := none }, accessFlags := 1, code := none }
def k10c1 : Code := { maxStack := 2, maxLocals := 2, code := jdk_59_method_2_code, exceptionTable := #[], attributes := #[] }
def k10m1 : Method := { name := "<init>", desc := "(Ljava/lang/String;)V", sig := { parameters := [(.object "java/lang/String")], returnType := none }, accessFlags := 1, code := some k10c1 }
/-- java/lang/Exception -/
def k10 : Class := { plain "java/lang/Exception" (some 9) with
  accessFlags := 33
  interfaces := #[]
  cf := some (fileOf pool10 19 #[] #[{ accessFlags := 1, nameIndex := 5, descriptorIndex := 6, attributes := #[] }, { accessFlags := 1, nameIndex := 5, descriptorIndex := 9, attributes := #[] }] 33 2 #[] #[{ accessFlags := 24, nameIndex := 21, descriptorIndex := 22, attributes := #[] }])
  fields := #[{ name := "serialVersionUID", type := .long, accessFlags := 24, slot := 0, constantValue := 0 }]
  methods := #[k10m0, k10m1]
  instanceTypes := #[(.object "java/lang/Object"), (.object "java/lang/String"), (.object "java/lang/Throwable"), (.array (.object "java/lang/StackTraceElement")), .int, (.object "java/util/List")]
  staticTypes := #[.long]
  resolved := Array.replicate 40 none
  statics := none }

def pool11 : Array CpInfo := pool [(2, .class_ 4), (1, u "java/lang/Exception"), (0, u "<init>"), (0, u "()V"), (0, .methodref 2 8), (0, .nameAndType 5 9), (0, u "(Ljava/lang/String;)V"), (9, .class_ 20), (0, u "java/lang/RuntimeException"), (0, u "serialVersionUID"), (0, u "J")] 17

def k11m0 : Method := { name := "<init>", desc := "()V", sig := { parameters := [], returnType := none }, accessFlags := 1, code := none }
def k11c1 : Code := { maxStack := 2, maxLocals := 2, code := jdk_58_method_2_code, exceptionTable := #[], attributes := #[] }
def k11m1 : Method := { name := "<init>", desc := "(Ljava/lang/String;)V", sig := { parameters := [(.object "java/lang/String")], returnType := none }, accessFlags := 1, code := some k11c1 }
/-- java/lang/RuntimeException -/
def k11 : Class := { plain "java/lang/RuntimeException" (some 10) with
  accessFlags := 33
  interfaces := #[]
  cf := some (fileOf pool11 19 #[] #[{ accessFlags := 1, nameIndex := 5, descriptorIndex := 6, attributes := #[] }, { accessFlags := 1, nameIndex := 5, descriptorIndex := 9, attributes := #[] }] 33 2 #[] #[{ accessFlags := 24, nameIndex := 21, descriptorIndex := 22, attributes := #[] }])
  fields := #[{ name := "serialVersionUID", type := .long, accessFlags := 24, slot := 0, constantValue := 0 }]
  methods := #[k11m0, k11m1]
  instanceTypes := #[(.object "java/lang/Object"), (.object "java/lang/String"), (.object "java/lang/Throwable"), (.array (.object "java/lang/StackTraceElement")), .int, (.object "java/util/List")]
  staticTypes := #[.long]
  resolved := Array.replicate 40 none
  statics := none }

def pool12 : Array CpInfo := pool [(1, .methodref 2 3), (0, .class_ 4), (0, .nameAndType 5 6), (0, u "java/lang/RuntimeException"), (0, u "<init>"), (0, u "(Ljava/lang/String;)V"), (3, .class_ 11), (0, u "com/example/shiken/shiken/ContextException"), (5, u "()Ljava/lang/String;"), (1, .nameAndType 20 17), (0, u "toString"), (4, .class_ 26), (0, u "java/lang/StringBuilder"), (0, .methodref 25 28), (0, .nameAndType 5 29), (0, u "()V"), (0, .methodref 25 31), (0, .nameAndType 32 33), (0, u "append"), (0, u "(Ljava/lang/String;)Ljava/lang/StringBuilder;"), (9, .methodref 25 19), (1, .string 46), (0, u "the system property "), (0, .methodref 10 48), (0, .nameAndType 49 50), (0, u "forSetting"), (0, u "(Ljava/lang/String;Ljava/lang/String;Ljava/lang/String;)Lcom/example/shiken/shiken/ContextException;"), (0, .string 52), (0, u " is \""), (0, .string 54), (0, u "\"; give "), (0, .methodref 10 3), (0, u "serialVersionUID"), (0, u "J"), (12, u "forSystemProperty")] 2

def k12c0 : Code := { maxStack := 2, maxLocals := 2, code := prog_12_method_1_code, exceptionTable := #[], attributes := #[] }
def k12m0 : Method := { name := "<init>", desc := "(Ljava/lang/String;)V", sig := { parameters := [(.object "java/lang/String")], returnType := none }, accessFlags := 1, code := some k12c0 }
def k12c1 : Code := { maxStack := 3, maxLocals := 3, code := prog_12_method_5_code, exceptionTable := #[], attributes := #[] }
def k12m1 : Method := { name := "forSystemProperty", desc := "(Ljava/lang/String;Ljava/lang/String;Ljava/lang/String;)Lcom/example/shiken/shiken/ContextException;", sig := { parameters := [(.object "java/lang/String"), (.object "java/lang/String"), (.object "java/lang/String")], returnType := some (.object "com/example/shiken/shiken/ContextException") }, accessFlags := 8, code := some k12c1 }
def k12c2 : Code := { maxStack := 4, maxLocals := 3, code := prog_12_method_6_code, exceptionTable := #[], attributes := #[] }
def k12m2 : Method := { name := "forSetting", desc := "(Ljava/lang/String;Ljava/lang/String;Ljava/lang/String;)Lcom/example/shiken/shiken/ContextException;", sig := { parameters := [(.object "java/lang/String"), (.object "java/lang/String"), (.object "java/lang/String")], returnType := some (.object "com/example/shiken/shiken/ContextException") }, accessFlags := 8, code := some k12c2 }
/-- com/example/shiken/shiken/ContextException -/
def k12 : Class := { plain "com/example/shiken/shiken/ContextException" (some 11) with
  accessFlags := 49
  interfaces := #[]
  cf := some (fileOf pool12 10 #[] #[{ accessFlags := 1, nameIndex := 5, descriptorIndex := 6, attributes := #[] }, { accessFlags := 8, nameIndex := 70, descriptorIndex := 50, attributes := #[] }, { accessFlags := 8, nameIndex := 49, descriptorIndex := 50, attributes := #[] }] 49 2 #[] #[{ accessFlags := 26, nameIndex := 56, descriptorIndex := 57, attributes := #[] }])
  fields := #[{ name := "serialVersionUID", type := .long, accessFlags := 26, slot := 0, constantValue := 0 }]
  methods := #[k12m0, k12m1, k12m2]
  instanceTypes := #[(.object "java/lang/Object"), (.object "java/lang/String"), (.object "java/lang/Throwable"), (.array (.object "java/lang/StackTraceElement")), .int, (.object "java/util/List")]
  staticTypes := #[.long]
  resolved := Array.replicate 73 none
  statics := none }

def pool13 : Array CpInfo := pool [(1, .class_ 2), (0, u "java/lang/Appendable"), (0, .class_ 4), (0, u "java/lang/Object")] 9

/-- java/lang/Appendable -/
def k13 : Class := { plain "java/lang/Appendable" (some 0) with
  accessFlags := 1537
  interfaces := #[]
  cf := some (fileOf pool13 1 #[] #[] 1537 3 #[] #[])
  fields := #[]
  methods := #[]
  instanceTypes := #[]
  staticTypes := #[]
  resolved := Array.replicate 14 none
  statics := none }

def pool14 : Array CpInfo := pool [(1, .class_ 2), (0, u "java/lang/String"), (0, .methodref 4 5), (0, .class_ 6), (0, .nameAndType 7 8), (0, u "java/lang/Object"), (0, u "<init>"), (0, u "()V"), (1, .class_ 12), (1, u "java/lang/AbstractStringBuilder"), (0, u "EMPTYVALUE"), (0, u "[B"), (0, .fieldref 10 16), (0, .nameAndType 17 14), (0, u "value"), (0, .fieldref 1 19), (0, .nameAndType 20 21), (0, u "COMPACT_STRINGS"), (0, u "Z"), (0, .fieldref 10 23), (0, .nameAndType 24 25), (0, u "coder"), (0, u "B"), (6, .methodref 1 33), (0, .nameAndType 34 35), (0, u "length"), (0, u "()I"), (3, .integer 2147483647), (0, .methodref 1 41), (0, .nameAndType 24 42), (0, u "()B"), (2, u "append"), (0, u "(Ljava/lang/String;)Ljava/lang/AbstractStringBuilder;"), (1, .class_ 49), (0, u "java/lang/CharSequence"), (19, u "(Ljava/lang/String;)V"), (5, u "maybeLatin1"), (3, .fieldref 10 80), (0, .nameAndType 81 82), (0, u "count"), (0, u "I"), (2, u "isLatin1"), (0, u "()Z"), (13, .methodref 10 101), (0, .nameAndType 102 103), (0, u "ensureCapacityInternal"), (0, u "(I)V"), (0, .methodref 10 105), (0, .nameAndType 106 107), (0, u "newCapacity"), (0, u "(I)I"), (0, .methodref 109 110), (0, .class_ 111), (0, .nameAndType 112 113), (0, u "java/util/Arrays"), (0, u "copyOf"), (0, u "([BI)[B"), (0, .methodref 115 116), (0, .class_ 117), (0, .nameAndType 118 119), (0, u "jdk/internal/util/ArraysSupport"), (0, u "newLength"), (0, u "(III)I"), (88, .methodref 10 209), (0, .nameAndType 210 211), (0, u "putStringAt"), (0, u "(ILjava/lang/String;)V"), (5, u "inflateIfNeededFor"), (2, .nameAndType 221 222), (0, u "getBytes"), (0, u "([BIB)V"), (174, .methodref 10 398), (0, .nameAndType 217 69), (0, .methodref 1 220), (3, u "()[B"), (40, .class_ 445), (0, u "java/lang/Appendable"), (106, u "getValue")] 56

def k14m0 : Method := { name := "<init>", desc := "()V", sig := { parameters := [], returnType := none }, accessFlags := 0, code := none }
def k14c1 : Code := { maxStack := 2, maxLocals := 2, code := jdk_68_method_2_code, exceptionTable := #[], attributes := #[] }
def k14m1 : Method := { name := "<init>", desc := "(I)V", sig := { parameters := [.int], returnType := none }, accessFlags := 0, code := some k14c1 }
def k14c2 : Code := { maxStack := 1, maxLocals := 1, code := jdk_68_method_6_code, exceptionTable := #[], attributes := #[] }
def k14m2 : Method := { name := "length", desc := "()I", sig := { parameters := [], returnType := some .int }, accessFlags := 1, code := some k14c2 }
def k14c3 : Code := { maxStack := 4, maxLocals := 3, code := jdk_68_method_9_code, exceptionTable := #[], attributes := #[] }
def k14m3 : Method := { name := "ensureCapacityInternal", desc := "(I)V", sig := { parameters := [.int], returnType := none }, accessFlags := 2, code := some k14c3 }
def k14c4 : Code := { maxStack := 5, maxLocals := 6, code := jdk_68_method_10_code, exceptionTable := #[], attributes := #[] }
def k14m4 : Method := { name := "newCapacity", desc := "(I)I", sig := { parameters := [.int], returnType := some .int }, accessFlags := 2, code := some k14c4 }
def k14c5 : Code := { maxStack := 3, maxLocals := 3, code := jdk_68_method_22_code, exceptionTable := #[], attributes := #[] }
def k14m5 : Method := { name := "append", desc := "(Ljava/lang/String;)Ljava/lang/AbstractStringBuilder;", sig := { parameters := [(.object "java/lang/String")], returnType := some (.object "java/lang/AbstractStringBuilder") }, accessFlags := 1, code := some k14c5 }
def k14c6 : Code := { maxStack := 1, maxLocals := 1, code := jdk_68_method_64_code, exceptionTable := #[], attributes := #[] }
def k14m6 : Method := { name := "getValue", desc := "()[B", sig := { parameters := [], returnType := some (.array .byte) }, accessFlags := 16, code := some k14c6 }
def k14c7 : Code := { maxStack := 1, maxLocals := 1, code := jdk_68_method_68_code, exceptionTable := #[], attributes := #[] }
def k14m7 : Method := { name := "isLatin1", desc := "()Z", sig := { parameters := [], returnType := some .boolean }, accessFlags := 16, code := some k14c7 }
def k14c8 : Code := { maxStack := 2, maxLocals := 2, code := jdk_68_method_71_code, exceptionTable := #[], attributes := #[] }
def k14m8 : Method := { name := "inflateIfNeededFor", desc := "(Ljava/lang/String;)V", sig := { parameters := [(.object "java/lang/String")], returnType := none }, accessFlags := 2, code := some k14c8 }
def k14c9 : Code := { maxStack := 4, maxLocals := 3, code := jdk_68_method_73_code, exceptionTable := #[], attributes := #[] }
def k14m9 : Method := { name := "putStringAt", desc := "(ILjava/lang/String;)V", sig := { parameters := [.int, (.object "java/lang/String")], returnType := none }, accessFlags := 2, code := some k14c9 }
/-- java/lang/AbstractStringBuilder -/
def k14 : Class := { plain "java/lang/AbstractStringBuilder" (some 0) with
  accessFlags := 1056
  interfaces := #[13, 4]
  cf := some (fileOf pool14 10 #[] #[{ accessFlags := 0, nameIndex := 7, descriptorIndex := 8, attributes := #[] }, { accessFlags := 0, nameIndex := 7, descriptorIndex := 103, attributes := #[] }, { accessFlags := 1, nameIndex := 34, descriptorIndex := 35, attributes := #[] }, { accessFlags := 2, nameIndex := 102, descriptorIndex := 103, attributes := #[] }, { accessFlags := 2, nameIndex := 106, descriptorIndex := 107, attributes := #[] }, { accessFlags := 1, nameIndex := 45, descriptorIndex := 46, attributes := #[] }, { accessFlags := 16, nameIndex := 552, descriptorIndex := 403, attributes := #[] }, { accessFlags := 16, nameIndex := 85, descriptorIndex := 86, attributes := #[] }, { accessFlags := 2, nameIndex := 217, descriptorIndex := 69, attributes := #[] }, { accessFlags := 2, nameIndex := 210, descriptorIndex := 211, attributes := #[] }] 1056 4 #[444, 48] #[{ accessFlags := 0, nameIndex := 17, descriptorIndex := 14, attributes := #[] }, { accessFlags := 0, nameIndex := 24, descriptorIndex := 25, attributes := #[] }, { accessFlags := 0, nameIndex := 75, descriptorIndex := 21, attributes := #[] }, { accessFlags := 0, nameIndex := 81, descriptorIndex := 82, attributes := #[] }, { accessFlags := 26, nameIndex := 13, descriptorIndex := 14, attributes := #[] }])
  fields := #[{ name := "value", type := (.array .byte), accessFlags := 0, slot := 0, constantValue := 0 }, { name := "coder", type := .byte, accessFlags := 0, slot := 1, constantValue := 0 }, { name := "maybeLatin1", type := .boolean, accessFlags := 0, slot := 2, constantValue := 0 }, { name := "count", type := .int, accessFlags := 0, slot := 3, constantValue := 0 }, { name := "EMPTYVALUE", type := (.array .byte), accessFlags := 26, slot := 0, constantValue := 0 }]
  methods := #[k14m0, k14m1, k14m2, k14m3, k14m4, k14m5, k14m6, k14m7, k14m8, k14m9]
  instanceTypes := #[(.array .byte), .byte, .boolean, .int]
  staticTypes := #[(.array .byte)]
  resolved := Array.replicate 609 none
  statics := none }

def pool15 : Array CpInfo := pool [(1, .methodref 2 3), (0, .class_ 4), (0, .nameAndType 5 6), (0, u "java/lang/AbstractStringBuilder"), (0, u "<init>"), (0, u "(I)V"), (11, .class_ 20), (1, u "java/lang/String"), (3, .class_ 26), (1, u "java/lang/StringBuilder"), (0, u "append"), (0, u "(Ljava/lang/String;)Ljava/lang/StringBuilder;"), (0, .methodref 2 30), (0, .nameAndType 27 31), (0, u "(Ljava/lang/String;)Ljava/lang/AbstractStringBuilder;"), (105, .methodref 18 138), (0, .nameAndType 5 139), (0, u "(Ljava/lang/StringBuilder;)V"), (5, u "()V"), (10, u "()I"), (186, .methodref 2 344), (0, .nameAndType 345 156), (0, u "length"), (3, .class_ 350), (0, u "java/lang/Appendable"), (0, .class_ 352), (0, u "java/io/Serializable"), (0, .class_ 354), (0, u "java/lang/Comparable"), (0, .class_ 356), (0, u "java/lang/CharSequence"), (0, u "serialVersionUID"), (0, u "J"), (40, u "toString"), (0, u "()Ljava/lang/String;")] 21

def k15c0 : Code := { maxStack := 2, maxLocals := 1, code := jdk_67_method_1_code, exceptionTable := #[], attributes := #[] }
def k15m0 : Method := { name := "<init>", desc := "()V", sig := { parameters := [], returnType := none }, accessFlags := 1, code := some k15c0 }
def k15c1 : Code := { maxStack := 2, maxLocals := 2, code := jdk_67_method_7_code, exceptionTable := #[], attributes := #[] }
def k15m1 : Method := { name := "append", desc := "(Ljava/lang/String;)Ljava/lang/StringBuilder;", sig := { parameters := [(.object "java/lang/String")], returnType := some (.object "java/lang/StringBuilder") }, accessFlags := 1, code := some k15c1 }
def k15c2 : Code := { maxStack := 3, maxLocals := 1, code := jdk_67_method_42_code, exceptionTable := #[], attributes := #[] }
def k15m2 : Method := { name := "toString", desc := "()Ljava/lang/String;", sig := { parameters := [], returnType := some (.object "java/lang/String") }, accessFlags := 1, code := some k15c2 }
def k15c3 : Code := { maxStack := 1, maxLocals := 1, code := jdk_67_method_93_code, exceptionTable := #[], attributes := #[] }
def k15m3 : Method := { name := "length", desc := "()I", sig := { parameters := [], returnType := some .int }, accessFlags := 4161, code := some k15c3 }
/-- java/lang/StringBuilder -/
def k15 : Class := { plain "java/lang/StringBuilder" (some 14) with
  accessFlags := 49
  interfaces := #[13, 2, 3, 4]
  cf := some (fileOf pool15 24 #[] #[{ accessFlags := 1, nameIndex := 5, descriptorIndex := 145, attributes := #[] }, { accessFlags := 1, nameIndex := 27, descriptorIndex := 28, attributes := #[] }, { accessFlags := 1, nameIndex := 399, descriptorIndex := 400, attributes := #[] }, { accessFlags := 4161, nameIndex := 345, descriptorIndex := 156, attributes := #[] }] 49 2 #[349, 351, 353, 355] #[{ accessFlags := 24, nameIndex := 357, descriptorIndex := 358, attributes := #[] }])
  fields := #[{ name := "serialVersionUID", type := .long, accessFlags := 24, slot := 0, constantValue := 0 }]
  methods := #[k15m0, k15m1, k15m2, k15m3]
  instanceTypes := #[(.array .byte), .byte, .boolean, .int]
  staticTypes := #[.long]
  resolved := Array.replicate 422 none
  statics := none }

def pool16 : Array CpInfo := pool [(9, u "<init>"), (6, .class_ 18), (1, u "java/lang/Object"), (0, u "()V"), (1, .class_ 23), (1, u "jdk/internal/util/ArraysSupport"), (0, u "LOG2_ARRAY_LONG_INDEX_SCALE"), (0, u "I"), (2, u "U"), (0, u "Ljdk/internal/misc/Unsafe;"), (8, u "BIG_ENDIAN"), (0, u "Z"), (8, u "LOG2_BYTE_BIT_SIZE"), (4, u "LOG2_ARRAY_INT_INDEX_SCALE"), (54, u "JLA"), (0, u "Ljdk/internal/access/JavaLangAccess;"), (11, u "LOG2_ARRAY_BOOLEAN_INDEX_SCALE"), (9, u "LOG2_ARRAY_BYTE_INDEX_SCALE"), (5, u "LOG2_ARRAY_CHAR_INDEX_SCALE"), (5, u "LOG2_ARRAY_SHORT_INDEX_SCALE"), (18, u "LOG2_ARRAY_FLOAT_INDEX_SCALE"), (24, u "LOG2_ARRAY_DOUBLE_INDEX_SCALE"), (6, .methodref 195 196), (0, .class_ 197), (0, .nameAndType 198 199), (0, u "java/lang/Math"), (0, u "max"), (0, u "(II)I"), (0, .integer 2147483639), (76, u "T_BOOLEAN"), (2, u "T_CHAR"), (1, u "T_FLOAT"), (1, u "T_DOUBLE"), (1, u "T_BYTE"), (1, u "T_SHORT"), (1, u "T_INT"), (1, u "T_LONG"), (1, u "SOFT_MAX_ARRAY_LENGTH"), (56, u "newLength"), (0, u "(III)I")] 25

def k16m0 : Method := { name := "<init>", desc := "()V", sig := { parameters := [], returnType := none }, accessFlags := 2, code := none }
def k16c1 : Code := { maxStack := 3, maxLocals := 4, code := jdk_48_method_27_code, exceptionTable := #[], attributes := #[] }
def k16m1 : Method := { name := "newLength", desc := "(III)I", sig := { parameters := [.int, .int, .int], returnType := some .int }, accessFlags := 9, code := some k16c1 }
/-- jdk/internal/util/ArraysSupport -/
def k16 : Class := { plain "jdk/internal/util/ArraysSupport" (some 0) with
  accessFlags := 33
  interfaces := #[]
  cf := some (fileOf pool16 21 #[] #[{ accessFlags := 2, nameIndex := 9, descriptorIndex := 19, attributes := #[] }, { accessFlags := 9, nameIndex := 351, descriptorIndex := 352, attributes := #[] }] 33 16 #[] #[{ accessFlags := 24, nameIndex := 28, descriptorIndex := 29, attributes := #[] }, { accessFlags := 26, nameIndex := 38, descriptorIndex := 39, attributes := #[] }, { accessFlags := 25, nameIndex := 121, descriptorIndex := 25, attributes := #[] }, { accessFlags := 25, nameIndex := 131, descriptorIndex := 25, attributes := #[] }, { accessFlags := 25, nameIndex := 137, descriptorIndex := 25, attributes := #[] }, { accessFlags := 25, nameIndex := 143, descriptorIndex := 25, attributes := #[] }, { accessFlags := 25, nameIndex := 53, descriptorIndex := 25, attributes := #[] }, { accessFlags := 25, nameIndex := 24, descriptorIndex := 25, attributes := #[] }, { accessFlags := 25, nameIndex := 162, descriptorIndex := 25, attributes := #[] }, { accessFlags := 25, nameIndex := 187, descriptorIndex := 25, attributes := #[] }, { accessFlags := 26, nameIndex := 48, descriptorIndex := 25, attributes := #[] }, { accessFlags := 25, nameIndex := 277, descriptorIndex := 25, attributes := #[] }, { accessFlags := 25, nameIndex := 280, descriptorIndex := 25, attributes := #[] }, { accessFlags := 25, nameIndex := 282, descriptorIndex := 25, attributes := #[] }, { accessFlags := 25, nameIndex := 284, descriptorIndex := 25, attributes := #[] }, { accessFlags := 25, nameIndex := 286, descriptorIndex := 25, attributes := #[] }, { accessFlags := 25, nameIndex := 288, descriptorIndex := 25, attributes := #[] }, { accessFlags := 25, nameIndex := 290, descriptorIndex := 25, attributes := #[] }, { accessFlags := 25, nameIndex := 292, descriptorIndex := 25, attributes := #[] }, { accessFlags := 26, nameIndex := 108, descriptorIndex := 109, attributes := #[] }, { accessFlags := 25, nameIndex := 294, descriptorIndex := 25, attributes := #[] }])
  fields := #[{ name := "U", type := (.object "jdk/internal/misc/Unsafe"), accessFlags := 24, slot := 0, constantValue := 0 }, { name := "BIG_ENDIAN", type := .boolean, accessFlags := 26, slot := 1, constantValue := 0 }, { name := "LOG2_ARRAY_BOOLEAN_INDEX_SCALE", type := .int, accessFlags := 25, slot := 2, constantValue := 0 }, { name := "LOG2_ARRAY_BYTE_INDEX_SCALE", type := .int, accessFlags := 25, slot := 3, constantValue := 0 }, { name := "LOG2_ARRAY_CHAR_INDEX_SCALE", type := .int, accessFlags := 25, slot := 4, constantValue := 0 }, { name := "LOG2_ARRAY_SHORT_INDEX_SCALE", type := .int, accessFlags := 25, slot := 5, constantValue := 0 }, { name := "LOG2_ARRAY_INT_INDEX_SCALE", type := .int, accessFlags := 25, slot := 6, constantValue := 0 }, { name := "LOG2_ARRAY_LONG_INDEX_SCALE", type := .int, accessFlags := 25, slot := 7, constantValue := 0 }, { name := "LOG2_ARRAY_FLOAT_INDEX_SCALE", type := .int, accessFlags := 25, slot := 8, constantValue := 0 }, { name := "LOG2_ARRAY_DOUBLE_INDEX_SCALE", type := .int, accessFlags := 25, slot := 9, constantValue := 0 }, { name := "LOG2_BYTE_BIT_SIZE", type := .int, accessFlags := 26, slot := 10, constantValue := 0 }, { name := "T_BOOLEAN", type := .int, accessFlags := 25, slot := 11, constantValue := 0 }, { name := "T_CHAR", type := .int, accessFlags := 25, slot := 12, constantValue := 0 }, { name := "T_FLOAT", type := .int, accessFlags := 25, slot := 13, constantValue := 0 }, { name := "T_DOUBLE", type := .int, accessFlags := 25, slot := 14, constantValue := 0 }, { name := "T_BYTE", type := .int, accessFlags := 25, slot := 15, constantValue := 0 }, { name := "T_SHORT", type := .int, accessFlags := 25, slot := 16, constantValue := 0 }, { name := "T_INT", type := .int, accessFlags := 25, slot := 17, constantValue := 0 }, { name := "T_LONG", type := .int, accessFlags := 25, slot := 18, constantValue := 0 }, { name := "JLA", type := (.object "jdk/internal/access/JavaLangAccess"), accessFlags := 26, slot := 19, constantValue := 0 }, { name := "SOFT_MAX_ARRAY_LENGTH", type := .int, accessFlags := 25, slot := 20, constantValue := 0 }]
  methods := #[k16m0, k16m1]
  instanceTypes := #[]
  staticTypes := #[(.object "jdk/internal/misc/Unsafe"), .boolean, .int, .int, .int, .int, .int, .int, .int, .int, .int, .int, .int, .int, .int, .int, .int, .int, .int, (.object "jdk/internal/access/JavaLangAccess"), .int]
  resolved := Array.replicate 378 none
  statics := none }

def pool17 : Array CpInfo := pool [(1, .class_ 2), (0, u "java/lang/Math"), (1, .class_ 6), (1, u "java/lang/Object"), (0, u "<init>"), (0, u "()V"), (89, .class_ 100), (1, u "java/lang/Math$RandomNumberGeneratorHolder"), (71, u "negativeZeroFloatBits"), (0, u "J"), (2, u "negativeZeroDoubleBits"), (21, u "max"), (2, u "min"), (43, u "$assertionsDisabled"), (0, u "Z"), (88, u "(II)I"), (2, u "twoToTheDoubleScaleDown"), (0, u "D"), (4, u "twoToTheDoubleScaleUp"), (9, u "E"), (3, u "PI"), (2, u "TAU"), (2, u "DEGREES_TO_RADIANS"), (0, u "RADIANS_TO_DEGREES")] 94

def k17m0 : Method := { name := "<init>", desc := "()V", sig := { parameters := [], returnType := none }, accessFlags := 2, code := none }
def k17c1 : Code := { maxStack := 2, maxLocals := 2, code := jdk_29_method_65_code, exceptionTable := #[], attributes := #[] }
def k17m1 : Method := { name := "max", desc := "(II)I", sig := { parameters := [.int, .int], returnType := some .int }, accessFlags := 9, code := some k17c1 }
def k17c2 : Code := { maxStack := 2, maxLocals := 2, code := jdk_29_method_69_code, exceptionTable := #[], attributes := #[] }
def k17m2 : Method := { name := "min", desc := "(II)I", sig := { parameters := [.int, .int], returnType := some .int }, accessFlags := 9, code := some k17c2 }
/-- java/lang/Math -/
def k17 : Class := { plain "java/lang/Math" (some 0) with
  accessFlags := 49
  interfaces := #[]
  cf := some (fileOf pool17 1 #[.nestMembers #[98]] #[{ accessFlags := 2, nameIndex := 7, descriptorIndex := 8, attributes := #[] }, { accessFlags := 9, nameIndex := 198, descriptorIndex := 335, attributes := #[] }, { accessFlags := 9, nameIndex := 201, descriptorIndex := 335, attributes := #[] }] 49 4 #[] #[{ accessFlags := 25, nameIndex := 354, descriptorIndex := 339, attributes := #[] }, { accessFlags := 25, nameIndex := 358, descriptorIndex := 339, attributes := #[] }, { accessFlags := 25, nameIndex := 361, descriptorIndex := 339, attributes := #[] }, { accessFlags := 26, nameIndex := 364, descriptorIndex := 339, attributes := #[] }, { accessFlags := 26, nameIndex := 365, descriptorIndex := 339, attributes := #[] }, { accessFlags := 26, nameIndex := 172, descriptorIndex := 173, attributes := #[] }, { accessFlags := 26, nameIndex := 176, descriptorIndex := 173, attributes := #[] }, { accessFlags := 8, nameIndex := 344, descriptorIndex := 339, attributes := #[] }, { accessFlags := 8, nameIndex := 338, descriptorIndex := 339, attributes := #[] }, { accessFlags := 4120, nameIndex := 245, descriptorIndex := 246, attributes := #[] }])
  fields := #[{ name := "E", type := .double, accessFlags := 25, slot := 0, constantValue := 0 }, { name := "PI", type := .double, accessFlags := 25, slot := 1, constantValue := 0 }, { name := "TAU", type := .double, accessFlags := 25, slot := 2, constantValue := 0 }, { name := "DEGREES_TO_RADIANS", type := .double, accessFlags := 26, slot := 3, constantValue := 0 }, { name := "RADIANS_TO_DEGREES", type := .double, accessFlags := 26, slot := 4, constantValue := 0 }, { name := "negativeZeroFloatBits", type := .long, accessFlags := 26, slot := 5, constantValue := 0 }, { name := "negativeZeroDoubleBits", type := .long, accessFlags := 26, slot := 6, constantValue := 0 }, { name := "twoToTheDoubleScaleUp", type := .double, accessFlags := 8, slot := 7, constantValue := 0 }, { name := "twoToTheDoubleScaleDown", type := .double, accessFlags := 8, slot := 8, constantValue := 0 }, { name := "$assertionsDisabled", type := .boolean, accessFlags := 4120, slot := 9, constantValue := 0 }]
  methods := #[k17m0, k17m1, k17m2]
  instanceTypes := #[]
  staticTypes := #[.double, .double, .double, .double, .double, .long, .long, .double, .double, .boolean]
  resolved := Array.replicate 460 none
  statics := none }

def pool18 : Array CpInfo := pool [(2, .class_ 4), (1, u "java/lang/Object"), (0, u "<init>"), (0, u "()V"), (7, .class_ 16), (1, u "java/util/Arrays"), (57, .class_ 76), (1, u "java/util/Arrays$NaturalOrder"), (36, .class_ 115), (1, u "java/util/Arrays$LegacyMergeSort"), (1, u "Z"), (21, u "copyOfRange"), (10, .methodref 151 152), (0, .class_ 153), (0, .nameAndType 154 155), (0, u "java/lang/System"), (0, u "arraycopy"), (0, u "(Ljava/lang/Object;ILjava/lang/Object;II)V"), (146, u "copyOf"), (1, .methodref 305 306), (0, .class_ 307), (0, .nameAndType 308 309), (0, u "java/lang/Math"), (0, u "min"), (0, u "(II)I"), (29, .methodref 14 340), (0, .nameAndType 341 342), (0, u "copyOfRangeByte"), (0, u "([BII)[B"), (0, .methodref 14 344), (0, .nameAndType 345 346), (0, u "checkLength"), (0, u "(II)V"), (28, .class_ 376), (0, u "java/util/Arrays$ArrayList"), (68, u "$assertionsDisabled"), (269, u "MIN_ARRAY_SORT_GRAN"), (0, u "I"), (2, u "INSERTIONSORT_THRESHOLD"), (149, u "([BI)[B"), (105, .class_ 976), (0, u "java/util/Arrays$ArrayItr")] 52

def k18m0 : Method := { name := "<init>", desc := "()V", sig := { parameters := [], returnType := none }, accessFlags := 2, code := none }
def k18c1 : Code := { maxStack := 6, maxLocals := 3, code := jdk_65_method_121_code, exceptionTable := #[], attributes := #[] }
def k18m1 : Method := { name := "copyOf", desc := "([BI)[B", sig := { parameters := [(.array .byte), .int], returnType := some (.array .byte) }, accessFlags := 9, code := some k18c1 }
def k18c2 : Code := { maxStack := 4, maxLocals := 2, code := jdk_65_method_131_code, exceptionTable := #[], attributes := #[] }
def k18m2 : Method := { name := "checkLength", desc := "(II)V", sig := { parameters := [.int, .int], returnType := none }, accessFlags := 10, code := some k18c2 }
def k18c3 : Code := { maxStack := 3, maxLocals := 3, code := jdk_65_method_132_code, exceptionTable := #[], attributes := #[] }
def k18m3 : Method := { name := "copyOfRange", desc := "([BII)[B", sig := { parameters := [(.array .byte), .int, .int], returnType := some (.array .byte) }, accessFlags := 9, code := some k18c3 }
def k18c4 : Code := { maxStack := 6, maxLocals := 5, code := jdk_65_method_133_code, exceptionTable := #[], attributes := #[] }
def k18m4 : Method := { name := "copyOfRangeByte", desc := "([BII)[B", sig := { parameters := [(.array .byte), .int, .int], returnType := some (.array .byte) }, accessFlags := 10, code := some k18c4 }
/-- java/util/Arrays -/
def k18 : Class := { plain "java/util/Arrays" (some 0) with
  accessFlags := 49
  interfaces := #[]
  cf := some (fileOf pool18 14 #[.nestMembers #[975, 375, 113, 74]] #[{ accessFlags := 2, nameIndex := 5, descriptorIndex := 6, attributes := #[] }, { accessFlags := 9, nameIndex := 302, descriptorIndex := 869, attributes := #[] }, { accessFlags := 10, nameIndex := 345, descriptorIndex := 346, attributes := #[] }, { accessFlags := 9, nameIndex := 139, descriptorIndex := 342, attributes := #[] }, { accessFlags := 10, nameIndex := 341, descriptorIndex := 342, attributes := #[] }] 49 2 #[] #[{ accessFlags := 26, nameIndex := 715, descriptorIndex := 716, attributes := #[] }, { accessFlags := 26, nameIndex := 719, descriptorIndex := 716, attributes := #[] }, { accessFlags := 4120, nameIndex := 445, descriptorIndex := 117, attributes := #[] }])
  fields := #[{ name := "MIN_ARRAY_SORT_GRAN", type := .int, accessFlags := 26, slot := 0, constantValue := 0 }, { name := "INSERTIONSORT_THRESHOLD", type := .int, accessFlags := 26, slot := 1, constantValue := 0 }, { name := "$assertionsDisabled", type := .boolean, accessFlags := 4120, slot := 2, constantValue := 0 }]
  methods := #[k18m0, k18m1, k18m2, k18m3, k18m4]
  instanceTypes := #[]
  staticTypes := #[.int, .int, .boolean]
  resolved := Array.replicate 1029 none
  statics := none }

def pool19 : Array CpInfo := pool [(2, .class_ 4), (1, u "java/lang/Object"), (0, u "<init>"), (0, u "()V"), (1, .class_ 10), (1, u "java/lang/System"), (0, u "allowSecurityManager"), (0, u "I"), (16, u "cons"), (0, u "Ljava/io/Console;"), (77, .class_ 110), (1, u "java/lang/System$CallersHolder"), (43, u "initialErrStream"), (0, u "Ljava/io/PrintStream;"), (19, u "security"), (0, u "Ljava/lang/SecurityManager;"), (31, .class_ 209), (0, u "java/lang/System$1"), (7, u "props"), (0, u "Ljava/util/Properties;"), (2, u "lineSeparator"), (0, u "Ljava/lang/String;"), (96, .class_ 321), (1, u "java/lang/System$LoggerFinder"), (5, .class_ 328), (0, u "java/lang/System$Logger"), (67, u "err"), (2, u "out"), (91, u "notSupportedJnuEncoding"), (15, u "in"), (17, u "initialIn"), (0, u "Ljava/io/InputStream;"), (35, u "bootLayer"), (0, u "Ljava/lang/ModuleLayer;"), (99, .class_ 664), (0, u "java/lang/System$2"), (9, u "NEVER"), (2, u "MAYBE"), (49, u "arraycopy"), (0, u "(Ljava/lang/Object;ILjava/lang/Object;II)V"), (72, .class_ 802), (0, u "java/lang/System$Logger$Level")] 31

def k19m0 : Method := { name := "<init>", desc := "()V", sig := { parameters := [], returnType := none }, accessFlags := 2, code := none }
def k19m1 : Method := { name := "arraycopy", desc := "(Ljava/lang/Object;ILjava/lang/Object;II)V", sig := { parameters := [(.object "java/lang/Object"), .int, (.object "java/lang/Object"), .int, .int], returnType := none }, accessFlags := 265, code := none }
/-- java/lang/System -/
def k19 : Class := { plain "java/lang/System" (some 0) with
  accessFlags := 49
  interfaces := #[]
  cf := some (fileOf pool19 8 #[.nestMembers #[319, 327, 801, 108, 663, 208]] #[{ accessFlags := 2, nameIndex := 5, descriptorIndex := 6, attributes := #[] }, { accessFlags := 265, nameIndex := 727, descriptorIndex := 728, attributes := #[] }] 49 2 #[] #[{ accessFlags := 25, nameIndex := 507, descriptorIndex := 526, attributes := #[] }, { accessFlags := 25, nameIndex := 399, descriptorIndex := 155, attributes := #[] }, { accessFlags := 25, nameIndex := 396, descriptorIndex := 155, attributes := #[] }, { accessFlags := 10, nameIndex := 525, descriptorIndex := 526, attributes := #[] }, { accessFlags := 26, nameIndex := 674, descriptorIndex := 12, attributes := #[] }, { accessFlags := 26, nameIndex := 677, descriptorIndex := 12, attributes := #[] }, { accessFlags := 10, nameIndex := 11, descriptorIndex := 12, attributes := #[] }, { accessFlags := 74, nameIndex := 175, descriptorIndex := 176, attributes := #[] }, { accessFlags := 10, nameIndex := 491, descriptorIndex := 222, attributes := #[] }, { accessFlags := 74, nameIndex := 29, descriptorIndex := 30, attributes := #[] }, { accessFlags := 74, nameIndex := 154, descriptorIndex := 155, attributes := #[] }, { accessFlags := 10, nameIndex := 217, descriptorIndex := 218, attributes := #[] }, { accessFlags := 10, nameIndex := 221, descriptorIndex := 222, attributes := #[] }, { accessFlags := 8, nameIndex := 562, descriptorIndex := 563, attributes := #[] }])
  fields := #[{ name := "in", type := (.object "java/io/InputStream"), accessFlags := 25, slot := 0, constantValue := 0 }, { name := "out", type := (.object "java/io/PrintStream"), accessFlags := 25, slot := 1, constantValue := 0 }, { name := "err", type := (.object "java/io/PrintStream"), accessFlags := 25, slot := 2, constantValue := 0 }, { name := "initialIn", type := (.object "java/io/InputStream"), accessFlags := 10, slot := 3, constantValue := 0 }, { name := "NEVER", type := .int, accessFlags := 26, slot := 4, constantValue := 0 }, { name := "MAYBE", type := .int, accessFlags := 26, slot := 5, constantValue := 0 }, { name := "allowSecurityManager", type := .int, accessFlags := 10, slot := 6, constantValue := 0 }, { name := "security", type := (.object "java/lang/SecurityManager"), accessFlags := 74, slot := 7, constantValue := 0 }, { name := "notSupportedJnuEncoding", type := (.object "java/lang/String"), accessFlags := 10, slot := 8, constantValue := 0 }, { name := "cons", type := (.object "java/io/Console"), accessFlags := 74, slot := 9, constantValue := 0 }, { name := "initialErrStream", type := (.object "java/io/PrintStream"), accessFlags := 74, slot := 10, constantValue := 0 }, { name := "props", type := (.object "java/util/Properties"), accessFlags := 10, slot := 11, constantValue := 0 }, { name := "lineSeparator", type := (.object "java/lang/String"), accessFlags := 10, slot := 12, constantValue := 0 }, { name := "bootLayer", type := (.object "java/lang/ModuleLayer"), accessFlags := 8, slot := 13, constantValue := 0 }]
  methods := #[k19m0, k19m1]
  instanceTypes := #[]
  staticTypes := #[(.object "java/io/InputStream"), (.object "java/io/PrintStream"), (.object "java/io/PrintStream"), (.object "java/io/InputStream"), .int, .int, .int, (.object "java/lang/SecurityManager"), (.object "java/lang/String"), (.object "java/io/Console"), (.object "java/io/PrintStream"), (.object "java/util/Properties"), (.object "java/lang/String"), (.object "java/lang/ModuleLayer")]
  resolved := Array.replicate 834 none
  statics := none }

def pool20 : Array CpInfo := pool [(4, .class_ 6), (1, u "java/lang/Object"), (0, u "<init>"), (0, u "()V"), (5, .class_ 16), (1, u "java/lang/StringLatin1"), (104, u "$assertionsDisabled"), (0, u "Z"), (98, .class_ 223), (1, u "java/lang/StringLatin1$LinesSpliterator"), (57, u "equals"), (0, u "([B[B)Z"), (107, .class_ 391), (0, u "java/lang/StringLatin1$CharsSpliterator")] 3

def k20m0 : Method := { name := "<init>", desc := "()V", sig := { parameters := [], returnType := none }, accessFlags := 0, code := none }
def k20c1 : Code := { maxStack := 3, maxLocals := 3, code := jdk_43_method_13_code, exceptionTable := #[], attributes := #[] }
def k20m1 : Method := { name := "equals", desc := "([B[B)Z", sig := { parameters := [(.array .byte), (.array .byte)], returnType := some .boolean }, accessFlags := 9, code := some k20c1 }
/-- java/lang/StringLatin1 -/
def k20 : Class := { plain "java/lang/StringLatin1" (some 0) with
  accessFlags := 48
  interfaces := #[]
  cf := some (fileOf pool20 14 #[.nestMembers #[390, 221]] #[{ accessFlags := 0, nameIndex := 7, descriptorIndex := 8, attributes := #[] }, { accessFlags := 9, nameIndex := 281, descriptorIndex := 282, attributes := #[] }] 48 4 #[] #[{ accessFlags := 4120, nameIndex := 121, descriptorIndex := 122, attributes := #[] }])
  fields := #[{ name := "$assertionsDisabled", type := .boolean, accessFlags := 4120, slot := 0, constantValue := 0 }]
  methods := #[k20m0, k20m1]
  instanceTypes := #[]
  staticTypes := #[.boolean]
  resolved := Array.replicate 395 none
  statics := none }

def pool21 : Array CpInfo := pool [(2, .class_ 4), (1, u "java/lang/Object"), (0, u "<init>"), (0, u "()V"), (17, .class_ 26), (1, u "jdk/internal/util/Preconditions"), (28, .class_ 56), (0, u "jdk/internal/util/Preconditions$4"), (57, .class_ 115), (0, u "jdk/internal/util/Preconditions$1"), (7, u "SIOOBE_FORMATTER"), (0, u "Ljava/util/function/BiFunction;"), (0, .class_ 126), (0, u "jdk/internal/util/Preconditions$2"), (3, u "AIOOBE_FORMATTER"), (0, .class_ 132), (0, u "jdk/internal/util/Preconditions$3"), (3, u "IOOBE_FORMATTER")] 57

def k21m0 : Method := { name := "<init>", desc := "()V", sig := { parameters := [], returnType := none }, accessFlags := 1, code := none }
/-- jdk/internal/util/Preconditions -/
def k21 : Class := { plain "jdk/internal/util/Preconditions" (some 0) with
  accessFlags := 33
  interfaces := #[]
  cf := some (fileOf pool21 24 #[.nestMembers #[55, 131, 125, 114]] #[{ accessFlags := 1, nameIndex := 5, descriptorIndex := 6, attributes := #[] }] 33 2 #[] #[{ accessFlags := 25, nameIndex := 123, descriptorIndex := 124, attributes := #[] }, { accessFlags := 25, nameIndex := 130, descriptorIndex := 124, attributes := #[] }, { accessFlags := 25, nameIndex := 136, descriptorIndex := 124, attributes := #[] }])
  fields := #[{ name := "SIOOBE_FORMATTER", type := (.object "java/util/function/BiFunction"), accessFlags := 25, slot := 0, constantValue := 0 }, { name := "AIOOBE_FORMATTER", type := (.object "java/util/function/BiFunction"), accessFlags := 25, slot := 1, constantValue := 0 }, { name := "IOOBE_FORMATTER", type := (.object "java/util/function/BiFunction"), accessFlags := 25, slot := 2, constantValue := 0 }]
  methods := #[k21m0]
  instanceTypes := #[]
  staticTypes := #[(.object "java/util/function/BiFunction"), (.object "java/util/function/BiFunction"), (.object "java/util/function/BiFunction")]
  resolved := Array.replicate 194 none
  statics := some 2 }

def pool22 : Array CpInfo := pool [(2, .class_ 4), (1, u "java/lang/Object"), (0, u "<init>"), (0, u "()V"), (12, .class_ 20), (0, u "java/util/Collections"), (63, u "r"), (0, u "Ljava/util/Random;"), (80, .class_ 167), (0, u "java/util/Collections$UnmodifiableCollection"), (6, .class_ 175), (0, u "java/util/Collections$UnmodifiableSequencedCollection"), (6, .class_ 183), (0, u "java/util/Collections$UnmodifiableSet"), (6, .class_ 191), (0, u "java/util/Collections$UnmodifiableSequencedSet"), (6, .class_ 199), (0, u "java/util/Collections$UnmodifiableSortedSet"), (6, .class_ 207), (0, u "java/util/Collections$UnmodifiableNavigableSet"), (4, .class_ 213), (0, u "java/util/Collections$UnmodifiableList"), (1, .class_ 216), (0, u "java/util/Collections$UnmodifiableRandomAccessList"), (6, .class_ 224), (0, u "java/util/Collections$UnmodifiableMap"), (6, .class_ 232), (0, u "java/util/Collections$UnmodifiableSequencedMap"), (4, .class_ 238), (0, u "java/util/Collections$UnmodifiableSortedMap"), (6, .class_ 246), (0, u "java/util/Collections$UnmodifiableNavigableMap"), (3, .class_ 251), (0, u "java/util/Collections$SynchronizedCollection"), (4, .class_ 257), (0, u "java/util/Collections$SynchronizedSet"), (4, .class_ 263), (0, u "java/util/Collections$SynchronizedSortedSet"), (1, .class_ 266), (0, u "java/util/Collections$SynchronizedNavigableSet"), (1, .class_ 269), (0, u "java/util/Collections$SynchronizedRandomAccessList"), (1, .class_ 272), (0, u "java/util/Collections$SynchronizedList"), (5, .class_ 279), (0, u "java/util/Collections$SynchronizedMap"), (1, .class_ 282), (0, u "java/util/Collections$SynchronizedSortedMap"), (1, .class_ 285), (0, u "java/util/Collections$SynchronizedNavigableMap"), (1, .class_ 288), (0, u "java/util/Collections$CheckedCollection"), (11, .class_ 301), (0, u "java/util/Collections$CheckedQueue"), (3, .class_ 306), (0, u "java/util/Collections$CheckedSet"), (3, .class_ 311), (0, u "java/util/Collections$CheckedSortedSet"), (3, .class_ 316), (0, u "java/util/Collections$CheckedNavigableSet"), (3, .class_ 321), (0, u "java/util/Collections$CheckedRandomAccessList"), (3, .class_ 326), (0, u "java/util/Collections$CheckedList"), (1, .class_ 329), (0, u "java/util/Collections$CheckedMap"), (3, .class_ 334), (0, u "java/util/Collections$CheckedSortedMap"), (3, .class_ 339), (0, u "java/util/Collections$CheckedNavigableMap"), (4, .class_ 346), (1, u "java/util/Collections$EmptyIterator"), (3, .class_ 352), (1, u "java/util/Collections$EmptyListIterator"), (2, .class_ 357), (1, u "java/util/Collections$EmptyEnumeration"), (4, u "EMPTY_SET"), (0, u "Ljava/util/Set;"), (6, u "EMPTY_LIST"), (0, u "Ljava/util/List;"), (2, u "EMPTY_MAP"), (0, u "Ljava/util/Map;"), (4, .class_ 381), (0, u "java/util/Collections$SingletonSet"), (2, .class_ 385), (0, u "java/util/Collections$1"), (1, .class_ 388), (0, u "java/util/Collections$2"), (1, .class_ 391), (0, u "java/util/Collections$SingletonList"), (1, .class_ 394), (0, u "java/util/Collections$SingletonMap"), (22, .class_ 418), (0, u "java/util/Collections$CopiesList"), (4, .class_ 425), (1, u "java/util/Collections$ReverseComparator"), (8, .class_ 435), (0, u "java/util/Collections$ReverseComparator2"), (6, .class_ 443), (0, u "java/util/Collections$3"), (25, .class_ 470), (0, u "java/util/Collections$SetFromMap"), (2, .class_ 474), (0, u "java/util/Collections$SequencedSetFromMap"), (3, .class_ 479), (0, u "java/util/Collections$AsLIFOQueue"), (11, .class_ 492), (0, u "java/util/Collections$EmptySet"), (1, .class_ 495), (0, u "java/util/Collections$EmptyList"), (1, .class_ 498), (0, u "java/util/Collections$EmptyMap"), (1, u "BINARYSEARCH_THRESHOLD"), (0, u "I"), (2, u "REVERSE_THRESHOLD"), (1, u "SHUFFLE_THRESHOLD"), (1, u "FILL_THRESHOLD"), (1, u "ROTATE_THRESHOLD"), (1, u "COPY_THRESHOLD"), (1, u "REPLACEALL_THRESHOLD"), (1, u "INDEXOFSUBLIST_THRESHOLD"), (333, .class_ 851), (0, u "java/util/Collections$CheckedMap$CheckedEntrySet"), (0, .class_ 853), (0, u "java/util/Collections$CheckedMap$CheckedEntrySet$CheckedEntry"), (0, .class_ 855), (0, u "java/util/Collections$CheckedMap$CheckedEntrySet$1"), (0, .class_ 857), (0, u "java/util/Collections$CheckedList$1"), (0, .class_ 859), (0, u "java/util/Collections$CheckedCollection$1"), (0, .class_ 861), (0, u "java/util/Collections$UnmodifiableNavigableMap$EmptyNavigableMap"), (0, .class_ 863), (0, u "java/util/Collections$UnmodifiableMap$UnmodifiableEntrySet"), (0, .class_ 865), (0, u "java/util/Collections$UnmodifiableMap$UnmodifiableEntrySet$UnmodifiableEntry"), (0, .class_ 867), (0, u "java/util/Collections$UnmodifiableMap$UnmodifiableEntrySet$UnmodifiableEntrySetSpliterator"), (0, .class_ 869), (0, u "java/util/Collections$UnmodifiableMap$UnmodifiableEntrySet$1"), (0, .class_ 871), (0, u "java/util/Collections$UnmodifiableList$1"), (0, .class_ 873), (0, u "java/util/Collections$UnmodifiableNavigableSet$EmptyNavigableSet"), (0, .class_ 875), (0, u "java/util/Collections$UnmodifiableCollection$1")] 57

def k22m0 : Method := { name := "<init>", desc := "()V", sig := { parameters := [], returnType := none }, accessFlags := 2, code := none }
/-- java/util/Collections -/
def k22 : Class := { plain "java/util/Collections" (some 0) with
  accessFlags := 33
  interfaces := #[]
  cf := some (fileOf pool22 19 #[.nestMembers #[478, 473, 469, 434, 423, 417, 393, 390, 380, 497, 494, 491, 355, 350, 344, 338, 333, 328, 850, 852, 854, 320, 325, 856, 315, 310, 305, 300, 287, 858, 284, 281, 278, 268, 271, 265, 262, 256, 250, 245, 860, 237, 231, 223, 862, 864, 866, 868, 215, 212, 870, 206, 872, 198, 190, 182, 174, 166, 874, 442, 387, 384]] #[{ accessFlags := 2, nameIndex := 5, descriptorIndex := 6, attributes := #[] }] 33 2 #[] #[{ accessFlags := 26, nameIndex := 500, descriptorIndex := 501, attributes := #[] }, { accessFlags := 26, nameIndex := 504, descriptorIndex := 501, attributes := #[] }, { accessFlags := 26, nameIndex := 506, descriptorIndex := 501, attributes := #[] }, { accessFlags := 26, nameIndex := 508, descriptorIndex := 501, attributes := #[] }, { accessFlags := 26, nameIndex := 510, descriptorIndex := 501, attributes := #[] }, { accessFlags := 26, nameIndex := 512, descriptorIndex := 501, attributes := #[] }, { accessFlags := 26, nameIndex := 514, descriptorIndex := 501, attributes := #[] }, { accessFlags := 26, nameIndex := 516, descriptorIndex := 501, attributes := #[] }, { accessFlags := 10, nameIndex := 84, descriptorIndex := 85, attributes := #[] }, { accessFlags := 25, nameIndex := 362, descriptorIndex := 363, attributes := #[] }, { accessFlags := 25, nameIndex := 370, descriptorIndex := 371, attributes := #[] }, { accessFlags := 25, nameIndex := 374, descriptorIndex := 375, attributes := #[] }])
  fields := #[{ name := "BINARYSEARCH_THRESHOLD", type := .int, accessFlags := 26, slot := 0, constantValue := 0 }, { name := "REVERSE_THRESHOLD", type := .int, accessFlags := 26, slot := 1, constantValue := 0 }, { name := "SHUFFLE_THRESHOLD", type := .int, accessFlags := 26, slot := 2, constantValue := 0 }, { name := "FILL_THRESHOLD", type := .int, accessFlags := 26, slot := 3, constantValue := 0 }, { name := "ROTATE_THRESHOLD", type := .int, accessFlags := 26, slot := 4, constantValue := 0 }, { name := "COPY_THRESHOLD", type := .int, accessFlags := 26, slot := 5, constantValue := 0 }, { name := "REPLACEALL_THRESHOLD", type := .int, accessFlags := 26, slot := 6, constantValue := 0 }, { name := "INDEXOFSUBLIST_THRESHOLD", type := .int, accessFlags := 26, slot := 7, constantValue := 0 }, { name := "r", type := (.object "java/util/Random"), accessFlags := 10, slot := 8, constantValue := 0 }, { name := "EMPTY_SET", type := (.object "java/util/Set"), accessFlags := 25, slot := 9, constantValue := 0 }, { name := "EMPTY_LIST", type := (.object "java/util/List"), accessFlags := 25, slot := 10, constantValue := 0 }, { name := "EMPTY_MAP", type := (.object "java/util/Map"), accessFlags := 25, slot := 11, constantValue := 0 }]
  methods := #[k22m0]
  instanceTypes := #[]
  staticTypes := #[.int, .int, .int, .int, .int, .int, .int, .int, (.object "java/util/Random"), (.object "java/util/Set"), (.object "java/util/List"), (.object "java/util/Map")]
  resolved := Array.replicate 933 none
  statics := some 3 }

def pool23 : Array CpInfo := pool [(8, .class_ 10), (1, u "java/lang/Iterable"), (24, .class_ 36), (0, u "java/lang/Object")] 25

/-- java/lang/Iterable -/
def k23 : Class := { plain "java/lang/Iterable" (some 0) with
  accessFlags := 1537
  interfaces := #[]
  cf := some (fileOf pool23 8 #[] #[] 1537 35 #[] #[])
  fields := #[]
  methods := #[]
  instanceTypes := #[]
  staticTypes := #[]
  resolved := Array.replicate 62 none
  statics := none }

def pool24 : Array CpInfo := pool [(10, .class_ 12), (1, u "java/util/Collection"), (47, .class_ 61), (0, u "java/lang/Object"), (0, .class_ 63), (0, u "java/lang/Iterable")] 51

/-- java/util/Collection -/
def k24 : Class := { plain "java/util/Collection" (some 0) with
  accessFlags := 1537
  interfaces := #[23]
  cf := some (fileOf pool24 10 #[] #[] 1537 60 #[62] #[])
  fields := #[]
  methods := #[]
  instanceTypes := #[]
  staticTypes := #[]
  resolved := Array.replicate 115 none
  statics := none }

def pool25 : Array CpInfo := pool [(2, .class_ 4), (1, u "java/lang/Object"), (0, u "<init>"), (0, u "()V"), (1, .class_ 10), (1, u "java/util/AbstractCollection"), (66, .class_ 78), (0, u "java/util/Collection")] 81

def k25m0 : Method := { name := "<init>", desc := "()V", sig := { parameters := [], returnType := none }, accessFlags := 4, code := none }
/-- java/util/AbstractCollection -/
def k25 : Class := { plain "java/util/AbstractCollection" (some 0) with
  accessFlags := 1057
  interfaces := #[24]
  cf := some (fileOf pool25 8 #[] #[{ accessFlags := 4, nameIndex := 5, descriptorIndex := 6, attributes := #[] }] 1057 2 #[77] #[])
  fields := #[]
  methods := #[k25m0]
  instanceTypes := #[]
  staticTypes := #[]
  resolved := Array.replicate 160 none
  statics := none }

def pool26 : Array CpInfo := pool [(8, .class_ 10), (1, u "java/util/SequencedCollection"), (15, .class_ 27), (0, u "java/lang/Object"), (0, .class_ 29), (0, u "java/util/Collection")] 27

/-- java/util/SequencedCollection -/
def k26 : Class := { plain "java/util/SequencedCollection" (some 0) with
  accessFlags := 1537
  interfaces := #[24]
  cf := some (fileOf pool26 8 #[] #[] 1537 26 #[28] #[])
  fields := #[]
  methods := #[]
  instanceTypes := #[]
  staticTypes := #[]
  resolved := Array.replicate 57 none
  statics := none }

def pool27 : Array CpInfo := pool [(8, .class_ 10), (1, u "java/util/List"), (92, .class_ 104), (0, u "java/lang/Object"), (15, .class_ 121), (0, u "java/util/SequencedCollection")] 129

/-- java/util/List -/
def k27 : Class := { plain "java/util/List" (some 0) with
  accessFlags := 1537
  interfaces := #[26]
  cf := some (fileOf pool27 8 #[] #[] 1537 103 #[120] #[])
  fields := #[]
  methods := #[]
  instanceTypes := #[]
  staticTypes := #[]
  resolved := Array.replicate 251 none
  statics := none }

def pool28 : Array CpInfo := pool [(2, .class_ 4), (1, u "java/util/AbstractCollection"), (0, u "<init>"), (0, u "()V"), (1, .class_ 10), (1, u "java/util/AbstractList"), (0, u "modCount"), (0, u "I"), (64, .class_ 78), (0, u "java/util/AbstractList$Itr"), (3, .class_ 83), (0, u "java/util/AbstractList$ListItr"), (9, .class_ 94), (0, u "java/util/AbstractList$RandomAccessSubList"), (3, .class_ 99), (0, u "java/util/AbstractList$SubList"), (33, .class_ 134), (0, u "java/util/List"), (73, .class_ 209), (0, u "java/util/AbstractList$SubList$1"), (0, .class_ 211), (0, u "java/util/AbstractList$RandomAccessSpliterator")] 6

def k28m0 : Method := { name := "<init>", desc := "()V", sig := { parameters := [], returnType := none }, accessFlags := 4, code := none }
/-- java/util/AbstractList -/
def k28 : Class := { plain "java/util/AbstractList" (some 25) with
  accessFlags := 1057
  interfaces := #[27]
  cf := some (fileOf pool28 8 #[.nestMembers #[93, 98, 208, 210, 82, 77]] #[{ accessFlags := 4, nameIndex := 5, descriptorIndex := 6, attributes := #[] }] 1057 2 #[133] #[{ accessFlags := 132, nameIndex := 11, descriptorIndex := 12, attributes := #[] }])
  fields := #[{ name := "modCount", type := .int, accessFlags := 132, slot := 0, constantValue := 0 }]
  methods := #[k28m0]
  instanceTypes := #[.int]
  staticTypes := #[]
  resolved := Array.replicate 218 none
  statics := none }

def pool29 : Array CpInfo := pool [(1, .class_ 2), (0, u "java/util/RandomAccess"), (0, .class_ 4), (0, u "java/lang/Object")] 2

/-- java/util/RandomAccess -/
def k29 : Class := { plain "java/util/RandomAccess" (some 0) with
  accessFlags := 1537
  interfaces := #[]
  cf := some (fileOf pool29 1 #[] #[] 1537 3 #[] #[])
  fields := #[]
  methods := #[]
  instanceTypes := #[]
  staticTypes := #[]
  resolved := Array.replicate 7 none
  statics := none }

def pool30 : Array CpInfo := pool [(2, .class_ 4), (1, u "java/util/AbstractList"), (0, u "<init>"), (0, u "()V"), (1, .class_ 10), (1, u "java/util/Collections"), (54, .class_ 66), (0, u "java/util/Collections$EmptyList"), (0, .class_ 68), (0, u "java/util/RandomAccess"), (0, .class_ 70), (0, u "java/io/Serializable"), (0, u "serialVersionUID"), (0, u "J")] 77

def k30m0 : Method := { name := "<init>", desc := "()V", sig := { parameters := [], returnType := none }, accessFlags := 2, code := none }
/-- java/util/Collections$EmptyList -/
def k30 : Class := { plain "java/util/Collections$EmptyList" (some 28) with
  accessFlags := 32
  interfaces := #[29, 2]
  cf := some (fileOf pool30 65 #[.nestHost 8] #[{ accessFlags := 2, nameIndex := 5, descriptorIndex := 6, attributes := #[] }] 32 2 #[67, 69] #[{ accessFlags := 26, nameIndex := 71, descriptorIndex := 72, attributes := #[] }])
  fields := #[{ name := "serialVersionUID", type := .long, accessFlags := 26, slot := 0, constantValue := 0 }]
  methods := #[k30m0]
  instanceTypes := #[.int]
  staticTypes := #[.long]
  resolved := Array.replicate 150 none
  statics := none }

def pool31 : Array CpInfo := pool [(2, .class_ 4), (1, u "java/lang/StackTraceElement"), (0, u "<init>"), (2, .class_ 10), (1, u "java/lang/Object"), (0, u "()V"), (2, u "format"), (0, u "B"), (2, u "classLoaderName"), (0, u "Ljava/lang/String;"), (2, u "moduleName"), (2, u "moduleVersion"), (12, u "declaringClass"), (4, u "methodName"), (2, u "fileName"), (2, u "lineNumber"), (0, u "I"), (65, u "declaringClassObject"), (0, u "Ljava/lang/Class;"), (33, .class_ 153), (1, u "java/lang/StackTraceElement$HashedModules"), (17, .class_ 172), (0, u "java/io/Serializable"), (0, u "NATIVE_METHOD"), (1, u "UNKNOWN_SOURCE"), (2, u "BUILTIN_CLASS_LOADER"), (1, u "JDK_NON_UPGRADEABLE_MODULE"), (1, u "serialVersionUID"), (0, u "J")] 51

def k31m0 : Method := { name := "<init>", desc := "()V", sig := { parameters := [], returnType := none }, accessFlags := 2, code := none }
/-- java/lang/StackTraceElement -/
def k31 : Class := { plain "java/lang/StackTraceElement" (some 0) with
  accessFlags := 49
  interfaces := #[2]
  cf := some (fileOf pool31 2 #[.nestMembers #[151]] #[{ accessFlags := 2, nameIndex := 5, descriptorIndex := 11, attributes := #[] }] 49 8 #[171] #[{ accessFlags := 26, nameIndex := 173, descriptorIndex := 19, attributes := #[] }, { accessFlags := 26, nameIndex := 175, descriptorIndex := 19, attributes := #[] }, { accessFlags := 130, nameIndex := 116, descriptorIndex := 117, attributes := #[] }, { accessFlags := 2, nameIndex := 18, descriptorIndex := 19, attributes := #[] }, { accessFlags := 2, nameIndex := 22, descriptorIndex := 19, attributes := #[] }, { accessFlags := 2, nameIndex := 25, descriptorIndex := 19, attributes := #[] }, { accessFlags := 2, nameIndex := 38, descriptorIndex := 19, attributes := #[] }, { accessFlags := 2, nameIndex := 43, descriptorIndex := 19, attributes := #[] }, { accessFlags := 2, nameIndex := 46, descriptorIndex := 19, attributes := #[] }, { accessFlags := 2, nameIndex := 49, descriptorIndex := 50, attributes := #[] }, { accessFlags := 2, nameIndex := 14, descriptorIndex := 15, attributes := #[] }, { accessFlags := 26, nameIndex := 178, descriptorIndex := 15, attributes := #[] }, { accessFlags := 26, nameIndex := 180, descriptorIndex := 15, attributes := #[] }, { accessFlags := 26, nameIndex := 182, descriptorIndex := 183, attributes := #[] }])
  fields := #[{ name := "NATIVE_METHOD", type := (.object "java/lang/String"), accessFlags := 26, slot := 0, constantValue := 0 }, { name := "UNKNOWN_SOURCE", type := (.object "java/lang/String"), accessFlags := 26, slot := 1, constantValue := 0 }, { name := "declaringClassObject", type := (.object "java/lang/Class"), accessFlags := 130, slot := 0, constantValue := 0 }, { name := "classLoaderName", type := (.object "java/lang/String"), accessFlags := 2, slot := 1, constantValue := 0 }, { name := "moduleName", type := (.object "java/lang/String"), accessFlags := 2, slot := 2, constantValue := 0 }, { name := "moduleVersion", type := (.object "java/lang/String"), accessFlags := 2, slot := 3, constantValue := 0 }, { name := "declaringClass", type := (.object "java/lang/String"), accessFlags := 2, slot := 4, constantValue := 0 }, { name := "methodName", type := (.object "java/lang/String"), accessFlags := 2, slot := 5, constantValue := 0 }, { name := "fileName", type := (.object "java/lang/String"), accessFlags := 2, slot := 6, constantValue := 0 }, { name := "lineNumber", type := .int, accessFlags := 2, slot := 7, constantValue := 0 }, { name := "format", type := .byte, accessFlags := 2, slot := 8, constantValue := 0 }, { name := "BUILTIN_CLASS_LOADER", type := .byte, accessFlags := 26, slot := 2, constantValue := 0 }, { name := "JDK_NON_UPGRADEABLE_MODULE", type := .byte, accessFlags := 26, slot := 3, constantValue := 0 }, { name := "serialVersionUID", type := .long, accessFlags := 26, slot := 4, constantValue := 0 }]
  methods := #[k31m0]
  instanceTypes := #[(.object "java/lang/Class"), (.object "java/lang/String"), (.object "java/lang/String"), (.object "java/lang/String"), (.object "java/lang/String"), (.object "java/lang/String"), (.object "java/lang/String"), .int, .byte]
  staticTypes := #[(.object "java/lang/String"), (.object "java/lang/String"), .byte, .byte, .long]
  resolved := Array.replicate 235 none
  statics := none }

def pool32 : Array CpInfo := pool [(1, u "java/lang/Cloneable"), (0, .class_ 1), (0, u "java/lang/Object"), (0, .class_ 3)] 3

/-- java/lang/Cloneable -/
def k32 : Class := { plain "java/lang/Cloneable" (some 0) with
  accessFlags := 1537
  interfaces := #[]
  cf := some (fileOf pool32 2 #[] #[] 1537 4 #[] #[])
  fields := #[]
  methods := #[]
  instanceTypes := #[]
  staticTypes := #[]
  resolved := Array.replicate 8 none
  statics := none }

/-- the primitive byte -/
def k33 : Class := { plain "byte" none with kind := .primitive 'B', accessFlags := 0x411 }
/-- [B -/
def k34 : Class := { plain "[B" (some 0) with kind := .array 33 .byte, interfaces := #[32, 2], accessFlags := 1041 }

/-- the primitive char -/
def k35 : Class := { plain "char" none with kind := .primitive 'C', accessFlags := 0x411 }
/-- [C -/
def k36 : Class := { plain "[C" (some 0) with kind := .array 35 .char, interfaces := #[32, 2], accessFlags := 1041 }

/-- the primitive int -/
def k37 : Class := { plain "int" none with kind := .primitive 'I', accessFlags := 0x411 }
/-- [I -/
def k38 : Class := { plain "[I" (some 0) with kind := .array 37 .int, interfaces := #[32, 2], accessFlags := 1041 }

/-- [Ljava/lang/Object; -/
def k39 : Class := { plain "[Ljava/lang/Object;" (some 0) with kind := .array 0 (.object "java/lang/Object"), interfaces := #[32, 2], accessFlags := 1041 }

/-- [Ljava/lang/StackTraceElement; -/
def k40 : Class := { plain "[Ljava/lang/StackTraceElement;" (some 0) with kind := .array 31 (.object "java/lang/StackTraceElement"), interfaces := #[32, 2], accessFlags := 1041 }

/-- [Ljava/lang/Throwable; -/
def k41 : Class := { plain "[Ljava/lang/Throwable;" (some 0) with kind := .array 9 (.object "java/lang/Throwable"), interfaces := #[32, 2], accessFlags := 1041 }

def heap : Heap := #[{ cls := 7, slots := #[.long 0, .int 1, .null, .int 0, .null, .int 0, .int 0], vm := .statics 7 },
  { cls := 9, slots := #[.long 0, .ref 4, .ref 5, .null, .null, .null, .null, .ref 6, .int 1], vm := .statics 9 },
  { cls := 21, slots := #[.null, .null, .null], vm := .statics 21 },
  { cls := 22, slots := #[.int 0, .int 0, .int 0, .int 0, .int 0, .int 0, .int 0, .int 0, .null, .null, .ref 5, .null], vm := .statics 22 },
  { cls := 40, slots := #[], vm := .none },
  { cls := 30, slots := #[.int 0], vm := .none },
  { cls := 41, slots := #[], vm := .none }]
def classes : Array Class := #[k0, k1, k2, k3, k4, k5, k6, k7, k8, k9, k10, k11, k12, k13, k14, k15, k16, k17, k18, k19, k20, k21, k22, k23, k24, k25, k26, k27, k28, k29, k30, k31, k32, k33, k34, k35, k36, k37, k38, k39, k40, k41]
def interned : List (Array UInt16 × Addr) := []
def slotsUsed : Nat := 32
def theMethod : MethodId := ⟨1, 1⟩
def args0 : Array Value := #[.int 65, .int 66, .int 67]
def aboutOver (below : List Frame) : State where
  vm := { classes := classes, interned := interned.toArray }
  heap := heap
  slotsUsed := slotsUsed
  threads := #[{ frames := .invoking theMethod args0 :: below }]
def below0 : List Frame := [.native { method := ⟨0, 0⟩, args := #[] }]
def about1 : State := aboutOver below0
def p0 : Program := .bare "" "" ""
def e0 : Env := launch0.env 0 0 0
theorem w_frames : about1.frames = Frame.invoking theMethod args0 :: below0 := rfl
set_option maxRecDepth 65536 in
theorem w_args : argsFit about1.vm theMethod args0 = true := by decide +kernel
set_option maxRecDepth 65536 in
theorem w_heap : heapFits about1 = true := by decide +kernel
set_option maxRecDepth 65536 in
theorem w_runnable : about1.curStatus? = some .runnable := by decide +kernel
set_option maxRecDepth 65536 in
theorem w_alone : about1.alone = true := by decide +kernel
set_option maxRecDepth 65536 in
theorem w_named : about1.methodNamed? x = some theMethod := by decide +kernel
set_option maxRecDepth 65536 in
theorem w_hears : about1.hears theMethod below0 = true := by decide +kernel
set_option maxRecDepth 65536 in
theorem w_ripe : about1.ripe theMethod args0 below0 = true := by decide +kernel
theorem w_running : about1.status = .running := rfl
set_option maxRecDepth 65536 in
theorem w_room : about1.hasRoom e0.platform room_1 = true :=
  launch0.hasRoom_least _ room_1 (by decide +kernel) (by decide +kernel) (by decide +kernel) (by decide +kernel) (by decide +kernel) (by decide +kernel)
theorem allAtoms_all (ts : List Jvm.Cond) (a : Array Jvm.Value) (st : Jvm.State) : (allAtoms ts).before a st = ts.all (fun c => c.before a st) := by
  induction ts with
  | nil => rfl
  | cons c t ih =>
    show (Jvm.Cond.and c (allAtoms t)).before a st = _
    rw [Jvm.Cond.before_and, ih, List.all_cons]
def words1 : List Jvm.Cond := Jvm.Cond.code x code maxLocals ret :: tables_1
/-- a 'code' word, met by the world's own term for the bytes: nothing is compared byte by byte -/
theorem code_word {y : MethodName} {bytes : ByteArray} {mx : Nat} {rt : Option FieldType} {a : Array Value} {s : State} {m : MethodId} {meth : Method} {c : Code} (h1 : s.methodNamed? y = some m) (h2 : s.vm.method? m = some meth) (h3 : meth.code = some c) (h4 : c.code = bytes)
    (h5 : (c.maxLocals == mx && c.exceptionTable.isEmpty && decide (c.maxStack ≤ mostOperands) && decide (meth.sig.returnType = rt) && !meth.locks && decide (parseMethodDescriptor y.desc = some meth.sig)) = true) : (Jvm.Cond.code y bytes mx rt).before a s = true := by
  simp only [Bool.and_eq_true, beq_iff_eq, Bool.not_eq_true', decide_eq_true_eq] at h5
  obtain ⟨⟨⟨⟨⟨g1, g2⟩, g3⟩, g4⟩, g5⟩, g6⟩ := h5
  simp [Cond.before, Cond.holds, Cond.value, h1, h2, h3, h4, g1, g2, g3, g4, g5, g6]
def isCode : Jvm.Cond → Bool
  | .code _ _ _ _ => true
  | _ => false
theorem all_split {L : List Jvm.Cond} {P : Jvm.Cond → Bool} (h1 : L.all (fun c => isCode c || P c) = true) (h2 : ∀ c ∈ L.filter isCode, P c = true) : L.all P = true := by
  refine List.all_eq_true.mpr fun c hc => ?_
  have h := List.all_eq_true.mp h1 c hc
  rcases Bool.eq_false_or_eq_true (isCode c) with hi | hi
  · exact h2 c (List.mem_filter.mpr ⟨hc, hi⟩)
  · simpa [hi] using h
set_option maxRecDepth 65536 in
theorem w_c0 : (Jvm.Cond.code x code maxLocals ret).before args0 about1 = true := code_word (m := ⟨1, 1⟩) (meth := k1m1) (c := k1c1) (by decide +kernel) rfl rfl rfl (by decide +kernel)
set_option maxRecDepth 65536 in
theorem w_c1 : (Jvm.Cond.code ({ cls := "java/lang/String", name := "<init>", desc := "([C)V" } : Jvm.MethodName) jdk_42_method_3_code (2 : Nat) (Option.none : Option Jvm.ClassFile.FieldType)).before args0 about1 = true := code_word (m := ⟨7, 1⟩) (meth := k7m1) (c := k7c1) (by decide +kernel) rfl rfl rfl (by decide +kernel)
set_option maxRecDepth 65536 in
theorem w_c2 : (Jvm.Cond.code ({ cls := "java/lang/String", name := "<init>", desc := "([CIILjava/lang/Void;)V" } : Jvm.MethodName) jdk_42_method_149_code (6 : Nat) (Option.none : Option Jvm.ClassFile.FieldType)).before args0 about1 = true := code_word (m := ⟨7, 6⟩) (meth := k7m6) (c := k7c6) (by decide +kernel) rfl rfl rfl (by decide +kernel)
set_option maxRecDepth 65536 in
theorem w_c3 : (Jvm.Cond.code ({ cls := "java/lang/Object", name := "<init>", desc := "()V" } : Jvm.MethodName) object_method_1_code (1 : Nat) (Option.none : Option Jvm.ClassFile.FieldType)).before args0 about1 = true := code_word (m := ⟨0, 0⟩) (meth := k0m0) (c := k0c0) (by decide +kernel) rfl rfl rfl (by decide +kernel)
set_option maxRecDepth 65536 in
theorem w_c4 : (Jvm.Cond.code ({ cls := "java/lang/StringUTF16", name := "compress", desc := "([CII)[B" } : Jvm.MethodName) jdk_52_method_16_code (6 : Nat) (Option.some (Jvm.ClassFile.FieldType.array Jvm.ClassFile.FieldType.byte))).before args0 about1 = true := code_word (m := ⟨8, 2⟩) (meth := k8m2) (c := k8c2) (by decide +kernel) rfl rfl rfl (by decide +kernel)
set_option maxRecDepth 65536 in
theorem w_c5 : (Jvm.Cond.code ({ cls := "java/lang/StringUTF16", name := "compress", desc := "([CI[BII)I" } : Jvm.MethodName) jdk_52_method_21_code (7 : Nat) (Option.some Jvm.ClassFile.FieldType.int)).before args0 about1 = true := code_word (m := ⟨8, 3⟩) (meth := k8m3) (c := k8c3) (by decide +kernel) rfl rfl rfl (by decide +kernel)
set_option maxRecDepth 65536 in
theorem w_c6 : (Jvm.Cond.code ({ cls := "java/lang/StringUTF16", name := "coderFromArrayLen", desc := "([BI)B" } : Jvm.MethodName) jdk_52_method_15_code (2 : Nat) (Option.some Jvm.ClassFile.FieldType.byte)).before args0 about1 = true := code_word (m := ⟨8, 1⟩) (meth := k8m1) (c := k8c1) (by decide +kernel) rfl rfl rfl (by decide +kernel)
set_option maxRecDepth 65536 in
theorem w_c7 : (Jvm.Cond.code ({ cls := "com/example/shiken/shiken/ContextException", name := "forSystemProperty", desc := "(Ljava/lang/String;Ljava/lang/String;Ljava/lang/String;)Lcom/example/shiken/shiken/ContextException;" } : Jvm.MethodName) prog_12_method_5_code (3 : Nat) (Option.some (Jvm.ClassFile.FieldType.object "com/example/shiken/shiken/ContextException"))).before args0 about1 = true := code_word (m := ⟨12, 1⟩) (meth := k12m1) (c := k12c1) (by decide +kernel) rfl rfl rfl (by decide +kernel)
set_option maxRecDepth 65536 in
theorem w_c8 : (Jvm.Cond.code ({ cls := "java/lang/StringBuilder", name := "<init>", desc := "()V" } : Jvm.MethodName) jdk_67_method_1_code (1 : Nat) (Option.none : Option Jvm.ClassFile.FieldType)).before args0 about1 = true := code_word (m := ⟨15, 0⟩) (meth := k15m0) (c := k15c0) (by decide +kernel) rfl rfl rfl (by decide +kernel)
set_option maxRecDepth 65536 in
theorem w_c9 : (Jvm.Cond.code ({ cls := "java/lang/AbstractStringBuilder", name := "<init>", desc := "(I)V" } : Jvm.MethodName) jdk_68_method_2_code (2 : Nat) (Option.none : Option Jvm.ClassFile.FieldType)).before args0 about1 = true := code_word (m := ⟨14, 1⟩) (meth := k14m1) (c := k14c1) (by decide +kernel) rfl rfl rfl (by decide +kernel)
set_option maxRecDepth 65536 in
theorem w_c10 : (Jvm.Cond.code ({ cls := "java/lang/StringBuilder", name := "append", desc := "(Ljava/lang/String;)Ljava/lang/StringBuilder;" } : Jvm.MethodName) jdk_67_method_7_code (2 : Nat) (Option.some (Jvm.ClassFile.FieldType.object "java/lang/StringBuilder"))).before args0 about1 = true := code_word (m := ⟨15, 1⟩) (meth := k15m1) (c := k15c1) (by decide +kernel) rfl rfl rfl (by decide +kernel)
set_option maxRecDepth 65536 in
theorem w_c11 : (Jvm.Cond.code ({ cls := "java/lang/AbstractStringBuilder", name := "append", desc := "(Ljava/lang/String;)Ljava/lang/AbstractStringBuilder;" } : Jvm.MethodName) jdk_68_method_22_code (3 : Nat) (Option.some (Jvm.ClassFile.FieldType.object "java/lang/AbstractStringBuilder"))).before args0 about1 = true := code_word (m := ⟨14, 5⟩) (meth := k14m5) (c := k14c5) (by decide +kernel) rfl rfl rfl (by decide +kernel)
set_option maxRecDepth 65536 in
theorem w_c12 : (Jvm.Cond.code ({ cls := "java/lang/String", name := "length", desc := "()I" } : Jvm.MethodName) jdk_42_method_54_code (1 : Nat) (Option.some Jvm.ClassFile.FieldType.int)).before args0 about1 = true := code_word (m := ⟨7, 3⟩) (meth := k7m3) (c := k7c3) (by decide +kernel) rfl rfl rfl (by decide +kernel)
set_option maxRecDepth 65536 in
theorem w_c13 : (Jvm.Cond.code ({ cls := "java/lang/String", name := "coder", desc := "()B" } : Jvm.MethodName) jdk_42_method_152_code (1 : Nat) (Option.some Jvm.ClassFile.FieldType.byte)).before args0 about1 = true := code_word (m := ⟨7, 8⟩) (meth := k7m8) (c := k7c8) (by decide +kernel) rfl rfl rfl (by decide +kernel)
set_option maxRecDepth 65536 in
theorem w_c14 : (Jvm.Cond.code ({ cls := "java/lang/AbstractStringBuilder", name := "ensureCapacityInternal", desc := "(I)V" } : Jvm.MethodName) jdk_68_method_9_code (3 : Nat) (Option.none : Option Jvm.ClassFile.FieldType)).before args0 about1 = true := code_word (m := ⟨14, 3⟩) (meth := k14m3) (c := k14c3) (by decide +kernel) rfl rfl rfl (by decide +kernel)
set_option maxRecDepth 65536 in
theorem w_c15 : (Jvm.Cond.code ({ cls := "java/lang/AbstractStringBuilder", name := "newCapacity", desc := "(I)I" } : Jvm.MethodName) jdk_68_method_10_code (6 : Nat) (Option.some Jvm.ClassFile.FieldType.int)).before args0 about1 = true := code_word (m := ⟨14, 4⟩) (meth := k14m4) (c := k14c4) (by decide +kernel) rfl rfl rfl (by decide +kernel)
set_option maxRecDepth 65536 in
theorem w_c16 : (Jvm.Cond.code ({ cls := "jdk/internal/util/ArraysSupport", name := "newLength", desc := "(III)I" } : Jvm.MethodName) jdk_48_method_27_code (4 : Nat) (Option.some Jvm.ClassFile.FieldType.int)).before args0 about1 = true := code_word (m := ⟨16, 1⟩) (meth := k16m1) (c := k16c1) (by decide +kernel) rfl rfl rfl (by decide +kernel)
set_option maxRecDepth 65536 in
theorem w_c17 : (Jvm.Cond.code ({ cls := "java/lang/Math", name := "max", desc := "(II)I" } : Jvm.MethodName) jdk_29_method_65_code (2 : Nat) (Option.some Jvm.ClassFile.FieldType.int)).before args0 about1 = true := code_word (m := ⟨17, 1⟩) (meth := k17m1) (c := k17c1) (by decide +kernel) rfl rfl rfl (by decide +kernel)
set_option maxRecDepth 65536 in
theorem w_c18 : (Jvm.Cond.code ({ cls := "java/util/Arrays", name := "copyOf", desc := "([BI)[B" } : Jvm.MethodName) jdk_65_method_121_code (3 : Nat) (Option.some (Jvm.ClassFile.FieldType.array Jvm.ClassFile.FieldType.byte))).before args0 about1 = true := code_word (m := ⟨18, 1⟩) (meth := k18m1) (c := k18c1) (by decide +kernel) rfl rfl rfl (by decide +kernel)
set_option maxRecDepth 65536 in
theorem w_c19 : (Jvm.Cond.code ({ cls := "java/lang/Math", name := "min", desc := "(II)I" } : Jvm.MethodName) jdk_29_method_69_code (2 : Nat) (Option.some Jvm.ClassFile.FieldType.int)).before args0 about1 = true := code_word (m := ⟨17, 2⟩) (meth := k17m2) (c := k17c2) (by decide +kernel) rfl rfl rfl (by decide +kernel)
set_option maxRecDepth 65536 in
theorem w_c20 : (Jvm.Cond.code ({ cls := "java/lang/AbstractStringBuilder", name := "putStringAt", desc := "(ILjava/lang/String;)V" } : Jvm.MethodName) jdk_68_method_73_code (3 : Nat) (Option.none : Option Jvm.ClassFile.FieldType)).before args0 about1 = true := code_word (m := ⟨14, 9⟩) (meth := k14m9) (c := k14c9) (by decide +kernel) rfl rfl rfl (by decide +kernel)
set_option maxRecDepth 65536 in
theorem w_c21 : (Jvm.Cond.code ({ cls := "java/lang/AbstractStringBuilder", name := "inflateIfNeededFor", desc := "(Ljava/lang/String;)V" } : Jvm.MethodName) jdk_68_method_71_code (2 : Nat) (Option.none : Option Jvm.ClassFile.FieldType)).before args0 about1 = true := code_word (m := ⟨14, 8⟩) (meth := k14m8) (c := k14c8) (by decide +kernel) rfl rfl rfl (by decide +kernel)
set_option maxRecDepth 65536 in
theorem w_c22 : (Jvm.Cond.code ({ cls := "java/lang/String", name := "getBytes", desc := "([BIB)V" } : Jvm.MethodName) jdk_42_method_147_code (4 : Nat) (Option.none : Option Jvm.ClassFile.FieldType)).before args0 about1 = true := code_word (m := ⟨7, 5⟩) (meth := k7m5) (c := k7c5) (by decide +kernel) rfl rfl rfl (by decide +kernel)
set_option maxRecDepth 65536 in
theorem w_c23 : (Jvm.Cond.code ({ cls := "java/lang/StringBuilder", name := "toString", desc := "()Ljava/lang/String;" } : Jvm.MethodName) jdk_67_method_42_code (1 : Nat) (Option.some (Jvm.ClassFile.FieldType.object "java/lang/String"))).before args0 about1 = true := code_word (m := ⟨15, 2⟩) (meth := k15m2) (c := k15c2) (by decide +kernel) rfl rfl rfl (by decide +kernel)
set_option maxRecDepth 65536 in
theorem w_c24 : (Jvm.Cond.code ({ cls := "java/lang/String", name := "<init>", desc := "(Ljava/lang/StringBuilder;)V" } : Jvm.MethodName) jdk_42_method_53_code (2 : Nat) (Option.none : Option Jvm.ClassFile.FieldType)).before args0 about1 = true := code_word (m := ⟨7, 2⟩) (meth := k7m2) (c := k7c2) (by decide +kernel) rfl rfl rfl (by decide +kernel)
set_option maxRecDepth 65536 in
theorem w_c25 : (Jvm.Cond.code ({ cls := "java/lang/String", name := "<init>", desc := "(Ljava/lang/AbstractStringBuilder;Ljava/lang/Void;)V" } : Jvm.MethodName) jdk_42_method_150_code (5 : Nat) (Option.none : Option Jvm.ClassFile.FieldType)).before args0 about1 = true := code_word (m := ⟨7, 7⟩) (meth := k7m7) (c := k7c7) (by decide +kernel) rfl rfl rfl (by decide +kernel)
set_option maxRecDepth 65536 in
theorem w_c26 : (Jvm.Cond.code ({ cls := "java/lang/AbstractStringBuilder", name := "getValue", desc := "()[B" } : Jvm.MethodName) jdk_68_method_64_code (1 : Nat) (Option.some (Jvm.ClassFile.FieldType.array Jvm.ClassFile.FieldType.byte))).before args0 about1 = true := code_word (m := ⟨14, 6⟩) (meth := k14m6) (c := k14c6) (by decide +kernel) rfl rfl rfl (by decide +kernel)
set_option maxRecDepth 65536 in
theorem w_c27 : (Jvm.Cond.code ({ cls := "java/lang/StringBuilder", name := "length", desc := "()I" } : Jvm.MethodName) jdk_67_method_93_code (1 : Nat) (Option.some Jvm.ClassFile.FieldType.int)).before args0 about1 = true := code_word (m := ⟨15, 3⟩) (meth := k15m3) (c := k15c3) (by decide +kernel) rfl rfl rfl (by decide +kernel)
set_option maxRecDepth 65536 in
theorem w_c28 : (Jvm.Cond.code ({ cls := "java/lang/AbstractStringBuilder", name := "length", desc := "()I" } : Jvm.MethodName) jdk_68_method_6_code (1 : Nat) (Option.some Jvm.ClassFile.FieldType.int)).before args0 about1 = true := code_word (m := ⟨14, 2⟩) (meth := k14m2) (c := k14c2) (by decide +kernel) rfl rfl rfl (by decide +kernel)
set_option maxRecDepth 65536 in
theorem w_c29 : (Jvm.Cond.code ({ cls := "java/lang/AbstractStringBuilder", name := "isLatin1", desc := "()Z" } : Jvm.MethodName) jdk_68_method_68_code (1 : Nat) (Option.some Jvm.ClassFile.FieldType.boolean)).before args0 about1 = true := code_word (m := ⟨14, 7⟩) (meth := k14m7) (c := k14c7) (by decide +kernel) rfl rfl rfl (by decide +kernel)
set_option maxRecDepth 65536 in
theorem w_c30 : (Jvm.Cond.code ({ cls := "java/util/Arrays", name := "copyOfRange", desc := "([BII)[B" } : Jvm.MethodName) jdk_65_method_132_code (3 : Nat) (Option.some (Jvm.ClassFile.FieldType.array Jvm.ClassFile.FieldType.byte))).before args0 about1 = true := code_word (m := ⟨18, 3⟩) (meth := k18m3) (c := k18c3) (by decide +kernel) rfl rfl rfl (by decide +kernel)
set_option maxRecDepth 65536 in
theorem w_c31 : (Jvm.Cond.code ({ cls := "java/util/Arrays", name := "copyOfRangeByte", desc := "([BII)[B" } : Jvm.MethodName) jdk_65_method_133_code (5 : Nat) (Option.some (Jvm.ClassFile.FieldType.array Jvm.ClassFile.FieldType.byte))).before args0 about1 = true := code_word (m := ⟨18, 4⟩) (meth := k18m4) (c := k18c4) (by decide +kernel) rfl rfl rfl (by decide +kernel)
set_option maxRecDepth 65536 in
theorem w_c32 : (Jvm.Cond.code ({ cls := "java/util/Arrays", name := "checkLength", desc := "(II)V" } : Jvm.MethodName) jdk_65_method_131_code (2 : Nat) (Option.none : Option Jvm.ClassFile.FieldType)).before args0 about1 = true := code_word (m := ⟨18, 2⟩) (meth := k18m2) (c := k18c2) (by decide +kernel) rfl rfl rfl (by decide +kernel)
set_option maxRecDepth 65536 in
theorem w_c33 : (Jvm.Cond.code ({ cls := "com/example/shiken/shiken/ContextException", name := "forSetting", desc := "(Ljava/lang/String;Ljava/lang/String;Ljava/lang/String;)Lcom/example/shiken/shiken/ContextException;" } : Jvm.MethodName) prog_12_method_6_code (3 : Nat) (Option.some (Jvm.ClassFile.FieldType.object "com/example/shiken/shiken/ContextException"))).before args0 about1 = true := code_word (m := ⟨12, 2⟩) (meth := k12m2) (c := k12c2) (by decide +kernel) rfl rfl rfl (by decide +kernel)
set_option maxRecDepth 65536 in
theorem w_c34 : (Jvm.Cond.code ({ cls := "com/example/shiken/shiken/ContextException", name := "<init>", desc := "(Ljava/lang/String;)V" } : Jvm.MethodName) prog_12_method_1_code (2 : Nat) (Option.none : Option Jvm.ClassFile.FieldType)).before args0 about1 = true := code_word (m := ⟨12, 0⟩) (meth := k12m0) (c := k12c0) (by decide +kernel) rfl rfl rfl (by decide +kernel)
set_option maxRecDepth 65536 in
theorem w_c35 : (Jvm.Cond.code ({ cls := "java/lang/RuntimeException", name := "<init>", desc := "(Ljava/lang/String;)V" } : Jvm.MethodName) jdk_58_method_2_code (2 : Nat) (Option.none : Option Jvm.ClassFile.FieldType)).before args0 about1 = true := code_word (m := ⟨11, 1⟩) (meth := k11m1) (c := k11c1) (by decide +kernel) rfl rfl rfl (by decide +kernel)
set_option maxRecDepth 65536 in
theorem w_c36 : (Jvm.Cond.code ({ cls := "java/lang/Exception", name := "<init>", desc := "(Ljava/lang/String;)V" } : Jvm.MethodName) jdk_59_method_2_code (2 : Nat) (Option.none : Option Jvm.ClassFile.FieldType)).before args0 about1 = true := code_word (m := ⟨10, 1⟩) (meth := k10m1) (c := k10c1) (by decide +kernel) rfl rfl rfl (by decide +kernel)
set_option maxRecDepth 65536 in
theorem w_c37 : (Jvm.Cond.code ({ cls := "java/lang/Throwable", name := "<init>", desc := "(Ljava/lang/String;)V" } : Jvm.MethodName) jdk_78_method_2_code (2 : Nat) (Option.none : Option Jvm.ClassFile.FieldType)).before args0 about1 = true := code_word (m := ⟨9, 1⟩) (meth := k9m1) (c := k9c1) (by decide +kernel) rfl rfl rfl (by decide +kernel)
set_option maxRecDepth 65536 in
theorem w_c38 : (Jvm.Cond.code ({ cls := "java/lang/Throwable", name := "<init>", desc := "()V" } : Jvm.MethodName) jdk_78_method_1_code (1 : Nat) (Option.none : Option Jvm.ClassFile.FieldType)).before args0 about1 = true := code_word (m := ⟨9, 0⟩) (meth := k9m0) (c := k9c0) (by decide +kernel) rfl rfl rfl (by decide +kernel)
set_option maxRecDepth 65536 in
theorem w_c39 : (Jvm.Cond.code ({ cls := "java/lang/Throwable", name := "getMessage", desc := "()Ljava/lang/String;" } : Jvm.MethodName) jdk_78_method_6_code (1 : Nat) (Option.some (Jvm.ClassFile.FieldType.object "java/lang/String"))).before args0 about1 = true := code_word (m := ⟨9, 2⟩) (meth := k9m2) (c := k9c2) (by decide +kernel) rfl rfl rfl (by decide +kernel)
set_option maxRecDepth 65536 in
theorem w_c40 : (Jvm.Cond.code ({ cls := "java/lang/String", name := "equals", desc := "(Ljava/lang/Object;)Z" } : Jvm.MethodName) jdk_42_method_66_code (3 : Nat) (Option.some Jvm.ClassFile.FieldType.boolean)).before args0 about1 = true := code_word (m := ⟨7, 4⟩) (meth := k7m4) (c := k7c4) (by decide +kernel) rfl rfl rfl (by decide +kernel)
set_option maxRecDepth 65536 in
theorem w_c41 : (Jvm.Cond.code ({ cls := "java/lang/StringLatin1", name := "equals", desc := "([B[B)Z" } : Jvm.MethodName) jdk_43_method_13_code (3 : Nat) (Option.some Jvm.ClassFile.FieldType.boolean)).before args0 about1 = true := code_word (m := ⟨20, 1⟩) (meth := k20m1) (c := k20c1) (by decide +kernel) rfl rfl rfl (by decide +kernel)
def codes1 : List Jvm.Cond := [Jvm.Cond.code x code maxLocals ret, Jvm.Cond.code ({ cls := "java/lang/String", name := "<init>", desc := "([C)V" } : Jvm.MethodName) jdk_42_method_3_code (2 : Nat) (Option.none : Option Jvm.ClassFile.FieldType), Jvm.Cond.code ({ cls := "java/lang/String", name := "<init>", desc := "([CIILjava/lang/Void;)V" } : Jvm.MethodName) jdk_42_method_149_code (6 : Nat) (Option.none : Option Jvm.ClassFile.FieldType), Jvm.Cond.code ({ cls := "java/lang/Object", name := "<init>", desc := "()V" } : Jvm.MethodName) object_method_1_code (1 : Nat) (Option.none : Option Jvm.ClassFile.FieldType), Jvm.Cond.code ({ cls := "java/lang/StringUTF16", name := "compress", desc := "([CII)[B" } : Jvm.MethodName) jdk_52_method_16_code (6 : Nat) (Option.some (Jvm.ClassFile.FieldType.array Jvm.ClassFile.FieldType.byte)), Jvm.Cond.code ({ cls := "java/lang/StringUTF16", name := "compress", desc := "([CI[BII)I" } : Jvm.MethodName) jdk_52_method_21_code (7 : Nat) (Option.some Jvm.ClassFile.FieldType.int), Jvm.Cond.code ({ cls := "java/lang/StringUTF16", name := "coderFromArrayLen", desc := "([BI)B" } : Jvm.MethodName) jdk_52_method_15_code (2 : Nat) (Option.some Jvm.ClassFile.FieldType.byte), Jvm.Cond.code ({ cls := "com/example/shiken/shiken/ContextException", name := "forSystemProperty", desc := "(Ljava/lang/String;Ljava/lang/String;Ljava/lang/String;)Lcom/example/shiken/shiken/ContextException;" } : Jvm.MethodName) prog_12_method_5_code (3 : Nat) (Option.some (Jvm.ClassFile.FieldType.object "com/example/shiken/shiken/ContextException")), Jvm.Cond.code ({ cls := "java/lang/StringBuilder", name := "<init>", desc := "()V" } : Jvm.MethodName) jdk_67_method_1_code (1 : Nat) (Option.none : Option Jvm.ClassFile.FieldType), Jvm.Cond.code ({ cls := "java/lang/AbstractStringBuilder", name := "<init>", desc := "(I)V" } : Jvm.MethodName) jdk_68_method_2_code (2 : Nat) (Option.none : Option Jvm.ClassFile.FieldType), Jvm.Cond.code ({ cls := "java/lang/StringBuilder", name := "append", desc := "(Ljava/lang/String;)Ljava/lang/StringBuilder;" } : Jvm.MethodName) jdk_67_method_7_code (2 : Nat) (Option.some (Jvm.ClassFile.FieldType.object "java/lang/StringBuilder")), Jvm.Cond.code ({ cls := "java/lang/AbstractStringBuilder", name := "append", desc := "(Ljava/lang/String;)Ljava/lang/AbstractStringBuilder;" } : Jvm.MethodName) jdk_68_method_22_code (3 : Nat) (Option.some (Jvm.ClassFile.FieldType.object "java/lang/AbstractStringBuilder")), Jvm.Cond.code ({ cls := "java/lang/String", name := "length", desc := "()I" } : Jvm.MethodName) jdk_42_method_54_code (1 : Nat) (Option.some Jvm.ClassFile.FieldType.int), Jvm.Cond.code ({ cls := "java/lang/String", name := "coder", desc := "()B" } : Jvm.MethodName) jdk_42_method_152_code (1 : Nat) (Option.some Jvm.ClassFile.FieldType.byte), Jvm.Cond.code ({ cls := "java/lang/AbstractStringBuilder", name := "ensureCapacityInternal", desc := "(I)V" } : Jvm.MethodName) jdk_68_method_9_code (3 : Nat) (Option.none : Option Jvm.ClassFile.FieldType), Jvm.Cond.code ({ cls := "java/lang/AbstractStringBuilder", name := "newCapacity", desc := "(I)I" } : Jvm.MethodName) jdk_68_method_10_code (6 : Nat) (Option.some Jvm.ClassFile.FieldType.int), Jvm.Cond.code ({ cls := "jdk/internal/util/ArraysSupport", name := "newLength", desc := "(III)I" } : Jvm.MethodName) jdk_48_method_27_code (4 : Nat) (Option.some Jvm.ClassFile.FieldType.int), Jvm.Cond.code ({ cls := "java/lang/Math", name := "max", desc := "(II)I" } : Jvm.MethodName) jdk_29_method_65_code (2 : Nat) (Option.some Jvm.ClassFile.FieldType.int), Jvm.Cond.code ({ cls := "java/util/Arrays", name := "copyOf", desc := "([BI)[B" } : Jvm.MethodName) jdk_65_method_121_code (3 : Nat) (Option.some (Jvm.ClassFile.FieldType.array Jvm.ClassFile.FieldType.byte)), Jvm.Cond.code ({ cls := "java/lang/Math", name := "min", desc := "(II)I" } : Jvm.MethodName) jdk_29_method_69_code (2 : Nat) (Option.some Jvm.ClassFile.FieldType.int), Jvm.Cond.code ({ cls := "java/lang/AbstractStringBuilder", name := "putStringAt", desc := "(ILjava/lang/String;)V" } : Jvm.MethodName) jdk_68_method_73_code (3 : Nat) (Option.none : Option Jvm.ClassFile.FieldType), Jvm.Cond.code ({ cls := "java/lang/AbstractStringBuilder", name := "inflateIfNeededFor", desc := "(Ljava/lang/String;)V" } : Jvm.MethodName) jdk_68_method_71_code (2 : Nat) (Option.none : Option Jvm.ClassFile.FieldType), Jvm.Cond.code ({ cls := "java/lang/String", name := "getBytes", desc := "([BIB)V" } : Jvm.MethodName) jdk_42_method_147_code (4 : Nat) (Option.none : Option Jvm.ClassFile.FieldType), Jvm.Cond.code ({ cls := "java/lang/StringBuilder", name := "toString", desc := "()Ljava/lang/String;" } : Jvm.MethodName) jdk_67_method_42_code (1 : Nat) (Option.some (Jvm.ClassFile.FieldType.object "java/lang/String")), Jvm.Cond.code ({ cls := "java/lang/String", name := "<init>", desc := "(Ljava/lang/StringBuilder;)V" } : Jvm.MethodName) jdk_42_method_53_code (2 : Nat) (Option.none : Option Jvm.ClassFile.FieldType), Jvm.Cond.code ({ cls := "java/lang/String", name := "<init>", desc := "(Ljava/lang/AbstractStringBuilder;Ljava/lang/Void;)V" } : Jvm.MethodName) jdk_42_method_150_code (5 : Nat) (Option.none : Option Jvm.ClassFile.FieldType), Jvm.Cond.code ({ cls := "java/lang/AbstractStringBuilder", name := "getValue", desc := "()[B" } : Jvm.MethodName) jdk_68_method_64_code (1 : Nat) (Option.some (Jvm.ClassFile.FieldType.array Jvm.ClassFile.FieldType.byte)), Jvm.Cond.code ({ cls := "java/lang/StringBuilder", name := "length", desc := "()I" } : Jvm.MethodName) jdk_67_method_93_code (1 : Nat) (Option.some Jvm.ClassFile.FieldType.int), Jvm.Cond.code ({ cls := "java/lang/AbstractStringBuilder", name := "length", desc := "()I" } : Jvm.MethodName) jdk_68_method_6_code (1 : Nat) (Option.some Jvm.ClassFile.FieldType.int), Jvm.Cond.code ({ cls := "java/lang/AbstractStringBuilder", name := "isLatin1", desc := "()Z" } : Jvm.MethodName) jdk_68_method_68_code (1 : Nat) (Option.some Jvm.ClassFile.FieldType.boolean), Jvm.Cond.code ({ cls := "java/util/Arrays", name := "copyOfRange", desc := "([BII)[B" } : Jvm.MethodName) jdk_65_method_132_code (3 : Nat) (Option.some (Jvm.ClassFile.FieldType.array Jvm.ClassFile.FieldType.byte)), Jvm.Cond.code ({ cls := "java/util/Arrays", name := "copyOfRangeByte", desc := "([BII)[B" } : Jvm.MethodName) jdk_65_method_133_code (5 : Nat) (Option.some (Jvm.ClassFile.FieldType.array Jvm.ClassFile.FieldType.byte)), Jvm.Cond.code ({ cls := "java/util/Arrays", name := "checkLength", desc := "(II)V" } : Jvm.MethodName) jdk_65_method_131_code (2 : Nat) (Option.none : Option Jvm.ClassFile.FieldType), Jvm.Cond.code ({ cls := "com/example/shiken/shiken/ContextException", name := "forSetting", desc := "(Ljava/lang/String;Ljava/lang/String;Ljava/lang/String;)Lcom/example/shiken/shiken/ContextException;" } : Jvm.MethodName) prog_12_method_6_code (3 : Nat) (Option.some (Jvm.ClassFile.FieldType.object "com/example/shiken/shiken/ContextException")), Jvm.Cond.code ({ cls := "com/example/shiken/shiken/ContextException", name := "<init>", desc := "(Ljava/lang/String;)V" } : Jvm.MethodName) prog_12_method_1_code (2 : Nat) (Option.none : Option Jvm.ClassFile.FieldType), Jvm.Cond.code ({ cls := "java/lang/RuntimeException", name := "<init>", desc := "(Ljava/lang/String;)V" } : Jvm.MethodName) jdk_58_method_2_code (2 : Nat) (Option.none : Option Jvm.ClassFile.FieldType), Jvm.Cond.code ({ cls := "java/lang/Exception", name := "<init>", desc := "(Ljava/lang/String;)V" } : Jvm.MethodName) jdk_59_method_2_code (2 : Nat) (Option.none : Option Jvm.ClassFile.FieldType), Jvm.Cond.code ({ cls := "java/lang/Throwable", name := "<init>", desc := "(Ljava/lang/String;)V" } : Jvm.MethodName) jdk_78_method_2_code (2 : Nat) (Option.none : Option Jvm.ClassFile.FieldType), Jvm.Cond.code ({ cls := "java/lang/Throwable", name := "<init>", desc := "()V" } : Jvm.MethodName) jdk_78_method_1_code (1 : Nat) (Option.none : Option Jvm.ClassFile.FieldType), Jvm.Cond.code ({ cls := "java/lang/Throwable", name := "getMessage", desc := "()Ljava/lang/String;" } : Jvm.MethodName) jdk_78_method_6_code (1 : Nat) (Option.some (Jvm.ClassFile.FieldType.object "java/lang/String")), Jvm.Cond.code ({ cls := "java/lang/String", name := "equals", desc := "(Ljava/lang/Object;)Z" } : Jvm.MethodName) jdk_42_method_66_code (3 : Nat) (Option.some Jvm.ClassFile.FieldType.boolean), Jvm.Cond.code ({ cls := "java/lang/StringLatin1", name := "equals", desc := "([B[B)Z" } : Jvm.MethodName) jdk_43_method_13_code (3 : Nat) (Option.some Jvm.ClassFile.FieldType.boolean)]
set_option maxRecDepth 65536 in
theorem codes_eq : words1.filter isCode = codes1 := rfl
theorem w_codes : ∀ c ∈ words1.filter isCode, c.before args0 about1 = true := by
  rw [codes_eq]
  intro c hc
  simp only [codes1, List.mem_cons, List.not_mem_nil, or_false] at hc
  rcases hc with rfl | rfl | rfl | rfl | rfl | rfl | rfl | rfl | rfl | rfl | rfl | rfl | rfl | rfl | rfl | rfl | rfl | rfl | rfl | rfl | rfl | rfl | rfl | rfl | rfl | rfl | rfl | rfl | rfl | rfl | rfl | rfl | rfl | rfl | rfl | rfl | rfl | rfl | rfl | rfl | rfl | rfl
  · exact w_c0
  · exact w_c1
  · exact w_c2
  · exact w_c3
  · exact w_c4
  · exact w_c5
  · exact w_c6
  · exact w_c7
  · exact w_c8
  · exact w_c9
  · exact w_c10
  · exact w_c11
  · exact w_c12
  · exact w_c13
  · exact w_c14
  · exact w_c15
  · exact w_c16
  · exact w_c17
  · exact w_c18
  · exact w_c19
  · exact w_c20
  · exact w_c21
  · exact w_c22
  · exact w_c23
  · exact w_c24
  · exact w_c25
  · exact w_c26
  · exact w_c27
  · exact w_c28
  · exact w_c29
  · exact w_c30
  · exact w_c31
  · exact w_c32
  · exact w_c33
  · exact w_c34
  · exact w_c35
  · exact w_c36
  · exact w_c37
  · exact w_c38
  · exact w_c39
  · exact w_c40
  · exact w_c41
set_option maxRecDepth 65536 in
theorem w_t1 : (words1.take 24).all (fun c => isCode c || c.before args0 about1) = true := by decide +kernel
set_option maxRecDepth 65536 in
theorem w_t2 : ((words1.drop 24).take 24).all (fun c => isCode c || c.before args0 about1) = true := by decide +kernel
set_option maxRecDepth 65536 in
theorem w_t3 : (((words1.drop 24).drop 24).take 24).all (fun c => isCode c || c.before args0 about1) = true := by decide +kernel
set_option maxRecDepth 65536 in
theorem w_t4 : ((((words1.drop 24).drop 24).drop 24).take 24).all (fun c => isCode c || c.before args0 about1) = true := by decide +kernel
set_option maxRecDepth 65536 in
theorem w_t5 : (((((words1.drop 24).drop 24).drop 24).drop 24).take 24).all (fun c => isCode c || c.before args0 about1) = true := by decide +kernel
set_option maxRecDepth 65536 in
theorem w_t6 : ((((((words1.drop 24).drop 24).drop 24).drop 24).drop 24).take 24).all (fun c => isCode c || c.before args0 about1) = true := by decide +kernel
set_option maxRecDepth 65536 in
theorem w_t7 : (((((((words1.drop 24).drop 24).drop 24).drop 24).drop 24).drop 24).take 24).all (fun c => isCode c || c.before args0 about1) = true := by decide +kernel
set_option maxRecDepth 65536 in
theorem w_t8 : ((((((((words1.drop 24).drop 24).drop 24).drop 24).drop 24).drop 24).drop 24).take 24).all (fun c => isCode c || c.before args0 about1) = true := by decide +kernel
set_option maxRecDepth 65536 in
theorem w_t9 : (((((((((words1.drop 24).drop 24).drop 24).drop 24).drop 24).drop 24).drop 24).drop 24).take 24).all (fun c => isCode c || c.before args0 about1) = true := by decide +kernel
set_option maxRecDepth 65536 in
theorem w_t10 : ((((((((((words1.drop 24).drop 24).drop 24).drop 24).drop 24).drop 24).drop 24).drop 24).drop 24).take 24).all (fun c => isCode c || c.before args0 about1) = true := by decide +kernel
set_option maxRecDepth 65536 in
theorem w_t11 : ((((((((((words1.drop 24).drop 24).drop 24).drop 24).drop 24).drop 24).drop 24).drop 24).drop 24).drop 24).all (fun c => isCode c || c.before args0 about1) = true := by decide +kernel
theorem w_tables : (allAtoms (Jvm.Cond.code x code maxLocals ret :: tables_1)).before args0 about1 = true := by
  rw [allAtoms_all]
  show words1.all (fun c => c.before args0 about1) = true
  refine all_split ?_ w_codes
  rw [← List.take_append_drop 24 words1, List.all_append, w_t1, ← List.take_append_drop 24 (words1.drop 24), List.all_append, w_t2, ← List.take_append_drop 24 ((words1.drop 24).drop 24), List.all_append, w_t3, ← List.take_append_drop 24 (((words1.drop 24).drop 24).drop 24), List.all_append, w_t4, ← List.take_append_drop 24 ((((words1.drop 24).drop 24).drop 24).drop 24), List.all_append, w_t5, ← List.take_append_drop 24 (((((words1.drop 24).drop 24).drop 24).drop 24).drop 24), List.all_append, w_t6, ← List.take_append_drop 24 ((((((words1.drop 24).drop 24).drop 24).drop 24).drop 24).drop 24), List.all_append, w_t7, ← List.take_append_drop 24 (((((((words1.drop 24).drop 24).drop 24).drop 24).drop 24).drop 24).drop 24), List.all_append, w_t8, ← List.take_append_drop 24 ((((((((words1.drop 24).drop 24).drop 24).drop 24).drop 24).drop 24).drop 24).drop 24), List.all_append, w_t9, ← List.take_append_drop 24 (((((((((words1.drop 24).drop 24).drop 24).drop 24).drop 24).drop 24).drop 24).drop 24).drop 24), List.all_append, w_t10, w_t11]
  rfl
set_option maxRecDepth 65536 in
theorem w_rest : rest_1_c.before args0 about1 = true := by decide +kernel
set_option maxRecDepth 65536 in
theorem w_case : (Jvm.Cond.and given_1 narrow_1).before args0 about1 = true := by decide +kernel
set_option maxRecDepth 65536 in
theorem w_consts : constsHeld consts_1 about1 := Jvm.Lit.constsHeldB_iff.mp (by decide +kernel)
theorem w_applies : (headSpec (Jvm.Cond.code x code maxLocals ret :: tables_1) room_1).applies x e0.platform about1 = true :=
  (Spec.applies_iff w_frames).mpr ⟨w_running, w_runnable, w_alone, w_named, w_hears, w_ripe, w_room, w_tables⟩
theorem atStart : AtStart classFile x code maxLocals ret World_1 tables_1 room_1 Calls_1 rest_1 Pre_1 launch0 p0 e0 about1 theMethod args0 below0 :=
  ⟨lists_1, trivial, launch0.admits_env _ _ _, launch0.least_env, fairChoices_fair.cas, fairChoices_fair.clock, w_frames, w_args, w_heap, w_applies, ⟨(by decide +kernel : framesKnown about1 = true), ⟨(by decide +kernel : tablesKnown about1 = true), ⟨w_consts, trivial⟩⟩⟩, w_rest, w_case⟩
end start1
theorem witness_1 : WitnessClaimed_1 := ⟨start1.p0, start1.e0, start1.about1, start1.theMethod, start1.args0, start1.below0, start1.atStart⟩
end Jvm.Pilot.@@N@@
