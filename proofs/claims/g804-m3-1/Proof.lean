import JvmDerived
import JvmDerived.Pilot.@@N@@Statement
import JvmDerived.Pilot.@@N@@Code
set_option linter.unusedVariables false
set_option linter.unusedSimpArgs false
@@BLOCK:TracedD.lean.txt@@
namespace Jvm.Pilot.@@N@@
open Jvm Jvm.ClassFile Sem Op Lib Jvm.Free Jvm.Stand Jvm.LawKit Jvm.RoadKit Bundle Jvm.Free.XT Jvm.Pilot.@@N@@.Jvm.D
theorem own_n0 {Z : State} {n0 : Nat} {h : Heap} (X : Old Z n0 h) : n0 ≤ h.size := X.1 ▸ X.2.1
theorem own_lt {a m n : Nat} (h : a < m) (k : m ≤ n) : a < n := Nat.lt_of_lt_of_le h k
theorem own_since0 (s : State) (n : Nat) : s.Since s.vm n := ⟨State.Warmed39.refl s, fun j p hj hp => absurd (Array.getElem?_eq_some_iff.mp hp).1 (Nat.not_lt.mpr hj)⟩
theorem own_narR {v : Value} {t : FieldType} (h : v.isRef = true) : narrow t v = v := by rcases ref_cases h with rfl | ⟨a, rfl⟩ <;> cases t <;> rfl
theorem own_fitR {v : Value} {t : FieldType} (h : v.isRef = true) (ht : t.isReference = true := by rfl) : fits t v = true := by rcases ref_cases h with rfl | ⟨a, rfl⟩ <;> cases t <;> first | rfl | cases ht
theorem own_priv {s : State} {args : Array Value} {y : MethodName} (h : (Jvm.Cond.privateMethod y).before args s = true) : s.PrivateAt y := Cond.privateMethod_at h
abbrev own_CP (l : Launch) (Z : State) (y : MethodName) (bytes : ByteArray) (ml : Nat) (ret : Option FieldType) (ws : List Jvm.Cond) (R : Room) (as' : Array Value) (h0 : Heap) (Q : Option Value → Heap → List Loc → Prop) : Prop :=
  MetFree l y (head1 (Jvm.Cond.code y bytes ml ret :: ws) R) (fun a U => a = as' ∧ Z.Warmed39 U.vm ∧ U.heap = h0) (fun _ _ _ _ _ => True) (fun _ U o U' => ∃ v L, o = .returned v ∧ Q v U'.heap L ∧ FrameEnd U o U' L R.cells R.slots)
theorem own_P {l : Launch} {Z : State} {y : MethodName} {bytes : ByteArray} {ml : Nat} {ret : Option FieldType} {ws : List Jvm.Cond} {R : Room} {as' : Array Value} {h0 : Heap} {Q : Option Value → Heap → List Loc → Prop} (hpl : plainFor y = true)
    (H : ∀ (p : Program) (e : Env) (s : State) (m : MethodId) (below : List Frame) (meth : Method) (c : ClassFile.Code) (s₁ S0 : State), BodyLoose p l y (head1 (Jvm.Cond.code y bytes ml ret :: ws) R) bytes ml ret e s m as' below meth c s₁ → Z.Warmed39 s.vm → s.heap = h0 → p.tables.exec = Jvm.exec → c.code = bytes → c.maxLocals = ml → s.vm.findClass y.cls = some m.cls → meth.name = y.name →
      Stand p l e R s m as' below meth c s₁ [] 0 0 → s₁.heap = h0 → S0 = s₁.setTop (entryFrame m as' ml) → ∃ s₂ o, Steps p.tables e below S0 s₂ ∧ s₂.status = .running ∧ Ended s₂ below o ∧ ∃ v L, o = .returned v ∧ Q v s₂.heap L ∧ FrameEnd s o s₂ L R.cells R.slots) : own_CP l Z y bytes ml ret ws R as' h0 Q := by
  refine MetFree.of_bodySF hpl hisR ?_
  intro p e s m args below meth c s₁ Bd hml hP hK
  obtain ⟨rfl, hZ, hh⟩ := hP
  exact H p e s m below meth c s₁ _ Bd hZ hh Bd.exec Bd.bytes hml (findClass_of_methodNamed Bd.named) (name_of_methodNamed Bd.named Bd.method).1 (Stand.of_body Bd) (by rw [← hh, Bd.state]; rfl) rfl
theorem own_EL {Z : State} {a0 : Array Value} (hw : ∀ d ∈ tables_1, d.before a0 Z = true) : EW Z a0 consts_1 := EW.cons (hw _ (List.mem_of_getElem? (i := 18) rfl)) (by decide) EW.nil
theorem own_SA {Z : State} {a0 : Array Value} (hw : ∀ d ∈ tables_1, d.before a0 Z = true) : ∀ d ∈ Bundle.stringAtoms, d.before a0 Z = true := fun d hd => hw d ((by decide +kernel : ∀ d ∈ Bundle.stringAtoms, d ∈ tables_1) d hd)
theorem own_safe_null {Z : State} {EL : List (String × Nat)} {vm : Vm} {h : Heap} {x : Addr} (hal : Z.vm.Alike vm) (E : Exa Z h x "java/lang/String") (F : Fld Z h x "java/lang/String" "value" "[B" .null) : Safe Z EL vm h x := by
  rintro ⟨p, hp, u, a, B, q, hqa, ⟨cS, ⟨S1, S2, S3⟩, -, hcl, hsb⟩, hy⟩
  rcases hy with hy | hy
  · subst hy
    obtain ⟨cell, cf, k, i, f, h1, h2, h3, h4, h5, h6, h7⟩ := F
    obtain ⟨k', h2', -⟩ := State.fieldFound?_setVm (s := Z) hal h2
    obtain ⟨c2, k2, i2, g1, -⟩ := S1.ffV
    have e1 : cell = q.sC := Option.some.inj (h1.symm.trans S1.ha)
    have e2 : (Z.setVm vm).fieldFound? "java/lang/String" "value" "[B" = some (c2, k2, i2, q.fSV) := g1
    have e3 := Option.some.inj (h2'.symm.trans e2)
    have e4 : f = q.fSV := congrArg (fun z => z.2.2.2) e3
    have e5 : q.sC.slots[q.fSV.slot]? = some (.ref q.sd) := S1.2.2.2.2.2.2.2.1
    rw [e1, e4, e5] at h7
    cases h7
  · subst hy
    obtain ⟨c1, k1, h1, h2, -⟩ := E
    have e1 : c1 = q.SA := Option.some.inj (h1.symm.trans S1.2.2.2.2.2.2.2.2.2.1)
    have h2' : vm.findClass "java/lang/String" = some c1.cls := by rw [hal.findClass]; exact h2
    have hcl' : vm.findClass "[B" = some q.SA.cls := hcl
    rw [e1] at h2'
    obtain ⟨k3, a1, a2⟩ := Vm.findClass_spec h2'
    obtain ⟨k4, b1, b2⟩ := Vm.findClass_spec hcl'
    cases a1.symm.trans b1
    exact absurd (a2.symm.trans b2) (by decide)
abbrev own_CH (l : Launch) (Z : State) (y : MethodName) (bytes : ByteArray) (ml : Nat) (ret : Option FieldType) (ws : List Jvm.Cond) (R : Room) (as' : Array Value) (h0 : Heap) (Q : Option Value → Heap → List Loc → Prop) : Prop :=
  MetFree l y (head1 (Jvm.Cond.code y bytes ml ret :: ws) R) (fun a U => a = as' ∧ Z.Warmed39 U.vm ∧ U.heap = h0 ∧ CHv Z consts_1 U.vm h0) (fun _ _ _ _ _ => True) (fun _ U o U' => ∃ v L, o = .returned v ∧ Q v U'.heap L ∧ CHr Z consts_1 U.vm U.heap U'.vm U'.heap ∧ ReturnedEndW U o U' L R.cells R.slots)
abbrev own_CK (l : Launch) (Z : State) (y : MethodName) (bytes : ByteArray) (ml : Nat) (ret : Option FieldType) (ws : List Jvm.Cond) (R : Room) (as' : Array Value) (h0 : Heap) (Q : Option Value → Heap → List Loc → Prop) : Prop :=
  MetFree l y (head1 (Jvm.Cond.code y bytes ml ret :: ws) R) (fun a U => a = as' ∧ Z.Warmed39 U.vm ∧ U.heap = h0 ∧ CHv Z consts_1 U.vm h0) (fun _ _ bl s _ => s.vm.MethodsKnown ∧ s.vm.FramesKnown bl) (fun _ U o U' => ∃ v L, o = .returned v ∧ Q v U'.heap L ∧ CHr Z consts_1 U.vm U.heap U'.vm U'.heap ∧ ReturnedEndW U o U' L R.cells R.slots)
theorem own_H {l : Launch} {Z : State} {y : MethodName} {bytes : ByteArray} {ml : Nat} {ret : Option FieldType} {ws : List Jvm.Cond} {R : Room} {as' : Array Value} {h0 : Heap} {Q : Option Value → Heap → List Loc → Prop} (hpl : plainFor y = true)
    (H : ∀ (p : Program) (e : Env) (s : State) (m : MethodId) (below : List Frame) (meth : Method) (c : ClassFile.Code) (s₁ S0 : State), BodyLoose p l y (head1 (Jvm.Cond.code y bytes ml ret :: ws) R) bytes ml ret e s m as' below meth c s₁ → Z.Warmed39 (s.setVm s.vm).vm → s.heap = h0 → CHv Z consts_1 s.vm h0 → s.Since s.vm h0.size → CHr Z consts_1 s.vm h0 s.vm h0 → p.tables.exec = Jvm.exec → c.code = bytes → c.maxLocals = ml → (s.setVm s.vm).vm.findClass y.cls = some m.cls → meth.name = y.name →
      Stand p l e R (s.setVm s.vm) m as' below meth c s₁ [] 0 0 → s₁.heap = h0 → S0 = s₁.setTop (entryFrame m as' ml) → ∃ s₂ o, Steps p.tables e below S0 s₂ ∧ s₂.status = .running ∧ Ended s₂ below o ∧ ∃ v L, o = .returned v ∧ Q v s₂.heap L ∧ CHr Z consts_1 s.vm s.heap s₂.vm s₂.heap ∧ ReturnedEndW s o s₂ L R.cells R.slots) : own_CH l Z y bytes ml ret ws R as' h0 Q := by
  refine MetFree.of_bodySF hpl hisR ?_
  intro p e s m args below meth c s₁ Bd hml hP hK
  obtain ⟨rfl, hZ, hh, CH0⟩ := hP
  exact H p e s m below meth c s₁ _ Bd hZ hh CH0 (own_since0 s _) (CHr.refl CH0) Bd.exec Bd.bytes hml (findClass_of_methodNamed Bd.named) (name_of_methodNamed Bd.named Bd.method).1 (Stand.of_body Bd) (by rw [← hh, Bd.state]; rfl) rfl
theorem own_K {l : Launch} {Z : State} {y : MethodName} {bytes : ByteArray} {ml : Nat} {ret : Option FieldType} {ws : List Jvm.Cond} {R : Room} {as' : Array Value} {h0 : Heap} {Q : Option Value → Heap → List Loc → Prop} (hpl : plainFor y = true)
    (H : ∀ (p : Program) (e : Env) (s : State) (m : MethodId) (below : List Frame) (meth : Method) (c : ClassFile.Code) (s₁ S0 : State), BodyLoose p l y (head1 (Jvm.Cond.code y bytes ml ret :: ws) R) bytes ml ret e s m as' below meth c s₁ → Z.Warmed39 (s.setVm s.vm).vm → s.heap = h0 → CHv Z consts_1 s.vm h0 → s.Since s.vm h0.size → CHr Z consts_1 s.vm h0 s.vm h0 → s.vm.MethodsKnown → s.vm.FramesKnown below → p.tables.exec = Jvm.exec → c.code = bytes → c.maxLocals = ml → (s.setVm s.vm).vm.findClass y.cls = some m.cls → meth.name = y.name →
      Stand p l e R (s.setVm s.vm) m as' below meth c s₁ [] 0 0 → s₁.heap = h0 → S0 = s₁.setTop (entryFrame m as' ml) → ∃ s₂ o, Steps p.tables e below S0 s₂ ∧ s₂.status = .running ∧ Ended s₂ below o ∧ ∃ v L, o = .returned v ∧ Q v s₂.heap L ∧ CHr Z consts_1 s.vm s.heap s₂.vm s₂.heap ∧ ReturnedEndW s o s₂ L R.cells R.slots) : own_CK l Z y bytes ml ret ws R as' h0 Q := by
  refine MetFree.of_bodySF hpl hisR ?_
  intro p e s m args below meth c s₁ Bd hml hP hK
  obtain ⟨rfl, hZ, hh, CH0⟩ := hP
  exact H p e s m below meth c s₁ _ Bd hZ hh CH0 (own_since0 s _) (CHr.refl CH0) hK.1 hK.2 Bd.exec Bd.bytes hml (findClass_of_methodNamed Bd.named) (name_of_methodNamed Bd.named Bd.method).1 (Stand.of_body Bd) (by rw [← hh, Bd.state]; rfl) rfl
def own_cb (x : Int32) : Int32 := (x &&& (255 : Int32)).toUInt32.toUInt16.toUInt32.toInt32
theorem own_cb_eq (x : Int32) : own_cb x = x &&& 255 := i2c_mask x
theorem own_cb_nar {x : Int32} : nar .char (own_cb x) = own_cb x := by
  rw [own_cb_eq]; exact i2c_mask x
theorem own_cb_hi (x : Int32) : ¬ ((255 : Int32) < own_cb x) := by
  rw [own_cb_eq, Int32.lt_iff_toInt_lt]
  have h := (c_and x 255 (by decide)).2
  omega
def own_lo8 (x : Int32) : Int32 := nar .byte (x.toInt8.toInt32)
def own_ex (rc : String) : List Cond := (Jvm.Free.Exc.excAtoms rc).eraseIdx 18
theorem own_ex_ok {rc : String} : (own_ex rc).all xOk = true := rfl
theorem own_links {s : State} {args : Array Value} {rc : String} {pl : Platform} (howns : pl.frameOwnsMonitors = true) (hfin : pl.finalization = false) (hpl : pl.magicAccessors = ({} : Platform).magicAccessors)
    {cX : ClassId} {kX : Class} (hcX : s.vm.findClass rc = some cX) (hkX : s.vm.classes[cX]? = some kX) (a : ∀ d ∈ own_ex rc, d.holds args s none s [] = true) :
    ∃ T : ThrowableC, T.Links pl s ∧ s.vm.findClass tN = some T.cT ∧ s.methodNamed? tFill = some T.fill ∧ s.methodNamed? tFill0 = some T.fill0 ∧ s.fieldFound? tN "stackTrace" steD = some (T.cT, T.kT, T.i17, T.fStack) ∧
      s.fieldFound? tN "UNASSIGNED_STACK" steD = some (T.cT, T.kT, T.i13, T.fUnassigned) ∧ T.fStack.name = "stackTrace" ∧ T.fStack.type = .array (.object "java/lang/StackTraceElement") ∧ ∃ cell, s.heap[T.aS]? = some cell ∧ cell.vm.isStatics = true := by
  obtain ⟨⟨c, i0⟩, m0, hn0, hm0, hnat0, hcode0, hlk0, hsig0⟩ := Cond.native_spec (a (.native tFill0) (List.mem_of_getElem? (i := 5) rfl))
  have hc : s.vm.findClass tN = some c := findClass_of_methodNamed hn0
  obtain ⟨k, hk, hname⟩ := Vm.findClass_spec hc
  obtain ⟨_, k1, _, _, hk1, _, _, -, _, hni⟩ := Cond.superclass_spec hc (a (.superclass tN "java/lang/Object") (List.mem_of_getElem? (i := 1) rfl))
  cases Option.some.inj (hk.symm.trans hk1)
  obtain ⟨iF, mF, hnF, hmF, hatF, hstF, habF, -, -⟩ := Cond.ownMethod (x := tFill) hc hk (a (.instanceMethod tFill) (List.mem_of_getElem? (i := 2) rfl))
  obtain ⟨mF', cF, hmF', hcF, hbF, hlF, hrF, hlkF, -, hsigF⟩ := Cond.codeSync_spec hnF (a (.codeSync tFill LibCode.Throwable.Fill.code 1 (some (.object tN))) (List.mem_of_getElem? (i := 3) rfl))
  cases Option.some.inj (hmF.symm.trans hmF')
  obtain ⟨i0', m0', hn0', hm0', hat0, hst0, hab0, hnm0, hds0⟩ := Cond.ownMethod (x := tFill0) hc hk (a (.instanceMethod tFill0) (List.mem_of_getElem? (i := 4) rfl))
  cases Option.some.inj (hn0.symm.trans hn0')
  cases Option.some.inj (hm0.symm.trans hm0')
  obtain ⟨mO, methO, hnO, hmO, hstO, habO⟩ := Cond.instanceMethod_spec (a (.instanceMethod oInit) (List.mem_of_getElem? (i := 8) rfl))
  obtain ⟨methO', cO, hmO', hcO, hbO, hlO, -, hlkO, -, hsigO⟩ := Cond.code_spec hnO (a (.code oInit ⟨#[0xb1]⟩ 1 none) (List.mem_of_getElem? (i := 9) rfl))
  cases Option.some.inj (hmO.symm.trans hmO')
  obtain ⟨kO, hkO, hnameO⟩ := Vm.findClass_spec (findClass_of_methodNamed hnO)
  obtain ⟨hnmO, hdsO⟩ := name_of_methodNamed hnO hmO
  obtain ⟨ci1, n1, cf, hl1, hr1, hcf, hp1⟩ := Cond.linkedMethod hc hk hnO (a (.methodLink tN 1 oInit) (List.mem_of_getElem? (i := 10) rfl)) pl hpl
  obtain ⟨ci27, n27, cf2, hl27, hr27, hcf2, hp27⟩ := Cond.linkedMethod hc hk hnF (a (.methodLink tN 27 tFill) (List.mem_of_getElem? (i := 11) rfl)) pl hpl
  cases Option.some.inj (hcf.symm.trans hcf2)
  obtain ⟨ci202, n202, cf3, hl202, hr202, hcf3, hp202⟩ := Cond.linkedMethod hc hk hn0 (a (.methodLink tN 202 tFill0) (List.mem_of_getElem? (i := 12) rfl)) pl hpl
  cases Option.some.inj (hcf.symm.trans hcf3)
  obtain ⟨ci7, i7, f7, hk7, hg7, ha7, hs7, hf7, hn7, ht7, hff7⟩ := Cond.ownField (t := .object tN) hc hk (by decide +kernel) (a (.fieldLink tN 7 tN "cause" "Ljava/lang/Throwable;") (List.mem_of_getElem? (i := 13) rfl)) (a (.lays tN tN "cause" "Ljava/lang/Throwable;") (List.mem_of_getElem? (i := 14) rfl)) pl hpl
  obtain ⟨ci17, i17, f17, hk17, hg17, ha17, hs17, hf17, hn17, ht17, hff17⟩ := Cond.ownField (t := .array (.object "java/lang/StackTraceElement")) hc hk (by decide +kernel) (a (.fieldLink tN 17 tN "stackTrace" steD) (List.mem_of_getElem? (i := 15) rfl)) (a (.lays tN tN "stackTrace" steD) (List.mem_of_getElem? (i := 16) rfl)) pl hpl
  have wP := a (.lays rc tN "suppressedExceptions" listD) (List.mem_of_getElem? (i := 28) rfl)
  obtain ⟨ci24, i24, f24, hk24, hg24, ha24, hs24, hf24, hn24, ht24, hff24⟩ := Cond.ownField (t := .object "java/util/List") hc hk (by decide +kernel) (a (.fieldLink tN 24 tN "suppressedExceptions" listD) (List.mem_of_getElem? (i := 17) rfl)) wP pl hpl
  obtain ⟨ci13, i13, f13, aS, cellS, hk13, hg13, ha13, hs13, -, -, hsta, hcellS, hissS, -, -, hff13⟩ := Cond.ownStatic (t := .array (.object "java/lang/StackTraceElement")) hc hk (by decide +kernel) (a (.fieldLink tN 13 tN "UNASSIGNED_STACK" steD) (List.mem_of_getElem? (i := 18) rfl)) (a (.laysStatic tN "UNASSIGNED_STACK" steD) (List.mem_of_getElem? (i := 19) rfl)) pl hpl
  obtain ⟨ci20, i20, f20, _, _, hk20, hg20, ha20, hs20, -, -, -, -, -, -, -, hff20⟩ := Cond.ownStatic (t := .object "java/util/List") hc hk (by decide +kernel) (a (.fieldLink tN 20 tN "SUPPRESSED_SENTINEL" listD) (List.mem_of_getElem? (i := 20) rfl)) (a (.laysStatic tN "SUPPRESSED_SENTINEL" listD) (List.mem_of_getElem? (i := 21) rfl)) pl hpl
  obtain ⟨_, _, cM, kM, iM, fM, _, _, hffM, hsM, hfM, _⟩ := Cond.lays_spec (a (.lays tN tN "detailMessage" "Ljava/lang/String;") (List.mem_of_getElem? (i := 22) rfl))
  obtain ⟨-, dS, hdS, hdnS⟩ := Cond.laysAt hcX hkX hff17 (a (.lays rc tN "stackTrace" steD) (List.mem_of_getElem? (i := 27) rfl))
  obtain ⟨-, dP, hdP, hdnP⟩ := Cond.laysAt hcX hkX hff24 wP
  have pF : mF.sig.parameters = [] := by
    have q : (parseMethodDescriptor tFill.desc).map (·.parameters) = some [] := by decide +kernel
    rw [hsigF] at q; simpa using q
  have p0 : m0.sig.parameters = [.int] := by
    have q : (parseMethodDescriptor tFill0.desc).map (·.parameters) = some [.int] := by decide +kernel
    rw [hsig0] at q; simpa using q
  have pO : methO.sig.parameters.length = 0 := by
    have q : (parseMethodDescriptor oInit.desc).map (·.parameters) = some [] := by decide +kernel
    rw [hsigO] at q
    have r : methO.sig.parameters = [] := by simpa using q
    rw [r]; rfl
  refine ⟨{ cT := c, kT := k, cO := c, aS := aS, fillIdx := iF, fill0Idx := i0, initSIdx := iF, obj := mO, kObj := kO, methFill := mF, methFill0 := m0, methInitS := mF, methObj := methO, codeFill := cF, codeInitS := cF, codeObj := cO,
              fBack := f7, fDepth := f7, fStack := f17, fCause := f7, fSupp := f24, fMsg := fM, fUnassigned := f13, fSentinel := f20, cfT := cf, ci1 := ci1, n1 := n1, ci27 := ci27, n27 := n27, ci202 := ci202, n202 := n202,
              ci7 := ci7, i7 := i7, ci13 := ci13, i13 := i13, ci17 := ci17, i17 := i17, ci20 := ci20, i20 := i20, ci24 := ci24, i24 := i24 }, ?_, hc, hnF, hn0, hff17, hff13, hn17, ht17, cellS, hcellS, hissS⟩
  exact { owns := howns, noFinalization := hfin, cls := hk, name := hname, boot := Vm.findClass_boot hc hk, notInterface := hni, initialized := Cond.initialized_spec hc hk (a (.initialized tN) (List.mem_of_getElem? (i := 0) rfl)), statics := hsta,
          fillAt := hatF, fillCode := hcF, fillBytes := hbF, fillLocals := hlF, fillLocks := hlkF, fillStatic := hstF, fillAbstract := habF, fillReturns := hrF, fillParams := pF,
          fill0At := hat0, fill0Name := hnm0, fill0Desc := hds0, fill0Params := p0, fill0Static := hst0, fill0Native := hnat0, fill0Code := hcode0, fill0Locks := hlk0, fill0Abstract := hab0,
          stackInstance := hs17, stackNotFinal := hf17, unassignedStatic := hs13,
          objClass := hkO, objClassName := hnameO, objMethod := hmO, objName := hnmO, objStatic := hstO, objAbstract := habO, objFound := by rw [hdsO]; exact lookupSpecial_of_named hnO hmO hstO, objParams := pO,
          objCode := hcO, objBytes := hbO, objLocks := hlkO, causeInstance := hs7, causeNotFinal := hf7, sentinelStatic := hs20, suppInstance := hs24, suppNotFinal := hf24, msgInstance := hsM, msgNotFinal := hfM, stackApartSupp := Cond.laysApart hdS hdP hdnS hdnP (by rw [hn17, hn24]; decide),
          file := hcf, mlink1 := hl1, mright1 := hr1, pool1 := hp1, mlink27 := hl27, mright27 := hr27, pool27 := hp27, mlink202 := hl202, mright202 := hr202, pool202 := hp202,
          link7 := hk7, right7 := hg7, at7 := ha7, link13 := hk13, right13 := hg13, at13 := ha13, link17 := hk17, right17 := hg17, at17 := ha17, link20 := hk20, right20 := hg20, at20 := ha20, link24 := hk24, right24 := hg24, at24 := ha24 }
open Jvm.Free.Exc in
set_option maxHeartbeats 4000000 in
theorem own_fillL {Z : State} {a0 : Array Value} {p : Program} {l : Launch} {e : Env} {R : Room} {s : State} {m : MethodId} {args : Array Value} {below : List Frame} {meth : Method} {c : Code} {T : State} {locs : List Loc} {cells slots : Nat}
    (X : Stand p l e R s m args below meth c T locs cells slots) (hx : p.tables.exec = Jvm.exec) (hl : l.stackTraces = true) (hZ : Z.Warmed39 s.vm) {rc : String} {n : Nat} (hown : s.vm.findClass tN = some m.cls) (w : ∀ d ∈ own_ex rc, d.before a0 Z = true) (wi : (Cond.instantiable rc n).before a0 Z = true)
    (hT0 : ThS Z s.heap) (hTK : s.vm.MethodsKnown) (hBelow : s.vm.FramesKnown below) {h : Heap} (eT : T.heap = h) {a : Addr} (hsz : h.size = s.heap.size) (hlocs : ∀ x ∈ locs, x.base = a) (E : Exa Z h a rc) (N : Unt h a)
    {u : Value} (hu : u.isRef = true) (FS : Fld Z h a tN "stackTrace" steD u) (SU : Sta Z h tN "UNASSIGNED_STACK" steD u) (B : Fld Z h a tN "backtrace" obD .null)
    {g : JFrame} (hg : g.method = m) (hsize : g.locals.size = c.maxLocals) {rest : List Value} (hs : g.stack = .ref a :: rest) (hd : decode c.code g.pc = .ok (.invokevirtual 27, 3))
    (hf : 3 ≤ R.frames) (hlo : 2 * g.monitorRoom + (rest.map fun v => v.category).sum + 42 ≤ R.locals) (hc : cells + 1 ≤ R.cells) (hsl : slots + 2752 ≤ R.slots) :
    ∃ (T' : State) (h' : Heap) (v : Value), Stand p l e R s m args below meth c T' (locs ++ sixLocs Z a) (cells + 1) (slots + 2752) ∧ T'.heap = h' ∧ Kp Z h h' a ∧ Exa Z h' a rc ∧ Unt h' a ∧ Fld Z h' a tN "detailMessage" msgD v ∧
      ∀ target, Steps p.tables e below (T'.setTop { g with pc := g.pc + 3, stack := .ref a :: rest }) target → Steps p.tables e below (T.setTop g) target := by
  subst eT
  have a' : ∀ d ∈ own_ex rc, d.before args s = true := fun d hd => mvX hT0 hZ (List.all_eq_true.mp own_ex_ok d hd) (w d hd)
  have htr : e.platform.stackTraces = true := by rw [X.admits.platform]; exact hl
  have howns : e.platform.frameOwnsMonitors = true := by rw [X.admits.platform]
  have hfin : e.platform.finalization = false := by rw [X.admits.platform]
  have hpl : e.platform.magicAccessors = ({} : Platform).magicAccessors := by rw [X.admits.platform]
  obtain ⟨cell, kc, e1, e2, e3, e4, e5⟩ := id E
  obtain ⟨c2, u1, u2, u3⟩ := id N
  cases e1.symm.trans u1
  have hcX : s.vm.findClass rc = some cell.cls := by rw [hZ.alike.findClass]; exact e2
  obtain ⟨kX, hkX, heX⟩ := hZ.alike.2.2 _ _ e3
  obtain ⟨c4, k2, i1, i2, i3, -⟩ := Cond.instantiable_spec wi
  cases e2.symm.trans i1
  cases e3.symm.trans i2
  have hord : kX.kind = .ordinary := by rw [heX]; exact i3
  have hszX : cell.slots.size = kX.instanceTypes.size := by rw [heX]; exact e5 i3
  obtain ⟨T0, L, hcT, hnF, hn0, hffS, hffU, hnS, htS, cellS0, hcS0, hiss⟩ := own_links howns hfin hpl hcX hkX (fun d hd => a' d hd)
  obtain ⟨c3, cf, kf, i, f, b1, b2, -, -, -, -, hvS⟩ := FS
  cases e1.symm.trans b1
  obtain ⟨kf', hi', -⟩ := State.fieldFound?_setVm hZ.alike b2
  cases (show s.fieldFound? tN "stackTrace" steD = some _ from hi').symm.trans hffS
  obtain ⟨cf2, j2, kf2, f2, st, cS, g1, -, -, g4, g5, g6, g7⟩ := SU
  obtain ⟨kf2', hi2', he2⟩ := State.fieldFound?_setVm hZ.alike g1
  have g4' : kf2'.statics = some st := by rw [he2]; exact g4
  cases (show s.fieldFound? tN "UNASSIGNED_STACK" steD = some _ from hi2').symm.trans hffU
  cases g4'.symm.trans L.statics
  have hneS : T0.aS ≠ a := fun q => by
    rw [q, e1] at g5
    rw [← Option.some.inj g5, u2] at g6
    cases g6
  have hsel0 : selectMethod e.platform s.vm cell.cls T0.fill0 = .method T0.fill0 := by
    obtain ⟨c5, r5, m5, q1, q2, q3, q4, -⟩ := Cond.selects_spec (a' (.selects rc tFill0 tFill0) (List.mem_of_getElem? (i := 24) rfl))
    cases Option.some.inj (q1.symm.trans hcX)
    cases Option.some.inj (q2.symm.trans (State.methodFound?_of_named hn0 (by decide)))
    cases Option.some.inj (q3.symm.trans hn0)
    rw [Launch.admits_selectMethod X.admits]; exact q4
  obtain ⟨ci198, i198, fB, hk198, hg198, ha198, hsB, -, hnB, htB, hffB⟩ := Cond.ownField (t := .object "java/lang/Object") hcT L.cls (by decide +kernel) (a' (.fieldLink tN 198 tN "backtrace" obD) (List.mem_of_getElem? (i := 30) rfl)) (a' (.lays tN tN "backtrace" obD) (List.mem_of_getElem? (i := 31) rfl)) e.platform hpl
  obtain ⟨c7, cf7, kf7, i7, f7, b71, b72, -, -, -, -, hvB⟩ := B
  cases e1.symm.trans b71
  obtain ⟨kf7', hi7', -⟩ := State.fieldFound?_setVm hZ.alike b72
  cases (show s.fieldFound? tN "backtrace" obD = some _ from hi7').symm.trans hffB
  have wD := a' (.lays rc tN "depth" "I") (List.mem_of_getElem? (i := 36) rfl)
  obtain ⟨cD1, kD1, cD, kD, iD, fD, -, -, hffD, hstD, -, -, -, -⟩ := Cond.lays_spec wD
  cases Option.some.inj ((Cond.lays_declared wD hffD).symm.trans hcT)
  obtain ⟨hkD, hatD⟩ := State.fieldFound?_spec hffD
  cases Option.some.inj (hkD.symm.trans L.cls)
  obtain ⟨hnD, htD⟩ := State.fieldFound?_type hffD (t := .int) (by decide +kernel)
  have hfb := Cond.soleField_find hcT L.cls (a' (.soleField tN "backtrace") (List.mem_of_getElem? (i := 34) rfl)) ha198 hnB hsB
  have hfd := Cond.soleField_find hcT L.cls (a' (.soleField tN "depth") (List.mem_of_getElem? (i := 35) rfl)) hatD hnD hstD
  obtain ⟨comp, cO, kO, -, -, hkO, hkindO, hO⟩ := Cond.arrayOver_spec (a' (.arrayOver (.object "java/lang/Object")) (List.mem_of_getElem? (i := 33) rfl))
  obtain ⟨tyS, -⟩ := Cond.laysAt hcX hkX hffS (a' (.lays rc tN "stackTrace" steD) (List.mem_of_getElem? (i := 27) rfl))
  obtain ⟨tyB, -⟩ := Cond.laysAt hcX hkX hffB (a' (.lays rc tN "backtrace" obD) (List.mem_of_getElem? (i := 32) rfl))
  obtain ⟨tyD, -⟩ := Cond.laysAt hcX hkX hffD wD
  have tk : ∀ {f : Field} {v : Value}, kX.instanceTypes[f.slot]? = some f.type → fits f.type v = true → Jvm.Takes s cell f v := fun {f v} h1 h2 => by
    obtain ⟨q1, q2⟩ := Takes.of_laid (v := v) hkX hord h1 h2
    exact ⟨by rw [hszX]; simpa using q1, by rw [u2]; exact q2⟩
  have hSE := a' (.selects rc tFill tFill) (List.mem_of_getElem? (i := 25) rfl)
  obtain ⟨v6, vm6, ⟨T6, L6, c6, n6⟩, hW6, X6, ⟨hv6, C6, nn, hn, hD6, q1, q2, q3, q4, hL6, hc6, hn6⟩, come⟩ := X.virtualBack hx (own := tN) (C := rc) (index := 27) (y := tFill) (z := tFill) hown (a' (.methodLink tN 27 tFill) (List.mem_of_getElem? (i := 11) rfl)) (a' (.declares tFill) (List.mem_of_getElem? (i := 23) rfl)) (notFace_of_selects hSE) hSE (a' (.instanceMethod tFill) (List.mem_of_getElem? (i := 2) rfl)) (by decide)
    (fillPaysAny (l := l) (W := 2 * g.monitorRoom + (rest.map fun v => v.category).sum) hx htr T0 L hnF (u0 := ⟨u, hu⟩) (self := a) (cell := cell) (cellS := cS) (fun _ => by rw [u2]; simp) (by rw [u2]; simp) (by rw [u3]) (by rw [u3]) hvS hsel0 hneS (fun q => by rw [q] at g6; cases g6) g7 (tk tyS (by rw [htS]; exact fits_refV_array _ ⟨u, hu⟩))
      ⟨{ ci198 := ci198, i198 := i198, fBack := fB }, ⟨hk198, hg198, ha198, hsB⟩, hvB⟩ hTK hBelow hcT hO hkO hkindO hfb hfd (fun x => tk tyB (by rw [htB]; rfl)) (fun x => tk tyD (by rw [htD]; rfl)) (by omega) hlo)
    (b := a) (cB := cell.cls) hcX ⟨cell, e1, rfl, by rw [u2]; rfl⟩ (g := g) hg hsize (Steps.refl _) (argsL := []) (rest := rest)
    (fun sig h => by rw [show parseMethodDescriptor tFill.desc = some ⟨[], some (.object tN)⟩ from by decide +kernel] at h; rw [← Option.some.inj h]; rfl) hs (Nat.le_refl _) hd
    (fun vmx hWx => ⟨rfl, hc, hsl, e1, g5⟩)
  dsimp only [Pt.U, Pt.locs, Pt.cells, Pt.slots] at X6 hD6 hL6 hc6 hn6 come
  subst hv6 hL6 hc6 hn6
  have K : Jvm.Free.Exc.Kept T T6 [⟨a, fB.slot⟩, ⟨a, fD.slot⟩, ⟨a, T0.fStack.slot⟩] := fun y cy hy => by
    have hyl : y < s.heap.size := hsz ▸ (Array.getElem?_eq_some_iff.mp hy).1
    obtain ⟨cs, hcs⟩ : ∃ cs, s.heap[y]? = some cs := ⟨_, Array.getElem?_eq_getElem hyl⟩
    obtain ⟨d1, r1, r2, r3, r4⟩ := X.same.2.2.2.2.2 y cs hcs
    cases (show T.heap[y]? = some d1 from r1).symm.trans hy
    obtain ⟨d2, t1, t2, t3, t4⟩ := X6.same.2.2.2.2.2 y cs hcs
    refine ⟨d2, t1, by rw [t2, r2], by rw [t3, r3], fun i hi => ?_⟩
    by_cases hya : y = a
    · subst hya
      cases (show T6.heap[y]? = some d2 from t1).symm.trans hD6
      cases hy.symm.trans e1
      simp only [List.mem_cons, List.not_mem_nil, or_false, not_or, Loc.mk.injEq, true_and] at hi
      exact q4 i hi.1 hi.2.1 hi.2.2
    · rw [t4 i fun hm => hya ?_, r4 i fun hm => hya (hlocs _ hm)]
      rcases List.mem_append.mp hm with hm | hm
      · exact hlocs _ hm
      · simp only [List.mem_cons, List.not_mem_nil, or_false, Loc.mk.injEq] at hm
        rcases hm with hm | hm | hm <;> exact hm.1
  have hL : ∀ x ∈ [(⟨a, fB.slot⟩ : Loc), ⟨a, fD.slot⟩, ⟨a, T0.fStack.slot⟩], Six s a x := fun x hx => by
    simp only [List.mem_cons, List.not_mem_nil, or_false] at hx
    rcases hx with hx | hx | hx
    · exact ⟨("backtrace", obD), _, by simp [sixNames], ⟨_, _, _, hffB⟩, hx⟩
    · exact ⟨("depth", "I"), _, by simp [sixNames], ⟨_, _, _, hffD⟩, hx⟩
    · exact ⟨("stackTrace", steD), _, by simp [sixNames], ⟨_, _, _, hffS⟩, hx⟩
  have K2 : Kp Z T.heap T6.heap a := kp_of hZ rfl hL K
  obtain ⟨cN, z1, z2, -⟩ := N.kp K2
  obtain ⟨vM, hvM⟩ := fld_laid (O := tN) (n := "detailMessage") (d := msgD) (E.kp K2) ⟨cN, z1, by rw [z2]; simp⟩ wi (Or.inl (w (.lays rc tN "detailMessage" msgD) (List.mem_of_getElem? (i := 29) rfl)))
  exact ⟨T6, T6.heap, vM, (wider X6 hZ hL).more (Nat.le_refl _) (Nat.add_le_add_left hn _), rfl, K2, E.kp K2, N.kp K2, hvM, fun target q => come.trans q⟩
open Jvm.Free.Exc in
theorem own_six_ne {Z : State} {a0 : Array Value} {rc O n d : String} {ty : FieldType} (w : ∀ d ∈ own_ex rc, d.before a0 Z = true) (Lf : Laid Z a0 rc O n d) (ht : parseFieldDescriptor d = some ty) (hn : ∀ nd ∈ sixNames, nd.1 ≠ n) : ∀ nd ∈ sixNames, Jvm.RoadKit.slotOf Z tN nd.1 nd.2 ≠ Jvm.RoadKit.slotOf Z O n d := fun nd hm => by
  have q := hn nd hm
  simp only [sixNames, List.mem_cons, List.not_mem_nil, or_false] at hm
  rcases hm with rfl | rfl | rfl | rfl | rfl | rfl
  · exact slot_ne (Or.inl (w _ (List.mem_of_getElem? (i := 26) rfl))) Lf q (t := .object tN) (by decide) ht
  · exact slot_ne (Or.inl (w _ (List.mem_of_getElem? (i := 27) rfl))) Lf q (t := .array (.object "java/lang/StackTraceElement")) (by decide) ht
  · exact slot_ne (Or.inl (w _ (List.mem_of_getElem? (i := 28) rfl))) Lf q (t := .object "java/util/List") (by decide) ht
  · exact slot_ne (Or.inl (w _ (List.mem_of_getElem? (i := 32) rfl))) Lf q (t := .object "java/lang/Object") (by decide) ht
  · exact slot_ne (Or.inl (w _ (List.mem_of_getElem? (i := 36) rfl))) Lf q (t := .int) (by decide) ht
  · exact slot_ne (Or.inl (w _ (List.mem_of_getElem? (i := 29) rfl))) Lf q (t := .object "java/lang/String") (by decide) ht
theorem own_wrsz {h h' : Heap} {a : Addr} {sl : Nat} {v : Value} (W : Wr h h' a sl v) : h'.size = h.size := by
  obtain ⟨c, -, -, -, rfl⟩ := W
  exact Array.size_setIfInBounds
theorem own_bases3 {a : Addr} {i j k : Nat} {L : List Loc} (h : L = (([] ++ [⟨a, i⟩]) ++ [⟨a, j⟩]) ++ [⟨a, k⟩]) : ∀ x ∈ L, x.base = a := by
  subst h
  intro x hx
  simp only [List.nil_append, List.mem_append, List.mem_cons, List.not_mem_nil, or_false] at hx
  rcases hx with (rfl | rfl) | rfl <;> rfl
theorem own_exw_D {Z : State} {a0 : Array Value} (hw : ∀ d ∈ tables_1, d.before a0 Z = true) : ∀ d ∈ own_ex "com/example/manque/manque/Declined", d.before a0 Z = true := fun d hd => hw d ((by decide +kernel : ∀ d ∈ own_ex "com/example/manque/manque/Declined", d ∈ tables_1) d hd)
def own_G (l : Launch) (Z : State) (a0 : Array Value) (G1 : Int32) (kC : Addr) (uS : Value) (sS : Value) : Prop := (Sta Z Z.heap "java/lang/String" "COMPACT_STRINGS" "Z" (.int G1)) ∧ (¬ (G1 = (0 : Int32))) ∧ (Sta Z Z.heap "com/example/manque/manque/Declined$Kind" "REFUSED" "Lcom/example/manque/manque/Declined$Kind;" (.ref kC)) ∧ (Exa Z Z.heap kC "com/example/manque/manque/Declined$Kind") ∧ (Fld Z Z.heap kC "com/example/manque/manque/Declined$Kind" "status" "I" (.int (422 : Int32))) ∧ (l.stackTraces = true) ∧ (Sta Z Z.heap "java/lang/Throwable" "UNASSIGNED_STACK" "[Ljava/lang/StackTraceElement;" uS) ∧ (uS.isRef = true) ∧ (Sta Z Z.heap "java/lang/Throwable" "SUPPRESSED_SENTINEL" "Ljava/util/List;" sS) ∧ (sS.isRef = true)
abbrev M0 : MethodName := ⟨"java/lang/String", "<init>", "([CIILjava/lang/Void;)V"⟩
theorem ef_1 (m : MethodId) (x0 : Addr) (x1 : Addr) (x2 : Int32) (x3 : Int32) : entryFrame m #[(.ref x0), (.ref x1), (.int x2), (.int x3), .null] 6 = mkF m 0 #[.val (.ref x0), .val (.ref x1), .val (.int x2), .val (.int x3), .val .null, .unset] [] := by first | (simp [entryFrame, mkF, argsToLocals, Value.category]; done) | rfl
theorem pn_2 : plainName "java/lang/String" = true := by first | (simp [plainName, overriddenIn]; done) | decide +kernel
theorem d0_0 : decode jdk_42_method_149_code 0 = .ok (.aload_n 0, 1) := by decide +kernel
theorem w15 {Z : State} {a0 : Array Value} (hw : ∀ d ∈ tables_1, d.before a0 Z = true) : Jvm.Cond.before (Jvm.Cond.methodLink "java/lang/String" (1 : Nat) ({ cls := "java/lang/Object", name := "<init>", desc := "()V" } : Jvm.MethodName)) a0 Z = true := hw _ (List.mem_of_getElem? (i := 15) rfl)
theorem w16 {Z : State} {a0 : Array Value} (hw : ∀ d ∈ tables_1, d.before a0 Z = true) : Jvm.Cond.before (Jvm.Cond.instanceMethod ({ cls := "java/lang/Object", name := "<init>", desc := "()V" } : Jvm.MethodName)) a0 Z = true := hw _ (List.mem_of_getElem? (i := 16) rfl)
theorem w17 {Z : State} {a0 : Array Value} (hw : ∀ d ∈ tables_1, d.before a0 Z = true) : Jvm.Cond.before (Jvm.Cond.code ({ cls := "java/lang/Object", name := "<init>", desc := "()V" } : Jvm.MethodName) object_method_1_code (1 : Nat) (Option.none : Option Jvm.ClassFile.FieldType)) a0 Z = true := hw _ (List.mem_of_getElem? (i := 17) rfl)
theorem d0_1 : decode jdk_42_method_149_code 1 = .ok (.invokespecial 1, 3) := by decide +kernel
theorem d0_4 : decode jdk_42_method_149_code 4 = .ok (.iload_n 3, 1) := by decide +kernel
theorem d0_5 : decode jdk_42_method_149_code 5 = .ok (.ifCond .ne 22, 3) := by decide +kernel
theorem d0_8 : decode jdk_42_method_149_code 8 = .ok (.aload_n 0, 1) := by decide +kernel
theorem w18 {Z : State} {a0 : Array Value} (hw : ∀ d ∈ tables_1, d.before a0 Z = true) : Jvm.Cond.before (Jvm.Cond.stringLink "java/lang/String" (7 : Nat) "") a0 Z = true := hw _ (List.mem_of_getElem? (i := 18) rfl)
theorem d0_9 : decode jdk_42_method_149_code 9 = .ok (.ldc 7, 2) := by decide +kernel
theorem w24 {Z : State} {a0 : Array Value} (hw : ∀ d ∈ tables_1, d.before a0 Z = true) : Jvm.Cond.before (Jvm.Cond.fieldLink "java/lang/String" (9 : Nat) "java/lang/String" "value" "[B") a0 Z = true := hw _ (List.mem_of_getElem? (i := 24) rfl)
theorem d0_11 : decode jdk_42_method_149_code 11 = .ok (.getfield 9, 3) := by decide +kernel
theorem w20 {Z : State} {a0 : Array Value} (hw : ∀ d ∈ tables_1, d.before a0 Z = true) : Jvm.Cond.before (Jvm.Cond.laysFinal "java/lang/String" "java/lang/String" "value" "[B") a0 Z = true := hw _ (List.mem_of_getElem? (i := 20) rfl)
theorem w5 {Z : State} {a0 : Array Value} (hw : ∀ d ∈ tables_1, d.before a0 Z = true) : Jvm.Cond.before (Jvm.Cond.instantiable "java/lang/String" (4 : Nat)) a0 Z = true := hw _ (List.mem_of_getElem? (i := 5) rfl)
theorem d0_14 : decode jdk_42_method_149_code 14 = .ok (.putfield 9, 3) := by decide +kernel
theorem d0_17 : decode jdk_42_method_149_code 17 = .ok (.aload_n 0, 1) := by decide +kernel
theorem d0_18 : decode jdk_42_method_149_code 18 = .ok (.ldc 7, 2) := by decide +kernel
theorem w25 {Z : State} {a0 : Array Value} (hw : ∀ d ∈ tables_1, d.before a0 Z = true) : Jvm.Cond.before (Jvm.Cond.fieldLink "java/lang/String" (15 : Nat) "java/lang/String" "coder" "B") a0 Z = true := hw _ (List.mem_of_getElem? (i := 25) rfl)
theorem d0_20 : decode jdk_42_method_149_code 20 = .ok (.getfield 15, 3) := by decide +kernel
theorem w21 {Z : State} {a0 : Array Value} (hw : ∀ d ∈ tables_1, d.before a0 Z = true) : Jvm.Cond.before (Jvm.Cond.laysFinal "java/lang/String" "java/lang/String" "coder" "B") a0 Z = true := hw _ (List.mem_of_getElem? (i := 21) rfl)
theorem d0_23 : decode jdk_42_method_149_code 23 = .ok (.putfield 15, 3) := by decide +kernel
theorem d0_26 : decode jdk_42_method_149_code 26 = .ok (.return_, 1) := by decide +kernel
abbrev R_si4_0 : Room := { frames := 1, cells := 4, slots := 8, locals := 12 }
def Q_si4_0 (Z : State) (G1 : Int32) (kC : Addr) (uS : Value) (sS : Value) (x : Addr) (b : Addr) (k : ClassId) (h0 : Heap) (n0 : Nat) (v : Option Value) (h : Heap) (L : List Loc) : Prop := (∃ t : Addr, ∃ kt : ClassId, v = none ∧ Fr n0 L ∧ Keep h0 h [x] ∧ (Exa Z h x "java/lang/String") ∧ (Fld Z h x "java/lang/String" "coder" "B" (.int (0 : Int32))) ∧ (Fld Z h x "java/lang/String" "value" "[B" (.ref t)) ∧ (Arv Z h t kt .byte (0 : Int32) [] (.int (0 : Int32))))
set_option maxRecDepth 65536 in
set_option maxHeartbeats 40000000 in
theorem rm_si4_0 (l : Launch) (Z : State) (a0 : Array Value) (hw : ∀ d ∈ tables_1, d.before a0 Z = true) (ws : List Jvm.Cond) (G1 : Int32) (kC : Addr) (uS : Value) (sS : Value) (HG : own_G l Z a0 G1 kC uS sS) (h0 : Heap) (n0 : Nat) (X00 : Old Z n0 h0) (x : Addr) (b : Addr) (k : ClassId) (hp0 : Exa Z h0 x "java/lang/String") (hp1 : Fld Z h0 x "java/lang/String" "value" "[B" .null) (hp2 : Fld Z h0 x "java/lang/String" "coder" "B" (.int (0 : Int32))) (hp3 : n0 ≤ x) (hp4 : Arv Z h0 b k .char (0 : Int32) [] (.int (0 : Int32))) :
    own_CH l Z M0 jdk_42_method_149_code 6 none ws R_si4_0 #[(.ref x), (.ref b), (.int (0 : Int32)), (.int (0 : Int32)), .null] h0 (Q_si4_0 Z G1 kC uS sS x b k h0 n0) := by
  refine own_H (plainFor_of_name pn_2) ?_
  intro p e s m below meth c s₁ S0 Bd hZ hh CH0 hS0 CR0 hx hby hml hown hnm X0 e0 hS0d
  obtain ⟨O1, P1, O2, E2, F2, hLT, OU, rU, OS, rS⟩ := id HG
  have hEL := own_EL hw
  have hSA := own_SA hw
  have N0 := Fr.nil n0
  have C0 : Steps p.tables e below S0 (s₁.setTop (mkF m 0 #[.val (.ref x), .val (.ref b), .val (.int (0 : Int32)), .val (.int (0 : Int32)), .val .null, .unset] [])) := by rw [hS0d]; exact castTop (ef_1 m x b (0 : Int32) (0 : Int32)) (Steps.refl _)
  have Sf_1 : Safe Z consts_1 s.vm h0 x := (own_safe_null hZ.alike hp0 hp1)
  obtain ⟨T_2, X_3, e_4, st_5⟩ := initO X0 hx hZ hown (w15 hw) (w16 hw) (w17 hw) e0 (g := (mkF m 1 #[.val (.ref x), .val (.ref b), .val (.int (0 : Int32)), .val (.int (0 : Int32)), .val .null, .unset] [(.ref x)])) rfl (by rw [hml]; rfl) rfl (hb hby d0_1) (by decide) (W := 0) (by show 2 * 0 + _ ≤ _; exact Nat.le_of_eq rfl) (by decide)
  obtain ⟨a_6, T_7, h_8, k1_9, b_10, k_11, X_12, e_13, E_14, S_15, hk_16, hZ_17, ho_18, Ex_19, Fc_20, Fv_21, Va_22, la_23, lb_24, R_25, L_26, Sf_27, st_28⟩ := ldcCH (vm0 := s.vm) X_3 hx hZ hown (w18 hw) hSA e_4 hS0 (Nat.le_refl _) hEL (by decide) CH0 (vs := []) (z := (0 : Int32)) ⟨by decide, by decide⟩ (by decide) (by decide) (g := (mkF m 9 #[.val (.ref x), .val (.ref b), .val (.int (0 : Int32)), .val (.int (0 : Int32)), .val .null, .unset] [(.ref x)])) rfl (hb hby d0_9) (n := 0) (by decide) (by decide) (by decide) (by decide)
  have CH_29 : CHv Z consts_1 T_7.vm h_8 := R_25.1
  have CR_30 : CHr Z consts_1 s.vm h0 T_7.vm h_8 := CR0.trans R_25
  have E_31 : Exa Z h_8 x "java/lang/String" := (hp0.ext E_14)
  have F_32 : Fld Z h_8 x "java/lang/String" "value" "[B" .null := (hp1.ext E_14)
  obtain ⟨T_33, X_34, e_35, st_36⟩ := getF X_12 hx hZ_17 ho_18 (host := "") (Or.inl (w24 hw)) Via.refl e_13 Fv_21 (g := (mkF m 11 #[.val (.ref x), .val (.ref b), .val (.int (0 : Int32)), .val (.int (0 : Int32)), .val .null, .unset] [(.ref a_6), (.ref x)])) rfl rfl (hb hby d0_11)
  obtain ⟨T_37, h_38, X_39, e_40, W_41, st_42⟩ := putF X_34 hx hZ_17 ho_18 (host := "") (Or.inl (w24 hw)) Via.refl e_35 F_32 E_31 (Or.inr ⟨(w20 hw), rfl, hnm⟩) (w5 hw) (ty := (.array .byte)) (by decide) rfl rfl (g := (mkF m 14 #[.val (.ref x), .val (.ref b), .val (.int (0 : Int32)), .val (.int (0 : Int32)), .val .null, .unset] [(.ref b_10), (.ref x)])) rfl rfl (hb hby d0_14)
  have N_43 := Fr.snoc X_39 N0 hp3
  have CH_44 : CHv Z consts_1 T_7.vm h_38 := CHv.wr W_41 (own_safe_null hZ_17.alike E_31 F_32) CH_29
  have CR_45 : CHr Z consts_1 s.vm h0 T_7.vm h_38 := CR_30.trans (CHr.wr W_41 (own_safe_null hZ_17.alike E_31 F_32) CH_29)
  have F_46 : Fld Z h_38 x "java/lang/String" "value" "[B" (.ref b_10) := F_32.same W_41
  obtain ⟨a_47, T_48, h_49, k1_50, b_51, k_52, X_53, e_54, E_55, S_56, hk_57, hZ_58, ho_59, Ex_60, Fc_61, Fv_62, Va_63, la_64, lb_65, R_66, L_67, Sf_68, st_69⟩ := ldcCH (vm0 := T_7.vm) X_39 hx hZ_17 ho_18 (w18 hw) hSA e_40 S_15 (Nat.le_trans hk_16 (Keep.of_wr W_41).1) hEL (by decide) CH_44 (vs := []) (z := (0 : Int32)) ⟨by decide, by decide⟩ (by decide) (by decide) (g := (mkF m 18 #[.val (.ref x), .val (.ref b), .val (.int (0 : Int32)), .val (.int (0 : Int32)), .val .null, .unset] [(.ref x)])) rfl (hb hby d0_18) (n := 0) (by decide) (by decide) (by decide) (by decide)
  have CH_70 : CHv Z consts_1 T_48.vm h_49 := R_66.1
  have CR_71 : CHr Z consts_1 s.vm h0 T_48.vm h_49 := CR_45.trans R_66
  have Sf_72 : Safe Z consts_1 T_48.vm h_49 x := (CHr.safe R_66 (own_lt hp0.lt (Nat.le_trans E_14.1 (Keep.of_wr W_41).1)) (Safe.wr W_41 (own_safe_null hZ_17.alike E_31 F_32) CH_29 (CHr.safe R_25 (own_lt hp0.lt (Nat.le_refl _)) Sf_1)))
  obtain ⟨T_73, X_74, e_75, st_76⟩ := getF X_53 hx hZ_58 ho_59 (host := "") (Or.inl (w25 hw)) Via.refl e_54 Fc_61 (g := (mkF m 20 #[.val (.ref x), .val (.ref b), .val (.int (0 : Int32)), .val (.int (0 : Int32)), .val .null, .unset] [(.ref a_47), (.ref x)])) rfl rfl (hb hby d0_20)
  have F_77 : Fld Z h_49 x "java/lang/String" "coder" "B" (.int (0 : Int32)) := (((hp2.ext E_14).other W_41 (Or.inr (slot_ne (Or.inr (w21 hw)) (Or.inr (w20 hw)) (by decide) (t := .byte) (by decide) (t' := (.array .byte)) (by decide)))).ext E_55)
  have E_78 : Exa Z h_49 x "java/lang/String" := ((E_31.wr W_41).ext E_55)
  obtain ⟨T_79, h_80, X_81, e_82, W_83, st_84⟩ := putF X_74 hx hZ_58 ho_59 (host := "") (Or.inl (w25 hw)) Via.refl e_75 F_77 E_78 (Or.inr ⟨(w21 hw), rfl, hnm⟩) (w5 hw) (ty := .byte) (by decide) rfl (by decide) (g := (mkF m 23 #[.val (.ref x), .val (.ref b), .val (.int (0 : Int32)), .val (.int (0 : Int32)), .val .null, .unset] [(.int (0 : Int32)), (.ref x)])) rfl rfl (hb hby d0_23)
  have N_85 := Fr.snoc X_81 N_43 hp3
  have Sf_86 : Safe Z consts_1 T_48.vm h_49 x := Sf_72
  have CH_87 : CHv Z consts_1 T_48.vm h_80 := CHv.wr W_83 Sf_86 CH_70
  have CR_88 : CHr Z consts_1 s.vm h0 T_48.vm h_80 := CR_71.trans (CHr.wr W_83 Sf_86 CH_70)
  have F_89 : Fld Z h_80 x "java/lang/String" "coder" "B" (.int (0 : Int32)) := F_77.same W_83
  have C_90 : Steps p.tables e below S0 (T_79.setTop (mkF m 26 #[.val (.ref x), .val (.ref b), .val (.int (0 : Int32)), .val (.int (0 : Int32)), .val .null, .unset] [])) := by
    refine C0.trans ?_
    refine XS.aloadN X0.here hx rfl (hb hby d0_0) rfl rfl ?_
    refine st_5 _ ?_
    refine XS.iloadN X_3.here hx rfl (hb hby d0_4) rfl ?_
    refine XS.ifNo X_3.here hx rfl (hb hby d0_5) rfl (by decide) ?_
    refine XS.aloadN X_3.here hx rfl (hb hby d0_8) rfl rfl ?_
    refine st_28 _ ?_
    refine st_36 _ ?_
    refine st_42 _ ?_
    show Steps p.tables e below (T_37.setTop (mkF m 17 #[.val (.ref x), .val (.ref b), .val (.int (0 : Int32)), .val (.int (0 : Int32)), .val .null, .unset] [])) _
    refine XS.aloadN X_39.here hx rfl (hb hby d0_17) rfl rfl ?_
    refine st_69 _ ?_
    refine st_76 _ ?_
    refine st_84 _ ?_
    exact Steps.refl _
  have E_91 : Exa Z h_80 x "java/lang/String" := (E_78.wr W_83)
  have F_92 : Fld Z h_80 x "java/lang/String" "value" "[B" (.ref b_10) := ((F_46.ext E_55).other W_83 (Or.inr (slot_ne (Or.inr (w20 hw)) (Or.inr (w21 hw)) (by decide) (t := (.array .byte)) (by decide) (t' := .byte) (by decide))))
  have V_93 : Arv Z h_80 b_10 k_11 .byte (0 : Int32) [] (.int (0 : Int32)) := (((Va_22.other W_41 (Ne.symm (Sf_27 _ (own_safe_null hZ_17.alike E_31 F_32)).2)).ext E_55).other W_83 (Ne.symm (Sf_27 _ (own_safe_null hZ_17.alike E_31 F_32)).2))
  have K_94 : Keep h0 h_80 [x] := (((((Keep.refl _ _).ext E_14).wr W_41 (Or.inl (List.mem_of_getElem? (i := 0) rfl))).ext E_55).wr W_83 (Or.inl (List.mem_of_getElem? (i := 0) rfl)))
  obtain ⟨fs, hr, hrun, hended, hRE⟩ := X_81.leaveW S_56 (by rw [show T_79.heap = h_80 from e_82]; exact (Nat.le_trans hk_57 (Keep.of_wr W_83).1)) (v := none) (fun _ => rfl)
  refine ⟨_, _, C_90.trans (X_81.returnOut hx Bd.returns (hb hby d0_26) hr), hrun, hended, _, _, rfl, ?_, ?_, hRE.1, hRE.2.1, hRE.2.2.1, hRE.2.2.2.mono (by decide) (by decide)⟩
  · show Q_si4_0 Z G1 kC uS sS x b k h0 n0 (none) T_79.heap _
    rw [e_82]
    exact ⟨b_10, k_11, rfl, N_85, K_94, E_91, F_89, F_92, V_93⟩
  · show CHr Z consts_1 s.vm s.heap T_79.vm T_79.heap
    rw [hh, show T_79.heap = h_80 from e_82]
    exact CR_88.trans (CHv.at X_81 hZ_58 hEL CH_87)
abbrev M25 : MethodName := ⟨"java/lang/String", "<init>", "([C)V"⟩
theorem ef_26 (m : MethodId) (x0 : Addr) (x1 : Addr) : entryFrame m #[(.ref x0), (.ref x1)] 2 = mkF m 0 #[.val (.ref x0), .val (.ref x1)] [] := by first | (simp [entryFrame, mkF, argsToLocals, Value.category]; done) | rfl
theorem d1_0 : decode jdk_42_method_3_code 0 = .ok (.aload_n 0, 1) := by decide +kernel
theorem d1_1 : decode jdk_42_method_3_code 1 = .ok (.aload_n 1, 1) := by decide +kernel
theorem d1_2 : decode jdk_42_method_3_code 2 = .ok (.iconst 0, 1) := by decide +kernel
theorem d1_3 : decode jdk_42_method_3_code 3 = .ok (.aload_n 1, 1) := by decide +kernel
theorem d1_4 : decode jdk_42_method_3_code 4 = .ok (.arraylength, 1) := by decide +kernel
theorem d1_5 : decode jdk_42_method_3_code 5 = .ok (.aconst_null, 1) := by decide +kernel
theorem w14 {Z : State} {a0 : Array Value} (hw : ∀ d ∈ tables_1, d.before a0 Z = true) : Jvm.Cond.before (Jvm.Cond.code ({ cls := "java/lang/String", name := "<init>", desc := "([CIILjava/lang/Void;)V" } : Jvm.MethodName) jdk_42_method_149_code (6 : Nat) (Option.none : Option Jvm.ClassFile.FieldType)) a0 Z = true := hw _ (List.mem_of_getElem? (i := 14) rfl)
theorem w6 {Z : State} {a0 : Array Value} (hw : ∀ d ∈ tables_1, d.before a0 Z = true) : Jvm.Cond.before (Jvm.Cond.initialized "java/lang/String") a0 Z = true := hw _ (List.mem_of_getElem? (i := 6) rfl)
theorem pd_35 : parseMethodDescriptor "([CIILjava/lang/Void;)V" = some ⟨[(.array .char), .int, .int, (.object "java/lang/Void")], none⟩ := by decide +kernel
theorem d1_6 : decode jdk_42_method_3_code 6 = .ok (.invokespecial 27, 3) := by decide +kernel
theorem w11 {Z : State} {a0 : Array Value} (hw : ∀ d ∈ tables_1, d.before a0 Z = true) : Jvm.Cond.before (Jvm.Cond.methodLink "java/lang/String" (27 : Nat) ({ cls := "java/lang/String", name := "<init>", desc := "([CIILjava/lang/Void;)V" } : Jvm.MethodName)) a0 Z = true := hw _ (List.mem_of_getElem? (i := 11) rfl)
theorem w12 {Z : State} {a0 : Array Value} (hw : ∀ d ∈ tables_1, d.before a0 Z = true) : Jvm.Cond.before (Jvm.Cond.instanceMethod ({ cls := "java/lang/String", name := "<init>", desc := "([CIILjava/lang/Void;)V" } : Jvm.MethodName)) a0 Z = true := hw _ (List.mem_of_getElem? (i := 12) rfl)
theorem d1_9 : decode jdk_42_method_3_code 9 = .ok (.return_, 1) := by decide +kernel
abbrev R_si1_0 : Room := { frames := 2, cells := 4, slots := 8, locals := 29 }
def Q_si1_0 (Z : State) (G1 : Int32) (kC : Addr) (uS : Value) (sS : Value) (x : Addr) (b : Addr) (k : ClassId) (h0 : Heap) (n0 : Nat) (v : Option Value) (h : Heap) (L : List Loc) : Prop := (∃ t : Addr, ∃ kt : ClassId, v = none ∧ Fr n0 L ∧ Keep h0 h [x] ∧ (Exa Z h x "java/lang/String") ∧ (Fld Z h x "java/lang/String" "coder" "B" (.int (0 : Int32))) ∧ (Fld Z h x "java/lang/String" "value" "[B" (.ref t)) ∧ (Arv Z h t kt .byte (0 : Int32) [] (.int (0 : Int32))))
set_option maxRecDepth 65536 in
set_option maxHeartbeats 40000000 in
theorem rm_si1_0 (l : Launch) (Z : State) (a0 : Array Value) (hw : ∀ d ∈ tables_1, d.before a0 Z = true) (ws : List Jvm.Cond) (G1 : Int32) (kC : Addr) (uS : Value) (sS : Value) (HG : own_G l Z a0 G1 kC uS sS) (h0 : Heap) (n0 : Nat) (X00 : Old Z n0 h0) (x : Addr) (b : Addr) (k : ClassId) (hp0 : Exa Z h0 x "java/lang/String") (hp1 : Fld Z h0 x "java/lang/String" "value" "[B" .null) (hp2 : Fld Z h0 x "java/lang/String" "coder" "B" (.int (0 : Int32))) (hp3 : n0 ≤ x) (hp4 : Arv Z h0 b k .char (0 : Int32) [] (.int (0 : Int32))) :
    own_CH l Z M25 jdk_42_method_3_code 2 none ws R_si1_0 #[(.ref x), (.ref b)] h0 (Q_si1_0 Z G1 kC uS sS x b k h0 n0) := by
  refine own_H (plainFor_of_name pn_2) ?_
  intro p e s m below meth c s₁ S0 Bd hZ hh CH0 hS0 CR0 hx hby hml hown hnm X0 e0 hS0d
  obtain ⟨O1, P1, O2, E2, F2, hLT, OU, rU, OS, rS⟩ := id HG
  have hEL := own_EL hw
  have hSA := own_SA hw
  have N0 := Fr.nil n0
  have C0 : Steps p.tables e below S0 (s₁.setTop (mkF m 0 #[.val (.ref x), .val (.ref b)] [])) := by rw [hS0d]; exact castTop (ef_26 m x b) (Steps.refl _)
  obtain ⟨c_1, A_2, q_3, S_4, M_5, H_6, U_7⟩ := id hp4
  obtain ⟨_, _, ⟨T_8, L_8, k_8, n_8⟩, -, Y_8, S_8, G_8, ⟨Lc_8, hQ_8, l_8, y_8, z_8, R_8⟩, st_8⟩ := X0.specialBackS hx (y := M0) rfl hown (mvT hZ (w11 hw)) (mvT hZ (w12 hw)) (mvT hZ (w14 hw)) (by decide) (backOfSH (vm0 := s.vm) (W := 0) (rm_si4_0 l Z a0 hw [] G1 kC uS sS HG h0 n0 X00 x b k hp0 hp1 hp2 hp3 hp4) hZ (w14 hw) (w6 hw) (by decide) (by decide) hEL CH0) (g := (mkF m 6 #[.val (.ref x), .val (.ref b)] [.null, (.int (0 : Int32)), (.int (0 : Int32)), (.ref b), (.ref x)])) rfl (by rw [hml]; rfl) (Steps.refl _) (a := x) (argsL := [(.ref b), (.int (0 : Int32)), (.int (0 : Int32)), .null]) (rest := []) (lenOf pd_35 rfl) rfl (by show 2 * 0 + _ ≤ _; exact Nat.le_of_eq rfl) (hb hby d1_6) (fun _ _ => ⟨rfl, e0, (by decide : 0 + 4 ≤ _), (by decide : 0 + 8 ≤ _)⟩)
  dsimp only [Pt.U, Pt.locs, Pt.cells, Pt.slots] at Y_8 S_8 G_8 l_8 y_8 z_8 st_8 hQ_8 R_8
  subst l_8 y_8 z_8
  obtain ⟨X_8, hS_8, hZ_8, hown_8⟩ := rebS hS0 (n1 := s₁.heap.size) (by rw [show s₁.heap = h0 from e0]; exact (Nat.le_refl _)) Y_8 S_8 G_8 hZ hown
  obtain ⟨a_9, k_10, rfl, N_11, K_12, g_13, g_14, g_15, g_16⟩ := hQ_8
  have N_17 := Fr.app N0 N_11
  have CH_18 : CHv Z consts_1 T_8.vm T_8.heap := R_8.1
  have CR_19 : CHr Z consts_1 s.vm h0 T_8.vm T_8.heap := CR0.trans R_8
  have C_20 : Steps p.tables e below S0 (T_8.setTop (mkF m 9 #[.val (.ref x), .val (.ref b)] [])) := by
    refine C0.trans ?_
    refine XS.aloadN X0.here hx rfl (hb hby d1_0) rfl rfl ?_
    refine XS.aloadN X0.here hx rfl (hb hby d1_1) rfl rfl ?_
    refine XS.iconst X0.here hx rfl (hb hby d1_2) ?_
    refine XS.aloadN X0.here hx rfl (hb hby d1_3) rfl rfl ?_
    refine X0.arraylength hx (by rw [e0]; exact A_2.1) (State.isArrayOf_alike hZ.alike A_2.2.1) (g := (mkF m 4 #[.val (.ref x), .val (.ref b)] [(.ref b), (.int (0 : Int32)), (.ref b), (.ref x)])) rfl rfl (hb hby d1_4) _ ?_
    rw [len_of S_4 M_5]
    refine XS.aconstNull X0.here hx rfl (hb hby d1_5) ?_
    refine st_8.trans ?_
    exact Steps.refl _
  have K_21 : Keep h0 T_8.heap [x] := ((Keep.refl _ _).trans K_12 (allS (Or.inl (List.mem_of_getElem? (i := 0) rfl)) all0))
  obtain ⟨fs, hr, hrun, hended, hRE⟩ := X_8.leaveW hS_8 (by rw [show T_8.heap = T_8.heap from rfl]; exact (Nat.le_refl _)) (v := none) (fun _ => rfl)
  refine ⟨_, _, C_20.trans (X_8.returnOut hx Bd.returns (hb hby d1_9) hr), hrun, hended, _, _, rfl, ?_, ?_, hRE.1, hRE.2.1, hRE.2.2.1, hRE.2.2.2.mono (by decide) (by decide)⟩
  · show Q_si1_0 Z G1 kC uS sS x b k h0 n0 (none) T_8.heap _
    exact ⟨a_9, k_10, rfl, N_17, K_21, g_13, g_14, g_15, g_16⟩
  · show CHr Z consts_1 s.vm s.heap T_8.vm T_8.heap
    rw [hh]
    exact CR_19.trans (CHv.at X_8 hZ_8 hEL CH_18)
abbrev M40 : MethodName := ⟨"java/lang/Throwable", "<init>", "(Ljava/lang/String;)V"⟩
theorem pn_41 : plainName "java/lang/Throwable" = true := by first | (simp [plainName, overriddenIn]; done) | decide +kernel
theorem d2_0 : decode jdk_78_method_2_code 0 = .ok (.aload_n 0, 1) := by decide +kernel
theorem w49 {Z : State} {a0 : Array Value} (hw : ∀ d ∈ tables_1, d.before a0 Z = true) : Jvm.Cond.before (Jvm.Cond.methodLink "java/lang/Throwable" (1 : Nat) ({ cls := "java/lang/Object", name := "<init>", desc := "()V" } : Jvm.MethodName)) a0 Z = true := hw _ (List.mem_of_getElem? (i := 49) rfl)
theorem d2_1 : decode jdk_78_method_2_code 1 = .ok (.invokespecial 1, 3) := by decide +kernel
theorem d2_4 : decode jdk_78_method_2_code 4 = .ok (.aload_n 0, 1) := by decide +kernel
theorem d2_5 : decode jdk_78_method_2_code 5 = .ok (.aload_n 0, 1) := by decide +kernel
theorem w50 {Z : State} {a0 : Array Value} (hw : ∀ d ∈ tables_1, d.before a0 Z = true) : Jvm.Cond.before (Jvm.Cond.fieldLink "java/lang/Throwable" (7 : Nat) "java/lang/Throwable" "cause" "Ljava/lang/Throwable;") a0 Z = true := hw _ (List.mem_of_getElem? (i := 50) rfl)
theorem w51 {Z : State} {a0 : Array Value} (hw : ∀ d ∈ tables_1, d.before a0 Z = true) : Jvm.Cond.before (Jvm.Cond.lays "com/example/manque/manque/Declined" "java/lang/Throwable" "cause" "Ljava/lang/Throwable;") a0 Z = true := hw _ (List.mem_of_getElem? (i := 51) rfl)
theorem w31 {Z : State} {a0 : Array Value} (hw : ∀ d ∈ tables_1, d.before a0 Z = true) : Jvm.Cond.before (Jvm.Cond.instantiable "com/example/manque/manque/Declined" (7 : Nat)) a0 Z = true := hw _ (List.mem_of_getElem? (i := 31) rfl)
theorem d2_6 : decode jdk_78_method_2_code 6 = .ok (.putfield 7, 3) := by decide +kernel
theorem d2_9 : decode jdk_78_method_2_code 9 = .ok (.aload_n 0, 1) := by decide +kernel
theorem w52 {Z : State} {a0 : Array Value} (hw : ∀ d ∈ tables_1, d.before a0 Z = true) : Jvm.Cond.before (Jvm.Cond.fieldLink "java/lang/Throwable" (13 : Nat) "java/lang/Throwable" "UNASSIGNED_STACK" "[Ljava/lang/StackTraceElement;") a0 Z = true := hw _ (List.mem_of_getElem? (i := 52) rfl)
theorem d2_10 : decode jdk_78_method_2_code 10 = .ok (.getstatic 13, 3) := by decide +kernel
theorem w53 {Z : State} {a0 : Array Value} (hw : ∀ d ∈ tables_1, d.before a0 Z = true) : Jvm.Cond.before (Jvm.Cond.fieldLink "java/lang/Throwable" (17 : Nat) "java/lang/Throwable" "stackTrace" "[Ljava/lang/StackTraceElement;") a0 Z = true := hw _ (List.mem_of_getElem? (i := 53) rfl)
theorem w54 {Z : State} {a0 : Array Value} (hw : ∀ d ∈ tables_1, d.before a0 Z = true) : Jvm.Cond.before (Jvm.Cond.lays "com/example/manque/manque/Declined" "java/lang/Throwable" "stackTrace" "[Ljava/lang/StackTraceElement;") a0 Z = true := hw _ (List.mem_of_getElem? (i := 54) rfl)
theorem d2_13 : decode jdk_78_method_2_code 13 = .ok (.putfield 17, 3) := by decide +kernel
theorem d2_16 : decode jdk_78_method_2_code 16 = .ok (.aload_n 0, 1) := by decide +kernel
theorem w55 {Z : State} {a0 : Array Value} (hw : ∀ d ∈ tables_1, d.before a0 Z = true) : Jvm.Cond.before (Jvm.Cond.fieldLink "java/lang/Throwable" (20 : Nat) "java/lang/Throwable" "SUPPRESSED_SENTINEL" "Ljava/util/List;") a0 Z = true := hw _ (List.mem_of_getElem? (i := 55) rfl)
theorem d2_17 : decode jdk_78_method_2_code 17 = .ok (.getstatic 20, 3) := by decide +kernel
theorem w56 {Z : State} {a0 : Array Value} (hw : ∀ d ∈ tables_1, d.before a0 Z = true) : Jvm.Cond.before (Jvm.Cond.fieldLink "java/lang/Throwable" (24 : Nat) "java/lang/Throwable" "suppressedExceptions" "Ljava/util/List;") a0 Z = true := hw _ (List.mem_of_getElem? (i := 56) rfl)
theorem w57 {Z : State} {a0 : Array Value} (hw : ∀ d ∈ tables_1, d.before a0 Z = true) : Jvm.Cond.before (Jvm.Cond.lays "com/example/manque/manque/Declined" "java/lang/Throwable" "suppressedExceptions" "Ljava/util/List;") a0 Z = true := hw _ (List.mem_of_getElem? (i := 57) rfl)
theorem d2_20 : decode jdk_78_method_2_code 20 = .ok (.putfield 24, 3) := by decide +kernel
theorem d2_23 : decode jdk_78_method_2_code 23 = .ok (.aload_n 0, 1) := by decide +kernel
theorem w82 {Z : State} {a0 : Array Value} (hw : ∀ d ∈ tables_1, d.before a0 Z = true) : Jvm.Cond.before (Jvm.Cond.lays "com/example/manque/manque/Declined" "java/lang/Throwable" "backtrace" "Ljava/lang/Object;") a0 Z = true := hw _ (List.mem_of_getElem? (i := 82) rfl)
theorem d2_24 : decode jdk_78_method_2_code 24 = .ok (.invokevirtual 27, 3) := by decide +kernel
theorem d2_27 : decode jdk_78_method_2_code 27 = .ok (.pop, 1) := by decide +kernel
theorem d2_28 : decode jdk_78_method_2_code 28 = .ok (.aload_n 0, 1) := by decide +kernel
theorem d2_29 : decode jdk_78_method_2_code 29 = .ok (.aload_n 1, 1) := by decide +kernel
theorem w85 {Z : State} {a0 : Array Value} (hw : ∀ d ∈ tables_1, d.before a0 Z = true) : Jvm.Cond.before (Jvm.Cond.fieldLink "java/lang/Throwable" (31 : Nat) "java/lang/Throwable" "detailMessage" "Ljava/lang/String;") a0 Z = true := hw _ (List.mem_of_getElem? (i := 85) rfl)
theorem w81 {Z : State} {a0 : Array Value} (hw : ∀ d ∈ tables_1, d.before a0 Z = true) : Jvm.Cond.before (Jvm.Cond.lays "com/example/manque/manque/Declined" "java/lang/Throwable" "detailMessage" "Ljava/lang/String;") a0 Z = true := hw _ (List.mem_of_getElem? (i := 81) rfl)
theorem d2_30 : decode jdk_78_method_2_code 30 = .ok (.putfield 31, 3) := by decide +kernel
theorem d2_33 : decode jdk_78_method_2_code 33 = .ok (.return_, 1) := by decide +kernel
theorem w87 {Z : State} {a0 : Array Value} (hw : ∀ d ∈ tables_1, d.before a0 Z = true) : Jvm.Cond.before (Jvm.Cond.laysFinal "com/example/manque/manque/Declined" "com/example/manque/manque/Declined" "kind" "Lcom/example/manque/manque/Declined$Kind;") a0 Z = true := hw _ (List.mem_of_getElem? (i := 87) rfl)
abbrev R_thi : Room := { frames := 3, cells := 1, slots := 2752, locals := 42 }
def Q_thi (Z : State) (G1 : Int32) (kC : Addr) (uS : Value) (sS : Value) (d : Addr) (r : Addr) (h0 : Heap) (n0 : Nat) (v : Option Value) (h : Heap) (L : List Loc) : Prop := (v = none ∧ Fr n0 L ∧ Keep h0 h [d] ∧ (Exa Z h d "com/example/manque/manque/Declined") ∧ (Fld Z h d "com/example/manque/manque/Declined" "kind" "Lcom/example/manque/manque/Declined$Kind;" .null) ∧ (Fld Z h d "java/lang/Throwable" "detailMessage" "Ljava/lang/String;" (.ref r)))
set_option maxRecDepth 65536 in
set_option maxHeartbeats 40000000 in
theorem rm_thi (l : Launch) (Z : State) (a0 : Array Value) (hw : ∀ d ∈ tables_1, d.before a0 Z = true) (ws : List Jvm.Cond) (G1 : Int32) (kC : Addr) (uS : Value) (sS : Value) (HG : own_G l Z a0 G1 kC uS sS) (h0 : Heap) (n0 : Nat) (X00 : Old Z n0 h0) (d : Addr) (r : Addr) (hp0 : Exa Z h0 d "com/example/manque/manque/Declined") (hp1 : Unt h0 d) (hp2 : Fld Z h0 d "com/example/manque/manque/Declined" "kind" "Lcom/example/manque/manque/Declined$Kind;" .null) (hp3 : Fld Z h0 d "java/lang/Throwable" "cause" "Ljava/lang/Throwable;" .null) (hp4 : Fld Z h0 d "java/lang/Throwable" "stackTrace" "[Ljava/lang/StackTraceElement;" .null) (hp5 : Fld Z h0 d "java/lang/Throwable" "suppressedExceptions" "Ljava/util/List;" .null) (hp6 : Fld Z h0 d "java/lang/Throwable" "backtrace" "Ljava/lang/Object;" .null) (hp7 : Fld Z h0 d "java/lang/Throwable" "detailMessage" "Ljava/lang/String;" .null) (hp8 : n0 ≤ d) :
    own_CK l Z M40 jdk_78_method_2_code 2 none ws R_thi #[(.ref d), (.ref r)] h0 (Q_thi Z G1 kC uS sS d r h0 n0) := by
  refine own_K (plainFor_of_name pn_41) ?_
  intro p e s m below meth c s₁ S0 Bd hZ hh CH0 hS0 CR0 hTK0 hBL0 hx hby hml hown hnm X0 e0 hS0d
  obtain ⟨O1, P1, O2, E2, F2, hLT, OU, rU, OS, rS⟩ := id HG
  have hEL := own_EL hw
  have hSA := own_SA hw
  have N0 := Fr.nil n0
  have C0 : Steps p.tables e below S0 (s₁.setTop (mkF m 0 #[.val (.ref d), .val (.ref r)] [])) := by rw [hS0d]; exact castTop (ef_26 m d r) (Steps.refl _)
  obtain ⟨T_1, X_2, e_3, st_4⟩ := initO X0 hx hZ hown (w49 hw) (w16 hw) (w17 hw) e0 (g := (mkF m 1 #[.val (.ref d), .val (.ref r)] [(.ref d)])) rfl (by rw [hml]; rfl) rfl (hb hby d2_1) (by decide) (W := 0) (by show 2 * 0 + _ ≤ _; exact Nat.le_of_eq rfl) (by decide)
  obtain ⟨T_5, h_6, X_7, e_8, W_9, st_10⟩ := putF X_2 hx hZ hown (host := "") (Or.inl (w50 hw)) Via.refl e_3 hp3 hp0 (Or.inl (w51 hw)) (w31 hw) (ty := (.object "java/lang/Throwable")) (by decide) rfl rfl (g := (mkF m 6 #[.val (.ref d), .val (.ref r)] [(.ref d), (.ref d)])) rfl rfl (hb hby d2_6)
  have N_11 := Fr.snoc X_7 N0 hp8
  have CH_12 : CHv Z consts_1 s.vm h_6 := CHv.wr W_9 (Safe.exa hZ.alike hp0 (by decide) (by decide)) CH0
  have CR_13 : CHr Z consts_1 s.vm h0 s.vm h_6 := CR0.trans (CHr.wr W_9 (Safe.exa hZ.alike hp0 (by decide) (by decide)) CH0)
  have F_14 : Fld Z h_6 d "java/lang/Throwable" "cause" "Ljava/lang/Throwable;" (.ref d) := hp3.same W_9
  have O_19 : Old Z n0 h_6 := (X00.wr W_9 hp8)
  obtain ⟨T_15, X_16, e_17, st_18⟩ := getS X_7 hx hZ (host := "") hown (w52 hw) Via.refl e_8 (OU.ext O_19.2) (g := (mkF m 10 #[.val (.ref d), .val (.ref r)] [(.ref d)])) rfl (hb hby d2_10)
  have F_20 : Fld Z h_6 d "java/lang/Throwable" "stackTrace" "[Ljava/lang/StackTraceElement;" .null := (hp4.other W_9 (Or.inr (slot_ne (Or.inl (w54 hw)) (Or.inl (w51 hw)) (by decide) (t := (.array (.object "java/lang/StackTraceElement"))) (by decide) (t' := (.object "java/lang/Throwable")) (by decide))))
  have E_21 : Exa Z h_6 d "com/example/manque/manque/Declined" := (hp0.wr W_9)
  obtain ⟨T_22, h_23, X_24, e_25, W_26, st_27⟩ := putF X_16 hx hZ hown (host := "") (Or.inl (w53 hw)) Via.refl e_17 F_20 E_21 (Or.inl (w54 hw)) (w31 hw) (ty := (.array (.object "java/lang/StackTraceElement"))) (by decide) (own_narR rU) (own_fitR rU) (g := (mkF m 13 #[.val (.ref d), .val (.ref r)] [uS, (.ref d)])) rfl rfl (hb hby d2_13)
  have N_28 := Fr.snoc X_24 N_11 hp8
  have CH_29 : CHv Z consts_1 s.vm h_23 := CHv.wr W_26 (Safe.exa hZ.alike E_21 (by decide) (by decide)) CH_12
  have CR_30 : CHr Z consts_1 s.vm h0 s.vm h_23 := CR_13.trans (CHr.wr W_26 (Safe.exa hZ.alike E_21 (by decide) (by decide)) CH_12)
  have F_31 : Fld Z h_23 d "java/lang/Throwable" "stackTrace" "[Ljava/lang/StackTraceElement;" uS := F_20.same W_26
  have O_36 : Old Z n0 h_23 := (O_19.wr W_26 hp8)
  obtain ⟨T_32, X_33, e_34, st_35⟩ := getS X_24 hx hZ (host := "") hown (w55 hw) Via.refl e_25 (OS.ext O_36.2) (g := (mkF m 17 #[.val (.ref d), .val (.ref r)] [(.ref d)])) rfl (hb hby d2_17)
  have F_37 : Fld Z h_23 d "java/lang/Throwable" "suppressedExceptions" "Ljava/util/List;" .null := ((hp5.other W_9 (Or.inr (slot_ne (Or.inl (w57 hw)) (Or.inl (w51 hw)) (by decide) (t := (.object "java/util/List")) (by decide) (t' := (.object "java/lang/Throwable")) (by decide)))).other W_26 (Or.inr (slot_ne (Or.inl (w57 hw)) (Or.inl (w54 hw)) (by decide) (t := (.object "java/util/List")) (by decide) (t' := (.array (.object "java/lang/StackTraceElement"))) (by decide))))
  have E_38 : Exa Z h_23 d "com/example/manque/manque/Declined" := (E_21.wr W_26)
  obtain ⟨T_39, h_40, X_41, e_42, W_43, st_44⟩ := putF X_33 hx hZ hown (host := "") (Or.inl (w56 hw)) Via.refl e_34 F_37 E_38 (Or.inl (w57 hw)) (w31 hw) (ty := (.object "java/util/List")) (by decide) (own_narR rS) (own_fitR rS) (g := (mkF m 20 #[.val (.ref d), .val (.ref r)] [sS, (.ref d)])) rfl rfl (hb hby d2_20)
  have N_45 := Fr.snoc X_41 N_28 hp8
  have CH_46 : CHv Z consts_1 s.vm h_40 := CHv.wr W_43 (Safe.exa hZ.alike E_38 (by decide) (by decide)) CH_29
  have CR_47 : CHr Z consts_1 s.vm h0 s.vm h_40 := CR_30.trans (CHr.wr W_43 (Safe.exa hZ.alike E_38 (by decide) (by decide)) CH_29)
  have F_48 : Fld Z h_40 d "java/lang/Throwable" "suppressedExceptions" "Ljava/util/List;" sS := F_37.same W_43
  have hT_59 : ThS Z (s.setVm s.vm).heap := by show ThS Z s.heap; rw [hh]; exact ThS.ext X00.2 ThS.start
  have hz_60 : h_40.size = (s.setVm s.vm).heap.size := ((own_wrsz W_43).trans ((own_wrsz W_26).trans ((own_wrsz W_9).trans (by show h0.size = s.heap.size; rw [hh]))))
  have F_61 : Fld Z h_40 d "java/lang/Throwable" "stackTrace" "[Ljava/lang/StackTraceElement;" uS := (F_31.other W_43 (Or.inr (slot_ne (Or.inl (w54 hw)) (Or.inl (w57 hw)) (by decide) (t := (.array (.object "java/lang/StackTraceElement"))) (by decide) (t' := (.object "java/util/List")) (by decide))))
  have F_62 : Fld Z h_40 d "java/lang/Throwable" "backtrace" "Ljava/lang/Object;" .null := (((hp6.other W_9 (Or.inr (slot_ne (Or.inl (w82 hw)) (Or.inl (w51 hw)) (by decide) (t := (.object "java/lang/Object")) (by decide) (t' := (.object "java/lang/Throwable")) (by decide)))).other W_26 (Or.inr (slot_ne (Or.inl (w82 hw)) (Or.inl (w54 hw)) (by decide) (t := (.object "java/lang/Object")) (by decide) (t' := (.array (.object "java/lang/StackTraceElement"))) (by decide)))).other W_43 (Or.inr (slot_ne (Or.inl (w82 hw)) (Or.inl (w57 hw)) (by decide) (t := (.object "java/lang/Object")) (by decide) (t' := (.object "java/util/List")) (by decide))))
  have E_63 : Exa Z h_40 d "com/example/manque/manque/Declined" := (E_38.wr W_43)
  have U_64 : Unt h_40 d := (Unt.wr W_43 (Unt.wr W_26 (Unt.wr W_9 hp1)))
  have O_65 : Old Z n0 h_40 := (O_36.wr W_43 hp8)
  obtain ⟨T_49, h_50, v_51, X_52, e_53, Kp_54, E_55, U_56, M_57, st_58⟩ := own_fillL X_41 hx hLT hZ hown (own_exw_D hw) (w31 hw) hT_59 hTK0 hBL0 e_42 hz_60 (own_bases3 rfl) E_63 U_64 rU F_61 (OU.ext O_65.2) F_62 (g := (mkF m 24 #[.val (.ref d), .val (.ref r)] [(.ref d)])) rfl (by rw [hml]; rfl) rfl (hb hby d2_24) (by decide) (by show 2 * 0 + _ + _ ≤ _; decide) (by decide) (by decide)
  have N_66 := Fr.six (Z := Z) N_45 hp8
  have CH_67 : CHv Z consts_1 s.vm h_50 := CHv.keep (keep_of_kp Kp_54) (sfS (Safe.exa hZ.alike E_63 (by decide) (by decide)) sf0) CH_46
  have CR_68 : CHr Z consts_1 s.vm h0 s.vm h_50 := CR_47.trans (CHr.keep (keep_of_kp Kp_54) (sfS (Safe.exa hZ.alike E_63 (by decide) (by decide)) sf0) CH_46)
  obtain ⟨T_69, h_70, X_71, e_72, W_73, st_74⟩ := putF X_52 hx hZ hown (host := "") (Or.inl (w85 hw)) Via.refl e_53 M_57 E_55 (Or.inl (w81 hw)) (w31 hw) (ty := (.object "java/lang/String")) (by decide) rfl rfl (g := (mkF m 30 #[.val (.ref d), .val (.ref r)] [(.ref r), (.ref d)])) rfl rfl (hb hby d2_30)
  have N_75 := Fr.snoc X_71 N_66 hp8
  have CH_76 : CHv Z consts_1 s.vm h_70 := CHv.wr W_73 (Safe.exa hZ.alike E_55 (by decide) (by decide)) CH_67
  have CR_77 : CHr Z consts_1 s.vm h0 s.vm h_70 := CR_68.trans (CHr.wr W_73 (Safe.exa hZ.alike E_55 (by decide) (by decide)) CH_67)
  have F_78 : Fld Z h_70 d "java/lang/Throwable" "detailMessage" "Ljava/lang/String;" (.ref r) := M_57.same W_73
  have C_79 : Steps p.tables e below S0 (T_69.setTop (mkF m 33 #[.val (.ref d), .val (.ref r)] [])) := by
    refine C0.trans ?_
    refine XS.aloadN X0.here hx rfl (hb hby d2_0) rfl rfl ?_
    refine st_4 _ ?_
    refine XS.aloadN X_2.here hx rfl (hb hby d2_4) rfl rfl ?_
    refine XS.aloadN X_2.here hx rfl (hb hby d2_5) rfl rfl ?_
    refine st_10 _ ?_
    refine XS.aloadN X_7.here hx rfl (hb hby d2_9) rfl rfl ?_
    refine st_18 _ ?_
    refine st_27 _ ?_
    show Steps p.tables e below (T_22.setTop (mkF m 16 #[.val (.ref d), .val (.ref r)] [])) _
    refine XS.aloadN X_24.here hx rfl (hb hby d2_16) rfl rfl ?_
    refine st_35 _ ?_
    refine st_44 _ ?_
    refine XS.aloadN X_41.here hx rfl (hb hby d2_23) rfl rfl ?_
    refine st_58 _ ?_
    refine XS.pop X_52.here hx rfl (hb hby d2_27) rfl rfl ?_
    refine XS.aloadN X_52.here hx rfl (hb hby d2_28) rfl rfl ?_
    refine XS.aloadN X_52.here hx rfl (hb hby d2_29) rfl rfl ?_
    show Steps p.tables e below (T_49.setTop (mkF m 30 #[.val (.ref d), .val (.ref r)] [(.ref r), (.ref d)])) _
    refine st_74 _ ?_
    exact Steps.refl _
  have E_80 : Exa Z h_70 d "com/example/manque/manque/Declined" := (E_55.wr W_73)
  have F_81 : Fld Z h_70 d "com/example/manque/manque/Declined" "kind" "Lcom/example/manque/manque/Declined$Kind;" .null := ((Fld.kp Kp_54 (((hp2.other W_9 (Or.inr (slot_ne (Or.inr (w87 hw)) (Or.inl (w51 hw)) (by decide) (t := (.object "com/example/manque/manque/Declined$Kind")) (by decide) (t' := (.object "java/lang/Throwable")) (by decide)))).other W_26 (Or.inr (slot_ne (Or.inr (w87 hw)) (Or.inl (w54 hw)) (by decide) (t := (.object "com/example/manque/manque/Declined$Kind")) (by decide) (t' := (.array (.object "java/lang/StackTraceElement"))) (by decide)))).other W_43 (Or.inr (slot_ne (Or.inr (w87 hw)) (Or.inl (w57 hw)) (by decide) (t := (.object "com/example/manque/manque/Declined$Kind")) (by decide) (t' := (.object "java/util/List")) (by decide)))) (Or.inr (own_six_ne (own_exw_D hw) (Or.inr (w87 hw)) (ty := (.object "com/example/manque/manque/Declined$Kind")) (by decide) (by decide)))).other W_73 (Or.inr (slot_ne (Or.inr (w87 hw)) (Or.inl (w81 hw)) (by decide) (t := (.object "com/example/manque/manque/Declined$Kind")) (by decide) (t' := (.object "java/lang/String")) (by decide))))
  have K_82 : Keep h0 h_70 [d] := ((((((Keep.refl _ _).wr W_9 (Or.inl (List.mem_of_getElem? (i := 0) rfl))).wr W_26 (Or.inl (List.mem_of_getElem? (i := 0) rfl))).wr W_43 (Or.inl (List.mem_of_getElem? (i := 0) rfl))).trans (keep_of_kp Kp_54) (allS (Or.inl (List.mem_of_getElem? (i := 0) rfl)) all0)).wr W_73 (Or.inl (List.mem_of_getElem? (i := 0) rfl)))
  obtain ⟨fs, hr, hrun, hended, hRE⟩ := X_71.leaveW hS0 (by rw [show T_69.heap = h_70 from e_72]; exact (Nat.le_trans (Nat.le_refl _) (Nat.le_trans (Nat.le_trans (Nat.le_trans (Nat.le_trans (Keep.of_wr W_9).1 (Keep.of_wr W_26).1) (Keep.of_wr W_43).1) Kp_54.1) (Keep.of_wr W_73).1))) (v := none) (fun _ => rfl)
  refine ⟨_, _, C_79.trans (X_71.returnOut hx Bd.returns (hb hby d2_33) hr), hrun, hended, _, _, rfl, ?_, ?_, hRE.1, hRE.2.1, hRE.2.2.1, hRE.2.2.2.mono (by decide) (by decide)⟩
  · show Q_thi Z G1 kC uS sS d r h0 n0 (none) T_69.heap _
    rw [e_72]
    exact ⟨rfl, N_75, K_82, E_80, F_81, F_78⟩
  · show CHr Z consts_1 s.vm s.heap T_69.vm T_69.heap
    rw [hh, show T_69.heap = h_70 from e_72]
    exact CR_77.trans (CHv.at X_71 hZ hEL CH_76)
abbrev M74 : MethodName := ⟨"java/lang/Exception", "<init>", "(Ljava/lang/String;)V"⟩
theorem pn_75 : plainName "java/lang/Exception" = true := by first | (simp [plainName, overriddenIn]; done) | decide +kernel
theorem d3_0 : decode jdk_59_method_2_code 0 = .ok (.aload_n 0, 1) := by decide +kernel
theorem d3_1 : decode jdk_59_method_2_code 1 = .ok (.aload_n 1, 1) := by decide +kernel
theorem w48 {Z : State} {a0 : Array Value} (hw : ∀ d ∈ tables_1, d.before a0 Z = true) : Jvm.Cond.before (Jvm.Cond.code ({ cls := "java/lang/Throwable", name := "<init>", desc := "(Ljava/lang/String;)V" } : Jvm.MethodName) jdk_78_method_2_code (2 : Nat) (Option.none : Option Jvm.ClassFile.FieldType)) a0 Z = true := hw _ (List.mem_of_getElem? (i := 48) rfl)
theorem w47 {Z : State} {a0 : Array Value} (hw : ∀ d ∈ tables_1, d.before a0 Z = true) : Jvm.Cond.before (Jvm.Cond.initialized "java/lang/Throwable") a0 Z = true := hw _ (List.mem_of_getElem? (i := 47) rfl)
theorem pd_80 : parseMethodDescriptor "(Ljava/lang/String;)V" = some ⟨[(.object "java/lang/String")], none⟩ := by decide +kernel
theorem d3_2 : decode jdk_59_method_2_code 2 = .ok (.invokespecial 7, 3) := by decide +kernel
theorem w43 {Z : State} {a0 : Array Value} (hw : ∀ d ∈ tables_1, d.before a0 Z = true) : Jvm.Cond.before (Jvm.Cond.methodLink "java/lang/Exception" (7 : Nat) ({ cls := "java/lang/Throwable", name := "<init>", desc := "(Ljava/lang/String;)V" } : Jvm.MethodName)) a0 Z = true := hw _ (List.mem_of_getElem? (i := 43) rfl)
theorem w44 {Z : State} {a0 : Array Value} (hw : ∀ d ∈ tables_1, d.before a0 Z = true) : Jvm.Cond.before (Jvm.Cond.instanceMethod ({ cls := "java/lang/Throwable", name := "<init>", desc := "(Ljava/lang/String;)V" } : Jvm.MethodName)) a0 Z = true := hw _ (List.mem_of_getElem? (i := 44) rfl)
theorem d3_5 : decode jdk_59_method_2_code 5 = .ok (.return_, 1) := by decide +kernel
abbrev R_ex0 : Room := { frames := 4, cells := 1, slots := 2752, locals := 55 }
def Q_ex0 (Z : State) (G1 : Int32) (kC : Addr) (uS : Value) (sS : Value) (d : Addr) (r : Addr) (h0 : Heap) (n0 : Nat) (v : Option Value) (h : Heap) (L : List Loc) : Prop := (v = none ∧ Fr n0 L ∧ Keep h0 h [d] ∧ (Exa Z h d "com/example/manque/manque/Declined") ∧ (Fld Z h d "com/example/manque/manque/Declined" "kind" "Lcom/example/manque/manque/Declined$Kind;" .null) ∧ (Fld Z h d "java/lang/Throwable" "detailMessage" "Ljava/lang/String;" (.ref r)))
set_option maxRecDepth 65536 in
set_option maxHeartbeats 40000000 in
theorem rm_ex0 (l : Launch) (Z : State) (a0 : Array Value) (hw : ∀ d ∈ tables_1, d.before a0 Z = true) (ws : List Jvm.Cond) (G1 : Int32) (kC : Addr) (uS : Value) (sS : Value) (HG : own_G l Z a0 G1 kC uS sS) (h0 : Heap) (n0 : Nat) (X00 : Old Z n0 h0) (d : Addr) (r : Addr) (hp0 : Exa Z h0 d "com/example/manque/manque/Declined") (hp1 : Unt h0 d) (hp2 : Fld Z h0 d "com/example/manque/manque/Declined" "kind" "Lcom/example/manque/manque/Declined$Kind;" .null) (hp3 : Fld Z h0 d "java/lang/Throwable" "cause" "Ljava/lang/Throwable;" .null) (hp4 : Fld Z h0 d "java/lang/Throwable" "stackTrace" "[Ljava/lang/StackTraceElement;" .null) (hp5 : Fld Z h0 d "java/lang/Throwable" "suppressedExceptions" "Ljava/util/List;" .null) (hp6 : Fld Z h0 d "java/lang/Throwable" "backtrace" "Ljava/lang/Object;" .null) (hp7 : Fld Z h0 d "java/lang/Throwable" "detailMessage" "Ljava/lang/String;" .null) (hp8 : n0 ≤ d) :
    own_CK l Z M74 jdk_59_method_2_code 2 none ws R_ex0 #[(.ref d), (.ref r)] h0 (Q_ex0 Z G1 kC uS sS d r h0 n0) := by
  refine own_K (plainFor_of_name pn_75) ?_
  intro p e s m below meth c s₁ S0 Bd hZ hh CH0 hS0 CR0 hTK0 hBL0 hx hby hml hown hnm X0 e0 hS0d
  obtain ⟨O1, P1, O2, E2, F2, hLT, OU, rU, OS, rS⟩ := id HG
  have hEL := own_EL hw
  have hSA := own_SA hw
  have N0 := Fr.nil n0
  have C0 : Steps p.tables e below S0 (s₁.setTop (mkF m 0 #[.val (.ref d), .val (.ref r)] [])) := by rw [hS0d]; exact castTop (ef_26 m d r) (Steps.refl _)
  obtain ⟨_, _, ⟨T_1, L_1, k_1, n_1⟩, -, Y_1, S_1, G_1, ⟨Lc_1, hQ_1, l_1, y_1, z_1, R_1⟩, st_1⟩ := X0.specialBackS hx (y := M40) rfl hown (mvT hZ (w43 hw)) (mvT hZ (w44 hw)) (mvT hZ (w48 hw)) (by decide) (backOfSKH (vm0 := s.vm) (W := 0) (rm_thi l Z a0 hw [] G1 kC uS sS HG h0 n0 X00 d r hp0 hp1 hp2 hp3 hp4 hp5 hp6 hp7 hp8) hZ (w48 hw) (w47 hw) (by decide) (by decide) hEL CH0 hTK0 hBL0) (g := (mkF m 2 #[.val (.ref d), .val (.ref r)] [(.ref r), (.ref d)])) rfl (by rw [hml]; rfl) (Steps.refl _) (a := d) (argsL := [(.ref r)]) (rest := []) (lenOf pd_80 rfl) rfl (by show 2 * 0 + _ ≤ _; exact Nat.le_of_eq rfl) (hb hby d3_2) (fun _ _ => ⟨rfl, e0, (by decide : 0 + 1 ≤ _), (by decide : 0 + 2752 ≤ _)⟩)
  dsimp only [Pt.U, Pt.locs, Pt.cells, Pt.slots] at Y_1 S_1 G_1 l_1 y_1 z_1 st_1 hQ_1 R_1
  subst l_1 y_1 z_1
  obtain ⟨X_1, hS_1, hZ_1, hown_1⟩ := rebS hS0 (n1 := s₁.heap.size) (by rw [show s₁.heap = h0 from e0]; exact (Nat.le_refl _)) Y_1 S_1 G_1 hZ hown
  obtain ⟨rfl, N_2, K_3, g_4, g_5, g_6⟩ := hQ_1
  have N_7 := Fr.app N0 N_2
  have CH_8 : CHv Z consts_1 T_1.vm T_1.heap := R_1.1
  have CR_9 : CHr Z consts_1 s.vm h0 T_1.vm T_1.heap := CR0.trans R_1
  have hTK_10 : (s.setVm T_1.vm).vm.MethodsKnown := Vm.MethodsKnown.alikeC (hS_1.1.alike) hTK0
  have hBL_11 : (s.setVm T_1.vm).vm.FramesKnown below := Vm.FramesKnown.alikeC (hS_1.1.alike) hBL0
  have C_12 : Steps p.tables e below S0 (T_1.setTop (mkF m 5 #[.val (.ref d), .val (.ref r)] [])) := by
    refine C0.trans ?_
    refine XS.aloadN X0.here hx rfl (hb hby d3_0) rfl rfl ?_
    refine XS.aloadN X0.here hx rfl (hb hby d3_1) rfl rfl ?_
    refine st_1.trans ?_
    exact Steps.refl _
  have K_13 : Keep h0 T_1.heap [d] := ((Keep.refl _ _).trans K_3 (allS (Or.inl (List.mem_of_getElem? (i := 0) rfl)) all0))
  obtain ⟨fs, hr, hrun, hended, hRE⟩ := X_1.leaveW hS_1 (by rw [show T_1.heap = T_1.heap from rfl]; exact (Nat.le_refl _)) (v := none) (fun _ => rfl)
  refine ⟨_, _, C_12.trans (X_1.returnOut hx Bd.returns (hb hby d3_5) hr), hrun, hended, _, _, rfl, ?_, ?_, hRE.1, hRE.2.1, hRE.2.2.1, hRE.2.2.2.mono (by decide) (by decide)⟩
  · show Q_ex0 Z G1 kC uS sS d r h0 n0 (none) T_1.heap _
    exact ⟨rfl, N_7, K_13, g_4, g_5, g_6⟩
  · show CHr Z consts_1 s.vm s.heap T_1.vm T_1.heap
    rw [hh]
    exact CR_9.trans (CHv.at X_1 hZ_1 hEL CH_8)
theorem ef_85 (m : MethodId) (x0 : Addr) : entryFrame m #[(.ref x0), .null] 2 = mkF m 0 #[.val (.ref x0), .val .null] [] := by first | (simp [entryFrame, mkF, argsToLocals, Value.category]; done) | rfl
abbrev R_thi0 : Room := { frames := 3, cells := 1, slots := 2752, locals := 42 }
def Q_thi0 (Z : State) (G1 : Int32) (kC : Addr) (uS : Value) (sS : Value) (d : Addr) (h0 : Heap) (n0 : Nat) (v : Option Value) (h : Heap) (L : List Loc) : Prop := (v = none ∧ Fr n0 L ∧ Keep h0 h [d] ∧ (Exa Z h d "com/example/manque/manque/Declined") ∧ (Fld Z h d "com/example/manque/manque/Declined" "kind" "Lcom/example/manque/manque/Declined$Kind;" .null) ∧ (Fld Z h d "java/lang/Throwable" "detailMessage" "Ljava/lang/String;" .null))
set_option maxRecDepth 65536 in
set_option maxHeartbeats 40000000 in
theorem rm_thi0 (l : Launch) (Z : State) (a0 : Array Value) (hw : ∀ d ∈ tables_1, d.before a0 Z = true) (ws : List Jvm.Cond) (G1 : Int32) (kC : Addr) (uS : Value) (sS : Value) (HG : own_G l Z a0 G1 kC uS sS) (h0 : Heap) (n0 : Nat) (X00 : Old Z n0 h0) (d : Addr) (hp0 : Exa Z h0 d "com/example/manque/manque/Declined") (hp1 : Unt h0 d) (hp2 : Fld Z h0 d "com/example/manque/manque/Declined" "kind" "Lcom/example/manque/manque/Declined$Kind;" .null) (hp3 : Fld Z h0 d "java/lang/Throwable" "cause" "Ljava/lang/Throwable;" .null) (hp4 : Fld Z h0 d "java/lang/Throwable" "stackTrace" "[Ljava/lang/StackTraceElement;" .null) (hp5 : Fld Z h0 d "java/lang/Throwable" "suppressedExceptions" "Ljava/util/List;" .null) (hp6 : Fld Z h0 d "java/lang/Throwable" "backtrace" "Ljava/lang/Object;" .null) (hp7 : Fld Z h0 d "java/lang/Throwable" "detailMessage" "Ljava/lang/String;" .null) (hp8 : n0 ≤ d) :
    own_CK l Z M40 jdk_78_method_2_code 2 none ws R_thi0 #[(.ref d), .null] h0 (Q_thi0 Z G1 kC uS sS d h0 n0) := by
  refine own_K (plainFor_of_name pn_41) ?_
  intro p e s m below meth c s₁ S0 Bd hZ hh CH0 hS0 CR0 hTK0 hBL0 hx hby hml hown hnm X0 e0 hS0d
  obtain ⟨O1, P1, O2, E2, F2, hLT, OU, rU, OS, rS⟩ := id HG
  have hEL := own_EL hw
  have hSA := own_SA hw
  have N0 := Fr.nil n0
  have C0 : Steps p.tables e below S0 (s₁.setTop (mkF m 0 #[.val (.ref d), .val .null] [])) := by rw [hS0d]; exact castTop (ef_85 m d) (Steps.refl _)
  obtain ⟨T_1, X_2, e_3, st_4⟩ := initO X0 hx hZ hown (w49 hw) (w16 hw) (w17 hw) e0 (g := (mkF m 1 #[.val (.ref d), .val .null] [(.ref d)])) rfl (by rw [hml]; rfl) rfl (hb hby d2_1) (by decide) (W := 0) (by show 2 * 0 + _ ≤ _; exact Nat.le_of_eq rfl) (by decide)
  obtain ⟨T_5, h_6, X_7, e_8, W_9, st_10⟩ := putF X_2 hx hZ hown (host := "") (Or.inl (w50 hw)) Via.refl e_3 hp3 hp0 (Or.inl (w51 hw)) (w31 hw) (ty := (.object "java/lang/Throwable")) (by decide) rfl rfl (g := (mkF m 6 #[.val (.ref d), .val .null] [(.ref d), (.ref d)])) rfl rfl (hb hby d2_6)
  have N_11 := Fr.snoc X_7 N0 hp8
  have CH_12 : CHv Z consts_1 s.vm h_6 := CHv.wr W_9 (Safe.exa hZ.alike hp0 (by decide) (by decide)) CH0
  have CR_13 : CHr Z consts_1 s.vm h0 s.vm h_6 := CR0.trans (CHr.wr W_9 (Safe.exa hZ.alike hp0 (by decide) (by decide)) CH0)
  have F_14 : Fld Z h_6 d "java/lang/Throwable" "cause" "Ljava/lang/Throwable;" (.ref d) := hp3.same W_9
  have O_19 : Old Z n0 h_6 := (X00.wr W_9 hp8)
  obtain ⟨T_15, X_16, e_17, st_18⟩ := getS X_7 hx hZ (host := "") hown (w52 hw) Via.refl e_8 (OU.ext O_19.2) (g := (mkF m 10 #[.val (.ref d), .val .null] [(.ref d)])) rfl (hb hby d2_10)
  have F_20 : Fld Z h_6 d "java/lang/Throwable" "stackTrace" "[Ljava/lang/StackTraceElement;" .null := (hp4.other W_9 (Or.inr (slot_ne (Or.inl (w54 hw)) (Or.inl (w51 hw)) (by decide) (t := (.array (.object "java/lang/StackTraceElement"))) (by decide) (t' := (.object "java/lang/Throwable")) (by decide))))
  have E_21 : Exa Z h_6 d "com/example/manque/manque/Declined" := (hp0.wr W_9)
  obtain ⟨T_22, h_23, X_24, e_25, W_26, st_27⟩ := putF X_16 hx hZ hown (host := "") (Or.inl (w53 hw)) Via.refl e_17 F_20 E_21 (Or.inl (w54 hw)) (w31 hw) (ty := (.array (.object "java/lang/StackTraceElement"))) (by decide) (own_narR rU) (own_fitR rU) (g := (mkF m 13 #[.val (.ref d), .val .null] [uS, (.ref d)])) rfl rfl (hb hby d2_13)
  have N_28 := Fr.snoc X_24 N_11 hp8
  have CH_29 : CHv Z consts_1 s.vm h_23 := CHv.wr W_26 (Safe.exa hZ.alike E_21 (by decide) (by decide)) CH_12
  have CR_30 : CHr Z consts_1 s.vm h0 s.vm h_23 := CR_13.trans (CHr.wr W_26 (Safe.exa hZ.alike E_21 (by decide) (by decide)) CH_12)
  have F_31 : Fld Z h_23 d "java/lang/Throwable" "stackTrace" "[Ljava/lang/StackTraceElement;" uS := F_20.same W_26
  have O_36 : Old Z n0 h_23 := (O_19.wr W_26 hp8)
  obtain ⟨T_32, X_33, e_34, st_35⟩ := getS X_24 hx hZ (host := "") hown (w55 hw) Via.refl e_25 (OS.ext O_36.2) (g := (mkF m 17 #[.val (.ref d), .val .null] [(.ref d)])) rfl (hb hby d2_17)
  have F_37 : Fld Z h_23 d "java/lang/Throwable" "suppressedExceptions" "Ljava/util/List;" .null := ((hp5.other W_9 (Or.inr (slot_ne (Or.inl (w57 hw)) (Or.inl (w51 hw)) (by decide) (t := (.object "java/util/List")) (by decide) (t' := (.object "java/lang/Throwable")) (by decide)))).other W_26 (Or.inr (slot_ne (Or.inl (w57 hw)) (Or.inl (w54 hw)) (by decide) (t := (.object "java/util/List")) (by decide) (t' := (.array (.object "java/lang/StackTraceElement"))) (by decide))))
  have E_38 : Exa Z h_23 d "com/example/manque/manque/Declined" := (E_21.wr W_26)
  obtain ⟨T_39, h_40, X_41, e_42, W_43, st_44⟩ := putF X_33 hx hZ hown (host := "") (Or.inl (w56 hw)) Via.refl e_34 F_37 E_38 (Or.inl (w57 hw)) (w31 hw) (ty := (.object "java/util/List")) (by decide) (own_narR rS) (own_fitR rS) (g := (mkF m 20 #[.val (.ref d), .val .null] [sS, (.ref d)])) rfl rfl (hb hby d2_20)
  have N_45 := Fr.snoc X_41 N_28 hp8
  have CH_46 : CHv Z consts_1 s.vm h_40 := CHv.wr W_43 (Safe.exa hZ.alike E_38 (by decide) (by decide)) CH_29
  have CR_47 : CHr Z consts_1 s.vm h0 s.vm h_40 := CR_30.trans (CHr.wr W_43 (Safe.exa hZ.alike E_38 (by decide) (by decide)) CH_29)
  have F_48 : Fld Z h_40 d "java/lang/Throwable" "suppressedExceptions" "Ljava/util/List;" sS := F_37.same W_43
  have hT_59 : ThS Z (s.setVm s.vm).heap := by show ThS Z s.heap; rw [hh]; exact ThS.ext X00.2 ThS.start
  have hz_60 : h_40.size = (s.setVm s.vm).heap.size := ((own_wrsz W_43).trans ((own_wrsz W_26).trans ((own_wrsz W_9).trans (by show h0.size = s.heap.size; rw [hh]))))
  have F_61 : Fld Z h_40 d "java/lang/Throwable" "stackTrace" "[Ljava/lang/StackTraceElement;" uS := (F_31.other W_43 (Or.inr (slot_ne (Or.inl (w54 hw)) (Or.inl (w57 hw)) (by decide) (t := (.array (.object "java/lang/StackTraceElement"))) (by decide) (t' := (.object "java/util/List")) (by decide))))
  have F_62 : Fld Z h_40 d "java/lang/Throwable" "backtrace" "Ljava/lang/Object;" .null := (((hp6.other W_9 (Or.inr (slot_ne (Or.inl (w82 hw)) (Or.inl (w51 hw)) (by decide) (t := (.object "java/lang/Object")) (by decide) (t' := (.object "java/lang/Throwable")) (by decide)))).other W_26 (Or.inr (slot_ne (Or.inl (w82 hw)) (Or.inl (w54 hw)) (by decide) (t := (.object "java/lang/Object")) (by decide) (t' := (.array (.object "java/lang/StackTraceElement"))) (by decide)))).other W_43 (Or.inr (slot_ne (Or.inl (w82 hw)) (Or.inl (w57 hw)) (by decide) (t := (.object "java/lang/Object")) (by decide) (t' := (.object "java/util/List")) (by decide))))
  have E_63 : Exa Z h_40 d "com/example/manque/manque/Declined" := (E_38.wr W_43)
  have U_64 : Unt h_40 d := (Unt.wr W_43 (Unt.wr W_26 (Unt.wr W_9 hp1)))
  have O_65 : Old Z n0 h_40 := (O_36.wr W_43 hp8)
  obtain ⟨T_49, h_50, v_51, X_52, e_53, Kp_54, E_55, U_56, M_57, st_58⟩ := own_fillL X_41 hx hLT hZ hown (own_exw_D hw) (w31 hw) hT_59 hTK0 hBL0 e_42 hz_60 (own_bases3 rfl) E_63 U_64 rU F_61 (OU.ext O_65.2) F_62 (g := (mkF m 24 #[.val (.ref d), .val .null] [(.ref d)])) rfl (by rw [hml]; rfl) rfl (hb hby d2_24) (by decide) (by show 2 * 0 + _ + _ ≤ _; decide) (by decide) (by decide)
  have N_66 := Fr.six (Z := Z) N_45 hp8
  have CH_67 : CHv Z consts_1 s.vm h_50 := CHv.keep (keep_of_kp Kp_54) (sfS (Safe.exa hZ.alike E_63 (by decide) (by decide)) sf0) CH_46
  have CR_68 : CHr Z consts_1 s.vm h0 s.vm h_50 := CR_47.trans (CHr.keep (keep_of_kp Kp_54) (sfS (Safe.exa hZ.alike E_63 (by decide) (by decide)) sf0) CH_46)
  obtain ⟨T_69, h_70, X_71, e_72, W_73, st_74⟩ := putF X_52 hx hZ hown (host := "") (Or.inl (w85 hw)) Via.refl e_53 M_57 E_55 (Or.inl (w81 hw)) (w31 hw) (ty := (.object "java/lang/String")) (by decide) rfl rfl (g := (mkF m 30 #[.val (.ref d), .val .null] [.null, (.ref d)])) rfl rfl (hb hby d2_30)
  have N_75 := Fr.snoc X_71 N_66 hp8
  have CH_76 : CHv Z consts_1 s.vm h_70 := CHv.wr W_73 (Safe.exa hZ.alike E_55 (by decide) (by decide)) CH_67
  have CR_77 : CHr Z consts_1 s.vm h0 s.vm h_70 := CR_68.trans (CHr.wr W_73 (Safe.exa hZ.alike E_55 (by decide) (by decide)) CH_67)
  have F_78 : Fld Z h_70 d "java/lang/Throwable" "detailMessage" "Ljava/lang/String;" .null := M_57.same W_73
  have C_79 : Steps p.tables e below S0 (T_69.setTop (mkF m 33 #[.val (.ref d), .val .null] [])) := by
    refine C0.trans ?_
    refine XS.aloadN X0.here hx rfl (hb hby d2_0) rfl rfl ?_
    refine st_4 _ ?_
    refine XS.aloadN X_2.here hx rfl (hb hby d2_4) rfl rfl ?_
    refine XS.aloadN X_2.here hx rfl (hb hby d2_5) rfl rfl ?_
    refine st_10 _ ?_
    refine XS.aloadN X_7.here hx rfl (hb hby d2_9) rfl rfl ?_
    refine st_18 _ ?_
    refine st_27 _ ?_
    show Steps p.tables e below (T_22.setTop (mkF m 16 #[.val (.ref d), .val .null] [])) _
    refine XS.aloadN X_24.here hx rfl (hb hby d2_16) rfl rfl ?_
    refine st_35 _ ?_
    refine st_44 _ ?_
    refine XS.aloadN X_41.here hx rfl (hb hby d2_23) rfl rfl ?_
    refine st_58 _ ?_
    refine XS.pop X_52.here hx rfl (hb hby d2_27) rfl rfl ?_
    refine XS.aloadN X_52.here hx rfl (hb hby d2_28) rfl rfl ?_
    refine XS.aloadN X_52.here hx rfl (hb hby d2_29) rfl rfl ?_
    show Steps p.tables e below (T_49.setTop (mkF m 30 #[.val (.ref d), .val .null] [.null, (.ref d)])) _
    refine st_74 _ ?_
    exact Steps.refl _
  have E_80 : Exa Z h_70 d "com/example/manque/manque/Declined" := (E_55.wr W_73)
  have F_81 : Fld Z h_70 d "com/example/manque/manque/Declined" "kind" "Lcom/example/manque/manque/Declined$Kind;" .null := ((Fld.kp Kp_54 (((hp2.other W_9 (Or.inr (slot_ne (Or.inr (w87 hw)) (Or.inl (w51 hw)) (by decide) (t := (.object "com/example/manque/manque/Declined$Kind")) (by decide) (t' := (.object "java/lang/Throwable")) (by decide)))).other W_26 (Or.inr (slot_ne (Or.inr (w87 hw)) (Or.inl (w54 hw)) (by decide) (t := (.object "com/example/manque/manque/Declined$Kind")) (by decide) (t' := (.array (.object "java/lang/StackTraceElement"))) (by decide)))).other W_43 (Or.inr (slot_ne (Or.inr (w87 hw)) (Or.inl (w57 hw)) (by decide) (t := (.object "com/example/manque/manque/Declined$Kind")) (by decide) (t' := (.object "java/util/List")) (by decide)))) (Or.inr (own_six_ne (own_exw_D hw) (Or.inr (w87 hw)) (ty := (.object "com/example/manque/manque/Declined$Kind")) (by decide) (by decide)))).other W_73 (Or.inr (slot_ne (Or.inr (w87 hw)) (Or.inl (w81 hw)) (by decide) (t := (.object "com/example/manque/manque/Declined$Kind")) (by decide) (t' := (.object "java/lang/String")) (by decide))))
  have K_82 : Keep h0 h_70 [d] := ((((((Keep.refl _ _).wr W_9 (Or.inl (List.mem_of_getElem? (i := 0) rfl))).wr W_26 (Or.inl (List.mem_of_getElem? (i := 0) rfl))).wr W_43 (Or.inl (List.mem_of_getElem? (i := 0) rfl))).trans (keep_of_kp Kp_54) (allS (Or.inl (List.mem_of_getElem? (i := 0) rfl)) all0)).wr W_73 (Or.inl (List.mem_of_getElem? (i := 0) rfl)))
  obtain ⟨fs, hr, hrun, hended, hRE⟩ := X_71.leaveW hS0 (by rw [show T_69.heap = h_70 from e_72]; exact (Nat.le_trans (Nat.le_refl _) (Nat.le_trans (Nat.le_trans (Nat.le_trans (Nat.le_trans (Keep.of_wr W_9).1 (Keep.of_wr W_26).1) (Keep.of_wr W_43).1) Kp_54.1) (Keep.of_wr W_73).1))) (v := none) (fun _ => rfl)
  refine ⟨_, _, C_79.trans (X_71.returnOut hx Bd.returns (hb hby d2_33) hr), hrun, hended, _, _, rfl, ?_, ?_, hRE.1, hRE.2.1, hRE.2.2.1, hRE.2.2.2.mono (by decide) (by decide)⟩
  · show Q_thi0 Z G1 kC uS sS d h0 n0 (none) T_69.heap _
    rw [e_72]
    exact ⟨rfl, N_75, K_82, E_80, F_81, F_78⟩
  · show CHr Z consts_1 s.vm s.heap T_69.vm T_69.heap
    rw [hh, show T_69.heap = h_70 from e_72]
    exact CR_77.trans (CHv.at X_71 hZ hEL CH_76)
abbrev R_ex00 : Room := { frames := 4, cells := 1, slots := 2752, locals := 55 }
def Q_ex00 (Z : State) (G1 : Int32) (kC : Addr) (uS : Value) (sS : Value) (d : Addr) (h0 : Heap) (n0 : Nat) (v : Option Value) (h : Heap) (L : List Loc) : Prop := (v = none ∧ Fr n0 L ∧ Keep h0 h [d] ∧ (Exa Z h d "com/example/manque/manque/Declined") ∧ (Fld Z h d "com/example/manque/manque/Declined" "kind" "Lcom/example/manque/manque/Declined$Kind;" .null) ∧ (Fld Z h d "java/lang/Throwable" "detailMessage" "Ljava/lang/String;" .null))
set_option maxRecDepth 65536 in
set_option maxHeartbeats 40000000 in
theorem rm_ex00 (l : Launch) (Z : State) (a0 : Array Value) (hw : ∀ d ∈ tables_1, d.before a0 Z = true) (ws : List Jvm.Cond) (G1 : Int32) (kC : Addr) (uS : Value) (sS : Value) (HG : own_G l Z a0 G1 kC uS sS) (h0 : Heap) (n0 : Nat) (X00 : Old Z n0 h0) (d : Addr) (hp0 : Exa Z h0 d "com/example/manque/manque/Declined") (hp1 : Unt h0 d) (hp2 : Fld Z h0 d "com/example/manque/manque/Declined" "kind" "Lcom/example/manque/manque/Declined$Kind;" .null) (hp3 : Fld Z h0 d "java/lang/Throwable" "cause" "Ljava/lang/Throwable;" .null) (hp4 : Fld Z h0 d "java/lang/Throwable" "stackTrace" "[Ljava/lang/StackTraceElement;" .null) (hp5 : Fld Z h0 d "java/lang/Throwable" "suppressedExceptions" "Ljava/util/List;" .null) (hp6 : Fld Z h0 d "java/lang/Throwable" "backtrace" "Ljava/lang/Object;" .null) (hp7 : Fld Z h0 d "java/lang/Throwable" "detailMessage" "Ljava/lang/String;" .null) (hp8 : n0 ≤ d) :
    own_CK l Z M74 jdk_59_method_2_code 2 none ws R_ex00 #[(.ref d), .null] h0 (Q_ex00 Z G1 kC uS sS d h0 n0) := by
  refine own_K (plainFor_of_name pn_75) ?_
  intro p e s m below meth c s₁ S0 Bd hZ hh CH0 hS0 CR0 hTK0 hBL0 hx hby hml hown hnm X0 e0 hS0d
  obtain ⟨O1, P1, O2, E2, F2, hLT, OU, rU, OS, rS⟩ := id HG
  have hEL := own_EL hw
  have hSA := own_SA hw
  have N0 := Fr.nil n0
  have C0 : Steps p.tables e below S0 (s₁.setTop (mkF m 0 #[.val (.ref d), .val .null] [])) := by rw [hS0d]; exact castTop (ef_85 m d) (Steps.refl _)
  obtain ⟨_, _, ⟨T_1, L_1, k_1, n_1⟩, -, Y_1, S_1, G_1, ⟨Lc_1, hQ_1, l_1, y_1, z_1, R_1⟩, st_1⟩ := X0.specialBackS hx (y := M40) rfl hown (mvT hZ (w43 hw)) (mvT hZ (w44 hw)) (mvT hZ (w48 hw)) (by decide) (backOfSKH (vm0 := s.vm) (W := 0) (rm_thi0 l Z a0 hw [] G1 kC uS sS HG h0 n0 X00 d hp0 hp1 hp2 hp3 hp4 hp5 hp6 hp7 hp8) hZ (w48 hw) (w47 hw) (by decide) (by decide) hEL CH0 hTK0 hBL0) (g := (mkF m 2 #[.val (.ref d), .val .null] [.null, (.ref d)])) rfl (by rw [hml]; rfl) (Steps.refl _) (a := d) (argsL := [.null]) (rest := []) (lenOf pd_80 rfl) rfl (by show 2 * 0 + _ ≤ _; exact Nat.le_of_eq rfl) (hb hby d3_2) (fun _ _ => ⟨rfl, e0, (by decide : 0 + 1 ≤ _), (by decide : 0 + 2752 ≤ _)⟩)
  dsimp only [Pt.U, Pt.locs, Pt.cells, Pt.slots] at Y_1 S_1 G_1 l_1 y_1 z_1 st_1 hQ_1 R_1
  subst l_1 y_1 z_1
  obtain ⟨X_1, hS_1, hZ_1, hown_1⟩ := rebS hS0 (n1 := s₁.heap.size) (by rw [show s₁.heap = h0 from e0]; exact (Nat.le_refl _)) Y_1 S_1 G_1 hZ hown
  obtain ⟨rfl, N_2, K_3, g_4, g_5, g_6⟩ := hQ_1
  have N_7 := Fr.app N0 N_2
  have CH_8 : CHv Z consts_1 T_1.vm T_1.heap := R_1.1
  have CR_9 : CHr Z consts_1 s.vm h0 T_1.vm T_1.heap := CR0.trans R_1
  have hTK_10 : (s.setVm T_1.vm).vm.MethodsKnown := Vm.MethodsKnown.alikeC (hS_1.1.alike) hTK0
  have hBL_11 : (s.setVm T_1.vm).vm.FramesKnown below := Vm.FramesKnown.alikeC (hS_1.1.alike) hBL0
  have C_12 : Steps p.tables e below S0 (T_1.setTop (mkF m 5 #[.val (.ref d), .val .null] [])) := by
    refine C0.trans ?_
    refine XS.aloadN X0.here hx rfl (hb hby d3_0) rfl rfl ?_
    refine XS.aloadN X0.here hx rfl (hb hby d3_1) rfl rfl ?_
    refine st_1.trans ?_
    exact Steps.refl _
  have K_13 : Keep h0 T_1.heap [d] := ((Keep.refl _ _).trans K_3 (allS (Or.inl (List.mem_of_getElem? (i := 0) rfl)) all0))
  obtain ⟨fs, hr, hrun, hended, hRE⟩ := X_1.leaveW hS_1 (by rw [show T_1.heap = T_1.heap from rfl]; exact (Nat.le_refl _)) (v := none) (fun _ => rfl)
  refine ⟨_, _, C_12.trans (X_1.returnOut hx Bd.returns (hb hby d3_5) hr), hrun, hended, _, _, rfl, ?_, ?_, hRE.1, hRE.2.1, hRE.2.2.1, hRE.2.2.2.mono (by decide) (by decide)⟩
  · show Q_ex00 Z G1 kC uS sS d h0 n0 (none) T_1.heap _
    exact ⟨rfl, N_7, K_13, g_4, g_5, g_6⟩
  · show CHr Z consts_1 s.vm s.heap T_1.vm T_1.heap
    rw [hh]
    exact CR_9.trans (CHv.at X_1 hZ_1 hEL CH_8)
abbrev M86 : MethodName := ⟨"com/example/manque/manque/Declined", "<init>", "(Lcom/example/manque/manque/Declined$Kind;Ljava/lang/String;)V"⟩
theorem ef_87 (m : MethodId) (x0 : Addr) (x1 : Addr) (x2 : Addr) : entryFrame m #[(.ref x0), (.ref x1), (.ref x2)] 3 = mkF m 0 #[.val (.ref x0), .val (.ref x1), .val (.ref x2)] [] := by first | (simp [entryFrame, mkF, argsToLocals, Value.category]; done) | rfl
theorem pn_88 : plainName "com/example/manque/manque/Declined" = true := by first | (simp [plainName, overriddenIn]; done) | decide +kernel
theorem d4_0 : decode prog_1_method_1_code 0 = .ok (.aload_n 0, 1) := by decide +kernel
theorem d4_1 : decode prog_1_method_1_code 1 = .ok (.aload_n 2, 1) := by decide +kernel
theorem w42 {Z : State} {a0 : Array Value} (hw : ∀ d ∈ tables_1, d.before a0 Z = true) : Jvm.Cond.before (Jvm.Cond.code ({ cls := "java/lang/Exception", name := "<init>", desc := "(Ljava/lang/String;)V" } : Jvm.MethodName) jdk_59_method_2_code (2 : Nat) (Option.none : Option Jvm.ClassFile.FieldType)) a0 Z = true := hw _ (List.mem_of_getElem? (i := 42) rfl)
theorem w41 {Z : State} {a0 : Array Value} (hw : ∀ d ∈ tables_1, d.before a0 Z = true) : Jvm.Cond.before (Jvm.Cond.initialized "java/lang/Exception") a0 Z = true := hw _ (List.mem_of_getElem? (i := 41) rfl)
theorem d4_2 : decode prog_1_method_1_code 2 = .ok (.invokespecial 1, 3) := by decide +kernel
theorem w38 {Z : State} {a0 : Array Value} (hw : ∀ d ∈ tables_1, d.before a0 Z = true) : Jvm.Cond.before (Jvm.Cond.methodLink "com/example/manque/manque/Declined" (1 : Nat) ({ cls := "java/lang/Exception", name := "<init>", desc := "(Ljava/lang/String;)V" } : Jvm.MethodName)) a0 Z = true := hw _ (List.mem_of_getElem? (i := 38) rfl)
theorem w39 {Z : State} {a0 : Array Value} (hw : ∀ d ∈ tables_1, d.before a0 Z = true) : Jvm.Cond.before (Jvm.Cond.instanceMethod ({ cls := "java/lang/Exception", name := "<init>", desc := "(Ljava/lang/String;)V" } : Jvm.MethodName)) a0 Z = true := hw _ (List.mem_of_getElem? (i := 39) rfl)
theorem d4_5 : decode prog_1_method_1_code 5 = .ok (.aload_n 0, 1) := by decide +kernel
theorem d4_6 : decode prog_1_method_1_code 6 = .ok (.aload_n 1, 1) := by decide +kernel
theorem w86 {Z : State} {a0 : Array Value} (hw : ∀ d ∈ tables_1, d.before a0 Z = true) : Jvm.Cond.before (Jvm.Cond.fieldLink "com/example/manque/manque/Declined" (7 : Nat) "com/example/manque/manque/Declined" "kind" "Lcom/example/manque/manque/Declined$Kind;") a0 Z = true := hw _ (List.mem_of_getElem? (i := 86) rfl)
theorem d4_7 : decode prog_1_method_1_code 7 = .ok (.putfield 7, 3) := by decide +kernel
theorem d4_10 : decode prog_1_method_1_code 10 = .ok (.return_, 1) := by decide +kernel
abbrev R_dinit : Room := { frames := 5, cells := 1, slots := 2752, locals := 68 }
def Q_dinit (Z : State) (G1 : Int32) (kC : Addr) (uS : Value) (sS : Value) (d : Addr) (r : Addr) (h0 : Heap) (n0 : Nat) (v : Option Value) (h : Heap) (L : List Loc) : Prop := (v = none ∧ Fr n0 L ∧ Keep h0 h [d] ∧ (Exa Z h d "com/example/manque/manque/Declined") ∧ (Fld Z h d "com/example/manque/manque/Declined" "kind" "Lcom/example/manque/manque/Declined$Kind;" (.ref kC)) ∧ (Fld Z h d "java/lang/Throwable" "detailMessage" "Ljava/lang/String;" (.ref r)))
set_option maxRecDepth 65536 in
set_option maxHeartbeats 40000000 in
theorem rm_dinit (l : Launch) (Z : State) (a0 : Array Value) (hw : ∀ d ∈ tables_1, d.before a0 Z = true) (ws : List Jvm.Cond) (G1 : Int32) (kC : Addr) (uS : Value) (sS : Value) (HG : own_G l Z a0 G1 kC uS sS) (h0 : Heap) (n0 : Nat) (X00 : Old Z n0 h0) (d : Addr) (r : Addr) (hp0 : Exa Z h0 d "com/example/manque/manque/Declined") (hp1 : Unt h0 d) (hp2 : Fld Z h0 d "com/example/manque/manque/Declined" "kind" "Lcom/example/manque/manque/Declined$Kind;" .null) (hp3 : Fld Z h0 d "java/lang/Throwable" "cause" "Ljava/lang/Throwable;" .null) (hp4 : Fld Z h0 d "java/lang/Throwable" "stackTrace" "[Ljava/lang/StackTraceElement;" .null) (hp5 : Fld Z h0 d "java/lang/Throwable" "suppressedExceptions" "Ljava/util/List;" .null) (hp6 : Fld Z h0 d "java/lang/Throwable" "backtrace" "Ljava/lang/Object;" .null) (hp7 : Fld Z h0 d "java/lang/Throwable" "detailMessage" "Ljava/lang/String;" .null) (hp8 : n0 ≤ d) :
    own_CK l Z M86 prog_1_method_1_code 3 none ws R_dinit #[(.ref d), (.ref kC), (.ref r)] h0 (Q_dinit Z G1 kC uS sS d r h0 n0) := by
  refine own_K (plainFor_of_name pn_88) ?_
  intro p e s m below meth c s₁ S0 Bd hZ hh CH0 hS0 CR0 hTK0 hBL0 hx hby hml hown hnm X0 e0 hS0d
  obtain ⟨O1, P1, O2, E2, F2, hLT, OU, rU, OS, rS⟩ := id HG
  have hEL := own_EL hw
  have hSA := own_SA hw
  have N0 := Fr.nil n0
  have C0 : Steps p.tables e below S0 (s₁.setTop (mkF m 0 #[.val (.ref d), .val (.ref kC), .val (.ref r)] [])) := by rw [hS0d]; exact castTop (ef_87 m d kC r) (Steps.refl _)
  obtain ⟨_, _, ⟨T_1, L_1, k_1, n_1⟩, -, Y_1, S_1, G_1, ⟨Lc_1, hQ_1, l_1, y_1, z_1, R_1⟩, st_1⟩ := X0.specialBackS hx (y := M74) rfl hown (mvT hZ (w38 hw)) (mvT hZ (w39 hw)) (mvT hZ (w42 hw)) (by decide) (backOfSKH (vm0 := s.vm) (W := 0) (rm_ex0 l Z a0 hw [] G1 kC uS sS HG h0 n0 X00 d r hp0 hp1 hp2 hp3 hp4 hp5 hp6 hp7 hp8) hZ (w42 hw) (w41 hw) (by decide) (by decide) hEL CH0 hTK0 hBL0) (g := (mkF m 2 #[.val (.ref d), .val (.ref kC), .val (.ref r)] [(.ref r), (.ref d)])) rfl (by rw [hml]; rfl) (Steps.refl _) (a := d) (argsL := [(.ref r)]) (rest := []) (lenOf pd_80 rfl) rfl (by show 2 * 0 + _ ≤ _; exact Nat.le_of_eq rfl) (hb hby d4_2) (fun _ _ => ⟨rfl, e0, (by decide : 0 + 1 ≤ _), (by decide : 0 + 2752 ≤ _)⟩)
  dsimp only [Pt.U, Pt.locs, Pt.cells, Pt.slots] at Y_1 S_1 G_1 l_1 y_1 z_1 st_1 hQ_1 R_1
  subst l_1 y_1 z_1
  obtain ⟨X_1, hS_1, hZ_1, hown_1⟩ := rebS hS0 (n1 := s₁.heap.size) (by rw [show s₁.heap = h0 from e0]; exact (Nat.le_refl _)) Y_1 S_1 G_1 hZ hown
  obtain ⟨rfl, N_2, K_3, g_4, g_5, g_6⟩ := hQ_1
  have N_7 := Fr.app N0 N_2
  have CH_8 : CHv Z consts_1 T_1.vm T_1.heap := R_1.1
  have CR_9 : CHr Z consts_1 s.vm h0 T_1.vm T_1.heap := CR0.trans R_1
  have hTK_10 : (s.setVm T_1.vm).vm.MethodsKnown := Vm.MethodsKnown.alikeC (hS_1.1.alike) hTK0
  have hBL_11 : (s.setVm T_1.vm).vm.FramesKnown below := Vm.FramesKnown.alikeC (hS_1.1.alike) hBL0
  obtain ⟨T_12, h_13, X_14, e_15, W_16, st_17⟩ := putF X_1 hx hZ_1 hown_1 (host := "") (Or.inl (w86 hw)) Via.refl rfl g_5 g_4 (Or.inr ⟨(w87 hw), rfl, hnm⟩) (w31 hw) (ty := (.object "com/example/manque/manque/Declined$Kind")) (by decide) rfl rfl (g := (mkF m 7 #[.val (.ref d), .val (.ref kC), .val (.ref r)] [(.ref kC), (.ref d)])) rfl rfl (hb hby d4_7)
  have N_18 := Fr.snoc X_14 N_7 hp8
  have CH_19 : CHv Z consts_1 T_1.vm h_13 := CHv.wr W_16 (Safe.exa hZ_1.alike g_4 (by decide) (by decide)) CH_8
  have CR_20 : CHr Z consts_1 s.vm h0 T_1.vm h_13 := CR_9.trans (CHr.wr W_16 (Safe.exa hZ_1.alike g_4 (by decide) (by decide)) CH_8)
  have F_21 : Fld Z h_13 d "com/example/manque/manque/Declined" "kind" "Lcom/example/manque/manque/Declined$Kind;" (.ref kC) := g_5.same W_16
  have C_22 : Steps p.tables e below S0 (T_12.setTop (mkF m 10 #[.val (.ref d), .val (.ref kC), .val (.ref r)] [])) := by
    refine C0.trans ?_
    refine XS.aloadN X0.here hx rfl (hb hby d4_0) rfl rfl ?_
    refine XS.aloadN X0.here hx rfl (hb hby d4_1) rfl rfl ?_
    refine st_1.trans ?_
    refine XS.aloadN X_1.here hx rfl (hb hby d4_5) rfl rfl ?_
    refine XS.aloadN X_1.here hx rfl (hb hby d4_6) rfl rfl ?_
    refine st_17 _ ?_
    exact Steps.refl _
  have E_23 : Exa Z h_13 d "com/example/manque/manque/Declined" := (g_4.wr W_16)
  have F_24 : Fld Z h_13 d "java/lang/Throwable" "detailMessage" "Ljava/lang/String;" (.ref r) := (g_6.other W_16 (Or.inr (slot_ne (Or.inl (w81 hw)) (Or.inr (w87 hw)) (by decide) (t := (.object "java/lang/String")) (by decide) (t' := (.object "com/example/manque/manque/Declined$Kind")) (by decide))))
  have K_25 : Keep h0 h_13 [d] := (((Keep.refl _ _).trans K_3 (allS (Or.inl (List.mem_of_getElem? (i := 0) rfl)) all0)).wr W_16 (Or.inl (List.mem_of_getElem? (i := 0) rfl)))
  obtain ⟨fs, hr, hrun, hended, hRE⟩ := X_14.leaveW hS_1 (by rw [show T_12.heap = h_13 from e_15]; exact (Nat.le_trans (Nat.le_refl _) (Keep.of_wr W_16).1)) (v := none) (fun _ => rfl)
  refine ⟨_, _, C_22.trans (X_14.returnOut hx Bd.returns (hb hby d4_10) hr), hrun, hended, _, _, rfl, ?_, ?_, hRE.1, hRE.2.1, hRE.2.2.1, hRE.2.2.2.mono (by decide) (by decide)⟩
  · show Q_dinit Z G1 kC uS sS d r h0 n0 (none) T_12.heap _
    rw [e_15]
    exact ⟨rfl, N_18, K_25, E_23, F_21, F_24⟩
  · show CHr Z consts_1 s.vm s.heap T_12.vm T_12.heap
    rw [hh, show T_12.heap = h_13 from e_15]
    exact CR_20.trans (CHv.at X_14 hZ_1 hEL CH_19)
abbrev M101 : MethodName := ⟨"com/example/manque/manque/Declined", "refused", "(Ljava/lang/String;)Lcom/example/manque/manque/Declined;"⟩
theorem ef_102 (m : MethodId) (x0 : Addr) : entryFrame m #[(.ref x0)] 1 = mkF m 0 #[.val (.ref x0)] [] := by first | (simp [entryFrame, mkF, argsToLocals, Value.category]; done) | rfl
theorem w30 {Z : State} {a0 : Array Value} (hw : ∀ d ∈ tables_1, d.before a0 Z = true) : Jvm.Cond.before (Jvm.Cond.classLink "com/example/manque/manque/Declined" (8 : Nat) "com/example/manque/manque/Declined") a0 Z = true := hw _ (List.mem_of_getElem? (i := 30) rfl)
theorem w28 {Z : State} {a0 : Array Value} (hw : ∀ d ∈ tables_1, d.before a0 Z = true) : Jvm.Cond.before (Jvm.Cond.initialized "com/example/manque/manque/Declined") a0 Z = true := hw _ (List.mem_of_getElem? (i := 28) rfl)
theorem d5_0 : decode prog_1_method_4_code 0 = .ok (.new 8, 3) := by decide +kernel
theorem w83 {Z : State} {a0 : Array Value} (hw : ∀ d ∈ tables_1, d.before a0 Z = true) : Jvm.Cond.before (Jvm.Cond.lays "com/example/manque/manque/Declined" "java/lang/Throwable" "depth" "I") a0 Z = true := hw _ (List.mem_of_getElem? (i := 83) rfl)
theorem d5_3 : decode prog_1_method_4_code 3 = .ok (.dup, 1) := by decide +kernel
theorem w32 {Z : State} {a0 : Array Value} (hw : ∀ d ∈ tables_1, d.before a0 Z = true) : Jvm.Cond.before (Jvm.Cond.fieldLink "com/example/manque/manque/Declined" (24 : Nat) "com/example/manque/manque/Declined$Kind" "REFUSED" "Lcom/example/manque/manque/Declined$Kind;") a0 Z = true := hw _ (List.mem_of_getElem? (i := 32) rfl)
theorem d5_4 : decode prog_1_method_4_code 4 = .ok (.getstatic 24, 3) := by decide +kernel
theorem d5_7 : decode prog_1_method_4_code 7 = .ok (.aload_n 0, 1) := by decide +kernel
theorem w37 {Z : State} {a0 : Array Value} (hw : ∀ d ∈ tables_1, d.before a0 Z = true) : Jvm.Cond.before (Jvm.Cond.code ({ cls := "com/example/manque/manque/Declined", name := "<init>", desc := "(Lcom/example/manque/manque/Declined$Kind;Ljava/lang/String;)V" } : Jvm.MethodName) prog_1_method_1_code (3 : Nat) (Option.none : Option Jvm.ClassFile.FieldType)) a0 Z = true := hw _ (List.mem_of_getElem? (i := 37) rfl)
theorem pd_112 : parseMethodDescriptor "(Lcom/example/manque/manque/Declined$Kind;Ljava/lang/String;)V" = some ⟨[(.object "com/example/manque/manque/Declined$Kind"), (.object "java/lang/String")], none⟩ := by decide +kernel
theorem d5_8 : decode prog_1_method_4_code 8 = .ok (.invokespecial 18, 3) := by decide +kernel
theorem w35 {Z : State} {a0 : Array Value} (hw : ∀ d ∈ tables_1, d.before a0 Z = true) : Jvm.Cond.before (Jvm.Cond.methodLink "com/example/manque/manque/Declined" (18 : Nat) ({ cls := "com/example/manque/manque/Declined", name := "<init>", desc := "(Lcom/example/manque/manque/Declined$Kind;Ljava/lang/String;)V" } : Jvm.MethodName)) a0 Z = true := hw _ (List.mem_of_getElem? (i := 35) rfl)
theorem w36 {Z : State} {a0 : Array Value} (hw : ∀ d ∈ tables_1, d.before a0 Z = true) : Jvm.Cond.before (Jvm.Cond.instanceMethod ({ cls := "com/example/manque/manque/Declined", name := "<init>", desc := "(Lcom/example/manque/manque/Declined$Kind;Ljava/lang/String;)V" } : Jvm.MethodName)) a0 Z = true := hw _ (List.mem_of_getElem? (i := 36) rfl)
theorem d5_11 : decode prog_1_method_4_code 11 = .ok (.areturn, 1) := by decide +kernel
abbrev R_mk : Room := { frames := 6, cells := 2, slots := 2759, locals := 83 }
def Q_mk (Z : State) (G1 : Int32) (kC : Addr) (uS : Value) (sS : Value) (r : Addr) (h0 : Heap) (n0 : Nat) (v : Option Value) (h : Heap) (L : List Loc) : Prop := (∃ d : Addr, v = some (.ref d) ∧ Fr n0 L ∧ Keep h0 h [] ∧ (h0.size ≤ d) ∧ (Exa Z h d "com/example/manque/manque/Declined") ∧ (Fld Z h d "com/example/manque/manque/Declined" "kind" "Lcom/example/manque/manque/Declined$Kind;" (.ref kC)) ∧ (Fld Z h d "java/lang/Throwable" "detailMessage" "Ljava/lang/String;" (.ref r)))
set_option maxRecDepth 65536 in
set_option maxHeartbeats 40000000 in
theorem rm_mk (l : Launch) (Z : State) (a0 : Array Value) (hw : ∀ d ∈ tables_1, d.before a0 Z = true) (ws : List Jvm.Cond) (G1 : Int32) (kC : Addr) (uS : Value) (sS : Value) (HG : own_G l Z a0 G1 kC uS sS) (h0 : Heap) (n0 : Nat) (X00 : Old Z n0 h0) (r : Addr)  :
    own_CK l Z M101 prog_1_method_4_code 1 (some (.object "com/example/manque/manque/Declined")) ws R_mk #[(.ref r)] h0 (Q_mk Z G1 kC uS sS r h0 n0) := by
  refine own_K (plainFor_of_name pn_88) ?_
  intro p e s m below meth c s₁ S0 Bd hZ hh CH0 hS0 CR0 hTK0 hBL0 hx hby hml hown hnm X0 e0 hS0d
  obtain ⟨O1, P1, O2, E2, F2, hLT, OU, rU, OS, rS⟩ := id HG
  have hEL := own_EL hw
  have hSA := own_SA hw
  have N0 := Fr.nil n0
  have C0 : Steps p.tables e below S0 (s₁.setTop (mkF m 0 #[.val (.ref r)] [])) := by rw [hS0d]; exact castTop (ef_102 m r) (Steps.refl _)
  obtain ⟨T_1, h_2, X_3, e_4, E_5, A_6, D_7, U_11, st_8⟩ := newO X0 hx hZ hown (w30 hw) (w31 hw) (w28 hw) e0 (g := (mkF m 0 #[.val (.ref r)] [])) rfl (hb hby d5_0) (by decide) (by decide)
  obtain ⟨a_9, g_10⟩ : ∃ z, z = h0.size := ⟨_, rfl⟩
  rw [← g_10] at A_6 D_7 st_8 U_11
  have CH_12 : CHv Z consts_1 s.vm h_2 := CHv.ext E_5 CH0
  have CR_13 : CHr Z consts_1 s.vm h0 s.vm h_2 := CR0.trans (CHr.ext E_5 CH0)
  have O_18 : Old Z n0 h_2 := (X00.ext E_5)
  obtain ⟨T_14, X_15, e_16, st_17⟩ := getS X_3 hx hZ (host := "") hown (w32 hw) Via.refl e_4 (O2.ext O_18.2) (g := (mkF m 4 #[.val (.ref r)] [(.ref a_9), (.ref a_9)])) rfl (hb hby d5_4)
  obtain ⟨_, _, ⟨T_19, L_19, k_19, n_19⟩, -, Y_19, S_19, G_19, ⟨Lc_19, hQ_19, l_19, y_19, z_19, R_19⟩, st_19⟩ := X_15.specialBackS hx (y := M86) rfl hown (mvT hZ (w35 hw)) (mvT hZ (w36 hw)) (mvT hZ (w37 hw)) (by decide) (backOfSKH (vm0 := s.vm) (W := 1) (rm_dinit l Z a0 hw [] G1 kC uS sS HG h_2 n0 O_18 a_9 r A_6 U_11 (D_7 (Or.inr (w87 hw)) (ty := (.object "com/example/manque/manque/Declined$Kind")) (by decide)) (D_7 (Or.inl (w51 hw)) (ty := (.object "java/lang/Throwable")) (by decide)) (D_7 (Or.inl (w54 hw)) (ty := (.array (.object "java/lang/StackTraceElement"))) (by decide)) (D_7 (Or.inl (w57 hw)) (ty := (.object "java/util/List")) (by decide)) (D_7 (Or.inl (w82 hw)) (ty := (.object "java/lang/Object")) (by decide)) (D_7 (Or.inl (w81 hw)) (ty := (.object "java/lang/String")) (by decide)) (Nat.le_trans (own_n0 X00) (Nat.le_of_eq g_10.symm))) hZ (w37 hw) (w28 hw) (by decide) (by decide) hEL CH_12 hTK0 hBL0) (g := (mkF m 8 #[.val (.ref r)] [(.ref r), (.ref kC), (.ref a_9), (.ref a_9)])) rfl (by rw [hml]; rfl) (Steps.refl _) (a := a_9) (argsL := [(.ref kC), (.ref r)]) (rest := [(.ref a_9)]) (lenOf pd_112 rfl) rfl (by show 2 * 0 + _ ≤ _; exact Nat.le_of_eq rfl) (hb hby d5_8) (fun _ _ => ⟨rfl, e_16, (by decide : 1 + 1 ≤ _), (by decide : 7 + 2752 ≤ _)⟩)
  dsimp only [Pt.U, Pt.locs, Pt.cells, Pt.slots] at Y_19 S_19 G_19 l_19 y_19 z_19 st_19 hQ_19 R_19
  subst l_19 y_19 z_19
  obtain ⟨X_19, hS_19, hZ_19, hown_19⟩ := rebS hS0 (n1 := T_14.heap.size) (by rw [show T_14.heap = h_2 from e_16]; exact (Nat.le_trans (Nat.le_refl _) E_5.1)) Y_19 S_19 G_19 hZ hown
  obtain ⟨rfl, N_20, K_21, g_22, g_23, g_24⟩ := hQ_19
  have N_25 := Fr.app N0 N_20
  have CH_26 : CHv Z consts_1 T_19.vm T_19.heap := R_19.1
  have CR_27 : CHr Z consts_1 s.vm h0 T_19.vm T_19.heap := CR_13.trans R_19
  have hTK_28 : (s.setVm T_19.vm).vm.MethodsKnown := Vm.MethodsKnown.alikeC (hS_19.1.alike) hTK0
  have hBL_29 : (s.setVm T_19.vm).vm.FramesKnown below := Vm.FramesKnown.alikeC (hS_19.1.alike) hBL0
  have C_30 : Steps p.tables e below S0 (T_19.setTop (mkF m 11 #[.val (.ref r)] [(.ref a_9)])) := by
    refine C0.trans ?_
    refine st_8 _ ?_
    refine XS.dup X_3.here hx rfl (hb hby d5_3) rfl rfl ?_
    refine st_17 _ ?_
    refine XS.aloadN X_15.here hx rfl (hb hby d5_7) rfl rfl ?_
    refine st_19.trans ?_
    exact Steps.refl _
  have K_31 : Keep h0 T_19.heap [] := (((Keep.refl _ _).ext E_5).trans K_21 (allS (Or.inr (Nat.le_trans (Nat.le_refl _) (Nat.le_of_eq g_10.symm))) all0))
  obtain ⟨fs, hr, hrun, hended, hRE⟩ := X_19.leaveW hS_19 (by rw [show T_19.heap = T_19.heap from rfl]; exact (Nat.le_refl _)) (v := some (.ref a_9)) (fun h => by rw [Bd.returns] at h; cases h)
  refine ⟨_, _, C_30.trans (retOut X_19 hx Bd.returns rfl (Or.inr (Or.inr (Or.inr (Or.inr ⟨rfl, rfl, rfl⟩)))) (hb hby d5_11) hr), hrun, hended, _, _, rfl, ?_, ?_, hRE.1, hRE.2.1, hRE.2.2.1, hRE.2.2.2.mono (by decide) (by decide)⟩
  · show Q_mk Z G1 kC uS sS r h0 n0 (some (.ref a_9)) T_19.heap _
    exact ⟨a_9, rfl, N_25, K_31, (Nat.le_trans (Nat.le_refl _) (Nat.le_of_eq g_10.symm)), g_22, g_23, g_24⟩
  · show CHr Z consts_1 s.vm s.heap T_19.vm T_19.heap
    rw [hh]
    exact CR_27.trans (CHv.at X_19 hZ_19 hEL CH_26)
theorem ef_117 (m : MethodId) (x0 : Addr) (x1 : Addr) : entryFrame m #[(.ref x0), (.ref x1), .null] 3 = mkF m 0 #[.val (.ref x0), .val (.ref x1), .val .null] [] := by first | (simp [entryFrame, mkF, argsToLocals, Value.category]; done) | rfl
abbrev R_dinit0 : Room := { frames := 5, cells := 1, slots := 2752, locals := 68 }
def Q_dinit0 (Z : State) (G1 : Int32) (kC : Addr) (uS : Value) (sS : Value) (d : Addr) (h0 : Heap) (n0 : Nat) (v : Option Value) (h : Heap) (L : List Loc) : Prop := (v = none ∧ Fr n0 L ∧ Keep h0 h [d] ∧ (Exa Z h d "com/example/manque/manque/Declined") ∧ (Fld Z h d "com/example/manque/manque/Declined" "kind" "Lcom/example/manque/manque/Declined$Kind;" (.ref kC)) ∧ (Fld Z h d "java/lang/Throwable" "detailMessage" "Ljava/lang/String;" .null))
set_option maxRecDepth 65536 in
set_option maxHeartbeats 40000000 in
theorem rm_dinit0 (l : Launch) (Z : State) (a0 : Array Value) (hw : ∀ d ∈ tables_1, d.before a0 Z = true) (ws : List Jvm.Cond) (G1 : Int32) (kC : Addr) (uS : Value) (sS : Value) (HG : own_G l Z a0 G1 kC uS sS) (h0 : Heap) (n0 : Nat) (X00 : Old Z n0 h0) (d : Addr) (hp0 : Exa Z h0 d "com/example/manque/manque/Declined") (hp1 : Unt h0 d) (hp2 : Fld Z h0 d "com/example/manque/manque/Declined" "kind" "Lcom/example/manque/manque/Declined$Kind;" .null) (hp3 : Fld Z h0 d "java/lang/Throwable" "cause" "Ljava/lang/Throwable;" .null) (hp4 : Fld Z h0 d "java/lang/Throwable" "stackTrace" "[Ljava/lang/StackTraceElement;" .null) (hp5 : Fld Z h0 d "java/lang/Throwable" "suppressedExceptions" "Ljava/util/List;" .null) (hp6 : Fld Z h0 d "java/lang/Throwable" "backtrace" "Ljava/lang/Object;" .null) (hp7 : Fld Z h0 d "java/lang/Throwable" "detailMessage" "Ljava/lang/String;" .null) (hp8 : n0 ≤ d) :
    own_CK l Z M86 prog_1_method_1_code 3 none ws R_dinit0 #[(.ref d), (.ref kC), .null] h0 (Q_dinit0 Z G1 kC uS sS d h0 n0) := by
  refine own_K (plainFor_of_name pn_88) ?_
  intro p e s m below meth c s₁ S0 Bd hZ hh CH0 hS0 CR0 hTK0 hBL0 hx hby hml hown hnm X0 e0 hS0d
  obtain ⟨O1, P1, O2, E2, F2, hLT, OU, rU, OS, rS⟩ := id HG
  have hEL := own_EL hw
  have hSA := own_SA hw
  have N0 := Fr.nil n0
  have C0 : Steps p.tables e below S0 (s₁.setTop (mkF m 0 #[.val (.ref d), .val (.ref kC), .val .null] [])) := by rw [hS0d]; exact castTop (ef_117 m d kC) (Steps.refl _)
  obtain ⟨_, _, ⟨T_1, L_1, k_1, n_1⟩, -, Y_1, S_1, G_1, ⟨Lc_1, hQ_1, l_1, y_1, z_1, R_1⟩, st_1⟩ := X0.specialBackS hx (y := M74) rfl hown (mvT hZ (w38 hw)) (mvT hZ (w39 hw)) (mvT hZ (w42 hw)) (by decide) (backOfSKH (vm0 := s.vm) (W := 0) (rm_ex00 l Z a0 hw [] G1 kC uS sS HG h0 n0 X00 d hp0 hp1 hp2 hp3 hp4 hp5 hp6 hp7 hp8) hZ (w42 hw) (w41 hw) (by decide) (by decide) hEL CH0 hTK0 hBL0) (g := (mkF m 2 #[.val (.ref d), .val (.ref kC), .val .null] [.null, (.ref d)])) rfl (by rw [hml]; rfl) (Steps.refl _) (a := d) (argsL := [.null]) (rest := []) (lenOf pd_80 rfl) rfl (by show 2 * 0 + _ ≤ _; exact Nat.le_of_eq rfl) (hb hby d4_2) (fun _ _ => ⟨rfl, e0, (by decide : 0 + 1 ≤ _), (by decide : 0 + 2752 ≤ _)⟩)
  dsimp only [Pt.U, Pt.locs, Pt.cells, Pt.slots] at Y_1 S_1 G_1 l_1 y_1 z_1 st_1 hQ_1 R_1
  subst l_1 y_1 z_1
  obtain ⟨X_1, hS_1, hZ_1, hown_1⟩ := rebS hS0 (n1 := s₁.heap.size) (by rw [show s₁.heap = h0 from e0]; exact (Nat.le_refl _)) Y_1 S_1 G_1 hZ hown
  obtain ⟨rfl, N_2, K_3, g_4, g_5, g_6⟩ := hQ_1
  have N_7 := Fr.app N0 N_2
  have CH_8 : CHv Z consts_1 T_1.vm T_1.heap := R_1.1
  have CR_9 : CHr Z consts_1 s.vm h0 T_1.vm T_1.heap := CR0.trans R_1
  have hTK_10 : (s.setVm T_1.vm).vm.MethodsKnown := Vm.MethodsKnown.alikeC (hS_1.1.alike) hTK0
  have hBL_11 : (s.setVm T_1.vm).vm.FramesKnown below := Vm.FramesKnown.alikeC (hS_1.1.alike) hBL0
  obtain ⟨T_12, h_13, X_14, e_15, W_16, st_17⟩ := putF X_1 hx hZ_1 hown_1 (host := "") (Or.inl (w86 hw)) Via.refl rfl g_5 g_4 (Or.inr ⟨(w87 hw), rfl, hnm⟩) (w31 hw) (ty := (.object "com/example/manque/manque/Declined$Kind")) (by decide) rfl rfl (g := (mkF m 7 #[.val (.ref d), .val (.ref kC), .val .null] [(.ref kC), (.ref d)])) rfl rfl (hb hby d4_7)
  have N_18 := Fr.snoc X_14 N_7 hp8
  have CH_19 : CHv Z consts_1 T_1.vm h_13 := CHv.wr W_16 (Safe.exa hZ_1.alike g_4 (by decide) (by decide)) CH_8
  have CR_20 : CHr Z consts_1 s.vm h0 T_1.vm h_13 := CR_9.trans (CHr.wr W_16 (Safe.exa hZ_1.alike g_4 (by decide) (by decide)) CH_8)
  have F_21 : Fld Z h_13 d "com/example/manque/manque/Declined" "kind" "Lcom/example/manque/manque/Declined$Kind;" (.ref kC) := g_5.same W_16
  have C_22 : Steps p.tables e below S0 (T_12.setTop (mkF m 10 #[.val (.ref d), .val (.ref kC), .val .null] [])) := by
    refine C0.trans ?_
    refine XS.aloadN X0.here hx rfl (hb hby d4_0) rfl rfl ?_
    refine XS.aloadN X0.here hx rfl (hb hby d4_1) rfl rfl ?_
    refine st_1.trans ?_
    refine XS.aloadN X_1.here hx rfl (hb hby d4_5) rfl rfl ?_
    refine XS.aloadN X_1.here hx rfl (hb hby d4_6) rfl rfl ?_
    refine st_17 _ ?_
    exact Steps.refl _
  have E_23 : Exa Z h_13 d "com/example/manque/manque/Declined" := (g_4.wr W_16)
  have F_24 : Fld Z h_13 d "java/lang/Throwable" "detailMessage" "Ljava/lang/String;" .null := (g_6.other W_16 (Or.inr (slot_ne (Or.inl (w81 hw)) (Or.inr (w87 hw)) (by decide) (t := (.object "java/lang/String")) (by decide) (t' := (.object "com/example/manque/manque/Declined$Kind")) (by decide))))
  have K_25 : Keep h0 h_13 [d] := (((Keep.refl _ _).trans K_3 (allS (Or.inl (List.mem_of_getElem? (i := 0) rfl)) all0)).wr W_16 (Or.inl (List.mem_of_getElem? (i := 0) rfl)))
  obtain ⟨fs, hr, hrun, hended, hRE⟩ := X_14.leaveW hS_1 (by rw [show T_12.heap = h_13 from e_15]; exact (Nat.le_trans (Nat.le_refl _) (Keep.of_wr W_16).1)) (v := none) (fun _ => rfl)
  refine ⟨_, _, C_22.trans (X_14.returnOut hx Bd.returns (hb hby d4_10) hr), hrun, hended, _, _, rfl, ?_, ?_, hRE.1, hRE.2.1, hRE.2.2.1, hRE.2.2.2.mono (by decide) (by decide)⟩
  · show Q_dinit0 Z G1 kC uS sS d h0 n0 (none) T_12.heap _
    rw [e_15]
    exact ⟨rfl, N_18, K_25, E_23, F_21, F_24⟩
  · show CHr Z consts_1 s.vm s.heap T_12.vm T_12.heap
    rw [hh, show T_12.heap = h_13 from e_15]
    exact CR_20.trans (CHv.at X_14 hZ_1 hEL CH_19)
theorem ef_118 (m : MethodId)  : entryFrame m #[.null] 1 = mkF m 0 #[.val .null] [] := by first | (simp [entryFrame, mkF, argsToLocals, Value.category]; done) | rfl
abbrev R_mk0 : Room := { frames := 6, cells := 2, slots := 2759, locals := 83 }
def Q_mk0 (Z : State) (G1 : Int32) (kC : Addr) (uS : Value) (sS : Value)  (h0 : Heap) (n0 : Nat) (v : Option Value) (h : Heap) (L : List Loc) : Prop := (∃ d : Addr, v = some (.ref d) ∧ Fr n0 L ∧ Keep h0 h [] ∧ (h0.size ≤ d) ∧ (Exa Z h d "com/example/manque/manque/Declined") ∧ (Fld Z h d "com/example/manque/manque/Declined" "kind" "Lcom/example/manque/manque/Declined$Kind;" (.ref kC)) ∧ (Fld Z h d "java/lang/Throwable" "detailMessage" "Ljava/lang/String;" .null))
set_option maxRecDepth 65536 in
set_option maxHeartbeats 40000000 in
theorem rm_mk0 (l : Launch) (Z : State) (a0 : Array Value) (hw : ∀ d ∈ tables_1, d.before a0 Z = true) (ws : List Jvm.Cond) (G1 : Int32) (kC : Addr) (uS : Value) (sS : Value) (HG : own_G l Z a0 G1 kC uS sS) (h0 : Heap) (n0 : Nat) (X00 : Old Z n0 h0)   :
    own_CK l Z M101 prog_1_method_4_code 1 (some (.object "com/example/manque/manque/Declined")) ws R_mk0 #[.null] h0 (Q_mk0 Z G1 kC uS sS  h0 n0) := by
  refine own_K (plainFor_of_name pn_88) ?_
  intro p e s m below meth c s₁ S0 Bd hZ hh CH0 hS0 CR0 hTK0 hBL0 hx hby hml hown hnm X0 e0 hS0d
  obtain ⟨O1, P1, O2, E2, F2, hLT, OU, rU, OS, rS⟩ := id HG
  have hEL := own_EL hw
  have hSA := own_SA hw
  have N0 := Fr.nil n0
  have C0 : Steps p.tables e below S0 (s₁.setTop (mkF m 0 #[.val .null] [])) := by rw [hS0d]; exact castTop (ef_118 m ) (Steps.refl _)
  obtain ⟨T_1, h_2, X_3, e_4, E_5, A_6, D_7, U_11, st_8⟩ := newO X0 hx hZ hown (w30 hw) (w31 hw) (w28 hw) e0 (g := (mkF m 0 #[.val .null] [])) rfl (hb hby d5_0) (by decide) (by decide)
  obtain ⟨a_9, g_10⟩ : ∃ z, z = h0.size := ⟨_, rfl⟩
  rw [← g_10] at A_6 D_7 st_8 U_11
  have CH_12 : CHv Z consts_1 s.vm h_2 := CHv.ext E_5 CH0
  have CR_13 : CHr Z consts_1 s.vm h0 s.vm h_2 := CR0.trans (CHr.ext E_5 CH0)
  have O_18 : Old Z n0 h_2 := (X00.ext E_5)
  obtain ⟨T_14, X_15, e_16, st_17⟩ := getS X_3 hx hZ (host := "") hown (w32 hw) Via.refl e_4 (O2.ext O_18.2) (g := (mkF m 4 #[.val .null] [(.ref a_9), (.ref a_9)])) rfl (hb hby d5_4)
  obtain ⟨_, _, ⟨T_19, L_19, k_19, n_19⟩, -, Y_19, S_19, G_19, ⟨Lc_19, hQ_19, l_19, y_19, z_19, R_19⟩, st_19⟩ := X_15.specialBackS hx (y := M86) rfl hown (mvT hZ (w35 hw)) (mvT hZ (w36 hw)) (mvT hZ (w37 hw)) (by decide) (backOfSKH (vm0 := s.vm) (W := 1) (rm_dinit0 l Z a0 hw [] G1 kC uS sS HG h_2 n0 O_18 a_9 A_6 U_11 (D_7 (Or.inr (w87 hw)) (ty := (.object "com/example/manque/manque/Declined$Kind")) (by decide)) (D_7 (Or.inl (w51 hw)) (ty := (.object "java/lang/Throwable")) (by decide)) (D_7 (Or.inl (w54 hw)) (ty := (.array (.object "java/lang/StackTraceElement"))) (by decide)) (D_7 (Or.inl (w57 hw)) (ty := (.object "java/util/List")) (by decide)) (D_7 (Or.inl (w82 hw)) (ty := (.object "java/lang/Object")) (by decide)) (D_7 (Or.inl (w81 hw)) (ty := (.object "java/lang/String")) (by decide)) (Nat.le_trans (own_n0 X00) (Nat.le_of_eq g_10.symm))) hZ (w37 hw) (w28 hw) (by decide) (by decide) hEL CH_12 hTK0 hBL0) (g := (mkF m 8 #[.val .null] [.null, (.ref kC), (.ref a_9), (.ref a_9)])) rfl (by rw [hml]; rfl) (Steps.refl _) (a := a_9) (argsL := [(.ref kC), .null]) (rest := [(.ref a_9)]) (lenOf pd_112 rfl) rfl (by show 2 * 0 + _ ≤ _; exact Nat.le_of_eq rfl) (hb hby d5_8) (fun _ _ => ⟨rfl, e_16, (by decide : 1 + 1 ≤ _), (by decide : 7 + 2752 ≤ _)⟩)
  dsimp only [Pt.U, Pt.locs, Pt.cells, Pt.slots] at Y_19 S_19 G_19 l_19 y_19 z_19 st_19 hQ_19 R_19
  subst l_19 y_19 z_19
  obtain ⟨X_19, hS_19, hZ_19, hown_19⟩ := rebS hS0 (n1 := T_14.heap.size) (by rw [show T_14.heap = h_2 from e_16]; exact (Nat.le_trans (Nat.le_refl _) E_5.1)) Y_19 S_19 G_19 hZ hown
  obtain ⟨rfl, N_20, K_21, g_22, g_23, g_24⟩ := hQ_19
  have N_25 := Fr.app N0 N_20
  have CH_26 : CHv Z consts_1 T_19.vm T_19.heap := R_19.1
  have CR_27 : CHr Z consts_1 s.vm h0 T_19.vm T_19.heap := CR_13.trans R_19
  have hTK_28 : (s.setVm T_19.vm).vm.MethodsKnown := Vm.MethodsKnown.alikeC (hS_19.1.alike) hTK0
  have hBL_29 : (s.setVm T_19.vm).vm.FramesKnown below := Vm.FramesKnown.alikeC (hS_19.1.alike) hBL0
  have C_30 : Steps p.tables e below S0 (T_19.setTop (mkF m 11 #[.val .null] [(.ref a_9)])) := by
    refine C0.trans ?_
    refine st_8 _ ?_
    refine XS.dup X_3.here hx rfl (hb hby d5_3) rfl rfl ?_
    refine st_17 _ ?_
    refine XS.aloadN X_15.here hx rfl (hb hby d5_7) rfl rfl ?_
    refine st_19.trans ?_
    exact Steps.refl _
  have K_31 : Keep h0 T_19.heap [] := (((Keep.refl _ _).ext E_5).trans K_21 (allS (Or.inr (Nat.le_trans (Nat.le_refl _) (Nat.le_of_eq g_10.symm))) all0))
  obtain ⟨fs, hr, hrun, hended, hRE⟩ := X_19.leaveW hS_19 (by rw [show T_19.heap = T_19.heap from rfl]; exact (Nat.le_refl _)) (v := some (.ref a_9)) (fun h => by rw [Bd.returns] at h; cases h)
  refine ⟨_, _, C_30.trans (retOut X_19 hx Bd.returns rfl (Or.inr (Or.inr (Or.inr (Or.inr ⟨rfl, rfl, rfl⟩)))) (hb hby d5_11) hr), hrun, hended, _, _, rfl, ?_, ?_, hRE.1, hRE.2.1, hRE.2.2.1, hRE.2.2.2.mono (by decide) (by decide)⟩
  · show Q_mk0 Z G1 kC uS sS  h0 n0 (some (.ref a_9)) T_19.heap _
    exact ⟨a_9, rfl, N_25, K_31, (Nat.le_trans (Nat.le_refl _) (Nat.le_of_eq g_10.symm)), g_22, g_23, g_24⟩
  · show CHr Z consts_1 s.vm s.heap T_19.vm T_19.heap
    rw [hh]
    exact CR_27.trans (CHv.at X_19 hZ_19 hEL CH_26)
abbrev M119 : MethodName := ⟨"java/lang/Throwable", "getMessage", "()Ljava/lang/String;"⟩
theorem d6_0 : decode jdk_78_method_6_code 0 = .ok (.aload_n 0, 1) := by decide +kernel
theorem d6_1 : decode jdk_78_method_6_code 1 = .ok (.getfield 31, 3) := by decide +kernel
theorem d6_4 : decode jdk_78_method_6_code 4 = .ok (.areturn, 1) := by decide +kernel
abbrev R_getmsg : Room := { frames := 0, cells := 0, slots := 0, locals := 0 }
def Q_getmsg (Z : State) (G1 : Int32) (kC : Addr) (uS : Value) (sS : Value) (d : Addr) (r : Addr) (h0 : Heap) (n0 : Nat) (v : Option Value) (h : Heap) (L : List Loc) : Prop := (v = some (.ref r) ∧ Fr n0 L ∧ h = h0)
set_option maxRecDepth 65536 in
set_option maxHeartbeats 40000000 in
theorem rm_getmsg (l : Launch) (Z : State) (a0 : Array Value) (hw : ∀ d ∈ tables_1, d.before a0 Z = true) (ws : List Jvm.Cond) (G1 : Int32) (kC : Addr) (uS : Value) (sS : Value) (HG : own_G l Z a0 G1 kC uS sS) (h0 : Heap) (n0 : Nat) (X00 : Old Z n0 h0) (d : Addr) (r : Addr) (hp0 : Fld Z h0 d "java/lang/Throwable" "detailMessage" "Ljava/lang/String;" (.ref r)) :
    own_CP l Z M119 jdk_78_method_6_code 1 (some (.object "java/lang/String")) ws R_getmsg #[(.ref d)] h0 (Q_getmsg Z G1 kC uS sS d r h0 n0) := by
  refine own_P (plainFor_of_name pn_41) ?_
  intro p e s m below meth c s₁ S0 Bd hZ hh hx hby hml hown hnm X0 e0 hS0d
  obtain ⟨O1, P1, O2, E2, F2, hLT, OU, rU, OS, rS⟩ := id HG
  have N0 := Fr.nil n0
  have C0 : Steps p.tables e below S0 (s₁.setTop (mkF m 0 #[.val (.ref d)] [])) := by rw [hS0d]; exact castTop (ef_102 m d) (Steps.refl _)
  obtain ⟨T_1, X_2, e_3, st_4⟩ := getF X0 hx hZ hown (host := "") (Or.inl (w85 hw)) Via.refl e0 hp0 (g := (mkF m 1 #[.val (.ref d)] [(.ref d)])) rfl rfl (hb hby d6_1)
  have C_5 : Steps p.tables e below S0 (T_1.setTop (mkF m 4 #[.val (.ref d)] [(.ref r)])) := by
    refine C0.trans ?_
    refine XS.aloadN X0.here hx rfl (hb hby d6_0) rfl rfl ?_
    refine st_4 _ ?_
    exact Steps.refl _
  obtain ⟨fs, hr, hrun, hended, hW, hsame⟩ := X_2.leave (v := some (.ref r)) (fun h => by rw [Bd.returns] at h; cases h)
  refine ⟨_, _, C_5.trans (retOut X_2 hx Bd.returns rfl (Or.inr (Or.inr (Or.inr (Or.inr ⟨rfl, rfl, rfl⟩)))) (hb hby d6_4) hr), hrun, hended, _, _, rfl, ?_, ⟨_, rfl⟩, hW, hsame.mono (by decide) (by decide)⟩
  show Q_getmsg Z G1 kC uS sS d r h0 n0 (some (.ref r)) T_1.heap _
  rw [e_3]
  exact ⟨rfl, N0, rfl⟩
abbrev R_getmsg0 : Room := { frames := 0, cells := 0, slots := 0, locals := 0 }
def Q_getmsg0 (Z : State) (G1 : Int32) (kC : Addr) (uS : Value) (sS : Value) (d : Addr) (h0 : Heap) (n0 : Nat) (v : Option Value) (h : Heap) (L : List Loc) : Prop := (v = some .null ∧ Fr n0 L ∧ h = h0)
set_option maxRecDepth 65536 in
set_option maxHeartbeats 40000000 in
theorem rm_getmsg0 (l : Launch) (Z : State) (a0 : Array Value) (hw : ∀ d ∈ tables_1, d.before a0 Z = true) (ws : List Jvm.Cond) (G1 : Int32) (kC : Addr) (uS : Value) (sS : Value) (HG : own_G l Z a0 G1 kC uS sS) (h0 : Heap) (n0 : Nat) (X00 : Old Z n0 h0) (d : Addr) (hp0 : Fld Z h0 d "java/lang/Throwable" "detailMessage" "Ljava/lang/String;" .null) :
    own_CP l Z M119 jdk_78_method_6_code 1 (some (.object "java/lang/String")) ws R_getmsg0 #[(.ref d)] h0 (Q_getmsg0 Z G1 kC uS sS d h0 n0) := by
  refine own_P (plainFor_of_name pn_41) ?_
  intro p e s m below meth c s₁ S0 Bd hZ hh hx hby hml hown hnm X0 e0 hS0d
  obtain ⟨O1, P1, O2, E2, F2, hLT, OU, rU, OS, rS⟩ := id HG
  have N0 := Fr.nil n0
  have C0 : Steps p.tables e below S0 (s₁.setTop (mkF m 0 #[.val (.ref d)] [])) := by rw [hS0d]; exact castTop (ef_102 m d) (Steps.refl _)
  obtain ⟨T_1, X_2, e_3, st_4⟩ := getF X0 hx hZ hown (host := "") (Or.inl (w85 hw)) Via.refl e0 hp0 (g := (mkF m 1 #[.val (.ref d)] [(.ref d)])) rfl rfl (hb hby d6_1)
  have C_5 : Steps p.tables e below S0 (T_1.setTop (mkF m 4 #[.val (.ref d)] [.null])) := by
    refine C0.trans ?_
    refine XS.aloadN X0.here hx rfl (hb hby d6_0) rfl rfl ?_
    refine st_4 _ ?_
    exact Steps.refl _
  obtain ⟨fs, hr, hrun, hended, hW, hsame⟩ := X_2.leave (v := some .null) (fun h => by rw [Bd.returns] at h; cases h)
  refine ⟨_, _, C_5.trans (retOut X_2 hx Bd.returns rfl (Or.inr (Or.inr (Or.inr (Or.inr ⟨rfl, rfl, rfl⟩)))) (hb hby d6_4) hr), hrun, hended, _, _, rfl, ?_, ⟨_, rfl⟩, hW, hsame.mono (by decide) (by decide)⟩
  show Q_getmsg0 Z G1 kC uS sS d h0 n0 (some .null) T_1.heap _
  rw [e_3]
  exact ⟨rfl, N0, rfl⟩
abbrev M123 : MethodName := ⟨"com/example/manque/manque/Declined", "kind", "()Lcom/example/manque/manque/Declined$Kind;"⟩
theorem d7_0 : decode prog_1_method_5_code 0 = .ok (.aload_n 0, 1) := by decide +kernel
theorem d7_1 : decode prog_1_method_5_code 1 = .ok (.getfield 7, 3) := by decide +kernel
theorem d7_4 : decode prog_1_method_5_code 4 = .ok (.areturn, 1) := by decide +kernel
abbrev R_kind : Room := { frames := 0, cells := 0, slots := 0, locals := 0 }
def Q_kind (Z : State) (G1 : Int32) (kC : Addr) (uS : Value) (sS : Value) (d : Addr) (h0 : Heap) (n0 : Nat) (v : Option Value) (h : Heap) (L : List Loc) : Prop := (v = some (.ref kC) ∧ Fr n0 L ∧ h = h0)
set_option maxRecDepth 65536 in
set_option maxHeartbeats 40000000 in
theorem rm_kind (l : Launch) (Z : State) (a0 : Array Value) (hw : ∀ d ∈ tables_1, d.before a0 Z = true) (ws : List Jvm.Cond) (G1 : Int32) (kC : Addr) (uS : Value) (sS : Value) (HG : own_G l Z a0 G1 kC uS sS) (h0 : Heap) (n0 : Nat) (X00 : Old Z n0 h0) (d : Addr) (hp0 : Fld Z h0 d "com/example/manque/manque/Declined" "kind" "Lcom/example/manque/manque/Declined$Kind;" (.ref kC)) :
    own_CP l Z M123 prog_1_method_5_code 1 (some (.object "com/example/manque/manque/Declined$Kind")) ws R_kind #[(.ref d)] h0 (Q_kind Z G1 kC uS sS d h0 n0) := by
  refine own_P (plainFor_of_name pn_88) ?_
  intro p e s m below meth c s₁ S0 Bd hZ hh hx hby hml hown hnm X0 e0 hS0d
  obtain ⟨O1, P1, O2, E2, F2, hLT, OU, rU, OS, rS⟩ := id HG
  have N0 := Fr.nil n0
  have C0 : Steps p.tables e below S0 (s₁.setTop (mkF m 0 #[.val (.ref d)] [])) := by rw [hS0d]; exact castTop (ef_102 m d) (Steps.refl _)
  obtain ⟨T_1, X_2, e_3, st_4⟩ := getF X0 hx hZ hown (host := "") (Or.inl (w86 hw)) Via.refl e0 hp0 (g := (mkF m 1 #[.val (.ref d)] [(.ref d)])) rfl rfl (hb hby d7_1)
  have C_5 : Steps p.tables e below S0 (T_1.setTop (mkF m 4 #[.val (.ref d)] [(.ref kC)])) := by
    refine C0.trans ?_
    refine XS.aloadN X0.here hx rfl (hb hby d7_0) rfl rfl ?_
    refine st_4 _ ?_
    exact Steps.refl _
  obtain ⟨fs, hr, hrun, hended, hW, hsame⟩ := X_2.leave (v := some (.ref kC)) (fun h => by rw [Bd.returns] at h; cases h)
  refine ⟨_, _, C_5.trans (retOut X_2 hx Bd.returns rfl (Or.inr (Or.inr (Or.inr (Or.inr ⟨rfl, rfl, rfl⟩)))) (hb hby d7_4) hr), hrun, hended, _, _, rfl, ?_, ⟨_, rfl⟩, hW, hsame.mono (by decide) (by decide)⟩
  show Q_kind Z G1 kC uS sS d h0 n0 (some (.ref kC)) T_1.heap _
  rw [e_3]
  exact ⟨rfl, N0, rfl⟩
abbrev M127 : MethodName := ⟨"com/example/manque/manque/Declined$Kind", "status", "()I"⟩
theorem pn_128 : plainName "com/example/manque/manque/Declined$Kind" = true := by first | (simp [plainName, overriddenIn]; done) | decide +kernel
theorem d8_0 : decode prog_2_method_4_code 0 = .ok (.aload_n 0, 1) := by decide +kernel
theorem w99 {Z : State} {a0 : Array Value} (hw : ∀ d ∈ tables_1, d.before a0 Z = true) : Jvm.Cond.before (Jvm.Cond.fieldLink "com/example/manque/manque/Declined$Kind" (44 : Nat) "com/example/manque/manque/Declined$Kind" "status" "I") a0 Z = true := hw _ (List.mem_of_getElem? (i := 99) rfl)
theorem d8_1 : decode prog_2_method_4_code 1 = .ok (.getfield 44, 3) := by decide +kernel
theorem d8_4 : decode prog_2_method_4_code 4 = .ok (.ireturn, 1) := by decide +kernel
abbrev R_kst : Room := { frames := 0, cells := 0, slots := 0, locals := 0 }
def Q_kst (Z : State) (G1 : Int32) (kC : Addr) (uS : Value) (sS : Value)  (h0 : Heap) (n0 : Nat) (v : Option Value) (h : Heap) (L : List Loc) : Prop := (v = some (.int (422 : Int32)) ∧ Fr n0 L ∧ h = h0)
set_option maxRecDepth 65536 in
set_option maxHeartbeats 40000000 in
theorem rm_kst (l : Launch) (Z : State) (a0 : Array Value) (hw : ∀ d ∈ tables_1, d.before a0 Z = true) (ws : List Jvm.Cond) (G1 : Int32) (kC : Addr) (uS : Value) (sS : Value) (HG : own_G l Z a0 G1 kC uS sS) (h0 : Heap) (n0 : Nat) (X00 : Old Z n0 h0)   :
    own_CP l Z M127 prog_2_method_4_code 1 (some .int) ws R_kst #[(.ref kC)] h0 (Q_kst Z G1 kC uS sS  h0 n0) := by
  refine own_P (plainFor_of_name pn_128) ?_
  intro p e s m below meth c s₁ S0 Bd hZ hh hx hby hml hown hnm X0 e0 hS0d
  obtain ⟨O1, P1, O2, E2, F2, hLT, OU, rU, OS, rS⟩ := id HG
  have N0 := Fr.nil n0
  have C0 : Steps p.tables e below S0 (s₁.setTop (mkF m 0 #[.val (.ref kC)] [])) := by rw [hS0d]; exact castTop (ef_102 m kC) (Steps.refl _)
  obtain ⟨T_1, X_2, e_3, st_4⟩ := getF X0 hx hZ hown (host := "") (Or.inl (w99 hw)) Via.refl e0 (F2.ext X00.2) (g := (mkF m 1 #[.val (.ref kC)] [(.ref kC)])) rfl rfl (hb hby d8_1)
  have C_5 : Steps p.tables e below S0 (T_1.setTop (mkF m 4 #[.val (.ref kC)] [(.int (422 : Int32))])) := by
    refine C0.trans ?_
    refine XS.aloadN X0.here hx rfl (hb hby d8_0) rfl rfl ?_
    refine st_4 _ ?_
    exact Steps.refl _
  obtain ⟨fs, hr, hrun, hended, hW, hsame⟩ := X_2.leave (v := some (.int (422 : Int32))) (fun h => by rw [Bd.returns] at h; cases h)
  refine ⟨_, _, C_5.trans (retOut X_2 hx Bd.returns rfl (Or.inl ⟨rfl, Or.inl rfl, _, rfl⟩) (hb hby d8_4) hr), hrun, hended, _, _, rfl, ?_, ⟨_, rfl⟩, hW, hsame.mono (by decide) (by decide)⟩
  show Q_kst Z G1 kC uS sS  h0 n0 (some (.int (422 : Int32))) T_1.heap _
  rw [e_3]
  exact ⟨rfl, N0, rfl⟩
abbrev M133 : MethodName := ⟨"java/lang/String", "equals", "(Ljava/lang/Object;)Z"⟩
theorem ef_134 (m : MethodId) (x0 : Addr) (x1 : Addr) : entryFrame m #[(.ref x0), (.ref x1)] 3 = mkF m 0 #[.val (.ref x0), .val (.ref x1), .unset] [] := by first | (simp [entryFrame, mkF, argsToLocals, Value.category]; done) | rfl
theorem d9_0 : decode jdk_42_method_66_code 0 = .ok (.aload_n 0, 1) := by decide +kernel
theorem d9_1 : decode jdk_42_method_66_code 1 = .ok (.aload_n 1, 1) := by decide +kernel
theorem d9_2 : decode jdk_42_method_66_code 2 = .ok (.if_acmp .ne 5, 3) := by decide +kernel
theorem d9_5 : decode jdk_42_method_66_code 5 = .ok (.iconst 1, 1) := by decide +kernel
theorem d9_6 : decode jdk_42_method_66_code 6 = .ok (.ireturn, 1) := by decide +kernel
abbrev R_eqself : Room := { frames := 0, cells := 0, slots := 0, locals := 0 }
def Q_eqself (Z : State) (G1 : Int32) (kC : Addr) (uS : Value) (sS : Value) (x : Addr) (h0 : Heap) (n0 : Nat) (v : Option Value) (h : Heap) (L : List Loc) : Prop := (v = some (.int (1 : Int32)) ∧ Fr n0 L ∧ h = h0)
set_option maxRecDepth 65536 in
set_option maxHeartbeats 40000000 in
theorem rm_eqself (l : Launch) (Z : State) (a0 : Array Value) (hw : ∀ d ∈ tables_1, d.before a0 Z = true) (ws : List Jvm.Cond) (G1 : Int32) (kC : Addr) (uS : Value) (sS : Value) (HG : own_G l Z a0 G1 kC uS sS) (h0 : Heap) (n0 : Nat) (X00 : Old Z n0 h0) (x : Addr)  :
    own_CP l Z M133 jdk_42_method_66_code 3 (some .boolean) ws R_eqself #[(.ref x), (.ref x)] h0 (Q_eqself Z G1 kC uS sS x h0 n0) := by
  refine own_P (plainFor_of_name pn_2) ?_
  intro p e s m below meth c s₁ S0 Bd hZ hh hx hby hml hown hnm X0 e0 hS0d
  obtain ⟨O1, P1, O2, E2, F2, hLT, OU, rU, OS, rS⟩ := id HG
  have N0 := Fr.nil n0
  have C0 : Steps p.tables e below S0 (s₁.setTop (mkF m 0 #[.val (.ref x), .val (.ref x), .unset] [])) := by rw [hS0d]; exact castTop (ef_134 m x x) (Steps.refl _)
  have C_1 : Steps p.tables e below S0 (s₁.setTop (mkF m 6 #[.val (.ref x), .val (.ref x), .unset] [(.int (1 : Int32))])) := by
    refine C0.trans ?_
    refine XS.aloadN X0.here hx rfl (hb hby d9_0) rfl rfl ?_
    refine XS.aloadN X0.here hx rfl (hb hby d9_1) rfl rfl ?_
    refine acmp X0 hx rfl (cd := .ne) (x := (.ref x)) (y := (.ref x)) rfl rfl (same := true) (pc0 := 2) (pc' := 5) rfl (hb hby d9_2) rfl (decide_eq_true rfl) (by decide) (by decide) ?_
    refine XS.iconst X0.here hx rfl (hb hby d9_5) ?_
    exact Steps.refl _
  obtain ⟨fs, hr, hrun, hended, hW, hsame⟩ := X0.leave (v := some (.int (1 : Int32))) (fun h => by rw [Bd.returns] at h; cases h)
  refine ⟨_, _, C_1.trans (retN X0 hx (t := .boolean) Bd.returns (by simp) (hb hby d9_6) hr), hrun, hended, _, _, rfl, ?_, ⟨_, rfl⟩, hW, hsame.mono (by decide) (by decide)⟩
  show Q_eqself Z G1 kC uS sS x h0 n0 (some (.int (1 : Int32))) s₁.heap _
  rw [e0]
  exact ⟨rfl, N0, rfl⟩
abbrev M140 : MethodName := ⟨"java/lang/StringUTF16", "compress", "([CI[BII)I"⟩
theorem ef_141 (m : MethodId) (x0 : Addr) (x1 : Int32) (x2 : Addr) (x3 : Int32) (x4 : Int32) : entryFrame m #[(.ref x0), (.int x1), (.ref x2), (.int x3), (.int x4)] 7 = mkF m 0 #[.val (.ref x0), .val (.int x1), .val (.ref x2), .val (.int x3), .val (.int x4), .unset, .unset] [] := by first | (simp [entryFrame, mkF, argsToLocals, Value.category]; done) | rfl
theorem pn_142 : plainName "java/lang/StringUTF16" = true := by first | (simp [plainName, overriddenIn]; done) | decide +kernel
theorem d10_0 : decode jdk_52_method_21_code 0 = .ok (.iconst 0, 1) := by decide +kernel
theorem d10_1 : decode jdk_52_method_21_code 1 = .ok (.istore 5, 2) := by decide +kernel
theorem d10_3 : decode jdk_52_method_21_code 3 = .ok (.iload 5, 2) := by decide +kernel
theorem d10_5 : decode jdk_52_method_21_code 5 = .ok (.iload 4, 2) := by decide +kernel
theorem d10_7 : decode jdk_52_method_21_code 7 = .ok (.if_icmp .ge 37, 3) := by decide +kernel
theorem d10_10 : decode jdk_52_method_21_code 10 = .ok (.aload_n 0, 1) := by decide +kernel
theorem d10_11 : decode jdk_52_method_21_code 11 = .ok (.iload_n 1, 1) := by decide +kernel
theorem d10_12 : decode jdk_52_method_21_code 12 = .ok (.caload, 1) := by decide +kernel
theorem d10_13 : decode jdk_52_method_21_code 13 = .ok (.istore 6, 2) := by decide +kernel
theorem d10_15 : decode jdk_52_method_21_code 15 = .ok (.iload 6, 2) := by decide +kernel
theorem d10_17 : decode jdk_52_method_21_code 17 = .ok (.sipush 255, 3) := by decide +kernel
theorem d10_20 : decode jdk_52_method_21_code 20 = .ok (.if_icmp .le 6, 3) := by decide +kernel
theorem d10_26 : decode jdk_52_method_21_code 26 = .ok (.aload_n 2, 1) := by decide +kernel
theorem d10_27 : decode jdk_52_method_21_code 27 = .ok (.iload_n 3, 1) := by decide +kernel
theorem d10_28 : decode jdk_52_method_21_code 28 = .ok (.iload 6, 2) := by decide +kernel
theorem d10_30 : decode jdk_52_method_21_code 30 = .ok (.i2b, 1) := by decide +kernel
theorem d10_31 : decode jdk_52_method_21_code 31 = .ok (.bastore, 1) := by decide +kernel
theorem d10_32 : decode jdk_52_method_21_code 32 = .ok (.iinc 1 1, 3) := by decide +kernel
theorem d10_35 : decode jdk_52_method_21_code 35 = .ok (.iinc 3 1, 3) := by decide +kernel
theorem d10_38 : decode jdk_52_method_21_code 38 = .ok (.iinc 5 1, 3) := by decide +kernel
theorem d10_41 : decode jdk_52_method_21_code 41 = .ok (.goto (-38), 3) := by decide +kernel
theorem d10_44 : decode jdk_52_method_21_code 44 = .ok (.iload 4, 2) := by decide +kernel
theorem d10_46 : decode jdk_52_method_21_code 46 = .ok (.ireturn, 1) := by decide +kernel
abbrev R_cmp5_2 : Room := { frames := 0, cells := 0, slots := 0, locals := 0 }
def Q_cmp5_2 (Z : State) (G1 : Int32) (kC : Addr) (uS : Value) (sS : Value) (b : Addr) (k : ClassId) (t : Addr) (kt : ClassId) (c0 : Int32) (c1 : Int32) (h0 : Heap) (n0 : Nat) (v : Option Value) (h : Heap) (L : List Loc) : Prop := (v = some (.int (2 : Int32)) ∧ Fr n0 L ∧ Keep h0 h [t] ∧ (Arv Z h t kt .byte (2 : Int32) [(.int (own_lo8 c0)), (.int (own_lo8 c1))] (.int (0 : Int32))))
set_option maxRecDepth 65536 in
set_option maxHeartbeats 40000000 in
theorem rm_cmp5_2 (l : Launch) (Z : State) (a0 : Array Value) (hw : ∀ d ∈ tables_1, d.before a0 Z = true) (ws : List Jvm.Cond) (G1 : Int32) (kC : Addr) (uS : Value) (sS : Value) (HG : own_G l Z a0 G1 kC uS sS) (h0 : Heap) (n0 : Nat) (X00 : Old Z n0 h0) (b : Addr) (k : ClassId) (t : Addr) (kt : ClassId) (c0 : Int32) (c1 : Int32) (hp0 : Arv Z h0 b k .char (2 : Int32) [(.int c0), (.int c1)] (.int (0 : Int32))) (hp1 : Arv Z h0 t kt .byte (2 : Int32) [(.int (0 : Int32)), (.int (0 : Int32))] (.int (0 : Int32))) (hp2 : n0 ≤ t) (hp3 : b ≠ t) (hh0 : ¬ ((255 : Int32) < c0)) (hh1 : ¬ ((255 : Int32) < c1)) :
    own_CP l Z M140 jdk_52_method_21_code 7 (some .int) ws R_cmp5_2 #[(.ref b), (.int (0 : Int32)), (.ref t), (.int (0 : Int32)), (.int (2 : Int32))] h0 (Q_cmp5_2 Z G1 kC uS sS b k t kt c0 c1 h0 n0) := by
  refine own_P (plainFor_of_name pn_142) ?_
  intro p e s m below meth c s₁ S0 Bd hZ hh hx hby hml hown hnm X0 e0 hS0d
  obtain ⟨O1, P1, O2, E2, F2, hLT, OU, rU, OS, rS⟩ := id HG
  have N0 := Fr.nil n0
  have C0 : Steps p.tables e below S0 (s₁.setTop (mkF m 0 #[.val (.ref b), .val (.int (0 : Int32)), .val (.ref t), .val (.int (0 : Int32)), .val (.int (2 : Int32)), .unset, .unset] [])) := by rw [hS0d]; exact castTop (ef_141 m b (0 : Int32) t (0 : Int32) (2 : Int32)) (Steps.refl _)
  obtain ⟨c_1, A_2, q_3, S_4, M_5, H_6, U_7⟩ := id hp0
  have hin_8 : ¬ ((0 : Int32) < 0 ∨ c_1.slots.size ≤ (0 : Int32).toNatClampNeg) := inb_of S_4 ⟨(by decide : ¬ ((0 : Int32) < (0 : Int32))), (by decide : (0 : Int32) < (2 : Int32))⟩
  have hat_9 : c_1.slots[(0 : Int32).toNatClampNeg]? = some (.int c0) := Has.at H_6 hin_8 rfl
  obtain ⟨c_10, A_11, q_12, S_13, M_14, H_15, U_16⟩ := id hp1
  have hin_23 : ¬ ((0 : Int32) < 0 ∨ c_10.slots.size ≤ (0 : Int32).toNatClampNeg) := inb_of S_13 ⟨(by decide : ¬ ((0 : Int32) < (0 : Int32))), (by decide : (0 : Int32) < (2 : Int32))⟩
  obtain ⟨T_17, h_18, X_19, e_20, W_21, st_22⟩ := stB X0 hx hZ e0 A_11 (j := (0 : Int32)) hin_23 (g := (mkF m 31 #[.val (.ref b), .val (.int (0 : Int32)), .val (.ref t), .val (.int (0 : Int32)), .val (.int (2 : Int32)), .val (.int (0 : Int32)), .val (.int c0)] [(.int (c0.toInt8.toInt32)), (.int (0 : Int32)), (.ref t)])) rfl rfl (hb hby d10_31)
  have N_24 := Fr.snoc X_19 N0 hp2
  have V_25 : Arv Z h_18 t kt .byte (2 : Int32) [(.int (own_lo8 c0)), (.int (0 : Int32))] (.int (0 : Int32)) := Arv.set A_11 q_12 S_13 M_14 H_15 U_16 (fits_nar_byte _) W_21 0 rfl (Nat.le_of_ble_eq_true rfl)
  have V_26 : Arv Z h_18 b k .char (2 : Int32) [(.int c0), (.int c1)] (.int (0 : Int32)) := (hp0.other W_21 hp3)
  obtain ⟨c_27, A_28, q_29, S_30, M_31, H_32, U_33⟩ := id V_26
  have hin_34 : ¬ ((1 : Int32) < 0 ∨ c_27.slots.size ≤ (1 : Int32).toNatClampNeg) := inb_of S_30 ⟨(by decide : ¬ ((1 : Int32) < (0 : Int32))), (by decide : (1 : Int32) < (2 : Int32))⟩
  have hat_35 : c_27.slots[(1 : Int32).toNatClampNeg]? = some (.int c1) := Has.at H_32 hin_34 rfl
  obtain ⟨c_36, A_37, q_38, S_39, M_40, H_41, U_42⟩ := id V_25
  have hin_49 : ¬ ((1 : Int32) < 0 ∨ c_36.slots.size ≤ (1 : Int32).toNatClampNeg) := inb_of S_39 ⟨(by decide : ¬ ((1 : Int32) < (0 : Int32))), (by decide : (1 : Int32) < (2 : Int32))⟩
  obtain ⟨T_43, h_44, X_45, e_46, W_47, st_48⟩ := stB X_19 hx hZ e_20 A_37 (j := (1 : Int32)) hin_49 (g := (mkF m 31 #[.val (.ref b), .val (.int (1 : Int32)), .val (.ref t), .val (.int (1 : Int32)), .val (.int (2 : Int32)), .val (.int (1 : Int32)), .val (.int c1)] [(.int (c1.toInt8.toInt32)), (.int (1 : Int32)), (.ref t)])) rfl rfl (hb hby d10_31)
  have N_50 := Fr.snoc X_45 N_24 hp2
  have V_51 : Arv Z h_44 t kt .byte (2 : Int32) [(.int (own_lo8 c0)), (.int (own_lo8 c1))] (.int (0 : Int32)) := Arv.set A_37 q_38 S_39 M_40 H_41 U_42 (fits_nar_byte _) W_47 1 rfl (Nat.le_of_ble_eq_true rfl)
  have C_52 : Steps p.tables e below S0 (T_43.setTop (mkF m 46 #[.val (.ref b), .val (.int (2 : Int32)), .val (.ref t), .val (.int (2 : Int32)), .val (.int (2 : Int32)), .val (.int (2 : Int32)), .val (.int c1)] [(.int (2 : Int32))])) := by
    refine C0.trans ?_
    refine XS.iconst X0.here hx rfl (hb hby d10_0) ?_
    refine XS.istore X0.here hx rfl (hb hby d10_1) rfl (l' := #[.val (.ref b), .val (.int (0 : Int32)), .val (.ref t), .val (.int (0 : Int32)), .val (.int (2 : Int32)), .val (.int (0 : Int32)), .unset]) rfl ?_
    refine XS.iload X0.here hx rfl (hb hby d10_3) rfl ?_
    refine XS.iload X0.here hx rfl (hb hby d10_5) rfl ?_
    refine XS.icmpNo X0.here hx rfl (hb hby d10_7) rfl (by decide) ?_
    refine XS.aloadN X0.here hx rfl (hb hby d10_10) rfl rfl ?_
    refine XS.iloadN X0.here hx rfl (hb hby d10_11) rfl ?_
    refine X0.caload hx (j := (0 : Int32)) (v := (.int c0)) (by rw [e0]; exact A_2.1) (State.isArrayOf_alike hZ.alike A_2.2.1) A_2.2.2 hin_8 hat_9 (g := (mkF m 12 #[.val (.ref b), .val (.int (0 : Int32)), .val (.ref t), .val (.int (0 : Int32)), .val (.int (2 : Int32)), .val (.int (0 : Int32)), .unset] [(.int (0 : Int32)), (.ref b)])) rfl rfl (hb hby d10_12) _ ?_
    show Steps p.tables e below (s₁.setTop (mkF m 13 #[.val (.ref b), .val (.int (0 : Int32)), .val (.ref t), .val (.int (0 : Int32)), .val (.int (2 : Int32)), .val (.int (0 : Int32)), .unset] [(.int c0)])) _
    refine XS.istore X0.here hx rfl (hb hby d10_13) rfl (l' := #[.val (.ref b), .val (.int (0 : Int32)), .val (.ref t), .val (.int (0 : Int32)), .val (.int (2 : Int32)), .val (.int (0 : Int32)), .val (.int c0)]) rfl ?_
    refine XS.iload X0.here hx rfl (hb hby d10_15) rfl ?_
    refine XS.sipush X0.here hx rfl (hb hby d10_17) ?_
    refine XS.icmpYes X0.here hx rfl (pc0 := 20) (pc' := 26) rfl (hb hby d10_20) rfl (ii_le_t hh0) (by decide) (by decide) ?_
    refine XS.aloadN X0.here hx rfl (hb hby d10_26) rfl rfl ?_
    refine XS.iloadN X0.here hx rfl (hb hby d10_27) rfl ?_
    refine XS.iload X0.here hx rfl (hb hby d10_28) rfl ?_
    refine XS.i2b X0.here hx rfl (hb hby d10_30) rfl ?_
    show Steps p.tables e below (s₁.setTop (mkF m 31 #[.val (.ref b), .val (.int (0 : Int32)), .val (.ref t), .val (.int (0 : Int32)), .val (.int (2 : Int32)), .val (.int (0 : Int32)), .val (.int c0)] [(.int (c0.toInt8.toInt32)), (.int (0 : Int32)), (.ref t)])) _
    refine st_22 _ ?_
    refine XS.iinc X_19.here hx rfl (hb hby d10_32) (x := (0 : Int32)) rfl (l' := #[.val (.ref b), .val (.int (1 : Int32)), .val (.ref t), .val (.int (0 : Int32)), .val (.int (2 : Int32)), .val (.int (0 : Int32)), .val (.int c0)]) rfl ?_
    refine XS.iinc X_19.here hx rfl (hb hby d10_35) (x := (0 : Int32)) rfl (l' := #[.val (.ref b), .val (.int (1 : Int32)), .val (.ref t), .val (.int (1 : Int32)), .val (.int (2 : Int32)), .val (.int (0 : Int32)), .val (.int c0)]) rfl ?_
    refine XS.iinc X_19.here hx rfl (hb hby d10_38) (x := (0 : Int32)) rfl (l' := #[.val (.ref b), .val (.int (1 : Int32)), .val (.ref t), .val (.int (1 : Int32)), .val (.int (2 : Int32)), .val (.int (1 : Int32)), .val (.int c0)]) rfl ?_
    refine XS.goto X_19.here hx rfl (pc0 := 41) (pc' := 3) rfl (hb hby d10_41) (by decide) (by decide) ?_
    refine XS.iload X_19.here hx rfl (hb hby d10_3) rfl ?_
    refine XS.iload X_19.here hx rfl (hb hby d10_5) rfl ?_
    refine XS.icmpNo X_19.here hx rfl (hb hby d10_7) rfl (by decide) ?_
    show Steps p.tables e below (T_17.setTop (mkF m 10 #[.val (.ref b), .val (.int (1 : Int32)), .val (.ref t), .val (.int (1 : Int32)), .val (.int (2 : Int32)), .val (.int (1 : Int32)), .val (.int c0)] [])) _
    refine XS.aloadN X_19.here hx rfl (hb hby d10_10) rfl rfl ?_
    refine XS.iloadN X_19.here hx rfl (hb hby d10_11) rfl ?_
    refine X_19.caload hx (j := (1 : Int32)) (v := (.int c1)) (by rw [e_20]; exact A_28.1) (State.isArrayOf_alike hZ.alike A_28.2.1) A_28.2.2 hin_34 hat_35 (g := (mkF m 12 #[.val (.ref b), .val (.int (1 : Int32)), .val (.ref t), .val (.int (1 : Int32)), .val (.int (2 : Int32)), .val (.int (1 : Int32)), .val (.int c0)] [(.int (1 : Int32)), (.ref b)])) rfl rfl (hb hby d10_12) _ ?_
    refine XS.istore X_19.here hx rfl (hb hby d10_13) rfl (l' := #[.val (.ref b), .val (.int (1 : Int32)), .val (.ref t), .val (.int (1 : Int32)), .val (.int (2 : Int32)), .val (.int (1 : Int32)), .val (.int c1)]) rfl ?_
    refine XS.iload X_19.here hx rfl (hb hby d10_15) rfl ?_
    refine XS.sipush X_19.here hx rfl (hb hby d10_17) ?_
    refine XS.icmpYes X_19.here hx rfl (pc0 := 20) (pc' := 26) rfl (hb hby d10_20) rfl (ii_le_t hh1) (by decide) (by decide) ?_
    refine XS.aloadN X_19.here hx rfl (hb hby d10_26) rfl rfl ?_
    show Steps p.tables e below (T_17.setTop (mkF m 27 #[.val (.ref b), .val (.int (1 : Int32)), .val (.ref t), .val (.int (1 : Int32)), .val (.int (2 : Int32)), .val (.int (1 : Int32)), .val (.int c1)] [(.ref t)])) _
    refine XS.iloadN X_19.here hx rfl (hb hby d10_27) rfl ?_
    refine XS.iload X_19.here hx rfl (hb hby d10_28) rfl ?_
    refine XS.i2b X_19.here hx rfl (hb hby d10_30) rfl ?_
    refine st_48 _ ?_
    refine XS.iinc X_45.here hx rfl (hb hby d10_32) (x := (1 : Int32)) rfl (l' := #[.val (.ref b), .val (.int (2 : Int32)), .val (.ref t), .val (.int (1 : Int32)), .val (.int (2 : Int32)), .val (.int (1 : Int32)), .val (.int c1)]) rfl ?_
    refine XS.iinc X_45.here hx rfl (hb hby d10_35) (x := (1 : Int32)) rfl (l' := #[.val (.ref b), .val (.int (2 : Int32)), .val (.ref t), .val (.int (2 : Int32)), .val (.int (2 : Int32)), .val (.int (1 : Int32)), .val (.int c1)]) rfl ?_
    refine XS.iinc X_45.here hx rfl (hb hby d10_38) (x := (1 : Int32)) rfl (l' := #[.val (.ref b), .val (.int (2 : Int32)), .val (.ref t), .val (.int (2 : Int32)), .val (.int (2 : Int32)), .val (.int (2 : Int32)), .val (.int c1)]) rfl ?_
    refine XS.goto X_45.here hx rfl (pc0 := 41) (pc' := 3) rfl (hb hby d10_41) (by decide) (by decide) ?_
    show Steps p.tables e below (T_43.setTop (mkF m 3 #[.val (.ref b), .val (.int (2 : Int32)), .val (.ref t), .val (.int (2 : Int32)), .val (.int (2 : Int32)), .val (.int (2 : Int32)), .val (.int c1)] [])) _
    refine XS.iload X_45.here hx rfl (hb hby d10_3) rfl ?_
    refine XS.iload X_45.here hx rfl (hb hby d10_5) rfl ?_
    refine XS.icmpYes X_45.here hx rfl (pc0 := 7) (pc' := 44) rfl (hb hby d10_7) rfl (by decide) (by decide) (by decide) ?_
    refine XS.iload X_45.here hx rfl (hb hby d10_44) rfl ?_
    exact Steps.refl _
  have K_53 : Keep h0 h_44 [t] := (((Keep.refl _ _).wr W_21 (Or.inl (List.mem_of_getElem? (i := 0) rfl))).wr W_47 (Or.inl (List.mem_of_getElem? (i := 0) rfl)))
  obtain ⟨fs, hr, hrun, hended, hW, hsame⟩ := X_45.leave (v := some (.int (2 : Int32))) (fun h => by rw [Bd.returns] at h; cases h)
  refine ⟨_, _, C_52.trans (retOut X_45 hx Bd.returns rfl (Or.inl ⟨rfl, Or.inl rfl, _, rfl⟩) (hb hby d10_46) hr), hrun, hended, _, _, rfl, ?_, ⟨_, rfl⟩, hW, hsame.mono (by decide) (by decide)⟩
  show Q_cmp5_2 Z G1 kC uS sS b k t kt c0 c1 h0 n0 (some (.int (2 : Int32))) T_43.heap _
  rw [e_46]
  exact ⟨rfl, N_50, K_53, V_51⟩
abbrev M166 : MethodName := ⟨"java/lang/StringUTF16", "compress", "([CII)[B"⟩
theorem ef_167 (m : MethodId) (x0 : Addr) (x1 : Int32) (x2 : Int32) : entryFrame m #[(.ref x0), (.int x1), (.int x2)] 6 = mkF m 0 #[.val (.ref x0), .val (.int x1), .val (.int x2), .unset, .unset, .unset] [] := by first | (simp [entryFrame, mkF, argsToLocals, Value.category]; done) | rfl
theorem d11_0 : decode jdk_52_method_16_code 0 = .ok (.iload_n 2, 1) := by decide +kernel
theorem w19 {Z : State} {a0 : Array Value} (hw : ∀ d ∈ tables_1, d.before a0 Z = true) : Jvm.Cond.before (Jvm.Cond.arrayClass Jvm.ClassFile.FieldType.byte) a0 Z = true := hw _ (List.mem_of_getElem? (i := 19) rfl)
theorem d11_1 : decode jdk_52_method_16_code 1 = .ok (.newarray .byte, 2) := by decide +kernel
theorem d11_3 : decode jdk_52_method_16_code 3 = .ok (.astore_n 3, 1) := by decide +kernel
theorem d11_4 : decode jdk_52_method_16_code 4 = .ok (.aload_n 0, 1) := by decide +kernel
theorem d11_5 : decode jdk_52_method_16_code 5 = .ok (.iload_n 1, 1) := by decide +kernel
theorem d11_6 : decode jdk_52_method_16_code 6 = .ok (.aload_n 3, 1) := by decide +kernel
theorem d11_7 : decode jdk_52_method_16_code 7 = .ok (.iconst 0, 1) := by decide +kernel
theorem d11_8 : decode jdk_52_method_16_code 8 = .ok (.iload_n 2, 1) := by decide +kernel
theorem w143 {Z : State} {a0 : Array Value} (hw : ∀ d ∈ tables_1, d.before a0 Z = true) : Jvm.Cond.before (Jvm.Cond.code ({ cls := "java/lang/StringUTF16", name := "compress", desc := "([CI[BII)I" } : Jvm.MethodName) jdk_52_method_21_code (7 : Nat) (Option.some Jvm.ClassFile.FieldType.int)) a0 Z = true := hw _ (List.mem_of_getElem? (i := 143) rfl)
theorem w139 {Z : State} {a0 : Array Value} (hw : ∀ d ∈ tables_1, d.before a0 Z = true) : Jvm.Cond.before (Jvm.Cond.initialized "java/lang/StringUTF16") a0 Z = true := hw _ (List.mem_of_getElem? (i := 139) rfl)
theorem pd_179 : parseMethodDescriptor "([CI[BII)I" = some ⟨[(.array .char), .int, (.array .byte), .int, .int], some .int⟩ := by decide +kernel
theorem d11_9 : decode jdk_52_method_16_code 9 = .ok (.invokestatic 115, 3) := by decide +kernel
theorem w141 {Z : State} {a0 : Array Value} (hw : ∀ d ∈ tables_1, d.before a0 Z = true) : Jvm.Cond.before (Jvm.Cond.methodLink "java/lang/StringUTF16" (115 : Nat) ({ cls := "java/lang/StringUTF16", name := "compress", desc := "([CI[BII)I" } : Jvm.MethodName)) a0 Z = true := hw _ (List.mem_of_getElem? (i := 141) rfl)
theorem w142 {Z : State} {a0 : Array Value} (hw : ∀ d ∈ tables_1, d.before a0 Z = true) : Jvm.Cond.before (Jvm.Cond.static ({ cls := "java/lang/StringUTF16", name := "compress", desc := "([CI[BII)I" } : Jvm.MethodName)) a0 Z = true := hw _ (List.mem_of_getElem? (i := 142) rfl)
theorem d11_12 : decode jdk_52_method_16_code 12 = .ok (.istore 4, 2) := by decide +kernel
theorem d11_14 : decode jdk_52_method_16_code 14 = .ok (.iload 4, 2) := by decide +kernel
theorem d11_16 : decode jdk_52_method_16_code 16 = .ok (.iload_n 2, 1) := by decide +kernel
theorem d11_17 : decode jdk_52_method_16_code 17 = .ok (.if_icmp .eq 40, 3) := by decide +kernel
theorem d11_57 : decode jdk_52_method_16_code 57 = .ok (.aload_n 3, 1) := by decide +kernel
theorem d11_58 : decode jdk_52_method_16_code 58 = .ok (.areturn, 1) := by decide +kernel
abbrev R_cmp3_2 : Room := { frames := 1, cells := 1, slots := 2, locals := 18 }
def Q_cmp3_2 (Z : State) (G1 : Int32) (kC : Addr) (uS : Value) (sS : Value) (b : Addr) (k : ClassId) (c0 : Int32) (c1 : Int32) (h0 : Heap) (n0 : Nat) (v : Option Value) (h : Heap) (L : List Loc) : Prop := (∃ t : Addr, ∃ kt : ClassId, v = some (.ref t) ∧ Fr n0 L ∧ Keep h0 h [] ∧ (h0.size ≤ t) ∧ (Arv Z h t kt .byte (2 : Int32) [(.int (own_lo8 c0)), (.int (own_lo8 c1))] (.int (0 : Int32))))
set_option maxRecDepth 65536 in
set_option maxHeartbeats 40000000 in
theorem rm_cmp3_2 (l : Launch) (Z : State) (a0 : Array Value) (hw : ∀ d ∈ tables_1, d.before a0 Z = true) (ws : List Jvm.Cond) (G1 : Int32) (kC : Addr) (uS : Value) (sS : Value) (HG : own_G l Z a0 G1 kC uS sS) (h0 : Heap) (n0 : Nat) (X00 : Old Z n0 h0) (b : Addr) (k : ClassId) (c0 : Int32) (c1 : Int32) (hp0 : Arv Z h0 b k .char (2 : Int32) [(.int c0), (.int c1)] (.int (0 : Int32))) (hh0 : ¬ ((255 : Int32) < c0)) (hh1 : ¬ ((255 : Int32) < c1)) :
    own_CP l Z M166 jdk_52_method_16_code 6 (some (.array .byte)) ws R_cmp3_2 #[(.ref b), (.int (0 : Int32)), (.int (2 : Int32))] h0 (Q_cmp3_2 Z G1 kC uS sS b k c0 c1 h0 n0) := by
  refine own_P (plainFor_of_name pn_142) ?_
  intro p e s m below meth c s₁ S0 Bd hZ hh hx hby hml hown hnm X0 e0 hS0d
  obtain ⟨O1, P1, O2, E2, F2, hLT, OU, rU, OS, rS⟩ := id HG
  have N0 := Fr.nil n0
  have C0 : Steps p.tables e below S0 (s₁.setTop (mkF m 0 #[.val (.ref b), .val (.int (0 : Int32)), .val (.int (2 : Int32)), .unset, .unset, .unset] [])) := by rw [hS0d]; exact castTop (ef_167 m b (0 : Int32) (2 : Int32)) (Steps.refl _)
  obtain ⟨T_1, h_2, k_3, X_4, e_5, E_6, A_7, st_8⟩ := newP (aty := .byte) X0 hx hZ (w19 hw) e0 (g := (mkF m 1 #[.val (.ref b), .val (.int (0 : Int32)), .val (.int (2 : Int32)), .unset, .unset, .unset] [(.int (2 : Int32))])) rfl (hb hby d11_1) rfl (by decide : ¬ ((2 : Int32) < (0 : Int32))) (cap := 2) (by decide : (2 : Int32).toNatClampNeg ≤ 2) (by decide) (by decide) (by decide)
  obtain ⟨a_9, g_10⟩ : ∃ z, z = h0.size := ⟨_, rfl⟩
  rw [← g_10] at A_7 st_8
  have V_12 : Arv Z h_2 a_9 k_3 .byte (2 : Int32) [] (.int (0 : Int32)) := Arv.new A_7 (by decide : ¬ ((2 : Int32) < (0 : Int32)))
  have V_11 : Arv Z h_2 a_9 k_3 .byte (2 : Int32) [(.int (0 : Int32)), (.int (0 : Int32))] (.int (0 : Int32)) := (V_12.pad (pad_rep [] (.int (0 : Int32)) 2))
  have V_13 : Arv Z h_2 b k .char (2 : Int32) [(.int c0), (.int c1)] (.int (0 : Int32)) := (hp0.ext E_6)
  have O_14 : Old Z n0 h_2 := (X00.ext E_6)
  obtain ⟨_, _, ⟨T_15, L_15, k_15, n_15⟩, -, X_15, ⟨Lc_15, hQ_15, l_15, y_15, z_15⟩, st_15⟩ := Jvm.LawKit.callS X_4 hx (y := M140) hown (mvT hZ (w141 hw)) (mvT hZ (w142 hw)) (mvT hZ (w139 hw)) (mvT hZ (w143 hw)) (by decide) (backOf (W := 0) (rm_cmp5_2 l Z a0 hw [] G1 kC uS sS HG h_2 n0 O_14 b k a_9 k_3 c0 c1 V_13 V_11 (Nat.le_trans (own_n0 X00) (Nat.le_of_eq g_10.symm)) (Nat.ne_of_lt (Nat.lt_of_lt_of_le hp0.lt (Nat.le_trans (Nat.le_refl _) (Nat.le_of_eq g_10.symm)))) hh0 hh1) hZ (w143 hw) (w139 hw) (by decide) (by decide)) (g := (mkF m 9 #[.val (.ref b), .val (.int (0 : Int32)), .val (.int (2 : Int32)), .val (.ref a_9), .unset, .unset] [(.int (2 : Int32)), (.int (0 : Int32)), (.ref a_9), (.int (0 : Int32)), (.ref b)])) rfl (by rw [hml]; rfl) (argsL := [(.ref b), (.int (0 : Int32)), (.ref a_9), (.int (0 : Int32)), (.int (2 : Int32))]) (rest := []) (lenOf pd_179 rfl) rfl (by show 2 * 0 + _ ≤ _; exact Nat.le_of_eq rfl) (hb hby d11_9) (fun _ _ => ⟨rfl, e_5, (by decide : 1 + 0 ≤ _), (by decide : 2 + 0 ≤ _)⟩)
  dsimp only [Pt.U, Pt.locs, Pt.cells, Pt.slots] at X_15 l_15 y_15 z_15 st_15 hQ_15
  subst l_15 y_15 z_15
  obtain ⟨rfl, N_16, K_17, g_18⟩ := hQ_15
  have N_19 := Fr.app N0 N_16
  have C_20 : Steps p.tables e below S0 (T_15.setTop (mkF m 58 #[.val (.ref b), .val (.int (0 : Int32)), .val (.int (2 : Int32)), .val (.ref a_9), .val (.int (2 : Int32)), .unset] [(.ref a_9)])) := by
    refine C0.trans ?_
    refine XS.iloadN X0.here hx rfl (hb hby d11_0) rfl ?_
    refine st_8 _ ?_
    refine XS.astoreN X_4.here hx rfl (hb hby d11_3) rfl rfl (l' := #[.val (.ref b), .val (.int (0 : Int32)), .val (.int (2 : Int32)), .val (.ref a_9), .unset, .unset]) rfl ?_
    refine XS.aloadN X_4.here hx rfl (hb hby d11_4) rfl rfl ?_
    refine XS.iloadN X_4.here hx rfl (hb hby d11_5) rfl ?_
    refine XS.aloadN X_4.here hx rfl (hb hby d11_6) rfl rfl ?_
    refine XS.iconst X_4.here hx rfl (hb hby d11_7) ?_
    refine XS.iloadN X_4.here hx rfl (hb hby d11_8) rfl ?_
    show Steps p.tables e below (T_1.setTop (mkF m 9 #[.val (.ref b), .val (.int (0 : Int32)), .val (.int (2 : Int32)), .val (.ref a_9), .unset, .unset] [(.int (2 : Int32)), (.int (0 : Int32)), (.ref a_9), (.int (0 : Int32)), (.ref b)])) _
    refine st_15 _ ?_
    refine XS.istore X_15.here hx rfl (hb hby d11_12) rfl (l' := #[.val (.ref b), .val (.int (0 : Int32)), .val (.int (2 : Int32)), .val (.ref a_9), .val (.int (2 : Int32)), .unset]) rfl ?_
    refine XS.iload X_15.here hx rfl (hb hby d11_14) rfl ?_
    refine XS.iloadN X_15.here hx rfl (hb hby d11_16) rfl ?_
    refine XS.icmpYes X_15.here hx rfl (pc0 := 17) (pc' := 57) rfl (hb hby d11_17) rfl (by decide) (by decide) (by decide) ?_
    refine XS.aloadN X_15.here hx rfl (hb hby d11_57) rfl rfl ?_
    exact Steps.refl _
  have K_21 : Keep h0 T_15.heap [] := (((Keep.refl _ _).ext E_6).trans K_17 (allS (Or.inr (Nat.le_trans (Nat.le_refl _) (Nat.le_of_eq g_10.symm))) all0))
  obtain ⟨fs, hr, hrun, hended, hW, hsame⟩ := X_15.leave (v := some (.ref a_9)) (fun h => by rw [Bd.returns] at h; cases h)
  refine ⟨_, _, C_20.trans (retOut X_15 hx Bd.returns rfl (Or.inr (Or.inr (Or.inr (Or.inr ⟨rfl, rfl, rfl⟩)))) (hb hby d11_58) hr), hrun, hended, _, _, rfl, ?_, ⟨_, rfl⟩, hW, hsame.mono (by decide) (by decide)⟩
  show Q_cmp3_2 Z G1 kC uS sS b k c0 c1 h0 n0 (some (.ref a_9)) T_15.heap _
  exact ⟨a_9, k_3, rfl, N_19, K_21, (Nat.le_trans (Nat.le_refl _) (Nat.le_of_eq g_10.symm)), g_18⟩
abbrev M189 : MethodName := ⟨"java/lang/StringUTF16", "coderFromArrayLen", "([BI)B"⟩
theorem ef_190 (m : MethodId) (x0 : Addr) (x1 : Int32) : entryFrame m #[(.ref x0), (.int x1)] 2 = mkF m 0 #[.val (.ref x0), .val (.int x1)] [] := by first | (simp [entryFrame, mkF, argsToLocals, Value.category]; done) | rfl
theorem d12_0 : decode jdk_52_method_15_code 0 = .ok (.iload_n 1, 1) := by decide +kernel
theorem d12_1 : decode jdk_52_method_15_code 1 = .ok (.aload_n 0, 1) := by decide +kernel
theorem d12_2 : decode jdk_52_method_15_code 2 = .ok (.arraylength, 1) := by decide +kernel
theorem d12_3 : decode jdk_52_method_15_code 3 = .ok (.isub, 1) := by decide +kernel
theorem d12_4 : decode jdk_52_method_15_code 4 = .ok (.bipush 31, 2) := by decide +kernel
theorem d12_6 : decode jdk_52_method_15_code 6 = .ok (.iushr, 1) := by decide +kernel
theorem d12_7 : decode jdk_52_method_15_code 7 = .ok (.i2b, 1) := by decide +kernel
theorem d12_8 : decode jdk_52_method_15_code 8 = .ok (.ireturn, 1) := by decide +kernel
abbrev R_codl_2 : Room := { frames := 0, cells := 0, slots := 0, locals := 0 }
def Q_codl_2 (Z : State) (G1 : Int32) (kC : Addr) (uS : Value) (sS : Value) (t : Addr) (kt : ClassId) (y0 : Int32) (y1 : Int32) (h0 : Heap) (n0 : Nat) (v : Option Value) (h : Heap) (L : List Loc) : Prop := (v = some (.int (0 : Int32)) ∧ Fr n0 L ∧ h = h0)
set_option maxRecDepth 65536 in
set_option maxHeartbeats 40000000 in
theorem rm_codl_2 (l : Launch) (Z : State) (a0 : Array Value) (hw : ∀ d ∈ tables_1, d.before a0 Z = true) (ws : List Jvm.Cond) (G1 : Int32) (kC : Addr) (uS : Value) (sS : Value) (HG : own_G l Z a0 G1 kC uS sS) (h0 : Heap) (n0 : Nat) (X00 : Old Z n0 h0) (t : Addr) (kt : ClassId) (y0 : Int32) (y1 : Int32) (hp0 : Arv Z h0 t kt .byte (2 : Int32) [(.int y0), (.int y1)] (.int (0 : Int32))) :
    own_CP l Z M189 jdk_52_method_15_code 2 (some .byte) ws R_codl_2 #[(.ref t), (.int (2 : Int32))] h0 (Q_codl_2 Z G1 kC uS sS t kt y0 y1 h0 n0) := by
  refine own_P (plainFor_of_name pn_142) ?_
  intro p e s m below meth c s₁ S0 Bd hZ hh hx hby hml hown hnm X0 e0 hS0d
  obtain ⟨O1, P1, O2, E2, F2, hLT, OU, rU, OS, rS⟩ := id HG
  have N0 := Fr.nil n0
  have C0 : Steps p.tables e below S0 (s₁.setTop (mkF m 0 #[.val (.ref t), .val (.int (2 : Int32))] [])) := by rw [hS0d]; exact castTop (ef_190 m t (2 : Int32)) (Steps.refl _)
  obtain ⟨c_1, A_2, q_3, S_4, M_5, H_6, U_7⟩ := id hp0
  have C_8 : Steps p.tables e below S0 (s₁.setTop (mkF m 8 #[.val (.ref t), .val (.int (2 : Int32))] [(.int (0 : Int32))])) := by
    refine C0.trans ?_
    refine XS.iloadN X0.here hx rfl (hb hby d12_0) rfl ?_
    refine XS.aloadN X0.here hx rfl (hb hby d12_1) rfl rfl ?_
    refine X0.arraylength hx (by rw [e0]; exact A_2.1) (State.isArrayOf_alike hZ.alike A_2.2.1) (g := (mkF m 2 #[.val (.ref t), .val (.int (2 : Int32))] [(.ref t), (.int (2 : Int32))])) rfl rfl (hb hby d12_2) _ ?_
    rw [len_of S_4 M_5]
    refine XS.isub X0.here hx rfl (hb hby d12_3) rfl ?_
    refine XS.bipush X0.here hx rfl (hb hby d12_4) ?_
    refine XS.iushr X0.here hx rfl (hb hby d12_6) rfl ?_
    refine XS.i2b X0.here hx rfl (hb hby d12_7) rfl ?_
    exact Steps.refl _
  obtain ⟨fs, hr, hrun, hended, hW, hsame⟩ := X0.leave (v := some (.int (0 : Int32))) (fun h => by rw [Bd.returns] at h; cases h)
  refine ⟨_, _, C_8.trans (retN X0 hx (t := .byte) Bd.returns (by simp) (hb hby d12_8) hr), hrun, hended, _, _, rfl, ?_, ⟨_, rfl⟩, hW, hsame.mono (by decide) (by decide)⟩
  show Q_codl_2 Z G1 kC uS sS t kt y0 y1 h0 n0 (some (.int (0 : Int32))) s₁.heap _
  rw [e0]
  exact ⟨rfl, N0, rfl⟩
theorem w117 {Z : State} {a0 : Array Value} (hw : ∀ d ∈ tables_1, d.before a0 Z = true) : Jvm.Cond.before (Jvm.Cond.fieldLink "java/lang/String" (38 : Nat) "java/lang/String" "COMPACT_STRINGS" "Z") a0 Z = true := hw _ (List.mem_of_getElem? (i := 117) rfl)
theorem d0_27 : decode jdk_42_method_149_code 27 = .ok (.getstatic 38, 3) := by decide +kernel
theorem d0_30 : decode jdk_42_method_149_code 30 = .ok (.ifCond .eq 28, 3) := by decide +kernel
theorem d0_33 : decode jdk_42_method_149_code 33 = .ok (.aload_n 1, 1) := by decide +kernel
theorem d0_34 : decode jdk_42_method_149_code 34 = .ok (.iload_n 2, 1) := by decide +kernel
theorem d0_35 : decode jdk_42_method_149_code 35 = .ok (.iload_n 3, 1) := by decide +kernel
theorem w140 {Z : State} {a0 : Array Value} (hw : ∀ d ∈ tables_1, d.before a0 Z = true) : Jvm.Cond.before (Jvm.Cond.code ({ cls := "java/lang/StringUTF16", name := "compress", desc := "([CII)[B" } : Jvm.MethodName) jdk_52_method_16_code (6 : Nat) (Option.some (Jvm.ClassFile.FieldType.array Jvm.ClassFile.FieldType.byte))) a0 Z = true := hw _ (List.mem_of_getElem? (i := 140) rfl)
theorem pd_206 : parseMethodDescriptor "([CII)[B" = some ⟨[(.array .char), .int, .int], some (.array .byte)⟩ := by decide +kernel
theorem d0_36 : decode jdk_42_method_149_code 36 = .ok (.invokestatic 177, 3) := by decide +kernel
theorem w137 {Z : State} {a0 : Array Value} (hw : ∀ d ∈ tables_1, d.before a0 Z = true) : Jvm.Cond.before (Jvm.Cond.methodLink "java/lang/String" (177 : Nat) ({ cls := "java/lang/StringUTF16", name := "compress", desc := "([CII)[B" } : Jvm.MethodName)) a0 Z = true := hw _ (List.mem_of_getElem? (i := 137) rfl)
theorem w138 {Z : State} {a0 : Array Value} (hw : ∀ d ∈ tables_1, d.before a0 Z = true) : Jvm.Cond.before (Jvm.Cond.static ({ cls := "java/lang/StringUTF16", name := "compress", desc := "([CII)[B" } : Jvm.MethodName)) a0 Z = true := hw _ (List.mem_of_getElem? (i := 138) rfl)
theorem d0_39 : decode jdk_42_method_149_code 39 = .ok (.astore 5, 2) := by decide +kernel
theorem d0_41 : decode jdk_42_method_149_code 41 = .ok (.aload_n 0, 1) := by decide +kernel
theorem d0_42 : decode jdk_42_method_149_code 42 = .ok (.aload 5, 2) := by decide +kernel
theorem d0_44 : decode jdk_42_method_149_code 44 = .ok (.iload_n 3, 1) := by decide +kernel
theorem w146 {Z : State} {a0 : Array Value} (hw : ∀ d ∈ tables_1, d.before a0 Z = true) : Jvm.Cond.before (Jvm.Cond.code ({ cls := "java/lang/StringUTF16", name := "coderFromArrayLen", desc := "([BI)B" } : Jvm.MethodName) jdk_52_method_15_code (2 : Nat) (Option.some Jvm.ClassFile.FieldType.byte)) a0 Z = true := hw _ (List.mem_of_getElem? (i := 146) rfl)
theorem pd_215 : parseMethodDescriptor "([BI)B" = some ⟨[(.array .byte), .int], some .byte⟩ := by decide +kernel
theorem d0_45 : decode jdk_42_method_149_code 45 = .ok (.invokestatic 47, 3) := by decide +kernel
theorem w144 {Z : State} {a0 : Array Value} (hw : ∀ d ∈ tables_1, d.before a0 Z = true) : Jvm.Cond.before (Jvm.Cond.methodLink "java/lang/String" (47 : Nat) ({ cls := "java/lang/StringUTF16", name := "coderFromArrayLen", desc := "([BI)B" } : Jvm.MethodName)) a0 Z = true := hw _ (List.mem_of_getElem? (i := 144) rfl)
theorem w145 {Z : State} {a0 : Array Value} (hw : ∀ d ∈ tables_1, d.before a0 Z = true) : Jvm.Cond.before (Jvm.Cond.static ({ cls := "java/lang/StringUTF16", name := "coderFromArrayLen", desc := "([BI)B" } : Jvm.MethodName)) a0 Z = true := hw _ (List.mem_of_getElem? (i := 145) rfl)
theorem d0_48 : decode jdk_42_method_149_code 48 = .ok (.putfield 15, 3) := by decide +kernel
theorem d0_51 : decode jdk_42_method_149_code 51 = .ok (.aload_n 0, 1) := by decide +kernel
theorem d0_52 : decode jdk_42_method_149_code 52 = .ok (.aload 5, 2) := by decide +kernel
theorem d0_54 : decode jdk_42_method_149_code 54 = .ok (.putfield 9, 3) := by decide +kernel
theorem d0_57 : decode jdk_42_method_149_code 57 = .ok (.return_, 1) := by decide +kernel
abbrev R_si4_2 : Room := { frames := 2, cells := 1, slots := 2, locals := 35 }
def Q_si4_2 (Z : State) (G1 : Int32) (kC : Addr) (uS : Value) (sS : Value) (x : Addr) (b : Addr) (k : ClassId) (c0 : Int32) (c1 : Int32) (h0 : Heap) (n0 : Nat) (v : Option Value) (h : Heap) (L : List Loc) : Prop := (∃ t : Addr, ∃ kt : ClassId, v = none ∧ Fr n0 L ∧ Keep h0 h [x] ∧ (Exa Z h x "java/lang/String") ∧ (Fld Z h x "java/lang/String" "coder" "B" (.int (0 : Int32))) ∧ (Fld Z h x "java/lang/String" "value" "[B" (.ref t)) ∧ (h0.size ≤ t) ∧ (Arv Z h t kt .byte (2 : Int32) [(.int (own_lo8 c0)), (.int (own_lo8 c1))] (.int (0 : Int32))))
set_option maxRecDepth 65536 in
set_option maxHeartbeats 40000000 in
theorem rm_si4_2 (l : Launch) (Z : State) (a0 : Array Value) (hw : ∀ d ∈ tables_1, d.before a0 Z = true) (ws : List Jvm.Cond) (G1 : Int32) (kC : Addr) (uS : Value) (sS : Value) (HG : own_G l Z a0 G1 kC uS sS) (h0 : Heap) (n0 : Nat) (X00 : Old Z n0 h0) (x : Addr) (b : Addr) (k : ClassId) (c0 : Int32) (c1 : Int32) (hp0 : Exa Z h0 x "java/lang/String") (hp1 : Fld Z h0 x "java/lang/String" "value" "[B" .null) (hp2 : Fld Z h0 x "java/lang/String" "coder" "B" (.int (0 : Int32))) (hp3 : n0 ≤ x) (hp4 : Arv Z h0 b k .char (2 : Int32) [(.int c0), (.int c1)] (.int (0 : Int32))) (hh0 : ¬ ((255 : Int32) < c0)) (hh1 : ¬ ((255 : Int32) < c1)) :
    own_CP l Z M0 jdk_42_method_149_code 6 none ws R_si4_2 #[(.ref x), (.ref b), (.int (0 : Int32)), (.int (2 : Int32)), .null] h0 (Q_si4_2 Z G1 kC uS sS x b k c0 c1 h0 n0) := by
  refine own_P (plainFor_of_name pn_2) ?_
  intro p e s m below meth c s₁ S0 Bd hZ hh hx hby hml hown hnm X0 e0 hS0d
  obtain ⟨O1, P1, O2, E2, F2, hLT, OU, rU, OS, rS⟩ := id HG
  have N0 := Fr.nil n0
  have C0 : Steps p.tables e below S0 (s₁.setTop (mkF m 0 #[.val (.ref x), .val (.ref b), .val (.int (0 : Int32)), .val (.int (2 : Int32)), .val .null, .unset] [])) := by rw [hS0d]; exact castTop (ef_1 m x b (0 : Int32) (2 : Int32)) (Steps.refl _)
  obtain ⟨T_1, X_2, e_3, st_4⟩ := initO X0 hx hZ hown (w15 hw) (w16 hw) (w17 hw) e0 (g := (mkF m 1 #[.val (.ref x), .val (.ref b), .val (.int (0 : Int32)), .val (.int (2 : Int32)), .val .null, .unset] [(.ref x)])) rfl (by rw [hml]; rfl) rfl (hb hby d0_1) (by decide) (W := 0) (by show 2 * 0 + _ ≤ _; exact Nat.le_of_eq rfl) (by decide)
  obtain ⟨T_5, X_6, e_7, st_8⟩ := getS X_2 hx hZ (host := "") hown (w117 hw) Via.refl e_3 (O1.ext X00.2) (g := (mkF m 27 #[.val (.ref x), .val (.ref b), .val (.int (0 : Int32)), .val (.int (2 : Int32)), .val .null, .unset] [])) rfl (hb hby d0_27)
  obtain ⟨_, _, ⟨T_9, L_9, k_9, n_9⟩, -, X_9, ⟨Lc_9, hQ_9, l_9, y_9, z_9⟩, st_9⟩ := Jvm.LawKit.callS X_6 hx (y := M166) hown (mvT hZ (w137 hw)) (mvT hZ (w138 hw)) (mvT hZ (w139 hw)) (mvT hZ (w140 hw)) (by decide) (backOf (W := 0) (rm_cmp3_2 l Z a0 hw [] G1 kC uS sS HG h0 n0 X00 b k c0 c1 hp4 hh0 hh1) hZ (w140 hw) (w139 hw) (by decide) (by decide)) (g := (mkF m 36 #[.val (.ref x), .val (.ref b), .val (.int (0 : Int32)), .val (.int (2 : Int32)), .val .null, .unset] [(.int (2 : Int32)), (.int (0 : Int32)), (.ref b)])) rfl (by rw [hml]; rfl) (argsL := [(.ref b), (.int (0 : Int32)), (.int (2 : Int32))]) (rest := []) (lenOf pd_206 rfl) rfl (by show 2 * 0 + _ ≤ _; exact Nat.le_of_eq rfl) (hb hby d0_36) (fun _ _ => ⟨rfl, e_7, (by decide : 0 + 1 ≤ _), (by decide : 0 + 2 ≤ _)⟩)
  dsimp only [Pt.U, Pt.locs, Pt.cells, Pt.slots] at X_9 l_9 y_9 z_9 st_9 hQ_9
  subst l_9 y_9 z_9
  obtain ⟨a_10, k_11, rfl, N_12, K_13, g_14, g_15⟩ := hQ_9
  have N_16 := Fr.app N0 N_12
  have O_17 : Old Z n0 T_9.heap := (X00.keep K_13 all0)
  obtain ⟨_, _, ⟨T_18, L_18, k_18, n_18⟩, -, X_18, ⟨Lc_18, hQ_18, l_18, y_18, z_18⟩, st_18⟩ := Jvm.LawKit.callS X_9 hx (y := M189) hown (mvT hZ (w144 hw)) (mvT hZ (w145 hw)) (mvT hZ (w139 hw)) (mvT hZ (w146 hw)) (by decide) (backOf (W := 1) (rm_codl_2 l Z a0 hw [] G1 kC uS sS HG T_9.heap n0 O_17 a_10 k_11 (own_lo8 c0) (own_lo8 c1) g_15) hZ (w146 hw) (w139 hw) (by decide) (by decide)) (g := (mkF m 45 #[.val (.ref x), .val (.ref b), .val (.int (0 : Int32)), .val (.int (2 : Int32)), .val .null, .val (.ref a_10)] [(.int (2 : Int32)), (.ref a_10), (.ref x)])) rfl (by rw [hml]; rfl) (argsL := [(.ref a_10), (.int (2 : Int32))]) (rest := [(.ref x)]) (lenOf pd_215 rfl) rfl (by show 2 * 0 + _ ≤ _; exact Nat.le_of_eq rfl) (hb hby d0_45) (fun _ _ => ⟨rfl, rfl, (by decide : 1 + 0 ≤ _), (by decide : 2 + 0 ≤ _)⟩)
  dsimp only [Pt.U, Pt.locs, Pt.cells, Pt.slots] at X_18 l_18 y_18 z_18 st_18 hQ_18
  subst l_18 y_18 z_18
  obtain ⟨rfl, N_19, e_20⟩ := hQ_18
  have N_21 := Fr.app N_16 N_19
  have e_22 : T_18.heap = T_9.heap := e_20
  have F_23 : Fld Z T_9.heap x "java/lang/String" "coder" "B" (.int (0 : Int32)) := (hp2.keep K_13 nin0)
  have E_24 : Exa Z T_9.heap x "java/lang/String" := (hp0.keep K_13)
  obtain ⟨T_25, h_26, X_27, e_28, W_29, st_30⟩ := putF X_18 hx hZ hown (host := "") (Or.inl (w25 hw)) Via.refl e_22 F_23 E_24 (Or.inr ⟨(w21 hw), rfl, hnm⟩) (w5 hw) (ty := .byte) (by decide) rfl (by decide) (g := (mkF m 48 #[.val (.ref x), .val (.ref b), .val (.int (0 : Int32)), .val (.int (2 : Int32)), .val .null, .val (.ref a_10)] [(.int (0 : Int32)), (.ref x)])) rfl rfl (hb hby d0_48)
  have N_31 := Fr.snoc X_27 N_21 hp3
  have F_32 : Fld Z h_26 x "java/lang/String" "coder" "B" (.int (0 : Int32)) := F_23.same W_29
  have F_33 : Fld Z h_26 x "java/lang/String" "value" "[B" .null := ((hp1.keep K_13 nin0).other W_29 (Or.inr (slot_ne (Or.inr (w20 hw)) (Or.inr (w21 hw)) (by decide) (t := (.array .byte)) (by decide) (t' := .byte) (by decide))))
  have E_34 : Exa Z h_26 x "java/lang/String" := (E_24.wr W_29)
  obtain ⟨T_35, h_36, X_37, e_38, W_39, st_40⟩ := putF X_27 hx hZ hown (host := "") (Or.inl (w24 hw)) Via.refl e_28 F_33 E_34 (Or.inr ⟨(w20 hw), rfl, hnm⟩) (w5 hw) (ty := (.array .byte)) (by decide) rfl rfl (g := (mkF m 54 #[.val (.ref x), .val (.ref b), .val (.int (0 : Int32)), .val (.int (2 : Int32)), .val .null, .val (.ref a_10)] [(.ref a_10), (.ref x)])) rfl rfl (hb hby d0_54)
  have N_41 := Fr.snoc X_37 N_31 hp3
  have F_42 : Fld Z h_36 x "java/lang/String" "value" "[B" (.ref a_10) := F_33.same W_39
  have C_43 : Steps p.tables e below S0 (T_35.setTop (mkF m 57 #[.val (.ref x), .val (.ref b), .val (.int (0 : Int32)), .val (.int (2 : Int32)), .val .null, .val (.ref a_10)] [])) := by
    refine C0.trans ?_
    refine XS.aloadN X0.here hx rfl (hb hby d0_0) rfl rfl ?_
    refine st_4 _ ?_
    refine XS.iloadN X_2.here hx rfl (hb hby d0_4) rfl ?_
    refine XS.ifYes X_2.here hx rfl (pc0 := 5) (pc' := 27) rfl (hb hby d0_5) rfl (by decide) (by decide) (by decide) ?_
    refine st_8 _ ?_
    refine XS.ifNo X_6.here hx rfl (hb hby d0_30) rfl (i0_eq_f P1) ?_
    refine XS.aloadN X_6.here hx rfl (hb hby d0_33) rfl rfl ?_
    refine XS.iloadN X_6.here hx rfl (hb hby d0_34) rfl ?_
    show Steps p.tables e below (T_5.setTop (mkF m 35 #[.val (.ref x), .val (.ref b), .val (.int (0 : Int32)), .val (.int (2 : Int32)), .val .null, .unset] [(.int (0 : Int32)), (.ref b)])) _
    refine XS.iloadN X_6.here hx rfl (hb hby d0_35) rfl ?_
    refine st_9 _ ?_
    refine XS.astore X_9.here hx rfl (hb hby d0_39) rfl rfl (l' := #[.val (.ref x), .val (.ref b), .val (.int (0 : Int32)), .val (.int (2 : Int32)), .val .null, .val (.ref a_10)]) rfl ?_
    refine XS.aloadN X_9.here hx rfl (hb hby d0_41) rfl rfl ?_
    refine XS.aload X_9.here hx rfl (hb hby d0_42) rfl rfl ?_
    refine XS.iloadN X_9.here hx rfl (hb hby d0_44) rfl ?_
    refine st_18 _ ?_
    refine st_30 _ ?_
    show Steps p.tables e below (T_25.setTop (mkF m 51 #[.val (.ref x), .val (.ref b), .val (.int (0 : Int32)), .val (.int (2 : Int32)), .val .null, .val (.ref a_10)] [])) _
    refine XS.aloadN X_27.here hx rfl (hb hby d0_51) rfl rfl ?_
    refine XS.aload X_27.here hx rfl (hb hby d0_52) rfl rfl ?_
    refine st_40 _ ?_
    exact Steps.refl _
  have E_44 : Exa Z h_36 x "java/lang/String" := (E_34.wr W_39)
  have F_45 : Fld Z h_36 x "java/lang/String" "coder" "B" (.int (0 : Int32)) := (F_32.other W_39 (Or.inr (slot_ne (Or.inr (w21 hw)) (Or.inr (w20 hw)) (by decide) (t := .byte) (by decide) (t' := (.array .byte)) (by decide))))
  have V_46 : Arv Z h_36 a_10 k_11 .byte (2 : Int32) [(.int (own_lo8 c0)), (.int (own_lo8 c1))] (.int (0 : Int32)) := ((g_15.other W_29 (Ne.symm (Nat.ne_of_lt (Nat.lt_of_lt_of_le hp0.lt (Nat.le_trans (Nat.le_refl _) g_14))))).other W_39 (Ne.symm (Nat.ne_of_lt (Nat.lt_of_lt_of_le hp0.lt (Nat.le_trans (Nat.le_refl _) g_14)))))
  have K_47 : Keep h0 h_36 [x] := ((((Keep.refl _ _).trans K_13 all0).wr W_29 (Or.inl (List.mem_of_getElem? (i := 0) rfl))).wr W_39 (Or.inl (List.mem_of_getElem? (i := 0) rfl)))
  obtain ⟨fs, hr, hrun, hended, hW, hsame⟩ := X_37.leave (v := none) (fun _ => rfl)
  refine ⟨_, _, C_43.trans (X_37.returnOut hx Bd.returns (hb hby d0_57) hr), hrun, hended, _, _, rfl, ?_, ⟨_, rfl⟩, hW, hsame.mono (by decide) (by decide)⟩
  show Q_si4_2 Z G1 kC uS sS x b k c0 c1 h0 n0 (none) T_35.heap _
  rw [e_38]
  exact ⟨a_10, k_11, rfl, N_41, K_47, E_44, F_45, F_42, (Nat.le_trans (Nat.le_refl _) g_14), V_46⟩
abbrev R_si1_2 : Room := { frames := 3, cells := 1, slots := 2, locals := 52 }
def Q_si1_2 (Z : State) (G1 : Int32) (kC : Addr) (uS : Value) (sS : Value) (x : Addr) (b : Addr) (k : ClassId) (c0 : Int32) (c1 : Int32) (h0 : Heap) (n0 : Nat) (v : Option Value) (h : Heap) (L : List Loc) : Prop := (∃ t : Addr, ∃ kt : ClassId, v = none ∧ Fr n0 L ∧ Keep h0 h [x] ∧ (Exa Z h x "java/lang/String") ∧ (Fld Z h x "java/lang/String" "coder" "B" (.int (0 : Int32))) ∧ (Fld Z h x "java/lang/String" "value" "[B" (.ref t)) ∧ (h0.size ≤ t) ∧ (Arv Z h t kt .byte (2 : Int32) [(.int (own_lo8 c0)), (.int (own_lo8 c1))] (.int (0 : Int32))))
set_option maxRecDepth 65536 in
set_option maxHeartbeats 40000000 in
theorem rm_si1_2 (l : Launch) (Z : State) (a0 : Array Value) (hw : ∀ d ∈ tables_1, d.before a0 Z = true) (ws : List Jvm.Cond) (G1 : Int32) (kC : Addr) (uS : Value) (sS : Value) (HG : own_G l Z a0 G1 kC uS sS) (h0 : Heap) (n0 : Nat) (X00 : Old Z n0 h0) (x : Addr) (b : Addr) (k : ClassId) (c0 : Int32) (c1 : Int32) (hp0 : Exa Z h0 x "java/lang/String") (hp1 : Fld Z h0 x "java/lang/String" "value" "[B" .null) (hp2 : Fld Z h0 x "java/lang/String" "coder" "B" (.int (0 : Int32))) (hp3 : n0 ≤ x) (hp4 : Arv Z h0 b k .char (2 : Int32) [(.int c0), (.int c1)] (.int (0 : Int32))) (hh0 : ¬ ((255 : Int32) < c0)) (hh1 : ¬ ((255 : Int32) < c1)) :
    own_CP l Z M25 jdk_42_method_3_code 2 none ws R_si1_2 #[(.ref x), (.ref b)] h0 (Q_si1_2 Z G1 kC uS sS x b k c0 c1 h0 n0) := by
  refine own_P (plainFor_of_name pn_2) ?_
  intro p e s m below meth c s₁ S0 Bd hZ hh hx hby hml hown hnm X0 e0 hS0d
  obtain ⟨O1, P1, O2, E2, F2, hLT, OU, rU, OS, rS⟩ := id HG
  have N0 := Fr.nil n0
  have C0 : Steps p.tables e below S0 (s₁.setTop (mkF m 0 #[.val (.ref x), .val (.ref b)] [])) := by rw [hS0d]; exact castTop (ef_26 m x b) (Steps.refl _)
  obtain ⟨c_1, A_2, q_3, S_4, M_5, H_6, U_7⟩ := id hp4
  obtain ⟨_, _, ⟨T_8, L_8, k_8, n_8⟩, -, X_8, ⟨Lc_8, hQ_8, l_8, y_8, z_8⟩, st_8⟩ := X0.specialBack hx (y := M0) rfl hown (mvT hZ (w11 hw)) (mvT hZ (w12 hw)) (mvT hZ (w14 hw)) (by decide) (backOf (W := 0) (rm_si4_2 l Z a0 hw [] G1 kC uS sS HG h0 n0 X00 x b k c0 c1 hp0 hp1 hp2 hp3 hp4 hh0 hh1) hZ (w14 hw) (w6 hw) (by decide) (by decide)) (g := (mkF m 6 #[.val (.ref x), .val (.ref b)] [.null, (.int (2 : Int32)), (.int (0 : Int32)), (.ref b), (.ref x)])) rfl (by rw [hml]; rfl) (Steps.refl _) (a := x) (argsL := [(.ref b), (.int (0 : Int32)), (.int (2 : Int32)), .null]) (rest := []) (lenOf pd_35 rfl) rfl (by show 2 * 0 + _ ≤ _; exact Nat.le_of_eq rfl) (hb hby d1_6) (fun _ _ => ⟨rfl, e0, (by decide : 0 + 1 ≤ _), (by decide : 0 + 2 ≤ _)⟩)
  dsimp only [Pt.U, Pt.locs, Pt.cells, Pt.slots] at X_8 l_8 y_8 z_8 st_8 hQ_8
  subst l_8 y_8 z_8
  obtain ⟨a_9, k_10, rfl, N_11, K_12, g_13, g_14, g_15, g_16, g_17⟩ := hQ_8
  have N_18 := Fr.app N0 N_11
  have C_19 : Steps p.tables e below S0 (T_8.setTop (mkF m 9 #[.val (.ref x), .val (.ref b)] [])) := by
    refine C0.trans ?_
    refine XS.aloadN X0.here hx rfl (hb hby d1_0) rfl rfl ?_
    refine XS.aloadN X0.here hx rfl (hb hby d1_1) rfl rfl ?_
    refine XS.iconst X0.here hx rfl (hb hby d1_2) ?_
    refine XS.aloadN X0.here hx rfl (hb hby d1_3) rfl rfl ?_
    refine X0.arraylength hx (by rw [e0]; exact A_2.1) (State.isArrayOf_alike hZ.alike A_2.2.1) (g := (mkF m 4 #[.val (.ref x), .val (.ref b)] [(.ref b), (.int (0 : Int32)), (.ref b), (.ref x)])) rfl rfl (hb hby d1_4) _ ?_
    rw [len_of S_4 M_5]
    refine XS.aconstNull X0.here hx rfl (hb hby d1_5) ?_
    refine st_8.trans ?_
    exact Steps.refl _
  have K_20 : Keep h0 T_8.heap [x] := ((Keep.refl _ _).trans K_12 (allS (Or.inl (List.mem_of_getElem? (i := 0) rfl)) all0))
  obtain ⟨fs, hr, hrun, hended, hW, hsame⟩ := X_8.leave (v := none) (fun _ => rfl)
  refine ⟨_, _, C_19.trans (X_8.returnOut hx Bd.returns (hb hby d1_9) hr), hrun, hended, _, _, rfl, ?_, ⟨_, rfl⟩, hW, hsame.mono (by decide) (by decide)⟩
  show Q_si1_2 Z G1 kC uS sS x b k c0 c1 h0 n0 (none) T_8.heap _
  exact ⟨a_9, k_10, rfl, N_18, K_20, g_13, g_14, g_15, (Nat.le_trans (Nat.le_refl _) g_16), g_17⟩
abbrev R_cmp5_3 : Room := { frames := 0, cells := 0, slots := 0, locals := 0 }
def Q_cmp5_3 (Z : State) (G1 : Int32) (kC : Addr) (uS : Value) (sS : Value) (b : Addr) (k : ClassId) (t : Addr) (kt : ClassId) (c0 : Int32) (c1 : Int32) (c2 : Int32) (h0 : Heap) (n0 : Nat) (v : Option Value) (h : Heap) (L : List Loc) : Prop := (v = some (.int (3 : Int32)) ∧ Fr n0 L ∧ Keep h0 h [t] ∧ (Arv Z h t kt .byte (3 : Int32) [(.int (own_lo8 c0)), (.int (own_lo8 c1)), (.int (own_lo8 c2))] (.int (0 : Int32))))
set_option maxRecDepth 65536 in
set_option maxHeartbeats 40000000 in
theorem rm_cmp5_3 (l : Launch) (Z : State) (a0 : Array Value) (hw : ∀ d ∈ tables_1, d.before a0 Z = true) (ws : List Jvm.Cond) (G1 : Int32) (kC : Addr) (uS : Value) (sS : Value) (HG : own_G l Z a0 G1 kC uS sS) (h0 : Heap) (n0 : Nat) (X00 : Old Z n0 h0) (b : Addr) (k : ClassId) (t : Addr) (kt : ClassId) (c0 : Int32) (c1 : Int32) (c2 : Int32) (hp0 : Arv Z h0 b k .char (3 : Int32) [(.int c0), (.int c1), (.int c2)] (.int (0 : Int32))) (hp1 : Arv Z h0 t kt .byte (3 : Int32) [(.int (0 : Int32)), (.int (0 : Int32)), (.int (0 : Int32))] (.int (0 : Int32))) (hp2 : n0 ≤ t) (hp3 : b ≠ t) (hh0 : ¬ ((255 : Int32) < c0)) (hh1 : ¬ ((255 : Int32) < c1)) (hh2 : ¬ ((255 : Int32) < c2)) :
    own_CP l Z M140 jdk_52_method_21_code 7 (some .int) ws R_cmp5_3 #[(.ref b), (.int (0 : Int32)), (.ref t), (.int (0 : Int32)), (.int (3 : Int32))] h0 (Q_cmp5_3 Z G1 kC uS sS b k t kt c0 c1 c2 h0 n0) := by
  refine own_P (plainFor_of_name pn_142) ?_
  intro p e s m below meth c s₁ S0 Bd hZ hh hx hby hml hown hnm X0 e0 hS0d
  obtain ⟨O1, P1, O2, E2, F2, hLT, OU, rU, OS, rS⟩ := id HG
  have N0 := Fr.nil n0
  have C0 : Steps p.tables e below S0 (s₁.setTop (mkF m 0 #[.val (.ref b), .val (.int (0 : Int32)), .val (.ref t), .val (.int (0 : Int32)), .val (.int (3 : Int32)), .unset, .unset] [])) := by rw [hS0d]; exact castTop (ef_141 m b (0 : Int32) t (0 : Int32) (3 : Int32)) (Steps.refl _)
  obtain ⟨c_1, A_2, q_3, S_4, M_5, H_6, U_7⟩ := id hp0
  have hin_8 : ¬ ((0 : Int32) < 0 ∨ c_1.slots.size ≤ (0 : Int32).toNatClampNeg) := inb_of S_4 ⟨(by decide : ¬ ((0 : Int32) < (0 : Int32))), (by decide : (0 : Int32) < (3 : Int32))⟩
  have hat_9 : c_1.slots[(0 : Int32).toNatClampNeg]? = some (.int c0) := Has.at H_6 hin_8 rfl
  obtain ⟨c_10, A_11, q_12, S_13, M_14, H_15, U_16⟩ := id hp1
  have hin_23 : ¬ ((0 : Int32) < 0 ∨ c_10.slots.size ≤ (0 : Int32).toNatClampNeg) := inb_of S_13 ⟨(by decide : ¬ ((0 : Int32) < (0 : Int32))), (by decide : (0 : Int32) < (3 : Int32))⟩
  obtain ⟨T_17, h_18, X_19, e_20, W_21, st_22⟩ := stB X0 hx hZ e0 A_11 (j := (0 : Int32)) hin_23 (g := (mkF m 31 #[.val (.ref b), .val (.int (0 : Int32)), .val (.ref t), .val (.int (0 : Int32)), .val (.int (3 : Int32)), .val (.int (0 : Int32)), .val (.int c0)] [(.int (c0.toInt8.toInt32)), (.int (0 : Int32)), (.ref t)])) rfl rfl (hb hby d10_31)
  have N_24 := Fr.snoc X_19 N0 hp2
  have V_25 : Arv Z h_18 t kt .byte (3 : Int32) [(.int (own_lo8 c0)), (.int (0 : Int32)), (.int (0 : Int32))] (.int (0 : Int32)) := Arv.set A_11 q_12 S_13 M_14 H_15 U_16 (fits_nar_byte _) W_21 0 rfl (Nat.le_of_ble_eq_true rfl)
  have V_26 : Arv Z h_18 b k .char (3 : Int32) [(.int c0), (.int c1), (.int c2)] (.int (0 : Int32)) := (hp0.other W_21 hp3)
  obtain ⟨c_27, A_28, q_29, S_30, M_31, H_32, U_33⟩ := id V_26
  have hin_34 : ¬ ((1 : Int32) < 0 ∨ c_27.slots.size ≤ (1 : Int32).toNatClampNeg) := inb_of S_30 ⟨(by decide : ¬ ((1 : Int32) < (0 : Int32))), (by decide : (1 : Int32) < (3 : Int32))⟩
  have hat_35 : c_27.slots[(1 : Int32).toNatClampNeg]? = some (.int c1) := Has.at H_32 hin_34 rfl
  obtain ⟨c_36, A_37, q_38, S_39, M_40, H_41, U_42⟩ := id V_25
  have hin_49 : ¬ ((1 : Int32) < 0 ∨ c_36.slots.size ≤ (1 : Int32).toNatClampNeg) := inb_of S_39 ⟨(by decide : ¬ ((1 : Int32) < (0 : Int32))), (by decide : (1 : Int32) < (3 : Int32))⟩
  obtain ⟨T_43, h_44, X_45, e_46, W_47, st_48⟩ := stB X_19 hx hZ e_20 A_37 (j := (1 : Int32)) hin_49 (g := (mkF m 31 #[.val (.ref b), .val (.int (1 : Int32)), .val (.ref t), .val (.int (1 : Int32)), .val (.int (3 : Int32)), .val (.int (1 : Int32)), .val (.int c1)] [(.int (c1.toInt8.toInt32)), (.int (1 : Int32)), (.ref t)])) rfl rfl (hb hby d10_31)
  have N_50 := Fr.snoc X_45 N_24 hp2
  have V_51 : Arv Z h_44 t kt .byte (3 : Int32) [(.int (own_lo8 c0)), (.int (own_lo8 c1)), (.int (0 : Int32))] (.int (0 : Int32)) := Arv.set A_37 q_38 S_39 M_40 H_41 U_42 (fits_nar_byte _) W_47 1 rfl (Nat.le_of_ble_eq_true rfl)
  have V_52 : Arv Z h_44 b k .char (3 : Int32) [(.int c0), (.int c1), (.int c2)] (.int (0 : Int32)) := (V_26.other W_47 hp3)
  obtain ⟨c_53, A_54, q_55, S_56, M_57, H_58, U_59⟩ := id V_52
  have hin_60 : ¬ ((2 : Int32) < 0 ∨ c_53.slots.size ≤ (2 : Int32).toNatClampNeg) := inb_of S_56 ⟨(by decide : ¬ ((2 : Int32) < (0 : Int32))), (by decide : (2 : Int32) < (3 : Int32))⟩
  have hat_61 : c_53.slots[(2 : Int32).toNatClampNeg]? = some (.int c2) := Has.at H_58 hin_60 rfl
  obtain ⟨c_62, A_63, q_64, S_65, M_66, H_67, U_68⟩ := id V_51
  have hin_75 : ¬ ((2 : Int32) < 0 ∨ c_62.slots.size ≤ (2 : Int32).toNatClampNeg) := inb_of S_65 ⟨(by decide : ¬ ((2 : Int32) < (0 : Int32))), (by decide : (2 : Int32) < (3 : Int32))⟩
  obtain ⟨T_69, h_70, X_71, e_72, W_73, st_74⟩ := stB X_45 hx hZ e_46 A_63 (j := (2 : Int32)) hin_75 (g := (mkF m 31 #[.val (.ref b), .val (.int (2 : Int32)), .val (.ref t), .val (.int (2 : Int32)), .val (.int (3 : Int32)), .val (.int (2 : Int32)), .val (.int c2)] [(.int (c2.toInt8.toInt32)), (.int (2 : Int32)), (.ref t)])) rfl rfl (hb hby d10_31)
  have N_76 := Fr.snoc X_71 N_50 hp2
  have V_77 : Arv Z h_70 t kt .byte (3 : Int32) [(.int (own_lo8 c0)), (.int (own_lo8 c1)), (.int (own_lo8 c2))] (.int (0 : Int32)) := Arv.set A_63 q_64 S_65 M_66 H_67 U_68 (fits_nar_byte _) W_73 2 rfl (Nat.le_of_ble_eq_true rfl)
  have C_78 : Steps p.tables e below S0 (T_69.setTop (mkF m 46 #[.val (.ref b), .val (.int (3 : Int32)), .val (.ref t), .val (.int (3 : Int32)), .val (.int (3 : Int32)), .val (.int (3 : Int32)), .val (.int c2)] [(.int (3 : Int32))])) := by
    refine C0.trans ?_
    refine XS.iconst X0.here hx rfl (hb hby d10_0) ?_
    refine XS.istore X0.here hx rfl (hb hby d10_1) rfl (l' := #[.val (.ref b), .val (.int (0 : Int32)), .val (.ref t), .val (.int (0 : Int32)), .val (.int (3 : Int32)), .val (.int (0 : Int32)), .unset]) rfl ?_
    refine XS.iload X0.here hx rfl (hb hby d10_3) rfl ?_
    refine XS.iload X0.here hx rfl (hb hby d10_5) rfl ?_
    refine XS.icmpNo X0.here hx rfl (hb hby d10_7) rfl (by decide) ?_
    refine XS.aloadN X0.here hx rfl (hb hby d10_10) rfl rfl ?_
    refine XS.iloadN X0.here hx rfl (hb hby d10_11) rfl ?_
    refine X0.caload hx (j := (0 : Int32)) (v := (.int c0)) (by rw [e0]; exact A_2.1) (State.isArrayOf_alike hZ.alike A_2.2.1) A_2.2.2 hin_8 hat_9 (g := (mkF m 12 #[.val (.ref b), .val (.int (0 : Int32)), .val (.ref t), .val (.int (0 : Int32)), .val (.int (3 : Int32)), .val (.int (0 : Int32)), .unset] [(.int (0 : Int32)), (.ref b)])) rfl rfl (hb hby d10_12) _ ?_
    show Steps p.tables e below (s₁.setTop (mkF m 13 #[.val (.ref b), .val (.int (0 : Int32)), .val (.ref t), .val (.int (0 : Int32)), .val (.int (3 : Int32)), .val (.int (0 : Int32)), .unset] [(.int c0)])) _
    refine XS.istore X0.here hx rfl (hb hby d10_13) rfl (l' := #[.val (.ref b), .val (.int (0 : Int32)), .val (.ref t), .val (.int (0 : Int32)), .val (.int (3 : Int32)), .val (.int (0 : Int32)), .val (.int c0)]) rfl ?_
    refine XS.iload X0.here hx rfl (hb hby d10_15) rfl ?_
    refine XS.sipush X0.here hx rfl (hb hby d10_17) ?_
    refine XS.icmpYes X0.here hx rfl (pc0 := 20) (pc' := 26) rfl (hb hby d10_20) rfl (ii_le_t hh0) (by decide) (by decide) ?_
    refine XS.aloadN X0.here hx rfl (hb hby d10_26) rfl rfl ?_
    refine XS.iloadN X0.here hx rfl (hb hby d10_27) rfl ?_
    refine XS.iload X0.here hx rfl (hb hby d10_28) rfl ?_
    refine XS.i2b X0.here hx rfl (hb hby d10_30) rfl ?_
    show Steps p.tables e below (s₁.setTop (mkF m 31 #[.val (.ref b), .val (.int (0 : Int32)), .val (.ref t), .val (.int (0 : Int32)), .val (.int (3 : Int32)), .val (.int (0 : Int32)), .val (.int c0)] [(.int (c0.toInt8.toInt32)), (.int (0 : Int32)), (.ref t)])) _
    refine st_22 _ ?_
    refine XS.iinc X_19.here hx rfl (hb hby d10_32) (x := (0 : Int32)) rfl (l' := #[.val (.ref b), .val (.int (1 : Int32)), .val (.ref t), .val (.int (0 : Int32)), .val (.int (3 : Int32)), .val (.int (0 : Int32)), .val (.int c0)]) rfl ?_
    refine XS.iinc X_19.here hx rfl (hb hby d10_35) (x := (0 : Int32)) rfl (l' := #[.val (.ref b), .val (.int (1 : Int32)), .val (.ref t), .val (.int (1 : Int32)), .val (.int (3 : Int32)), .val (.int (0 : Int32)), .val (.int c0)]) rfl ?_
    refine XS.iinc X_19.here hx rfl (hb hby d10_38) (x := (0 : Int32)) rfl (l' := #[.val (.ref b), .val (.int (1 : Int32)), .val (.ref t), .val (.int (1 : Int32)), .val (.int (3 : Int32)), .val (.int (1 : Int32)), .val (.int c0)]) rfl ?_
    refine XS.goto X_19.here hx rfl (pc0 := 41) (pc' := 3) rfl (hb hby d10_41) (by decide) (by decide) ?_
    refine XS.iload X_19.here hx rfl (hb hby d10_3) rfl ?_
    refine XS.iload X_19.here hx rfl (hb hby d10_5) rfl ?_
    refine XS.icmpNo X_19.here hx rfl (hb hby d10_7) rfl (by decide) ?_
    show Steps p.tables e below (T_17.setTop (mkF m 10 #[.val (.ref b), .val (.int (1 : Int32)), .val (.ref t), .val (.int (1 : Int32)), .val (.int (3 : Int32)), .val (.int (1 : Int32)), .val (.int c0)] [])) _
    refine XS.aloadN X_19.here hx rfl (hb hby d10_10) rfl rfl ?_
    refine XS.iloadN X_19.here hx rfl (hb hby d10_11) rfl ?_
    refine X_19.caload hx (j := (1 : Int32)) (v := (.int c1)) (by rw [e_20]; exact A_28.1) (State.isArrayOf_alike hZ.alike A_28.2.1) A_28.2.2 hin_34 hat_35 (g := (mkF m 12 #[.val (.ref b), .val (.int (1 : Int32)), .val (.ref t), .val (.int (1 : Int32)), .val (.int (3 : Int32)), .val (.int (1 : Int32)), .val (.int c0)] [(.int (1 : Int32)), (.ref b)])) rfl rfl (hb hby d10_12) _ ?_
    refine XS.istore X_19.here hx rfl (hb hby d10_13) rfl (l' := #[.val (.ref b), .val (.int (1 : Int32)), .val (.ref t), .val (.int (1 : Int32)), .val (.int (3 : Int32)), .val (.int (1 : Int32)), .val (.int c1)]) rfl ?_
    refine XS.iload X_19.here hx rfl (hb hby d10_15) rfl ?_
    refine XS.sipush X_19.here hx rfl (hb hby d10_17) ?_
    refine XS.icmpYes X_19.here hx rfl (pc0 := 20) (pc' := 26) rfl (hb hby d10_20) rfl (ii_le_t hh1) (by decide) (by decide) ?_
    refine XS.aloadN X_19.here hx rfl (hb hby d10_26) rfl rfl ?_
    show Steps p.tables e below (T_17.setTop (mkF m 27 #[.val (.ref b), .val (.int (1 : Int32)), .val (.ref t), .val (.int (1 : Int32)), .val (.int (3 : Int32)), .val (.int (1 : Int32)), .val (.int c1)] [(.ref t)])) _
    refine XS.iloadN X_19.here hx rfl (hb hby d10_27) rfl ?_
    refine XS.iload X_19.here hx rfl (hb hby d10_28) rfl ?_
    refine XS.i2b X_19.here hx rfl (hb hby d10_30) rfl ?_
    refine st_48 _ ?_
    refine XS.iinc X_45.here hx rfl (hb hby d10_32) (x := (1 : Int32)) rfl (l' := #[.val (.ref b), .val (.int (2 : Int32)), .val (.ref t), .val (.int (1 : Int32)), .val (.int (3 : Int32)), .val (.int (1 : Int32)), .val (.int c1)]) rfl ?_
    refine XS.iinc X_45.here hx rfl (hb hby d10_35) (x := (1 : Int32)) rfl (l' := #[.val (.ref b), .val (.int (2 : Int32)), .val (.ref t), .val (.int (2 : Int32)), .val (.int (3 : Int32)), .val (.int (1 : Int32)), .val (.int c1)]) rfl ?_
    refine XS.iinc X_45.here hx rfl (hb hby d10_38) (x := (1 : Int32)) rfl (l' := #[.val (.ref b), .val (.int (2 : Int32)), .val (.ref t), .val (.int (2 : Int32)), .val (.int (3 : Int32)), .val (.int (2 : Int32)), .val (.int c1)]) rfl ?_
    refine XS.goto X_45.here hx rfl (pc0 := 41) (pc' := 3) rfl (hb hby d10_41) (by decide) (by decide) ?_
    show Steps p.tables e below (T_43.setTop (mkF m 3 #[.val (.ref b), .val (.int (2 : Int32)), .val (.ref t), .val (.int (2 : Int32)), .val (.int (3 : Int32)), .val (.int (2 : Int32)), .val (.int c1)] [])) _
    refine XS.iload X_45.here hx rfl (hb hby d10_3) rfl ?_
    refine XS.iload X_45.here hx rfl (hb hby d10_5) rfl ?_
    refine XS.icmpNo X_45.here hx rfl (hb hby d10_7) rfl (by decide) ?_
    refine XS.aloadN X_45.here hx rfl (hb hby d10_10) rfl rfl ?_
    refine XS.iloadN X_45.here hx rfl (hb hby d10_11) rfl ?_
    refine X_45.caload hx (j := (2 : Int32)) (v := (.int c2)) (by rw [e_46]; exact A_54.1) (State.isArrayOf_alike hZ.alike A_54.2.1) A_54.2.2 hin_60 hat_61 (g := (mkF m 12 #[.val (.ref b), .val (.int (2 : Int32)), .val (.ref t), .val (.int (2 : Int32)), .val (.int (3 : Int32)), .val (.int (2 : Int32)), .val (.int c1)] [(.int (2 : Int32)), (.ref b)])) rfl rfl (hb hby d10_12) _ ?_
    refine XS.istore X_45.here hx rfl (hb hby d10_13) rfl (l' := #[.val (.ref b), .val (.int (2 : Int32)), .val (.ref t), .val (.int (2 : Int32)), .val (.int (3 : Int32)), .val (.int (2 : Int32)), .val (.int c2)]) rfl ?_
    refine XS.iload X_45.here hx rfl (hb hby d10_15) rfl ?_
    show Steps p.tables e below (T_43.setTop (mkF m 17 #[.val (.ref b), .val (.int (2 : Int32)), .val (.ref t), .val (.int (2 : Int32)), .val (.int (3 : Int32)), .val (.int (2 : Int32)), .val (.int c2)] [(.int c2)])) _
    refine XS.sipush X_45.here hx rfl (hb hby d10_17) ?_
    refine XS.icmpYes X_45.here hx rfl (pc0 := 20) (pc' := 26) rfl (hb hby d10_20) rfl (ii_le_t hh2) (by decide) (by decide) ?_
    refine XS.aloadN X_45.here hx rfl (hb hby d10_26) rfl rfl ?_
    refine XS.iloadN X_45.here hx rfl (hb hby d10_27) rfl ?_
    refine XS.iload X_45.here hx rfl (hb hby d10_28) rfl ?_
    refine XS.i2b X_45.here hx rfl (hb hby d10_30) rfl ?_
    refine st_74 _ ?_
    refine XS.iinc X_71.here hx rfl (hb hby d10_32) (x := (2 : Int32)) rfl (l' := #[.val (.ref b), .val (.int (3 : Int32)), .val (.ref t), .val (.int (2 : Int32)), .val (.int (3 : Int32)), .val (.int (2 : Int32)), .val (.int c2)]) rfl ?_
    show Steps p.tables e below (T_69.setTop (mkF m 35 #[.val (.ref b), .val (.int (3 : Int32)), .val (.ref t), .val (.int (2 : Int32)), .val (.int (3 : Int32)), .val (.int (2 : Int32)), .val (.int c2)] [])) _
    refine XS.iinc X_71.here hx rfl (hb hby d10_35) (x := (2 : Int32)) rfl (l' := #[.val (.ref b), .val (.int (3 : Int32)), .val (.ref t), .val (.int (3 : Int32)), .val (.int (3 : Int32)), .val (.int (2 : Int32)), .val (.int c2)]) rfl ?_
    refine XS.iinc X_71.here hx rfl (hb hby d10_38) (x := (2 : Int32)) rfl (l' := #[.val (.ref b), .val (.int (3 : Int32)), .val (.ref t), .val (.int (3 : Int32)), .val (.int (3 : Int32)), .val (.int (3 : Int32)), .val (.int c2)]) rfl ?_
    refine XS.goto X_71.here hx rfl (pc0 := 41) (pc' := 3) rfl (hb hby d10_41) (by decide) (by decide) ?_
    refine XS.iload X_71.here hx rfl (hb hby d10_3) rfl ?_
    refine XS.iload X_71.here hx rfl (hb hby d10_5) rfl ?_
    refine XS.icmpYes X_71.here hx rfl (pc0 := 7) (pc' := 44) rfl (hb hby d10_7) rfl (by decide) (by decide) (by decide) ?_
    refine XS.iload X_71.here hx rfl (hb hby d10_44) rfl ?_
    exact Steps.refl _
  have K_79 : Keep h0 h_70 [t] := ((((Keep.refl _ _).wr W_21 (Or.inl (List.mem_of_getElem? (i := 0) rfl))).wr W_47 (Or.inl (List.mem_of_getElem? (i := 0) rfl))).wr W_73 (Or.inl (List.mem_of_getElem? (i := 0) rfl)))
  obtain ⟨fs, hr, hrun, hended, hW, hsame⟩ := X_71.leave (v := some (.int (3 : Int32))) (fun h => by rw [Bd.returns] at h; cases h)
  refine ⟨_, _, C_78.trans (retOut X_71 hx Bd.returns rfl (Or.inl ⟨rfl, Or.inl rfl, _, rfl⟩) (hb hby d10_46) hr), hrun, hended, _, _, rfl, ?_, ⟨_, rfl⟩, hW, hsame.mono (by decide) (by decide)⟩
  show Q_cmp5_3 Z G1 kC uS sS b k t kt c0 c1 c2 h0 n0 (some (.int (3 : Int32))) T_69.heap _
  rw [e_72]
  exact ⟨rfl, N_76, K_79, V_77⟩
abbrev R_cmp3_3 : Room := { frames := 1, cells := 1, slots := 3, locals := 18 }
def Q_cmp3_3 (Z : State) (G1 : Int32) (kC : Addr) (uS : Value) (sS : Value) (b : Addr) (k : ClassId) (c0 : Int32) (c1 : Int32) (c2 : Int32) (h0 : Heap) (n0 : Nat) (v : Option Value) (h : Heap) (L : List Loc) : Prop := (∃ t : Addr, ∃ kt : ClassId, v = some (.ref t) ∧ Fr n0 L ∧ Keep h0 h [] ∧ (h0.size ≤ t) ∧ (Arv Z h t kt .byte (3 : Int32) [(.int (own_lo8 c0)), (.int (own_lo8 c1)), (.int (own_lo8 c2))] (.int (0 : Int32))))
set_option maxRecDepth 65536 in
set_option maxHeartbeats 40000000 in
theorem rm_cmp3_3 (l : Launch) (Z : State) (a0 : Array Value) (hw : ∀ d ∈ tables_1, d.before a0 Z = true) (ws : List Jvm.Cond) (G1 : Int32) (kC : Addr) (uS : Value) (sS : Value) (HG : own_G l Z a0 G1 kC uS sS) (h0 : Heap) (n0 : Nat) (X00 : Old Z n0 h0) (b : Addr) (k : ClassId) (c0 : Int32) (c1 : Int32) (c2 : Int32) (hp0 : Arv Z h0 b k .char (3 : Int32) [(.int c0), (.int c1), (.int c2)] (.int (0 : Int32))) (hh0 : ¬ ((255 : Int32) < c0)) (hh1 : ¬ ((255 : Int32) < c1)) (hh2 : ¬ ((255 : Int32) < c2)) :
    own_CP l Z M166 jdk_52_method_16_code 6 (some (.array .byte)) ws R_cmp3_3 #[(.ref b), (.int (0 : Int32)), (.int (3 : Int32))] h0 (Q_cmp3_3 Z G1 kC uS sS b k c0 c1 c2 h0 n0) := by
  refine own_P (plainFor_of_name pn_142) ?_
  intro p e s m below meth c s₁ S0 Bd hZ hh hx hby hml hown hnm X0 e0 hS0d
  obtain ⟨O1, P1, O2, E2, F2, hLT, OU, rU, OS, rS⟩ := id HG
  have N0 := Fr.nil n0
  have C0 : Steps p.tables e below S0 (s₁.setTop (mkF m 0 #[.val (.ref b), .val (.int (0 : Int32)), .val (.int (3 : Int32)), .unset, .unset, .unset] [])) := by rw [hS0d]; exact castTop (ef_167 m b (0 : Int32) (3 : Int32)) (Steps.refl _)
  obtain ⟨T_1, h_2, k_3, X_4, e_5, E_6, A_7, st_8⟩ := newP (aty := .byte) X0 hx hZ (w19 hw) e0 (g := (mkF m 1 #[.val (.ref b), .val (.int (0 : Int32)), .val (.int (3 : Int32)), .unset, .unset, .unset] [(.int (3 : Int32))])) rfl (hb hby d11_1) rfl (by decide : ¬ ((3 : Int32) < (0 : Int32))) (cap := 3) (by decide : (3 : Int32).toNatClampNeg ≤ 3) (by decide) (by decide) (by decide)
  obtain ⟨a_9, g_10⟩ : ∃ z, z = h0.size := ⟨_, rfl⟩
  rw [← g_10] at A_7 st_8
  have V_12 : Arv Z h_2 a_9 k_3 .byte (3 : Int32) [] (.int (0 : Int32)) := Arv.new A_7 (by decide : ¬ ((3 : Int32) < (0 : Int32)))
  have V_11 : Arv Z h_2 a_9 k_3 .byte (3 : Int32) [(.int (0 : Int32)), (.int (0 : Int32)), (.int (0 : Int32))] (.int (0 : Int32)) := (V_12.pad (pad_rep [] (.int (0 : Int32)) 3))
  have V_13 : Arv Z h_2 b k .char (3 : Int32) [(.int c0), (.int c1), (.int c2)] (.int (0 : Int32)) := (hp0.ext E_6)
  have O_14 : Old Z n0 h_2 := (X00.ext E_6)
  obtain ⟨_, _, ⟨T_15, L_15, k_15, n_15⟩, -, X_15, ⟨Lc_15, hQ_15, l_15, y_15, z_15⟩, st_15⟩ := Jvm.LawKit.callS X_4 hx (y := M140) hown (mvT hZ (w141 hw)) (mvT hZ (w142 hw)) (mvT hZ (w139 hw)) (mvT hZ (w143 hw)) (by decide) (backOf (W := 0) (rm_cmp5_3 l Z a0 hw [] G1 kC uS sS HG h_2 n0 O_14 b k a_9 k_3 c0 c1 c2 V_13 V_11 (Nat.le_trans (own_n0 X00) (Nat.le_of_eq g_10.symm)) (Nat.ne_of_lt (Nat.lt_of_lt_of_le hp0.lt (Nat.le_trans (Nat.le_refl _) (Nat.le_of_eq g_10.symm)))) hh0 hh1 hh2) hZ (w143 hw) (w139 hw) (by decide) (by decide)) (g := (mkF m 9 #[.val (.ref b), .val (.int (0 : Int32)), .val (.int (3 : Int32)), .val (.ref a_9), .unset, .unset] [(.int (3 : Int32)), (.int (0 : Int32)), (.ref a_9), (.int (0 : Int32)), (.ref b)])) rfl (by rw [hml]; rfl) (argsL := [(.ref b), (.int (0 : Int32)), (.ref a_9), (.int (0 : Int32)), (.int (3 : Int32))]) (rest := []) (lenOf pd_179 rfl) rfl (by show 2 * 0 + _ ≤ _; exact Nat.le_of_eq rfl) (hb hby d11_9) (fun _ _ => ⟨rfl, e_5, (by decide : 1 + 0 ≤ _), (by decide : 3 + 0 ≤ _)⟩)
  dsimp only [Pt.U, Pt.locs, Pt.cells, Pt.slots] at X_15 l_15 y_15 z_15 st_15 hQ_15
  subst l_15 y_15 z_15
  obtain ⟨rfl, N_16, K_17, g_18⟩ := hQ_15
  have N_19 := Fr.app N0 N_16
  have C_20 : Steps p.tables e below S0 (T_15.setTop (mkF m 58 #[.val (.ref b), .val (.int (0 : Int32)), .val (.int (3 : Int32)), .val (.ref a_9), .val (.int (3 : Int32)), .unset] [(.ref a_9)])) := by
    refine C0.trans ?_
    refine XS.iloadN X0.here hx rfl (hb hby d11_0) rfl ?_
    refine st_8 _ ?_
    refine XS.astoreN X_4.here hx rfl (hb hby d11_3) rfl rfl (l' := #[.val (.ref b), .val (.int (0 : Int32)), .val (.int (3 : Int32)), .val (.ref a_9), .unset, .unset]) rfl ?_
    refine XS.aloadN X_4.here hx rfl (hb hby d11_4) rfl rfl ?_
    refine XS.iloadN X_4.here hx rfl (hb hby d11_5) rfl ?_
    refine XS.aloadN X_4.here hx rfl (hb hby d11_6) rfl rfl ?_
    refine XS.iconst X_4.here hx rfl (hb hby d11_7) ?_
    refine XS.iloadN X_4.here hx rfl (hb hby d11_8) rfl ?_
    show Steps p.tables e below (T_1.setTop (mkF m 9 #[.val (.ref b), .val (.int (0 : Int32)), .val (.int (3 : Int32)), .val (.ref a_9), .unset, .unset] [(.int (3 : Int32)), (.int (0 : Int32)), (.ref a_9), (.int (0 : Int32)), (.ref b)])) _
    refine st_15 _ ?_
    refine XS.istore X_15.here hx rfl (hb hby d11_12) rfl (l' := #[.val (.ref b), .val (.int (0 : Int32)), .val (.int (3 : Int32)), .val (.ref a_9), .val (.int (3 : Int32)), .unset]) rfl ?_
    refine XS.iload X_15.here hx rfl (hb hby d11_14) rfl ?_
    refine XS.iloadN X_15.here hx rfl (hb hby d11_16) rfl ?_
    refine XS.icmpYes X_15.here hx rfl (pc0 := 17) (pc' := 57) rfl (hb hby d11_17) rfl (by decide) (by decide) (by decide) ?_
    refine XS.aloadN X_15.here hx rfl (hb hby d11_57) rfl rfl ?_
    exact Steps.refl _
  have K_21 : Keep h0 T_15.heap [] := (((Keep.refl _ _).ext E_6).trans K_17 (allS (Or.inr (Nat.le_trans (Nat.le_refl _) (Nat.le_of_eq g_10.symm))) all0))
  obtain ⟨fs, hr, hrun, hended, hW, hsame⟩ := X_15.leave (v := some (.ref a_9)) (fun h => by rw [Bd.returns] at h; cases h)
  refine ⟨_, _, C_20.trans (retOut X_15 hx Bd.returns rfl (Or.inr (Or.inr (Or.inr (Or.inr ⟨rfl, rfl, rfl⟩)))) (hb hby d11_58) hr), hrun, hended, _, _, rfl, ?_, ⟨_, rfl⟩, hW, hsame.mono (by decide) (by decide)⟩
  show Q_cmp3_3 Z G1 kC uS sS b k c0 c1 c2 h0 n0 (some (.ref a_9)) T_15.heap _
  exact ⟨a_9, k_3, rfl, N_19, K_21, (Nat.le_trans (Nat.le_refl _) (Nat.le_of_eq g_10.symm)), g_18⟩
abbrev R_codl_3 : Room := { frames := 0, cells := 0, slots := 0, locals := 0 }
def Q_codl_3 (Z : State) (G1 : Int32) (kC : Addr) (uS : Value) (sS : Value) (t : Addr) (kt : ClassId) (y0 : Int32) (y1 : Int32) (y2 : Int32) (h0 : Heap) (n0 : Nat) (v : Option Value) (h : Heap) (L : List Loc) : Prop := (v = some (.int (0 : Int32)) ∧ Fr n0 L ∧ h = h0)
set_option maxRecDepth 65536 in
set_option maxHeartbeats 40000000 in
theorem rm_codl_3 (l : Launch) (Z : State) (a0 : Array Value) (hw : ∀ d ∈ tables_1, d.before a0 Z = true) (ws : List Jvm.Cond) (G1 : Int32) (kC : Addr) (uS : Value) (sS : Value) (HG : own_G l Z a0 G1 kC uS sS) (h0 : Heap) (n0 : Nat) (X00 : Old Z n0 h0) (t : Addr) (kt : ClassId) (y0 : Int32) (y1 : Int32) (y2 : Int32) (hp0 : Arv Z h0 t kt .byte (3 : Int32) [(.int y0), (.int y1), (.int y2)] (.int (0 : Int32))) :
    own_CP l Z M189 jdk_52_method_15_code 2 (some .byte) ws R_codl_3 #[(.ref t), (.int (3 : Int32))] h0 (Q_codl_3 Z G1 kC uS sS t kt y0 y1 y2 h0 n0) := by
  refine own_P (plainFor_of_name pn_142) ?_
  intro p e s m below meth c s₁ S0 Bd hZ hh hx hby hml hown hnm X0 e0 hS0d
  obtain ⟨O1, P1, O2, E2, F2, hLT, OU, rU, OS, rS⟩ := id HG
  have N0 := Fr.nil n0
  have C0 : Steps p.tables e below S0 (s₁.setTop (mkF m 0 #[.val (.ref t), .val (.int (3 : Int32))] [])) := by rw [hS0d]; exact castTop (ef_190 m t (3 : Int32)) (Steps.refl _)
  obtain ⟨c_1, A_2, q_3, S_4, M_5, H_6, U_7⟩ := id hp0
  have C_8 : Steps p.tables e below S0 (s₁.setTop (mkF m 8 #[.val (.ref t), .val (.int (3 : Int32))] [(.int (0 : Int32))])) := by
    refine C0.trans ?_
    refine XS.iloadN X0.here hx rfl (hb hby d12_0) rfl ?_
    refine XS.aloadN X0.here hx rfl (hb hby d12_1) rfl rfl ?_
    refine X0.arraylength hx (by rw [e0]; exact A_2.1) (State.isArrayOf_alike hZ.alike A_2.2.1) (g := (mkF m 2 #[.val (.ref t), .val (.int (3 : Int32))] [(.ref t), (.int (3 : Int32))])) rfl rfl (hb hby d12_2) _ ?_
    rw [len_of S_4 M_5]
    refine XS.isub X0.here hx rfl (hb hby d12_3) rfl ?_
    refine XS.bipush X0.here hx rfl (hb hby d12_4) ?_
    refine XS.iushr X0.here hx rfl (hb hby d12_6) rfl ?_
    refine XS.i2b X0.here hx rfl (hb hby d12_7) rfl ?_
    exact Steps.refl _
  obtain ⟨fs, hr, hrun, hended, hW, hsame⟩ := X0.leave (v := some (.int (0 : Int32))) (fun h => by rw [Bd.returns] at h; cases h)
  refine ⟨_, _, C_8.trans (retN X0 hx (t := .byte) Bd.returns (by simp) (hb hby d12_8) hr), hrun, hended, _, _, rfl, ?_, ⟨_, rfl⟩, hW, hsame.mono (by decide) (by decide)⟩
  show Q_codl_3 Z G1 kC uS sS t kt y0 y1 y2 h0 n0 (some (.int (0 : Int32))) s₁.heap _
  rw [e0]
  exact ⟨rfl, N0, rfl⟩
abbrev R_si4_3 : Room := { frames := 2, cells := 1, slots := 3, locals := 35 }
def Q_si4_3 (Z : State) (G1 : Int32) (kC : Addr) (uS : Value) (sS : Value) (x : Addr) (b : Addr) (k : ClassId) (c0 : Int32) (c1 : Int32) (c2 : Int32) (h0 : Heap) (n0 : Nat) (v : Option Value) (h : Heap) (L : List Loc) : Prop := (∃ t : Addr, ∃ kt : ClassId, v = none ∧ Fr n0 L ∧ Keep h0 h [x] ∧ (Exa Z h x "java/lang/String") ∧ (Fld Z h x "java/lang/String" "coder" "B" (.int (0 : Int32))) ∧ (Fld Z h x "java/lang/String" "value" "[B" (.ref t)) ∧ (h0.size ≤ t) ∧ (Arv Z h t kt .byte (3 : Int32) [(.int (own_lo8 c0)), (.int (own_lo8 c1)), (.int (own_lo8 c2))] (.int (0 : Int32))))
set_option maxRecDepth 65536 in
set_option maxHeartbeats 40000000 in
theorem rm_si4_3 (l : Launch) (Z : State) (a0 : Array Value) (hw : ∀ d ∈ tables_1, d.before a0 Z = true) (ws : List Jvm.Cond) (G1 : Int32) (kC : Addr) (uS : Value) (sS : Value) (HG : own_G l Z a0 G1 kC uS sS) (h0 : Heap) (n0 : Nat) (X00 : Old Z n0 h0) (x : Addr) (b : Addr) (k : ClassId) (c0 : Int32) (c1 : Int32) (c2 : Int32) (hp0 : Exa Z h0 x "java/lang/String") (hp1 : Fld Z h0 x "java/lang/String" "value" "[B" .null) (hp2 : Fld Z h0 x "java/lang/String" "coder" "B" (.int (0 : Int32))) (hp3 : n0 ≤ x) (hp4 : Arv Z h0 b k .char (3 : Int32) [(.int c0), (.int c1), (.int c2)] (.int (0 : Int32))) (hh0 : ¬ ((255 : Int32) < c0)) (hh1 : ¬ ((255 : Int32) < c1)) (hh2 : ¬ ((255 : Int32) < c2)) :
    own_CP l Z M0 jdk_42_method_149_code 6 none ws R_si4_3 #[(.ref x), (.ref b), (.int (0 : Int32)), (.int (3 : Int32)), .null] h0 (Q_si4_3 Z G1 kC uS sS x b k c0 c1 c2 h0 n0) := by
  refine own_P (plainFor_of_name pn_2) ?_
  intro p e s m below meth c s₁ S0 Bd hZ hh hx hby hml hown hnm X0 e0 hS0d
  obtain ⟨O1, P1, O2, E2, F2, hLT, OU, rU, OS, rS⟩ := id HG
  have N0 := Fr.nil n0
  have C0 : Steps p.tables e below S0 (s₁.setTop (mkF m 0 #[.val (.ref x), .val (.ref b), .val (.int (0 : Int32)), .val (.int (3 : Int32)), .val .null, .unset] [])) := by rw [hS0d]; exact castTop (ef_1 m x b (0 : Int32) (3 : Int32)) (Steps.refl _)
  obtain ⟨T_1, X_2, e_3, st_4⟩ := initO X0 hx hZ hown (w15 hw) (w16 hw) (w17 hw) e0 (g := (mkF m 1 #[.val (.ref x), .val (.ref b), .val (.int (0 : Int32)), .val (.int (3 : Int32)), .val .null, .unset] [(.ref x)])) rfl (by rw [hml]; rfl) rfl (hb hby d0_1) (by decide) (W := 0) (by show 2 * 0 + _ ≤ _; exact Nat.le_of_eq rfl) (by decide)
  obtain ⟨T_5, X_6, e_7, st_8⟩ := getS X_2 hx hZ (host := "") hown (w117 hw) Via.refl e_3 (O1.ext X00.2) (g := (mkF m 27 #[.val (.ref x), .val (.ref b), .val (.int (0 : Int32)), .val (.int (3 : Int32)), .val .null, .unset] [])) rfl (hb hby d0_27)
  obtain ⟨_, _, ⟨T_9, L_9, k_9, n_9⟩, -, X_9, ⟨Lc_9, hQ_9, l_9, y_9, z_9⟩, st_9⟩ := Jvm.LawKit.callS X_6 hx (y := M166) hown (mvT hZ (w137 hw)) (mvT hZ (w138 hw)) (mvT hZ (w139 hw)) (mvT hZ (w140 hw)) (by decide) (backOf (W := 0) (rm_cmp3_3 l Z a0 hw [] G1 kC uS sS HG h0 n0 X00 b k c0 c1 c2 hp4 hh0 hh1 hh2) hZ (w140 hw) (w139 hw) (by decide) (by decide)) (g := (mkF m 36 #[.val (.ref x), .val (.ref b), .val (.int (0 : Int32)), .val (.int (3 : Int32)), .val .null, .unset] [(.int (3 : Int32)), (.int (0 : Int32)), (.ref b)])) rfl (by rw [hml]; rfl) (argsL := [(.ref b), (.int (0 : Int32)), (.int (3 : Int32))]) (rest := []) (lenOf pd_206 rfl) rfl (by show 2 * 0 + _ ≤ _; exact Nat.le_of_eq rfl) (hb hby d0_36) (fun _ _ => ⟨rfl, e_7, (by decide : 0 + 1 ≤ _), (by decide : 0 + 3 ≤ _)⟩)
  dsimp only [Pt.U, Pt.locs, Pt.cells, Pt.slots] at X_9 l_9 y_9 z_9 st_9 hQ_9
  subst l_9 y_9 z_9
  obtain ⟨a_10, k_11, rfl, N_12, K_13, g_14, g_15⟩ := hQ_9
  have N_16 := Fr.app N0 N_12
  have O_17 : Old Z n0 T_9.heap := (X00.keep K_13 all0)
  obtain ⟨_, _, ⟨T_18, L_18, k_18, n_18⟩, -, X_18, ⟨Lc_18, hQ_18, l_18, y_18, z_18⟩, st_18⟩ := Jvm.LawKit.callS X_9 hx (y := M189) hown (mvT hZ (w144 hw)) (mvT hZ (w145 hw)) (mvT hZ (w139 hw)) (mvT hZ (w146 hw)) (by decide) (backOf (W := 1) (rm_codl_3 l Z a0 hw [] G1 kC uS sS HG T_9.heap n0 O_17 a_10 k_11 (own_lo8 c0) (own_lo8 c1) (own_lo8 c2) g_15) hZ (w146 hw) (w139 hw) (by decide) (by decide)) (g := (mkF m 45 #[.val (.ref x), .val (.ref b), .val (.int (0 : Int32)), .val (.int (3 : Int32)), .val .null, .val (.ref a_10)] [(.int (3 : Int32)), (.ref a_10), (.ref x)])) rfl (by rw [hml]; rfl) (argsL := [(.ref a_10), (.int (3 : Int32))]) (rest := [(.ref x)]) (lenOf pd_215 rfl) rfl (by show 2 * 0 + _ ≤ _; exact Nat.le_of_eq rfl) (hb hby d0_45) (fun _ _ => ⟨rfl, rfl, (by decide : 1 + 0 ≤ _), (by decide : 3 + 0 ≤ _)⟩)
  dsimp only [Pt.U, Pt.locs, Pt.cells, Pt.slots] at X_18 l_18 y_18 z_18 st_18 hQ_18
  subst l_18 y_18 z_18
  obtain ⟨rfl, N_19, e_20⟩ := hQ_18
  have N_21 := Fr.app N_16 N_19
  have e_22 : T_18.heap = T_9.heap := e_20
  have F_23 : Fld Z T_9.heap x "java/lang/String" "coder" "B" (.int (0 : Int32)) := (hp2.keep K_13 nin0)
  have E_24 : Exa Z T_9.heap x "java/lang/String" := (hp0.keep K_13)
  obtain ⟨T_25, h_26, X_27, e_28, W_29, st_30⟩ := putF X_18 hx hZ hown (host := "") (Or.inl (w25 hw)) Via.refl e_22 F_23 E_24 (Or.inr ⟨(w21 hw), rfl, hnm⟩) (w5 hw) (ty := .byte) (by decide) rfl (by decide) (g := (mkF m 48 #[.val (.ref x), .val (.ref b), .val (.int (0 : Int32)), .val (.int (3 : Int32)), .val .null, .val (.ref a_10)] [(.int (0 : Int32)), (.ref x)])) rfl rfl (hb hby d0_48)
  have N_31 := Fr.snoc X_27 N_21 hp3
  have F_32 : Fld Z h_26 x "java/lang/String" "coder" "B" (.int (0 : Int32)) := F_23.same W_29
  have F_33 : Fld Z h_26 x "java/lang/String" "value" "[B" .null := ((hp1.keep K_13 nin0).other W_29 (Or.inr (slot_ne (Or.inr (w20 hw)) (Or.inr (w21 hw)) (by decide) (t := (.array .byte)) (by decide) (t' := .byte) (by decide))))
  have E_34 : Exa Z h_26 x "java/lang/String" := (E_24.wr W_29)
  obtain ⟨T_35, h_36, X_37, e_38, W_39, st_40⟩ := putF X_27 hx hZ hown (host := "") (Or.inl (w24 hw)) Via.refl e_28 F_33 E_34 (Or.inr ⟨(w20 hw), rfl, hnm⟩) (w5 hw) (ty := (.array .byte)) (by decide) rfl rfl (g := (mkF m 54 #[.val (.ref x), .val (.ref b), .val (.int (0 : Int32)), .val (.int (3 : Int32)), .val .null, .val (.ref a_10)] [(.ref a_10), (.ref x)])) rfl rfl (hb hby d0_54)
  have N_41 := Fr.snoc X_37 N_31 hp3
  have F_42 : Fld Z h_36 x "java/lang/String" "value" "[B" (.ref a_10) := F_33.same W_39
  have C_43 : Steps p.tables e below S0 (T_35.setTop (mkF m 57 #[.val (.ref x), .val (.ref b), .val (.int (0 : Int32)), .val (.int (3 : Int32)), .val .null, .val (.ref a_10)] [])) := by
    refine C0.trans ?_
    refine XS.aloadN X0.here hx rfl (hb hby d0_0) rfl rfl ?_
    refine st_4 _ ?_
    refine XS.iloadN X_2.here hx rfl (hb hby d0_4) rfl ?_
    refine XS.ifYes X_2.here hx rfl (pc0 := 5) (pc' := 27) rfl (hb hby d0_5) rfl (by decide) (by decide) (by decide) ?_
    refine st_8 _ ?_
    refine XS.ifNo X_6.here hx rfl (hb hby d0_30) rfl (i0_eq_f P1) ?_
    refine XS.aloadN X_6.here hx rfl (hb hby d0_33) rfl rfl ?_
    refine XS.iloadN X_6.here hx rfl (hb hby d0_34) rfl ?_
    show Steps p.tables e below (T_5.setTop (mkF m 35 #[.val (.ref x), .val (.ref b), .val (.int (0 : Int32)), .val (.int (3 : Int32)), .val .null, .unset] [(.int (0 : Int32)), (.ref b)])) _
    refine XS.iloadN X_6.here hx rfl (hb hby d0_35) rfl ?_
    refine st_9 _ ?_
    refine XS.astore X_9.here hx rfl (hb hby d0_39) rfl rfl (l' := #[.val (.ref x), .val (.ref b), .val (.int (0 : Int32)), .val (.int (3 : Int32)), .val .null, .val (.ref a_10)]) rfl ?_
    refine XS.aloadN X_9.here hx rfl (hb hby d0_41) rfl rfl ?_
    refine XS.aload X_9.here hx rfl (hb hby d0_42) rfl rfl ?_
    refine XS.iloadN X_9.here hx rfl (hb hby d0_44) rfl ?_
    refine st_18 _ ?_
    refine st_30 _ ?_
    show Steps p.tables e below (T_25.setTop (mkF m 51 #[.val (.ref x), .val (.ref b), .val (.int (0 : Int32)), .val (.int (3 : Int32)), .val .null, .val (.ref a_10)] [])) _
    refine XS.aloadN X_27.here hx rfl (hb hby d0_51) rfl rfl ?_
    refine XS.aload X_27.here hx rfl (hb hby d0_52) rfl rfl ?_
    refine st_40 _ ?_
    exact Steps.refl _
  have E_44 : Exa Z h_36 x "java/lang/String" := (E_34.wr W_39)
  have F_45 : Fld Z h_36 x "java/lang/String" "coder" "B" (.int (0 : Int32)) := (F_32.other W_39 (Or.inr (slot_ne (Or.inr (w21 hw)) (Or.inr (w20 hw)) (by decide) (t := .byte) (by decide) (t' := (.array .byte)) (by decide))))
  have V_46 : Arv Z h_36 a_10 k_11 .byte (3 : Int32) [(.int (own_lo8 c0)), (.int (own_lo8 c1)), (.int (own_lo8 c2))] (.int (0 : Int32)) := ((g_15.other W_29 (Ne.symm (Nat.ne_of_lt (Nat.lt_of_lt_of_le hp0.lt (Nat.le_trans (Nat.le_refl _) g_14))))).other W_39 (Ne.symm (Nat.ne_of_lt (Nat.lt_of_lt_of_le hp0.lt (Nat.le_trans (Nat.le_refl _) g_14)))))
  have K_47 : Keep h0 h_36 [x] := ((((Keep.refl _ _).trans K_13 all0).wr W_29 (Or.inl (List.mem_of_getElem? (i := 0) rfl))).wr W_39 (Or.inl (List.mem_of_getElem? (i := 0) rfl)))
  obtain ⟨fs, hr, hrun, hended, hW, hsame⟩ := X_37.leave (v := none) (fun _ => rfl)
  refine ⟨_, _, C_43.trans (X_37.returnOut hx Bd.returns (hb hby d0_57) hr), hrun, hended, _, _, rfl, ?_, ⟨_, rfl⟩, hW, hsame.mono (by decide) (by decide)⟩
  show Q_si4_3 Z G1 kC uS sS x b k c0 c1 c2 h0 n0 (none) T_35.heap _
  rw [e_38]
  exact ⟨a_10, k_11, rfl, N_41, K_47, E_44, F_45, F_42, (Nat.le_trans (Nat.le_refl _) g_14), V_46⟩
abbrev R_si1_3 : Room := { frames := 3, cells := 1, slots := 3, locals := 52 }
def Q_si1_3 (Z : State) (G1 : Int32) (kC : Addr) (uS : Value) (sS : Value) (x : Addr) (b : Addr) (k : ClassId) (c0 : Int32) (c1 : Int32) (c2 : Int32) (h0 : Heap) (n0 : Nat) (v : Option Value) (h : Heap) (L : List Loc) : Prop := (∃ t : Addr, ∃ kt : ClassId, v = none ∧ Fr n0 L ∧ Keep h0 h [x] ∧ (Exa Z h x "java/lang/String") ∧ (Fld Z h x "java/lang/String" "coder" "B" (.int (0 : Int32))) ∧ (Fld Z h x "java/lang/String" "value" "[B" (.ref t)) ∧ (h0.size ≤ t) ∧ (Arv Z h t kt .byte (3 : Int32) [(.int (own_lo8 c0)), (.int (own_lo8 c1)), (.int (own_lo8 c2))] (.int (0 : Int32))))
set_option maxRecDepth 65536 in
set_option maxHeartbeats 40000000 in
theorem rm_si1_3 (l : Launch) (Z : State) (a0 : Array Value) (hw : ∀ d ∈ tables_1, d.before a0 Z = true) (ws : List Jvm.Cond) (G1 : Int32) (kC : Addr) (uS : Value) (sS : Value) (HG : own_G l Z a0 G1 kC uS sS) (h0 : Heap) (n0 : Nat) (X00 : Old Z n0 h0) (x : Addr) (b : Addr) (k : ClassId) (c0 : Int32) (c1 : Int32) (c2 : Int32) (hp0 : Exa Z h0 x "java/lang/String") (hp1 : Fld Z h0 x "java/lang/String" "value" "[B" .null) (hp2 : Fld Z h0 x "java/lang/String" "coder" "B" (.int (0 : Int32))) (hp3 : n0 ≤ x) (hp4 : Arv Z h0 b k .char (3 : Int32) [(.int c0), (.int c1), (.int c2)] (.int (0 : Int32))) (hh0 : ¬ ((255 : Int32) < c0)) (hh1 : ¬ ((255 : Int32) < c1)) (hh2 : ¬ ((255 : Int32) < c2)) :
    own_CP l Z M25 jdk_42_method_3_code 2 none ws R_si1_3 #[(.ref x), (.ref b)] h0 (Q_si1_3 Z G1 kC uS sS x b k c0 c1 c2 h0 n0) := by
  refine own_P (plainFor_of_name pn_2) ?_
  intro p e s m below meth c s₁ S0 Bd hZ hh hx hby hml hown hnm X0 e0 hS0d
  obtain ⟨O1, P1, O2, E2, F2, hLT, OU, rU, OS, rS⟩ := id HG
  have N0 := Fr.nil n0
  have C0 : Steps p.tables e below S0 (s₁.setTop (mkF m 0 #[.val (.ref x), .val (.ref b)] [])) := by rw [hS0d]; exact castTop (ef_26 m x b) (Steps.refl _)
  obtain ⟨c_1, A_2, q_3, S_4, M_5, H_6, U_7⟩ := id hp4
  obtain ⟨_, _, ⟨T_8, L_8, k_8, n_8⟩, -, X_8, ⟨Lc_8, hQ_8, l_8, y_8, z_8⟩, st_8⟩ := X0.specialBack hx (y := M0) rfl hown (mvT hZ (w11 hw)) (mvT hZ (w12 hw)) (mvT hZ (w14 hw)) (by decide) (backOf (W := 0) (rm_si4_3 l Z a0 hw [] G1 kC uS sS HG h0 n0 X00 x b k c0 c1 c2 hp0 hp1 hp2 hp3 hp4 hh0 hh1 hh2) hZ (w14 hw) (w6 hw) (by decide) (by decide)) (g := (mkF m 6 #[.val (.ref x), .val (.ref b)] [.null, (.int (3 : Int32)), (.int (0 : Int32)), (.ref b), (.ref x)])) rfl (by rw [hml]; rfl) (Steps.refl _) (a := x) (argsL := [(.ref b), (.int (0 : Int32)), (.int (3 : Int32)), .null]) (rest := []) (lenOf pd_35 rfl) rfl (by show 2 * 0 + _ ≤ _; exact Nat.le_of_eq rfl) (hb hby d1_6) (fun _ _ => ⟨rfl, e0, (by decide : 0 + 1 ≤ _), (by decide : 0 + 3 ≤ _)⟩)
  dsimp only [Pt.U, Pt.locs, Pt.cells, Pt.slots] at X_8 l_8 y_8 z_8 st_8 hQ_8
  subst l_8 y_8 z_8
  obtain ⟨a_9, k_10, rfl, N_11, K_12, g_13, g_14, g_15, g_16, g_17⟩ := hQ_8
  have N_18 := Fr.app N0 N_11
  have C_19 : Steps p.tables e below S0 (T_8.setTop (mkF m 9 #[.val (.ref x), .val (.ref b)] [])) := by
    refine C0.trans ?_
    refine XS.aloadN X0.here hx rfl (hb hby d1_0) rfl rfl ?_
    refine XS.aloadN X0.here hx rfl (hb hby d1_1) rfl rfl ?_
    refine XS.iconst X0.here hx rfl (hb hby d1_2) ?_
    refine XS.aloadN X0.here hx rfl (hb hby d1_3) rfl rfl ?_
    refine X0.arraylength hx (by rw [e0]; exact A_2.1) (State.isArrayOf_alike hZ.alike A_2.2.1) (g := (mkF m 4 #[.val (.ref x), .val (.ref b)] [(.ref b), (.int (0 : Int32)), (.ref b), (.ref x)])) rfl rfl (hb hby d1_4) _ ?_
    rw [len_of S_4 M_5]
    refine XS.aconstNull X0.here hx rfl (hb hby d1_5) ?_
    refine st_8.trans ?_
    exact Steps.refl _
  have K_20 : Keep h0 T_8.heap [x] := ((Keep.refl _ _).trans K_12 (allS (Or.inl (List.mem_of_getElem? (i := 0) rfl)) all0))
  obtain ⟨fs, hr, hrun, hended, hW, hsame⟩ := X_8.leave (v := none) (fun _ => rfl)
  refine ⟨_, _, C_19.trans (X_8.returnOut hx Bd.returns (hb hby d1_9) hr), hrun, hended, _, _, rfl, ?_, ⟨_, rfl⟩, hW, hsame.mono (by decide) (by decide)⟩
  show Q_si1_3 Z G1 kC uS sS x b k c0 c1 c2 h0 n0 (none) T_8.heap _
  exact ⟨a_9, k_10, rfl, N_18, K_20, g_13, g_14, g_15, (Nat.le_trans (Nat.le_refl _) g_16), g_17⟩
abbrev M224 : MethodName := ⟨"java/lang/StringLatin1", "canEncode", "(C)Z"⟩
theorem ef_225 (m : MethodId) (x0 : Int32) : entryFrame m #[(.int x0)] 1 = mkF m 0 #[.val (.int x0)] [] := by first | (simp [entryFrame, mkF, argsToLocals, Value.category]; done) | rfl
theorem pn_226 : plainName "java/lang/StringLatin1" = true := by first | (simp [plainName, overriddenIn]; done) | decide +kernel
theorem d13_0 : decode jdk_43_method_3_code 0 = .ok (.iload_n 0, 1) := by decide +kernel
theorem d13_1 : decode jdk_43_method_3_code 1 = .ok (.sipush 255, 3) := by decide +kernel
theorem d13_4 : decode jdk_43_method_3_code 4 = .ok (.if_icmp .gt 7, 3) := by decide +kernel
theorem d13_7 : decode jdk_43_method_3_code 7 = .ok (.iconst 1, 1) := by decide +kernel
theorem d13_8 : decode jdk_43_method_3_code 8 = .ok (.goto 4, 3) := by decide +kernel
theorem d13_12 : decode jdk_43_method_3_code 12 = .ok (.ireturn, 1) := by decide +kernel
abbrev R_canenc : Room := { frames := 0, cells := 0, slots := 0, locals := 0 }
def Q_canenc (Z : State) (G1 : Int32) (kC : Addr) (uS : Value) (sS : Value) (cc : Int32) (h0 : Heap) (n0 : Nat) (v : Option Value) (h : Heap) (L : List Loc) : Prop := (v = some (.int (1 : Int32)) ∧ Fr n0 L ∧ h = h0)
set_option maxRecDepth 65536 in
set_option maxHeartbeats 40000000 in
theorem rm_canenc (l : Launch) (Z : State) (a0 : Array Value) (hw : ∀ d ∈ tables_1, d.before a0 Z = true) (ws : List Jvm.Cond) (G1 : Int32) (kC : Addr) (uS : Value) (sS : Value) (HG : own_G l Z a0 G1 kC uS sS) (h0 : Heap) (n0 : Nat) (X00 : Old Z n0 h0) (cc : Int32) (hh0 : ¬ ((255 : Int32) < cc)) :
    own_CP l Z M224 jdk_43_method_3_code 1 (some .boolean) ws R_canenc #[(.int cc)] h0 (Q_canenc Z G1 kC uS sS cc h0 n0) := by
  refine own_P (plainFor_of_name pn_226) ?_
  intro p e s m below meth c s₁ S0 Bd hZ hh hx hby hml hown hnm X0 e0 hS0d
  obtain ⟨O1, P1, O2, E2, F2, hLT, OU, rU, OS, rS⟩ := id HG
  have N0 := Fr.nil n0
  have C0 : Steps p.tables e below S0 (s₁.setTop (mkF m 0 #[.val (.int cc)] [])) := by rw [hS0d]; exact castTop (ef_225 m cc) (Steps.refl _)
  have C_1 : Steps p.tables e below S0 (s₁.setTop (mkF m 12 #[.val (.int cc)] [(.int (1 : Int32))])) := by
    refine C0.trans ?_
    refine XS.iloadN X0.here hx rfl (hb hby d13_0) rfl ?_
    refine XS.sipush X0.here hx rfl (hb hby d13_1) ?_
    refine XS.icmpNo X0.here hx rfl (hb hby d13_4) rfl (ii_gt_f hh0) ?_
    refine XS.iconst X0.here hx rfl (hb hby d13_7) ?_
    refine XS.goto X0.here hx rfl (pc0 := 8) (pc' := 12) rfl (hb hby d13_8) (by decide) (by decide) ?_
    exact Steps.refl _
  obtain ⟨fs, hr, hrun, hended, hW, hsame⟩ := X0.leave (v := some (.int (1 : Int32))) (fun h => by rw [Bd.returns] at h; cases h)
  refine ⟨_, _, C_1.trans (retN X0 hx (t := .boolean) Bd.returns (by simp) (hb hby d13_12) hr), hrun, hended, _, _, rfl, ?_, ⟨_, rfl⟩, hW, hsame.mono (by decide) (by decide)⟩
  show Q_canenc Z G1 kC uS sS cc h0 n0 (some (.int (1 : Int32))) s₁.heap _
  rw [e0]
  exact ⟨rfl, N0, rfl⟩
abbrev M233 : MethodName := ⟨"java/lang/StringLatin1", "toBytes", "(C)[B"⟩
theorem d14_0 : decode jdk_43_method_46_code 0 = .ok (.iconst 1, 1) := by decide +kernel
theorem d14_1 : decode jdk_43_method_46_code 1 = .ok (.newarray .byte, 2) := by decide +kernel
theorem d14_3 : decode jdk_43_method_46_code 3 = .ok (.dup, 1) := by decide +kernel
theorem d14_4 : decode jdk_43_method_46_code 4 = .ok (.iconst 0, 1) := by decide +kernel
theorem d14_5 : decode jdk_43_method_46_code 5 = .ok (.iload_n 0, 1) := by decide +kernel
theorem d14_6 : decode jdk_43_method_46_code 6 = .ok (.i2b, 1) := by decide +kernel
theorem d14_7 : decode jdk_43_method_46_code 7 = .ok (.bastore, 1) := by decide +kernel
theorem d14_8 : decode jdk_43_method_46_code 8 = .ok (.areturn, 1) := by decide +kernel
abbrev R_ltob : Room := { frames := 0, cells := 1, slots := 1, locals := 0 }
def Q_ltob (Z : State) (G1 : Int32) (kC : Addr) (uS : Value) (sS : Value) (cc : Int32) (h0 : Heap) (n0 : Nat) (v : Option Value) (h : Heap) (L : List Loc) : Prop := (∃ t : Addr, ∃ kt : ClassId, v = some (.ref t) ∧ Fr n0 L ∧ Keep h0 h [] ∧ (h0.size ≤ t) ∧ (Arv Z h t kt .byte (1 : Int32) [(.int (own_lo8 cc))] (.int (0 : Int32))))
set_option maxRecDepth 65536 in
set_option maxHeartbeats 40000000 in
theorem rm_ltob (l : Launch) (Z : State) (a0 : Array Value) (hw : ∀ d ∈ tables_1, d.before a0 Z = true) (ws : List Jvm.Cond) (G1 : Int32) (kC : Addr) (uS : Value) (sS : Value) (HG : own_G l Z a0 G1 kC uS sS) (h0 : Heap) (n0 : Nat) (X00 : Old Z n0 h0) (cc : Int32)  :
    own_CP l Z M233 jdk_43_method_46_code 1 (some (.array .byte)) ws R_ltob #[(.int cc)] h0 (Q_ltob Z G1 kC uS sS cc h0 n0) := by
  refine own_P (plainFor_of_name pn_226) ?_
  intro p e s m below meth c s₁ S0 Bd hZ hh hx hby hml hown hnm X0 e0 hS0d
  obtain ⟨O1, P1, O2, E2, F2, hLT, OU, rU, OS, rS⟩ := id HG
  have N0 := Fr.nil n0
  have C0 : Steps p.tables e below S0 (s₁.setTop (mkF m 0 #[.val (.int cc)] [])) := by rw [hS0d]; exact castTop (ef_225 m cc) (Steps.refl _)
  obtain ⟨T_1, h_2, k_3, X_4, e_5, E_6, A_7, st_8⟩ := newP (aty := .byte) X0 hx hZ (w19 hw) e0 (g := (mkF m 1 #[.val (.int cc)] [(.int (1 : Int32))])) rfl (hb hby d14_1) rfl (by decide : ¬ ((1 : Int32) < (0 : Int32))) (cap := 1) (by decide : (1 : Int32).toNatClampNeg ≤ 1) (by decide) (by decide) (by decide)
  obtain ⟨a_9, g_10⟩ : ∃ z, z = h0.size := ⟨_, rfl⟩
  rw [← g_10] at A_7 st_8
  have V_12 : Arv Z h_2 a_9 k_3 .byte (1 : Int32) [] (.int (0 : Int32)) := Arv.new A_7 (by decide : ¬ ((1 : Int32) < (0 : Int32)))
  have V_11 : Arv Z h_2 a_9 k_3 .byte (1 : Int32) [(.int (0 : Int32))] (.int (0 : Int32)) := (V_12.pad (pad_rep [] (.int (0 : Int32)) 1))
  obtain ⟨c_13, A_14, q_15, S_16, M_17, H_18, U_19⟩ := id V_11
  have hin_26 : ¬ ((0 : Int32) < 0 ∨ c_13.slots.size ≤ (0 : Int32).toNatClampNeg) := inb_of S_16 ⟨(by decide : ¬ ((0 : Int32) < (0 : Int32))), (by decide : (0 : Int32) < (1 : Int32))⟩
  obtain ⟨T_20, h_21, X_22, e_23, W_24, st_25⟩ := stB X_4 hx hZ e_5 A_14 (j := (0 : Int32)) hin_26 (g := (mkF m 7 #[.val (.int cc)] [(.int (cc.toInt8.toInt32)), (.int (0 : Int32)), (.ref a_9), (.ref a_9)])) rfl rfl (hb hby d14_7)
  have N_27 := Fr.snoc X_22 N0 (Nat.le_trans (own_n0 X00) (Nat.le_of_eq g_10.symm))
  have V_28 : Arv Z h_21 a_9 k_3 .byte (1 : Int32) [(.int (own_lo8 cc))] (.int (0 : Int32)) := Arv.set A_14 q_15 S_16 M_17 H_18 U_19 (fits_nar_byte _) W_24 0 rfl (Nat.le_of_ble_eq_true rfl)
  have C_29 : Steps p.tables e below S0 (T_20.setTop (mkF m 8 #[.val (.int cc)] [(.ref a_9)])) := by
    refine C0.trans ?_
    refine XS.iconst X0.here hx rfl (hb hby d14_0) ?_
    refine st_8 _ ?_
    refine XS.dup X_4.here hx rfl (hb hby d14_3) rfl rfl ?_
    refine XS.iconst X_4.here hx rfl (hb hby d14_4) ?_
    refine XS.iloadN X_4.here hx rfl (hb hby d14_5) rfl ?_
    refine XS.i2b X_4.here hx rfl (hb hby d14_6) rfl ?_
    refine st_25 _ ?_
    exact Steps.refl _
  have K_30 : Keep h0 h_21 [] := (((Keep.refl _ _).ext E_6).wr W_24 (Or.inr (Nat.le_trans (Nat.le_refl _) (Nat.le_of_eq g_10.symm))))
  obtain ⟨fs, hr, hrun, hended, hW, hsame⟩ := X_22.leave (v := some (.ref a_9)) (fun h => by rw [Bd.returns] at h; cases h)
  refine ⟨_, _, C_29.trans (retOut X_22 hx Bd.returns rfl (Or.inr (Or.inr (Or.inr (Or.inr ⟨rfl, rfl, rfl⟩)))) (hb hby d14_8) hr), hrun, hended, _, _, rfl, ?_, ⟨_, rfl⟩, hW, hsame.mono (by decide) (by decide)⟩
  show Q_ltob Z G1 kC uS sS cc h0 n0 (some (.ref a_9)) T_20.heap _
  rw [e_23]
  exact ⟨a_9, k_3, rfl, N_27, K_30, (Nat.le_trans (Nat.le_refl _) (Nat.le_of_eq g_10.symm)), V_28⟩
abbrev M242 : MethodName := ⟨"java/lang/String", "<init>", "([BB)V"⟩
theorem ef_243 (m : MethodId) (x0 : Addr) (x1 : Addr) (x2 : Int32) : entryFrame m #[(.ref x0), (.ref x1), (.int x2)] 3 = mkF m 0 #[.val (.ref x0), .val (.ref x1), .val (.int x2)] [] := by first | (simp [entryFrame, mkF, argsToLocals, Value.category]; done) | rfl
theorem d15_0 : decode jdk_42_method_151_code 0 = .ok (.aload_n 0, 1) := by decide +kernel
theorem d15_1 : decode jdk_42_method_151_code 1 = .ok (.invokespecial 1, 3) := by decide +kernel
theorem d15_4 : decode jdk_42_method_151_code 4 = .ok (.aload_n 0, 1) := by decide +kernel
theorem d15_5 : decode jdk_42_method_151_code 5 = .ok (.aload_n 1, 1) := by decide +kernel
theorem d15_6 : decode jdk_42_method_151_code 6 = .ok (.putfield 9, 3) := by decide +kernel
theorem d15_9 : decode jdk_42_method_151_code 9 = .ok (.aload_n 0, 1) := by decide +kernel
theorem d15_10 : decode jdk_42_method_151_code 10 = .ok (.iload_n 2, 1) := by decide +kernel
theorem d15_11 : decode jdk_42_method_151_code 11 = .ok (.putfield 15, 3) := by decide +kernel
theorem d15_14 : decode jdk_42_method_151_code 14 = .ok (.return_, 1) := by decide +kernel
abbrev R_sbb_0 : Room := { frames := 1, cells := 0, slots := 0, locals := 12 }
def Q_sbb_0 (Z : State) (G1 : Int32) (kC : Addr) (uS : Value) (sS : Value) (x : Addr) (t : Addr) (h0 : Heap) (n0 : Nat) (v : Option Value) (h : Heap) (L : List Loc) : Prop := (v = none ∧ Fr n0 L ∧ Keep h0 h [x] ∧ (Exa Z h x "java/lang/String") ∧ (Fld Z h x "java/lang/String" "coder" "B" (.int (0 : Int32))) ∧ (Fld Z h x "java/lang/String" "value" "[B" (.ref t)))
set_option maxRecDepth 65536 in
set_option maxHeartbeats 40000000 in
theorem rm_sbb_0 (l : Launch) (Z : State) (a0 : Array Value) (hw : ∀ d ∈ tables_1, d.before a0 Z = true) (ws : List Jvm.Cond) (G1 : Int32) (kC : Addr) (uS : Value) (sS : Value) (HG : own_G l Z a0 G1 kC uS sS) (h0 : Heap) (n0 : Nat) (X00 : Old Z n0 h0) (x : Addr) (t : Addr) (hp0 : Exa Z h0 x "java/lang/String") (hp1 : Fld Z h0 x "java/lang/String" "value" "[B" .null) (hp2 : Fld Z h0 x "java/lang/String" "coder" "B" (.int (0 : Int32))) (hp3 : n0 ≤ x) :
    own_CP l Z M242 jdk_42_method_151_code 3 none ws R_sbb_0 #[(.ref x), (.ref t), (.int (0 : Int32))] h0 (Q_sbb_0 Z G1 kC uS sS x t h0 n0) := by
  refine own_P (plainFor_of_name pn_2) ?_
  intro p e s m below meth c s₁ S0 Bd hZ hh hx hby hml hown hnm X0 e0 hS0d
  obtain ⟨O1, P1, O2, E2, F2, hLT, OU, rU, OS, rS⟩ := id HG
  have N0 := Fr.nil n0
  have C0 : Steps p.tables e below S0 (s₁.setTop (mkF m 0 #[.val (.ref x), .val (.ref t), .val (.int (0 : Int32))] [])) := by rw [hS0d]; exact castTop (ef_243 m x t (0 : Int32)) (Steps.refl _)
  obtain ⟨T_1, X_2, e_3, st_4⟩ := initO X0 hx hZ hown (w15 hw) (w16 hw) (w17 hw) e0 (g := (mkF m 1 #[.val (.ref x), .val (.ref t), .val (.int (0 : Int32))] [(.ref x)])) rfl (by rw [hml]; rfl) rfl (hb hby d15_1) (by decide) (W := 0) (by show 2 * 0 + _ ≤ _; exact Nat.le_of_eq rfl) (by decide)
  obtain ⟨T_5, h_6, X_7, e_8, W_9, st_10⟩ := putF X_2 hx hZ hown (host := "") (Or.inl (w24 hw)) Via.refl e_3 hp1 hp0 (Or.inr ⟨(w20 hw), rfl, hnm⟩) (w5 hw) (ty := (.array .byte)) (by decide) rfl rfl (g := (mkF m 6 #[.val (.ref x), .val (.ref t), .val (.int (0 : Int32))] [(.ref t), (.ref x)])) rfl rfl (hb hby d15_6)
  have N_11 := Fr.snoc X_7 N0 hp3
  have F_12 : Fld Z h_6 x "java/lang/String" "value" "[B" (.ref t) := hp1.same W_9
  have F_13 : Fld Z h_6 x "java/lang/String" "coder" "B" (.int (0 : Int32)) := (hp2.other W_9 (Or.inr (slot_ne (Or.inr (w21 hw)) (Or.inr (w20 hw)) (by decide) (t := .byte) (by decide) (t' := (.array .byte)) (by decide))))
  have E_14 : Exa Z h_6 x "java/lang/String" := (hp0.wr W_9)
  obtain ⟨T_15, h_16, X_17, e_18, W_19, st_20⟩ := putF X_7 hx hZ hown (host := "") (Or.inl (w25 hw)) Via.refl e_8 F_13 E_14 (Or.inr ⟨(w21 hw), rfl, hnm⟩) (w5 hw) (ty := .byte) (by decide) rfl (by decide) (g := (mkF m 11 #[.val (.ref x), .val (.ref t), .val (.int (0 : Int32))] [(.int (0 : Int32)), (.ref x)])) rfl rfl (hb hby d15_11)
  have N_21 := Fr.snoc X_17 N_11 hp3
  have F_22 : Fld Z h_16 x "java/lang/String" "coder" "B" (.int (0 : Int32)) := F_13.same W_19
  have C_23 : Steps p.tables e below S0 (T_15.setTop (mkF m 14 #[.val (.ref x), .val (.ref t), .val (.int (0 : Int32))] [])) := by
    refine C0.trans ?_
    refine XS.aloadN X0.here hx rfl (hb hby d15_0) rfl rfl ?_
    refine st_4 _ ?_
    refine XS.aloadN X_2.here hx rfl (hb hby d15_4) rfl rfl ?_
    refine XS.aloadN X_2.here hx rfl (hb hby d15_5) rfl rfl ?_
    refine st_10 _ ?_
    refine XS.aloadN X_7.here hx rfl (hb hby d15_9) rfl rfl ?_
    refine XS.iloadN X_7.here hx rfl (hb hby d15_10) rfl ?_
    refine st_20 _ ?_
    show Steps p.tables e below (T_15.setTop (mkF m 14 #[.val (.ref x), .val (.ref t), .val (.int (0 : Int32))] [])) _
    exact Steps.refl _
  have E_24 : Exa Z h_16 x "java/lang/String" := (E_14.wr W_19)
  have F_25 : Fld Z h_16 x "java/lang/String" "value" "[B" (.ref t) := (F_12.other W_19 (Or.inr (slot_ne (Or.inr (w20 hw)) (Or.inr (w21 hw)) (by decide) (t := (.array .byte)) (by decide) (t' := .byte) (by decide))))
  have K_26 : Keep h0 h_16 [x] := (((Keep.refl _ _).wr W_9 (Or.inl (List.mem_of_getElem? (i := 0) rfl))).wr W_19 (Or.inl (List.mem_of_getElem? (i := 0) rfl)))
  obtain ⟨fs, hr, hrun, hended, hW, hsame⟩ := X_17.leave (v := none) (fun _ => rfl)
  refine ⟨_, _, C_23.trans (X_17.returnOut hx Bd.returns (hb hby d15_14) hr), hrun, hended, _, _, rfl, ?_, ⟨_, rfl⟩, hW, hsame.mono (by decide) (by decide)⟩
  show Q_sbb_0 Z G1 kC uS sS x t h0 n0 (none) T_15.heap _
  rw [e_18]
  exact ⟨rfl, N_21, K_26, E_24, F_22, F_25⟩
abbrev M253 : MethodName := ⟨"java/lang/String", "valueOf", "(C)Ljava/lang/String;"⟩
theorem d16_0 : decode jdk_42_method_139_code 0 = .ok (.getstatic 38, 3) := by decide +kernel
theorem d16_3 : decode jdk_42_method_139_code 3 = .ok (.ifCond .eq 23, 3) := by decide +kernel
theorem d16_6 : decode jdk_42_method_139_code 6 = .ok (.iload_n 0, 1) := by decide +kernel
theorem w129 {Z : State} {a0 : Array Value} (hw : ∀ d ∈ tables_1, d.before a0 Z = true) : Jvm.Cond.before (Jvm.Cond.code ({ cls := "java/lang/StringLatin1", name := "canEncode", desc := "(C)Z" } : Jvm.MethodName) jdk_43_method_3_code (1 : Nat) (Option.some Jvm.ClassFile.FieldType.boolean)) a0 Z = true := hw _ (List.mem_of_getElem? (i := 129) rfl)
theorem w128 {Z : State} {a0 : Array Value} (hw : ∀ d ∈ tables_1, d.before a0 Z = true) : Jvm.Cond.before (Jvm.Cond.initialized "java/lang/StringLatin1") a0 Z = true := hw _ (List.mem_of_getElem? (i := 128) rfl)
theorem pd_259 : parseMethodDescriptor "(C)Z" = some ⟨[.char], some .boolean⟩ := by decide +kernel
theorem d16_7 : decode jdk_42_method_139_code 7 = .ok (.invokestatic 1015, 3) := by decide +kernel
theorem w126 {Z : State} {a0 : Array Value} (hw : ∀ d ∈ tables_1, d.before a0 Z = true) : Jvm.Cond.before (Jvm.Cond.methodLink "java/lang/String" (1015 : Nat) ({ cls := "java/lang/StringLatin1", name := "canEncode", desc := "(C)Z" } : Jvm.MethodName)) a0 Z = true := hw _ (List.mem_of_getElem? (i := 126) rfl)
theorem w127 {Z : State} {a0 : Array Value} (hw : ∀ d ∈ tables_1, d.before a0 Z = true) : Jvm.Cond.before (Jvm.Cond.static ({ cls := "java/lang/StringLatin1", name := "canEncode", desc := "(C)Z" } : Jvm.MethodName)) a0 Z = true := hw _ (List.mem_of_getElem? (i := 127) rfl)
theorem d16_10 : decode jdk_42_method_139_code 10 = .ok (.ifCond .eq 16, 3) := by decide +kernel
theorem w130 {Z : State} {a0 : Array Value} (hw : ∀ d ∈ tables_1, d.before a0 Z = true) : Jvm.Cond.before (Jvm.Cond.classLink "java/lang/String" (10 : Nat) "java/lang/String") a0 Z = true := hw _ (List.mem_of_getElem? (i := 130) rfl)
theorem d16_13 : decode jdk_42_method_139_code 13 = .ok (.new 10, 3) := by decide +kernel
theorem d16_16 : decode jdk_42_method_139_code 16 = .ok (.dup, 1) := by decide +kernel
theorem d16_17 : decode jdk_42_method_139_code 17 = .ok (.iload_n 0, 1) := by decide +kernel
theorem w133 {Z : State} {a0 : Array Value} (hw : ∀ d ∈ tables_1, d.before a0 Z = true) : Jvm.Cond.before (Jvm.Cond.code ({ cls := "java/lang/StringLatin1", name := "toBytes", desc := "(C)[B" } : Jvm.MethodName) jdk_43_method_46_code (1 : Nat) (Option.some (Jvm.ClassFile.FieldType.array Jvm.ClassFile.FieldType.byte))) a0 Z = true := hw _ (List.mem_of_getElem? (i := 133) rfl)
theorem pd_269 : parseMethodDescriptor "(C)[B" = some ⟨[.char], some (.array .byte)⟩ := by decide +kernel
theorem d16_18 : decode jdk_42_method_139_code 18 = .ok (.invokestatic 1018, 3) := by decide +kernel
theorem w131 {Z : State} {a0 : Array Value} (hw : ∀ d ∈ tables_1, d.before a0 Z = true) : Jvm.Cond.before (Jvm.Cond.methodLink "java/lang/String" (1018 : Nat) ({ cls := "java/lang/StringLatin1", name := "toBytes", desc := "(C)[B" } : Jvm.MethodName)) a0 Z = true := hw _ (List.mem_of_getElem? (i := 131) rfl)
theorem w132 {Z : State} {a0 : Array Value} (hw : ∀ d ∈ tables_1, d.before a0 Z = true) : Jvm.Cond.before (Jvm.Cond.static ({ cls := "java/lang/StringLatin1", name := "toBytes", desc := "(C)[B" } : Jvm.MethodName)) a0 Z = true := hw _ (List.mem_of_getElem? (i := 132) rfl)
theorem d16_21 : decode jdk_42_method_139_code 21 = .ok (.iconst 0, 1) := by decide +kernel
theorem w136 {Z : State} {a0 : Array Value} (hw : ∀ d ∈ tables_1, d.before a0 Z = true) : Jvm.Cond.before (Jvm.Cond.code ({ cls := "java/lang/String", name := "<init>", desc := "([BB)V" } : Jvm.MethodName) jdk_42_method_151_code (3 : Nat) (Option.none : Option Jvm.ClassFile.FieldType)) a0 Z = true := hw _ (List.mem_of_getElem? (i := 136) rfl)
theorem pd_275 : parseMethodDescriptor "([BB)V" = some ⟨[(.array .byte), .byte], none⟩ := by decide +kernel
theorem d16_22 : decode jdk_42_method_139_code 22 = .ok (.invokespecial 209, 3) := by decide +kernel
theorem w134 {Z : State} {a0 : Array Value} (hw : ∀ d ∈ tables_1, d.before a0 Z = true) : Jvm.Cond.before (Jvm.Cond.methodLink "java/lang/String" (209 : Nat) ({ cls := "java/lang/String", name := "<init>", desc := "([BB)V" } : Jvm.MethodName)) a0 Z = true := hw _ (List.mem_of_getElem? (i := 134) rfl)
theorem w135 {Z : State} {a0 : Array Value} (hw : ∀ d ∈ tables_1, d.before a0 Z = true) : Jvm.Cond.before (Jvm.Cond.instanceMethod ({ cls := "java/lang/String", name := "<init>", desc := "([BB)V" } : Jvm.MethodName)) a0 Z = true := hw _ (List.mem_of_getElem? (i := 135) rfl)
theorem d16_25 : decode jdk_42_method_139_code 25 = .ok (.areturn, 1) := by decide +kernel
abbrev R_valof : Room := { frames := 2, cells := 2, slots := 5, locals := 27 }
def Q_valof (Z : State) (G1 : Int32) (kC : Addr) (uS : Value) (sS : Value) (cc : Int32) (h0 : Heap) (n0 : Nat) (v : Option Value) (h : Heap) (L : List Loc) : Prop := (∃ x : Addr, ∃ t : Addr, ∃ kt : ClassId, v = some (.ref x) ∧ Fr n0 L ∧ Keep h0 h [] ∧ (h0.size ≤ x) ∧ (Exa Z h x "java/lang/String") ∧ (Fld Z h x "java/lang/String" "coder" "B" (.int (0 : Int32))) ∧ (Fld Z h x "java/lang/String" "value" "[B" (.ref t)) ∧ (h0.size ≤ t) ∧ (Arv Z h t kt .byte (1 : Int32) [(.int (own_lo8 cc))] (.int (0 : Int32))))
set_option maxRecDepth 65536 in
set_option maxHeartbeats 40000000 in
theorem rm_valof (l : Launch) (Z : State) (a0 : Array Value) (hw : ∀ d ∈ tables_1, d.before a0 Z = true) (ws : List Jvm.Cond) (G1 : Int32) (kC : Addr) (uS : Value) (sS : Value) (HG : own_G l Z a0 G1 kC uS sS) (h0 : Heap) (n0 : Nat) (X00 : Old Z n0 h0) (cc : Int32) (hh0 : ¬ ((255 : Int32) < cc)) :
    own_CP l Z M253 jdk_42_method_139_code 1 (some (.object "java/lang/String")) ws R_valof #[(.int cc)] h0 (Q_valof Z G1 kC uS sS cc h0 n0) := by
  refine own_P (plainFor_of_name pn_2) ?_
  intro p e s m below meth c s₁ S0 Bd hZ hh hx hby hml hown hnm X0 e0 hS0d
  obtain ⟨O1, P1, O2, E2, F2, hLT, OU, rU, OS, rS⟩ := id HG
  have N0 := Fr.nil n0
  have C0 : Steps p.tables e below S0 (s₁.setTop (mkF m 0 #[.val (.int cc)] [])) := by rw [hS0d]; exact castTop (ef_225 m cc) (Steps.refl _)
  obtain ⟨T_1, X_2, e_3, st_4⟩ := getS X0 hx hZ (host := "") hown (w117 hw) Via.refl e0 (O1.ext X00.2) (g := (mkF m 0 #[.val (.int cc)] [])) rfl (hb hby d16_0)
  obtain ⟨_, _, ⟨T_5, L_5, k_5, n_5⟩, -, X_5, ⟨Lc_5, hQ_5, l_5, y_5, z_5⟩, st_5⟩ := Jvm.LawKit.callS X_2 hx (y := M224) hown (mvT hZ (w126 hw)) (mvT hZ (w127 hw)) (mvT hZ (w128 hw)) (mvT hZ (w129 hw)) (by decide) (backOf (W := 0) (rm_canenc l Z a0 hw [] G1 kC uS sS HG h0 n0 X00 cc hh0) hZ (w129 hw) (w128 hw) (by decide) (by decide)) (g := (mkF m 7 #[.val (.int cc)] [(.int cc)])) rfl (by rw [hml]; rfl) (argsL := [(.int cc)]) (rest := []) (lenOf pd_259 rfl) rfl (by show 2 * 0 + _ ≤ _; exact Nat.le_of_eq rfl) (hb hby d16_7) (fun _ _ => ⟨rfl, e_3, (by decide : 0 + 0 ≤ _), (by decide : 0 + 0 ≤ _)⟩)
  dsimp only [Pt.U, Pt.locs, Pt.cells, Pt.slots] at X_5 l_5 y_5 z_5 st_5 hQ_5
  subst l_5 y_5 z_5
  obtain ⟨rfl, N_6, e_7⟩ := hQ_5
  have N_8 := Fr.app N0 N_6
  have e_9 : T_5.heap = h0 := e_7
  obtain ⟨T_10, h_11, X_12, e_13, E_14, A_15, D_16, U_20, st_17⟩ := newO X_5 hx hZ hown (w130 hw) (w5 hw) (w6 hw) e_9 (g := (mkF m 13 #[.val (.int cc)] [])) rfl (hb hby d16_13) (by decide) (by decide)
  obtain ⟨a_18, g_19⟩ : ∃ z, z = h0.size := ⟨_, rfl⟩
  rw [← g_19] at A_15 D_16 st_17 U_20
  have O_21 : Old Z n0 h_11 := (X00.ext E_14)
  obtain ⟨_, _, ⟨T_22, L_22, k_22, n_22⟩, -, X_22, ⟨Lc_22, hQ_22, l_22, y_22, z_22⟩, st_22⟩ := Jvm.LawKit.callS X_12 hx (y := M233) hown (mvT hZ (w131 hw)) (mvT hZ (w132 hw)) (mvT hZ (w128 hw)) (mvT hZ (w133 hw)) (by decide) (backOf (W := 2) (rm_ltob l Z a0 hw [] G1 kC uS sS HG h_11 n0 O_21 cc ) hZ (w133 hw) (w128 hw) (by decide) (by decide)) (g := (mkF m 18 #[.val (.int cc)] [(.int cc), (.ref a_18), (.ref a_18)])) rfl (by rw [hml]; rfl) (argsL := [(.int cc)]) (rest := [(.ref a_18), (.ref a_18)]) (lenOf pd_269 rfl) rfl (by show 2 * 0 + _ ≤ _; exact Nat.le_of_eq rfl) (hb hby d16_18) (fun _ _ => ⟨rfl, e_13, (by decide : 1 + 1 ≤ _), (by decide : 4 + 1 ≤ _)⟩)
  dsimp only [Pt.U, Pt.locs, Pt.cells, Pt.slots] at X_22 l_22 y_22 z_22 st_22 hQ_22
  subst l_22 y_22 z_22
  obtain ⟨a_23, k_24, rfl, N_25, K_26, g_27, g_28⟩ := hQ_22
  have N_29 := Fr.app N_8 N_25
  have E_30 : Exa Z T_22.heap a_18 "java/lang/String" := (A_15.keep K_26)
  have F_31 : Fld Z T_22.heap a_18 "java/lang/String" "value" "[B" .null := ((D_16 (Or.inr (w20 hw)) (ty := (.array .byte)) (by decide)).keep K_26 nin0)
  have F_32 : Fld Z T_22.heap a_18 "java/lang/String" "coder" "B" (.int (0 : Int32)) := ((D_16 (Or.inr (w21 hw)) (ty := .byte) (by decide)).keep K_26 nin0)
  have O_33 : Old Z n0 T_22.heap := (O_21.keep K_26 all0)
  obtain ⟨_, _, ⟨T_34, L_34, k_34, n_34⟩, -, X_34, ⟨Lc_34, hQ_34, l_34, y_34, z_34⟩, st_34⟩ := X_22.specialBack hx (y := M242) rfl hown (mvT hZ (w134 hw)) (mvT hZ (w135 hw)) (mvT hZ (w136 hw)) (by decide) (backOf (W := 1) (rm_sbb_0 l Z a0 hw [] G1 kC uS sS HG T_22.heap n0 O_33 a_18 a_23 E_30 F_31 F_32 (Nat.le_trans (own_n0 X00) (Nat.le_of_eq g_19.symm))) hZ (w136 hw) (w6 hw) (by decide) (by decide)) (g := (mkF m 22 #[.val (.int cc)] [(.int (0 : Int32)), (.ref a_23), (.ref a_18), (.ref a_18)])) rfl (by rw [hml]; rfl) (Steps.refl _) (a := a_18) (argsL := [(.ref a_23), (.int (0 : Int32))]) (rest := [(.ref a_18)]) (lenOf pd_275 rfl) rfl (by show 2 * 0 + _ ≤ _; exact Nat.le_of_eq rfl) (hb hby d16_22) (fun _ _ => ⟨rfl, rfl, (by decide : 2 + 0 ≤ _), (by decide : 5 + 0 ≤ _)⟩)
  dsimp only [Pt.U, Pt.locs, Pt.cells, Pt.slots] at X_34 l_34 y_34 z_34 st_34 hQ_34
  subst l_34 y_34 z_34
  obtain ⟨rfl, N_35, K_36, g_37, g_38, g_39⟩ := hQ_34
  have N_40 := Fr.app N_29 N_35
  have C_41 : Steps p.tables e below S0 (T_34.setTop (mkF m 25 #[.val (.int cc)] [(.ref a_18)])) := by
    refine C0.trans ?_
    refine st_4 _ ?_
    refine XS.ifNo X_2.here hx rfl (hb hby d16_3) rfl (i0_eq_f P1) ?_
    refine XS.iloadN X_2.here hx rfl (hb hby d16_6) rfl ?_
    refine st_5 _ ?_
    refine XS.ifNo X_5.here hx rfl (hb hby d16_10) rfl (by decide) ?_
    refine st_17 _ ?_
    refine XS.dup X_12.here hx rfl (hb hby d16_16) rfl rfl ?_
    refine XS.iloadN X_12.here hx rfl (hb hby d16_17) rfl ?_
    show Steps p.tables e below (T_10.setTop (mkF m 18 #[.val (.int cc)] [(.int cc), (.ref a_18), (.ref a_18)])) _
    refine st_22 _ ?_
    refine XS.iconst X_22.here hx rfl (hb hby d16_21) ?_
    refine st_34.trans ?_
    exact Steps.refl _
  have V_42 : Arv Z T_34.heap a_23 k_24 .byte (1 : Int32) [(.int (own_lo8 cc))] (.int (0 : Int32)) := (g_28.keep K_36 (ninS (Ne.symm (Nat.ne_of_lt (Nat.lt_of_lt_of_le A_15.lt (Nat.le_trans (Nat.le_refl _) g_27)))) nin0))
  have K_43 : Keep h0 T_34.heap [] := ((((Keep.refl _ _).ext E_14).trans K_26 all0).trans K_36 (allS (Or.inr (Nat.le_trans (Nat.le_refl _) (Nat.le_of_eq g_19.symm))) all0))
  obtain ⟨fs, hr, hrun, hended, hW, hsame⟩ := X_34.leave (v := some (.ref a_18)) (fun h => by rw [Bd.returns] at h; cases h)
  refine ⟨_, _, C_41.trans (retOut X_34 hx Bd.returns rfl (Or.inr (Or.inr (Or.inr (Or.inr ⟨rfl, rfl, rfl⟩)))) (hb hby d16_25) hr), hrun, hended, _, _, rfl, ?_, ⟨_, rfl⟩, hW, hsame.mono (by decide) (by decide)⟩
  show Q_valof Z G1 kC uS sS cc h0 n0 (some (.ref a_18)) T_34.heap _
  exact ⟨a_18, a_23, k_24, rfl, N_40, K_43, (Nat.le_trans (Nat.le_refl _) (Nat.le_of_eq g_19.symm)), g_37, g_38, g_39, (Nat.le_trans E_14.1 g_27), V_42⟩
abbrev M280 : MethodName := ⟨"java/lang/String", "coder", "()B"⟩
theorem d17_0 : decode jdk_42_method_152_code 0 = .ok (.getstatic 38, 3) := by decide +kernel
theorem d17_3 : decode jdk_42_method_152_code 3 = .ok (.ifCond .eq 10, 3) := by decide +kernel
theorem d17_6 : decode jdk_42_method_152_code 6 = .ok (.aload_n 0, 1) := by decide +kernel
theorem d17_7 : decode jdk_42_method_152_code 7 = .ok (.getfield 15, 3) := by decide +kernel
theorem d17_10 : decode jdk_42_method_152_code 10 = .ok (.goto 4, 3) := by decide +kernel
theorem d17_14 : decode jdk_42_method_152_code 14 = .ok (.ireturn, 1) := by decide +kernel
abbrev R_coder : Room := { frames := 0, cells := 0, slots := 0, locals := 0 }
def Q_coder (Z : State) (G1 : Int32) (kC : Addr) (uS : Value) (sS : Value) (x : Addr) (h0 : Heap) (n0 : Nat) (v : Option Value) (h : Heap) (L : List Loc) : Prop := (v = some (.int (0 : Int32)) ∧ Fr n0 L ∧ h = h0)
set_option maxRecDepth 65536 in
set_option maxHeartbeats 40000000 in
theorem rm_coder (l : Launch) (Z : State) (a0 : Array Value) (hw : ∀ d ∈ tables_1, d.before a0 Z = true) (ws : List Jvm.Cond) (G1 : Int32) (kC : Addr) (uS : Value) (sS : Value) (HG : own_G l Z a0 G1 kC uS sS) (h0 : Heap) (n0 : Nat) (X00 : Old Z n0 h0) (x : Addr) (hp0 : Fld Z h0 x "java/lang/String" "coder" "B" (.int (0 : Int32))) :
    own_CP l Z M280 jdk_42_method_152_code 1 (some .byte) ws R_coder #[(.ref x)] h0 (Q_coder Z G1 kC uS sS x h0 n0) := by
  refine own_P (plainFor_of_name pn_2) ?_
  intro p e s m below meth c s₁ S0 Bd hZ hh hx hby hml hown hnm X0 e0 hS0d
  obtain ⟨O1, P1, O2, E2, F2, hLT, OU, rU, OS, rS⟩ := id HG
  have N0 := Fr.nil n0
  have C0 : Steps p.tables e below S0 (s₁.setTop (mkF m 0 #[.val (.ref x)] [])) := by rw [hS0d]; exact castTop (ef_102 m x) (Steps.refl _)
  obtain ⟨T_1, X_2, e_3, st_4⟩ := getS X0 hx hZ (host := "") hown (w117 hw) Via.refl e0 (O1.ext X00.2) (g := (mkF m 0 #[.val (.ref x)] [])) rfl (hb hby d17_0)
  obtain ⟨T_5, X_6, e_7, st_8⟩ := getF X_2 hx hZ hown (host := "") (Or.inl (w25 hw)) Via.refl e_3 hp0 (g := (mkF m 7 #[.val (.ref x)] [(.ref x)])) rfl rfl (hb hby d17_7)
  have C_9 : Steps p.tables e below S0 (T_5.setTop (mkF m 14 #[.val (.ref x)] [(.int (0 : Int32))])) := by
    refine C0.trans ?_
    refine st_4 _ ?_
    refine XS.ifNo X_2.here hx rfl (hb hby d17_3) rfl (i0_eq_f P1) ?_
    refine XS.aloadN X_2.here hx rfl (hb hby d17_6) rfl rfl ?_
    refine st_8 _ ?_
    refine XS.goto X_6.here hx rfl (pc0 := 10) (pc' := 14) rfl (hb hby d17_10) (by decide) (by decide) ?_
    exact Steps.refl _
  obtain ⟨fs, hr, hrun, hended, hW, hsame⟩ := X_6.leave (v := some (.int (0 : Int32))) (fun h => by rw [Bd.returns] at h; cases h)
  refine ⟨_, _, C_9.trans (retN X_6 hx (t := .byte) Bd.returns (by simp) (hb hby d17_14) hr), hrun, hended, _, _, rfl, ?_, ⟨_, rfl⟩, hW, hsame.mono (by decide) (by decide)⟩
  show Q_coder Z G1 kC uS sS x h0 n0 (some (.int (0 : Int32))) T_5.heap _
  rw [e_7]
  exact ⟨rfl, N0, rfl⟩
abbrev M287 : MethodName := ⟨"java/lang/String", "length", "()I"⟩
theorem d18_0 : decode jdk_42_method_54_code 0 = .ok (.aload_n 0, 1) := by decide +kernel
theorem d18_1 : decode jdk_42_method_54_code 1 = .ok (.getfield 9, 3) := by decide +kernel
theorem d18_4 : decode jdk_42_method_54_code 4 = .ok (.arraylength, 1) := by decide +kernel
theorem d18_5 : decode jdk_42_method_54_code 5 = .ok (.aload_n 0, 1) := by decide +kernel
theorem w116 {Z : State} {a0 : Array Value} (hw : ∀ d ∈ tables_1, d.before a0 Z = true) : Jvm.Cond.before (Jvm.Cond.code ({ cls := "java/lang/String", name := "coder", desc := "()B" } : Jvm.MethodName) jdk_42_method_152_code (1 : Nat) (Option.some Jvm.ClassFile.FieldType.byte)) a0 Z = true := hw _ (List.mem_of_getElem? (i := 116) rfl)
theorem pd_293 : parseMethodDescriptor "()B" = some ⟨[], some .byte⟩ := by decide +kernel
theorem d18_6 : decode jdk_42_method_54_code 6 = .ok (.invokevirtual 335, 3) := by decide +kernel
theorem w112 {Z : State} {a0 : Array Value} (hw : ∀ d ∈ tables_1, d.before a0 Z = true) : Jvm.Cond.before (Jvm.Cond.methodLink "java/lang/String" (335 : Nat) ({ cls := "java/lang/String", name := "coder", desc := "()B" } : Jvm.MethodName)) a0 Z = true := hw _ (List.mem_of_getElem? (i := 112) rfl)
theorem w115 {Z : State} {a0 : Array Value} (hw : ∀ d ∈ tables_1, d.before a0 Z = true) : Jvm.Cond.before (Jvm.Cond.selects "java/lang/String" ({ cls := "java/lang/String", name := "coder", desc := "()B" } : Jvm.MethodName) ({ cls := "java/lang/String", name := "coder", desc := "()B" } : Jvm.MethodName)) a0 Z = true := hw _ (List.mem_of_getElem? (i := 115) rfl)
theorem w114 {Z : State} {a0 : Array Value} (hw : ∀ d ∈ tables_1, d.before a0 Z = true) : Jvm.Cond.before (Jvm.Cond.instanceMethod ({ cls := "java/lang/String", name := "coder", desc := "()B" } : Jvm.MethodName)) a0 Z = true := hw _ (List.mem_of_getElem? (i := 114) rfl)
theorem w113 {Z : State} {a0 : Array Value} (hw : ∀ d ∈ tables_1, d.before a0 Z = true) : Jvm.Cond.before (Jvm.Cond.declares ({ cls := "java/lang/String", name := "coder", desc := "()B" } : Jvm.MethodName)) a0 Z = true := hw _ (List.mem_of_getElem? (i := 113) rfl)
theorem d18_9 : decode jdk_42_method_54_code 9 = .ok (.ishr, 1) := by decide +kernel
theorem d18_10 : decode jdk_42_method_54_code 10 = .ok (.ireturn, 1) := by decide +kernel
abbrev R_lenany : Room := { frames := 1, cells := 0, slots := 0, locals := 13 }
def Q_lenany (Z : State) (G1 : Int32) (kC : Addr) (uS : Value) (sS : Value) (x : Addr) (t : Addr) (kt : ClassId) (z : Int32) (bs : List Value) (h0 : Heap) (n0 : Nat) (v : Option Value) (h : Heap) (L : List Loc) : Prop := (v = some (.int (z >>> ((0 : Int32) &&& 31))) ∧ Fr n0 L ∧ h = h0)
set_option maxRecDepth 65536 in
set_option maxHeartbeats 40000000 in
theorem rm_lenany (l : Launch) (Z : State) (a0 : Array Value) (hw : ∀ d ∈ tables_1, d.before a0 Z = true) (ws : List Jvm.Cond) (G1 : Int32) (kC : Addr) (uS : Value) (sS : Value) (HG : own_G l Z a0 G1 kC uS sS) (h0 : Heap) (n0 : Nat) (X00 : Old Z n0 h0) (x : Addr) (t : Addr) (kt : ClassId) (z : Int32) (bs : List Value) (hp0 : Exa Z h0 x "java/lang/String") (hp1 : Fld Z h0 x "java/lang/String" "coder" "B" (.int (0 : Int32))) (hp2 : Fld Z h0 x "java/lang/String" "value" "[B" (.ref t)) (hp3 : Arv Z h0 t kt .byte z bs (.int (0 : Int32))) :
    own_CP l Z M287 jdk_42_method_54_code 1 (some .int) ws R_lenany #[(.ref x)] h0 (Q_lenany Z G1 kC uS sS x t kt z bs h0 n0) := by
  refine own_P (plainFor_of_name pn_2) ?_
  intro p e s m below meth c s₁ S0 Bd hZ hh hx hby hml hown hnm X0 e0 hS0d
  obtain ⟨O1, P1, O2, E2, F2, hLT, OU, rU, OS, rS⟩ := id HG
  have N0 := Fr.nil n0
  have C0 : Steps p.tables e below S0 (s₁.setTop (mkF m 0 #[.val (.ref x)] [])) := by rw [hS0d]; exact castTop (ef_102 m x) (Steps.refl _)
  obtain ⟨T_1, X_2, e_3, st_4⟩ := getF X0 hx hZ hown (host := "") (Or.inl (w24 hw)) Via.refl e0 hp2 (g := (mkF m 1 #[.val (.ref x)] [(.ref x)])) rfl rfl (hb hby d18_1)
  obtain ⟨c_5, A_6, q_7, S_8, M_9, H_10, U_11⟩ := id hp3
  obtain ⟨q_13, q_14, q_15, q_16, q_17⟩ := isOf (T := T_1) hZ e_3 hp0
  obtain ⟨_, _, ⟨T_12, L_12, k_12, n_12⟩, -, X_12, ⟨Lc_12, hQ_12, l_12, y_12, z_12⟩, st_12⟩ := X_2.virtualBack hx (y := M280) (z := M280) hown (mvT hZ (w112 hw)) (mvT hZ (w113 hw)) (notFace_of_selects (args := #[]) (mvT hZ (w115 hw))) (mvT hZ (w115 hw)) (mvT hZ (w114 hw)) (by decide) (backOf (W := 1) (rm_coder l Z a0 hw [] G1 kC uS sS HG h0 n0 X00 x hp1) hZ (w116 hw) (w6 hw) (by decide) (by decide)) q_15 q_17 (g := (mkF m 6 #[.val (.ref x)] [(.ref x), (.int z)])) rfl (by rw [hml]; rfl) (Steps.refl _) (argsL := []) (rest := [(.int z)]) (lenOf pd_293 rfl) rfl (by show 2 * 0 + _ ≤ _; exact Nat.le_of_eq rfl) (hb hby d18_6) (fun _ _ => ⟨rfl, e_3, (by decide : 0 + 0 ≤ _), (by decide : 0 + 0 ≤ _)⟩)
  dsimp only [Pt.U, Pt.locs, Pt.cells, Pt.slots] at X_12 l_12 y_12 z_12 st_12 hQ_12
  subst l_12 y_12 z_12
  obtain ⟨rfl, N_18, e_19⟩ := hQ_12
  have N_20 := Fr.app N0 N_18
  have e_21 : T_12.heap = h0 := e_19
  have C_22 : Steps p.tables e below S0 (T_12.setTop (mkF m 10 #[.val (.ref x)] [(.int (z >>> ((0 : Int32) &&& 31)))])) := by
    refine C0.trans ?_
    refine XS.aloadN X0.here hx rfl (hb hby d18_0) rfl rfl ?_
    refine st_4 _ ?_
    refine X_2.arraylength hx (by rw [e_3]; exact A_6.1) (State.isArrayOf_alike hZ.alike A_6.2.1) (g := (mkF m 4 #[.val (.ref x)] [(.ref t)])) rfl rfl (hb hby d18_4) _ ?_
    rw [len_of S_8 M_9]
    refine XS.aloadN X_2.here hx rfl (hb hby d18_5) rfl rfl ?_
    refine st_12.trans ?_
    refine XS.ishr X_12.here hx rfl (hb hby d18_9) rfl ?_
    exact Steps.refl _
  obtain ⟨fs, hr, hrun, hended, hW, hsame⟩ := X_12.leave (v := some (.int (z >>> ((0 : Int32) &&& 31)))) (fun h => by rw [Bd.returns] at h; cases h)
  refine ⟨_, _, C_22.trans (retOut X_12 hx Bd.returns rfl (Or.inl ⟨rfl, Or.inl rfl, _, rfl⟩) (hb hby d18_10) hr), hrun, hended, _, _, rfl, ?_, ⟨_, rfl⟩, hW, hsame.mono (by decide) (by decide)⟩
  show Q_lenany Z G1 kC uS sS x t kt z bs h0 n0 (some (.int (z >>> ((0 : Int32) &&& 31)))) T_12.heap _
  rw [e_21]
  exact ⟨rfl, N_20, rfl⟩
abbrev M301 : MethodName := ⟨"com/example/manque/manque/DeclinedRefusedPinLaw", "make", "(IIII)Ljava/lang/String;"⟩
theorem ef_302 (m : MethodId) (x0 : Int32) (x1 : Int32) (x2 : Int32) (x3 : Int32) : entryFrame m #[(.int x0), (.int x1), (.int x2), (.int x3)] 8 = mkF m 0 #[.val (.int x0), .val (.int x1), .val (.int x2), .val (.int x3), .unset, .unset, .unset, .unset] [] := by first | (simp [entryFrame, mkF, argsToLocals, Value.category]; done) | rfl
theorem pn_303 : plainName "com/example/manque/manque/DeclinedRefusedPinLaw" = true := by first | (simp [plainName, overriddenIn]; done) | decide +kernel
theorem d19_0 : decode method_2_code 0 = .ok (.iload_n 0, 1) := by decide +kernel
theorem d19_1 : decode method_2_code 1 = .ok (.bipush 8, 2) := by decide +kernel
theorem d19_3 : decode method_2_code 3 = .ok (.iand, 1) := by decide +kernel
theorem d19_4 : decode method_2_code 4 = .ok (.ifCond .eq 5, 3) := by decide +kernel
theorem d19_9 : decode method_2_code 9 = .ok (.iload_n 0, 1) := by decide +kernel
theorem d19_10 : decode method_2_code 10 = .ok (.iconst 3, 1) := by decide +kernel
theorem d19_11 : decode method_2_code 11 = .ok (.iand, 1) := by decide +kernel
theorem d19_12 : decode method_2_code 12 = .ok (.istore 4, 2) := by decide +kernel
theorem d19_14 : decode method_2_code 14 = .ok (.iload_n 1, 1) := by decide +kernel
theorem d19_15 : decode method_2_code 15 = .ok (.sipush 255, 3) := by decide +kernel
theorem d19_18 : decode method_2_code 18 = .ok (.iand, 1) := by decide +kernel
theorem d19_19 : decode method_2_code 19 = .ok (.i2c, 1) := by decide +kernel
theorem d19_20 : decode method_2_code 20 = .ok (.istore 5, 2) := by decide +kernel
theorem d19_22 : decode method_2_code 22 = .ok (.iload_n 2, 1) := by decide +kernel
theorem d19_23 : decode method_2_code 23 = .ok (.sipush 255, 3) := by decide +kernel
theorem d19_26 : decode method_2_code 26 = .ok (.iand, 1) := by decide +kernel
theorem d19_27 : decode method_2_code 27 = .ok (.i2c, 1) := by decide +kernel
theorem d19_28 : decode method_2_code 28 = .ok (.istore 6, 2) := by decide +kernel
theorem d19_30 : decode method_2_code 30 = .ok (.iload_n 3, 1) := by decide +kernel
theorem d19_31 : decode method_2_code 31 = .ok (.sipush 255, 3) := by decide +kernel
theorem d19_34 : decode method_2_code 34 = .ok (.iand, 1) := by decide +kernel
theorem d19_35 : decode method_2_code 35 = .ok (.i2c, 1) := by decide +kernel
theorem d19_36 : decode method_2_code 36 = .ok (.istore 7, 2) := by decide +kernel
theorem d19_38 : decode method_2_code 38 = .ok (.iload 4, 2) := by decide +kernel
theorem d19_40 : decode method_2_code 40 = .ok (.ifCond .ne 14, 3) := by decide +kernel
theorem w4 {Z : State} {a0 : Array Value} (hw : ∀ d ∈ tables_1, d.before a0 Z = true) : Jvm.Cond.before (Jvm.Cond.classLink "com/example/manque/manque/DeclinedRefusedPinLaw" (7 : Nat) "java/lang/String") a0 Z = true := hw _ (List.mem_of_getElem? (i := 4) rfl)
theorem d19_43 : decode method_2_code 43 = .ok (.new 7, 3) := by decide +kernel
theorem d19_46 : decode method_2_code 46 = .ok (.dup, 1) := by decide +kernel
theorem d19_47 : decode method_2_code 47 = .ok (.iconst 0, 1) := by decide +kernel
theorem w7 {Z : State} {a0 : Array Value} (hw : ∀ d ∈ tables_1, d.before a0 Z = true) : Jvm.Cond.before (Jvm.Cond.arrayClass Jvm.ClassFile.FieldType.char) a0 Z = true := hw _ (List.mem_of_getElem? (i := 7) rfl)
theorem d19_48 : decode method_2_code 48 = .ok (.newarray .char, 2) := by decide +kernel
theorem w10 {Z : State} {a0 : Array Value} (hw : ∀ d ∈ tables_1, d.before a0 Z = true) : Jvm.Cond.before (Jvm.Cond.code ({ cls := "java/lang/String", name := "<init>", desc := "([C)V" } : Jvm.MethodName) jdk_42_method_3_code (2 : Nat) (Option.none : Option Jvm.ClassFile.FieldType)) a0 Z = true := hw _ (List.mem_of_getElem? (i := 10) rfl)
theorem pd_336 : parseMethodDescriptor "([C)V" = some ⟨[(.array .char)], none⟩ := by decide +kernel
theorem d19_50 : decode method_2_code 50 = .ok (.invokespecial 9, 3) := by decide +kernel
theorem w8 {Z : State} {a0 : Array Value} (hw : ∀ d ∈ tables_1, d.before a0 Z = true) : Jvm.Cond.before (Jvm.Cond.methodLink "com/example/manque/manque/DeclinedRefusedPinLaw" (9 : Nat) ({ cls := "java/lang/String", name := "<init>", desc := "([C)V" } : Jvm.MethodName)) a0 Z = true := hw _ (List.mem_of_getElem? (i := 8) rfl)
theorem w9 {Z : State} {a0 : Array Value} (hw : ∀ d ∈ tables_1, d.before a0 Z = true) : Jvm.Cond.before (Jvm.Cond.instanceMethod ({ cls := "java/lang/String", name := "<init>", desc := "([C)V" } : Jvm.MethodName)) a0 Z = true := hw _ (List.mem_of_getElem? (i := 9) rfl)
theorem d19_53 : decode method_2_code 53 = .ok (.areturn, 1) := by decide +kernel
theorem d19_54 : decode method_2_code 54 = .ok (.iload 4, 2) := by decide +kernel
theorem d19_56 : decode method_2_code 56 = .ok (.iconst 1, 1) := by decide +kernel
theorem d19_57 : decode method_2_code 57 = .ok (.if_icmp .ne 9, 3) := by decide +kernel
theorem d19_60 : decode method_2_code 60 = .ok (.iload 5, 2) := by decide +kernel
theorem w125 {Z : State} {a0 : Array Value} (hw : ∀ d ∈ tables_1, d.before a0 Z = true) : Jvm.Cond.before (Jvm.Cond.code ({ cls := "java/lang/String", name := "valueOf", desc := "(C)Ljava/lang/String;" } : Jvm.MethodName) jdk_42_method_139_code (1 : Nat) (Option.some (Jvm.ClassFile.FieldType.object "java/lang/String"))) a0 Z = true := hw _ (List.mem_of_getElem? (i := 125) rfl)
theorem pd_346 : parseMethodDescriptor "(C)Ljava/lang/String;" = some ⟨[.char], some (.object "java/lang/String")⟩ := by decide +kernel
theorem d19_62 : decode method_2_code 62 = .ok (.invokestatic 12, 3) := by decide +kernel
theorem w123 {Z : State} {a0 : Array Value} (hw : ∀ d ∈ tables_1, d.before a0 Z = true) : Jvm.Cond.before (Jvm.Cond.methodLink "com/example/manque/manque/DeclinedRefusedPinLaw" (12 : Nat) ({ cls := "java/lang/String", name := "valueOf", desc := "(C)Ljava/lang/String;" } : Jvm.MethodName)) a0 Z = true := hw _ (List.mem_of_getElem? (i := 123) rfl)
theorem w124 {Z : State} {a0 : Array Value} (hw : ∀ d ∈ tables_1, d.before a0 Z = true) : Jvm.Cond.before (Jvm.Cond.static ({ cls := "java/lang/String", name := "valueOf", desc := "(C)Ljava/lang/String;" } : Jvm.MethodName)) a0 Z = true := hw _ (List.mem_of_getElem? (i := 124) rfl)
theorem d19_65 : decode method_2_code 65 = .ok (.areturn, 1) := by decide +kernel
theorem d19_66 : decode method_2_code 66 = .ok (.iload 4, 2) := by decide +kernel
theorem d19_68 : decode method_2_code 68 = .ok (.iconst 2, 1) := by decide +kernel
theorem d19_69 : decode method_2_code 69 = .ok (.if_icmp .ne 24, 3) := by decide +kernel
theorem d19_72 : decode method_2_code 72 = .ok (.new 7, 3) := by decide +kernel
theorem d19_75 : decode method_2_code 75 = .ok (.dup, 1) := by decide +kernel
theorem d19_76 : decode method_2_code 76 = .ok (.iconst 2, 1) := by decide +kernel
theorem d19_77 : decode method_2_code 77 = .ok (.newarray .char, 2) := by decide +kernel
theorem d19_79 : decode method_2_code 79 = .ok (.dup, 1) := by decide +kernel
theorem d19_80 : decode method_2_code 80 = .ok (.iconst 0, 1) := by decide +kernel
theorem d19_81 : decode method_2_code 81 = .ok (.iload 5, 2) := by decide +kernel
theorem d19_83 : decode method_2_code 83 = .ok (.castore, 1) := by decide +kernel
theorem d19_84 : decode method_2_code 84 = .ok (.dup, 1) := by decide +kernel
theorem d19_85 : decode method_2_code 85 = .ok (.iconst 1, 1) := by decide +kernel
theorem d19_86 : decode method_2_code 86 = .ok (.iload 6, 2) := by decide +kernel
theorem d19_88 : decode method_2_code 88 = .ok (.castore, 1) := by decide +kernel
theorem d19_89 : decode method_2_code 89 = .ok (.invokespecial 9, 3) := by decide +kernel
theorem d19_92 : decode method_2_code 92 = .ok (.areturn, 1) := by decide +kernel
theorem d19_93 : decode method_2_code 93 = .ok (.new 7, 3) := by decide +kernel
theorem d19_96 : decode method_2_code 96 = .ok (.dup, 1) := by decide +kernel
theorem d19_97 : decode method_2_code 97 = .ok (.iconst 3, 1) := by decide +kernel
theorem d19_98 : decode method_2_code 98 = .ok (.newarray .char, 2) := by decide +kernel
theorem d19_100 : decode method_2_code 100 = .ok (.dup, 1) := by decide +kernel
theorem d19_101 : decode method_2_code 101 = .ok (.iconst 0, 1) := by decide +kernel
theorem d19_102 : decode method_2_code 102 = .ok (.iload 5, 2) := by decide +kernel
theorem d19_104 : decode method_2_code 104 = .ok (.castore, 1) := by decide +kernel
theorem d19_105 : decode method_2_code 105 = .ok (.dup, 1) := by decide +kernel
theorem d19_106 : decode method_2_code 106 = .ok (.iconst 1, 1) := by decide +kernel
theorem d19_107 : decode method_2_code 107 = .ok (.iload 6, 2) := by decide +kernel
theorem d19_109 : decode method_2_code 109 = .ok (.castore, 1) := by decide +kernel
theorem d19_110 : decode method_2_code 110 = .ok (.dup, 1) := by decide +kernel
theorem d19_111 : decode method_2_code 111 = .ok (.iconst 2, 1) := by decide +kernel
theorem d19_112 : decode method_2_code 112 = .ok (.iload 7, 2) := by decide +kernel
theorem d19_114 : decode method_2_code 114 = .ok (.castore, 1) := by decide +kernel
theorem d19_115 : decode method_2_code 115 = .ok (.invokespecial 9, 3) := by decide +kernel
theorem d19_118 : decode method_2_code 118 = .ok (.areturn, 1) := by decide +kernel
theorem d19_7 : decode method_2_code 7 = .ok (.aconst_null, 1) := by decide +kernel
theorem d19_8 : decode method_2_code 8 = .ok (.areturn, 1) := by decide +kernel
abbrev R_make : Room := { frames := 4, cells := 6, slots := 12, locals := 66 }
def Q_make (Z : State) (G1 : Int32) (kC : Addr) (uS : Value) (sS : Value) (p0 : Int32) (p1 : Int32) (p2 : Int32) (p3 : Int32) (h0 : Heap) (n0 : Nat) (v : Option Value) (h : Heap) (L : List Loc) : Prop := (v = some .null ∧ Fr n0 L ∧ Keep h0 h []) ∨ (∃ x : Addr, ∃ t : Addr, ∃ kt : ClassId, ∃ z : Int32, ∃ bs : List Value, v = some (.ref x) ∧ Fr n0 L ∧ Keep h0 h [] ∧ (Exa Z h x "java/lang/String") ∧ (Fld Z h x "java/lang/String" "coder" "B" (.int (0 : Int32))) ∧ (Fld Z h x "java/lang/String" "value" "[B" (.ref t)) ∧ (Arv Z h t kt .byte z bs (.int (0 : Int32))))
set_option maxRecDepth 65536 in
set_option maxHeartbeats 40000000 in
theorem rm_make (l : Launch) (Z : State) (a0 : Array Value) (hw : ∀ d ∈ tables_1, d.before a0 Z = true) (ws : List Jvm.Cond) (G1 : Int32) (kC : Addr) (uS : Value) (sS : Value) (HG : own_G l Z a0 G1 kC uS sS) (h0 : Heap) (n0 : Nat) (X00 : Old Z n0 h0) (p0 : Int32) (p1 : Int32) (p2 : Int32) (p3 : Int32)  :
    own_CK l Z M301 method_2_code 8 (some (.object "java/lang/String")) ws R_make #[(.int p0), (.int p1), (.int p2), (.int p3)] h0 (Q_make Z G1 kC uS sS p0 p1 p2 p3 h0 n0) := by
  refine own_K (plainFor_of_name pn_303) ?_
  intro p e s m below meth c s₁ S0 Bd hZ hh CH0 hS0 CR0 hTK0 hBL0 hx hby hml hown hnm X0 e0 hS0d
  obtain ⟨O1, P1, O2, E2, F2, hLT, OU, rU, OS, rS⟩ := id HG
  have hEL := own_EL hw
  have hSA := own_SA hw
  have N0 := Fr.nil n0
  have C0 : Steps p.tables e below S0 (s₁.setTop (mkF m 0 #[.val (.int p0), .val (.int p1), .val (.int p2), .val (.int p3), .unset, .unset, .unset, .unset] [])) := by rw [hS0d]; exact castTop (ef_302 m p0 p1 p2 p3) (Steps.refl _)
  have C_1 : Steps p.tables e below S0 (s₁.setTop (mkF m 4 #[.val (.int p0), .val (.int p1), .val (.int p2), .val (.int p3), .unset, .unset, .unset, .unset] [(.int (p0 &&& (8 : Int32)))])) := by
    refine C0.trans ?_
    refine XS.iloadN X0.here hx rfl (hb hby d19_0) rfl ?_
    refine XS.bipush X0.here hx rfl (hb hby d19_1) ?_
    refine XS.iand X0.here hx rfl (hb hby d19_3) rfl ?_
    exact Steps.refl _
  by_cases hc_2 : (p0 &&& (8 : Int32)) = (0 : Int32)
  · skip
    have C_3 : Steps p.tables e below S0 (s₁.setTop (mkF m 40 #[.val (.int p0), .val (.int p1), .val (.int p2), .val (.int p3), .val (.int (p0 &&& (3 : Int32))), .val (.int (own_cb p1)), .val (.int (own_cb p2)), .val (.int (own_cb p3))] [(.int (p0 &&& (3 : Int32)))])) := by
      refine C_1.trans ?_
      refine XS.ifYes X0.here hx rfl (pc0 := 4) (pc' := 9) rfl (hb hby d19_4) rfl (i0_eq_t hc_2) (by decide) (by decide) ?_
      refine XS.iloadN X0.here hx rfl (hb hby d19_9) rfl ?_
      refine XS.iconst X0.here hx rfl (hb hby d19_10) ?_
      refine XS.iand X0.here hx rfl (hb hby d19_11) rfl ?_
      refine XS.istore X0.here hx rfl (hb hby d19_12) rfl (l' := #[.val (.int p0), .val (.int p1), .val (.int p2), .val (.int p3), .val (.int (p0 &&& (3 : Int32))), .unset, .unset, .unset]) rfl ?_
      refine XS.iloadN X0.here hx rfl (hb hby d19_14) rfl ?_
      refine XS.sipush X0.here hx rfl (hb hby d19_15) ?_
      refine XS.iand X0.here hx rfl (hb hby d19_18) rfl ?_
      show Steps p.tables e below (s₁.setTop (mkF m 19 #[.val (.int p0), .val (.int p1), .val (.int p2), .val (.int p3), .val (.int (p0 &&& (3 : Int32))), .unset, .unset, .unset] [(.int (p1 &&& (255 : Int32)))])) _
      refine XS.i2c X0.here hx rfl (hb hby d19_19) rfl ?_
      refine XS.istore X0.here hx rfl (hb hby d19_20) rfl (l' := #[.val (.int p0), .val (.int p1), .val (.int p2), .val (.int p3), .val (.int (p0 &&& (3 : Int32))), .val (.int (own_cb p1)), .unset, .unset]) rfl ?_
      refine XS.iloadN X0.here hx rfl (hb hby d19_22) rfl ?_
      refine XS.sipush X0.here hx rfl (hb hby d19_23) ?_
      refine XS.iand X0.here hx rfl (hb hby d19_26) rfl ?_
      refine XS.i2c X0.here hx rfl (hb hby d19_27) rfl ?_
      refine XS.istore X0.here hx rfl (hb hby d19_28) rfl (l' := #[.val (.int p0), .val (.int p1), .val (.int p2), .val (.int p3), .val (.int (p0 &&& (3 : Int32))), .val (.int (own_cb p1)), .val (.int (own_cb p2)), .unset]) rfl ?_
      refine XS.iloadN X0.here hx rfl (hb hby d19_30) rfl ?_
      show Steps p.tables e below (s₁.setTop (mkF m 31 #[.val (.int p0), .val (.int p1), .val (.int p2), .val (.int p3), .val (.int (p0 &&& (3 : Int32))), .val (.int (own_cb p1)), .val (.int (own_cb p2)), .unset] [(.int p3)])) _
      refine XS.sipush X0.here hx rfl (hb hby d19_31) ?_
      refine XS.iand X0.here hx rfl (hb hby d19_34) rfl ?_
      refine XS.i2c X0.here hx rfl (hb hby d19_35) rfl ?_
      refine XS.istore X0.here hx rfl (hb hby d19_36) rfl (l' := #[.val (.int p0), .val (.int p1), .val (.int p2), .val (.int p3), .val (.int (p0 &&& (3 : Int32))), .val (.int (own_cb p1)), .val (.int (own_cb p2)), .val (.int (own_cb p3))]) rfl ?_
      refine XS.iload X0.here hx rfl (hb hby d19_38) rfl ?_
      exact Steps.refl _
    by_cases hc_4 : (p0 &&& (3 : Int32)) = (0 : Int32)
    · skip
      obtain ⟨T_5, h_6, X_7, e_8, E_9, A_10, D_11, U_15, st_12⟩ := newO X0 hx hZ hown (w4 hw) (w5 hw) (w6 hw) e0 (g := (mkF m 43 #[.val (.int p0), .val (.int p1), .val (.int p2), .val (.int p3), .val (.int (p0 &&& (3 : Int32))), .val (.int (own_cb p1)), .val (.int (own_cb p2)), .val (.int (own_cb p3))] [])) rfl (hb hby d19_43) (by decide) (by decide)
      obtain ⟨a_13, g_14⟩ : ∃ z, z = h0.size := ⟨_, rfl⟩
      rw [← g_14] at A_10 D_11 st_12 U_15
      have CH_16 : CHv Z consts_1 s.vm h_6 := CHv.ext E_9 CH0
      have CR_17 : CHr Z consts_1 s.vm h0 s.vm h_6 := CR0.trans (CHr.ext E_9 CH0)
      obtain ⟨T_18, h_19, k_20, X_21, e_22, E_23, A_24, st_25⟩ := newP (aty := .char) X_7 hx hZ (w7 hw) e_8 (g := (mkF m 48 #[.val (.int p0), .val (.int p1), .val (.int p2), .val (.int p3), .val (.int (p0 &&& (3 : Int32))), .val (.int (own_cb p1)), .val (.int (own_cb p2)), .val (.int (own_cb p3))] [(.int (0 : Int32)), (.ref a_13), (.ref a_13)])) rfl (hb hby d19_48) rfl (by decide : ¬ ((0 : Int32) < (0 : Int32))) (cap := 0) (by decide : (0 : Int32).toNatClampNeg ≤ 0) (by decide) (by decide) (by decide)
      obtain ⟨a_26, g_27⟩ : ∃ z, z = h_6.size := ⟨_, rfl⟩
      rw [← g_27] at A_24 st_25
      have CH_29 : CHv Z consts_1 s.vm h_19 := CHv.ext E_23 CH_16
      have CR_30 : CHr Z consts_1 s.vm h0 s.vm h_19 := CR_17.trans (CHr.ext E_23 CH_16)
      have V_31 : Arv Z h_19 a_26 k_20 .char (0 : Int32) [] (.int (0 : Int32)) := Arv.new A_24 (by decide : ¬ ((0 : Int32) < (0 : Int32)))
      have E_32 : Exa Z h_19 a_13 "java/lang/String" := (A_10.ext E_23)
      have F_33 : Fld Z h_19 a_13 "java/lang/String" "value" "[B" .null := ((D_11 (Or.inr (w20 hw)) (ty := (.array .byte)) (by decide)).ext E_23)
      have F_34 : Fld Z h_19 a_13 "java/lang/String" "coder" "B" (.int (0 : Int32)) := ((D_11 (Or.inr (w21 hw)) (ty := .byte) (by decide)).ext E_23)
      have O_35 : Old Z n0 h_19 := ((X00.ext E_9).ext E_23)
      obtain ⟨_, _, ⟨T_36, L_36, k_36, n_36⟩, -, Y_36, S_36, G_36, ⟨Lc_36, hQ_36, l_36, y_36, z_36, R_36⟩, st_36⟩ := X_21.specialBackS hx (y := M25) rfl hown (mvT hZ (w8 hw)) (mvT hZ (w9 hw)) (mvT hZ (w10 hw)) (by decide) (backOfSH (vm0 := s.vm) (W := 1) (rm_si1_0 l Z a0 hw [] G1 kC uS sS HG h_19 n0 O_35 a_13 a_26 k_20 E_32 F_33 F_34 (Nat.le_trans (own_n0 X00) (Nat.le_of_eq g_14.symm)) V_31) hZ (w10 hw) (w6 hw) (by decide) (by decide) hEL CH_29) (g := (mkF m 50 #[.val (.int p0), .val (.int p1), .val (.int p2), .val (.int p3), .val (.int (p0 &&& (3 : Int32))), .val (.int (own_cb p1)), .val (.int (own_cb p2)), .val (.int (own_cb p3))] [(.ref a_26), (.ref a_13), (.ref a_13)])) rfl (by rw [hml]; rfl) (Steps.refl _) (a := a_13) (argsL := [(.ref a_26)]) (rest := [(.ref a_13)]) (lenOf pd_336 rfl) rfl (by show 2 * 0 + _ ≤ _; exact Nat.le_of_eq rfl) (hb hby d19_50) (fun _ _ => ⟨rfl, e_22, (by decide : 2 + 4 ≤ _), (by decide : 4 + 8 ≤ _)⟩)
      dsimp only [Pt.U, Pt.locs, Pt.cells, Pt.slots] at Y_36 S_36 G_36 l_36 y_36 z_36 st_36 hQ_36 R_36
      subst l_36 y_36 z_36
      obtain ⟨X_36, hS_36, hZ_36, hown_36⟩ := rebS hS0 (n1 := T_18.heap.size) (by rw [show T_18.heap = h_19 from e_22]; exact (Nat.le_trans (Nat.le_refl _) (Nat.le_trans E_9.1 E_23.1))) Y_36 S_36 G_36 hZ hown
      obtain ⟨a_37, k_38, rfl, N_39, K_40, g_41, g_42, g_43, g_44⟩ := hQ_36
      have N_45 := Fr.app N0 N_39
      have CH_46 : CHv Z consts_1 T_36.vm T_36.heap := R_36.1
      have CR_47 : CHr Z consts_1 s.vm h0 T_36.vm T_36.heap := CR_30.trans R_36
      have hTK_48 : (s.setVm T_36.vm).vm.MethodsKnown := Vm.MethodsKnown.alikeC (hS_36.1.alike) hTK0
      have hBL_49 : (s.setVm T_36.vm).vm.FramesKnown below := Vm.FramesKnown.alikeC (hS_36.1.alike) hBL0
      have C_50 : Steps p.tables e below S0 (T_36.setTop (mkF m 53 #[.val (.int p0), .val (.int p1), .val (.int p2), .val (.int p3), .val (.int (p0 &&& (3 : Int32))), .val (.int (own_cb p1)), .val (.int (own_cb p2)), .val (.int (own_cb p3))] [(.ref a_13)])) := by
        refine C_3.trans ?_
        refine XS.ifNo X0.here hx rfl (hb hby d19_40) rfl (i0_ne_f hc_4) ?_
        refine st_12 _ ?_
        refine XS.dup X_7.here hx rfl (hb hby d19_46) rfl rfl ?_
        refine XS.iconst X_7.here hx rfl (hb hby d19_47) ?_
        refine st_25 _ ?_
        refine st_36.trans ?_
        exact Steps.refl _
      have K_51 : Keep h0 T_36.heap [] := ((((Keep.refl _ _).ext E_9).ext E_23).trans K_40 (allS (Or.inr (Nat.le_trans (Nat.le_refl _) (Nat.le_of_eq g_14.symm))) all0))
      obtain ⟨fs, hr, hrun, hended, hRE⟩ := X_36.leaveW hS_36 (by rw [show T_36.heap = T_36.heap from rfl]; exact (Nat.le_refl _)) (v := some (.ref a_13)) (fun h => by rw [Bd.returns] at h; cases h)
      refine ⟨_, _, C_50.trans (retOut X_36 hx Bd.returns rfl (Or.inr (Or.inr (Or.inr (Or.inr ⟨rfl, rfl, rfl⟩)))) (hb hby d19_53) hr), hrun, hended, _, _, rfl, ?_, ?_, hRE.1, hRE.2.1, hRE.2.2.1, hRE.2.2.2.mono (by decide) (by decide)⟩
      · show Q_make Z G1 kC uS sS p0 p1 p2 p3 h0 n0 (some (.ref a_13)) T_36.heap _
        exact Or.inr (⟨a_13, a_37, k_38, (0 : Int32), [], rfl, N_45, K_51, g_41, g_42, g_43, g_44⟩)
      · show CHr Z consts_1 s.vm s.heap T_36.vm T_36.heap
        rw [hh]
        exact CR_47.trans (CHv.at X_36 hZ_36 hEL CH_46)
    · skip
      have C_52 : Steps p.tables e below S0 (s₁.setTop (mkF m 57 #[.val (.int p0), .val (.int p1), .val (.int p2), .val (.int p3), .val (.int (p0 &&& (3 : Int32))), .val (.int (own_cb p1)), .val (.int (own_cb p2)), .val (.int (own_cb p3))] [(.int (1 : Int32)), (.int (p0 &&& (3 : Int32)))])) := by
        refine C_3.trans ?_
        refine XS.ifYes X0.here hx rfl (pc0 := 40) (pc' := 54) rfl (hb hby d19_40) rfl (i0_ne_t hc_4) (by decide) (by decide) ?_
        refine XS.iload X0.here hx rfl (hb hby d19_54) rfl ?_
        refine XS.iconst X0.here hx rfl (hb hby d19_56) ?_
        exact Steps.refl _
      by_cases hc_53 : (p0 &&& (3 : Int32)) = (1 : Int32)
      · skip
        obtain ⟨_, _, ⟨T_54, L_54, k_54, n_54⟩, -, X_54, ⟨Lc_54, hQ_54, l_54, y_54, z_54⟩, st_54⟩ := Jvm.LawKit.callS X0 hx (y := M253) hown (mvT hZ (w123 hw)) (mvT hZ (w124 hw)) (mvT hZ (w6 hw)) (mvT hZ (w125 hw)) (by decide) (backOf (W := 0) (rm_valof l Z a0 hw [] G1 kC uS sS HG h0 n0 X00 (own_cb p1) (own_cb_hi p1)) hZ (w125 hw) (w6 hw) (by decide) (by decide)) (g := (mkF m 62 #[.val (.int p0), .val (.int p1), .val (.int p2), .val (.int p3), .val (.int (p0 &&& (3 : Int32))), .val (.int (own_cb p1)), .val (.int (own_cb p2)), .val (.int (own_cb p3))] [(.int (own_cb p1))])) rfl (by rw [hml]; rfl) (argsL := [(.int (own_cb p1))]) (rest := []) (lenOf pd_346 rfl) rfl (by show 2 * 0 + _ ≤ _; exact Nat.le_of_eq rfl) (hb hby d19_62) (fun _ _ => ⟨rfl, e0, (by decide : 0 + 2 ≤ _), (by decide : 0 + 5 ≤ _)⟩)
        dsimp only [Pt.U, Pt.locs, Pt.cells, Pt.slots] at X_54 l_54 y_54 z_54 st_54 hQ_54
        subst l_54 y_54 z_54
        obtain ⟨a_55, a_56, k_57, rfl, N_58, K_59, g_60, g_61, g_62, g_63, g_64, g_65⟩ := hQ_54
        have N_66 := Fr.app N0 N_58
        have CH_67 : CHv Z consts_1 s.vm T_54.heap := CHv.keep K_59 sf0 CH0
        have CR_68 : CHr Z consts_1 s.vm h0 s.vm T_54.heap := CR0.trans (CHr.keep K_59 sf0 CH0)
        have C_69 : Steps p.tables e below S0 (T_54.setTop (mkF m 65 #[.val (.int p0), .val (.int p1), .val (.int p2), .val (.int p3), .val (.int (p0 &&& (3 : Int32))), .val (.int (own_cb p1)), .val (.int (own_cb p2)), .val (.int (own_cb p3))] [(.ref a_55)])) := by
          refine C_52.trans ?_
          refine XS.icmpNo X0.here hx rfl (hb hby d19_57) rfl (ii_ne_f hc_53) ?_
          refine XS.iload X0.here hx rfl (hb hby d19_60) rfl ?_
          refine st_54 _ ?_
          exact Steps.refl _
        have K_70 : Keep h0 T_54.heap [] := ((Keep.refl _ _).trans K_59 all0)
        obtain ⟨fs, hr, hrun, hended, hRE⟩ := X_54.leaveW hS0 (by rw [show T_54.heap = T_54.heap from rfl]; exact (Nat.le_trans (Nat.le_refl _) K_59.1)) (v := some (.ref a_55)) (fun h => by rw [Bd.returns] at h; cases h)
        refine ⟨_, _, C_69.trans (retOut X_54 hx Bd.returns rfl (Or.inr (Or.inr (Or.inr (Or.inr ⟨rfl, rfl, rfl⟩)))) (hb hby d19_65) hr), hrun, hended, _, _, rfl, ?_, ?_, hRE.1, hRE.2.1, hRE.2.2.1, hRE.2.2.2.mono (by decide) (by decide)⟩
        · show Q_make Z G1 kC uS sS p0 p1 p2 p3 h0 n0 (some (.ref a_55)) T_54.heap _
          exact Or.inr (⟨a_55, a_56, k_57, (1 : Int32), [(.int (own_lo8 (own_cb p1)))], rfl, N_66, K_70, g_61, g_62, g_63, g_65⟩)
        · show CHr Z consts_1 s.vm s.heap T_54.vm T_54.heap
          rw [hh]
          exact CR_68.trans (CHv.at X_54 hZ hEL CH_67)
      · skip
        have C_71 : Steps p.tables e below S0 (s₁.setTop (mkF m 69 #[.val (.int p0), .val (.int p1), .val (.int p2), .val (.int p3), .val (.int (p0 &&& (3 : Int32))), .val (.int (own_cb p1)), .val (.int (own_cb p2)), .val (.int (own_cb p3))] [(.int (2 : Int32)), (.int (p0 &&& (3 : Int32)))])) := by
          refine C_52.trans ?_
          refine XS.icmpYes X0.here hx rfl (pc0 := 57) (pc' := 66) rfl (hb hby d19_57) rfl (ii_ne_t hc_53) (by decide) (by decide) ?_
          refine XS.iload X0.here hx rfl (hb hby d19_66) rfl ?_
          refine XS.iconst X0.here hx rfl (hb hby d19_68) ?_
          exact Steps.refl _
        by_cases hc_72 : (p0 &&& (3 : Int32)) = (2 : Int32)
        · skip
          obtain ⟨T_73, h_74, X_75, e_76, E_77, A_78, D_79, U_83, st_80⟩ := newO X0 hx hZ hown (w4 hw) (w5 hw) (w6 hw) e0 (g := (mkF m 72 #[.val (.int p0), .val (.int p1), .val (.int p2), .val (.int p3), .val (.int (p0 &&& (3 : Int32))), .val (.int (own_cb p1)), .val (.int (own_cb p2)), .val (.int (own_cb p3))] [])) rfl (hb hby d19_72) (by decide) (by decide)
          obtain ⟨a_81, g_82⟩ : ∃ z, z = h0.size := ⟨_, rfl⟩
          rw [← g_82] at A_78 D_79 st_80 U_83
          have CH_84 : CHv Z consts_1 s.vm h_74 := CHv.ext E_77 CH0
          have CR_85 : CHr Z consts_1 s.vm h0 s.vm h_74 := CR0.trans (CHr.ext E_77 CH0)
          obtain ⟨T_86, h_87, k_88, X_89, e_90, E_91, A_92, st_93⟩ := newP (aty := .char) X_75 hx hZ (w7 hw) e_76 (g := (mkF m 77 #[.val (.int p0), .val (.int p1), .val (.int p2), .val (.int p3), .val (.int (p0 &&& (3 : Int32))), .val (.int (own_cb p1)), .val (.int (own_cb p2)), .val (.int (own_cb p3))] [(.int (2 : Int32)), (.ref a_81), (.ref a_81)])) rfl (hb hby d19_77) rfl (by decide : ¬ ((2 : Int32) < (0 : Int32))) (cap := 2) (by decide : (2 : Int32).toNatClampNeg ≤ 2) (by decide) (by decide) (by decide)
          obtain ⟨a_94, g_95⟩ : ∃ z, z = h_74.size := ⟨_, rfl⟩
          rw [← g_95] at A_92 st_93
          have CH_97 : CHv Z consts_1 s.vm h_87 := CHv.ext E_91 CH_84
          have CR_98 : CHr Z consts_1 s.vm h0 s.vm h_87 := CR_85.trans (CHr.ext E_91 CH_84)
          have V_99 : Arv Z h_87 a_94 k_88 .char (2 : Int32) [] (.int (0 : Int32)) := Arv.new A_92 (by decide : ¬ ((2 : Int32) < (0 : Int32)))
          have V_96 : Arv Z h_87 a_94 k_88 .char (2 : Int32) [(.int (0 : Int32)), (.int (0 : Int32))] (.int (0 : Int32)) := (V_99.pad (pad_rep [] (.int (0 : Int32)) 2))
          obtain ⟨c_100, A_101, q_102, S_103, M_104, H_105, U_106⟩ := id V_96
          have hin_113 : ¬ ((0 : Int32) < 0 ∨ c_100.slots.size ≤ (0 : Int32).toNatClampNeg) := inb_of S_103 ⟨(by decide : ¬ ((0 : Int32) < (0 : Int32))), (by decide : (0 : Int32) < (2 : Int32))⟩
          obtain ⟨T_107, h_108, X_109, e_110, W_111, st_112⟩ := stC X_89 hx hZ e_90 A_101 (j := (0 : Int32)) hin_113 (g := (mkF m 83 #[.val (.int p0), .val (.int p1), .val (.int p2), .val (.int p3), .val (.int (p0 &&& (3 : Int32))), .val (.int (own_cb p1)), .val (.int (own_cb p2)), .val (.int (own_cb p3))] [(.int (own_cb p1)), (.int (0 : Int32)), (.ref a_94), (.ref a_94), (.ref a_81), (.ref a_81)])) rfl rfl (hb hby d19_83)
          have O_115 : Old Z n0 h_74 := (X00.ext E_77)
          have N_114 := Fr.snoc X_109 N0 (Nat.le_trans (own_n0 O_115) (Nat.le_of_eq g_95.symm))
          have CH_116 : CHv Z consts_1 s.vm h_108 := CHv.wr W_111 (Safe.arv hZ.alike V_96 (by decide)) CH_97
          have CR_117 : CHr Z consts_1 s.vm h0 s.vm h_108 := CR_98.trans (CHr.wr W_111 (Safe.arv hZ.alike V_96 (by decide)) CH_97)
          have V_118 : Arv Z h_108 a_94 k_88 .char (2 : Int32) [(.int (own_cb p1)), (.int (0 : Int32))] (.int (0 : Int32)) := by have q := Arv.set A_101 q_102 S_103 M_104 H_105 U_106 (fits_nar_char _) W_111 0 rfl (Nat.le_of_ble_eq_true rfl); rw [own_cb_nar] at q; exact q
          obtain ⟨c_119, A_120, q_121, S_122, M_123, H_124, U_125⟩ := id V_118
          have hin_132 : ¬ ((1 : Int32) < 0 ∨ c_119.slots.size ≤ (1 : Int32).toNatClampNeg) := inb_of S_122 ⟨(by decide : ¬ ((1 : Int32) < (0 : Int32))), (by decide : (1 : Int32) < (2 : Int32))⟩
          obtain ⟨T_126, h_127, X_128, e_129, W_130, st_131⟩ := stC X_109 hx hZ e_110 A_120 (j := (1 : Int32)) hin_132 (g := (mkF m 88 #[.val (.int p0), .val (.int p1), .val (.int p2), .val (.int p3), .val (.int (p0 &&& (3 : Int32))), .val (.int (own_cb p1)), .val (.int (own_cb p2)), .val (.int (own_cb p3))] [(.int (own_cb p2)), (.int (1 : Int32)), (.ref a_94), (.ref a_94), (.ref a_81), (.ref a_81)])) rfl rfl (hb hby d19_88)
          have N_133 := Fr.snoc X_128 N_114 (Nat.le_trans (own_n0 O_115) (Nat.le_of_eq g_95.symm))
          have CH_134 : CHv Z consts_1 s.vm h_127 := CHv.wr W_130 (Safe.arv hZ.alike V_118 (by decide)) CH_116
          have CR_135 : CHr Z consts_1 s.vm h0 s.vm h_127 := CR_117.trans (CHr.wr W_130 (Safe.arv hZ.alike V_118 (by decide)) CH_116)
          have V_136 : Arv Z h_127 a_94 k_88 .char (2 : Int32) [(.int (own_cb p1)), (.int (own_cb p2))] (.int (0 : Int32)) := by have q := Arv.set A_120 q_121 S_122 M_123 H_124 U_125 (fits_nar_char _) W_130 1 rfl (Nat.le_of_ble_eq_true rfl); rw [own_cb_nar] at q; exact q
          have E_137 : Exa Z h_127 a_81 "java/lang/String" := (((A_78.ext E_91).wr W_111).wr W_130)
          have F_138 : Fld Z h_127 a_81 "java/lang/String" "value" "[B" .null := ((((D_79 (Or.inr (w20 hw)) (ty := (.array .byte)) (by decide)).ext E_91).other W_111 (Or.inl (Nat.ne_of_lt (Nat.lt_of_lt_of_le A_78.lt (Nat.le_trans (Nat.le_refl _) (Nat.le_of_eq g_95.symm)))))).other W_130 (Or.inl (Nat.ne_of_lt (Nat.lt_of_lt_of_le A_78.lt (Nat.le_trans (Nat.le_refl _) (Nat.le_of_eq g_95.symm))))))
          have F_139 : Fld Z h_127 a_81 "java/lang/String" "coder" "B" (.int (0 : Int32)) := ((((D_79 (Or.inr (w21 hw)) (ty := .byte) (by decide)).ext E_91).other W_111 (Or.inl (Nat.ne_of_lt (Nat.lt_of_lt_of_le A_78.lt (Nat.le_trans (Nat.le_refl _) (Nat.le_of_eq g_95.symm)))))).other W_130 (Or.inl (Nat.ne_of_lt (Nat.lt_of_lt_of_le A_78.lt (Nat.le_trans (Nat.le_refl _) (Nat.le_of_eq g_95.symm))))))
          have O_140 : Old Z n0 h_127 := (((O_115.ext E_91).wr W_111 (Nat.le_trans (own_n0 O_115) (Nat.le_of_eq g_95.symm))).wr W_130 (Nat.le_trans (own_n0 O_115) (Nat.le_of_eq g_95.symm)))
          obtain ⟨_, _, ⟨T_141, L_141, k_141, n_141⟩, -, X_141, ⟨Lc_141, hQ_141, l_141, y_141, z_141⟩, st_141⟩ := X_128.specialBack hx (y := M25) rfl hown (mvT hZ (w8 hw)) (mvT hZ (w9 hw)) (mvT hZ (w10 hw)) (by decide) (backOf (W := 1) (rm_si1_2 l Z a0 hw [] G1 kC uS sS HG h_127 n0 O_140 a_81 a_94 k_88 (own_cb p1) (own_cb p2) E_137 F_138 F_139 (Nat.le_trans (own_n0 X00) (Nat.le_of_eq g_82.symm)) V_136 (own_cb_hi p1) (own_cb_hi p2)) hZ (w10 hw) (w6 hw) (by decide) (by decide)) (g := (mkF m 89 #[.val (.int p0), .val (.int p1), .val (.int p2), .val (.int p3), .val (.int (p0 &&& (3 : Int32))), .val (.int (own_cb p1)), .val (.int (own_cb p2)), .val (.int (own_cb p3))] [(.ref a_94), (.ref a_81), (.ref a_81)])) rfl (by rw [hml]; rfl) (Steps.refl _) (a := a_81) (argsL := [(.ref a_94)]) (rest := [(.ref a_81)]) (lenOf pd_336 rfl) rfl (by show 2 * 0 + _ ≤ _; exact Nat.le_of_eq rfl) (hb hby d19_89) (fun _ _ => ⟨rfl, e_129, (by decide : 2 + 1 ≤ _), (by decide : 6 + 2 ≤ _)⟩)
          dsimp only [Pt.U, Pt.locs, Pt.cells, Pt.slots] at X_141 l_141 y_141 z_141 st_141 hQ_141
          subst l_141 y_141 z_141
          obtain ⟨a_142, k_143, rfl, N_144, K_145, g_146, g_147, g_148, g_149, g_150⟩ := hQ_141
          have N_151 := Fr.app N_133 N_144
          have CH_152 : CHv Z consts_1 s.vm T_141.heap := CHv.keep K_145 (sfS (own_safe_null hZ.alike E_137 F_138) sf0) CH_134
          have CR_153 : CHr Z consts_1 s.vm h0 s.vm T_141.heap := CR_135.trans (CHr.keep K_145 (sfS (own_safe_null hZ.alike E_137 F_138) sf0) CH_134)
          have C_154 : Steps p.tables e below S0 (T_141.setTop (mkF m 92 #[.val (.int p0), .val (.int p1), .val (.int p2), .val (.int p3), .val (.int (p0 &&& (3 : Int32))), .val (.int (own_cb p1)), .val (.int (own_cb p2)), .val (.int (own_cb p3))] [(.ref a_81)])) := by
            refine C_71.trans ?_
            refine XS.icmpNo X0.here hx rfl (hb hby d19_69) rfl (ii_ne_f hc_72) ?_
            refine st_80 _ ?_
            refine XS.dup X_75.here hx rfl (hb hby d19_75) rfl rfl ?_
            refine XS.iconst X_75.here hx rfl (hb hby d19_76) ?_
            refine st_93 _ ?_
            refine XS.dup X_89.here hx rfl (hb hby d19_79) rfl rfl ?_
            refine XS.iconst X_89.here hx rfl (hb hby d19_80) ?_
            refine XS.iload X_89.here hx rfl (hb hby d19_81) rfl ?_
            show Steps p.tables e below (T_86.setTop (mkF m 83 #[.val (.int p0), .val (.int p1), .val (.int p2), .val (.int p3), .val (.int (p0 &&& (3 : Int32))), .val (.int (own_cb p1)), .val (.int (own_cb p2)), .val (.int (own_cb p3))] [(.int (own_cb p1)), (.int (0 : Int32)), (.ref a_94), (.ref a_94), (.ref a_81), (.ref a_81)])) _
            refine st_112 _ ?_
            refine XS.dup X_109.here hx rfl (hb hby d19_84) rfl rfl ?_
            refine XS.iconst X_109.here hx rfl (hb hby d19_85) ?_
            refine XS.iload X_109.here hx rfl (hb hby d19_86) rfl ?_
            refine st_131 _ ?_
            refine st_141.trans ?_
            exact Steps.refl _
          have K_155 : Keep h0 T_141.heap [] := ((((((Keep.refl _ _).ext E_77).ext E_91).wr W_111 (Or.inr (Nat.le_trans E_77.1 (Nat.le_of_eq g_95.symm)))).wr W_130 (Or.inr (Nat.le_trans E_77.1 (Nat.le_of_eq g_95.symm)))).trans K_145 (allS (Or.inr (Nat.le_trans (Nat.le_refl _) (Nat.le_of_eq g_82.symm))) all0))
          obtain ⟨fs, hr, hrun, hended, hRE⟩ := X_141.leaveW hS0 (by rw [show T_141.heap = T_141.heap from rfl]; exact (Nat.le_trans (Nat.le_refl _) (Nat.le_trans (Nat.le_trans (Nat.le_trans (Nat.le_trans E_77.1 E_91.1) (Keep.of_wr W_111).1) (Keep.of_wr W_130).1) K_145.1))) (v := some (.ref a_81)) (fun h => by rw [Bd.returns] at h; cases h)
          refine ⟨_, _, C_154.trans (retOut X_141 hx Bd.returns rfl (Or.inr (Or.inr (Or.inr (Or.inr ⟨rfl, rfl, rfl⟩)))) (hb hby d19_92) hr), hrun, hended, _, _, rfl, ?_, ?_, hRE.1, hRE.2.1, hRE.2.2.1, hRE.2.2.2.mono (by decide) (by decide)⟩
          · show Q_make Z G1 kC uS sS p0 p1 p2 p3 h0 n0 (some (.ref a_81)) T_141.heap _
            exact Or.inr (⟨a_81, a_142, k_143, (2 : Int32), [(.int (own_lo8 (own_cb p1))), (.int (own_lo8 (own_cb p2)))], rfl, N_151, K_155, g_146, g_147, g_148, g_150⟩)
          · show CHr Z consts_1 s.vm s.heap T_141.vm T_141.heap
            rw [hh]
            exact CR_153.trans (CHv.at X_141 hZ hEL CH_152)
        · skip
          obtain ⟨T_156, h_157, X_158, e_159, E_160, A_161, D_162, U_166, st_163⟩ := newO X0 hx hZ hown (w4 hw) (w5 hw) (w6 hw) e0 (g := (mkF m 93 #[.val (.int p0), .val (.int p1), .val (.int p2), .val (.int p3), .val (.int (p0 &&& (3 : Int32))), .val (.int (own_cb p1)), .val (.int (own_cb p2)), .val (.int (own_cb p3))] [])) rfl (hb hby d19_93) (by decide) (by decide)
          obtain ⟨a_164, g_165⟩ : ∃ z, z = h0.size := ⟨_, rfl⟩
          rw [← g_165] at A_161 D_162 st_163 U_166
          have CH_167 : CHv Z consts_1 s.vm h_157 := CHv.ext E_160 CH0
          have CR_168 : CHr Z consts_1 s.vm h0 s.vm h_157 := CR0.trans (CHr.ext E_160 CH0)
          obtain ⟨T_169, h_170, k_171, X_172, e_173, E_174, A_175, st_176⟩ := newP (aty := .char) X_158 hx hZ (w7 hw) e_159 (g := (mkF m 98 #[.val (.int p0), .val (.int p1), .val (.int p2), .val (.int p3), .val (.int (p0 &&& (3 : Int32))), .val (.int (own_cb p1)), .val (.int (own_cb p2)), .val (.int (own_cb p3))] [(.int (3 : Int32)), (.ref a_164), (.ref a_164)])) rfl (hb hby d19_98) rfl (by decide : ¬ ((3 : Int32) < (0 : Int32))) (cap := 3) (by decide : (3 : Int32).toNatClampNeg ≤ 3) (by decide) (by decide) (by decide)
          obtain ⟨a_177, g_178⟩ : ∃ z, z = h_157.size := ⟨_, rfl⟩
          rw [← g_178] at A_175 st_176
          have CH_180 : CHv Z consts_1 s.vm h_170 := CHv.ext E_174 CH_167
          have CR_181 : CHr Z consts_1 s.vm h0 s.vm h_170 := CR_168.trans (CHr.ext E_174 CH_167)
          have V_182 : Arv Z h_170 a_177 k_171 .char (3 : Int32) [] (.int (0 : Int32)) := Arv.new A_175 (by decide : ¬ ((3 : Int32) < (0 : Int32)))
          have V_179 : Arv Z h_170 a_177 k_171 .char (3 : Int32) [(.int (0 : Int32)), (.int (0 : Int32)), (.int (0 : Int32))] (.int (0 : Int32)) := (V_182.pad (pad_rep [] (.int (0 : Int32)) 3))
          obtain ⟨c_183, A_184, q_185, S_186, M_187, H_188, U_189⟩ := id V_179
          have hin_196 : ¬ ((0 : Int32) < 0 ∨ c_183.slots.size ≤ (0 : Int32).toNatClampNeg) := inb_of S_186 ⟨(by decide : ¬ ((0 : Int32) < (0 : Int32))), (by decide : (0 : Int32) < (3 : Int32))⟩
          obtain ⟨T_190, h_191, X_192, e_193, W_194, st_195⟩ := stC X_172 hx hZ e_173 A_184 (j := (0 : Int32)) hin_196 (g := (mkF m 104 #[.val (.int p0), .val (.int p1), .val (.int p2), .val (.int p3), .val (.int (p0 &&& (3 : Int32))), .val (.int (own_cb p1)), .val (.int (own_cb p2)), .val (.int (own_cb p3))] [(.int (own_cb p1)), (.int (0 : Int32)), (.ref a_177), (.ref a_177), (.ref a_164), (.ref a_164)])) rfl rfl (hb hby d19_104)
          have O_198 : Old Z n0 h_157 := (X00.ext E_160)
          have N_197 := Fr.snoc X_192 N0 (Nat.le_trans (own_n0 O_198) (Nat.le_of_eq g_178.symm))
          have CH_199 : CHv Z consts_1 s.vm h_191 := CHv.wr W_194 (Safe.arv hZ.alike V_179 (by decide)) CH_180
          have CR_200 : CHr Z consts_1 s.vm h0 s.vm h_191 := CR_181.trans (CHr.wr W_194 (Safe.arv hZ.alike V_179 (by decide)) CH_180)
          have V_201 : Arv Z h_191 a_177 k_171 .char (3 : Int32) [(.int (own_cb p1)), (.int (0 : Int32)), (.int (0 : Int32))] (.int (0 : Int32)) := by have q := Arv.set A_184 q_185 S_186 M_187 H_188 U_189 (fits_nar_char _) W_194 0 rfl (Nat.le_of_ble_eq_true rfl); rw [own_cb_nar] at q; exact q
          obtain ⟨c_202, A_203, q_204, S_205, M_206, H_207, U_208⟩ := id V_201
          have hin_215 : ¬ ((1 : Int32) < 0 ∨ c_202.slots.size ≤ (1 : Int32).toNatClampNeg) := inb_of S_205 ⟨(by decide : ¬ ((1 : Int32) < (0 : Int32))), (by decide : (1 : Int32) < (3 : Int32))⟩
          obtain ⟨T_209, h_210, X_211, e_212, W_213, st_214⟩ := stC X_192 hx hZ e_193 A_203 (j := (1 : Int32)) hin_215 (g := (mkF m 109 #[.val (.int p0), .val (.int p1), .val (.int p2), .val (.int p3), .val (.int (p0 &&& (3 : Int32))), .val (.int (own_cb p1)), .val (.int (own_cb p2)), .val (.int (own_cb p3))] [(.int (own_cb p2)), (.int (1 : Int32)), (.ref a_177), (.ref a_177), (.ref a_164), (.ref a_164)])) rfl rfl (hb hby d19_109)
          have N_216 := Fr.snoc X_211 N_197 (Nat.le_trans (own_n0 O_198) (Nat.le_of_eq g_178.symm))
          have CH_217 : CHv Z consts_1 s.vm h_210 := CHv.wr W_213 (Safe.arv hZ.alike V_201 (by decide)) CH_199
          have CR_218 : CHr Z consts_1 s.vm h0 s.vm h_210 := CR_200.trans (CHr.wr W_213 (Safe.arv hZ.alike V_201 (by decide)) CH_199)
          have V_219 : Arv Z h_210 a_177 k_171 .char (3 : Int32) [(.int (own_cb p1)), (.int (own_cb p2)), (.int (0 : Int32))] (.int (0 : Int32)) := by have q := Arv.set A_203 q_204 S_205 M_206 H_207 U_208 (fits_nar_char _) W_213 1 rfl (Nat.le_of_ble_eq_true rfl); rw [own_cb_nar] at q; exact q
          obtain ⟨c_220, A_221, q_222, S_223, M_224, H_225, U_226⟩ := id V_219
          have hin_233 : ¬ ((2 : Int32) < 0 ∨ c_220.slots.size ≤ (2 : Int32).toNatClampNeg) := inb_of S_223 ⟨(by decide : ¬ ((2 : Int32) < (0 : Int32))), (by decide : (2 : Int32) < (3 : Int32))⟩
          obtain ⟨T_227, h_228, X_229, e_230, W_231, st_232⟩ := stC X_211 hx hZ e_212 A_221 (j := (2 : Int32)) hin_233 (g := (mkF m 114 #[.val (.int p0), .val (.int p1), .val (.int p2), .val (.int p3), .val (.int (p0 &&& (3 : Int32))), .val (.int (own_cb p1)), .val (.int (own_cb p2)), .val (.int (own_cb p3))] [(.int (own_cb p3)), (.int (2 : Int32)), (.ref a_177), (.ref a_177), (.ref a_164), (.ref a_164)])) rfl rfl (hb hby d19_114)
          have N_234 := Fr.snoc X_229 N_216 (Nat.le_trans (own_n0 O_198) (Nat.le_of_eq g_178.symm))
          have CH_235 : CHv Z consts_1 s.vm h_228 := CHv.wr W_231 (Safe.arv hZ.alike V_219 (by decide)) CH_217
          have CR_236 : CHr Z consts_1 s.vm h0 s.vm h_228 := CR_218.trans (CHr.wr W_231 (Safe.arv hZ.alike V_219 (by decide)) CH_217)
          have V_237 : Arv Z h_228 a_177 k_171 .char (3 : Int32) [(.int (own_cb p1)), (.int (own_cb p2)), (.int (own_cb p3))] (.int (0 : Int32)) := by have q := Arv.set A_221 q_222 S_223 M_224 H_225 U_226 (fits_nar_char _) W_231 2 rfl (Nat.le_of_ble_eq_true rfl); rw [own_cb_nar] at q; exact q
          have E_238 : Exa Z h_228 a_164 "java/lang/String" := ((((A_161.ext E_174).wr W_194).wr W_213).wr W_231)
          have F_239 : Fld Z h_228 a_164 "java/lang/String" "value" "[B" .null := (((((D_162 (Or.inr (w20 hw)) (ty := (.array .byte)) (by decide)).ext E_174).other W_194 (Or.inl (Nat.ne_of_lt (Nat.lt_of_lt_of_le A_161.lt (Nat.le_trans (Nat.le_refl _) (Nat.le_of_eq g_178.symm)))))).other W_213 (Or.inl (Nat.ne_of_lt (Nat.lt_of_lt_of_le A_161.lt (Nat.le_trans (Nat.le_refl _) (Nat.le_of_eq g_178.symm)))))).other W_231 (Or.inl (Nat.ne_of_lt (Nat.lt_of_lt_of_le A_161.lt (Nat.le_trans (Nat.le_refl _) (Nat.le_of_eq g_178.symm))))))
          have F_240 : Fld Z h_228 a_164 "java/lang/String" "coder" "B" (.int (0 : Int32)) := (((((D_162 (Or.inr (w21 hw)) (ty := .byte) (by decide)).ext E_174).other W_194 (Or.inl (Nat.ne_of_lt (Nat.lt_of_lt_of_le A_161.lt (Nat.le_trans (Nat.le_refl _) (Nat.le_of_eq g_178.symm)))))).other W_213 (Or.inl (Nat.ne_of_lt (Nat.lt_of_lt_of_le A_161.lt (Nat.le_trans (Nat.le_refl _) (Nat.le_of_eq g_178.symm)))))).other W_231 (Or.inl (Nat.ne_of_lt (Nat.lt_of_lt_of_le A_161.lt (Nat.le_trans (Nat.le_refl _) (Nat.le_of_eq g_178.symm))))))
          have O_241 : Old Z n0 h_228 := ((((O_198.ext E_174).wr W_194 (Nat.le_trans (own_n0 O_198) (Nat.le_of_eq g_178.symm))).wr W_213 (Nat.le_trans (own_n0 O_198) (Nat.le_of_eq g_178.symm))).wr W_231 (Nat.le_trans (own_n0 O_198) (Nat.le_of_eq g_178.symm)))
          obtain ⟨_, _, ⟨T_242, L_242, k_242, n_242⟩, -, X_242, ⟨Lc_242, hQ_242, l_242, y_242, z_242⟩, st_242⟩ := X_229.specialBack hx (y := M25) rfl hown (mvT hZ (w8 hw)) (mvT hZ (w9 hw)) (mvT hZ (w10 hw)) (by decide) (backOf (W := 1) (rm_si1_3 l Z a0 hw [] G1 kC uS sS HG h_228 n0 O_241 a_164 a_177 k_171 (own_cb p1) (own_cb p2) (own_cb p3) E_238 F_239 F_240 (Nat.le_trans (own_n0 X00) (Nat.le_of_eq g_165.symm)) V_237 (own_cb_hi p1) (own_cb_hi p2) (own_cb_hi p3)) hZ (w10 hw) (w6 hw) (by decide) (by decide)) (g := (mkF m 115 #[.val (.int p0), .val (.int p1), .val (.int p2), .val (.int p3), .val (.int (p0 &&& (3 : Int32))), .val (.int (own_cb p1)), .val (.int (own_cb p2)), .val (.int (own_cb p3))] [(.ref a_177), (.ref a_164), (.ref a_164)])) rfl (by rw [hml]; rfl) (Steps.refl _) (a := a_164) (argsL := [(.ref a_177)]) (rest := [(.ref a_164)]) (lenOf pd_336 rfl) rfl (by show 2 * 0 + _ ≤ _; exact Nat.le_of_eq rfl) (hb hby d19_115) (fun _ _ => ⟨rfl, e_230, (by decide : 2 + 1 ≤ _), (by decide : 7 + 3 ≤ _)⟩)
          dsimp only [Pt.U, Pt.locs, Pt.cells, Pt.slots] at X_242 l_242 y_242 z_242 st_242 hQ_242
          subst l_242 y_242 z_242
          obtain ⟨a_243, k_244, rfl, N_245, K_246, g_247, g_248, g_249, g_250, g_251⟩ := hQ_242
          have N_252 := Fr.app N_234 N_245
          have CH_253 : CHv Z consts_1 s.vm T_242.heap := CHv.keep K_246 (sfS (own_safe_null hZ.alike E_238 F_239) sf0) CH_235
          have CR_254 : CHr Z consts_1 s.vm h0 s.vm T_242.heap := CR_236.trans (CHr.keep K_246 (sfS (own_safe_null hZ.alike E_238 F_239) sf0) CH_235)
          have C_255 : Steps p.tables e below S0 (T_242.setTop (mkF m 118 #[.val (.int p0), .val (.int p1), .val (.int p2), .val (.int p3), .val (.int (p0 &&& (3 : Int32))), .val (.int (own_cb p1)), .val (.int (own_cb p2)), .val (.int (own_cb p3))] [(.ref a_164)])) := by
            refine C_71.trans ?_
            refine XS.icmpYes X0.here hx rfl (pc0 := 69) (pc' := 93) rfl (hb hby d19_69) rfl (ii_ne_t hc_72) (by decide) (by decide) ?_
            refine st_163 _ ?_
            refine XS.dup X_158.here hx rfl (hb hby d19_96) rfl rfl ?_
            refine XS.iconst X_158.here hx rfl (hb hby d19_97) ?_
            refine st_176 _ ?_
            refine XS.dup X_172.here hx rfl (hb hby d19_100) rfl rfl ?_
            refine XS.iconst X_172.here hx rfl (hb hby d19_101) ?_
            refine XS.iload X_172.here hx rfl (hb hby d19_102) rfl ?_
            show Steps p.tables e below (T_169.setTop (mkF m 104 #[.val (.int p0), .val (.int p1), .val (.int p2), .val (.int p3), .val (.int (p0 &&& (3 : Int32))), .val (.int (own_cb p1)), .val (.int (own_cb p2)), .val (.int (own_cb p3))] [(.int (own_cb p1)), (.int (0 : Int32)), (.ref a_177), (.ref a_177), (.ref a_164), (.ref a_164)])) _
            refine st_195 _ ?_
            refine XS.dup X_192.here hx rfl (hb hby d19_105) rfl rfl ?_
            refine XS.iconst X_192.here hx rfl (hb hby d19_106) ?_
            refine XS.iload X_192.here hx rfl (hb hby d19_107) rfl ?_
            refine st_214 _ ?_
            refine XS.dup X_211.here hx rfl (hb hby d19_110) rfl rfl ?_
            refine XS.iconst X_211.here hx rfl (hb hby d19_111) ?_
            refine XS.iload X_211.here hx rfl (hb hby d19_112) rfl ?_
            show Steps p.tables e below (T_209.setTop (mkF m 114 #[.val (.int p0), .val (.int p1), .val (.int p2), .val (.int p3), .val (.int (p0 &&& (3 : Int32))), .val (.int (own_cb p1)), .val (.int (own_cb p2)), .val (.int (own_cb p3))] [(.int (own_cb p3)), (.int (2 : Int32)), (.ref a_177), (.ref a_177), (.ref a_164), (.ref a_164)])) _
            refine st_232 _ ?_
            refine st_242.trans ?_
            exact Steps.refl _
          have K_256 : Keep h0 T_242.heap [] := (((((((Keep.refl _ _).ext E_160).ext E_174).wr W_194 (Or.inr (Nat.le_trans E_160.1 (Nat.le_of_eq g_178.symm)))).wr W_213 (Or.inr (Nat.le_trans E_160.1 (Nat.le_of_eq g_178.symm)))).wr W_231 (Or.inr (Nat.le_trans E_160.1 (Nat.le_of_eq g_178.symm)))).trans K_246 (allS (Or.inr (Nat.le_trans (Nat.le_refl _) (Nat.le_of_eq g_165.symm))) all0))
          obtain ⟨fs, hr, hrun, hended, hRE⟩ := X_242.leaveW hS0 (by rw [show T_242.heap = T_242.heap from rfl]; exact (Nat.le_trans (Nat.le_refl _) (Nat.le_trans (Nat.le_trans (Nat.le_trans (Nat.le_trans (Nat.le_trans E_160.1 E_174.1) (Keep.of_wr W_194).1) (Keep.of_wr W_213).1) (Keep.of_wr W_231).1) K_246.1))) (v := some (.ref a_164)) (fun h => by rw [Bd.returns] at h; cases h)
          refine ⟨_, _, C_255.trans (retOut X_242 hx Bd.returns rfl (Or.inr (Or.inr (Or.inr (Or.inr ⟨rfl, rfl, rfl⟩)))) (hb hby d19_118) hr), hrun, hended, _, _, rfl, ?_, ?_, hRE.1, hRE.2.1, hRE.2.2.1, hRE.2.2.2.mono (by decide) (by decide)⟩
          · show Q_make Z G1 kC uS sS p0 p1 p2 p3 h0 n0 (some (.ref a_164)) T_242.heap _
            exact Or.inr (⟨a_164, a_243, k_244, (3 : Int32), [(.int (own_lo8 (own_cb p1))), (.int (own_lo8 (own_cb p2))), (.int (own_lo8 (own_cb p3)))], rfl, N_252, K_256, g_247, g_248, g_249, g_251⟩)
          · show CHr Z consts_1 s.vm s.heap T_242.vm T_242.heap
            rw [hh]
            exact CR_254.trans (CHv.at X_242 hZ hEL CH_253)
  · skip
    have C_257 : Steps p.tables e below S0 (s₁.setTop (mkF m 8 #[.val (.int p0), .val (.int p1), .val (.int p2), .val (.int p3), .unset, .unset, .unset, .unset] [.null])) := by
      refine C_1.trans ?_
      refine XS.ifNo X0.here hx rfl (hb hby d19_4) rfl (i0_eq_f hc_2) ?_
      refine XS.aconstNull X0.here hx rfl (hb hby d19_7) ?_
      exact Steps.refl _
    have K_258 : Keep h0 h0 [] := (Keep.refl _ _)
    obtain ⟨fs, hr, hrun, hended, hRE⟩ := X0.leaveW hS0 (by rw [show s₁.heap = h0 from e0]; exact (Nat.le_refl _)) (v := some .null) (fun h => by rw [Bd.returns] at h; cases h)
    refine ⟨_, _, C_257.trans (retOut X0 hx Bd.returns rfl (Or.inr (Or.inr (Or.inr (Or.inr ⟨rfl, rfl, rfl⟩)))) (hb hby d19_8) hr), hrun, hended, _, _, rfl, ?_, ?_, hRE.1, hRE.2.1, hRE.2.2.1, hRE.2.2.2.mono (by decide) (by decide)⟩
    · show Q_make Z G1 kC uS sS p0 p1 p2 p3 h0 n0 (some .null) s₁.heap _
      rw [e0]
      exact Or.inl ⟨rfl, N0, K_258⟩
    · show CHr Z consts_1 s.vm s.heap s₁.vm s₁.heap
      rw [hh, show s₁.heap = h0 from e0]
      exact CR0.trans (CHv.at X0 hZ hEL CH0)
theorem ef_388 (m : MethodId) (x0 : Int32) (x1 : Int32) (x2 : Int32) (x3 : Int32) : entryFrame m #[(.int x0), (.int x1), (.int x2), (.int x3)] maxLocals = mkF m 0 #[.val (.int x0), .val (.int x1), .val (.int x2), .val (.int x3), .unset, .unset, .unset, .unset] [] := by first | (simp [entryFrame, mkF, argsToLocals, Value.category, maxLocals]; done) | rfl
theorem w3 {Z : State} {a0 : Array Value} (hw : ∀ d ∈ tables_1, d.before a0 Z = true) : Jvm.Cond.before (Jvm.Cond.code ({ cls := "com/example/manque/manque/DeclinedRefusedPinLaw", name := "make", desc := "(IIII)Ljava/lang/String;" } : Jvm.MethodName) method_2_code (8 : Nat) (Option.some (Jvm.ClassFile.FieldType.object "java/lang/String"))) a0 Z = true := hw _ (List.mem_of_getElem? (i := 3) rfl)
theorem w2 {Z : State} {a0 : Array Value} (hw : ∀ d ∈ tables_1, d.before a0 Z = true) : Jvm.Cond.before (Jvm.Cond.initialized "com/example/manque/manque/DeclinedRefusedPinLaw") a0 Z = true := hw _ (List.mem_of_getElem? (i := 2) rfl)
theorem pd_391 : parseMethodDescriptor "(IIII)Ljava/lang/String;" = some ⟨[.int, .int, .int, .int], some (.object "java/lang/String")⟩ := by decide +kernel
theorem w0 {Z : State} {a0 : Array Value} (hw : ∀ d ∈ tables_1, d.before a0 Z = true) : Jvm.Cond.before (Jvm.Cond.methodLink "com/example/manque/manque/DeclinedRefusedPinLaw" (16 : Nat) ({ cls := "com/example/manque/manque/DeclinedRefusedPinLaw", name := "make", desc := "(IIII)Ljava/lang/String;" } : Jvm.MethodName)) a0 Z = true := hw _ (List.mem_of_getElem? (i := 0) rfl)
theorem w1 {Z : State} {a0 : Array Value} (hw : ∀ d ∈ tables_1, d.before a0 Z = true) : Jvm.Cond.before (Jvm.Cond.static ({ cls := "com/example/manque/manque/DeclinedRefusedPinLaw", name := "make", desc := "(IIII)Ljava/lang/String;" } : Jvm.MethodName)) a0 Z = true := hw _ (List.mem_of_getElem? (i := 1) rfl)
theorem w29 {Z : State} {a0 : Array Value} (hw : ∀ d ∈ tables_1, d.before a0 Z = true) : Jvm.Cond.before (Jvm.Cond.code ({ cls := "com/example/manque/manque/Declined", name := "refused", desc := "(Ljava/lang/String;)Lcom/example/manque/manque/Declined;" } : Jvm.MethodName) prog_1_method_4_code (1 : Nat) (Option.some (Jvm.ClassFile.FieldType.object "com/example/manque/manque/Declined"))) a0 Z = true := hw _ (List.mem_of_getElem? (i := 29) rfl)
theorem pd_395 : parseMethodDescriptor "(Ljava/lang/String;)Lcom/example/manque/manque/Declined;" = some ⟨[(.object "java/lang/String")], some (.object "com/example/manque/manque/Declined")⟩ := by decide +kernel
theorem w26 {Z : State} {a0 : Array Value} (hw : ∀ d ∈ tables_1, d.before a0 Z = true) : Jvm.Cond.before (Jvm.Cond.methodLink "com/example/manque/manque/DeclinedRefusedPinLaw" (22 : Nat) ({ cls := "com/example/manque/manque/Declined", name := "refused", desc := "(Ljava/lang/String;)Lcom/example/manque/manque/Declined;" } : Jvm.MethodName)) a0 Z = true := hw _ (List.mem_of_getElem? (i := 26) rfl)
theorem w27 {Z : State} {a0 : Array Value} (hw : ∀ d ∈ tables_1, d.before a0 Z = true) : Jvm.Cond.before (Jvm.Cond.static ({ cls := "com/example/manque/manque/Declined", name := "refused", desc := "(Ljava/lang/String;)Lcom/example/manque/manque/Declined;" } : Jvm.MethodName)) a0 Z = true := hw _ (List.mem_of_getElem? (i := 27) rfl)
theorem w92 {Z : State} {a0 : Array Value} (hw : ∀ d ∈ tables_1, d.before a0 Z = true) : Jvm.Cond.before (Jvm.Cond.code ({ cls := "com/example/manque/manque/Declined", name := "kind", desc := "()Lcom/example/manque/manque/Declined$Kind;" } : Jvm.MethodName) prog_1_method_5_code (1 : Nat) (Option.some (Jvm.ClassFile.FieldType.object "com/example/manque/manque/Declined$Kind"))) a0 Z = true := hw _ (List.mem_of_getElem? (i := 92) rfl)
theorem pd_399 : parseMethodDescriptor "()Lcom/example/manque/manque/Declined$Kind;" = some ⟨[], some (.object "com/example/manque/manque/Declined$Kind")⟩ := by decide +kernel
theorem w88 {Z : State} {a0 : Array Value} (hw : ∀ d ∈ tables_1, d.before a0 Z = true) : Jvm.Cond.before (Jvm.Cond.methodLink "com/example/manque/manque/DeclinedRefusedPinLaw" (28 : Nat) ({ cls := "com/example/manque/manque/Declined", name := "kind", desc := "()Lcom/example/manque/manque/Declined$Kind;" } : Jvm.MethodName)) a0 Z = true := hw _ (List.mem_of_getElem? (i := 88) rfl)
theorem w91 {Z : State} {a0 : Array Value} (hw : ∀ d ∈ tables_1, d.before a0 Z = true) : Jvm.Cond.before (Jvm.Cond.selects "com/example/manque/manque/Declined" ({ cls := "com/example/manque/manque/Declined", name := "kind", desc := "()Lcom/example/manque/manque/Declined$Kind;" } : Jvm.MethodName) ({ cls := "com/example/manque/manque/Declined", name := "kind", desc := "()Lcom/example/manque/manque/Declined$Kind;" } : Jvm.MethodName)) a0 Z = true := hw _ (List.mem_of_getElem? (i := 91) rfl)
theorem w90 {Z : State} {a0 : Array Value} (hw : ∀ d ∈ tables_1, d.before a0 Z = true) : Jvm.Cond.before (Jvm.Cond.instanceMethod ({ cls := "com/example/manque/manque/Declined", name := "kind", desc := "()Lcom/example/manque/manque/Declined$Kind;" } : Jvm.MethodName)) a0 Z = true := hw _ (List.mem_of_getElem? (i := 90) rfl)
theorem w89 {Z : State} {a0 : Array Value} (hw : ∀ d ∈ tables_1, d.before a0 Z = true) : Jvm.Cond.before (Jvm.Cond.declares ({ cls := "com/example/manque/manque/Declined", name := "kind", desc := "()Lcom/example/manque/manque/Declined$Kind;" } : Jvm.MethodName)) a0 Z = true := hw _ (List.mem_of_getElem? (i := 89) rfl)
theorem w93 {Z : State} {a0 : Array Value} (hw : ∀ d ∈ tables_1, d.before a0 Z = true) : Jvm.Cond.before (Jvm.Cond.fieldLink "com/example/manque/manque/DeclinedRefusedPinLaw" (32 : Nat) "com/example/manque/manque/Declined$Kind" "REFUSED" "Lcom/example/manque/manque/Declined$Kind;") a0 Z = true := hw _ (List.mem_of_getElem? (i := 93) rfl)
theorem w98 {Z : State} {a0 : Array Value} (hw : ∀ d ∈ tables_1, d.before a0 Z = true) : Jvm.Cond.before (Jvm.Cond.code ({ cls := "com/example/manque/manque/Declined$Kind", name := "status", desc := "()I" } : Jvm.MethodName) prog_2_method_4_code (1 : Nat) (Option.some Jvm.ClassFile.FieldType.int)) a0 Z = true := hw _ (List.mem_of_getElem? (i := 98) rfl)
theorem w33 {Z : State} {a0 : Array Value} (hw : ∀ d ∈ tables_1, d.before a0 Z = true) : Jvm.Cond.before (Jvm.Cond.initialized "com/example/manque/manque/Declined$Kind") a0 Z = true := hw _ (List.mem_of_getElem? (i := 33) rfl)
theorem pd_407 : parseMethodDescriptor "()I" = some ⟨[], some .int⟩ := by decide +kernel
theorem w94 {Z : State} {a0 : Array Value} (hw : ∀ d ∈ tables_1, d.before a0 Z = true) : Jvm.Cond.before (Jvm.Cond.methodLink "com/example/manque/manque/DeclinedRefusedPinLaw" (38 : Nat) ({ cls := "com/example/manque/manque/Declined$Kind", name := "status", desc := "()I" } : Jvm.MethodName)) a0 Z = true := hw _ (List.mem_of_getElem? (i := 94) rfl)
theorem w97 {Z : State} {a0 : Array Value} (hw : ∀ d ∈ tables_1, d.before a0 Z = true) : Jvm.Cond.before (Jvm.Cond.selects "com/example/manque/manque/Declined$Kind" ({ cls := "com/example/manque/manque/Declined$Kind", name := "status", desc := "()I" } : Jvm.MethodName) ({ cls := "com/example/manque/manque/Declined$Kind", name := "status", desc := "()I" } : Jvm.MethodName)) a0 Z = true := hw _ (List.mem_of_getElem? (i := 97) rfl)
theorem w96 {Z : State} {a0 : Array Value} (hw : ∀ d ∈ tables_1, d.before a0 Z = true) : Jvm.Cond.before (Jvm.Cond.instanceMethod ({ cls := "com/example/manque/manque/Declined$Kind", name := "status", desc := "()I" } : Jvm.MethodName)) a0 Z = true := hw _ (List.mem_of_getElem? (i := 96) rfl)
theorem w95 {Z : State} {a0 : Array Value} (hw : ∀ d ∈ tables_1, d.before a0 Z = true) : Jvm.Cond.before (Jvm.Cond.declares ({ cls := "com/example/manque/manque/Declined$Kind", name := "status", desc := "()I" } : Jvm.MethodName)) a0 Z = true := hw _ (List.mem_of_getElem? (i := 95) rfl)
theorem w106 {Z : State} {a0 : Array Value} (hw : ∀ d ∈ tables_1, d.before a0 Z = true) : Jvm.Cond.before (Jvm.Cond.code ({ cls := "java/lang/Throwable", name := "getMessage", desc := "()Ljava/lang/String;" } : Jvm.MethodName) jdk_78_method_6_code (1 : Nat) (Option.some (Jvm.ClassFile.FieldType.object "java/lang/String"))) a0 Z = true := hw _ (List.mem_of_getElem? (i := 106) rfl)
theorem pd_413 : parseMethodDescriptor "()Ljava/lang/String;" = some ⟨[], some (.object "java/lang/String")⟩ := by decide +kernel
theorem w101 {Z : State} {a0 : Array Value} (hw : ∀ d ∈ tables_1, d.before a0 Z = true) : Jvm.Cond.before (Jvm.Cond.methodLink "com/example/manque/manque/DeclinedRefusedPinLaw" (42 : Nat) ({ cls := "com/example/manque/manque/Declined", name := "getMessage", desc := "()Ljava/lang/String;" } : Jvm.MethodName)) a0 Z = true := hw _ (List.mem_of_getElem? (i := 101) rfl)
theorem w105 {Z : State} {a0 : Array Value} (hw : ∀ d ∈ tables_1, d.before a0 Z = true) : Jvm.Cond.before (Jvm.Cond.selects "com/example/manque/manque/Declined" ({ cls := "com/example/manque/manque/Declined", name := "getMessage", desc := "()Ljava/lang/String;" } : Jvm.MethodName) ({ cls := "java/lang/Throwable", name := "getMessage", desc := "()Ljava/lang/String;" } : Jvm.MethodName)) a0 Z = true := hw _ (List.mem_of_getElem? (i := 105) rfl)
theorem w104 {Z : State} {a0 : Array Value} (hw : ∀ d ∈ tables_1, d.before a0 Z = true) : Jvm.Cond.before (Jvm.Cond.instanceMethod ({ cls := "java/lang/Throwable", name := "getMessage", desc := "()Ljava/lang/String;" } : Jvm.MethodName)) a0 Z = true := hw _ (List.mem_of_getElem? (i := 104) rfl)
abbrev M417 : MethodName := ⟨"com/example/manque/manque/Declined", "getMessage", "()Ljava/lang/String;"⟩
theorem w102 {Z : State} {a0 : Array Value} (hw : ∀ d ∈ tables_1, d.before a0 Z = true) : Jvm.Cond.before (Jvm.Cond.sameMethod "com/example/manque/manque/Declined" "java/lang/Throwable" "getMessage" "()Ljava/lang/String;") a0 Z = true := hw _ (List.mem_of_getElem? (i := 102) rfl)
theorem w103 {Z : State} {a0 : Array Value} (hw : ∀ d ∈ tables_1, d.before a0 Z = true) : Jvm.Cond.before (Jvm.Cond.declares ({ cls := "java/lang/Throwable", name := "getMessage", desc := "()Ljava/lang/String;" } : Jvm.MethodName)) a0 Z = true := hw _ (List.mem_of_getElem? (i := 103) rfl)
theorem w111 {Z : State} {a0 : Array Value} (hw : ∀ d ∈ tables_1, d.before a0 Z = true) : Jvm.Cond.before (Jvm.Cond.code ({ cls := "java/lang/String", name := "length", desc := "()I" } : Jvm.MethodName) jdk_42_method_54_code (1 : Nat) (Option.some Jvm.ClassFile.FieldType.int)) a0 Z = true := hw _ (List.mem_of_getElem? (i := 111) rfl)
theorem w107 {Z : State} {a0 : Array Value} (hw : ∀ d ∈ tables_1, d.before a0 Z = true) : Jvm.Cond.before (Jvm.Cond.methodLink "com/example/manque/manque/DeclinedRefusedPinLaw" (46 : Nat) ({ cls := "java/lang/String", name := "length", desc := "()I" } : Jvm.MethodName)) a0 Z = true := hw _ (List.mem_of_getElem? (i := 107) rfl)
theorem w110 {Z : State} {a0 : Array Value} (hw : ∀ d ∈ tables_1, d.before a0 Z = true) : Jvm.Cond.before (Jvm.Cond.selects "java/lang/String" ({ cls := "java/lang/String", name := "length", desc := "()I" } : Jvm.MethodName) ({ cls := "java/lang/String", name := "length", desc := "()I" } : Jvm.MethodName)) a0 Z = true := hw _ (List.mem_of_getElem? (i := 110) rfl)
theorem w109 {Z : State} {a0 : Array Value} (hw : ∀ d ∈ tables_1, d.before a0 Z = true) : Jvm.Cond.before (Jvm.Cond.instanceMethod ({ cls := "java/lang/String", name := "length", desc := "()I" } : Jvm.MethodName)) a0 Z = true := hw _ (List.mem_of_getElem? (i := 109) rfl)
theorem w108 {Z : State} {a0 : Array Value} (hw : ∀ d ∈ tables_1, d.before a0 Z = true) : Jvm.Cond.before (Jvm.Cond.declares ({ cls := "java/lang/String", name := "length", desc := "()I" } : Jvm.MethodName)) a0 Z = true := hw _ (List.mem_of_getElem? (i := 108) rfl)
theorem w122 {Z : State} {a0 : Array Value} (hw : ∀ d ∈ tables_1, d.before a0 Z = true) : Jvm.Cond.before (Jvm.Cond.code ({ cls := "java/lang/String", name := "equals", desc := "(Ljava/lang/Object;)Z" } : Jvm.MethodName) jdk_42_method_66_code (3 : Nat) (Option.some Jvm.ClassFile.FieldType.boolean)) a0 Z = true := hw _ (List.mem_of_getElem? (i := 122) rfl)
theorem pd_426 : parseMethodDescriptor "(Ljava/lang/Object;)Z" = some ⟨[(.object "java/lang/Object")], some .boolean⟩ := by decide +kernel
theorem w118 {Z : State} {a0 : Array Value} (hw : ∀ d ∈ tables_1, d.before a0 Z = true) : Jvm.Cond.before (Jvm.Cond.methodLink "com/example/manque/manque/DeclinedRefusedPinLaw" (49 : Nat) ({ cls := "java/lang/String", name := "equals", desc := "(Ljava/lang/Object;)Z" } : Jvm.MethodName)) a0 Z = true := hw _ (List.mem_of_getElem? (i := 118) rfl)
theorem w121 {Z : State} {a0 : Array Value} (hw : ∀ d ∈ tables_1, d.before a0 Z = true) : Jvm.Cond.before (Jvm.Cond.selects "java/lang/String" ({ cls := "java/lang/String", name := "equals", desc := "(Ljava/lang/Object;)Z" } : Jvm.MethodName) ({ cls := "java/lang/String", name := "equals", desc := "(Ljava/lang/Object;)Z" } : Jvm.MethodName)) a0 Z = true := hw _ (List.mem_of_getElem? (i := 121) rfl)
theorem w120 {Z : State} {a0 : Array Value} (hw : ∀ d ∈ tables_1, d.before a0 Z = true) : Jvm.Cond.before (Jvm.Cond.instanceMethod ({ cls := "java/lang/String", name := "equals", desc := "(Ljava/lang/Object;)Z" } : Jvm.MethodName)) a0 Z = true := hw _ (List.mem_of_getElem? (i := 120) rfl)
theorem w119 {Z : State} {a0 : Array Value} (hw : ∀ d ∈ tables_1, d.before a0 Z = true) : Jvm.Cond.before (Jvm.Cond.declares ({ cls := "java/lang/String", name := "equals", desc := "(Ljava/lang/Object;)Z" } : Jvm.MethodName)) a0 Z = true := hw _ (List.mem_of_getElem? (i := 119) rfl)
def Q_law (Z : State) (G1 : Int32) (kC : Addr) (uS : Value) (sS : Value) (p0 : Int32) (p1 : Int32) (p2 : Int32) (p3 : Int32) (h0 : Heap) (n0 : Nat) (v : Option Value) (h : Heap) (L : List Loc) : Prop := (v = some (.int (1 : Int32)) ∧ Fr n0 L ∧ Keep h0 h [])
set_option maxRecDepth 65536 in
set_option maxHeartbeats 40000000 in
theorem rm_law (l : Launch) (Z : State) (a0 : Array Value) (hw : ∀ d ∈ tables_1, d.before a0 Z = true) (ws : List Jvm.Cond) (G1 : Int32) (kC : Addr) (uS : Value) (sS : Value) (HG : own_G l Z a0 G1 kC uS sS) (h0 : Heap) (n0 : Nat) (X00 : Old Z n0 h0) (p0 : Int32) (p1 : Int32) (p2 : Int32) (p3 : Int32)  :
    own_CK l Z x code maxLocals ret ws room_1 #[(.int p0), (.int p1), (.int p2), (.int p3)] h0 (Q_law Z G1 kC uS sS p0 p1 p2 p3 h0 n0) := by
  refine own_K (plainFor_of_name pn_303) ?_
  intro p e s m below meth c s₁ S0 Bd hZ hh CH0 hS0 CR0 hTK0 hBL0 hx hby hml hown hnm X0 e0 hS0d
  obtain ⟨O1, P1, O2, E2, F2, hLT, OU, rU, OS, rS⟩ := id HG
  have hEL := own_EL hw
  have hSA := own_SA hw
  have N0 := Fr.nil n0
  have C0 : Steps p.tables e below S0 (s₁.setTop (mkF m 0 #[.val (.int p0), .val (.int p1), .val (.int p2), .val (.int p3), .unset, .unset, .unset, .unset] [])) := by rw [hS0d]; exact castTop (ef_388 m p0 p1 p2 p3) (Steps.refl _)
  obtain ⟨_, _, ⟨T_1, L_1, k_1, n_1⟩, -, Y_1, S_1, G_1, ⟨Lc_1, hQ_1, l_1, y_1, z_1, R_1⟩, st_1⟩ := callSS X0 hx (y := M301) hown (mvT hZ (w0 hw)) (mvT hZ (w1 hw)) (mvT hZ (w2 hw)) (mvT hZ (w3 hw)) (by decide) (backOfSKH (vm0 := s.vm) (W := 0) (rm_make l Z a0 hw [] G1 kC uS sS HG h0 n0 X00 p0 p1 p2 p3 ) hZ (w3 hw) (w2 hw) (by decide) (by decide) hEL CH0 hTK0 hBL0) (g := (mkF m 4 #[.val (.int p0), .val (.int p1), .val (.int p2), .val (.int p3), .unset, .unset, .unset, .unset] [(.int p3), (.int p2), (.int p1), (.int p0)])) rfl (by rw [hml]; rfl) (argsL := [(.int p0), (.int p1), (.int p2), (.int p3)]) (rest := []) (lenOf pd_391 rfl) rfl (by show 2 * 0 + _ ≤ _; exact Nat.le_of_eq rfl) (hb hby at_4) (fun _ _ => ⟨rfl, e0, (by decide : 0 + 6 ≤ _), (by decide : 0 + 12 ≤ _)⟩)
  dsimp only [Pt.U, Pt.locs, Pt.cells, Pt.slots] at Y_1 S_1 G_1 l_1 y_1 z_1 st_1 hQ_1 R_1
  subst l_1 y_1 z_1
  obtain ⟨X_1, hS_1, hZ_1, hown_1⟩ := rebS hS0 (n1 := s₁.heap.size) (by rw [show s₁.heap = h0 from e0]; exact (Nat.le_refl _)) Y_1 S_1 G_1 hZ hown
  have C_2 : Steps p.tables e below S0 (s₁.setTop (mkF m 4 #[.val (.int p0), .val (.int p1), .val (.int p2), .val (.int p3), .unset, .unset, .unset, .unset] [(.int p3), (.int p2), (.int p1), (.int p0)])) := by
    refine C0.trans ?_
    refine XS.iloadN X0.here hx rfl (hb hby at_0) rfl ?_
    refine XS.iloadN X0.here hx rfl (hb hby at_1) rfl ?_
    refine XS.iloadN X0.here hx rfl (hb hby at_2) rfl ?_
    refine XS.iloadN X0.here hx rfl (hb hby at_3) rfl ?_
    exact Steps.refl _
  rcases hQ_1 with hQ_3 | hQ_4
  · skip
    obtain ⟨rfl, N_5, K_6⟩ := hQ_3
    have N_7 := Fr.app N0 N_5
    have CH_8 : CHv Z consts_1 T_1.vm T_1.heap := R_1.1
    have CR_9 : CHr Z consts_1 s.vm h0 T_1.vm T_1.heap := CR0.trans R_1
    have hTK_10 : (s.setVm T_1.vm).vm.MethodsKnown := Vm.MethodsKnown.alikeC (hS_1.1.alike) hTK0
    have hBL_11 : (s.setVm T_1.vm).vm.FramesKnown below := Vm.FramesKnown.alikeC (hS_1.1.alike) hBL0
    have O_12 : Old Z n0 T_1.heap := (X00.keep K_6 all0)
    obtain ⟨_, _, ⟨T_13, L_13, k_13, n_13⟩, -, Y_13, S_13, G_13, ⟨Lc_13, hQ_13, l_13, y_13, z_13, R_13⟩, st_13⟩ := callSS X_1 hx (y := M101) hown_1 (mvT hZ_1 (w26 hw)) (mvT hZ_1 (w27 hw)) (mvT hZ_1 (w28 hw)) (mvT hZ_1 (w29 hw)) (by decide) (backOfSKH (vm0 := T_1.vm) (W := 0) (rm_mk0 l Z a0 hw [] G1 kC uS sS HG T_1.heap n0 O_12  ) hZ_1 (w29 hw) (w28 hw) (by decide) (by decide) hEL CH_8 hTK_10 hBL_11) (g := (mkF m 11 #[.val (.int p0), .val (.int p1), .val (.int p2), .val (.int p3), .val .null, .unset, .unset, .unset] [.null])) rfl (by rw [hml]; rfl) (argsL := [.null]) (rest := []) (lenOf pd_395 rfl) rfl (by show 2 * 0 + _ ≤ _; exact Nat.le_of_eq rfl) (hb hby at_11) (fun _ _ => ⟨rfl, rfl, (by decide : 6 + 2 ≤ _), (by decide : 12 + 2759 ≤ _)⟩)
    dsimp only [Pt.U, Pt.locs, Pt.cells, Pt.slots] at Y_13 S_13 G_13 l_13 y_13 z_13 st_13 hQ_13 R_13
    subst l_13 y_13 z_13
    obtain ⟨X_13, hS_13, hZ_13, hown_13⟩ := rebS hS_1 (n1 := T_1.heap.size) (by rw [show T_1.heap = T_1.heap from rfl]; exact (Nat.le_refl _)) Y_13 S_13 G_13 hZ_1 hown_1
    obtain ⟨a_14, rfl, N_15, K_16, g_17, g_18, g_19, g_20⟩ := hQ_13
    have N_21 := Fr.app N_7 N_15
    have CH_22 : CHv Z consts_1 T_13.vm T_13.heap := R_13.1
    have CR_23 : CHr Z consts_1 s.vm h0 T_13.vm T_13.heap := CR_9.trans R_13
    have hTK_24 : (s.setVm T_13.vm).vm.MethodsKnown := Vm.MethodsKnown.alikeC (hS_13.1.alike) hTK0
    have hBL_25 : (s.setVm T_13.vm).vm.FramesKnown below := Vm.FramesKnown.alikeC (hS_13.1.alike) hBL0
    have O_26 : Old Z n0 T_13.heap := (O_12.keep K_16 all0)
    obtain ⟨q_28, q_29, q_30, q_31, q_32⟩ := isOf (T := T_13) hZ_13 rfl g_18
    obtain ⟨_, _, ⟨T_27, L_27, k_27, n_27⟩, -, X_27, ⟨Lc_27, hQ_27, l_27, y_27, z_27⟩, st_27⟩ := X_13.virtualBack hx (y := M123) (z := M123) hown_13 (mvT hZ_13 (w88 hw)) (mvT hZ_13 (w89 hw)) (notFace_of_selects (args := #[]) (mvT hZ_13 (w91 hw))) (mvT hZ_13 (w91 hw)) (mvT hZ_13 (w90 hw)) (by decide) (backOf (W := 0) (rm_kind l Z a0 hw [] G1 kC uS sS HG T_13.heap n0 O_26 a_14 g_19) hZ_13 (w92 hw) (w28 hw) (by decide) (by decide)) q_30 q_32 (g := (mkF m 25 #[.val (.int p0), .val (.int p1), .val (.int p2), .val (.int p3), .val .null, .val (.ref a_14), .unset, .unset] [(.ref a_14)])) rfl (by rw [hml]; rfl) (Steps.refl _) (argsL := []) (rest := []) (lenOf pd_399 rfl) rfl (by show 2 * 0 + _ ≤ _; exact Nat.le_of_eq rfl) (hb hby at_25) (fun _ _ => ⟨rfl, rfl, (by decide : 8 + 0 ≤ _), (by decide : 2771 + 0 ≤ _)⟩)
    dsimp only [Pt.U, Pt.locs, Pt.cells, Pt.slots] at X_27 l_27 y_27 z_27 st_27 hQ_27
    subst l_27 y_27 z_27
    obtain ⟨rfl, N_33, e_34⟩ := hQ_27
    have N_35 := Fr.app N_21 N_33
    have e_36 : T_27.heap = T_13.heap := e_34
    obtain ⟨T_37, X_38, e_39, st_40⟩ := getS X_27 hx hZ_13 (host := "") hown_13 (w93 hw) Via.refl e_36 (O2.ext O_26.2) (g := (mkF m 32 #[.val (.int p0), .val (.int p1), .val (.int p2), .val (.int p3), .val .null, .val (.ref a_14), .val (.ref kC), .unset] [(.ref kC)])) rfl (hb hby at_32)
    obtain ⟨q_42, q_43, q_44, q_45, q_46⟩ := isOf (T := T_37) hZ_13 e_39 (E2.ext O_26.2)
    obtain ⟨_, _, ⟨T_41, L_41, k_41, n_41⟩, -, X_41, ⟨Lc_41, hQ_41, l_41, y_41, z_41⟩, st_41⟩ := X_38.virtualBack hx (y := M127) (z := M127) hown_13 (mvT hZ_13 (w94 hw)) (mvT hZ_13 (w95 hw)) (notFace_of_selects (args := #[]) (mvT hZ_13 (w97 hw))) (mvT hZ_13 (w97 hw)) (mvT hZ_13 (w96 hw)) (by decide) (backOf (W := 0) (rm_kst l Z a0 hw [] G1 kC uS sS HG T_13.heap n0 O_26  ) hZ_13 (w98 hw) (w33 hw) (by decide) (by decide)) q_44 q_46 (g := (mkF m 42 #[.val (.int p0), .val (.int p1), .val (.int p2), .val (.int p3), .val .null, .val (.ref a_14), .val (.ref kC), .unset] [(.ref kC)])) rfl (by rw [hml]; rfl) (Steps.refl _) (argsL := []) (rest := []) (lenOf pd_407 rfl) rfl (by show 2 * 0 + _ ≤ _; exact Nat.le_of_eq rfl) (hb hby at_42) (fun _ _ => ⟨rfl, e_39, (by decide : 8 + 0 ≤ _), (by decide : 2771 + 0 ≤ _)⟩)
    dsimp only [Pt.U, Pt.locs, Pt.cells, Pt.slots] at X_41 l_41 y_41 z_41 st_41 hQ_41
    subst l_41 y_41 z_41
    obtain ⟨rfl, N_47, e_48⟩ := hQ_41
    have N_49 := Fr.app N_35 N_47
    have e_50 : T_41.heap = T_13.heap := e_48
    obtain ⟨q_52, q_53, q_54, q_55, q_56⟩ := isOf (T := T_41) hZ_13 e_50 g_18
    obtain ⟨_, _, ⟨T_51, L_51, k_51, n_51⟩, -, X_51, ⟨Lc_51, hQ_51, l_51, y_51, z_51⟩, st_51⟩ := X_41.virtualBackUp hx (owner := "java/lang/Throwable") (x := M417) (y := M119) hown_13 (mvT hZ_13 (w101 hw)) (mvT hZ_13 (w102 hw)) (mvT hZ_13 (w103 hw)) (by decide) (mvT hZ_13 (w105 hw)) (mvT hZ_13 (w104 hw)) (backOf (W := 0) (rm_getmsg0 l Z a0 hw [] G1 kC uS sS HG T_13.heap n0 O_26 a_14 g_20) hZ_13 (w106 hw) (w47 hw) (by decide) (by decide)) q_54 q_56 (g := (mkF m 55 #[.val (.int p0), .val (.int p1), .val (.int p2), .val (.int p3), .val .null, .val (.ref a_14), .val (.ref kC), .unset] [(.ref a_14)])) rfl (by rw [hml]; rfl) (Steps.refl _) (argsL := []) (rest := []) (lenOf pd_413 rfl) rfl (by show 2 * 0 + _ ≤ _; exact Nat.le_of_eq rfl) (hb hby at_55) (fun _ _ => ⟨rfl, e_50, (by decide : 8 + 0 ≤ _), (by decide : 2771 + 0 ≤ _)⟩)
    dsimp only [Pt.U, Pt.locs, Pt.cells, Pt.slots] at X_51 l_51 y_51 z_51 st_51 hQ_51
    subst l_51 y_51 z_51
    obtain ⟨rfl, N_57, e_58⟩ := hQ_51
    have N_59 := Fr.app N_49 N_57
    have e_60 : T_51.heap = T_13.heap := e_58
    have C_61 : Steps p.tables e below S0 (T_51.setTop (mkF m 75 #[.val (.int p0), .val (.int p1), .val (.int p2), .val (.int p3), .val .null, .val (.ref a_14), .val (.ref kC), .val .null] [(.int (1 : Int32))])) := by
      refine C_2.trans ?_
      refine st_1.trans ?_
      refine XS.astore X_1.here hx rfl (hb hby at_7) rfl rfl (l' := #[.val (.int p0), .val (.int p1), .val (.int p2), .val (.int p3), .val .null, .unset, .unset, .unset]) rfl ?_
      refine XS.aload X_1.here hx rfl (hb hby at_9) rfl rfl ?_
      refine st_13.trans ?_
      refine XS.astore X_13.here hx rfl (hb hby at_14) rfl rfl (l' := #[.val (.int p0), .val (.int p1), .val (.int p2), .val (.int p3), .val .null, .val (.ref a_14), .unset, .unset]) rfl ?_
      refine XS.aload X_13.here hx rfl (hb hby at_16) rfl rfl ?_
      refine XS.ifnonnullYes X_13.here hx rfl (pc0 := 18) (pc' := 23) rfl (hb hby at_18) rfl (by decide) (by decide) ?_
      refine XS.aload X_13.here hx rfl (hb hby at_23) rfl rfl ?_
      show Steps p.tables e below (T_13.setTop (mkF m 25 #[.val (.int p0), .val (.int p1), .val (.int p2), .val (.int p3), .val .null, .val (.ref a_14), .unset, .unset] [(.ref a_14)])) _
      refine st_27.trans ?_
      refine XS.astore X_27.here hx rfl (hb hby at_28) rfl rfl (l' := #[.val (.int p0), .val (.int p1), .val (.int p2), .val (.int p3), .val .null, .val (.ref a_14), .val (.ref kC), .unset]) rfl ?_
      refine XS.aload X_27.here hx rfl (hb hby at_30) rfl rfl ?_
      refine st_40 _ ?_
      refine acmp X_38 hx rfl (cd := .eq) (x := (.ref kC)) (y := (.ref kC)) rfl rfl (same := true) (pc0 := 35) (pc' := 40) rfl (hb hby at_35) rfl (decide_eq_true rfl) (by decide) (by decide) ?_
      refine XS.aload X_38.here hx rfl (hb hby at_40) rfl rfl ?_
      refine st_41.trans ?_
      refine XS.sipush X_41.here hx rfl (hb hby at_45) ?_
      show Steps p.tables e below (T_41.setTop (mkF m 48 #[.val (.int p0), .val (.int p1), .val (.int p2), .val (.int p3), .val .null, .val (.ref a_14), .val (.ref kC), .unset] [(.int (422 : Int32)), (.int (422 : Int32))])) _
      refine XS.icmpYes X_41.here hx rfl (pc0 := 48) (pc' := 53) rfl (hb hby at_48) rfl (by decide) (by decide) (by decide) ?_
      refine XS.aload X_41.here hx rfl (hb hby at_53) rfl rfl ?_
      refine st_51.trans ?_
      refine XS.astore X_51.here hx rfl (hb hby at_58) rfl rfl (l' := #[.val (.int p0), .val (.int p1), .val (.int p2), .val (.int p3), .val .null, .val (.ref a_14), .val (.ref kC), .val .null]) rfl ?_
      refine XS.aload X_51.here hx rfl (hb hby at_60) rfl rfl ?_
      refine XS.ifnonnullNo X_51.here hx rfl (hb hby at_62) rfl ?_
      refine XS.aload X_51.here hx rfl (hb hby at_65) rfl rfl ?_
      refine XS.ifnonnullNo X_51.here hx rfl (hb hby at_67) rfl ?_
      show Steps p.tables e below (T_51.setTop (mkF m 70 #[.val (.int p0), .val (.int p1), .val (.int p2), .val (.int p3), .val .null, .val (.ref a_14), .val (.ref kC), .val .null] [])) _
      refine XS.iconst X_51.here hx rfl (hb hby at_70) ?_
      refine XS.goto X_51.here hx rfl (pc0 := 71) (pc' := 75) rfl (hb hby at_71) (by decide) (by decide) ?_
      exact Steps.refl _
    have K_62 : Keep h0 T_13.heap [] := (((Keep.refl _ _).trans K_6 all0).trans K_16 all0)
    obtain ⟨fs, hr, hrun, hended, hRE⟩ := X_51.leaveW hS_13 (by rw [show T_51.heap = T_13.heap from e_60]; exact (Nat.le_refl _)) (v := some (.int (1 : Int32))) (fun h => by rw [Bd.returns] at h; cases h)
    refine ⟨_, _, C_61.trans (retN X_51 hx (t := .boolean) Bd.returns (by simp) (hb hby at_75) hr), hrun, hended, _, _, rfl, ?_, ?_, hRE.1, hRE.2.1, hRE.2.2.1, hRE.2.2.2.mono (by decide) (by decide)⟩
    · show Q_law Z G1 kC uS sS p0 p1 p2 p3 h0 n0 (some (.int (1 : Int32))) T_51.heap _
      rw [e_60]
      exact ⟨rfl, N_59, K_62⟩
    · show CHr Z consts_1 s.vm s.heap T_51.vm T_51.heap
      rw [hh, show T_51.heap = T_13.heap from e_60]
      exact CR_23.trans (CHv.at X_51 hZ_13 hEL CH_22)
  · skip
    obtain ⟨a_63, a_64, k_65, i_66, x_67, rfl, N_68, K_69, g_70, g_71, g_72, g_73⟩ := hQ_4
    have N_74 := Fr.app N0 N_68
    have CH_75 : CHv Z consts_1 T_1.vm T_1.heap := R_1.1
    have CR_76 : CHr Z consts_1 s.vm h0 T_1.vm T_1.heap := CR0.trans R_1
    have hTK_77 : (s.setVm T_1.vm).vm.MethodsKnown := Vm.MethodsKnown.alikeC (hS_1.1.alike) hTK0
    have hBL_78 : (s.setVm T_1.vm).vm.FramesKnown below := Vm.FramesKnown.alikeC (hS_1.1.alike) hBL0
    have O_79 : Old Z n0 T_1.heap := (X00.keep K_69 all0)
    obtain ⟨_, _, ⟨T_80, L_80, k_80, n_80⟩, -, Y_80, S_80, G_80, ⟨Lc_80, hQ_80, l_80, y_80, z_80, R_80⟩, st_80⟩ := callSS X_1 hx (y := M101) hown_1 (mvT hZ_1 (w26 hw)) (mvT hZ_1 (w27 hw)) (mvT hZ_1 (w28 hw)) (mvT hZ_1 (w29 hw)) (by decide) (backOfSKH (vm0 := T_1.vm) (W := 0) (rm_mk l Z a0 hw [] G1 kC uS sS HG T_1.heap n0 O_79 a_63 ) hZ_1 (w29 hw) (w28 hw) (by decide) (by decide) hEL CH_75 hTK_77 hBL_78) (g := (mkF m 11 #[.val (.int p0), .val (.int p1), .val (.int p2), .val (.int p3), .val (.ref a_63), .unset, .unset, .unset] [(.ref a_63)])) rfl (by rw [hml]; rfl) (argsL := [(.ref a_63)]) (rest := []) (lenOf pd_395 rfl) rfl (by show 2 * 0 + _ ≤ _; exact Nat.le_of_eq rfl) (hb hby at_11) (fun _ _ => ⟨rfl, rfl, (by decide : 6 + 2 ≤ _), (by decide : 12 + 2759 ≤ _)⟩)
    dsimp only [Pt.U, Pt.locs, Pt.cells, Pt.slots] at Y_80 S_80 G_80 l_80 y_80 z_80 st_80 hQ_80 R_80
    subst l_80 y_80 z_80
    obtain ⟨X_80, hS_80, hZ_80, hown_80⟩ := rebS hS_1 (n1 := T_1.heap.size) (by rw [show T_1.heap = T_1.heap from rfl]; exact (Nat.le_refl _)) Y_80 S_80 G_80 hZ_1 hown_1
    obtain ⟨a_81, rfl, N_82, K_83, g_84, g_85, g_86, g_87⟩ := hQ_80
    have N_88 := Fr.app N_74 N_82
    have CH_89 : CHv Z consts_1 T_80.vm T_80.heap := R_80.1
    have CR_90 : CHr Z consts_1 s.vm h0 T_80.vm T_80.heap := CR_76.trans R_80
    have hTK_91 : (s.setVm T_80.vm).vm.MethodsKnown := Vm.MethodsKnown.alikeC (hS_80.1.alike) hTK0
    have hBL_92 : (s.setVm T_80.vm).vm.FramesKnown below := Vm.FramesKnown.alikeC (hS_80.1.alike) hBL0
    have O_93 : Old Z n0 T_80.heap := (O_79.keep K_83 all0)
    obtain ⟨q_95, q_96, q_97, q_98, q_99⟩ := isOf (T := T_80) hZ_80 rfl g_85
    obtain ⟨_, _, ⟨T_94, L_94, k_94, n_94⟩, -, X_94, ⟨Lc_94, hQ_94, l_94, y_94, z_94⟩, st_94⟩ := X_80.virtualBack hx (y := M123) (z := M123) hown_80 (mvT hZ_80 (w88 hw)) (mvT hZ_80 (w89 hw)) (notFace_of_selects (args := #[]) (mvT hZ_80 (w91 hw))) (mvT hZ_80 (w91 hw)) (mvT hZ_80 (w90 hw)) (by decide) (backOf (W := 0) (rm_kind l Z a0 hw [] G1 kC uS sS HG T_80.heap n0 O_93 a_81 g_86) hZ_80 (w92 hw) (w28 hw) (by decide) (by decide)) q_97 q_99 (g := (mkF m 25 #[.val (.int p0), .val (.int p1), .val (.int p2), .val (.int p3), .val (.ref a_63), .val (.ref a_81), .unset, .unset] [(.ref a_81)])) rfl (by rw [hml]; rfl) (Steps.refl _) (argsL := []) (rest := []) (lenOf pd_399 rfl) rfl (by show 2 * 0 + _ ≤ _; exact Nat.le_of_eq rfl) (hb hby at_25) (fun _ _ => ⟨rfl, rfl, (by decide : 8 + 0 ≤ _), (by decide : 2771 + 0 ≤ _)⟩)
    dsimp only [Pt.U, Pt.locs, Pt.cells, Pt.slots] at X_94 l_94 y_94 z_94 st_94 hQ_94
    subst l_94 y_94 z_94
    obtain ⟨rfl, N_100, e_101⟩ := hQ_94
    have N_102 := Fr.app N_88 N_100
    have e_103 : T_94.heap = T_80.heap := e_101
    obtain ⟨T_104, X_105, e_106, st_107⟩ := getS X_94 hx hZ_80 (host := "") hown_80 (w93 hw) Via.refl e_103 (O2.ext O_93.2) (g := (mkF m 32 #[.val (.int p0), .val (.int p1), .val (.int p2), .val (.int p3), .val (.ref a_63), .val (.ref a_81), .val (.ref kC), .unset] [(.ref kC)])) rfl (hb hby at_32)
    obtain ⟨q_109, q_110, q_111, q_112, q_113⟩ := isOf (T := T_104) hZ_80 e_106 (E2.ext O_93.2)
    obtain ⟨_, _, ⟨T_108, L_108, k_108, n_108⟩, -, X_108, ⟨Lc_108, hQ_108, l_108, y_108, z_108⟩, st_108⟩ := X_105.virtualBack hx (y := M127) (z := M127) hown_80 (mvT hZ_80 (w94 hw)) (mvT hZ_80 (w95 hw)) (notFace_of_selects (args := #[]) (mvT hZ_80 (w97 hw))) (mvT hZ_80 (w97 hw)) (mvT hZ_80 (w96 hw)) (by decide) (backOf (W := 0) (rm_kst l Z a0 hw [] G1 kC uS sS HG T_80.heap n0 O_93  ) hZ_80 (w98 hw) (w33 hw) (by decide) (by decide)) q_111 q_113 (g := (mkF m 42 #[.val (.int p0), .val (.int p1), .val (.int p2), .val (.int p3), .val (.ref a_63), .val (.ref a_81), .val (.ref kC), .unset] [(.ref kC)])) rfl (by rw [hml]; rfl) (Steps.refl _) (argsL := []) (rest := []) (lenOf pd_407 rfl) rfl (by show 2 * 0 + _ ≤ _; exact Nat.le_of_eq rfl) (hb hby at_42) (fun _ _ => ⟨rfl, e_106, (by decide : 8 + 0 ≤ _), (by decide : 2771 + 0 ≤ _)⟩)
    dsimp only [Pt.U, Pt.locs, Pt.cells, Pt.slots] at X_108 l_108 y_108 z_108 st_108 hQ_108
    subst l_108 y_108 z_108
    obtain ⟨rfl, N_114, e_115⟩ := hQ_108
    have N_116 := Fr.app N_102 N_114
    have e_117 : T_108.heap = T_80.heap := e_115
    obtain ⟨q_119, q_120, q_121, q_122, q_123⟩ := isOf (T := T_108) hZ_80 e_117 g_85
    obtain ⟨_, _, ⟨T_118, L_118, k_118, n_118⟩, -, X_118, ⟨Lc_118, hQ_118, l_118, y_118, z_118⟩, st_118⟩ := X_108.virtualBackUp hx (owner := "java/lang/Throwable") (x := M417) (y := M119) hown_80 (mvT hZ_80 (w101 hw)) (mvT hZ_80 (w102 hw)) (mvT hZ_80 (w103 hw)) (by decide) (mvT hZ_80 (w105 hw)) (mvT hZ_80 (w104 hw)) (backOf (W := 0) (rm_getmsg l Z a0 hw [] G1 kC uS sS HG T_80.heap n0 O_93 a_81 a_63 g_87) hZ_80 (w106 hw) (w47 hw) (by decide) (by decide)) q_121 q_123 (g := (mkF m 55 #[.val (.int p0), .val (.int p1), .val (.int p2), .val (.int p3), .val (.ref a_63), .val (.ref a_81), .val (.ref kC), .unset] [(.ref a_81)])) rfl (by rw [hml]; rfl) (Steps.refl _) (argsL := []) (rest := []) (lenOf pd_413 rfl) rfl (by show 2 * 0 + _ ≤ _; exact Nat.le_of_eq rfl) (hb hby at_55) (fun _ _ => ⟨rfl, e_117, (by decide : 8 + 0 ≤ _), (by decide : 2771 + 0 ≤ _)⟩)
    dsimp only [Pt.U, Pt.locs, Pt.cells, Pt.slots] at X_118 l_118 y_118 z_118 st_118 hQ_118
    subst l_118 y_118 z_118
    obtain ⟨rfl, N_124, e_125⟩ := hQ_118
    have N_126 := Fr.app N_116 N_124
    have e_127 : T_118.heap = T_80.heap := e_125
    have E_128 : Exa Z T_80.heap a_63 "java/lang/String" := (g_70.keep K_83)
    have F_129 : Fld Z T_80.heap a_63 "java/lang/String" "coder" "B" (.int (0 : Int32)) := (g_71.keep K_83 nin0)
    have F_130 : Fld Z T_80.heap a_63 "java/lang/String" "value" "[B" (.ref a_64) := (g_72.keep K_83 nin0)
    have V_131 : Arv Z T_80.heap a_64 k_65 .byte i_66 x_67 (.int (0 : Int32)) := (g_73.keep K_83 nin0)
    obtain ⟨q_133, q_134, q_135, q_136, q_137⟩ := isOf (T := T_118) hZ_80 e_127 E_128
    obtain ⟨_, _, ⟨T_132, L_132, k_132, n_132⟩, -, X_132, ⟨Lc_132, hQ_132, l_132, y_132, z_132⟩, st_132⟩ := X_118.virtualBack hx (y := M287) (z := M287) hown_80 (mvT hZ_80 (w107 hw)) (mvT hZ_80 (w108 hw)) (notFace_of_selects (args := #[]) (mvT hZ_80 (w110 hw))) (mvT hZ_80 (w110 hw)) (mvT hZ_80 (w109 hw)) (by decide) (backOf (W := 0) (rm_lenany l Z a0 hw [] G1 kC uS sS HG T_80.heap n0 O_93 a_63 a_64 k_65 i_66 x_67 E_128 F_129 F_130 V_131) hZ_80 (w111 hw) (w6 hw) (by decide) (by decide)) q_135 q_137 (g := (mkF m 83 #[.val (.int p0), .val (.int p1), .val (.int p2), .val (.int p3), .val (.ref a_63), .val (.ref a_81), .val (.ref kC), .val (.ref a_63)] [(.ref a_63)])) rfl (by rw [hml]; rfl) (Steps.refl _) (argsL := []) (rest := []) (lenOf pd_407 rfl) rfl (by show 2 * 0 + _ ≤ _; exact Nat.le_of_eq rfl) (hb hby at_83) (fun _ _ => ⟨rfl, e_127, (by decide : 8 + 0 ≤ _), (by decide : 2771 + 0 ≤ _)⟩)
    dsimp only [Pt.U, Pt.locs, Pt.cells, Pt.slots] at X_132 l_132 y_132 z_132 st_132 hQ_132
    subst l_132 y_132 z_132
    obtain ⟨rfl, N_138, e_139⟩ := hQ_132
    have N_140 := Fr.app N_126 N_138
    have e_141 : T_132.heap = T_80.heap := e_139
    obtain ⟨q_143, q_144, q_145, q_146, q_147⟩ := isOf (T := T_132) hZ_80 e_141 E_128
    obtain ⟨_, _, ⟨T_142, L_142, k_142, n_142⟩, -, X_142, ⟨Lc_142, hQ_142, l_142, y_142, z_142⟩, st_142⟩ := X_132.virtualBack hx (y := M287) (z := M287) hown_80 (mvT hZ_80 (w107 hw)) (mvT hZ_80 (w108 hw)) (notFace_of_selects (args := #[]) (mvT hZ_80 (w110 hw))) (mvT hZ_80 (w110 hw)) (mvT hZ_80 (w109 hw)) (by decide) (backOf (W := 1) (rm_lenany l Z a0 hw [] G1 kC uS sS HG T_80.heap n0 O_93 a_63 a_64 k_65 i_66 x_67 E_128 F_129 F_130 V_131) hZ_80 (w111 hw) (w6 hw) (by decide) (by decide)) q_145 q_147 (g := (mkF m 88 #[.val (.int p0), .val (.int p1), .val (.int p2), .val (.int p3), .val (.ref a_63), .val (.ref a_81), .val (.ref kC), .val (.ref a_63)] [(.ref a_63), (.int (i_66 >>> ((0 : Int32) &&& 31)))])) rfl (by rw [hml]; rfl) (Steps.refl _) (argsL := []) (rest := [(.int (i_66 >>> ((0 : Int32) &&& 31)))]) (lenOf pd_407 rfl) rfl (by show 2 * 0 + _ ≤ _; exact Nat.le_of_eq rfl) (hb hby at_88) (fun _ _ => ⟨rfl, e_141, (by decide : 8 + 0 ≤ _), (by decide : 2771 + 0 ≤ _)⟩)
    dsimp only [Pt.U, Pt.locs, Pt.cells, Pt.slots] at X_142 l_142 y_142 z_142 st_142 hQ_142
    subst l_142 y_142 z_142
    obtain ⟨rfl, N_148, e_149⟩ := hQ_142
    have N_150 := Fr.app N_140 N_148
    have e_151 : T_142.heap = T_80.heap := e_149
    obtain ⟨q_153, q_154, q_155, q_156, q_157⟩ := isOf (T := T_142) hZ_80 e_151 E_128
    obtain ⟨_, _, ⟨T_152, L_152, k_152, n_152⟩, -, X_152, ⟨Lc_152, hQ_152, l_152, y_152, z_152⟩, st_152⟩ := X_142.virtualBack hx (y := M133) (z := M133) hown_80 (mvT hZ_80 (w118 hw)) (mvT hZ_80 (w119 hw)) (notFace_of_selects (args := #[]) (mvT hZ_80 (w121 hw))) (mvT hZ_80 (w121 hw)) (mvT hZ_80 (w120 hw)) (by decide) (backOf (W := 0) (rm_eqself l Z a0 hw [] G1 kC uS sS HG T_80.heap n0 O_93 a_63 ) hZ_80 (w122 hw) (w6 hw) (by decide) (by decide)) q_155 q_157 (g := (mkF m 98 #[.val (.int p0), .val (.int p1), .val (.int p2), .val (.int p3), .val (.ref a_63), .val (.ref a_81), .val (.ref kC), .val (.ref a_63)] [(.ref a_63), (.ref a_63)])) rfl (by rw [hml]; rfl) (Steps.refl _) (argsL := [(.ref a_63)]) (rest := []) (lenOf pd_426 rfl) rfl (by show 2 * 0 + _ ≤ _; exact Nat.le_of_eq rfl) (hb hby at_98) (fun _ _ => ⟨rfl, e_151, (by decide : 8 + 0 ≤ _), (by decide : 2771 + 0 ≤ _)⟩)
    dsimp only [Pt.U, Pt.locs, Pt.cells, Pt.slots] at X_152 l_152 y_152 z_152 st_152 hQ_152
    subst l_152 y_152 z_152
    obtain ⟨rfl, N_158, e_159⟩ := hQ_152
    have N_160 := Fr.app N_150 N_158
    have e_161 : T_152.heap = T_80.heap := e_159
    have C_162 : Steps p.tables e below S0 (T_152.setTop (mkF m 109 #[.val (.int p0), .val (.int p1), .val (.int p2), .val (.int p3), .val (.ref a_63), .val (.ref a_81), .val (.ref kC), .val (.ref a_63)] [(.int (1 : Int32))])) := by
      refine C_2.trans ?_
      refine st_1.trans ?_
      refine XS.astore X_1.here hx rfl (hb hby at_7) rfl rfl (l' := #[.val (.int p0), .val (.int p1), .val (.int p2), .val (.int p3), .val (.ref a_63), .unset, .unset, .unset]) rfl ?_
      refine XS.aload X_1.here hx rfl (hb hby at_9) rfl rfl ?_
      refine st_80.trans ?_
      refine XS.astore X_80.here hx rfl (hb hby at_14) rfl rfl (l' := #[.val (.int p0), .val (.int p1), .val (.int p2), .val (.int p3), .val (.ref a_63), .val (.ref a_81), .unset, .unset]) rfl ?_
      refine XS.aload X_80.here hx rfl (hb hby at_16) rfl rfl ?_
      refine XS.ifnonnullYes X_80.here hx rfl (pc0 := 18) (pc' := 23) rfl (hb hby at_18) rfl (by decide) (by decide) ?_
      refine XS.aload X_80.here hx rfl (hb hby at_23) rfl rfl ?_
      show Steps p.tables e below (T_80.setTop (mkF m 25 #[.val (.int p0), .val (.int p1), .val (.int p2), .val (.int p3), .val (.ref a_63), .val (.ref a_81), .unset, .unset] [(.ref a_81)])) _
      refine st_94.trans ?_
      refine XS.astore X_94.here hx rfl (hb hby at_28) rfl rfl (l' := #[.val (.int p0), .val (.int p1), .val (.int p2), .val (.int p3), .val (.ref a_63), .val (.ref a_81), .val (.ref kC), .unset]) rfl ?_
      refine XS.aload X_94.here hx rfl (hb hby at_30) rfl rfl ?_
      refine st_107 _ ?_
      refine acmp X_105 hx rfl (cd := .eq) (x := (.ref kC)) (y := (.ref kC)) rfl rfl (same := true) (pc0 := 35) (pc' := 40) rfl (hb hby at_35) rfl (decide_eq_true rfl) (by decide) (by decide) ?_
      refine XS.aload X_105.here hx rfl (hb hby at_40) rfl rfl ?_
      refine st_108.trans ?_
      refine XS.sipush X_108.here hx rfl (hb hby at_45) ?_
      show Steps p.tables e below (T_108.setTop (mkF m 48 #[.val (.int p0), .val (.int p1), .val (.int p2), .val (.int p3), .val (.ref a_63), .val (.ref a_81), .val (.ref kC), .unset] [(.int (422 : Int32)), (.int (422 : Int32))])) _
      refine XS.icmpYes X_108.here hx rfl (pc0 := 48) (pc' := 53) rfl (hb hby at_48) rfl (by decide) (by decide) (by decide) ?_
      refine XS.aload X_108.here hx rfl (hb hby at_53) rfl rfl ?_
      refine st_118.trans ?_
      refine XS.astore X_118.here hx rfl (hb hby at_58) rfl rfl (l' := #[.val (.int p0), .val (.int p1), .val (.int p2), .val (.int p3), .val (.ref a_63), .val (.ref a_81), .val (.ref kC), .val (.ref a_63)]) rfl ?_
      refine XS.aload X_118.here hx rfl (hb hby at_60) rfl rfl ?_
      refine XS.ifnonnullYes X_118.here hx rfl (pc0 := 62) (pc' := 76) rfl (hb hby at_62) rfl (by decide) (by decide) ?_
      refine XS.aload X_118.here hx rfl (hb hby at_76) rfl rfl ?_
      refine XS.ifnullNo X_118.here hx rfl (hb hby at_78) rfl ?_
      show Steps p.tables e below (T_118.setTop (mkF m 81 #[.val (.int p0), .val (.int p1), .val (.int p2), .val (.int p3), .val (.ref a_63), .val (.ref a_81), .val (.ref kC), .val (.ref a_63)] [])) _
      refine XS.aload X_118.here hx rfl (hb hby at_81) rfl rfl ?_
      refine st_132.trans ?_
      refine XS.aload X_132.here hx rfl (hb hby at_86) rfl rfl ?_
      refine st_142.trans ?_
      refine XS.icmpNo X_142.here hx rfl (hb hby at_91) rfl (ii_ne_f rfl) ?_
      refine XS.aload X_142.here hx rfl (hb hby at_94) rfl rfl ?_
      refine XS.aload X_142.here hx rfl (hb hby at_96) rfl rfl ?_
      refine st_152.trans ?_
      show Steps p.tables e below (T_152.setTop (mkF m 101 #[.val (.int p0), .val (.int p1), .val (.int p2), .val (.int p3), .val (.ref a_63), .val (.ref a_81), .val (.ref kC), .val (.ref a_63)] [(.int (1 : Int32))])) _
      refine XS.ifNo X_152.here hx rfl (hb hby at_101) rfl (by decide) ?_
      refine XS.iconst X_152.here hx rfl (hb hby at_104) ?_
      refine XS.goto X_152.here hx rfl (pc0 := 105) (pc' := 109) rfl (hb hby at_105) (by decide) (by decide) ?_
      exact Steps.refl _
    have K_163 : Keep h0 T_80.heap [] := (((Keep.refl _ _).trans K_69 all0).trans K_83 all0)
    obtain ⟨fs, hr, hrun, hended, hRE⟩ := X_152.leaveW hS_80 (by rw [show T_152.heap = T_80.heap from e_161]; exact (Nat.le_refl _)) (v := some (.int (1 : Int32))) (fun h => by rw [Bd.returns] at h; cases h)
    refine ⟨_, _, C_162.trans (retN X_152 hx (t := .boolean) Bd.returns (by simp) (hb hby at_109) hr), hrun, hended, _, _, rfl, ?_, ?_, hRE.1, hRE.2.1, hRE.2.2.1, hRE.2.2.2.mono (by decide) (by decide)⟩
    · show Q_law Z G1 kC uS sS p0 p1 p2 p3 h0 n0 (some (.int (1 : Int32))) T_152.heap _
      rw [e_161]
      exact ⟨rfl, N_160, K_163⟩
    · show CHr Z consts_1 s.vm s.heap T_152.vm T_152.heap
      rw [hh, show T_152.heap = T_80.heap from e_161]
      exact CR_90.trans (CHv.at X_152 hZ_80 hEL CH_89)
theorem w34 {Z : State} {a0 : Array Value} (hw : ∀ d ∈ tables_1, d.before a0 Z = true) : Jvm.Cond.before (Jvm.Cond.laysStatic "com/example/manque/manque/Declined$Kind" "REFUSED" "Lcom/example/manque/manque/Declined$Kind;") a0 Z = true := hw _ (List.mem_of_getElem? (i := 34) rfl)
theorem w78 {Z : State} {a0 : Array Value} (hw : ∀ d ∈ tables_1, d.before a0 Z = true) : Jvm.Cond.before (Jvm.Cond.laysStatic "java/lang/Throwable" "UNASSIGNED_STACK" "[Ljava/lang/StackTraceElement;") a0 Z = true := hw _ (List.mem_of_getElem? (i := 78) rfl)
theorem w79 {Z : State} {a0 : Array Value} (hw : ∀ d ∈ tables_1, d.before a0 Z = true) : Jvm.Cond.before (Jvm.Cond.laysStatic "java/lang/Throwable" "SUPPRESSED_SENTINEL" "Ljava/util/List;") a0 Z = true := hw _ (List.mem_of_getElem? (i := 79) rfl)
theorem own_sta {s : State} {args : Array Value} {C n d K : String} (hx : (Jvm.Cond.exactly (.static C n d) K).value args s none s [] = some true) (hi : (Jvm.Cond.initialized C).before args s = true) (hl : (Jvm.Cond.laysStatic C n d).before args s = true) :
    ∃ a, Sta s s.heap C n d (.ref a) ∧ Exa s s.heap a K ∧ (Term.static C n d).eval args s none [] s = some (.ref a) := by
  obtain ⟨a, c', cell, k, e1, -⟩ := Cond.exactly_spec (Cond.before_iff.mpr hx)
  exact ⟨a, Sta.start e1 (Or.inr ⟨hi, hl⟩), Exa.start e1 hx, e1⟩
theorem own_fld {s : State} {args : Array Value} {t : Term} {a : Addr} {O n d : String} {v : Value} (ev : t.eval args s none [] s = some (.ref a)) (h : (Term.field t O n d).eval args s none [] s = some v) : Fld s s.heap a O n d v :=
  Fld.start (by simpa [Term.eval, ev] using h)
theorem own_fldI {s : State} {args : Array Value} {t : Term} {a : Addr} {O n d : String} {i : Int32} (ev : t.eval args s none [] s = some (.ref a)) (h : (Jvm.Cond.eq (Term.field t O n d) (.int i)).value args s none s [] = some true) : Fld s s.heap a O n d (.int i) :=
  own_fld ev (eqv_i (Term.int_eval i) h)
theorem own_methods {s : State} (h : Jvm.Pilot.@@N@@.Jvm.D.tablesKnown s = true) : s.vm.MethodsKnown := MethodsKnown_of_tablesKnown h
theorem own_frames {s : State} {m : MethodId} {args : Array Value} {below : List Frame} (hf : s.frames = .invoking m args :: below) (h : Jvm.Pilot.@@N@@.Jvm.D.framesKnown s = true) : s.vm.FramesKnown below := FramesKnown_of_framesKnown h hf
set_option maxRecDepth 65536 in
set_option maxHeartbeats 40000000 in
theorem comes_1 {Post : Tables → Env → Array Value → State → Outcome → State → Prop} (hpost : ∀ tb e args s v u, (limb_1_1.after args s (.returned v) u = true ∧ limb_1_2.after args s (.returned v) u = true ∧ True) → ReturnedEndW s (.returned v) u (Jvm.fieldLocs frame_1_writes args s ++ Jvm.arrayLocs frame_1_arrays args s ++ Jvm.staticLocs frame_1_statics s) 24 6656 → Post tb e args s (.returned v) u) :
    ArmFor flags0 classFile x code maxLocals ret World_1 tables_1 room_1 Calls_1 rest_1 Pre_1 Post := by
  intro l hfl _ _ p e ha hc hk s m args below hf hA hF happ hP
  obtain ⟨hcalls, hrest, hpre⟩ := hP
  obtain ⟨-, -, -, hnamed, -, -, -, hat⟩ := (Spec.applies_iff hf).mp happ
  obtain ⟨hg, hn⟩ := and_e (Cond.before_iff.mp (show (Jvm.Cond.and given_1 narrow_1).before args s = true from hpre))
  obtain ⟨h1, g0⟩ := and_e hg
  obtain ⟨a0, g1⟩ := and_e g0
  obtain ⟨a1, g2⟩ := and_e g1
  obtain ⟨a2, g3⟩ := and_e g2
  have a3 := g3
  obtain ⟨w0, w1, w2, w3, rfl⟩ : ∃ w0 w1 w2 w3 : Value, args = #[w0, w1, w2, w3] := by
    have hs : args.size = 4 := by simpa [Cond.value, given_1] using h1
    obtain ⟨L⟩ := args
    match L, hs with
    | [w0, w1, w2, w3], _ => exact ⟨w0, w1, w2, w3, rfl⟩
  have hw := fun d (hd : d ∈ tables_1) => atoms_spec (ws := Jvm.Cond.code x code maxLocals ret :: tables_1) hat d (List.mem_cons_of_mem _ hd)
  obtain ⟨hsets, hown0⟩ := atoms_of _ (rest_1_c_eq ▸ (show rest_1_c.before _ s = true from hrest))
  have hfit : Fit s := fun {y c} hc i hi => by
    obtain ⟨ha, rfl⟩ := Array.getElem?_eq_some_iff.mp hc
    have q := List.all_eq_true.mp ((Array.all_eq_true_iff_forall_mem.mp hF) _ (Array.getElem_mem ha)) i (List.mem_range.mpr hi)
    simpa [Array.getElem?_eq_getElem hi] using q
  obtain ⟨i0, q0⟩ := is_v a0
  obtain rfl : w0 = (.int i0) := Option.some.inj q0
  obtain ⟨i1, q1⟩ := is_v a1
  obtain rfl : w1 = (.int i1) := Option.some.inj q1
  obtain ⟨i2, q2⟩ := is_v a2
  obtain rfl : w2 = (.int i2) := Option.some.inj q2
  obtain ⟨i3, q3⟩ := is_v a3
  obtain rfl : w3 = (.int i3) := Option.some.inj q3
  obtain ⟨iCS, eCS⟩ := is_v (Cond.before_iff.mp (hsets _ (List.mem_of_getElem? (i := 21) rfl)))
  have SCS : Sta s s.heap "java/lang/String" "COMPACT_STRINGS" "Z" (.int iCS) := Sta.start eCS (Or.inl (hsets _ (List.mem_of_getElem? (i := 20) rfl)))
  have PCS : ¬ (iCS = (0 : Int32)) := gotF (Cond.eq_ints eCS (Term.int_eval (0))) (not_v (Cond.before_iff.mp (hsets _ (List.mem_of_getElem? (i := 22) rfl))))
  obtain ⟨n1, n2⟩ := and_e hn
  obtain ⟨kC, S1, E1, v1⟩ := own_sta n1 (w33 hw) (w34 hw)
  have F1 := own_fldI v1 n2
  have hLT : l.stackTraces = true := by unfold Launch.stackTraces; rw [hfl]; decide
  have hTR := two_refs hfit (w78 hw) (w79 hw)
  obtain ⟨uS, eU, rU⟩ := isR_v (Cond.before_iff.mp (hTR _ (List.mem_of_getElem? (i := 0) rfl)))
  obtain ⟨sS, eS, rS⟩ := isR_v (Cond.before_iff.mp (hTR _ (List.mem_of_getElem? (i := 1) rfl)))
  have SU : Sta s s.heap "java/lang/Throwable" "UNASSIGNED_STACK" "[Ljava/lang/StackTraceElement;" uS := Sta.start eU (Or.inr ⟨(w47 hw), (w78 hw)⟩)
  have SS : Sta s s.heap "java/lang/Throwable" "SUPPRESSED_SENTINEL" "Ljava/util/List;" sS := Sta.start eS (Or.inr ⟨(w47 hw), (w79 hw)⟩)
  have HG : own_G l s #[(.int i0), (.int i1), (.int i2), (.int i3)] iCS kC uS sS := ⟨SCS, PCS, S1, E1, F1, hLT, SU, rU, SS, rS⟩
  have CH : CHv s consts_1 s.vm s.heap := CHv.start (own_EL hw) hcalls.2.2.1 (hsets _ (List.mem_of_getElem? (i := 22) rfl)) (hw _ (List.mem_of_getElem? (i := 19) rfl)) (hw _ (List.mem_of_getElem? (i := 5) rfl))
  have hTK : s.vm.MethodsKnown := own_methods hcalls.2.1
  have hBL : s.vm.FramesKnown below := own_frames hf hcalls.1
  obtain ⟨n, o, h1, h2, h3, _, L, rfl, ⟨rfl, N, -⟩, -, hq⟩ := rm_law l s _ hw tables_1 iCS kC uS sS HG s.heap s.heap.size (Old.start s) i0 i1 i2 i3 p e ha hc hk s m _ below hf ((Spec.applies_iff_loose hf).mp happ).1 ⟨rfl, State.Warmed39.refl s, rfl, CH⟩ ⟨hTK, hBL⟩
  refine ⟨n, _, h1, h2, h3, hpost _ _ _ _ _ _ ⟨Cond.after_iff.mpr rfl, Cond.after_iff.mpr (eq_i res_at (Term.int_eval (1)) rfl), trivial⟩ ⟨hq.1, hq.2.1, hq.2.2.1, (hq.2.2.2.sift fun y hy => Or.inr (N y hy)).mono (by decide) (by decide)⟩⟩
theorem main_1_1 : Claimed_1_1 := comes_1 fun _ _ _ _ _ _ h hF => ⟨h.1, hF⟩
theorem main_1_2 : Claimed_1_2 := comes_1 fun _ _ _ _ _ _ h hF => ⟨h.2.1, hF⟩
end Jvm.Pilot.@@N@@
namespace Jvm.Pilot.@@N@@
open Jvm Jvm.ClassFile Sem Op Lib Jvm.Free Jvm.Stand Jvm.Pilot.@@N@@.Jvm.D
/-! MADE BY PROGRAM (witnessworld.py) out of the Statement's table words and the real class files: 37 classes; the members and pool entries that the words name. The judged class is class 1, her method 2. -/
namespace start1
open Jvm.ClassFile
def u (s : String) : CpInfo := .utf8 (stringToUtf16 s)
/-- a pool by its gaps: so many unusable entries, then the entry; so many at the end -/
def gap : Nat → List CpInfo → List CpInfo
  | 0, r => r
  | n + 1, r => .unusable :: gap n r
def poolList (es : List (Nat × CpInfo)) (last : Nat) : List CpInfo := es.foldr (fun e r => gap e.1 (e.2 :: r)) (gap last [])
def pool (es : List (Nat × CpInfo)) (last : Nat) : Array CpInfo := ⟨poolList es last⟩
def fileOf (pool : Array CpInfo) (this : Nat) (attrs : Array Attribute := #[]) (ms : Array MethodInfo := #[]) (fl : Nat := 33) (sup : Nat := 0) (ifs : Array Nat := #[]) (fds : Array FieldInfo := #[]) : ClassFile where
  minorVersion := 0
  majorVersion := 65
  constantPool := pool
  accessFlags := fl
  thisClass := this
  superClass := sup
  interfaces := ifs
  fields := fds
  methods := ms
  attributes := attrs
def plain (name : String) (sup : Option ClassId) : Class where
  name := name
  kind := .ordinary
  loader := none
  accessFlags := 33
  super := sup
  interfaces := #[]
  cf := none
  fields := #[]
  methods := #[]
  instanceTypes := #[]
  staticTypes := #[]
  resolved := #[]
  callSites := []
  init := .initialized
  statics := none
  mirror := none

def pool0 : Array CpInfo := pool [(5, u "<init>"), (0, u "()V"), (1, .class_ 10), (1, u "java/lang/Object")] 113

def k0c0 : Code := { maxStack := 0, maxLocals := 1, code := object_method_1_code, exceptionTable := #[], attributes := #[] }
def k0m0 : Method := { name := "<init>", desc := "()V", sig := { parameters := [], returnType := none }, accessFlags := 1, code := some k0c0 }
/-- java/lang/Object -/
def k0 : Class := { plain "java/lang/Object" none with
  accessFlags := 33
  interfaces := #[]
  cf := some (fileOf pool0 8 #[] #[{ accessFlags := 1, nameIndex := 5, descriptorIndex := 6, attributes := #[] }] 33 0 #[] #[])
  fields := #[]
  methods := #[k0m0]
  instanceTypes := #[]
  staticTypes := #[]
  resolved := Array.replicate 124 none
  statics := none }

def pool1 : Array CpInfo := pool [(2, .class_ 4), (1, u "java/lang/Object"), (0, u "<init>"), (0, u "()V"), (0, .class_ 8), (0, u "java/lang/String"), (0, .methodref 7 10), (0, .nameAndType 5 11), (0, u "([C)V"), (0, .methodref 7 13), (0, .nameAndType 14 15), (0, u "valueOf"), (0, u "(C)Ljava/lang/String;"), (0, .methodref 17 18), (0, .class_ 19), (0, .nameAndType 20 21), (0, u "com/example/manque/manque/DeclinedRefusedPinLaw"), (0, u "make"), (0, u "(IIII)Ljava/lang/String;"), (0, .methodref 23 24), (0, .class_ 25), (0, .nameAndType 26 27), (0, u "com/example/manque/manque/Declined"), (0, u "refused"), (0, u "(Ljava/lang/String;)Lcom/example/manque/manque/Declined;"), (0, .methodref 23 29), (0, .nameAndType 30 31), (0, u "kind"), (0, u "()Lcom/example/manque/manque/Declined$Kind;"), (0, .fieldref 33 34), (0, .class_ 35), (0, .nameAndType 36 37), (0, u "com/example/manque/manque/Declined$Kind"), (0, u "REFUSED"), (0, u "Lcom/example/manque/manque/Declined$Kind;"), (0, .methodref 33 39), (0, .nameAndType 40 41), (0, u "status"), (0, u "()I"), (0, .methodref 23 43), (0, .nameAndType 44 45), (0, u "getMessage"), (0, u "()Ljava/lang/String;"), (0, .methodref 7 47), (0, .nameAndType 48 41), (0, u "length"), (0, .methodref 7 50), (0, .nameAndType 51 52), (0, u "equals"), (0, u "(Ljava/lang/Object;)Z"), (3, u "law"), (0, u "(IIII)Z")] 4

def k1m0 : Method := { name := "<init>", desc := "()V", sig := { parameters := [], returnType := none }, accessFlags := 2, code := none }
def k1c1 : Code := { maxStack := 6, maxLocals := 8, code := method_2_code, exceptionTable := #[], attributes := #[] }
def k1m1 : Method := { name := "make", desc := "(IIII)Ljava/lang/String;", sig := { parameters := [.int, .int, .int, .int], returnType := some (.object "java/lang/String") }, accessFlags := 10, code := some k1c1 }
def k1c2 : Code := { maxStack := 4, maxLocals := 8, code := code, exceptionTable := #[], attributes := #[] }
def k1m2 : Method := { name := "law", desc := "(IIII)Z", sig := { parameters := [.int, .int, .int, .int], returnType := some .boolean }, accessFlags := 9, code := some k1c2 }
/-- com/example/manque/manque/DeclinedRefusedPinLaw -/
def k1 : Class := { plain "com/example/manque/manque/DeclinedRefusedPinLaw" (some 0) with
  accessFlags := 49
  interfaces := #[]
  cf := some (fileOf pool1 17 #[] #[{ accessFlags := 2, nameIndex := 5, descriptorIndex := 6, attributes := #[] }, { accessFlags := 10, nameIndex := 20, descriptorIndex := 21, attributes := #[] }, { accessFlags := 9, nameIndex := 56, descriptorIndex := 57, attributes := #[] }] 49 2 #[] #[])
  fields := #[]
  methods := #[k1m0, k1m1, k1m2]
  instanceTypes := #[]
  staticTypes := #[]
  resolved := Array.replicate 62 none
  statics := none }

def pool2 : Array CpInfo := pool [(1, .class_ 2), (0, u "java/io/Serializable"), (0, .class_ 4), (0, u "java/lang/Object")] 2

/-- java/io/Serializable -/
def k2 : Class := { plain "java/io/Serializable" (some 0) with
  accessFlags := 1537
  interfaces := #[]
  cf := some (fileOf pool2 1 #[] #[] 1537 3 #[] #[])
  fields := #[]
  methods := #[]
  instanceTypes := #[]
  staticTypes := #[]
  resolved := Array.replicate 7 none
  statics := none }

def pool3 : Array CpInfo := pool [(1, .class_ 2), (0, u "java/lang/Comparable"), (0, .class_ 4), (0, u "java/lang/Object")] 7

/-- java/lang/Comparable -/
def k3 : Class := { plain "java/lang/Comparable" (some 0) with
  accessFlags := 1537
  interfaces := #[]
  cf := some (fileOf pool3 1 #[] #[] 1537 3 #[] #[])
  fields := #[]
  methods := #[]
  instanceTypes := #[]
  staticTypes := #[]
  resolved := Array.replicate 12 none
  statics := none }

def pool4 : Array CpInfo := pool [(2, .class_ 4), (1, u "java/lang/CharSequence"), (42, .class_ 48), (0, u "java/lang/CharSequence$1CodePointIterator"), (10, .class_ 60), (0, u "java/lang/CharSequence$1CharIterator"), (5, .class_ 67), (0, u "java/lang/Object")] 63

/-- java/lang/CharSequence -/
def k4 : Class := { plain "java/lang/CharSequence" (some 0) with
  accessFlags := 1537
  interfaces := #[]
  cf := some (fileOf pool4 2 #[.nestMembers #[47, 59]] #[] 1537 66 #[] #[])
  fields := #[]
  methods := #[]
  instanceTypes := #[]
  staticTypes := #[]
  resolved := Array.replicate 131 none
  statics := none }

def pool5 : Array CpInfo := pool [(1, .class_ 2), (0, u "java/lang/constant/Constable"), (0, .class_ 4), (0, u "java/lang/Object")] 6

/-- java/lang/constant/Constable -/
def k5 : Class := { plain "java/lang/constant/Constable" (some 0) with
  accessFlags := 1537
  interfaces := #[]
  cf := some (fileOf pool5 1 #[] #[] 1537 3 #[] #[])
  fields := #[]
  methods := #[]
  instanceTypes := #[]
  staticTypes := #[]
  resolved := Array.replicate 11 none
  statics := none }

def pool6 : Array CpInfo := pool [(1, .class_ 2), (0, u "java/lang/constant/ConstantDesc"), (0, .class_ 4), (0, u "java/lang/Object")] 32

/-- java/lang/constant/ConstantDesc -/
def k6 : Class := { plain "java/lang/constant/ConstantDesc" (some 0) with
  accessFlags := 1537
  interfaces := #[]
  cf := some (fileOf pool6 1 #[] #[] 1537 3 #[] #[])
  fields := #[]
  methods := #[]
  instanceTypes := #[]
  staticTypes := #[]
  resolved := Array.replicate 37 none
  statics := none }

def pool7 : Array CpInfo := pool [(1, .methodref 2 3), (0, .class_ 4), (0, .nameAndType 5 6), (0, u "java/lang/Object"), (0, u "<init>"), (0, u "()V"), (0, .string 8), (0, u ""), (0, .fieldref 10 11), (0, .class_ 12), (0, .nameAndType 13 14), (0, u "java/lang/String"), (0, u "value"), (0, u "[B"), (0, .fieldref 10 16), (0, .nameAndType 17 18), (0, u "coder"), (0, u "B"), (2, u "hash"), (0, u "I"), (2, u "hashIsZero"), (0, u "Z"), (0, .methodref 10 28), (0, .nameAndType 5 29), (0, u "([CIILjava/lang/Void;)V"), (8, .fieldref 10 39), (0, .nameAndType 40 26), (0, u "COMPACT_STRINGS"), (1, .class_ 44), (1, u "java/lang/StringUTF16"), (0, u "compress"), (1, .methodref 42 48), (0, .nameAndType 49 50), (0, u "coderFromArrayLen"), (0, u "([BI)B"), (2, u "toBytes"), (53, .class_ 109), (1, u "java/lang/StringLatin1"), (67, .methodref 42 178), (0, .nameAndType 45 179), (0, u "([CII)[B"), (29, .methodref 10 210), (0, .nameAndType 5 211), (0, u "([BB)V"), (122, u "()I"), (0, .methodref 10 336), (0, .nameAndType 17 337), (0, u "()B"), (31, u "(C)Z"), (137, u "length"), (35, u "equals"), (29, u "(Ljava/lang/Object;)Z"), (1, .class_ 576), (0, u "java/lang/CharSequence"), (22, u "CASE_INSENSITIVE_ORDER"), (0, u "Ljava/util/Comparator;"), (181, u "valueOf"), (0, u "(C)Ljava/lang/String;"), (226, u "([C)V"), (4, .methodref 107 1016), (0, .nameAndType 1017 369), (0, u "canEncode"), (0, .methodref 107 1019), (0, .nameAndType 53 1020), (0, u "(C)[B"), (80, u "serialPersistentFields"), (0, u "[Ljava/io/ObjectStreamField;"), (0, .class_ 1104), (0, u "java/lang/String$CaseInsensitiveComparator"), (1, .class_ 1107), (0, u "java/io/Serializable"), (0, .class_ 1109), (0, u "java/lang/Comparable"), (0, .class_ 1111), (0, u "java/lang/constant/Constable"), (0, .class_ 1113), (0, u "java/lang/constant/ConstantDesc"), (2, u "serialVersionUID"), (0, u "J"), (3, u "REPL"), (0, u "C"), (2, u "LATIN1"), (1, u "UTF16")] 323

def k7m0 : Method := { name := "<init>", desc := "()V", sig := { parameters := [], returnType := none }, accessFlags := 1, code := none }
def k7c1 : Code := { maxStack := 5, maxLocals := 2, code := jdk_42_method_3_code, exceptionTable := #[], attributes := #[] }
def k7m1 : Method := { name := "<init>", desc := "([C)V", sig := { parameters := [(.array .char)], returnType := none }, accessFlags := 1, code := some k7c1 }
def k7c2 : Code := { maxStack := 2, maxLocals := 1, code := jdk_42_method_54_code, exceptionTable := #[], attributes := #[] }
def k7m2 : Method := { name := "length", desc := "()I", sig := { parameters := [], returnType := some .int }, accessFlags := 1, code := some k7c2 }
def k7c3 : Code := { maxStack := 2, maxLocals := 3, code := jdk_42_method_66_code, exceptionTable := #[], attributes := #[] }
def k7m3 : Method := { name := "equals", desc := "(Ljava/lang/Object;)Z", sig := { parameters := [(.object "java/lang/Object")], returnType := some .boolean }, accessFlags := 1, code := some k7c3 }
def k7c4 : Code := { maxStack := 4, maxLocals := 1, code := jdk_42_method_139_code, exceptionTable := #[], attributes := #[] }
def k7m4 : Method := { name := "valueOf", desc := "(C)Ljava/lang/String;", sig := { parameters := [.char], returnType := some (.object "java/lang/String") }, accessFlags := 9, code := some k7c4 }
def k7c5 : Code := { maxStack := 4, maxLocals := 6, code := jdk_42_method_149_code, exceptionTable := #[], attributes := #[] }
def k7m5 : Method := { name := "<init>", desc := "([CIILjava/lang/Void;)V", sig := { parameters := [(.array .char), .int, .int, (.object "java/lang/Void")], returnType := none }, accessFlags := 2, code := some k7c5 }
def k7c6 : Code := { maxStack := 2, maxLocals := 3, code := jdk_42_method_151_code, exceptionTable := #[], attributes := #[] }
def k7m6 : Method := { name := "<init>", desc := "([BB)V", sig := { parameters := [(.array .byte), .byte], returnType := none }, accessFlags := 0, code := some k7c6 }
def k7c7 : Code := { maxStack := 1, maxLocals := 1, code := jdk_42_method_152_code, exceptionTable := #[], attributes := #[] }
def k7m7 : Method := { name := "coder", desc := "()B", sig := { parameters := [], returnType := some .byte }, accessFlags := 0, code := some k7c7 }
/-- java/lang/String -/
def k7 : Class := { plain "java/lang/String" (some 0) with
  accessFlags := 49
  interfaces := #[2, 3, 4, 5, 6]
  cf := some (fileOf pool7 10 #[.nestMembers #[1103]] #[{ accessFlags := 1, nameIndex := 5, descriptorIndex := 6, attributes := #[] }, { accessFlags := 1, nameIndex := 5, descriptorIndex := 1010, attributes := #[] }, { accessFlags := 1, nameIndex := 507, descriptorIndex := 334, attributes := #[] }, { accessFlags := 1, nameIndex := 543, descriptorIndex := 573, attributes := #[] }, { accessFlags := 9, nameIndex := 782, descriptorIndex := 783, attributes := #[] }, { accessFlags := 2, nameIndex := 5, descriptorIndex := 29, attributes := #[] }, { accessFlags := 0, nameIndex := 5, descriptorIndex := 211, attributes := #[] }, { accessFlags := 0, nameIndex := 17, descriptorIndex := 337, attributes := #[] }] 49 2 #[1106, 1108, 575, 1110, 1112] #[{ accessFlags := 18, nameIndex := 13, descriptorIndex := 14, attributes := #[] }, { accessFlags := 18, nameIndex := 17, descriptorIndex := 18, attributes := #[] }, { accessFlags := 2, nameIndex := 21, descriptorIndex := 22, attributes := #[] }, { accessFlags := 2, nameIndex := 25, descriptorIndex := 26, attributes := #[] }, { accessFlags := 26, nameIndex := 1116, descriptorIndex := 1117, attributes := #[] }, { accessFlags := 24, nameIndex := 40, descriptorIndex := 26, attributes := #[] }, { accessFlags := 26, nameIndex := 1101, descriptorIndex := 1102, attributes := #[] }, { accessFlags := 26, nameIndex := 1121, descriptorIndex := 1122, attributes := #[] }, { accessFlags := 25, nameIndex := 599, descriptorIndex := 600, attributes := #[] }, { accessFlags := 24, nameIndex := 1125, descriptorIndex := 18, attributes := #[] }, { accessFlags := 24, nameIndex := 1127, descriptorIndex := 18, attributes := #[] }])
  fields := #[{ name := "value", type := (.array .byte), accessFlags := 18, slot := 0, constantValue := 0 }, { name := "coder", type := .byte, accessFlags := 18, slot := 1, constantValue := 0 }, { name := "hash", type := .int, accessFlags := 2, slot := 2, constantValue := 0 }, { name := "hashIsZero", type := .boolean, accessFlags := 2, slot := 3, constantValue := 0 }, { name := "serialVersionUID", type := .long, accessFlags := 26, slot := 0, constantValue := 0 }, { name := "COMPACT_STRINGS", type := .boolean, accessFlags := 24, slot := 1, constantValue := 0 }, { name := "serialPersistentFields", type := (.array (.object "java/io/ObjectStreamField")), accessFlags := 26, slot := 2, constantValue := 0 }, { name := "REPL", type := .char, accessFlags := 26, slot := 3, constantValue := 0 }, { name := "CASE_INSENSITIVE_ORDER", type := (.object "java/util/Comparator"), accessFlags := 25, slot := 4, constantValue := 0 }, { name := "LATIN1", type := .byte, accessFlags := 24, slot := 5, constantValue := 0 }, { name := "UTF16", type := .byte, accessFlags := 24, slot := 6, constantValue := 0 }]
  methods := #[k7m0, k7m1, k7m2, k7m3, k7m4, k7m5, k7m6, k7m7]
  instanceTypes := #[(.array .byte), .byte, .int, .boolean]
  staticTypes := #[.long, .boolean, (.array (.object "java/io/ObjectStreamField")), .char, (.object "java/util/Comparator"), .byte, .byte]
  resolved := Array.replicate 1451 none
  statics := some 0 }

def pool8 : Array CpInfo := pool [(1, .methodref 2 3), (0, .class_ 4), (0, .nameAndType 5 6), (0, u "java/lang/Object"), (0, u "<init>"), (0, u "()V"), (0, .fieldref 8 9), (0, .class_ 10), (0, .nameAndType 11 12), (0, u "java/lang/Throwable"), (0, u "cause"), (0, u "Ljava/lang/Throwable;"), (0, .fieldref 8 14), (0, .nameAndType 15 16), (0, u "UNASSIGNED_STACK"), (0, u "[Ljava/lang/StackTraceElement;"), (0, .fieldref 8 18), (0, .nameAndType 19 16), (0, u "stackTrace"), (0, .fieldref 8 21), (0, .nameAndType 22 23), (0, u "SUPPRESSED_SENTINEL"), (0, u "Ljava/util/List;"), (0, .fieldref 8 25), (0, .nameAndType 26 23), (0, u "suppressedExceptions"), (0, .methodref 8 28), (0, .nameAndType 29 30), (0, u "fillInStackTrace"), (0, u "()Ljava/lang/Throwable;"), (0, .fieldref 8 32), (0, .nameAndType 33 34), (0, u "detailMessage"), (0, u "Ljava/lang/String;"), (3, u "()Ljava/lang/String;"), (2, u "getMessage"), (51, .class_ 94), (0, u "java/lang/Throwable$WrappedPrintStream"), (6, .class_ 103), (1, u "java/lang/Throwable$PrintStreamOrWriter"), (61, u "$assertionsDisabled"), (0, u "Z"), (26, .class_ 194), (0, u "java/lang/Throwable$WrappedPrintWriter"), (3, .fieldref 8 199), (0, .nameAndType 200 201), (0, u "backtrace"), (0, u "Ljava/lang/Object;"), (0, .methodref 8 203), (0, .nameAndType 29 204), (0, u "(I)Ljava/lang/Throwable;"), (6, u "depth"), (0, u "I"), (10, u "(Ljava/lang/String;)V"), (45, .class_ 271), (1, u "java/lang/Throwable$SentinelHolder"), (32, u "EMPTY_THROWABLE_ARRAY"), (0, u "[Ljava/lang/Throwable;"), (12, .class_ 319), (0, u "java/io/Serializable"), (0, u "serialVersionUID"), (0, u "J"), (5, u "NULL_CAUSE_MESSAGE"), (0, u "SELF_SUPPRESSION_MESSAGE"), (0, u "CAUSE_CAPTION"), (0, u "SUPPRESSED_CAPTION")] 73

def k8c0 : Code := { maxStack := 2, maxLocals := 1, code := jdk_78_method_1_code, exceptionTable := #[], attributes := #[] }
def k8m0 : Method := { name := "<init>", desc := "()V", sig := { parameters := [], returnType := none }, accessFlags := 1, code := some k8c0 }
def k8c1 : Code := { maxStack := 2, maxLocals := 2, code := jdk_78_method_2_code, exceptionTable := #[], attributes := #[] }
def k8m1 : Method := { name := "<init>", desc := "(Ljava/lang/String;)V", sig := { parameters := [(.object "java/lang/String")], returnType := none }, accessFlags := 1, code := some k8c1 }
def k8c2 : Code := { maxStack := 1, maxLocals := 1, code := jdk_78_method_6_code, exceptionTable := #[], attributes := #[] }
def k8m2 : Method := { name := "getMessage", desc := "()Ljava/lang/String;", sig := { parameters := [], returnType := some (.object "java/lang/String") }, accessFlags := 1, code := some k8c2 }
def k8c3 : Code := { maxStack := 2, maxLocals := 1, code := ⟨#[0x2a, 0xb4, 0x00, 0x11, 0xc7, 0x00, 0x0a, 0x2a, 0xb4, 0x00, 0xc6, 0xc6, 0x00, 0x10, 0x2a, 0x03, 0xb6, 0x00, 0xca, 0x57, 0x2a, 0xb2, 0x00, 0x0d, 0xb5, 0x00, 0x11, 0x2a, 0xb0]⟩, exceptionTable := #[], attributes := #[] }
def k8m3 : Method := { name := "fillInStackTrace", desc := "()Ljava/lang/Throwable;", sig := { parameters := [], returnType := some (.object "java/lang/Throwable") }, accessFlags := 33, code := some k8c3 }
def k8m4 : Method := { name := "fillInStackTrace", desc := "(I)Ljava/lang/Throwable;", sig := { parameters := [.int], returnType := some (.object "java/lang/Throwable") }, accessFlags := 258, code := none }
/-- java/lang/Throwable -/
def k8 : Class := { plain "java/lang/Throwable" (some 0) with
  accessFlags := 33
  interfaces := #[2]
  cf := some (fileOf pool8 8 #[.nestMembers #[193, 93, 101, 269]] #[{ accessFlags := 1, nameIndex := 5, descriptorIndex := 6, attributes := #[] }, { accessFlags := 1, nameIndex := 5, descriptorIndex := 223, attributes := #[] }, { accessFlags := 1, nameIndex := 41, descriptorIndex := 38, attributes := #[] }, { accessFlags := 33, nameIndex := 29, descriptorIndex := 30, attributes := #[] }, { accessFlags := 258, nameIndex := 29, descriptorIndex := 204, attributes := #[] }] 33 2 #[318] #[{ accessFlags := 26, nameIndex := 320, descriptorIndex := 321, attributes := #[] }, { accessFlags := 130, nameIndex := 200, descriptorIndex := 201, attributes := #[] }, { accessFlags := 2, nameIndex := 33, descriptorIndex := 34, attributes := #[] }, { accessFlags := 26, nameIndex := 15, descriptorIndex := 16, attributes := #[] }, { accessFlags := 2, nameIndex := 11, descriptorIndex := 12, attributes := #[] }, { accessFlags := 2, nameIndex := 19, descriptorIndex := 16, attributes := #[] }, { accessFlags := 130, nameIndex := 211, descriptorIndex := 212, attributes := #[] }, { accessFlags := 26, nameIndex := 22, descriptorIndex := 23, attributes := #[] }, { accessFlags := 2, nameIndex := 26, descriptorIndex := 23, attributes := #[] }, { accessFlags := 26, nameIndex := 327, descriptorIndex := 34, attributes := #[] }, { accessFlags := 26, nameIndex := 328, descriptorIndex := 34, attributes := #[] }, { accessFlags := 26, nameIndex := 329, descriptorIndex := 34, attributes := #[] }, { accessFlags := 26, nameIndex := 330, descriptorIndex := 34, attributes := #[] }, { accessFlags := 26, nameIndex := 304, descriptorIndex := 305, attributes := #[] }, { accessFlags := 4120, nameIndex := 165, descriptorIndex := 166, attributes := #[] }])
  fields := #[{ name := "serialVersionUID", type := .long, accessFlags := 26, slot := 0, constantValue := 0 }, { name := "backtrace", type := (.object "java/lang/Object"), accessFlags := 130, slot := 0, constantValue := 0 }, { name := "detailMessage", type := (.object "java/lang/String"), accessFlags := 2, slot := 1, constantValue := 0 }, { name := "UNASSIGNED_STACK", type := (.array (.object "java/lang/StackTraceElement")), accessFlags := 26, slot := 1, constantValue := 0 }, { name := "cause", type := (.object "java/lang/Throwable"), accessFlags := 2, slot := 2, constantValue := 0 }, { name := "stackTrace", type := (.array (.object "java/lang/StackTraceElement")), accessFlags := 2, slot := 3, constantValue := 0 }, { name := "depth", type := .int, accessFlags := 130, slot := 4, constantValue := 0 }, { name := "SUPPRESSED_SENTINEL", type := (.object "java/util/List"), accessFlags := 26, slot := 2, constantValue := 0 }, { name := "suppressedExceptions", type := (.object "java/util/List"), accessFlags := 2, slot := 5, constantValue := 0 }, { name := "NULL_CAUSE_MESSAGE", type := (.object "java/lang/String"), accessFlags := 26, slot := 3, constantValue := 0 }, { name := "SELF_SUPPRESSION_MESSAGE", type := (.object "java/lang/String"), accessFlags := 26, slot := 4, constantValue := 0 }, { name := "CAUSE_CAPTION", type := (.object "java/lang/String"), accessFlags := 26, slot := 5, constantValue := 0 }, { name := "SUPPRESSED_CAPTION", type := (.object "java/lang/String"), accessFlags := 26, slot := 6, constantValue := 0 }, { name := "EMPTY_THROWABLE_ARRAY", type := (.array (.object "java/lang/Throwable")), accessFlags := 26, slot := 7, constantValue := 0 }, { name := "$assertionsDisabled", type := .boolean, accessFlags := 4120, slot := 8, constantValue := 0 }]
  methods := #[k8m0, k8m1, k8m2, k8m3, k8m4]
  instanceTypes := #[(.object "java/lang/Object"), (.object "java/lang/String"), (.object "java/lang/Throwable"), (.array (.object "java/lang/StackTraceElement")), .int, (.object "java/util/List")]
  staticTypes := #[.long, (.array (.object "java/lang/StackTraceElement")), (.object "java/util/List"), (.object "java/lang/String"), (.object "java/lang/String"), (.object "java/lang/String"), (.object "java/lang/String"), (.array (.object "java/lang/Throwable")), .boolean]
  resolved := Array.replicate 404 none
  statics := some 1 }

def pool9 : Array CpInfo := pool [(2, .class_ 4), (1, u "java/lang/Throwable"), (0, u "<init>"), (0, u "()V"), (0, .methodref 2 8), (0, .nameAndType 5 9), (0, u "(Ljava/lang/String;)V"), (9, .class_ 20), (0, u "java/lang/Exception"), (0, u "serialVersionUID"), (0, u "J")] 17

def k9m0 : Method := { name := "<init>", desc := "()V", sig := { parameters := [], returnType := none }, accessFlags := 1, code := none }
def k9c1 : Code := { maxStack := 2, maxLocals := 2, code := jdk_59_method_2_code, exceptionTable := #[], attributes := #[] }
def k9m1 : Method := { name := "<init>", desc := "(Ljava/lang/String;)V", sig := { parameters := [(.object "java/lang/String")], returnType := none }, accessFlags := 1, code := some k9c1 }
/-- java/lang/Exception -/
def k9 : Class := { plain "java/lang/Exception" (some 8) with
  accessFlags := 33
  interfaces := #[]
  cf := some (fileOf pool9 19 #[] #[{ accessFlags := 1, nameIndex := 5, descriptorIndex := 6, attributes := #[] }, { accessFlags := 1, nameIndex := 5, descriptorIndex := 9, attributes := #[] }] 33 2 #[] #[{ accessFlags := 24, nameIndex := 21, descriptorIndex := 22, attributes := #[] }])
  fields := #[{ name := "serialVersionUID", type := .long, accessFlags := 24, slot := 0, constantValue := 0 }]
  methods := #[k9m0, k9m1]
  instanceTypes := #[(.object "java/lang/Object"), (.object "java/lang/String"), (.object "java/lang/Throwable"), (.array (.object "java/lang/StackTraceElement")), .int, (.object "java/util/List")]
  staticTypes := #[.long]
  resolved := Array.replicate 40 none
  statics := none }

def pool10 : Array CpInfo := pool [(1, .methodref 2 3), (0, .class_ 4), (0, .nameAndType 5 6), (0, u "java/lang/Exception"), (0, u "<init>"), (0, u "(Ljava/lang/String;)V"), (0, .fieldref 8 9), (0, .class_ 10), (0, .nameAndType 11 12), (0, u "com/example/manque/manque/Declined"), (0, u "kind"), (0, u "Lcom/example/manque/manque/Declined$Kind;"), (1, .class_ 16), (1, u "com/example/manque/manque/Declined$Kind"), (1, .methodref 8 19), (0, .nameAndType 5 20), (0, u "(Lcom/example/manque/manque/Declined$Kind;Ljava/lang/String;)V"), (3, .fieldref 14 25), (0, .nameAndType 26 12), (0, u "REFUSED"), (0, u "serialVersionUID"), (0, u "J"), (6, u "(Ljava/lang/String;)Lcom/example/manque/manque/Declined;"), (1, u "refused"), (0, u "()Lcom/example/manque/manque/Declined$Kind;")] 5

def k10c0 : Code := { maxStack := 2, maxLocals := 3, code := prog_1_method_1_code, exceptionTable := #[], attributes := #[] }
def k10m0 : Method := { name := "<init>", desc := "(Lcom/example/manque/manque/Declined$Kind;Ljava/lang/String;)V", sig := { parameters := [(.object "com/example/manque/manque/Declined$Kind"), (.object "java/lang/String")], returnType := none }, accessFlags := 0, code := some k10c0 }
def k10c1 : Code := { maxStack := 4, maxLocals := 1, code := prog_1_method_4_code, exceptionTable := #[], attributes := #[] }
def k10m1 : Method := { name := "refused", desc := "(Ljava/lang/String;)Lcom/example/manque/manque/Declined;", sig := { parameters := [(.object "java/lang/String")], returnType := some (.object "com/example/manque/manque/Declined") }, accessFlags := 8, code := some k10c1 }
def k10c2 : Code := { maxStack := 1, maxLocals := 1, code := prog_1_method_5_code, exceptionTable := #[], attributes := #[] }
def k10m2 : Method := { name := "kind", desc := "()Lcom/example/manque/manque/Declined$Kind;", sig := { parameters := [], returnType := some (.object "com/example/manque/manque/Declined$Kind") }, accessFlags := 0, code := some k10c2 }
/-- com/example/manque/manque/Declined -/
def k10 : Class := { plain "com/example/manque/manque/Declined" (some 9) with
  accessFlags := 48
  interfaces := #[]
  cf := some (fileOf pool10 8 #[.nestMembers #[14]] #[{ accessFlags := 0, nameIndex := 5, descriptorIndex := 20, attributes := #[] }, { accessFlags := 8, nameIndex := 37, descriptorIndex := 35, attributes := #[] }, { accessFlags := 0, nameIndex := 11, descriptorIndex := 38, attributes := #[] }] 48 2 #[] #[{ accessFlags := 26, nameIndex := 27, descriptorIndex := 28, attributes := #[] }, { accessFlags := 18, nameIndex := 11, descriptorIndex := 12, attributes := #[] }])
  fields := #[{ name := "serialVersionUID", type := .long, accessFlags := 26, slot := 0, constantValue := 0 }, { name := "kind", type := (.object "com/example/manque/manque/Declined$Kind"), accessFlags := 18, slot := 6, constantValue := 0 }]
  methods := #[k10m0, k10m1, k10m2]
  instanceTypes := #[(.object "java/lang/Object"), (.object "java/lang/String"), (.object "java/lang/Throwable"), (.array (.object "java/lang/StackTraceElement")), .int, (.object "java/util/List"), (.object "com/example/manque/manque/Declined$Kind")]
  staticTypes := #[.long]
  resolved := Array.replicate 44 none
  statics := none }

def pool11 : Array CpInfo := pool [(2, .class_ 4), (1, u "java/lang/Enum"), (0, u "name"), (0, u "Ljava/lang/String;"), (2, u "ordinal"), (0, u "I"), (1, .class_ 14), (1, u "java/lang/Object"), (4, u "hash"), (86, .class_ 108), (1, u "java/lang/Enum$EnumDesc"), (2, .class_ 112), (0, u "java/lang/constant/Constable"), (0, .class_ 114), (0, u "java/lang/Comparable"), (0, .class_ 116), (0, u "java/io/Serializable")] 87

/-- java/lang/Enum -/
def k11 : Class := { plain "java/lang/Enum" (some 0) with
  accessFlags := 1057
  interfaces := #[5, 3, 2]
  cf := some (fileOf pool11 2 #[.nestMembers #[106]] #[] 1057 12 #[111, 113, 115] #[{ accessFlags := 18, nameIndex := 5, descriptorIndex := 6, attributes := #[] }, { accessFlags := 18, nameIndex := 9, descriptorIndex := 10, attributes := #[] }, { accessFlags := 2, nameIndex := 19, descriptorIndex := 10, attributes := #[] }])
  fields := #[{ name := "name", type := (.object "java/lang/String"), accessFlags := 18, slot := 0, constantValue := 0 }, { name := "ordinal", type := .int, accessFlags := 18, slot := 1, constantValue := 0 }, { name := "hash", type := .int, accessFlags := 2, slot := 2, constantValue := 0 }]
  methods := #[]
  instanceTypes := #[(.object "java/lang/String"), .int, .int]
  staticTypes := #[]
  resolved := Array.replicate 204 none
  statics := none }

def pool12 : Array CpInfo := pool [(1, .class_ 2), (0, u "com/example/manque/manque/Declined$Kind"), (2, u "MALFORMED"), (0, u "Lcom/example/manque/manque/Declined$Kind;"), (2, u "NOT_FOUND"), (2, u "NOT_ALLOWED"), (2, u "CONFLICT"), (2, u "TOO_LARGE"), (2, u "REFUSED"), (2, u "STOPPING"), (2, u "$VALUES"), (0, u "[Lcom/example/manque/manque/Declined$Kind;"), (6, .class_ 37), (1, u "java/lang/Enum"), (6, .fieldref 1 45), (0, .nameAndType 46 47), (0, u "status"), (0, u "I"), (21, u "()I"), (6, .class_ 77), (0, u "com/example/manque/manque/Declined")] 2

def k12c0 : Code := { maxStack := 1, maxLocals := 1, code := prog_2_method_4_code, exceptionTable := #[], attributes := #[] }
def k12m0 : Method := { name := "status", desc := "()I", sig := { parameters := [], returnType := some .int }, accessFlags := 0, code := some k12c0 }
/-- com/example/manque/manque/Declined$Kind -/
def k12 : Class := { plain "com/example/manque/manque/Declined$Kind" (some 11) with
  accessFlags := 16432
  interfaces := #[]
  cf := some (fileOf pool12 1 #[.nestHost 76] #[{ accessFlags := 0, nameIndex := 46, descriptorIndex := 69, attributes := #[] }] 16432 35 #[] #[{ accessFlags := 16409, nameIndex := 5, descriptorIndex := 6, attributes := #[] }, { accessFlags := 16409, nameIndex := 9, descriptorIndex := 6, attributes := #[] }, { accessFlags := 16409, nameIndex := 12, descriptorIndex := 6, attributes := #[] }, { accessFlags := 16409, nameIndex := 15, descriptorIndex := 6, attributes := #[] }, { accessFlags := 16409, nameIndex := 18, descriptorIndex := 6, attributes := #[] }, { accessFlags := 16409, nameIndex := 21, descriptorIndex := 6, attributes := #[] }, { accessFlags := 16409, nameIndex := 24, descriptorIndex := 6, attributes := #[] }, { accessFlags := 18, nameIndex := 46, descriptorIndex := 47, attributes := #[] }, { accessFlags := 4122, nameIndex := 27, descriptorIndex := 28, attributes := #[] }])
  fields := #[{ name := "MALFORMED", type := (.object "com/example/manque/manque/Declined$Kind"), accessFlags := 16409, slot := 0, constantValue := 0 }, { name := "NOT_FOUND", type := (.object "com/example/manque/manque/Declined$Kind"), accessFlags := 16409, slot := 1, constantValue := 0 }, { name := "NOT_ALLOWED", type := (.object "com/example/manque/manque/Declined$Kind"), accessFlags := 16409, slot := 2, constantValue := 0 }, { name := "CONFLICT", type := (.object "com/example/manque/manque/Declined$Kind"), accessFlags := 16409, slot := 3, constantValue := 0 }, { name := "TOO_LARGE", type := (.object "com/example/manque/manque/Declined$Kind"), accessFlags := 16409, slot := 4, constantValue := 0 }, { name := "REFUSED", type := (.object "com/example/manque/manque/Declined$Kind"), accessFlags := 16409, slot := 5, constantValue := 0 }, { name := "STOPPING", type := (.object "com/example/manque/manque/Declined$Kind"), accessFlags := 16409, slot := 6, constantValue := 0 }, { name := "status", type := .int, accessFlags := 18, slot := 3, constantValue := 0 }, { name := "$VALUES", type := (.array (.object "com/example/manque/manque/Declined$Kind")), accessFlags := 4122, slot := 7, constantValue := 0 }]
  methods := #[k12m0]
  instanceTypes := #[(.object "java/lang/String"), .int, .int, .int]
  staticTypes := #[(.object "com/example/manque/manque/Declined$Kind"), (.object "com/example/manque/manque/Declined$Kind"), (.object "com/example/manque/manque/Declined$Kind"), (.object "com/example/manque/manque/Declined$Kind"), (.object "com/example/manque/manque/Declined$Kind"), (.object "com/example/manque/manque/Declined$Kind"), (.object "com/example/manque/manque/Declined$Kind"), (.array (.object "com/example/manque/manque/Declined$Kind"))]
  resolved := Array.replicate 80 none
  statics := some 2 }

def pool13 : Array CpInfo := pool [(4, .class_ 6), (1, u "java/lang/Object"), (0, u "<init>"), (0, u "()V"), (5, .class_ 16), (1, u "java/lang/StringLatin1"), (73, u "canEncode"), (14, u "(C)Z"), (15, u "$assertionsDisabled"), (0, u "Z"), (98, .class_ 223), (1, u "java/lang/StringLatin1$LinesSpliterator"), (156, u "toBytes"), (1, u "(C)[B"), (7, .class_ 391), (0, u "java/lang/StringLatin1$CharsSpliterator")] 3

def k13m0 : Method := { name := "<init>", desc := "()V", sig := { parameters := [], returnType := none }, accessFlags := 0, code := none }
def k13c1 : Code := { maxStack := 2, maxLocals := 1, code := jdk_43_method_3_code, exceptionTable := #[], attributes := #[] }
def k13m1 : Method := { name := "canEncode", desc := "(C)Z", sig := { parameters := [.char], returnType := some .boolean }, accessFlags := 9, code := some k13c1 }
def k13c2 : Code := { maxStack := 4, maxLocals := 1, code := jdk_43_method_46_code, exceptionTable := #[], attributes := #[] }
def k13m2 : Method := { name := "toBytes", desc := "(C)[B", sig := { parameters := [.char], returnType := some (.array .byte) }, accessFlags := 9, code := some k13c2 }
/-- java/lang/StringLatin1 -/
def k13 : Class := { plain "java/lang/StringLatin1" (some 0) with
  accessFlags := 48
  interfaces := #[]
  cf := some (fileOf pool13 14 #[.nestMembers #[390, 221]] #[{ accessFlags := 0, nameIndex := 7, descriptorIndex := 8, attributes := #[] }, { accessFlags := 9, nameIndex := 90, descriptorIndex := 105, attributes := #[] }, { accessFlags := 9, nameIndex := 380, descriptorIndex := 382, attributes := #[] }] 48 4 #[] #[{ accessFlags := 4120, nameIndex := 121, descriptorIndex := 122, attributes := #[] }])
  fields := #[{ name := "$assertionsDisabled", type := .boolean, accessFlags := 4120, slot := 0, constantValue := 0 }]
  methods := #[k13m0, k13m1, k13m2]
  instanceTypes := #[]
  staticTypes := #[.boolean]
  resolved := Array.replicate 395 none
  statics := none }

def pool14 : Array CpInfo := pool [(6, .class_ 8), (1, u "java/lang/Object"), (0, u "<init>"), (0, u "()V"), (1, .class_ 14), (1, u "java/lang/StringUTF16"), (31, u "$assertionsDisabled"), (0, u "Z"), (13, u "HI_BYTE_SHIFT"), (0, u "I"), (2, u "LO_BYTE_SHIFT"), (49, .methodref 12 116), (0, .nameAndType 117 118), (0, u "compress"), (0, u "([CI[BII)I"), (3, u "([CII)[B"), (138, u "coderFromArrayLen"), (0, u "([BI)B"), (106, .class_ 371), (1, u "java/lang/StringUTF16$LinesSpliterator"), (58, u "MAX_LENGTH"), (196, .class_ 628), (0, u "java/lang/StringUTF16$CodePointsSpliterator"), (0, .class_ 630), (0, u "java/lang/StringUTF16$CharsSpliterator")] 4

def k14m0 : Method := { name := "<init>", desc := "()V", sig := { parameters := [], returnType := none }, accessFlags := 0, code := none }
def k14c1 : Code := { maxStack := 2, maxLocals := 2, code := jdk_52_method_15_code, exceptionTable := #[], attributes := #[] }
def k14m1 : Method := { name := "coderFromArrayLen", desc := "([BI)B", sig := { parameters := [(.array .byte), .int], returnType := some .byte }, accessFlags := 8, code := some k14c1 }
def k14c2 : Code := { maxStack := 5, maxLocals := 6, code := jdk_52_method_16_code, exceptionTable := #[], attributes := #[] }
def k14m2 : Method := { name := "compress", desc := "([CII)[B", sig := { parameters := [(.array .char), .int, .int], returnType := some (.array .byte) }, accessFlags := 9, code := some k14c2 }
def k14c3 : Code := { maxStack := 3, maxLocals := 7, code := jdk_52_method_21_code, exceptionTable := #[], attributes := #[] }
def k14m3 : Method := { name := "compress", desc := "([CI[BII)I", sig := { parameters := [(.array .char), .int, (.array .byte), .int, .int], returnType := some .int }, accessFlags := 9, code := some k14c3 }
/-- java/lang/StringUTF16 -/
def k14 : Class := { plain "java/lang/StringUTF16" (some 0) with
  accessFlags := 48
  interfaces := #[]
  cf := some (fileOf pool14 12 #[.nestMembers #[627, 629, 369]] #[{ accessFlags := 0, nameIndex := 9, descriptorIndex := 10, attributes := #[] }, { accessFlags := 8, nameIndex := 261, descriptorIndex := 262, attributes := #[] }, { accessFlags := 9, nameIndex := 117, descriptorIndex := 122, attributes := #[] }, { accessFlags := 9, nameIndex := 117, descriptorIndex := 118, attributes := #[] }] 48 6 #[] #[{ accessFlags := 26, nameIndex := 61, descriptorIndex := 62, attributes := #[] }, { accessFlags := 26, nameIndex := 65, descriptorIndex := 62, attributes := #[] }, { accessFlags := 24, nameIndex := 430, descriptorIndex := 62, attributes := #[] }, { accessFlags := 4120, nameIndex := 46, descriptorIndex := 47, attributes := #[] }])
  fields := #[{ name := "HI_BYTE_SHIFT", type := .int, accessFlags := 26, slot := 0, constantValue := 0 }, { name := "LO_BYTE_SHIFT", type := .int, accessFlags := 26, slot := 1, constantValue := 0 }, { name := "MAX_LENGTH", type := .int, accessFlags := 24, slot := 2, constantValue := 0 }, { name := "$assertionsDisabled", type := .boolean, accessFlags := 4120, slot := 3, constantValue := 0 }]
  methods := #[k14m0, k14m1, k14m2, k14m3]
  instanceTypes := #[]
  staticTypes := #[.int, .int, .int, .boolean]
  resolved := Array.replicate 635 none
  statics := none }

def pool15 : Array CpInfo := pool [(2, .class_ 4), (1, u "java/lang/Object"), (0, u "<init>"), (0, u "()V"), (12, .class_ 20), (0, u "java/util/Collections"), (63, u "r"), (0, u "Ljava/util/Random;"), (80, .class_ 167), (0, u "java/util/Collections$UnmodifiableCollection"), (6, .class_ 175), (0, u "java/util/Collections$UnmodifiableSequencedCollection"), (6, .class_ 183), (0, u "java/util/Collections$UnmodifiableSet"), (6, .class_ 191), (0, u "java/util/Collections$UnmodifiableSequencedSet"), (6, .class_ 199), (0, u "java/util/Collections$UnmodifiableSortedSet"), (6, .class_ 207), (0, u "java/util/Collections$UnmodifiableNavigableSet"), (4, .class_ 213), (0, u "java/util/Collections$UnmodifiableList"), (1, .class_ 216), (0, u "java/util/Collections$UnmodifiableRandomAccessList"), (6, .class_ 224), (0, u "java/util/Collections$UnmodifiableMap"), (6, .class_ 232), (0, u "java/util/Collections$UnmodifiableSequencedMap"), (4, .class_ 238), (0, u "java/util/Collections$UnmodifiableSortedMap"), (6, .class_ 246), (0, u "java/util/Collections$UnmodifiableNavigableMap"), (3, .class_ 251), (0, u "java/util/Collections$SynchronizedCollection"), (4, .class_ 257), (0, u "java/util/Collections$SynchronizedSet"), (4, .class_ 263), (0, u "java/util/Collections$SynchronizedSortedSet"), (1, .class_ 266), (0, u "java/util/Collections$SynchronizedNavigableSet"), (1, .class_ 269), (0, u "java/util/Collections$SynchronizedRandomAccessList"), (1, .class_ 272), (0, u "java/util/Collections$SynchronizedList"), (5, .class_ 279), (0, u "java/util/Collections$SynchronizedMap"), (1, .class_ 282), (0, u "java/util/Collections$SynchronizedSortedMap"), (1, .class_ 285), (0, u "java/util/Collections$SynchronizedNavigableMap"), (1, .class_ 288), (0, u "java/util/Collections$CheckedCollection"), (11, .class_ 301), (0, u "java/util/Collections$CheckedQueue"), (3, .class_ 306), (0, u "java/util/Collections$CheckedSet"), (3, .class_ 311), (0, u "java/util/Collections$CheckedSortedSet"), (3, .class_ 316), (0, u "java/util/Collections$CheckedNavigableSet"), (3, .class_ 321), (0, u "java/util/Collections$CheckedRandomAccessList"), (3, .class_ 326), (0, u "java/util/Collections$CheckedList"), (1, .class_ 329), (0, u "java/util/Collections$CheckedMap"), (3, .class_ 334), (0, u "java/util/Collections$CheckedSortedMap"), (3, .class_ 339), (0, u "java/util/Collections$CheckedNavigableMap"), (4, .class_ 346), (1, u "java/util/Collections$EmptyIterator"), (3, .class_ 352), (1, u "java/util/Collections$EmptyListIterator"), (2, .class_ 357), (1, u "java/util/Collections$EmptyEnumeration"), (4, u "EMPTY_SET"), (0, u "Ljava/util/Set;"), (6, u "EMPTY_LIST"), (0, u "Ljava/util/List;"), (2, u "EMPTY_MAP"), (0, u "Ljava/util/Map;"), (4, .class_ 381), (0, u "java/util/Collections$SingletonSet"), (2, .class_ 385), (0, u "java/util/Collections$1"), (1, .class_ 388), (0, u "java/util/Collections$2"), (1, .class_ 391), (0, u "java/util/Collections$SingletonList"), (1, .class_ 394), (0, u "java/util/Collections$SingletonMap"), (22, .class_ 418), (0, u "java/util/Collections$CopiesList"), (4, .class_ 425), (1, u "java/util/Collections$ReverseComparator"), (8, .class_ 435), (0, u "java/util/Collections$ReverseComparator2"), (6, .class_ 443), (0, u "java/util/Collections$3"), (25, .class_ 470), (0, u "java/util/Collections$SetFromMap"), (2, .class_ 474), (0, u "java/util/Collections$SequencedSetFromMap"), (3, .class_ 479), (0, u "java/util/Collections$AsLIFOQueue"), (11, .class_ 492), (0, u "java/util/Collections$EmptySet"), (1, .class_ 495), (0, u "java/util/Collections$EmptyList"), (1, .class_ 498), (0, u "java/util/Collections$EmptyMap"), (1, u "BINARYSEARCH_THRESHOLD"), (0, u "I"), (2, u "REVERSE_THRESHOLD"), (1, u "SHUFFLE_THRESHOLD"), (1, u "FILL_THRESHOLD"), (1, u "ROTATE_THRESHOLD"), (1, u "COPY_THRESHOLD"), (1, u "REPLACEALL_THRESHOLD"), (1, u "INDEXOFSUBLIST_THRESHOLD"), (333, .class_ 851), (0, u "java/util/Collections$CheckedMap$CheckedEntrySet"), (0, .class_ 853), (0, u "java/util/Collections$CheckedMap$CheckedEntrySet$CheckedEntry"), (0, .class_ 855), (0, u "java/util/Collections$CheckedMap$CheckedEntrySet$1"), (0, .class_ 857), (0, u "java/util/Collections$CheckedList$1"), (0, .class_ 859), (0, u "java/util/Collections$CheckedCollection$1"), (0, .class_ 861), (0, u "java/util/Collections$UnmodifiableNavigableMap$EmptyNavigableMap"), (0, .class_ 863), (0, u "java/util/Collections$UnmodifiableMap$UnmodifiableEntrySet"), (0, .class_ 865), (0, u "java/util/Collections$UnmodifiableMap$UnmodifiableEntrySet$UnmodifiableEntry"), (0, .class_ 867), (0, u "java/util/Collections$UnmodifiableMap$UnmodifiableEntrySet$UnmodifiableEntrySetSpliterator"), (0, .class_ 869), (0, u "java/util/Collections$UnmodifiableMap$UnmodifiableEntrySet$1"), (0, .class_ 871), (0, u "java/util/Collections$UnmodifiableList$1"), (0, .class_ 873), (0, u "java/util/Collections$UnmodifiableNavigableSet$EmptyNavigableSet"), (0, .class_ 875), (0, u "java/util/Collections$UnmodifiableCollection$1")] 57

def k15m0 : Method := { name := "<init>", desc := "()V", sig := { parameters := [], returnType := none }, accessFlags := 2, code := none }
/-- java/util/Collections -/
def k15 : Class := { plain "java/util/Collections" (some 0) with
  accessFlags := 33
  interfaces := #[]
  cf := some (fileOf pool15 19 #[.nestMembers #[478, 473, 469, 434, 423, 417, 393, 390, 380, 497, 494, 491, 355, 350, 344, 338, 333, 328, 850, 852, 854, 320, 325, 856, 315, 310, 305, 300, 287, 858, 284, 281, 278, 268, 271, 265, 262, 256, 250, 245, 860, 237, 231, 223, 862, 864, 866, 868, 215, 212, 870, 206, 872, 198, 190, 182, 174, 166, 874, 442, 387, 384]] #[{ accessFlags := 2, nameIndex := 5, descriptorIndex := 6, attributes := #[] }] 33 2 #[] #[{ accessFlags := 26, nameIndex := 500, descriptorIndex := 501, attributes := #[] }, { accessFlags := 26, nameIndex := 504, descriptorIndex := 501, attributes := #[] }, { accessFlags := 26, nameIndex := 506, descriptorIndex := 501, attributes := #[] }, { accessFlags := 26, nameIndex := 508, descriptorIndex := 501, attributes := #[] }, { accessFlags := 26, nameIndex := 510, descriptorIndex := 501, attributes := #[] }, { accessFlags := 26, nameIndex := 512, descriptorIndex := 501, attributes := #[] }, { accessFlags := 26, nameIndex := 514, descriptorIndex := 501, attributes := #[] }, { accessFlags := 26, nameIndex := 516, descriptorIndex := 501, attributes := #[] }, { accessFlags := 10, nameIndex := 84, descriptorIndex := 85, attributes := #[] }, { accessFlags := 25, nameIndex := 362, descriptorIndex := 363, attributes := #[] }, { accessFlags := 25, nameIndex := 370, descriptorIndex := 371, attributes := #[] }, { accessFlags := 25, nameIndex := 374, descriptorIndex := 375, attributes := #[] }])
  fields := #[{ name := "BINARYSEARCH_THRESHOLD", type := .int, accessFlags := 26, slot := 0, constantValue := 0 }, { name := "REVERSE_THRESHOLD", type := .int, accessFlags := 26, slot := 1, constantValue := 0 }, { name := "SHUFFLE_THRESHOLD", type := .int, accessFlags := 26, slot := 2, constantValue := 0 }, { name := "FILL_THRESHOLD", type := .int, accessFlags := 26, slot := 3, constantValue := 0 }, { name := "ROTATE_THRESHOLD", type := .int, accessFlags := 26, slot := 4, constantValue := 0 }, { name := "COPY_THRESHOLD", type := .int, accessFlags := 26, slot := 5, constantValue := 0 }, { name := "REPLACEALL_THRESHOLD", type := .int, accessFlags := 26, slot := 6, constantValue := 0 }, { name := "INDEXOFSUBLIST_THRESHOLD", type := .int, accessFlags := 26, slot := 7, constantValue := 0 }, { name := "r", type := (.object "java/util/Random"), accessFlags := 10, slot := 8, constantValue := 0 }, { name := "EMPTY_SET", type := (.object "java/util/Set"), accessFlags := 25, slot := 9, constantValue := 0 }, { name := "EMPTY_LIST", type := (.object "java/util/List"), accessFlags := 25, slot := 10, constantValue := 0 }, { name := "EMPTY_MAP", type := (.object "java/util/Map"), accessFlags := 25, slot := 11, constantValue := 0 }]
  methods := #[k15m0]
  instanceTypes := #[]
  staticTypes := #[.int, .int, .int, .int, .int, .int, .int, .int, (.object "java/util/Random"), (.object "java/util/Set"), (.object "java/util/List"), (.object "java/util/Map")]
  resolved := Array.replicate 933 none
  statics := some 3 }

def pool16 : Array CpInfo := pool [(2, .class_ 4), (1, u "java/lang/Object"), (0, u "<init>"), (0, u "()V"), (17, .class_ 26), (1, u "jdk/internal/util/Preconditions"), (28, .class_ 56), (0, u "jdk/internal/util/Preconditions$4"), (57, .class_ 115), (0, u "jdk/internal/util/Preconditions$1"), (7, u "SIOOBE_FORMATTER"), (0, u "Ljava/util/function/BiFunction;"), (0, .class_ 126), (0, u "jdk/internal/util/Preconditions$2"), (3, u "AIOOBE_FORMATTER"), (0, .class_ 132), (0, u "jdk/internal/util/Preconditions$3"), (3, u "IOOBE_FORMATTER")] 57

def k16m0 : Method := { name := "<init>", desc := "()V", sig := { parameters := [], returnType := none }, accessFlags := 1, code := none }
/-- jdk/internal/util/Preconditions -/
def k16 : Class := { plain "jdk/internal/util/Preconditions" (some 0) with
  accessFlags := 33
  interfaces := #[]
  cf := some (fileOf pool16 24 #[.nestMembers #[55, 131, 125, 114]] #[{ accessFlags := 1, nameIndex := 5, descriptorIndex := 6, attributes := #[] }] 33 2 #[] #[{ accessFlags := 25, nameIndex := 123, descriptorIndex := 124, attributes := #[] }, { accessFlags := 25, nameIndex := 130, descriptorIndex := 124, attributes := #[] }, { accessFlags := 25, nameIndex := 136, descriptorIndex := 124, attributes := #[] }])
  fields := #[{ name := "SIOOBE_FORMATTER", type := (.object "java/util/function/BiFunction"), accessFlags := 25, slot := 0, constantValue := 0 }, { name := "AIOOBE_FORMATTER", type := (.object "java/util/function/BiFunction"), accessFlags := 25, slot := 1, constantValue := 0 }, { name := "IOOBE_FORMATTER", type := (.object "java/util/function/BiFunction"), accessFlags := 25, slot := 2, constantValue := 0 }]
  methods := #[k16m0]
  instanceTypes := #[]
  staticTypes := #[(.object "java/util/function/BiFunction"), (.object "java/util/function/BiFunction"), (.object "java/util/function/BiFunction")]
  resolved := Array.replicate 194 none
  statics := some 4 }

def pool17 : Array CpInfo := pool [(9, u "<init>"), (6, .class_ 18), (1, u "java/lang/Object"), (0, u "()V"), (1, .class_ 23), (1, u "jdk/internal/util/ArraysSupport"), (0, u "LOG2_ARRAY_LONG_INDEX_SCALE"), (0, u "I"), (2, u "U"), (0, u "Ljdk/internal/misc/Unsafe;"), (8, u "BIG_ENDIAN"), (0, u "Z"), (8, u "LOG2_BYTE_BIT_SIZE"), (4, u "LOG2_ARRAY_INT_INDEX_SCALE"), (54, u "JLA"), (0, u "Ljdk/internal/access/JavaLangAccess;"), (11, u "LOG2_ARRAY_BOOLEAN_INDEX_SCALE"), (9, u "LOG2_ARRAY_BYTE_INDEX_SCALE"), (5, u "LOG2_ARRAY_CHAR_INDEX_SCALE"), (5, u "LOG2_ARRAY_SHORT_INDEX_SCALE"), (18, u "LOG2_ARRAY_FLOAT_INDEX_SCALE"), (24, u "LOG2_ARRAY_DOUBLE_INDEX_SCALE"), (89, u "T_BOOLEAN"), (2, u "T_CHAR"), (1, u "T_FLOAT"), (1, u "T_DOUBLE"), (1, u "T_BYTE"), (1, u "T_SHORT"), (1, u "T_INT"), (1, u "T_LONG"), (1, u "SOFT_MAX_ARRAY_LENGTH")] 83

def k17m0 : Method := { name := "<init>", desc := "()V", sig := { parameters := [], returnType := none }, accessFlags := 2, code := none }
/-- jdk/internal/util/ArraysSupport -/
def k17 : Class := { plain "jdk/internal/util/ArraysSupport" (some 0) with
  accessFlags := 33
  interfaces := #[]
  cf := some (fileOf pool17 21 #[] #[{ accessFlags := 2, nameIndex := 9, descriptorIndex := 19, attributes := #[] }] 33 16 #[] #[{ accessFlags := 24, nameIndex := 28, descriptorIndex := 29, attributes := #[] }, { accessFlags := 26, nameIndex := 38, descriptorIndex := 39, attributes := #[] }, { accessFlags := 25, nameIndex := 121, descriptorIndex := 25, attributes := #[] }, { accessFlags := 25, nameIndex := 131, descriptorIndex := 25, attributes := #[] }, { accessFlags := 25, nameIndex := 137, descriptorIndex := 25, attributes := #[] }, { accessFlags := 25, nameIndex := 143, descriptorIndex := 25, attributes := #[] }, { accessFlags := 25, nameIndex := 53, descriptorIndex := 25, attributes := #[] }, { accessFlags := 25, nameIndex := 24, descriptorIndex := 25, attributes := #[] }, { accessFlags := 25, nameIndex := 162, descriptorIndex := 25, attributes := #[] }, { accessFlags := 25, nameIndex := 187, descriptorIndex := 25, attributes := #[] }, { accessFlags := 26, nameIndex := 48, descriptorIndex := 25, attributes := #[] }, { accessFlags := 25, nameIndex := 277, descriptorIndex := 25, attributes := #[] }, { accessFlags := 25, nameIndex := 280, descriptorIndex := 25, attributes := #[] }, { accessFlags := 25, nameIndex := 282, descriptorIndex := 25, attributes := #[] }, { accessFlags := 25, nameIndex := 284, descriptorIndex := 25, attributes := #[] }, { accessFlags := 25, nameIndex := 286, descriptorIndex := 25, attributes := #[] }, { accessFlags := 25, nameIndex := 288, descriptorIndex := 25, attributes := #[] }, { accessFlags := 25, nameIndex := 290, descriptorIndex := 25, attributes := #[] }, { accessFlags := 25, nameIndex := 292, descriptorIndex := 25, attributes := #[] }, { accessFlags := 26, nameIndex := 108, descriptorIndex := 109, attributes := #[] }, { accessFlags := 25, nameIndex := 294, descriptorIndex := 25, attributes := #[] }])
  fields := #[{ name := "U", type := (.object "jdk/internal/misc/Unsafe"), accessFlags := 24, slot := 0, constantValue := 0 }, { name := "BIG_ENDIAN", type := .boolean, accessFlags := 26, slot := 1, constantValue := 0 }, { name := "LOG2_ARRAY_BOOLEAN_INDEX_SCALE", type := .int, accessFlags := 25, slot := 2, constantValue := 0 }, { name := "LOG2_ARRAY_BYTE_INDEX_SCALE", type := .int, accessFlags := 25, slot := 3, constantValue := 0 }, { name := "LOG2_ARRAY_CHAR_INDEX_SCALE", type := .int, accessFlags := 25, slot := 4, constantValue := 0 }, { name := "LOG2_ARRAY_SHORT_INDEX_SCALE", type := .int, accessFlags := 25, slot := 5, constantValue := 0 }, { name := "LOG2_ARRAY_INT_INDEX_SCALE", type := .int, accessFlags := 25, slot := 6, constantValue := 0 }, { name := "LOG2_ARRAY_LONG_INDEX_SCALE", type := .int, accessFlags := 25, slot := 7, constantValue := 0 }, { name := "LOG2_ARRAY_FLOAT_INDEX_SCALE", type := .int, accessFlags := 25, slot := 8, constantValue := 0 }, { name := "LOG2_ARRAY_DOUBLE_INDEX_SCALE", type := .int, accessFlags := 25, slot := 9, constantValue := 0 }, { name := "LOG2_BYTE_BIT_SIZE", type := .int, accessFlags := 26, slot := 10, constantValue := 0 }, { name := "T_BOOLEAN", type := .int, accessFlags := 25, slot := 11, constantValue := 0 }, { name := "T_CHAR", type := .int, accessFlags := 25, slot := 12, constantValue := 0 }, { name := "T_FLOAT", type := .int, accessFlags := 25, slot := 13, constantValue := 0 }, { name := "T_DOUBLE", type := .int, accessFlags := 25, slot := 14, constantValue := 0 }, { name := "T_BYTE", type := .int, accessFlags := 25, slot := 15, constantValue := 0 }, { name := "T_SHORT", type := .int, accessFlags := 25, slot := 16, constantValue := 0 }, { name := "T_INT", type := .int, accessFlags := 25, slot := 17, constantValue := 0 }, { name := "T_LONG", type := .int, accessFlags := 25, slot := 18, constantValue := 0 }, { name := "JLA", type := (.object "jdk/internal/access/JavaLangAccess"), accessFlags := 26, slot := 19, constantValue := 0 }, { name := "SOFT_MAX_ARRAY_LENGTH", type := .int, accessFlags := 25, slot := 20, constantValue := 0 }]
  methods := #[k17m0]
  instanceTypes := #[]
  staticTypes := #[(.object "jdk/internal/misc/Unsafe"), .boolean, .int, .int, .int, .int, .int, .int, .int, .int, .int, .int, .int, .int, .int, .int, .int, .int, .int, (.object "jdk/internal/access/JavaLangAccess"), .int]
  resolved := Array.replicate 378 none
  statics := none }

def pool18 : Array CpInfo := pool [(8, .class_ 10), (1, u "java/lang/Iterable"), (24, .class_ 36), (0, u "java/lang/Object")] 25

/-- java/lang/Iterable -/
def k18 : Class := { plain "java/lang/Iterable" (some 0) with
  accessFlags := 1537
  interfaces := #[]
  cf := some (fileOf pool18 8 #[] #[] 1537 35 #[] #[])
  fields := #[]
  methods := #[]
  instanceTypes := #[]
  staticTypes := #[]
  resolved := Array.replicate 62 none
  statics := none }

def pool19 : Array CpInfo := pool [(10, .class_ 12), (1, u "java/util/Collection"), (47, .class_ 61), (0, u "java/lang/Object"), (0, .class_ 63), (0, u "java/lang/Iterable")] 51

/-- java/util/Collection -/
def k19 : Class := { plain "java/util/Collection" (some 0) with
  accessFlags := 1537
  interfaces := #[18]
  cf := some (fileOf pool19 10 #[] #[] 1537 60 #[62] #[])
  fields := #[]
  methods := #[]
  instanceTypes := #[]
  staticTypes := #[]
  resolved := Array.replicate 115 none
  statics := none }

def pool20 : Array CpInfo := pool [(2, .class_ 4), (1, u "java/lang/Object"), (0, u "<init>"), (0, u "()V"), (1, .class_ 10), (1, u "java/util/AbstractCollection"), (66, .class_ 78), (0, u "java/util/Collection")] 81

def k20m0 : Method := { name := "<init>", desc := "()V", sig := { parameters := [], returnType := none }, accessFlags := 4, code := none }
/-- java/util/AbstractCollection -/
def k20 : Class := { plain "java/util/AbstractCollection" (some 0) with
  accessFlags := 1057
  interfaces := #[19]
  cf := some (fileOf pool20 8 #[] #[{ accessFlags := 4, nameIndex := 5, descriptorIndex := 6, attributes := #[] }] 1057 2 #[77] #[])
  fields := #[]
  methods := #[k20m0]
  instanceTypes := #[]
  staticTypes := #[]
  resolved := Array.replicate 160 none
  statics := none }

def pool21 : Array CpInfo := pool [(8, .class_ 10), (1, u "java/util/SequencedCollection"), (15, .class_ 27), (0, u "java/lang/Object"), (0, .class_ 29), (0, u "java/util/Collection")] 27

/-- java/util/SequencedCollection -/
def k21 : Class := { plain "java/util/SequencedCollection" (some 0) with
  accessFlags := 1537
  interfaces := #[19]
  cf := some (fileOf pool21 8 #[] #[] 1537 26 #[28] #[])
  fields := #[]
  methods := #[]
  instanceTypes := #[]
  staticTypes := #[]
  resolved := Array.replicate 57 none
  statics := none }

def pool22 : Array CpInfo := pool [(8, .class_ 10), (1, u "java/util/List"), (92, .class_ 104), (0, u "java/lang/Object"), (15, .class_ 121), (0, u "java/util/SequencedCollection")] 129

/-- java/util/List -/
def k22 : Class := { plain "java/util/List" (some 0) with
  accessFlags := 1537
  interfaces := #[21]
  cf := some (fileOf pool22 8 #[] #[] 1537 103 #[120] #[])
  fields := #[]
  methods := #[]
  instanceTypes := #[]
  staticTypes := #[]
  resolved := Array.replicate 251 none
  statics := none }

def pool23 : Array CpInfo := pool [(2, .class_ 4), (1, u "java/util/AbstractCollection"), (0, u "<init>"), (0, u "()V"), (1, .class_ 10), (1, u "java/util/AbstractList"), (0, u "modCount"), (0, u "I"), (64, .class_ 78), (0, u "java/util/AbstractList$Itr"), (3, .class_ 83), (0, u "java/util/AbstractList$ListItr"), (9, .class_ 94), (0, u "java/util/AbstractList$RandomAccessSubList"), (3, .class_ 99), (0, u "java/util/AbstractList$SubList"), (33, .class_ 134), (0, u "java/util/List"), (73, .class_ 209), (0, u "java/util/AbstractList$SubList$1"), (0, .class_ 211), (0, u "java/util/AbstractList$RandomAccessSpliterator")] 6

def k23m0 : Method := { name := "<init>", desc := "()V", sig := { parameters := [], returnType := none }, accessFlags := 4, code := none }
/-- java/util/AbstractList -/
def k23 : Class := { plain "java/util/AbstractList" (some 20) with
  accessFlags := 1057
  interfaces := #[22]
  cf := some (fileOf pool23 8 #[.nestMembers #[93, 98, 208, 210, 82, 77]] #[{ accessFlags := 4, nameIndex := 5, descriptorIndex := 6, attributes := #[] }] 1057 2 #[133] #[{ accessFlags := 132, nameIndex := 11, descriptorIndex := 12, attributes := #[] }])
  fields := #[{ name := "modCount", type := .int, accessFlags := 132, slot := 0, constantValue := 0 }]
  methods := #[k23m0]
  instanceTypes := #[.int]
  staticTypes := #[]
  resolved := Array.replicate 218 none
  statics := none }

def pool24 : Array CpInfo := pool [(1, .class_ 2), (0, u "java/util/RandomAccess"), (0, .class_ 4), (0, u "java/lang/Object")] 2

/-- java/util/RandomAccess -/
def k24 : Class := { plain "java/util/RandomAccess" (some 0) with
  accessFlags := 1537
  interfaces := #[]
  cf := some (fileOf pool24 1 #[] #[] 1537 3 #[] #[])
  fields := #[]
  methods := #[]
  instanceTypes := #[]
  staticTypes := #[]
  resolved := Array.replicate 7 none
  statics := none }

def pool25 : Array CpInfo := pool [(2, .class_ 4), (1, u "java/util/AbstractList"), (0, u "<init>"), (0, u "()V"), (1, .class_ 10), (1, u "java/util/Collections"), (54, .class_ 66), (0, u "java/util/Collections$EmptyList"), (0, .class_ 68), (0, u "java/util/RandomAccess"), (0, .class_ 70), (0, u "java/io/Serializable"), (0, u "serialVersionUID"), (0, u "J")] 77

def k25m0 : Method := { name := "<init>", desc := "()V", sig := { parameters := [], returnType := none }, accessFlags := 2, code := none }
/-- java/util/Collections$EmptyList -/
def k25 : Class := { plain "java/util/Collections$EmptyList" (some 23) with
  accessFlags := 32
  interfaces := #[24, 2]
  cf := some (fileOf pool25 65 #[.nestHost 8] #[{ accessFlags := 2, nameIndex := 5, descriptorIndex := 6, attributes := #[] }] 32 2 #[67, 69] #[{ accessFlags := 26, nameIndex := 71, descriptorIndex := 72, attributes := #[] }])
  fields := #[{ name := "serialVersionUID", type := .long, accessFlags := 26, slot := 0, constantValue := 0 }]
  methods := #[k25m0]
  instanceTypes := #[.int]
  staticTypes := #[.long]
  resolved := Array.replicate 150 none
  statics := none }

def pool26 : Array CpInfo := pool [(2, .class_ 4), (1, u "java/lang/StackTraceElement"), (0, u "<init>"), (2, .class_ 10), (1, u "java/lang/Object"), (0, u "()V"), (2, u "format"), (0, u "B"), (2, u "classLoaderName"), (0, u "Ljava/lang/String;"), (2, u "moduleName"), (2, u "moduleVersion"), (12, u "declaringClass"), (4, u "methodName"), (2, u "fileName"), (2, u "lineNumber"), (0, u "I"), (65, u "declaringClassObject"), (0, u "Ljava/lang/Class;"), (33, .class_ 153), (1, u "java/lang/StackTraceElement$HashedModules"), (17, .class_ 172), (0, u "java/io/Serializable"), (0, u "NATIVE_METHOD"), (1, u "UNKNOWN_SOURCE"), (2, u "BUILTIN_CLASS_LOADER"), (1, u "JDK_NON_UPGRADEABLE_MODULE"), (1, u "serialVersionUID"), (0, u "J")] 51

def k26m0 : Method := { name := "<init>", desc := "()V", sig := { parameters := [], returnType := none }, accessFlags := 2, code := none }
/-- java/lang/StackTraceElement -/
def k26 : Class := { plain "java/lang/StackTraceElement" (some 0) with
  accessFlags := 49
  interfaces := #[2]
  cf := some (fileOf pool26 2 #[.nestMembers #[151]] #[{ accessFlags := 2, nameIndex := 5, descriptorIndex := 11, attributes := #[] }] 49 8 #[171] #[{ accessFlags := 26, nameIndex := 173, descriptorIndex := 19, attributes := #[] }, { accessFlags := 26, nameIndex := 175, descriptorIndex := 19, attributes := #[] }, { accessFlags := 130, nameIndex := 116, descriptorIndex := 117, attributes := #[] }, { accessFlags := 2, nameIndex := 18, descriptorIndex := 19, attributes := #[] }, { accessFlags := 2, nameIndex := 22, descriptorIndex := 19, attributes := #[] }, { accessFlags := 2, nameIndex := 25, descriptorIndex := 19, attributes := #[] }, { accessFlags := 2, nameIndex := 38, descriptorIndex := 19, attributes := #[] }, { accessFlags := 2, nameIndex := 43, descriptorIndex := 19, attributes := #[] }, { accessFlags := 2, nameIndex := 46, descriptorIndex := 19, attributes := #[] }, { accessFlags := 2, nameIndex := 49, descriptorIndex := 50, attributes := #[] }, { accessFlags := 2, nameIndex := 14, descriptorIndex := 15, attributes := #[] }, { accessFlags := 26, nameIndex := 178, descriptorIndex := 15, attributes := #[] }, { accessFlags := 26, nameIndex := 180, descriptorIndex := 15, attributes := #[] }, { accessFlags := 26, nameIndex := 182, descriptorIndex := 183, attributes := #[] }])
  fields := #[{ name := "NATIVE_METHOD", type := (.object "java/lang/String"), accessFlags := 26, slot := 0, constantValue := 0 }, { name := "UNKNOWN_SOURCE", type := (.object "java/lang/String"), accessFlags := 26, slot := 1, constantValue := 0 }, { name := "declaringClassObject", type := (.object "java/lang/Class"), accessFlags := 130, slot := 0, constantValue := 0 }, { name := "classLoaderName", type := (.object "java/lang/String"), accessFlags := 2, slot := 1, constantValue := 0 }, { name := "moduleName", type := (.object "java/lang/String"), accessFlags := 2, slot := 2, constantValue := 0 }, { name := "moduleVersion", type := (.object "java/lang/String"), accessFlags := 2, slot := 3, constantValue := 0 }, { name := "declaringClass", type := (.object "java/lang/String"), accessFlags := 2, slot := 4, constantValue := 0 }, { name := "methodName", type := (.object "java/lang/String"), accessFlags := 2, slot := 5, constantValue := 0 }, { name := "fileName", type := (.object "java/lang/String"), accessFlags := 2, slot := 6, constantValue := 0 }, { name := "lineNumber", type := .int, accessFlags := 2, slot := 7, constantValue := 0 }, { name := "format", type := .byte, accessFlags := 2, slot := 8, constantValue := 0 }, { name := "BUILTIN_CLASS_LOADER", type := .byte, accessFlags := 26, slot := 2, constantValue := 0 }, { name := "JDK_NON_UPGRADEABLE_MODULE", type := .byte, accessFlags := 26, slot := 3, constantValue := 0 }, { name := "serialVersionUID", type := .long, accessFlags := 26, slot := 4, constantValue := 0 }]
  methods := #[k26m0]
  instanceTypes := #[(.object "java/lang/Class"), (.object "java/lang/String"), (.object "java/lang/String"), (.object "java/lang/String"), (.object "java/lang/String"), (.object "java/lang/String"), (.object "java/lang/String"), .int, .byte]
  staticTypes := #[(.object "java/lang/String"), (.object "java/lang/String"), .byte, .byte, .long]
  resolved := Array.replicate 235 none
  statics := none }

def pool27 : Array CpInfo := pool [(1, u "java/lang/Cloneable"), (0, .class_ 1), (0, u "java/lang/Object"), (0, .class_ 3)] 3

/-- java/lang/Cloneable -/
def k27 : Class := { plain "java/lang/Cloneable" (some 0) with
  accessFlags := 1537
  interfaces := #[]
  cf := some (fileOf pool27 2 #[] #[] 1537 4 #[] #[])
  fields := #[]
  methods := #[]
  instanceTypes := #[]
  staticTypes := #[]
  resolved := Array.replicate 8 none
  statics := none }

/-- the primitive byte -/
def k28 : Class := { plain "byte" none with kind := .primitive 'B', accessFlags := 0x411 }
/-- [B -/
def k29 : Class := { plain "[B" (some 0) with kind := .array 28 .byte, interfaces := #[27, 2], accessFlags := 1041 }

/-- the primitive char -/
def k30 : Class := { plain "char" none with kind := .primitive 'C', accessFlags := 0x411 }
/-- [C -/
def k31 : Class := { plain "[C" (some 0) with kind := .array 30 .char, interfaces := #[27, 2], accessFlags := 1041 }

/-- the primitive int -/
def k32 : Class := { plain "int" none with kind := .primitive 'I', accessFlags := 0x411 }
/-- [I -/
def k33 : Class := { plain "[I" (some 0) with kind := .array 32 .int, interfaces := #[27, 2], accessFlags := 1041 }

/-- [Ljava/lang/Object; -/
def k34 : Class := { plain "[Ljava/lang/Object;" (some 0) with kind := .array 0 (.object "java/lang/Object"), interfaces := #[27, 2], accessFlags := 1041 }

/-- [Ljava/lang/StackTraceElement; -/
def k35 : Class := { plain "[Ljava/lang/StackTraceElement;" (some 0) with kind := .array 26 (.object "java/lang/StackTraceElement"), interfaces := #[27, 2], accessFlags := 1041 }

/-- [Ljava/lang/Throwable; -/
def k36 : Class := { plain "[Ljava/lang/Throwable;" (some 0) with kind := .array 8 (.object "java/lang/Throwable"), interfaces := #[27, 2], accessFlags := 1041 }

def heap : Heap := #[{ cls := 7, slots := #[.long 0, .int 1, .null, .int 0, .null, .int 0, .int 0], vm := .statics 7 },
  { cls := 8, slots := #[.long 0, .ref 6, .ref 7, .null, .null, .null, .null, .ref 8, .int 1], vm := .statics 8 },
  { cls := 12, slots := #[.null, .null, .null, .null, .null, .ref 5, .null, .null], vm := .statics 12 },
  { cls := 15, slots := #[.int 0, .int 0, .int 0, .int 0, .int 0, .int 0, .int 0, .int 0, .null, .null, .ref 7, .null], vm := .statics 15 },
  { cls := 16, slots := #[.null, .null, .null], vm := .statics 16 },
  { cls := 12, slots := #[.null, .int 1, .int 0, .int 422], vm := .none },
  { cls := 35, slots := #[], vm := .none },
  { cls := 25, slots := #[.int 0], vm := .none },
  { cls := 36, slots := #[], vm := .none }]
def classes : Array Class := #[k0, k1, k2, k3, k4, k5, k6, k7, k8, k9, k10, k11, k12, k13, k14, k15, k16, k17, k18, k19, k20, k21, k22, k23, k24, k25, k26, k27, k28, k29, k30, k31, k32, k33, k34, k35, k36]
def interned : List (Array UInt16 × Addr) := []
def slotsUsed : Nat := 44
def theMethod : MethodId := ⟨1, 2⟩
def args0 : Array Value := #[.int 3, .int 5, .int 300, .int 2]
def aboutOver (below : List Frame) : State where
  vm := { classes := classes, interned := interned.toArray }
  heap := heap
  slotsUsed := slotsUsed
  threads := #[{ frames := .invoking theMethod args0 :: below }]
def below0 : List Frame := [.native { method := ⟨0, 0⟩, args := #[] }]
def about1 : State := aboutOver below0
def p0 : Program := .bare "" "" ""
def e0 : Env := launch0.env 0 0 0
theorem w_frames : about1.frames = Frame.invoking theMethod args0 :: below0 := rfl
set_option maxRecDepth 65536 in
theorem w_args : argsFit about1.vm theMethod args0 = true := by decide +kernel
set_option maxRecDepth 65536 in
theorem w_heap : heapFits about1 = true := by decide +kernel
set_option maxRecDepth 65536 in
theorem w_runnable : about1.curStatus? = some .runnable := by decide +kernel
set_option maxRecDepth 65536 in
theorem w_alone : about1.alone = true := by decide +kernel
set_option maxRecDepth 65536 in
theorem w_named : about1.methodNamed? x = some theMethod := by decide +kernel
set_option maxRecDepth 65536 in
theorem w_hears : about1.hears theMethod below0 = true := by decide +kernel
set_option maxRecDepth 65536 in
theorem w_ripe : about1.ripe theMethod args0 below0 = true := by decide +kernel
theorem w_running : about1.status = .running := rfl
set_option maxRecDepth 65536 in
theorem w_room : about1.hasRoom e0.platform room_1 = true :=
  launch0.hasRoom_least _ room_1 (by decide +kernel) (by decide +kernel) (by decide +kernel) (by decide +kernel) (by decide +kernel) (by decide +kernel)
theorem allAtoms_all (ts : List Jvm.Cond) (a : Array Jvm.Value) (st : Jvm.State) : (allAtoms ts).before a st = ts.all (fun c => c.before a st) := by
  induction ts with
  | nil => rfl
  | cons c t ih =>
    show (Jvm.Cond.and c (allAtoms t)).before a st = _
    rw [Jvm.Cond.before_and, ih, List.all_cons]
def words1 : List Jvm.Cond := Jvm.Cond.code x code maxLocals ret :: tables_1
/-- a 'code' word, met by the world's own term for the bytes: nothing is compared byte by byte -/
theorem code_word {y : MethodName} {bytes : ByteArray} {mx : Nat} {rt : Option FieldType} {a : Array Value} {s : State} {m : MethodId} {meth : Method} {c : Code} (h1 : s.methodNamed? y = some m) (h2 : s.vm.method? m = some meth) (h3 : meth.code = some c) (h4 : c.code = bytes)
    (h5 : (c.maxLocals == mx && c.exceptionTable.isEmpty && decide (c.maxStack ≤ mostOperands) && decide (meth.sig.returnType = rt) && !meth.locks && decide (parseMethodDescriptor y.desc = some meth.sig)) = true) : (Jvm.Cond.code y bytes mx rt).before a s = true := by
  simp only [Bool.and_eq_true, beq_iff_eq, Bool.not_eq_true', decide_eq_true_eq] at h5
  obtain ⟨⟨⟨⟨⟨g1, g2⟩, g3⟩, g4⟩, g5⟩, g6⟩ := h5
  simp [Cond.before, Cond.holds, Cond.value, h1, h2, h3, h4, g1, g2, g3, g4, g5, g6]
def isCode : Jvm.Cond → Bool
  | .code _ _ _ _ => true
  | _ => false
theorem all_split {L : List Jvm.Cond} {P : Jvm.Cond → Bool} (h1 : L.all (fun c => isCode c || P c) = true) (h2 : ∀ c ∈ L.filter isCode, P c = true) : L.all P = true := by
  refine List.all_eq_true.mpr fun c hc => ?_
  have h := List.all_eq_true.mp h1 c hc
  rcases Bool.eq_false_or_eq_true (isCode c) with hi | hi
  · exact h2 c (List.mem_filter.mpr ⟨hc, hi⟩)
  · simpa [hi] using h
set_option maxRecDepth 65536 in
theorem w_c0 : (Jvm.Cond.code x code maxLocals ret).before args0 about1 = true := code_word (m := ⟨1, 2⟩) (meth := k1m2) (c := k1c2) (by decide +kernel) rfl rfl rfl (by decide +kernel)
set_option maxRecDepth 65536 in
theorem w_c1 : (Jvm.Cond.code ({ cls := "com/example/manque/manque/DeclinedRefusedPinLaw", name := "make", desc := "(IIII)Ljava/lang/String;" } : Jvm.MethodName) method_2_code (8 : Nat) (Option.some (Jvm.ClassFile.FieldType.object "java/lang/String"))).before args0 about1 = true := code_word (m := ⟨1, 1⟩) (meth := k1m1) (c := k1c1) (by decide +kernel) rfl rfl rfl (by decide +kernel)
set_option maxRecDepth 65536 in
theorem w_c2 : (Jvm.Cond.code ({ cls := "java/lang/String", name := "<init>", desc := "([C)V" } : Jvm.MethodName) jdk_42_method_3_code (2 : Nat) (Option.none : Option Jvm.ClassFile.FieldType)).before args0 about1 = true := code_word (m := ⟨7, 1⟩) (meth := k7m1) (c := k7c1) (by decide +kernel) rfl rfl rfl (by decide +kernel)
set_option maxRecDepth 65536 in
theorem w_c3 : (Jvm.Cond.code ({ cls := "java/lang/String", name := "<init>", desc := "([CIILjava/lang/Void;)V" } : Jvm.MethodName) jdk_42_method_149_code (6 : Nat) (Option.none : Option Jvm.ClassFile.FieldType)).before args0 about1 = true := code_word (m := ⟨7, 5⟩) (meth := k7m5) (c := k7c5) (by decide +kernel) rfl rfl rfl (by decide +kernel)
set_option maxRecDepth 65536 in
theorem w_c4 : (Jvm.Cond.code ({ cls := "java/lang/Object", name := "<init>", desc := "()V" } : Jvm.MethodName) object_method_1_code (1 : Nat) (Option.none : Option Jvm.ClassFile.FieldType)).before args0 about1 = true := code_word (m := ⟨0, 0⟩) (meth := k0m0) (c := k0c0) (by decide +kernel) rfl rfl rfl (by decide +kernel)
set_option maxRecDepth 65536 in
theorem w_c5 : (Jvm.Cond.code ({ cls := "com/example/manque/manque/Declined", name := "refused", desc := "(Ljava/lang/String;)Lcom/example/manque/manque/Declined;" } : Jvm.MethodName) prog_1_method_4_code (1 : Nat) (Option.some (Jvm.ClassFile.FieldType.object "com/example/manque/manque/Declined"))).before args0 about1 = true := code_word (m := ⟨10, 1⟩) (meth := k10m1) (c := k10c1) (by decide +kernel) rfl rfl rfl (by decide +kernel)
set_option maxRecDepth 65536 in
theorem w_c6 : (Jvm.Cond.code ({ cls := "com/example/manque/manque/Declined", name := "<init>", desc := "(Lcom/example/manque/manque/Declined$Kind;Ljava/lang/String;)V" } : Jvm.MethodName) prog_1_method_1_code (3 : Nat) (Option.none : Option Jvm.ClassFile.FieldType)).before args0 about1 = true := code_word (m := ⟨10, 0⟩) (meth := k10m0) (c := k10c0) (by decide +kernel) rfl rfl rfl (by decide +kernel)
set_option maxRecDepth 65536 in
theorem w_c7 : (Jvm.Cond.code ({ cls := "java/lang/Exception", name := "<init>", desc := "(Ljava/lang/String;)V" } : Jvm.MethodName) jdk_59_method_2_code (2 : Nat) (Option.none : Option Jvm.ClassFile.FieldType)).before args0 about1 = true := code_word (m := ⟨9, 1⟩) (meth := k9m1) (c := k9c1) (by decide +kernel) rfl rfl rfl (by decide +kernel)
set_option maxRecDepth 65536 in
theorem w_c8 : (Jvm.Cond.code ({ cls := "java/lang/Throwable", name := "<init>", desc := "(Ljava/lang/String;)V" } : Jvm.MethodName) jdk_78_method_2_code (2 : Nat) (Option.none : Option Jvm.ClassFile.FieldType)).before args0 about1 = true := code_word (m := ⟨8, 1⟩) (meth := k8m1) (c := k8c1) (by decide +kernel) rfl rfl rfl (by decide +kernel)
set_option maxRecDepth 65536 in
theorem w_c9 : (Jvm.Cond.code ({ cls := "java/lang/Throwable", name := "<init>", desc := "()V" } : Jvm.MethodName) jdk_78_method_1_code (1 : Nat) (Option.none : Option Jvm.ClassFile.FieldType)).before args0 about1 = true := code_word (m := ⟨8, 0⟩) (meth := k8m0) (c := k8c0) (by decide +kernel) rfl rfl rfl (by decide +kernel)
set_option maxRecDepth 65536 in
theorem w_c10 : (Jvm.Cond.code ({ cls := "com/example/manque/manque/Declined", name := "kind", desc := "()Lcom/example/manque/manque/Declined$Kind;" } : Jvm.MethodName) prog_1_method_5_code (1 : Nat) (Option.some (Jvm.ClassFile.FieldType.object "com/example/manque/manque/Declined$Kind"))).before args0 about1 = true := code_word (m := ⟨10, 2⟩) (meth := k10m2) (c := k10c2) (by decide +kernel) rfl rfl rfl (by decide +kernel)
set_option maxRecDepth 65536 in
theorem w_c11 : (Jvm.Cond.code ({ cls := "com/example/manque/manque/Declined$Kind", name := "status", desc := "()I" } : Jvm.MethodName) prog_2_method_4_code (1 : Nat) (Option.some Jvm.ClassFile.FieldType.int)).before args0 about1 = true := code_word (m := ⟨12, 0⟩) (meth := k12m0) (c := k12c0) (by decide +kernel) rfl rfl rfl (by decide +kernel)
set_option maxRecDepth 65536 in
theorem w_c12 : (Jvm.Cond.code ({ cls := "java/lang/Throwable", name := "getMessage", desc := "()Ljava/lang/String;" } : Jvm.MethodName) jdk_78_method_6_code (1 : Nat) (Option.some (Jvm.ClassFile.FieldType.object "java/lang/String"))).before args0 about1 = true := code_word (m := ⟨8, 2⟩) (meth := k8m2) (c := k8c2) (by decide +kernel) rfl rfl rfl (by decide +kernel)
set_option maxRecDepth 65536 in
theorem w_c13 : (Jvm.Cond.code ({ cls := "java/lang/String", name := "length", desc := "()I" } : Jvm.MethodName) jdk_42_method_54_code (1 : Nat) (Option.some Jvm.ClassFile.FieldType.int)).before args0 about1 = true := code_word (m := ⟨7, 2⟩) (meth := k7m2) (c := k7c2) (by decide +kernel) rfl rfl rfl (by decide +kernel)
set_option maxRecDepth 65536 in
theorem w_c14 : (Jvm.Cond.code ({ cls := "java/lang/String", name := "coder", desc := "()B" } : Jvm.MethodName) jdk_42_method_152_code (1 : Nat) (Option.some Jvm.ClassFile.FieldType.byte)).before args0 about1 = true := code_word (m := ⟨7, 7⟩) (meth := k7m7) (c := k7c7) (by decide +kernel) rfl rfl rfl (by decide +kernel)
set_option maxRecDepth 65536 in
theorem w_c15 : (Jvm.Cond.code ({ cls := "java/lang/String", name := "equals", desc := "(Ljava/lang/Object;)Z" } : Jvm.MethodName) jdk_42_method_66_code (3 : Nat) (Option.some Jvm.ClassFile.FieldType.boolean)).before args0 about1 = true := code_word (m := ⟨7, 3⟩) (meth := k7m3) (c := k7c3) (by decide +kernel) rfl rfl rfl (by decide +kernel)
set_option maxRecDepth 65536 in
theorem w_c16 : (Jvm.Cond.code ({ cls := "java/lang/String", name := "valueOf", desc := "(C)Ljava/lang/String;" } : Jvm.MethodName) jdk_42_method_139_code (1 : Nat) (Option.some (Jvm.ClassFile.FieldType.object "java/lang/String"))).before args0 about1 = true := code_word (m := ⟨7, 4⟩) (meth := k7m4) (c := k7c4) (by decide +kernel) rfl rfl rfl (by decide +kernel)
set_option maxRecDepth 65536 in
theorem w_c17 : (Jvm.Cond.code ({ cls := "java/lang/StringLatin1", name := "canEncode", desc := "(C)Z" } : Jvm.MethodName) jdk_43_method_3_code (1 : Nat) (Option.some Jvm.ClassFile.FieldType.boolean)).before args0 about1 = true := code_word (m := ⟨13, 1⟩) (meth := k13m1) (c := k13c1) (by decide +kernel) rfl rfl rfl (by decide +kernel)
set_option maxRecDepth 65536 in
theorem w_c18 : (Jvm.Cond.code ({ cls := "java/lang/StringLatin1", name := "toBytes", desc := "(C)[B" } : Jvm.MethodName) jdk_43_method_46_code (1 : Nat) (Option.some (Jvm.ClassFile.FieldType.array Jvm.ClassFile.FieldType.byte))).before args0 about1 = true := code_word (m := ⟨13, 2⟩) (meth := k13m2) (c := k13c2) (by decide +kernel) rfl rfl rfl (by decide +kernel)
set_option maxRecDepth 65536 in
theorem w_c19 : (Jvm.Cond.code ({ cls := "java/lang/String", name := "<init>", desc := "([BB)V" } : Jvm.MethodName) jdk_42_method_151_code (3 : Nat) (Option.none : Option Jvm.ClassFile.FieldType)).before args0 about1 = true := code_word (m := ⟨7, 6⟩) (meth := k7m6) (c := k7c6) (by decide +kernel) rfl rfl rfl (by decide +kernel)
set_option maxRecDepth 65536 in
theorem w_c20 : (Jvm.Cond.code ({ cls := "java/lang/StringUTF16", name := "compress", desc := "([CII)[B" } : Jvm.MethodName) jdk_52_method_16_code (6 : Nat) (Option.some (Jvm.ClassFile.FieldType.array Jvm.ClassFile.FieldType.byte))).before args0 about1 = true := code_word (m := ⟨14, 2⟩) (meth := k14m2) (c := k14c2) (by decide +kernel) rfl rfl rfl (by decide +kernel)
set_option maxRecDepth 65536 in
theorem w_c21 : (Jvm.Cond.code ({ cls := "java/lang/StringUTF16", name := "compress", desc := "([CI[BII)I" } : Jvm.MethodName) jdk_52_method_21_code (7 : Nat) (Option.some Jvm.ClassFile.FieldType.int)).before args0 about1 = true := code_word (m := ⟨14, 3⟩) (meth := k14m3) (c := k14c3) (by decide +kernel) rfl rfl rfl (by decide +kernel)
set_option maxRecDepth 65536 in
theorem w_c22 : (Jvm.Cond.code ({ cls := "java/lang/StringUTF16", name := "coderFromArrayLen", desc := "([BI)B" } : Jvm.MethodName) jdk_52_method_15_code (2 : Nat) (Option.some Jvm.ClassFile.FieldType.byte)).before args0 about1 = true := code_word (m := ⟨14, 1⟩) (meth := k14m1) (c := k14c1) (by decide +kernel) rfl rfl rfl (by decide +kernel)
def codes1 : List Jvm.Cond := [Jvm.Cond.code x code maxLocals ret, Jvm.Cond.code ({ cls := "com/example/manque/manque/DeclinedRefusedPinLaw", name := "make", desc := "(IIII)Ljava/lang/String;" } : Jvm.MethodName) method_2_code (8 : Nat) (Option.some (Jvm.ClassFile.FieldType.object "java/lang/String")), Jvm.Cond.code ({ cls := "java/lang/String", name := "<init>", desc := "([C)V" } : Jvm.MethodName) jdk_42_method_3_code (2 : Nat) (Option.none : Option Jvm.ClassFile.FieldType), Jvm.Cond.code ({ cls := "java/lang/String", name := "<init>", desc := "([CIILjava/lang/Void;)V" } : Jvm.MethodName) jdk_42_method_149_code (6 : Nat) (Option.none : Option Jvm.ClassFile.FieldType), Jvm.Cond.code ({ cls := "java/lang/Object", name := "<init>", desc := "()V" } : Jvm.MethodName) object_method_1_code (1 : Nat) (Option.none : Option Jvm.ClassFile.FieldType), Jvm.Cond.code ({ cls := "com/example/manque/manque/Declined", name := "refused", desc := "(Ljava/lang/String;)Lcom/example/manque/manque/Declined;" } : Jvm.MethodName) prog_1_method_4_code (1 : Nat) (Option.some (Jvm.ClassFile.FieldType.object "com/example/manque/manque/Declined")), Jvm.Cond.code ({ cls := "com/example/manque/manque/Declined", name := "<init>", desc := "(Lcom/example/manque/manque/Declined$Kind;Ljava/lang/String;)V" } : Jvm.MethodName) prog_1_method_1_code (3 : Nat) (Option.none : Option Jvm.ClassFile.FieldType), Jvm.Cond.code ({ cls := "java/lang/Exception", name := "<init>", desc := "(Ljava/lang/String;)V" } : Jvm.MethodName) jdk_59_method_2_code (2 : Nat) (Option.none : Option Jvm.ClassFile.FieldType), Jvm.Cond.code ({ cls := "java/lang/Throwable", name := "<init>", desc := "(Ljava/lang/String;)V" } : Jvm.MethodName) jdk_78_method_2_code (2 : Nat) (Option.none : Option Jvm.ClassFile.FieldType), Jvm.Cond.code ({ cls := "java/lang/Throwable", name := "<init>", desc := "()V" } : Jvm.MethodName) jdk_78_method_1_code (1 : Nat) (Option.none : Option Jvm.ClassFile.FieldType), Jvm.Cond.code ({ cls := "com/example/manque/manque/Declined", name := "kind", desc := "()Lcom/example/manque/manque/Declined$Kind;" } : Jvm.MethodName) prog_1_method_5_code (1 : Nat) (Option.some (Jvm.ClassFile.FieldType.object "com/example/manque/manque/Declined$Kind")), Jvm.Cond.code ({ cls := "com/example/manque/manque/Declined$Kind", name := "status", desc := "()I" } : Jvm.MethodName) prog_2_method_4_code (1 : Nat) (Option.some Jvm.ClassFile.FieldType.int), Jvm.Cond.code ({ cls := "java/lang/Throwable", name := "getMessage", desc := "()Ljava/lang/String;" } : Jvm.MethodName) jdk_78_method_6_code (1 : Nat) (Option.some (Jvm.ClassFile.FieldType.object "java/lang/String")), Jvm.Cond.code ({ cls := "java/lang/String", name := "length", desc := "()I" } : Jvm.MethodName) jdk_42_method_54_code (1 : Nat) (Option.some Jvm.ClassFile.FieldType.int), Jvm.Cond.code ({ cls := "java/lang/String", name := "coder", desc := "()B" } : Jvm.MethodName) jdk_42_method_152_code (1 : Nat) (Option.some Jvm.ClassFile.FieldType.byte), Jvm.Cond.code ({ cls := "java/lang/String", name := "equals", desc := "(Ljava/lang/Object;)Z" } : Jvm.MethodName) jdk_42_method_66_code (3 : Nat) (Option.some Jvm.ClassFile.FieldType.boolean), Jvm.Cond.code ({ cls := "java/lang/String", name := "valueOf", desc := "(C)Ljava/lang/String;" } : Jvm.MethodName) jdk_42_method_139_code (1 : Nat) (Option.some (Jvm.ClassFile.FieldType.object "java/lang/String")), Jvm.Cond.code ({ cls := "java/lang/StringLatin1", name := "canEncode", desc := "(C)Z" } : Jvm.MethodName) jdk_43_method_3_code (1 : Nat) (Option.some Jvm.ClassFile.FieldType.boolean), Jvm.Cond.code ({ cls := "java/lang/StringLatin1", name := "toBytes", desc := "(C)[B" } : Jvm.MethodName) jdk_43_method_46_code (1 : Nat) (Option.some (Jvm.ClassFile.FieldType.array Jvm.ClassFile.FieldType.byte)), Jvm.Cond.code ({ cls := "java/lang/String", name := "<init>", desc := "([BB)V" } : Jvm.MethodName) jdk_42_method_151_code (3 : Nat) (Option.none : Option Jvm.ClassFile.FieldType), Jvm.Cond.code ({ cls := "java/lang/StringUTF16", name := "compress", desc := "([CII)[B" } : Jvm.MethodName) jdk_52_method_16_code (6 : Nat) (Option.some (Jvm.ClassFile.FieldType.array Jvm.ClassFile.FieldType.byte)), Jvm.Cond.code ({ cls := "java/lang/StringUTF16", name := "compress", desc := "([CI[BII)I" } : Jvm.MethodName) jdk_52_method_21_code (7 : Nat) (Option.some Jvm.ClassFile.FieldType.int), Jvm.Cond.code ({ cls := "java/lang/StringUTF16", name := "coderFromArrayLen", desc := "([BI)B" } : Jvm.MethodName) jdk_52_method_15_code (2 : Nat) (Option.some Jvm.ClassFile.FieldType.byte)]
set_option maxRecDepth 65536 in
theorem codes_eq : words1.filter isCode = codes1 := rfl
theorem w_codes : ∀ c ∈ words1.filter isCode, c.before args0 about1 = true := by
  rw [codes_eq]
  intro c hc
  simp only [codes1, List.mem_cons, List.not_mem_nil, or_false] at hc
  rcases hc with rfl | rfl | rfl | rfl | rfl | rfl | rfl | rfl | rfl | rfl | rfl | rfl | rfl | rfl | rfl | rfl | rfl | rfl | rfl | rfl | rfl | rfl | rfl
  · exact w_c0
  · exact w_c1
  · exact w_c2
  · exact w_c3
  · exact w_c4
  · exact w_c5
  · exact w_c6
  · exact w_c7
  · exact w_c8
  · exact w_c9
  · exact w_c10
  · exact w_c11
  · exact w_c12
  · exact w_c13
  · exact w_c14
  · exact w_c15
  · exact w_c16
  · exact w_c17
  · exact w_c18
  · exact w_c19
  · exact w_c20
  · exact w_c21
  · exact w_c22
set_option maxRecDepth 65536 in
theorem w_t1 : (words1.take 24).all (fun c => isCode c || c.before args0 about1) = true := by decide +kernel
set_option maxRecDepth 65536 in
theorem w_t2 : ((words1.drop 24).take 24).all (fun c => isCode c || c.before args0 about1) = true := by decide +kernel
set_option maxRecDepth 65536 in
theorem w_t3 : (((words1.drop 24).drop 24).take 24).all (fun c => isCode c || c.before args0 about1) = true := by decide +kernel
set_option maxRecDepth 65536 in
theorem w_t4 : ((((words1.drop 24).drop 24).drop 24).take 24).all (fun c => isCode c || c.before args0 about1) = true := by decide +kernel
set_option maxRecDepth 65536 in
theorem w_t5 : (((((words1.drop 24).drop 24).drop 24).drop 24).take 24).all (fun c => isCode c || c.before args0 about1) = true := by decide +kernel
set_option maxRecDepth 65536 in
theorem w_t6 : ((((((words1.drop 24).drop 24).drop 24).drop 24).drop 24).take 24).all (fun c => isCode c || c.before args0 about1) = true := by decide +kernel
set_option maxRecDepth 65536 in
theorem w_t7 : ((((((words1.drop 24).drop 24).drop 24).drop 24).drop 24).drop 24).all (fun c => isCode c || c.before args0 about1) = true := by decide +kernel
theorem w_tables : (allAtoms (Jvm.Cond.code x code maxLocals ret :: tables_1)).before args0 about1 = true := by
  rw [allAtoms_all]
  show words1.all (fun c => c.before args0 about1) = true
  refine all_split ?_ w_codes
  rw [← List.take_append_drop 24 words1, List.all_append, w_t1, ← List.take_append_drop 24 (words1.drop 24), List.all_append, w_t2, ← List.take_append_drop 24 ((words1.drop 24).drop 24), List.all_append, w_t3, ← List.take_append_drop 24 (((words1.drop 24).drop 24).drop 24), List.all_append, w_t4, ← List.take_append_drop 24 ((((words1.drop 24).drop 24).drop 24).drop 24), List.all_append, w_t5, ← List.take_append_drop 24 (((((words1.drop 24).drop 24).drop 24).drop 24).drop 24), List.all_append, w_t6, w_t7]
  rfl
set_option maxRecDepth 65536 in
theorem w_rest : rest_1_c.before args0 about1 = true := by decide +kernel
set_option maxRecDepth 65536 in
theorem w_case : (Jvm.Cond.and given_1 narrow_1).before args0 about1 = true := by decide +kernel
set_option maxRecDepth 65536 in
theorem w_consts : constsHeld consts_1 about1 := Jvm.Lit.constsHeldB_iff.mp (by decide +kernel)
theorem w_applies : (headSpec (Jvm.Cond.code x code maxLocals ret :: tables_1) room_1).applies x e0.platform about1 = true :=
  (Spec.applies_iff w_frames).mpr ⟨w_running, w_runnable, w_alone, w_named, w_hears, w_ripe, w_room, w_tables⟩
theorem atStart : AtStart classFile x code maxLocals ret World_1 tables_1 room_1 Calls_1 rest_1 Pre_1 launch0 p0 e0 about1 theMethod args0 below0 :=
  ⟨lists_1, trivial, launch0.admits_env _ _ _, launch0.least_env, fairChoices_fair.cas, fairChoices_fair.clock, w_frames, w_args, w_heap, w_applies, ⟨(by decide +kernel : framesKnown about1 = true), ⟨(by decide +kernel : tablesKnown about1 = true), ⟨w_consts, trivial⟩⟩⟩, w_rest, w_case⟩
end start1
theorem witness_1 : WitnessClaimed_1 := ⟨start1.p0, start1.e0, start1.about1, start1.theMethod, start1.args0, start1.below0, start1.atStart⟩
end Jvm.Pilot.@@N@@
