import JvmDerived
import JvmDerived.Pilot.@@N@@Statement
import JvmDerived.Pilot.@@N@@Code
set_option linter.unusedVariables false
set_option linter.unusedSimpArgs false
@@BLOCK:TracedD.lean.txt@@
namespace Jvm.Pilot.@@N@@
open Jvm Jvm.ClassFile Sem Op Lib Jvm.Free Jvm.Stand Jvm.LawKit Jvm.RoadKit Bundle Jvm.Free.XT Jvm.Pilot.@@N@@.Jvm.D
theorem own_n0 {Z : State} {n0 : Nat} {h : Heap} (X : Old Z n0 h) : n0 ≤ h.size := X.1 ▸ X.2.1
theorem own_lt {a m n : Nat} (h : a < m) (k : m ≤ n) : a < n := Nat.lt_of_lt_of_le h k
theorem own_since0 (s : State) (n : Nat) : s.Since s.vm n := ⟨State.Warmed39.refl s, fun j p hj hp => absurd (Array.getElem?_eq_some_iff.mp hp).1 (Nat.not_lt.mpr hj)⟩
theorem own_narR {v : Value} {t : FieldType} (h : v.isRef = true) : narrow t v = v := by rcases ref_cases h with rfl | ⟨a, rfl⟩ <;> cases t <;> rfl
theorem own_fitR {v : Value} {t : FieldType} (h : v.isRef = true) (ht : t.isReference = true := by rfl) : fits t v = true := by rcases ref_cases h with rfl | ⟨a, rfl⟩ <;> cases t <;> first | rfl | cases ht
theorem own_priv {s : State} {args : Array Value} {y : MethodName} (h : (Jvm.Cond.privateMethod y).before args s = true) : s.PrivateAt y := Cond.privateMethod_at h
abbrev own_CP (l : Launch) (Z : State) (y : MethodName) (bytes : ByteArray) (ml : Nat) (ret : Option FieldType) (ws : List Jvm.Cond) (R : Room) (as' : Array Value) (h0 : Heap) (Q : Option Value → Heap → List Loc → Prop) : Prop :=
  MetFree l y (head1 (Jvm.Cond.code y bytes ml ret :: ws) R) (fun a U => a = as' ∧ Z.Warmed39 U.vm ∧ U.heap = h0) (fun _ _ _ _ _ => True) (fun _ U o U' => ∃ v L, o = .returned v ∧ Q v U'.heap L ∧ FrameEnd U o U' L R.cells R.slots)
theorem own_P {l : Launch} {Z : State} {y : MethodName} {bytes : ByteArray} {ml : Nat} {ret : Option FieldType} {ws : List Jvm.Cond} {R : Room} {as' : Array Value} {h0 : Heap} {Q : Option Value → Heap → List Loc → Prop} (hpl : plainFor y = true)
    (H : ∀ (p : Program) (e : Env) (s : State) (m : MethodId) (below : List Frame) (meth : Method) (c : ClassFile.Code) (s₁ S0 : State), BodyLoose p l y (head1 (Jvm.Cond.code y bytes ml ret :: ws) R) bytes ml ret e s m as' below meth c s₁ → Z.Warmed39 s.vm → s.heap = h0 → p.tables.exec = Jvm.exec → c.code = bytes → c.maxLocals = ml → s.vm.findClass y.cls = some m.cls → meth.name = y.name →
      Stand p l e R s m as' below meth c s₁ [] 0 0 → s₁.heap = h0 → S0 = s₁.setTop (entryFrame m as' ml) → ∃ s₂ o, Steps p.tables e below S0 s₂ ∧ s₂.status = .running ∧ Ended s₂ below o ∧ ∃ v L, o = .returned v ∧ Q v s₂.heap L ∧ FrameEnd s o s₂ L R.cells R.slots) : own_CP l Z y bytes ml ret ws R as' h0 Q := by
  refine MetFree.of_bodySF hpl hisR ?_
  intro p e s m args below meth c s₁ Bd hml hP hK
  obtain ⟨rfl, hZ, hh⟩ := hP
  exact H p e s m below meth c s₁ _ Bd hZ hh Bd.exec Bd.bytes hml (findClass_of_methodNamed Bd.named) (name_of_methodNamed Bd.named Bd.method).1 (Stand.of_body Bd) (by rw [← hh, Bd.state]; rfl) rfl
theorem own_EL {Z : State} {a0 : Array Value} (hw : ∀ d ∈ tables_1, d.before a0 Z = true) : EW Z a0 consts_1 := EW.cons (hw _ (List.mem_of_getElem? (i := 120) rfl)) (by decide) EW.nil
theorem own_SA {Z : State} {a0 : Array Value} (hw : ∀ d ∈ tables_1, d.before a0 Z = true) : ∀ d ∈ Bundle.stringAtoms, d.before a0 Z = true := fun d hd => hw d ((by decide +kernel : ∀ d ∈ Bundle.stringAtoms, d ∈ tables_1) d hd)
theorem own_safe_null {Z : State} {EL : List (String × Nat)} {vm : Vm} {h : Heap} {x : Addr} (hal : Z.vm.Alike vm) (E : Exa Z h x "java/lang/String") (F : Fld Z h x "java/lang/String" "value" "[B" .null) : Safe Z EL vm h x := by
  rintro ⟨p, hp, u, a, B, q, hqa, ⟨cS, ⟨S1, S2, S3⟩, -, hcl, hsb⟩, hy⟩
  rcases hy with hy | hy
  · subst hy
    obtain ⟨cell, cf, k, i, f, h1, h2, h3, h4, h5, h6, h7⟩ := F
    obtain ⟨k', h2', -⟩ := State.fieldFound?_setVm (s := Z) hal h2
    obtain ⟨c2, k2, i2, g1, -⟩ := S1.ffV
    have e1 : cell = q.sC := Option.some.inj (h1.symm.trans S1.ha)
    have e2 : (Z.setVm vm).fieldFound? "java/lang/String" "value" "[B" = some (c2, k2, i2, q.fSV) := g1
    have e3 := Option.some.inj (h2'.symm.trans e2)
    have e4 : f = q.fSV := congrArg (fun z => z.2.2.2) e3
    have e5 : q.sC.slots[q.fSV.slot]? = some (.ref q.sd) := S1.2.2.2.2.2.2.2.1
    rw [e1, e4, e5] at h7
    cases h7
  · subst hy
    obtain ⟨c1, k1, h1, h2, -⟩ := E
    have e1 : c1 = q.SA := Option.some.inj (h1.symm.trans S1.2.2.2.2.2.2.2.2.2.1)
    have h2' : vm.findClass "java/lang/String" = some c1.cls := by rw [hal.findClass]; exact h2
    have hcl' : vm.findClass "[B" = some q.SA.cls := hcl
    rw [e1] at h2'
    obtain ⟨k3, a1, a2⟩ := Vm.findClass_spec h2'
    obtain ⟨k4, b1, b2⟩ := Vm.findClass_spec hcl'
    cases a1.symm.trans b1
    exact absurd (a2.symm.trans b2) (by decide)
abbrev own_CH (l : Launch) (Z : State) (y : MethodName) (bytes : ByteArray) (ml : Nat) (ret : Option FieldType) (ws : List Jvm.Cond) (R : Room) (as' : Array Value) (h0 : Heap) (Q : Option Value → Heap → List Loc → Prop) : Prop :=
  MetFree l y (head1 (Jvm.Cond.code y bytes ml ret :: ws) R) (fun a U => a = as' ∧ Z.Warmed39 U.vm ∧ U.heap = h0 ∧ CHv Z consts_1 U.vm h0) (fun _ _ _ _ _ => True) (fun _ U o U' => ∃ v L, o = .returned v ∧ Q v U'.heap L ∧ CHr Z consts_1 U.vm U.heap U'.vm U'.heap ∧ ReturnedEndW U o U' L R.cells R.slots)
abbrev own_CK (l : Launch) (Z : State) (y : MethodName) (bytes : ByteArray) (ml : Nat) (ret : Option FieldType) (ws : List Jvm.Cond) (R : Room) (as' : Array Value) (h0 : Heap) (Q : Option Value → Heap → List Loc → Prop) : Prop :=
  MetFree l y (head1 (Jvm.Cond.code y bytes ml ret :: ws) R) (fun a U => a = as' ∧ Z.Warmed39 U.vm ∧ U.heap = h0 ∧ CHv Z consts_1 U.vm h0) (fun _ _ bl s _ => s.vm.MethodsKnown ∧ s.vm.FramesKnown bl) (fun _ U o U' => ∃ v L, o = .returned v ∧ Q v U'.heap L ∧ CHr Z consts_1 U.vm U.heap U'.vm U'.heap ∧ ReturnedEndW U o U' L R.cells R.slots)
theorem own_H {l : Launch} {Z : State} {y : MethodName} {bytes : ByteArray} {ml : Nat} {ret : Option FieldType} {ws : List Jvm.Cond} {R : Room} {as' : Array Value} {h0 : Heap} {Q : Option Value → Heap → List Loc → Prop} (hpl : plainFor y = true)
    (H : ∀ (p : Program) (e : Env) (s : State) (m : MethodId) (below : List Frame) (meth : Method) (c : ClassFile.Code) (s₁ S0 : State), BodyLoose p l y (head1 (Jvm.Cond.code y bytes ml ret :: ws) R) bytes ml ret e s m as' below meth c s₁ → Z.Warmed39 (s.setVm s.vm).vm → s.heap = h0 → CHv Z consts_1 s.vm h0 → s.Since s.vm h0.size → CHr Z consts_1 s.vm h0 s.vm h0 → p.tables.exec = Jvm.exec → c.code = bytes → c.maxLocals = ml → (s.setVm s.vm).vm.findClass y.cls = some m.cls → meth.name = y.name →
      Stand p l e R (s.setVm s.vm) m as' below meth c s₁ [] 0 0 → s₁.heap = h0 → S0 = s₁.setTop (entryFrame m as' ml) → ∃ s₂ o, Steps p.tables e below S0 s₂ ∧ s₂.status = .running ∧ Ended s₂ below o ∧ ∃ v L, o = .returned v ∧ Q v s₂.heap L ∧ CHr Z consts_1 s.vm s.heap s₂.vm s₂.heap ∧ ReturnedEndW s o s₂ L R.cells R.slots) : own_CH l Z y bytes ml ret ws R as' h0 Q := by
  refine MetFree.of_bodySF hpl hisR ?_
  intro p e s m args below meth c s₁ Bd hml hP hK
  obtain ⟨rfl, hZ, hh, CH0⟩ := hP
  exact H p e s m below meth c s₁ _ Bd hZ hh CH0 (own_since0 s _) (CHr.refl CH0) Bd.exec Bd.bytes hml (findClass_of_methodNamed Bd.named) (name_of_methodNamed Bd.named Bd.method).1 (Stand.of_body Bd) (by rw [← hh, Bd.state]; rfl) rfl
theorem own_K {l : Launch} {Z : State} {y : MethodName} {bytes : ByteArray} {ml : Nat} {ret : Option FieldType} {ws : List Jvm.Cond} {R : Room} {as' : Array Value} {h0 : Heap} {Q : Option Value → Heap → List Loc → Prop} (hpl : plainFor y = true)
    (H : ∀ (p : Program) (e : Env) (s : State) (m : MethodId) (below : List Frame) (meth : Method) (c : ClassFile.Code) (s₁ S0 : State), BodyLoose p l y (head1 (Jvm.Cond.code y bytes ml ret :: ws) R) bytes ml ret e s m as' below meth c s₁ → Z.Warmed39 (s.setVm s.vm).vm → s.heap = h0 → CHv Z consts_1 s.vm h0 → s.Since s.vm h0.size → CHr Z consts_1 s.vm h0 s.vm h0 → s.vm.MethodsKnown → s.vm.FramesKnown below → p.tables.exec = Jvm.exec → c.code = bytes → c.maxLocals = ml → (s.setVm s.vm).vm.findClass y.cls = some m.cls → meth.name = y.name →
      Stand p l e R (s.setVm s.vm) m as' below meth c s₁ [] 0 0 → s₁.heap = h0 → S0 = s₁.setTop (entryFrame m as' ml) → ∃ s₂ o, Steps p.tables e below S0 s₂ ∧ s₂.status = .running ∧ Ended s₂ below o ∧ ∃ v L, o = .returned v ∧ Q v s₂.heap L ∧ CHr Z consts_1 s.vm s.heap s₂.vm s₂.heap ∧ ReturnedEndW s o s₂ L R.cells R.slots) : own_CK l Z y bytes ml ret ws R as' h0 Q := by
  refine MetFree.of_bodySF hpl hisR ?_
  intro p e s m args below meth c s₁ Bd hml hP hK
  obtain ⟨rfl, hZ, hh, CH0⟩ := hP
  exact H p e s m below meth c s₁ _ Bd hZ hh CH0 (own_since0 s _) (CHr.refl CH0) hK.1 hK.2 Bd.exec Bd.bytes hml (findClass_of_methodNamed Bd.named) (name_of_methodNamed Bd.named Bd.method).1 (Stand.of_body Bd) (by rw [← hh, Bd.state]; rfl) rfl
def own_cb (x : Int32) : Int32 := (x &&& (255 : Int32)).toUInt32.toUInt16.toUInt32.toInt32
theorem own_cb_eq (x : Int32) : own_cb x = x &&& 255 := i2c_mask x
theorem own_cb_nar {x : Int32} : nar .char (own_cb x) = own_cb x := by
  rw [own_cb_eq]; exact i2c_mask x
theorem own_cb_hi (x : Int32) : ¬ ((255 : Int32) < own_cb x) := by
  rw [own_cb_eq, Int32.lt_iff_toInt_lt]
  have h := (c_and x 255 (by decide)).2
  omega
def own_lo8 (x : Int32) : Int32 := nar .byte (x.toInt8.toInt32)
def own_ex (rc : String) : List Cond := (Jvm.Free.Exc.excAtoms rc).eraseIdx 18
theorem own_ex_ok {rc : String} : (own_ex rc).all xOk = true := rfl
theorem own_links {s : State} {args : Array Value} {rc : String} {pl : Platform} (howns : pl.frameOwnsMonitors = true) (hfin : pl.finalization = false) (hpl : pl.magicAccessors = ({} : Platform).magicAccessors)
    {cX : ClassId} {kX : Class} (hcX : s.vm.findClass rc = some cX) (hkX : s.vm.classes[cX]? = some kX) (a : ∀ d ∈ own_ex rc, d.holds args s none s [] = true) :
    ∃ T : ThrowableC, T.Links pl s ∧ s.vm.findClass tN = some T.cT ∧ s.methodNamed? tFill = some T.fill ∧ s.methodNamed? tFill0 = some T.fill0 ∧ s.fieldFound? tN "stackTrace" steD = some (T.cT, T.kT, T.i17, T.fStack) ∧
      s.fieldFound? tN "UNASSIGNED_STACK" steD = some (T.cT, T.kT, T.i13, T.fUnassigned) ∧ T.fStack.name = "stackTrace" ∧ T.fStack.type = .array (.object "java/lang/StackTraceElement") ∧ ∃ cell, s.heap[T.aS]? = some cell ∧ cell.vm.isStatics = true := by
  obtain ⟨⟨c, i0⟩, m0, hn0, hm0, hnat0, hcode0, hlk0, hsig0⟩ := Cond.native_spec (a (.native tFill0) (List.mem_of_getElem? (i := 5) rfl))
  have hc : s.vm.findClass tN = some c := findClass_of_methodNamed hn0
  obtain ⟨k, hk, hname⟩ := Vm.findClass_spec hc
  obtain ⟨_, k1, _, _, hk1, _, _, -, _, hni⟩ := Cond.superclass_spec hc (a (.superclass tN "java/lang/Object") (List.mem_of_getElem? (i := 1) rfl))
  cases Option.some.inj (hk.symm.trans hk1)
  obtain ⟨iF, mF, hnF, hmF, hatF, hstF, habF, -, -⟩ := Cond.ownMethod (x := tFill) hc hk (a (.instanceMethod tFill) (List.mem_of_getElem? (i := 2) rfl))
  obtain ⟨mF', cF, hmF', hcF, hbF, hlF, hrF, hlkF, -, hsigF⟩ := Cond.codeSync_spec hnF (a (.codeSync tFill LibCode.Throwable.Fill.code 1 (some (.object tN))) (List.mem_of_getElem? (i := 3) rfl))
  cases Option.some.inj (hmF.symm.trans hmF')
  obtain ⟨i0', m0', hn0', hm0', hat0, hst0, hab0, hnm0, hds0⟩ := Cond.ownMethod (x := tFill0) hc hk (a (.instanceMethod tFill0) (List.mem_of_getElem? (i := 4) rfl))
  cases Option.some.inj (hn0.symm.trans hn0')
  cases Option.some.inj (hm0.symm.trans hm0')
  obtain ⟨mO, methO, hnO, hmO, hstO, habO⟩ := Cond.instanceMethod_spec (a (.instanceMethod oInit) (List.mem_of_getElem? (i := 8) rfl))
  obtain ⟨methO', cO, hmO', hcO, hbO, hlO, -, hlkO, -, hsigO⟩ := Cond.code_spec hnO (a (.code oInit ⟨#[0xb1]⟩ 1 none) (List.mem_of_getElem? (i := 9) rfl))
  cases Option.some.inj (hmO.symm.trans hmO')
  obtain ⟨kO, hkO, hnameO⟩ := Vm.findClass_spec (findClass_of_methodNamed hnO)
  obtain ⟨hnmO, hdsO⟩ := name_of_methodNamed hnO hmO
  obtain ⟨ci1, n1, cf, hl1, hr1, hcf, hp1⟩ := Cond.linkedMethod hc hk hnO (a (.methodLink tN 1 oInit) (List.mem_of_getElem? (i := 10) rfl)) pl hpl
  obtain ⟨ci27, n27, cf2, hl27, hr27, hcf2, hp27⟩ := Cond.linkedMethod hc hk hnF (a (.methodLink tN 27 tFill) (List.mem_of_getElem? (i := 11) rfl)) pl hpl
  cases Option.some.inj (hcf.symm.trans hcf2)
  obtain ⟨ci202, n202, cf3, hl202, hr202, hcf3, hp202⟩ := Cond.linkedMethod hc hk hn0 (a (.methodLink tN 202 tFill0) (List.mem_of_getElem? (i := 12) rfl)) pl hpl
  cases Option.some.inj (hcf.symm.trans hcf3)
  obtain ⟨ci7, i7, f7, hk7, hg7, ha7, hs7, hf7, hn7, ht7, hff7⟩ := Cond.ownField (t := .object tN) hc hk (by decide +kernel) (a (.fieldLink tN 7 tN "cause" "Ljava/lang/Throwable;") (List.mem_of_getElem? (i := 13) rfl)) (a (.lays tN tN "cause" "Ljava/lang/Throwable;") (List.mem_of_getElem? (i := 14) rfl)) pl hpl
  obtain ⟨ci17, i17, f17, hk17, hg17, ha17, hs17, hf17, hn17, ht17, hff17⟩ := Cond.ownField (t := .array (.object "java/lang/StackTraceElement")) hc hk (by decide +kernel) (a (.fieldLink tN 17 tN "stackTrace" steD) (List.mem_of_getElem? (i := 15) rfl)) (a (.lays tN tN "stackTrace" steD) (List.mem_of_getElem? (i := 16) rfl)) pl hpl
  have wP := a (.lays rc tN "suppressedExceptions" listD) (List.mem_of_getElem? (i := 28) rfl)
  obtain ⟨ci24, i24, f24, hk24, hg24, ha24, hs24, hf24, hn24, ht24, hff24⟩ := Cond.ownField (t := .object "java/util/List") hc hk (by decide +kernel) (a (.fieldLink tN 24 tN "suppressedExceptions" listD) (List.mem_of_getElem? (i := 17) rfl)) wP pl hpl
  obtain ⟨ci13, i13, f13, aS, cellS, hk13, hg13, ha13, hs13, -, -, hsta, hcellS, hissS, -, -, hff13⟩ := Cond.ownStatic (t := .array (.object "java/lang/StackTraceElement")) hc hk (by decide +kernel) (a (.fieldLink tN 13 tN "UNASSIGNED_STACK" steD) (List.mem_of_getElem? (i := 18) rfl)) (a (.laysStatic tN "UNASSIGNED_STACK" steD) (List.mem_of_getElem? (i := 19) rfl)) pl hpl
  obtain ⟨ci20, i20, f20, _, _, hk20, hg20, ha20, hs20, -, -, -, -, -, -, -, hff20⟩ := Cond.ownStatic (t := .object "java/util/List") hc hk (by decide +kernel) (a (.fieldLink tN 20 tN "SUPPRESSED_SENTINEL" listD) (List.mem_of_getElem? (i := 20) rfl)) (a (.laysStatic tN "SUPPRESSED_SENTINEL" listD) (List.mem_of_getElem? (i := 21) rfl)) pl hpl
  obtain ⟨_, _, cM, kM, iM, fM, _, _, hffM, hsM, hfM, _⟩ := Cond.lays_spec (a (.lays tN tN "detailMessage" "Ljava/lang/String;") (List.mem_of_getElem? (i := 22) rfl))
  obtain ⟨-, dS, hdS, hdnS⟩ := Cond.laysAt hcX hkX hff17 (a (.lays rc tN "stackTrace" steD) (List.mem_of_getElem? (i := 27) rfl))
  obtain ⟨-, dP, hdP, hdnP⟩ := Cond.laysAt hcX hkX hff24 wP
  have pF : mF.sig.parameters = [] := by
    have q : (parseMethodDescriptor tFill.desc).map (·.parameters) = some [] := by decide +kernel
    rw [hsigF] at q; simpa using q
  have p0 : m0.sig.parameters = [.int] := by
    have q : (parseMethodDescriptor tFill0.desc).map (·.parameters) = some [.int] := by decide +kernel
    rw [hsig0] at q; simpa using q
  have pO : methO.sig.parameters.length = 0 := by
    have q : (parseMethodDescriptor oInit.desc).map (·.parameters) = some [] := by decide +kernel
    rw [hsigO] at q
    have r : methO.sig.parameters = [] := by simpa using q
    rw [r]; rfl
  refine ⟨{ cT := c, kT := k, cO := c, aS := aS, fillIdx := iF, fill0Idx := i0, initSIdx := iF, obj := mO, kObj := kO, methFill := mF, methFill0 := m0, methInitS := mF, methObj := methO, codeFill := cF, codeInitS := cF, codeObj := cO,
              fBack := f7, fDepth := f7, fStack := f17, fCause := f7, fSupp := f24, fMsg := fM, fUnassigned := f13, fSentinel := f20, cfT := cf, ci1 := ci1, n1 := n1, ci27 := ci27, n27 := n27, ci202 := ci202, n202 := n202,
              ci7 := ci7, i7 := i7, ci13 := ci13, i13 := i13, ci17 := ci17, i17 := i17, ci20 := ci20, i20 := i20, ci24 := ci24, i24 := i24 }, ?_, hc, hnF, hn0, hff17, hff13, hn17, ht17, cellS, hcellS, hissS⟩
  exact { owns := howns, noFinalization := hfin, cls := hk, name := hname, boot := Vm.findClass_boot hc hk, notInterface := hni, initialized := Cond.initialized_spec hc hk (a (.initialized tN) (List.mem_of_getElem? (i := 0) rfl)), statics := hsta,
          fillAt := hatF, fillCode := hcF, fillBytes := hbF, fillLocals := hlF, fillLocks := hlkF, fillStatic := hstF, fillAbstract := habF, fillReturns := hrF, fillParams := pF,
          fill0At := hat0, fill0Name := hnm0, fill0Desc := hds0, fill0Params := p0, fill0Static := hst0, fill0Native := hnat0, fill0Code := hcode0, fill0Locks := hlk0, fill0Abstract := hab0,
          stackInstance := hs17, stackNotFinal := hf17, unassignedStatic := hs13,
          objClass := hkO, objClassName := hnameO, objMethod := hmO, objName := hnmO, objStatic := hstO, objAbstract := habO, objFound := by rw [hdsO]; exact lookupSpecial_of_named hnO hmO hstO, objParams := pO,
          objCode := hcO, objBytes := hbO, objLocks := hlkO, causeInstance := hs7, causeNotFinal := hf7, sentinelStatic := hs20, suppInstance := hs24, suppNotFinal := hf24, msgInstance := hsM, msgNotFinal := hfM, stackApartSupp := Cond.laysApart hdS hdP hdnS hdnP (by rw [hn17, hn24]; decide),
          file := hcf, mlink1 := hl1, mright1 := hr1, pool1 := hp1, mlink27 := hl27, mright27 := hr27, pool27 := hp27, mlink202 := hl202, mright202 := hr202, pool202 := hp202,
          link7 := hk7, right7 := hg7, at7 := ha7, link13 := hk13, right13 := hg13, at13 := ha13, link17 := hk17, right17 := hg17, at17 := ha17, link20 := hk20, right20 := hg20, at20 := ha20, link24 := hk24, right24 := hg24, at24 := ha24 }
open Jvm.Free.Exc in
set_option maxHeartbeats 4000000 in
theorem own_fillL {Z : State} {a0 : Array Value} {p : Program} {l : Launch} {e : Env} {R : Room} {s : State} {m : MethodId} {args : Array Value} {below : List Frame} {meth : Method} {c : Code} {T : State} {locs : List Loc} {cells slots : Nat}
    (X : Stand p l e R s m args below meth c T locs cells slots) (hx : p.tables.exec = Jvm.exec) (hl : l.stackTraces = true) (hZ : Z.Warmed39 s.vm) {rc : String} {n : Nat} (hown : s.vm.findClass tN = some m.cls) (w : ∀ d ∈ own_ex rc, d.before a0 Z = true) (wi : (Cond.instantiable rc n).before a0 Z = true)
    (hT0 : ThS Z s.heap) (hTK : s.vm.MethodsKnown) (hBelow : s.vm.FramesKnown below) {h : Heap} (eT : T.heap = h) {a : Addr} (hsz : h.size = s.heap.size) (hlocs : ∀ x ∈ locs, x.base = a) (E : Exa Z h a rc) (N : Unt h a)
    {u : Value} (hu : u.isRef = true) (FS : Fld Z h a tN "stackTrace" steD u) (SU : Sta Z h tN "UNASSIGNED_STACK" steD u) (B : Fld Z h a tN "backtrace" obD .null)
    {g : JFrame} (hg : g.method = m) (hsize : g.locals.size = c.maxLocals) {rest : List Value} (hs : g.stack = .ref a :: rest) (hd : decode c.code g.pc = .ok (.invokevirtual 27, 3))
    (hf : 3 ≤ R.frames) (hlo : 2 * g.monitorRoom + (rest.map fun v => v.category).sum + 42 ≤ R.locals) (hc : cells + 1 ≤ R.cells) (hsl : slots + 2752 ≤ R.slots) :
    ∃ (T' : State) (h' : Heap) (v : Value), Stand p l e R s m args below meth c T' (locs ++ sixLocs Z a) (cells + 1) (slots + 2752) ∧ T'.heap = h' ∧ Kp Z h h' a ∧ Exa Z h' a rc ∧ Unt h' a ∧ Fld Z h' a tN "detailMessage" msgD v ∧
      ∀ target, Steps p.tables e below (T'.setTop { g with pc := g.pc + 3, stack := .ref a :: rest }) target → Steps p.tables e below (T.setTop g) target := by
  subst eT
  have a' : ∀ d ∈ own_ex rc, d.before args s = true := fun d hd => mvX hT0 hZ (List.all_eq_true.mp own_ex_ok d hd) (w d hd)
  have htr : e.platform.stackTraces = true := by rw [X.admits.platform]; exact hl
  have howns : e.platform.frameOwnsMonitors = true := by rw [X.admits.platform]
  have hfin : e.platform.finalization = false := by rw [X.admits.platform]
  have hpl : e.platform.magicAccessors = ({} : Platform).magicAccessors := by rw [X.admits.platform]
  obtain ⟨cell, kc, e1, e2, e3, e4, e5⟩ := id E
  obtain ⟨c2, u1, u2, u3⟩ := id N
  cases e1.symm.trans u1
  have hcX : s.vm.findClass rc = some cell.cls := by rw [hZ.alike.findClass]; exact e2
  obtain ⟨kX, hkX, heX⟩ := hZ.alike.2.2 _ _ e3
  obtain ⟨c4, k2, i1, i2, i3, -⟩ := Cond.instantiable_spec wi
  cases e2.symm.trans i1
  cases e3.symm.trans i2
  have hord : kX.kind = .ordinary := by rw [heX]; exact i3
  have hszX : cell.slots.size = kX.instanceTypes.size := by rw [heX]; exact e5 i3
  obtain ⟨T0, L, hcT, hnF, hn0, hffS, hffU, hnS, htS, cellS0, hcS0, hiss⟩ := own_links howns hfin hpl hcX hkX (fun d hd => a' d hd)
  obtain ⟨c3, cf, kf, i, f, b1, b2, -, -, -, -, hvS⟩ := FS
  cases e1.symm.trans b1
  obtain ⟨kf', hi', -⟩ := State.fieldFound?_setVm hZ.alike b2
  cases (show s.fieldFound? tN "stackTrace" steD = some _ from hi').symm.trans hffS
  obtain ⟨cf2, j2, kf2, f2, st, cS, g1, -, -, g4, g5, g6, g7⟩ := SU
  obtain ⟨kf2', hi2', he2⟩ := State.fieldFound?_setVm hZ.alike g1
  have g4' : kf2'.statics = some st := by rw [he2]; exact g4
  cases (show s.fieldFound? tN "UNASSIGNED_STACK" steD = some _ from hi2').symm.trans hffU
  cases g4'.symm.trans L.statics
  have hneS : T0.aS ≠ a := fun q => by
    rw [q, e1] at g5
    rw [← Option.some.inj g5, u2] at g6
    cases g6
  have hsel0 : selectMethod e.platform s.vm cell.cls T0.fill0 = .method T0.fill0 := by
    obtain ⟨c5, r5, m5, q1, q2, q3, q4, -⟩ := Cond.selects_spec (a' (.selects rc tFill0 tFill0) (List.mem_of_getElem? (i := 24) rfl))
    cases Option.some.inj (q1.symm.trans hcX)
    cases Option.some.inj (q2.symm.trans (State.methodFound?_of_named hn0 (by decide)))
    cases Option.some.inj (q3.symm.trans hn0)
    rw [Launch.admits_selectMethod X.admits]; exact q4
  obtain ⟨ci198, i198, fB, hk198, hg198, ha198, hsB, -, hnB, htB, hffB⟩ := Cond.ownField (t := .object "java/lang/Object") hcT L.cls (by decide +kernel) (a' (.fieldLink tN 198 tN "backtrace" obD) (List.mem_of_getElem? (i := 30) rfl)) (a' (.lays tN tN "backtrace" obD) (List.mem_of_getElem? (i := 31) rfl)) e.platform hpl
  obtain ⟨c7, cf7, kf7, i7, f7, b71, b72, -, -, -, -, hvB⟩ := B
  cases e1.symm.trans b71
  obtain ⟨kf7', hi7', -⟩ := State.fieldFound?_setVm hZ.alike b72
  cases (show s.fieldFound? tN "backtrace" obD = some _ from hi7').symm.trans hffB
  have wD := a' (.lays rc tN "depth" "I") (List.mem_of_getElem? (i := 36) rfl)
  obtain ⟨cD1, kD1, cD, kD, iD, fD, -, -, hffD, hstD, -, -, -, -⟩ := Cond.lays_spec wD
  cases Option.some.inj ((Cond.lays_declared wD hffD).symm.trans hcT)
  obtain ⟨hkD, hatD⟩ := State.fieldFound?_spec hffD
  cases Option.some.inj (hkD.symm.trans L.cls)
  obtain ⟨hnD, htD⟩ := State.fieldFound?_type hffD (t := .int) (by decide +kernel)
  have hfb := Cond.soleField_find hcT L.cls (a' (.soleField tN "backtrace") (List.mem_of_getElem? (i := 34) rfl)) ha198 hnB hsB
  have hfd := Cond.soleField_find hcT L.cls (a' (.soleField tN "depth") (List.mem_of_getElem? (i := 35) rfl)) hatD hnD hstD
  obtain ⟨comp, cO, kO, -, -, hkO, hkindO, hO⟩ := Cond.arrayOver_spec (a' (.arrayOver (.object "java/lang/Object")) (List.mem_of_getElem? (i := 33) rfl))
  obtain ⟨tyS, -⟩ := Cond.laysAt hcX hkX hffS (a' (.lays rc tN "stackTrace" steD) (List.mem_of_getElem? (i := 27) rfl))
  obtain ⟨tyB, -⟩ := Cond.laysAt hcX hkX hffB (a' (.lays rc tN "backtrace" obD) (List.mem_of_getElem? (i := 32) rfl))
  obtain ⟨tyD, -⟩ := Cond.laysAt hcX hkX hffD wD
  have tk : ∀ {f : Field} {v : Value}, kX.instanceTypes[f.slot]? = some f.type → fits f.type v = true → Jvm.Takes s cell f v := fun {f v} h1 h2 => by
    obtain ⟨q1, q2⟩ := Takes.of_laid (v := v) hkX hord h1 h2
    exact ⟨by rw [hszX]; simpa using q1, by rw [u2]; exact q2⟩
  have hSE := a' (.selects rc tFill tFill) (List.mem_of_getElem? (i := 25) rfl)
  obtain ⟨v6, vm6, ⟨T6, L6, c6, n6⟩, hW6, X6, ⟨hv6, C6, nn, hn, hD6, q1, q2, q3, q4, hL6, hc6, hn6⟩, come⟩ := X.virtualBack hx (own := tN) (C := rc) (index := 27) (y := tFill) (z := tFill) hown (a' (.methodLink tN 27 tFill) (List.mem_of_getElem? (i := 11) rfl)) (a' (.declares tFill) (List.mem_of_getElem? (i := 23) rfl)) (notFace_of_selects hSE) hSE (a' (.instanceMethod tFill) (List.mem_of_getElem? (i := 2) rfl)) (by decide)
    (fillPaysAny (l := l) (W := 2 * g.monitorRoom + (rest.map fun v => v.category).sum) hx htr T0 L hnF (u0 := ⟨u, hu⟩) (self := a) (cell := cell) (cellS := cS) (fun _ => by rw [u2]; simp) (by rw [u2]; simp) (by rw [u3]) (by rw [u3]) hvS hsel0 hneS (fun q => by rw [q] at g6; cases g6) g7 (tk tyS (by rw [htS]; exact fits_refV_array _ ⟨u, hu⟩))
      ⟨{ ci198 := ci198, i198 := i198, fBack := fB }, ⟨hk198, hg198, ha198, hsB⟩, hvB⟩ hTK hBelow hcT hO hkO hkindO hfb hfd (fun x => tk tyB (by rw [htB]; rfl)) (fun x => tk tyD (by rw [htD]; rfl)) (by omega) hlo)
    (b := a) (cB := cell.cls) hcX ⟨cell, e1, rfl, by rw [u2]; rfl⟩ (g := g) hg hsize (Steps.refl _) (argsL := []) (rest := rest)
    (fun sig h => by rw [show parseMethodDescriptor tFill.desc = some ⟨[], some (.object tN)⟩ from by decide +kernel] at h; rw [← Option.some.inj h]; rfl) hs (Nat.le_refl _) hd
    (fun vmx hWx => ⟨rfl, hc, hsl, e1, g5⟩)
  dsimp only [Pt.U, Pt.locs, Pt.cells, Pt.slots] at X6 hD6 hL6 hc6 hn6 come
  subst hv6 hL6 hc6 hn6
  have K : Jvm.Free.Exc.Kept T T6 [⟨a, fB.slot⟩, ⟨a, fD.slot⟩, ⟨a, T0.fStack.slot⟩] := fun y cy hy => by
    have hyl : y < s.heap.size := hsz ▸ (Array.getElem?_eq_some_iff.mp hy).1
    obtain ⟨cs, hcs⟩ : ∃ cs, s.heap[y]? = some cs := ⟨_, Array.getElem?_eq_getElem hyl⟩
    obtain ⟨d1, r1, r2, r3, r4⟩ := X.same.2.2.2.2.2 y cs hcs
    cases (show T.heap[y]? = some d1 from r1).symm.trans hy
    obtain ⟨d2, t1, t2, t3, t4⟩ := X6.same.2.2.2.2.2 y cs hcs
    refine ⟨d2, t1, by rw [t2, r2], by rw [t3, r3], fun i hi => ?_⟩
    by_cases hya : y = a
    · subst hya
      cases (show T6.heap[y]? = some d2 from t1).symm.trans hD6
      cases hy.symm.trans e1
      simp only [List.mem_cons, List.not_mem_nil, or_false, not_or, Loc.mk.injEq, true_and] at hi
      exact q4 i hi.1 hi.2.1 hi.2.2
    · rw [t4 i fun hm => hya ?_, r4 i fun hm => hya (hlocs _ hm)]
      rcases List.mem_append.mp hm with hm | hm
      · exact hlocs _ hm
      · simp only [List.mem_cons, List.not_mem_nil, or_false, Loc.mk.injEq] at hm
        rcases hm with hm | hm | hm <;> exact hm.1
  have hL : ∀ x ∈ [(⟨a, fB.slot⟩ : Loc), ⟨a, fD.slot⟩, ⟨a, T0.fStack.slot⟩], Six s a x := fun x hx => by
    simp only [List.mem_cons, List.not_mem_nil, or_false] at hx
    rcases hx with hx | hx | hx
    · exact ⟨("backtrace", obD), _, by simp [sixNames], ⟨_, _, _, hffB⟩, hx⟩
    · exact ⟨("depth", "I"), _, by simp [sixNames], ⟨_, _, _, hffD⟩, hx⟩
    · exact ⟨("stackTrace", steD), _, by simp [sixNames], ⟨_, _, _, hffS⟩, hx⟩
  have K2 : Kp Z T.heap T6.heap a := kp_of hZ rfl hL K
  obtain ⟨cN, z1, z2, -⟩ := N.kp K2
  obtain ⟨vM, hvM⟩ := fld_laid (O := tN) (n := "detailMessage") (d := msgD) (E.kp K2) ⟨cN, z1, by rw [z2]; simp⟩ wi (Or.inl (w (.lays rc tN "detailMessage" msgD) (List.mem_of_getElem? (i := 29) rfl)))
  exact ⟨T6, T6.heap, vM, (wider X6 hZ hL).more (Nat.le_refl _) (Nat.add_le_add_left hn _), rfl, K2, E.kp K2, N.kp K2, hvM, fun target q => come.trans q⟩
open Jvm.Free.Exc in
theorem own_six_ne {Z : State} {a0 : Array Value} {rc O n d : String} {ty : FieldType} (w : ∀ d ∈ own_ex rc, d.before a0 Z = true) (Lf : Laid Z a0 rc O n d) (ht : parseFieldDescriptor d = some ty) (hn : ∀ nd ∈ sixNames, nd.1 ≠ n) : ∀ nd ∈ sixNames, Jvm.RoadKit.slotOf Z tN nd.1 nd.2 ≠ Jvm.RoadKit.slotOf Z O n d := fun nd hm => by
  have q := hn nd hm
  simp only [sixNames, List.mem_cons, List.not_mem_nil, or_false] at hm
  rcases hm with rfl | rfl | rfl | rfl | rfl | rfl
  · exact slot_ne (Or.inl (w _ (List.mem_of_getElem? (i := 26) rfl))) Lf q (t := .object tN) (by decide) ht
  · exact slot_ne (Or.inl (w _ (List.mem_of_getElem? (i := 27) rfl))) Lf q (t := .array (.object "java/lang/StackTraceElement")) (by decide) ht
  · exact slot_ne (Or.inl (w _ (List.mem_of_getElem? (i := 28) rfl))) Lf q (t := .object "java/util/List") (by decide) ht
  · exact slot_ne (Or.inl (w _ (List.mem_of_getElem? (i := 32) rfl))) Lf q (t := .object "java/lang/Object") (by decide) ht
  · exact slot_ne (Or.inl (w _ (List.mem_of_getElem? (i := 36) rfl))) Lf q (t := .int) (by decide) ht
  · exact slot_ne (Or.inl (w _ (List.mem_of_getElem? (i := 29) rfl))) Lf q (t := .object "java/lang/String") (by decide) ht
theorem own_wrsz {h h' : Heap} {a : Addr} {sl : Nat} {v : Value} (W : Wr h h' a sl v) : h'.size = h.size := by
  obtain ⟨c, -, -, -, rfl⟩ := W
  exact Array.size_setIfInBounds
theorem own_bases3 {a : Addr} {i j k : Nat} {L : List Loc} (h : L = (([] ++ [⟨a, i⟩]) ++ [⟨a, j⟩]) ++ [⟨a, k⟩]) : ∀ x ∈ L, x.base = a := by
  subst h
  intro x hx
  simp only [List.nil_append, List.mem_append, List.mem_cons, List.not_mem_nil, or_false] at hx
  rcases hx with (rfl | rfl) | rfl <;> rfl
theorem own_exw_D {Z : State} {a0 : Array Value} (hw : ∀ d ∈ tables_1, d.before a0 Z = true) : ∀ d ∈ own_ex "com/example/manque/manque/Declined", d.before a0 Z = true := fun d hd => hw d ((by decide +kernel : ∀ d ∈ own_ex "com/example/manque/manque/Declined", d ∈ tables_1) d hd)
def own_G (l : Launch) (Z : State) (a0 : Array Value) (G1 : Int32) (kC : Addr) (uS : Value) (sS : Value) : Prop := (Sta Z Z.heap "java/lang/String" "COMPACT_STRINGS" "Z" (.int G1)) ∧ (¬ (G1 = (0 : Int32))) ∧ (Sta Z Z.heap "com/example/manque/manque/Declined$Kind" "CONFLICT" "Lcom/example/manque/manque/Declined$Kind;" (.ref kC)) ∧ (Exa Z Z.heap kC "com/example/manque/manque/Declined$Kind") ∧ (Fld Z Z.heap kC "com/example/manque/manque/Declined$Kind" "status" "I" (.int (409 : Int32))) ∧ (l.stackTraces = true) ∧ (Sta Z Z.heap "java/lang/Throwable" "UNASSIGNED_STACK" "[Ljava/lang/StackTraceElement;" uS) ∧ (uS.isRef = true) ∧ (Sta Z Z.heap "java/lang/Throwable" "SUPPRESSED_SENTINEL" "Ljava/util/List;" sS) ∧ (sS.isRef = true)
abbrev M0 : MethodName := ⟨"java/lang/String", "<init>", "([CIILjava/lang/Void;)V"⟩
theorem ef_1 (m : MethodId) (x0 : Addr) (x1 : Addr) (x2 : Int32) (x3 : Int32) : entryFrame m #[(.ref x0), (.ref x1), (.int x2), (.int x3), .null] 6 = mkF m 0 #[.val (.ref x0), .val (.ref x1), .val (.int x2), .val (.int x3), .val .null, .unset] [] := by first | (simp [entryFrame, mkF, argsToLocals, Value.category]; done) | rfl
theorem pn_2 : plainName "java/lang/String" = true := by first | (simp [plainName, overriddenIn]; done) | decide +kernel
theorem d0_0 : decode jdk_42_method_149_code 0 = .ok (.aload_n 0, 1) := by decide +kernel
theorem w15 {Z : State} {a0 : Array Value} (hw : ∀ d ∈ tables_1, d.before a0 Z = true) : Jvm.Cond.before (Jvm.Cond.methodLink "java/lang/String" (1 : Nat) ({ cls := "java/lang/Object", name := "<init>", desc := "()V" } : Jvm.MethodName)) a0 Z = true := hw _ (List.mem_of_getElem? (i := 15) rfl)
theorem w16 {Z : State} {a0 : Array Value} (hw : ∀ d ∈ tables_1, d.before a0 Z = true) : Jvm.Cond.before (Jvm.Cond.instanceMethod ({ cls := "java/lang/Object", name := "<init>", desc := "()V" } : Jvm.MethodName)) a0 Z = true := hw _ (List.mem_of_getElem? (i := 16) rfl)
theorem w17 {Z : State} {a0 : Array Value} (hw : ∀ d ∈ tables_1, d.before a0 Z = true) : Jvm.Cond.before (Jvm.Cond.code ({ cls := "java/lang/Object", name := "<init>", desc := "()V" } : Jvm.MethodName) object_method_1_code (1 : Nat) (Option.none : Option Jvm.ClassFile.FieldType)) a0 Z = true := hw _ (List.mem_of_getElem? (i := 17) rfl)
theorem d0_1 : decode jdk_42_method_149_code 1 = .ok (.invokespecial 1, 3) := by decide +kernel
theorem d0_4 : decode jdk_42_method_149_code 4 = .ok (.iload_n 3, 1) := by decide +kernel
theorem d0_5 : decode jdk_42_method_149_code 5 = .ok (.ifCond .ne 22, 3) := by decide +kernel
theorem d0_8 : decode jdk_42_method_149_code 8 = .ok (.aload_n 0, 1) := by decide +kernel
theorem w120 {Z : State} {a0 : Array Value} (hw : ∀ d ∈ tables_1, d.before a0 Z = true) : Jvm.Cond.before (Jvm.Cond.stringLink "java/lang/String" (7 : Nat) "") a0 Z = true := hw _ (List.mem_of_getElem? (i := 120) rfl)
theorem d0_9 : decode jdk_42_method_149_code 9 = .ok (.ldc 7, 2) := by decide +kernel
theorem w32 {Z : State} {a0 : Array Value} (hw : ∀ d ∈ tables_1, d.before a0 Z = true) : Jvm.Cond.before (Jvm.Cond.fieldLink "java/lang/String" (9 : Nat) "java/lang/String" "value" "[B") a0 Z = true := hw _ (List.mem_of_getElem? (i := 32) rfl)
theorem d0_11 : decode jdk_42_method_149_code 11 = .ok (.getfield 9, 3) := by decide +kernel
theorem w33 {Z : State} {a0 : Array Value} (hw : ∀ d ∈ tables_1, d.before a0 Z = true) : Jvm.Cond.before (Jvm.Cond.laysFinal "java/lang/String" "java/lang/String" "value" "[B") a0 Z = true := hw _ (List.mem_of_getElem? (i := 33) rfl)
theorem w5 {Z : State} {a0 : Array Value} (hw : ∀ d ∈ tables_1, d.before a0 Z = true) : Jvm.Cond.before (Jvm.Cond.instantiable "java/lang/String" (4 : Nat)) a0 Z = true := hw _ (List.mem_of_getElem? (i := 5) rfl)
theorem d0_14 : decode jdk_42_method_149_code 14 = .ok (.putfield 9, 3) := by decide +kernel
theorem d0_17 : decode jdk_42_method_149_code 17 = .ok (.aload_n 0, 1) := by decide +kernel
theorem d0_18 : decode jdk_42_method_149_code 18 = .ok (.ldc 7, 2) := by decide +kernel
theorem w30 {Z : State} {a0 : Array Value} (hw : ∀ d ∈ tables_1, d.before a0 Z = true) : Jvm.Cond.before (Jvm.Cond.fieldLink "java/lang/String" (15 : Nat) "java/lang/String" "coder" "B") a0 Z = true := hw _ (List.mem_of_getElem? (i := 30) rfl)
theorem d0_20 : decode jdk_42_method_149_code 20 = .ok (.getfield 15, 3) := by decide +kernel
theorem w31 {Z : State} {a0 : Array Value} (hw : ∀ d ∈ tables_1, d.before a0 Z = true) : Jvm.Cond.before (Jvm.Cond.laysFinal "java/lang/String" "java/lang/String" "coder" "B") a0 Z = true := hw _ (List.mem_of_getElem? (i := 31) rfl)
theorem d0_23 : decode jdk_42_method_149_code 23 = .ok (.putfield 15, 3) := by decide +kernel
theorem d0_26 : decode jdk_42_method_149_code 26 = .ok (.return_, 1) := by decide +kernel
abbrev R_si4_0 : Room := { frames := 1, cells := 4, slots := 8, locals := 12 }
def Q_si4_0 (Z : State) (G1 : Int32) (kC : Addr) (uS : Value) (sS : Value) (x : Addr) (b : Addr) (k : ClassId) (h0 : Heap) (n0 : Nat) (v : Option Value) (h : Heap) (L : List Loc) : Prop := (∃ t : Addr, ∃ kt : ClassId, v = none ∧ Fr n0 L ∧ Keep h0 h [x] ∧ (Exa Z h x "java/lang/String") ∧ (Fld Z h x "java/lang/String" "coder" "B" (.int (0 : Int32))) ∧ (Fld Z h x "java/lang/String" "value" "[B" (.ref t)) ∧ (Arv Z h t kt .byte (0 : Int32) [] (.int (0 : Int32))))
set_option maxRecDepth 65536 in
set_option maxHeartbeats 40000000 in
theorem rm_si4_0 (l : Launch) (Z : State) (a0 : Array Value) (hw : ∀ d ∈ tables_1, d.before a0 Z = true) (ws : List Jvm.Cond) (G1 : Int32) (kC : Addr) (uS : Value) (sS : Value) (HG : own_G l Z a0 G1 kC uS sS) (h0 : Heap) (n0 : Nat) (X00 : Old Z n0 h0) (x : Addr) (b : Addr) (k : ClassId) (hp0 : Exa Z h0 x "java/lang/String") (hp1 : Fld Z h0 x "java/lang/String" "value" "[B" .null) (hp2 : Fld Z h0 x "java/lang/String" "coder" "B" (.int (0 : Int32))) (hp3 : n0 ≤ x) (hp4 : Arv Z h0 b k .char (0 : Int32) [] (.int (0 : Int32))) :
    own_CH l Z M0 jdk_42_method_149_code 6 none ws R_si4_0 #[(.ref x), (.ref b), (.int (0 : Int32)), (.int (0 : Int32)), .null] h0 (Q_si4_0 Z G1 kC uS sS x b k h0 n0) := by
  refine own_H (plainFor_of_name pn_2) ?_
  intro p e s m below meth c s₁ S0 Bd hZ hh CH0 hS0 CR0 hx hby hml hown hnm X0 e0 hS0d
  obtain ⟨O1, P1, O2, E2, F2, hLT, OU, rU, OS, rS⟩ := id HG
  have hEL := own_EL hw
  have hSA := own_SA hw
  have N0 := Fr.nil n0
  have C0 : Steps p.tables e below S0 (s₁.setTop (mkF m 0 #[.val (.ref x), .val (.ref b), .val (.int (0 : Int32)), .val (.int (0 : Int32)), .val .null, .unset] [])) := by rw [hS0d]; exact castTop (ef_1 m x b (0 : Int32) (0 : Int32)) (Steps.refl _)
  have Sf_1 : Safe Z consts_1 s.vm h0 x := (own_safe_null hZ.alike hp0 hp1)
  obtain ⟨T_2, X_3, e_4, st_5⟩ := initO X0 hx hZ hown (w15 hw) (w16 hw) (w17 hw) e0 (g := (mkF m 1 #[.val (.ref x), .val (.ref b), .val (.int (0 : Int32)), .val (.int (0 : Int32)), .val .null, .unset] [(.ref x)])) rfl (by rw [hml]; rfl) rfl (hb hby d0_1) (by decide) (W := 0) (by show 2 * 0 + _ ≤ _; exact Nat.le_of_eq rfl) (by decide)
  obtain ⟨a_6, T_7, h_8, k1_9, b_10, k_11, X_12, e_13, E_14, S_15, hk_16, hZ_17, ho_18, Ex_19, Fc_20, Fv_21, Va_22, la_23, lb_24, R_25, L_26, Sf_27, st_28⟩ := ldcCH (vm0 := s.vm) X_3 hx hZ hown (w120 hw) hSA e_4 hS0 (Nat.le_refl _) hEL (by decide) CH0 (vs := []) (z := (0 : Int32)) ⟨by decide, by decide⟩ (by decide) (by decide) (g := (mkF m 9 #[.val (.ref x), .val (.ref b), .val (.int (0 : Int32)), .val (.int (0 : Int32)), .val .null, .unset] [(.ref x)])) rfl (hb hby d0_9) (n := 0) (by decide) (by decide) (by decide) (by decide)
  have CH_29 : CHv Z consts_1 T_7.vm h_8 := R_25.1
  have CR_30 : CHr Z consts_1 s.vm h0 T_7.vm h_8 := CR0.trans R_25
  have E_31 : Exa Z h_8 x "java/lang/String" := (hp0.ext E_14)
  have F_32 : Fld Z h_8 x "java/lang/String" "value" "[B" .null := (hp1.ext E_14)
  obtain ⟨T_33, X_34, e_35, st_36⟩ := getF X_12 hx hZ_17 ho_18 (host := "") (Or.inl (w32 hw)) Via.refl e_13 Fv_21 (g := (mkF m 11 #[.val (.ref x), .val (.ref b), .val (.int (0 : Int32)), .val (.int (0 : Int32)), .val .null, .unset] [(.ref a_6), (.ref x)])) rfl rfl (hb hby d0_11)
  obtain ⟨T_37, h_38, X_39, e_40, W_41, st_42⟩ := putF X_34 hx hZ_17 ho_18 (host := "") (Or.inl (w32 hw)) Via.refl e_35 F_32 E_31 (Or.inr ⟨(w33 hw), rfl, hnm⟩) (w5 hw) (ty := (.array .byte)) (by decide) rfl rfl (g := (mkF m 14 #[.val (.ref x), .val (.ref b), .val (.int (0 : Int32)), .val (.int (0 : Int32)), .val .null, .unset] [(.ref b_10), (.ref x)])) rfl rfl (hb hby d0_14)
  have N_43 := Fr.snoc X_39 N0 hp3
  have CH_44 : CHv Z consts_1 T_7.vm h_38 := CHv.wr W_41 (own_safe_null hZ_17.alike E_31 F_32) CH_29
  have CR_45 : CHr Z consts_1 s.vm h0 T_7.vm h_38 := CR_30.trans (CHr.wr W_41 (own_safe_null hZ_17.alike E_31 F_32) CH_29)
  have F_46 : Fld Z h_38 x "java/lang/String" "value" "[B" (.ref b_10) := F_32.same W_41
  obtain ⟨a_47, T_48, h_49, k1_50, b_51, k_52, X_53, e_54, E_55, S_56, hk_57, hZ_58, ho_59, Ex_60, Fc_61, Fv_62, Va_63, la_64, lb_65, R_66, L_67, Sf_68, st_69⟩ := ldcCH (vm0 := T_7.vm) X_39 hx hZ_17 ho_18 (w120 hw) hSA e_40 S_15 (Nat.le_trans hk_16 (Keep.of_wr W_41).1) hEL (by decide) CH_44 (vs := []) (z := (0 : Int32)) ⟨by decide, by decide⟩ (by decide) (by decide) (g := (mkF m 18 #[.val (.ref x), .val (.ref b), .val (.int (0 : Int32)), .val (.int (0 : Int32)), .val .null, .unset] [(.ref x)])) rfl (hb hby d0_18) (n := 0) (by decide) (by decide) (by decide) (by decide)
  have CH_70 : CHv Z consts_1 T_48.vm h_49 := R_66.1
  have CR_71 : CHr Z consts_1 s.vm h0 T_48.vm h_49 := CR_45.trans R_66
  have Sf_72 : Safe Z consts_1 T_48.vm h_49 x := (CHr.safe R_66 (own_lt hp0.lt (Nat.le_trans E_14.1 (Keep.of_wr W_41).1)) (Safe.wr W_41 (own_safe_null hZ_17.alike E_31 F_32) CH_29 (CHr.safe R_25 (own_lt hp0.lt (Nat.le_refl _)) Sf_1)))
  obtain ⟨T_73, X_74, e_75, st_76⟩ := getF X_53 hx hZ_58 ho_59 (host := "") (Or.inl (w30 hw)) Via.refl e_54 Fc_61 (g := (mkF m 20 #[.val (.ref x), .val (.ref b), .val (.int (0 : Int32)), .val (.int (0 : Int32)), .val .null, .unset] [(.ref a_47), (.ref x)])) rfl rfl (hb hby d0_20)
  have F_77 : Fld Z h_49 x "java/lang/String" "coder" "B" (.int (0 : Int32)) := (((hp2.ext E_14).other W_41 (Or.inr (slot_ne (Or.inr (w31 hw)) (Or.inr (w33 hw)) (by decide) (t := .byte) (by decide) (t' := (.array .byte)) (by decide)))).ext E_55)
  have E_78 : Exa Z h_49 x "java/lang/String" := ((E_31.wr W_41).ext E_55)
  obtain ⟨T_79, h_80, X_81, e_82, W_83, st_84⟩ := putF X_74 hx hZ_58 ho_59 (host := "") (Or.inl (w30 hw)) Via.refl e_75 F_77 E_78 (Or.inr ⟨(w31 hw), rfl, hnm⟩) (w5 hw) (ty := .byte) (by decide) rfl (by decide) (g := (mkF m 23 #[.val (.ref x), .val (.ref b), .val (.int (0 : Int32)), .val (.int (0 : Int32)), .val .null, .unset] [(.int (0 : Int32)), (.ref x)])) rfl rfl (hb hby d0_23)
  have N_85 := Fr.snoc X_81 N_43 hp3
  have Sf_86 : Safe Z consts_1 T_48.vm h_49 x := Sf_72
  have CH_87 : CHv Z consts_1 T_48.vm h_80 := CHv.wr W_83 Sf_86 CH_70
  have CR_88 : CHr Z consts_1 s.vm h0 T_48.vm h_80 := CR_71.trans (CHr.wr W_83 Sf_86 CH_70)
  have F_89 : Fld Z h_80 x "java/lang/String" "coder" "B" (.int (0 : Int32)) := F_77.same W_83
  have C_90 : Steps p.tables e below S0 (T_79.setTop (mkF m 26 #[.val (.ref x), .val (.ref b), .val (.int (0 : Int32)), .val (.int (0 : Int32)), .val .null, .unset] [])) := by
    refine C0.trans ?_
    refine XS.aloadN X0.here hx rfl (hb hby d0_0) rfl rfl ?_
    refine st_5 _ ?_
    refine XS.iloadN X_3.here hx rfl (hb hby d0_4) rfl ?_
    refine XS.ifNo X_3.here hx rfl (hb hby d0_5) rfl (by decide) ?_
    refine XS.aloadN X_3.here hx rfl (hb hby d0_8) rfl rfl ?_
    refine st_28 _ ?_
    refine st_36 _ ?_
    refine st_42 _ ?_
    show Steps p.tables e below (T_37.setTop (mkF m 17 #[.val (.ref x), .val (.ref b), .val (.int (0 : Int32)), .val (.int (0 : Int32)), .val .null, .unset] [])) _
    refine XS.aloadN X_39.here hx rfl (hb hby d0_17) rfl rfl ?_
    refine st_69 _ ?_
    refine st_76 _ ?_
    refine st_84 _ ?_
    exact Steps.refl _
  have E_91 : Exa Z h_80 x "java/lang/String" := (E_78.wr W_83)
  have F_92 : Fld Z h_80 x "java/lang/String" "value" "[B" (.ref b_10) := ((F_46.ext E_55).other W_83 (Or.inr (slot_ne (Or.inr (w33 hw)) (Or.inr (w31 hw)) (by decide) (t := (.array .byte)) (by decide) (t' := .byte) (by decide))))
  have V_93 : Arv Z h_80 b_10 k_11 .byte (0 : Int32) [] (.int (0 : Int32)) := (((Va_22.other W_41 (Ne.symm (Sf_27 _ (own_safe_null hZ_17.alike E_31 F_32)).2)).ext E_55).other W_83 (Ne.symm (Sf_27 _ (own_safe_null hZ_17.alike E_31 F_32)).2))
  have K_94 : Keep h0 h_80 [x] := (((((Keep.refl _ _).ext E_14).wr W_41 (Or.inl (List.mem_of_getElem? (i := 0) rfl))).ext E_55).wr W_83 (Or.inl (List.mem_of_getElem? (i := 0) rfl)))
  obtain ⟨fs, hr, hrun, hended, hRE⟩ := X_81.leaveW S_56 (by rw [show T_79.heap = h_80 from e_82]; exact (Nat.le_trans hk_57 (Keep.of_wr W_83).1)) (v := none) (fun _ => rfl)
  refine ⟨_, _, C_90.trans (X_81.returnOut hx Bd.returns (hb hby d0_26) hr), hrun, hended, _, _, rfl, ?_, ?_, hRE.1, hRE.2.1, hRE.2.2.1, hRE.2.2.2.mono (by decide) (by decide)⟩
  · show Q_si4_0 Z G1 kC uS sS x b k h0 n0 (none) T_79.heap _
    rw [e_82]
    exact ⟨b_10, k_11, rfl, N_85, K_94, E_91, F_89, F_92, V_93⟩
  · show CHr Z consts_1 s.vm s.heap T_79.vm T_79.heap
    rw [hh, show T_79.heap = h_80 from e_82]
    exact CR_88.trans (CHv.at X_81 hZ_58 hEL CH_87)
abbrev M25 : MethodName := ⟨"java/lang/String", "<init>", "([C)V"⟩
theorem ef_26 (m : MethodId) (x0 : Addr) (x1 : Addr) : entryFrame m #[(.ref x0), (.ref x1)] 2 = mkF m 0 #[.val (.ref x0), .val (.ref x1)] [] := by first | (simp [entryFrame, mkF, argsToLocals, Value.category]; done) | rfl
theorem d1_0 : decode jdk_42_method_3_code 0 = .ok (.aload_n 0, 1) := by decide +kernel
theorem d1_1 : decode jdk_42_method_3_code 1 = .ok (.aload_n 1, 1) := by decide +kernel
theorem d1_2 : decode jdk_42_method_3_code 2 = .ok (.iconst 0, 1) := by decide +kernel
theorem d1_3 : decode jdk_42_method_3_code 3 = .ok (.aload_n 1, 1) := by decide +kernel
theorem d1_4 : decode jdk_42_method_3_code 4 = .ok (.arraylength, 1) := by decide +kernel
theorem d1_5 : decode jdk_42_method_3_code 5 = .ok (.aconst_null, 1) := by decide +kernel
theorem w14 {Z : State} {a0 : Array Value} (hw : ∀ d ∈ tables_1, d.before a0 Z = true) : Jvm.Cond.before (Jvm.Cond.code ({ cls := "java/lang/String", name := "<init>", desc := "([CIILjava/lang/Void;)V" } : Jvm.MethodName) jdk_42_method_149_code (6 : Nat) (Option.none : Option Jvm.ClassFile.FieldType)) a0 Z = true := hw _ (List.mem_of_getElem? (i := 14) rfl)
theorem w6 {Z : State} {a0 : Array Value} (hw : ∀ d ∈ tables_1, d.before a0 Z = true) : Jvm.Cond.before (Jvm.Cond.initialized "java/lang/String") a0 Z = true := hw _ (List.mem_of_getElem? (i := 6) rfl)
theorem pd_35 : parseMethodDescriptor "([CIILjava/lang/Void;)V" = some ⟨[(.array .char), .int, .int, (.object "java/lang/Void")], none⟩ := by decide +kernel
theorem d1_6 : decode jdk_42_method_3_code 6 = .ok (.invokespecial 27, 3) := by decide +kernel
theorem w11 {Z : State} {a0 : Array Value} (hw : ∀ d ∈ tables_1, d.before a0 Z = true) : Jvm.Cond.before (Jvm.Cond.methodLink "java/lang/String" (27 : Nat) ({ cls := "java/lang/String", name := "<init>", desc := "([CIILjava/lang/Void;)V" } : Jvm.MethodName)) a0 Z = true := hw _ (List.mem_of_getElem? (i := 11) rfl)
theorem w12 {Z : State} {a0 : Array Value} (hw : ∀ d ∈ tables_1, d.before a0 Z = true) : Jvm.Cond.before (Jvm.Cond.instanceMethod ({ cls := "java/lang/String", name := "<init>", desc := "([CIILjava/lang/Void;)V" } : Jvm.MethodName)) a0 Z = true := hw _ (List.mem_of_getElem? (i := 12) rfl)
theorem d1_9 : decode jdk_42_method_3_code 9 = .ok (.return_, 1) := by decide +kernel
abbrev R_si1_0 : Room := { frames := 2, cells := 4, slots := 8, locals := 29 }
def Q_si1_0 (Z : State) (G1 : Int32) (kC : Addr) (uS : Value) (sS : Value) (x : Addr) (b : Addr) (k : ClassId) (h0 : Heap) (n0 : Nat) (v : Option Value) (h : Heap) (L : List Loc) : Prop := (∃ t : Addr, ∃ kt : ClassId, v = none ∧ Fr n0 L ∧ Keep h0 h [x] ∧ (Exa Z h x "java/lang/String") ∧ (Fld Z h x "java/lang/String" "coder" "B" (.int (0 : Int32))) ∧ (Fld Z h x "java/lang/String" "value" "[B" (.ref t)) ∧ (Arv Z h t kt .byte (0 : Int32) [] (.int (0 : Int32))))
set_option maxRecDepth 65536 in
set_option maxHeartbeats 40000000 in
theorem rm_si1_0 (l : Launch) (Z : State) (a0 : Array Value) (hw : ∀ d ∈ tables_1, d.before a0 Z = true) (ws : List Jvm.Cond) (G1 : Int32) (kC : Addr) (uS : Value) (sS : Value) (HG : own_G l Z a0 G1 kC uS sS) (h0 : Heap) (n0 : Nat) (X00 : Old Z n0 h0) (x : Addr) (b : Addr) (k : ClassId) (hp0 : Exa Z h0 x "java/lang/String") (hp1 : Fld Z h0 x "java/lang/String" "value" "[B" .null) (hp2 : Fld Z h0 x "java/lang/String" "coder" "B" (.int (0 : Int32))) (hp3 : n0 ≤ x) (hp4 : Arv Z h0 b k .char (0 : Int32) [] (.int (0 : Int32))) :
    own_CH l Z M25 jdk_42_method_3_code 2 none ws R_si1_0 #[(.ref x), (.ref b)] h0 (Q_si1_0 Z G1 kC uS sS x b k h0 n0) := by
  refine own_H (plainFor_of_name pn_2) ?_
  intro p e s m below meth c s₁ S0 Bd hZ hh CH0 hS0 CR0 hx hby hml hown hnm X0 e0 hS0d
  obtain ⟨O1, P1, O2, E2, F2, hLT, OU, rU, OS, rS⟩ := id HG
  have hEL := own_EL hw
  have hSA := own_SA hw
  have N0 := Fr.nil n0
  have C0 : Steps p.tables e below S0 (s₁.setTop (mkF m 0 #[.val (.ref x), .val (.ref b)] [])) := by rw [hS0d]; exact castTop (ef_26 m x b) (Steps.refl _)
  obtain ⟨c_1, A_2, q_3, S_4, M_5, H_6, U_7⟩ := id hp4
  obtain ⟨_, _, ⟨T_8, L_8, k_8, n_8⟩, -, Y_8, S_8, G_8, ⟨Lc_8, hQ_8, l_8, y_8, z_8, R_8⟩, st_8⟩ := X0.specialBackS hx (y := M0) rfl hown (mvT hZ (w11 hw)) (mvT hZ (w12 hw)) (mvT hZ (w14 hw)) (by decide) (backOfSH (vm0 := s.vm) (W := 0) (rm_si4_0 l Z a0 hw [] G1 kC uS sS HG h0 n0 X00 x b k hp0 hp1 hp2 hp3 hp4) hZ (w14 hw) (w6 hw) (by decide) (by decide) hEL CH0) (g := (mkF m 6 #[.val (.ref x), .val (.ref b)] [.null, (.int (0 : Int32)), (.int (0 : Int32)), (.ref b), (.ref x)])) rfl (by rw [hml]; rfl) (Steps.refl _) (a := x) (argsL := [(.ref b), (.int (0 : Int32)), (.int (0 : Int32)), .null]) (rest := []) (lenOf pd_35 rfl) rfl (by show 2 * 0 + _ ≤ _; exact Nat.le_of_eq rfl) (hb hby d1_6) (fun _ _ => ⟨rfl, e0, (by decide : 0 + 4 ≤ _), (by decide : 0 + 8 ≤ _)⟩)
  dsimp only [Pt.U, Pt.locs, Pt.cells, Pt.slots] at Y_8 S_8 G_8 l_8 y_8 z_8 st_8 hQ_8 R_8
  subst l_8 y_8 z_8
  obtain ⟨X_8, hS_8, hZ_8, hown_8⟩ := rebS hS0 (n1 := s₁.heap.size) (by rw [show s₁.heap = h0 from e0]; exact (Nat.le_refl _)) Y_8 S_8 G_8 hZ hown
  obtain ⟨a_9, k_10, rfl, N_11, K_12, g_13, g_14, g_15, g_16⟩ := hQ_8
  have N_17 := Fr.app N0 N_11
  have CH_18 : CHv Z consts_1 T_8.vm T_8.heap := R_8.1
  have CR_19 : CHr Z consts_1 s.vm h0 T_8.vm T_8.heap := CR0.trans R_8
  have C_20 : Steps p.tables e below S0 (T_8.setTop (mkF m 9 #[.val (.ref x), .val (.ref b)] [])) := by
    refine C0.trans ?_
    refine XS.aloadN X0.here hx rfl (hb hby d1_0) rfl rfl ?_
    refine XS.aloadN X0.here hx rfl (hb hby d1_1) rfl rfl ?_
    refine XS.iconst X0.here hx rfl (hb hby d1_2) ?_
    refine XS.aloadN X0.here hx rfl (hb hby d1_3) rfl rfl ?_
    refine X0.arraylength hx (by rw [e0]; exact A_2.1) (State.isArrayOf_alike hZ.alike A_2.2.1) (g := (mkF m 4 #[.val (.ref x), .val (.ref b)] [(.ref b), (.int (0 : Int32)), (.ref b), (.ref x)])) rfl rfl (hb hby d1_4) _ ?_
    rw [len_of S_4 M_5]
    refine XS.aconstNull X0.here hx rfl (hb hby d1_5) ?_
    refine st_8.trans ?_
    exact Steps.refl _
  have K_21 : Keep h0 T_8.heap [x] := ((Keep.refl _ _).trans K_12 (allS (Or.inl (List.mem_of_getElem? (i := 0) rfl)) all0))
  obtain ⟨fs, hr, hrun, hended, hRE⟩ := X_8.leaveW hS_8 (by rw [show T_8.heap = T_8.heap from rfl]; exact (Nat.le_refl _)) (v := none) (fun _ => rfl)
  refine ⟨_, _, C_20.trans (X_8.returnOut hx Bd.returns (hb hby d1_9) hr), hrun, hended, _, _, rfl, ?_, ?_, hRE.1, hRE.2.1, hRE.2.2.1, hRE.2.2.2.mono (by decide) (by decide)⟩
  · show Q_si1_0 Z G1 kC uS sS x b k h0 n0 (none) T_8.heap _
    exact ⟨a_9, k_10, rfl, N_17, K_21, g_13, g_14, g_15, g_16⟩
  · show CHr Z consts_1 s.vm s.heap T_8.vm T_8.heap
    rw [hh]
    exact CR_19.trans (CHv.at X_8 hZ_8 hEL CH_18)
abbrev M40 : MethodName := ⟨"java/lang/Throwable", "<init>", "(Ljava/lang/String;)V"⟩
theorem pn_41 : plainName "java/lang/Throwable" = true := by first | (simp [plainName, overriddenIn]; done) | decide +kernel
theorem d2_0 : decode jdk_78_method_2_code 0 = .ok (.aload_n 0, 1) := by decide +kernel
theorem w57 {Z : State} {a0 : Array Value} (hw : ∀ d ∈ tables_1, d.before a0 Z = true) : Jvm.Cond.before (Jvm.Cond.methodLink "java/lang/Throwable" (1 : Nat) ({ cls := "java/lang/Object", name := "<init>", desc := "()V" } : Jvm.MethodName)) a0 Z = true := hw _ (List.mem_of_getElem? (i := 57) rfl)
theorem d2_1 : decode jdk_78_method_2_code 1 = .ok (.invokespecial 1, 3) := by decide +kernel
theorem d2_4 : decode jdk_78_method_2_code 4 = .ok (.aload_n 0, 1) := by decide +kernel
theorem d2_5 : decode jdk_78_method_2_code 5 = .ok (.aload_n 0, 1) := by decide +kernel
theorem w58 {Z : State} {a0 : Array Value} (hw : ∀ d ∈ tables_1, d.before a0 Z = true) : Jvm.Cond.before (Jvm.Cond.fieldLink "java/lang/Throwable" (7 : Nat) "java/lang/Throwable" "cause" "Ljava/lang/Throwable;") a0 Z = true := hw _ (List.mem_of_getElem? (i := 58) rfl)
theorem w59 {Z : State} {a0 : Array Value} (hw : ∀ d ∈ tables_1, d.before a0 Z = true) : Jvm.Cond.before (Jvm.Cond.lays "com/example/manque/manque/Declined" "java/lang/Throwable" "cause" "Ljava/lang/Throwable;") a0 Z = true := hw _ (List.mem_of_getElem? (i := 59) rfl)
theorem w39 {Z : State} {a0 : Array Value} (hw : ∀ d ∈ tables_1, d.before a0 Z = true) : Jvm.Cond.before (Jvm.Cond.instantiable "com/example/manque/manque/Declined" (7 : Nat)) a0 Z = true := hw _ (List.mem_of_getElem? (i := 39) rfl)
theorem d2_6 : decode jdk_78_method_2_code 6 = .ok (.putfield 7, 3) := by decide +kernel
theorem d2_9 : decode jdk_78_method_2_code 9 = .ok (.aload_n 0, 1) := by decide +kernel
theorem w60 {Z : State} {a0 : Array Value} (hw : ∀ d ∈ tables_1, d.before a0 Z = true) : Jvm.Cond.before (Jvm.Cond.fieldLink "java/lang/Throwable" (13 : Nat) "java/lang/Throwable" "UNASSIGNED_STACK" "[Ljava/lang/StackTraceElement;") a0 Z = true := hw _ (List.mem_of_getElem? (i := 60) rfl)
theorem d2_10 : decode jdk_78_method_2_code 10 = .ok (.getstatic 13, 3) := by decide +kernel
theorem w61 {Z : State} {a0 : Array Value} (hw : ∀ d ∈ tables_1, d.before a0 Z = true) : Jvm.Cond.before (Jvm.Cond.fieldLink "java/lang/Throwable" (17 : Nat) "java/lang/Throwable" "stackTrace" "[Ljava/lang/StackTraceElement;") a0 Z = true := hw _ (List.mem_of_getElem? (i := 61) rfl)
theorem w62 {Z : State} {a0 : Array Value} (hw : ∀ d ∈ tables_1, d.before a0 Z = true) : Jvm.Cond.before (Jvm.Cond.lays "com/example/manque/manque/Declined" "java/lang/Throwable" "stackTrace" "[Ljava/lang/StackTraceElement;") a0 Z = true := hw _ (List.mem_of_getElem? (i := 62) rfl)
theorem d2_13 : decode jdk_78_method_2_code 13 = .ok (.putfield 17, 3) := by decide +kernel
theorem d2_16 : decode jdk_78_method_2_code 16 = .ok (.aload_n 0, 1) := by decide +kernel
theorem w63 {Z : State} {a0 : Array Value} (hw : ∀ d ∈ tables_1, d.before a0 Z = true) : Jvm.Cond.before (Jvm.Cond.fieldLink "java/lang/Throwable" (20 : Nat) "java/lang/Throwable" "SUPPRESSED_SENTINEL" "Ljava/util/List;") a0 Z = true := hw _ (List.mem_of_getElem? (i := 63) rfl)
theorem d2_17 : decode jdk_78_method_2_code 17 = .ok (.getstatic 20, 3) := by decide +kernel
theorem w64 {Z : State} {a0 : Array Value} (hw : ∀ d ∈ tables_1, d.before a0 Z = true) : Jvm.Cond.before (Jvm.Cond.fieldLink "java/lang/Throwable" (24 : Nat) "java/lang/Throwable" "suppressedExceptions" "Ljava/util/List;") a0 Z = true := hw _ (List.mem_of_getElem? (i := 64) rfl)
theorem w65 {Z : State} {a0 : Array Value} (hw : ∀ d ∈ tables_1, d.before a0 Z = true) : Jvm.Cond.before (Jvm.Cond.lays "com/example/manque/manque/Declined" "java/lang/Throwable" "suppressedExceptions" "Ljava/util/List;") a0 Z = true := hw _ (List.mem_of_getElem? (i := 65) rfl)
theorem d2_20 : decode jdk_78_method_2_code 20 = .ok (.putfield 24, 3) := by decide +kernel
theorem d2_23 : decode jdk_78_method_2_code 23 = .ok (.aload_n 0, 1) := by decide +kernel
theorem w90 {Z : State} {a0 : Array Value} (hw : ∀ d ∈ tables_1, d.before a0 Z = true) : Jvm.Cond.before (Jvm.Cond.lays "com/example/manque/manque/Declined" "java/lang/Throwable" "backtrace" "Ljava/lang/Object;") a0 Z = true := hw _ (List.mem_of_getElem? (i := 90) rfl)
theorem d2_24 : decode jdk_78_method_2_code 24 = .ok (.invokevirtual 27, 3) := by decide +kernel
theorem d2_27 : decode jdk_78_method_2_code 27 = .ok (.pop, 1) := by decide +kernel
theorem d2_28 : decode jdk_78_method_2_code 28 = .ok (.aload_n 0, 1) := by decide +kernel
theorem d2_29 : decode jdk_78_method_2_code 29 = .ok (.aload_n 1, 1) := by decide +kernel
theorem w93 {Z : State} {a0 : Array Value} (hw : ∀ d ∈ tables_1, d.before a0 Z = true) : Jvm.Cond.before (Jvm.Cond.fieldLink "java/lang/Throwable" (31 : Nat) "java/lang/Throwable" "detailMessage" "Ljava/lang/String;") a0 Z = true := hw _ (List.mem_of_getElem? (i := 93) rfl)
theorem w89 {Z : State} {a0 : Array Value} (hw : ∀ d ∈ tables_1, d.before a0 Z = true) : Jvm.Cond.before (Jvm.Cond.lays "com/example/manque/manque/Declined" "java/lang/Throwable" "detailMessage" "Ljava/lang/String;") a0 Z = true := hw _ (List.mem_of_getElem? (i := 89) rfl)
theorem d2_30 : decode jdk_78_method_2_code 30 = .ok (.putfield 31, 3) := by decide +kernel
theorem d2_33 : decode jdk_78_method_2_code 33 = .ok (.return_, 1) := by decide +kernel
theorem w95 {Z : State} {a0 : Array Value} (hw : ∀ d ∈ tables_1, d.before a0 Z = true) : Jvm.Cond.before (Jvm.Cond.laysFinal "com/example/manque/manque/Declined" "com/example/manque/manque/Declined" "kind" "Lcom/example/manque/manque/Declined$Kind;") a0 Z = true := hw _ (List.mem_of_getElem? (i := 95) rfl)
abbrev R_thi : Room := { frames := 3, cells := 1, slots := 2752, locals := 42 }
def Q_thi (Z : State) (G1 : Int32) (kC : Addr) (uS : Value) (sS : Value) (d : Addr) (r : Addr) (h0 : Heap) (n0 : Nat) (v : Option Value) (h : Heap) (L : List Loc) : Prop := (v = none ∧ Fr n0 L ∧ Keep h0 h [d] ∧ (Exa Z h d "com/example/manque/manque/Declined") ∧ (Fld Z h d "com/example/manque/manque/Declined" "kind" "Lcom/example/manque/manque/Declined$Kind;" .null) ∧ (Fld Z h d "java/lang/Throwable" "detailMessage" "Ljava/lang/String;" (.ref r)))
set_option maxRecDepth 65536 in
set_option maxHeartbeats 40000000 in
theorem rm_thi (l : Launch) (Z : State) (a0 : Array Value) (hw : ∀ d ∈ tables_1, d.before a0 Z = true) (ws : List Jvm.Cond) (G1 : Int32) (kC : Addr) (uS : Value) (sS : Value) (HG : own_G l Z a0 G1 kC uS sS) (h0 : Heap) (n0 : Nat) (X00 : Old Z n0 h0) (d : Addr) (r : Addr) (hp0 : Exa Z h0 d "com/example/manque/manque/Declined") (hp1 : Unt h0 d) (hp2 : Fld Z h0 d "com/example/manque/manque/Declined" "kind" "Lcom/example/manque/manque/Declined$Kind;" .null) (hp3 : Fld Z h0 d "java/lang/Throwable" "cause" "Ljava/lang/Throwable;" .null) (hp4 : Fld Z h0 d "java/lang/Throwable" "stackTrace" "[Ljava/lang/StackTraceElement;" .null) (hp5 : Fld Z h0 d "java/lang/Throwable" "suppressedExceptions" "Ljava/util/List;" .null) (hp6 : Fld Z h0 d "java/lang/Throwable" "backtrace" "Ljava/lang/Object;" .null) (hp7 : Fld Z h0 d "java/lang/Throwable" "detailMessage" "Ljava/lang/String;" .null) (hp8 : n0 ≤ d) :
    own_CK l Z M40 jdk_78_method_2_code 2 none ws R_thi #[(.ref d), (.ref r)] h0 (Q_thi Z G1 kC uS sS d r h0 n0) := by
  refine own_K (plainFor_of_name pn_41) ?_
  intro p e s m below meth c s₁ S0 Bd hZ hh CH0 hS0 CR0 hTK0 hBL0 hx hby hml hown hnm X0 e0 hS0d
  obtain ⟨O1, P1, O2, E2, F2, hLT, OU, rU, OS, rS⟩ := id HG
  have hEL := own_EL hw
  have hSA := own_SA hw
  have N0 := Fr.nil n0
  have C0 : Steps p.tables e below S0 (s₁.setTop (mkF m 0 #[.val (.ref d), .val (.ref r)] [])) := by rw [hS0d]; exact castTop (ef_26 m d r) (Steps.refl _)
  obtain ⟨T_1, X_2, e_3, st_4⟩ := initO X0 hx hZ hown (w57 hw) (w16 hw) (w17 hw) e0 (g := (mkF m 1 #[.val (.ref d), .val (.ref r)] [(.ref d)])) rfl (by rw [hml]; rfl) rfl (hb hby d2_1) (by decide) (W := 0) (by show 2 * 0 + _ ≤ _; exact Nat.le_of_eq rfl) (by decide)
  obtain ⟨T_5, h_6, X_7, e_8, W_9, st_10⟩ := putF X_2 hx hZ hown (host := "") (Or.inl (w58 hw)) Via.refl e_3 hp3 hp0 (Or.inl (w59 hw)) (w39 hw) (ty := (.object "java/lang/Throwable")) (by decide) rfl rfl (g := (mkF m 6 #[.val (.ref d), .val (.ref r)] [(.ref d), (.ref d)])) rfl rfl (hb hby d2_6)
  have N_11 := Fr.snoc X_7 N0 hp8
  have CH_12 : CHv Z consts_1 s.vm h_6 := CHv.wr W_9 (Safe.exa hZ.alike hp0 (by decide) (by decide)) CH0
  have CR_13 : CHr Z consts_1 s.vm h0 s.vm h_6 := CR0.trans (CHr.wr W_9 (Safe.exa hZ.alike hp0 (by decide) (by decide)) CH0)
  have F_14 : Fld Z h_6 d "java/lang/Throwable" "cause" "Ljava/lang/Throwable;" (.ref d) := hp3.same W_9
  have O_19 : Old Z n0 h_6 := (X00.wr W_9 hp8)
  obtain ⟨T_15, X_16, e_17, st_18⟩ := getS X_7 hx hZ (host := "") hown (w60 hw) Via.refl e_8 (OU.ext O_19.2) (g := (mkF m 10 #[.val (.ref d), .val (.ref r)] [(.ref d)])) rfl (hb hby d2_10)
  have F_20 : Fld Z h_6 d "java/lang/Throwable" "stackTrace" "[Ljava/lang/StackTraceElement;" .null := (hp4.other W_9 (Or.inr (slot_ne (Or.inl (w62 hw)) (Or.inl (w59 hw)) (by decide) (t := (.array (.object "java/lang/StackTraceElement"))) (by decide) (t' := (.object "java/lang/Throwable")) (by decide))))
  have E_21 : Exa Z h_6 d "com/example/manque/manque/Declined" := (hp0.wr W_9)
  obtain ⟨T_22, h_23, X_24, e_25, W_26, st_27⟩ := putF X_16 hx hZ hown (host := "") (Or.inl (w61 hw)) Via.refl e_17 F_20 E_21 (Or.inl (w62 hw)) (w39 hw) (ty := (.array (.object "java/lang/StackTraceElement"))) (by decide) (own_narR rU) (own_fitR rU) (g := (mkF m 13 #[.val (.ref d), .val (.ref r)] [uS, (.ref d)])) rfl rfl (hb hby d2_13)
  have N_28 := Fr.snoc X_24 N_11 hp8
  have CH_29 : CHv Z consts_1 s.vm h_23 := CHv.wr W_26 (Safe.exa hZ.alike E_21 (by decide) (by decide)) CH_12
  have CR_30 : CHr Z consts_1 s.vm h0 s.vm h_23 := CR_13.trans (CHr.wr W_26 (Safe.exa hZ.alike E_21 (by decide) (by decide)) CH_12)
  have F_31 : Fld Z h_23 d "java/lang/Throwable" "stackTrace" "[Ljava/lang/StackTraceElement;" uS := F_20.same W_26
  have O_36 : Old Z n0 h_23 := (O_19.wr W_26 hp8)
  obtain ⟨T_32, X_33, e_34, st_35⟩ := getS X_24 hx hZ (host := "") hown (w63 hw) Via.refl e_25 (OS.ext O_36.2) (g := (mkF m 17 #[.val (.ref d), .val (.ref r)] [(.ref d)])) rfl (hb hby d2_17)
  have F_37 : Fld Z h_23 d "java/lang/Throwable" "suppressedExceptions" "Ljava/util/List;" .null := ((hp5.other W_9 (Or.inr (slot_ne (Or.inl (w65 hw)) (Or.inl (w59 hw)) (by decide) (t := (.object "java/util/List")) (by decide) (t' := (.object "java/lang/Throwable")) (by decide)))).other W_26 (Or.inr (slot_ne (Or.inl (w65 hw)) (Or.inl (w62 hw)) (by decide) (t := (.object "java/util/List")) (by decide) (t' := (.array (.object "java/lang/StackTraceElement"))) (by decide))))
  have E_38 : Exa Z h_23 d "com/example/manque/manque/Declined" := (E_21.wr W_26)
  obtain ⟨T_39, h_40, X_41, e_42, W_43, st_44⟩ := putF X_33 hx hZ hown (host := "") (Or.inl (w64 hw)) Via.refl e_34 F_37 E_38 (Or.inl (w65 hw)) (w39 hw) (ty := (.object "java/util/List")) (by decide) (own_narR rS) (own_fitR rS) (g := (mkF m 20 #[.val (.ref d), .val (.ref r)] [sS, (.ref d)])) rfl rfl (hb hby d2_20)
  have N_45 := Fr.snoc X_41 N_28 hp8
  have CH_46 : CHv Z consts_1 s.vm h_40 := CHv.wr W_43 (Safe.exa hZ.alike E_38 (by decide) (by decide)) CH_29
  have CR_47 : CHr Z consts_1 s.vm h0 s.vm h_40 := CR_30.trans (CHr.wr W_43 (Safe.exa hZ.alike E_38 (by decide) (by decide)) CH_29)
  have F_48 : Fld Z h_40 d "java/lang/Throwable" "suppressedExceptions" "Ljava/util/List;" sS := F_37.same W_43
  have hT_59 : ThS Z (s.setVm s.vm).heap := by show ThS Z s.heap; rw [hh]; exact ThS.ext X00.2 ThS.start
  have hz_60 : h_40.size = (s.setVm s.vm).heap.size := ((own_wrsz W_43).trans ((own_wrsz W_26).trans ((own_wrsz W_9).trans (by show h0.size = s.heap.size; rw [hh]))))
  have F_61 : Fld Z h_40 d "java/lang/Throwable" "stackTrace" "[Ljava/lang/StackTraceElement;" uS := (F_31.other W_43 (Or.inr (slot_ne (Or.inl (w62 hw)) (Or.inl (w65 hw)) (by decide) (t := (.array (.object "java/lang/StackTraceElement"))) (by decide) (t' := (.object "java/util/List")) (by decide))))
  have F_62 : Fld Z h_40 d "java/lang/Throwable" "backtrace" "Ljava/lang/Object;" .null := (((hp6.other W_9 (Or.inr (slot_ne (Or.inl (w90 hw)) (Or.inl (w59 hw)) (by decide) (t := (.object "java/lang/Object")) (by decide) (t' := (.object "java/lang/Throwable")) (by decide)))).other W_26 (Or.inr (slot_ne (Or.inl (w90 hw)) (Or.inl (w62 hw)) (by decide) (t := (.object "java/lang/Object")) (by decide) (t' := (.array (.object "java/lang/StackTraceElement"))) (by decide)))).other W_43 (Or.inr (slot_ne (Or.inl (w90 hw)) (Or.inl (w65 hw)) (by decide) (t := (.object "java/lang/Object")) (by decide) (t' := (.object "java/util/List")) (by decide))))
  have E_63 : Exa Z h_40 d "com/example/manque/manque/Declined" := (E_38.wr W_43)
  have U_64 : Unt h_40 d := (Unt.wr W_43 (Unt.wr W_26 (Unt.wr W_9 hp1)))
  have O_65 : Old Z n0 h_40 := (O_36.wr W_43 hp8)
  obtain ⟨T_49, h_50, v_51, X_52, e_53, Kp_54, E_55, U_56, M_57, st_58⟩ := own_fillL X_41 hx hLT hZ hown (own_exw_D hw) (w39 hw) hT_59 hTK0 hBL0 e_42 hz_60 (own_bases3 rfl) E_63 U_64 rU F_61 (OU.ext O_65.2) F_62 (g := (mkF m 24 #[.val (.ref d), .val (.ref r)] [(.ref d)])) rfl (by rw [hml]; rfl) rfl (hb hby d2_24) (by decide) (by show 2 * 0 + _ + _ ≤ _; decide) (by decide) (by decide)
  have N_66 := Fr.six (Z := Z) N_45 hp8
  have CH_67 : CHv Z consts_1 s.vm h_50 := CHv.keep (keep_of_kp Kp_54) (sfS (Safe.exa hZ.alike E_63 (by decide) (by decide)) sf0) CH_46
  have CR_68 : CHr Z consts_1 s.vm h0 s.vm h_50 := CR_47.trans (CHr.keep (keep_of_kp Kp_54) (sfS (Safe.exa hZ.alike E_63 (by decide) (by decide)) sf0) CH_46)
  obtain ⟨T_69, h_70, X_71, e_72, W_73, st_74⟩ := putF X_52 hx hZ hown (host := "") (Or.inl (w93 hw)) Via.refl e_53 M_57 E_55 (Or.inl (w89 hw)) (w39 hw) (ty := (.object "java/lang/String")) (by decide) rfl rfl (g := (mkF m 30 #[.val (.ref d), .val (.ref r)] [(.ref r), (.ref d)])) rfl rfl (hb hby d2_30)
  have N_75 := Fr.snoc X_71 N_66 hp8
  have CH_76 : CHv Z consts_1 s.vm h_70 := CHv.wr W_73 (Safe.exa hZ.alike E_55 (by decide) (by decide)) CH_67
  have CR_77 : CHr Z consts_1 s.vm h0 s.vm h_70 := CR_68.trans (CHr.wr W_73 (Safe.exa hZ.alike E_55 (by decide) (by decide)) CH_67)
  have F_78 : Fld Z h_70 d "java/lang/Throwable" "detailMessage" "Ljava/lang/String;" (.ref r) := M_57.same W_73
  have C_79 : Steps p.tables e below S0 (T_69.setTop (mkF m 33 #[.val (.ref d), .val (.ref r)] [])) := by
    refine C0.trans ?_
    refine XS.aloadN X0.here hx rfl (hb hby d2_0) rfl rfl ?_
    refine st_4 _ ?_
    refine XS.aloadN X_2.here hx rfl (hb hby d2_4) rfl rfl ?_
    refine XS.aloadN X_2.here hx rfl (hb hby d2_5) rfl rfl ?_
    refine st_10 _ ?_
    refine XS.aloadN X_7.here hx rfl (hb hby d2_9) rfl rfl ?_
    refine st_18 _ ?_
    refine st_27 _ ?_
    show Steps p.tables e below (T_22.setTop (mkF m 16 #[.val (.ref d), .val (.ref r)] [])) _
    refine XS.aloadN X_24.here hx rfl (hb hby d2_16) rfl rfl ?_
    refine st_35 _ ?_
    refine st_44 _ ?_
    refine XS.aloadN X_41.here hx rfl (hb hby d2_23) rfl rfl ?_
    refine st_58 _ ?_
    refine XS.pop X_52.here hx rfl (hb hby d2_27) rfl rfl ?_
    refine XS.aloadN X_52.here hx rfl (hb hby d2_28) rfl rfl ?_
    refine XS.aloadN X_52.here hx rfl (hb hby d2_29) rfl rfl ?_
    show Steps p.tables e below (T_49.setTop (mkF m 30 #[.val (.ref d), .val (.ref r)] [(.ref r), (.ref d)])) _
    refine st_74 _ ?_
    exact Steps.refl _
  have E_80 : Exa Z h_70 d "com/example/manque/manque/Declined" := (E_55.wr W_73)
  have F_81 : Fld Z h_70 d "com/example/manque/manque/Declined" "kind" "Lcom/example/manque/manque/Declined$Kind;" .null := ((Fld.kp Kp_54 (((hp2.other W_9 (Or.inr (slot_ne (Or.inr (w95 hw)) (Or.inl (w59 hw)) (by decide) (t := (.object "com/example/manque/manque/Declined$Kind")) (by decide) (t' := (.object "java/lang/Throwable")) (by decide)))).other W_26 (Or.inr (slot_ne (Or.inr (w95 hw)) (Or.inl (w62 hw)) (by decide) (t := (.object "com/example/manque/manque/Declined$Kind")) (by decide) (t' := (.array (.object "java/lang/StackTraceElement"))) (by decide)))).other W_43 (Or.inr (slot_ne (Or.inr (w95 hw)) (Or.inl (w65 hw)) (by decide) (t := (.object "com/example/manque/manque/Declined$Kind")) (by decide) (t' := (.object "java/util/List")) (by decide)))) (Or.inr (own_six_ne (own_exw_D hw) (Or.inr (w95 hw)) (ty := (.object "com/example/manque/manque/Declined$Kind")) (by decide) (by decide)))).other W_73 (Or.inr (slot_ne (Or.inr (w95 hw)) (Or.inl (w89 hw)) (by decide) (t := (.object "com/example/manque/manque/Declined$Kind")) (by decide) (t' := (.object "java/lang/String")) (by decide))))
  have K_82 : Keep h0 h_70 [d] := ((((((Keep.refl _ _).wr W_9 (Or.inl (List.mem_of_getElem? (i := 0) rfl))).wr W_26 (Or.inl (List.mem_of_getElem? (i := 0) rfl))).wr W_43 (Or.inl (List.mem_of_getElem? (i := 0) rfl))).trans (keep_of_kp Kp_54) (allS (Or.inl (List.mem_of_getElem? (i := 0) rfl)) all0)).wr W_73 (Or.inl (List.mem_of_getElem? (i := 0) rfl)))
  obtain ⟨fs, hr, hrun, hended, hRE⟩ := X_71.leaveW hS0 (by rw [show T_69.heap = h_70 from e_72]; exact (Nat.le_trans (Nat.le_refl _) (Nat.le_trans (Nat.le_trans (Nat.le_trans (Nat.le_trans (Keep.of_wr W_9).1 (Keep.of_wr W_26).1) (Keep.of_wr W_43).1) Kp_54.1) (Keep.of_wr W_73).1))) (v := none) (fun _ => rfl)
  refine ⟨_, _, C_79.trans (X_71.returnOut hx Bd.returns (hb hby d2_33) hr), hrun, hended, _, _, rfl, ?_, ?_, hRE.1, hRE.2.1, hRE.2.2.1, hRE.2.2.2.mono (by decide) (by decide)⟩
  · show Q_thi Z G1 kC uS sS d r h0 n0 (none) T_69.heap _
    rw [e_72]
    exact ⟨rfl, N_75, K_82, E_80, F_81, F_78⟩
  · show CHr Z consts_1 s.vm s.heap T_69.vm T_69.heap
    rw [hh, show T_69.heap = h_70 from e_72]
    exact CR_77.trans (CHv.at X_71 hZ hEL CH_76)
abbrev M74 : MethodName := ⟨"java/lang/Exception", "<init>", "(Ljava/lang/String;)V"⟩
theorem pn_75 : plainName "java/lang/Exception" = true := by first | (simp [plainName, overriddenIn]; done) | decide +kernel
theorem d3_0 : decode jdk_59_method_2_code 0 = .ok (.aload_n 0, 1) := by decide +kernel
theorem d3_1 : decode jdk_59_method_2_code 1 = .ok (.aload_n 1, 1) := by decide +kernel
theorem w56 {Z : State} {a0 : Array Value} (hw : ∀ d ∈ tables_1, d.before a0 Z = true) : Jvm.Cond.before (Jvm.Cond.code ({ cls := "java/lang/Throwable", name := "<init>", desc := "(Ljava/lang/String;)V" } : Jvm.MethodName) jdk_78_method_2_code (2 : Nat) (Option.none : Option Jvm.ClassFile.FieldType)) a0 Z = true := hw _ (List.mem_of_getElem? (i := 56) rfl)
theorem w55 {Z : State} {a0 : Array Value} (hw : ∀ d ∈ tables_1, d.before a0 Z = true) : Jvm.Cond.before (Jvm.Cond.initialized "java/lang/Throwable") a0 Z = true := hw _ (List.mem_of_getElem? (i := 55) rfl)
theorem pd_80 : parseMethodDescriptor "(Ljava/lang/String;)V" = some ⟨[(.object "java/lang/String")], none⟩ := by decide +kernel
theorem d3_2 : decode jdk_59_method_2_code 2 = .ok (.invokespecial 7, 3) := by decide +kernel
theorem w51 {Z : State} {a0 : Array Value} (hw : ∀ d ∈ tables_1, d.before a0 Z = true) : Jvm.Cond.before (Jvm.Cond.methodLink "java/lang/Exception" (7 : Nat) ({ cls := "java/lang/Throwable", name := "<init>", desc := "(Ljava/lang/String;)V" } : Jvm.MethodName)) a0 Z = true := hw _ (List.mem_of_getElem? (i := 51) rfl)
theorem w52 {Z : State} {a0 : Array Value} (hw : ∀ d ∈ tables_1, d.before a0 Z = true) : Jvm.Cond.before (Jvm.Cond.instanceMethod ({ cls := "java/lang/Throwable", name := "<init>", desc := "(Ljava/lang/String;)V" } : Jvm.MethodName)) a0 Z = true := hw _ (List.mem_of_getElem? (i := 52) rfl)
theorem d3_5 : decode jdk_59_method_2_code 5 = .ok (.return_, 1) := by decide +kernel
abbrev R_ex0 : Room := { frames := 4, cells := 1, slots := 2752, locals := 55 }
def Q_ex0 (Z : State) (G1 : Int32) (kC : Addr) (uS : Value) (sS : Value) (d : Addr) (r : Addr) (h0 : Heap) (n0 : Nat) (v : Option Value) (h : Heap) (L : List Loc) : Prop := (v = none ∧ Fr n0 L ∧ Keep h0 h [d] ∧ (Exa Z h d "com/example/manque/manque/Declined") ∧ (Fld Z h d "com/example/manque/manque/Declined" "kind" "Lcom/example/manque/manque/Declined$Kind;" .null) ∧ (Fld Z h d "java/lang/Throwable" "detailMessage" "Ljava/lang/String;" (.ref r)))
set_option maxRecDepth 65536 in
set_option maxHeartbeats 40000000 in
theorem rm_ex0 (l : Launch) (Z : State) (a0 : Array Value) (hw : ∀ d ∈ tables_1, d.before a0 Z = true) (ws : List Jvm.Cond) (G1 : Int32) (kC : Addr) (uS : Value) (sS : Value) (HG : own_G l Z a0 G1 kC uS sS) (h0 : Heap) (n0 : Nat) (X00 : Old Z n0 h0) (d : Addr) (r : Addr) (hp0 : Exa Z h0 d "com/example/manque/manque/Declined") (hp1 : Unt h0 d) (hp2 : Fld Z h0 d "com/example/manque/manque/Declined" "kind" "Lcom/example/manque/manque/Declined$Kind;" .null) (hp3 : Fld Z h0 d "java/lang/Throwable" "cause" "Ljava/lang/Throwable;" .null) (hp4 : Fld Z h0 d "java/lang/Throwable" "stackTrace" "[Ljava/lang/StackTraceElement;" .null) (hp5 : Fld Z h0 d "java/lang/Throwable" "suppressedExceptions" "Ljava/util/List;" .null) (hp6 : Fld Z h0 d "java/lang/Throwable" "backtrace" "Ljava/lang/Object;" .null) (hp7 : Fld Z h0 d "java/lang/Throwable" "detailMessage" "Ljava/lang/String;" .null) (hp8 : n0 ≤ d) :
    own_CK l Z M74 jdk_59_method_2_code 2 none ws R_ex0 #[(.ref d), (.ref r)] h0 (Q_ex0 Z G1 kC uS sS d r h0 n0) := by
  refine own_K (plainFor_of_name pn_75) ?_
  intro p e s m below meth c s₁ S0 Bd hZ hh CH0 hS0 CR0 hTK0 hBL0 hx hby hml hown hnm X0 e0 hS0d
  obtain ⟨O1, P1, O2, E2, F2, hLT, OU, rU, OS, rS⟩ := id HG
  have hEL := own_EL hw
  have hSA := own_SA hw
  have N0 := Fr.nil n0
  have C0 : Steps p.tables e below S0 (s₁.setTop (mkF m 0 #[.val (.ref d), .val (.ref r)] [])) := by rw [hS0d]; exact castTop (ef_26 m d r) (Steps.refl _)
  obtain ⟨_, _, ⟨T_1, L_1, k_1, n_1⟩, -, Y_1, S_1, G_1, ⟨Lc_1, hQ_1, l_1, y_1, z_1, R_1⟩, st_1⟩ := X0.specialBackS hx (y := M40) rfl hown (mvT hZ (w51 hw)) (mvT hZ (w52 hw)) (mvT hZ (w56 hw)) (by decide) (backOfSKH (vm0 := s.vm) (W := 0) (rm_thi l Z a0 hw [] G1 kC uS sS HG h0 n0 X00 d r hp0 hp1 hp2 hp3 hp4 hp5 hp6 hp7 hp8) hZ (w56 hw) (w55 hw) (by decide) (by decide) hEL CH0 hTK0 hBL0) (g := (mkF m 2 #[.val (.ref d), .val (.ref r)] [(.ref r), (.ref d)])) rfl (by rw [hml]; rfl) (Steps.refl _) (a := d) (argsL := [(.ref r)]) (rest := []) (lenOf pd_80 rfl) rfl (by show 2 * 0 + _ ≤ _; exact Nat.le_of_eq rfl) (hb hby d3_2) (fun _ _ => ⟨rfl, e0, (by decide : 0 + 1 ≤ _), (by decide : 0 + 2752 ≤ _)⟩)
  dsimp only [Pt.U, Pt.locs, Pt.cells, Pt.slots] at Y_1 S_1 G_1 l_1 y_1 z_1 st_1 hQ_1 R_1
  subst l_1 y_1 z_1
  obtain ⟨X_1, hS_1, hZ_1, hown_1⟩ := rebS hS0 (n1 := s₁.heap.size) (by rw [show s₁.heap = h0 from e0]; exact (Nat.le_refl _)) Y_1 S_1 G_1 hZ hown
  obtain ⟨rfl, N_2, K_3, g_4, g_5, g_6⟩ := hQ_1
  have N_7 := Fr.app N0 N_2
  have CH_8 : CHv Z consts_1 T_1.vm T_1.heap := R_1.1
  have CR_9 : CHr Z consts_1 s.vm h0 T_1.vm T_1.heap := CR0.trans R_1
  have hTK_10 : (s.setVm T_1.vm).vm.MethodsKnown := Vm.MethodsKnown.alikeC (hS_1.1.alike) hTK0
  have hBL_11 : (s.setVm T_1.vm).vm.FramesKnown below := Vm.FramesKnown.alikeC (hS_1.1.alike) hBL0
  have C_12 : Steps p.tables e below S0 (T_1.setTop (mkF m 5 #[.val (.ref d), .val (.ref r)] [])) := by
    refine C0.trans ?_
    refine XS.aloadN X0.here hx rfl (hb hby d3_0) rfl rfl ?_
    refine XS.aloadN X0.here hx rfl (hb hby d3_1) rfl rfl ?_
    refine st_1.trans ?_
    exact Steps.refl _
  have K_13 : Keep h0 T_1.heap [d] := ((Keep.refl _ _).trans K_3 (allS (Or.inl (List.mem_of_getElem? (i := 0) rfl)) all0))
  obtain ⟨fs, hr, hrun, hended, hRE⟩ := X_1.leaveW hS_1 (by rw [show T_1.heap = T_1.heap from rfl]; exact (Nat.le_refl _)) (v := none) (fun _ => rfl)
  refine ⟨_, _, C_12.trans (X_1.returnOut hx Bd.returns (hb hby d3_5) hr), hrun, hended, _, _, rfl, ?_, ?_, hRE.1, hRE.2.1, hRE.2.2.1, hRE.2.2.2.mono (by decide) (by decide)⟩
  · show Q_ex0 Z G1 kC uS sS d r h0 n0 (none) T_1.heap _
    exact ⟨rfl, N_7, K_13, g_4, g_5, g_6⟩
  · show CHr Z consts_1 s.vm s.heap T_1.vm T_1.heap
    rw [hh]
    exact CR_9.trans (CHv.at X_1 hZ_1 hEL CH_8)
theorem ef_85 (m : MethodId) (x0 : Addr) : entryFrame m #[(.ref x0), .null] 2 = mkF m 0 #[.val (.ref x0), .val .null] [] := by first | (simp [entryFrame, mkF, argsToLocals, Value.category]; done) | rfl
abbrev R_thi0 : Room := { frames := 3, cells := 1, slots := 2752, locals := 42 }
def Q_thi0 (Z : State) (G1 : Int32) (kC : Addr) (uS : Value) (sS : Value) (d : Addr) (h0 : Heap) (n0 : Nat) (v : Option Value) (h : Heap) (L : List Loc) : Prop := (v = none ∧ Fr n0 L ∧ Keep h0 h [d] ∧ (Exa Z h d "com/example/manque/manque/Declined") ∧ (Fld Z h d "com/example/manque/manque/Declined" "kind" "Lcom/example/manque/manque/Declined$Kind;" .null) ∧ (Fld Z h d "java/lang/Throwable" "detailMessage" "Ljava/lang/String;" .null))
set_option maxRecDepth 65536 in
set_option maxHeartbeats 40000000 in
theorem rm_thi0 (l : Launch) (Z : State) (a0 : Array Value) (hw : ∀ d ∈ tables_1, d.before a0 Z = true) (ws : List Jvm.Cond) (G1 : Int32) (kC : Addr) (uS : Value) (sS : Value) (HG : own_G l Z a0 G1 kC uS sS) (h0 : Heap) (n0 : Nat) (X00 : Old Z n0 h0) (d : Addr) (hp0 : Exa Z h0 d "com/example/manque/manque/Declined") (hp1 : Unt h0 d) (hp2 : Fld Z h0 d "com/example/manque/manque/Declined" "kind" "Lcom/example/manque/manque/Declined$Kind;" .null) (hp3 : Fld Z h0 d "java/lang/Throwable" "cause" "Ljava/lang/Throwable;" .null) (hp4 : Fld Z h0 d "java/lang/Throwable" "stackTrace" "[Ljava/lang/StackTraceElement;" .null) (hp5 : Fld Z h0 d "java/lang/Throwable" "suppressedExceptions" "Ljava/util/List;" .null) (hp6 : Fld Z h0 d "java/lang/Throwable" "backtrace" "Ljava/lang/Object;" .null) (hp7 : Fld Z h0 d "java/lang/Throwable" "detailMessage" "Ljava/lang/String;" .null) (hp8 : n0 ≤ d) :
    own_CK l Z M40 jdk_78_method_2_code 2 none ws R_thi0 #[(.ref d), .null] h0 (Q_thi0 Z G1 kC uS sS d h0 n0) := by
  refine own_K (plainFor_of_name pn_41) ?_
  intro p e s m below meth c s₁ S0 Bd hZ hh CH0 hS0 CR0 hTK0 hBL0 hx hby hml hown hnm X0 e0 hS0d
  obtain ⟨O1, P1, O2, E2, F2, hLT, OU, rU, OS, rS⟩ := id HG
  have hEL := own_EL hw
  have hSA := own_SA hw
  have N0 := Fr.nil n0
  have C0 : Steps p.tables e below S0 (s₁.setTop (mkF m 0 #[.val (.ref d), .val .null] [])) := by rw [hS0d]; exact castTop (ef_85 m d) (Steps.refl _)
  obtain ⟨T_1, X_2, e_3, st_4⟩ := initO X0 hx hZ hown (w57 hw) (w16 hw) (w17 hw) e0 (g := (mkF m 1 #[.val (.ref d), .val .null] [(.ref d)])) rfl (by rw [hml]; rfl) rfl (hb hby d2_1) (by decide) (W := 0) (by show 2 * 0 + _ ≤ _; exact Nat.le_of_eq rfl) (by decide)
  obtain ⟨T_5, h_6, X_7, e_8, W_9, st_10⟩ := putF X_2 hx hZ hown (host := "") (Or.inl (w58 hw)) Via.refl e_3 hp3 hp0 (Or.inl (w59 hw)) (w39 hw) (ty := (.object "java/lang/Throwable")) (by decide) rfl rfl (g := (mkF m 6 #[.val (.ref d), .val .null] [(.ref d), (.ref d)])) rfl rfl (hb hby d2_6)
  have N_11 := Fr.snoc X_7 N0 hp8
  have CH_12 : CHv Z consts_1 s.vm h_6 := CHv.wr W_9 (Safe.exa hZ.alike hp0 (by decide) (by decide)) CH0
  have CR_13 : CHr Z consts_1 s.vm h0 s.vm h_6 := CR0.trans (CHr.wr W_9 (Safe.exa hZ.alike hp0 (by decide) (by decide)) CH0)
  have F_14 : Fld Z h_6 d "java/lang/Throwable" "cause" "Ljava/lang/Throwable;" (.ref d) := hp3.same W_9
  have O_19 : Old Z n0 h_6 := (X00.wr W_9 hp8)
  obtain ⟨T_15, X_16, e_17, st_18⟩ := getS X_7 hx hZ (host := "") hown (w60 hw) Via.refl e_8 (OU.ext O_19.2) (g := (mkF m 10 #[.val (.ref d), .val .null] [(.ref d)])) rfl (hb hby d2_10)
  have F_20 : Fld Z h_6 d "java/lang/Throwable" "stackTrace" "[Ljava/lang/StackTraceElement;" .null := (hp4.other W_9 (Or.inr (slot_ne (Or.inl (w62 hw)) (Or.inl (w59 hw)) (by decide) (t := (.array (.object "java/lang/StackTraceElement"))) (by decide) (t' := (.object "java/lang/Throwable")) (by decide))))
  have E_21 : Exa Z h_6 d "com/example/manque/manque/Declined" := (hp0.wr W_9)
  obtain ⟨T_22, h_23, X_24, e_25, W_26, st_27⟩ := putF X_16 hx hZ hown (host := "") (Or.inl (w61 hw)) Via.refl e_17 F_20 E_21 (Or.inl (w62 hw)) (w39 hw) (ty := (.array (.object "java/lang/StackTraceElement"))) (by decide) (own_narR rU) (own_fitR rU) (g := (mkF m 13 #[.val (.ref d), .val .null] [uS, (.ref d)])) rfl rfl (hb hby d2_13)
  have N_28 := Fr.snoc X_24 N_11 hp8
  have CH_29 : CHv Z consts_1 s.vm h_23 := CHv.wr W_26 (Safe.exa hZ.alike E_21 (by decide) (by decide)) CH_12
  have CR_30 : CHr Z consts_1 s.vm h0 s.vm h_23 := CR_13.trans (CHr.wr W_26 (Safe.exa hZ.alike E_21 (by decide) (by decide)) CH_12)
  have F_31 : Fld Z h_23 d "java/lang/Throwable" "stackTrace" "[Ljava/lang/StackTraceElement;" uS := F_20.same W_26
  have O_36 : Old Z n0 h_23 := (O_19.wr W_26 hp8)
  obtain ⟨T_32, X_33, e_34, st_35⟩ := getS X_24 hx hZ (host := "") hown (w63 hw) Via.refl e_25 (OS.ext O_36.2) (g := (mkF m 17 #[.val (.ref d), .val .null] [(.ref d)])) rfl (hb hby d2_17)
  have F_37 : Fld Z h_23 d "java/lang/Throwable" "suppressedExceptions" "Ljava/util/List;" .null := ((hp5.other W_9 (Or.inr (slot_ne (Or.inl (w65 hw)) (Or.inl (w59 hw)) (by decide) (t := (.object "java/util/List")) (by decide) (t' := (.object "java/lang/Throwable")) (by decide)))).other W_26 (Or.inr (slot_ne (Or.inl (w65 hw)) (Or.inl (w62 hw)) (by decide) (t := (.object "java/util/List")) (by decide) (t' := (.array (.object "java/lang/StackTraceElement"))) (by decide))))
  have E_38 : Exa Z h_23 d "com/example/manque/manque/Declined" := (E_21.wr W_26)
  obtain ⟨T_39, h_40, X_41, e_42, W_43, st_44⟩ := putF X_33 hx hZ hown (host := "") (Or.inl (w64 hw)) Via.refl e_34 F_37 E_38 (Or.inl (w65 hw)) (w39 hw) (ty := (.object "java/util/List")) (by decide) (own_narR rS) (own_fitR rS) (g := (mkF m 20 #[.val (.ref d), .val .null] [sS, (.ref d)])) rfl rfl (hb hby d2_20)
  have N_45 := Fr.snoc X_41 N_28 hp8
  have CH_46 : CHv Z consts_1 s.vm h_40 := CHv.wr W_43 (Safe.exa hZ.alike E_38 (by decide) (by decide)) CH_29
  have CR_47 : CHr Z consts_1 s.vm h0 s.vm h_40 := CR_30.trans (CHr.wr W_43 (Safe.exa hZ.alike E_38 (by decide) (by decide)) CH_29)
  have F_48 : Fld Z h_40 d "java/lang/Throwable" "suppressedExceptions" "Ljava/util/List;" sS := F_37.same W_43
  have hT_59 : ThS Z (s.setVm s.vm).heap := by show ThS Z s.heap; rw [hh]; exact ThS.ext X00.2 ThS.start
  have hz_60 : h_40.size = (s.setVm s.vm).heap.size := ((own_wrsz W_43).trans ((own_wrsz W_26).trans ((own_wrsz W_9).trans (by show h0.size = s.heap.size; rw [hh]))))
  have F_61 : Fld Z h_40 d "java/lang/Throwable" "stackTrace" "[Ljava/lang/StackTraceElement;" uS := (F_31.other W_43 (Or.inr (slot_ne (Or.inl (w62 hw)) (Or.inl (w65 hw)) (by decide) (t := (.array (.object "java/lang/StackTraceElement"))) (by decide) (t' := (.object "java/util/List")) (by decide))))
  have F_62 : Fld Z h_40 d "java/lang/Throwable" "backtrace" "Ljava/lang/Object;" .null := (((hp6.other W_9 (Or.inr (slot_ne (Or.inl (w90 hw)) (Or.inl (w59 hw)) (by decide) (t := (.object "java/lang/Object")) (by decide) (t' := (.object "java/lang/Throwable")) (by decide)))).other W_26 (Or.inr (slot_ne (Or.inl (w90 hw)) (Or.inl (w62 hw)) (by decide) (t := (.object "java/lang/Object")) (by decide) (t' := (.array (.object "java/lang/StackTraceElement"))) (by decide)))).other W_43 (Or.inr (slot_ne (Or.inl (w90 hw)) (Or.inl (w65 hw)) (by decide) (t := (.object "java/lang/Object")) (by decide) (t' := (.object "java/util/List")) (by decide))))
  have E_63 : Exa Z h_40 d "com/example/manque/manque/Declined" := (E_38.wr W_43)
  have U_64 : Unt h_40 d := (Unt.wr W_43 (Unt.wr W_26 (Unt.wr W_9 hp1)))
  have O_65 : Old Z n0 h_40 := (O_36.wr W_43 hp8)
  obtain ⟨T_49, h_50, v_51, X_52, e_53, Kp_54, E_55, U_56, M_57, st_58⟩ := own_fillL X_41 hx hLT hZ hown (own_exw_D hw) (w39 hw) hT_59 hTK0 hBL0 e_42 hz_60 (own_bases3 rfl) E_63 U_64 rU F_61 (OU.ext O_65.2) F_62 (g := (mkF m 24 #[.val (.ref d), .val .null] [(.ref d)])) rfl (by rw [hml]; rfl) rfl (hb hby d2_24) (by decide) (by show 2 * 0 + _ + _ ≤ _; decide) (by decide) (by decide)
  have N_66 := Fr.six (Z := Z) N_45 hp8
  have CH_67 : CHv Z consts_1 s.vm h_50 := CHv.keep (keep_of_kp Kp_54) (sfS (Safe.exa hZ.alike E_63 (by decide) (by decide)) sf0) CH_46
  have CR_68 : CHr Z consts_1 s.vm h0 s.vm h_50 := CR_47.trans (CHr.keep (keep_of_kp Kp_54) (sfS (Safe.exa hZ.alike E_63 (by decide) (by decide)) sf0) CH_46)
  obtain ⟨T_69, h_70, X_71, e_72, W_73, st_74⟩ := putF X_52 hx hZ hown (host := "") (Or.inl (w93 hw)) Via.refl e_53 M_57 E_55 (Or.inl (w89 hw)) (w39 hw) (ty := (.object "java/lang/String")) (by decide) rfl rfl (g := (mkF m 30 #[.val (.ref d), .val .null] [.null, (.ref d)])) rfl rfl (hb hby d2_30)
  have N_75 := Fr.snoc X_71 N_66 hp8
  have CH_76 : CHv Z consts_1 s.vm h_70 := CHv.wr W_73 (Safe.exa hZ.alike E_55 (by decide) (by decide)) CH_67
  have CR_77 : CHr Z consts_1 s.vm h0 s.vm h_70 := CR_68.trans (CHr.wr W_73 (Safe.exa hZ.alike E_55 (by decide) (by decide)) CH_67)
  have F_78 : Fld Z h_70 d "java/lang/Throwable" "detailMessage" "Ljava/lang/String;" .null := M_57.same W_73
  have C_79 : Steps p.tables e below S0 (T_69.setTop (mkF m 33 #[.val (.ref d), .val .null] [])) := by
    refine C0.trans ?_
    refine XS.aloadN X0.here hx rfl (hb hby d2_0) rfl rfl ?_
    refine st_4 _ ?_
    refine XS.aloadN X_2.here hx rfl (hb hby d2_4) rfl rfl ?_
    refine XS.aloadN X_2.here hx rfl (hb hby d2_5) rfl rfl ?_
    refine st_10 _ ?_
    refine XS.aloadN X_7.here hx rfl (hb hby d2_9) rfl rfl ?_
    refine st_18 _ ?_
    refine st_27 _ ?_
    show Steps p.tables e below (T_22.setTop (mkF m 16 #[.val (.ref d), .val .null] [])) _
    refine XS.aloadN X_24.here hx rfl (hb hby d2_16) rfl rfl ?_
    refine st_35 _ ?_
    refine st_44 _ ?_
    refine XS.aloadN X_41.here hx rfl (hb hby d2_23) rfl rfl ?_
    refine st_58 _ ?_
    refine XS.pop X_52.here hx rfl (hb hby d2_27) rfl rfl ?_
    refine XS.aloadN X_52.here hx rfl (hb hby d2_28) rfl rfl ?_
    refine XS.aloadN X_52.here hx rfl (hb hby d2_29) rfl rfl ?_
    show Steps p.tables e below (T_49.setTop (mkF m 30 #[.val (.ref d), .val .null] [.null, (.ref d)])) _
    refine st_74 _ ?_
    exact Steps.refl _
  have E_80 : Exa Z h_70 d "com/example/manque/manque/Declined" := (E_55.wr W_73)
  have F_81 : Fld Z h_70 d "com/example/manque/manque/Declined" "kind" "Lcom/example/manque/manque/Declined$Kind;" .null := ((Fld.kp Kp_54 (((hp2.other W_9 (Or.inr (slot_ne (Or.inr (w95 hw)) (Or.inl (w59 hw)) (by decide) (t := (.object "com/example/manque/manque/Declined$Kind")) (by decide) (t' := (.object "java/lang/Throwable")) (by decide)))).other W_26 (Or.inr (slot_ne (Or.inr (w95 hw)) (Or.inl (w62 hw)) (by decide) (t := (.object "com/example/manque/manque/Declined$Kind")) (by decide) (t' := (.array (.object "java/lang/StackTraceElement"))) (by decide)))).other W_43 (Or.inr (slot_ne (Or.inr (w95 hw)) (Or.inl (w65 hw)) (by decide) (t := (.object "com/example/manque/manque/Declined$Kind")) (by decide) (t' := (.object "java/util/List")) (by decide)))) (Or.inr (own_six_ne (own_exw_D hw) (Or.inr (w95 hw)) (ty := (.object "com/example/manque/manque/Declined$Kind")) (by decide) (by decide)))).other W_73 (Or.inr (slot_ne (Or.inr (w95 hw)) (Or.inl (w89 hw)) (by decide) (t := (.object "com/example/manque/manque/Declined$Kind")) (by decide) (t' := (.object "java/lang/String")) (by decide))))
  have K_82 : Keep h0 h_70 [d] := ((((((Keep.refl _ _).wr W_9 (Or.inl (List.mem_of_getElem? (i := 0) rfl))).wr W_26 (Or.inl (List.mem_of_getElem? (i := 0) rfl))).wr W_43 (Or.inl (List.mem_of_getElem? (i := 0) rfl))).trans (keep_of_kp Kp_54) (allS (Or.inl (List.mem_of_getElem? (i := 0) rfl)) all0)).wr W_73 (Or.inl (List.mem_of_getElem? (i := 0) rfl)))
  obtain ⟨fs, hr, hrun, hended, hRE⟩ := X_71.leaveW hS0 (by rw [show T_69.heap = h_70 from e_72]; exact (Nat.le_trans (Nat.le_refl _) (Nat.le_trans (Nat.le_trans (Nat.le_trans (Nat.le_trans (Keep.of_wr W_9).1 (Keep.of_wr W_26).1) (Keep.of_wr W_43).1) Kp_54.1) (Keep.of_wr W_73).1))) (v := none) (fun _ => rfl)
  refine ⟨_, _, C_79.trans (X_71.returnOut hx Bd.returns (hb hby d2_33) hr), hrun, hended, _, _, rfl, ?_, ?_, hRE.1, hRE.2.1, hRE.2.2.1, hRE.2.2.2.mono (by decide) (by decide)⟩
  · show Q_thi0 Z G1 kC uS sS d h0 n0 (none) T_69.heap _
    rw [e_72]
    exact ⟨rfl, N_75, K_82, E_80, F_81, F_78⟩
  · show CHr Z consts_1 s.vm s.heap T_69.vm T_69.heap
    rw [hh, show T_69.heap = h_70 from e_72]
    exact CR_77.trans (CHv.at X_71 hZ hEL CH_76)
abbrev R_ex00 : Room := { frames := 4, cells := 1, slots := 2752, locals := 55 }
def Q_ex00 (Z : State) (G1 : Int32) (kC : Addr) (uS : Value) (sS : Value) (d : Addr) (h0 : Heap) (n0 : Nat) (v : Option Value) (h : Heap) (L : List Loc) : Prop := (v = none ∧ Fr n0 L ∧ Keep h0 h [d] ∧ (Exa Z h d "com/example/manque/manque/Declined") ∧ (Fld Z h d "com/example/manque/manque/Declined" "kind" "Lcom/example/manque/manque/Declined$Kind;" .null) ∧ (Fld Z h d "java/lang/Throwable" "detailMessage" "Ljava/lang/String;" .null))
set_option maxRecDepth 65536 in
set_option maxHeartbeats 40000000 in
theorem rm_ex00 (l : Launch) (Z : State) (a0 : Array Value) (hw : ∀ d ∈ tables_1, d.before a0 Z = true) (ws : List Jvm.Cond) (G1 : Int32) (kC : Addr) (uS : Value) (sS : Value) (HG : own_G l Z a0 G1 kC uS sS) (h0 : Heap) (n0 : Nat) (X00 : Old Z n0 h0) (d : Addr) (hp0 : Exa Z h0 d "com/example/manque/manque/Declined") (hp1 : Unt h0 d) (hp2 : Fld Z h0 d "com/example/manque/manque/Declined" "kind" "Lcom/example/manque/manque/Declined$Kind;" .null) (hp3 : Fld Z h0 d "java/lang/Throwable" "cause" "Ljava/lang/Throwable;" .null) (hp4 : Fld Z h0 d "java/lang/Throwable" "stackTrace" "[Ljava/lang/StackTraceElement;" .null) (hp5 : Fld Z h0 d "java/lang/Throwable" "suppressedExceptions" "Ljava/util/List;" .null) (hp6 : Fld Z h0 d "java/lang/Throwable" "backtrace" "Ljava/lang/Object;" .null) (hp7 : Fld Z h0 d "java/lang/Throwable" "detailMessage" "Ljava/lang/String;" .null) (hp8 : n0 ≤ d) :
    own_CK l Z M74 jdk_59_method_2_code 2 none ws R_ex00 #[(.ref d), .null] h0 (Q_ex00 Z G1 kC uS sS d h0 n0) := by
  refine own_K (plainFor_of_name pn_75) ?_
  intro p e s m below meth c s₁ S0 Bd hZ hh CH0 hS0 CR0 hTK0 hBL0 hx hby hml hown hnm X0 e0 hS0d
  obtain ⟨O1, P1, O2, E2, F2, hLT, OU, rU, OS, rS⟩ := id HG
  have hEL := own_EL hw
  have hSA := own_SA hw
  have N0 := Fr.nil n0
  have C0 : Steps p.tables e below S0 (s₁.setTop (mkF m 0 #[.val (.ref d), .val .null] [])) := by rw [hS0d]; exact castTop (ef_85 m d) (Steps.refl _)
  obtain ⟨_, _, ⟨T_1, L_1, k_1, n_1⟩, -, Y_1, S_1, G_1, ⟨Lc_1, hQ_1, l_1, y_1, z_1, R_1⟩, st_1⟩ := X0.specialBackS hx (y := M40) rfl hown (mvT hZ (w51 hw)) (mvT hZ (w52 hw)) (mvT hZ (w56 hw)) (by decide) (backOfSKH (vm0 := s.vm) (W := 0) (rm_thi0 l Z a0 hw [] G1 kC uS sS HG h0 n0 X00 d hp0 hp1 hp2 hp3 hp4 hp5 hp6 hp7 hp8) hZ (w56 hw) (w55 hw) (by decide) (by decide) hEL CH0 hTK0 hBL0) (g := (mkF m 2 #[.val (.ref d), .val .null] [.null, (.ref d)])) rfl (by rw [hml]; rfl) (Steps.refl _) (a := d) (argsL := [.null]) (rest := []) (lenOf pd_80 rfl) rfl (by show 2 * 0 + _ ≤ _; exact Nat.le_of_eq rfl) (hb hby d3_2) (fun _ _ => ⟨rfl, e0, (by decide : 0 + 1 ≤ _), (by decide : 0 + 2752 ≤ _)⟩)
  dsimp only [Pt.U, Pt.locs, Pt.cells, Pt.slots] at Y_1 S_1 G_1 l_1 y_1 z_1 st_1 hQ_1 R_1
  subst l_1 y_1 z_1
  obtain ⟨X_1, hS_1, hZ_1, hown_1⟩ := rebS hS0 (n1 := s₁.heap.size) (by rw [show s₁.heap = h0 from e0]; exact (Nat.le_refl _)) Y_1 S_1 G_1 hZ hown
  obtain ⟨rfl, N_2, K_3, g_4, g_5, g_6⟩ := hQ_1
  have N_7 := Fr.app N0 N_2
  have CH_8 : CHv Z consts_1 T_1.vm T_1.heap := R_1.1
  have CR_9 : CHr Z consts_1 s.vm h0 T_1.vm T_1.heap := CR0.trans R_1
  have hTK_10 : (s.setVm T_1.vm).vm.MethodsKnown := Vm.MethodsKnown.alikeC (hS_1.1.alike) hTK0
  have hBL_11 : (s.setVm T_1.vm).vm.FramesKnown below := Vm.FramesKnown.alikeC (hS_1.1.alike) hBL0
  have C_12 : Steps p.tables e below S0 (T_1.setTop (mkF m 5 #[.val (.ref d), .val .null] [])) := by
    refine C0.trans ?_
    refine XS.aloadN X0.here hx rfl (hb hby d3_0) rfl rfl ?_
    refine XS.aloadN X0.here hx rfl (hb hby d3_1) rfl rfl ?_
    refine st_1.trans ?_
    exact Steps.refl _
  have K_13 : Keep h0 T_1.heap [d] := ((Keep.refl _ _).trans K_3 (allS (Or.inl (List.mem_of_getElem? (i := 0) rfl)) all0))
  obtain ⟨fs, hr, hrun, hended, hRE⟩ := X_1.leaveW hS_1 (by rw [show T_1.heap = T_1.heap from rfl]; exact (Nat.le_refl _)) (v := none) (fun _ => rfl)
  refine ⟨_, _, C_12.trans (X_1.returnOut hx Bd.returns (hb hby d3_5) hr), hrun, hended, _, _, rfl, ?_, ?_, hRE.1, hRE.2.1, hRE.2.2.1, hRE.2.2.2.mono (by decide) (by decide)⟩
  · show Q_ex00 Z G1 kC uS sS d h0 n0 (none) T_1.heap _
    exact ⟨rfl, N_7, K_13, g_4, g_5, g_6⟩
  · show CHr Z consts_1 s.vm s.heap T_1.vm T_1.heap
    rw [hh]
    exact CR_9.trans (CHv.at X_1 hZ_1 hEL CH_8)
abbrev M86 : MethodName := ⟨"com/example/manque/manque/Declined", "<init>", "(Lcom/example/manque/manque/Declined$Kind;Ljava/lang/String;)V"⟩
theorem ef_87 (m : MethodId) (x0 : Addr) (x1 : Addr) (x2 : Addr) : entryFrame m #[(.ref x0), (.ref x1), (.ref x2)] 3 = mkF m 0 #[.val (.ref x0), .val (.ref x1), .val (.ref x2)] [] := by first | (simp [entryFrame, mkF, argsToLocals, Value.category]; done) | rfl
theorem pn_88 : plainName "com/example/manque/manque/Declined" = true := by first | (simp [plainName, overriddenIn]; done) | decide +kernel
theorem d4_0 : decode prog_1_method_1_code 0 = .ok (.aload_n 0, 1) := by decide +kernel
theorem d4_1 : decode prog_1_method_1_code 1 = .ok (.aload_n 2, 1) := by decide +kernel
theorem w50 {Z : State} {a0 : Array Value} (hw : ∀ d ∈ tables_1, d.before a0 Z = true) : Jvm.Cond.before (Jvm.Cond.code ({ cls := "java/lang/Exception", name := "<init>", desc := "(Ljava/lang/String;)V" } : Jvm.MethodName) jdk_59_method_2_code (2 : Nat) (Option.none : Option Jvm.ClassFile.FieldType)) a0 Z = true := hw _ (List.mem_of_getElem? (i := 50) rfl)
theorem w49 {Z : State} {a0 : Array Value} (hw : ∀ d ∈ tables_1, d.before a0 Z = true) : Jvm.Cond.before (Jvm.Cond.initialized "java/lang/Exception") a0 Z = true := hw _ (List.mem_of_getElem? (i := 49) rfl)
theorem d4_2 : decode prog_1_method_1_code 2 = .ok (.invokespecial 1, 3) := by decide +kernel
theorem w46 {Z : State} {a0 : Array Value} (hw : ∀ d ∈ tables_1, d.before a0 Z = true) : Jvm.Cond.before (Jvm.Cond.methodLink "com/example/manque/manque/Declined" (1 : Nat) ({ cls := "java/lang/Exception", name := "<init>", desc := "(Ljava/lang/String;)V" } : Jvm.MethodName)) a0 Z = true := hw _ (List.mem_of_getElem? (i := 46) rfl)
theorem w47 {Z : State} {a0 : Array Value} (hw : ∀ d ∈ tables_1, d.before a0 Z = true) : Jvm.Cond.before (Jvm.Cond.instanceMethod ({ cls := "java/lang/Exception", name := "<init>", desc := "(Ljava/lang/String;)V" } : Jvm.MethodName)) a0 Z = true := hw _ (List.mem_of_getElem? (i := 47) rfl)
theorem d4_5 : decode prog_1_method_1_code 5 = .ok (.aload_n 0, 1) := by decide +kernel
theorem d4_6 : decode prog_1_method_1_code 6 = .ok (.aload_n 1, 1) := by decide +kernel
theorem w94 {Z : State} {a0 : Array Value} (hw : ∀ d ∈ tables_1, d.before a0 Z = true) : Jvm.Cond.before (Jvm.Cond.fieldLink "com/example/manque/manque/Declined" (7 : Nat) "com/example/manque/manque/Declined" "kind" "Lcom/example/manque/manque/Declined$Kind;") a0 Z = true := hw _ (List.mem_of_getElem? (i := 94) rfl)
theorem d4_7 : decode prog_1_method_1_code 7 = .ok (.putfield 7, 3) := by decide +kernel
theorem d4_10 : decode prog_1_method_1_code 10 = .ok (.return_, 1) := by decide +kernel
abbrev R_dinit : Room := { frames := 5, cells := 1, slots := 2752, locals := 68 }
def Q_dinit (Z : State) (G1 : Int32) (kC : Addr) (uS : Value) (sS : Value) (d : Addr) (r : Addr) (h0 : Heap) (n0 : Nat) (v : Option Value) (h : Heap) (L : List Loc) : Prop := (v = none ∧ Fr n0 L ∧ Keep h0 h [d] ∧ (Exa Z h d "com/example/manque/manque/Declined") ∧ (Fld Z h d "com/example/manque/manque/Declined" "kind" "Lcom/example/manque/manque/Declined$Kind;" (.ref kC)) ∧ (Fld Z h d "java/lang/Throwable" "detailMessage" "Ljava/lang/String;" (.ref r)))
set_option maxRecDepth 65536 in
set_option maxHeartbeats 40000000 in
theorem rm_dinit (l : Launch) (Z : State) (a0 : Array Value) (hw : ∀ d ∈ tables_1, d.before a0 Z = true) (ws : List Jvm.Cond) (G1 : Int32) (kC : Addr) (uS : Value) (sS : Value) (HG : own_G l Z a0 G1 kC uS sS) (h0 : Heap) (n0 : Nat) (X00 : Old Z n0 h0) (d : Addr) (r : Addr) (hp0 : Exa Z h0 d "com/example/manque/manque/Declined") (hp1 : Unt h0 d) (hp2 : Fld Z h0 d "com/example/manque/manque/Declined" "kind" "Lcom/example/manque/manque/Declined$Kind;" .null) (hp3 : Fld Z h0 d "java/lang/Throwable" "cause" "Ljava/lang/Throwable;" .null) (hp4 : Fld Z h0 d "java/lang/Throwable" "stackTrace" "[Ljava/lang/StackTraceElement;" .null) (hp5 : Fld Z h0 d "java/lang/Throwable" "suppressedExceptions" "Ljava/util/List;" .null) (hp6 : Fld Z h0 d "java/lang/Throwable" "backtrace" "Ljava/lang/Object;" .null) (hp7 : Fld Z h0 d "java/lang/Throwable" "detailMessage" "Ljava/lang/String;" .null) (hp8 : n0 ≤ d) :
    own_CK l Z M86 prog_1_method_1_code 3 none ws R_dinit #[(.ref d), (.ref kC), (.ref r)] h0 (Q_dinit Z G1 kC uS sS d r h0 n0) := by
  refine own_K (plainFor_of_name pn_88) ?_
  intro p e s m below meth c s₁ S0 Bd hZ hh CH0 hS0 CR0 hTK0 hBL0 hx hby hml hown hnm X0 e0 hS0d
  obtain ⟨O1, P1, O2, E2, F2, hLT, OU, rU, OS, rS⟩ := id HG
  have hEL := own_EL hw
  have hSA := own_SA hw
  have N0 := Fr.nil n0
  have C0 : Steps p.tables e below S0 (s₁.setTop (mkF m 0 #[.val (.ref d), .val (.ref kC), .val (.ref r)] [])) := by rw [hS0d]; exact castTop (ef_87 m d kC r) (Steps.refl _)
  obtain ⟨_, _, ⟨T_1, L_1, k_1, n_1⟩, -, Y_1, S_1, G_1, ⟨Lc_1, hQ_1, l_1, y_1, z_1, R_1⟩, st_1⟩ := X0.specialBackS hx (y := M74) rfl hown (mvT hZ (w46 hw)) (mvT hZ (w47 hw)) (mvT hZ (w50 hw)) (by decide) (backOfSKH (vm0 := s.vm) (W := 0) (rm_ex0 l Z a0 hw [] G1 kC uS sS HG h0 n0 X00 d r hp0 hp1 hp2 hp3 hp4 hp5 hp6 hp7 hp8) hZ (w50 hw) (w49 hw) (by decide) (by decide) hEL CH0 hTK0 hBL0) (g := (mkF m 2 #[.val (.ref d), .val (.ref kC), .val (.ref r)] [(.ref r), (.ref d)])) rfl (by rw [hml]; rfl) (Steps.refl _) (a := d) (argsL := [(.ref r)]) (rest := []) (lenOf pd_80 rfl) rfl (by show 2 * 0 + _ ≤ _; exact Nat.le_of_eq rfl) (hb hby d4_2) (fun _ _ => ⟨rfl, e0, (by decide : 0 + 1 ≤ _), (by decide : 0 + 2752 ≤ _)⟩)
  dsimp only [Pt.U, Pt.locs, Pt.cells, Pt.slots] at Y_1 S_1 G_1 l_1 y_1 z_1 st_1 hQ_1 R_1
  subst l_1 y_1 z_1
  obtain ⟨X_1, hS_1, hZ_1, hown_1⟩ := rebS hS0 (n1 := s₁.heap.size) (by rw [show s₁.heap = h0 from e0]; exact (Nat.le_refl _)) Y_1 S_1 G_1 hZ hown
  obtain ⟨rfl, N_2, K_3, g_4, g_5, g_6⟩ := hQ_1
  have N_7 := Fr.app N0 N_2
  have CH_8 : CHv Z consts_1 T_1.vm T_1.heap := R_1.1
  have CR_9 : CHr Z consts_1 s.vm h0 T_1.vm T_1.heap := CR0.trans R_1
  have hTK_10 : (s.setVm T_1.vm).vm.MethodsKnown := Vm.MethodsKnown.alikeC (hS_1.1.alike) hTK0
  have hBL_11 : (s.setVm T_1.vm).vm.FramesKnown below := Vm.FramesKnown.alikeC (hS_1.1.alike) hBL0
  obtain ⟨T_12, h_13, X_14, e_15, W_16, st_17⟩ := putF X_1 hx hZ_1 hown_1 (host := "") (Or.inl (w94 hw)) Via.refl rfl g_5 g_4 (Or.inr ⟨(w95 hw), rfl, hnm⟩) (w39 hw) (ty := (.object "com/example/manque/manque/Declined$Kind")) (by decide) rfl rfl (g := (mkF m 7 #[.val (.ref d), .val (.ref kC), .val (.ref r)] [(.ref kC), (.ref d)])) rfl rfl (hb hby d4_7)
  have N_18 := Fr.snoc X_14 N_7 hp8
  have CH_19 : CHv Z consts_1 T_1.vm h_13 := CHv.wr W_16 (Safe.exa hZ_1.alike g_4 (by decide) (by decide)) CH_8
  have CR_20 : CHr Z consts_1 s.vm h0 T_1.vm h_13 := CR_9.trans (CHr.wr W_16 (Safe.exa hZ_1.alike g_4 (by decide) (by decide)) CH_8)
  have F_21 : Fld Z h_13 d "com/example/manque/manque/Declined" "kind" "Lcom/example/manque/manque/Declined$Kind;" (.ref kC) := g_5.same W_16
  have C_22 : Steps p.tables e below S0 (T_12.setTop (mkF m 10 #[.val (.ref d), .val (.ref kC), .val (.ref r)] [])) := by
    refine C0.trans ?_
    refine XS.aloadN X0.here hx rfl (hb hby d4_0) rfl rfl ?_
    refine XS.aloadN X0.here hx rfl (hb hby d4_1) rfl rfl ?_
    refine st_1.trans ?_
    refine XS.aloadN X_1.here hx rfl (hb hby d4_5) rfl rfl ?_
    refine XS.aloadN X_1.here hx rfl (hb hby d4_6) rfl rfl ?_
    refine st_17 _ ?_
    exact Steps.refl _
  have E_23 : Exa Z h_13 d "com/example/manque/manque/Declined" := (g_4.wr W_16)
  have F_24 : Fld Z h_13 d "java/lang/Throwable" "detailMessage" "Ljava/lang/String;" (.ref r) := (g_6.other W_16 (Or.inr (slot_ne (Or.inl (w89 hw)) (Or.inr (w95 hw)) (by decide) (t := (.object "java/lang/String")) (by decide) (t' := (.object "com/example/manque/manque/Declined$Kind")) (by decide))))
  have K_25 : Keep h0 h_13 [d] := (((Keep.refl _ _).trans K_3 (allS (Or.inl (List.mem_of_getElem? (i := 0) rfl)) all0)).wr W_16 (Or.inl (List.mem_of_getElem? (i := 0) rfl)))
  obtain ⟨fs, hr, hrun, hended, hRE⟩ := X_14.leaveW hS_1 (by rw [show T_12.heap = h_13 from e_15]; exact (Nat.le_trans (Nat.le_refl _) (Keep.of_wr W_16).1)) (v := none) (fun _ => rfl)
  refine ⟨_, _, C_22.trans (X_14.returnOut hx Bd.returns (hb hby d4_10) hr), hrun, hended, _, _, rfl, ?_, ?_, hRE.1, hRE.2.1, hRE.2.2.1, hRE.2.2.2.mono (by decide) (by decide)⟩
  · show Q_dinit Z G1 kC uS sS d r h0 n0 (none) T_12.heap _
    rw [e_15]
    exact ⟨rfl, N_18, K_25, E_23, F_21, F_24⟩
  · show CHr Z consts_1 s.vm s.heap T_12.vm T_12.heap
    rw [hh, show T_12.heap = h_13 from e_15]
    exact CR_20.trans (CHv.at X_14 hZ_1 hEL CH_19)
abbrev M101 : MethodName := ⟨"com/example/manque/manque/Declined", "conflict", "(Ljava/lang/String;)Lcom/example/manque/manque/Declined;"⟩
theorem ef_102 (m : MethodId) (x0 : Addr) : entryFrame m #[(.ref x0)] 1 = mkF m 0 #[.val (.ref x0)] [] := by first | (simp [entryFrame, mkF, argsToLocals, Value.category]; done) | rfl
theorem w38 {Z : State} {a0 : Array Value} (hw : ∀ d ∈ tables_1, d.before a0 Z = true) : Jvm.Cond.before (Jvm.Cond.classLink "com/example/manque/manque/Declined" (8 : Nat) "com/example/manque/manque/Declined") a0 Z = true := hw _ (List.mem_of_getElem? (i := 38) rfl)
theorem w36 {Z : State} {a0 : Array Value} (hw : ∀ d ∈ tables_1, d.before a0 Z = true) : Jvm.Cond.before (Jvm.Cond.initialized "com/example/manque/manque/Declined") a0 Z = true := hw _ (List.mem_of_getElem? (i := 36) rfl)
theorem d5_0 : decode prog_1_method_3_code 0 = .ok (.new 8, 3) := by decide +kernel
theorem w91 {Z : State} {a0 : Array Value} (hw : ∀ d ∈ tables_1, d.before a0 Z = true) : Jvm.Cond.before (Jvm.Cond.lays "com/example/manque/manque/Declined" "java/lang/Throwable" "depth" "I") a0 Z = true := hw _ (List.mem_of_getElem? (i := 91) rfl)
theorem d5_3 : decode prog_1_method_3_code 3 = .ok (.dup, 1) := by decide +kernel
theorem w40 {Z : State} {a0 : Array Value} (hw : ∀ d ∈ tables_1, d.before a0 Z = true) : Jvm.Cond.before (Jvm.Cond.fieldLink "com/example/manque/manque/Declined" (21 : Nat) "com/example/manque/manque/Declined$Kind" "CONFLICT" "Lcom/example/manque/manque/Declined$Kind;") a0 Z = true := hw _ (List.mem_of_getElem? (i := 40) rfl)
theorem d5_4 : decode prog_1_method_3_code 4 = .ok (.getstatic 21, 3) := by decide +kernel
theorem d5_7 : decode prog_1_method_3_code 7 = .ok (.aload_n 0, 1) := by decide +kernel
theorem w45 {Z : State} {a0 : Array Value} (hw : ∀ d ∈ tables_1, d.before a0 Z = true) : Jvm.Cond.before (Jvm.Cond.code ({ cls := "com/example/manque/manque/Declined", name := "<init>", desc := "(Lcom/example/manque/manque/Declined$Kind;Ljava/lang/String;)V" } : Jvm.MethodName) prog_1_method_1_code (3 : Nat) (Option.none : Option Jvm.ClassFile.FieldType)) a0 Z = true := hw _ (List.mem_of_getElem? (i := 45) rfl)
theorem pd_112 : parseMethodDescriptor "(Lcom/example/manque/manque/Declined$Kind;Ljava/lang/String;)V" = some ⟨[(.object "com/example/manque/manque/Declined$Kind"), (.object "java/lang/String")], none⟩ := by decide +kernel
theorem d5_8 : decode prog_1_method_3_code 8 = .ok (.invokespecial 18, 3) := by decide +kernel
theorem w43 {Z : State} {a0 : Array Value} (hw : ∀ d ∈ tables_1, d.before a0 Z = true) : Jvm.Cond.before (Jvm.Cond.methodLink "com/example/manque/manque/Declined" (18 : Nat) ({ cls := "com/example/manque/manque/Declined", name := "<init>", desc := "(Lcom/example/manque/manque/Declined$Kind;Ljava/lang/String;)V" } : Jvm.MethodName)) a0 Z = true := hw _ (List.mem_of_getElem? (i := 43) rfl)
theorem w44 {Z : State} {a0 : Array Value} (hw : ∀ d ∈ tables_1, d.before a0 Z = true) : Jvm.Cond.before (Jvm.Cond.instanceMethod ({ cls := "com/example/manque/manque/Declined", name := "<init>", desc := "(Lcom/example/manque/manque/Declined$Kind;Ljava/lang/String;)V" } : Jvm.MethodName)) a0 Z = true := hw _ (List.mem_of_getElem? (i := 44) rfl)
theorem d5_11 : decode prog_1_method_3_code 11 = .ok (.areturn, 1) := by decide +kernel
abbrev R_mk : Room := { frames := 6, cells := 2, slots := 2759, locals := 83 }
def Q_mk (Z : State) (G1 : Int32) (kC : Addr) (uS : Value) (sS : Value) (r : Addr) (h0 : Heap) (n0 : Nat) (v : Option Value) (h : Heap) (L : List Loc) : Prop := (∃ d : Addr, v = some (.ref d) ∧ Fr n0 L ∧ Keep h0 h [] ∧ (h0.size ≤ d) ∧ (Exa Z h d "com/example/manque/manque/Declined") ∧ (Fld Z h d "com/example/manque/manque/Declined" "kind" "Lcom/example/manque/manque/Declined$Kind;" (.ref kC)) ∧ (Fld Z h d "java/lang/Throwable" "detailMessage" "Ljava/lang/String;" (.ref r)))
set_option maxRecDepth 65536 in
set_option maxHeartbeats 40000000 in
theorem rm_mk (l : Launch) (Z : State) (a0 : Array Value) (hw : ∀ d ∈ tables_1, d.before a0 Z = true) (ws : List Jvm.Cond) (G1 : Int32) (kC : Addr) (uS : Value) (sS : Value) (HG : own_G l Z a0 G1 kC uS sS) (h0 : Heap) (n0 : Nat) (X00 : Old Z n0 h0) (r : Addr)  :
    own_CK l Z M101 prog_1_method_3_code 1 (some (.object "com/example/manque/manque/Declined")) ws R_mk #[(.ref r)] h0 (Q_mk Z G1 kC uS sS r h0 n0) := by
  refine own_K (plainFor_of_name pn_88) ?_
  intro p e s m below meth c s₁ S0 Bd hZ hh CH0 hS0 CR0 hTK0 hBL0 hx hby hml hown hnm X0 e0 hS0d
  obtain ⟨O1, P1, O2, E2, F2, hLT, OU, rU, OS, rS⟩ := id HG
  have hEL := own_EL hw
  have hSA := own_SA hw
  have N0 := Fr.nil n0
  have C0 : Steps p.tables e below S0 (s₁.setTop (mkF m 0 #[.val (.ref r)] [])) := by rw [hS0d]; exact castTop (ef_102 m r) (Steps.refl _)
  obtain ⟨T_1, h_2, X_3, e_4, E_5, A_6, D_7, U_11, st_8⟩ := newO X0 hx hZ hown (w38 hw) (w39 hw) (w36 hw) e0 (g := (mkF m 0 #[.val (.ref r)] [])) rfl (hb hby d5_0) (by decide) (by decide)
  obtain ⟨a_9, g_10⟩ : ∃ z, z = h0.size := ⟨_, rfl⟩
  rw [← g_10] at A_6 D_7 st_8 U_11
  have CH_12 : CHv Z consts_1 s.vm h_2 := CHv.ext E_5 CH0
  have CR_13 : CHr Z consts_1 s.vm h0 s.vm h_2 := CR0.trans (CHr.ext E_5 CH0)
  have O_18 : Old Z n0 h_2 := (X00.ext E_5)
  obtain ⟨T_14, X_15, e_16, st_17⟩ := getS X_3 hx hZ (host := "") hown (w40 hw) Via.refl e_4 (O2.ext O_18.2) (g := (mkF m 4 #[.val (.ref r)] [(.ref a_9), (.ref a_9)])) rfl (hb hby d5_4)
  obtain ⟨_, _, ⟨T_19, L_19, k_19, n_19⟩, -, Y_19, S_19, G_19, ⟨Lc_19, hQ_19, l_19, y_19, z_19, R_19⟩, st_19⟩ := X_15.specialBackS hx (y := M86) rfl hown (mvT hZ (w43 hw)) (mvT hZ (w44 hw)) (mvT hZ (w45 hw)) (by decide) (backOfSKH (vm0 := s.vm) (W := 1) (rm_dinit l Z a0 hw [] G1 kC uS sS HG h_2 n0 O_18 a_9 r A_6 U_11 (D_7 (Or.inr (w95 hw)) (ty := (.object "com/example/manque/manque/Declined$Kind")) (by decide)) (D_7 (Or.inl (w59 hw)) (ty := (.object "java/lang/Throwable")) (by decide)) (D_7 (Or.inl (w62 hw)) (ty := (.array (.object "java/lang/StackTraceElement"))) (by decide)) (D_7 (Or.inl (w65 hw)) (ty := (.object "java/util/List")) (by decide)) (D_7 (Or.inl (w90 hw)) (ty := (.object "java/lang/Object")) (by decide)) (D_7 (Or.inl (w89 hw)) (ty := (.object "java/lang/String")) (by decide)) (Nat.le_trans (own_n0 X00) (Nat.le_of_eq g_10.symm))) hZ (w45 hw) (w36 hw) (by decide) (by decide) hEL CH_12 hTK0 hBL0) (g := (mkF m 8 #[.val (.ref r)] [(.ref r), (.ref kC), (.ref a_9), (.ref a_9)])) rfl (by rw [hml]; rfl) (Steps.refl _) (a := a_9) (argsL := [(.ref kC), (.ref r)]) (rest := [(.ref a_9)]) (lenOf pd_112 rfl) rfl (by show 2 * 0 + _ ≤ _; exact Nat.le_of_eq rfl) (hb hby d5_8) (fun _ _ => ⟨rfl, e_16, (by decide : 1 + 1 ≤ _), (by decide : 7 + 2752 ≤ _)⟩)
  dsimp only [Pt.U, Pt.locs, Pt.cells, Pt.slots] at Y_19 S_19 G_19 l_19 y_19 z_19 st_19 hQ_19 R_19
  subst l_19 y_19 z_19
  obtain ⟨X_19, hS_19, hZ_19, hown_19⟩ := rebS hS0 (n1 := T_14.heap.size) (by rw [show T_14.heap = h_2 from e_16]; exact (Nat.le_trans (Nat.le_refl _) E_5.1)) Y_19 S_19 G_19 hZ hown
  obtain ⟨rfl, N_20, K_21, g_22, g_23, g_24⟩ := hQ_19
  have N_25 := Fr.app N0 N_20
  have CH_26 : CHv Z consts_1 T_19.vm T_19.heap := R_19.1
  have CR_27 : CHr Z consts_1 s.vm h0 T_19.vm T_19.heap := CR_13.trans R_19
  have hTK_28 : (s.setVm T_19.vm).vm.MethodsKnown := Vm.MethodsKnown.alikeC (hS_19.1.alike) hTK0
  have hBL_29 : (s.setVm T_19.vm).vm.FramesKnown below := Vm.FramesKnown.alikeC (hS_19.1.alike) hBL0
  have C_30 : Steps p.tables e below S0 (T_19.setTop (mkF m 11 #[.val (.ref r)] [(.ref a_9)])) := by
    refine C0.trans ?_
    refine st_8 _ ?_
    refine XS.dup X_3.here hx rfl (hb hby d5_3) rfl rfl ?_
    refine st_17 _ ?_
    refine XS.aloadN X_15.here hx rfl (hb hby d5_7) rfl rfl ?_
    refine st_19.trans ?_
    exact Steps.refl _
  have K_31 : Keep h0 T_19.heap [] := (((Keep.refl _ _).ext E_5).trans K_21 (allS (Or.inr (Nat.le_trans (Nat.le_refl _) (Nat.le_of_eq g_10.symm))) all0))
  obtain ⟨fs, hr, hrun, hended, hRE⟩ := X_19.leaveW hS_19 (by rw [show T_19.heap = T_19.heap from rfl]; exact (Nat.le_refl _)) (v := some (.ref a_9)) (fun h => by rw [Bd.returns] at h; cases h)
  refine ⟨_, _, C_30.trans (retOut X_19 hx Bd.returns rfl (Or.inr (Or.inr (Or.inr (Or.inr ⟨rfl, rfl, rfl⟩)))) (hb hby d5_11) hr), hrun, hended, _, _, rfl, ?_, ?_, hRE.1, hRE.2.1, hRE.2.2.1, hRE.2.2.2.mono (by decide) (by decide)⟩
  · show Q_mk Z G1 kC uS sS r h0 n0 (some (.ref a_9)) T_19.heap _
    exact ⟨a_9, rfl, N_25, K_31, (Nat.le_trans (Nat.le_refl _) (Nat.le_of_eq g_10.symm)), g_22, g_23, g_24⟩
  · show CHr Z consts_1 s.vm s.heap T_19.vm T_19.heap
    rw [hh]
    exact CR_27.trans (CHv.at X_19 hZ_19 hEL CH_26)
theorem ef_117 (m : MethodId) (x0 : Addr) (x1 : Addr) : entryFrame m #[(.ref x0), (.ref x1), .null] 3 = mkF m 0 #[.val (.ref x0), .val (.ref x1), .val .null] [] := by first | (simp [entryFrame, mkF, argsToLocals, Value.category]; done) | rfl
abbrev R_dinit0 : Room := { frames := 5, cells := 1, slots := 2752, locals := 68 }
def Q_dinit0 (Z : State) (G1 : Int32) (kC : Addr) (uS : Value) (sS : Value) (d : Addr) (h0 : Heap) (n0 : Nat) (v : Option Value) (h : Heap) (L : List Loc) : Prop := (v = none ∧ Fr n0 L ∧ Keep h0 h [d] ∧ (Exa Z h d "com/example/manque/manque/Declined") ∧ (Fld Z h d "com/example/manque/manque/Declined" "kind" "Lcom/example/manque/manque/Declined$Kind;" (.ref kC)) ∧ (Fld Z h d "java/lang/Throwable" "detailMessage" "Ljava/lang/String;" .null))
set_option maxRecDepth 65536 in
set_option maxHeartbeats 40000000 in
theorem rm_dinit0 (l : Launch) (Z : State) (a0 : Array Value) (hw : ∀ d ∈ tables_1, d.before a0 Z = true) (ws : List Jvm.Cond) (G1 : Int32) (kC : Addr) (uS : Value) (sS : Value) (HG : own_G l Z a0 G1 kC uS sS) (h0 : Heap) (n0 : Nat) (X00 : Old Z n0 h0) (d : Addr) (hp0 : Exa Z h0 d "com/example/manque/manque/Declined") (hp1 : Unt h0 d) (hp2 : Fld Z h0 d "com/example/manque/manque/Declined" "kind" "Lcom/example/manque/manque/Declined$Kind;" .null) (hp3 : Fld Z h0 d "java/lang/Throwable" "cause" "Ljava/lang/Throwable;" .null) (hp4 : Fld Z h0 d "java/lang/Throwable" "stackTrace" "[Ljava/lang/StackTraceElement;" .null) (hp5 : Fld Z h0 d "java/lang/Throwable" "suppressedExceptions" "Ljava/util/List;" .null) (hp6 : Fld Z h0 d "java/lang/Throwable" "backtrace" "Ljava/lang/Object;" .null) (hp7 : Fld Z h0 d "java/lang/Throwable" "detailMessage" "Ljava/lang/String;" .null) (hp8 : n0 ≤ d) :
    own_CK l Z M86 prog_1_method_1_code 3 none ws R_dinit0 #[(.ref d), (.ref kC), .null] h0 (Q_dinit0 Z G1 kC uS sS d h0 n0) := by
  refine own_K (plainFor_of_name pn_88) ?_
  intro p e s m below meth c s₁ S0 Bd hZ hh CH0 hS0 CR0 hTK0 hBL0 hx hby hml hown hnm X0 e0 hS0d
  obtain ⟨O1, P1, O2, E2, F2, hLT, OU, rU, OS, rS⟩ := id HG
  have hEL := own_EL hw
  have hSA := own_SA hw
  have N0 := Fr.nil n0
  have C0 : Steps p.tables e below S0 (s₁.setTop (mkF m 0 #[.val (.ref d), .val (.ref kC), .val .null] [])) := by rw [hS0d]; exact castTop (ef_117 m d kC) (Steps.refl _)
  obtain ⟨_, _, ⟨T_1, L_1, k_1, n_1⟩, -, Y_1, S_1, G_1, ⟨Lc_1, hQ_1, l_1, y_1, z_1, R_1⟩, st_1⟩ := X0.specialBackS hx (y := M74) rfl hown (mvT hZ (w46 hw)) (mvT hZ (w47 hw)) (mvT hZ (w50 hw)) (by decide) (backOfSKH (vm0 := s.vm) (W := 0) (rm_ex00 l Z a0 hw [] G1 kC uS sS HG h0 n0 X00 d hp0 hp1 hp2 hp3 hp4 hp5 hp6 hp7 hp8) hZ (w50 hw) (w49 hw) (by decide) (by decide) hEL CH0 hTK0 hBL0) (g := (mkF m 2 #[.val (.ref d), .val (.ref kC), .val .null] [.null, (.ref d)])) rfl (by rw [hml]; rfl) (Steps.refl _) (a := d) (argsL := [.null]) (rest := []) (lenOf pd_80 rfl) rfl (by show 2 * 0 + _ ≤ _; exact Nat.le_of_eq rfl) (hb hby d4_2) (fun _ _ => ⟨rfl, e0, (by decide : 0 + 1 ≤ _), (by decide : 0 + 2752 ≤ _)⟩)
  dsimp only [Pt.U, Pt.locs, Pt.cells, Pt.slots] at Y_1 S_1 G_1 l_1 y_1 z_1 st_1 hQ_1 R_1
  subst l_1 y_1 z_1
  obtain ⟨X_1, hS_1, hZ_1, hown_1⟩ := rebS hS0 (n1 := s₁.heap.size) (by rw [show s₁.heap = h0 from e0]; exact (Nat.le_refl _)) Y_1 S_1 G_1 hZ hown
  obtain ⟨rfl, N_2, K_3, g_4, g_5, g_6⟩ := hQ_1
  have N_7 := Fr.app N0 N_2
  have CH_8 : CHv Z consts_1 T_1.vm T_1.heap := R_1.1
  have CR_9 : CHr Z consts_1 s.vm h0 T_1.vm T_1.heap := CR0.trans R_1
  have hTK_10 : (s.setVm T_1.vm).vm.MethodsKnown := Vm.MethodsKnown.alikeC (hS_1.1.alike) hTK0
  have hBL_11 : (s.setVm T_1.vm).vm.FramesKnown below := Vm.FramesKnown.alikeC (hS_1.1.alike) hBL0
  obtain ⟨T_12, h_13, X_14, e_15, W_16, st_17⟩ := putF X_1 hx hZ_1 hown_1 (host := "") (Or.inl (w94 hw)) Via.refl rfl g_5 g_4 (Or.inr ⟨(w95 hw), rfl, hnm⟩) (w39 hw) (ty := (.object "com/example/manque/manque/Declined$Kind")) (by decide) rfl rfl (g := (mkF m 7 #[.val (.ref d), .val (.ref kC), .val .null] [(.ref kC), (.ref d)])) rfl rfl (hb hby d4_7)
  have N_18 := Fr.snoc X_14 N_7 hp8
  have CH_19 : CHv Z consts_1 T_1.vm h_13 := CHv.wr W_16 (Safe.exa hZ_1.alike g_4 (by decide) (by decide)) CH_8
  have CR_20 : CHr Z consts_1 s.vm h0 T_1.vm h_13 := CR_9.trans (CHr.wr W_16 (Safe.exa hZ_1.alike g_4 (by decide) (by decide)) CH_8)
  have F_21 : Fld Z h_13 d "com/example/manque/manque/Declined" "kind" "Lcom/example/manque/manque/Declined$Kind;" (.ref kC) := g_5.same W_16
  have C_22 : Steps p.tables e below S0 (T_12.setTop (mkF m 10 #[.val (.ref d), .val (.ref kC), .val .null] [])) := by
    refine C0.trans ?_
    refine XS.aloadN X0.here hx rfl (hb hby d4_0) rfl rfl ?_
    refine XS.aloadN X0.here hx rfl (hb hby d4_1) rfl rfl ?_
    refine st_1.trans ?_
    refine XS.aloadN X_1.here hx rfl (hb hby d4_5) rfl rfl ?_
    refine XS.aloadN X_1.here hx rfl (hb hby d4_6) rfl rfl ?_
    refine st_17 _ ?_
    exact Steps.refl _
  have E_23 : Exa Z h_13 d "com/example/manque/manque/Declined" := (g_4.wr W_16)
  have F_24 : Fld Z h_13 d "java/lang/Throwable" "detailMessage" "Ljava/lang/String;" .null := (g_6.other W_16 (Or.inr (slot_ne (Or.inl (w89 hw)) (Or.inr (w95 hw)) (by decide) (t := (.object "java/lang/String")) (by decide) (t' := (.object "com/example/manque/manque/Declined$Kind")) (by decide))))
  have K_25 : Keep h0 h_13 [d] := (((Keep.refl _ _).trans K_3 (allS (Or.inl (List.mem_of_getElem? (i := 0) rfl)) all0)).wr W_16 (Or.inl (List.mem_of_getElem? (i := 0) rfl)))
  obtain ⟨fs, hr, hrun, hended, hRE⟩ := X_14.leaveW hS_1 (by rw [show T_12.heap = h_13 from e_15]; exact (Nat.le_trans (Nat.le_refl _) (Keep.of_wr W_16).1)) (v := none) (fun _ => rfl)
  refine ⟨_, _, C_22.trans (X_14.returnOut hx Bd.returns (hb hby d4_10) hr), hrun, hended, _, _, rfl, ?_, ?_, hRE.1, hRE.2.1, hRE.2.2.1, hRE.2.2.2.mono (by decide) (by decide)⟩
  · show Q_dinit0 Z G1 kC uS sS d h0 n0 (none) T_12.heap _
    rw [e_15]
    exact ⟨rfl, N_18, K_25, E_23, F_21, F_24⟩
  · show CHr Z consts_1 s.vm s.heap T_12.vm T_12.heap
    rw [hh, show T_12.heap = h_13 from e_15]
    exact CR_20.trans (CHv.at X_14 hZ_1 hEL CH_19)
theorem ef_118 (m : MethodId)  : entryFrame m #[.null] 1 = mkF m 0 #[.val .null] [] := by first | (simp [entryFrame, mkF, argsToLocals, Value.category]; done) | rfl
abbrev R_mk0 : Room := { frames := 6, cells := 2, slots := 2759, locals := 83 }
def Q_mk0 (Z : State) (G1 : Int32) (kC : Addr) (uS : Value) (sS : Value)  (h0 : Heap) (n0 : Nat) (v : Option Value) (h : Heap) (L : List Loc) : Prop := (∃ d : Addr, v = some (.ref d) ∧ Fr n0 L ∧ Keep h0 h [] ∧ (h0.size ≤ d) ∧ (Exa Z h d "com/example/manque/manque/Declined") ∧ (Fld Z h d "com/example/manque/manque/Declined" "kind" "Lcom/example/manque/manque/Declined$Kind;" (.ref kC)) ∧ (Fld Z h d "java/lang/Throwable" "detailMessage" "Ljava/lang/String;" .null))
set_option maxRecDepth 65536 in
set_option maxHeartbeats 40000000 in
theorem rm_mk0 (l : Launch) (Z : State) (a0 : Array Value) (hw : ∀ d ∈ tables_1, d.before a0 Z = true) (ws : List Jvm.Cond) (G1 : Int32) (kC : Addr) (uS : Value) (sS : Value) (HG : own_G l Z a0 G1 kC uS sS) (h0 : Heap) (n0 : Nat) (X00 : Old Z n0 h0)   :
    own_CK l Z M101 prog_1_method_3_code 1 (some (.object "com/example/manque/manque/Declined")) ws R_mk0 #[.null] h0 (Q_mk0 Z G1 kC uS sS  h0 n0) := by
  refine own_K (plainFor_of_name pn_88) ?_
  intro p e s m below meth c s₁ S0 Bd hZ hh CH0 hS0 CR0 hTK0 hBL0 hx hby hml hown hnm X0 e0 hS0d
  obtain ⟨O1, P1, O2, E2, F2, hLT, OU, rU, OS, rS⟩ := id HG
  have hEL := own_EL hw
  have hSA := own_SA hw
  have N0 := Fr.nil n0
  have C0 : Steps p.tables e below S0 (s₁.setTop (mkF m 0 #[.val .null] [])) := by rw [hS0d]; exact castTop (ef_118 m ) (Steps.refl _)
  obtain ⟨T_1, h_2, X_3, e_4, E_5, A_6, D_7, U_11, st_8⟩ := newO X0 hx hZ hown (w38 hw) (w39 hw) (w36 hw) e0 (g := (mkF m 0 #[.val .null] [])) rfl (hb hby d5_0) (by decide) (by decide)
  obtain ⟨a_9, g_10⟩ : ∃ z, z = h0.size := ⟨_, rfl⟩
  rw [← g_10] at A_6 D_7 st_8 U_11
  have CH_12 : CHv Z consts_1 s.vm h_2 := CHv.ext E_5 CH0
  have CR_13 : CHr Z consts_1 s.vm h0 s.vm h_2 := CR0.trans (CHr.ext E_5 CH0)
  have O_18 : Old Z n0 h_2 := (X00.ext E_5)
  obtain ⟨T_14, X_15, e_16, st_17⟩ := getS X_3 hx hZ (host := "") hown (w40 hw) Via.refl e_4 (O2.ext O_18.2) (g := (mkF m 4 #[.val .null] [(.ref a_9), (.ref a_9)])) rfl (hb hby d5_4)
  obtain ⟨_, _, ⟨T_19, L_19, k_19, n_19⟩, -, Y_19, S_19, G_19, ⟨Lc_19, hQ_19, l_19, y_19, z_19, R_19⟩, st_19⟩ := X_15.specialBackS hx (y := M86) rfl hown (mvT hZ (w43 hw)) (mvT hZ (w44 hw)) (mvT hZ (w45 hw)) (by decide) (backOfSKH (vm0 := s.vm) (W := 1) (rm_dinit0 l Z a0 hw [] G1 kC uS sS HG h_2 n0 O_18 a_9 A_6 U_11 (D_7 (Or.inr (w95 hw)) (ty := (.object "com/example/manque/manque/Declined$Kind")) (by decide)) (D_7 (Or.inl (w59 hw)) (ty := (.object "java/lang/Throwable")) (by decide)) (D_7 (Or.inl (w62 hw)) (ty := (.array (.object "java/lang/StackTraceElement"))) (by decide)) (D_7 (Or.inl (w65 hw)) (ty := (.object "java/util/List")) (by decide)) (D_7 (Or.inl (w90 hw)) (ty := (.object "java/lang/Object")) (by decide)) (D_7 (Or.inl (w89 hw)) (ty := (.object "java/lang/String")) (by decide)) (Nat.le_trans (own_n0 X00) (Nat.le_of_eq g_10.symm))) hZ (w45 hw) (w36 hw) (by decide) (by decide) hEL CH_12 hTK0 hBL0) (g := (mkF m 8 #[.val .null] [.null, (.ref kC), (.ref a_9), (.ref a_9)])) rfl (by rw [hml]; rfl) (Steps.refl _) (a := a_9) (argsL := [(.ref kC), .null]) (rest := [(.ref a_9)]) (lenOf pd_112 rfl) rfl (by show 2 * 0 + _ ≤ _; exact Nat.le_of_eq rfl) (hb hby d5_8) (fun _ _ => ⟨rfl, e_16, (by decide : 1 + 1 ≤ _), (by decide : 7 + 2752 ≤ _)⟩)
  dsimp only [Pt.U, Pt.locs, Pt.cells, Pt.slots] at Y_19 S_19 G_19 l_19 y_19 z_19 st_19 hQ_19 R_19
  subst l_19 y_19 z_19
  obtain ⟨X_19, hS_19, hZ_19, hown_19⟩ := rebS hS0 (n1 := T_14.heap.size) (by rw [show T_14.heap = h_2 from e_16]; exact (Nat.le_trans (Nat.le_refl _) E_5.1)) Y_19 S_19 G_19 hZ hown
  obtain ⟨rfl, N_20, K_21, g_22, g_23, g_24⟩ := hQ_19
  have N_25 := Fr.app N0 N_20
  have CH_26 : CHv Z consts_1 T_19.vm T_19.heap := R_19.1
  have CR_27 : CHr Z consts_1 s.vm h0 T_19.vm T_19.heap := CR_13.trans R_19
  have hTK_28 : (s.setVm T_19.vm).vm.MethodsKnown := Vm.MethodsKnown.alikeC (hS_19.1.alike) hTK0
  have hBL_29 : (s.setVm T_19.vm).vm.FramesKnown below := Vm.FramesKnown.alikeC (hS_19.1.alike) hBL0
  have C_30 : Steps p.tables e below S0 (T_19.setTop (mkF m 11 #[.val .null] [(.ref a_9)])) := by
    refine C0.trans ?_
    refine st_8 _ ?_
    refine XS.dup X_3.here hx rfl (hb hby d5_3) rfl rfl ?_
    refine st_17 _ ?_
    refine XS.aloadN X_15.here hx rfl (hb hby d5_7) rfl rfl ?_
    refine st_19.trans ?_
    exact Steps.refl _
  have K_31 : Keep h0 T_19.heap [] := (((Keep.refl _ _).ext E_5).trans K_21 (allS (Or.inr (Nat.le_trans (Nat.le_refl _) (Nat.le_of_eq g_10.symm))) all0))
  obtain ⟨fs, hr, hrun, hended, hRE⟩ := X_19.leaveW hS_19 (by rw [show T_19.heap = T_19.heap from rfl]; exact (Nat.le_refl _)) (v := some (.ref a_9)) (fun h => by rw [Bd.returns] at h; cases h)
  refine ⟨_, _, C_30.trans (retOut X_19 hx Bd.returns rfl (Or.inr (Or.inr (Or.inr (Or.inr ⟨rfl, rfl, rfl⟩)))) (hb hby d5_11) hr), hrun, hended, _, _, rfl, ?_, ?_, hRE.1, hRE.2.1, hRE.2.2.1, hRE.2.2.2.mono (by decide) (by decide)⟩
  · show Q_mk0 Z G1 kC uS sS  h0 n0 (some (.ref a_9)) T_19.heap _
    exact ⟨a_9, rfl, N_25, K_31, (Nat.le_trans (Nat.le_refl _) (Nat.le_of_eq g_10.symm)), g_22, g_23, g_24⟩
  · show CHr Z consts_1 s.vm s.heap T_19.vm T_19.heap
    rw [hh]
    exact CR_27.trans (CHv.at X_19 hZ_19 hEL CH_26)
abbrev M119 : MethodName := ⟨"java/lang/Throwable", "getMessage", "()Ljava/lang/String;"⟩
theorem d6_0 : decode jdk_78_method_6_code 0 = .ok (.aload_n 0, 1) := by decide +kernel
theorem d6_1 : decode jdk_78_method_6_code 1 = .ok (.getfield 31, 3) := by decide +kernel
theorem d6_4 : decode jdk_78_method_6_code 4 = .ok (.areturn, 1) := by decide +kernel
abbrev R_getmsg : Room := { frames := 0, cells := 0, slots := 0, locals := 0 }
def Q_getmsg (Z : State) (G1 : Int32) (kC : Addr) (uS : Value) (sS : Value) (d : Addr) (r : Addr) (h0 : Heap) (n0 : Nat) (v : Option Value) (h : Heap) (L : List Loc) : Prop := (v = some (.ref r) ∧ Fr n0 L ∧ h = h0)
set_option maxRecDepth 65536 in
set_option maxHeartbeats 40000000 in
theorem rm_getmsg (l : Launch) (Z : State) (a0 : Array Value) (hw : ∀ d ∈ tables_1, d.before a0 Z = true) (ws : List Jvm.Cond) (G1 : Int32) (kC : Addr) (uS : Value) (sS : Value) (HG : own_G l Z a0 G1 kC uS sS) (h0 : Heap) (n0 : Nat) (X00 : Old Z n0 h0) (d : Addr) (r : Addr) (hp0 : Fld Z h0 d "java/lang/Throwable" "detailMessage" "Ljava/lang/String;" (.ref r)) :
    own_CP l Z M119 jdk_78_method_6_code 1 (some (.object "java/lang/String")) ws R_getmsg #[(.ref d)] h0 (Q_getmsg Z G1 kC uS sS d r h0 n0) := by
  refine own_P (plainFor_of_name pn_41) ?_
  intro p e s m below meth c s₁ S0 Bd hZ hh hx hby hml hown hnm X0 e0 hS0d
  obtain ⟨O1, P1, O2, E2, F2, hLT, OU, rU, OS, rS⟩ := id HG
  have N0 := Fr.nil n0
  have C0 : Steps p.tables e below S0 (s₁.setTop (mkF m 0 #[.val (.ref d)] [])) := by rw [hS0d]; exact castTop (ef_102 m d) (Steps.refl _)
  obtain ⟨T_1, X_2, e_3, st_4⟩ := getF X0 hx hZ hown (host := "") (Or.inl (w93 hw)) Via.refl e0 hp0 (g := (mkF m 1 #[.val (.ref d)] [(.ref d)])) rfl rfl (hb hby d6_1)
  have C_5 : Steps p.tables e below S0 (T_1.setTop (mkF m 4 #[.val (.ref d)] [(.ref r)])) := by
    refine C0.trans ?_
    refine XS.aloadN X0.here hx rfl (hb hby d6_0) rfl rfl ?_
    refine st_4 _ ?_
    exact Steps.refl _
  obtain ⟨fs, hr, hrun, hended, hW, hsame⟩ := X_2.leave (v := some (.ref r)) (fun h => by rw [Bd.returns] at h; cases h)
  refine ⟨_, _, C_5.trans (retOut X_2 hx Bd.returns rfl (Or.inr (Or.inr (Or.inr (Or.inr ⟨rfl, rfl, rfl⟩)))) (hb hby d6_4) hr), hrun, hended, _, _, rfl, ?_, ⟨_, rfl⟩, hW, hsame.mono (by decide) (by decide)⟩
  show Q_getmsg Z G1 kC uS sS d r h0 n0 (some (.ref r)) T_1.heap _
  rw [e_3]
  exact ⟨rfl, N0, rfl⟩
abbrev R_getmsg0 : Room := { frames := 0, cells := 0, slots := 0, locals := 0 }
def Q_getmsg0 (Z : State) (G1 : Int32) (kC : Addr) (uS : Value) (sS : Value) (d : Addr) (h0 : Heap) (n0 : Nat) (v : Option Value) (h : Heap) (L : List Loc) : Prop := (v = some .null ∧ Fr n0 L ∧ h = h0)
set_option maxRecDepth 65536 in
set_option maxHeartbeats 40000000 in
theorem rm_getmsg0 (l : Launch) (Z : State) (a0 : Array Value) (hw : ∀ d ∈ tables_1, d.before a0 Z = true) (ws : List Jvm.Cond) (G1 : Int32) (kC : Addr) (uS : Value) (sS : Value) (HG : own_G l Z a0 G1 kC uS sS) (h0 : Heap) (n0 : Nat) (X00 : Old Z n0 h0) (d : Addr) (hp0 : Fld Z h0 d "java/lang/Throwable" "detailMessage" "Ljava/lang/String;" .null) :
    own_CP l Z M119 jdk_78_method_6_code 1 (some (.object "java/lang/String")) ws R_getmsg0 #[(.ref d)] h0 (Q_getmsg0 Z G1 kC uS sS d h0 n0) := by
  refine own_P (plainFor_of_name pn_41) ?_
  intro p e s m below meth c s₁ S0 Bd hZ hh hx hby hml hown hnm X0 e0 hS0d
  obtain ⟨O1, P1, O2, E2, F2, hLT, OU, rU, OS, rS⟩ := id HG
  have N0 := Fr.nil n0
  have C0 : Steps p.tables e below S0 (s₁.setTop (mkF m 0 #[.val (.ref d)] [])) := by rw [hS0d]; exact castTop (ef_102 m d) (Steps.refl _)
  obtain ⟨T_1, X_2, e_3, st_4⟩ := getF X0 hx hZ hown (host := "") (Or.inl (w93 hw)) Via.refl e0 hp0 (g := (mkF m 1 #[.val (.ref d)] [(.ref d)])) rfl rfl (hb hby d6_1)
  have C_5 : Steps p.tables e below S0 (T_1.setTop (mkF m 4 #[.val (.ref d)] [.null])) := by
    refine C0.trans ?_
    refine XS.aloadN X0.here hx rfl (hb hby d6_0) rfl rfl ?_
    refine st_4 _ ?_
    exact Steps.refl _
  obtain ⟨fs, hr, hrun, hended, hW, hsame⟩ := X_2.leave (v := some .null) (fun h => by rw [Bd.returns] at h; cases h)
  refine ⟨_, _, C_5.trans (retOut X_2 hx Bd.returns rfl (Or.inr (Or.inr (Or.inr (Or.inr ⟨rfl, rfl, rfl⟩)))) (hb hby d6_4) hr), hrun, hended, _, _, rfl, ?_, ⟨_, rfl⟩, hW, hsame.mono (by decide) (by decide)⟩
  show Q_getmsg0 Z G1 kC uS sS d h0 n0 (some .null) T_1.heap _
  rw [e_3]
  exact ⟨rfl, N0, rfl⟩
abbrev M123 : MethodName := ⟨"com/example/manque/manque/Declined", "kind", "()Lcom/example/manque/manque/Declined$Kind;"⟩
theorem d7_0 : decode prog_1_method_5_code 0 = .ok (.aload_n 0, 1) := by decide +kernel
theorem d7_1 : decode prog_1_method_5_code 1 = .ok (.getfield 7, 3) := by decide +kernel
theorem d7_4 : decode prog_1_method_5_code 4 = .ok (.areturn, 1) := by decide +kernel
abbrev R_kind : Room := { frames := 0, cells := 0, slots := 0, locals := 0 }
def Q_kind (Z : State) (G1 : Int32) (kC : Addr) (uS : Value) (sS : Value) (d : Addr) (h0 : Heap) (n0 : Nat) (v : Option Value) (h : Heap) (L : List Loc) : Prop := (v = some (.ref kC) ∧ Fr n0 L ∧ h = h0)
set_option maxRecDepth 65536 in
set_option maxHeartbeats 40000000 in
theorem rm_kind (l : Launch) (Z : State) (a0 : Array Value) (hw : ∀ d ∈ tables_1, d.before a0 Z = true) (ws : List Jvm.Cond) (G1 : Int32) (kC : Addr) (uS : Value) (sS : Value) (HG : own_G l Z a0 G1 kC uS sS) (h0 : Heap) (n0 : Nat) (X00 : Old Z n0 h0) (d : Addr) (hp0 : Fld Z h0 d "com/example/manque/manque/Declined" "kind" "Lcom/example/manque/manque/Declined$Kind;" (.ref kC)) :
    own_CP l Z M123 prog_1_method_5_code 1 (some (.object "com/example/manque/manque/Declined$Kind")) ws R_kind #[(.ref d)] h0 (Q_kind Z G1 kC uS sS d h0 n0) := by
  refine own_P (plainFor_of_name pn_88) ?_
  intro p e s m below meth c s₁ S0 Bd hZ hh hx hby hml hown hnm X0 e0 hS0d
  obtain ⟨O1, P1, O2, E2, F2, hLT, OU, rU, OS, rS⟩ := id HG
  have N0 := Fr.nil n0
  have C0 : Steps p.tables e below S0 (s₁.setTop (mkF m 0 #[.val (.ref d)] [])) := by rw [hS0d]; exact castTop (ef_102 m d) (Steps.refl _)
  obtain ⟨T_1, X_2, e_3, st_4⟩ := getF X0 hx hZ hown (host := "") (Or.inl (w94 hw)) Via.refl e0 hp0 (g := (mkF m 1 #[.val (.ref d)] [(.ref d)])) rfl rfl (hb hby d7_1)
  have C_5 : Steps p.tables e below S0 (T_1.setTop (mkF m 4 #[.val (.ref d)] [(.ref kC)])) := by
    refine C0.trans ?_
    refine XS.aloadN X0.here hx rfl (hb hby d7_0) rfl rfl ?_
    refine st_4 _ ?_
    exact Steps.refl _
  obtain ⟨fs, hr, hrun, hended, hW, hsame⟩ := X_2.leave (v := some (.ref kC)) (fun h => by rw [Bd.returns] at h; cases h)
  refine ⟨_, _, C_5.trans (retOut X_2 hx Bd.returns rfl (Or.inr (Or.inr (Or.inr (Or.inr ⟨rfl, rfl, rfl⟩)))) (hb hby d7_4) hr), hrun, hended, _, _, rfl, ?_, ⟨_, rfl⟩, hW, hsame.mono (by decide) (by decide)⟩
  show Q_kind Z G1 kC uS sS d h0 n0 (some (.ref kC)) T_1.heap _
  rw [e_3]
  exact ⟨rfl, N0, rfl⟩
abbrev M127 : MethodName := ⟨"com/example/manque/manque/Declined$Kind", "status", "()I"⟩
theorem pn_128 : plainName "com/example/manque/manque/Declined$Kind" = true := by first | (simp [plainName, overriddenIn]; done) | decide +kernel
theorem d8_0 : decode prog_2_method_4_code 0 = .ok (.aload_n 0, 1) := by decide +kernel
theorem w118 {Z : State} {a0 : Array Value} (hw : ∀ d ∈ tables_1, d.before a0 Z = true) : Jvm.Cond.before (Jvm.Cond.fieldLink "com/example/manque/manque/Declined$Kind" (44 : Nat) "com/example/manque/manque/Declined$Kind" "status" "I") a0 Z = true := hw _ (List.mem_of_getElem? (i := 118) rfl)
theorem d8_1 : decode prog_2_method_4_code 1 = .ok (.getfield 44, 3) := by decide +kernel
theorem d8_4 : decode prog_2_method_4_code 4 = .ok (.ireturn, 1) := by decide +kernel
abbrev R_kst : Room := { frames := 0, cells := 0, slots := 0, locals := 0 }
def Q_kst (Z : State) (G1 : Int32) (kC : Addr) (uS : Value) (sS : Value)  (h0 : Heap) (n0 : Nat) (v : Option Value) (h : Heap) (L : List Loc) : Prop := (v = some (.int (409 : Int32)) ∧ Fr n0 L ∧ h = h0)
set_option maxRecDepth 65536 in
set_option maxHeartbeats 40000000 in
theorem rm_kst (l : Launch) (Z : State) (a0 : Array Value) (hw : ∀ d ∈ tables_1, d.before a0 Z = true) (ws : List Jvm.Cond) (G1 : Int32) (kC : Addr) (uS : Value) (sS : Value) (HG : own_G l Z a0 G1 kC uS sS) (h0 : Heap) (n0 : Nat) (X00 : Old Z n0 h0)   :
    own_CP l Z M127 prog_2_method_4_code 1 (some .int) ws R_kst #[(.ref kC)] h0 (Q_kst Z G1 kC uS sS  h0 n0) := by
  refine own_P (plainFor_of_name pn_128) ?_
  intro p e s m below meth c s₁ S0 Bd hZ hh hx hby hml hown hnm X0 e0 hS0d
  obtain ⟨O1, P1, O2, E2, F2, hLT, OU, rU, OS, rS⟩ := id HG
  have N0 := Fr.nil n0
  have C0 : Steps p.tables e below S0 (s₁.setTop (mkF m 0 #[.val (.ref kC)] [])) := by rw [hS0d]; exact castTop (ef_102 m kC) (Steps.refl _)
  obtain ⟨T_1, X_2, e_3, st_4⟩ := getF X0 hx hZ hown (host := "") (Or.inl (w118 hw)) Via.refl e0 (F2.ext X00.2) (g := (mkF m 1 #[.val (.ref kC)] [(.ref kC)])) rfl rfl (hb hby d8_1)
  have C_5 : Steps p.tables e below S0 (T_1.setTop (mkF m 4 #[.val (.ref kC)] [(.int (409 : Int32))])) := by
    refine C0.trans ?_
    refine XS.aloadN X0.here hx rfl (hb hby d8_0) rfl rfl ?_
    refine st_4 _ ?_
    exact Steps.refl _
  obtain ⟨fs, hr, hrun, hended, hW, hsame⟩ := X_2.leave (v := some (.int (409 : Int32))) (fun h => by rw [Bd.returns] at h; cases h)
  refine ⟨_, _, C_5.trans (retOut X_2 hx Bd.returns rfl (Or.inl ⟨rfl, Or.inl rfl, _, rfl⟩) (hb hby d8_4) hr), hrun, hended, _, _, rfl, ?_, ⟨_, rfl⟩, hW, hsame.mono (by decide) (by decide)⟩
  show Q_kst Z G1 kC uS sS  h0 n0 (some (.int (409 : Int32))) T_1.heap _
  rw [e_3]
  exact ⟨rfl, N0, rfl⟩
abbrev M133 : MethodName := ⟨"java/lang/String", "equals", "(Ljava/lang/Object;)Z"⟩
theorem ef_134 (m : MethodId) (x0 : Addr) (x1 : Addr) : entryFrame m #[(.ref x0), (.ref x1)] 3 = mkF m 0 #[.val (.ref x0), .val (.ref x1), .unset] [] := by first | (simp [entryFrame, mkF, argsToLocals, Value.category]; done) | rfl
theorem d9_0 : decode jdk_42_method_66_code 0 = .ok (.aload_n 0, 1) := by decide +kernel
theorem d9_1 : decode jdk_42_method_66_code 1 = .ok (.aload_n 1, 1) := by decide +kernel
theorem d9_2 : decode jdk_42_method_66_code 2 = .ok (.if_acmp .ne 5, 3) := by decide +kernel
theorem d9_5 : decode jdk_42_method_66_code 5 = .ok (.iconst 1, 1) := by decide +kernel
theorem d9_6 : decode jdk_42_method_66_code 6 = .ok (.ireturn, 1) := by decide +kernel
abbrev R_eqself : Room := { frames := 0, cells := 0, slots := 0, locals := 0 }
def Q_eqself (Z : State) (G1 : Int32) (kC : Addr) (uS : Value) (sS : Value) (x : Addr) (h0 : Heap) (n0 : Nat) (v : Option Value) (h : Heap) (L : List Loc) : Prop := (v = some (.int (1 : Int32)) ∧ Fr n0 L ∧ h = h0)
set_option maxRecDepth 65536 in
set_option maxHeartbeats 40000000 in
theorem rm_eqself (l : Launch) (Z : State) (a0 : Array Value) (hw : ∀ d ∈ tables_1, d.before a0 Z = true) (ws : List Jvm.Cond) (G1 : Int32) (kC : Addr) (uS : Value) (sS : Value) (HG : own_G l Z a0 G1 kC uS sS) (h0 : Heap) (n0 : Nat) (X00 : Old Z n0 h0) (x : Addr)  :
    own_CP l Z M133 jdk_42_method_66_code 3 (some .boolean) ws R_eqself #[(.ref x), (.ref x)] h0 (Q_eqself Z G1 kC uS sS x h0 n0) := by
  refine own_P (plainFor_of_name pn_2) ?_
  intro p e s m below meth c s₁ S0 Bd hZ hh hx hby hml hown hnm X0 e0 hS0d
  obtain ⟨O1, P1, O2, E2, F2, hLT, OU, rU, OS, rS⟩ := id HG
  have N0 := Fr.nil n0
  have C0 : Steps p.tables e below S0 (s₁.setTop (mkF m 0 #[.val (.ref x), .val (.ref x), .unset] [])) := by rw [hS0d]; exact castTop (ef_134 m x x) (Steps.refl _)
  have C_1 : Steps p.tables e below S0 (s₁.setTop (mkF m 6 #[.val (.ref x), .val (.ref x), .unset] [(.int (1 : Int32))])) := by
    refine C0.trans ?_
    refine XS.aloadN X0.here hx rfl (hb hby d9_0) rfl rfl ?_
    refine XS.aloadN X0.here hx rfl (hb hby d9_1) rfl rfl ?_
    refine acmp X0 hx rfl (cd := .ne) (x := (.ref x)) (y := (.ref x)) rfl rfl (same := true) (pc0 := 2) (pc' := 5) rfl (hb hby d9_2) rfl (decide_eq_true rfl) (by decide) (by decide) ?_
    refine XS.iconst X0.here hx rfl (hb hby d9_5) ?_
    exact Steps.refl _
  obtain ⟨fs, hr, hrun, hended, hW, hsame⟩ := X0.leave (v := some (.int (1 : Int32))) (fun h => by rw [Bd.returns] at h; cases h)
  refine ⟨_, _, C_1.trans (retN X0 hx (t := .boolean) Bd.returns (by simp) (hb hby d9_6) hr), hrun, hended, _, _, rfl, ?_, ⟨_, rfl⟩, hW, hsame.mono (by decide) (by decide)⟩
  show Q_eqself Z G1 kC uS sS x h0 n0 (some (.int (1 : Int32))) s₁.heap _
  rw [e0]
  exact ⟨rfl, N0, rfl⟩
abbrev M140 : MethodName := ⟨"java/lang/StringUTF16", "compress", "([CI[BII)I"⟩
theorem ef_141 (m : MethodId) (x0 : Addr) (x1 : Int32) (x2 : Addr) (x3 : Int32) (x4 : Int32) : entryFrame m #[(.ref x0), (.int x1), (.ref x2), (.int x3), (.int x4)] 7 = mkF m 0 #[.val (.ref x0), .val (.int x1), .val (.ref x2), .val (.int x3), .val (.int x4), .unset, .unset] [] := by first | (simp [entryFrame, mkF, argsToLocals, Value.category]; done) | rfl
theorem pn_142 : plainName "java/lang/StringUTF16" = true := by first | (simp [plainName, overriddenIn]; done) | decide +kernel
theorem d10_0 : decode jdk_52_method_21_code 0 = .ok (.iconst 0, 1) := by decide +kernel
theorem d10_1 : decode jdk_52_method_21_code 1 = .ok (.istore 5, 2) := by decide +kernel
theorem d10_3 : decode jdk_52_method_21_code 3 = .ok (.iload 5, 2) := by decide +kernel
theorem d10_5 : decode jdk_52_method_21_code 5 = .ok (.iload 4, 2) := by decide +kernel
theorem d10_7 : decode jdk_52_method_21_code 7 = .ok (.if_icmp .ge 37, 3) := by decide +kernel
theorem d10_10 : decode jdk_52_method_21_code 10 = .ok (.aload_n 0, 1) := by decide +kernel
theorem d10_11 : decode jdk_52_method_21_code 11 = .ok (.iload_n 1, 1) := by decide +kernel
theorem d10_12 : decode jdk_52_method_21_code 12 = .ok (.caload, 1) := by decide +kernel
theorem d10_13 : decode jdk_52_method_21_code 13 = .ok (.istore 6, 2) := by decide +kernel
theorem d10_15 : decode jdk_52_method_21_code 15 = .ok (.iload 6, 2) := by decide +kernel
theorem d10_17 : decode jdk_52_method_21_code 17 = .ok (.sipush 255, 3) := by decide +kernel
theorem d10_20 : decode jdk_52_method_21_code 20 = .ok (.if_icmp .le 6, 3) := by decide +kernel
theorem d10_26 : decode jdk_52_method_21_code 26 = .ok (.aload_n 2, 1) := by decide +kernel
theorem d10_27 : decode jdk_52_method_21_code 27 = .ok (.iload_n 3, 1) := by decide +kernel
theorem d10_28 : decode jdk_52_method_21_code 28 = .ok (.iload 6, 2) := by decide +kernel
theorem d10_30 : decode jdk_52_method_21_code 30 = .ok (.i2b, 1) := by decide +kernel
theorem d10_31 : decode jdk_52_method_21_code 31 = .ok (.bastore, 1) := by decide +kernel
theorem d10_32 : decode jdk_52_method_21_code 32 = .ok (.iinc 1 1, 3) := by decide +kernel
theorem d10_35 : decode jdk_52_method_21_code 35 = .ok (.iinc 3 1, 3) := by decide +kernel
theorem d10_38 : decode jdk_52_method_21_code 38 = .ok (.iinc 5 1, 3) := by decide +kernel
theorem d10_41 : decode jdk_52_method_21_code 41 = .ok (.goto (-38), 3) := by decide +kernel
theorem d10_44 : decode jdk_52_method_21_code 44 = .ok (.iload 4, 2) := by decide +kernel
theorem d10_46 : decode jdk_52_method_21_code 46 = .ok (.ireturn, 1) := by decide +kernel
abbrev R_cmp5_1 : Room := { frames := 0, cells := 0, slots := 0, locals := 0 }
def Q_cmp5_1 (Z : State) (G1 : Int32) (kC : Addr) (uS : Value) (sS : Value) (b : Addr) (k : ClassId) (t : Addr) (kt : ClassId) (c0 : Int32) (h0 : Heap) (n0 : Nat) (v : Option Value) (h : Heap) (L : List Loc) : Prop := (v = some (.int (1 : Int32)) ∧ Fr n0 L ∧ Keep h0 h [t] ∧ (Arv Z h t kt .byte (1 : Int32) [(.int (own_lo8 c0))] (.int (0 : Int32))))
set_option maxRecDepth 65536 in
set_option maxHeartbeats 40000000 in
theorem rm_cmp5_1 (l : Launch) (Z : State) (a0 : Array Value) (hw : ∀ d ∈ tables_1, d.before a0 Z = true) (ws : List Jvm.Cond) (G1 : Int32) (kC : Addr) (uS : Value) (sS : Value) (HG : own_G l Z a0 G1 kC uS sS) (h0 : Heap) (n0 : Nat) (X00 : Old Z n0 h0) (b : Addr) (k : ClassId) (t : Addr) (kt : ClassId) (c0 : Int32) (hp0 : Arv Z h0 b k .char (1 : Int32) [(.int c0)] (.int (0 : Int32))) (hp1 : Arv Z h0 t kt .byte (1 : Int32) [(.int (0 : Int32))] (.int (0 : Int32))) (hp2 : n0 ≤ t) (hp3 : b ≠ t) (hh0 : ¬ ((255 : Int32) < c0)) :
    own_CP l Z M140 jdk_52_method_21_code 7 (some .int) ws R_cmp5_1 #[(.ref b), (.int (0 : Int32)), (.ref t), (.int (0 : Int32)), (.int (1 : Int32))] h0 (Q_cmp5_1 Z G1 kC uS sS b k t kt c0 h0 n0) := by
  refine own_P (plainFor_of_name pn_142) ?_
  intro p e s m below meth c s₁ S0 Bd hZ hh hx hby hml hown hnm X0 e0 hS0d
  obtain ⟨O1, P1, O2, E2, F2, hLT, OU, rU, OS, rS⟩ := id HG
  have N0 := Fr.nil n0
  have C0 : Steps p.tables e below S0 (s₁.setTop (mkF m 0 #[.val (.ref b), .val (.int (0 : Int32)), .val (.ref t), .val (.int (0 : Int32)), .val (.int (1 : Int32)), .unset, .unset] [])) := by rw [hS0d]; exact castTop (ef_141 m b (0 : Int32) t (0 : Int32) (1 : Int32)) (Steps.refl _)
  obtain ⟨c_1, A_2, q_3, S_4, M_5, H_6, U_7⟩ := id hp0
  have hin_8 : ¬ ((0 : Int32) < 0 ∨ c_1.slots.size ≤ (0 : Int32).toNatClampNeg) := inb_of S_4 ⟨(by decide : ¬ ((0 : Int32) < (0 : Int32))), (by decide : (0 : Int32) < (1 : Int32))⟩
  have hat_9 : c_1.slots[(0 : Int32).toNatClampNeg]? = some (.int c0) := Has.at H_6 hin_8 rfl
  obtain ⟨c_10, A_11, q_12, S_13, M_14, H_15, U_16⟩ := id hp1
  have hin_23 : ¬ ((0 : Int32) < 0 ∨ c_10.slots.size ≤ (0 : Int32).toNatClampNeg) := inb_of S_13 ⟨(by decide : ¬ ((0 : Int32) < (0 : Int32))), (by decide : (0 : Int32) < (1 : Int32))⟩
  obtain ⟨T_17, h_18, X_19, e_20, W_21, st_22⟩ := stB X0 hx hZ e0 A_11 (j := (0 : Int32)) hin_23 (g := (mkF m 31 #[.val (.ref b), .val (.int (0 : Int32)), .val (.ref t), .val (.int (0 : Int32)), .val (.int (1 : Int32)), .val (.int (0 : Int32)), .val (.int c0)] [(.int (c0.toInt8.toInt32)), (.int (0 : Int32)), (.ref t)])) rfl rfl (hb hby d10_31)
  have N_24 := Fr.snoc X_19 N0 hp2
  have V_25 : Arv Z h_18 t kt .byte (1 : Int32) [(.int (own_lo8 c0))] (.int (0 : Int32)) := Arv.set A_11 q_12 S_13 M_14 H_15 U_16 (fits_nar_byte _) W_21 0 rfl (Nat.le_of_ble_eq_true rfl)
  have C_26 : Steps p.tables e below S0 (T_17.setTop (mkF m 46 #[.val (.ref b), .val (.int (1 : Int32)), .val (.ref t), .val (.int (1 : Int32)), .val (.int (1 : Int32)), .val (.int (1 : Int32)), .val (.int c0)] [(.int (1 : Int32))])) := by
    refine C0.trans ?_
    refine XS.iconst X0.here hx rfl (hb hby d10_0) ?_
    refine XS.istore X0.here hx rfl (hb hby d10_1) rfl (l' := #[.val (.ref b), .val (.int (0 : Int32)), .val (.ref t), .val (.int (0 : Int32)), .val (.int (1 : Int32)), .val (.int (0 : Int32)), .unset]) rfl ?_
    refine XS.iload X0.here hx rfl (hb hby d10_3) rfl ?_
    refine XS.iload X0.here hx rfl (hb hby d10_5) rfl ?_
    refine XS.icmpNo X0.here hx rfl (hb hby d10_7) rfl (by decide) ?_
    refine XS.aloadN X0.here hx rfl (hb hby d10_10) rfl rfl ?_
    refine XS.iloadN X0.here hx rfl (hb hby d10_11) rfl ?_
    refine X0.caload hx (j := (0 : Int32)) (v := (.int c0)) (by rw [e0]; exact A_2.1) (State.isArrayOf_alike hZ.alike A_2.2.1) A_2.2.2 hin_8 hat_9 (g := (mkF m 12 #[.val (.ref b), .val (.int (0 : Int32)), .val (.ref t), .val (.int (0 : Int32)), .val (.int (1 : Int32)), .val (.int (0 : Int32)), .unset] [(.int (0 : Int32)), (.ref b)])) rfl rfl (hb hby d10_12) _ ?_
    show Steps p.tables e below (s₁.setTop (mkF m 13 #[.val (.ref b), .val (.int (0 : Int32)), .val (.ref t), .val (.int (0 : Int32)), .val (.int (1 : Int32)), .val (.int (0 : Int32)), .unset] [(.int c0)])) _
    refine XS.istore X0.here hx rfl (hb hby d10_13) rfl (l' := #[.val (.ref b), .val (.int (0 : Int32)), .val (.ref t), .val (.int (0 : Int32)), .val (.int (1 : Int32)), .val (.int (0 : Int32)), .val (.int c0)]) rfl ?_
    refine XS.iload X0.here hx rfl (hb hby d10_15) rfl ?_
    refine XS.sipush X0.here hx rfl (hb hby d10_17) ?_
    refine XS.icmpYes X0.here hx rfl (pc0 := 20) (pc' := 26) rfl (hb hby d10_20) rfl (ii_le_t hh0) (by decide) (by decide) ?_
    refine XS.aloadN X0.here hx rfl (hb hby d10_26) rfl rfl ?_
    refine XS.iloadN X0.here hx rfl (hb hby d10_27) rfl ?_
    refine XS.iload X0.here hx rfl (hb hby d10_28) rfl ?_
    refine XS.i2b X0.here hx rfl (hb hby d10_30) rfl ?_
    show Steps p.tables e below (s₁.setTop (mkF m 31 #[.val (.ref b), .val (.int (0 : Int32)), .val (.ref t), .val (.int (0 : Int32)), .val (.int (1 : Int32)), .val (.int (0 : Int32)), .val (.int c0)] [(.int (c0.toInt8.toInt32)), (.int (0 : Int32)), (.ref t)])) _
    refine st_22 _ ?_
    refine XS.iinc X_19.here hx rfl (hb hby d10_32) (x := (0 : Int32)) rfl (l' := #[.val (.ref b), .val (.int (1 : Int32)), .val (.ref t), .val (.int (0 : Int32)), .val (.int (1 : Int32)), .val (.int (0 : Int32)), .val (.int c0)]) rfl ?_
    refine XS.iinc X_19.here hx rfl (hb hby d10_35) (x := (0 : Int32)) rfl (l' := #[.val (.ref b), .val (.int (1 : Int32)), .val (.ref t), .val (.int (1 : Int32)), .val (.int (1 : Int32)), .val (.int (0 : Int32)), .val (.int c0)]) rfl ?_
    refine XS.iinc X_19.here hx rfl (hb hby d10_38) (x := (0 : Int32)) rfl (l' := #[.val (.ref b), .val (.int (1 : Int32)), .val (.ref t), .val (.int (1 : Int32)), .val (.int (1 : Int32)), .val (.int (1 : Int32)), .val (.int c0)]) rfl ?_
    refine XS.goto X_19.here hx rfl (pc0 := 41) (pc' := 3) rfl (hb hby d10_41) (by decide) (by decide) ?_
    refine XS.iload X_19.here hx rfl (hb hby d10_3) rfl ?_
    refine XS.iload X_19.here hx rfl (hb hby d10_5) rfl ?_
    refine XS.icmpYes X_19.here hx rfl (pc0 := 7) (pc' := 44) rfl (hb hby d10_7) rfl (by decide) (by decide) (by decide) ?_
    show Steps p.tables e below (T_17.setTop (mkF m 44 #[.val (.ref b), .val (.int (1 : Int32)), .val (.ref t), .val (.int (1 : Int32)), .val (.int (1 : Int32)), .val (.int (1 : Int32)), .val (.int c0)] [])) _
    refine XS.iload X_19.here hx rfl (hb hby d10_44) rfl ?_
    exact Steps.refl _
  have K_27 : Keep h0 h_18 [t] := ((Keep.refl _ _).wr W_21 (Or.inl (List.mem_of_getElem? (i := 0) rfl)))
  obtain ⟨fs, hr, hrun, hended, hW, hsame⟩ := X_19.leave (v := some (.int (1 : Int32))) (fun h => by rw [Bd.returns] at h; cases h)
  refine ⟨_, _, C_26.trans (retOut X_19 hx Bd.returns rfl (Or.inl ⟨rfl, Or.inl rfl, _, rfl⟩) (hb hby d10_46) hr), hrun, hended, _, _, rfl, ?_, ⟨_, rfl⟩, hW, hsame.mono (by decide) (by decide)⟩
  show Q_cmp5_1 Z G1 kC uS sS b k t kt c0 h0 n0 (some (.int (1 : Int32))) T_17.heap _
  rw [e_20]
  exact ⟨rfl, N_24, K_27, V_25⟩
abbrev M166 : MethodName := ⟨"java/lang/StringUTF16", "compress", "([CII)[B"⟩
theorem ef_167 (m : MethodId) (x0 : Addr) (x1 : Int32) (x2 : Int32) : entryFrame m #[(.ref x0), (.int x1), (.int x2)] 6 = mkF m 0 #[.val (.ref x0), .val (.int x1), .val (.int x2), .unset, .unset, .unset] [] := by first | (simp [entryFrame, mkF, argsToLocals, Value.category]; done) | rfl
theorem d11_0 : decode jdk_52_method_16_code 0 = .ok (.iload_n 2, 1) := by decide +kernel
theorem w23 {Z : State} {a0 : Array Value} (hw : ∀ d ∈ tables_1, d.before a0 Z = true) : Jvm.Cond.before (Jvm.Cond.arrayClass Jvm.ClassFile.FieldType.byte) a0 Z = true := hw _ (List.mem_of_getElem? (i := 23) rfl)
theorem d11_1 : decode jdk_52_method_16_code 1 = .ok (.newarray .byte, 2) := by decide +kernel
theorem d11_3 : decode jdk_52_method_16_code 3 = .ok (.astore_n 3, 1) := by decide +kernel
theorem d11_4 : decode jdk_52_method_16_code 4 = .ok (.aload_n 0, 1) := by decide +kernel
theorem d11_5 : decode jdk_52_method_16_code 5 = .ok (.iload_n 1, 1) := by decide +kernel
theorem d11_6 : decode jdk_52_method_16_code 6 = .ok (.aload_n 3, 1) := by decide +kernel
theorem d11_7 : decode jdk_52_method_16_code 7 = .ok (.iconst 0, 1) := by decide +kernel
theorem d11_8 : decode jdk_52_method_16_code 8 = .ok (.iload_n 2, 1) := by decide +kernel
theorem w26 {Z : State} {a0 : Array Value} (hw : ∀ d ∈ tables_1, d.before a0 Z = true) : Jvm.Cond.before (Jvm.Cond.code ({ cls := "java/lang/StringUTF16", name := "compress", desc := "([CI[BII)I" } : Jvm.MethodName) jdk_52_method_21_code (7 : Nat) (Option.some Jvm.ClassFile.FieldType.int)) a0 Z = true := hw _ (List.mem_of_getElem? (i := 26) rfl)
theorem w21 {Z : State} {a0 : Array Value} (hw : ∀ d ∈ tables_1, d.before a0 Z = true) : Jvm.Cond.before (Jvm.Cond.initialized "java/lang/StringUTF16") a0 Z = true := hw _ (List.mem_of_getElem? (i := 21) rfl)
theorem pd_179 : parseMethodDescriptor "([CI[BII)I" = some ⟨[(.array .char), .int, (.array .byte), .int, .int], some .int⟩ := by decide +kernel
theorem d11_9 : decode jdk_52_method_16_code 9 = .ok (.invokestatic 115, 3) := by decide +kernel
theorem w24 {Z : State} {a0 : Array Value} (hw : ∀ d ∈ tables_1, d.before a0 Z = true) : Jvm.Cond.before (Jvm.Cond.methodLink "java/lang/StringUTF16" (115 : Nat) ({ cls := "java/lang/StringUTF16", name := "compress", desc := "([CI[BII)I" } : Jvm.MethodName)) a0 Z = true := hw _ (List.mem_of_getElem? (i := 24) rfl)
theorem w25 {Z : State} {a0 : Array Value} (hw : ∀ d ∈ tables_1, d.before a0 Z = true) : Jvm.Cond.before (Jvm.Cond.static ({ cls := "java/lang/StringUTF16", name := "compress", desc := "([CI[BII)I" } : Jvm.MethodName)) a0 Z = true := hw _ (List.mem_of_getElem? (i := 25) rfl)
theorem d11_12 : decode jdk_52_method_16_code 12 = .ok (.istore 4, 2) := by decide +kernel
theorem d11_14 : decode jdk_52_method_16_code 14 = .ok (.iload 4, 2) := by decide +kernel
theorem d11_16 : decode jdk_52_method_16_code 16 = .ok (.iload_n 2, 1) := by decide +kernel
theorem d11_17 : decode jdk_52_method_16_code 17 = .ok (.if_icmp .eq 40, 3) := by decide +kernel
theorem d11_57 : decode jdk_52_method_16_code 57 = .ok (.aload_n 3, 1) := by decide +kernel
theorem d11_58 : decode jdk_52_method_16_code 58 = .ok (.areturn, 1) := by decide +kernel
abbrev R_cmp3_1 : Room := { frames := 1, cells := 1, slots := 1, locals := 18 }
def Q_cmp3_1 (Z : State) (G1 : Int32) (kC : Addr) (uS : Value) (sS : Value) (b : Addr) (k : ClassId) (c0 : Int32) (h0 : Heap) (n0 : Nat) (v : Option Value) (h : Heap) (L : List Loc) : Prop := (∃ t : Addr, ∃ kt : ClassId, v = some (.ref t) ∧ Fr n0 L ∧ Keep h0 h [] ∧ (h0.size ≤ t) ∧ (Arv Z h t kt .byte (1 : Int32) [(.int (own_lo8 c0))] (.int (0 : Int32))))
set_option maxRecDepth 65536 in
set_option maxHeartbeats 40000000 in
theorem rm_cmp3_1 (l : Launch) (Z : State) (a0 : Array Value) (hw : ∀ d ∈ tables_1, d.before a0 Z = true) (ws : List Jvm.Cond) (G1 : Int32) (kC : Addr) (uS : Value) (sS : Value) (HG : own_G l Z a0 G1 kC uS sS) (h0 : Heap) (n0 : Nat) (X00 : Old Z n0 h0) (b : Addr) (k : ClassId) (c0 : Int32) (hp0 : Arv Z h0 b k .char (1 : Int32) [(.int c0)] (.int (0 : Int32))) (hh0 : ¬ ((255 : Int32) < c0)) :
    own_CP l Z M166 jdk_52_method_16_code 6 (some (.array .byte)) ws R_cmp3_1 #[(.ref b), (.int (0 : Int32)), (.int (1 : Int32))] h0 (Q_cmp3_1 Z G1 kC uS sS b k c0 h0 n0) := by
  refine own_P (plainFor_of_name pn_142) ?_
  intro p e s m below meth c s₁ S0 Bd hZ hh hx hby hml hown hnm X0 e0 hS0d
  obtain ⟨O1, P1, O2, E2, F2, hLT, OU, rU, OS, rS⟩ := id HG
  have N0 := Fr.nil n0
  have C0 : Steps p.tables e below S0 (s₁.setTop (mkF m 0 #[.val (.ref b), .val (.int (0 : Int32)), .val (.int (1 : Int32)), .unset, .unset, .unset] [])) := by rw [hS0d]; exact castTop (ef_167 m b (0 : Int32) (1 : Int32)) (Steps.refl _)
  obtain ⟨T_1, h_2, k_3, X_4, e_5, E_6, A_7, st_8⟩ := newP (aty := .byte) X0 hx hZ (w23 hw) e0 (g := (mkF m 1 #[.val (.ref b), .val (.int (0 : Int32)), .val (.int (1 : Int32)), .unset, .unset, .unset] [(.int (1 : Int32))])) rfl (hb hby d11_1) rfl (by decide : ¬ ((1 : Int32) < (0 : Int32))) (cap := 1) (by decide : (1 : Int32).toNatClampNeg ≤ 1) (by decide) (by decide) (by decide)
  obtain ⟨a_9, g_10⟩ : ∃ z, z = h0.size := ⟨_, rfl⟩
  rw [← g_10] at A_7 st_8
  have V_12 : Arv Z h_2 a_9 k_3 .byte (1 : Int32) [] (.int (0 : Int32)) := Arv.new A_7 (by decide : ¬ ((1 : Int32) < (0 : Int32)))
  have V_11 : Arv Z h_2 a_9 k_3 .byte (1 : Int32) [(.int (0 : Int32))] (.int (0 : Int32)) := (V_12.pad (pad_rep [] (.int (0 : Int32)) 1))
  have V_13 : Arv Z h_2 b k .char (1 : Int32) [(.int c0)] (.int (0 : Int32)) := (hp0.ext E_6)
  have O_14 : Old Z n0 h_2 := (X00.ext E_6)
  obtain ⟨_, _, ⟨T_15, L_15, k_15, n_15⟩, -, X_15, ⟨Lc_15, hQ_15, l_15, y_15, z_15⟩, st_15⟩ := Jvm.LawKit.callS X_4 hx (y := M140) hown (mvT hZ (w24 hw)) (mvT hZ (w25 hw)) (mvT hZ (w21 hw)) (mvT hZ (w26 hw)) (by decide) (backOf (W := 0) (rm_cmp5_1 l Z a0 hw [] G1 kC uS sS HG h_2 n0 O_14 b k a_9 k_3 c0 V_13 V_11 (Nat.le_trans (own_n0 X00) (Nat.le_of_eq g_10.symm)) (Nat.ne_of_lt (Nat.lt_of_lt_of_le hp0.lt (Nat.le_trans (Nat.le_refl _) (Nat.le_of_eq g_10.symm)))) hh0) hZ (w26 hw) (w21 hw) (by decide) (by decide)) (g := (mkF m 9 #[.val (.ref b), .val (.int (0 : Int32)), .val (.int (1 : Int32)), .val (.ref a_9), .unset, .unset] [(.int (1 : Int32)), (.int (0 : Int32)), (.ref a_9), (.int (0 : Int32)), (.ref b)])) rfl (by rw [hml]; rfl) (argsL := [(.ref b), (.int (0 : Int32)), (.ref a_9), (.int (0 : Int32)), (.int (1 : Int32))]) (rest := []) (lenOf pd_179 rfl) rfl (by show 2 * 0 + _ ≤ _; exact Nat.le_of_eq rfl) (hb hby d11_9) (fun _ _ => ⟨rfl, e_5, (by decide : 1 + 0 ≤ _), (by decide : 1 + 0 ≤ _)⟩)
  dsimp only [Pt.U, Pt.locs, Pt.cells, Pt.slots] at X_15 l_15 y_15 z_15 st_15 hQ_15
  subst l_15 y_15 z_15
  obtain ⟨rfl, N_16, K_17, g_18⟩ := hQ_15
  have N_19 := Fr.app N0 N_16
  have C_20 : Steps p.tables e below S0 (T_15.setTop (mkF m 58 #[.val (.ref b), .val (.int (0 : Int32)), .val (.int (1 : Int32)), .val (.ref a_9), .val (.int (1 : Int32)), .unset] [(.ref a_9)])) := by
    refine C0.trans ?_
    refine XS.iloadN X0.here hx rfl (hb hby d11_0) rfl ?_
    refine st_8 _ ?_
    refine XS.astoreN X_4.here hx rfl (hb hby d11_3) rfl rfl (l' := #[.val (.ref b), .val (.int (0 : Int32)), .val (.int (1 : Int32)), .val (.ref a_9), .unset, .unset]) rfl ?_
    refine XS.aloadN X_4.here hx rfl (hb hby d11_4) rfl rfl ?_
    refine XS.iloadN X_4.here hx rfl (hb hby d11_5) rfl ?_
    refine XS.aloadN X_4.here hx rfl (hb hby d11_6) rfl rfl ?_
    refine XS.iconst X_4.here hx rfl (hb hby d11_7) ?_
    refine XS.iloadN X_4.here hx rfl (hb hby d11_8) rfl ?_
    show Steps p.tables e below (T_1.setTop (mkF m 9 #[.val (.ref b), .val (.int (0 : Int32)), .val (.int (1 : Int32)), .val (.ref a_9), .unset, .unset] [(.int (1 : Int32)), (.int (0 : Int32)), (.ref a_9), (.int (0 : Int32)), (.ref b)])) _
    refine st_15 _ ?_
    refine XS.istore X_15.here hx rfl (hb hby d11_12) rfl (l' := #[.val (.ref b), .val (.int (0 : Int32)), .val (.int (1 : Int32)), .val (.ref a_9), .val (.int (1 : Int32)), .unset]) rfl ?_
    refine XS.iload X_15.here hx rfl (hb hby d11_14) rfl ?_
    refine XS.iloadN X_15.here hx rfl (hb hby d11_16) rfl ?_
    refine XS.icmpYes X_15.here hx rfl (pc0 := 17) (pc' := 57) rfl (hb hby d11_17) rfl (by decide) (by decide) (by decide) ?_
    refine XS.aloadN X_15.here hx rfl (hb hby d11_57) rfl rfl ?_
    exact Steps.refl _
  have K_21 : Keep h0 T_15.heap [] := (((Keep.refl _ _).ext E_6).trans K_17 (allS (Or.inr (Nat.le_trans (Nat.le_refl _) (Nat.le_of_eq g_10.symm))) all0))
  obtain ⟨fs, hr, hrun, hended, hW, hsame⟩ := X_15.leave (v := some (.ref a_9)) (fun h => by rw [Bd.returns] at h; cases h)
  refine ⟨_, _, C_20.trans (retOut X_15 hx Bd.returns rfl (Or.inr (Or.inr (Or.inr (Or.inr ⟨rfl, rfl, rfl⟩)))) (hb hby d11_58) hr), hrun, hended, _, _, rfl, ?_, ⟨_, rfl⟩, hW, hsame.mono (by decide) (by decide)⟩
  show Q_cmp3_1 Z G1 kC uS sS b k c0 h0 n0 (some (.ref a_9)) T_15.heap _
  exact ⟨a_9, k_3, rfl, N_19, K_21, (Nat.le_trans (Nat.le_refl _) (Nat.le_of_eq g_10.symm)), g_18⟩
abbrev M189 : MethodName := ⟨"java/lang/StringUTF16", "coderFromArrayLen", "([BI)B"⟩
theorem ef_190 (m : MethodId) (x0 : Addr) (x1 : Int32) : entryFrame m #[(.ref x0), (.int x1)] 2 = mkF m 0 #[.val (.ref x0), .val (.int x1)] [] := by first | (simp [entryFrame, mkF, argsToLocals, Value.category]; done) | rfl
theorem d12_0 : decode jdk_52_method_15_code 0 = .ok (.iload_n 1, 1) := by decide +kernel
theorem d12_1 : decode jdk_52_method_15_code 1 = .ok (.aload_n 0, 1) := by decide +kernel
theorem d12_2 : decode jdk_52_method_15_code 2 = .ok (.arraylength, 1) := by decide +kernel
theorem d12_3 : decode jdk_52_method_15_code 3 = .ok (.isub, 1) := by decide +kernel
theorem d12_4 : decode jdk_52_method_15_code 4 = .ok (.bipush 31, 2) := by decide +kernel
theorem d12_6 : decode jdk_52_method_15_code 6 = .ok (.iushr, 1) := by decide +kernel
theorem d12_7 : decode jdk_52_method_15_code 7 = .ok (.i2b, 1) := by decide +kernel
theorem d12_8 : decode jdk_52_method_15_code 8 = .ok (.ireturn, 1) := by decide +kernel
abbrev R_codl_1 : Room := { frames := 0, cells := 0, slots := 0, locals := 0 }
def Q_codl_1 (Z : State) (G1 : Int32) (kC : Addr) (uS : Value) (sS : Value) (t : Addr) (kt : ClassId) (y0 : Int32) (h0 : Heap) (n0 : Nat) (v : Option Value) (h : Heap) (L : List Loc) : Prop := (v = some (.int (0 : Int32)) ∧ Fr n0 L ∧ h = h0)
set_option maxRecDepth 65536 in
set_option maxHeartbeats 40000000 in
theorem rm_codl_1 (l : Launch) (Z : State) (a0 : Array Value) (hw : ∀ d ∈ tables_1, d.before a0 Z = true) (ws : List Jvm.Cond) (G1 : Int32) (kC : Addr) (uS : Value) (sS : Value) (HG : own_G l Z a0 G1 kC uS sS) (h0 : Heap) (n0 : Nat) (X00 : Old Z n0 h0) (t : Addr) (kt : ClassId) (y0 : Int32) (hp0 : Arv Z h0 t kt .byte (1 : Int32) [(.int y0)] (.int (0 : Int32))) :
    own_CP l Z M189 jdk_52_method_15_code 2 (some .byte) ws R_codl_1 #[(.ref t), (.int (1 : Int32))] h0 (Q_codl_1 Z G1 kC uS sS t kt y0 h0 n0) := by
  refine own_P (plainFor_of_name pn_142) ?_
  intro p e s m below meth c s₁ S0 Bd hZ hh hx hby hml hown hnm X0 e0 hS0d
  obtain ⟨O1, P1, O2, E2, F2, hLT, OU, rU, OS, rS⟩ := id HG
  have N0 := Fr.nil n0
  have C0 : Steps p.tables e below S0 (s₁.setTop (mkF m 0 #[.val (.ref t), .val (.int (1 : Int32))] [])) := by rw [hS0d]; exact castTop (ef_190 m t (1 : Int32)) (Steps.refl _)
  obtain ⟨c_1, A_2, q_3, S_4, M_5, H_6, U_7⟩ := id hp0
  have C_8 : Steps p.tables e below S0 (s₁.setTop (mkF m 8 #[.val (.ref t), .val (.int (1 : Int32))] [(.int (0 : Int32))])) := by
    refine C0.trans ?_
    refine XS.iloadN X0.here hx rfl (hb hby d12_0) rfl ?_
    refine XS.aloadN X0.here hx rfl (hb hby d12_1) rfl rfl ?_
    refine X0.arraylength hx (by rw [e0]; exact A_2.1) (State.isArrayOf_alike hZ.alike A_2.2.1) (g := (mkF m 2 #[.val (.ref t), .val (.int (1 : Int32))] [(.ref t), (.int (1 : Int32))])) rfl rfl (hb hby d12_2) _ ?_
    rw [len_of S_4 M_5]
    refine XS.isub X0.here hx rfl (hb hby d12_3) rfl ?_
    refine XS.bipush X0.here hx rfl (hb hby d12_4) ?_
    refine XS.iushr X0.here hx rfl (hb hby d12_6) rfl ?_
    refine XS.i2b X0.here hx rfl (hb hby d12_7) rfl ?_
    exact Steps.refl _
  obtain ⟨fs, hr, hrun, hended, hW, hsame⟩ := X0.leave (v := some (.int (0 : Int32))) (fun h => by rw [Bd.returns] at h; cases h)
  refine ⟨_, _, C_8.trans (retN X0 hx (t := .byte) Bd.returns (by simp) (hb hby d12_8) hr), hrun, hended, _, _, rfl, ?_, ⟨_, rfl⟩, hW, hsame.mono (by decide) (by decide)⟩
  show Q_codl_1 Z G1 kC uS sS t kt y0 h0 n0 (some (.int (0 : Int32))) s₁.heap _
  rw [e0]
  exact ⟨rfl, N0, rfl⟩
theorem w18 {Z : State} {a0 : Array Value} (hw : ∀ d ∈ tables_1, d.before a0 Z = true) : Jvm.Cond.before (Jvm.Cond.fieldLink "java/lang/String" (38 : Nat) "java/lang/String" "COMPACT_STRINGS" "Z") a0 Z = true := hw _ (List.mem_of_getElem? (i := 18) rfl)
theorem d0_27 : decode jdk_42_method_149_code 27 = .ok (.getstatic 38, 3) := by decide +kernel
theorem d0_30 : decode jdk_42_method_149_code 30 = .ok (.ifCond .eq 28, 3) := by decide +kernel
theorem d0_33 : decode jdk_42_method_149_code 33 = .ok (.aload_n 1, 1) := by decide +kernel
theorem d0_34 : decode jdk_42_method_149_code 34 = .ok (.iload_n 2, 1) := by decide +kernel
theorem d0_35 : decode jdk_42_method_149_code 35 = .ok (.iload_n 3, 1) := by decide +kernel
theorem w22 {Z : State} {a0 : Array Value} (hw : ∀ d ∈ tables_1, d.before a0 Z = true) : Jvm.Cond.before (Jvm.Cond.code ({ cls := "java/lang/StringUTF16", name := "compress", desc := "([CII)[B" } : Jvm.MethodName) jdk_52_method_16_code (6 : Nat) (Option.some (Jvm.ClassFile.FieldType.array Jvm.ClassFile.FieldType.byte))) a0 Z = true := hw _ (List.mem_of_getElem? (i := 22) rfl)
theorem pd_206 : parseMethodDescriptor "([CII)[B" = some ⟨[(.array .char), .int, .int], some (.array .byte)⟩ := by decide +kernel
theorem d0_36 : decode jdk_42_method_149_code 36 = .ok (.invokestatic 177, 3) := by decide +kernel
theorem w19 {Z : State} {a0 : Array Value} (hw : ∀ d ∈ tables_1, d.before a0 Z = true) : Jvm.Cond.before (Jvm.Cond.methodLink "java/lang/String" (177 : Nat) ({ cls := "java/lang/StringUTF16", name := "compress", desc := "([CII)[B" } : Jvm.MethodName)) a0 Z = true := hw _ (List.mem_of_getElem? (i := 19) rfl)
theorem w20 {Z : State} {a0 : Array Value} (hw : ∀ d ∈ tables_1, d.before a0 Z = true) : Jvm.Cond.before (Jvm.Cond.static ({ cls := "java/lang/StringUTF16", name := "compress", desc := "([CII)[B" } : Jvm.MethodName)) a0 Z = true := hw _ (List.mem_of_getElem? (i := 20) rfl)
theorem d0_39 : decode jdk_42_method_149_code 39 = .ok (.astore 5, 2) := by decide +kernel
theorem d0_41 : decode jdk_42_method_149_code 41 = .ok (.aload_n 0, 1) := by decide +kernel
theorem d0_42 : decode jdk_42_method_149_code 42 = .ok (.aload 5, 2) := by decide +kernel
theorem d0_44 : decode jdk_42_method_149_code 44 = .ok (.iload_n 3, 1) := by decide +kernel
theorem w29 {Z : State} {a0 : Array Value} (hw : ∀ d ∈ tables_1, d.before a0 Z = true) : Jvm.Cond.before (Jvm.Cond.code ({ cls := "java/lang/StringUTF16", name := "coderFromArrayLen", desc := "([BI)B" } : Jvm.MethodName) jdk_52_method_15_code (2 : Nat) (Option.some Jvm.ClassFile.FieldType.byte)) a0 Z = true := hw _ (List.mem_of_getElem? (i := 29) rfl)
theorem pd_215 : parseMethodDescriptor "([BI)B" = some ⟨[(.array .byte), .int], some .byte⟩ := by decide +kernel
theorem d0_45 : decode jdk_42_method_149_code 45 = .ok (.invokestatic 47, 3) := by decide +kernel
theorem w27 {Z : State} {a0 : Array Value} (hw : ∀ d ∈ tables_1, d.before a0 Z = true) : Jvm.Cond.before (Jvm.Cond.methodLink "java/lang/String" (47 : Nat) ({ cls := "java/lang/StringUTF16", name := "coderFromArrayLen", desc := "([BI)B" } : Jvm.MethodName)) a0 Z = true := hw _ (List.mem_of_getElem? (i := 27) rfl)
theorem w28 {Z : State} {a0 : Array Value} (hw : ∀ d ∈ tables_1, d.before a0 Z = true) : Jvm.Cond.before (Jvm.Cond.static ({ cls := "java/lang/StringUTF16", name := "coderFromArrayLen", desc := "([BI)B" } : Jvm.MethodName)) a0 Z = true := hw _ (List.mem_of_getElem? (i := 28) rfl)
theorem d0_48 : decode jdk_42_method_149_code 48 = .ok (.putfield 15, 3) := by decide +kernel
theorem d0_51 : decode jdk_42_method_149_code 51 = .ok (.aload_n 0, 1) := by decide +kernel
theorem d0_52 : decode jdk_42_method_149_code 52 = .ok (.aload 5, 2) := by decide +kernel
theorem d0_54 : decode jdk_42_method_149_code 54 = .ok (.putfield 9, 3) := by decide +kernel
theorem d0_57 : decode jdk_42_method_149_code 57 = .ok (.return_, 1) := by decide +kernel
abbrev R_si4_1 : Room := { frames := 2, cells := 1, slots := 1, locals := 35 }
def Q_si4_1 (Z : State) (G1 : Int32) (kC : Addr) (uS : Value) (sS : Value) (x : Addr) (b : Addr) (k : ClassId) (c0 : Int32) (h0 : Heap) (n0 : Nat) (v : Option Value) (h : Heap) (L : List Loc) : Prop := (∃ t : Addr, ∃ kt : ClassId, v = none ∧ Fr n0 L ∧ Keep h0 h [x] ∧ (Exa Z h x "java/lang/String") ∧ (Fld Z h x "java/lang/String" "coder" "B" (.int (0 : Int32))) ∧ (Fld Z h x "java/lang/String" "value" "[B" (.ref t)) ∧ (h0.size ≤ t) ∧ (Arv Z h t kt .byte (1 : Int32) [(.int (own_lo8 c0))] (.int (0 : Int32))))
set_option maxRecDepth 65536 in
set_option maxHeartbeats 40000000 in
theorem rm_si4_1 (l : Launch) (Z : State) (a0 : Array Value) (hw : ∀ d ∈ tables_1, d.before a0 Z = true) (ws : List Jvm.Cond) (G1 : Int32) (kC : Addr) (uS : Value) (sS : Value) (HG : own_G l Z a0 G1 kC uS sS) (h0 : Heap) (n0 : Nat) (X00 : Old Z n0 h0) (x : Addr) (b : Addr) (k : ClassId) (c0 : Int32) (hp0 : Exa Z h0 x "java/lang/String") (hp1 : Fld Z h0 x "java/lang/String" "value" "[B" .null) (hp2 : Fld Z h0 x "java/lang/String" "coder" "B" (.int (0 : Int32))) (hp3 : n0 ≤ x) (hp4 : Arv Z h0 b k .char (1 : Int32) [(.int c0)] (.int (0 : Int32))) (hh0 : ¬ ((255 : Int32) < c0)) :
    own_CP l Z M0 jdk_42_method_149_code 6 none ws R_si4_1 #[(.ref x), (.ref b), (.int (0 : Int32)), (.int (1 : Int32)), .null] h0 (Q_si4_1 Z G1 kC uS sS x b k c0 h0 n0) := by
  refine own_P (plainFor_of_name pn_2) ?_
  intro p e s m below meth c s₁ S0 Bd hZ hh hx hby hml hown hnm X0 e0 hS0d
  obtain ⟨O1, P1, O2, E2, F2, hLT, OU, rU, OS, rS⟩ := id HG
  have N0 := Fr.nil n0
  have C0 : Steps p.tables e below S0 (s₁.setTop (mkF m 0 #[.val (.ref x), .val (.ref b), .val (.int (0 : Int32)), .val (.int (1 : Int32)), .val .null, .unset] [])) := by rw [hS0d]; exact castTop (ef_1 m x b (0 : Int32) (1 : Int32)) (Steps.refl _)
  obtain ⟨T_1, X_2, e_3, st_4⟩ := initO X0 hx hZ hown (w15 hw) (w16 hw) (w17 hw) e0 (g := (mkF m 1 #[.val (.ref x), .val (.ref b), .val (.int (0 : Int32)), .val (.int (1 : Int32)), .val .null, .unset] [(.ref x)])) rfl (by rw [hml]; rfl) rfl (hb hby d0_1) (by decide) (W := 0) (by show 2 * 0 + _ ≤ _; exact Nat.le_of_eq rfl) (by decide)
  obtain ⟨T_5, X_6, e_7, st_8⟩ := getS X_2 hx hZ (host := "") hown (w18 hw) Via.refl e_3 (O1.ext X00.2) (g := (mkF m 27 #[.val (.ref x), .val (.ref b), .val (.int (0 : Int32)), .val (.int (1 : Int32)), .val .null, .unset] [])) rfl (hb hby d0_27)
  obtain ⟨_, _, ⟨T_9, L_9, k_9, n_9⟩, -, X_9, ⟨Lc_9, hQ_9, l_9, y_9, z_9⟩, st_9⟩ := Jvm.LawKit.callS X_6 hx (y := M166) hown (mvT hZ (w19 hw)) (mvT hZ (w20 hw)) (mvT hZ (w21 hw)) (mvT hZ (w22 hw)) (by decide) (backOf (W := 0) (rm_cmp3_1 l Z a0 hw [] G1 kC uS sS HG h0 n0 X00 b k c0 hp4 hh0) hZ (w22 hw) (w21 hw) (by decide) (by decide)) (g := (mkF m 36 #[.val (.ref x), .val (.ref b), .val (.int (0 : Int32)), .val (.int (1 : Int32)), .val .null, .unset] [(.int (1 : Int32)), (.int (0 : Int32)), (.ref b)])) rfl (by rw [hml]; rfl) (argsL := [(.ref b), (.int (0 : Int32)), (.int (1 : Int32))]) (rest := []) (lenOf pd_206 rfl) rfl (by show 2 * 0 + _ ≤ _; exact Nat.le_of_eq rfl) (hb hby d0_36) (fun _ _ => ⟨rfl, e_7, (by decide : 0 + 1 ≤ _), (by decide : 0 + 1 ≤ _)⟩)
  dsimp only [Pt.U, Pt.locs, Pt.cells, Pt.slots] at X_9 l_9 y_9 z_9 st_9 hQ_9
  subst l_9 y_9 z_9
  obtain ⟨a_10, k_11, rfl, N_12, K_13, g_14, g_15⟩ := hQ_9
  have N_16 := Fr.app N0 N_12
  have O_17 : Old Z n0 T_9.heap := (X00.keep K_13 all0)
  obtain ⟨_, _, ⟨T_18, L_18, k_18, n_18⟩, -, X_18, ⟨Lc_18, hQ_18, l_18, y_18, z_18⟩, st_18⟩ := Jvm.LawKit.callS X_9 hx (y := M189) hown (mvT hZ (w27 hw)) (mvT hZ (w28 hw)) (mvT hZ (w21 hw)) (mvT hZ (w29 hw)) (by decide) (backOf (W := 1) (rm_codl_1 l Z a0 hw [] G1 kC uS sS HG T_9.heap n0 O_17 a_10 k_11 (own_lo8 c0) g_15) hZ (w29 hw) (w21 hw) (by decide) (by decide)) (g := (mkF m 45 #[.val (.ref x), .val (.ref b), .val (.int (0 : Int32)), .val (.int (1 : Int32)), .val .null, .val (.ref a_10)] [(.int (1 : Int32)), (.ref a_10), (.ref x)])) rfl (by rw [hml]; rfl) (argsL := [(.ref a_10), (.int (1 : Int32))]) (rest := [(.ref x)]) (lenOf pd_215 rfl) rfl (by show 2 * 0 + _ ≤ _; exact Nat.le_of_eq rfl) (hb hby d0_45) (fun _ _ => ⟨rfl, rfl, (by decide : 1 + 0 ≤ _), (by decide : 1 + 0 ≤ _)⟩)
  dsimp only [Pt.U, Pt.locs, Pt.cells, Pt.slots] at X_18 l_18 y_18 z_18 st_18 hQ_18
  subst l_18 y_18 z_18
  obtain ⟨rfl, N_19, e_20⟩ := hQ_18
  have N_21 := Fr.app N_16 N_19
  have e_22 : T_18.heap = T_9.heap := e_20
  have F_23 : Fld Z T_9.heap x "java/lang/String" "coder" "B" (.int (0 : Int32)) := (hp2.keep K_13 nin0)
  have E_24 : Exa Z T_9.heap x "java/lang/String" := (hp0.keep K_13)
  obtain ⟨T_25, h_26, X_27, e_28, W_29, st_30⟩ := putF X_18 hx hZ hown (host := "") (Or.inl (w30 hw)) Via.refl e_22 F_23 E_24 (Or.inr ⟨(w31 hw), rfl, hnm⟩) (w5 hw) (ty := .byte) (by decide) rfl (by decide) (g := (mkF m 48 #[.val (.ref x), .val (.ref b), .val (.int (0 : Int32)), .val (.int (1 : Int32)), .val .null, .val (.ref a_10)] [(.int (0 : Int32)), (.ref x)])) rfl rfl (hb hby d0_48)
  have N_31 := Fr.snoc X_27 N_21 hp3
  have F_32 : Fld Z h_26 x "java/lang/String" "coder" "B" (.int (0 : Int32)) := F_23.same W_29
  have F_33 : Fld Z h_26 x "java/lang/String" "value" "[B" .null := ((hp1.keep K_13 nin0).other W_29 (Or.inr (slot_ne (Or.inr (w33 hw)) (Or.inr (w31 hw)) (by decide) (t := (.array .byte)) (by decide) (t' := .byte) (by decide))))
  have E_34 : Exa Z h_26 x "java/lang/String" := (E_24.wr W_29)
  obtain ⟨T_35, h_36, X_37, e_38, W_39, st_40⟩ := putF X_27 hx hZ hown (host := "") (Or.inl (w32 hw)) Via.refl e_28 F_33 E_34 (Or.inr ⟨(w33 hw), rfl, hnm⟩) (w5 hw) (ty := (.array .byte)) (by decide) rfl rfl (g := (mkF m 54 #[.val (.ref x), .val (.ref b), .val (.int (0 : Int32)), .val (.int (1 : Int32)), .val .null, .val (.ref a_10)] [(.ref a_10), (.ref x)])) rfl rfl (hb hby d0_54)
  have N_41 := Fr.snoc X_37 N_31 hp3
  have F_42 : Fld Z h_36 x "java/lang/String" "value" "[B" (.ref a_10) := F_33.same W_39
  have C_43 : Steps p.tables e below S0 (T_35.setTop (mkF m 57 #[.val (.ref x), .val (.ref b), .val (.int (0 : Int32)), .val (.int (1 : Int32)), .val .null, .val (.ref a_10)] [])) := by
    refine C0.trans ?_
    refine XS.aloadN X0.here hx rfl (hb hby d0_0) rfl rfl ?_
    refine st_4 _ ?_
    refine XS.iloadN X_2.here hx rfl (hb hby d0_4) rfl ?_
    refine XS.ifYes X_2.here hx rfl (pc0 := 5) (pc' := 27) rfl (hb hby d0_5) rfl (by decide) (by decide) (by decide) ?_
    refine st_8 _ ?_
    refine XS.ifNo X_6.here hx rfl (hb hby d0_30) rfl (i0_eq_f P1) ?_
    refine XS.aloadN X_6.here hx rfl (hb hby d0_33) rfl rfl ?_
    refine XS.iloadN X_6.here hx rfl (hb hby d0_34) rfl ?_
    show Steps p.tables e below (T_5.setTop (mkF m 35 #[.val (.ref x), .val (.ref b), .val (.int (0 : Int32)), .val (.int (1 : Int32)), .val .null, .unset] [(.int (0 : Int32)), (.ref b)])) _
    refine XS.iloadN X_6.here hx rfl (hb hby d0_35) rfl ?_
    refine st_9 _ ?_
    refine XS.astore X_9.here hx rfl (hb hby d0_39) rfl rfl (l' := #[.val (.ref x), .val (.ref b), .val (.int (0 : Int32)), .val (.int (1 : Int32)), .val .null, .val (.ref a_10)]) rfl ?_
    refine XS.aloadN X_9.here hx rfl (hb hby d0_41) rfl rfl ?_
    refine XS.aload X_9.here hx rfl (hb hby d0_42) rfl rfl ?_
    refine XS.iloadN X_9.here hx rfl (hb hby d0_44) rfl ?_
    refine st_18 _ ?_
    refine st_30 _ ?_
    show Steps p.tables e below (T_25.setTop (mkF m 51 #[.val (.ref x), .val (.ref b), .val (.int (0 : Int32)), .val (.int (1 : Int32)), .val .null, .val (.ref a_10)] [])) _
    refine XS.aloadN X_27.here hx rfl (hb hby d0_51) rfl rfl ?_
    refine XS.aload X_27.here hx rfl (hb hby d0_52) rfl rfl ?_
    refine st_40 _ ?_
    exact Steps.refl _
  have E_44 : Exa Z h_36 x "java/lang/String" := (E_34.wr W_39)
  have F_45 : Fld Z h_36 x "java/lang/String" "coder" "B" (.int (0 : Int32)) := (F_32.other W_39 (Or.inr (slot_ne (Or.inr (w31 hw)) (Or.inr (w33 hw)) (by decide) (t := .byte) (by decide) (t' := (.array .byte)) (by decide))))
  have V_46 : Arv Z h_36 a_10 k_11 .byte (1 : Int32) [(.int (own_lo8 c0))] (.int (0 : Int32)) := ((g_15.other W_29 (Ne.symm (Nat.ne_of_lt (Nat.lt_of_lt_of_le hp0.lt (Nat.le_trans (Nat.le_refl _) g_14))))).other W_39 (Ne.symm (Nat.ne_of_lt (Nat.lt_of_lt_of_le hp0.lt (Nat.le_trans (Nat.le_refl _) g_14)))))
  have K_47 : Keep h0 h_36 [x] := ((((Keep.refl _ _).trans K_13 all0).wr W_29 (Or.inl (List.mem_of_getElem? (i := 0) rfl))).wr W_39 (Or.inl (List.mem_of_getElem? (i := 0) rfl)))
  obtain ⟨fs, hr, hrun, hended, hW, hsame⟩ := X_37.leave (v := none) (fun _ => rfl)
  refine ⟨_, _, C_43.trans (X_37.returnOut hx Bd.returns (hb hby d0_57) hr), hrun, hended, _, _, rfl, ?_, ⟨_, rfl⟩, hW, hsame.mono (by decide) (by decide)⟩
  show Q_si4_1 Z G1 kC uS sS x b k c0 h0 n0 (none) T_35.heap _
  rw [e_38]
  exact ⟨a_10, k_11, rfl, N_41, K_47, E_44, F_45, F_42, (Nat.le_trans (Nat.le_refl _) g_14), V_46⟩
abbrev R_si1_1 : Room := { frames := 3, cells := 1, slots := 1, locals := 52 }
def Q_si1_1 (Z : State) (G1 : Int32) (kC : Addr) (uS : Value) (sS : Value) (x : Addr) (b : Addr) (k : ClassId) (c0 : Int32) (h0 : Heap) (n0 : Nat) (v : Option Value) (h : Heap) (L : List Loc) : Prop := (∃ t : Addr, ∃ kt : ClassId, v = none ∧ Fr n0 L ∧ Keep h0 h [x] ∧ (Exa Z h x "java/lang/String") ∧ (Fld Z h x "java/lang/String" "coder" "B" (.int (0 : Int32))) ∧ (Fld Z h x "java/lang/String" "value" "[B" (.ref t)) ∧ (h0.size ≤ t) ∧ (Arv Z h t kt .byte (1 : Int32) [(.int (own_lo8 c0))] (.int (0 : Int32))))
set_option maxRecDepth 65536 in
set_option maxHeartbeats 40000000 in
theorem rm_si1_1 (l : Launch) (Z : State) (a0 : Array Value) (hw : ∀ d ∈ tables_1, d.before a0 Z = true) (ws : List Jvm.Cond) (G1 : Int32) (kC : Addr) (uS : Value) (sS : Value) (HG : own_G l Z a0 G1 kC uS sS) (h0 : Heap) (n0 : Nat) (X00 : Old Z n0 h0) (x : Addr) (b : Addr) (k : ClassId) (c0 : Int32) (hp0 : Exa Z h0 x "java/lang/String") (hp1 : Fld Z h0 x "java/lang/String" "value" "[B" .null) (hp2 : Fld Z h0 x "java/lang/String" "coder" "B" (.int (0 : Int32))) (hp3 : n0 ≤ x) (hp4 : Arv Z h0 b k .char (1 : Int32) [(.int c0)] (.int (0 : Int32))) (hh0 : ¬ ((255 : Int32) < c0)) :
    own_CP l Z M25 jdk_42_method_3_code 2 none ws R_si1_1 #[(.ref x), (.ref b)] h0 (Q_si1_1 Z G1 kC uS sS x b k c0 h0 n0) := by
  refine own_P (plainFor_of_name pn_2) ?_
  intro p e s m below meth c s₁ S0 Bd hZ hh hx hby hml hown hnm X0 e0 hS0d
  obtain ⟨O1, P1, O2, E2, F2, hLT, OU, rU, OS, rS⟩ := id HG
  have N0 := Fr.nil n0
  have C0 : Steps p.tables e below S0 (s₁.setTop (mkF m 0 #[.val (.ref x), .val (.ref b)] [])) := by rw [hS0d]; exact castTop (ef_26 m x b) (Steps.refl _)
  obtain ⟨c_1, A_2, q_3, S_4, M_5, H_6, U_7⟩ := id hp4
  obtain ⟨_, _, ⟨T_8, L_8, k_8, n_8⟩, -, X_8, ⟨Lc_8, hQ_8, l_8, y_8, z_8⟩, st_8⟩ := X0.specialBack hx (y := M0) rfl hown (mvT hZ (w11 hw)) (mvT hZ (w12 hw)) (mvT hZ (w14 hw)) (by decide) (backOf (W := 0) (rm_si4_1 l Z a0 hw [] G1 kC uS sS HG h0 n0 X00 x b k c0 hp0 hp1 hp2 hp3 hp4 hh0) hZ (w14 hw) (w6 hw) (by decide) (by decide)) (g := (mkF m 6 #[.val (.ref x), .val (.ref b)] [.null, (.int (1 : Int32)), (.int (0 : Int32)), (.ref b), (.ref x)])) rfl (by rw [hml]; rfl) (Steps.refl _) (a := x) (argsL := [(.ref b), (.int (0 : Int32)), (.int (1 : Int32)), .null]) (rest := []) (lenOf pd_35 rfl) rfl (by show 2 * 0 + _ ≤ _; exact Nat.le_of_eq rfl) (hb hby d1_6) (fun _ _ => ⟨rfl, e0, (by decide : 0 + 1 ≤ _), (by decide : 0 + 1 ≤ _)⟩)
  dsimp only [Pt.U, Pt.locs, Pt.cells, Pt.slots] at X_8 l_8 y_8 z_8 st_8 hQ_8
  subst l_8 y_8 z_8
  obtain ⟨a_9, k_10, rfl, N_11, K_12, g_13, g_14, g_15, g_16, g_17⟩ := hQ_8
  have N_18 := Fr.app N0 N_11
  have C_19 : Steps p.tables e below S0 (T_8.setTop (mkF m 9 #[.val (.ref x), .val (.ref b)] [])) := by
    refine C0.trans ?_
    refine XS.aloadN X0.here hx rfl (hb hby d1_0) rfl rfl ?_
    refine XS.aloadN X0.here hx rfl (hb hby d1_1) rfl rfl ?_
    refine XS.iconst X0.here hx rfl (hb hby d1_2) ?_
    refine XS.aloadN X0.here hx rfl (hb hby d1_3) rfl rfl ?_
    refine X0.arraylength hx (by rw [e0]; exact A_2.1) (State.isArrayOf_alike hZ.alike A_2.2.1) (g := (mkF m 4 #[.val (.ref x), .val (.ref b)] [(.ref b), (.int (0 : Int32)), (.ref b), (.ref x)])) rfl rfl (hb hby d1_4) _ ?_
    rw [len_of S_4 M_5]
    refine XS.aconstNull X0.here hx rfl (hb hby d1_5) ?_
    refine st_8.trans ?_
    exact Steps.refl _
  have K_20 : Keep h0 T_8.heap [x] := ((Keep.refl _ _).trans K_12 (allS (Or.inl (List.mem_of_getElem? (i := 0) rfl)) all0))
  obtain ⟨fs, hr, hrun, hended, hW, hsame⟩ := X_8.leave (v := none) (fun _ => rfl)
  refine ⟨_, _, C_19.trans (X_8.returnOut hx Bd.returns (hb hby d1_9) hr), hrun, hended, _, _, rfl, ?_, ⟨_, rfl⟩, hW, hsame.mono (by decide) (by decide)⟩
  show Q_si1_1 Z G1 kC uS sS x b k c0 h0 n0 (none) T_8.heap _
  exact ⟨a_9, k_10, rfl, N_18, K_20, g_13, g_14, g_15, (Nat.le_trans (Nat.le_refl _) g_16), g_17⟩
abbrev R_cmp5_2 : Room := { frames := 0, cells := 0, slots := 0, locals := 0 }
def Q_cmp5_2 (Z : State) (G1 : Int32) (kC : Addr) (uS : Value) (sS : Value) (b : Addr) (k : ClassId) (t : Addr) (kt : ClassId) (c0 : Int32) (c1 : Int32) (h0 : Heap) (n0 : Nat) (v : Option Value) (h : Heap) (L : List Loc) : Prop := (v = some (.int (2 : Int32)) ∧ Fr n0 L ∧ Keep h0 h [t] ∧ (Arv Z h t kt .byte (2 : Int32) [(.int (own_lo8 c0)), (.int (own_lo8 c1))] (.int (0 : Int32))))
set_option maxRecDepth 65536 in
set_option maxHeartbeats 40000000 in
theorem rm_cmp5_2 (l : Launch) (Z : State) (a0 : Array Value) (hw : ∀ d ∈ tables_1, d.before a0 Z = true) (ws : List Jvm.Cond) (G1 : Int32) (kC : Addr) (uS : Value) (sS : Value) (HG : own_G l Z a0 G1 kC uS sS) (h0 : Heap) (n0 : Nat) (X00 : Old Z n0 h0) (b : Addr) (k : ClassId) (t : Addr) (kt : ClassId) (c0 : Int32) (c1 : Int32) (hp0 : Arv Z h0 b k .char (2 : Int32) [(.int c0), (.int c1)] (.int (0 : Int32))) (hp1 : Arv Z h0 t kt .byte (2 : Int32) [(.int (0 : Int32)), (.int (0 : Int32))] (.int (0 : Int32))) (hp2 : n0 ≤ t) (hp3 : b ≠ t) (hh0 : ¬ ((255 : Int32) < c0)) (hh1 : ¬ ((255 : Int32) < c1)) :
    own_CP l Z M140 jdk_52_method_21_code 7 (some .int) ws R_cmp5_2 #[(.ref b), (.int (0 : Int32)), (.ref t), (.int (0 : Int32)), (.int (2 : Int32))] h0 (Q_cmp5_2 Z G1 kC uS sS b k t kt c0 c1 h0 n0) := by
  refine own_P (plainFor_of_name pn_142) ?_
  intro p e s m below meth c s₁ S0 Bd hZ hh hx hby hml hown hnm X0 e0 hS0d
  obtain ⟨O1, P1, O2, E2, F2, hLT, OU, rU, OS, rS⟩ := id HG
  have N0 := Fr.nil n0
  have C0 : Steps p.tables e below S0 (s₁.setTop (mkF m 0 #[.val (.ref b), .val (.int (0 : Int32)), .val (.ref t), .val (.int (0 : Int32)), .val (.int (2 : Int32)), .unset, .unset] [])) := by rw [hS0d]; exact castTop (ef_141 m b (0 : Int32) t (0 : Int32) (2 : Int32)) (Steps.refl _)
  obtain ⟨c_1, A_2, q_3, S_4, M_5, H_6, U_7⟩ := id hp0
  have hin_8 : ¬ ((0 : Int32) < 0 ∨ c_1.slots.size ≤ (0 : Int32).toNatClampNeg) := inb_of S_4 ⟨(by decide : ¬ ((0 : Int32) < (0 : Int32))), (by decide : (0 : Int32) < (2 : Int32))⟩
  have hat_9 : c_1.slots[(0 : Int32).toNatClampNeg]? = some (.int c0) := Has.at H_6 hin_8 rfl
  obtain ⟨c_10, A_11, q_12, S_13, M_14, H_15, U_16⟩ := id hp1
  have hin_23 : ¬ ((0 : Int32) < 0 ∨ c_10.slots.size ≤ (0 : Int32).toNatClampNeg) := inb_of S_13 ⟨(by decide : ¬ ((0 : Int32) < (0 : Int32))), (by decide : (0 : Int32) < (2 : Int32))⟩
  obtain ⟨T_17, h_18, X_19, e_20, W_21, st_22⟩ := stB X0 hx hZ e0 A_11 (j := (0 : Int32)) hin_23 (g := (mkF m 31 #[.val (.ref b), .val (.int (0 : Int32)), .val (.ref t), .val (.int (0 : Int32)), .val (.int (2 : Int32)), .val (.int (0 : Int32)), .val (.int c0)] [(.int (c0.toInt8.toInt32)), (.int (0 : Int32)), (.ref t)])) rfl rfl (hb hby d10_31)
  have N_24 := Fr.snoc X_19 N0 hp2
  have V_25 : Arv Z h_18 t kt .byte (2 : Int32) [(.int (own_lo8 c0)), (.int (0 : Int32))] (.int (0 : Int32)) := Arv.set A_11 q_12 S_13 M_14 H_15 U_16 (fits_nar_byte _) W_21 0 rfl (Nat.le_of_ble_eq_true rfl)
  have V_26 : Arv Z h_18 b k .char (2 : Int32) [(.int c0), (.int c1)] (.int (0 : Int32)) := (hp0.other W_21 hp3)
  obtain ⟨c_27, A_28, q_29, S_30, M_31, H_32, U_33⟩ := id V_26
  have hin_34 : ¬ ((1 : Int32) < 0 ∨ c_27.slots.size ≤ (1 : Int32).toNatClampNeg) := inb_of S_30 ⟨(by decide : ¬ ((1 : Int32) < (0 : Int32))), (by decide : (1 : Int32) < (2 : Int32))⟩
  have hat_35 : c_27.slots[(1 : Int32).toNatClampNeg]? = some (.int c1) := Has.at H_32 hin_34 rfl
  obtain ⟨c_36, A_37, q_38, S_39, M_40, H_41, U_42⟩ := id V_25
  have hin_49 : ¬ ((1 : Int32) < 0 ∨ c_36.slots.size ≤ (1 : Int32).toNatClampNeg) := inb_of S_39 ⟨(by decide : ¬ ((1 : Int32) < (0 : Int32))), (by decide : (1 : Int32) < (2 : Int32))⟩
  obtain ⟨T_43, h_44, X_45, e_46, W_47, st_48⟩ := stB X_19 hx hZ e_20 A_37 (j := (1 : Int32)) hin_49 (g := (mkF m 31 #[.val (.ref b), .val (.int (1 : Int32)), .val (.ref t), .val (.int (1 : Int32)), .val (.int (2 : Int32)), .val (.int (1 : Int32)), .val (.int c1)] [(.int (c1.toInt8.toInt32)), (.int (1 : Int32)), (.ref t)])) rfl rfl (hb hby d10_31)
  have N_50 := Fr.snoc X_45 N_24 hp2
  have V_51 : Arv Z h_44 t kt .byte (2 : Int32) [(.int (own_lo8 c0)), (.int (own_lo8 c1))] (.int (0 : Int32)) := Arv.set A_37 q_38 S_39 M_40 H_41 U_42 (fits_nar_byte _) W_47 1 rfl (Nat.le_of_ble_eq_true rfl)
  have C_52 : Steps p.tables e below S0 (T_43.setTop (mkF m 46 #[.val (.ref b), .val (.int (2 : Int32)), .val (.ref t), .val (.int (2 : Int32)), .val (.int (2 : Int32)), .val (.int (2 : Int32)), .val (.int c1)] [(.int (2 : Int32))])) := by
    refine C0.trans ?_
    refine XS.iconst X0.here hx rfl (hb hby d10_0) ?_
    refine XS.istore X0.here hx rfl (hb hby d10_1) rfl (l' := #[.val (.ref b), .val (.int (0 : Int32)), .val (.ref t), .val (.int (0 : Int32)), .val (.int (2 : Int32)), .val (.int (0 : Int32)), .unset]) rfl ?_
    refine XS.iload X0.here hx rfl (hb hby d10_3) rfl ?_
    refine XS.iload X0.here hx rfl (hb hby d10_5) rfl ?_
    refine XS.icmpNo X0.here hx rfl (hb hby d10_7) rfl (by decide) ?_
    refine XS.aloadN X0.here hx rfl (hb hby d10_10) rfl rfl ?_
    refine XS.iloadN X0.here hx rfl (hb hby d10_11) rfl ?_
    refine X0.caload hx (j := (0 : Int32)) (v := (.int c0)) (by rw [e0]; exact A_2.1) (State.isArrayOf_alike hZ.alike A_2.2.1) A_2.2.2 hin_8 hat_9 (g := (mkF m 12 #[.val (.ref b), .val (.int (0 : Int32)), .val (.ref t), .val (.int (0 : Int32)), .val (.int (2 : Int32)), .val (.int (0 : Int32)), .unset] [(.int (0 : Int32)), (.ref b)])) rfl rfl (hb hby d10_12) _ ?_
    show Steps p.tables e below (s₁.setTop (mkF m 13 #[.val (.ref b), .val (.int (0 : Int32)), .val (.ref t), .val (.int (0 : Int32)), .val (.int (2 : Int32)), .val (.int (0 : Int32)), .unset] [(.int c0)])) _
    refine XS.istore X0.here hx rfl (hb hby d10_13) rfl (l' := #[.val (.ref b), .val (.int (0 : Int32)), .val (.ref t), .val (.int (0 : Int32)), .val (.int (2 : Int32)), .val (.int (0 : Int32)), .val (.int c0)]) rfl ?_
    refine XS.iload X0.here hx rfl (hb hby d10_15) rfl ?_
    refine XS.sipush X0.here hx rfl (hb hby d10_17) ?_
    refine XS.icmpYes X0.here hx rfl (pc0 := 20) (pc' := 26) rfl (hb hby d10_20) rfl (ii_le_t hh0) (by decide) (by decide) ?_
    refine XS.aloadN X0.here hx rfl (hb hby d10_26) rfl rfl ?_
    refine XS.iloadN X0.here hx rfl (hb hby d10_27) rfl ?_
    refine XS.iload X0.here hx rfl (hb hby d10_28) rfl ?_
    refine XS.i2b X0.here hx rfl (hb hby d10_30) rfl ?_
    show Steps p.tables e below (s₁.setTop (mkF m 31 #[.val (.ref b), .val (.int (0 : Int32)), .val (.ref t), .val (.int (0 : Int32)), .val (.int (2 : Int32)), .val (.int (0 : Int32)), .val (.int c0)] [(.int (c0.toInt8.toInt32)), (.int (0 : Int32)), (.ref t)])) _
    refine st_22 _ ?_
    refine XS.iinc X_19.here hx rfl (hb hby d10_32) (x := (0 : Int32)) rfl (l' := #[.val (.ref b), .val (.int (1 : Int32)), .val (.ref t), .val (.int (0 : Int32)), .val (.int (2 : Int32)), .val (.int (0 : Int32)), .val (.int c0)]) rfl ?_
    refine XS.iinc X_19.here hx rfl (hb hby d10_35) (x := (0 : Int32)) rfl (l' := #[.val (.ref b), .val (.int (1 : Int32)), .val (.ref t), .val (.int (1 : Int32)), .val (.int (2 : Int32)), .val (.int (0 : Int32)), .val (.int c0)]) rfl ?_
    refine XS.iinc X_19.here hx rfl (hb hby d10_38) (x := (0 : Int32)) rfl (l' := #[.val (.ref b), .val (.int (1 : Int32)), .val (.ref t), .val (.int (1 : Int32)), .val (.int (2 : Int32)), .val (.int (1 : Int32)), .val (.int c0)]) rfl ?_
    refine XS.goto X_19.here hx rfl (pc0 := 41) (pc' := 3) rfl (hb hby d10_41) (by decide) (by decide) ?_
    refine XS.iload X_19.here hx rfl (hb hby d10_3) rfl ?_
    refine XS.iload X_19.here hx rfl (hb hby d10_5) rfl ?_
    refine XS.icmpNo X_19.here hx rfl (hb hby d10_7) rfl (by decide) ?_
    show Steps p.tables e below (T_17.setTop (mkF m 10 #[.val (.ref b), .val (.int (1 : Int32)), .val (.ref t), .val (.int (1 : Int32)), .val (.int (2 : Int32)), .val (.int (1 : Int32)), .val (.int c0)] [])) _
    refine XS.aloadN X_19.here hx rfl (hb hby d10_10) rfl rfl ?_
    refine XS.iloadN X_19.here hx rfl (hb hby d10_11) rfl ?_
    refine X_19.caload hx (j := (1 : Int32)) (v := (.int c1)) (by rw [e_20]; exact A_28.1) (State.isArrayOf_alike hZ.alike A_28.2.1) A_28.2.2 hin_34 hat_35 (g := (mkF m 12 #[.val (.ref b), .val (.int (1 : Int32)), .val (.ref t), .val (.int (1 : Int32)), .val (.int (2 : Int32)), .val (.int (1 : Int32)), .val (.int c0)] [(.int (1 : Int32)), (.ref b)])) rfl rfl (hb hby d10_12) _ ?_
    refine XS.istore X_19.here hx rfl (hb hby d10_13) rfl (l' := #[.val (.ref b), .val (.int (1 : Int32)), .val (.ref t), .val (.int (1 : Int32)), .val (.int (2 : Int32)), .val (.int (1 : Int32)), .val (.int c1)]) rfl ?_
    refine XS.iload X_19.here hx rfl (hb hby d10_15) rfl ?_
    refine XS.sipush X_19.here hx rfl (hb hby d10_17) ?_
    refine XS.icmpYes X_19.here hx rfl (pc0 := 20) (pc' := 26) rfl (hb hby d10_20) rfl (ii_le_t hh1) (by decide) (by decide) ?_
    refine XS.aloadN X_19.here hx rfl (hb hby d10_26) rfl rfl ?_
    show Steps p.tables e below (T_17.setTop (mkF m 27 #[.val (.ref b), .val (.int (1 : Int32)), .val (.ref t), .val (.int (1 : Int32)), .val (.int (2 : Int32)), .val (.int (1 : Int32)), .val (.int c1)] [(.ref t)])) _
    refine XS.iloadN X_19.here hx rfl (hb hby d10_27) rfl ?_
    refine XS.iload X_19.here hx rfl (hb hby d10_28) rfl ?_
    refine XS.i2b X_19.here hx rfl (hb hby d10_30) rfl ?_
    refine st_48 _ ?_
    refine XS.iinc X_45.here hx rfl (hb hby d10_32) (x := (1 : Int32)) rfl (l' := #[.val (.ref b), .val (.int (2 : Int32)), .val (.ref t), .val (.int (1 : Int32)), .val (.int (2 : Int32)), .val (.int (1 : Int32)), .val (.int c1)]) rfl ?_
    refine XS.iinc X_45.here hx rfl (hb hby d10_35) (x := (1 : Int32)) rfl (l' := #[.val (.ref b), .val (.int (2 : Int32)), .val (.ref t), .val (.int (2 : Int32)), .val (.int (2 : Int32)), .val (.int (1 : Int32)), .val (.int c1)]) rfl ?_
    refine XS.iinc X_45.here hx rfl (hb hby d10_38) (x := (1 : Int32)) rfl (l' := #[.val (.ref b), .val (.int (2 : Int32)), .val (.ref t), .val (.int (2 : Int32)), .val (.int (2 : Int32)), .val (.int (2 : Int32)), .val (.int c1)]) rfl ?_
    refine XS.goto X_45.here hx rfl (pc0 := 41) (pc' := 3) rfl (hb hby d10_41) (by decide) (by decide) ?_
    show Steps p.tables e below (T_43.setTop (mkF m 3 #[.val (.ref b), .val (.int (2 : Int32)), .val (.ref t), .val (.int (2 : Int32)), .val (.int (2 : Int32)), .val (.int (2 : Int32)), .val (.int c1)] [])) _
    refine XS.iload X_45.here hx rfl (hb hby d10_3) rfl ?_
    refine XS.iload X_45.here hx rfl (hb hby d10_5) rfl ?_
    refine XS.icmpYes X_45.here hx rfl (pc0 := 7) (pc' := 44) rfl (hb hby d10_7) rfl (by decide) (by decide) (by decide) ?_
    refine XS.iload X_45.here hx rfl (hb hby d10_44) rfl ?_
    exact Steps.refl _
  have K_53 : Keep h0 h_44 [t] := (((Keep.refl _ _).wr W_21 (Or.inl (List.mem_of_getElem? (i := 0) rfl))).wr W_47 (Or.inl (List.mem_of_getElem? (i := 0) rfl)))
  obtain ⟨fs, hr, hrun, hended, hW, hsame⟩ := X_45.leave (v := some (.int (2 : Int32))) (fun h => by rw [Bd.returns] at h; cases h)
  refine ⟨_, _, C_52.trans (retOut X_45 hx Bd.returns rfl (Or.inl ⟨rfl, Or.inl rfl, _, rfl⟩) (hb hby d10_46) hr), hrun, hended, _, _, rfl, ?_, ⟨_, rfl⟩, hW, hsame.mono (by decide) (by decide)⟩
  show Q_cmp5_2 Z G1 kC uS sS b k t kt c0 c1 h0 n0 (some (.int (2 : Int32))) T_43.heap _
  rw [e_46]
  exact ⟨rfl, N_50, K_53, V_51⟩
abbrev R_cmp3_2 : Room := { frames := 1, cells := 1, slots := 2, locals := 18 }
def Q_cmp3_2 (Z : State) (G1 : Int32) (kC : Addr) (uS : Value) (sS : Value) (b : Addr) (k : ClassId) (c0 : Int32) (c1 : Int32) (h0 : Heap) (n0 : Nat) (v : Option Value) (h : Heap) (L : List Loc) : Prop := (∃ t : Addr, ∃ kt : ClassId, v = some (.ref t) ∧ Fr n0 L ∧ Keep h0 h [] ∧ (h0.size ≤ t) ∧ (Arv Z h t kt .byte (2 : Int32) [(.int (own_lo8 c0)), (.int (own_lo8 c1))] (.int (0 : Int32))))
set_option maxRecDepth 65536 in
set_option maxHeartbeats 40000000 in
theorem rm_cmp3_2 (l : Launch) (Z : State) (a0 : Array Value) (hw : ∀ d ∈ tables_1, d.before a0 Z = true) (ws : List Jvm.Cond) (G1 : Int32) (kC : Addr) (uS : Value) (sS : Value) (HG : own_G l Z a0 G1 kC uS sS) (h0 : Heap) (n0 : Nat) (X00 : Old Z n0 h0) (b : Addr) (k : ClassId) (c0 : Int32) (c1 : Int32) (hp0 : Arv Z h0 b k .char (2 : Int32) [(.int c0), (.int c1)] (.int (0 : Int32))) (hh0 : ¬ ((255 : Int32) < c0)) (hh1 : ¬ ((255 : Int32) < c1)) :
    own_CP l Z M166 jdk_52_method_16_code 6 (some (.array .byte)) ws R_cmp3_2 #[(.ref b), (.int (0 : Int32)), (.int (2 : Int32))] h0 (Q_cmp3_2 Z G1 kC uS sS b k c0 c1 h0 n0) := by
  refine own_P (plainFor_of_name pn_142) ?_
  intro p e s m below meth c s₁ S0 Bd hZ hh hx hby hml hown hnm X0 e0 hS0d
  obtain ⟨O1, P1, O2, E2, F2, hLT, OU, rU, OS, rS⟩ := id HG
  have N0 := Fr.nil n0
  have C0 : Steps p.tables e below S0 (s₁.setTop (mkF m 0 #[.val (.ref b), .val (.int (0 : Int32)), .val (.int (2 : Int32)), .unset, .unset, .unset] [])) := by rw [hS0d]; exact castTop (ef_167 m b (0 : Int32) (2 : Int32)) (Steps.refl _)
  obtain ⟨T_1, h_2, k_3, X_4, e_5, E_6, A_7, st_8⟩ := newP (aty := .byte) X0 hx hZ (w23 hw) e0 (g := (mkF m 1 #[.val (.ref b), .val (.int (0 : Int32)), .val (.int (2 : Int32)), .unset, .unset, .unset] [(.int (2 : Int32))])) rfl (hb hby d11_1) rfl (by decide : ¬ ((2 : Int32) < (0 : Int32))) (cap := 2) (by decide : (2 : Int32).toNatClampNeg ≤ 2) (by decide) (by decide) (by decide)
  obtain ⟨a_9, g_10⟩ : ∃ z, z = h0.size := ⟨_, rfl⟩
  rw [← g_10] at A_7 st_8
  have V_12 : Arv Z h_2 a_9 k_3 .byte (2 : Int32) [] (.int (0 : Int32)) := Arv.new A_7 (by decide : ¬ ((2 : Int32) < (0 : Int32)))
  have V_11 : Arv Z h_2 a_9 k_3 .byte (2 : Int32) [(.int (0 : Int32)), (.int (0 : Int32))] (.int (0 : Int32)) := (V_12.pad (pad_rep [] (.int (0 : Int32)) 2))
  have V_13 : Arv Z h_2 b k .char (2 : Int32) [(.int c0), (.int c1)] (.int (0 : Int32)) := (hp0.ext E_6)
  have O_14 : Old Z n0 h_2 := (X00.ext E_6)
  obtain ⟨_, _, ⟨T_15, L_15, k_15, n_15⟩, -, X_15, ⟨Lc_15, hQ_15, l_15, y_15, z_15⟩, st_15⟩ := Jvm.LawKit.callS X_4 hx (y := M140) hown (mvT hZ (w24 hw)) (mvT hZ (w25 hw)) (mvT hZ (w21 hw)) (mvT hZ (w26 hw)) (by decide) (backOf (W := 0) (rm_cmp5_2 l Z a0 hw [] G1 kC uS sS HG h_2 n0 O_14 b k a_9 k_3 c0 c1 V_13 V_11 (Nat.le_trans (own_n0 X00) (Nat.le_of_eq g_10.symm)) (Nat.ne_of_lt (Nat.lt_of_lt_of_le hp0.lt (Nat.le_trans (Nat.le_refl _) (Nat.le_of_eq g_10.symm)))) hh0 hh1) hZ (w26 hw) (w21 hw) (by decide) (by decide)) (g := (mkF m 9 #[.val (.ref b), .val (.int (0 : Int32)), .val (.int (2 : Int32)), .val (.ref a_9), .unset, .unset] [(.int (2 : Int32)), (.int (0 : Int32)), (.ref a_9), (.int (0 : Int32)), (.ref b)])) rfl (by rw [hml]; rfl) (argsL := [(.ref b), (.int (0 : Int32)), (.ref a_9), (.int (0 : Int32)), (.int (2 : Int32))]) (rest := []) (lenOf pd_179 rfl) rfl (by show 2 * 0 + _ ≤ _; exact Nat.le_of_eq rfl) (hb hby d11_9) (fun _ _ => ⟨rfl, e_5, (by decide : 1 + 0 ≤ _), (by decide : 2 + 0 ≤ _)⟩)
  dsimp only [Pt.U, Pt.locs, Pt.cells, Pt.slots] at X_15 l_15 y_15 z_15 st_15 hQ_15
  subst l_15 y_15 z_15
  obtain ⟨rfl, N_16, K_17, g_18⟩ := hQ_15
  have N_19 := Fr.app N0 N_16
  have C_20 : Steps p.tables e below S0 (T_15.setTop (mkF m 58 #[.val (.ref b), .val (.int (0 : Int32)), .val (.int (2 : Int32)), .val (.ref a_9), .val (.int (2 : Int32)), .unset] [(.ref a_9)])) := by
    refine C0.trans ?_
    refine XS.iloadN X0.here hx rfl (hb hby d11_0) rfl ?_
    refine st_8 _ ?_
    refine XS.astoreN X_4.here hx rfl (hb hby d11_3) rfl rfl (l' := #[.val (.ref b), .val (.int (0 : Int32)), .val (.int (2 : Int32)), .val (.ref a_9), .unset, .unset]) rfl ?_
    refine XS.aloadN X_4.here hx rfl (hb hby d11_4) rfl rfl ?_
    refine XS.iloadN X_4.here hx rfl (hb hby d11_5) rfl ?_
    refine XS.aloadN X_4.here hx rfl (hb hby d11_6) rfl rfl ?_
    refine XS.iconst X_4.here hx rfl (hb hby d11_7) ?_
    refine XS.iloadN X_4.here hx rfl (hb hby d11_8) rfl ?_
    show Steps p.tables e below (T_1.setTop (mkF m 9 #[.val (.ref b), .val (.int (0 : Int32)), .val (.int (2 : Int32)), .val (.ref a_9), .unset, .unset] [(.int (2 : Int32)), (.int (0 : Int32)), (.ref a_9), (.int (0 : Int32)), (.ref b)])) _
    refine st_15 _ ?_
    refine XS.istore X_15.here hx rfl (hb hby d11_12) rfl (l' := #[.val (.ref b), .val (.int (0 : Int32)), .val (.int (2 : Int32)), .val (.ref a_9), .val (.int (2 : Int32)), .unset]) rfl ?_
    refine XS.iload X_15.here hx rfl (hb hby d11_14) rfl ?_
    refine XS.iloadN X_15.here hx rfl (hb hby d11_16) rfl ?_
    refine XS.icmpYes X_15.here hx rfl (pc0 := 17) (pc' := 57) rfl (hb hby d11_17) rfl (by decide) (by decide) (by decide) ?_
    refine XS.aloadN X_15.here hx rfl (hb hby d11_57) rfl rfl ?_
    exact Steps.refl _
  have K_21 : Keep h0 T_15.heap [] := (((Keep.refl _ _).ext E_6).trans K_17 (allS (Or.inr (Nat.le_trans (Nat.le_refl _) (Nat.le_of_eq g_10.symm))) all0))
  obtain ⟨fs, hr, hrun, hended, hW, hsame⟩ := X_15.leave (v := some (.ref a_9)) (fun h => by rw [Bd.returns] at h; cases h)
  refine ⟨_, _, C_20.trans (retOut X_15 hx Bd.returns rfl (Or.inr (Or.inr (Or.inr (Or.inr ⟨rfl, rfl, rfl⟩)))) (hb hby d11_58) hr), hrun, hended, _, _, rfl, ?_, ⟨_, rfl⟩, hW, hsame.mono (by decide) (by decide)⟩
  show Q_cmp3_2 Z G1 kC uS sS b k c0 c1 h0 n0 (some (.ref a_9)) T_15.heap _
  exact ⟨a_9, k_3, rfl, N_19, K_21, (Nat.le_trans (Nat.le_refl _) (Nat.le_of_eq g_10.symm)), g_18⟩
abbrev R_codl_2 : Room := { frames := 0, cells := 0, slots := 0, locals := 0 }
def Q_codl_2 (Z : State) (G1 : Int32) (kC : Addr) (uS : Value) (sS : Value) (t : Addr) (kt : ClassId) (y0 : Int32) (y1 : Int32) (h0 : Heap) (n0 : Nat) (v : Option Value) (h : Heap) (L : List Loc) : Prop := (v = some (.int (0 : Int32)) ∧ Fr n0 L ∧ h = h0)
set_option maxRecDepth 65536 in
set_option maxHeartbeats 40000000 in
theorem rm_codl_2 (l : Launch) (Z : State) (a0 : Array Value) (hw : ∀ d ∈ tables_1, d.before a0 Z = true) (ws : List Jvm.Cond) (G1 : Int32) (kC : Addr) (uS : Value) (sS : Value) (HG : own_G l Z a0 G1 kC uS sS) (h0 : Heap) (n0 : Nat) (X00 : Old Z n0 h0) (t : Addr) (kt : ClassId) (y0 : Int32) (y1 : Int32) (hp0 : Arv Z h0 t kt .byte (2 : Int32) [(.int y0), (.int y1)] (.int (0 : Int32))) :
    own_CP l Z M189 jdk_52_method_15_code 2 (some .byte) ws R_codl_2 #[(.ref t), (.int (2 : Int32))] h0 (Q_codl_2 Z G1 kC uS sS t kt y0 y1 h0 n0) := by
  refine own_P (plainFor_of_name pn_142) ?_
  intro p e s m below meth c s₁ S0 Bd hZ hh hx hby hml hown hnm X0 e0 hS0d
  obtain ⟨O1, P1, O2, E2, F2, hLT, OU, rU, OS, rS⟩ := id HG
  have N0 := Fr.nil n0
  have C0 : Steps p.tables e below S0 (s₁.setTop (mkF m 0 #[.val (.ref t), .val (.int (2 : Int32))] [])) := by rw [hS0d]; exact castTop (ef_190 m t (2 : Int32)) (Steps.refl _)
  obtain ⟨c_1, A_2, q_3, S_4, M_5, H_6, U_7⟩ := id hp0
  have C_8 : Steps p.tables e below S0 (s₁.setTop (mkF m 8 #[.val (.ref t), .val (.int (2 : Int32))] [(.int (0 : Int32))])) := by
    refine C0.trans ?_
    refine XS.iloadN X0.here hx rfl (hb hby d12_0) rfl ?_
    refine XS.aloadN X0.here hx rfl (hb hby d12_1) rfl rfl ?_
    refine X0.arraylength hx (by rw [e0]; exact A_2.1) (State.isArrayOf_alike hZ.alike A_2.2.1) (g := (mkF m 2 #[.val (.ref t), .val (.int (2 : Int32))] [(.ref t), (.int (2 : Int32))])) rfl rfl (hb hby d12_2) _ ?_
    rw [len_of S_4 M_5]
    refine XS.isub X0.here hx rfl (hb hby d12_3) rfl ?_
    refine XS.bipush X0.here hx rfl (hb hby d12_4) ?_
    refine XS.iushr X0.here hx rfl (hb hby d12_6) rfl ?_
    refine XS.i2b X0.here hx rfl (hb hby d12_7) rfl ?_
    exact Steps.refl _
  obtain ⟨fs, hr, hrun, hended, hW, hsame⟩ := X0.leave (v := some (.int (0 : Int32))) (fun h => by rw [Bd.returns] at h; cases h)
  refine ⟨_, _, C_8.trans (retN X0 hx (t := .byte) Bd.returns (by simp) (hb hby d12_8) hr), hrun, hended, _, _, rfl, ?_, ⟨_, rfl⟩, hW, hsame.mono (by decide) (by decide)⟩
  show Q_codl_2 Z G1 kC uS sS t kt y0 y1 h0 n0 (some (.int (0 : Int32))) s₁.heap _
  rw [e0]
  exact ⟨rfl, N0, rfl⟩
abbrev R_si4_2 : Room := { frames := 2, cells := 1, slots := 2, locals := 35 }
def Q_si4_2 (Z : State) (G1 : Int32) (kC : Addr) (uS : Value) (sS : Value) (x : Addr) (b : Addr) (k : ClassId) (c0 : Int32) (c1 : Int32) (h0 : Heap) (n0 : Nat) (v : Option Value) (h : Heap) (L : List Loc) : Prop := (∃ t : Addr, ∃ kt : ClassId, v = none ∧ Fr n0 L ∧ Keep h0 h [x] ∧ (Exa Z h x "java/lang/String") ∧ (Fld Z h x "java/lang/String" "coder" "B" (.int (0 : Int32))) ∧ (Fld Z h x "java/lang/String" "value" "[B" (.ref t)) ∧ (h0.size ≤ t) ∧ (Arv Z h t kt .byte (2 : Int32) [(.int (own_lo8 c0)), (.int (own_lo8 c1))] (.int (0 : Int32))))
set_option maxRecDepth 65536 in
set_option maxHeartbeats 40000000 in
theorem rm_si4_2 (l : Launch) (Z : State) (a0 : Array Value) (hw : ∀ d ∈ tables_1, d.before a0 Z = true) (ws : List Jvm.Cond) (G1 : Int32) (kC : Addr) (uS : Value) (sS : Value) (HG : own_G l Z a0 G1 kC uS sS) (h0 : Heap) (n0 : Nat) (X00 : Old Z n0 h0) (x : Addr) (b : Addr) (k : ClassId) (c0 : Int32) (c1 : Int32) (hp0 : Exa Z h0 x "java/lang/String") (hp1 : Fld Z h0 x "java/lang/String" "value" "[B" .null) (hp2 : Fld Z h0 x "java/lang/String" "coder" "B" (.int (0 : Int32))) (hp3 : n0 ≤ x) (hp4 : Arv Z h0 b k .char (2 : Int32) [(.int c0), (.int c1)] (.int (0 : Int32))) (hh0 : ¬ ((255 : Int32) < c0)) (hh1 : ¬ ((255 : Int32) < c1)) :
    own_CP l Z M0 jdk_42_method_149_code 6 none ws R_si4_2 #[(.ref x), (.ref b), (.int (0 : Int32)), (.int (2 : Int32)), .null] h0 (Q_si4_2 Z G1 kC uS sS x b k c0 c1 h0 n0) := by
  refine own_P (plainFor_of_name pn_2) ?_
  intro p e s m below meth c s₁ S0 Bd hZ hh hx hby hml hown hnm X0 e0 hS0d
  obtain ⟨O1, P1, O2, E2, F2, hLT, OU, rU, OS, rS⟩ := id HG
  have N0 := Fr.nil n0
  have C0 : Steps p.tables e below S0 (s₁.setTop (mkF m 0 #[.val (.ref x), .val (.ref b), .val (.int (0 : Int32)), .val (.int (2 : Int32)), .val .null, .unset] [])) := by rw [hS0d]; exact castTop (ef_1 m x b (0 : Int32) (2 : Int32)) (Steps.refl _)
  obtain ⟨T_1, X_2, e_3, st_4⟩ := initO X0 hx hZ hown (w15 hw) (w16 hw) (w17 hw) e0 (g := (mkF m 1 #[.val (.ref x), .val (.ref b), .val (.int (0 : Int32)), .val (.int (2 : Int32)), .val .null, .unset] [(.ref x)])) rfl (by rw [hml]; rfl) rfl (hb hby d0_1) (by decide) (W := 0) (by show 2 * 0 + _ ≤ _; exact Nat.le_of_eq rfl) (by decide)
  obtain ⟨T_5, X_6, e_7, st_8⟩ := getS X_2 hx hZ (host := "") hown (w18 hw) Via.refl e_3 (O1.ext X00.2) (g := (mkF m 27 #[.val (.ref x), .val (.ref b), .val (.int (0 : Int32)), .val (.int (2 : Int32)), .val .null, .unset] [])) rfl (hb hby d0_27)
  obtain ⟨_, _, ⟨T_9, L_9, k_9, n_9⟩, -, X_9, ⟨Lc_9, hQ_9, l_9, y_9, z_9⟩, st_9⟩ := Jvm.LawKit.callS X_6 hx (y := M166) hown (mvT hZ (w19 hw)) (mvT hZ (w20 hw)) (mvT hZ (w21 hw)) (mvT hZ (w22 hw)) (by decide) (backOf (W := 0) (rm_cmp3_2 l Z a0 hw [] G1 kC uS sS HG h0 n0 X00 b k c0 c1 hp4 hh0 hh1) hZ (w22 hw) (w21 hw) (by decide) (by decide)) (g := (mkF m 36 #[.val (.ref x), .val (.ref b), .val (.int (0 : Int32)), .val (.int (2 : Int32)), .val .null, .unset] [(.int (2 : Int32)), (.int (0 : Int32)), (.ref b)])) rfl (by rw [hml]; rfl) (argsL := [(.ref b), (.int (0 : Int32)), (.int (2 : Int32))]) (rest := []) (lenOf pd_206 rfl) rfl (by show 2 * 0 + _ ≤ _; exact Nat.le_of_eq rfl) (hb hby d0_36) (fun _ _ => ⟨rfl, e_7, (by decide : 0 + 1 ≤ _), (by decide : 0 + 2 ≤ _)⟩)
  dsimp only [Pt.U, Pt.locs, Pt.cells, Pt.slots] at X_9 l_9 y_9 z_9 st_9 hQ_9
  subst l_9 y_9 z_9
  obtain ⟨a_10, k_11, rfl, N_12, K_13, g_14, g_15⟩ := hQ_9
  have N_16 := Fr.app N0 N_12
  have O_17 : Old Z n0 T_9.heap := (X00.keep K_13 all0)
  obtain ⟨_, _, ⟨T_18, L_18, k_18, n_18⟩, -, X_18, ⟨Lc_18, hQ_18, l_18, y_18, z_18⟩, st_18⟩ := Jvm.LawKit.callS X_9 hx (y := M189) hown (mvT hZ (w27 hw)) (mvT hZ (w28 hw)) (mvT hZ (w21 hw)) (mvT hZ (w29 hw)) (by decide) (backOf (W := 1) (rm_codl_2 l Z a0 hw [] G1 kC uS sS HG T_9.heap n0 O_17 a_10 k_11 (own_lo8 c0) (own_lo8 c1) g_15) hZ (w29 hw) (w21 hw) (by decide) (by decide)) (g := (mkF m 45 #[.val (.ref x), .val (.ref b), .val (.int (0 : Int32)), .val (.int (2 : Int32)), .val .null, .val (.ref a_10)] [(.int (2 : Int32)), (.ref a_10), (.ref x)])) rfl (by rw [hml]; rfl) (argsL := [(.ref a_10), (.int (2 : Int32))]) (rest := [(.ref x)]) (lenOf pd_215 rfl) rfl (by show 2 * 0 + _ ≤ _; exact Nat.le_of_eq rfl) (hb hby d0_45) (fun _ _ => ⟨rfl, rfl, (by decide : 1 + 0 ≤ _), (by decide : 2 + 0 ≤ _)⟩)
  dsimp only [Pt.U, Pt.locs, Pt.cells, Pt.slots] at X_18 l_18 y_18 z_18 st_18 hQ_18
  subst l_18 y_18 z_18
  obtain ⟨rfl, N_19, e_20⟩ := hQ_18
  have N_21 := Fr.app N_16 N_19
  have e_22 : T_18.heap = T_9.heap := e_20
  have F_23 : Fld Z T_9.heap x "java/lang/String" "coder" "B" (.int (0 : Int32)) := (hp2.keep K_13 nin0)
  have E_24 : Exa Z T_9.heap x "java/lang/String" := (hp0.keep K_13)
  obtain ⟨T_25, h_26, X_27, e_28, W_29, st_30⟩ := putF X_18 hx hZ hown (host := "") (Or.inl (w30 hw)) Via.refl e_22 F_23 E_24 (Or.inr ⟨(w31 hw), rfl, hnm⟩) (w5 hw) (ty := .byte) (by decide) rfl (by decide) (g := (mkF m 48 #[.val (.ref x), .val (.ref b), .val (.int (0 : Int32)), .val (.int (2 : Int32)), .val .null, .val (.ref a_10)] [(.int (0 : Int32)), (.ref x)])) rfl rfl (hb hby d0_48)
  have N_31 := Fr.snoc X_27 N_21 hp3
  have F_32 : Fld Z h_26 x "java/lang/String" "coder" "B" (.int (0 : Int32)) := F_23.same W_29
  have F_33 : Fld Z h_26 x "java/lang/String" "value" "[B" .null := ((hp1.keep K_13 nin0).other W_29 (Or.inr (slot_ne (Or.inr (w33 hw)) (Or.inr (w31 hw)) (by decide) (t := (.array .byte)) (by decide) (t' := .byte) (by decide))))
  have E_34 : Exa Z h_26 x "java/lang/String" := (E_24.wr W_29)
  obtain ⟨T_35, h_36, X_37, e_38, W_39, st_40⟩ := putF X_27 hx hZ hown (host := "") (Or.inl (w32 hw)) Via.refl e_28 F_33 E_34 (Or.inr ⟨(w33 hw), rfl, hnm⟩) (w5 hw) (ty := (.array .byte)) (by decide) rfl rfl (g := (mkF m 54 #[.val (.ref x), .val (.ref b), .val (.int (0 : Int32)), .val (.int (2 : Int32)), .val .null, .val (.ref a_10)] [(.ref a_10), (.ref x)])) rfl rfl (hb hby d0_54)
  have N_41 := Fr.snoc X_37 N_31 hp3
  have F_42 : Fld Z h_36 x "java/lang/String" "value" "[B" (.ref a_10) := F_33.same W_39
  have C_43 : Steps p.tables e below S0 (T_35.setTop (mkF m 57 #[.val (.ref x), .val (.ref b), .val (.int (0 : Int32)), .val (.int (2 : Int32)), .val .null, .val (.ref a_10)] [])) := by
    refine C0.trans ?_
    refine XS.aloadN X0.here hx rfl (hb hby d0_0) rfl rfl ?_
    refine st_4 _ ?_
    refine XS.iloadN X_2.here hx rfl (hb hby d0_4) rfl ?_
    refine XS.ifYes X_2.here hx rfl (pc0 := 5) (pc' := 27) rfl (hb hby d0_5) rfl (by decide) (by decide) (by decide) ?_
    refine st_8 _ ?_
    refine XS.ifNo X_6.here hx rfl (hb hby d0_30) rfl (i0_eq_f P1) ?_
    refine XS.aloadN X_6.here hx rfl (hb hby d0_33) rfl rfl ?_
    refine XS.iloadN X_6.here hx rfl (hb hby d0_34) rfl ?_
    show Steps p.tables e below (T_5.setTop (mkF m 35 #[.val (.ref x), .val (.ref b), .val (.int (0 : Int32)), .val (.int (2 : Int32)), .val .null, .unset] [(.int (0 : Int32)), (.ref b)])) _
    refine XS.iloadN X_6.here hx rfl (hb hby d0_35) rfl ?_
    refine st_9 _ ?_
    refine XS.astore X_9.here hx rfl (hb hby d0_39) rfl rfl (l' := #[.val (.ref x), .val (.ref b), .val (.int (0 : Int32)), .val (.int (2 : Int32)), .val .null, .val (.ref a_10)]) rfl ?_
    refine XS.aloadN X_9.here hx rfl (hb hby d0_41) rfl rfl ?_
    refine XS.aload X_9.here hx rfl (hb hby d0_42) rfl rfl ?_
    refine XS.iloadN X_9.here hx rfl (hb hby d0_44) rfl ?_
    refine st_18 _ ?_
    refine st_30 _ ?_
    show Steps p.tables e below (T_25.setTop (mkF m 51 #[.val (.ref x), .val (.ref b), .val (.int (0 : Int32)), .val (.int (2 : Int32)), .val .null, .val (.ref a_10)] [])) _
    refine XS.aloadN X_27.here hx rfl (hb hby d0_51) rfl rfl ?_
    refine XS.aload X_27.here hx rfl (hb hby d0_52) rfl rfl ?_
    refine st_40 _ ?_
    exact Steps.refl _
  have E_44 : Exa Z h_36 x "java/lang/String" := (E_34.wr W_39)
  have F_45 : Fld Z h_36 x "java/lang/String" "coder" "B" (.int (0 : Int32)) := (F_32.other W_39 (Or.inr (slot_ne (Or.inr (w31 hw)) (Or.inr (w33 hw)) (by decide) (t := .byte) (by decide) (t' := (.array .byte)) (by decide))))
  have V_46 : Arv Z h_36 a_10 k_11 .byte (2 : Int32) [(.int (own_lo8 c0)), (.int (own_lo8 c1))] (.int (0 : Int32)) := ((g_15.other W_29 (Ne.symm (Nat.ne_of_lt (Nat.lt_of_lt_of_le hp0.lt (Nat.le_trans (Nat.le_refl _) g_14))))).other W_39 (Ne.symm (Nat.ne_of_lt (Nat.lt_of_lt_of_le hp0.lt (Nat.le_trans (Nat.le_refl _) g_14)))))
  have K_47 : Keep h0 h_36 [x] := ((((Keep.refl _ _).trans K_13 all0).wr W_29 (Or.inl (List.mem_of_getElem? (i := 0) rfl))).wr W_39 (Or.inl (List.mem_of_getElem? (i := 0) rfl)))
  obtain ⟨fs, hr, hrun, hended, hW, hsame⟩ := X_37.leave (v := none) (fun _ => rfl)
  refine ⟨_, _, C_43.trans (X_37.returnOut hx Bd.returns (hb hby d0_57) hr), hrun, hended, _, _, rfl, ?_, ⟨_, rfl⟩, hW, hsame.mono (by decide) (by decide)⟩
  show Q_si4_2 Z G1 kC uS sS x b k c0 c1 h0 n0 (none) T_35.heap _
  rw [e_38]
  exact ⟨a_10, k_11, rfl, N_41, K_47, E_44, F_45, F_42, (Nat.le_trans (Nat.le_refl _) g_14), V_46⟩
abbrev R_si1_2 : Room := { frames := 3, cells := 1, slots := 2, locals := 52 }
def Q_si1_2 (Z : State) (G1 : Int32) (kC : Addr) (uS : Value) (sS : Value) (x : Addr) (b : Addr) (k : ClassId) (c0 : Int32) (c1 : Int32) (h0 : Heap) (n0 : Nat) (v : Option Value) (h : Heap) (L : List Loc) : Prop := (∃ t : Addr, ∃ kt : ClassId, v = none ∧ Fr n0 L ∧ Keep h0 h [x] ∧ (Exa Z h x "java/lang/String") ∧ (Fld Z h x "java/lang/String" "coder" "B" (.int (0 : Int32))) ∧ (Fld Z h x "java/lang/String" "value" "[B" (.ref t)) ∧ (h0.size ≤ t) ∧ (Arv Z h t kt .byte (2 : Int32) [(.int (own_lo8 c0)), (.int (own_lo8 c1))] (.int (0 : Int32))))
set_option maxRecDepth 65536 in
set_option maxHeartbeats 40000000 in
theorem rm_si1_2 (l : Launch) (Z : State) (a0 : Array Value) (hw : ∀ d ∈ tables_1, d.before a0 Z = true) (ws : List Jvm.Cond) (G1 : Int32) (kC : Addr) (uS : Value) (sS : Value) (HG : own_G l Z a0 G1 kC uS sS) (h0 : Heap) (n0 : Nat) (X00 : Old Z n0 h0) (x : Addr) (b : Addr) (k : ClassId) (c0 : Int32) (c1 : Int32) (hp0 : Exa Z h0 x "java/lang/String") (hp1 : Fld Z h0 x "java/lang/String" "value" "[B" .null) (hp2 : Fld Z h0 x "java/lang/String" "coder" "B" (.int (0 : Int32))) (hp3 : n0 ≤ x) (hp4 : Arv Z h0 b k .char (2 : Int32) [(.int c0), (.int c1)] (.int (0 : Int32))) (hh0 : ¬ ((255 : Int32) < c0)) (hh1 : ¬ ((255 : Int32) < c1)) :
    own_CP l Z M25 jdk_42_method_3_code 2 none ws R_si1_2 #[(.ref x), (.ref b)] h0 (Q_si1_2 Z G1 kC uS sS x b k c0 c1 h0 n0) := by
  refine own_P (plainFor_of_name pn_2) ?_
  intro p e s m below meth c s₁ S0 Bd hZ hh hx hby hml hown hnm X0 e0 hS0d
  obtain ⟨O1, P1, O2, E2, F2, hLT, OU, rU, OS, rS⟩ := id HG
  have N0 := Fr.nil n0
  have C0 : Steps p.tables e below S0 (s₁.setTop (mkF m 0 #[.val (.ref x), .val (.ref b)] [])) := by rw [hS0d]; exact castTop (ef_26 m x b) (Steps.refl _)
  obtain ⟨c_1, A_2, q_3, S_4, M_5, H_6, U_7⟩ := id hp4
  obtain ⟨_, _, ⟨T_8, L_8, k_8, n_8⟩, -, X_8, ⟨Lc_8, hQ_8, l_8, y_8, z_8⟩, st_8⟩ := X0.specialBack hx (y := M0) rfl hown (mvT hZ (w11 hw)) (mvT hZ (w12 hw)) (mvT hZ (w14 hw)) (by decide) (backOf (W := 0) (rm_si4_2 l Z a0 hw [] G1 kC uS sS HG h0 n0 X00 x b k c0 c1 hp0 hp1 hp2 hp3 hp4 hh0 hh1) hZ (w14 hw) (w6 hw) (by decide) (by decide)) (g := (mkF m 6 #[.val (.ref x), .val (.ref b)] [.null, (.int (2 : Int32)), (.int (0 : Int32)), (.ref b), (.ref x)])) rfl (by rw [hml]; rfl) (Steps.refl _) (a := x) (argsL := [(.ref b), (.int (0 : Int32)), (.int (2 : Int32)), .null]) (rest := []) (lenOf pd_35 rfl) rfl (by show 2 * 0 + _ ≤ _; exact Nat.le_of_eq rfl) (hb hby d1_6) (fun _ _ => ⟨rfl, e0, (by decide : 0 + 1 ≤ _), (by decide : 0 + 2 ≤ _)⟩)
  dsimp only [Pt.U, Pt.locs, Pt.cells, Pt.slots] at X_8 l_8 y_8 z_8 st_8 hQ_8
  subst l_8 y_8 z_8
  obtain ⟨a_9, k_10, rfl, N_11, K_12, g_13, g_14, g_15, g_16, g_17⟩ := hQ_8
  have N_18 := Fr.app N0 N_11
  have C_19 : Steps p.tables e below S0 (T_8.setTop (mkF m 9 #[.val (.ref x), .val (.ref b)] [])) := by
    refine C0.trans ?_
    refine XS.aloadN X0.here hx rfl (hb hby d1_0) rfl rfl ?_
    refine XS.aloadN X0.here hx rfl (hb hby d1_1) rfl rfl ?_
    refine XS.iconst X0.here hx rfl (hb hby d1_2) ?_
    refine XS.aloadN X0.here hx rfl (hb hby d1_3) rfl rfl ?_
    refine X0.arraylength hx (by rw [e0]; exact A_2.1) (State.isArrayOf_alike hZ.alike A_2.2.1) (g := (mkF m 4 #[.val (.ref x), .val (.ref b)] [(.ref b), (.int (0 : Int32)), (.ref b), (.ref x)])) rfl rfl (hb hby d1_4) _ ?_
    rw [len_of S_4 M_5]
    refine XS.aconstNull X0.here hx rfl (hb hby d1_5) ?_
    refine st_8.trans ?_
    exact Steps.refl _
  have K_20 : Keep h0 T_8.heap [x] := ((Keep.refl _ _).trans K_12 (allS (Or.inl (List.mem_of_getElem? (i := 0) rfl)) all0))
  obtain ⟨fs, hr, hrun, hended, hW, hsame⟩ := X_8.leave (v := none) (fun _ => rfl)
  refine ⟨_, _, C_19.trans (X_8.returnOut hx Bd.returns (hb hby d1_9) hr), hrun, hended, _, _, rfl, ?_, ⟨_, rfl⟩, hW, hsame.mono (by decide) (by decide)⟩
  show Q_si1_2 Z G1 kC uS sS x b k c0 c1 h0 n0 (none) T_8.heap _
  exact ⟨a_9, k_10, rfl, N_18, K_20, g_13, g_14, g_15, (Nat.le_trans (Nat.le_refl _) g_16), g_17⟩
abbrev R_cmp5_3 : Room := { frames := 0, cells := 0, slots := 0, locals := 0 }
def Q_cmp5_3 (Z : State) (G1 : Int32) (kC : Addr) (uS : Value) (sS : Value) (b : Addr) (k : ClassId) (t : Addr) (kt : ClassId) (c0 : Int32) (c1 : Int32) (c2 : Int32) (h0 : Heap) (n0 : Nat) (v : Option Value) (h : Heap) (L : List Loc) : Prop := (v = some (.int (3 : Int32)) ∧ Fr n0 L ∧ Keep h0 h [t] ∧ (Arv Z h t kt .byte (3 : Int32) [(.int (own_lo8 c0)), (.int (own_lo8 c1)), (.int (own_lo8 c2))] (.int (0 : Int32))))
set_option maxRecDepth 65536 in
set_option maxHeartbeats 40000000 in
theorem rm_cmp5_3 (l : Launch) (Z : State) (a0 : Array Value) (hw : ∀ d ∈ tables_1, d.before a0 Z = true) (ws : List Jvm.Cond) (G1 : Int32) (kC : Addr) (uS : Value) (sS : Value) (HG : own_G l Z a0 G1 kC uS sS) (h0 : Heap) (n0 : Nat) (X00 : Old Z n0 h0) (b : Addr) (k : ClassId) (t : Addr) (kt : ClassId) (c0 : Int32) (c1 : Int32) (c2 : Int32) (hp0 : Arv Z h0 b k .char (3 : Int32) [(.int c0), (.int c1), (.int c2)] (.int (0 : Int32))) (hp1 : Arv Z h0 t kt .byte (3 : Int32) [(.int (0 : Int32)), (.int (0 : Int32)), (.int (0 : Int32))] (.int (0 : Int32))) (hp2 : n0 ≤ t) (hp3 : b ≠ t) (hh0 : ¬ ((255 : Int32) < c0)) (hh1 : ¬ ((255 : Int32) < c1)) (hh2 : ¬ ((255 : Int32) < c2)) :
    own_CP l Z M140 jdk_52_method_21_code 7 (some .int) ws R_cmp5_3 #[(.ref b), (.int (0 : Int32)), (.ref t), (.int (0 : Int32)), (.int (3 : Int32))] h0 (Q_cmp5_3 Z G1 kC uS sS b k t kt c0 c1 c2 h0 n0) := by
  refine own_P (plainFor_of_name pn_142) ?_
  intro p e s m below meth c s₁ S0 Bd hZ hh hx hby hml hown hnm X0 e0 hS0d
  obtain ⟨O1, P1, O2, E2, F2, hLT, OU, rU, OS, rS⟩ := id HG
  have N0 := Fr.nil n0
  have C0 : Steps p.tables e below S0 (s₁.setTop (mkF m 0 #[.val (.ref b), .val (.int (0 : Int32)), .val (.ref t), .val (.int (0 : Int32)), .val (.int (3 : Int32)), .unset, .unset] [])) := by rw [hS0d]; exact castTop (ef_141 m b (0 : Int32) t (0 : Int32) (3 : Int32)) (Steps.refl _)
  obtain ⟨c_1, A_2, q_3, S_4, M_5, H_6, U_7⟩ := id hp0
  have hin_8 : ¬ ((0 : Int32) < 0 ∨ c_1.slots.size ≤ (0 : Int32).toNatClampNeg) := inb_of S_4 ⟨(by decide : ¬ ((0 : Int32) < (0 : Int32))), (by decide : (0 : Int32) < (3 : Int32))⟩
  have hat_9 : c_1.slots[(0 : Int32).toNatClampNeg]? = some (.int c0) := Has.at H_6 hin_8 rfl
  obtain ⟨c_10, A_11, q_12, S_13, M_14, H_15, U_16⟩ := id hp1
  have hin_23 : ¬ ((0 : Int32) < 0 ∨ c_10.slots.size ≤ (0 : Int32).toNatClampNeg) := inb_of S_13 ⟨(by decide : ¬ ((0 : Int32) < (0 : Int32))), (by decide : (0 : Int32) < (3 : Int32))⟩
  obtain ⟨T_17, h_18, X_19, e_20, W_21, st_22⟩ := stB X0 hx hZ e0 A_11 (j := (0 : Int32)) hin_23 (g := (mkF m 31 #[.val (.ref b), .val (.int (0 : Int32)), .val (.ref t), .val (.int (0 : Int32)), .val (.int (3 : Int32)), .val (.int (0 : Int32)), .val (.int c0)] [(.int (c0.toInt8.toInt32)), (.int (0 : Int32)), (.ref t)])) rfl rfl (hb hby d10_31)
  have N_24 := Fr.snoc X_19 N0 hp2
  have V_25 : Arv Z h_18 t kt .byte (3 : Int32) [(.int (own_lo8 c0)), (.int (0 : Int32)), (.int (0 : Int32))] (.int (0 : Int32)) := Arv.set A_11 q_12 S_13 M_14 H_15 U_16 (fits_nar_byte _) W_21 0 rfl (Nat.le_of_ble_eq_true rfl)
  have V_26 : Arv Z h_18 b k .char (3 : Int32) [(.int c0), (.int c1), (.int c2)] (.int (0 : Int32)) := (hp0.other W_21 hp3)
  obtain ⟨c_27, A_28, q_29, S_30, M_31, H_32, U_33⟩ := id V_26
  have hin_34 : ¬ ((1 : Int32) < 0 ∨ c_27.slots.size ≤ (1 : Int32).toNatClampNeg) := inb_of S_30 ⟨(by decide : ¬ ((1 : Int32) < (0 : Int32))), (by decide : (1 : Int32) < (3 : Int32))⟩
  have hat_35 : c_27.slots[(1 : Int32).toNatClampNeg]? = some (.int c1) := Has.at H_32 hin_34 rfl
  obtain ⟨c_36, A_37, q_38, S_39, M_40, H_41, U_42⟩ := id V_25
  have hin_49 : ¬ ((1 : Int32) < 0 ∨ c_36.slots.size ≤ (1 : Int32).toNatClampNeg) := inb_of S_39 ⟨(by decide : ¬ ((1 : Int32) < (0 : Int32))), (by decide : (1 : Int32) < (3 : Int32))⟩
  obtain ⟨T_43, h_44, X_45, e_46, W_47, st_48⟩ := stB X_19 hx hZ e_20 A_37 (j := (1 : Int32)) hin_49 (g := (mkF m 31 #[.val (.ref b), .val (.int (1 : Int32)), .val (.ref t), .val (.int (1 : Int32)), .val (.int (3 : Int32)), .val (.int (1 : Int32)), .val (.int c1)] [(.int (c1.toInt8.toInt32)), (.int (1 : Int32)), (.ref t)])) rfl rfl (hb hby d10_31)
  have N_50 := Fr.snoc X_45 N_24 hp2
  have V_51 : Arv Z h_44 t kt .byte (3 : Int32) [(.int (own_lo8 c0)), (.int (own_lo8 c1)), (.int (0 : Int32))] (.int (0 : Int32)) := Arv.set A_37 q_38 S_39 M_40 H_41 U_42 (fits_nar_byte _) W_47 1 rfl (Nat.le_of_ble_eq_true rfl)
  have V_52 : Arv Z h_44 b k .char (3 : Int32) [(.int c0), (.int c1), (.int c2)] (.int (0 : Int32)) := (V_26.other W_47 hp3)
  obtain ⟨c_53, A_54, q_55, S_56, M_57, H_58, U_59⟩ := id V_52
  have hin_60 : ¬ ((2 : Int32) < 0 ∨ c_53.slots.size ≤ (2 : Int32).toNatClampNeg) := inb_of S_56 ⟨(by decide : ¬ ((2 : Int32) < (0 : Int32))), (by decide : (2 : Int32) < (3 : Int32))⟩
  have hat_61 : c_53.slots[(2 : Int32).toNatClampNeg]? = some (.int c2) := Has.at H_58 hin_60 rfl
  obtain ⟨c_62, A_63, q_64, S_65, M_66, H_67, U_68⟩ := id V_51
  have hin_75 : ¬ ((2 : Int32) < 0 ∨ c_62.slots.size ≤ (2 : Int32).toNatClampNeg) := inb_of S_65 ⟨(by decide : ¬ ((2 : Int32) < (0 : Int32))), (by decide : (2 : Int32) < (3 : Int32))⟩
  obtain ⟨T_69, h_70, X_71, e_72, W_73, st_74⟩ := stB X_45 hx hZ e_46 A_63 (j := (2 : Int32)) hin_75 (g := (mkF m 31 #[.val (.ref b), .val (.int (2 : Int32)), .val (.ref t), .val (.int (2 : Int32)), .val (.int (3 : Int32)), .val (.int (2 : Int32)), .val (.int c2)] [(.int (c2.toInt8.toInt32)), (.int (2 : Int32)), (.ref t)])) rfl rfl (hb hby d10_31)
  have N_76 := Fr.snoc X_71 N_50 hp2
  have V_77 : Arv Z h_70 t kt .byte (3 : Int32) [(.int (own_lo8 c0)), (.int (own_lo8 c1)), (.int (own_lo8 c2))] (.int (0 : Int32)) := Arv.set A_63 q_64 S_65 M_66 H_67 U_68 (fits_nar_byte _) W_73 2 rfl (Nat.le_of_ble_eq_true rfl)
  have C_78 : Steps p.tables e below S0 (T_69.setTop (mkF m 46 #[.val (.ref b), .val (.int (3 : Int32)), .val (.ref t), .val (.int (3 : Int32)), .val (.int (3 : Int32)), .val (.int (3 : Int32)), .val (.int c2)] [(.int (3 : Int32))])) := by
    refine C0.trans ?_
    refine XS.iconst X0.here hx rfl (hb hby d10_0) ?_
    refine XS.istore X0.here hx rfl (hb hby d10_1) rfl (l' := #[.val (.ref b), .val (.int (0 : Int32)), .val (.ref t), .val (.int (0 : Int32)), .val (.int (3 : Int32)), .val (.int (0 : Int32)), .unset]) rfl ?_
    refine XS.iload X0.here hx rfl (hb hby d10_3) rfl ?_
    refine XS.iload X0.here hx rfl (hb hby d10_5) rfl ?_
    refine XS.icmpNo X0.here hx rfl (hb hby d10_7) rfl (by decide) ?_
    refine XS.aloadN X0.here hx rfl (hb hby d10_10) rfl rfl ?_
    refine XS.iloadN X0.here hx rfl (hb hby d10_11) rfl ?_
    refine X0.caload hx (j := (0 : Int32)) (v := (.int c0)) (by rw [e0]; exact A_2.1) (State.isArrayOf_alike hZ.alike A_2.2.1) A_2.2.2 hin_8 hat_9 (g := (mkF m 12 #[.val (.ref b), .val (.int (0 : Int32)), .val (.ref t), .val (.int (0 : Int32)), .val (.int (3 : Int32)), .val (.int (0 : Int32)), .unset] [(.int (0 : Int32)), (.ref b)])) rfl rfl (hb hby d10_12) _ ?_
    show Steps p.tables e below (s₁.setTop (mkF m 13 #[.val (.ref b), .val (.int (0 : Int32)), .val (.ref t), .val (.int (0 : Int32)), .val (.int (3 : Int32)), .val (.int (0 : Int32)), .unset] [(.int c0)])) _
    refine XS.istore X0.here hx rfl (hb hby d10_13) rfl (l' := #[.val (.ref b), .val (.int (0 : Int32)), .val (.ref t), .val (.int (0 : Int32)), .val (.int (3 : Int32)), .val (.int (0 : Int32)), .val (.int c0)]) rfl ?_
    refine XS.iload X0.here hx rfl (hb hby d10_15) rfl ?_
    refine XS.sipush X0.here hx rfl (hb hby d10_17) ?_
    refine XS.icmpYes X0.here hx rfl (pc0 := 20) (pc' := 26) rfl (hb hby d10_20) rfl (ii_le_t hh0) (by decide) (by decide) ?_
    refine XS.aloadN X0.here hx rfl (hb hby d10_26) rfl rfl ?_
    refine XS.iloadN X0.here hx rfl (hb hby d10_27) rfl ?_
    refine XS.iload X0.here hx rfl (hb hby d10_28) rfl ?_
    refine XS.i2b X0.here hx rfl (hb hby d10_30) rfl ?_
    show Steps p.tables e below (s₁.setTop (mkF m 31 #[.val (.ref b), .val (.int (0 : Int32)), .val (.ref t), .val (.int (0 : Int32)), .val (.int (3 : Int32)), .val (.int (0 : Int32)), .val (.int c0)] [(.int (c0.toInt8.toInt32)), (.int (0 : Int32)), (.ref t)])) _
    refine st_22 _ ?_
    refine XS.iinc X_19.here hx rfl (hb hby d10_32) (x := (0 : Int32)) rfl (l' := #[.val (.ref b), .val (.int (1 : Int32)), .val (.ref t), .val (.int (0 : Int32)), .val (.int (3 : Int32)), .val (.int (0 : Int32)), .val (.int c0)]) rfl ?_
    refine XS.iinc X_19.here hx rfl (hb hby d10_35) (x := (0 : Int32)) rfl (l' := #[.val (.ref b), .val (.int (1 : Int32)), .val (.ref t), .val (.int (1 : Int32)), .val (.int (3 : Int32)), .val (.int (0 : Int32)), .val (.int c0)]) rfl ?_
    refine XS.iinc X_19.here hx rfl (hb hby d10_38) (x := (0 : Int32)) rfl (l' := #[.val (.ref b), .val (.int (1 : Int32)), .val (.ref t), .val (.int (1 : Int32)), .val (.int (3 : Int32)), .val (.int (1 : Int32)), .val (.int c0)]) rfl ?_
    refine XS.goto X_19.here hx rfl (pc0 := 41) (pc' := 3) rfl (hb hby d10_41) (by decide) (by decide) ?_
    refine XS.iload X_19.here hx rfl (hb hby d10_3) rfl ?_
    refine XS.iload X_19.here hx rfl (hb hby d10_5) rfl ?_
    refine XS.icmpNo X_19.here hx rfl (hb hby d10_7) rfl (by decide) ?_
    show Steps p.tables e below (T_17.setTop (mkF m 10 #[.val (.ref b), .val (.int (1 : Int32)), .val (.ref t), .val (.int (1 : Int32)), .val (.int (3 : Int32)), .val (.int (1 : Int32)), .val (.int c0)] [])) _
    refine XS.aloadN X_19.here hx rfl (hb hby d10_10) rfl rfl ?_
    refine XS.iloadN X_19.here hx rfl (hb hby d10_11) rfl ?_
    refine X_19.caload hx (j := (1 : Int32)) (v := (.int c1)) (by rw [e_20]; exact A_28.1) (State.isArrayOf_alike hZ.alike A_28.2.1) A_28.2.2 hin_34 hat_35 (g := (mkF m 12 #[.val (.ref b), .val (.int (1 : Int32)), .val (.ref t), .val (.int (1 : Int32)), .val (.int (3 : Int32)), .val (.int (1 : Int32)), .val (.int c0)] [(.int (1 : Int32)), (.ref b)])) rfl rfl (hb hby d10_12) _ ?_
    refine XS.istore X_19.here hx rfl (hb hby d10_13) rfl (l' := #[.val (.ref b), .val (.int (1 : Int32)), .val (.ref t), .val (.int (1 : Int32)), .val (.int (3 : Int32)), .val (.int (1 : Int32)), .val (.int c1)]) rfl ?_
    refine XS.iload X_19.here hx rfl (hb hby d10_15) rfl ?_
    refine XS.sipush X_19.here hx rfl (hb hby d10_17) ?_
    refine XS.icmpYes X_19.here hx rfl (pc0 := 20) (pc' := 26) rfl (hb hby d10_20) rfl (ii_le_t hh1) (by decide) (by decide) ?_
    refine XS.aloadN X_19.here hx rfl (hb hby d10_26) rfl rfl ?_
    show Steps p.tables e below (T_17.setTop (mkF m 27 #[.val (.ref b), .val (.int (1 : Int32)), .val (.ref t), .val (.int (1 : Int32)), .val (.int (3 : Int32)), .val (.int (1 : Int32)), .val (.int c1)] [(.ref t)])) _
    refine XS.iloadN X_19.here hx rfl (hb hby d10_27) rfl ?_
    refine XS.iload X_19.here hx rfl (hb hby d10_28) rfl ?_
    refine XS.i2b X_19.here hx rfl (hb hby d10_30) rfl ?_
    refine st_48 _ ?_
    refine XS.iinc X_45.here hx rfl (hb hby d10_32) (x := (1 : Int32)) rfl (l' := #[.val (.ref b), .val (.int (2 : Int32)), .val (.ref t), .val (.int (1 : Int32)), .val (.int (3 : Int32)), .val (.int (1 : Int32)), .val (.int c1)]) rfl ?_
    refine XS.iinc X_45.here hx rfl (hb hby d10_35) (x := (1 : Int32)) rfl (l' := #[.val (.ref b), .val (.int (2 : Int32)), .val (.ref t), .val (.int (2 : Int32)), .val (.int (3 : Int32)), .val (.int (1 : Int32)), .val (.int c1)]) rfl ?_
    refine XS.iinc X_45.here hx rfl (hb hby d10_38) (x := (1 : Int32)) rfl (l' := #[.val (.ref b), .val (.int (2 : Int32)), .val (.ref t), .val (.int (2 : Int32)), .val (.int (3 : Int32)), .val (.int (2 : Int32)), .val (.int c1)]) rfl ?_
    refine XS.goto X_45.here hx rfl (pc0 := 41) (pc' := 3) rfl (hb hby d10_41) (by decide) (by decide) ?_
    show Steps p.tables e below (T_43.setTop (mkF m 3 #[.val (.ref b), .val (.int (2 : Int32)), .val (.ref t), .val (.int (2 : Int32)), .val (.int (3 : Int32)), .val (.int (2 : Int32)), .val (.int c1)] [])) _
    refine XS.iload X_45.here hx rfl (hb hby d10_3) rfl ?_
    refine XS.iload X_45.here hx rfl (hb hby d10_5) rfl ?_
    refine XS.icmpNo X_45.here hx rfl (hb hby d10_7) rfl (by decide) ?_
    refine XS.aloadN X_45.here hx rfl (hb hby d10_10) rfl rfl ?_
    refine XS.iloadN X_45.here hx rfl (hb hby d10_11) rfl ?_
    refine X_45.caload hx (j := (2 : Int32)) (v := (.int c2)) (by rw [e_46]; exact A_54.1) (State.isArrayOf_alike hZ.alike A_54.2.1) A_54.2.2 hin_60 hat_61 (g := (mkF m 12 #[.val (.ref b), .val (.int (2 : Int32)), .val (.ref t), .val (.int (2 : Int32)), .val (.int (3 : Int32)), .val (.int (2 : Int32)), .val (.int c1)] [(.int (2 : Int32)), (.ref b)])) rfl rfl (hb hby d10_12) _ ?_
    refine XS.istore X_45.here hx rfl (hb hby d10_13) rfl (l' := #[.val (.ref b), .val (.int (2 : Int32)), .val (.ref t), .val (.int (2 : Int32)), .val (.int (3 : Int32)), .val (.int (2 : Int32)), .val (.int c2)]) rfl ?_
    refine XS.iload X_45.here hx rfl (hb hby d10_15) rfl ?_
    show Steps p.tables e below (T_43.setTop (mkF m 17 #[.val (.ref b), .val (.int (2 : Int32)), .val (.ref t), .val (.int (2 : Int32)), .val (.int (3 : Int32)), .val (.int (2 : Int32)), .val (.int c2)] [(.int c2)])) _
    refine XS.sipush X_45.here hx rfl (hb hby d10_17) ?_
    refine XS.icmpYes X_45.here hx rfl (pc0 := 20) (pc' := 26) rfl (hb hby d10_20) rfl (ii_le_t hh2) (by decide) (by decide) ?_
    refine XS.aloadN X_45.here hx rfl (hb hby d10_26) rfl rfl ?_
    refine XS.iloadN X_45.here hx rfl (hb hby d10_27) rfl ?_
    refine XS.iload X_45.here hx rfl (hb hby d10_28) rfl ?_
    refine XS.i2b X_45.here hx rfl (hb hby d10_30) rfl ?_
    refine st_74 _ ?_
    refine XS.iinc X_71.here hx rfl (hb hby d10_32) (x := (2 : Int32)) rfl (l' := #[.val (.ref b), .val (.int (3 : Int32)), .val (.ref t), .val (.int (2 : Int32)), .val (.int (3 : Int32)), .val (.int (2 : Int32)), .val (.int c2)]) rfl ?_
    show Steps p.tables e below (T_69.setTop (mkF m 35 #[.val (.ref b), .val (.int (3 : Int32)), .val (.ref t), .val (.int (2 : Int32)), .val (.int (3 : Int32)), .val (.int (2 : Int32)), .val (.int c2)] [])) _
    refine XS.iinc X_71.here hx rfl (hb hby d10_35) (x := (2 : Int32)) rfl (l' := #[.val (.ref b), .val (.int (3 : Int32)), .val (.ref t), .val (.int (3 : Int32)), .val (.int (3 : Int32)), .val (.int (2 : Int32)), .val (.int c2)]) rfl ?_
    refine XS.iinc X_71.here hx rfl (hb hby d10_38) (x := (2 : Int32)) rfl (l' := #[.val (.ref b), .val (.int (3 : Int32)), .val (.ref t), .val (.int (3 : Int32)), .val (.int (3 : Int32)), .val (.int (3 : Int32)), .val (.int c2)]) rfl ?_
    refine XS.goto X_71.here hx rfl (pc0 := 41) (pc' := 3) rfl (hb hby d10_41) (by decide) (by decide) ?_
    refine XS.iload X_71.here hx rfl (hb hby d10_3) rfl ?_
    refine XS.iload X_71.here hx rfl (hb hby d10_5) rfl ?_
    refine XS.icmpYes X_71.here hx rfl (pc0 := 7) (pc' := 44) rfl (hb hby d10_7) rfl (by decide) (by decide) (by decide) ?_
    refine XS.iload X_71.here hx rfl (hb hby d10_44) rfl ?_
    exact Steps.refl _
  have K_79 : Keep h0 h_70 [t] := ((((Keep.refl _ _).wr W_21 (Or.inl (List.mem_of_getElem? (i := 0) rfl))).wr W_47 (Or.inl (List.mem_of_getElem? (i := 0) rfl))).wr W_73 (Or.inl (List.mem_of_getElem? (i := 0) rfl)))
  obtain ⟨fs, hr, hrun, hended, hW, hsame⟩ := X_71.leave (v := some (.int (3 : Int32))) (fun h => by rw [Bd.returns] at h; cases h)
  refine ⟨_, _, C_78.trans (retOut X_71 hx Bd.returns rfl (Or.inl ⟨rfl, Or.inl rfl, _, rfl⟩) (hb hby d10_46) hr), hrun, hended, _, _, rfl, ?_, ⟨_, rfl⟩, hW, hsame.mono (by decide) (by decide)⟩
  show Q_cmp5_3 Z G1 kC uS sS b k t kt c0 c1 c2 h0 n0 (some (.int (3 : Int32))) T_69.heap _
  rw [e_72]
  exact ⟨rfl, N_76, K_79, V_77⟩
abbrev R_cmp3_3 : Room := { frames := 1, cells := 1, slots := 3, locals := 18 }
def Q_cmp3_3 (Z : State) (G1 : Int32) (kC : Addr) (uS : Value) (sS : Value) (b : Addr) (k : ClassId) (c0 : Int32) (c1 : Int32) (c2 : Int32) (h0 : Heap) (n0 : Nat) (v : Option Value) (h : Heap) (L : List Loc) : Prop := (∃ t : Addr, ∃ kt : ClassId, v = some (.ref t) ∧ Fr n0 L ∧ Keep h0 h [] ∧ (h0.size ≤ t) ∧ (Arv Z h t kt .byte (3 : Int32) [(.int (own_lo8 c0)), (.int (own_lo8 c1)), (.int (own_lo8 c2))] (.int (0 : Int32))))
set_option maxRecDepth 65536 in
set_option maxHeartbeats 40000000 in
theorem rm_cmp3_3 (l : Launch) (Z : State) (a0 : Array Value) (hw : ∀ d ∈ tables_1, d.before a0 Z = true) (ws : List Jvm.Cond) (G1 : Int32) (kC : Addr) (uS : Value) (sS : Value) (HG : own_G l Z a0 G1 kC uS sS) (h0 : Heap) (n0 : Nat) (X00 : Old Z n0 h0) (b : Addr) (k : ClassId) (c0 : Int32) (c1 : Int32) (c2 : Int32) (hp0 : Arv Z h0 b k .char (3 : Int32) [(.int c0), (.int c1), (.int c2)] (.int (0 : Int32))) (hh0 : ¬ ((255 : Int32) < c0)) (hh1 : ¬ ((255 : Int32) < c1)) (hh2 : ¬ ((255 : Int32) < c2)) :
    own_CP l Z M166 jdk_52_method_16_code 6 (some (.array .byte)) ws R_cmp3_3 #[(.ref b), (.int (0 : Int32)), (.int (3 : Int32))] h0 (Q_cmp3_3 Z G1 kC uS sS b k c0 c1 c2 h0 n0) := by
  refine own_P (plainFor_of_name pn_142) ?_
  intro p e s m below meth c s₁ S0 Bd hZ hh hx hby hml hown hnm X0 e0 hS0d
  obtain ⟨O1, P1, O2, E2, F2, hLT, OU, rU, OS, rS⟩ := id HG
  have N0 := Fr.nil n0
  have C0 : Steps p.tables e below S0 (s₁.setTop (mkF m 0 #[.val (.ref b), .val (.int (0 : Int32)), .val (.int (3 : Int32)), .unset, .unset, .unset] [])) := by rw [hS0d]; exact castTop (ef_167 m b (0 : Int32) (3 : Int32)) (Steps.refl _)
  obtain ⟨T_1, h_2, k_3, X_4, e_5, E_6, A_7, st_8⟩ := newP (aty := .byte) X0 hx hZ (w23 hw) e0 (g := (mkF m 1 #[.val (.ref b), .val (.int (0 : Int32)), .val (.int (3 : Int32)), .unset, .unset, .unset] [(.int (3 : Int32))])) rfl (hb hby d11_1) rfl (by decide : ¬ ((3 : Int32) < (0 : Int32))) (cap := 3) (by decide : (3 : Int32).toNatClampNeg ≤ 3) (by decide) (by decide) (by decide)
  obtain ⟨a_9, g_10⟩ : ∃ z, z = h0.size := ⟨_, rfl⟩
  rw [← g_10] at A_7 st_8
  have V_12 : Arv Z h_2 a_9 k_3 .byte (3 : Int32) [] (.int (0 : Int32)) := Arv.new A_7 (by decide : ¬ ((3 : Int32) < (0 : Int32)))
  have V_11 : Arv Z h_2 a_9 k_3 .byte (3 : Int32) [(.int (0 : Int32)), (.int (0 : Int32)), (.int (0 : Int32))] (.int (0 : Int32)) := (V_12.pad (pad_rep [] (.int (0 : Int32)) 3))
  have V_13 : Arv Z h_2 b k .char (3 : Int32) [(.int c0), (.int c1), (.int c2)] (.int (0 : Int32)) := (hp0.ext E_6)
  have O_14 : Old Z n0 h_2 := (X00.ext E_6)
  obtain ⟨_, _, ⟨T_15, L_15, k_15, n_15⟩, -, X_15, ⟨Lc_15, hQ_15, l_15, y_15, z_15⟩, st_15⟩ := Jvm.LawKit.callS X_4 hx (y := M140) hown (mvT hZ (w24 hw)) (mvT hZ (w25 hw)) (mvT hZ (w21 hw)) (mvT hZ (w26 hw)) (by decide) (backOf (W := 0) (rm_cmp5_3 l Z a0 hw [] G1 kC uS sS HG h_2 n0 O_14 b k a_9 k_3 c0 c1 c2 V_13 V_11 (Nat.le_trans (own_n0 X00) (Nat.le_of_eq g_10.symm)) (Nat.ne_of_lt (Nat.lt_of_lt_of_le hp0.lt (Nat.le_trans (Nat.le_refl _) (Nat.le_of_eq g_10.symm)))) hh0 hh1 hh2) hZ (w26 hw) (w21 hw) (by decide) (by decide)) (g := (mkF m 9 #[.val (.ref b), .val (.int (0 : Int32)), .val (.int (3 : Int32)), .val (.ref a_9), .unset, .unset] [(.int (3 : Int32)), (.int (0 : Int32)), (.ref a_9), (.int (0 : Int32)), (.ref b)])) rfl (by rw [hml]; rfl) (argsL := [(.ref b), (.int (0 : Int32)), (.ref a_9), (.int (0 : Int32)), (.int (3 : Int32))]) (rest := []) (lenOf pd_179 rfl) rfl (by show 2 * 0 + _ ≤ _; exact Nat.le_of_eq rfl) (hb hby d11_9) (fun _ _ => ⟨rfl, e_5, (by decide : 1 + 0 ≤ _), (by decide : 3 + 0 ≤ _)⟩)
  dsimp only [Pt.U, Pt.locs, Pt.cells, Pt.slots] at X_15 l_15 y_15 z_15 st_15 hQ_15
  subst l_15 y_15 z_15
  obtain ⟨rfl, N_16, K_17, g_18⟩ := hQ_15
  have N_19 := Fr.app N0 N_16
  have C_20 : Steps p.tables e below S0 (T_15.setTop (mkF m 58 #[.val (.ref b), .val (.int (0 : Int32)), .val (.int (3 : Int32)), .val (.ref a_9), .val (.int (3 : Int32)), .unset] [(.ref a_9)])) := by
    refine C0.trans ?_
    refine XS.iloadN X0.here hx rfl (hb hby d11_0) rfl ?_
    refine st_8 _ ?_
    refine XS.astoreN X_4.here hx rfl (hb hby d11_3) rfl rfl (l' := #[.val (.ref b), .val (.int (0 : Int32)), .val (.int (3 : Int32)), .val (.ref a_9), .unset, .unset]) rfl ?_
    refine XS.aloadN X_4.here hx rfl (hb hby d11_4) rfl rfl ?_
    refine XS.iloadN X_4.here hx rfl (hb hby d11_5) rfl ?_
    refine XS.aloadN X_4.here hx rfl (hb hby d11_6) rfl rfl ?_
    refine XS.iconst X_4.here hx rfl (hb hby d11_7) ?_
    refine XS.iloadN X_4.here hx rfl (hb hby d11_8) rfl ?_
    show Steps p.tables e below (T_1.setTop (mkF m 9 #[.val (.ref b), .val (.int (0 : Int32)), .val (.int (3 : Int32)), .val (.ref a_9), .unset, .unset] [(.int (3 : Int32)), (.int (0 : Int32)), (.ref a_9), (.int (0 : Int32)), (.ref b)])) _
    refine st_15 _ ?_
    refine XS.istore X_15.here hx rfl (hb hby d11_12) rfl (l' := #[.val (.ref b), .val (.int (0 : Int32)), .val (.int (3 : Int32)), .val (.ref a_9), .val (.int (3 : Int32)), .unset]) rfl ?_
    refine XS.iload X_15.here hx rfl (hb hby d11_14) rfl ?_
    refine XS.iloadN X_15.here hx rfl (hb hby d11_16) rfl ?_
    refine XS.icmpYes X_15.here hx rfl (pc0 := 17) (pc' := 57) rfl (hb hby d11_17) rfl (by decide) (by decide) (by decide) ?_
    refine XS.aloadN X_15.here hx rfl (hb hby d11_57) rfl rfl ?_
    exact Steps.refl _
  have K_21 : Keep h0 T_15.heap [] := (((Keep.refl _ _).ext E_6).trans K_17 (allS (Or.inr (Nat.le_trans (Nat.le_refl _) (Nat.le_of_eq g_10.symm))) all0))
  obtain ⟨fs, hr, hrun, hended, hW, hsame⟩ := X_15.leave (v := some (.ref a_9)) (fun h => by rw [Bd.returns] at h; cases h)
  refine ⟨_, _, C_20.trans (retOut X_15 hx Bd.returns rfl (Or.inr (Or.inr (Or.inr (Or.inr ⟨rfl, rfl, rfl⟩)))) (hb hby d11_58) hr), hrun, hended, _, _, rfl, ?_, ⟨_, rfl⟩, hW, hsame.mono (by decide) (by decide)⟩
  show Q_cmp3_3 Z G1 kC uS sS b k c0 c1 c2 h0 n0 (some (.ref a_9)) T_15.heap _
  exact ⟨a_9, k_3, rfl, N_19, K_21, (Nat.le_trans (Nat.le_refl _) (Nat.le_of_eq g_10.symm)), g_18⟩
abbrev R_codl_3 : Room := { frames := 0, cells := 0, slots := 0, locals := 0 }
def Q_codl_3 (Z : State) (G1 : Int32) (kC : Addr) (uS : Value) (sS : Value) (t : Addr) (kt : ClassId) (y0 : Int32) (y1 : Int32) (y2 : Int32) (h0 : Heap) (n0 : Nat) (v : Option Value) (h : Heap) (L : List Loc) : Prop := (v = some (.int (0 : Int32)) ∧ Fr n0 L ∧ h = h0)
set_option maxRecDepth 65536 in
set_option maxHeartbeats 40000000 in
theorem rm_codl_3 (l : Launch) (Z : State) (a0 : Array Value) (hw : ∀ d ∈ tables_1, d.before a0 Z = true) (ws : List Jvm.Cond) (G1 : Int32) (kC : Addr) (uS : Value) (sS : Value) (HG : own_G l Z a0 G1 kC uS sS) (h0 : Heap) (n0 : Nat) (X00 : Old Z n0 h0) (t : Addr) (kt : ClassId) (y0 : Int32) (y1 : Int32) (y2 : Int32) (hp0 : Arv Z h0 t kt .byte (3 : Int32) [(.int y0), (.int y1), (.int y2)] (.int (0 : Int32))) :
    own_CP l Z M189 jdk_52_method_15_code 2 (some .byte) ws R_codl_3 #[(.ref t), (.int (3 : Int32))] h0 (Q_codl_3 Z G1 kC uS sS t kt y0 y1 y2 h0 n0) := by
  refine own_P (plainFor_of_name pn_142) ?_
  intro p e s m below meth c s₁ S0 Bd hZ hh hx hby hml hown hnm X0 e0 hS0d
  obtain ⟨O1, P1, O2, E2, F2, hLT, OU, rU, OS, rS⟩ := id HG
  have N0 := Fr.nil n0
  have C0 : Steps p.tables e below S0 (s₁.setTop (mkF m 0 #[.val (.ref t), .val (.int (3 : Int32))] [])) := by rw [hS0d]; exact castTop (ef_190 m t (3 : Int32)) (Steps.refl _)
  obtain ⟨c_1, A_2, q_3, S_4, M_5, H_6, U_7⟩ := id hp0
  have C_8 : Steps p.tables e below S0 (s₁.setTop (mkF m 8 #[.val (.ref t), .val (.int (3 : Int32))] [(.int (0 : Int32))])) := by
    refine C0.trans ?_
    refine XS.iloadN X0.here hx rfl (hb hby d12_0) rfl ?_
    refine XS.aloadN X0.here hx rfl (hb hby d12_1) rfl rfl ?_
    refine X0.arraylength hx (by rw [e0]; exact A_2.1) (State.isArrayOf_alike hZ.alike A_2.2.1) (g := (mkF m 2 #[.val (.ref t), .val (.int (3 : Int32))] [(.ref t), (.int (3 : Int32))])) rfl rfl (hb hby d12_2) _ ?_
    rw [len_of S_4 M_5]
    refine XS.isub X0.here hx rfl (hb hby d12_3) rfl ?_
    refine XS.bipush X0.here hx rfl (hb hby d12_4) ?_
    refine XS.iushr X0.here hx rfl (hb hby d12_6) rfl ?_
    refine XS.i2b X0.here hx rfl (hb hby d12_7) rfl ?_
    exact Steps.refl _
  obtain ⟨fs, hr, hrun, hended, hW, hsame⟩ := X0.leave (v := some (.int (0 : Int32))) (fun h => by rw [Bd.returns] at h; cases h)
  refine ⟨_, _, C_8.trans (retN X0 hx (t := .byte) Bd.returns (by simp) (hb hby d12_8) hr), hrun, hended, _, _, rfl, ?_, ⟨_, rfl⟩, hW, hsame.mono (by decide) (by decide)⟩
  show Q_codl_3 Z G1 kC uS sS t kt y0 y1 y2 h0 n0 (some (.int (0 : Int32))) s₁.heap _
  rw [e0]
  exact ⟨rfl, N0, rfl⟩
abbrev R_si4_3 : Room := { frames := 2, cells := 1, slots := 3, locals := 35 }
def Q_si4_3 (Z : State) (G1 : Int32) (kC : Addr) (uS : Value) (sS : Value) (x : Addr) (b : Addr) (k : ClassId) (c0 : Int32) (c1 : Int32) (c2 : Int32) (h0 : Heap) (n0 : Nat) (v : Option Value) (h : Heap) (L : List Loc) : Prop := (∃ t : Addr, ∃ kt : ClassId, v = none ∧ Fr n0 L ∧ Keep h0 h [x] ∧ (Exa Z h x "java/lang/String") ∧ (Fld Z h x "java/lang/String" "coder" "B" (.int (0 : Int32))) ∧ (Fld Z h x "java/lang/String" "value" "[B" (.ref t)) ∧ (h0.size ≤ t) ∧ (Arv Z h t kt .byte (3 : Int32) [(.int (own_lo8 c0)), (.int (own_lo8 c1)), (.int (own_lo8 c2))] (.int (0 : Int32))))
set_option maxRecDepth 65536 in
set_option maxHeartbeats 40000000 in
theorem rm_si4_3 (l : Launch) (Z : State) (a0 : Array Value) (hw : ∀ d ∈ tables_1, d.before a0 Z = true) (ws : List Jvm.Cond) (G1 : Int32) (kC : Addr) (uS : Value) (sS : Value) (HG : own_G l Z a0 G1 kC uS sS) (h0 : Heap) (n0 : Nat) (X00 : Old Z n0 h0) (x : Addr) (b : Addr) (k : ClassId) (c0 : Int32) (c1 : Int32) (c2 : Int32) (hp0 : Exa Z h0 x "java/lang/String") (hp1 : Fld Z h0 x "java/lang/String" "value" "[B" .null) (hp2 : Fld Z h0 x "java/lang/String" "coder" "B" (.int (0 : Int32))) (hp3 : n0 ≤ x) (hp4 : Arv Z h0 b k .char (3 : Int32) [(.int c0), (.int c1), (.int c2)] (.int (0 : Int32))) (hh0 : ¬ ((255 : Int32) < c0)) (hh1 : ¬ ((255 : Int32) < c1)) (hh2 : ¬ ((255 : Int32) < c2)) :
    own_CP l Z M0 jdk_42_method_149_code 6 none ws R_si4_3 #[(.ref x), (.ref b), (.int (0 : Int32)), (.int (3 : Int32)), .null] h0 (Q_si4_3 Z G1 kC uS sS x b k c0 c1 c2 h0 n0) := by
  refine own_P (plainFor_of_name pn_2) ?_
  intro p e s m below meth c s₁ S0 Bd hZ hh hx hby hml hown hnm X0 e0 hS0d
  obtain ⟨O1, P1, O2, E2, F2, hLT, OU, rU, OS, rS⟩ := id HG
  have N0 := Fr.nil n0
  have C0 : Steps p.tables e below S0 (s₁.setTop (mkF m 0 #[.val (.ref x), .val (.ref b), .val (.int (0 : Int32)), .val (.int (3 : Int32)), .val .null, .unset] [])) := by rw [hS0d]; exact castTop (ef_1 m x b (0 : Int32) (3 : Int32)) (Steps.refl _)
  obtain ⟨T_1, X_2, e_3, st_4⟩ := initO X0 hx hZ hown (w15 hw) (w16 hw) (w17 hw) e0 (g := (mkF m 1 #[.val (.ref x), .val (.ref b), .val (.int (0 : Int32)), .val (.int (3 : Int32)), .val .null, .unset] [(.ref x)])) rfl (by rw [hml]; rfl) rfl (hb hby d0_1) (by decide) (W := 0) (by show 2 * 0 + _ ≤ _; exact Nat.le_of_eq rfl) (by decide)
  obtain ⟨T_5, X_6, e_7, st_8⟩ := getS X_2 hx hZ (host := "") hown (w18 hw) Via.refl e_3 (O1.ext X00.2) (g := (mkF m 27 #[.val (.ref x), .val (.ref b), .val (.int (0 : Int32)), .val (.int (3 : Int32)), .val .null, .unset] [])) rfl (hb hby d0_27)
  obtain ⟨_, _, ⟨T_9, L_9, k_9, n_9⟩, -, X_9, ⟨Lc_9, hQ_9, l_9, y_9, z_9⟩, st_9⟩ := Jvm.LawKit.callS X_6 hx (y := M166) hown (mvT hZ (w19 hw)) (mvT hZ (w20 hw)) (mvT hZ (w21 hw)) (mvT hZ (w22 hw)) (by decide) (backOf (W := 0) (rm_cmp3_3 l Z a0 hw [] G1 kC uS sS HG h0 n0 X00 b k c0 c1 c2 hp4 hh0 hh1 hh2) hZ (w22 hw) (w21 hw) (by decide) (by decide)) (g := (mkF m 36 #[.val (.ref x), .val (.ref b), .val (.int (0 : Int32)), .val (.int (3 : Int32)), .val .null, .unset] [(.int (3 : Int32)), (.int (0 : Int32)), (.ref b)])) rfl (by rw [hml]; rfl) (argsL := [(.ref b), (.int (0 : Int32)), (.int (3 : Int32))]) (rest := []) (lenOf pd_206 rfl) rfl (by show 2 * 0 + _ ≤ _; exact Nat.le_of_eq rfl) (hb hby d0_36) (fun _ _ => ⟨rfl, e_7, (by decide : 0 + 1 ≤ _), (by decide : 0 + 3 ≤ _)⟩)
  dsimp only [Pt.U, Pt.locs, Pt.cells, Pt.slots] at X_9 l_9 y_9 z_9 st_9 hQ_9
  subst l_9 y_9 z_9
  obtain ⟨a_10, k_11, rfl, N_12, K_13, g_14, g_15⟩ := hQ_9
  have N_16 := Fr.app N0 N_12
  have O_17 : Old Z n0 T_9.heap := (X00.keep K_13 all0)
  obtain ⟨_, _, ⟨T_18, L_18, k_18, n_18⟩, -, X_18, ⟨Lc_18, hQ_18, l_18, y_18, z_18⟩, st_18⟩ := Jvm.LawKit.callS X_9 hx (y := M189) hown (mvT hZ (w27 hw)) (mvT hZ (w28 hw)) (mvT hZ (w21 hw)) (mvT hZ (w29 hw)) (by decide) (backOf (W := 1) (rm_codl_3 l Z a0 hw [] G1 kC uS sS HG T_9.heap n0 O_17 a_10 k_11 (own_lo8 c0) (own_lo8 c1) (own_lo8 c2) g_15) hZ (w29 hw) (w21 hw) (by decide) (by decide)) (g := (mkF m 45 #[.val (.ref x), .val (.ref b), .val (.int (0 : Int32)), .val (.int (3 : Int32)), .val .null, .val (.ref a_10)] [(.int (3 : Int32)), (.ref a_10), (.ref x)])) rfl (by rw [hml]; rfl) (argsL := [(.ref a_10), (.int (3 : Int32))]) (rest := [(.ref x)]) (lenOf pd_215 rfl) rfl (by show 2 * 0 + _ ≤ _; exact Nat.le_of_eq rfl) (hb hby d0_45) (fun _ _ => ⟨rfl, rfl, (by decide : 1 + 0 ≤ _), (by decide : 3 + 0 ≤ _)⟩)
  dsimp only [Pt.U, Pt.locs, Pt.cells, Pt.slots] at X_18 l_18 y_18 z_18 st_18 hQ_18
  subst l_18 y_18 z_18
  obtain ⟨rfl, N_19, e_20⟩ := hQ_18
  have N_21 := Fr.app N_16 N_19
  have e_22 : T_18.heap = T_9.heap := e_20
  have F_23 : Fld Z T_9.heap x "java/lang/String" "coder" "B" (.int (0 : Int32)) := (hp2.keep K_13 nin0)
  have E_24 : Exa Z T_9.heap x "java/lang/String" := (hp0.keep K_13)
  obtain ⟨T_25, h_26, X_27, e_28, W_29, st_30⟩ := putF X_18 hx hZ hown (host := "") (Or.inl (w30 hw)) Via.refl e_22 F_23 E_24 (Or.inr ⟨(w31 hw), rfl, hnm⟩) (w5 hw) (ty := .byte) (by decide) rfl (by decide) (g := (mkF m 48 #[.val (.ref x), .val (.ref b), .val (.int (0 : Int32)), .val (.int (3 : Int32)), .val .null, .val (.ref a_10)] [(.int (0 : Int32)), (.ref x)])) rfl rfl (hb hby d0_48)
  have N_31 := Fr.snoc X_27 N_21 hp3
  have F_32 : Fld Z h_26 x "java/lang/String" "coder" "B" (.int (0 : Int32)) := F_23.same W_29
  have F_33 : Fld Z h_26 x "java/lang/String" "value" "[B" .null := ((hp1.keep K_13 nin0).other W_29 (Or.inr (slot_ne (Or.inr (w33 hw)) (Or.inr (w31 hw)) (by decide) (t := (.array .byte)) (by decide) (t' := .byte) (by decide))))
  have E_34 : Exa Z h_26 x "java/lang/String" := (E_24.wr W_29)
  obtain ⟨T_35, h_36, X_37, e_38, W_39, st_40⟩ := putF X_27 hx hZ hown (host := "") (Or.inl (w32 hw)) Via.refl e_28 F_33 E_34 (Or.inr ⟨(w33 hw), rfl, hnm⟩) (w5 hw) (ty := (.array .byte)) (by decide) rfl rfl (g := (mkF m 54 #[.val (.ref x), .val (.ref b), .val (.int (0 : Int32)), .val (.int (3 : Int32)), .val .null, .val (.ref a_10)] [(.ref a_10), (.ref x)])) rfl rfl (hb hby d0_54)
  have N_41 := Fr.snoc X_37 N_31 hp3
  have F_42 : Fld Z h_36 x "java/lang/String" "value" "[B" (.ref a_10) := F_33.same W_39
  have C_43 : Steps p.tables e below S0 (T_35.setTop (mkF m 57 #[.val (.ref x), .val (.ref b), .val (.int (0 : Int32)), .val (.int (3 : Int32)), .val .null, .val (.ref a_10)] [])) := by
    refine C0.trans ?_
    refine XS.aloadN X0.here hx rfl (hb hby d0_0) rfl rfl ?_
    refine st_4 _ ?_
    refine XS.iloadN X_2.here hx rfl (hb hby d0_4) rfl ?_
    refine XS.ifYes X_2.here hx rfl (pc0 := 5) (pc' := 27) rfl (hb hby d0_5) rfl (by decide) (by decide) (by decide) ?_
    refine st_8 _ ?_
    refine XS.ifNo X_6.here hx rfl (hb hby d0_30) rfl (i0_eq_f P1) ?_
    refine XS.aloadN X_6.here hx rfl (hb hby d0_33) rfl rfl ?_
    refine XS.iloadN X_6.here hx rfl (hb hby d0_34) rfl ?_
    show Steps p.tables e below (T_5.setTop (mkF m 35 #[.val (.ref x), .val (.ref b), .val (.int (0 : Int32)), .val (.int (3 : Int32)), .val .null, .unset] [(.int (0 : Int32)), (.ref b)])) _
    refine XS.iloadN X_6.here hx rfl (hb hby d0_35) rfl ?_
    refine st_9 _ ?_
    refine XS.astore X_9.here hx rfl (hb hby d0_39) rfl rfl (l' := #[.val (.ref x), .val (.ref b), .val (.int (0 : Int32)), .val (.int (3 : Int32)), .val .null, .val (.ref a_10)]) rfl ?_
    refine XS.aloadN X_9.here hx rfl (hb hby d0_41) rfl rfl ?_
    refine XS.aload X_9.here hx rfl (hb hby d0_42) rfl rfl ?_
    refine XS.iloadN X_9.here hx rfl (hb hby d0_44) rfl ?_
    refine st_18 _ ?_
    refine st_30 _ ?_
    show Steps p.tables e below (T_25.setTop (mkF m 51 #[.val (.ref x), .val (.ref b), .val (.int (0 : Int32)), .val (.int (3 : Int32)), .val .null, .val (.ref a_10)] [])) _
    refine XS.aloadN X_27.here hx rfl (hb hby d0_51) rfl rfl ?_
    refine XS.aload X_27.here hx rfl (hb hby d0_52) rfl rfl ?_
    refine st_40 _ ?_
    exact Steps.refl _
  have E_44 : Exa Z h_36 x "java/lang/String" := (E_34.wr W_39)
  have F_45 : Fld Z h_36 x "java/lang/String" "coder" "B" (.int (0 : Int32)) := (F_32.other W_39 (Or.inr (slot_ne (Or.inr (w31 hw)) (Or.inr (w33 hw)) (by decide) (t := .byte) (by decide) (t' := (.array .byte)) (by decide))))
  have V_46 : Arv Z h_36 a_10 k_11 .byte (3 : Int32) [(.int (own_lo8 c0)), (.int (own_lo8 c1)), (.int (own_lo8 c2))] (.int (0 : Int32)) := ((g_15.other W_29 (Ne.symm (Nat.ne_of_lt (Nat.lt_of_lt_of_le hp0.lt (Nat.le_trans (Nat.le_refl _) g_14))))).other W_39 (Ne.symm (Nat.ne_of_lt (Nat.lt_of_lt_of_le hp0.lt (Nat.le_trans (Nat.le_refl _) g_14)))))
  have K_47 : Keep h0 h_36 [x] := ((((Keep.refl _ _).trans K_13 all0).wr W_29 (Or.inl (List.mem_of_getElem? (i := 0) rfl))).wr W_39 (Or.inl (List.mem_of_getElem? (i := 0) rfl)))
  obtain ⟨fs, hr, hrun, hended, hW, hsame⟩ := X_37.leave (v := none) (fun _ => rfl)
  refine ⟨_, _, C_43.trans (X_37.returnOut hx Bd.returns (hb hby d0_57) hr), hrun, hended, _, _, rfl, ?_, ⟨_, rfl⟩, hW, hsame.mono (by decide) (by decide)⟩
  show Q_si4_3 Z G1 kC uS sS x b k c0 c1 c2 h0 n0 (none) T_35.heap _
  rw [e_38]
  exact ⟨a_10, k_11, rfl, N_41, K_47, E_44, F_45, F_42, (Nat.le_trans (Nat.le_refl _) g_14), V_46⟩
abbrev R_si1_3 : Room := { frames := 3, cells := 1, slots := 3, locals := 52 }
def Q_si1_3 (Z : State) (G1 : Int32) (kC : Addr) (uS : Value) (sS : Value) (x : Addr) (b : Addr) (k : ClassId) (c0 : Int32) (c1 : Int32) (c2 : Int32) (h0 : Heap) (n0 : Nat) (v : Option Value) (h : Heap) (L : List Loc) : Prop := (∃ t : Addr, ∃ kt : ClassId, v = none ∧ Fr n0 L ∧ Keep h0 h [x] ∧ (Exa Z h x "java/lang/String") ∧ (Fld Z h x "java/lang/String" "coder" "B" (.int (0 : Int32))) ∧ (Fld Z h x "java/lang/String" "value" "[B" (.ref t)) ∧ (h0.size ≤ t) ∧ (Arv Z h t kt .byte (3 : Int32) [(.int (own_lo8 c0)), (.int (own_lo8 c1)), (.int (own_lo8 c2))] (.int (0 : Int32))))
set_option maxRecDepth 65536 in
set_option maxHeartbeats 40000000 in
theorem rm_si1_3 (l : Launch) (Z : State) (a0 : Array Value) (hw : ∀ d ∈ tables_1, d.before a0 Z = true) (ws : List Jvm.Cond) (G1 : Int32) (kC : Addr) (uS : Value) (sS : Value) (HG : own_G l Z a0 G1 kC uS sS) (h0 : Heap) (n0 : Nat) (X00 : Old Z n0 h0) (x : Addr) (b : Addr) (k : ClassId) (c0 : Int32) (c1 : Int32) (c2 : Int32) (hp0 : Exa Z h0 x "java/lang/String") (hp1 : Fld Z h0 x "java/lang/String" "value" "[B" .null) (hp2 : Fld Z h0 x "java/lang/String" "coder" "B" (.int (0 : Int32))) (hp3 : n0 ≤ x) (hp4 : Arv Z h0 b k .char (3 : Int32) [(.int c0), (.int c1), (.int c2)] (.int (0 : Int32))) (hh0 : ¬ ((255 : Int32) < c0)) (hh1 : ¬ ((255 : Int32) < c1)) (hh2 : ¬ ((255 : Int32) < c2)) :
    own_CP l Z M25 jdk_42_method_3_code 2 none ws R_si1_3 #[(.ref x), (.ref b)] h0 (Q_si1_3 Z G1 kC uS sS x b k c0 c1 c2 h0 n0) := by
  refine own_P (plainFor_of_name pn_2) ?_
  intro p e s m below meth c s₁ S0 Bd hZ hh hx hby hml hown hnm X0 e0 hS0d
  obtain ⟨O1, P1, O2, E2, F2, hLT, OU, rU, OS, rS⟩ := id HG
  have N0 := Fr.nil n0
  have C0 : Steps p.tables e below S0 (s₁.setTop (mkF m 0 #[.val (.ref x), .val (.ref b)] [])) := by rw [hS0d]; exact castTop (ef_26 m x b) (Steps.refl _)
  obtain ⟨c_1, A_2, q_3, S_4, M_5, H_6, U_7⟩ := id hp4
  obtain ⟨_, _, ⟨T_8, L_8, k_8, n_8⟩, -, X_8, ⟨Lc_8, hQ_8, l_8, y_8, z_8⟩, st_8⟩ := X0.specialBack hx (y := M0) rfl hown (mvT hZ (w11 hw)) (mvT hZ (w12 hw)) (mvT hZ (w14 hw)) (by decide) (backOf (W := 0) (rm_si4_3 l Z a0 hw [] G1 kC uS sS HG h0 n0 X00 x b k c0 c1 c2 hp0 hp1 hp2 hp3 hp4 hh0 hh1 hh2) hZ (w14 hw) (w6 hw) (by decide) (by decide)) (g := (mkF m 6 #[.val (.ref x), .val (.ref b)] [.null, (.int (3 : Int32)), (.int (0 : Int32)), (.ref b), (.ref x)])) rfl (by rw [hml]; rfl) (Steps.refl _) (a := x) (argsL := [(.ref b), (.int (0 : Int32)), (.int (3 : Int32)), .null]) (rest := []) (lenOf pd_35 rfl) rfl (by show 2 * 0 + _ ≤ _; exact Nat.le_of_eq rfl) (hb hby d1_6) (fun _ _ => ⟨rfl, e0, (by decide : 0 + 1 ≤ _), (by decide : 0 + 3 ≤ _)⟩)
  dsimp only [Pt.U, Pt.locs, Pt.cells, Pt.slots] at X_8 l_8 y_8 z_8 st_8 hQ_8
  subst l_8 y_8 z_8
  obtain ⟨a_9, k_10, rfl, N_11, K_12, g_13, g_14, g_15, g_16, g_17⟩ := hQ_8
  have N_18 := Fr.app N0 N_11
  have C_19 : Steps p.tables e below S0 (T_8.setTop (mkF m 9 #[.val (.ref x), .val (.ref b)] [])) := by
    refine C0.trans ?_
    refine XS.aloadN X0.here hx rfl (hb hby d1_0) rfl rfl ?_
    refine XS.aloadN X0.here hx rfl (hb hby d1_1) rfl rfl ?_
    refine XS.iconst X0.here hx rfl (hb hby d1_2) ?_
    refine XS.aloadN X0.here hx rfl (hb hby d1_3) rfl rfl ?_
    refine X0.arraylength hx (by rw [e0]; exact A_2.1) (State.isArrayOf_alike hZ.alike A_2.2.1) (g := (mkF m 4 #[.val (.ref x), .val (.ref b)] [(.ref b), (.int (0 : Int32)), (.ref b), (.ref x)])) rfl rfl (hb hby d1_4) _ ?_
    rw [len_of S_4 M_5]
    refine XS.aconstNull X0.here hx rfl (hb hby d1_5) ?_
    refine st_8.trans ?_
    exact Steps.refl _
  have K_20 : Keep h0 T_8.heap [x] := ((Keep.refl _ _).trans K_12 (allS (Or.inl (List.mem_of_getElem? (i := 0) rfl)) all0))
  obtain ⟨fs, hr, hrun, hended, hW, hsame⟩ := X_8.leave (v := none) (fun _ => rfl)
  refine ⟨_, _, C_19.trans (X_8.returnOut hx Bd.returns (hb hby d1_9) hr), hrun, hended, _, _, rfl, ?_, ⟨_, rfl⟩, hW, hsame.mono (by decide) (by decide)⟩
  show Q_si1_3 Z G1 kC uS sS x b k c0 c1 c2 h0 n0 (none) T_8.heap _
  exact ⟨a_9, k_10, rfl, N_18, K_20, g_13, g_14, g_15, (Nat.le_trans (Nat.le_refl _) g_16), g_17⟩
abbrev M224 : MethodName := ⟨"com/example/manque/manque/DeclinedConflictPinLaw", "draw", "(IIII)Ljava/lang/String;"⟩
theorem ef_225 (m : MethodId) (x0 : Int32) (x1 : Int32) (x2 : Int32) (x3 : Int32) : entryFrame m #[(.int x0), (.int x1), (.int x2), (.int x3)] 8 = mkF m 0 #[.val (.int x0), .val (.int x1), .val (.int x2), .val (.int x3), .unset, .unset, .unset, .unset] [] := by first | (simp [entryFrame, mkF, argsToLocals, Value.category]; done) | rfl
theorem pn_226 : plainName "com/example/manque/manque/DeclinedConflictPinLaw" = true := by first | (simp [plainName, overriddenIn]; done) | decide +kernel
theorem d13_0 : decode method_3_code 0 = .ok (.iload_n 3, 1) := by decide +kernel
theorem d13_1 : decode method_3_code 1 = .ok (.bipush 7, 2) := by decide +kernel
theorem d13_3 : decode method_3_code 3 = .ok (.iand, 1) := by decide +kernel
theorem d13_4 : decode method_3_code 4 = .ok (.bipush 7, 2) := by decide +kernel
theorem d13_6 : decode method_3_code 6 = .ok (.if_icmp .ne 5, 3) := by decide +kernel
theorem d13_9 : decode method_3_code 9 = .ok (.aconst_null, 1) := by decide +kernel
theorem d13_10 : decode method_3_code 10 = .ok (.areturn, 1) := by decide +kernel
theorem d13_11 : decode method_3_code 11 = .ok (.iload_n 3, 1) := by decide +kernel
theorem d13_12 : decode method_3_code 12 = .ok (.iconst 3, 1) := by decide +kernel
theorem d13_13 : decode method_3_code 13 = .ok (.iand, 1) := by decide +kernel
theorem d13_14 : decode method_3_code 14 = .ok (.istore 4, 2) := by decide +kernel
theorem d13_16 : decode method_3_code 16 = .ok (.iload_n 0, 1) := by decide +kernel
theorem d13_17 : decode method_3_code 17 = .ok (.sipush 255, 3) := by decide +kernel
theorem d13_20 : decode method_3_code 20 = .ok (.iand, 1) := by decide +kernel
theorem d13_21 : decode method_3_code 21 = .ok (.i2c, 1) := by decide +kernel
theorem d13_22 : decode method_3_code 22 = .ok (.istore 5, 2) := by decide +kernel
theorem d13_24 : decode method_3_code 24 = .ok (.iload_n 1, 1) := by decide +kernel
theorem d13_25 : decode method_3_code 25 = .ok (.sipush 255, 3) := by decide +kernel
theorem d13_28 : decode method_3_code 28 = .ok (.iand, 1) := by decide +kernel
theorem d13_29 : decode method_3_code 29 = .ok (.i2c, 1) := by decide +kernel
theorem d13_30 : decode method_3_code 30 = .ok (.istore 6, 2) := by decide +kernel
theorem d13_32 : decode method_3_code 32 = .ok (.iload_n 2, 1) := by decide +kernel
theorem d13_33 : decode method_3_code 33 = .ok (.sipush 255, 3) := by decide +kernel
theorem d13_36 : decode method_3_code 36 = .ok (.iand, 1) := by decide +kernel
theorem d13_37 : decode method_3_code 37 = .ok (.i2c, 1) := by decide +kernel
theorem d13_38 : decode method_3_code 38 = .ok (.istore 7, 2) := by decide +kernel
theorem d13_40 : decode method_3_code 40 = .ok (.iload 4, 2) := by decide +kernel
theorem d13_42 : decode method_3_code 42 = .ok (.ifCond .ne 14, 3) := by decide +kernel
theorem w4 {Z : State} {a0 : Array Value} (hw : ∀ d ∈ tables_1, d.before a0 Z = true) : Jvm.Cond.before (Jvm.Cond.classLink "com/example/manque/manque/DeclinedConflictPinLaw" (28 : Nat) "java/lang/String") a0 Z = true := hw _ (List.mem_of_getElem? (i := 4) rfl)
theorem d13_45 : decode method_3_code 45 = .ok (.new 28, 3) := by decide +kernel
theorem d13_48 : decode method_3_code 48 = .ok (.dup, 1) := by decide +kernel
theorem d13_49 : decode method_3_code 49 = .ok (.iconst 0, 1) := by decide +kernel
theorem w7 {Z : State} {a0 : Array Value} (hw : ∀ d ∈ tables_1, d.before a0 Z = true) : Jvm.Cond.before (Jvm.Cond.arrayClass Jvm.ClassFile.FieldType.char) a0 Z = true := hw _ (List.mem_of_getElem? (i := 7) rfl)
theorem d13_50 : decode method_3_code 50 = .ok (.newarray .char, 2) := by decide +kernel
theorem w10 {Z : State} {a0 : Array Value} (hw : ∀ d ∈ tables_1, d.before a0 Z = true) : Jvm.Cond.before (Jvm.Cond.code ({ cls := "java/lang/String", name := "<init>", desc := "([C)V" } : Jvm.MethodName) jdk_42_method_3_code (2 : Nat) (Option.none : Option Jvm.ClassFile.FieldType)) a0 Z = true := hw _ (List.mem_of_getElem? (i := 10) rfl)
theorem pd_262 : parseMethodDescriptor "([C)V" = some ⟨[(.array .char)], none⟩ := by decide +kernel
theorem d13_52 : decode method_3_code 52 = .ok (.invokespecial 43, 3) := by decide +kernel
theorem w8 {Z : State} {a0 : Array Value} (hw : ∀ d ∈ tables_1, d.before a0 Z = true) : Jvm.Cond.before (Jvm.Cond.methodLink "com/example/manque/manque/DeclinedConflictPinLaw" (43 : Nat) ({ cls := "java/lang/String", name := "<init>", desc := "([C)V" } : Jvm.MethodName)) a0 Z = true := hw _ (List.mem_of_getElem? (i := 8) rfl)
theorem w9 {Z : State} {a0 : Array Value} (hw : ∀ d ∈ tables_1, d.before a0 Z = true) : Jvm.Cond.before (Jvm.Cond.instanceMethod ({ cls := "java/lang/String", name := "<init>", desc := "([C)V" } : Jvm.MethodName)) a0 Z = true := hw _ (List.mem_of_getElem? (i := 9) rfl)
theorem d13_55 : decode method_3_code 55 = .ok (.areturn, 1) := by decide +kernel
theorem d13_56 : decode method_3_code 56 = .ok (.iload 4, 2) := by decide +kernel
theorem d13_58 : decode method_3_code 58 = .ok (.iconst 1, 1) := by decide +kernel
theorem d13_59 : decode method_3_code 59 = .ok (.if_icmp .ne 19, 3) := by decide +kernel
theorem d13_62 : decode method_3_code 62 = .ok (.new 28, 3) := by decide +kernel
theorem d13_65 : decode method_3_code 65 = .ok (.dup, 1) := by decide +kernel
theorem d13_66 : decode method_3_code 66 = .ok (.iconst 1, 1) := by decide +kernel
theorem d13_67 : decode method_3_code 67 = .ok (.newarray .char, 2) := by decide +kernel
theorem d13_69 : decode method_3_code 69 = .ok (.dup, 1) := by decide +kernel
theorem d13_70 : decode method_3_code 70 = .ok (.iconst 0, 1) := by decide +kernel
theorem d13_71 : decode method_3_code 71 = .ok (.iload 5, 2) := by decide +kernel
theorem d13_73 : decode method_3_code 73 = .ok (.castore, 1) := by decide +kernel
theorem d13_74 : decode method_3_code 74 = .ok (.invokespecial 43, 3) := by decide +kernel
theorem d13_77 : decode method_3_code 77 = .ok (.areturn, 1) := by decide +kernel
theorem d13_78 : decode method_3_code 78 = .ok (.iload 4, 2) := by decide +kernel
theorem d13_80 : decode method_3_code 80 = .ok (.iconst 2, 1) := by decide +kernel
theorem d13_81 : decode method_3_code 81 = .ok (.if_icmp .ne 24, 3) := by decide +kernel
theorem d13_84 : decode method_3_code 84 = .ok (.new 28, 3) := by decide +kernel
theorem d13_87 : decode method_3_code 87 = .ok (.dup, 1) := by decide +kernel
theorem d13_88 : decode method_3_code 88 = .ok (.iconst 2, 1) := by decide +kernel
theorem d13_89 : decode method_3_code 89 = .ok (.newarray .char, 2) := by decide +kernel
theorem d13_91 : decode method_3_code 91 = .ok (.dup, 1) := by decide +kernel
theorem d13_92 : decode method_3_code 92 = .ok (.iconst 0, 1) := by decide +kernel
theorem d13_93 : decode method_3_code 93 = .ok (.iload 5, 2) := by decide +kernel
theorem d13_95 : decode method_3_code 95 = .ok (.castore, 1) := by decide +kernel
theorem d13_96 : decode method_3_code 96 = .ok (.dup, 1) := by decide +kernel
theorem d13_97 : decode method_3_code 97 = .ok (.iconst 1, 1) := by decide +kernel
theorem d13_98 : decode method_3_code 98 = .ok (.iload 6, 2) := by decide +kernel
theorem d13_100 : decode method_3_code 100 = .ok (.castore, 1) := by decide +kernel
theorem d13_101 : decode method_3_code 101 = .ok (.invokespecial 43, 3) := by decide +kernel
theorem d13_104 : decode method_3_code 104 = .ok (.areturn, 1) := by decide +kernel
theorem d13_105 : decode method_3_code 105 = .ok (.new 28, 3) := by decide +kernel
theorem d13_108 : decode method_3_code 108 = .ok (.dup, 1) := by decide +kernel
theorem d13_109 : decode method_3_code 109 = .ok (.iconst 3, 1) := by decide +kernel
theorem d13_110 : decode method_3_code 110 = .ok (.newarray .char, 2) := by decide +kernel
theorem d13_112 : decode method_3_code 112 = .ok (.dup, 1) := by decide +kernel
theorem d13_113 : decode method_3_code 113 = .ok (.iconst 0, 1) := by decide +kernel
theorem d13_114 : decode method_3_code 114 = .ok (.iload 5, 2) := by decide +kernel
theorem d13_116 : decode method_3_code 116 = .ok (.castore, 1) := by decide +kernel
theorem d13_117 : decode method_3_code 117 = .ok (.dup, 1) := by decide +kernel
theorem d13_118 : decode method_3_code 118 = .ok (.iconst 1, 1) := by decide +kernel
theorem d13_119 : decode method_3_code 119 = .ok (.iload 6, 2) := by decide +kernel
theorem d13_121 : decode method_3_code 121 = .ok (.castore, 1) := by decide +kernel
theorem d13_122 : decode method_3_code 122 = .ok (.dup, 1) := by decide +kernel
theorem d13_123 : decode method_3_code 123 = .ok (.iconst 2, 1) := by decide +kernel
theorem d13_124 : decode method_3_code 124 = .ok (.iload 7, 2) := by decide +kernel
theorem d13_126 : decode method_3_code 126 = .ok (.castore, 1) := by decide +kernel
theorem d13_127 : decode method_3_code 127 = .ok (.invokespecial 43, 3) := by decide +kernel
theorem d13_130 : decode method_3_code 130 = .ok (.areturn, 1) := by decide +kernel
abbrev R_draw : Room := { frames := 4, cells := 6, slots := 12, locals := 66 }
def Q_draw (Z : State) (G1 : Int32) (kC : Addr) (uS : Value) (sS : Value) (p0 : Int32) (p1 : Int32) (p2 : Int32) (p3 : Int32) (h0 : Heap) (n0 : Nat) (v : Option Value) (h : Heap) (L : List Loc) : Prop := (v = some .null ∧ Fr n0 L ∧ Keep h0 h []) ∨ (∃ x : Addr, v = some (.ref x) ∧ Fr n0 L ∧ Keep h0 h [] ∧ (Exa Z h x "java/lang/String"))
set_option maxRecDepth 65536 in
set_option maxHeartbeats 40000000 in
theorem rm_draw (l : Launch) (Z : State) (a0 : Array Value) (hw : ∀ d ∈ tables_1, d.before a0 Z = true) (ws : List Jvm.Cond) (G1 : Int32) (kC : Addr) (uS : Value) (sS : Value) (HG : own_G l Z a0 G1 kC uS sS) (h0 : Heap) (n0 : Nat) (X00 : Old Z n0 h0) (p0 : Int32) (p1 : Int32) (p2 : Int32) (p3 : Int32)  :
    own_CK l Z M224 method_3_code 8 (some (.object "java/lang/String")) ws R_draw #[(.int p0), (.int p1), (.int p2), (.int p3)] h0 (Q_draw Z G1 kC uS sS p0 p1 p2 p3 h0 n0) := by
  refine own_K (plainFor_of_name pn_226) ?_
  intro p e s m below meth c s₁ S0 Bd hZ hh CH0 hS0 CR0 hTK0 hBL0 hx hby hml hown hnm X0 e0 hS0d
  obtain ⟨O1, P1, O2, E2, F2, hLT, OU, rU, OS, rS⟩ := id HG
  have hEL := own_EL hw
  have hSA := own_SA hw
  have N0 := Fr.nil n0
  have C0 : Steps p.tables e below S0 (s₁.setTop (mkF m 0 #[.val (.int p0), .val (.int p1), .val (.int p2), .val (.int p3), .unset, .unset, .unset, .unset] [])) := by rw [hS0d]; exact castTop (ef_225 m p0 p1 p2 p3) (Steps.refl _)
  have C_1 : Steps p.tables e below S0 (s₁.setTop (mkF m 6 #[.val (.int p0), .val (.int p1), .val (.int p2), .val (.int p3), .unset, .unset, .unset, .unset] [(.int (7 : Int32)), (.int (p3 &&& (7 : Int32)))])) := by
    refine C0.trans ?_
    refine XS.iloadN X0.here hx rfl (hb hby d13_0) rfl ?_
    refine XS.bipush X0.here hx rfl (hb hby d13_1) ?_
    refine XS.iand X0.here hx rfl (hb hby d13_3) rfl ?_
    refine XS.bipush X0.here hx rfl (hb hby d13_4) ?_
    exact Steps.refl _
  by_cases hc_2 : (p3 &&& (7 : Int32)) = (7 : Int32)
  · skip
    have C_3 : Steps p.tables e below S0 (s₁.setTop (mkF m 10 #[.val (.int p0), .val (.int p1), .val (.int p2), .val (.int p3), .unset, .unset, .unset, .unset] [.null])) := by
      refine C_1.trans ?_
      refine XS.icmpNo X0.here hx rfl (hb hby d13_6) rfl (ii_ne_f hc_2) ?_
      refine XS.aconstNull X0.here hx rfl (hb hby d13_9) ?_
      exact Steps.refl _
    have K_4 : Keep h0 h0 [] := (Keep.refl _ _)
    obtain ⟨fs, hr, hrun, hended, hRE⟩ := X0.leaveW hS0 (by rw [show s₁.heap = h0 from e0]; exact (Nat.le_refl _)) (v := some .null) (fun h => by rw [Bd.returns] at h; cases h)
    refine ⟨_, _, C_3.trans (retOut X0 hx Bd.returns rfl (Or.inr (Or.inr (Or.inr (Or.inr ⟨rfl, rfl, rfl⟩)))) (hb hby d13_10) hr), hrun, hended, _, _, rfl, ?_, ?_, hRE.1, hRE.2.1, hRE.2.2.1, hRE.2.2.2.mono (by decide) (by decide)⟩
    · show Q_draw Z G1 kC uS sS p0 p1 p2 p3 h0 n0 (some .null) s₁.heap _
      rw [e0]
      exact Or.inl ⟨rfl, N0, K_4⟩
    · show CHr Z consts_1 s.vm s.heap s₁.vm s₁.heap
      rw [hh, show s₁.heap = h0 from e0]
      exact CR0.trans (CHv.at X0 hZ hEL CH0)
  · skip
    have C_5 : Steps p.tables e below S0 (s₁.setTop (mkF m 42 #[.val (.int p0), .val (.int p1), .val (.int p2), .val (.int p3), .val (.int (p3 &&& (3 : Int32))), .val (.int (own_cb p0)), .val (.int (own_cb p1)), .val (.int (own_cb p2))] [(.int (p3 &&& (3 : Int32)))])) := by
      refine C_1.trans ?_
      refine XS.icmpYes X0.here hx rfl (pc0 := 6) (pc' := 11) rfl (hb hby d13_6) rfl (ii_ne_t hc_2) (by decide) (by decide) ?_
      refine XS.iloadN X0.here hx rfl (hb hby d13_11) rfl ?_
      refine XS.iconst X0.here hx rfl (hb hby d13_12) ?_
      refine XS.iand X0.here hx rfl (hb hby d13_13) rfl ?_
      refine XS.istore X0.here hx rfl (hb hby d13_14) rfl (l' := #[.val (.int p0), .val (.int p1), .val (.int p2), .val (.int p3), .val (.int (p3 &&& (3 : Int32))), .unset, .unset, .unset]) rfl ?_
      refine XS.iloadN X0.here hx rfl (hb hby d13_16) rfl ?_
      refine XS.sipush X0.here hx rfl (hb hby d13_17) ?_
      refine XS.iand X0.here hx rfl (hb hby d13_20) rfl ?_
      show Steps p.tables e below (s₁.setTop (mkF m 21 #[.val (.int p0), .val (.int p1), .val (.int p2), .val (.int p3), .val (.int (p3 &&& (3 : Int32))), .unset, .unset, .unset] [(.int (p0 &&& (255 : Int32)))])) _
      refine XS.i2c X0.here hx rfl (hb hby d13_21) rfl ?_
      refine XS.istore X0.here hx rfl (hb hby d13_22) rfl (l' := #[.val (.int p0), .val (.int p1), .val (.int p2), .val (.int p3), .val (.int (p3 &&& (3 : Int32))), .val (.int (own_cb p0)), .unset, .unset]) rfl ?_
      refine XS.iloadN X0.here hx rfl (hb hby d13_24) rfl ?_
      refine XS.sipush X0.here hx rfl (hb hby d13_25) ?_
      refine XS.iand X0.here hx rfl (hb hby d13_28) rfl ?_
      refine XS.i2c X0.here hx rfl (hb hby d13_29) rfl ?_
      refine XS.istore X0.here hx rfl (hb hby d13_30) rfl (l' := #[.val (.int p0), .val (.int p1), .val (.int p2), .val (.int p3), .val (.int (p3 &&& (3 : Int32))), .val (.int (own_cb p0)), .val (.int (own_cb p1)), .unset]) rfl ?_
      refine XS.iloadN X0.here hx rfl (hb hby d13_32) rfl ?_
      show Steps p.tables e below (s₁.setTop (mkF m 33 #[.val (.int p0), .val (.int p1), .val (.int p2), .val (.int p3), .val (.int (p3 &&& (3 : Int32))), .val (.int (own_cb p0)), .val (.int (own_cb p1)), .unset] [(.int p2)])) _
      refine XS.sipush X0.here hx rfl (hb hby d13_33) ?_
      refine XS.iand X0.here hx rfl (hb hby d13_36) rfl ?_
      refine XS.i2c X0.here hx rfl (hb hby d13_37) rfl ?_
      refine XS.istore X0.here hx rfl (hb hby d13_38) rfl (l' := #[.val (.int p0), .val (.int p1), .val (.int p2), .val (.int p3), .val (.int (p3 &&& (3 : Int32))), .val (.int (own_cb p0)), .val (.int (own_cb p1)), .val (.int (own_cb p2))]) rfl ?_
      refine XS.iload X0.here hx rfl (hb hby d13_40) rfl ?_
      exact Steps.refl _
    by_cases hc_6 : (p3 &&& (3 : Int32)) = (0 : Int32)
    · skip
      obtain ⟨T_7, h_8, X_9, e_10, E_11, A_12, D_13, U_17, st_14⟩ := newO X0 hx hZ hown (w4 hw) (w5 hw) (w6 hw) e0 (g := (mkF m 45 #[.val (.int p0), .val (.int p1), .val (.int p2), .val (.int p3), .val (.int (p3 &&& (3 : Int32))), .val (.int (own_cb p0)), .val (.int (own_cb p1)), .val (.int (own_cb p2))] [])) rfl (hb hby d13_45) (by decide) (by decide)
      obtain ⟨a_15, g_16⟩ : ∃ z, z = h0.size := ⟨_, rfl⟩
      rw [← g_16] at A_12 D_13 st_14 U_17
      have CH_18 : CHv Z consts_1 s.vm h_8 := CHv.ext E_11 CH0
      have CR_19 : CHr Z consts_1 s.vm h0 s.vm h_8 := CR0.trans (CHr.ext E_11 CH0)
      obtain ⟨T_20, h_21, k_22, X_23, e_24, E_25, A_26, st_27⟩ := newP (aty := .char) X_9 hx hZ (w7 hw) e_10 (g := (mkF m 50 #[.val (.int p0), .val (.int p1), .val (.int p2), .val (.int p3), .val (.int (p3 &&& (3 : Int32))), .val (.int (own_cb p0)), .val (.int (own_cb p1)), .val (.int (own_cb p2))] [(.int (0 : Int32)), (.ref a_15), (.ref a_15)])) rfl (hb hby d13_50) rfl (by decide : ¬ ((0 : Int32) < (0 : Int32))) (cap := 0) (by decide : (0 : Int32).toNatClampNeg ≤ 0) (by decide) (by decide) (by decide)
      obtain ⟨a_28, g_29⟩ : ∃ z, z = h_8.size := ⟨_, rfl⟩
      rw [← g_29] at A_26 st_27
      have CH_31 : CHv Z consts_1 s.vm h_21 := CHv.ext E_25 CH_18
      have CR_32 : CHr Z consts_1 s.vm h0 s.vm h_21 := CR_19.trans (CHr.ext E_25 CH_18)
      have V_33 : Arv Z h_21 a_28 k_22 .char (0 : Int32) [] (.int (0 : Int32)) := Arv.new A_26 (by decide : ¬ ((0 : Int32) < (0 : Int32)))
      have E_34 : Exa Z h_21 a_15 "java/lang/String" := (A_12.ext E_25)
      have F_35 : Fld Z h_21 a_15 "java/lang/String" "value" "[B" .null := ((D_13 (Or.inr (w33 hw)) (ty := (.array .byte)) (by decide)).ext E_25)
      have F_36 : Fld Z h_21 a_15 "java/lang/String" "coder" "B" (.int (0 : Int32)) := ((D_13 (Or.inr (w31 hw)) (ty := .byte) (by decide)).ext E_25)
      have O_37 : Old Z n0 h_21 := ((X00.ext E_11).ext E_25)
      obtain ⟨_, _, ⟨T_38, L_38, k_38, n_38⟩, -, Y_38, S_38, G_38, ⟨Lc_38, hQ_38, l_38, y_38, z_38, R_38⟩, st_38⟩ := X_23.specialBackS hx (y := M25) rfl hown (mvT hZ (w8 hw)) (mvT hZ (w9 hw)) (mvT hZ (w10 hw)) (by decide) (backOfSH (vm0 := s.vm) (W := 1) (rm_si1_0 l Z a0 hw [] G1 kC uS sS HG h_21 n0 O_37 a_15 a_28 k_22 E_34 F_35 F_36 (Nat.le_trans (own_n0 X00) (Nat.le_of_eq g_16.symm)) V_33) hZ (w10 hw) (w6 hw) (by decide) (by decide) hEL CH_31) (g := (mkF m 52 #[.val (.int p0), .val (.int p1), .val (.int p2), .val (.int p3), .val (.int (p3 &&& (3 : Int32))), .val (.int (own_cb p0)), .val (.int (own_cb p1)), .val (.int (own_cb p2))] [(.ref a_28), (.ref a_15), (.ref a_15)])) rfl (by rw [hml]; rfl) (Steps.refl _) (a := a_15) (argsL := [(.ref a_28)]) (rest := [(.ref a_15)]) (lenOf pd_262 rfl) rfl (by show 2 * 0 + _ ≤ _; exact Nat.le_of_eq rfl) (hb hby d13_52) (fun _ _ => ⟨rfl, e_24, (by decide : 2 + 4 ≤ _), (by decide : 4 + 8 ≤ _)⟩)
      dsimp only [Pt.U, Pt.locs, Pt.cells, Pt.slots] at Y_38 S_38 G_38 l_38 y_38 z_38 st_38 hQ_38 R_38
      subst l_38 y_38 z_38
      obtain ⟨X_38, hS_38, hZ_38, hown_38⟩ := rebS hS0 (n1 := T_20.heap.size) (by rw [show T_20.heap = h_21 from e_24]; exact (Nat.le_trans (Nat.le_refl _) (Nat.le_trans E_11.1 E_25.1))) Y_38 S_38 G_38 hZ hown
      obtain ⟨a_39, k_40, rfl, N_41, K_42, g_43, g_44, g_45, g_46⟩ := hQ_38
      have N_47 := Fr.app N0 N_41
      have CH_48 : CHv Z consts_1 T_38.vm T_38.heap := R_38.1
      have CR_49 : CHr Z consts_1 s.vm h0 T_38.vm T_38.heap := CR_32.trans R_38
      have hTK_50 : (s.setVm T_38.vm).vm.MethodsKnown := Vm.MethodsKnown.alikeC (hS_38.1.alike) hTK0
      have hBL_51 : (s.setVm T_38.vm).vm.FramesKnown below := Vm.FramesKnown.alikeC (hS_38.1.alike) hBL0
      have C_52 : Steps p.tables e below S0 (T_38.setTop (mkF m 55 #[.val (.int p0), .val (.int p1), .val (.int p2), .val (.int p3), .val (.int (p3 &&& (3 : Int32))), .val (.int (own_cb p0)), .val (.int (own_cb p1)), .val (.int (own_cb p2))] [(.ref a_15)])) := by
        refine C_5.trans ?_
        refine XS.ifNo X0.here hx rfl (hb hby d13_42) rfl (i0_ne_f hc_6) ?_
        refine st_14 _ ?_
        refine XS.dup X_9.here hx rfl (hb hby d13_48) rfl rfl ?_
        refine XS.iconst X_9.here hx rfl (hb hby d13_49) ?_
        refine st_27 _ ?_
        refine st_38.trans ?_
        exact Steps.refl _
      have K_53 : Keep h0 T_38.heap [] := ((((Keep.refl _ _).ext E_11).ext E_25).trans K_42 (allS (Or.inr (Nat.le_trans (Nat.le_refl _) (Nat.le_of_eq g_16.symm))) all0))
      obtain ⟨fs, hr, hrun, hended, hRE⟩ := X_38.leaveW hS_38 (by rw [show T_38.heap = T_38.heap from rfl]; exact (Nat.le_refl _)) (v := some (.ref a_15)) (fun h => by rw [Bd.returns] at h; cases h)
      refine ⟨_, _, C_52.trans (retOut X_38 hx Bd.returns rfl (Or.inr (Or.inr (Or.inr (Or.inr ⟨rfl, rfl, rfl⟩)))) (hb hby d13_55) hr), hrun, hended, _, _, rfl, ?_, ?_, hRE.1, hRE.2.1, hRE.2.2.1, hRE.2.2.2.mono (by decide) (by decide)⟩
      · show Q_draw Z G1 kC uS sS p0 p1 p2 p3 h0 n0 (some (.ref a_15)) T_38.heap _
        exact Or.inr (⟨a_15, rfl, N_47, K_53, g_43⟩)
      · show CHr Z consts_1 s.vm s.heap T_38.vm T_38.heap
        rw [hh]
        exact CR_49.trans (CHv.at X_38 hZ_38 hEL CH_48)
    · skip
      have C_54 : Steps p.tables e below S0 (s₁.setTop (mkF m 59 #[.val (.int p0), .val (.int p1), .val (.int p2), .val (.int p3), .val (.int (p3 &&& (3 : Int32))), .val (.int (own_cb p0)), .val (.int (own_cb p1)), .val (.int (own_cb p2))] [(.int (1 : Int32)), (.int (p3 &&& (3 : Int32)))])) := by
        refine C_5.trans ?_
        refine XS.ifYes X0.here hx rfl (pc0 := 42) (pc' := 56) rfl (hb hby d13_42) rfl (i0_ne_t hc_6) (by decide) (by decide) ?_
        refine XS.iload X0.here hx rfl (hb hby d13_56) rfl ?_
        refine XS.iconst X0.here hx rfl (hb hby d13_58) ?_
        exact Steps.refl _
      by_cases hc_55 : (p3 &&& (3 : Int32)) = (1 : Int32)
      · skip
        obtain ⟨T_56, h_57, X_58, e_59, E_60, A_61, D_62, U_66, st_63⟩ := newO X0 hx hZ hown (w4 hw) (w5 hw) (w6 hw) e0 (g := (mkF m 62 #[.val (.int p0), .val (.int p1), .val (.int p2), .val (.int p3), .val (.int (p3 &&& (3 : Int32))), .val (.int (own_cb p0)), .val (.int (own_cb p1)), .val (.int (own_cb p2))] [])) rfl (hb hby d13_62) (by decide) (by decide)
        obtain ⟨a_64, g_65⟩ : ∃ z, z = h0.size := ⟨_, rfl⟩
        rw [← g_65] at A_61 D_62 st_63 U_66
        have CH_67 : CHv Z consts_1 s.vm h_57 := CHv.ext E_60 CH0
        have CR_68 : CHr Z consts_1 s.vm h0 s.vm h_57 := CR0.trans (CHr.ext E_60 CH0)
        obtain ⟨T_69, h_70, k_71, X_72, e_73, E_74, A_75, st_76⟩ := newP (aty := .char) X_58 hx hZ (w7 hw) e_59 (g := (mkF m 67 #[.val (.int p0), .val (.int p1), .val (.int p2), .val (.int p3), .val (.int (p3 &&& (3 : Int32))), .val (.int (own_cb p0)), .val (.int (own_cb p1)), .val (.int (own_cb p2))] [(.int (1 : Int32)), (.ref a_64), (.ref a_64)])) rfl (hb hby d13_67) rfl (by decide : ¬ ((1 : Int32) < (0 : Int32))) (cap := 1) (by decide : (1 : Int32).toNatClampNeg ≤ 1) (by decide) (by decide) (by decide)
        obtain ⟨a_77, g_78⟩ : ∃ z, z = h_57.size := ⟨_, rfl⟩
        rw [← g_78] at A_75 st_76
        have CH_80 : CHv Z consts_1 s.vm h_70 := CHv.ext E_74 CH_67
        have CR_81 : CHr Z consts_1 s.vm h0 s.vm h_70 := CR_68.trans (CHr.ext E_74 CH_67)
        have V_82 : Arv Z h_70 a_77 k_71 .char (1 : Int32) [] (.int (0 : Int32)) := Arv.new A_75 (by decide : ¬ ((1 : Int32) < (0 : Int32)))
        have V_79 : Arv Z h_70 a_77 k_71 .char (1 : Int32) [(.int (0 : Int32))] (.int (0 : Int32)) := (V_82.pad (pad_rep [] (.int (0 : Int32)) 1))
        obtain ⟨c_83, A_84, q_85, S_86, M_87, H_88, U_89⟩ := id V_79
        have hin_96 : ¬ ((0 : Int32) < 0 ∨ c_83.slots.size ≤ (0 : Int32).toNatClampNeg) := inb_of S_86 ⟨(by decide : ¬ ((0 : Int32) < (0 : Int32))), (by decide : (0 : Int32) < (1 : Int32))⟩
        obtain ⟨T_90, h_91, X_92, e_93, W_94, st_95⟩ := stC X_72 hx hZ e_73 A_84 (j := (0 : Int32)) hin_96 (g := (mkF m 73 #[.val (.int p0), .val (.int p1), .val (.int p2), .val (.int p3), .val (.int (p3 &&& (3 : Int32))), .val (.int (own_cb p0)), .val (.int (own_cb p1)), .val (.int (own_cb p2))] [(.int (own_cb p0)), (.int (0 : Int32)), (.ref a_77), (.ref a_77), (.ref a_64), (.ref a_64)])) rfl rfl (hb hby d13_73)
        have O_98 : Old Z n0 h_57 := (X00.ext E_60)
        have N_97 := Fr.snoc X_92 N0 (Nat.le_trans (own_n0 O_98) (Nat.le_of_eq g_78.symm))
        have CH_99 : CHv Z consts_1 s.vm h_91 := CHv.wr W_94 (Safe.arv hZ.alike V_79 (by decide)) CH_80
        have CR_100 : CHr Z consts_1 s.vm h0 s.vm h_91 := CR_81.trans (CHr.wr W_94 (Safe.arv hZ.alike V_79 (by decide)) CH_80)
        have V_101 : Arv Z h_91 a_77 k_71 .char (1 : Int32) [(.int (own_cb p0))] (.int (0 : Int32)) := by have q := Arv.set A_84 q_85 S_86 M_87 H_88 U_89 (fits_nar_char _) W_94 0 rfl (Nat.le_of_ble_eq_true rfl); rw [own_cb_nar] at q; exact q
        have E_102 : Exa Z h_91 a_64 "java/lang/String" := ((A_61.ext E_74).wr W_94)
        have F_103 : Fld Z h_91 a_64 "java/lang/String" "value" "[B" .null := (((D_62 (Or.inr (w33 hw)) (ty := (.array .byte)) (by decide)).ext E_74).other W_94 (Or.inl (Nat.ne_of_lt (Nat.lt_of_lt_of_le A_61.lt (Nat.le_trans (Nat.le_refl _) (Nat.le_of_eq g_78.symm))))))
        have F_104 : Fld Z h_91 a_64 "java/lang/String" "coder" "B" (.int (0 : Int32)) := (((D_62 (Or.inr (w31 hw)) (ty := .byte) (by decide)).ext E_74).other W_94 (Or.inl (Nat.ne_of_lt (Nat.lt_of_lt_of_le A_61.lt (Nat.le_trans (Nat.le_refl _) (Nat.le_of_eq g_78.symm))))))
        have O_105 : Old Z n0 h_91 := ((O_98.ext E_74).wr W_94 (Nat.le_trans (own_n0 O_98) (Nat.le_of_eq g_78.symm)))
        obtain ⟨_, _, ⟨T_106, L_106, k_106, n_106⟩, -, X_106, ⟨Lc_106, hQ_106, l_106, y_106, z_106⟩, st_106⟩ := X_92.specialBack hx (y := M25) rfl hown (mvT hZ (w8 hw)) (mvT hZ (w9 hw)) (mvT hZ (w10 hw)) (by decide) (backOf (W := 1) (rm_si1_1 l Z a0 hw [] G1 kC uS sS HG h_91 n0 O_105 a_64 a_77 k_71 (own_cb p0) E_102 F_103 F_104 (Nat.le_trans (own_n0 X00) (Nat.le_of_eq g_65.symm)) V_101 (own_cb_hi p0)) hZ (w10 hw) (w6 hw) (by decide) (by decide)) (g := (mkF m 74 #[.val (.int p0), .val (.int p1), .val (.int p2), .val (.int p3), .val (.int (p3 &&& (3 : Int32))), .val (.int (own_cb p0)), .val (.int (own_cb p1)), .val (.int (own_cb p2))] [(.ref a_77), (.ref a_64), (.ref a_64)])) rfl (by rw [hml]; rfl) (Steps.refl _) (a := a_64) (argsL := [(.ref a_77)]) (rest := [(.ref a_64)]) (lenOf pd_262 rfl) rfl (by show 2 * 0 + _ ≤ _; exact Nat.le_of_eq rfl) (hb hby d13_74) (fun _ _ => ⟨rfl, e_93, (by decide : 2 + 1 ≤ _), (by decide : 5 + 1 ≤ _)⟩)
        dsimp only [Pt.U, Pt.locs, Pt.cells, Pt.slots] at X_106 l_106 y_106 z_106 st_106 hQ_106
        subst l_106 y_106 z_106
        obtain ⟨a_107, k_108, rfl, N_109, K_110, g_111, g_112, g_113, g_114, g_115⟩ := hQ_106
        have N_116 := Fr.app N_97 N_109
        have CH_117 : CHv Z consts_1 s.vm T_106.heap := CHv.keep K_110 (sfS (own_safe_null hZ.alike E_102 F_103) sf0) CH_99
        have CR_118 : CHr Z consts_1 s.vm h0 s.vm T_106.heap := CR_100.trans (CHr.keep K_110 (sfS (own_safe_null hZ.alike E_102 F_103) sf0) CH_99)
        have C_119 : Steps p.tables e below S0 (T_106.setTop (mkF m 77 #[.val (.int p0), .val (.int p1), .val (.int p2), .val (.int p3), .val (.int (p3 &&& (3 : Int32))), .val (.int (own_cb p0)), .val (.int (own_cb p1)), .val (.int (own_cb p2))] [(.ref a_64)])) := by
          refine C_54.trans ?_
          refine XS.icmpNo X0.here hx rfl (hb hby d13_59) rfl (ii_ne_f hc_55) ?_
          refine st_63 _ ?_
          refine XS.dup X_58.here hx rfl (hb hby d13_65) rfl rfl ?_
          refine XS.iconst X_58.here hx rfl (hb hby d13_66) ?_
          refine st_76 _ ?_
          refine XS.dup X_72.here hx rfl (hb hby d13_69) rfl rfl ?_
          refine XS.iconst X_72.here hx rfl (hb hby d13_70) ?_
          refine XS.iload X_72.here hx rfl (hb hby d13_71) rfl ?_
          show Steps p.tables e below (T_69.setTop (mkF m 73 #[.val (.int p0), .val (.int p1), .val (.int p2), .val (.int p3), .val (.int (p3 &&& (3 : Int32))), .val (.int (own_cb p0)), .val (.int (own_cb p1)), .val (.int (own_cb p2))] [(.int (own_cb p0)), (.int (0 : Int32)), (.ref a_77), (.ref a_77), (.ref a_64), (.ref a_64)])) _
          refine st_95 _ ?_
          refine st_106.trans ?_
          exact Steps.refl _
        have K_120 : Keep h0 T_106.heap [] := (((((Keep.refl _ _).ext E_60).ext E_74).wr W_94 (Or.inr (Nat.le_trans E_60.1 (Nat.le_of_eq g_78.symm)))).trans K_110 (allS (Or.inr (Nat.le_trans (Nat.le_refl _) (Nat.le_of_eq g_65.symm))) all0))
        obtain ⟨fs, hr, hrun, hended, hRE⟩ := X_106.leaveW hS0 (by rw [show T_106.heap = T_106.heap from rfl]; exact (Nat.le_trans (Nat.le_refl _) (Nat.le_trans (Nat.le_trans (Nat.le_trans E_60.1 E_74.1) (Keep.of_wr W_94).1) K_110.1))) (v := some (.ref a_64)) (fun h => by rw [Bd.returns] at h; cases h)
        refine ⟨_, _, C_119.trans (retOut X_106 hx Bd.returns rfl (Or.inr (Or.inr (Or.inr (Or.inr ⟨rfl, rfl, rfl⟩)))) (hb hby d13_77) hr), hrun, hended, _, _, rfl, ?_, ?_, hRE.1, hRE.2.1, hRE.2.2.1, hRE.2.2.2.mono (by decide) (by decide)⟩
        · show Q_draw Z G1 kC uS sS p0 p1 p2 p3 h0 n0 (some (.ref a_64)) T_106.heap _
          exact Or.inr (⟨a_64, rfl, N_116, K_120, g_111⟩)
        · show CHr Z consts_1 s.vm s.heap T_106.vm T_106.heap
          rw [hh]
          exact CR_118.trans (CHv.at X_106 hZ hEL CH_117)
      · skip
        have C_121 : Steps p.tables e below S0 (s₁.setTop (mkF m 81 #[.val (.int p0), .val (.int p1), .val (.int p2), .val (.int p3), .val (.int (p3 &&& (3 : Int32))), .val (.int (own_cb p0)), .val (.int (own_cb p1)), .val (.int (own_cb p2))] [(.int (2 : Int32)), (.int (p3 &&& (3 : Int32)))])) := by
          refine C_54.trans ?_
          refine XS.icmpYes X0.here hx rfl (pc0 := 59) (pc' := 78) rfl (hb hby d13_59) rfl (ii_ne_t hc_55) (by decide) (by decide) ?_
          refine XS.iload X0.here hx rfl (hb hby d13_78) rfl ?_
          refine XS.iconst X0.here hx rfl (hb hby d13_80) ?_
          exact Steps.refl _
        by_cases hc_122 : (p3 &&& (3 : Int32)) = (2 : Int32)
        · skip
          obtain ⟨T_123, h_124, X_125, e_126, E_127, A_128, D_129, U_133, st_130⟩ := newO X0 hx hZ hown (w4 hw) (w5 hw) (w6 hw) e0 (g := (mkF m 84 #[.val (.int p0), .val (.int p1), .val (.int p2), .val (.int p3), .val (.int (p3 &&& (3 : Int32))), .val (.int (own_cb p0)), .val (.int (own_cb p1)), .val (.int (own_cb p2))] [])) rfl (hb hby d13_84) (by decide) (by decide)
          obtain ⟨a_131, g_132⟩ : ∃ z, z = h0.size := ⟨_, rfl⟩
          rw [← g_132] at A_128 D_129 st_130 U_133
          have CH_134 : CHv Z consts_1 s.vm h_124 := CHv.ext E_127 CH0
          have CR_135 : CHr Z consts_1 s.vm h0 s.vm h_124 := CR0.trans (CHr.ext E_127 CH0)
          obtain ⟨T_136, h_137, k_138, X_139, e_140, E_141, A_142, st_143⟩ := newP (aty := .char) X_125 hx hZ (w7 hw) e_126 (g := (mkF m 89 #[.val (.int p0), .val (.int p1), .val (.int p2), .val (.int p3), .val (.int (p3 &&& (3 : Int32))), .val (.int (own_cb p0)), .val (.int (own_cb p1)), .val (.int (own_cb p2))] [(.int (2 : Int32)), (.ref a_131), (.ref a_131)])) rfl (hb hby d13_89) rfl (by decide : ¬ ((2 : Int32) < (0 : Int32))) (cap := 2) (by decide : (2 : Int32).toNatClampNeg ≤ 2) (by decide) (by decide) (by decide)
          obtain ⟨a_144, g_145⟩ : ∃ z, z = h_124.size := ⟨_, rfl⟩
          rw [← g_145] at A_142 st_143
          have CH_147 : CHv Z consts_1 s.vm h_137 := CHv.ext E_141 CH_134
          have CR_148 : CHr Z consts_1 s.vm h0 s.vm h_137 := CR_135.trans (CHr.ext E_141 CH_134)
          have V_149 : Arv Z h_137 a_144 k_138 .char (2 : Int32) [] (.int (0 : Int32)) := Arv.new A_142 (by decide : ¬ ((2 : Int32) < (0 : Int32)))
          have V_146 : Arv Z h_137 a_144 k_138 .char (2 : Int32) [(.int (0 : Int32)), (.int (0 : Int32))] (.int (0 : Int32)) := (V_149.pad (pad_rep [] (.int (0 : Int32)) 2))
          obtain ⟨c_150, A_151, q_152, S_153, M_154, H_155, U_156⟩ := id V_146
          have hin_163 : ¬ ((0 : Int32) < 0 ∨ c_150.slots.size ≤ (0 : Int32).toNatClampNeg) := inb_of S_153 ⟨(by decide : ¬ ((0 : Int32) < (0 : Int32))), (by decide : (0 : Int32) < (2 : Int32))⟩
          obtain ⟨T_157, h_158, X_159, e_160, W_161, st_162⟩ := stC X_139 hx hZ e_140 A_151 (j := (0 : Int32)) hin_163 (g := (mkF m 95 #[.val (.int p0), .val (.int p1), .val (.int p2), .val (.int p3), .val (.int (p3 &&& (3 : Int32))), .val (.int (own_cb p0)), .val (.int (own_cb p1)), .val (.int (own_cb p2))] [(.int (own_cb p0)), (.int (0 : Int32)), (.ref a_144), (.ref a_144), (.ref a_131), (.ref a_131)])) rfl rfl (hb hby d13_95)
          have O_165 : Old Z n0 h_124 := (X00.ext E_127)
          have N_164 := Fr.snoc X_159 N0 (Nat.le_trans (own_n0 O_165) (Nat.le_of_eq g_145.symm))
          have CH_166 : CHv Z consts_1 s.vm h_158 := CHv.wr W_161 (Safe.arv hZ.alike V_146 (by decide)) CH_147
          have CR_167 : CHr Z consts_1 s.vm h0 s.vm h_158 := CR_148.trans (CHr.wr W_161 (Safe.arv hZ.alike V_146 (by decide)) CH_147)
          have V_168 : Arv Z h_158 a_144 k_138 .char (2 : Int32) [(.int (own_cb p0)), (.int (0 : Int32))] (.int (0 : Int32)) := by have q := Arv.set A_151 q_152 S_153 M_154 H_155 U_156 (fits_nar_char _) W_161 0 rfl (Nat.le_of_ble_eq_true rfl); rw [own_cb_nar] at q; exact q
          obtain ⟨c_169, A_170, q_171, S_172, M_173, H_174, U_175⟩ := id V_168
          have hin_182 : ¬ ((1 : Int32) < 0 ∨ c_169.slots.size ≤ (1 : Int32).toNatClampNeg) := inb_of S_172 ⟨(by decide : ¬ ((1 : Int32) < (0 : Int32))), (by decide : (1 : Int32) < (2 : Int32))⟩
          obtain ⟨T_176, h_177, X_178, e_179, W_180, st_181⟩ := stC X_159 hx hZ e_160 A_170 (j := (1 : Int32)) hin_182 (g := (mkF m 100 #[.val (.int p0), .val (.int p1), .val (.int p2), .val (.int p3), .val (.int (p3 &&& (3 : Int32))), .val (.int (own_cb p0)), .val (.int (own_cb p1)), .val (.int (own_cb p2))] [(.int (own_cb p1)), (.int (1 : Int32)), (.ref a_144), (.ref a_144), (.ref a_131), (.ref a_131)])) rfl rfl (hb hby d13_100)
          have N_183 := Fr.snoc X_178 N_164 (Nat.le_trans (own_n0 O_165) (Nat.le_of_eq g_145.symm))
          have CH_184 : CHv Z consts_1 s.vm h_177 := CHv.wr W_180 (Safe.arv hZ.alike V_168 (by decide)) CH_166
          have CR_185 : CHr Z consts_1 s.vm h0 s.vm h_177 := CR_167.trans (CHr.wr W_180 (Safe.arv hZ.alike V_168 (by decide)) CH_166)
          have V_186 : Arv Z h_177 a_144 k_138 .char (2 : Int32) [(.int (own_cb p0)), (.int (own_cb p1))] (.int (0 : Int32)) := by have q := Arv.set A_170 q_171 S_172 M_173 H_174 U_175 (fits_nar_char _) W_180 1 rfl (Nat.le_of_ble_eq_true rfl); rw [own_cb_nar] at q; exact q
          have E_187 : Exa Z h_177 a_131 "java/lang/String" := (((A_128.ext E_141).wr W_161).wr W_180)
          have F_188 : Fld Z h_177 a_131 "java/lang/String" "value" "[B" .null := ((((D_129 (Or.inr (w33 hw)) (ty := (.array .byte)) (by decide)).ext E_141).other W_161 (Or.inl (Nat.ne_of_lt (Nat.lt_of_lt_of_le A_128.lt (Nat.le_trans (Nat.le_refl _) (Nat.le_of_eq g_145.symm)))))).other W_180 (Or.inl (Nat.ne_of_lt (Nat.lt_of_lt_of_le A_128.lt (Nat.le_trans (Nat.le_refl _) (Nat.le_of_eq g_145.symm))))))
          have F_189 : Fld Z h_177 a_131 "java/lang/String" "coder" "B" (.int (0 : Int32)) := ((((D_129 (Or.inr (w31 hw)) (ty := .byte) (by decide)).ext E_141).other W_161 (Or.inl (Nat.ne_of_lt (Nat.lt_of_lt_of_le A_128.lt (Nat.le_trans (Nat.le_refl _) (Nat.le_of_eq g_145.symm)))))).other W_180 (Or.inl (Nat.ne_of_lt (Nat.lt_of_lt_of_le A_128.lt (Nat.le_trans (Nat.le_refl _) (Nat.le_of_eq g_145.symm))))))
          have O_190 : Old Z n0 h_177 := (((O_165.ext E_141).wr W_161 (Nat.le_trans (own_n0 O_165) (Nat.le_of_eq g_145.symm))).wr W_180 (Nat.le_trans (own_n0 O_165) (Nat.le_of_eq g_145.symm)))
          obtain ⟨_, _, ⟨T_191, L_191, k_191, n_191⟩, -, X_191, ⟨Lc_191, hQ_191, l_191, y_191, z_191⟩, st_191⟩ := X_178.specialBack hx (y := M25) rfl hown (mvT hZ (w8 hw)) (mvT hZ (w9 hw)) (mvT hZ (w10 hw)) (by decide) (backOf (W := 1) (rm_si1_2 l Z a0 hw [] G1 kC uS sS HG h_177 n0 O_190 a_131 a_144 k_138 (own_cb p0) (own_cb p1) E_187 F_188 F_189 (Nat.le_trans (own_n0 X00) (Nat.le_of_eq g_132.symm)) V_186 (own_cb_hi p0) (own_cb_hi p1)) hZ (w10 hw) (w6 hw) (by decide) (by decide)) (g := (mkF m 101 #[.val (.int p0), .val (.int p1), .val (.int p2), .val (.int p3), .val (.int (p3 &&& (3 : Int32))), .val (.int (own_cb p0)), .val (.int (own_cb p1)), .val (.int (own_cb p2))] [(.ref a_144), (.ref a_131), (.ref a_131)])) rfl (by rw [hml]; rfl) (Steps.refl _) (a := a_131) (argsL := [(.ref a_144)]) (rest := [(.ref a_131)]) (lenOf pd_262 rfl) rfl (by show 2 * 0 + _ ≤ _; exact Nat.le_of_eq rfl) (hb hby d13_101) (fun _ _ => ⟨rfl, e_179, (by decide : 2 + 1 ≤ _), (by decide : 6 + 2 ≤ _)⟩)
          dsimp only [Pt.U, Pt.locs, Pt.cells, Pt.slots] at X_191 l_191 y_191 z_191 st_191 hQ_191
          subst l_191 y_191 z_191
          obtain ⟨a_192, k_193, rfl, N_194, K_195, g_196, g_197, g_198, g_199, g_200⟩ := hQ_191
          have N_201 := Fr.app N_183 N_194
          have CH_202 : CHv Z consts_1 s.vm T_191.heap := CHv.keep K_195 (sfS (own_safe_null hZ.alike E_187 F_188) sf0) CH_184
          have CR_203 : CHr Z consts_1 s.vm h0 s.vm T_191.heap := CR_185.trans (CHr.keep K_195 (sfS (own_safe_null hZ.alike E_187 F_188) sf0) CH_184)
          have C_204 : Steps p.tables e below S0 (T_191.setTop (mkF m 104 #[.val (.int p0), .val (.int p1), .val (.int p2), .val (.int p3), .val (.int (p3 &&& (3 : Int32))), .val (.int (own_cb p0)), .val (.int (own_cb p1)), .val (.int (own_cb p2))] [(.ref a_131)])) := by
            refine C_121.trans ?_
            refine XS.icmpNo X0.here hx rfl (hb hby d13_81) rfl (ii_ne_f hc_122) ?_
            refine st_130 _ ?_
            refine XS.dup X_125.here hx rfl (hb hby d13_87) rfl rfl ?_
            refine XS.iconst X_125.here hx rfl (hb hby d13_88) ?_
            refine st_143 _ ?_
            refine XS.dup X_139.here hx rfl (hb hby d13_91) rfl rfl ?_
            refine XS.iconst X_139.here hx rfl (hb hby d13_92) ?_
            refine XS.iload X_139.here hx rfl (hb hby d13_93) rfl ?_
            show Steps p.tables e below (T_136.setTop (mkF m 95 #[.val (.int p0), .val (.int p1), .val (.int p2), .val (.int p3), .val (.int (p3 &&& (3 : Int32))), .val (.int (own_cb p0)), .val (.int (own_cb p1)), .val (.int (own_cb p2))] [(.int (own_cb p0)), (.int (0 : Int32)), (.ref a_144), (.ref a_144), (.ref a_131), (.ref a_131)])) _
            refine st_162 _ ?_
            refine XS.dup X_159.here hx rfl (hb hby d13_96) rfl rfl ?_
            refine XS.iconst X_159.here hx rfl (hb hby d13_97) ?_
            refine XS.iload X_159.here hx rfl (hb hby d13_98) rfl ?_
            refine st_181 _ ?_
            refine st_191.trans ?_
            exact Steps.refl _
          have K_205 : Keep h0 T_191.heap [] := ((((((Keep.refl _ _).ext E_127).ext E_141).wr W_161 (Or.inr (Nat.le_trans E_127.1 (Nat.le_of_eq g_145.symm)))).wr W_180 (Or.inr (Nat.le_trans E_127.1 (Nat.le_of_eq g_145.symm)))).trans K_195 (allS (Or.inr (Nat.le_trans (Nat.le_refl _) (Nat.le_of_eq g_132.symm))) all0))
          obtain ⟨fs, hr, hrun, hended, hRE⟩ := X_191.leaveW hS0 (by rw [show T_191.heap = T_191.heap from rfl]; exact (Nat.le_trans (Nat.le_refl _) (Nat.le_trans (Nat.le_trans (Nat.le_trans (Nat.le_trans E_127.1 E_141.1) (Keep.of_wr W_161).1) (Keep.of_wr W_180).1) K_195.1))) (v := some (.ref a_131)) (fun h => by rw [Bd.returns] at h; cases h)
          refine ⟨_, _, C_204.trans (retOut X_191 hx Bd.returns rfl (Or.inr (Or.inr (Or.inr (Or.inr ⟨rfl, rfl, rfl⟩)))) (hb hby d13_104) hr), hrun, hended, _, _, rfl, ?_, ?_, hRE.1, hRE.2.1, hRE.2.2.1, hRE.2.2.2.mono (by decide) (by decide)⟩
          · show Q_draw Z G1 kC uS sS p0 p1 p2 p3 h0 n0 (some (.ref a_131)) T_191.heap _
            exact Or.inr (⟨a_131, rfl, N_201, K_205, g_196⟩)
          · show CHr Z consts_1 s.vm s.heap T_191.vm T_191.heap
            rw [hh]
            exact CR_203.trans (CHv.at X_191 hZ hEL CH_202)
        · skip
          obtain ⟨T_206, h_207, X_208, e_209, E_210, A_211, D_212, U_216, st_213⟩ := newO X0 hx hZ hown (w4 hw) (w5 hw) (w6 hw) e0 (g := (mkF m 105 #[.val (.int p0), .val (.int p1), .val (.int p2), .val (.int p3), .val (.int (p3 &&& (3 : Int32))), .val (.int (own_cb p0)), .val (.int (own_cb p1)), .val (.int (own_cb p2))] [])) rfl (hb hby d13_105) (by decide) (by decide)
          obtain ⟨a_214, g_215⟩ : ∃ z, z = h0.size := ⟨_, rfl⟩
          rw [← g_215] at A_211 D_212 st_213 U_216
          have CH_217 : CHv Z consts_1 s.vm h_207 := CHv.ext E_210 CH0
          have CR_218 : CHr Z consts_1 s.vm h0 s.vm h_207 := CR0.trans (CHr.ext E_210 CH0)
          obtain ⟨T_219, h_220, k_221, X_222, e_223, E_224, A_225, st_226⟩ := newP (aty := .char) X_208 hx hZ (w7 hw) e_209 (g := (mkF m 110 #[.val (.int p0), .val (.int p1), .val (.int p2), .val (.int p3), .val (.int (p3 &&& (3 : Int32))), .val (.int (own_cb p0)), .val (.int (own_cb p1)), .val (.int (own_cb p2))] [(.int (3 : Int32)), (.ref a_214), (.ref a_214)])) rfl (hb hby d13_110) rfl (by decide : ¬ ((3 : Int32) < (0 : Int32))) (cap := 3) (by decide : (3 : Int32).toNatClampNeg ≤ 3) (by decide) (by decide) (by decide)
          obtain ⟨a_227, g_228⟩ : ∃ z, z = h_207.size := ⟨_, rfl⟩
          rw [← g_228] at A_225 st_226
          have CH_230 : CHv Z consts_1 s.vm h_220 := CHv.ext E_224 CH_217
          have CR_231 : CHr Z consts_1 s.vm h0 s.vm h_220 := CR_218.trans (CHr.ext E_224 CH_217)
          have V_232 : Arv Z h_220 a_227 k_221 .char (3 : Int32) [] (.int (0 : Int32)) := Arv.new A_225 (by decide : ¬ ((3 : Int32) < (0 : Int32)))
          have V_229 : Arv Z h_220 a_227 k_221 .char (3 : Int32) [(.int (0 : Int32)), (.int (0 : Int32)), (.int (0 : Int32))] (.int (0 : Int32)) := (V_232.pad (pad_rep [] (.int (0 : Int32)) 3))
          obtain ⟨c_233, A_234, q_235, S_236, M_237, H_238, U_239⟩ := id V_229
          have hin_246 : ¬ ((0 : Int32) < 0 ∨ c_233.slots.size ≤ (0 : Int32).toNatClampNeg) := inb_of S_236 ⟨(by decide : ¬ ((0 : Int32) < (0 : Int32))), (by decide : (0 : Int32) < (3 : Int32))⟩
          obtain ⟨T_240, h_241, X_242, e_243, W_244, st_245⟩ := stC X_222 hx hZ e_223 A_234 (j := (0 : Int32)) hin_246 (g := (mkF m 116 #[.val (.int p0), .val (.int p1), .val (.int p2), .val (.int p3), .val (.int (p3 &&& (3 : Int32))), .val (.int (own_cb p0)), .val (.int (own_cb p1)), .val (.int (own_cb p2))] [(.int (own_cb p0)), (.int (0 : Int32)), (.ref a_227), (.ref a_227), (.ref a_214), (.ref a_214)])) rfl rfl (hb hby d13_116)
          have O_248 : Old Z n0 h_207 := (X00.ext E_210)
          have N_247 := Fr.snoc X_242 N0 (Nat.le_trans (own_n0 O_248) (Nat.le_of_eq g_228.symm))
          have CH_249 : CHv Z consts_1 s.vm h_241 := CHv.wr W_244 (Safe.arv hZ.alike V_229 (by decide)) CH_230
          have CR_250 : CHr Z consts_1 s.vm h0 s.vm h_241 := CR_231.trans (CHr.wr W_244 (Safe.arv hZ.alike V_229 (by decide)) CH_230)
          have V_251 : Arv Z h_241 a_227 k_221 .char (3 : Int32) [(.int (own_cb p0)), (.int (0 : Int32)), (.int (0 : Int32))] (.int (0 : Int32)) := by have q := Arv.set A_234 q_235 S_236 M_237 H_238 U_239 (fits_nar_char _) W_244 0 rfl (Nat.le_of_ble_eq_true rfl); rw [own_cb_nar] at q; exact q
          obtain ⟨c_252, A_253, q_254, S_255, M_256, H_257, U_258⟩ := id V_251
          have hin_265 : ¬ ((1 : Int32) < 0 ∨ c_252.slots.size ≤ (1 : Int32).toNatClampNeg) := inb_of S_255 ⟨(by decide : ¬ ((1 : Int32) < (0 : Int32))), (by decide : (1 : Int32) < (3 : Int32))⟩
          obtain ⟨T_259, h_260, X_261, e_262, W_263, st_264⟩ := stC X_242 hx hZ e_243 A_253 (j := (1 : Int32)) hin_265 (g := (mkF m 121 #[.val (.int p0), .val (.int p1), .val (.int p2), .val (.int p3), .val (.int (p3 &&& (3 : Int32))), .val (.int (own_cb p0)), .val (.int (own_cb p1)), .val (.int (own_cb p2))] [(.int (own_cb p1)), (.int (1 : Int32)), (.ref a_227), (.ref a_227), (.ref a_214), (.ref a_214)])) rfl rfl (hb hby d13_121)
          have N_266 := Fr.snoc X_261 N_247 (Nat.le_trans (own_n0 O_248) (Nat.le_of_eq g_228.symm))
          have CH_267 : CHv Z consts_1 s.vm h_260 := CHv.wr W_263 (Safe.arv hZ.alike V_251 (by decide)) CH_249
          have CR_268 : CHr Z consts_1 s.vm h0 s.vm h_260 := CR_250.trans (CHr.wr W_263 (Safe.arv hZ.alike V_251 (by decide)) CH_249)
          have V_269 : Arv Z h_260 a_227 k_221 .char (3 : Int32) [(.int (own_cb p0)), (.int (own_cb p1)), (.int (0 : Int32))] (.int (0 : Int32)) := by have q := Arv.set A_253 q_254 S_255 M_256 H_257 U_258 (fits_nar_char _) W_263 1 rfl (Nat.le_of_ble_eq_true rfl); rw [own_cb_nar] at q; exact q
          obtain ⟨c_270, A_271, q_272, S_273, M_274, H_275, U_276⟩ := id V_269
          have hin_283 : ¬ ((2 : Int32) < 0 ∨ c_270.slots.size ≤ (2 : Int32).toNatClampNeg) := inb_of S_273 ⟨(by decide : ¬ ((2 : Int32) < (0 : Int32))), (by decide : (2 : Int32) < (3 : Int32))⟩
          obtain ⟨T_277, h_278, X_279, e_280, W_281, st_282⟩ := stC X_261 hx hZ e_262 A_271 (j := (2 : Int32)) hin_283 (g := (mkF m 126 #[.val (.int p0), .val (.int p1), .val (.int p2), .val (.int p3), .val (.int (p3 &&& (3 : Int32))), .val (.int (own_cb p0)), .val (.int (own_cb p1)), .val (.int (own_cb p2))] [(.int (own_cb p2)), (.int (2 : Int32)), (.ref a_227), (.ref a_227), (.ref a_214), (.ref a_214)])) rfl rfl (hb hby d13_126)
          have N_284 := Fr.snoc X_279 N_266 (Nat.le_trans (own_n0 O_248) (Nat.le_of_eq g_228.symm))
          have CH_285 : CHv Z consts_1 s.vm h_278 := CHv.wr W_281 (Safe.arv hZ.alike V_269 (by decide)) CH_267
          have CR_286 : CHr Z consts_1 s.vm h0 s.vm h_278 := CR_268.trans (CHr.wr W_281 (Safe.arv hZ.alike V_269 (by decide)) CH_267)
          have V_287 : Arv Z h_278 a_227 k_221 .char (3 : Int32) [(.int (own_cb p0)), (.int (own_cb p1)), (.int (own_cb p2))] (.int (0 : Int32)) := by have q := Arv.set A_271 q_272 S_273 M_274 H_275 U_276 (fits_nar_char _) W_281 2 rfl (Nat.le_of_ble_eq_true rfl); rw [own_cb_nar] at q; exact q
          have E_288 : Exa Z h_278 a_214 "java/lang/String" := ((((A_211.ext E_224).wr W_244).wr W_263).wr W_281)
          have F_289 : Fld Z h_278 a_214 "java/lang/String" "value" "[B" .null := (((((D_212 (Or.inr (w33 hw)) (ty := (.array .byte)) (by decide)).ext E_224).other W_244 (Or.inl (Nat.ne_of_lt (Nat.lt_of_lt_of_le A_211.lt (Nat.le_trans (Nat.le_refl _) (Nat.le_of_eq g_228.symm)))))).other W_263 (Or.inl (Nat.ne_of_lt (Nat.lt_of_lt_of_le A_211.lt (Nat.le_trans (Nat.le_refl _) (Nat.le_of_eq g_228.symm)))))).other W_281 (Or.inl (Nat.ne_of_lt (Nat.lt_of_lt_of_le A_211.lt (Nat.le_trans (Nat.le_refl _) (Nat.le_of_eq g_228.symm))))))
          have F_290 : Fld Z h_278 a_214 "java/lang/String" "coder" "B" (.int (0 : Int32)) := (((((D_212 (Or.inr (w31 hw)) (ty := .byte) (by decide)).ext E_224).other W_244 (Or.inl (Nat.ne_of_lt (Nat.lt_of_lt_of_le A_211.lt (Nat.le_trans (Nat.le_refl _) (Nat.le_of_eq g_228.symm)))))).other W_263 (Or.inl (Nat.ne_of_lt (Nat.lt_of_lt_of_le A_211.lt (Nat.le_trans (Nat.le_refl _) (Nat.le_of_eq g_228.symm)))))).other W_281 (Or.inl (Nat.ne_of_lt (Nat.lt_of_lt_of_le A_211.lt (Nat.le_trans (Nat.le_refl _) (Nat.le_of_eq g_228.symm))))))
          have O_291 : Old Z n0 h_278 := ((((O_248.ext E_224).wr W_244 (Nat.le_trans (own_n0 O_248) (Nat.le_of_eq g_228.symm))).wr W_263 (Nat.le_trans (own_n0 O_248) (Nat.le_of_eq g_228.symm))).wr W_281 (Nat.le_trans (own_n0 O_248) (Nat.le_of_eq g_228.symm)))
          obtain ⟨_, _, ⟨T_292, L_292, k_292, n_292⟩, -, X_292, ⟨Lc_292, hQ_292, l_292, y_292, z_292⟩, st_292⟩ := X_279.specialBack hx (y := M25) rfl hown (mvT hZ (w8 hw)) (mvT hZ (w9 hw)) (mvT hZ (w10 hw)) (by decide) (backOf (W := 1) (rm_si1_3 l Z a0 hw [] G1 kC uS sS HG h_278 n0 O_291 a_214 a_227 k_221 (own_cb p0) (own_cb p1) (own_cb p2) E_288 F_289 F_290 (Nat.le_trans (own_n0 X00) (Nat.le_of_eq g_215.symm)) V_287 (own_cb_hi p0) (own_cb_hi p1) (own_cb_hi p2)) hZ (w10 hw) (w6 hw) (by decide) (by decide)) (g := (mkF m 127 #[.val (.int p0), .val (.int p1), .val (.int p2), .val (.int p3), .val (.int (p3 &&& (3 : Int32))), .val (.int (own_cb p0)), .val (.int (own_cb p1)), .val (.int (own_cb p2))] [(.ref a_227), (.ref a_214), (.ref a_214)])) rfl (by rw [hml]; rfl) (Steps.refl _) (a := a_214) (argsL := [(.ref a_227)]) (rest := [(.ref a_214)]) (lenOf pd_262 rfl) rfl (by show 2 * 0 + _ ≤ _; exact Nat.le_of_eq rfl) (hb hby d13_127) (fun _ _ => ⟨rfl, e_280, (by decide : 2 + 1 ≤ _), (by decide : 7 + 3 ≤ _)⟩)
          dsimp only [Pt.U, Pt.locs, Pt.cells, Pt.slots] at X_292 l_292 y_292 z_292 st_292 hQ_292
          subst l_292 y_292 z_292
          obtain ⟨a_293, k_294, rfl, N_295, K_296, g_297, g_298, g_299, g_300, g_301⟩ := hQ_292
          have N_302 := Fr.app N_284 N_295
          have CH_303 : CHv Z consts_1 s.vm T_292.heap := CHv.keep K_296 (sfS (own_safe_null hZ.alike E_288 F_289) sf0) CH_285
          have CR_304 : CHr Z consts_1 s.vm h0 s.vm T_292.heap := CR_286.trans (CHr.keep K_296 (sfS (own_safe_null hZ.alike E_288 F_289) sf0) CH_285)
          have C_305 : Steps p.tables e below S0 (T_292.setTop (mkF m 130 #[.val (.int p0), .val (.int p1), .val (.int p2), .val (.int p3), .val (.int (p3 &&& (3 : Int32))), .val (.int (own_cb p0)), .val (.int (own_cb p1)), .val (.int (own_cb p2))] [(.ref a_214)])) := by
            refine C_121.trans ?_
            refine XS.icmpYes X0.here hx rfl (pc0 := 81) (pc' := 105) rfl (hb hby d13_81) rfl (ii_ne_t hc_122) (by decide) (by decide) ?_
            refine st_213 _ ?_
            refine XS.dup X_208.here hx rfl (hb hby d13_108) rfl rfl ?_
            refine XS.iconst X_208.here hx rfl (hb hby d13_109) ?_
            refine st_226 _ ?_
            refine XS.dup X_222.here hx rfl (hb hby d13_112) rfl rfl ?_
            refine XS.iconst X_222.here hx rfl (hb hby d13_113) ?_
            refine XS.iload X_222.here hx rfl (hb hby d13_114) rfl ?_
            show Steps p.tables e below (T_219.setTop (mkF m 116 #[.val (.int p0), .val (.int p1), .val (.int p2), .val (.int p3), .val (.int (p3 &&& (3 : Int32))), .val (.int (own_cb p0)), .val (.int (own_cb p1)), .val (.int (own_cb p2))] [(.int (own_cb p0)), (.int (0 : Int32)), (.ref a_227), (.ref a_227), (.ref a_214), (.ref a_214)])) _
            refine st_245 _ ?_
            refine XS.dup X_242.here hx rfl (hb hby d13_117) rfl rfl ?_
            refine XS.iconst X_242.here hx rfl (hb hby d13_118) ?_
            refine XS.iload X_242.here hx rfl (hb hby d13_119) rfl ?_
            refine st_264 _ ?_
            refine XS.dup X_261.here hx rfl (hb hby d13_122) rfl rfl ?_
            refine XS.iconst X_261.here hx rfl (hb hby d13_123) ?_
            refine XS.iload X_261.here hx rfl (hb hby d13_124) rfl ?_
            show Steps p.tables e below (T_259.setTop (mkF m 126 #[.val (.int p0), .val (.int p1), .val (.int p2), .val (.int p3), .val (.int (p3 &&& (3 : Int32))), .val (.int (own_cb p0)), .val (.int (own_cb p1)), .val (.int (own_cb p2))] [(.int (own_cb p2)), (.int (2 : Int32)), (.ref a_227), (.ref a_227), (.ref a_214), (.ref a_214)])) _
            refine st_282 _ ?_
            refine st_292.trans ?_
            exact Steps.refl _
          have K_306 : Keep h0 T_292.heap [] := (((((((Keep.refl _ _).ext E_210).ext E_224).wr W_244 (Or.inr (Nat.le_trans E_210.1 (Nat.le_of_eq g_228.symm)))).wr W_263 (Or.inr (Nat.le_trans E_210.1 (Nat.le_of_eq g_228.symm)))).wr W_281 (Or.inr (Nat.le_trans E_210.1 (Nat.le_of_eq g_228.symm)))).trans K_296 (allS (Or.inr (Nat.le_trans (Nat.le_refl _) (Nat.le_of_eq g_215.symm))) all0))
          obtain ⟨fs, hr, hrun, hended, hRE⟩ := X_292.leaveW hS0 (by rw [show T_292.heap = T_292.heap from rfl]; exact (Nat.le_trans (Nat.le_refl _) (Nat.le_trans (Nat.le_trans (Nat.le_trans (Nat.le_trans (Nat.le_trans E_210.1 E_224.1) (Keep.of_wr W_244).1) (Keep.of_wr W_263).1) (Keep.of_wr W_281).1) K_296.1))) (v := some (.ref a_214)) (fun h => by rw [Bd.returns] at h; cases h)
          refine ⟨_, _, C_305.trans (retOut X_292 hx Bd.returns rfl (Or.inr (Or.inr (Or.inr (Or.inr ⟨rfl, rfl, rfl⟩)))) (hb hby d13_130) hr), hrun, hended, _, _, rfl, ?_, ?_, hRE.1, hRE.2.1, hRE.2.2.1, hRE.2.2.2.mono (by decide) (by decide)⟩
          · show Q_draw Z G1 kC uS sS p0 p1 p2 p3 h0 n0 (some (.ref a_214)) T_292.heap _
            exact Or.inr (⟨a_214, rfl, N_302, K_306, g_297⟩)
          · show CHr Z consts_1 s.vm s.heap T_292.vm T_292.heap
            rw [hh]
            exact CR_304.trans (CHv.at X_292 hZ hEL CH_303)
theorem ef_315 (m : MethodId) (x0 : Int32) (x1 : Int32) (x2 : Int32) (x3 : Int32) : entryFrame m #[(.int x0), (.int x1), (.int x2), (.int x3)] maxLocals = mkF m 0 #[.val (.int x0), .val (.int x1), .val (.int x2), .val (.int x3), .unset, .unset, .unset, .unset, .unset] [] := by first | (simp [entryFrame, mkF, argsToLocals, Value.category, maxLocals]; done) | rfl
theorem w3 {Z : State} {a0 : Array Value} (hw : ∀ d ∈ tables_1, d.before a0 Z = true) : Jvm.Cond.before (Jvm.Cond.code ({ cls := "com/example/manque/manque/DeclinedConflictPinLaw", name := "draw", desc := "(IIII)Ljava/lang/String;" } : Jvm.MethodName) method_3_code (8 : Nat) (Option.some (Jvm.ClassFile.FieldType.object "java/lang/String"))) a0 Z = true := hw _ (List.mem_of_getElem? (i := 3) rfl)
theorem w2 {Z : State} {a0 : Array Value} (hw : ∀ d ∈ tables_1, d.before a0 Z = true) : Jvm.Cond.before (Jvm.Cond.initialized "com/example/manque/manque/DeclinedConflictPinLaw") a0 Z = true := hw _ (List.mem_of_getElem? (i := 2) rfl)
theorem pd_318 : parseMethodDescriptor "(IIII)Ljava/lang/String;" = some ⟨[.int, .int, .int, .int], some (.object "java/lang/String")⟩ := by decide +kernel
theorem w0 {Z : State} {a0 : Array Value} (hw : ∀ d ∈ tables_1, d.before a0 Z = true) : Jvm.Cond.before (Jvm.Cond.methodLink "com/example/manque/manque/DeclinedConflictPinLaw" (7 : Nat) ({ cls := "com/example/manque/manque/DeclinedConflictPinLaw", name := "draw", desc := "(IIII)Ljava/lang/String;" } : Jvm.MethodName)) a0 Z = true := hw _ (List.mem_of_getElem? (i := 0) rfl)
theorem w1 {Z : State} {a0 : Array Value} (hw : ∀ d ∈ tables_1, d.before a0 Z = true) : Jvm.Cond.before (Jvm.Cond.static ({ cls := "com/example/manque/manque/DeclinedConflictPinLaw", name := "draw", desc := "(IIII)Ljava/lang/String;" } : Jvm.MethodName)) a0 Z = true := hw _ (List.mem_of_getElem? (i := 1) rfl)
theorem w37 {Z : State} {a0 : Array Value} (hw : ∀ d ∈ tables_1, d.before a0 Z = true) : Jvm.Cond.before (Jvm.Cond.code ({ cls := "com/example/manque/manque/Declined", name := "conflict", desc := "(Ljava/lang/String;)Lcom/example/manque/manque/Declined;" } : Jvm.MethodName) prog_1_method_3_code (1 : Nat) (Option.some (Jvm.ClassFile.FieldType.object "com/example/manque/manque/Declined"))) a0 Z = true := hw _ (List.mem_of_getElem? (i := 37) rfl)
theorem pd_322 : parseMethodDescriptor "(Ljava/lang/String;)Lcom/example/manque/manque/Declined;" = some ⟨[(.object "java/lang/String")], some (.object "com/example/manque/manque/Declined")⟩ := by decide +kernel
theorem w34 {Z : State} {a0 : Array Value} (hw : ∀ d ∈ tables_1, d.before a0 Z = true) : Jvm.Cond.before (Jvm.Cond.methodLink "com/example/manque/manque/DeclinedConflictPinLaw" (13 : Nat) ({ cls := "com/example/manque/manque/Declined", name := "conflict", desc := "(Ljava/lang/String;)Lcom/example/manque/manque/Declined;" } : Jvm.MethodName)) a0 Z = true := hw _ (List.mem_of_getElem? (i := 34) rfl)
theorem w35 {Z : State} {a0 : Array Value} (hw : ∀ d ∈ tables_1, d.before a0 Z = true) : Jvm.Cond.before (Jvm.Cond.static ({ cls := "com/example/manque/manque/Declined", name := "conflict", desc := "(Ljava/lang/String;)Lcom/example/manque/manque/Declined;" } : Jvm.MethodName)) a0 Z = true := hw _ (List.mem_of_getElem? (i := 35) rfl)
theorem w100 {Z : State} {a0 : Array Value} (hw : ∀ d ∈ tables_1, d.before a0 Z = true) : Jvm.Cond.before (Jvm.Cond.code ({ cls := "com/example/manque/manque/Declined", name := "kind", desc := "()Lcom/example/manque/manque/Declined$Kind;" } : Jvm.MethodName) prog_1_method_5_code (1 : Nat) (Option.some (Jvm.ClassFile.FieldType.object "com/example/manque/manque/Declined$Kind"))) a0 Z = true := hw _ (List.mem_of_getElem? (i := 100) rfl)
theorem pd_326 : parseMethodDescriptor "()Lcom/example/manque/manque/Declined$Kind;" = some ⟨[], some (.object "com/example/manque/manque/Declined$Kind")⟩ := by decide +kernel
theorem w96 {Z : State} {a0 : Array Value} (hw : ∀ d ∈ tables_1, d.before a0 Z = true) : Jvm.Cond.before (Jvm.Cond.methodLink "com/example/manque/manque/DeclinedConflictPinLaw" (19 : Nat) ({ cls := "com/example/manque/manque/Declined", name := "kind", desc := "()Lcom/example/manque/manque/Declined$Kind;" } : Jvm.MethodName)) a0 Z = true := hw _ (List.mem_of_getElem? (i := 96) rfl)
theorem w99 {Z : State} {a0 : Array Value} (hw : ∀ d ∈ tables_1, d.before a0 Z = true) : Jvm.Cond.before (Jvm.Cond.selects "com/example/manque/manque/Declined" ({ cls := "com/example/manque/manque/Declined", name := "kind", desc := "()Lcom/example/manque/manque/Declined$Kind;" } : Jvm.MethodName) ({ cls := "com/example/manque/manque/Declined", name := "kind", desc := "()Lcom/example/manque/manque/Declined$Kind;" } : Jvm.MethodName)) a0 Z = true := hw _ (List.mem_of_getElem? (i := 99) rfl)
theorem w98 {Z : State} {a0 : Array Value} (hw : ∀ d ∈ tables_1, d.before a0 Z = true) : Jvm.Cond.before (Jvm.Cond.instanceMethod ({ cls := "com/example/manque/manque/Declined", name := "kind", desc := "()Lcom/example/manque/manque/Declined$Kind;" } : Jvm.MethodName)) a0 Z = true := hw _ (List.mem_of_getElem? (i := 98) rfl)
theorem w97 {Z : State} {a0 : Array Value} (hw : ∀ d ∈ tables_1, d.before a0 Z = true) : Jvm.Cond.before (Jvm.Cond.declares ({ cls := "com/example/manque/manque/Declined", name := "kind", desc := "()Lcom/example/manque/manque/Declined$Kind;" } : Jvm.MethodName)) a0 Z = true := hw _ (List.mem_of_getElem? (i := 97) rfl)
theorem w106 {Z : State} {a0 : Array Value} (hw : ∀ d ∈ tables_1, d.before a0 Z = true) : Jvm.Cond.before (Jvm.Cond.code ({ cls := "java/lang/Throwable", name := "getMessage", desc := "()Ljava/lang/String;" } : Jvm.MethodName) jdk_78_method_6_code (1 : Nat) (Option.some (Jvm.ClassFile.FieldType.object "java/lang/String"))) a0 Z = true := hw _ (List.mem_of_getElem? (i := 106) rfl)
theorem pd_332 : parseMethodDescriptor "()Ljava/lang/String;" = some ⟨[], some (.object "java/lang/String")⟩ := by decide +kernel
theorem w101 {Z : State} {a0 : Array Value} (hw : ∀ d ∈ tables_1, d.before a0 Z = true) : Jvm.Cond.before (Jvm.Cond.methodLink "com/example/manque/manque/DeclinedConflictPinLaw" (23 : Nat) ({ cls := "com/example/manque/manque/Declined", name := "getMessage", desc := "()Ljava/lang/String;" } : Jvm.MethodName)) a0 Z = true := hw _ (List.mem_of_getElem? (i := 101) rfl)
theorem w105 {Z : State} {a0 : Array Value} (hw : ∀ d ∈ tables_1, d.before a0 Z = true) : Jvm.Cond.before (Jvm.Cond.selects "com/example/manque/manque/Declined" ({ cls := "com/example/manque/manque/Declined", name := "getMessage", desc := "()Ljava/lang/String;" } : Jvm.MethodName) ({ cls := "java/lang/Throwable", name := "getMessage", desc := "()Ljava/lang/String;" } : Jvm.MethodName)) a0 Z = true := hw _ (List.mem_of_getElem? (i := 105) rfl)
theorem w104 {Z : State} {a0 : Array Value} (hw : ∀ d ∈ tables_1, d.before a0 Z = true) : Jvm.Cond.before (Jvm.Cond.instanceMethod ({ cls := "java/lang/Throwable", name := "getMessage", desc := "()Ljava/lang/String;" } : Jvm.MethodName)) a0 Z = true := hw _ (List.mem_of_getElem? (i := 104) rfl)
abbrev M336 : MethodName := ⟨"com/example/manque/manque/Declined", "getMessage", "()Ljava/lang/String;"⟩
theorem w102 {Z : State} {a0 : Array Value} (hw : ∀ d ∈ tables_1, d.before a0 Z = true) : Jvm.Cond.before (Jvm.Cond.sameMethod "com/example/manque/manque/Declined" "java/lang/Throwable" "getMessage" "()Ljava/lang/String;") a0 Z = true := hw _ (List.mem_of_getElem? (i := 102) rfl)
theorem w103 {Z : State} {a0 : Array Value} (hw : ∀ d ∈ tables_1, d.before a0 Z = true) : Jvm.Cond.before (Jvm.Cond.declares ({ cls := "java/lang/Throwable", name := "getMessage", desc := "()Ljava/lang/String;" } : Jvm.MethodName)) a0 Z = true := hw _ (List.mem_of_getElem? (i := 103) rfl)
theorem w112 {Z : State} {a0 : Array Value} (hw : ∀ d ∈ tables_1, d.before a0 Z = true) : Jvm.Cond.before (Jvm.Cond.fieldLink "com/example/manque/manque/DeclinedConflictPinLaw" (33 : Nat) "com/example/manque/manque/Declined$Kind" "CONFLICT" "Lcom/example/manque/manque/Declined$Kind;") a0 Z = true := hw _ (List.mem_of_getElem? (i := 112) rfl)
theorem w117 {Z : State} {a0 : Array Value} (hw : ∀ d ∈ tables_1, d.before a0 Z = true) : Jvm.Cond.before (Jvm.Cond.code ({ cls := "com/example/manque/manque/Declined$Kind", name := "status", desc := "()I" } : Jvm.MethodName) prog_2_method_4_code (1 : Nat) (Option.some Jvm.ClassFile.FieldType.int)) a0 Z = true := hw _ (List.mem_of_getElem? (i := 117) rfl)
theorem w41 {Z : State} {a0 : Array Value} (hw : ∀ d ∈ tables_1, d.before a0 Z = true) : Jvm.Cond.before (Jvm.Cond.initialized "com/example/manque/manque/Declined$Kind") a0 Z = true := hw _ (List.mem_of_getElem? (i := 41) rfl)
theorem pd_342 : parseMethodDescriptor "()I" = some ⟨[], some .int⟩ := by decide +kernel
theorem w113 {Z : State} {a0 : Array Value} (hw : ∀ d ∈ tables_1, d.before a0 Z = true) : Jvm.Cond.before (Jvm.Cond.methodLink "com/example/manque/manque/DeclinedConflictPinLaw" (39 : Nat) ({ cls := "com/example/manque/manque/Declined$Kind", name := "status", desc := "()I" } : Jvm.MethodName)) a0 Z = true := hw _ (List.mem_of_getElem? (i := 113) rfl)
theorem w116 {Z : State} {a0 : Array Value} (hw : ∀ d ∈ tables_1, d.before a0 Z = true) : Jvm.Cond.before (Jvm.Cond.selects "com/example/manque/manque/Declined$Kind" ({ cls := "com/example/manque/manque/Declined$Kind", name := "status", desc := "()I" } : Jvm.MethodName) ({ cls := "com/example/manque/manque/Declined$Kind", name := "status", desc := "()I" } : Jvm.MethodName)) a0 Z = true := hw _ (List.mem_of_getElem? (i := 116) rfl)
theorem w115 {Z : State} {a0 : Array Value} (hw : ∀ d ∈ tables_1, d.before a0 Z = true) : Jvm.Cond.before (Jvm.Cond.instanceMethod ({ cls := "com/example/manque/manque/Declined$Kind", name := "status", desc := "()I" } : Jvm.MethodName)) a0 Z = true := hw _ (List.mem_of_getElem? (i := 115) rfl)
theorem w114 {Z : State} {a0 : Array Value} (hw : ∀ d ∈ tables_1, d.before a0 Z = true) : Jvm.Cond.before (Jvm.Cond.declares ({ cls := "com/example/manque/manque/Declined$Kind", name := "status", desc := "()I" } : Jvm.MethodName)) a0 Z = true := hw _ (List.mem_of_getElem? (i := 114) rfl)
theorem w111 {Z : State} {a0 : Array Value} (hw : ∀ d ∈ tables_1, d.before a0 Z = true) : Jvm.Cond.before (Jvm.Cond.code ({ cls := "java/lang/String", name := "equals", desc := "(Ljava/lang/Object;)Z" } : Jvm.MethodName) jdk_42_method_66_code (3 : Nat) (Option.some Jvm.ClassFile.FieldType.boolean)) a0 Z = true := hw _ (List.mem_of_getElem? (i := 111) rfl)
theorem pd_348 : parseMethodDescriptor "(Ljava/lang/Object;)Z" = some ⟨[(.object "java/lang/Object")], some .boolean⟩ := by decide +kernel
theorem w107 {Z : State} {a0 : Array Value} (hw : ∀ d ∈ tables_1, d.before a0 Z = true) : Jvm.Cond.before (Jvm.Cond.methodLink "com/example/manque/manque/DeclinedConflictPinLaw" (27 : Nat) ({ cls := "java/lang/String", name := "equals", desc := "(Ljava/lang/Object;)Z" } : Jvm.MethodName)) a0 Z = true := hw _ (List.mem_of_getElem? (i := 107) rfl)
theorem w110 {Z : State} {a0 : Array Value} (hw : ∀ d ∈ tables_1, d.before a0 Z = true) : Jvm.Cond.before (Jvm.Cond.selects "java/lang/String" ({ cls := "java/lang/String", name := "equals", desc := "(Ljava/lang/Object;)Z" } : Jvm.MethodName) ({ cls := "java/lang/String", name := "equals", desc := "(Ljava/lang/Object;)Z" } : Jvm.MethodName)) a0 Z = true := hw _ (List.mem_of_getElem? (i := 110) rfl)
theorem w109 {Z : State} {a0 : Array Value} (hw : ∀ d ∈ tables_1, d.before a0 Z = true) : Jvm.Cond.before (Jvm.Cond.instanceMethod ({ cls := "java/lang/String", name := "equals", desc := "(Ljava/lang/Object;)Z" } : Jvm.MethodName)) a0 Z = true := hw _ (List.mem_of_getElem? (i := 109) rfl)
theorem w108 {Z : State} {a0 : Array Value} (hw : ∀ d ∈ tables_1, d.before a0 Z = true) : Jvm.Cond.before (Jvm.Cond.declares ({ cls := "java/lang/String", name := "equals", desc := "(Ljava/lang/Object;)Z" } : Jvm.MethodName)) a0 Z = true := hw _ (List.mem_of_getElem? (i := 108) rfl)
def Q_law (Z : State) (G1 : Int32) (kC : Addr) (uS : Value) (sS : Value) (p0 : Int32) (p1 : Int32) (p2 : Int32) (p3 : Int32) (h0 : Heap) (n0 : Nat) (v : Option Value) (h : Heap) (L : List Loc) : Prop := (v = some (.int (1 : Int32)) ∧ Fr n0 L ∧ Keep h0 h [])
set_option maxRecDepth 65536 in
set_option maxHeartbeats 40000000 in
theorem rm_law (l : Launch) (Z : State) (a0 : Array Value) (hw : ∀ d ∈ tables_1, d.before a0 Z = true) (ws : List Jvm.Cond) (G1 : Int32) (kC : Addr) (uS : Value) (sS : Value) (HG : own_G l Z a0 G1 kC uS sS) (h0 : Heap) (n0 : Nat) (X00 : Old Z n0 h0) (p0 : Int32) (p1 : Int32) (p2 : Int32) (p3 : Int32)  :
    own_CK l Z x code maxLocals ret ws room_1 #[(.int p0), (.int p1), (.int p2), (.int p3)] h0 (Q_law Z G1 kC uS sS p0 p1 p2 p3 h0 n0) := by
  refine own_K (plainFor_of_name pn_226) ?_
  intro p e s m below meth c s₁ S0 Bd hZ hh CH0 hS0 CR0 hTK0 hBL0 hx hby hml hown hnm X0 e0 hS0d
  obtain ⟨O1, P1, O2, E2, F2, hLT, OU, rU, OS, rS⟩ := id HG
  have hEL := own_EL hw
  have hSA := own_SA hw
  have N0 := Fr.nil n0
  have C0 : Steps p.tables e below S0 (s₁.setTop (mkF m 0 #[.val (.int p0), .val (.int p1), .val (.int p2), .val (.int p3), .unset, .unset, .unset, .unset, .unset] [])) := by rw [hS0d]; exact castTop (ef_315 m p0 p1 p2 p3) (Steps.refl _)
  obtain ⟨_, _, ⟨T_1, L_1, k_1, n_1⟩, -, Y_1, S_1, G_1, ⟨Lc_1, hQ_1, l_1, y_1, z_1, R_1⟩, st_1⟩ := callSS X0 hx (y := M224) hown (mvT hZ (w0 hw)) (mvT hZ (w1 hw)) (mvT hZ (w2 hw)) (mvT hZ (w3 hw)) (by decide) (backOfSKH (vm0 := s.vm) (W := 0) (rm_draw l Z a0 hw [] G1 kC uS sS HG h0 n0 X00 p0 p1 p2 p3 ) hZ (w3 hw) (w2 hw) (by decide) (by decide) hEL CH0 hTK0 hBL0) (g := (mkF m 4 #[.val (.int p0), .val (.int p1), .val (.int p2), .val (.int p3), .unset, .unset, .unset, .unset, .unset] [(.int p3), (.int p2), (.int p1), (.int p0)])) rfl (by rw [hml]; rfl) (argsL := [(.int p0), (.int p1), (.int p2), (.int p3)]) (rest := []) (lenOf pd_318 rfl) rfl (by show 2 * 0 + _ ≤ _; exact Nat.le_of_eq rfl) (hb hby at_4) (fun _ _ => ⟨rfl, e0, (by decide : 0 + 6 ≤ _), (by decide : 0 + 12 ≤ _)⟩)
  dsimp only [Pt.U, Pt.locs, Pt.cells, Pt.slots] at Y_1 S_1 G_1 l_1 y_1 z_1 st_1 hQ_1 R_1
  subst l_1 y_1 z_1
  obtain ⟨X_1, hS_1, hZ_1, hown_1⟩ := rebS hS0 (n1 := s₁.heap.size) (by rw [show s₁.heap = h0 from e0]; exact (Nat.le_refl _)) Y_1 S_1 G_1 hZ hown
  have C_2 : Steps p.tables e below S0 (s₁.setTop (mkF m 4 #[.val (.int p0), .val (.int p1), .val (.int p2), .val (.int p3), .unset, .unset, .unset, .unset, .unset] [(.int p3), (.int p2), (.int p1), (.int p0)])) := by
    refine C0.trans ?_
    refine XS.iloadN X0.here hx rfl (hb hby at_0) rfl ?_
    refine XS.iloadN X0.here hx rfl (hb hby at_1) rfl ?_
    refine XS.iloadN X0.here hx rfl (hb hby at_2) rfl ?_
    refine XS.iloadN X0.here hx rfl (hb hby at_3) rfl ?_
    exact Steps.refl _
  rcases hQ_1 with hQ_3 | hQ_4
  · skip
    obtain ⟨rfl, N_5, K_6⟩ := hQ_3
    have N_7 := Fr.app N0 N_5
    have CH_8 : CHv Z consts_1 T_1.vm T_1.heap := R_1.1
    have CR_9 : CHr Z consts_1 s.vm h0 T_1.vm T_1.heap := CR0.trans R_1
    have hTK_10 : (s.setVm T_1.vm).vm.MethodsKnown := Vm.MethodsKnown.alikeC (hS_1.1.alike) hTK0
    have hBL_11 : (s.setVm T_1.vm).vm.FramesKnown below := Vm.FramesKnown.alikeC (hS_1.1.alike) hBL0
    have O_12 : Old Z n0 T_1.heap := (X00.keep K_6 all0)
    obtain ⟨_, _, ⟨T_13, L_13, k_13, n_13⟩, -, Y_13, S_13, G_13, ⟨Lc_13, hQ_13, l_13, y_13, z_13, R_13⟩, st_13⟩ := callSS X_1 hx (y := M101) hown_1 (mvT hZ_1 (w34 hw)) (mvT hZ_1 (w35 hw)) (mvT hZ_1 (w36 hw)) (mvT hZ_1 (w37 hw)) (by decide) (backOfSKH (vm0 := T_1.vm) (W := 0) (rm_mk0 l Z a0 hw [] G1 kC uS sS HG T_1.heap n0 O_12  ) hZ_1 (w37 hw) (w36 hw) (by decide) (by decide) hEL CH_8 hTK_10 hBL_11) (g := (mkF m 11 #[.val (.int p0), .val (.int p1), .val (.int p2), .val (.int p3), .val .null, .unset, .unset, .unset, .unset] [.null])) rfl (by rw [hml]; rfl) (argsL := [.null]) (rest := []) (lenOf pd_322 rfl) rfl (by show 2 * 0 + _ ≤ _; exact Nat.le_of_eq rfl) (hb hby at_11) (fun _ _ => ⟨rfl, rfl, (by decide : 6 + 2 ≤ _), (by decide : 12 + 2759 ≤ _)⟩)
    dsimp only [Pt.U, Pt.locs, Pt.cells, Pt.slots] at Y_13 S_13 G_13 l_13 y_13 z_13 st_13 hQ_13 R_13
    subst l_13 y_13 z_13
    obtain ⟨X_13, hS_13, hZ_13, hown_13⟩ := rebS hS_1 (n1 := T_1.heap.size) (by rw [show T_1.heap = T_1.heap from rfl]; exact (Nat.le_refl _)) Y_13 S_13 G_13 hZ_1 hown_1
    obtain ⟨a_14, rfl, N_15, K_16, g_17, g_18, g_19, g_20⟩ := hQ_13
    have N_21 := Fr.app N_7 N_15
    have CH_22 : CHv Z consts_1 T_13.vm T_13.heap := R_13.1
    have CR_23 : CHr Z consts_1 s.vm h0 T_13.vm T_13.heap := CR_9.trans R_13
    have hTK_24 : (s.setVm T_13.vm).vm.MethodsKnown := Vm.MethodsKnown.alikeC (hS_13.1.alike) hTK0
    have hBL_25 : (s.setVm T_13.vm).vm.FramesKnown below := Vm.FramesKnown.alikeC (hS_13.1.alike) hBL0
    have O_26 : Old Z n0 T_13.heap := (O_12.keep K_16 all0)
    obtain ⟨q_28, q_29, q_30, q_31, q_32⟩ := isOf (T := T_13) hZ_13 rfl g_18
    obtain ⟨_, _, ⟨T_27, L_27, k_27, n_27⟩, -, X_27, ⟨Lc_27, hQ_27, l_27, y_27, z_27⟩, st_27⟩ := X_13.virtualBack hx (y := M123) (z := M123) hown_13 (mvT hZ_13 (w96 hw)) (mvT hZ_13 (w97 hw)) (notFace_of_selects (args := #[]) (mvT hZ_13 (w99 hw))) (mvT hZ_13 (w99 hw)) (mvT hZ_13 (w98 hw)) (by decide) (backOf (W := 0) (rm_kind l Z a0 hw [] G1 kC uS sS HG T_13.heap n0 O_26 a_14 g_19) hZ_13 (w100 hw) (w36 hw) (by decide) (by decide)) q_30 q_32 (g := (mkF m 25 #[.val (.int p0), .val (.int p1), .val (.int p2), .val (.int p3), .val .null, .val (.ref a_14), .unset, .unset, .unset] [(.ref a_14)])) rfl (by rw [hml]; rfl) (Steps.refl _) (argsL := []) (rest := []) (lenOf pd_326 rfl) rfl (by show 2 * 0 + _ ≤ _; exact Nat.le_of_eq rfl) (hb hby at_25) (fun _ _ => ⟨rfl, rfl, (by decide : 8 + 0 ≤ _), (by decide : 2771 + 0 ≤ _)⟩)
    dsimp only [Pt.U, Pt.locs, Pt.cells, Pt.slots] at X_27 l_27 y_27 z_27 st_27 hQ_27
    subst l_27 y_27 z_27
    obtain ⟨rfl, N_33, e_34⟩ := hQ_27
    have N_35 := Fr.app N_21 N_33
    have e_36 : T_27.heap = T_13.heap := e_34
    obtain ⟨q_38, q_39, q_40, q_41, q_42⟩ := isOf (T := T_27) hZ_13 e_36 g_18
    obtain ⟨_, _, ⟨T_37, L_37, k_37, n_37⟩, -, X_37, ⟨Lc_37, hQ_37, l_37, y_37, z_37⟩, st_37⟩ := X_27.virtualBackUp hx (owner := "java/lang/Throwable") (x := M336) (y := M119) hown_13 (mvT hZ_13 (w101 hw)) (mvT hZ_13 (w102 hw)) (mvT hZ_13 (w103 hw)) (by decide) (mvT hZ_13 (w105 hw)) (mvT hZ_13 (w104 hw)) (backOf (W := 0) (rm_getmsg0 l Z a0 hw [] G1 kC uS sS HG T_13.heap n0 O_26 a_14 g_20) hZ_13 (w106 hw) (w55 hw) (by decide) (by decide)) q_40 q_42 (g := (mkF m 32 #[.val (.int p0), .val (.int p1), .val (.int p2), .val (.int p3), .val .null, .val (.ref a_14), .val (.ref kC), .unset, .unset] [(.ref a_14)])) rfl (by rw [hml]; rfl) (Steps.refl _) (argsL := []) (rest := []) (lenOf pd_332 rfl) rfl (by show 2 * 0 + _ ≤ _; exact Nat.le_of_eq rfl) (hb hby at_32) (fun _ _ => ⟨rfl, e_36, (by decide : 8 + 0 ≤ _), (by decide : 2771 + 0 ≤ _)⟩)
    dsimp only [Pt.U, Pt.locs, Pt.cells, Pt.slots] at X_37 l_37 y_37 z_37 st_37 hQ_37
    subst l_37 y_37 z_37
    obtain ⟨rfl, N_43, e_44⟩ := hQ_37
    have N_45 := Fr.app N_35 N_43
    have e_46 : T_37.heap = T_13.heap := e_44
    obtain ⟨T_47, X_48, e_49, st_50⟩ := getS X_37 hx hZ_13 (host := "") hown_13 (w112 hw) Via.refl e_46 (O2.ext O_26.2) (g := (mkF m 81 #[.val (.int p0), .val (.int p1), .val (.int p2), .val (.int p3), .val .null, .val (.ref a_14), .val (.ref kC), .val .null, .val (.int (1 : Int32))] [(.ref kC)])) rfl (hb hby at_81)
    obtain ⟨q_52, q_53, q_54, q_55, q_56⟩ := isOf (T := T_47) hZ_13 e_49 (E2.ext O_26.2)
    obtain ⟨_, _, ⟨T_51, L_51, k_51, n_51⟩, -, X_51, ⟨Lc_51, hQ_51, l_51, y_51, z_51⟩, st_51⟩ := X_48.virtualBack hx (y := M127) (z := M127) hown_13 (mvT hZ_13 (w113 hw)) (mvT hZ_13 (w114 hw)) (notFace_of_selects (args := #[]) (mvT hZ_13 (w116 hw))) (mvT hZ_13 (w116 hw)) (mvT hZ_13 (w115 hw)) (by decide) (backOf (W := 0) (rm_kst l Z a0 hw [] G1 kC uS sS HG T_13.heap n0 O_26  ) hZ_13 (w117 hw) (w41 hw) (by decide) (by decide)) q_54 q_56 (g := (mkF m 89 #[.val (.int p0), .val (.int p1), .val (.int p2), .val (.int p3), .val .null, .val (.ref a_14), .val (.ref kC), .val .null, .val (.int (1 : Int32))] [(.ref kC)])) rfl (by rw [hml]; rfl) (Steps.refl _) (argsL := []) (rest := []) (lenOf pd_342 rfl) rfl (by show 2 * 0 + _ ≤ _; exact Nat.le_of_eq rfl) (hb hby at_89) (fun _ _ => ⟨rfl, e_49, (by decide : 8 + 0 ≤ _), (by decide : 2771 + 0 ≤ _)⟩)
    dsimp only [Pt.U, Pt.locs, Pt.cells, Pt.slots] at X_51 l_51 y_51 z_51 st_51 hQ_51
    subst l_51 y_51 z_51
    obtain ⟨rfl, N_57, e_58⟩ := hQ_51
    have N_59 := Fr.app N_45 N_57
    have e_60 : T_51.heap = T_13.heap := e_58
    have C_61 : Steps p.tables e below S0 (T_51.setTop (mkF m 108 #[.val (.int p0), .val (.int p1), .val (.int p2), .val (.int p3), .val .null, .val (.ref a_14), .val (.ref kC), .val .null, .val (.int (1 : Int32))] [(.int (1 : Int32))])) := by
      refine C_2.trans ?_
      refine st_1.trans ?_
      refine XS.astore X_1.here hx rfl (hb hby at_7) rfl rfl (l' := #[.val (.int p0), .val (.int p1), .val (.int p2), .val (.int p3), .val .null, .unset, .unset, .unset, .unset]) rfl ?_
      refine XS.aload X_1.here hx rfl (hb hby at_9) rfl rfl ?_
      refine st_13.trans ?_
      refine XS.astore X_13.here hx rfl (hb hby at_14) rfl rfl (l' := #[.val (.int p0), .val (.int p1), .val (.int p2), .val (.int p3), .val .null, .val (.ref a_14), .unset, .unset, .unset]) rfl ?_
      refine XS.aload X_13.here hx rfl (hb hby at_16) rfl rfl ?_
      refine XS.ifnonnullYes X_13.here hx rfl (pc0 := 18) (pc' := 23) rfl (hb hby at_18) rfl (by decide) (by decide) ?_
      refine XS.aload X_13.here hx rfl (hb hby at_23) rfl rfl ?_
      show Steps p.tables e below (T_13.setTop (mkF m 25 #[.val (.int p0), .val (.int p1), .val (.int p2), .val (.int p3), .val .null, .val (.ref a_14), .unset, .unset, .unset] [(.ref a_14)])) _
      refine st_27.trans ?_
      refine XS.astore X_27.here hx rfl (hb hby at_28) rfl rfl (l' := #[.val (.int p0), .val (.int p1), .val (.int p2), .val (.int p3), .val .null, .val (.ref a_14), .val (.ref kC), .unset, .unset]) rfl ?_
      refine XS.aload X_27.here hx rfl (hb hby at_30) rfl rfl ?_
      refine st_37.trans ?_
      refine XS.astore X_37.here hx rfl (hb hby at_35) rfl rfl (l' := #[.val (.int p0), .val (.int p1), .val (.int p2), .val (.int p3), .val .null, .val (.ref a_14), .val (.ref kC), .val .null, .unset]) rfl ?_
      refine XS.aload X_37.here hx rfl (hb hby at_37) rfl rfl ?_
      refine XS.ifnonnullNo X_37.here hx rfl (hb hby at_39) rfl ?_
      refine XS.aload X_37.here hx rfl (hb hby at_42) rfl rfl ?_
      show Steps p.tables e below (T_37.setTop (mkF m 44 #[.val (.int p0), .val (.int p1), .val (.int p2), .val (.int p3), .val .null, .val (.ref a_14), .val (.ref kC), .val .null, .unset] [.null])) _
      refine XS.ifnonnullNo X_37.here hx rfl (hb hby at_44) rfl ?_
      refine XS.iconst X_37.here hx rfl (hb hby at_47) ?_
      refine XS.goto X_37.here hx rfl (pc0 := 48) (pc' := 52) rfl (hb hby at_48) (by decide) (by decide) ?_
      refine XS.istore X_37.here hx rfl (hb hby at_52) rfl (l' := #[.val (.int p0), .val (.int p1), .val (.int p2), .val (.int p3), .val .null, .val (.ref a_14), .val (.ref kC), .val .null, .val (.int (1 : Int32))]) rfl ?_
      refine XS.goto X_37.here hx rfl (pc0 := 54) (pc' := 79) rfl (hb hby at_54) (by decide) (by decide) ?_
      refine XS.aload X_37.here hx rfl (hb hby at_79) rfl rfl ?_
      refine st_50 _ ?_
      refine acmp X_48 hx rfl (cd := .ne) (x := (.ref kC)) (y := (.ref kC)) rfl rfl (same := true) (pc0 := 84) (pc' := 87) rfl (hb hby at_84) rfl (decide_eq_true rfl) (by decide) (by decide) ?_
      show Steps p.tables e below (T_47.setTop (mkF m 87 #[.val (.int p0), .val (.int p1), .val (.int p2), .val (.int p3), .val .null, .val (.ref a_14), .val (.ref kC), .val .null, .val (.int (1 : Int32))] [])) _
      refine XS.aload X_48.here hx rfl (hb hby at_87) rfl rfl ?_
      refine st_51.trans ?_
      refine XS.sipush X_51.here hx rfl (hb hby at_92) ?_
      refine XS.icmpNo X_51.here hx rfl (hb hby at_95) rfl (by decide) ?_
      refine XS.iload X_51.here hx rfl (hb hby at_98) rfl ?_
      refine XS.ifNo X_51.here hx rfl (hb hby at_100) rfl (by decide) ?_
      refine XS.iconst X_51.here hx rfl (hb hby at_103) ?_
      refine XS.goto X_51.here hx rfl (pc0 := 104) (pc' := 108) rfl (hb hby at_104) (by decide) (by decide) ?_
      show Steps p.tables e below (T_51.setTop (mkF m 108 #[.val (.int p0), .val (.int p1), .val (.int p2), .val (.int p3), .val .null, .val (.ref a_14), .val (.ref kC), .val .null, .val (.int (1 : Int32))] [(.int (1 : Int32))])) _
      exact Steps.refl _
    have K_62 : Keep h0 T_13.heap [] := (((Keep.refl _ _).trans K_6 all0).trans K_16 all0)
    obtain ⟨fs, hr, hrun, hended, hRE⟩ := X_51.leaveW hS_13 (by rw [show T_51.heap = T_13.heap from e_60]; exact (Nat.le_refl _)) (v := some (.int (1 : Int32))) (fun h => by rw [Bd.returns] at h; cases h)
    refine ⟨_, _, C_61.trans (retN X_51 hx (t := .boolean) Bd.returns (by simp) (hb hby at_108) hr), hrun, hended, _, _, rfl, ?_, ?_, hRE.1, hRE.2.1, hRE.2.2.1, hRE.2.2.2.mono (by decide) (by decide)⟩
    · show Q_law Z G1 kC uS sS p0 p1 p2 p3 h0 n0 (some (.int (1 : Int32))) T_51.heap _
      rw [e_60]
      exact ⟨rfl, N_59, K_62⟩
    · show CHr Z consts_1 s.vm s.heap T_51.vm T_51.heap
      rw [hh, show T_51.heap = T_13.heap from e_60]
      exact CR_23.trans (CHv.at X_51 hZ_13 hEL CH_22)
  · skip
    obtain ⟨a_63, rfl, N_64, K_65, g_66⟩ := hQ_4
    have N_67 := Fr.app N0 N_64
    have CH_68 : CHv Z consts_1 T_1.vm T_1.heap := R_1.1
    have CR_69 : CHr Z consts_1 s.vm h0 T_1.vm T_1.heap := CR0.trans R_1
    have hTK_70 : (s.setVm T_1.vm).vm.MethodsKnown := Vm.MethodsKnown.alikeC (hS_1.1.alike) hTK0
    have hBL_71 : (s.setVm T_1.vm).vm.FramesKnown below := Vm.FramesKnown.alikeC (hS_1.1.alike) hBL0
    have O_72 : Old Z n0 T_1.heap := (X00.keep K_65 all0)
    obtain ⟨_, _, ⟨T_73, L_73, k_73, n_73⟩, -, Y_73, S_73, G_73, ⟨Lc_73, hQ_73, l_73, y_73, z_73, R_73⟩, st_73⟩ := callSS X_1 hx (y := M101) hown_1 (mvT hZ_1 (w34 hw)) (mvT hZ_1 (w35 hw)) (mvT hZ_1 (w36 hw)) (mvT hZ_1 (w37 hw)) (by decide) (backOfSKH (vm0 := T_1.vm) (W := 0) (rm_mk l Z a0 hw [] G1 kC uS sS HG T_1.heap n0 O_72 a_63 ) hZ_1 (w37 hw) (w36 hw) (by decide) (by decide) hEL CH_68 hTK_70 hBL_71) (g := (mkF m 11 #[.val (.int p0), .val (.int p1), .val (.int p2), .val (.int p3), .val (.ref a_63), .unset, .unset, .unset, .unset] [(.ref a_63)])) rfl (by rw [hml]; rfl) (argsL := [(.ref a_63)]) (rest := []) (lenOf pd_322 rfl) rfl (by show 2 * 0 + _ ≤ _; exact Nat.le_of_eq rfl) (hb hby at_11) (fun _ _ => ⟨rfl, rfl, (by decide : 6 + 2 ≤ _), (by decide : 12 + 2759 ≤ _)⟩)
    dsimp only [Pt.U, Pt.locs, Pt.cells, Pt.slots] at Y_73 S_73 G_73 l_73 y_73 z_73 st_73 hQ_73 R_73
    subst l_73 y_73 z_73
    obtain ⟨X_73, hS_73, hZ_73, hown_73⟩ := rebS hS_1 (n1 := T_1.heap.size) (by rw [show T_1.heap = T_1.heap from rfl]; exact (Nat.le_refl _)) Y_73 S_73 G_73 hZ_1 hown_1
    obtain ⟨a_74, rfl, N_75, K_76, g_77, g_78, g_79, g_80⟩ := hQ_73
    have N_81 := Fr.app N_67 N_75
    have CH_82 : CHv Z consts_1 T_73.vm T_73.heap := R_73.1
    have CR_83 : CHr Z consts_1 s.vm h0 T_73.vm T_73.heap := CR_69.trans R_73
    have hTK_84 : (s.setVm T_73.vm).vm.MethodsKnown := Vm.MethodsKnown.alikeC (hS_73.1.alike) hTK0
    have hBL_85 : (s.setVm T_73.vm).vm.FramesKnown below := Vm.FramesKnown.alikeC (hS_73.1.alike) hBL0
    have O_86 : Old Z n0 T_73.heap := (O_72.keep K_76 all0)
    obtain ⟨q_88, q_89, q_90, q_91, q_92⟩ := isOf (T := T_73) hZ_73 rfl g_78
    obtain ⟨_, _, ⟨T_87, L_87, k_87, n_87⟩, -, X_87, ⟨Lc_87, hQ_87, l_87, y_87, z_87⟩, st_87⟩ := X_73.virtualBack hx (y := M123) (z := M123) hown_73 (mvT hZ_73 (w96 hw)) (mvT hZ_73 (w97 hw)) (notFace_of_selects (args := #[]) (mvT hZ_73 (w99 hw))) (mvT hZ_73 (w99 hw)) (mvT hZ_73 (w98 hw)) (by decide) (backOf (W := 0) (rm_kind l Z a0 hw [] G1 kC uS sS HG T_73.heap n0 O_86 a_74 g_79) hZ_73 (w100 hw) (w36 hw) (by decide) (by decide)) q_90 q_92 (g := (mkF m 25 #[.val (.int p0), .val (.int p1), .val (.int p2), .val (.int p3), .val (.ref a_63), .val (.ref a_74), .unset, .unset, .unset] [(.ref a_74)])) rfl (by rw [hml]; rfl) (Steps.refl _) (argsL := []) (rest := []) (lenOf pd_326 rfl) rfl (by show 2 * 0 + _ ≤ _; exact Nat.le_of_eq rfl) (hb hby at_25) (fun _ _ => ⟨rfl, rfl, (by decide : 8 + 0 ≤ _), (by decide : 2771 + 0 ≤ _)⟩)
    dsimp only [Pt.U, Pt.locs, Pt.cells, Pt.slots] at X_87 l_87 y_87 z_87 st_87 hQ_87
    subst l_87 y_87 z_87
    obtain ⟨rfl, N_93, e_94⟩ := hQ_87
    have N_95 := Fr.app N_81 N_93
    have e_96 : T_87.heap = T_73.heap := e_94
    obtain ⟨q_98, q_99, q_100, q_101, q_102⟩ := isOf (T := T_87) hZ_73 e_96 g_78
    obtain ⟨_, _, ⟨T_97, L_97, k_97, n_97⟩, -, X_97, ⟨Lc_97, hQ_97, l_97, y_97, z_97⟩, st_97⟩ := X_87.virtualBackUp hx (owner := "java/lang/Throwable") (x := M336) (y := M119) hown_73 (mvT hZ_73 (w101 hw)) (mvT hZ_73 (w102 hw)) (mvT hZ_73 (w103 hw)) (by decide) (mvT hZ_73 (w105 hw)) (mvT hZ_73 (w104 hw)) (backOf (W := 0) (rm_getmsg l Z a0 hw [] G1 kC uS sS HG T_73.heap n0 O_86 a_74 a_63 g_80) hZ_73 (w106 hw) (w55 hw) (by decide) (by decide)) q_100 q_102 (g := (mkF m 32 #[.val (.int p0), .val (.int p1), .val (.int p2), .val (.int p3), .val (.ref a_63), .val (.ref a_74), .val (.ref kC), .unset, .unset] [(.ref a_74)])) rfl (by rw [hml]; rfl) (Steps.refl _) (argsL := []) (rest := []) (lenOf pd_332 rfl) rfl (by show 2 * 0 + _ ≤ _; exact Nat.le_of_eq rfl) (hb hby at_32) (fun _ _ => ⟨rfl, e_96, (by decide : 8 + 0 ≤ _), (by decide : 2771 + 0 ≤ _)⟩)
    dsimp only [Pt.U, Pt.locs, Pt.cells, Pt.slots] at X_97 l_97 y_97 z_97 st_97 hQ_97
    subst l_97 y_97 z_97
    obtain ⟨rfl, N_103, e_104⟩ := hQ_97
    have N_105 := Fr.app N_95 N_103
    have e_106 : T_97.heap = T_73.heap := e_104
    have E_113 : Exa Z T_73.heap a_63 "java/lang/String" := (g_66.keep K_76)
    obtain ⟨q_108, q_109, q_110, q_111, q_112⟩ := isOf (T := T_97) hZ_73 e_106 E_113
    obtain ⟨_, _, ⟨T_107, L_107, k_107, n_107⟩, -, X_107, ⟨Lc_107, hQ_107, l_107, y_107, z_107⟩, st_107⟩ := X_97.virtualBack hx (y := M133) (z := M133) hown_73 (mvT hZ_73 (w107 hw)) (mvT hZ_73 (w108 hw)) (notFace_of_selects (args := #[]) (mvT hZ_73 (w110 hw))) (mvT hZ_73 (w110 hw)) (mvT hZ_73 (w109 hw)) (by decide) (backOf (W := 0) (rm_eqself l Z a0 hw [] G1 kC uS sS HG T_73.heap n0 O_86 a_63 ) hZ_73 (w111 hw) (w6 hw) (by decide) (by decide)) q_110 q_112 (g := (mkF m 66 #[.val (.int p0), .val (.int p1), .val (.int p2), .val (.int p3), .val (.ref a_63), .val (.ref a_74), .val (.ref kC), .val (.ref a_63), .unset] [(.ref a_63), (.ref a_63)])) rfl (by rw [hml]; rfl) (Steps.refl _) (argsL := [(.ref a_63)]) (rest := []) (lenOf pd_348 rfl) rfl (by show 2 * 0 + _ ≤ _; exact Nat.le_of_eq rfl) (hb hby at_66) (fun _ _ => ⟨rfl, e_106, (by decide : 8 + 0 ≤ _), (by decide : 2771 + 0 ≤ _)⟩)
    dsimp only [Pt.U, Pt.locs, Pt.cells, Pt.slots] at X_107 l_107 y_107 z_107 st_107 hQ_107
    subst l_107 y_107 z_107
    obtain ⟨rfl, N_114, e_115⟩ := hQ_107
    have N_116 := Fr.app N_105 N_114
    have e_117 : T_107.heap = T_73.heap := e_115
    obtain ⟨T_118, X_119, e_120, st_121⟩ := getS X_107 hx hZ_73 (host := "") hown_73 (w112 hw) Via.refl e_117 (O2.ext O_86.2) (g := (mkF m 81 #[.val (.int p0), .val (.int p1), .val (.int p2), .val (.int p3), .val (.ref a_63), .val (.ref a_74), .val (.ref kC), .val (.ref a_63), .val (.int (1 : Int32))] [(.ref kC)])) rfl (hb hby at_81)
    obtain ⟨q_123, q_124, q_125, q_126, q_127⟩ := isOf (T := T_118) hZ_73 e_120 (E2.ext O_86.2)
    obtain ⟨_, _, ⟨T_122, L_122, k_122, n_122⟩, -, X_122, ⟨Lc_122, hQ_122, l_122, y_122, z_122⟩, st_122⟩ := X_119.virtualBack hx (y := M127) (z := M127) hown_73 (mvT hZ_73 (w113 hw)) (mvT hZ_73 (w114 hw)) (notFace_of_selects (args := #[]) (mvT hZ_73 (w116 hw))) (mvT hZ_73 (w116 hw)) (mvT hZ_73 (w115 hw)) (by decide) (backOf (W := 0) (rm_kst l Z a0 hw [] G1 kC uS sS HG T_73.heap n0 O_86  ) hZ_73 (w117 hw) (w41 hw) (by decide) (by decide)) q_125 q_127 (g := (mkF m 89 #[.val (.int p0), .val (.int p1), .val (.int p2), .val (.int p3), .val (.ref a_63), .val (.ref a_74), .val (.ref kC), .val (.ref a_63), .val (.int (1 : Int32))] [(.ref kC)])) rfl (by rw [hml]; rfl) (Steps.refl _) (argsL := []) (rest := []) (lenOf pd_342 rfl) rfl (by show 2 * 0 + _ ≤ _; exact Nat.le_of_eq rfl) (hb hby at_89) (fun _ _ => ⟨rfl, e_120, (by decide : 8 + 0 ≤ _), (by decide : 2771 + 0 ≤ _)⟩)
    dsimp only [Pt.U, Pt.locs, Pt.cells, Pt.slots] at X_122 l_122 y_122 z_122 st_122 hQ_122
    subst l_122 y_122 z_122
    obtain ⟨rfl, N_128, e_129⟩ := hQ_122
    have N_130 := Fr.app N_116 N_128
    have e_131 : T_122.heap = T_73.heap := e_129
    have C_132 : Steps p.tables e below S0 (T_122.setTop (mkF m 108 #[.val (.int p0), .val (.int p1), .val (.int p2), .val (.int p3), .val (.ref a_63), .val (.ref a_74), .val (.ref kC), .val (.ref a_63), .val (.int (1 : Int32))] [(.int (1 : Int32))])) := by
      refine C_2.trans ?_
      refine st_1.trans ?_
      refine XS.astore X_1.here hx rfl (hb hby at_7) rfl rfl (l' := #[.val (.int p0), .val (.int p1), .val (.int p2), .val (.int p3), .val (.ref a_63), .unset, .unset, .unset, .unset]) rfl ?_
      refine XS.aload X_1.here hx rfl (hb hby at_9) rfl rfl ?_
      refine st_73.trans ?_
      refine XS.astore X_73.here hx rfl (hb hby at_14) rfl rfl (l' := #[.val (.int p0), .val (.int p1), .val (.int p2), .val (.int p3), .val (.ref a_63), .val (.ref a_74), .unset, .unset, .unset]) rfl ?_
      refine XS.aload X_73.here hx rfl (hb hby at_16) rfl rfl ?_
      refine XS.ifnonnullYes X_73.here hx rfl (pc0 := 18) (pc' := 23) rfl (hb hby at_18) rfl (by decide) (by decide) ?_
      refine XS.aload X_73.here hx rfl (hb hby at_23) rfl rfl ?_
      show Steps p.tables e below (T_73.setTop (mkF m 25 #[.val (.int p0), .val (.int p1), .val (.int p2), .val (.int p3), .val (.ref a_63), .val (.ref a_74), .unset, .unset, .unset] [(.ref a_74)])) _
      refine st_87.trans ?_
      refine XS.astore X_87.here hx rfl (hb hby at_28) rfl rfl (l' := #[.val (.int p0), .val (.int p1), .val (.int p2), .val (.int p3), .val (.ref a_63), .val (.ref a_74), .val (.ref kC), .unset, .unset]) rfl ?_
      refine XS.aload X_87.here hx rfl (hb hby at_30) rfl rfl ?_
      refine st_97.trans ?_
      refine XS.astore X_97.here hx rfl (hb hby at_35) rfl rfl (l' := #[.val (.int p0), .val (.int p1), .val (.int p2), .val (.int p3), .val (.ref a_63), .val (.ref a_74), .val (.ref kC), .val (.ref a_63), .unset]) rfl ?_
      refine XS.aload X_97.here hx rfl (hb hby at_37) rfl rfl ?_
      refine XS.ifnonnullYes X_97.here hx rfl (pc0 := 39) (pc' := 57) rfl (hb hby at_39) rfl (by decide) (by decide) ?_
      refine XS.aload X_97.here hx rfl (hb hby at_57) rfl rfl ?_
      show Steps p.tables e below (T_97.setTop (mkF m 59 #[.val (.int p0), .val (.int p1), .val (.int p2), .val (.int p3), .val (.ref a_63), .val (.ref a_74), .val (.ref kC), .val (.ref a_63), .unset] [(.ref a_63)])) _
      refine XS.ifnullNo X_97.here hx rfl (hb hby at_59) rfl ?_
      refine XS.aload X_97.here hx rfl (hb hby at_62) rfl rfl ?_
      refine XS.aload X_97.here hx rfl (hb hby at_64) rfl rfl ?_
      refine st_107.trans ?_
      refine XS.ifNo X_107.here hx rfl (hb hby at_69) rfl (by decide) ?_
      refine XS.iconst X_107.here hx rfl (hb hby at_72) ?_
      refine XS.goto X_107.here hx rfl (pc0 := 73) (pc' := 77) rfl (hb hby at_73) (by decide) (by decide) ?_
      refine XS.istore X_107.here hx rfl (hb hby at_77) rfl (l' := #[.val (.int p0), .val (.int p1), .val (.int p2), .val (.int p3), .val (.ref a_63), .val (.ref a_74), .val (.ref kC), .val (.ref a_63), .val (.int (1 : Int32))]) rfl ?_
      show Steps p.tables e below (T_107.setTop (mkF m 79 #[.val (.int p0), .val (.int p1), .val (.int p2), .val (.int p3), .val (.ref a_63), .val (.ref a_74), .val (.ref kC), .val (.ref a_63), .val (.int (1 : Int32))] [])) _
      refine XS.aload X_107.here hx rfl (hb hby at_79) rfl rfl ?_
      refine st_121 _ ?_
      refine acmp X_119 hx rfl (cd := .ne) (x := (.ref kC)) (y := (.ref kC)) rfl rfl (same := true) (pc0 := 84) (pc' := 87) rfl (hb hby at_84) rfl (decide_eq_true rfl) (by decide) (by decide) ?_
      refine XS.aload X_119.here hx rfl (hb hby at_87) rfl rfl ?_
      refine st_122.trans ?_
      refine XS.sipush X_122.here hx rfl (hb hby at_92) ?_
      refine XS.icmpNo X_122.here hx rfl (hb hby at_95) rfl (by decide) ?_
      refine XS.iload X_122.here hx rfl (hb hby at_98) rfl ?_
      show Steps p.tables e below (T_122.setTop (mkF m 100 #[.val (.int p0), .val (.int p1), .val (.int p2), .val (.int p3), .val (.ref a_63), .val (.ref a_74), .val (.ref kC), .val (.ref a_63), .val (.int (1 : Int32))] [(.int (1 : Int32))])) _
      refine XS.ifNo X_122.here hx rfl (hb hby at_100) rfl (by decide) ?_
      refine XS.iconst X_122.here hx rfl (hb hby at_103) ?_
      refine XS.goto X_122.here hx rfl (pc0 := 104) (pc' := 108) rfl (hb hby at_104) (by decide) (by decide) ?_
      exact Steps.refl _
    have K_133 : Keep h0 T_73.heap [] := (((Keep.refl _ _).trans K_65 all0).trans K_76 all0)
    obtain ⟨fs, hr, hrun, hended, hRE⟩ := X_122.leaveW hS_73 (by rw [show T_122.heap = T_73.heap from e_131]; exact (Nat.le_refl _)) (v := some (.int (1 : Int32))) (fun h => by rw [Bd.returns] at h; cases h)
    refine ⟨_, _, C_132.trans (retN X_122 hx (t := .boolean) Bd.returns (by simp) (hb hby at_108) hr), hrun, hended, _, _, rfl, ?_, ?_, hRE.1, hRE.2.1, hRE.2.2.1, hRE.2.2.2.mono (by decide) (by decide)⟩
    · show Q_law Z G1 kC uS sS p0 p1 p2 p3 h0 n0 (some (.int (1 : Int32))) T_122.heap _
      rw [e_131]
      exact ⟨rfl, N_130, K_133⟩
    · show CHr Z consts_1 s.vm s.heap T_122.vm T_122.heap
      rw [hh, show T_122.heap = T_73.heap from e_131]
      exact CR_83.trans (CHv.at X_122 hZ_73 hEL CH_82)
theorem w42 {Z : State} {a0 : Array Value} (hw : ∀ d ∈ tables_1, d.before a0 Z = true) : Jvm.Cond.before (Jvm.Cond.laysStatic "com/example/manque/manque/Declined$Kind" "CONFLICT" "Lcom/example/manque/manque/Declined$Kind;") a0 Z = true := hw _ (List.mem_of_getElem? (i := 42) rfl)
theorem w86 {Z : State} {a0 : Array Value} (hw : ∀ d ∈ tables_1, d.before a0 Z = true) : Jvm.Cond.before (Jvm.Cond.laysStatic "java/lang/Throwable" "UNASSIGNED_STACK" "[Ljava/lang/StackTraceElement;") a0 Z = true := hw _ (List.mem_of_getElem? (i := 86) rfl)
theorem w87 {Z : State} {a0 : Array Value} (hw : ∀ d ∈ tables_1, d.before a0 Z = true) : Jvm.Cond.before (Jvm.Cond.laysStatic "java/lang/Throwable" "SUPPRESSED_SENTINEL" "Ljava/util/List;") a0 Z = true := hw _ (List.mem_of_getElem? (i := 87) rfl)
theorem own_sta {s : State} {args : Array Value} {C n d K : String} (hx : (Jvm.Cond.exactly (.static C n d) K).value args s none s [] = some true) (hi : (Jvm.Cond.initialized C).before args s = true) (hl : (Jvm.Cond.laysStatic C n d).before args s = true) :
    ∃ a, Sta s s.heap C n d (.ref a) ∧ Exa s s.heap a K ∧ (Term.static C n d).eval args s none [] s = some (.ref a) := by
  obtain ⟨a, c', cell, k, e1, -⟩ := Cond.exactly_spec (Cond.before_iff.mpr hx)
  exact ⟨a, Sta.start e1 (Or.inr ⟨hi, hl⟩), Exa.start e1 hx, e1⟩
theorem own_fld {s : State} {args : Array Value} {t : Term} {a : Addr} {O n d : String} {v : Value} (ev : t.eval args s none [] s = some (.ref a)) (h : (Term.field t O n d).eval args s none [] s = some v) : Fld s s.heap a O n d v :=
  Fld.start (by simpa [Term.eval, ev] using h)
theorem own_fldI {s : State} {args : Array Value} {t : Term} {a : Addr} {O n d : String} {i : Int32} (ev : t.eval args s none [] s = some (.ref a)) (h : (Jvm.Cond.eq (Term.field t O n d) (.int i)).value args s none s [] = some true) : Fld s s.heap a O n d (.int i) :=
  own_fld ev (eqv_i (Term.int_eval i) h)
theorem own_methods {s : State} (h : Jvm.Pilot.@@N@@.Jvm.D.tablesKnown s = true) : s.vm.MethodsKnown := MethodsKnown_of_tablesKnown h
theorem own_frames {s : State} {m : MethodId} {args : Array Value} {below : List Frame} (hf : s.frames = .invoking m args :: below) (h : Jvm.Pilot.@@N@@.Jvm.D.framesKnown s = true) : s.vm.FramesKnown below := FramesKnown_of_framesKnown h hf
set_option maxRecDepth 65536 in
set_option maxHeartbeats 40000000 in
theorem comes_1 {Post : Tables → Env → Array Value → State → Outcome → State → Prop} (hpost : ∀ tb e args s v u, (limb_1_1.after args s (.returned v) u = true ∧ limb_1_2.after args s (.returned v) u = true ∧ True) → ReturnedEndW s (.returned v) u (Jvm.fieldLocs frame_1_writes args s ++ Jvm.arrayLocs frame_1_arrays args s ++ Jvm.staticLocs frame_1_statics s) 24 6656 → Post tb e args s (.returned v) u) :
    ArmFor flags0 classFile x code maxLocals ret World_1 tables_1 room_1 Calls_1 rest_1 Pre_1 Post := by
  intro l hfl _ _ p e ha hc hk s m args below hf hA hF happ hP
  obtain ⟨hcalls, hrest, hpre⟩ := hP
  obtain ⟨-, -, -, hnamed, -, -, -, hat⟩ := (Spec.applies_iff hf).mp happ
  obtain ⟨hg, hn⟩ := and_e (Cond.before_iff.mp (show (Jvm.Cond.and given_1 narrow_1).before args s = true from hpre))
  obtain ⟨h1, g0⟩ := and_e hg
  obtain ⟨a0, g1⟩ := and_e g0
  obtain ⟨a1, g2⟩ := and_e g1
  obtain ⟨a2, g3⟩ := and_e g2
  have a3 := g3
  obtain ⟨w0, w1, w2, w3, rfl⟩ : ∃ w0 w1 w2 w3 : Value, args = #[w0, w1, w2, w3] := by
    have hs : args.size = 4 := by simpa [Cond.value, given_1] using h1
    obtain ⟨L⟩ := args
    match L, hs with
    | [w0, w1, w2, w3], _ => exact ⟨w0, w1, w2, w3, rfl⟩
  have hw := fun d (hd : d ∈ tables_1) => atoms_spec (ws := Jvm.Cond.code x code maxLocals ret :: tables_1) hat d (List.mem_cons_of_mem _ hd)
  obtain ⟨hsets, hown0⟩ := atoms_of _ (rest_1_c_eq ▸ (show rest_1_c.before _ s = true from hrest))
  have hfit : Fit s := fun {y c} hc i hi => by
    obtain ⟨ha, rfl⟩ := Array.getElem?_eq_some_iff.mp hc
    have q := List.all_eq_true.mp ((Array.all_eq_true_iff_forall_mem.mp hF) _ (Array.getElem_mem ha)) i (List.mem_range.mpr hi)
    simpa [Array.getElem?_eq_getElem hi] using q
  obtain ⟨i0, q0⟩ := is_v a0
  obtain rfl : w0 = (.int i0) := Option.some.inj q0
  obtain ⟨i1, q1⟩ := is_v a1
  obtain rfl : w1 = (.int i1) := Option.some.inj q1
  obtain ⟨i2, q2⟩ := is_v a2
  obtain rfl : w2 = (.int i2) := Option.some.inj q2
  obtain ⟨i3, q3⟩ := is_v a3
  obtain rfl : w3 = (.int i3) := Option.some.inj q3
  obtain ⟨iCS, eCS⟩ := is_v (Cond.before_iff.mp (hsets _ (List.mem_of_getElem? (i := 1) rfl)))
  have SCS : Sta s s.heap "java/lang/String" "COMPACT_STRINGS" "Z" (.int iCS) := Sta.start eCS (Or.inl (hsets _ (List.mem_of_getElem? (i := 0) rfl)))
  have PCS : ¬ (iCS = (0 : Int32)) := gotF (Cond.eq_ints eCS (Term.int_eval (0))) (not_v (Cond.before_iff.mp (hsets _ (List.mem_of_getElem? (i := 2) rfl))))
  obtain ⟨n1, n2⟩ := and_e hn
  obtain ⟨kC, S1, E1, v1⟩ := own_sta n1 (w41 hw) (w42 hw)
  have F1 := own_fldI v1 n2
  have hLT : l.stackTraces = true := by unfold Launch.stackTraces; rw [hfl]; decide
  have hTR := two_refs hfit (w86 hw) (w87 hw)
  obtain ⟨uS, eU, rU⟩ := isR_v (Cond.before_iff.mp (hTR _ (List.mem_of_getElem? (i := 0) rfl)))
  obtain ⟨sS, eS, rS⟩ := isR_v (Cond.before_iff.mp (hTR _ (List.mem_of_getElem? (i := 1) rfl)))
  have SU : Sta s s.heap "java/lang/Throwable" "UNASSIGNED_STACK" "[Ljava/lang/StackTraceElement;" uS := Sta.start eU (Or.inr ⟨(w55 hw), (w86 hw)⟩)
  have SS : Sta s s.heap "java/lang/Throwable" "SUPPRESSED_SENTINEL" "Ljava/util/List;" sS := Sta.start eS (Or.inr ⟨(w55 hw), (w87 hw)⟩)
  have HG : own_G l s #[(.int i0), (.int i1), (.int i2), (.int i3)] iCS kC uS sS := ⟨SCS, PCS, S1, E1, F1, hLT, SU, rU, SS, rS⟩
  have CH : CHv s consts_1 s.vm s.heap := CHv.start (own_EL hw) hcalls.2.2.1 (hsets _ (List.mem_of_getElem? (i := 2) rfl)) (hw _ (List.mem_of_getElem? (i := 23) rfl)) (hw _ (List.mem_of_getElem? (i := 5) rfl))
  have hTK : s.vm.MethodsKnown := own_methods hcalls.2.1
  have hBL : s.vm.FramesKnown below := own_frames hf hcalls.1
  obtain ⟨n, o, h1, h2, h3, _, L, rfl, ⟨rfl, N, -⟩, -, hq⟩ := rm_law l s _ hw tables_1 iCS kC uS sS HG s.heap s.heap.size (Old.start s) i0 i1 i2 i3 p e ha hc hk s m _ below hf ((Spec.applies_iff_loose hf).mp happ).1 ⟨rfl, State.Warmed39.refl s, rfl, CH⟩ ⟨hTK, hBL⟩
  refine ⟨n, _, h1, h2, h3, hpost _ _ _ _ _ _ ⟨Cond.after_iff.mpr rfl, Cond.after_iff.mpr (eq_i res_at (Term.int_eval (1)) rfl), trivial⟩ ⟨hq.1, hq.2.1, hq.2.2.1, (hq.2.2.2.sift fun y hy => Or.inr (N y hy)).mono (by decide) (by decide)⟩⟩
theorem main_1_1 : Claimed_1_1 := comes_1 fun _ _ _ _ _ _ h hF => ⟨h.1, hF⟩
theorem main_1_2 : Claimed_1_2 := comes_1 fun _ _ _ _ _ _ h hF => ⟨h.2.1, hF⟩
end Jvm.Pilot.@@N@@
namespace Jvm.Pilot.@@N@@
open Jvm Jvm.ClassFile Sem Op Lib Jvm.Free Jvm.Stand Jvm.Pilot.@@N@@.Jvm.D
/-! MADE BY PROGRAM (witnessworld.py) out of the Statement's table words and the real class files: 37 classes; the members and pool entries that the words name. The judged class is class 1, her method 1. -/
namespace start1
open Jvm.ClassFile
def u (s : String) : CpInfo := .utf8 (stringToUtf16 s)
/-- a pool by its gaps: so many unusable entries, then the entry; so many at the end -/
def gap : Nat → List CpInfo → List CpInfo
  | 0, r => r
  | n + 1, r => .unusable :: gap n r
def poolList (es : List (Nat × CpInfo)) (last : Nat) : List CpInfo := es.foldr (fun e r => gap e.1 (e.2 :: r)) (gap last [])
def pool (es : List (Nat × CpInfo)) (last : Nat) : Array CpInfo := ⟨poolList es last⟩
def fileOf (pool : Array CpInfo) (this : Nat) (attrs : Array Attribute := #[]) (ms : Array MethodInfo := #[]) (fl : Nat := 33) (sup : Nat := 0) (ifs : Array Nat := #[]) (fds : Array FieldInfo := #[]) : ClassFile where
  minorVersion := 0
  majorVersion := 65
  constantPool := pool
  accessFlags := fl
  thisClass := this
  superClass := sup
  interfaces := ifs
  fields := fds
  methods := ms
  attributes := attrs
def plain (name : String) (sup : Option ClassId) : Class where
  name := name
  kind := .ordinary
  loader := none
  accessFlags := 33
  super := sup
  interfaces := #[]
  cf := none
  fields := #[]
  methods := #[]
  instanceTypes := #[]
  staticTypes := #[]
  resolved := #[]
  callSites := []
  init := .initialized
  statics := none
  mirror := none

def pool0 : Array CpInfo := pool [(5, u "<init>"), (0, u "()V"), (1, .class_ 10), (1, u "java/lang/Object")] 113

def k0c0 : Code := { maxStack := 0, maxLocals := 1, code := object_method_1_code, exceptionTable := #[], attributes := #[] }
def k0m0 : Method := { name := "<init>", desc := "()V", sig := { parameters := [], returnType := none }, accessFlags := 1, code := some k0c0 }
/-- java/lang/Object -/
def k0 : Class := { plain "java/lang/Object" none with
  accessFlags := 33
  interfaces := #[]
  cf := some (fileOf pool0 8 #[] #[{ accessFlags := 1, nameIndex := 5, descriptorIndex := 6, attributes := #[] }] 33 0 #[] #[])
  fields := #[]
  methods := #[k0m0]
  instanceTypes := #[]
  staticTypes := #[]
  resolved := Array.replicate 124 none
  statics := none }

def pool1 : Array CpInfo := pool [(2, .class_ 4), (1, u "java/lang/Object"), (0, u "<init>"), (0, u "()V"), (0, .methodref 8 9), (0, .class_ 10), (0, .nameAndType 11 12), (0, u "com/example/manque/manque/DeclinedConflictPinLaw"), (0, u "draw"), (0, u "(IIII)Ljava/lang/String;"), (0, .methodref 14 15), (0, .class_ 16), (0, .nameAndType 17 18), (0, u "com/example/manque/manque/Declined"), (0, u "conflict"), (0, u "(Ljava/lang/String;)Lcom/example/manque/manque/Declined;"), (0, .methodref 14 20), (0, .nameAndType 21 22), (0, u "kind"), (0, u "()Lcom/example/manque/manque/Declined$Kind;"), (0, .methodref 14 24), (0, .nameAndType 25 26), (0, u "getMessage"), (0, u "()Ljava/lang/String;"), (0, .methodref 28 29), (0, .class_ 30), (0, .nameAndType 31 32), (0, u "java/lang/String"), (0, u "equals"), (0, u "(Ljava/lang/Object;)Z"), (0, .fieldref 34 35), (0, .class_ 36), (0, .nameAndType 37 38), (0, u "com/example/manque/manque/Declined$Kind"), (0, u "CONFLICT"), (0, u "Lcom/example/manque/manque/Declined$Kind;"), (0, .methodref 34 40), (0, .nameAndType 41 42), (0, u "status"), (0, u "()I"), (0, .methodref 28 44), (0, .nameAndType 5 45), (0, u "([C)V"), (2, u "law"), (0, u "(IIII)Z")] 5

def k1m0 : Method := { name := "<init>", desc := "()V", sig := { parameters := [], returnType := none }, accessFlags := 1, code := none }
def k1c1 : Code := { maxStack := 4, maxLocals := 9, code := code, exceptionTable := #[], attributes := #[] }
def k1m1 : Method := { name := "law", desc := "(IIII)Z", sig := { parameters := [.int, .int, .int, .int], returnType := some .boolean }, accessFlags := 9, code := some k1c1 }
def k1c2 : Code := { maxStack := 6, maxLocals := 8, code := method_3_code, exceptionTable := #[], attributes := #[] }
def k1m2 : Method := { name := "draw", desc := "(IIII)Ljava/lang/String;", sig := { parameters := [.int, .int, .int, .int], returnType := some (.object "java/lang/String") }, accessFlags := 10, code := some k1c2 }
/-- com/example/manque/manque/DeclinedConflictPinLaw -/
def k1 : Class := { plain "com/example/manque/manque/DeclinedConflictPinLaw" (some 0) with
  accessFlags := 49
  interfaces := #[]
  cf := some (fileOf pool1 8 #[] #[{ accessFlags := 1, nameIndex := 5, descriptorIndex := 6, attributes := #[] }, { accessFlags := 9, nameIndex := 48, descriptorIndex := 49, attributes := #[] }, { accessFlags := 10, nameIndex := 11, descriptorIndex := 12, attributes := #[] }] 49 2 #[] #[])
  fields := #[]
  methods := #[k1m0, k1m1, k1m2]
  instanceTypes := #[]
  staticTypes := #[]
  resolved := Array.replicate 55 none
  statics := none }

def pool2 : Array CpInfo := pool [(1, .class_ 2), (0, u "java/io/Serializable"), (0, .class_ 4), (0, u "java/lang/Object")] 2

/-- java/io/Serializable -/
def k2 : Class := { plain "java/io/Serializable" (some 0) with
  accessFlags := 1537
  interfaces := #[]
  cf := some (fileOf pool2 1 #[] #[] 1537 3 #[] #[])
  fields := #[]
  methods := #[]
  instanceTypes := #[]
  staticTypes := #[]
  resolved := Array.replicate 7 none
  statics := none }

def pool3 : Array CpInfo := pool [(1, .class_ 2), (0, u "java/lang/Comparable"), (0, .class_ 4), (0, u "java/lang/Object")] 7

/-- java/lang/Comparable -/
def k3 : Class := { plain "java/lang/Comparable" (some 0) with
  accessFlags := 1537
  interfaces := #[]
  cf := some (fileOf pool3 1 #[] #[] 1537 3 #[] #[])
  fields := #[]
  methods := #[]
  instanceTypes := #[]
  staticTypes := #[]
  resolved := Array.replicate 12 none
  statics := none }

def pool4 : Array CpInfo := pool [(2, .class_ 4), (1, u "java/lang/CharSequence"), (42, .class_ 48), (0, u "java/lang/CharSequence$1CodePointIterator"), (10, .class_ 60), (0, u "java/lang/CharSequence$1CharIterator"), (5, .class_ 67), (0, u "java/lang/Object")] 63

/-- java/lang/CharSequence -/
def k4 : Class := { plain "java/lang/CharSequence" (some 0) with
  accessFlags := 1537
  interfaces := #[]
  cf := some (fileOf pool4 2 #[.nestMembers #[47, 59]] #[] 1537 66 #[] #[])
  fields := #[]
  methods := #[]
  instanceTypes := #[]
  staticTypes := #[]
  resolved := Array.replicate 131 none
  statics := none }

def pool5 : Array CpInfo := pool [(1, .class_ 2), (0, u "java/lang/constant/Constable"), (0, .class_ 4), (0, u "java/lang/Object")] 6

/-- java/lang/constant/Constable -/
def k5 : Class := { plain "java/lang/constant/Constable" (some 0) with
  accessFlags := 1537
  interfaces := #[]
  cf := some (fileOf pool5 1 #[] #[] 1537 3 #[] #[])
  fields := #[]
  methods := #[]
  instanceTypes := #[]
  staticTypes := #[]
  resolved := Array.replicate 11 none
  statics := none }

def pool6 : Array CpInfo := pool [(1, .class_ 2), (0, u "java/lang/constant/ConstantDesc"), (0, .class_ 4), (0, u "java/lang/Object")] 32

/-- java/lang/constant/ConstantDesc -/
def k6 : Class := { plain "java/lang/constant/ConstantDesc" (some 0) with
  accessFlags := 1537
  interfaces := #[]
  cf := some (fileOf pool6 1 #[] #[] 1537 3 #[] #[])
  fields := #[]
  methods := #[]
  instanceTypes := #[]
  staticTypes := #[]
  resolved := Array.replicate 37 none
  statics := none }

def pool7 : Array CpInfo := pool [(1, .methodref 2 3), (0, .class_ 4), (0, .nameAndType 5 6), (0, u "java/lang/Object"), (0, u "<init>"), (0, u "()V"), (0, .string 8), (0, u ""), (0, .fieldref 10 11), (0, .class_ 12), (0, .nameAndType 13 14), (0, u "java/lang/String"), (0, u "value"), (0, u "[B"), (0, .fieldref 10 16), (0, .nameAndType 17 18), (0, u "coder"), (0, u "B"), (2, u "hash"), (0, u "I"), (2, u "hashIsZero"), (0, u "Z"), (0, .methodref 10 28), (0, .nameAndType 5 29), (0, u "([CIILjava/lang/Void;)V"), (8, .fieldref 10 39), (0, .nameAndType 40 26), (0, u "COMPACT_STRINGS"), (1, .class_ 44), (1, u "java/lang/StringUTF16"), (0, u "compress"), (1, .methodref 42 48), (0, .nameAndType 49 50), (0, u "coderFromArrayLen"), (0, u "([BI)B"), (126, .methodref 42 178), (0, .nameAndType 45 179), (0, u "([CII)[B"), (363, u "equals"), (29, u "(Ljava/lang/Object;)Z"), (1, .class_ 576), (0, u "java/lang/CharSequence"), (22, u "CASE_INSENSITIVE_ORDER"), (0, u "Ljava/util/Comparator;"), (409, u "([C)V"), (90, u "serialPersistentFields"), (0, u "[Ljava/io/ObjectStreamField;"), (0, .class_ 1104), (0, u "java/lang/String$CaseInsensitiveComparator"), (1, .class_ 1107), (0, u "java/io/Serializable"), (0, .class_ 1109), (0, u "java/lang/Comparable"), (0, .class_ 1111), (0, u "java/lang/constant/Constable"), (0, .class_ 1113), (0, u "java/lang/constant/ConstantDesc"), (2, u "serialVersionUID"), (0, u "J"), (3, u "REPL"), (0, u "C"), (2, u "LATIN1"), (1, u "UTF16")] 323

def k7m0 : Method := { name := "<init>", desc := "()V", sig := { parameters := [], returnType := none }, accessFlags := 1, code := none }
def k7c1 : Code := { maxStack := 5, maxLocals := 2, code := jdk_42_method_3_code, exceptionTable := #[], attributes := #[] }
def k7m1 : Method := { name := "<init>", desc := "([C)V", sig := { parameters := [(.array .char)], returnType := none }, accessFlags := 1, code := some k7c1 }
def k7c2 : Code := { maxStack := 2, maxLocals := 3, code := jdk_42_method_66_code, exceptionTable := #[], attributes := #[] }
def k7m2 : Method := { name := "equals", desc := "(Ljava/lang/Object;)Z", sig := { parameters := [(.object "java/lang/Object")], returnType := some .boolean }, accessFlags := 1, code := some k7c2 }
def k7c3 : Code := { maxStack := 4, maxLocals := 6, code := jdk_42_method_149_code, exceptionTable := #[], attributes := #[] }
def k7m3 : Method := { name := "<init>", desc := "([CIILjava/lang/Void;)V", sig := { parameters := [(.array .char), .int, .int, (.object "java/lang/Void")], returnType := none }, accessFlags := 2, code := some k7c3 }
/-- java/lang/String -/
def k7 : Class := { plain "java/lang/String" (some 0) with
  accessFlags := 49
  interfaces := #[2, 3, 4, 5, 6]
  cf := some (fileOf pool7 10 #[.nestMembers #[1103]] #[{ accessFlags := 1, nameIndex := 5, descriptorIndex := 6, attributes := #[] }, { accessFlags := 1, nameIndex := 5, descriptorIndex := 1010, attributes := #[] }, { accessFlags := 1, nameIndex := 543, descriptorIndex := 573, attributes := #[] }, { accessFlags := 2, nameIndex := 5, descriptorIndex := 29, attributes := #[] }] 49 2 #[1106, 1108, 575, 1110, 1112] #[{ accessFlags := 18, nameIndex := 13, descriptorIndex := 14, attributes := #[] }, { accessFlags := 18, nameIndex := 17, descriptorIndex := 18, attributes := #[] }, { accessFlags := 2, nameIndex := 21, descriptorIndex := 22, attributes := #[] }, { accessFlags := 2, nameIndex := 25, descriptorIndex := 26, attributes := #[] }, { accessFlags := 26, nameIndex := 1116, descriptorIndex := 1117, attributes := #[] }, { accessFlags := 24, nameIndex := 40, descriptorIndex := 26, attributes := #[] }, { accessFlags := 26, nameIndex := 1101, descriptorIndex := 1102, attributes := #[] }, { accessFlags := 26, nameIndex := 1121, descriptorIndex := 1122, attributes := #[] }, { accessFlags := 25, nameIndex := 599, descriptorIndex := 600, attributes := #[] }, { accessFlags := 24, nameIndex := 1125, descriptorIndex := 18, attributes := #[] }, { accessFlags := 24, nameIndex := 1127, descriptorIndex := 18, attributes := #[] }])
  fields := #[{ name := "value", type := (.array .byte), accessFlags := 18, slot := 0, constantValue := 0 }, { name := "coder", type := .byte, accessFlags := 18, slot := 1, constantValue := 0 }, { name := "hash", type := .int, accessFlags := 2, slot := 2, constantValue := 0 }, { name := "hashIsZero", type := .boolean, accessFlags := 2, slot := 3, constantValue := 0 }, { name := "serialVersionUID", type := .long, accessFlags := 26, slot := 0, constantValue := 0 }, { name := "COMPACT_STRINGS", type := .boolean, accessFlags := 24, slot := 1, constantValue := 0 }, { name := "serialPersistentFields", type := (.array (.object "java/io/ObjectStreamField")), accessFlags := 26, slot := 2, constantValue := 0 }, { name := "REPL", type := .char, accessFlags := 26, slot := 3, constantValue := 0 }, { name := "CASE_INSENSITIVE_ORDER", type := (.object "java/util/Comparator"), accessFlags := 25, slot := 4, constantValue := 0 }, { name := "LATIN1", type := .byte, accessFlags := 24, slot := 5, constantValue := 0 }, { name := "UTF16", type := .byte, accessFlags := 24, slot := 6, constantValue := 0 }]
  methods := #[k7m0, k7m1, k7m2, k7m3]
  instanceTypes := #[(.array .byte), .byte, .int, .boolean]
  staticTypes := #[.long, .boolean, (.array (.object "java/io/ObjectStreamField")), .char, (.object "java/util/Comparator"), .byte, .byte]
  resolved := Array.replicate 1451 none
  statics := some 0 }

def pool8 : Array CpInfo := pool [(6, .class_ 8), (1, u "java/lang/Object"), (0, u "<init>"), (0, u "()V"), (1, .class_ 14), (1, u "java/lang/StringUTF16"), (31, u "$assertionsDisabled"), (0, u "Z"), (13, u "HI_BYTE_SHIFT"), (0, u "I"), (2, u "LO_BYTE_SHIFT"), (49, .methodref 12 116), (0, .nameAndType 117 118), (0, u "compress"), (0, u "([CI[BII)I"), (3, u "([CII)[B"), (138, u "coderFromArrayLen"), (0, u "([BI)B"), (106, .class_ 371), (1, u "java/lang/StringUTF16$LinesSpliterator"), (58, u "MAX_LENGTH"), (196, .class_ 628), (0, u "java/lang/StringUTF16$CodePointsSpliterator"), (0, .class_ 630), (0, u "java/lang/StringUTF16$CharsSpliterator")] 4

def k8m0 : Method := { name := "<init>", desc := "()V", sig := { parameters := [], returnType := none }, accessFlags := 0, code := none }
def k8c1 : Code := { maxStack := 2, maxLocals := 2, code := jdk_52_method_15_code, exceptionTable := #[], attributes := #[] }
def k8m1 : Method := { name := "coderFromArrayLen", desc := "([BI)B", sig := { parameters := [(.array .byte), .int], returnType := some .byte }, accessFlags := 8, code := some k8c1 }
def k8c2 : Code := { maxStack := 5, maxLocals := 6, code := jdk_52_method_16_code, exceptionTable := #[], attributes := #[] }
def k8m2 : Method := { name := "compress", desc := "([CII)[B", sig := { parameters := [(.array .char), .int, .int], returnType := some (.array .byte) }, accessFlags := 9, code := some k8c2 }
def k8c3 : Code := { maxStack := 3, maxLocals := 7, code := jdk_52_method_21_code, exceptionTable := #[], attributes := #[] }
def k8m3 : Method := { name := "compress", desc := "([CI[BII)I", sig := { parameters := [(.array .char), .int, (.array .byte), .int, .int], returnType := some .int }, accessFlags := 9, code := some k8c3 }
/-- java/lang/StringUTF16 -/
def k8 : Class := { plain "java/lang/StringUTF16" (some 0) with
  accessFlags := 48
  interfaces := #[]
  cf := some (fileOf pool8 12 #[.nestMembers #[627, 629, 369]] #[{ accessFlags := 0, nameIndex := 9, descriptorIndex := 10, attributes := #[] }, { accessFlags := 8, nameIndex := 261, descriptorIndex := 262, attributes := #[] }, { accessFlags := 9, nameIndex := 117, descriptorIndex := 122, attributes := #[] }, { accessFlags := 9, nameIndex := 117, descriptorIndex := 118, attributes := #[] }] 48 6 #[] #[{ accessFlags := 26, nameIndex := 61, descriptorIndex := 62, attributes := #[] }, { accessFlags := 26, nameIndex := 65, descriptorIndex := 62, attributes := #[] }, { accessFlags := 24, nameIndex := 430, descriptorIndex := 62, attributes := #[] }, { accessFlags := 4120, nameIndex := 46, descriptorIndex := 47, attributes := #[] }])
  fields := #[{ name := "HI_BYTE_SHIFT", type := .int, accessFlags := 26, slot := 0, constantValue := 0 }, { name := "LO_BYTE_SHIFT", type := .int, accessFlags := 26, slot := 1, constantValue := 0 }, { name := "MAX_LENGTH", type := .int, accessFlags := 24, slot := 2, constantValue := 0 }, { name := "$assertionsDisabled", type := .boolean, accessFlags := 4120, slot := 3, constantValue := 0 }]
  methods := #[k8m0, k8m1, k8m2, k8m3]
  instanceTypes := #[]
  staticTypes := #[.int, .int, .int, .boolean]
  resolved := Array.replicate 635 none
  statics := none }

def pool9 : Array CpInfo := pool [(1, .methodref 2 3), (0, .class_ 4), (0, .nameAndType 5 6), (0, u "java/lang/Object"), (0, u "<init>"), (0, u "()V"), (0, .fieldref 8 9), (0, .class_ 10), (0, .nameAndType 11 12), (0, u "java/lang/Throwable"), (0, u "cause"), (0, u "Ljava/lang/Throwable;"), (0, .fieldref 8 14), (0, .nameAndType 15 16), (0, u "UNASSIGNED_STACK"), (0, u "[Ljava/lang/StackTraceElement;"), (0, .fieldref 8 18), (0, .nameAndType 19 16), (0, u "stackTrace"), (0, .fieldref 8 21), (0, .nameAndType 22 23), (0, u "SUPPRESSED_SENTINEL"), (0, u "Ljava/util/List;"), (0, .fieldref 8 25), (0, .nameAndType 26 23), (0, u "suppressedExceptions"), (0, .methodref 8 28), (0, .nameAndType 29 30), (0, u "fillInStackTrace"), (0, u "()Ljava/lang/Throwable;"), (0, .fieldref 8 32), (0, .nameAndType 33 34), (0, u "detailMessage"), (0, u "Ljava/lang/String;"), (3, u "()Ljava/lang/String;"), (2, u "getMessage"), (51, .class_ 94), (0, u "java/lang/Throwable$WrappedPrintStream"), (6, .class_ 103), (1, u "java/lang/Throwable$PrintStreamOrWriter"), (61, u "$assertionsDisabled"), (0, u "Z"), (26, .class_ 194), (0, u "java/lang/Throwable$WrappedPrintWriter"), (3, .fieldref 8 199), (0, .nameAndType 200 201), (0, u "backtrace"), (0, u "Ljava/lang/Object;"), (0, .methodref 8 203), (0, .nameAndType 29 204), (0, u "(I)Ljava/lang/Throwable;"), (6, u "depth"), (0, u "I"), (10, u "(Ljava/lang/String;)V"), (45, .class_ 271), (1, u "java/lang/Throwable$SentinelHolder"), (32, u "EMPTY_THROWABLE_ARRAY"), (0, u "[Ljava/lang/Throwable;"), (12, .class_ 319), (0, u "java/io/Serializable"), (0, u "serialVersionUID"), (0, u "J"), (5, u "NULL_CAUSE_MESSAGE"), (0, u "SELF_SUPPRESSION_MESSAGE"), (0, u "CAUSE_CAPTION"), (0, u "SUPPRESSED_CAPTION")] 73

def k9c0 : Code := { maxStack := 2, maxLocals := 1, code := jdk_78_method_1_code, exceptionTable := #[], attributes := #[] }
def k9m0 : Method := { name := "<init>", desc := "()V", sig := { parameters := [], returnType := none }, accessFlags := 1, code := some k9c0 }
def k9c1 : Code := { maxStack := 2, maxLocals := 2, code := jdk_78_method_2_code, exceptionTable := #[], attributes := #[] }
def k9m1 : Method := { name := "<init>", desc := "(Ljava/lang/String;)V", sig := { parameters := [(.object "java/lang/String")], returnType := none }, accessFlags := 1, code := some k9c1 }
def k9c2 : Code := { maxStack := 1, maxLocals := 1, code := jdk_78_method_6_code, exceptionTable := #[], attributes := #[] }
def k9m2 : Method := { name := "getMessage", desc := "()Ljava/lang/String;", sig := { parameters := [], returnType := some (.object "java/lang/String") }, accessFlags := 1, code := some k9c2 }
def k9c3 : Code := { maxStack := 2, maxLocals := 1, code := ⟨#[0x2a, 0xb4, 0x00, 0x11, 0xc7, 0x00, 0x0a, 0x2a, 0xb4, 0x00, 0xc6, 0xc6, 0x00, 0x10, 0x2a, 0x03, 0xb6, 0x00, 0xca, 0x57, 0x2a, 0xb2, 0x00, 0x0d, 0xb5, 0x00, 0x11, 0x2a, 0xb0]⟩, exceptionTable := #[], attributes := #[] }
def k9m3 : Method := { name := "fillInStackTrace", desc := "()Ljava/lang/Throwable;", sig := { parameters := [], returnType := some (.object "java/lang/Throwable") }, accessFlags := 33, code := some k9c3 }
def k9m4 : Method := { name := "fillInStackTrace", desc := "(I)Ljava/lang/Throwable;", sig := { parameters := [.int], returnType := some (.object "java/lang/Throwable") }, accessFlags := 258, code := none }
/-- java/lang/Throwable -/
def k9 : Class := { plain "java/lang/Throwable" (some 0) with
  accessFlags := 33
  interfaces := #[2]
  cf := some (fileOf pool9 8 #[.nestMembers #[193, 93, 101, 269]] #[{ accessFlags := 1, nameIndex := 5, descriptorIndex := 6, attributes := #[] }, { accessFlags := 1, nameIndex := 5, descriptorIndex := 223, attributes := #[] }, { accessFlags := 1, nameIndex := 41, descriptorIndex := 38, attributes := #[] }, { accessFlags := 33, nameIndex := 29, descriptorIndex := 30, attributes := #[] }, { accessFlags := 258, nameIndex := 29, descriptorIndex := 204, attributes := #[] }] 33 2 #[318] #[{ accessFlags := 26, nameIndex := 320, descriptorIndex := 321, attributes := #[] }, { accessFlags := 130, nameIndex := 200, descriptorIndex := 201, attributes := #[] }, { accessFlags := 2, nameIndex := 33, descriptorIndex := 34, attributes := #[] }, { accessFlags := 26, nameIndex := 15, descriptorIndex := 16, attributes := #[] }, { accessFlags := 2, nameIndex := 11, descriptorIndex := 12, attributes := #[] }, { accessFlags := 2, nameIndex := 19, descriptorIndex := 16, attributes := #[] }, { accessFlags := 130, nameIndex := 211, descriptorIndex := 212, attributes := #[] }, { accessFlags := 26, nameIndex := 22, descriptorIndex := 23, attributes := #[] }, { accessFlags := 2, nameIndex := 26, descriptorIndex := 23, attributes := #[] }, { accessFlags := 26, nameIndex := 327, descriptorIndex := 34, attributes := #[] }, { accessFlags := 26, nameIndex := 328, descriptorIndex := 34, attributes := #[] }, { accessFlags := 26, nameIndex := 329, descriptorIndex := 34, attributes := #[] }, { accessFlags := 26, nameIndex := 330, descriptorIndex := 34, attributes := #[] }, { accessFlags := 26, nameIndex := 304, descriptorIndex := 305, attributes := #[] }, { accessFlags := 4120, nameIndex := 165, descriptorIndex := 166, attributes := #[] }])
  fields := #[{ name := "serialVersionUID", type := .long, accessFlags := 26, slot := 0, constantValue := 0 }, { name := "backtrace", type := (.object "java/lang/Object"), accessFlags := 130, slot := 0, constantValue := 0 }, { name := "detailMessage", type := (.object "java/lang/String"), accessFlags := 2, slot := 1, constantValue := 0 }, { name := "UNASSIGNED_STACK", type := (.array (.object "java/lang/StackTraceElement")), accessFlags := 26, slot := 1, constantValue := 0 }, { name := "cause", type := (.object "java/lang/Throwable"), accessFlags := 2, slot := 2, constantValue := 0 }, { name := "stackTrace", type := (.array (.object "java/lang/StackTraceElement")), accessFlags := 2, slot := 3, constantValue := 0 }, { name := "depth", type := .int, accessFlags := 130, slot := 4, constantValue := 0 }, { name := "SUPPRESSED_SENTINEL", type := (.object "java/util/List"), accessFlags := 26, slot := 2, constantValue := 0 }, { name := "suppressedExceptions", type := (.object "java/util/List"), accessFlags := 2, slot := 5, constantValue := 0 }, { name := "NULL_CAUSE_MESSAGE", type := (.object "java/lang/String"), accessFlags := 26, slot := 3, constantValue := 0 }, { name := "SELF_SUPPRESSION_MESSAGE", type := (.object "java/lang/String"), accessFlags := 26, slot := 4, constantValue := 0 }, { name := "CAUSE_CAPTION", type := (.object "java/lang/String"), accessFlags := 26, slot := 5, constantValue := 0 }, { name := "SUPPRESSED_CAPTION", type := (.object "java/lang/String"), accessFlags := 26, slot := 6, constantValue := 0 }, { name := "EMPTY_THROWABLE_ARRAY", type := (.array (.object "java/lang/Throwable")), accessFlags := 26, slot := 7, constantValue := 0 }, { name := "$assertionsDisabled", type := .boolean, accessFlags := 4120, slot := 8, constantValue := 0 }]
  methods := #[k9m0, k9m1, k9m2, k9m3, k9m4]
  instanceTypes := #[(.object "java/lang/Object"), (.object "java/lang/String"), (.object "java/lang/Throwable"), (.array (.object "java/lang/StackTraceElement")), .int, (.object "java/util/List")]
  staticTypes := #[.long, (.array (.object "java/lang/StackTraceElement")), (.object "java/util/List"), (.object "java/lang/String"), (.object "java/lang/String"), (.object "java/lang/String"), (.object "java/lang/String"), (.array (.object "java/lang/Throwable")), .boolean]
  resolved := Array.replicate 404 none
  statics := some 1 }

def pool10 : Array CpInfo := pool [(2, .class_ 4), (1, u "java/lang/Throwable"), (0, u "<init>"), (0, u "()V"), (0, .methodref 2 8), (0, .nameAndType 5 9), (0, u "(Ljava/lang/String;)V"), (9, .class_ 20), (0, u "java/lang/Exception"), (0, u "serialVersionUID"), (0, u "J")] 17

def k10m0 : Method := { name := "<init>", desc := "()V", sig := { parameters := [], returnType := none }, accessFlags := 1, code := none }
def k10c1 : Code := { maxStack := 2, maxLocals := 2, code := jdk_59_method_2_code, exceptionTable := #[], attributes := #[] }
def k10m1 : Method := { name := "<init>", desc := "(Ljava/lang/String;)V", sig := { parameters := [(.object "java/lang/String")], returnType := none }, accessFlags := 1, code := some k10c1 }
/-- java/lang/Exception -/
def k10 : Class := { plain "java/lang/Exception" (some 9) with
  accessFlags := 33
  interfaces := #[]
  cf := some (fileOf pool10 19 #[] #[{ accessFlags := 1, nameIndex := 5, descriptorIndex := 6, attributes := #[] }, { accessFlags := 1, nameIndex := 5, descriptorIndex := 9, attributes := #[] }] 33 2 #[] #[{ accessFlags := 24, nameIndex := 21, descriptorIndex := 22, attributes := #[] }])
  fields := #[{ name := "serialVersionUID", type := .long, accessFlags := 24, slot := 0, constantValue := 0 }]
  methods := #[k10m0, k10m1]
  instanceTypes := #[(.object "java/lang/Object"), (.object "java/lang/String"), (.object "java/lang/Throwable"), (.array (.object "java/lang/StackTraceElement")), .int, (.object "java/util/List")]
  staticTypes := #[.long]
  resolved := Array.replicate 40 none
  statics := none }

def pool11 : Array CpInfo := pool [(1, .methodref 2 3), (0, .class_ 4), (0, .nameAndType 5 6), (0, u "java/lang/Exception"), (0, u "<init>"), (0, u "(Ljava/lang/String;)V"), (0, .fieldref 8 9), (0, .class_ 10), (0, .nameAndType 11 12), (0, u "com/example/manque/manque/Declined"), (0, u "kind"), (0, u "Lcom/example/manque/manque/Declined$Kind;"), (1, .class_ 16), (1, u "com/example/manque/manque/Declined$Kind"), (1, .methodref 8 19), (0, .nameAndType 5 20), (0, u "(Lcom/example/manque/manque/Declined$Kind;Ljava/lang/String;)V"), (0, .fieldref 14 22), (0, .nameAndType 23 12), (0, u "CONFLICT"), (3, u "serialVersionUID"), (0, u "J"), (6, u "(Ljava/lang/String;)Lcom/example/manque/manque/Declined;"), (0, u "conflict"), (1, u "()Lcom/example/manque/manque/Declined$Kind;")] 5

def k11c0 : Code := { maxStack := 2, maxLocals := 3, code := prog_1_method_1_code, exceptionTable := #[], attributes := #[] }
def k11m0 : Method := { name := "<init>", desc := "(Lcom/example/manque/manque/Declined$Kind;Ljava/lang/String;)V", sig := { parameters := [(.object "com/example/manque/manque/Declined$Kind"), (.object "java/lang/String")], returnType := none }, accessFlags := 0, code := some k11c0 }
def k11c1 : Code := { maxStack := 4, maxLocals := 1, code := prog_1_method_3_code, exceptionTable := #[], attributes := #[] }
def k11m1 : Method := { name := "conflict", desc := "(Ljava/lang/String;)Lcom/example/manque/manque/Declined;", sig := { parameters := [(.object "java/lang/String")], returnType := some (.object "com/example/manque/manque/Declined") }, accessFlags := 8, code := some k11c1 }
def k11c2 : Code := { maxStack := 1, maxLocals := 1, code := prog_1_method_5_code, exceptionTable := #[], attributes := #[] }
def k11m2 : Method := { name := "kind", desc := "()Lcom/example/manque/manque/Declined$Kind;", sig := { parameters := [], returnType := some (.object "com/example/manque/manque/Declined$Kind") }, accessFlags := 0, code := some k11c2 }
/-- com/example/manque/manque/Declined -/
def k11 : Class := { plain "com/example/manque/manque/Declined" (some 10) with
  accessFlags := 48
  interfaces := #[]
  cf := some (fileOf pool11 8 #[.nestMembers #[14]] #[{ accessFlags := 0, nameIndex := 5, descriptorIndex := 20, attributes := #[] }, { accessFlags := 8, nameIndex := 36, descriptorIndex := 35, attributes := #[] }, { accessFlags := 0, nameIndex := 11, descriptorIndex := 38, attributes := #[] }] 48 2 #[] #[{ accessFlags := 26, nameIndex := 27, descriptorIndex := 28, attributes := #[] }, { accessFlags := 18, nameIndex := 11, descriptorIndex := 12, attributes := #[] }])
  fields := #[{ name := "serialVersionUID", type := .long, accessFlags := 26, slot := 0, constantValue := 0 }, { name := "kind", type := (.object "com/example/manque/manque/Declined$Kind"), accessFlags := 18, slot := 6, constantValue := 0 }]
  methods := #[k11m0, k11m1, k11m2]
  instanceTypes := #[(.object "java/lang/Object"), (.object "java/lang/String"), (.object "java/lang/Throwable"), (.array (.object "java/lang/StackTraceElement")), .int, (.object "java/util/List"), (.object "com/example/manque/manque/Declined$Kind")]
  staticTypes := #[.long]
  resolved := Array.replicate 44 none
  statics := none }

def pool12 : Array CpInfo := pool [(2, .class_ 4), (1, u "java/lang/Enum"), (0, u "name"), (0, u "Ljava/lang/String;"), (2, u "ordinal"), (0, u "I"), (1, .class_ 14), (1, u "java/lang/Object"), (4, u "hash"), (86, .class_ 108), (1, u "java/lang/Enum$EnumDesc"), (2, .class_ 112), (0, u "java/lang/constant/Constable"), (0, .class_ 114), (0, u "java/lang/Comparable"), (0, .class_ 116), (0, u "java/io/Serializable")] 87

/-- java/lang/Enum -/
def k12 : Class := { plain "java/lang/Enum" (some 0) with
  accessFlags := 1057
  interfaces := #[5, 3, 2]
  cf := some (fileOf pool12 2 #[.nestMembers #[106]] #[] 1057 12 #[111, 113, 115] #[{ accessFlags := 18, nameIndex := 5, descriptorIndex := 6, attributes := #[] }, { accessFlags := 18, nameIndex := 9, descriptorIndex := 10, attributes := #[] }, { accessFlags := 2, nameIndex := 19, descriptorIndex := 10, attributes := #[] }])
  fields := #[{ name := "name", type := (.object "java/lang/String"), accessFlags := 18, slot := 0, constantValue := 0 }, { name := "ordinal", type := .int, accessFlags := 18, slot := 1, constantValue := 0 }, { name := "hash", type := .int, accessFlags := 2, slot := 2, constantValue := 0 }]
  methods := #[]
  instanceTypes := #[(.object "java/lang/String"), .int, .int]
  staticTypes := #[]
  resolved := Array.replicate 204 none
  statics := none }

def pool13 : Array CpInfo := pool [(1, .class_ 2), (0, u "com/example/manque/manque/Declined$Kind"), (2, u "MALFORMED"), (0, u "Lcom/example/manque/manque/Declined$Kind;"), (2, u "NOT_FOUND"), (2, u "NOT_ALLOWED"), (2, u "CONFLICT"), (2, u "TOO_LARGE"), (2, u "REFUSED"), (2, u "STOPPING"), (2, u "$VALUES"), (0, u "[Lcom/example/manque/manque/Declined$Kind;"), (6, .class_ 37), (1, u "java/lang/Enum"), (6, .fieldref 1 45), (0, .nameAndType 46 47), (0, u "status"), (0, u "I"), (21, u "()I"), (6, .class_ 77), (0, u "com/example/manque/manque/Declined")] 2

def k13c0 : Code := { maxStack := 1, maxLocals := 1, code := prog_2_method_4_code, exceptionTable := #[], attributes := #[] }
def k13m0 : Method := { name := "status", desc := "()I", sig := { parameters := [], returnType := some .int }, accessFlags := 0, code := some k13c0 }
/-- com/example/manque/manque/Declined$Kind -/
def k13 : Class := { plain "com/example/manque/manque/Declined$Kind" (some 12) with
  accessFlags := 16432
  interfaces := #[]
  cf := some (fileOf pool13 1 #[.nestHost 76] #[{ accessFlags := 0, nameIndex := 46, descriptorIndex := 69, attributes := #[] }] 16432 35 #[] #[{ accessFlags := 16409, nameIndex := 5, descriptorIndex := 6, attributes := #[] }, { accessFlags := 16409, nameIndex := 9, descriptorIndex := 6, attributes := #[] }, { accessFlags := 16409, nameIndex := 12, descriptorIndex := 6, attributes := #[] }, { accessFlags := 16409, nameIndex := 15, descriptorIndex := 6, attributes := #[] }, { accessFlags := 16409, nameIndex := 18, descriptorIndex := 6, attributes := #[] }, { accessFlags := 16409, nameIndex := 21, descriptorIndex := 6, attributes := #[] }, { accessFlags := 16409, nameIndex := 24, descriptorIndex := 6, attributes := #[] }, { accessFlags := 18, nameIndex := 46, descriptorIndex := 47, attributes := #[] }, { accessFlags := 4122, nameIndex := 27, descriptorIndex := 28, attributes := #[] }])
  fields := #[{ name := "MALFORMED", type := (.object "com/example/manque/manque/Declined$Kind"), accessFlags := 16409, slot := 0, constantValue := 0 }, { name := "NOT_FOUND", type := (.object "com/example/manque/manque/Declined$Kind"), accessFlags := 16409, slot := 1, constantValue := 0 }, { name := "NOT_ALLOWED", type := (.object "com/example/manque/manque/Declined$Kind"), accessFlags := 16409, slot := 2, constantValue := 0 }, { name := "CONFLICT", type := (.object "com/example/manque/manque/Declined$Kind"), accessFlags := 16409, slot := 3, constantValue := 0 }, { name := "TOO_LARGE", type := (.object "com/example/manque/manque/Declined$Kind"), accessFlags := 16409, slot := 4, constantValue := 0 }, { name := "REFUSED", type := (.object "com/example/manque/manque/Declined$Kind"), accessFlags := 16409, slot := 5, constantValue := 0 }, { name := "STOPPING", type := (.object "com/example/manque/manque/Declined$Kind"), accessFlags := 16409, slot := 6, constantValue := 0 }, { name := "status", type := .int, accessFlags := 18, slot := 3, constantValue := 0 }, { name := "$VALUES", type := (.array (.object "com/example/manque/manque/Declined$Kind")), accessFlags := 4122, slot := 7, constantValue := 0 }]
  methods := #[k13m0]
  instanceTypes := #[(.object "java/lang/String"), .int, .int, .int]
  staticTypes := #[(.object "com/example/manque/manque/Declined$Kind"), (.object "com/example/manque/manque/Declined$Kind"), (.object "com/example/manque/manque/Declined$Kind"), (.object "com/example/manque/manque/Declined$Kind"), (.object "com/example/manque/manque/Declined$Kind"), (.object "com/example/manque/manque/Declined$Kind"), (.object "com/example/manque/manque/Declined$Kind"), (.array (.object "com/example/manque/manque/Declined$Kind"))]
  resolved := Array.replicate 80 none
  statics := some 2 }

def pool14 : Array CpInfo := pool [(4, .class_ 6), (1, u "java/lang/Object"), (0, u "<init>"), (0, u "()V"), (5, .class_ 16), (1, u "java/lang/StringLatin1"), (104, u "$assertionsDisabled"), (0, u "Z"), (98, .class_ 223), (1, u "java/lang/StringLatin1$LinesSpliterator"), (166, .class_ 391), (0, u "java/lang/StringLatin1$CharsSpliterator")] 3

def k14m0 : Method := { name := "<init>", desc := "()V", sig := { parameters := [], returnType := none }, accessFlags := 0, code := none }
/-- java/lang/StringLatin1 -/
def k14 : Class := { plain "java/lang/StringLatin1" (some 0) with
  accessFlags := 48
  interfaces := #[]
  cf := some (fileOf pool14 14 #[.nestMembers #[390, 221]] #[{ accessFlags := 0, nameIndex := 7, descriptorIndex := 8, attributes := #[] }] 48 4 #[] #[{ accessFlags := 4120, nameIndex := 121, descriptorIndex := 122, attributes := #[] }])
  fields := #[{ name := "$assertionsDisabled", type := .boolean, accessFlags := 4120, slot := 0, constantValue := 0 }]
  methods := #[k14m0]
  instanceTypes := #[]
  staticTypes := #[.boolean]
  resolved := Array.replicate 395 none
  statics := none }

def pool15 : Array CpInfo := pool [(2, .class_ 4), (1, u "java/lang/Object"), (0, u "<init>"), (0, u "()V"), (17, .class_ 26), (1, u "jdk/internal/util/Preconditions"), (28, .class_ 56), (0, u "jdk/internal/util/Preconditions$4"), (57, .class_ 115), (0, u "jdk/internal/util/Preconditions$1"), (7, u "SIOOBE_FORMATTER"), (0, u "Ljava/util/function/BiFunction;"), (0, .class_ 126), (0, u "jdk/internal/util/Preconditions$2"), (3, u "AIOOBE_FORMATTER"), (0, .class_ 132), (0, u "jdk/internal/util/Preconditions$3"), (3, u "IOOBE_FORMATTER")] 57

def k15m0 : Method := { name := "<init>", desc := "()V", sig := { parameters := [], returnType := none }, accessFlags := 1, code := none }
/-- jdk/internal/util/Preconditions -/
def k15 : Class := { plain "jdk/internal/util/Preconditions" (some 0) with
  accessFlags := 33
  interfaces := #[]
  cf := some (fileOf pool15 24 #[.nestMembers #[55, 131, 125, 114]] #[{ accessFlags := 1, nameIndex := 5, descriptorIndex := 6, attributes := #[] }] 33 2 #[] #[{ accessFlags := 25, nameIndex := 123, descriptorIndex := 124, attributes := #[] }, { accessFlags := 25, nameIndex := 130, descriptorIndex := 124, attributes := #[] }, { accessFlags := 25, nameIndex := 136, descriptorIndex := 124, attributes := #[] }])
  fields := #[{ name := "SIOOBE_FORMATTER", type := (.object "java/util/function/BiFunction"), accessFlags := 25, slot := 0, constantValue := 0 }, { name := "AIOOBE_FORMATTER", type := (.object "java/util/function/BiFunction"), accessFlags := 25, slot := 1, constantValue := 0 }, { name := "IOOBE_FORMATTER", type := (.object "java/util/function/BiFunction"), accessFlags := 25, slot := 2, constantValue := 0 }]
  methods := #[k15m0]
  instanceTypes := #[]
  staticTypes := #[(.object "java/util/function/BiFunction"), (.object "java/util/function/BiFunction"), (.object "java/util/function/BiFunction")]
  resolved := Array.replicate 194 none
  statics := some 3 }

def pool16 : Array CpInfo := pool [(9, u "<init>"), (6, .class_ 18), (1, u "java/lang/Object"), (0, u "()V"), (1, .class_ 23), (1, u "jdk/internal/util/ArraysSupport"), (0, u "LOG2_ARRAY_LONG_INDEX_SCALE"), (0, u "I"), (2, u "U"), (0, u "Ljdk/internal/misc/Unsafe;"), (8, u "BIG_ENDIAN"), (0, u "Z"), (8, u "LOG2_BYTE_BIT_SIZE"), (4, u "LOG2_ARRAY_INT_INDEX_SCALE"), (54, u "JLA"), (0, u "Ljdk/internal/access/JavaLangAccess;"), (11, u "LOG2_ARRAY_BOOLEAN_INDEX_SCALE"), (9, u "LOG2_ARRAY_BYTE_INDEX_SCALE"), (5, u "LOG2_ARRAY_CHAR_INDEX_SCALE"), (5, u "LOG2_ARRAY_SHORT_INDEX_SCALE"), (18, u "LOG2_ARRAY_FLOAT_INDEX_SCALE"), (24, u "LOG2_ARRAY_DOUBLE_INDEX_SCALE"), (89, u "T_BOOLEAN"), (2, u "T_CHAR"), (1, u "T_FLOAT"), (1, u "T_DOUBLE"), (1, u "T_BYTE"), (1, u "T_SHORT"), (1, u "T_INT"), (1, u "T_LONG"), (1, u "SOFT_MAX_ARRAY_LENGTH")] 83

def k16m0 : Method := { name := "<init>", desc := "()V", sig := { parameters := [], returnType := none }, accessFlags := 2, code := none }
/-- jdk/internal/util/ArraysSupport -/
def k16 : Class := { plain "jdk/internal/util/ArraysSupport" (some 0) with
  accessFlags := 33
  interfaces := #[]
  cf := some (fileOf pool16 21 #[] #[{ accessFlags := 2, nameIndex := 9, descriptorIndex := 19, attributes := #[] }] 33 16 #[] #[{ accessFlags := 24, nameIndex := 28, descriptorIndex := 29, attributes := #[] }, { accessFlags := 26, nameIndex := 38, descriptorIndex := 39, attributes := #[] }, { accessFlags := 25, nameIndex := 121, descriptorIndex := 25, attributes := #[] }, { accessFlags := 25, nameIndex := 131, descriptorIndex := 25, attributes := #[] }, { accessFlags := 25, nameIndex := 137, descriptorIndex := 25, attributes := #[] }, { accessFlags := 25, nameIndex := 143, descriptorIndex := 25, attributes := #[] }, { accessFlags := 25, nameIndex := 53, descriptorIndex := 25, attributes := #[] }, { accessFlags := 25, nameIndex := 24, descriptorIndex := 25, attributes := #[] }, { accessFlags := 25, nameIndex := 162, descriptorIndex := 25, attributes := #[] }, { accessFlags := 25, nameIndex := 187, descriptorIndex := 25, attributes := #[] }, { accessFlags := 26, nameIndex := 48, descriptorIndex := 25, attributes := #[] }, { accessFlags := 25, nameIndex := 277, descriptorIndex := 25, attributes := #[] }, { accessFlags := 25, nameIndex := 280, descriptorIndex := 25, attributes := #[] }, { accessFlags := 25, nameIndex := 282, descriptorIndex := 25, attributes := #[] }, { accessFlags := 25, nameIndex := 284, descriptorIndex := 25, attributes := #[] }, { accessFlags := 25, nameIndex := 286, descriptorIndex := 25, attributes := #[] }, { accessFlags := 25, nameIndex := 288, descriptorIndex := 25, attributes := #[] }, { accessFlags := 25, nameIndex := 290, descriptorIndex := 25, attributes := #[] }, { accessFlags := 25, nameIndex := 292, descriptorIndex := 25, attributes := #[] }, { accessFlags := 26, nameIndex := 108, descriptorIndex := 109, attributes := #[] }, { accessFlags := 25, nameIndex := 294, descriptorIndex := 25, attributes := #[] }])
  fields := #[{ name := "U", type := (.object "jdk/internal/misc/Unsafe"), accessFlags := 24, slot := 0, constantValue := 0 }, { name := "BIG_ENDIAN", type := .boolean, accessFlags := 26, slot := 1, constantValue := 0 }, { name := "LOG2_ARRAY_BOOLEAN_INDEX_SCALE", type := .int, accessFlags := 25, slot := 2, constantValue := 0 }, { name := "LOG2_ARRAY_BYTE_INDEX_SCALE", type := .int, accessFlags := 25, slot := 3, constantValue := 0 }, { name := "LOG2_ARRAY_CHAR_INDEX_SCALE", type := .int, accessFlags := 25, slot := 4, constantValue := 0 }, { name := "LOG2_ARRAY_SHORT_INDEX_SCALE", type := .int, accessFlags := 25, slot := 5, constantValue := 0 }, { name := "LOG2_ARRAY_INT_INDEX_SCALE", type := .int, accessFlags := 25, slot := 6, constantValue := 0 }, { name := "LOG2_ARRAY_LONG_INDEX_SCALE", type := .int, accessFlags := 25, slot := 7, constantValue := 0 }, { name := "LOG2_ARRAY_FLOAT_INDEX_SCALE", type := .int, accessFlags := 25, slot := 8, constantValue := 0 }, { name := "LOG2_ARRAY_DOUBLE_INDEX_SCALE", type := .int, accessFlags := 25, slot := 9, constantValue := 0 }, { name := "LOG2_BYTE_BIT_SIZE", type := .int, accessFlags := 26, slot := 10, constantValue := 0 }, { name := "T_BOOLEAN", type := .int, accessFlags := 25, slot := 11, constantValue := 0 }, { name := "T_CHAR", type := .int, accessFlags := 25, slot := 12, constantValue := 0 }, { name := "T_FLOAT", type := .int, accessFlags := 25, slot := 13, constantValue := 0 }, { name := "T_DOUBLE", type := .int, accessFlags := 25, slot := 14, constantValue := 0 }, { name := "T_BYTE", type := .int, accessFlags := 25, slot := 15, constantValue := 0 }, { name := "T_SHORT", type := .int, accessFlags := 25, slot := 16, constantValue := 0 }, { name := "T_INT", type := .int, accessFlags := 25, slot := 17, constantValue := 0 }, { name := "T_LONG", type := .int, accessFlags := 25, slot := 18, constantValue := 0 }, { name := "JLA", type := (.object "jdk/internal/access/JavaLangAccess"), accessFlags := 26, slot := 19, constantValue := 0 }, { name := "SOFT_MAX_ARRAY_LENGTH", type := .int, accessFlags := 25, slot := 20, constantValue := 0 }]
  methods := #[k16m0]
  instanceTypes := #[]
  staticTypes := #[(.object "jdk/internal/misc/Unsafe"), .boolean, .int, .int, .int, .int, .int, .int, .int, .int, .int, .int, .int, .int, .int, .int, .int, .int, .int, (.object "jdk/internal/access/JavaLangAccess"), .int]
  resolved := Array.replicate 378 none
  statics := none }

def pool17 : Array CpInfo := pool [(2, .class_ 4), (1, u "java/lang/Object"), (0, u "<init>"), (0, u "()V"), (12, .class_ 20), (0, u "java/util/Collections"), (63, u "r"), (0, u "Ljava/util/Random;"), (80, .class_ 167), (0, u "java/util/Collections$UnmodifiableCollection"), (6, .class_ 175), (0, u "java/util/Collections$UnmodifiableSequencedCollection"), (6, .class_ 183), (0, u "java/util/Collections$UnmodifiableSet"), (6, .class_ 191), (0, u "java/util/Collections$UnmodifiableSequencedSet"), (6, .class_ 199), (0, u "java/util/Collections$UnmodifiableSortedSet"), (6, .class_ 207), (0, u "java/util/Collections$UnmodifiableNavigableSet"), (4, .class_ 213), (0, u "java/util/Collections$UnmodifiableList"), (1, .class_ 216), (0, u "java/util/Collections$UnmodifiableRandomAccessList"), (6, .class_ 224), (0, u "java/util/Collections$UnmodifiableMap"), (6, .class_ 232), (0, u "java/util/Collections$UnmodifiableSequencedMap"), (4, .class_ 238), (0, u "java/util/Collections$UnmodifiableSortedMap"), (6, .class_ 246), (0, u "java/util/Collections$UnmodifiableNavigableMap"), (3, .class_ 251), (0, u "java/util/Collections$SynchronizedCollection"), (4, .class_ 257), (0, u "java/util/Collections$SynchronizedSet"), (4, .class_ 263), (0, u "java/util/Collections$SynchronizedSortedSet"), (1, .class_ 266), (0, u "java/util/Collections$SynchronizedNavigableSet"), (1, .class_ 269), (0, u "java/util/Collections$SynchronizedRandomAccessList"), (1, .class_ 272), (0, u "java/util/Collections$SynchronizedList"), (5, .class_ 279), (0, u "java/util/Collections$SynchronizedMap"), (1, .class_ 282), (0, u "java/util/Collections$SynchronizedSortedMap"), (1, .class_ 285), (0, u "java/util/Collections$SynchronizedNavigableMap"), (1, .class_ 288), (0, u "java/util/Collections$CheckedCollection"), (11, .class_ 301), (0, u "java/util/Collections$CheckedQueue"), (3, .class_ 306), (0, u "java/util/Collections$CheckedSet"), (3, .class_ 311), (0, u "java/util/Collections$CheckedSortedSet"), (3, .class_ 316), (0, u "java/util/Collections$CheckedNavigableSet"), (3, .class_ 321), (0, u "java/util/Collections$CheckedRandomAccessList"), (3, .class_ 326), (0, u "java/util/Collections$CheckedList"), (1, .class_ 329), (0, u "java/util/Collections$CheckedMap"), (3, .class_ 334), (0, u "java/util/Collections$CheckedSortedMap"), (3, .class_ 339), (0, u "java/util/Collections$CheckedNavigableMap"), (4, .class_ 346), (1, u "java/util/Collections$EmptyIterator"), (3, .class_ 352), (1, u "java/util/Collections$EmptyListIterator"), (2, .class_ 357), (1, u "java/util/Collections$EmptyEnumeration"), (4, u "EMPTY_SET"), (0, u "Ljava/util/Set;"), (6, u "EMPTY_LIST"), (0, u "Ljava/util/List;"), (2, u "EMPTY_MAP"), (0, u "Ljava/util/Map;"), (4, .class_ 381), (0, u "java/util/Collections$SingletonSet"), (2, .class_ 385), (0, u "java/util/Collections$1"), (1, .class_ 388), (0, u "java/util/Collections$2"), (1, .class_ 391), (0, u "java/util/Collections$SingletonList"), (1, .class_ 394), (0, u "java/util/Collections$SingletonMap"), (22, .class_ 418), (0, u "java/util/Collections$CopiesList"), (4, .class_ 425), (1, u "java/util/Collections$ReverseComparator"), (8, .class_ 435), (0, u "java/util/Collections$ReverseComparator2"), (6, .class_ 443), (0, u "java/util/Collections$3"), (25, .class_ 470), (0, u "java/util/Collections$SetFromMap"), (2, .class_ 474), (0, u "java/util/Collections$SequencedSetFromMap"), (3, .class_ 479), (0, u "java/util/Collections$AsLIFOQueue"), (11, .class_ 492), (0, u "java/util/Collections$EmptySet"), (1, .class_ 495), (0, u "java/util/Collections$EmptyList"), (1, .class_ 498), (0, u "java/util/Collections$EmptyMap"), (1, u "BINARYSEARCH_THRESHOLD"), (0, u "I"), (2, u "REVERSE_THRESHOLD"), (1, u "SHUFFLE_THRESHOLD"), (1, u "FILL_THRESHOLD"), (1, u "ROTATE_THRESHOLD"), (1, u "COPY_THRESHOLD"), (1, u "REPLACEALL_THRESHOLD"), (1, u "INDEXOFSUBLIST_THRESHOLD"), (333, .class_ 851), (0, u "java/util/Collections$CheckedMap$CheckedEntrySet"), (0, .class_ 853), (0, u "java/util/Collections$CheckedMap$CheckedEntrySet$CheckedEntry"), (0, .class_ 855), (0, u "java/util/Collections$CheckedMap$CheckedEntrySet$1"), (0, .class_ 857), (0, u "java/util/Collections$CheckedList$1"), (0, .class_ 859), (0, u "java/util/Collections$CheckedCollection$1"), (0, .class_ 861), (0, u "java/util/Collections$UnmodifiableNavigableMap$EmptyNavigableMap"), (0, .class_ 863), (0, u "java/util/Collections$UnmodifiableMap$UnmodifiableEntrySet"), (0, .class_ 865), (0, u "java/util/Collections$UnmodifiableMap$UnmodifiableEntrySet$UnmodifiableEntry"), (0, .class_ 867), (0, u "java/util/Collections$UnmodifiableMap$UnmodifiableEntrySet$UnmodifiableEntrySetSpliterator"), (0, .class_ 869), (0, u "java/util/Collections$UnmodifiableMap$UnmodifiableEntrySet$1"), (0, .class_ 871), (0, u "java/util/Collections$UnmodifiableList$1"), (0, .class_ 873), (0, u "java/util/Collections$UnmodifiableNavigableSet$EmptyNavigableSet"), (0, .class_ 875), (0, u "java/util/Collections$UnmodifiableCollection$1")] 57

def k17m0 : Method := { name := "<init>", desc := "()V", sig := { parameters := [], returnType := none }, accessFlags := 2, code := none }
/-- java/util/Collections -/
def k17 : Class := { plain "java/util/Collections" (some 0) with
  accessFlags := 33
  interfaces := #[]
  cf := some (fileOf pool17 19 #[.nestMembers #[478, 473, 469, 434, 423, 417, 393, 390, 380, 497, 494, 491, 355, 350, 344, 338, 333, 328, 850, 852, 854, 320, 325, 856, 315, 310, 305, 300, 287, 858, 284, 281, 278, 268, 271, 265, 262, 256, 250, 245, 860, 237, 231, 223, 862, 864, 866, 868, 215, 212, 870, 206, 872, 198, 190, 182, 174, 166, 874, 442, 387, 384]] #[{ accessFlags := 2, nameIndex := 5, descriptorIndex := 6, attributes := #[] }] 33 2 #[] #[{ accessFlags := 26, nameIndex := 500, descriptorIndex := 501, attributes := #[] }, { accessFlags := 26, nameIndex := 504, descriptorIndex := 501, attributes := #[] }, { accessFlags := 26, nameIndex := 506, descriptorIndex := 501, attributes := #[] }, { accessFlags := 26, nameIndex := 508, descriptorIndex := 501, attributes := #[] }, { accessFlags := 26, nameIndex := 510, descriptorIndex := 501, attributes := #[] }, { accessFlags := 26, nameIndex := 512, descriptorIndex := 501, attributes := #[] }, { accessFlags := 26, nameIndex := 514, descriptorIndex := 501, attributes := #[] }, { accessFlags := 26, nameIndex := 516, descriptorIndex := 501, attributes := #[] }, { accessFlags := 10, nameIndex := 84, descriptorIndex := 85, attributes := #[] }, { accessFlags := 25, nameIndex := 362, descriptorIndex := 363, attributes := #[] }, { accessFlags := 25, nameIndex := 370, descriptorIndex := 371, attributes := #[] }, { accessFlags := 25, nameIndex := 374, descriptorIndex := 375, attributes := #[] }])
  fields := #[{ name := "BINARYSEARCH_THRESHOLD", type := .int, accessFlags := 26, slot := 0, constantValue := 0 }, { name := "REVERSE_THRESHOLD", type := .int, accessFlags := 26, slot := 1, constantValue := 0 }, { name := "SHUFFLE_THRESHOLD", type := .int, accessFlags := 26, slot := 2, constantValue := 0 }, { name := "FILL_THRESHOLD", type := .int, accessFlags := 26, slot := 3, constantValue := 0 }, { name := "ROTATE_THRESHOLD", type := .int, accessFlags := 26, slot := 4, constantValue := 0 }, { name := "COPY_THRESHOLD", type := .int, accessFlags := 26, slot := 5, constantValue := 0 }, { name := "REPLACEALL_THRESHOLD", type := .int, accessFlags := 26, slot := 6, constantValue := 0 }, { name := "INDEXOFSUBLIST_THRESHOLD", type := .int, accessFlags := 26, slot := 7, constantValue := 0 }, { name := "r", type := (.object "java/util/Random"), accessFlags := 10, slot := 8, constantValue := 0 }, { name := "EMPTY_SET", type := (.object "java/util/Set"), accessFlags := 25, slot := 9, constantValue := 0 }, { name := "EMPTY_LIST", type := (.object "java/util/List"), accessFlags := 25, slot := 10, constantValue := 0 }, { name := "EMPTY_MAP", type := (.object "java/util/Map"), accessFlags := 25, slot := 11, constantValue := 0 }]
  methods := #[k17m0]
  instanceTypes := #[]
  staticTypes := #[.int, .int, .int, .int, .int, .int, .int, .int, (.object "java/util/Random"), (.object "java/util/Set"), (.object "java/util/List"), (.object "java/util/Map")]
  resolved := Array.replicate 933 none
  statics := some 4 }

def pool18 : Array CpInfo := pool [(8, .class_ 10), (1, u "java/lang/Iterable"), (24, .class_ 36), (0, u "java/lang/Object")] 25

/-- java/lang/Iterable -/
def k18 : Class := { plain "java/lang/Iterable" (some 0) with
  accessFlags := 1537
  interfaces := #[]
  cf := some (fileOf pool18 8 #[] #[] 1537 35 #[] #[])
  fields := #[]
  methods := #[]
  instanceTypes := #[]
  staticTypes := #[]
  resolved := Array.replicate 62 none
  statics := none }

def pool19 : Array CpInfo := pool [(10, .class_ 12), (1, u "java/util/Collection"), (47, .class_ 61), (0, u "java/lang/Object"), (0, .class_ 63), (0, u "java/lang/Iterable")] 51

/-- java/util/Collection -/
def k19 : Class := { plain "java/util/Collection" (some 0) with
  accessFlags := 1537
  interfaces := #[18]
  cf := some (fileOf pool19 10 #[] #[] 1537 60 #[62] #[])
  fields := #[]
  methods := #[]
  instanceTypes := #[]
  staticTypes := #[]
  resolved := Array.replicate 115 none
  statics := none }

def pool20 : Array CpInfo := pool [(2, .class_ 4), (1, u "java/lang/Object"), (0, u "<init>"), (0, u "()V"), (1, .class_ 10), (1, u "java/util/AbstractCollection"), (66, .class_ 78), (0, u "java/util/Collection")] 81

def k20m0 : Method := { name := "<init>", desc := "()V", sig := { parameters := [], returnType := none }, accessFlags := 4, code := none }
/-- java/util/AbstractCollection -/
def k20 : Class := { plain "java/util/AbstractCollection" (some 0) with
  accessFlags := 1057
  interfaces := #[19]
  cf := some (fileOf pool20 8 #[] #[{ accessFlags := 4, nameIndex := 5, descriptorIndex := 6, attributes := #[] }] 1057 2 #[77] #[])
  fields := #[]
  methods := #[k20m0]
  instanceTypes := #[]
  staticTypes := #[]
  resolved := Array.replicate 160 none
  statics := none }

def pool21 : Array CpInfo := pool [(8, .class_ 10), (1, u "java/util/SequencedCollection"), (15, .class_ 27), (0, u "java/lang/Object"), (0, .class_ 29), (0, u "java/util/Collection")] 27

/-- java/util/SequencedCollection -/
def k21 : Class := { plain "java/util/SequencedCollection" (some 0) with
  accessFlags := 1537
  interfaces := #[19]
  cf := some (fileOf pool21 8 #[] #[] 1537 26 #[28] #[])
  fields := #[]
  methods := #[]
  instanceTypes := #[]
  staticTypes := #[]
  resolved := Array.replicate 57 none
  statics := none }

def pool22 : Array CpInfo := pool [(8, .class_ 10), (1, u "java/util/List"), (92, .class_ 104), (0, u "java/lang/Object"), (15, .class_ 121), (0, u "java/util/SequencedCollection")] 129

/-- java/util/List -/
def k22 : Class := { plain "java/util/List" (some 0) with
  accessFlags := 1537
  interfaces := #[21]
  cf := some (fileOf pool22 8 #[] #[] 1537 103 #[120] #[])
  fields := #[]
  methods := #[]
  instanceTypes := #[]
  staticTypes := #[]
  resolved := Array.replicate 251 none
  statics := none }

def pool23 : Array CpInfo := pool [(2, .class_ 4), (1, u "java/util/AbstractCollection"), (0, u "<init>"), (0, u "()V"), (1, .class_ 10), (1, u "java/util/AbstractList"), (0, u "modCount"), (0, u "I"), (64, .class_ 78), (0, u "java/util/AbstractList$Itr"), (3, .class_ 83), (0, u "java/util/AbstractList$ListItr"), (9, .class_ 94), (0, u "java/util/AbstractList$RandomAccessSubList"), (3, .class_ 99), (0, u "java/util/AbstractList$SubList"), (33, .class_ 134), (0, u "java/util/List"), (73, .class_ 209), (0, u "java/util/AbstractList$SubList$1"), (0, .class_ 211), (0, u "java/util/AbstractList$RandomAccessSpliterator")] 6

def k23m0 : Method := { name := "<init>", desc := "()V", sig := { parameters := [], returnType := none }, accessFlags := 4, code := none }
/-- java/util/AbstractList -/
def k23 : Class := { plain "java/util/AbstractList" (some 20) with
  accessFlags := 1057
  interfaces := #[22]
  cf := some (fileOf pool23 8 #[.nestMembers #[93, 98, 208, 210, 82, 77]] #[{ accessFlags := 4, nameIndex := 5, descriptorIndex := 6, attributes := #[] }] 1057 2 #[133] #[{ accessFlags := 132, nameIndex := 11, descriptorIndex := 12, attributes := #[] }])
  fields := #[{ name := "modCount", type := .int, accessFlags := 132, slot := 0, constantValue := 0 }]
  methods := #[k23m0]
  instanceTypes := #[.int]
  staticTypes := #[]
  resolved := Array.replicate 218 none
  statics := none }

def pool24 : Array CpInfo := pool [(1, .class_ 2), (0, u "java/util/RandomAccess"), (0, .class_ 4), (0, u "java/lang/Object")] 2

/-- java/util/RandomAccess -/
def k24 : Class := { plain "java/util/RandomAccess" (some 0) with
  accessFlags := 1537
  interfaces := #[]
  cf := some (fileOf pool24 1 #[] #[] 1537 3 #[] #[])
  fields := #[]
  methods := #[]
  instanceTypes := #[]
  staticTypes := #[]
  resolved := Array.replicate 7 none
  statics := none }

def pool25 : Array CpInfo := pool [(2, .class_ 4), (1, u "java/util/AbstractList"), (0, u "<init>"), (0, u "()V"), (1, .class_ 10), (1, u "java/util/Collections"), (54, .class_ 66), (0, u "java/util/Collections$EmptyList"), (0, .class_ 68), (0, u "java/util/RandomAccess"), (0, .class_ 70), (0, u "java/io/Serializable"), (0, u "serialVersionUID"), (0, u "J")] 77

def k25m0 : Method := { name := "<init>", desc := "()V", sig := { parameters := [], returnType := none }, accessFlags := 2, code := none }
/-- java/util/Collections$EmptyList -/
def k25 : Class := { plain "java/util/Collections$EmptyList" (some 23) with
  accessFlags := 32
  interfaces := #[24, 2]
  cf := some (fileOf pool25 65 #[.nestHost 8] #[{ accessFlags := 2, nameIndex := 5, descriptorIndex := 6, attributes := #[] }] 32 2 #[67, 69] #[{ accessFlags := 26, nameIndex := 71, descriptorIndex := 72, attributes := #[] }])
  fields := #[{ name := "serialVersionUID", type := .long, accessFlags := 26, slot := 0, constantValue := 0 }]
  methods := #[k25m0]
  instanceTypes := #[.int]
  staticTypes := #[.long]
  resolved := Array.replicate 150 none
  statics := none }

def pool26 : Array CpInfo := pool [(2, .class_ 4), (1, u "java/lang/StackTraceElement"), (0, u "<init>"), (2, .class_ 10), (1, u "java/lang/Object"), (0, u "()V"), (2, u "format"), (0, u "B"), (2, u "classLoaderName"), (0, u "Ljava/lang/String;"), (2, u "moduleName"), (2, u "moduleVersion"), (12, u "declaringClass"), (4, u "methodName"), (2, u "fileName"), (2, u "lineNumber"), (0, u "I"), (65, u "declaringClassObject"), (0, u "Ljava/lang/Class;"), (33, .class_ 153), (1, u "java/lang/StackTraceElement$HashedModules"), (17, .class_ 172), (0, u "java/io/Serializable"), (0, u "NATIVE_METHOD"), (1, u "UNKNOWN_SOURCE"), (2, u "BUILTIN_CLASS_LOADER"), (1, u "JDK_NON_UPGRADEABLE_MODULE"), (1, u "serialVersionUID"), (0, u "J")] 51

def k26m0 : Method := { name := "<init>", desc := "()V", sig := { parameters := [], returnType := none }, accessFlags := 2, code := none }
/-- java/lang/StackTraceElement -/
def k26 : Class := { plain "java/lang/StackTraceElement" (some 0) with
  accessFlags := 49
  interfaces := #[2]
  cf := some (fileOf pool26 2 #[.nestMembers #[151]] #[{ accessFlags := 2, nameIndex := 5, descriptorIndex := 11, attributes := #[] }] 49 8 #[171] #[{ accessFlags := 26, nameIndex := 173, descriptorIndex := 19, attributes := #[] }, { accessFlags := 26, nameIndex := 175, descriptorIndex := 19, attributes := #[] }, { accessFlags := 130, nameIndex := 116, descriptorIndex := 117, attributes := #[] }, { accessFlags := 2, nameIndex := 18, descriptorIndex := 19, attributes := #[] }, { accessFlags := 2, nameIndex := 22, descriptorIndex := 19, attributes := #[] }, { accessFlags := 2, nameIndex := 25, descriptorIndex := 19, attributes := #[] }, { accessFlags := 2, nameIndex := 38, descriptorIndex := 19, attributes := #[] }, { accessFlags := 2, nameIndex := 43, descriptorIndex := 19, attributes := #[] }, { accessFlags := 2, nameIndex := 46, descriptorIndex := 19, attributes := #[] }, { accessFlags := 2, nameIndex := 49, descriptorIndex := 50, attributes := #[] }, { accessFlags := 2, nameIndex := 14, descriptorIndex := 15, attributes := #[] }, { accessFlags := 26, nameIndex := 178, descriptorIndex := 15, attributes := #[] }, { accessFlags := 26, nameIndex := 180, descriptorIndex := 15, attributes := #[] }, { accessFlags := 26, nameIndex := 182, descriptorIndex := 183, attributes := #[] }])
  fields := #[{ name := "NATIVE_METHOD", type := (.object "java/lang/String"), accessFlags := 26, slot := 0, constantValue := 0 }, { name := "UNKNOWN_SOURCE", type := (.object "java/lang/String"), accessFlags := 26, slot := 1, constantValue := 0 }, { name := "declaringClassObject", type := (.object "java/lang/Class"), accessFlags := 130, slot := 0, constantValue := 0 }, { name := "classLoaderName", type := (.object "java/lang/String"), accessFlags := 2, slot := 1, constantValue := 0 }, { name := "moduleName", type := (.object "java/lang/String"), accessFlags := 2, slot := 2, constantValue := 0 }, { name := "moduleVersion", type := (.object "java/lang/String"), accessFlags := 2, slot := 3, constantValue := 0 }, { name := "declaringClass", type := (.object "java/lang/String"), accessFlags := 2, slot := 4, constantValue := 0 }, { name := "methodName", type := (.object "java/lang/String"), accessFlags := 2, slot := 5, constantValue := 0 }, { name := "fileName", type := (.object "java/lang/String"), accessFlags := 2, slot := 6, constantValue := 0 }, { name := "lineNumber", type := .int, accessFlags := 2, slot := 7, constantValue := 0 }, { name := "format", type := .byte, accessFlags := 2, slot := 8, constantValue := 0 }, { name := "BUILTIN_CLASS_LOADER", type := .byte, accessFlags := 26, slot := 2, constantValue := 0 }, { name := "JDK_NON_UPGRADEABLE_MODULE", type := .byte, accessFlags := 26, slot := 3, constantValue := 0 }, { name := "serialVersionUID", type := .long, accessFlags := 26, slot := 4, constantValue := 0 }]
  methods := #[k26m0]
  instanceTypes := #[(.object "java/lang/Class"), (.object "java/lang/String"), (.object "java/lang/String"), (.object "java/lang/String"), (.object "java/lang/String"), (.object "java/lang/String"), (.object "java/lang/String"), .int, .byte]
  staticTypes := #[(.object "java/lang/String"), (.object "java/lang/String"), .byte, .byte, .long]
  resolved := Array.replicate 235 none
  statics := none }

def pool27 : Array CpInfo := pool [(1, u "java/lang/Cloneable"), (0, .class_ 1), (0, u "java/lang/Object"), (0, .class_ 3)] 3

/-- java/lang/Cloneable -/
def k27 : Class := { plain "java/lang/Cloneable" (some 0) with
  accessFlags := 1537
  interfaces := #[]
  cf := some (fileOf pool27 2 #[] #[] 1537 4 #[] #[])
  fields := #[]
  methods := #[]
  instanceTypes := #[]
  staticTypes := #[]
  resolved := Array.replicate 8 none
  statics := none }

/-- the primitive byte -/
def k28 : Class := { plain "byte" none with kind := .primitive 'B', accessFlags := 0x411 }
/-- [B -/
def k29 : Class := { plain "[B" (some 0) with kind := .array 28 .byte, interfaces := #[27, 2], accessFlags := 1041 }

/-- the primitive char -/
def k30 : Class := { plain "char" none with kind := .primitive 'C', accessFlags := 0x411 }
/-- [C -/
def k31 : Class := { plain "[C" (some 0) with kind := .array 30 .char, interfaces := #[27, 2], accessFlags := 1041 }

/-- the primitive int -/
def k32 : Class := { plain "int" none with kind := .primitive 'I', accessFlags := 0x411 }
/-- [I -/
def k33 : Class := { plain "[I" (some 0) with kind := .array 32 .int, interfaces := #[27, 2], accessFlags := 1041 }

/-- [Ljava/lang/Object; -/
def k34 : Class := { plain "[Ljava/lang/Object;" (some 0) with kind := .array 0 (.object "java/lang/Object"), interfaces := #[27, 2], accessFlags := 1041 }

/-- [Ljava/lang/StackTraceElement; -/
def k35 : Class := { plain "[Ljava/lang/StackTraceElement;" (some 0) with kind := .array 26 (.object "java/lang/StackTraceElement"), interfaces := #[27, 2], accessFlags := 1041 }

/-- [Ljava/lang/Throwable; -/
def k36 : Class := { plain "[Ljava/lang/Throwable;" (some 0) with kind := .array 9 (.object "java/lang/Throwable"), interfaces := #[27, 2], accessFlags := 1041 }

def heap : Heap := #[{ cls := 7, slots := #[.long 0, .int 1, .null, .int 0, .null, .int 0, .int 0], vm := .statics 7 },
  { cls := 9, slots := #[.long 0, .ref 6, .ref 7, .null, .null, .null, .null, .ref 8, .int 1], vm := .statics 9 },
  { cls := 13, slots := #[.null, .null, .null, .ref 5, .null, .null, .null, .null], vm := .statics 13 },
  { cls := 15, slots := #[.null, .null, .null], vm := .statics 15 },
  { cls := 17, slots := #[.int 0, .int 0, .int 0, .int 0, .int 0, .int 0, .int 0, .int 0, .null, .null, .ref 7, .null], vm := .statics 17 },
  { cls := 13, slots := #[.null, .int 1, .int 0, .int 409], vm := .none },
  { cls := 35, slots := #[], vm := .none },
  { cls := 25, slots := #[.int 0], vm := .none },
  { cls := 36, slots := #[], vm := .none }]
def classes : Array Class := #[k0, k1, k2, k3, k4, k5, k6, k7, k8, k9, k10, k11, k12, k13, k14, k15, k16, k17, k18, k19, k20, k21, k22, k23, k24, k25, k26, k27, k28, k29, k30, k31, k32, k33, k34, k35, k36]
def interned : List (Array UInt16 × Addr) := []
def slotsUsed : Nat := 44
def theMethod : MethodId := ⟨1, 1⟩
def args0 : Array Value := #[.int 3, .int 5, .int 300, .int 2]
def aboutOver (below : List Frame) : State where
  vm := { classes := classes, interned := interned.toArray }
  heap := heap
  slotsUsed := slotsUsed
  threads := #[{ frames := .invoking theMethod args0 :: below }]
def below0 : List Frame := [.native { method := ⟨0, 0⟩, args := #[] }]
def about1 : State := aboutOver below0
def p0 : Program := .bare "" "" ""
def e0 : Env := launch0.env 0 0 0
theorem w_frames : about1.frames = Frame.invoking theMethod args0 :: below0 := rfl
set_option maxRecDepth 65536 in
theorem w_args : argsFit about1.vm theMethod args0 = true := by decide +kernel
set_option maxRecDepth 65536 in
theorem w_heap : heapFits about1 = true := by decide +kernel
set_option maxRecDepth 65536 in
theorem w_runnable : about1.curStatus? = some .runnable := by decide +kernel
set_option maxRecDepth 65536 in
theorem w_alone : about1.alone = true := by decide +kernel
set_option maxRecDepth 65536 in
theorem w_named : about1.methodNamed? x = some theMethod := by decide +kernel
set_option maxRecDepth 65536 in
theorem w_hears : about1.hears theMethod below0 = true := by decide +kernel
set_option maxRecDepth 65536 in
theorem w_ripe : about1.ripe theMethod args0 below0 = true := by decide +kernel
theorem w_running : about1.status = .running := rfl
set_option maxRecDepth 65536 in
theorem w_room : about1.hasRoom e0.platform room_1 = true :=
  launch0.hasRoom_least _ room_1 (by decide +kernel) (by decide +kernel) (by decide +kernel) (by decide +kernel) (by decide +kernel) (by decide +kernel)
theorem allAtoms_all (ts : List Jvm.Cond) (a : Array Jvm.Value) (st : Jvm.State) : (allAtoms ts).before a st = ts.all (fun c => c.before a st) := by
  induction ts with
  | nil => rfl
  | cons c t ih =>
    show (Jvm.Cond.and c (allAtoms t)).before a st = _
    rw [Jvm.Cond.before_and, ih, List.all_cons]
def words1 : List Jvm.Cond := Jvm.Cond.code x code maxLocals ret :: tables_1
/-- a 'code' word, met by the world's own term for the bytes: nothing is compared byte by byte -/
theorem code_word {y : MethodName} {bytes : ByteArray} {mx : Nat} {rt : Option FieldType} {a : Array Value} {s : State} {m : MethodId} {meth : Method} {c : Code} (h1 : s.methodNamed? y = some m) (h2 : s.vm.method? m = some meth) (h3 : meth.code = some c) (h4 : c.code = bytes)
    (h5 : (c.maxLocals == mx && c.exceptionTable.isEmpty && decide (c.maxStack ≤ mostOperands) && decide (meth.sig.returnType = rt) && !meth.locks && decide (parseMethodDescriptor y.desc = some meth.sig)) = true) : (Jvm.Cond.code y bytes mx rt).before a s = true := by
  simp only [Bool.and_eq_true, beq_iff_eq, Bool.not_eq_true', decide_eq_true_eq] at h5
  obtain ⟨⟨⟨⟨⟨g1, g2⟩, g3⟩, g4⟩, g5⟩, g6⟩ := h5
  simp [Cond.before, Cond.holds, Cond.value, h1, h2, h3, h4, g1, g2, g3, g4, g5, g6]
def isCode : Jvm.Cond → Bool
  | .code _ _ _ _ => true
  | _ => false
theorem all_split {L : List Jvm.Cond} {P : Jvm.Cond → Bool} (h1 : L.all (fun c => isCode c || P c) = true) (h2 : ∀ c ∈ L.filter isCode, P c = true) : L.all P = true := by
  refine List.all_eq_true.mpr fun c hc => ?_
  have h := List.all_eq_true.mp h1 c hc
  rcases Bool.eq_false_or_eq_true (isCode c) with hi | hi
  · exact h2 c (List.mem_filter.mpr ⟨hc, hi⟩)
  · simpa [hi] using h
set_option maxRecDepth 65536 in
theorem w_c0 : (Jvm.Cond.code x code maxLocals ret).before args0 about1 = true := code_word (m := ⟨1, 1⟩) (meth := k1m1) (c := k1c1) (by decide +kernel) rfl rfl rfl (by decide +kernel)
set_option maxRecDepth 65536 in
theorem w_c1 : (Jvm.Cond.code ({ cls := "com/example/manque/manque/DeclinedConflictPinLaw", name := "draw", desc := "(IIII)Ljava/lang/String;" } : Jvm.MethodName) method_3_code (8 : Nat) (Option.some (Jvm.ClassFile.FieldType.object "java/lang/String"))).before args0 about1 = true := code_word (m := ⟨1, 2⟩) (meth := k1m2) (c := k1c2) (by decide +kernel) rfl rfl rfl (by decide +kernel)
set_option maxRecDepth 65536 in
theorem w_c2 : (Jvm.Cond.code ({ cls := "java/lang/String", name := "<init>", desc := "([C)V" } : Jvm.MethodName) jdk_42_method_3_code (2 : Nat) (Option.none : Option Jvm.ClassFile.FieldType)).before args0 about1 = true := code_word (m := ⟨7, 1⟩) (meth := k7m1) (c := k7c1) (by decide +kernel) rfl rfl rfl (by decide +kernel)
set_option maxRecDepth 65536 in
theorem w_c3 : (Jvm.Cond.code ({ cls := "java/lang/String", name := "<init>", desc := "([CIILjava/lang/Void;)V" } : Jvm.MethodName) jdk_42_method_149_code (6 : Nat) (Option.none : Option Jvm.ClassFile.FieldType)).before args0 about1 = true := code_word (m := ⟨7, 3⟩) (meth := k7m3) (c := k7c3) (by decide +kernel) rfl rfl rfl (by decide +kernel)
set_option maxRecDepth 65536 in
theorem w_c4 : (Jvm.Cond.code ({ cls := "java/lang/Object", name := "<init>", desc := "()V" } : Jvm.MethodName) object_method_1_code (1 : Nat) (Option.none : Option Jvm.ClassFile.FieldType)).before args0 about1 = true := code_word (m := ⟨0, 0⟩) (meth := k0m0) (c := k0c0) (by decide +kernel) rfl rfl rfl (by decide +kernel)
set_option maxRecDepth 65536 in
theorem w_c5 : (Jvm.Cond.code ({ cls := "java/lang/StringUTF16", name := "compress", desc := "([CII)[B" } : Jvm.MethodName) jdk_52_method_16_code (6 : Nat) (Option.some (Jvm.ClassFile.FieldType.array Jvm.ClassFile.FieldType.byte))).before args0 about1 = true := code_word (m := ⟨8, 2⟩) (meth := k8m2) (c := k8c2) (by decide +kernel) rfl rfl rfl (by decide +kernel)
set_option maxRecDepth 65536 in
theorem w_c6 : (Jvm.Cond.code ({ cls := "java/lang/StringUTF16", name := "compress", desc := "([CI[BII)I" } : Jvm.MethodName) jdk_52_method_21_code (7 : Nat) (Option.some Jvm.ClassFile.FieldType.int)).before args0 about1 = true := code_word (m := ⟨8, 3⟩) (meth := k8m3) (c := k8c3) (by decide +kernel) rfl rfl rfl (by decide +kernel)
set_option maxRecDepth 65536 in
theorem w_c7 : (Jvm.Cond.code ({ cls := "java/lang/StringUTF16", name := "coderFromArrayLen", desc := "([BI)B" } : Jvm.MethodName) jdk_52_method_15_code (2 : Nat) (Option.some Jvm.ClassFile.FieldType.byte)).before args0 about1 = true := code_word (m := ⟨8, 1⟩) (meth := k8m1) (c := k8c1) (by decide +kernel) rfl rfl rfl (by decide +kernel)
set_option maxRecDepth 65536 in
theorem w_c8 : (Jvm.Cond.code ({ cls := "com/example/manque/manque/Declined", name := "conflict", desc := "(Ljava/lang/String;)Lcom/example/manque/manque/Declined;" } : Jvm.MethodName) prog_1_method_3_code (1 : Nat) (Option.some (Jvm.ClassFile.FieldType.object "com/example/manque/manque/Declined"))).before args0 about1 = true := code_word (m := ⟨11, 1⟩) (meth := k11m1) (c := k11c1) (by decide +kernel) rfl rfl rfl (by decide +kernel)
set_option maxRecDepth 65536 in
theorem w_c9 : (Jvm.Cond.code ({ cls := "com/example/manque/manque/Declined", name := "<init>", desc := "(Lcom/example/manque/manque/Declined$Kind;Ljava/lang/String;)V" } : Jvm.MethodName) prog_1_method_1_code (3 : Nat) (Option.none : Option Jvm.ClassFile.FieldType)).before args0 about1 = true := code_word (m := ⟨11, 0⟩) (meth := k11m0) (c := k11c0) (by decide +kernel) rfl rfl rfl (by decide +kernel)
set_option maxRecDepth 65536 in
theorem w_c10 : (Jvm.Cond.code ({ cls := "java/lang/Exception", name := "<init>", desc := "(Ljava/lang/String;)V" } : Jvm.MethodName) jdk_59_method_2_code (2 : Nat) (Option.none : Option Jvm.ClassFile.FieldType)).before args0 about1 = true := code_word (m := ⟨10, 1⟩) (meth := k10m1) (c := k10c1) (by decide +kernel) rfl rfl rfl (by decide +kernel)
set_option maxRecDepth 65536 in
theorem w_c11 : (Jvm.Cond.code ({ cls := "java/lang/Throwable", name := "<init>", desc := "(Ljava/lang/String;)V" } : Jvm.MethodName) jdk_78_method_2_code (2 : Nat) (Option.none : Option Jvm.ClassFile.FieldType)).before args0 about1 = true := code_word (m := ⟨9, 1⟩) (meth := k9m1) (c := k9c1) (by decide +kernel) rfl rfl rfl (by decide +kernel)
set_option maxRecDepth 65536 in
theorem w_c12 : (Jvm.Cond.code ({ cls := "java/lang/Throwable", name := "<init>", desc := "()V" } : Jvm.MethodName) jdk_78_method_1_code (1 : Nat) (Option.none : Option Jvm.ClassFile.FieldType)).before args0 about1 = true := code_word (m := ⟨9, 0⟩) (meth := k9m0) (c := k9c0) (by decide +kernel) rfl rfl rfl (by decide +kernel)
set_option maxRecDepth 65536 in
theorem w_c13 : (Jvm.Cond.code ({ cls := "com/example/manque/manque/Declined", name := "kind", desc := "()Lcom/example/manque/manque/Declined$Kind;" } : Jvm.MethodName) prog_1_method_5_code (1 : Nat) (Option.some (Jvm.ClassFile.FieldType.object "com/example/manque/manque/Declined$Kind"))).before args0 about1 = true := code_word (m := ⟨11, 2⟩) (meth := k11m2) (c := k11c2) (by decide +kernel) rfl rfl rfl (by decide +kernel)
set_option maxRecDepth 65536 in
theorem w_c14 : (Jvm.Cond.code ({ cls := "java/lang/Throwable", name := "getMessage", desc := "()Ljava/lang/String;" } : Jvm.MethodName) jdk_78_method_6_code (1 : Nat) (Option.some (Jvm.ClassFile.FieldType.object "java/lang/String"))).before args0 about1 = true := code_word (m := ⟨9, 2⟩) (meth := k9m2) (c := k9c2) (by decide +kernel) rfl rfl rfl (by decide +kernel)
set_option maxRecDepth 65536 in
theorem w_c15 : (Jvm.Cond.code ({ cls := "java/lang/String", name := "equals", desc := "(Ljava/lang/Object;)Z" } : Jvm.MethodName) jdk_42_method_66_code (3 : Nat) (Option.some Jvm.ClassFile.FieldType.boolean)).before args0 about1 = true := code_word (m := ⟨7, 2⟩) (meth := k7m2) (c := k7c2) (by decide +kernel) rfl rfl rfl (by decide +kernel)
set_option maxRecDepth 65536 in
theorem w_c16 : (Jvm.Cond.code ({ cls := "com/example/manque/manque/Declined$Kind", name := "status", desc := "()I" } : Jvm.MethodName) prog_2_method_4_code (1 : Nat) (Option.some Jvm.ClassFile.FieldType.int)).before args0 about1 = true := code_word (m := ⟨13, 0⟩) (meth := k13m0) (c := k13c0) (by decide +kernel) rfl rfl rfl (by decide +kernel)
def codes1 : List Jvm.Cond := [Jvm.Cond.code x code maxLocals ret, Jvm.Cond.code ({ cls := "com/example/manque/manque/DeclinedConflictPinLaw", name := "draw", desc := "(IIII)Ljava/lang/String;" } : Jvm.MethodName) method_3_code (8 : Nat) (Option.some (Jvm.ClassFile.FieldType.object "java/lang/String")), Jvm.Cond.code ({ cls := "java/lang/String", name := "<init>", desc := "([C)V" } : Jvm.MethodName) jdk_42_method_3_code (2 : Nat) (Option.none : Option Jvm.ClassFile.FieldType), Jvm.Cond.code ({ cls := "java/lang/String", name := "<init>", desc := "([CIILjava/lang/Void;)V" } : Jvm.MethodName) jdk_42_method_149_code (6 : Nat) (Option.none : Option Jvm.ClassFile.FieldType), Jvm.Cond.code ({ cls := "java/lang/Object", name := "<init>", desc := "()V" } : Jvm.MethodName) object_method_1_code (1 : Nat) (Option.none : Option Jvm.ClassFile.FieldType), Jvm.Cond.code ({ cls := "java/lang/StringUTF16", name := "compress", desc := "([CII)[B" } : Jvm.MethodName) jdk_52_method_16_code (6 : Nat) (Option.some (Jvm.ClassFile.FieldType.array Jvm.ClassFile.FieldType.byte)), Jvm.Cond.code ({ cls := "java/lang/StringUTF16", name := "compress", desc := "([CI[BII)I" } : Jvm.MethodName) jdk_52_method_21_code (7 : Nat) (Option.some Jvm.ClassFile.FieldType.int), Jvm.Cond.code ({ cls := "java/lang/StringUTF16", name := "coderFromArrayLen", desc := "([BI)B" } : Jvm.MethodName) jdk_52_method_15_code (2 : Nat) (Option.some Jvm.ClassFile.FieldType.byte), Jvm.Cond.code ({ cls := "com/example/manque/manque/Declined", name := "conflict", desc := "(Ljava/lang/String;)Lcom/example/manque/manque/Declined;" } : Jvm.MethodName) prog_1_method_3_code (1 : Nat) (Option.some (Jvm.ClassFile.FieldType.object "com/example/manque/manque/Declined")), Jvm.Cond.code ({ cls := "com/example/manque/manque/Declined", name := "<init>", desc := "(Lcom/example/manque/manque/Declined$Kind;Ljava/lang/String;)V" } : Jvm.MethodName) prog_1_method_1_code (3 : Nat) (Option.none : Option Jvm.ClassFile.FieldType), Jvm.Cond.code ({ cls := "java/lang/Exception", name := "<init>", desc := "(Ljava/lang/String;)V" } : Jvm.MethodName) jdk_59_method_2_code (2 : Nat) (Option.none : Option Jvm.ClassFile.FieldType), Jvm.Cond.code ({ cls := "java/lang/Throwable", name := "<init>", desc := "(Ljava/lang/String;)V" } : Jvm.MethodName) jdk_78_method_2_code (2 : Nat) (Option.none : Option Jvm.ClassFile.FieldType), Jvm.Cond.code ({ cls := "java/lang/Throwable", name := "<init>", desc := "()V" } : Jvm.MethodName) jdk_78_method_1_code (1 : Nat) (Option.none : Option Jvm.ClassFile.FieldType), Jvm.Cond.code ({ cls := "com/example/manque/manque/Declined", name := "kind", desc := "()Lcom/example/manque/manque/Declined$Kind;" } : Jvm.MethodName) prog_1_method_5_code (1 : Nat) (Option.some (Jvm.ClassFile.FieldType.object "com/example/manque/manque/Declined$Kind")), Jvm.Cond.code ({ cls := "java/lang/Throwable", name := "getMessage", desc := "()Ljava/lang/String;" } : Jvm.MethodName) jdk_78_method_6_code (1 : Nat) (Option.some (Jvm.ClassFile.FieldType.object "java/lang/String")), Jvm.Cond.code ({ cls := "java/lang/String", name := "equals", desc := "(Ljava/lang/Object;)Z" } : Jvm.MethodName) jdk_42_method_66_code (3 : Nat) (Option.some Jvm.ClassFile.FieldType.boolean), Jvm.Cond.code ({ cls := "com/example/manque/manque/Declined$Kind", name := "status", desc := "()I" } : Jvm.MethodName) prog_2_method_4_code (1 : Nat) (Option.some Jvm.ClassFile.FieldType.int)]
set_option maxRecDepth 65536 in
theorem codes_eq : words1.filter isCode = codes1 := rfl
theorem w_codes : ∀ c ∈ words1.filter isCode, c.before args0 about1 = true := by
  rw [codes_eq]
  intro c hc
  simp only [codes1, List.mem_cons, List.not_mem_nil, or_false] at hc
  rcases hc with rfl | rfl | rfl | rfl | rfl | rfl | rfl | rfl | rfl | rfl | rfl | rfl | rfl | rfl | rfl | rfl | rfl
  · exact w_c0
  · exact w_c1
  · exact w_c2
  · exact w_c3
  · exact w_c4
  · exact w_c5
  · exact w_c6
  · exact w_c7
  · exact w_c8
  · exact w_c9
  · exact w_c10
  · exact w_c11
  · exact w_c12
  · exact w_c13
  · exact w_c14
  · exact w_c15
  · exact w_c16
set_option maxRecDepth 65536 in
theorem w_t1 : (words1.take 24).all (fun c => isCode c || c.before args0 about1) = true := by decide +kernel
set_option maxRecDepth 65536 in
theorem w_t2 : ((words1.drop 24).take 24).all (fun c => isCode c || c.before args0 about1) = true := by decide +kernel
set_option maxRecDepth 65536 in
theorem w_t3 : (((words1.drop 24).drop 24).take 24).all (fun c => isCode c || c.before args0 about1) = true := by decide +kernel
set_option maxRecDepth 65536 in
theorem w_t4 : ((((words1.drop 24).drop 24).drop 24).take 24).all (fun c => isCode c || c.before args0 about1) = true := by decide +kernel
set_option maxRecDepth 65536 in
theorem w_t5 : (((((words1.drop 24).drop 24).drop 24).drop 24).take 24).all (fun c => isCode c || c.before args0 about1) = true := by decide +kernel
set_option maxRecDepth 65536 in
theorem w_t6 : (((((words1.drop 24).drop 24).drop 24).drop 24).drop 24).all (fun c => isCode c || c.before args0 about1) = true := by decide +kernel
theorem w_tables : (allAtoms (Jvm.Cond.code x code maxLocals ret :: tables_1)).before args0 about1 = true := by
  rw [allAtoms_all]
  show words1.all (fun c => c.before args0 about1) = true
  refine all_split ?_ w_codes
  rw [← List.take_append_drop 24 words1, List.all_append, w_t1, ← List.take_append_drop 24 (words1.drop 24), List.all_append, w_t2, ← List.take_append_drop 24 ((words1.drop 24).drop 24), List.all_append, w_t3, ← List.take_append_drop 24 (((words1.drop 24).drop 24).drop 24), List.all_append, w_t4, ← List.take_append_drop 24 ((((words1.drop 24).drop 24).drop 24).drop 24), List.all_append, w_t5, w_t6]
  rfl
set_option maxRecDepth 65536 in
theorem w_rest : rest_1_c.before args0 about1 = true := by decide +kernel
set_option maxRecDepth 65536 in
theorem w_case : (Jvm.Cond.and given_1 narrow_1).before args0 about1 = true := by decide +kernel
set_option maxRecDepth 65536 in
theorem w_consts : constsHeld consts_1 about1 := Jvm.Lit.constsHeldB_iff.mp (by decide +kernel)
theorem w_applies : (headSpec (Jvm.Cond.code x code maxLocals ret :: tables_1) room_1).applies x e0.platform about1 = true :=
  (Spec.applies_iff w_frames).mpr ⟨w_running, w_runnable, w_alone, w_named, w_hears, w_ripe, w_room, w_tables⟩
theorem atStart : AtStart classFile x code maxLocals ret World_1 tables_1 room_1 Calls_1 rest_1 Pre_1 launch0 p0 e0 about1 theMethod args0 below0 :=
  ⟨lists_1, trivial, launch0.admits_env _ _ _, launch0.least_env, fairChoices_fair.cas, fairChoices_fair.clock, w_frames, w_args, w_heap, w_applies, ⟨(by decide +kernel : framesKnown about1 = true), ⟨(by decide +kernel : tablesKnown about1 = true), ⟨w_consts, trivial⟩⟩⟩, w_rest, w_case⟩
end start1
theorem witness_1 : WitnessClaimed_1 := ⟨start1.p0, start1.e0, start1.about1, start1.theMethod, start1.args0, start1.below0, start1.atStart⟩
end Jvm.Pilot.@@N@@
