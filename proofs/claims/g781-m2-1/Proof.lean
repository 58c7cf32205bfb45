import JvmDerived
import JvmDerived.Pilot.@@N@@Statement
import JvmDerived.Pilot.@@N@@Code
set_option linter.unusedVariables false
set_option linter.unusedSimpArgs false
namespace Jvm.Pilot.@@N@@
open Jvm Jvm.ClassFile Sem Op Lib Jvm.Free Jvm.Stand Jvm.LawKit Jvm.RoadKit Bundle Jvm.Free.XT Jvm.Pilot.@@N@@.Jvm.D
theorem own_n0 {Z : State} {n0 : Nat} {h : Heap} (X : Old Z n0 h) : n0 ≤ h.size := X.1 ▸ X.2.1
theorem own_lt {a m n : Nat} (h : a < m) (k : m ≤ n) : a < n := Nat.lt_of_lt_of_le h k
theorem own_since0 (s : State) (n : Nat) : s.Since s.vm n := ⟨State.Warmed39.refl s, fun j p hj hp => absurd (Array.getElem?_eq_some_iff.mp hp).1 (Nat.not_lt.mpr hj)⟩
theorem own_narR {v : Value} {t : FieldType} (h : v.isRef = true) : narrow t v = v := by rcases ref_cases h with rfl | ⟨a, rfl⟩ <;> cases t <;> rfl
theorem own_fitR {v : Value} {t : FieldType} (h : v.isRef = true) (ht : t.isReference = true := by rfl) : fits t v = true := by rcases ref_cases h with rfl | ⟨a, rfl⟩ <;> cases t <;> first | rfl | cases ht
theorem own_priv {s : State} {args : Array Value} {y : MethodName} (h : (Jvm.Cond.privateMethod y).before args s = true) : s.PrivateAt y := Cond.privateMethod_at h
abbrev own_CP (l : Launch) (Z : State) (y : MethodName) (bytes : ByteArray) (ml : Nat) (ret : Option FieldType) (ws : List Jvm.Cond) (R : Room) (as' : Array Value) (h0 : Heap) (Q : Option Value → Heap → List Loc → Prop) : Prop :=
  MetFree l y (head1 (Jvm.Cond.code y bytes ml ret :: ws) R) (fun a U => a = as' ∧ Z.Warmed39 U.vm ∧ U.heap = h0) (fun _ _ _ _ _ => True) (fun _ U o U' => ∃ v L, o = .returned v ∧ Q v U'.heap L ∧ FrameEnd U o U' L R.cells R.slots)
theorem own_P {l : Launch} {Z : State} {y : MethodName} {bytes : ByteArray} {ml : Nat} {ret : Option FieldType} {ws : List Jvm.Cond} {R : Room} {as' : Array Value} {h0 : Heap} {Q : Option Value → Heap → List Loc → Prop} (hpl : plainFor y = true)
    (H : ∀ (p : Program) (e : Env) (s : State) (m : MethodId) (below : List Frame) (meth : Method) (c : ClassFile.Code) (s₁ S0 : State), BodyLoose p l y (head1 (Jvm.Cond.code y bytes ml ret :: ws) R) bytes ml ret e s m as' below meth c s₁ → Z.Warmed39 s.vm → s.heap = h0 → p.tables.exec = Jvm.exec → c.code = bytes → c.maxLocals = ml → s.vm.findClass y.cls = some m.cls → meth.name = y.name →
      Stand p l e R s m as' below meth c s₁ [] 0 0 → s₁.heap = h0 → S0 = s₁.setTop (entryFrame m as' ml) → ∃ s₂ o, Steps p.tables e below S0 s₂ ∧ s₂.status = .running ∧ Ended s₂ below o ∧ ∃ v L, o = .returned v ∧ Q v s₂.heap L ∧ FrameEnd s o s₂ L R.cells R.slots) : own_CP l Z y bytes ml ret ws R as' h0 Q := by
  refine MetFree.of_bodySF hpl hisR ?_
  intro p e s m args below meth c s₁ Bd hml hP hK
  obtain ⟨rfl, hZ, hh⟩ := hP
  exact H p e s m below meth c s₁ _ Bd hZ hh Bd.exec Bd.bytes hml (findClass_of_methodNamed Bd.named) (name_of_methodNamed Bd.named Bd.method).1 (Stand.of_body Bd) (by rw [← hh, Bd.state]; rfl) rfl
theorem own_EL {Z : State} {a0 : Array Value} (hw : ∀ d ∈ tables_1, d.before a0 Z = true) : EW Z a0 consts_1 := (EW.cons (hw _ (List.mem_of_getElem? (i := 34) rfl)) (by decide) (EW.cons (hw _ (List.mem_of_getElem? (i := 131) rfl)) (by decide) EW.nil))
theorem own_SA {Z : State} {a0 : Array Value} (hw : ∀ d ∈ tables_1, d.before a0 Z = true) : ∀ d ∈ Bundle.stringAtoms, d.before a0 Z = true := fun d hd => hw d ((by decide +kernel : ∀ d ∈ Bundle.stringAtoms, d ∈ tables_1) d hd)
theorem own_safe_null {Z : State} {EL : List (String × Nat)} {vm : Vm} {h : Heap} {x : Addr} (hal : Z.vm.Alike vm) (E : Exa Z h x "java/lang/String") (F : Fld Z h x "java/lang/String" "value" "[B" .null) : Safe Z EL vm h x := by
  rintro ⟨p, hp, u, a, B, q, hqa, ⟨cS, ⟨S1, S2, S3⟩, -, hcl, hsb⟩, hy⟩
  rcases hy with hy | hy
  · subst hy
    obtain ⟨cell, cf, k, i, f, h1, h2, h3, h4, h5, h6, h7⟩ := F
    obtain ⟨k', h2', -⟩ := State.fieldFound?_setVm (s := Z) hal h2
    obtain ⟨c2, k2, i2, g1, -⟩ := S1.ffV
    have e1 : cell = q.sC := Option.some.inj (h1.symm.trans S1.ha)
    have e2 : (Z.setVm vm).fieldFound? "java/lang/String" "value" "[B" = some (c2, k2, i2, q.fSV) := g1
    have e3 := Option.some.inj (h2'.symm.trans e2)
    have e4 : f = q.fSV := congrArg (fun z => z.2.2.2) e3
    have e5 : q.sC.slots[q.fSV.slot]? = some (.ref q.sd) := S1.2.2.2.2.2.2.2.1
    rw [e1, e4, e5] at h7
    cases h7
  · subst hy
    obtain ⟨c1, k1, h1, h2, -⟩ := E
    have e1 : c1 = q.SA := Option.some.inj (h1.symm.trans S1.2.2.2.2.2.2.2.2.2.1)
    have h2' : vm.findClass "java/lang/String" = some c1.cls := by rw [hal.findClass]; exact h2
    have hcl' : vm.findClass "[B" = some q.SA.cls := hcl
    rw [e1] at h2'
    obtain ⟨k3, a1, a2⟩ := Vm.findClass_spec h2'
    obtain ⟨k4, b1, b2⟩ := Vm.findClass_spec hcl'
    cases a1.symm.trans b1
    exact absurd (a2.symm.trans b2) (by decide)
abbrev own_CH (l : Launch) (Z : State) (y : MethodName) (bytes : ByteArray) (ml : Nat) (ret : Option FieldType) (ws : List Jvm.Cond) (R : Room) (as' : Array Value) (h0 : Heap) (Q : Option Value → Heap → List Loc → Prop) : Prop :=
  MetFree l y (head1 (Jvm.Cond.code y bytes ml ret :: ws) R) (fun a U => a = as' ∧ Z.Warmed39 U.vm ∧ U.heap = h0 ∧ CHv Z consts_1 U.vm h0) (fun _ _ _ _ _ => True) (fun _ U o U' => ∃ v L, o = .returned v ∧ Q v U'.heap L ∧ CHr Z consts_1 U.vm U.heap U'.vm U'.heap ∧ ReturnedEndW U o U' L R.cells R.slots)
abbrev own_CK (l : Launch) (Z : State) (y : MethodName) (bytes : ByteArray) (ml : Nat) (ret : Option FieldType) (ws : List Jvm.Cond) (R : Room) (as' : Array Value) (h0 : Heap) (Q : Option Value → Heap → List Loc → Prop) : Prop :=
  MetFree l y (head1 (Jvm.Cond.code y bytes ml ret :: ws) R) (fun a U => a = as' ∧ Z.Warmed39 U.vm ∧ U.heap = h0 ∧ CHv Z consts_1 U.vm h0) (fun _ _ bl s _ => s.vm.MethodsKnown ∧ s.vm.FramesKnown bl) (fun _ U o U' => ∃ v L, o = .returned v ∧ Q v U'.heap L ∧ CHr Z consts_1 U.vm U.heap U'.vm U'.heap ∧ ReturnedEndW U o U' L R.cells R.slots)
theorem own_H {l : Launch} {Z : State} {y : MethodName} {bytes : ByteArray} {ml : Nat} {ret : Option FieldType} {ws : List Jvm.Cond} {R : Room} {as' : Array Value} {h0 : Heap} {Q : Option Value → Heap → List Loc → Prop} (hpl : plainFor y = true)
    (H : ∀ (p : Program) (e : Env) (s : State) (m : MethodId) (below : List Frame) (meth : Method) (c : ClassFile.Code) (s₁ S0 : State), BodyLoose p l y (head1 (Jvm.Cond.code y bytes ml ret :: ws) R) bytes ml ret e s m as' below meth c s₁ → Z.Warmed39 (s.setVm s.vm).vm → s.heap = h0 → CHv Z consts_1 s.vm h0 → s.Since s.vm h0.size → CHr Z consts_1 s.vm h0 s.vm h0 → p.tables.exec = Jvm.exec → c.code = bytes → c.maxLocals = ml → (s.setVm s.vm).vm.findClass y.cls = some m.cls → meth.name = y.name →
      Stand p l e R (s.setVm s.vm) m as' below meth c s₁ [] 0 0 → s₁.heap = h0 → S0 = s₁.setTop (entryFrame m as' ml) → ∃ s₂ o, Steps p.tables e below S0 s₂ ∧ s₂.status = .running ∧ Ended s₂ below o ∧ ∃ v L, o = .returned v ∧ Q v s₂.heap L ∧ CHr Z consts_1 s.vm s.heap s₂.vm s₂.heap ∧ ReturnedEndW s o s₂ L R.cells R.slots) : own_CH l Z y bytes ml ret ws R as' h0 Q := by
  refine MetFree.of_bodySF hpl hisR ?_
  intro p e s m args below meth c s₁ Bd hml hP hK
  obtain ⟨rfl, hZ, hh, CH0⟩ := hP
  exact H p e s m below meth c s₁ _ Bd hZ hh CH0 (own_since0 s _) (CHr.refl CH0) Bd.exec Bd.bytes hml (findClass_of_methodNamed Bd.named) (name_of_methodNamed Bd.named Bd.method).1 (Stand.of_body Bd) (by rw [← hh, Bd.state]; rfl) rfl
theorem own_K {l : Launch} {Z : State} {y : MethodName} {bytes : ByteArray} {ml : Nat} {ret : Option FieldType} {ws : List Jvm.Cond} {R : Room} {as' : Array Value} {h0 : Heap} {Q : Option Value → Heap → List Loc → Prop} (hpl : plainFor y = true)
    (H : ∀ (p : Program) (e : Env) (s : State) (m : MethodId) (below : List Frame) (meth : Method) (c : ClassFile.Code) (s₁ S0 : State), BodyLoose p l y (head1 (Jvm.Cond.code y bytes ml ret :: ws) R) bytes ml ret e s m as' below meth c s₁ → Z.Warmed39 (s.setVm s.vm).vm → s.heap = h0 → CHv Z consts_1 s.vm h0 → s.Since s.vm h0.size → CHr Z consts_1 s.vm h0 s.vm h0 → s.vm.MethodsKnown → s.vm.FramesKnown below → p.tables.exec = Jvm.exec → c.code = bytes → c.maxLocals = ml → (s.setVm s.vm).vm.findClass y.cls = some m.cls → meth.name = y.name →
      Stand p l e R (s.setVm s.vm) m as' below meth c s₁ [] 0 0 → s₁.heap = h0 → S0 = s₁.setTop (entryFrame m as' ml) → ∃ s₂ o, Steps p.tables e below S0 s₂ ∧ s₂.status = .running ∧ Ended s₂ below o ∧ ∃ v L, o = .returned v ∧ Q v s₂.heap L ∧ CHr Z consts_1 s.vm s.heap s₂.vm s₂.heap ∧ ReturnedEndW s o s₂ L R.cells R.slots) : own_CK l Z y bytes ml ret ws R as' h0 Q := by
  refine MetFree.of_bodySF hpl hisR ?_
  intro p e s m args below meth c s₁ Bd hml hP hK
  obtain ⟨rfl, hZ, hh, CH0⟩ := hP
  exact H p e s m below meth c s₁ _ Bd hZ hh CH0 (own_since0 s _) (CHr.refl CH0) hK.1 hK.2 Bd.exec Bd.bytes hml (findClass_of_methodNamed Bd.named) (name_of_methodNamed Bd.named Bd.method).1 (Stand.of_body Bd) (by rw [← hh, Bd.state]; rfl) rfl
def own_cb (x : Int32) : Int32 := (x &&& (255 : Int32)).toUInt32.toUInt16.toUInt32.toInt32
theorem own_cb_eq (x : Int32) : own_cb x = x &&& 255 := i2c_mask x
theorem own_cb_nar {x : Int32} : nar .char (own_cb x) = own_cb x := by
  rw [own_cb_eq]; exact i2c_mask x
theorem own_cb_hi (x : Int32) : ¬ ((255 : Int32) < own_cb x) := by
  rw [own_cb_eq, Int32.lt_iff_toInt_lt]
  have h := (c_and x 255 (by decide)).2
  omega
theorem own_cb_lo (x : Int32) : ¬ (own_cb x < (0 : Int32)) := by
  rw [own_cb_eq, Int32.lt_iff_toInt_lt]
  have h := (c_and x 255 (by decide)).1
  have e : (0 : Int32).toInt = 0 := rfl
  omega
theorem own_and3 (x : Int32) : (x &&& (3 : Int32)) = 0 ∨ (x &&& (3 : Int32)) = 1 ∨ (x &&& (3 : Int32)) = 2 ∨ (x &&& (3 : Int32)) = 3 := by
  have h := c_and x 3 (by decide)
  have e : (3 : Int32).toInt = 3 := rfl
  have h3 : (x &&& (3 : Int32)).toInt = 0 ∨ (x &&& (3 : Int32)).toInt = 1 ∨ (x &&& (3 : Int32)).toInt = 2 ∨ (x &&& (3 : Int32)).toInt = 3 := by omega
  rcases h3 with h | h | h | h
  · exact Or.inl (Int32.toInt_inj.mp h)
  · exact Or.inr (Or.inl (Int32.toInt_inj.mp h))
  · exact Or.inr (Or.inr (Or.inl (Int32.toInt_inj.mp h)))
  · exact Or.inr (Or.inr (Or.inr (Int32.toInt_inj.mp h)))
def own_lo8 (x : Int32) : Int32 := nar .byte (x.toInt8.toInt32)
def own_ch (x : Int32) : Int32 := nar .char ((x &&& (255 : Int32)).toUInt32.toUInt16.toUInt32.toInt32)
def own_at (x : Int32) : Int32 := nar .char (own_ch x)
theorem own_at_says {c : Int32} (h0 : ¬ (c < (0 : Int32))) (h1 : ¬ ((255 : Int32) < c)) : own_at (own_lo8 c) = c := by
  rw [Int32.lt_iff_toInt_lt] at h0 h1
  have z0 : (0 : Int32).toInt = 0 := rfl
  have z1 : (255 : Int32).toInt = 255 := rfl
  have r1 := c_i2b c
  have r2 := c_i2b (c.toInt8.toInt32)
  have e1 : own_lo8 c = c.toInt8.toInt32.toInt8.toInt32 := rfl
  rw [← e1] at r2
  have m1 := c_mask (own_lo8 c) 255 8 (by decide) (by decide)
  have p8 : ((2 ^ 8 : Nat) : Int) = 256 := rfl
  rw [p8] at m1
  have k1 := c_i2c (own_lo8 c &&& 255)
  have k2 := c_i2c ((own_lo8 c &&& 255).toUInt32.toUInt16.toUInt32.toInt32)
  have k3 := c_i2c (((own_lo8 c &&& 255).toUInt32.toUInt16.toUInt32.toInt32).toUInt32.toUInt16.toUInt32.toInt32)
  have e3 : own_at (own_lo8 c) = (((own_lo8 c &&& 255).toUInt32.toUInt16.toUInt32.toInt32).toUInt32.toUInt16.toUInt32.toInt32).toUInt32.toUInt16.toUInt32.toInt32 := rfl
  rw [← e3] at k3
  apply Int32.toInt_inj.mp
  omega
def own_G (l : Launch) (Z : State) (a0 : Array Value) (G1 : Int32) (G3 : Value) : Prop := (Sta Z Z.heap "java/lang/String" "COMPACT_STRINGS" "Z" (.int G1)) ∧ (¬ (G1 = (0 : Int32))) ∧ (Sta Z Z.heap "jdk/internal/util/Preconditions" "SIOOBE_FORMATTER" "Ljava/util/function/BiFunction;" G3) ∧ (G3.isRef = true)
abbrev M0 : MethodName := ⟨"java/lang/String", "<init>", "([CIILjava/lang/Void;)V"⟩
theorem ef_1 (m : MethodId) (x0 : Addr) (x1 : Addr) (x2 : Int32) (x3 : Int32) : entryFrame m #[(.ref x0), (.ref x1), (.int x2), (.int x3), .null] 6 = mkF m 0 #[.val (.ref x0), .val (.ref x1), .val (.int x2), .val (.int x3), .val .null, .unset] [] := by first | (simp [entryFrame, mkF, argsToLocals, Value.category]; done) | rfl
theorem pn_2 : plainName "java/lang/String" = true := by first | (simp [plainName, overriddenIn]; done) | decide +kernel
theorem d0_0 : decode jdk_42_method_149_code 0 = .ok (.aload_n 0, 1) := by decide +kernel
theorem w11 {Z : State} {a0 : Array Value} (hw : ∀ d ∈ tables_1, d.before a0 Z = true) : Jvm.Cond.before (Jvm.Cond.methodLink "java/lang/String" (1 : Nat) ({ cls := "java/lang/Object", name := "<init>", desc := "()V" } : Jvm.MethodName)) a0 Z = true := hw _ (List.mem_of_getElem? (i := 11) rfl)
theorem w12 {Z : State} {a0 : Array Value} (hw : ∀ d ∈ tables_1, d.before a0 Z = true) : Jvm.Cond.before (Jvm.Cond.instanceMethod ({ cls := "java/lang/Object", name := "<init>", desc := "()V" } : Jvm.MethodName)) a0 Z = true := hw _ (List.mem_of_getElem? (i := 12) rfl)
theorem w13 {Z : State} {a0 : Array Value} (hw : ∀ d ∈ tables_1, d.before a0 Z = true) : Jvm.Cond.before (Jvm.Cond.code ({ cls := "java/lang/Object", name := "<init>", desc := "()V" } : Jvm.MethodName) object_method_1_code (1 : Nat) (Option.none : Option Jvm.ClassFile.FieldType)) a0 Z = true := hw _ (List.mem_of_getElem? (i := 13) rfl)
theorem d0_1 : decode jdk_42_method_149_code 1 = .ok (.invokespecial 1, 3) := by decide +kernel
theorem d0_4 : decode jdk_42_method_149_code 4 = .ok (.iload_n 3, 1) := by decide +kernel
theorem d0_5 : decode jdk_42_method_149_code 5 = .ok (.ifCond .ne 22, 3) := by decide +kernel
theorem d0_8 : decode jdk_42_method_149_code 8 = .ok (.aload_n 0, 1) := by decide +kernel
theorem w131 {Z : State} {a0 : Array Value} (hw : ∀ d ∈ tables_1, d.before a0 Z = true) : Jvm.Cond.before (Jvm.Cond.stringLink "java/lang/String" (7 : Nat) "") a0 Z = true := hw _ (List.mem_of_getElem? (i := 131) rfl)
theorem d0_9 : decode jdk_42_method_149_code 9 = .ok (.ldc 7, 2) := by decide +kernel
theorem w28 {Z : State} {a0 : Array Value} (hw : ∀ d ∈ tables_1, d.before a0 Z = true) : Jvm.Cond.before (Jvm.Cond.fieldLink "java/lang/String" (9 : Nat) "java/lang/String" "value" "[B") a0 Z = true := hw _ (List.mem_of_getElem? (i := 28) rfl)
theorem d0_11 : decode jdk_42_method_149_code 11 = .ok (.getfield 9, 3) := by decide +kernel
theorem w29 {Z : State} {a0 : Array Value} (hw : ∀ d ∈ tables_1, d.before a0 Z = true) : Jvm.Cond.before (Jvm.Cond.laysFinal "java/lang/String" "java/lang/String" "value" "[B") a0 Z = true := hw _ (List.mem_of_getElem? (i := 29) rfl)
theorem w2 {Z : State} {a0 : Array Value} (hw : ∀ d ∈ tables_1, d.before a0 Z = true) : Jvm.Cond.before (Jvm.Cond.instantiable "java/lang/String" (4 : Nat)) a0 Z = true := hw _ (List.mem_of_getElem? (i := 2) rfl)
theorem d0_14 : decode jdk_42_method_149_code 14 = .ok (.putfield 9, 3) := by decide +kernel
theorem d0_17 : decode jdk_42_method_149_code 17 = .ok (.aload_n 0, 1) := by decide +kernel
theorem d0_18 : decode jdk_42_method_149_code 18 = .ok (.ldc 7, 2) := by decide +kernel
theorem w26 {Z : State} {a0 : Array Value} (hw : ∀ d ∈ tables_1, d.before a0 Z = true) : Jvm.Cond.before (Jvm.Cond.fieldLink "java/lang/String" (15 : Nat) "java/lang/String" "coder" "B") a0 Z = true := hw _ (List.mem_of_getElem? (i := 26) rfl)
theorem d0_20 : decode jdk_42_method_149_code 20 = .ok (.getfield 15, 3) := by decide +kernel
theorem w27 {Z : State} {a0 : Array Value} (hw : ∀ d ∈ tables_1, d.before a0 Z = true) : Jvm.Cond.before (Jvm.Cond.laysFinal "java/lang/String" "java/lang/String" "coder" "B") a0 Z = true := hw _ (List.mem_of_getElem? (i := 27) rfl)
theorem d0_23 : decode jdk_42_method_149_code 23 = .ok (.putfield 15, 3) := by decide +kernel
theorem d0_26 : decode jdk_42_method_149_code 26 = .ok (.return_, 1) := by decide +kernel
abbrev R_si4_0 : Room := { frames := 1, cells := 4, slots := 8, locals := 12 }
def Q_si4_0 (Z : State) (G1 : Int32) (G3 : Value) (x : Addr) (b : Addr) (k : ClassId) (h0 : Heap) (n0 : Nat) (v : Option Value) (h : Heap) (L : List Loc) : Prop := (∃ t : Addr, ∃ kt : ClassId, v = none ∧ Fr n0 L ∧ Keep h0 h [x] ∧ (Exa Z h x "java/lang/String") ∧ (Fld Z h x "java/lang/String" "coder" "B" (.int (0 : Int32))) ∧ (Fld Z h x "java/lang/String" "value" "[B" (.ref t)) ∧ (Arv Z h t kt .byte (0 : Int32) [] (.int (0 : Int32))))
set_option maxRecDepth 65536 in
set_option maxHeartbeats 40000000 in
theorem rm_si4_0 (l : Launch) (Z : State) (a0 : Array Value) (hw : ∀ d ∈ tables_1, d.before a0 Z = true) (ws : List Jvm.Cond) (G1 : Int32) (G3 : Value) (HG : own_G l Z a0 G1 G3) (h0 : Heap) (n0 : Nat) (X00 : Old Z n0 h0) (x : Addr) (b : Addr) (k : ClassId) (hp0 : Exa Z h0 x "java/lang/String") (hp1 : Fld Z h0 x "java/lang/String" "value" "[B" .null) (hp2 : Fld Z h0 x "java/lang/String" "coder" "B" (.int (0 : Int32))) (hp3 : n0 ≤ x) (hp4 : Arv Z h0 b k .char (0 : Int32) [] (.int (0 : Int32))) :
    own_CH l Z M0 jdk_42_method_149_code 6 none ws R_si4_0 #[(.ref x), (.ref b), (.int (0 : Int32)), (.int (0 : Int32)), .null] h0 (Q_si4_0 Z G1 G3 x b k h0 n0) := by
  refine own_H (plainFor_of_name pn_2) ?_
  intro p e s m below meth c s₁ S0 Bd hZ hh CH0 hS0 CR0 hx hby hml hown hnm X0 e0 hS0d
  obtain ⟨O1, P1, O3f, rG3⟩ := id HG
  have hEL := own_EL hw
  have hSA := own_SA hw
  have N0 := Fr.nil n0
  have C0 : Steps p.tables e below S0 (s₁.setTop (mkF m 0 #[.val (.ref x), .val (.ref b), .val (.int (0 : Int32)), .val (.int (0 : Int32)), .val .null, .unset] [])) := by rw [hS0d]; exact castTop (ef_1 m x b (0 : Int32) (0 : Int32)) (Steps.refl _)
  have Sf_1 : Safe Z consts_1 s.vm h0 x := (own_safe_null hZ.alike hp0 hp1)
  obtain ⟨T_2, X_3, e_4, st_5⟩ := initO X0 hx hZ hown (w11 hw) (w12 hw) (w13 hw) e0 (g := (mkF m 1 #[.val (.ref x), .val (.ref b), .val (.int (0 : Int32)), .val (.int (0 : Int32)), .val .null, .unset] [(.ref x)])) rfl (by rw [hml]; rfl) rfl (hb hby d0_1) (by decide) (W := 0) (by show 2 * 0 + _ ≤ _; exact Nat.le_of_eq rfl) (by decide)
  obtain ⟨a_6, T_7, h_8, k1_9, b_10, k_11, X_12, e_13, E_14, S_15, hk_16, hZ_17, ho_18, Ex_19, Fc_20, Fv_21, Va_22, la_23, lb_24, R_25, L_26, Sf_27, st_28⟩ := ldcCH (vm0 := s.vm) X_3 hx hZ hown (w131 hw) hSA e_4 hS0 (Nat.le_refl _) hEL (by decide) CH0 (vs := []) (z := (0 : Int32)) ⟨by decide, by decide⟩ (by decide) (by decide) (g := (mkF m 9 #[.val (.ref x), .val (.ref b), .val (.int (0 : Int32)), .val (.int (0 : Int32)), .val .null, .unset] [(.ref x)])) rfl (hb hby d0_9) (n := 0) (by decide) (by decide) (by decide) (by decide)
  have CH_29 : CHv Z consts_1 T_7.vm h_8 := R_25.1
  have CR_30 : CHr Z consts_1 s.vm h0 T_7.vm h_8 := CR0.trans R_25
  have E_31 : Exa Z h_8 x "java/lang/String" := (hp0.ext E_14)
  have F_32 : Fld Z h_8 x "java/lang/String" "value" "[B" .null := (hp1.ext E_14)
  obtain ⟨T_33, X_34, e_35, st_36⟩ := getF X_12 hx hZ_17 ho_18 (host := "") (Or.inl (w28 hw)) Via.refl e_13 Fv_21 (g := (mkF m 11 #[.val (.ref x), .val (.ref b), .val (.int (0 : Int32)), .val (.int (0 : Int32)), .val .null, .unset] [(.ref a_6), (.ref x)])) rfl rfl (hb hby d0_11)
  obtain ⟨T_37, h_38, X_39, e_40, W_41, st_42⟩ := putF X_34 hx hZ_17 ho_18 (host := "") (Or.inl (w28 hw)) Via.refl e_35 F_32 E_31 (Or.inr ⟨(w29 hw), rfl, hnm⟩) (w2 hw) (ty := (.array .byte)) (by decide) rfl rfl (g := (mkF m 14 #[.val (.ref x), .val (.ref b), .val (.int (0 : Int32)), .val (.int (0 : Int32)), .val .null, .unset] [(.ref b_10), (.ref x)])) rfl rfl (hb hby d0_14)
  have N_43 := Fr.snoc X_39 N0 hp3
  have CH_44 : CHv Z consts_1 T_7.vm h_38 := CHv.wr W_41 (own_safe_null hZ_17.alike E_31 F_32) CH_29
  have CR_45 : CHr Z consts_1 s.vm h0 T_7.vm h_38 := CR_30.trans (CHr.wr W_41 (own_safe_null hZ_17.alike E_31 F_32) CH_29)
  have F_46 : Fld Z h_38 x "java/lang/String" "value" "[B" (.ref b_10) := F_32.same W_41
  obtain ⟨a_47, T_48, h_49, k1_50, b_51, k_52, X_53, e_54, E_55, S_56, hk_57, hZ_58, ho_59, Ex_60, Fc_61, Fv_62, Va_63, la_64, lb_65, R_66, L_67, Sf_68, st_69⟩ := ldcCH (vm0 := T_7.vm) X_39 hx hZ_17 ho_18 (w131 hw) hSA e_40 S_15 (Nat.le_trans hk_16 (Keep.of_wr W_41).1) hEL (by decide) CH_44 (vs := []) (z := (0 : Int32)) ⟨by decide, by decide⟩ (by decide) (by decide) (g := (mkF m 18 #[.val (.ref x), .val (.ref b), .val (.int (0 : Int32)), .val (.int (0 : Int32)), .val .null, .unset] [(.ref x)])) rfl (hb hby d0_18) (n := 0) (by decide) (by decide) (by decide) (by decide)
  have CH_70 : CHv Z consts_1 T_48.vm h_49 := R_66.1
  have CR_71 : CHr Z consts_1 s.vm h0 T_48.vm h_49 := CR_45.trans R_66
  have Sf_72 : Safe Z consts_1 T_48.vm h_49 x := (CHr.safe R_66 (own_lt hp0.lt (Nat.le_trans E_14.1 (Keep.of_wr W_41).1)) (Safe.wr W_41 (own_safe_null hZ_17.alike E_31 F_32) CH_29 (CHr.safe R_25 (own_lt hp0.lt (Nat.le_refl _)) Sf_1)))
  obtain ⟨T_73, X_74, e_75, st_76⟩ := getF X_53 hx hZ_58 ho_59 (host := "") (Or.inl (w26 hw)) Via.refl e_54 Fc_61 (g := (mkF m 20 #[.val (.ref x), .val (.ref b), .val (.int (0 : Int32)), .val (.int (0 : Int32)), .val .null, .unset] [(.ref a_47), (.ref x)])) rfl rfl (hb hby d0_20)
  have F_77 : Fld Z h_49 x "java/lang/String" "coder" "B" (.int (0 : Int32)) := (((hp2.ext E_14).other W_41 (Or.inr (slot_ne (Or.inr (w27 hw)) (Or.inr (w29 hw)) (by decide) (t := .byte) (by decide) (t' := (.array .byte)) (by decide)))).ext E_55)
  have E_78 : Exa Z h_49 x "java/lang/String" := ((E_31.wr W_41).ext E_55)
  obtain ⟨T_79, h_80, X_81, e_82, W_83, st_84⟩ := putF X_74 hx hZ_58 ho_59 (host := "") (Or.inl (w26 hw)) Via.refl e_75 F_77 E_78 (Or.inr ⟨(w27 hw), rfl, hnm⟩) (w2 hw) (ty := .byte) (by decide) rfl (by decide) (g := (mkF m 23 #[.val (.ref x), .val (.ref b), .val (.int (0 : Int32)), .val (.int (0 : Int32)), .val .null, .unset] [(.int (0 : Int32)), (.ref x)])) rfl rfl (hb hby d0_23)
  have N_85 := Fr.snoc X_81 N_43 hp3
  have Sf_86 : Safe Z consts_1 T_48.vm h_49 x := Sf_72
  have CH_87 : CHv Z consts_1 T_48.vm h_80 := CHv.wr W_83 Sf_86 CH_70
  have CR_88 : CHr Z consts_1 s.vm h0 T_48.vm h_80 := CR_71.trans (CHr.wr W_83 Sf_86 CH_70)
  have F_89 : Fld Z h_80 x "java/lang/String" "coder" "B" (.int (0 : Int32)) := F_77.same W_83
  have C_90 : Steps p.tables e below S0 (T_79.setTop (mkF m 26 #[.val (.ref x), .val (.ref b), .val (.int (0 : Int32)), .val (.int (0 : Int32)), .val .null, .unset] [])) := by
    refine C0.trans ?_
    refine XS.aloadN X0.here hx rfl (hb hby d0_0) rfl rfl ?_
    refine st_5 _ ?_
    refine XS.iloadN X_3.here hx rfl (hb hby d0_4) rfl ?_
    refine XS.ifNo X_3.here hx rfl (hb hby d0_5) rfl (by decide) ?_
    refine XS.aloadN X_3.here hx rfl (hb hby d0_8) rfl rfl ?_
    refine st_28 _ ?_
    refine st_36 _ ?_
    refine st_42 _ ?_
    show Steps p.tables e below (T_37.setTop (mkF m 17 #[.val (.ref x), .val (.ref b), .val (.int (0 : Int32)), .val (.int (0 : Int32)), .val .null, .unset] [])) _
    refine XS.aloadN X_39.here hx rfl (hb hby d0_17) rfl rfl ?_
    refine st_69 _ ?_
    refine st_76 _ ?_
    refine st_84 _ ?_
    exact Steps.refl _
  have E_91 : Exa Z h_80 x "java/lang/String" := (E_78.wr W_83)
  have F_92 : Fld Z h_80 x "java/lang/String" "value" "[B" (.ref b_10) := ((F_46.ext E_55).other W_83 (Or.inr (slot_ne (Or.inr (w29 hw)) (Or.inr (w27 hw)) (by decide) (t := (.array .byte)) (by decide) (t' := .byte) (by decide))))
  have V_93 : Arv Z h_80 b_10 k_11 .byte (0 : Int32) [] (.int (0 : Int32)) := (((Va_22.other W_41 (Ne.symm (Sf_27 _ (own_safe_null hZ_17.alike E_31 F_32)).2)).ext E_55).other W_83 (Ne.symm (Sf_27 _ (own_safe_null hZ_17.alike E_31 F_32)).2))
  have K_94 : Keep h0 h_80 [x] := (((((Keep.refl _ _).ext E_14).wr W_41 (Or.inl (List.mem_of_getElem? (i := 0) rfl))).ext E_55).wr W_83 (Or.inl (List.mem_of_getElem? (i := 0) rfl)))
  obtain ⟨fs, hr, hrun, hended, hRE⟩ := X_81.leaveW S_56 (by rw [show T_79.heap = h_80 from e_82]; exact (Nat.le_trans hk_57 (Keep.of_wr W_83).1)) (v := none) (fun _ => rfl)
  refine ⟨_, _, C_90.trans (X_81.returnOut hx Bd.returns (hb hby d0_26) hr), hrun, hended, _, _, rfl, ?_, ?_, hRE.1, hRE.2.1, hRE.2.2.1, hRE.2.2.2.mono (by decide) (by decide)⟩
  · show Q_si4_0 Z G1 G3 x b k h0 n0 (none) T_79.heap _
    rw [e_82]
    exact ⟨b_10, k_11, rfl, N_85, K_94, E_91, F_89, F_92, V_93⟩
  · show CHr Z consts_1 s.vm s.heap T_79.vm T_79.heap
    rw [hh, show T_79.heap = h_80 from e_82]
    exact CR_88.trans (CHv.at X_81 hZ_58 hEL CH_87)
abbrev M25 : MethodName := ⟨"java/lang/String", "<init>", "([C)V"⟩
theorem ef_26 (m : MethodId) (x0 : Addr) (x1 : Addr) : entryFrame m #[(.ref x0), (.ref x1)] 2 = mkF m 0 #[.val (.ref x0), .val (.ref x1)] [] := by first | (simp [entryFrame, mkF, argsToLocals, Value.category]; done) | rfl
theorem d1_0 : decode jdk_42_method_3_code 0 = .ok (.aload_n 0, 1) := by decide +kernel
theorem d1_1 : decode jdk_42_method_3_code 1 = .ok (.aload_n 1, 1) := by decide +kernel
theorem d1_2 : decode jdk_42_method_3_code 2 = .ok (.iconst 0, 1) := by decide +kernel
theorem d1_3 : decode jdk_42_method_3_code 3 = .ok (.aload_n 1, 1) := by decide +kernel
theorem d1_4 : decode jdk_42_method_3_code 4 = .ok (.arraylength, 1) := by decide +kernel
theorem d1_5 : decode jdk_42_method_3_code 5 = .ok (.aconst_null, 1) := by decide +kernel
theorem w10 {Z : State} {a0 : Array Value} (hw : ∀ d ∈ tables_1, d.before a0 Z = true) : Jvm.Cond.before (Jvm.Cond.code ({ cls := "java/lang/String", name := "<init>", desc := "([CIILjava/lang/Void;)V" } : Jvm.MethodName) jdk_42_method_149_code (6 : Nat) (Option.none : Option Jvm.ClassFile.FieldType)) a0 Z = true := hw _ (List.mem_of_getElem? (i := 10) rfl)
theorem w3 {Z : State} {a0 : Array Value} (hw : ∀ d ∈ tables_1, d.before a0 Z = true) : Jvm.Cond.before (Jvm.Cond.initialized "java/lang/String") a0 Z = true := hw _ (List.mem_of_getElem? (i := 3) rfl)
theorem pd_35 : parseMethodDescriptor "([CIILjava/lang/Void;)V" = some ⟨[(.array .char), .int, .int, (.object "java/lang/Void")], none⟩ := by decide +kernel
theorem d1_6 : decode jdk_42_method_3_code 6 = .ok (.invokespecial 27, 3) := by decide +kernel
theorem w7 {Z : State} {a0 : Array Value} (hw : ∀ d ∈ tables_1, d.before a0 Z = true) : Jvm.Cond.before (Jvm.Cond.methodLink "java/lang/String" (27 : Nat) ({ cls := "java/lang/String", name := "<init>", desc := "([CIILjava/lang/Void;)V" } : Jvm.MethodName)) a0 Z = true := hw _ (List.mem_of_getElem? (i := 7) rfl)
theorem w8 {Z : State} {a0 : Array Value} (hw : ∀ d ∈ tables_1, d.before a0 Z = true) : Jvm.Cond.before (Jvm.Cond.instanceMethod ({ cls := "java/lang/String", name := "<init>", desc := "([CIILjava/lang/Void;)V" } : Jvm.MethodName)) a0 Z = true := hw _ (List.mem_of_getElem? (i := 8) rfl)
theorem d1_9 : decode jdk_42_method_3_code 9 = .ok (.return_, 1) := by decide +kernel
abbrev R_si1_0 : Room := { frames := 2, cells := 4, slots := 8, locals := 29 }
def Q_si1_0 (Z : State) (G1 : Int32) (G3 : Value) (x : Addr) (b : Addr) (k : ClassId) (h0 : Heap) (n0 : Nat) (v : Option Value) (h : Heap) (L : List Loc) : Prop := (∃ t : Addr, ∃ kt : ClassId, v = none ∧ Fr n0 L ∧ Keep h0 h [x] ∧ (Exa Z h x "java/lang/String") ∧ (Fld Z h x "java/lang/String" "coder" "B" (.int (0 : Int32))) ∧ (Fld Z h x "java/lang/String" "value" "[B" (.ref t)) ∧ (Arv Z h t kt .byte (0 : Int32) [] (.int (0 : Int32))))
set_option maxRecDepth 65536 in
set_option maxHeartbeats 40000000 in
theorem rm_si1_0 (l : Launch) (Z : State) (a0 : Array Value) (hw : ∀ d ∈ tables_1, d.before a0 Z = true) (ws : List Jvm.Cond) (G1 : Int32) (G3 : Value) (HG : own_G l Z a0 G1 G3) (h0 : Heap) (n0 : Nat) (X00 : Old Z n0 h0) (x : Addr) (b : Addr) (k : ClassId) (hp0 : Exa Z h0 x "java/lang/String") (hp1 : Fld Z h0 x "java/lang/String" "value" "[B" .null) (hp2 : Fld Z h0 x "java/lang/String" "coder" "B" (.int (0 : Int32))) (hp3 : n0 ≤ x) (hp4 : Arv Z h0 b k .char (0 : Int32) [] (.int (0 : Int32))) :
    own_CH l Z M25 jdk_42_method_3_code 2 none ws R_si1_0 #[(.ref x), (.ref b)] h0 (Q_si1_0 Z G1 G3 x b k h0 n0) := by
  refine own_H (plainFor_of_name pn_2) ?_
  intro p e s m below meth c s₁ S0 Bd hZ hh CH0 hS0 CR0 hx hby hml hown hnm X0 e0 hS0d
  obtain ⟨O1, P1, O3f, rG3⟩ := id HG
  have hEL := own_EL hw
  have hSA := own_SA hw
  have N0 := Fr.nil n0
  have C0 : Steps p.tables e below S0 (s₁.setTop (mkF m 0 #[.val (.ref x), .val (.ref b)] [])) := by rw [hS0d]; exact castTop (ef_26 m x b) (Steps.refl _)
  obtain ⟨c_1, A_2, q_3, S_4, M_5, H_6, U_7⟩ := id hp4
  obtain ⟨_, _, ⟨T_8, L_8, k_8, n_8⟩, -, Y_8, S_8, G_8, ⟨Lc_8, hQ_8, l_8, y_8, z_8, R_8⟩, st_8⟩ := X0.specialBackS hx (y := M0) rfl hown (mvT hZ (w7 hw)) (mvT hZ (w8 hw)) (mvT hZ (w10 hw)) (by decide) (backOfSH (vm0 := s.vm) (W := 0) (rm_si4_0 l Z a0 hw [] G1 G3 HG h0 n0 X00 x b k hp0 hp1 hp2 hp3 hp4) hZ (w10 hw) (w3 hw) (by decide) (by decide) hEL CH0) (g := (mkF m 6 #[.val (.ref x), .val (.ref b)] [.null, (.int (0 : Int32)), (.int (0 : Int32)), (.ref b), (.ref x)])) rfl (by rw [hml]; rfl) (Steps.refl _) (a := x) (argsL := [(.ref b), (.int (0 : Int32)), (.int (0 : Int32)), .null]) (rest := []) (lenOf pd_35 rfl) rfl (by show 2 * 0 + _ ≤ _; exact Nat.le_of_eq rfl) (hb hby d1_6) (fun _ _ => ⟨rfl, e0, (by decide : 0 + 4 ≤ _), (by decide : 0 + 8 ≤ _)⟩)
  dsimp only [Pt.U, Pt.locs, Pt.cells, Pt.slots] at Y_8 S_8 G_8 l_8 y_8 z_8 st_8 hQ_8 R_8
  subst l_8 y_8 z_8
  obtain ⟨X_8, hS_8, hZ_8, hown_8⟩ := rebS hS0 (n1 := s₁.heap.size) (by rw [show s₁.heap = h0 from e0]; exact (Nat.le_refl _)) Y_8 S_8 G_8 hZ hown
  obtain ⟨a_9, k_10, rfl, N_11, K_12, g_13, g_14, g_15, g_16⟩ := hQ_8
  have N_17 := Fr.app N0 N_11
  have CH_18 : CHv Z consts_1 T_8.vm T_8.heap := R_8.1
  have CR_19 : CHr Z consts_1 s.vm h0 T_8.vm T_8.heap := CR0.trans R_8
  have C_20 : Steps p.tables e below S0 (T_8.setTop (mkF m 9 #[.val (.ref x), .val (.ref b)] [])) := by
    refine C0.trans ?_
    refine XS.aloadN X0.here hx rfl (hb hby d1_0) rfl rfl ?_
    refine XS.aloadN X0.here hx rfl (hb hby d1_1) rfl rfl ?_
    refine XS.iconst X0.here hx rfl (hb hby d1_2) ?_
    refine XS.aloadN X0.here hx rfl (hb hby d1_3) rfl rfl ?_
    refine X0.arraylength hx (by rw [e0]; exact A_2.1) (State.isArrayOf_alike hZ.alike A_2.2.1) (g := (mkF m 4 #[.val (.ref x), .val (.ref b)] [(.ref b), (.int (0 : Int32)), (.ref b), (.ref x)])) rfl rfl (hb hby d1_4) _ ?_
    rw [len_of S_4 M_5]
    refine XS.aconstNull X0.here hx rfl (hb hby d1_5) ?_
    refine st_8.trans ?_
    exact Steps.refl _
  have K_21 : Keep h0 T_8.heap [x] := ((Keep.refl _ _).trans K_12 (allS (Or.inl (List.mem_of_getElem? (i := 0) rfl)) all0))
  obtain ⟨fs, hr, hrun, hended, hRE⟩ := X_8.leaveW hS_8 (by rw [show T_8.heap = T_8.heap from rfl]; exact (Nat.le_refl _)) (v := none) (fun _ => rfl)
  refine ⟨_, _, C_20.trans (X_8.returnOut hx Bd.returns (hb hby d1_9) hr), hrun, hended, _, _, rfl, ?_, ?_, hRE.1, hRE.2.1, hRE.2.2.1, hRE.2.2.2.mono (by decide) (by decide)⟩
  · show Q_si1_0 Z G1 G3 x b k h0 n0 (none) T_8.heap _
    exact ⟨a_9, k_10, rfl, N_17, K_21, g_13, g_14, g_15, g_16⟩
  · show CHr Z consts_1 s.vm s.heap T_8.vm T_8.heap
    rw [hh]
    exact CR_19.trans (CHv.at X_8 hZ_8 hEL CH_18)
abbrev M40 : MethodName := ⟨"java/lang/StringUTF16", "compress", "([CI[BII)I"⟩
theorem ef_41 (m : MethodId) (x0 : Addr) (x1 : Int32) (x2 : Addr) (x3 : Int32) (x4 : Int32) : entryFrame m #[(.ref x0), (.int x1), (.ref x2), (.int x3), (.int x4)] 7 = mkF m 0 #[.val (.ref x0), .val (.int x1), .val (.ref x2), .val (.int x3), .val (.int x4), .unset, .unset] [] := by first | (simp [entryFrame, mkF, argsToLocals, Value.category]; done) | rfl
theorem pn_42 : plainName "java/lang/StringUTF16" = true := by first | (simp [plainName, overriddenIn]; done) | decide +kernel
theorem d2_0 : decode jdk_52_method_21_code 0 = .ok (.iconst 0, 1) := by decide +kernel
theorem d2_1 : decode jdk_52_method_21_code 1 = .ok (.istore 5, 2) := by decide +kernel
theorem d2_3 : decode jdk_52_method_21_code 3 = .ok (.iload 5, 2) := by decide +kernel
theorem d2_5 : decode jdk_52_method_21_code 5 = .ok (.iload 4, 2) := by decide +kernel
theorem d2_7 : decode jdk_52_method_21_code 7 = .ok (.if_icmp .ge 37, 3) := by decide +kernel
theorem d2_10 : decode jdk_52_method_21_code 10 = .ok (.aload_n 0, 1) := by decide +kernel
theorem d2_11 : decode jdk_52_method_21_code 11 = .ok (.iload_n 1, 1) := by decide +kernel
theorem d2_12 : decode jdk_52_method_21_code 12 = .ok (.caload, 1) := by decide +kernel
theorem d2_13 : decode jdk_52_method_21_code 13 = .ok (.istore 6, 2) := by decide +kernel
theorem d2_15 : decode jdk_52_method_21_code 15 = .ok (.iload 6, 2) := by decide +kernel
theorem d2_17 : decode jdk_52_method_21_code 17 = .ok (.sipush 255, 3) := by decide +kernel
theorem d2_20 : decode jdk_52_method_21_code 20 = .ok (.if_icmp .le 6, 3) := by decide +kernel
theorem d2_26 : decode jdk_52_method_21_code 26 = .ok (.aload_n 2, 1) := by decide +kernel
theorem d2_27 : decode jdk_52_method_21_code 27 = .ok (.iload_n 3, 1) := by decide +kernel
theorem d2_28 : decode jdk_52_method_21_code 28 = .ok (.iload 6, 2) := by decide +kernel
theorem d2_30 : decode jdk_52_method_21_code 30 = .ok (.i2b, 1) := by decide +kernel
theorem d2_31 : decode jdk_52_method_21_code 31 = .ok (.bastore, 1) := by decide +kernel
theorem d2_32 : decode jdk_52_method_21_code 32 = .ok (.iinc 1 1, 3) := by decide +kernel
theorem d2_35 : decode jdk_52_method_21_code 35 = .ok (.iinc 3 1, 3) := by decide +kernel
theorem d2_38 : decode jdk_52_method_21_code 38 = .ok (.iinc 5 1, 3) := by decide +kernel
theorem d2_41 : decode jdk_52_method_21_code 41 = .ok (.goto (-38), 3) := by decide +kernel
theorem d2_44 : decode jdk_52_method_21_code 44 = .ok (.iload 4, 2) := by decide +kernel
theorem d2_46 : decode jdk_52_method_21_code 46 = .ok (.ireturn, 1) := by decide +kernel
abbrev R_cmp5_1 : Room := { frames := 0, cells := 0, slots := 0, locals := 0 }
def Q_cmp5_1 (Z : State) (G1 : Int32) (G3 : Value) (b : Addr) (k : ClassId) (t : Addr) (kt : ClassId) (c0 : Int32) (h0 : Heap) (n0 : Nat) (v : Option Value) (h : Heap) (L : List Loc) : Prop := (v = some (.int (1 : Int32)) ∧ Fr n0 L ∧ Keep h0 h [t] ∧ (Arv Z h t kt .byte (1 : Int32) [(.int (own_lo8 c0))] (.int (0 : Int32))))
set_option maxRecDepth 65536 in
set_option maxHeartbeats 40000000 in
theorem rm_cmp5_1 (l : Launch) (Z : State) (a0 : Array Value) (hw : ∀ d ∈ tables_1, d.before a0 Z = true) (ws : List Jvm.Cond) (G1 : Int32) (G3 : Value) (HG : own_G l Z a0 G1 G3) (h0 : Heap) (n0 : Nat) (X00 : Old Z n0 h0) (b : Addr) (k : ClassId) (t : Addr) (kt : ClassId) (c0 : Int32) (hp0 : Arv Z h0 b k .char (1 : Int32) [(.int c0)] (.int (0 : Int32))) (hp1 : Arv Z h0 t kt .byte (1 : Int32) [(.int (0 : Int32))] (.int (0 : Int32))) (hp2 : n0 ≤ t) (hp3 : b ≠ t) (hh0 : ¬ ((255 : Int32) < c0)) :
    own_CP l Z M40 jdk_52_method_21_code 7 (some .int) ws R_cmp5_1 #[(.ref b), (.int (0 : Int32)), (.ref t), (.int (0 : Int32)), (.int (1 : Int32))] h0 (Q_cmp5_1 Z G1 G3 b k t kt c0 h0 n0) := by
  refine own_P (plainFor_of_name pn_42) ?_
  intro p e s m below meth c s₁ S0 Bd hZ hh hx hby hml hown hnm X0 e0 hS0d
  obtain ⟨O1, P1, O3f, rG3⟩ := id HG
  have N0 := Fr.nil n0
  have C0 : Steps p.tables e below S0 (s₁.setTop (mkF m 0 #[.val (.ref b), .val (.int (0 : Int32)), .val (.ref t), .val (.int (0 : Int32)), .val (.int (1 : Int32)), .unset, .unset] [])) := by rw [hS0d]; exact castTop (ef_41 m b (0 : Int32) t (0 : Int32) (1 : Int32)) (Steps.refl _)
  obtain ⟨c_1, A_2, q_3, S_4, M_5, H_6, U_7⟩ := id hp0
  have hin_8 : ¬ ((0 : Int32) < 0 ∨ c_1.slots.size ≤ (0 : Int32).toNatClampNeg) := inb_of S_4 ⟨(by decide : ¬ ((0 : Int32) < (0 : Int32))), (by decide : (0 : Int32) < (1 : Int32))⟩
  have hat_9 : c_1.slots[(0 : Int32).toNatClampNeg]? = some (.int c0) := Has.at H_6 hin_8 rfl
  obtain ⟨c_10, A_11, q_12, S_13, M_14, H_15, U_16⟩ := id hp1
  have hin_23 : ¬ ((0 : Int32) < 0 ∨ c_10.slots.size ≤ (0 : Int32).toNatClampNeg) := inb_of S_13 ⟨(by decide : ¬ ((0 : Int32) < (0 : Int32))), (by decide : (0 : Int32) < (1 : Int32))⟩
  obtain ⟨T_17, h_18, X_19, e_20, W_21, st_22⟩ := stB X0 hx hZ e0 A_11 (j := (0 : Int32)) hin_23 (g := (mkF m 31 #[.val (.ref b), .val (.int (0 : Int32)), .val (.ref t), .val (.int (0 : Int32)), .val (.int (1 : Int32)), .val (.int (0 : Int32)), .val (.int c0)] [(.int (c0.toInt8.toInt32)), (.int (0 : Int32)), (.ref t)])) rfl rfl (hb hby d2_31)
  have N_24 := Fr.snoc X_19 N0 hp2
  have V_25 : Arv Z h_18 t kt .byte (1 : Int32) [(.int (own_lo8 c0))] (.int (0 : Int32)) := Arv.set A_11 q_12 S_13 M_14 H_15 U_16 (fits_nar_byte _) W_21 0 rfl (Nat.le_of_ble_eq_true rfl)
  have C_26 : Steps p.tables e below S0 (T_17.setTop (mkF m 46 #[.val (.ref b), .val (.int (1 : Int32)), .val (.ref t), .val (.int (1 : Int32)), .val (.int (1 : Int32)), .val (.int (1 : Int32)), .val (.int c0)] [(.int (1 : Int32))])) := by
    refine C0.trans ?_
    refine XS.iconst X0.here hx rfl (hb hby d2_0) ?_
    refine XS.istore X0.here hx rfl (hb hby d2_1) rfl (l' := #[.val (.ref b), .val (.int (0 : Int32)), .val (.ref t), .val (.int (0 : Int32)), .val (.int (1 : Int32)), .val (.int (0 : Int32)), .unset]) rfl ?_
    refine XS.iload X0.here hx rfl (hb hby d2_3) rfl ?_
    refine XS.iload X0.here hx rfl (hb hby d2_5) rfl ?_
    refine XS.icmpNo X0.here hx rfl (hb hby d2_7) rfl (by decide) ?_
    refine XS.aloadN X0.here hx rfl (hb hby d2_10) rfl rfl ?_
    refine XS.iloadN X0.here hx rfl (hb hby d2_11) rfl ?_
    refine X0.caload hx (j := (0 : Int32)) (v := (.int c0)) (by rw [e0]; exact A_2.1) (State.isArrayOf_alike hZ.alike A_2.2.1) A_2.2.2 hin_8 hat_9 (g := (mkF m 12 #[.val (.ref b), .val (.int (0 : Int32)), .val (.ref t), .val (.int (0 : Int32)), .val (.int (1 : Int32)), .val (.int (0 : Int32)), .unset] [(.int (0 : Int32)), (.ref b)])) rfl rfl (hb hby d2_12) _ ?_
    show Steps p.tables e below (s₁.setTop (mkF m 13 #[.val (.ref b), .val (.int (0 : Int32)), .val (.ref t), .val (.int (0 : Int32)), .val (.int (1 : Int32)), .val (.int (0 : Int32)), .unset] [(.int c0)])) _
    refine XS.istore X0.here hx rfl (hb hby d2_13) rfl (l' := #[.val (.ref b), .val (.int (0 : Int32)), .val (.ref t), .val (.int (0 : Int32)), .val (.int (1 : Int32)), .val (.int (0 : Int32)), .val (.int c0)]) rfl ?_
    refine XS.iload X0.here hx rfl (hb hby d2_15) rfl ?_
    refine XS.sipush X0.here hx rfl (hb hby d2_17) ?_
    refine XS.icmpYes X0.here hx rfl (pc0 := 20) (pc' := 26) rfl (hb hby d2_20) rfl (ii_le_t hh0) (by decide) (by decide) ?_
    refine XS.aloadN X0.here hx rfl (hb hby d2_26) rfl rfl ?_
    refine XS.iloadN X0.here hx rfl (hb hby d2_27) rfl ?_
    refine XS.iload X0.here hx rfl (hb hby d2_28) rfl ?_
    refine XS.i2b X0.here hx rfl (hb hby d2_30) rfl ?_
    show Steps p.tables e below (s₁.setTop (mkF m 31 #[.val (.ref b), .val (.int (0 : Int32)), .val (.ref t), .val (.int (0 : Int32)), .val (.int (1 : Int32)), .val (.int (0 : Int32)), .val (.int c0)] [(.int (c0.toInt8.toInt32)), (.int (0 : Int32)), (.ref t)])) _
    refine st_22 _ ?_
    refine XS.iinc X_19.here hx rfl (hb hby d2_32) (x := (0 : Int32)) rfl (l' := #[.val (.ref b), .val (.int (1 : Int32)), .val (.ref t), .val (.int (0 : Int32)), .val (.int (1 : Int32)), .val (.int (0 : Int32)), .val (.int c0)]) rfl ?_
    refine XS.iinc X_19.here hx rfl (hb hby d2_35) (x := (0 : Int32)) rfl (l' := #[.val (.ref b), .val (.int (1 : Int32)), .val (.ref t), .val (.int (1 : Int32)), .val (.int (1 : Int32)), .val (.int (0 : Int32)), .val (.int c0)]) rfl ?_
    refine XS.iinc X_19.here hx rfl (hb hby d2_38) (x := (0 : Int32)) rfl (l' := #[.val (.ref b), .val (.int (1 : Int32)), .val (.ref t), .val (.int (1 : Int32)), .val (.int (1 : Int32)), .val (.int (1 : Int32)), .val (.int c0)]) rfl ?_
    refine XS.goto X_19.here hx rfl (pc0 := 41) (pc' := 3) rfl (hb hby d2_41) (by decide) (by decide) ?_
    refine XS.iload X_19.here hx rfl (hb hby d2_3) rfl ?_
    refine XS.iload X_19.here hx rfl (hb hby d2_5) rfl ?_
    refine XS.icmpYes X_19.here hx rfl (pc0 := 7) (pc' := 44) rfl (hb hby d2_7) rfl (by decide) (by decide) (by decide) ?_
    show Steps p.tables e below (T_17.setTop (mkF m 44 #[.val (.ref b), .val (.int (1 : Int32)), .val (.ref t), .val (.int (1 : Int32)), .val (.int (1 : Int32)), .val (.int (1 : Int32)), .val (.int c0)] [])) _
    refine XS.iload X_19.here hx rfl (hb hby d2_44) rfl ?_
    exact Steps.refl _
  have K_27 : Keep h0 h_18 [t] := ((Keep.refl _ _).wr W_21 (Or.inl (List.mem_of_getElem? (i := 0) rfl)))
  obtain ⟨fs, hr, hrun, hended, hW, hsame⟩ := X_19.leave (v := some (.int (1 : Int32))) (fun h => by rw [Bd.returns] at h; cases h)
  refine ⟨_, _, C_26.trans (retOut X_19 hx Bd.returns rfl (Or.inl ⟨rfl, Or.inl rfl, _, rfl⟩) (hb hby d2_46) hr), hrun, hended, _, _, rfl, ?_, ⟨_, rfl⟩, hW, hsame.mono (by decide) (by decide)⟩
  show Q_cmp5_1 Z G1 G3 b k t kt c0 h0 n0 (some (.int (1 : Int32))) T_17.heap _
  rw [e_20]
  exact ⟨rfl, N_24, K_27, V_25⟩
abbrev M66 : MethodName := ⟨"java/lang/StringUTF16", "compress", "([CII)[B"⟩
theorem ef_67 (m : MethodId) (x0 : Addr) (x1 : Int32) (x2 : Int32) : entryFrame m #[(.ref x0), (.int x1), (.int x2)] 6 = mkF m 0 #[.val (.ref x0), .val (.int x1), .val (.int x2), .unset, .unset, .unset] [] := by first | (simp [entryFrame, mkF, argsToLocals, Value.category]; done) | rfl
theorem d3_0 : decode jdk_52_method_16_code 0 = .ok (.iload_n 2, 1) := by decide +kernel
theorem w19 {Z : State} {a0 : Array Value} (hw : ∀ d ∈ tables_1, d.before a0 Z = true) : Jvm.Cond.before (Jvm.Cond.arrayClass Jvm.ClassFile.FieldType.byte) a0 Z = true := hw _ (List.mem_of_getElem? (i := 19) rfl)
theorem d3_1 : decode jdk_52_method_16_code 1 = .ok (.newarray .byte, 2) := by decide +kernel
theorem d3_3 : decode jdk_52_method_16_code 3 = .ok (.astore_n 3, 1) := by decide +kernel
theorem d3_4 : decode jdk_52_method_16_code 4 = .ok (.aload_n 0, 1) := by decide +kernel
theorem d3_5 : decode jdk_52_method_16_code 5 = .ok (.iload_n 1, 1) := by decide +kernel
theorem d3_6 : decode jdk_52_method_16_code 6 = .ok (.aload_n 3, 1) := by decide +kernel
theorem d3_7 : decode jdk_52_method_16_code 7 = .ok (.iconst 0, 1) := by decide +kernel
theorem d3_8 : decode jdk_52_method_16_code 8 = .ok (.iload_n 2, 1) := by decide +kernel
theorem w22 {Z : State} {a0 : Array Value} (hw : ∀ d ∈ tables_1, d.before a0 Z = true) : Jvm.Cond.before (Jvm.Cond.code ({ cls := "java/lang/StringUTF16", name := "compress", desc := "([CI[BII)I" } : Jvm.MethodName) jdk_52_method_21_code (7 : Nat) (Option.some Jvm.ClassFile.FieldType.int)) a0 Z = true := hw _ (List.mem_of_getElem? (i := 22) rfl)
theorem w17 {Z : State} {a0 : Array Value} (hw : ∀ d ∈ tables_1, d.before a0 Z = true) : Jvm.Cond.before (Jvm.Cond.initialized "java/lang/StringUTF16") a0 Z = true := hw _ (List.mem_of_getElem? (i := 17) rfl)
theorem pd_79 : parseMethodDescriptor "([CI[BII)I" = some ⟨[(.array .char), .int, (.array .byte), .int, .int], some .int⟩ := by decide +kernel
theorem d3_9 : decode jdk_52_method_16_code 9 = .ok (.invokestatic 115, 3) := by decide +kernel
theorem w20 {Z : State} {a0 : Array Value} (hw : ∀ d ∈ tables_1, d.before a0 Z = true) : Jvm.Cond.before (Jvm.Cond.methodLink "java/lang/StringUTF16" (115 : Nat) ({ cls := "java/lang/StringUTF16", name := "compress", desc := "([CI[BII)I" } : Jvm.MethodName)) a0 Z = true := hw _ (List.mem_of_getElem? (i := 20) rfl)
theorem w21 {Z : State} {a0 : Array Value} (hw : ∀ d ∈ tables_1, d.before a0 Z = true) : Jvm.Cond.before (Jvm.Cond.static ({ cls := "java/lang/StringUTF16", name := "compress", desc := "([CI[BII)I" } : Jvm.MethodName)) a0 Z = true := hw _ (List.mem_of_getElem? (i := 21) rfl)
theorem d3_12 : decode jdk_52_method_16_code 12 = .ok (.istore 4, 2) := by decide +kernel
theorem d3_14 : decode jdk_52_method_16_code 14 = .ok (.iload 4, 2) := by decide +kernel
theorem d3_16 : decode jdk_52_method_16_code 16 = .ok (.iload_n 2, 1) := by decide +kernel
theorem d3_17 : decode jdk_52_method_16_code 17 = .ok (.if_icmp .eq 40, 3) := by decide +kernel
theorem d3_57 : decode jdk_52_method_16_code 57 = .ok (.aload_n 3, 1) := by decide +kernel
theorem d3_58 : decode jdk_52_method_16_code 58 = .ok (.areturn, 1) := by decide +kernel
abbrev R_cmp3_1 : Room := { frames := 1, cells := 1, slots := 1, locals := 18 }
def Q_cmp3_1 (Z : State) (G1 : Int32) (G3 : Value) (b : Addr) (k : ClassId) (c0 : Int32) (h0 : Heap) (n0 : Nat) (v : Option Value) (h : Heap) (L : List Loc) : Prop := (∃ t : Addr, ∃ kt : ClassId, v = some (.ref t) ∧ Fr n0 L ∧ Keep h0 h [] ∧ (h0.size ≤ t) ∧ (Arv Z h t kt .byte (1 : Int32) [(.int (own_lo8 c0))] (.int (0 : Int32))))
set_option maxRecDepth 65536 in
set_option maxHeartbeats 40000000 in
theorem rm_cmp3_1 (l : Launch) (Z : State) (a0 : Array Value) (hw : ∀ d ∈ tables_1, d.before a0 Z = true) (ws : List Jvm.Cond) (G1 : Int32) (G3 : Value) (HG : own_G l Z a0 G1 G3) (h0 : Heap) (n0 : Nat) (X00 : Old Z n0 h0) (b : Addr) (k : ClassId) (c0 : Int32) (hp0 : Arv Z h0 b k .char (1 : Int32) [(.int c0)] (.int (0 : Int32))) (hh0 : ¬ ((255 : Int32) < c0)) :
    own_CP l Z M66 jdk_52_method_16_code 6 (some (.array .byte)) ws R_cmp3_1 #[(.ref b), (.int (0 : Int32)), (.int (1 : Int32))] h0 (Q_cmp3_1 Z G1 G3 b k c0 h0 n0) := by
  refine own_P (plainFor_of_name pn_42) ?_
  intro p e s m below meth c s₁ S0 Bd hZ hh hx hby hml hown hnm X0 e0 hS0d
  obtain ⟨O1, P1, O3f, rG3⟩ := id HG
  have N0 := Fr.nil n0
  have C0 : Steps p.tables e below S0 (s₁.setTop (mkF m 0 #[.val (.ref b), .val (.int (0 : Int32)), .val (.int (1 : Int32)), .unset, .unset, .unset] [])) := by rw [hS0d]; exact castTop (ef_67 m b (0 : Int32) (1 : Int32)) (Steps.refl _)
  obtain ⟨T_1, h_2, k_3, X_4, e_5, E_6, A_7, st_8⟩ := newP (aty := .byte) X0 hx hZ (w19 hw) e0 (g := (mkF m 1 #[.val (.ref b), .val (.int (0 : Int32)), .val (.int (1 : Int32)), .unset, .unset, .unset] [(.int (1 : Int32))])) rfl (hb hby d3_1) rfl (by decide : ¬ ((1 : Int32) < (0 : Int32))) (cap := 1) (by decide : (1 : Int32).toNatClampNeg ≤ 1) (by decide) (by decide) (by decide)
  obtain ⟨a_9, g_10⟩ : ∃ z, z = h0.size := ⟨_, rfl⟩
  rw [← g_10] at A_7 st_8
  have V_12 : Arv Z h_2 a_9 k_3 .byte (1 : Int32) [] (.int (0 : Int32)) := Arv.new A_7 (by decide : ¬ ((1 : Int32) < (0 : Int32)))
  have V_11 : Arv Z h_2 a_9 k_3 .byte (1 : Int32) [(.int (0 : Int32))] (.int (0 : Int32)) := (V_12.pad (pad_rep [] (.int (0 : Int32)) 1))
  have V_13 : Arv Z h_2 b k .char (1 : Int32) [(.int c0)] (.int (0 : Int32)) := (hp0.ext E_6)
  have O_14 : Old Z n0 h_2 := (X00.ext E_6)
  obtain ⟨_, _, ⟨T_15, L_15, k_15, n_15⟩, -, X_15, ⟨Lc_15, hQ_15, l_15, y_15, z_15⟩, st_15⟩ := Jvm.LawKit.callS X_4 hx (y := M40) hown (mvT hZ (w20 hw)) (mvT hZ (w21 hw)) (mvT hZ (w17 hw)) (mvT hZ (w22 hw)) (by decide) (backOf (W := 0) (rm_cmp5_1 l Z a0 hw [] G1 G3 HG h_2 n0 O_14 b k a_9 k_3 c0 V_13 V_11 (Nat.le_trans (own_n0 X00) (Nat.le_of_eq g_10.symm)) (Nat.ne_of_lt (Nat.lt_of_lt_of_le hp0.lt (Nat.le_trans (Nat.le_refl _) (Nat.le_of_eq g_10.symm)))) hh0) hZ (w22 hw) (w17 hw) (by decide) (by decide)) (g := (mkF m 9 #[.val (.ref b), .val (.int (0 : Int32)), .val (.int (1 : Int32)), .val (.ref a_9), .unset, .unset] [(.int (1 : Int32)), (.int (0 : Int32)), (.ref a_9), (.int (0 : Int32)), (.ref b)])) rfl (by rw [hml]; rfl) (argsL := [(.ref b), (.int (0 : Int32)), (.ref a_9), (.int (0 : Int32)), (.int (1 : Int32))]) (rest := []) (lenOf pd_79 rfl) rfl (by show 2 * 0 + _ ≤ _; exact Nat.le_of_eq rfl) (hb hby d3_9) (fun _ _ => ⟨rfl, e_5, (by decide : 1 + 0 ≤ _), (by decide : 1 + 0 ≤ _)⟩)
  dsimp only [Pt.U, Pt.locs, Pt.cells, Pt.slots] at X_15 l_15 y_15 z_15 st_15 hQ_15
  subst l_15 y_15 z_15
  obtain ⟨rfl, N_16, K_17, g_18⟩ := hQ_15
  have N_19 := Fr.app N0 N_16
  have C_20 : Steps p.tables e below S0 (T_15.setTop (mkF m 58 #[.val (.ref b), .val (.int (0 : Int32)), .val (.int (1 : Int32)), .val (.ref a_9), .val (.int (1 : Int32)), .unset] [(.ref a_9)])) := by
    refine C0.trans ?_
    refine XS.iloadN X0.here hx rfl (hb hby d3_0) rfl ?_
    refine st_8 _ ?_
    refine XS.astoreN X_4.here hx rfl (hb hby d3_3) rfl rfl (l' := #[.val (.ref b), .val (.int (0 : Int32)), .val (.int (1 : Int32)), .val (.ref a_9), .unset, .unset]) rfl ?_
    refine XS.aloadN X_4.here hx rfl (hb hby d3_4) rfl rfl ?_
    refine XS.iloadN X_4.here hx rfl (hb hby d3_5) rfl ?_
    refine XS.aloadN X_4.here hx rfl (hb hby d3_6) rfl rfl ?_
    refine XS.iconst X_4.here hx rfl (hb hby d3_7) ?_
    refine XS.iloadN X_4.here hx rfl (hb hby d3_8) rfl ?_
    show Steps p.tables e below (T_1.setTop (mkF m 9 #[.val (.ref b), .val (.int (0 : Int32)), .val (.int (1 : Int32)), .val (.ref a_9), .unset, .unset] [(.int (1 : Int32)), (.int (0 : Int32)), (.ref a_9), (.int (0 : Int32)), (.ref b)])) _
    refine st_15 _ ?_
    refine XS.istore X_15.here hx rfl (hb hby d3_12) rfl (l' := #[.val (.ref b), .val (.int (0 : Int32)), .val (.int (1 : Int32)), .val (.ref a_9), .val (.int (1 : Int32)), .unset]) rfl ?_
    refine XS.iload X_15.here hx rfl (hb hby d3_14) rfl ?_
    refine XS.iloadN X_15.here hx rfl (hb hby d3_16) rfl ?_
    refine XS.icmpYes X_15.here hx rfl (pc0 := 17) (pc' := 57) rfl (hb hby d3_17) rfl (by decide) (by decide) (by decide) ?_
    refine XS.aloadN X_15.here hx rfl (hb hby d3_57) rfl rfl ?_
    exact Steps.refl _
  have K_21 : Keep h0 T_15.heap [] := (((Keep.refl _ _).ext E_6).trans K_17 (allS (Or.inr (Nat.le_trans (Nat.le_refl _) (Nat.le_of_eq g_10.symm))) all0))
  obtain ⟨fs, hr, hrun, hended, hW, hsame⟩ := X_15.leave (v := some (.ref a_9)) (fun h => by rw [Bd.returns] at h; cases h)
  refine ⟨_, _, C_20.trans (retOut X_15 hx Bd.returns rfl (Or.inr (Or.inr (Or.inr (Or.inr ⟨rfl, rfl, rfl⟩)))) (hb hby d3_58) hr), hrun, hended, _, _, rfl, ?_, ⟨_, rfl⟩, hW, hsame.mono (by decide) (by decide)⟩
  show Q_cmp3_1 Z G1 G3 b k c0 h0 n0 (some (.ref a_9)) T_15.heap _
  exact ⟨a_9, k_3, rfl, N_19, K_21, (Nat.le_trans (Nat.le_refl _) (Nat.le_of_eq g_10.symm)), g_18⟩
abbrev M89 : MethodName := ⟨"java/lang/StringUTF16", "coderFromArrayLen", "([BI)B"⟩
theorem ef_90 (m : MethodId) (x0 : Addr) (x1 : Int32) : entryFrame m #[(.ref x0), (.int x1)] 2 = mkF m 0 #[.val (.ref x0), .val (.int x1)] [] := by first | (simp [entryFrame, mkF, argsToLocals, Value.category]; done) | rfl
theorem d4_0 : decode jdk_52_method_15_code 0 = .ok (.iload_n 1, 1) := by decide +kernel
theorem d4_1 : decode jdk_52_method_15_code 1 = .ok (.aload_n 0, 1) := by decide +kernel
theorem d4_2 : decode jdk_52_method_15_code 2 = .ok (.arraylength, 1) := by decide +kernel
theorem d4_3 : decode jdk_52_method_15_code 3 = .ok (.isub, 1) := by decide +kernel
theorem d4_4 : decode jdk_52_method_15_code 4 = .ok (.bipush 31, 2) := by decide +kernel
theorem d4_6 : decode jdk_52_method_15_code 6 = .ok (.iushr, 1) := by decide +kernel
theorem d4_7 : decode jdk_52_method_15_code 7 = .ok (.i2b, 1) := by decide +kernel
theorem d4_8 : decode jdk_52_method_15_code 8 = .ok (.ireturn, 1) := by decide +kernel
abbrev R_codl_1 : Room := { frames := 0, cells := 0, slots := 0, locals := 0 }
def Q_codl_1 (Z : State) (G1 : Int32) (G3 : Value) (t : Addr) (kt : ClassId) (y0 : Int32) (h0 : Heap) (n0 : Nat) (v : Option Value) (h : Heap) (L : List Loc) : Prop := (v = some (.int (0 : Int32)) ∧ Fr n0 L ∧ h = h0)
set_option maxRecDepth 65536 in
set_option maxHeartbeats 40000000 in
theorem rm_codl_1 (l : Launch) (Z : State) (a0 : Array Value) (hw : ∀ d ∈ tables_1, d.before a0 Z = true) (ws : List Jvm.Cond) (G1 : Int32) (G3 : Value) (HG : own_G l Z a0 G1 G3) (h0 : Heap) (n0 : Nat) (X00 : Old Z n0 h0) (t : Addr) (kt : ClassId) (y0 : Int32) (hp0 : Arv Z h0 t kt .byte (1 : Int32) [(.int y0)] (.int (0 : Int32))) :
    own_CP l Z M89 jdk_52_method_15_code 2 (some .byte) ws R_codl_1 #[(.ref t), (.int (1 : Int32))] h0 (Q_codl_1 Z G1 G3 t kt y0 h0 n0) := by
  refine own_P (plainFor_of_name pn_42) ?_
  intro p e s m below meth c s₁ S0 Bd hZ hh hx hby hml hown hnm X0 e0 hS0d
  obtain ⟨O1, P1, O3f, rG3⟩ := id HG
  have N0 := Fr.nil n0
  have C0 : Steps p.tables e below S0 (s₁.setTop (mkF m 0 #[.val (.ref t), .val (.int (1 : Int32))] [])) := by rw [hS0d]; exact castTop (ef_90 m t (1 : Int32)) (Steps.refl _)
  obtain ⟨c_1, A_2, q_3, S_4, M_5, H_6, U_7⟩ := id hp0
  have C_8 : Steps p.tables e below S0 (s₁.setTop (mkF m 8 #[.val (.ref t), .val (.int (1 : Int32))] [(.int (0 : Int32))])) := by
    refine C0.trans ?_
    refine XS.iloadN X0.here hx rfl (hb hby d4_0) rfl ?_
    refine XS.aloadN X0.here hx rfl (hb hby d4_1) rfl rfl ?_
    refine X0.arraylength hx (by rw [e0]; exact A_2.1) (State.isArrayOf_alike hZ.alike A_2.2.1) (g := (mkF m 2 #[.val (.ref t), .val (.int (1 : Int32))] [(.ref t), (.int (1 : Int32))])) rfl rfl (hb hby d4_2) _ ?_
    rw [len_of S_4 M_5]
    refine XS.isub X0.here hx rfl (hb hby d4_3) rfl ?_
    refine XS.bipush X0.here hx rfl (hb hby d4_4) ?_
    refine XS.iushr X0.here hx rfl (hb hby d4_6) rfl ?_
    refine XS.i2b X0.here hx rfl (hb hby d4_7) rfl ?_
    exact Steps.refl _
  obtain ⟨fs, hr, hrun, hended, hW, hsame⟩ := X0.leave (v := some (.int (0 : Int32))) (fun h => by rw [Bd.returns] at h; cases h)
  refine ⟨_, _, C_8.trans (retN X0 hx (t := .byte) Bd.returns (by simp) (hb hby d4_8) hr), hrun, hended, _, _, rfl, ?_, ⟨_, rfl⟩, hW, hsame.mono (by decide) (by decide)⟩
  show Q_codl_1 Z G1 G3 t kt y0 h0 n0 (some (.int (0 : Int32))) s₁.heap _
  rw [e0]
  exact ⟨rfl, N0, rfl⟩
theorem w14 {Z : State} {a0 : Array Value} (hw : ∀ d ∈ tables_1, d.before a0 Z = true) : Jvm.Cond.before (Jvm.Cond.fieldLink "java/lang/String" (38 : Nat) "java/lang/String" "COMPACT_STRINGS" "Z") a0 Z = true := hw _ (List.mem_of_getElem? (i := 14) rfl)
theorem d0_27 : decode jdk_42_method_149_code 27 = .ok (.getstatic 38, 3) := by decide +kernel
theorem d0_30 : decode jdk_42_method_149_code 30 = .ok (.ifCond .eq 28, 3) := by decide +kernel
theorem d0_33 : decode jdk_42_method_149_code 33 = .ok (.aload_n 1, 1) := by decide +kernel
theorem d0_34 : decode jdk_42_method_149_code 34 = .ok (.iload_n 2, 1) := by decide +kernel
theorem d0_35 : decode jdk_42_method_149_code 35 = .ok (.iload_n 3, 1) := by decide +kernel
theorem w18 {Z : State} {a0 : Array Value} (hw : ∀ d ∈ tables_1, d.before a0 Z = true) : Jvm.Cond.before (Jvm.Cond.code ({ cls := "java/lang/StringUTF16", name := "compress", desc := "([CII)[B" } : Jvm.MethodName) jdk_52_method_16_code (6 : Nat) (Option.some (Jvm.ClassFile.FieldType.array Jvm.ClassFile.FieldType.byte))) a0 Z = true := hw _ (List.mem_of_getElem? (i := 18) rfl)
theorem pd_106 : parseMethodDescriptor "([CII)[B" = some ⟨[(.array .char), .int, .int], some (.array .byte)⟩ := by decide +kernel
theorem d0_36 : decode jdk_42_method_149_code 36 = .ok (.invokestatic 177, 3) := by decide +kernel
theorem w15 {Z : State} {a0 : Array Value} (hw : ∀ d ∈ tables_1, d.before a0 Z = true) : Jvm.Cond.before (Jvm.Cond.methodLink "java/lang/String" (177 : Nat) ({ cls := "java/lang/StringUTF16", name := "compress", desc := "([CII)[B" } : Jvm.MethodName)) a0 Z = true := hw _ (List.mem_of_getElem? (i := 15) rfl)
theorem w16 {Z : State} {a0 : Array Value} (hw : ∀ d ∈ tables_1, d.before a0 Z = true) : Jvm.Cond.before (Jvm.Cond.static ({ cls := "java/lang/StringUTF16", name := "compress", desc := "([CII)[B" } : Jvm.MethodName)) a0 Z = true := hw _ (List.mem_of_getElem? (i := 16) rfl)
theorem d0_39 : decode jdk_42_method_149_code 39 = .ok (.astore 5, 2) := by decide +kernel
theorem d0_41 : decode jdk_42_method_149_code 41 = .ok (.aload_n 0, 1) := by decide +kernel
theorem d0_42 : decode jdk_42_method_149_code 42 = .ok (.aload 5, 2) := by decide +kernel
theorem d0_44 : decode jdk_42_method_149_code 44 = .ok (.iload_n 3, 1) := by decide +kernel
theorem w25 {Z : State} {a0 : Array Value} (hw : ∀ d ∈ tables_1, d.before a0 Z = true) : Jvm.Cond.before (Jvm.Cond.code ({ cls := "java/lang/StringUTF16", name := "coderFromArrayLen", desc := "([BI)B" } : Jvm.MethodName) jdk_52_method_15_code (2 : Nat) (Option.some Jvm.ClassFile.FieldType.byte)) a0 Z = true := hw _ (List.mem_of_getElem? (i := 25) rfl)
theorem pd_115 : parseMethodDescriptor "([BI)B" = some ⟨[(.array .byte), .int], some .byte⟩ := by decide +kernel
theorem d0_45 : decode jdk_42_method_149_code 45 = .ok (.invokestatic 47, 3) := by decide +kernel
theorem w23 {Z : State} {a0 : Array Value} (hw : ∀ d ∈ tables_1, d.before a0 Z = true) : Jvm.Cond.before (Jvm.Cond.methodLink "java/lang/String" (47 : Nat) ({ cls := "java/lang/StringUTF16", name := "coderFromArrayLen", desc := "([BI)B" } : Jvm.MethodName)) a0 Z = true := hw _ (List.mem_of_getElem? (i := 23) rfl)
theorem w24 {Z : State} {a0 : Array Value} (hw : ∀ d ∈ tables_1, d.before a0 Z = true) : Jvm.Cond.before (Jvm.Cond.static ({ cls := "java/lang/StringUTF16", name := "coderFromArrayLen", desc := "([BI)B" } : Jvm.MethodName)) a0 Z = true := hw _ (List.mem_of_getElem? (i := 24) rfl)
theorem d0_48 : decode jdk_42_method_149_code 48 = .ok (.putfield 15, 3) := by decide +kernel
theorem d0_51 : decode jdk_42_method_149_code 51 = .ok (.aload_n 0, 1) := by decide +kernel
theorem d0_52 : decode jdk_42_method_149_code 52 = .ok (.aload 5, 2) := by decide +kernel
theorem d0_54 : decode jdk_42_method_149_code 54 = .ok (.putfield 9, 3) := by decide +kernel
theorem d0_57 : decode jdk_42_method_149_code 57 = .ok (.return_, 1) := by decide +kernel
abbrev R_si4_1 : Room := { frames := 2, cells := 1, slots := 1, locals := 35 }
def Q_si4_1 (Z : State) (G1 : Int32) (G3 : Value) (x : Addr) (b : Addr) (k : ClassId) (c0 : Int32) (h0 : Heap) (n0 : Nat) (v : Option Value) (h : Heap) (L : List Loc) : Prop := (∃ t : Addr, ∃ kt : ClassId, v = none ∧ Fr n0 L ∧ Keep h0 h [x] ∧ (Exa Z h x "java/lang/String") ∧ (Fld Z h x "java/lang/String" "coder" "B" (.int (0 : Int32))) ∧ (Fld Z h x "java/lang/String" "value" "[B" (.ref t)) ∧ (h0.size ≤ t) ∧ (Arv Z h t kt .byte (1 : Int32) [(.int (own_lo8 c0))] (.int (0 : Int32))))
set_option maxRecDepth 65536 in
set_option maxHeartbeats 40000000 in
theorem rm_si4_1 (l : Launch) (Z : State) (a0 : Array Value) (hw : ∀ d ∈ tables_1, d.before a0 Z = true) (ws : List Jvm.Cond) (G1 : Int32) (G3 : Value) (HG : own_G l Z a0 G1 G3) (h0 : Heap) (n0 : Nat) (X00 : Old Z n0 h0) (x : Addr) (b : Addr) (k : ClassId) (c0 : Int32) (hp0 : Exa Z h0 x "java/lang/String") (hp1 : Fld Z h0 x "java/lang/String" "value" "[B" .null) (hp2 : Fld Z h0 x "java/lang/String" "coder" "B" (.int (0 : Int32))) (hp3 : n0 ≤ x) (hp4 : Arv Z h0 b k .char (1 : Int32) [(.int c0)] (.int (0 : Int32))) (hh0 : ¬ ((255 : Int32) < c0)) :
    own_CP l Z M0 jdk_42_method_149_code 6 none ws R_si4_1 #[(.ref x), (.ref b), (.int (0 : Int32)), (.int (1 : Int32)), .null] h0 (Q_si4_1 Z G1 G3 x b k c0 h0 n0) := by
  refine own_P (plainFor_of_name pn_2) ?_
  intro p e s m below meth c s₁ S0 Bd hZ hh hx hby hml hown hnm X0 e0 hS0d
  obtain ⟨O1, P1, O3f, rG3⟩ := id HG
  have N0 := Fr.nil n0
  have C0 : Steps p.tables e below S0 (s₁.setTop (mkF m 0 #[.val (.ref x), .val (.ref b), .val (.int (0 : Int32)), .val (.int (1 : Int32)), .val .null, .unset] [])) := by rw [hS0d]; exact castTop (ef_1 m x b (0 : Int32) (1 : Int32)) (Steps.refl _)
  obtain ⟨T_1, X_2, e_3, st_4⟩ := initO X0 hx hZ hown (w11 hw) (w12 hw) (w13 hw) e0 (g := (mkF m 1 #[.val (.ref x), .val (.ref b), .val (.int (0 : Int32)), .val (.int (1 : Int32)), .val .null, .unset] [(.ref x)])) rfl (by rw [hml]; rfl) rfl (hb hby d0_1) (by decide) (W := 0) (by show 2 * 0 + _ ≤ _; exact Nat.le_of_eq rfl) (by decide)
  obtain ⟨T_5, X_6, e_7, st_8⟩ := getS X_2 hx hZ (host := "") hown (w14 hw) Via.refl e_3 (O1.ext X00.2) (g := (mkF m 27 #[.val (.ref x), .val (.ref b), .val (.int (0 : Int32)), .val (.int (1 : Int32)), .val .null, .unset] [])) rfl (hb hby d0_27)
  obtain ⟨_, _, ⟨T_9, L_9, k_9, n_9⟩, -, X_9, ⟨Lc_9, hQ_9, l_9, y_9, z_9⟩, st_9⟩ := Jvm.LawKit.callS X_6 hx (y := M66) hown (mvT hZ (w15 hw)) (mvT hZ (w16 hw)) (mvT hZ (w17 hw)) (mvT hZ (w18 hw)) (by decide) (backOf (W := 0) (rm_cmp3_1 l Z a0 hw [] G1 G3 HG h0 n0 X00 b k c0 hp4 hh0) hZ (w18 hw) (w17 hw) (by decide) (by decide)) (g := (mkF m 36 #[.val (.ref x), .val (.ref b), .val (.int (0 : Int32)), .val (.int (1 : Int32)), .val .null, .unset] [(.int (1 : Int32)), (.int (0 : Int32)), (.ref b)])) rfl (by rw [hml]; rfl) (argsL := [(.ref b), (.int (0 : Int32)), (.int (1 : Int32))]) (rest := []) (lenOf pd_106 rfl) rfl (by show 2 * 0 + _ ≤ _; exact Nat.le_of_eq rfl) (hb hby d0_36) (fun _ _ => ⟨rfl, e_7, (by decide : 0 + 1 ≤ _), (by decide : 0 + 1 ≤ _)⟩)
  dsimp only [Pt.U, Pt.locs, Pt.cells, Pt.slots] at X_9 l_9 y_9 z_9 st_9 hQ_9
  subst l_9 y_9 z_9
  obtain ⟨a_10, k_11, rfl, N_12, K_13, g_14, g_15⟩ := hQ_9
  have N_16 := Fr.app N0 N_12
  have O_17 : Old Z n0 T_9.heap := (X00.keep K_13 all0)
  obtain ⟨_, _, ⟨T_18, L_18, k_18, n_18⟩, -, X_18, ⟨Lc_18, hQ_18, l_18, y_18, z_18⟩, st_18⟩ := Jvm.LawKit.callS X_9 hx (y := M89) hown (mvT hZ (w23 hw)) (mvT hZ (w24 hw)) (mvT hZ (w17 hw)) (mvT hZ (w25 hw)) (by decide) (backOf (W := 1) (rm_codl_1 l Z a0 hw [] G1 G3 HG T_9.heap n0 O_17 a_10 k_11 (own_lo8 c0) g_15) hZ (w25 hw) (w17 hw) (by decide) (by decide)) (g := (mkF m 45 #[.val (.ref x), .val (.ref b), .val (.int (0 : Int32)), .val (.int (1 : Int32)), .val .null, .val (.ref a_10)] [(.int (1 : Int32)), (.ref a_10), (.ref x)])) rfl (by rw [hml]; rfl) (argsL := [(.ref a_10), (.int (1 : Int32))]) (rest := [(.ref x)]) (lenOf pd_115 rfl) rfl (by show 2 * 0 + _ ≤ _; exact Nat.le_of_eq rfl) (hb hby d0_45) (fun _ _ => ⟨rfl, rfl, (by decide : 1 + 0 ≤ _), (by decide : 1 + 0 ≤ _)⟩)
  dsimp only [Pt.U, Pt.locs, Pt.cells, Pt.slots] at X_18 l_18 y_18 z_18 st_18 hQ_18
  subst l_18 y_18 z_18
  obtain ⟨rfl, N_19, e_20⟩ := hQ_18
  have N_21 := Fr.app N_16 N_19
  have e_22 : T_18.heap = T_9.heap := e_20
  have F_23 : Fld Z T_9.heap x "java/lang/String" "coder" "B" (.int (0 : Int32)) := (hp2.keep K_13 nin0)
  have E_24 : Exa Z T_9.heap x "java/lang/String" := (hp0.keep K_13)
  obtain ⟨T_25, h_26, X_27, e_28, W_29, st_30⟩ := putF X_18 hx hZ hown (host := "") (Or.inl (w26 hw)) Via.refl e_22 F_23 E_24 (Or.inr ⟨(w27 hw), rfl, hnm⟩) (w2 hw) (ty := .byte) (by decide) rfl (by decide) (g := (mkF m 48 #[.val (.ref x), .val (.ref b), .val (.int (0 : Int32)), .val (.int (1 : Int32)), .val .null, .val (.ref a_10)] [(.int (0 : Int32)), (.ref x)])) rfl rfl (hb hby d0_48)
  have N_31 := Fr.snoc X_27 N_21 hp3
  have F_32 : Fld Z h_26 x "java/lang/String" "coder" "B" (.int (0 : Int32)) := F_23.same W_29
  have F_33 : Fld Z h_26 x "java/lang/String" "value" "[B" .null := ((hp1.keep K_13 nin0).other W_29 (Or.inr (slot_ne (Or.inr (w29 hw)) (Or.inr (w27 hw)) (by decide) (t := (.array .byte)) (by decide) (t' := .byte) (by decide))))
  have E_34 : Exa Z h_26 x "java/lang/String" := (E_24.wr W_29)
  obtain ⟨T_35, h_36, X_37, e_38, W_39, st_40⟩ := putF X_27 hx hZ hown (host := "") (Or.inl (w28 hw)) Via.refl e_28 F_33 E_34 (Or.inr ⟨(w29 hw), rfl, hnm⟩) (w2 hw) (ty := (.array .byte)) (by decide) rfl rfl (g := (mkF m 54 #[.val (.ref x), .val (.ref b), .val (.int (0 : Int32)), .val (.int (1 : Int32)), .val .null, .val (.ref a_10)] [(.ref a_10), (.ref x)])) rfl rfl (hb hby d0_54)
  have N_41 := Fr.snoc X_37 N_31 hp3
  have F_42 : Fld Z h_36 x "java/lang/String" "value" "[B" (.ref a_10) := F_33.same W_39
  have C_43 : Steps p.tables e below S0 (T_35.setTop (mkF m 57 #[.val (.ref x), .val (.ref b), .val (.int (0 : Int32)), .val (.int (1 : Int32)), .val .null, .val (.ref a_10)] [])) := by
    refine C0.trans ?_
    refine XS.aloadN X0.here hx rfl (hb hby d0_0) rfl rfl ?_
    refine st_4 _ ?_
    refine XS.iloadN X_2.here hx rfl (hb hby d0_4) rfl ?_
    refine XS.ifYes X_2.here hx rfl (pc0 := 5) (pc' := 27) rfl (hb hby d0_5) rfl (by decide) (by decide) (by decide) ?_
    refine st_8 _ ?_
    refine XS.ifNo X_6.here hx rfl (hb hby d0_30) rfl (i0_eq_f P1) ?_
    refine XS.aloadN X_6.here hx rfl (hb hby d0_33) rfl rfl ?_
    refine XS.iloadN X_6.here hx rfl (hb hby d0_34) rfl ?_
    show Steps p.tables e below (T_5.setTop (mkF m 35 #[.val (.ref x), .val (.ref b), .val (.int (0 : Int32)), .val (.int (1 : Int32)), .val .null, .unset] [(.int (0 : Int32)), (.ref b)])) _
    refine XS.iloadN X_6.here hx rfl (hb hby d0_35) rfl ?_
    refine st_9 _ ?_
    refine XS.astore X_9.here hx rfl (hb hby d0_39) rfl rfl (l' := #[.val (.ref x), .val (.ref b), .val (.int (0 : Int32)), .val (.int (1 : Int32)), .val .null, .val (.ref a_10)]) rfl ?_
    refine XS.aloadN X_9.here hx rfl (hb hby d0_41) rfl rfl ?_
    refine XS.aload X_9.here hx rfl (hb hby d0_42) rfl rfl ?_
    refine XS.iloadN X_9.here hx rfl (hb hby d0_44) rfl ?_
    refine st_18 _ ?_
    refine st_30 _ ?_
    show Steps p.tables e below (T_25.setTop (mkF m 51 #[.val (.ref x), .val (.ref b), .val (.int (0 : Int32)), .val (.int (1 : Int32)), .val .null, .val (.ref a_10)] [])) _
    refine XS.aloadN X_27.here hx rfl (hb hby d0_51) rfl rfl ?_
    refine XS.aload X_27.here hx rfl (hb hby d0_52) rfl rfl ?_
    refine st_40 _ ?_
    exact Steps.refl _
  have E_44 : Exa Z h_36 x "java/lang/String" := (E_34.wr W_39)
  have F_45 : Fld Z h_36 x "java/lang/String" "coder" "B" (.int (0 : Int32)) := (F_32.other W_39 (Or.inr (slot_ne (Or.inr (w27 hw)) (Or.inr (w29 hw)) (by decide) (t := .byte) (by decide) (t' := (.array .byte)) (by decide))))
  have V_46 : Arv Z h_36 a_10 k_11 .byte (1 : Int32) [(.int (own_lo8 c0))] (.int (0 : Int32)) := ((g_15.other W_29 (Ne.symm (Nat.ne_of_lt (Nat.lt_of_lt_of_le hp0.lt (Nat.le_trans (Nat.le_refl _) g_14))))).other W_39 (Ne.symm (Nat.ne_of_lt (Nat.lt_of_lt_of_le hp0.lt (Nat.le_trans (Nat.le_refl _) g_14)))))
  have K_47 : Keep h0 h_36 [x] := ((((Keep.refl _ _).trans K_13 all0).wr W_29 (Or.inl (List.mem_of_getElem? (i := 0) rfl))).wr W_39 (Or.inl (List.mem_of_getElem? (i := 0) rfl)))
  obtain ⟨fs, hr, hrun, hended, hW, hsame⟩ := X_37.leave (v := none) (fun _ => rfl)
  refine ⟨_, _, C_43.trans (X_37.returnOut hx Bd.returns (hb hby d0_57) hr), hrun, hended, _, _, rfl, ?_, ⟨_, rfl⟩, hW, hsame.mono (by decide) (by decide)⟩
  show Q_si4_1 Z G1 G3 x b k c0 h0 n0 (none) T_35.heap _
  rw [e_38]
  exact ⟨a_10, k_11, rfl, N_41, K_47, E_44, F_45, F_42, (Nat.le_trans (Nat.le_refl _) g_14), V_46⟩
abbrev R_si1_1 : Room := { frames := 3, cells := 1, slots := 1, locals := 52 }
def Q_si1_1 (Z : State) (G1 : Int32) (G3 : Value) (x : Addr) (b : Addr) (k : ClassId) (c0 : Int32) (h0 : Heap) (n0 : Nat) (v : Option Value) (h : Heap) (L : List Loc) : Prop := (∃ t : Addr, ∃ kt : ClassId, v = none ∧ Fr n0 L ∧ Keep h0 h [x] ∧ (Exa Z h x "java/lang/String") ∧ (Fld Z h x "java/lang/String" "coder" "B" (.int (0 : Int32))) ∧ (Fld Z h x "java/lang/String" "value" "[B" (.ref t)) ∧ (h0.size ≤ t) ∧ (Arv Z h t kt .byte (1 : Int32) [(.int (own_lo8 c0))] (.int (0 : Int32))))
set_option maxRecDepth 65536 in
set_option maxHeartbeats 40000000 in
theorem rm_si1_1 (l : Launch) (Z : State) (a0 : Array Value) (hw : ∀ d ∈ tables_1, d.before a0 Z = true) (ws : List Jvm.Cond) (G1 : Int32) (G3 : Value) (HG : own_G l Z a0 G1 G3) (h0 : Heap) (n0 : Nat) (X00 : Old Z n0 h0) (x : Addr) (b : Addr) (k : ClassId) (c0 : Int32) (hp0 : Exa Z h0 x "java/lang/String") (hp1 : Fld Z h0 x "java/lang/String" "value" "[B" .null) (hp2 : Fld Z h0 x "java/lang/String" "coder" "B" (.int (0 : Int32))) (hp3 : n0 ≤ x) (hp4 : Arv Z h0 b k .char (1 : Int32) [(.int c0)] (.int (0 : Int32))) (hh0 : ¬ ((255 : Int32) < c0)) :
    own_CP l Z M25 jdk_42_method_3_code 2 none ws R_si1_1 #[(.ref x), (.ref b)] h0 (Q_si1_1 Z G1 G3 x b k c0 h0 n0) := by
  refine own_P (plainFor_of_name pn_2) ?_
  intro p e s m below meth c s₁ S0 Bd hZ hh hx hby hml hown hnm X0 e0 hS0d
  obtain ⟨O1, P1, O3f, rG3⟩ := id HG
  have N0 := Fr.nil n0
  have C0 : Steps p.tables e below S0 (s₁.setTop (mkF m 0 #[.val (.ref x), .val (.ref b)] [])) := by rw [hS0d]; exact castTop (ef_26 m x b) (Steps.refl _)
  obtain ⟨c_1, A_2, q_3, S_4, M_5, H_6, U_7⟩ := id hp4
  obtain ⟨_, _, ⟨T_8, L_8, k_8, n_8⟩, -, X_8, ⟨Lc_8, hQ_8, l_8, y_8, z_8⟩, st_8⟩ := X0.specialBack hx (y := M0) rfl hown (mvT hZ (w7 hw)) (mvT hZ (w8 hw)) (mvT hZ (w10 hw)) (by decide) (backOf (W := 0) (rm_si4_1 l Z a0 hw [] G1 G3 HG h0 n0 X00 x b k c0 hp0 hp1 hp2 hp3 hp4 hh0) hZ (w10 hw) (w3 hw) (by decide) (by decide)) (g := (mkF m 6 #[.val (.ref x), .val (.ref b)] [.null, (.int (1 : Int32)), (.int (0 : Int32)), (.ref b), (.ref x)])) rfl (by rw [hml]; rfl) (Steps.refl _) (a := x) (argsL := [(.ref b), (.int (0 : Int32)), (.int (1 : Int32)), .null]) (rest := []) (lenOf pd_35 rfl) rfl (by show 2 * 0 + _ ≤ _; exact Nat.le_of_eq rfl) (hb hby d1_6) (fun _ _ => ⟨rfl, e0, (by decide : 0 + 1 ≤ _), (by decide : 0 + 1 ≤ _)⟩)
  dsimp only [Pt.U, Pt.locs, Pt.cells, Pt.slots] at X_8 l_8 y_8 z_8 st_8 hQ_8
  subst l_8 y_8 z_8
  obtain ⟨a_9, k_10, rfl, N_11, K_12, g_13, g_14, g_15, g_16, g_17⟩ := hQ_8
  have N_18 := Fr.app N0 N_11
  have C_19 : Steps p.tables e below S0 (T_8.setTop (mkF m 9 #[.val (.ref x), .val (.ref b)] [])) := by
    refine C0.trans ?_
    refine XS.aloadN X0.here hx rfl (hb hby d1_0) rfl rfl ?_
    refine XS.aloadN X0.here hx rfl (hb hby d1_1) rfl rfl ?_
    refine XS.iconst X0.here hx rfl (hb hby d1_2) ?_
    refine XS.aloadN X0.here hx rfl (hb hby d1_3) rfl rfl ?_
    refine X0.arraylength hx (by rw [e0]; exact A_2.1) (State.isArrayOf_alike hZ.alike A_2.2.1) (g := (mkF m 4 #[.val (.ref x), .val (.ref b)] [(.ref b), (.int (0 : Int32)), (.ref b), (.ref x)])) rfl rfl (hb hby d1_4) _ ?_
    rw [len_of S_4 M_5]
    refine XS.aconstNull X0.here hx rfl (hb hby d1_5) ?_
    refine st_8.trans ?_
    exact Steps.refl _
  have K_20 : Keep h0 T_8.heap [x] := ((Keep.refl _ _).trans K_12 (allS (Or.inl (List.mem_of_getElem? (i := 0) rfl)) all0))
  obtain ⟨fs, hr, hrun, hended, hW, hsame⟩ := X_8.leave (v := none) (fun _ => rfl)
  refine ⟨_, _, C_19.trans (X_8.returnOut hx Bd.returns (hb hby d1_9) hr), hrun, hended, _, _, rfl, ?_, ⟨_, rfl⟩, hW, hsame.mono (by decide) (by decide)⟩
  show Q_si1_1 Z G1 G3 x b k c0 h0 n0 (none) T_8.heap _
  exact ⟨a_9, k_10, rfl, N_18, K_20, g_13, g_14, g_15, (Nat.le_trans (Nat.le_refl _) g_16), g_17⟩
abbrev R_cmp5_2 : Room := { frames := 0, cells := 0, slots := 0, locals := 0 }
def Q_cmp5_2 (Z : State) (G1 : Int32) (G3 : Value) (b : Addr) (k : ClassId) (t : Addr) (kt : ClassId) (c0 : Int32) (c1 : Int32) (h0 : Heap) (n0 : Nat) (v : Option Value) (h : Heap) (L : List Loc) : Prop := (v = some (.int (2 : Int32)) ∧ Fr n0 L ∧ Keep h0 h [t] ∧ (Arv Z h t kt .byte (2 : Int32) [(.int (own_lo8 c0)), (.int (own_lo8 c1))] (.int (0 : Int32))))
set_option maxRecDepth 65536 in
set_option maxHeartbeats 40000000 in
theorem rm_cmp5_2 (l : Launch) (Z : State) (a0 : Array Value) (hw : ∀ d ∈ tables_1, d.before a0 Z = true) (ws : List Jvm.Cond) (G1 : Int32) (G3 : Value) (HG : own_G l Z a0 G1 G3) (h0 : Heap) (n0 : Nat) (X00 : Old Z n0 h0) (b : Addr) (k : ClassId) (t : Addr) (kt : ClassId) (c0 : Int32) (c1 : Int32) (hp0 : Arv Z h0 b k .char (2 : Int32) [(.int c0), (.int c1)] (.int (0 : Int32))) (hp1 : Arv Z h0 t kt .byte (2 : Int32) [(.int (0 : Int32)), (.int (0 : Int32))] (.int (0 : Int32))) (hp2 : n0 ≤ t) (hp3 : b ≠ t) (hh0 : ¬ ((255 : Int32) < c0)) (hh1 : ¬ ((255 : Int32) < c1)) :
    own_CP l Z M40 jdk_52_method_21_code 7 (some .int) ws R_cmp5_2 #[(.ref b), (.int (0 : Int32)), (.ref t), (.int (0 : Int32)), (.int (2 : Int32))] h0 (Q_cmp5_2 Z G1 G3 b k t kt c0 c1 h0 n0) := by
  refine own_P (plainFor_of_name pn_42) ?_
  intro p e s m below meth c s₁ S0 Bd hZ hh hx hby hml hown hnm X0 e0 hS0d
  obtain ⟨O1, P1, O3f, rG3⟩ := id HG
  have N0 := Fr.nil n0
  have C0 : Steps p.tables e below S0 (s₁.setTop (mkF m 0 #[.val (.ref b), .val (.int (0 : Int32)), .val (.ref t), .val (.int (0 : Int32)), .val (.int (2 : Int32)), .unset, .unset] [])) := by rw [hS0d]; exact castTop (ef_41 m b (0 : Int32) t (0 : Int32) (2 : Int32)) (Steps.refl _)
  obtain ⟨c_1, A_2, q_3, S_4, M_5, H_6, U_7⟩ := id hp0
  have hin_8 : ¬ ((0 : Int32) < 0 ∨ c_1.slots.size ≤ (0 : Int32).toNatClampNeg) := inb_of S_4 ⟨(by decide : ¬ ((0 : Int32) < (0 : Int32))), (by decide : (0 : Int32) < (2 : Int32))⟩
  have hat_9 : c_1.slots[(0 : Int32).toNatClampNeg]? = some (.int c0) := Has.at H_6 hin_8 rfl
  obtain ⟨c_10, A_11, q_12, S_13, M_14, H_15, U_16⟩ := id hp1
  have hin_23 : ¬ ((0 : Int32) < 0 ∨ c_10.slots.size ≤ (0 : Int32).toNatClampNeg) := inb_of S_13 ⟨(by decide : ¬ ((0 : Int32) < (0 : Int32))), (by decide : (0 : Int32) < (2 : Int32))⟩
  obtain ⟨T_17, h_18, X_19, e_20, W_21, st_22⟩ := stB X0 hx hZ e0 A_11 (j := (0 : Int32)) hin_23 (g := (mkF m 31 #[.val (.ref b), .val (.int (0 : Int32)), .val (.ref t), .val (.int (0 : Int32)), .val (.int (2 : Int32)), .val (.int (0 : Int32)), .val (.int c0)] [(.int (c0.toInt8.toInt32)), (.int (0 : Int32)), (.ref t)])) rfl rfl (hb hby d2_31)
  have N_24 := Fr.snoc X_19 N0 hp2
  have V_25 : Arv Z h_18 t kt .byte (2 : Int32) [(.int (own_lo8 c0)), (.int (0 : Int32))] (.int (0 : Int32)) := Arv.set A_11 q_12 S_13 M_14 H_15 U_16 (fits_nar_byte _) W_21 0 rfl (Nat.le_of_ble_eq_true rfl)
  have V_26 : Arv Z h_18 b k .char (2 : Int32) [(.int c0), (.int c1)] (.int (0 : Int32)) := (hp0.other W_21 hp3)
  obtain ⟨c_27, A_28, q_29, S_30, M_31, H_32, U_33⟩ := id V_26
  have hin_34 : ¬ ((1 : Int32) < 0 ∨ c_27.slots.size ≤ (1 : Int32).toNatClampNeg) := inb_of S_30 ⟨(by decide : ¬ ((1 : Int32) < (0 : Int32))), (by decide : (1 : Int32) < (2 : Int32))⟩
  have hat_35 : c_27.slots[(1 : Int32).toNatClampNeg]? = some (.int c1) := Has.at H_32 hin_34 rfl
  obtain ⟨c_36, A_37, q_38, S_39, M_40, H_41, U_42⟩ := id V_25
  have hin_49 : ¬ ((1 : Int32) < 0 ∨ c_36.slots.size ≤ (1 : Int32).toNatClampNeg) := inb_of S_39 ⟨(by decide : ¬ ((1 : Int32) < (0 : Int32))), (by decide : (1 : Int32) < (2 : Int32))⟩
  obtain ⟨T_43, h_44, X_45, e_46, W_47, st_48⟩ := stB X_19 hx hZ e_20 A_37 (j := (1 : Int32)) hin_49 (g := (mkF m 31 #[.val (.ref b), .val (.int (1 : Int32)), .val (.ref t), .val (.int (1 : Int32)), .val (.int (2 : Int32)), .val (.int (1 : Int32)), .val (.int c1)] [(.int (c1.toInt8.toInt32)), (.int (1 : Int32)), (.ref t)])) rfl rfl (hb hby d2_31)
  have N_50 := Fr.snoc X_45 N_24 hp2
  have V_51 : Arv Z h_44 t kt .byte (2 : Int32) [(.int (own_lo8 c0)), (.int (own_lo8 c1))] (.int (0 : Int32)) := Arv.set A_37 q_38 S_39 M_40 H_41 U_42 (fits_nar_byte _) W_47 1 rfl (Nat.le_of_ble_eq_true rfl)
  have C_52 : Steps p.tables e below S0 (T_43.setTop (mkF m 46 #[.val (.ref b), .val (.int (2 : Int32)), .val (.ref t), .val (.int (2 : Int32)), .val (.int (2 : Int32)), .val (.int (2 : Int32)), .val (.int c1)] [(.int (2 : Int32))])) := by
    refine C0.trans ?_
    refine XS.iconst X0.here hx rfl (hb hby d2_0) ?_
    refine XS.istore X0.here hx rfl (hb hby d2_1) rfl (l' := #[.val (.ref b), .val (.int (0 : Int32)), .val (.ref t), .val (.int (0 : Int32)), .val (.int (2 : Int32)), .val (.int (0 : Int32)), .unset]) rfl ?_
    refine XS.iload X0.here hx rfl (hb hby d2_3) rfl ?_
    refine XS.iload X0.here hx rfl (hb hby d2_5) rfl ?_
    refine XS.icmpNo X0.here hx rfl (hb hby d2_7) rfl (by decide) ?_
    refine XS.aloadN X0.here hx rfl (hb hby d2_10) rfl rfl ?_
    refine XS.iloadN X0.here hx rfl (hb hby d2_11) rfl ?_
    refine X0.caload hx (j := (0 : Int32)) (v := (.int c0)) (by rw [e0]; exact A_2.1) (State.isArrayOf_alike hZ.alike A_2.2.1) A_2.2.2 hin_8 hat_9 (g := (mkF m 12 #[.val (.ref b), .val (.int (0 : Int32)), .val (.ref t), .val (.int (0 : Int32)), .val (.int (2 : Int32)), .val (.int (0 : Int32)), .unset] [(.int (0 : Int32)), (.ref b)])) rfl rfl (hb hby d2_12) _ ?_
    show Steps p.tables e below (s₁.setTop (mkF m 13 #[.val (.ref b), .val (.int (0 : Int32)), .val (.ref t), .val (.int (0 : Int32)), .val (.int (2 : Int32)), .val (.int (0 : Int32)), .unset] [(.int c0)])) _
    refine XS.istore X0.here hx rfl (hb hby d2_13) rfl (l' := #[.val (.ref b), .val (.int (0 : Int32)), .val (.ref t), .val (.int (0 : Int32)), .val (.int (2 : Int32)), .val (.int (0 : Int32)), .val (.int c0)]) rfl ?_
    refine XS.iload X0.here hx rfl (hb hby d2_15) rfl ?_
    refine XS.sipush X0.here hx rfl (hb hby d2_17) ?_
    refine XS.icmpYes X0.here hx rfl (pc0 := 20) (pc' := 26) rfl (hb hby d2_20) rfl (ii_le_t hh0) (by decide) (by decide) ?_
    refine XS.aloadN X0.here hx rfl (hb hby d2_26) rfl rfl ?_
    refine XS.iloadN X0.here hx rfl (hb hby d2_27) rfl ?_
    refine XS.iload X0.here hx rfl (hb hby d2_28) rfl ?_
    refine XS.i2b X0.here hx rfl (hb hby d2_30) rfl ?_
    show Steps p.tables e below (s₁.setTop (mkF m 31 #[.val (.ref b), .val (.int (0 : Int32)), .val (.ref t), .val (.int (0 : Int32)), .val (.int (2 : Int32)), .val (.int (0 : Int32)), .val (.int c0)] [(.int (c0.toInt8.toInt32)), (.int (0 : Int32)), (.ref t)])) _
    refine st_22 _ ?_
    refine XS.iinc X_19.here hx rfl (hb hby d2_32) (x := (0 : Int32)) rfl (l' := #[.val (.ref b), .val (.int (1 : Int32)), .val (.ref t), .val (.int (0 : Int32)), .val (.int (2 : Int32)), .val (.int (0 : Int32)), .val (.int c0)]) rfl ?_
    refine XS.iinc X_19.here hx rfl (hb hby d2_35) (x := (0 : Int32)) rfl (l' := #[.val (.ref b), .val (.int (1 : Int32)), .val (.ref t), .val (.int (1 : Int32)), .val (.int (2 : Int32)), .val (.int (0 : Int32)), .val (.int c0)]) rfl ?_
    refine XS.iinc X_19.here hx rfl (hb hby d2_38) (x := (0 : Int32)) rfl (l' := #[.val (.ref b), .val (.int (1 : Int32)), .val (.ref t), .val (.int (1 : Int32)), .val (.int (2 : Int32)), .val (.int (1 : Int32)), .val (.int c0)]) rfl ?_
    refine XS.goto X_19.here hx rfl (pc0 := 41) (pc' := 3) rfl (hb hby d2_41) (by decide) (by decide) ?_
    refine XS.iload X_19.here hx rfl (hb hby d2_3) rfl ?_
    refine XS.iload X_19.here hx rfl (hb hby d2_5) rfl ?_
    refine XS.icmpNo X_19.here hx rfl (hb hby d2_7) rfl (by decide) ?_
    show Steps p.tables e below (T_17.setTop (mkF m 10 #[.val (.ref b), .val (.int (1 : Int32)), .val (.ref t), .val (.int (1 : Int32)), .val (.int (2 : Int32)), .val (.int (1 : Int32)), .val (.int c0)] [])) _
    refine XS.aloadN X_19.here hx rfl (hb hby d2_10) rfl rfl ?_
    refine XS.iloadN X_19.here hx rfl (hb hby d2_11) rfl ?_
    refine X_19.caload hx (j := (1 : Int32)) (v := (.int c1)) (by rw [e_20]; exact A_28.1) (State.isArrayOf_alike hZ.alike A_28.2.1) A_28.2.2 hin_34 hat_35 (g := (mkF m 12 #[.val (.ref b), .val (.int (1 : Int32)), .val (.ref t), .val (.int (1 : Int32)), .val (.int (2 : Int32)), .val (.int (1 : Int32)), .val (.int c0)] [(.int (1 : Int32)), (.ref b)])) rfl rfl (hb hby d2_12) _ ?_
    refine XS.istore X_19.here hx rfl (hb hby d2_13) rfl (l' := #[.val (.ref b), .val (.int (1 : Int32)), .val (.ref t), .val (.int (1 : Int32)), .val (.int (2 : Int32)), .val (.int (1 : Int32)), .val (.int c1)]) rfl ?_
    refine XS.iload X_19.here hx rfl (hb hby d2_15) rfl ?_
    refine XS.sipush X_19.here hx rfl (hb hby d2_17) ?_
    refine XS.icmpYes X_19.here hx rfl (pc0 := 20) (pc' := 26) rfl (hb hby d2_20) rfl (ii_le_t hh1) (by decide) (by decide) ?_
    refine XS.aloadN X_19.here hx rfl (hb hby d2_26) rfl rfl ?_
    show Steps p.tables e below (T_17.setTop (mkF m 27 #[.val (.ref b), .val (.int (1 : Int32)), .val (.ref t), .val (.int (1 : Int32)), .val (.int (2 : Int32)), .val (.int (1 : Int32)), .val (.int c1)] [(.ref t)])) _
    refine XS.iloadN X_19.here hx rfl (hb hby d2_27) rfl ?_
    refine XS.iload X_19.here hx rfl (hb hby d2_28) rfl ?_
    refine XS.i2b X_19.here hx rfl (hb hby d2_30) rfl ?_
    refine st_48 _ ?_
    refine XS.iinc X_45.here hx rfl (hb hby d2_32) (x := (1 : Int32)) rfl (l' := #[.val (.ref b), .val (.int (2 : Int32)), .val (.ref t), .val (.int (1 : Int32)), .val (.int (2 : Int32)), .val (.int (1 : Int32)), .val (.int c1)]) rfl ?_
    refine XS.iinc X_45.here hx rfl (hb hby d2_35) (x := (1 : Int32)) rfl (l' := #[.val (.ref b), .val (.int (2 : Int32)), .val (.ref t), .val (.int (2 : Int32)), .val (.int (2 : Int32)), .val (.int (1 : Int32)), .val (.int c1)]) rfl ?_
    refine XS.iinc X_45.here hx rfl (hb hby d2_38) (x := (1 : Int32)) rfl (l' := #[.val (.ref b), .val (.int (2 : Int32)), .val (.ref t), .val (.int (2 : Int32)), .val (.int (2 : Int32)), .val (.int (2 : Int32)), .val (.int c1)]) rfl ?_
    refine XS.goto X_45.here hx rfl (pc0 := 41) (pc' := 3) rfl (hb hby d2_41) (by decide) (by decide) ?_
    show Steps p.tables e below (T_43.setTop (mkF m 3 #[.val (.ref b), .val (.int (2 : Int32)), .val (.ref t), .val (.int (2 : Int32)), .val (.int (2 : Int32)), .val (.int (2 : Int32)), .val (.int c1)] [])) _
    refine XS.iload X_45.here hx rfl (hb hby d2_3) rfl ?_
    refine XS.iload X_45.here hx rfl (hb hby d2_5) rfl ?_
    refine XS.icmpYes X_45.here hx rfl (pc0 := 7) (pc' := 44) rfl (hb hby d2_7) rfl (by decide) (by decide) (by decide) ?_
    refine XS.iload X_45.here hx rfl (hb hby d2_44) rfl ?_
    exact Steps.refl _
  have K_53 : Keep h0 h_44 [t] := (((Keep.refl _ _).wr W_21 (Or.inl (List.mem_of_getElem? (i := 0) rfl))).wr W_47 (Or.inl (List.mem_of_getElem? (i := 0) rfl)))
  obtain ⟨fs, hr, hrun, hended, hW, hsame⟩ := X_45.leave (v := some (.int (2 : Int32))) (fun h => by rw [Bd.returns] at h; cases h)
  refine ⟨_, _, C_52.trans (retOut X_45 hx Bd.returns rfl (Or.inl ⟨rfl, Or.inl rfl, _, rfl⟩) (hb hby d2_46) hr), hrun, hended, _, _, rfl, ?_, ⟨_, rfl⟩, hW, hsame.mono (by decide) (by decide)⟩
  show Q_cmp5_2 Z G1 G3 b k t kt c0 c1 h0 n0 (some (.int (2 : Int32))) T_43.heap _
  rw [e_46]
  exact ⟨rfl, N_50, K_53, V_51⟩
abbrev R_cmp3_2 : Room := { frames := 1, cells := 1, slots := 2, locals := 18 }
def Q_cmp3_2 (Z : State) (G1 : Int32) (G3 : Value) (b : Addr) (k : ClassId) (c0 : Int32) (c1 : Int32) (h0 : Heap) (n0 : Nat) (v : Option Value) (h : Heap) (L : List Loc) : Prop := (∃ t : Addr, ∃ kt : ClassId, v = some (.ref t) ∧ Fr n0 L ∧ Keep h0 h [] ∧ (h0.size ≤ t) ∧ (Arv Z h t kt .byte (2 : Int32) [(.int (own_lo8 c0)), (.int (own_lo8 c1))] (.int (0 : Int32))))
set_option maxRecDepth 65536 in
set_option maxHeartbeats 40000000 in
theorem rm_cmp3_2 (l : Launch) (Z : State) (a0 : Array Value) (hw : ∀ d ∈ tables_1, d.before a0 Z = true) (ws : List Jvm.Cond) (G1 : Int32) (G3 : Value) (HG : own_G l Z a0 G1 G3) (h0 : Heap) (n0 : Nat) (X00 : Old Z n0 h0) (b : Addr) (k : ClassId) (c0 : Int32) (c1 : Int32) (hp0 : Arv Z h0 b k .char (2 : Int32) [(.int c0), (.int c1)] (.int (0 : Int32))) (hh0 : ¬ ((255 : Int32) < c0)) (hh1 : ¬ ((255 : Int32) < c1)) :
    own_CP l Z M66 jdk_52_method_16_code 6 (some (.array .byte)) ws R_cmp3_2 #[(.ref b), (.int (0 : Int32)), (.int (2 : Int32))] h0 (Q_cmp3_2 Z G1 G3 b k c0 c1 h0 n0) := by
  refine own_P (plainFor_of_name pn_42) ?_
  intro p e s m below meth c s₁ S0 Bd hZ hh hx hby hml hown hnm X0 e0 hS0d
  obtain ⟨O1, P1, O3f, rG3⟩ := id HG
  have N0 := Fr.nil n0
  have C0 : Steps p.tables e below S0 (s₁.setTop (mkF m 0 #[.val (.ref b), .val (.int (0 : Int32)), .val (.int (2 : Int32)), .unset, .unset, .unset] [])) := by rw [hS0d]; exact castTop (ef_67 m b (0 : Int32) (2 : Int32)) (Steps.refl _)
  obtain ⟨T_1, h_2, k_3, X_4, e_5, E_6, A_7, st_8⟩ := newP (aty := .byte) X0 hx hZ (w19 hw) e0 (g := (mkF m 1 #[.val (.ref b), .val (.int (0 : Int32)), .val (.int (2 : Int32)), .unset, .unset, .unset] [(.int (2 : Int32))])) rfl (hb hby d3_1) rfl (by decide : ¬ ((2 : Int32) < (0 : Int32))) (cap := 2) (by decide : (2 : Int32).toNatClampNeg ≤ 2) (by decide) (by decide) (by decide)
  obtain ⟨a_9, g_10⟩ : ∃ z, z = h0.size := ⟨_, rfl⟩
  rw [← g_10] at A_7 st_8
  have V_12 : Arv Z h_2 a_9 k_3 .byte (2 : Int32) [] (.int (0 : Int32)) := Arv.new A_7 (by decide : ¬ ((2 : Int32) < (0 : Int32)))
  have V_11 : Arv Z h_2 a_9 k_3 .byte (2 : Int32) [(.int (0 : Int32)), (.int (0 : Int32))] (.int (0 : Int32)) := (V_12.pad (pad_rep [] (.int (0 : Int32)) 2))
  have V_13 : Arv Z h_2 b k .char (2 : Int32) [(.int c0), (.int c1)] (.int (0 : Int32)) := (hp0.ext E_6)
  have O_14 : Old Z n0 h_2 := (X00.ext E_6)
  obtain ⟨_, _, ⟨T_15, L_15, k_15, n_15⟩, -, X_15, ⟨Lc_15, hQ_15, l_15, y_15, z_15⟩, st_15⟩ := Jvm.LawKit.callS X_4 hx (y := M40) hown (mvT hZ (w20 hw)) (mvT hZ (w21 hw)) (mvT hZ (w17 hw)) (mvT hZ (w22 hw)) (by decide) (backOf (W := 0) (rm_cmp5_2 l Z a0 hw [] G1 G3 HG h_2 n0 O_14 b k a_9 k_3 c0 c1 V_13 V_11 (Nat.le_trans (own_n0 X00) (Nat.le_of_eq g_10.symm)) (Nat.ne_of_lt (Nat.lt_of_lt_of_le hp0.lt (Nat.le_trans (Nat.le_refl _) (Nat.le_of_eq g_10.symm)))) hh0 hh1) hZ (w22 hw) (w17 hw) (by decide) (by decide)) (g := (mkF m 9 #[.val (.ref b), .val (.int (0 : Int32)), .val (.int (2 : Int32)), .val (.ref a_9), .unset, .unset] [(.int (2 : Int32)), (.int (0 : Int32)), (.ref a_9), (.int (0 : Int32)), (.ref b)])) rfl (by rw [hml]; rfl) (argsL := [(.ref b), (.int (0 : Int32)), (.ref a_9), (.int (0 : Int32)), (.int (2 : Int32))]) (rest := []) (lenOf pd_79 rfl) rfl (by show 2 * 0 + _ ≤ _; exact Nat.le_of_eq rfl) (hb hby d3_9) (fun _ _ => ⟨rfl, e_5, (by decide : 1 + 0 ≤ _), (by decide : 2 + 0 ≤ _)⟩)
  dsimp only [Pt.U, Pt.locs, Pt.cells, Pt.slots] at X_15 l_15 y_15 z_15 st_15 hQ_15
  subst l_15 y_15 z_15
  obtain ⟨rfl, N_16, K_17, g_18⟩ := hQ_15
  have N_19 := Fr.app N0 N_16
  have C_20 : Steps p.tables e below S0 (T_15.setTop (mkF m 58 #[.val (.ref b), .val (.int (0 : Int32)), .val (.int (2 : Int32)), .val (.ref a_9), .val (.int (2 : Int32)), .unset] [(.ref a_9)])) := by
    refine C0.trans ?_
    refine XS.iloadN X0.here hx rfl (hb hby d3_0) rfl ?_
    refine st_8 _ ?_
    refine XS.astoreN X_4.here hx rfl (hb hby d3_3) rfl rfl (l' := #[.val (.ref b), .val (.int (0 : Int32)), .val (.int (2 : Int32)), .val (.ref a_9), .unset, .unset]) rfl ?_
    refine XS.aloadN X_4.here hx rfl (hb hby d3_4) rfl rfl ?_
    refine XS.iloadN X_4.here hx rfl (hb hby d3_5) rfl ?_
    refine XS.aloadN X_4.here hx rfl (hb hby d3_6) rfl rfl ?_
    refine XS.iconst X_4.here hx rfl (hb hby d3_7) ?_
    refine XS.iloadN X_4.here hx rfl (hb hby d3_8) rfl ?_
    show Steps p.tables e below (T_1.setTop (mkF m 9 #[.val (.ref b), .val (.int (0 : Int32)), .val (.int (2 : Int32)), .val (.ref a_9), .unset, .unset] [(.int (2 : Int32)), (.int (0 : Int32)), (.ref a_9), (.int (0 : Int32)), (.ref b)])) _
    refine st_15 _ ?_
    refine XS.istore X_15.here hx rfl (hb hby d3_12) rfl (l' := #[.val (.ref b), .val (.int (0 : Int32)), .val (.int (2 : Int32)), .val (.ref a_9), .val (.int (2 : Int32)), .unset]) rfl ?_
    refine XS.iload X_15.here hx rfl (hb hby d3_14) rfl ?_
    refine XS.iloadN X_15.here hx rfl (hb hby d3_16) rfl ?_
    refine XS.icmpYes X_15.here hx rfl (pc0 := 17) (pc' := 57) rfl (hb hby d3_17) rfl (by decide) (by decide) (by decide) ?_
    refine XS.aloadN X_15.here hx rfl (hb hby d3_57) rfl rfl ?_
    exact Steps.refl _
  have K_21 : Keep h0 T_15.heap [] := (((Keep.refl _ _).ext E_6).trans K_17 (allS (Or.inr (Nat.le_trans (Nat.le_refl _) (Nat.le_of_eq g_10.symm))) all0))
  obtain ⟨fs, hr, hrun, hended, hW, hsame⟩ := X_15.leave (v := some (.ref a_9)) (fun h => by rw [Bd.returns] at h; cases h)
  refine ⟨_, _, C_20.trans (retOut X_15 hx Bd.returns rfl (Or.inr (Or.inr (Or.inr (Or.inr ⟨rfl, rfl, rfl⟩)))) (hb hby d3_58) hr), hrun, hended, _, _, rfl, ?_, ⟨_, rfl⟩, hW, hsame.mono (by decide) (by decide)⟩
  show Q_cmp3_2 Z G1 G3 b k c0 c1 h0 n0 (some (.ref a_9)) T_15.heap _
  exact ⟨a_9, k_3, rfl, N_19, K_21, (Nat.le_trans (Nat.le_refl _) (Nat.le_of_eq g_10.symm)), g_18⟩
abbrev R_codl_2 : Room := { frames := 0, cells := 0, slots := 0, locals := 0 }
def Q_codl_2 (Z : State) (G1 : Int32) (G3 : Value) (t : Addr) (kt : ClassId) (y0 : Int32) (y1 : Int32) (h0 : Heap) (n0 : Nat) (v : Option Value) (h : Heap) (L : List Loc) : Prop := (v = some (.int (0 : Int32)) ∧ Fr n0 L ∧ h = h0)
set_option maxRecDepth 65536 in
set_option maxHeartbeats 40000000 in
theorem rm_codl_2 (l : Launch) (Z : State) (a0 : Array Value) (hw : ∀ d ∈ tables_1, d.before a0 Z = true) (ws : List Jvm.Cond) (G1 : Int32) (G3 : Value) (HG : own_G l Z a0 G1 G3) (h0 : Heap) (n0 : Nat) (X00 : Old Z n0 h0) (t : Addr) (kt : ClassId) (y0 : Int32) (y1 : Int32) (hp0 : Arv Z h0 t kt .byte (2 : Int32) [(.int y0), (.int y1)] (.int (0 : Int32))) :
    own_CP l Z M89 jdk_52_method_15_code 2 (some .byte) ws R_codl_2 #[(.ref t), (.int (2 : Int32))] h0 (Q_codl_2 Z G1 G3 t kt y0 y1 h0 n0) := by
  refine own_P (plainFor_of_name pn_42) ?_
  intro p e s m below meth c s₁ S0 Bd hZ hh hx hby hml hown hnm X0 e0 hS0d
  obtain ⟨O1, P1, O3f, rG3⟩ := id HG
  have N0 := Fr.nil n0
  have C0 : Steps p.tables e below S0 (s₁.setTop (mkF m 0 #[.val (.ref t), .val (.int (2 : Int32))] [])) := by rw [hS0d]; exact castTop (ef_90 m t (2 : Int32)) (Steps.refl _)
  obtain ⟨c_1, A_2, q_3, S_4, M_5, H_6, U_7⟩ := id hp0
  have C_8 : Steps p.tables e below S0 (s₁.setTop (mkF m 8 #[.val (.ref t), .val (.int (2 : Int32))] [(.int (0 : Int32))])) := by
    refine C0.trans ?_
    refine XS.iloadN X0.here hx rfl (hb hby d4_0) rfl ?_
    refine XS.aloadN X0.here hx rfl (hb hby d4_1) rfl rfl ?_
    refine X0.arraylength hx (by rw [e0]; exact A_2.1) (State.isArrayOf_alike hZ.alike A_2.2.1) (g := (mkF m 2 #[.val (.ref t), .val (.int (2 : Int32))] [(.ref t), (.int (2 : Int32))])) rfl rfl (hb hby d4_2) _ ?_
    rw [len_of S_4 M_5]
    refine XS.isub X0.here hx rfl (hb hby d4_3) rfl ?_
    refine XS.bipush X0.here hx rfl (hb hby d4_4) ?_
    refine XS.iushr X0.here hx rfl (hb hby d4_6) rfl ?_
    refine XS.i2b X0.here hx rfl (hb hby d4_7) rfl ?_
    exact Steps.refl _
  obtain ⟨fs, hr, hrun, hended, hW, hsame⟩ := X0.leave (v := some (.int (0 : Int32))) (fun h => by rw [Bd.returns] at h; cases h)
  refine ⟨_, _, C_8.trans (retN X0 hx (t := .byte) Bd.returns (by simp) (hb hby d4_8) hr), hrun, hended, _, _, rfl, ?_, ⟨_, rfl⟩, hW, hsame.mono (by decide) (by decide)⟩
  show Q_codl_2 Z G1 G3 t kt y0 y1 h0 n0 (some (.int (0 : Int32))) s₁.heap _
  rw [e0]
  exact ⟨rfl, N0, rfl⟩
abbrev R_si4_2 : Room := { frames := 2, cells := 1, slots := 2, locals := 35 }
def Q_si4_2 (Z : State) (G1 : Int32) (G3 : Value) (x : Addr) (b : Addr) (k : ClassId) (c0 : Int32) (c1 : Int32) (h0 : Heap) (n0 : Nat) (v : Option Value) (h : Heap) (L : List Loc) : Prop := (∃ t : Addr, ∃ kt : ClassId, v = none ∧ Fr n0 L ∧ Keep h0 h [x] ∧ (Exa Z h x "java/lang/String") ∧ (Fld Z h x "java/lang/String" "coder" "B" (.int (0 : Int32))) ∧ (Fld Z h x "java/lang/String" "value" "[B" (.ref t)) ∧ (h0.size ≤ t) ∧ (Arv Z h t kt .byte (2 : Int32) [(.int (own_lo8 c0)), (.int (own_lo8 c1))] (.int (0 : Int32))))
set_option maxRecDepth 65536 in
set_option maxHeartbeats 40000000 in
theorem rm_si4_2 (l : Launch) (Z : State) (a0 : Array Value) (hw : ∀ d ∈ tables_1, d.before a0 Z = true) (ws : List Jvm.Cond) (G1 : Int32) (G3 : Value) (HG : own_G l Z a0 G1 G3) (h0 : Heap) (n0 : Nat) (X00 : Old Z n0 h0) (x : Addr) (b : Addr) (k : ClassId) (c0 : Int32) (c1 : Int32) (hp0 : Exa Z h0 x "java/lang/String") (hp1 : Fld Z h0 x "java/lang/String" "value" "[B" .null) (hp2 : Fld Z h0 x "java/lang/String" "coder" "B" (.int (0 : Int32))) (hp3 : n0 ≤ x) (hp4 : Arv Z h0 b k .char (2 : Int32) [(.int c0), (.int c1)] (.int (0 : Int32))) (hh0 : ¬ ((255 : Int32) < c0)) (hh1 : ¬ ((255 : Int32) < c1)) :
    own_CP l Z M0 jdk_42_method_149_code 6 none ws R_si4_2 #[(.ref x), (.ref b), (.int (0 : Int32)), (.int (2 : Int32)), .null] h0 (Q_si4_2 Z G1 G3 x b k c0 c1 h0 n0) := by
  refine own_P (plainFor_of_name pn_2) ?_
  intro p e s m below meth c s₁ S0 Bd hZ hh hx hby hml hown hnm X0 e0 hS0d
  obtain ⟨O1, P1, O3f, rG3⟩ := id HG
  have N0 := Fr.nil n0
  have C0 : Steps p.tables e below S0 (s₁.setTop (mkF m 0 #[.val (.ref x), .val (.ref b), .val (.int (0 : Int32)), .val (.int (2 : Int32)), .val .null, .unset] [])) := by rw [hS0d]; exact castTop (ef_1 m x b (0 : Int32) (2 : Int32)) (Steps.refl _)
  obtain ⟨T_1, X_2, e_3, st_4⟩ := initO X0 hx hZ hown (w11 hw) (w12 hw) (w13 hw) e0 (g := (mkF m 1 #[.val (.ref x), .val (.ref b), .val (.int (0 : Int32)), .val (.int (2 : Int32)), .val .null, .unset] [(.ref x)])) rfl (by rw [hml]; rfl) rfl (hb hby d0_1) (by decide) (W := 0) (by show 2 * 0 + _ ≤ _; exact Nat.le_of_eq rfl) (by decide)
  obtain ⟨T_5, X_6, e_7, st_8⟩ := getS X_2 hx hZ (host := "") hown (w14 hw) Via.refl e_3 (O1.ext X00.2) (g := (mkF m 27 #[.val (.ref x), .val (.ref b), .val (.int (0 : Int32)), .val (.int (2 : Int32)), .val .null, .unset] [])) rfl (hb hby d0_27)
  obtain ⟨_, _, ⟨T_9, L_9, k_9, n_9⟩, -, X_9, ⟨Lc_9, hQ_9, l_9, y_9, z_9⟩, st_9⟩ := Jvm.LawKit.callS X_6 hx (y := M66) hown (mvT hZ (w15 hw)) (mvT hZ (w16 hw)) (mvT hZ (w17 hw)) (mvT hZ (w18 hw)) (by decide) (backOf (W := 0) (rm_cmp3_2 l Z a0 hw [] G1 G3 HG h0 n0 X00 b k c0 c1 hp4 hh0 hh1) hZ (w18 hw) (w17 hw) (by decide) (by decide)) (g := (mkF m 36 #[.val (.ref x), .val (.ref b), .val (.int (0 : Int32)), .val (.int (2 : Int32)), .val .null, .unset] [(.int (2 : Int32)), (.int (0 : Int32)), (.ref b)])) rfl (by rw [hml]; rfl) (argsL := [(.ref b), (.int (0 : Int32)), (.int (2 : Int32))]) (rest := []) (lenOf pd_106 rfl) rfl (by show 2 * 0 + _ ≤ _; exact Nat.le_of_eq rfl) (hb hby d0_36) (fun _ _ => ⟨rfl, e_7, (by decide : 0 + 1 ≤ _), (by decide : 0 + 2 ≤ _)⟩)
  dsimp only [Pt.U, Pt.locs, Pt.cells, Pt.slots] at X_9 l_9 y_9 z_9 st_9 hQ_9
  subst l_9 y_9 z_9
  obtain ⟨a_10, k_11, rfl, N_12, K_13, g_14, g_15⟩ := hQ_9
  have N_16 := Fr.app N0 N_12
  have O_17 : Old Z n0 T_9.heap := (X00.keep K_13 all0)
  obtain ⟨_, _, ⟨T_18, L_18, k_18, n_18⟩, -, X_18, ⟨Lc_18, hQ_18, l_18, y_18, z_18⟩, st_18⟩ := Jvm.LawKit.callS X_9 hx (y := M89) hown (mvT hZ (w23 hw)) (mvT hZ (w24 hw)) (mvT hZ (w17 hw)) (mvT hZ (w25 hw)) (by decide) (backOf (W := 1) (rm_codl_2 l Z a0 hw [] G1 G3 HG T_9.heap n0 O_17 a_10 k_11 (own_lo8 c0) (own_lo8 c1) g_15) hZ (w25 hw) (w17 hw) (by decide) (by decide)) (g := (mkF m 45 #[.val (.ref x), .val (.ref b), .val (.int (0 : Int32)), .val (.int (2 : Int32)), .val .null, .val (.ref a_10)] [(.int (2 : Int32)), (.ref a_10), (.ref x)])) rfl (by rw [hml]; rfl) (argsL := [(.ref a_10), (.int (2 : Int32))]) (rest := [(.ref x)]) (lenOf pd_115 rfl) rfl (by show 2 * 0 + _ ≤ _; exact Nat.le_of_eq rfl) (hb hby d0_45) (fun _ _ => ⟨rfl, rfl, (by decide : 1 + 0 ≤ _), (by decide : 2 + 0 ≤ _)⟩)
  dsimp only [Pt.U, Pt.locs, Pt.cells, Pt.slots] at X_18 l_18 y_18 z_18 st_18 hQ_18
  subst l_18 y_18 z_18
  obtain ⟨rfl, N_19, e_20⟩ := hQ_18
  have N_21 := Fr.app N_16 N_19
  have e_22 : T_18.heap = T_9.heap := e_20
  have F_23 : Fld Z T_9.heap x "java/lang/String" "coder" "B" (.int (0 : Int32)) := (hp2.keep K_13 nin0)
  have E_24 : Exa Z T_9.heap x "java/lang/String" := (hp0.keep K_13)
  obtain ⟨T_25, h_26, X_27, e_28, W_29, st_30⟩ := putF X_18 hx hZ hown (host := "") (Or.inl (w26 hw)) Via.refl e_22 F_23 E_24 (Or.inr ⟨(w27 hw), rfl, hnm⟩) (w2 hw) (ty := .byte) (by decide) rfl (by decide) (g := (mkF m 48 #[.val (.ref x), .val (.ref b), .val (.int (0 : Int32)), .val (.int (2 : Int32)), .val .null, .val (.ref a_10)] [(.int (0 : Int32)), (.ref x)])) rfl rfl (hb hby d0_48)
  have N_31 := Fr.snoc X_27 N_21 hp3
  have F_32 : Fld Z h_26 x "java/lang/String" "coder" "B" (.int (0 : Int32)) := F_23.same W_29
  have F_33 : Fld Z h_26 x "java/lang/String" "value" "[B" .null := ((hp1.keep K_13 nin0).other W_29 (Or.inr (slot_ne (Or.inr (w29 hw)) (Or.inr (w27 hw)) (by decide) (t := (.array .byte)) (by decide) (t' := .byte) (by decide))))
  have E_34 : Exa Z h_26 x "java/lang/String" := (E_24.wr W_29)
  obtain ⟨T_35, h_36, X_37, e_38, W_39, st_40⟩ := putF X_27 hx hZ hown (host := "") (Or.inl (w28 hw)) Via.refl e_28 F_33 E_34 (Or.inr ⟨(w29 hw), rfl, hnm⟩) (w2 hw) (ty := (.array .byte)) (by decide) rfl rfl (g := (mkF m 54 #[.val (.ref x), .val (.ref b), .val (.int (0 : Int32)), .val (.int (2 : Int32)), .val .null, .val (.ref a_10)] [(.ref a_10), (.ref x)])) rfl rfl (hb hby d0_54)
  have N_41 := Fr.snoc X_37 N_31 hp3
  have F_42 : Fld Z h_36 x "java/lang/String" "value" "[B" (.ref a_10) := F_33.same W_39
  have C_43 : Steps p.tables e below S0 (T_35.setTop (mkF m 57 #[.val (.ref x), .val (.ref b), .val (.int (0 : Int32)), .val (.int (2 : Int32)), .val .null, .val (.ref a_10)] [])) := by
    refine C0.trans ?_
    refine XS.aloadN X0.here hx rfl (hb hby d0_0) rfl rfl ?_
    refine st_4 _ ?_
    refine XS.iloadN X_2.here hx rfl (hb hby d0_4) rfl ?_
    refine XS.ifYes X_2.here hx rfl (pc0 := 5) (pc' := 27) rfl (hb hby d0_5) rfl (by decide) (by decide) (by decide) ?_
    refine st_8 _ ?_
    refine XS.ifNo X_6.here hx rfl (hb hby d0_30) rfl (i0_eq_f P1) ?_
    refine XS.aloadN X_6.here hx rfl (hb hby d0_33) rfl rfl ?_
    refine XS.iloadN X_6.here hx rfl (hb hby d0_34) rfl ?_
    show Steps p.tables e below (T_5.setTop (mkF m 35 #[.val (.ref x), .val (.ref b), .val (.int (0 : Int32)), .val (.int (2 : Int32)), .val .null, .unset] [(.int (0 : Int32)), (.ref b)])) _
    refine XS.iloadN X_6.here hx rfl (hb hby d0_35) rfl ?_
    refine st_9 _ ?_
    refine XS.astore X_9.here hx rfl (hb hby d0_39) rfl rfl (l' := #[.val (.ref x), .val (.ref b), .val (.int (0 : Int32)), .val (.int (2 : Int32)), .val .null, .val (.ref a_10)]) rfl ?_
    refine XS.aloadN X_9.here hx rfl (hb hby d0_41) rfl rfl ?_
    refine XS.aload X_9.here hx rfl (hb hby d0_42) rfl rfl ?_
    refine XS.iloadN X_9.here hx rfl (hb hby d0_44) rfl ?_
    refine st_18 _ ?_
    refine st_30 _ ?_
    show Steps p.tables e below (T_25.setTop (mkF m 51 #[.val (.ref x), .val (.ref b), .val (.int (0 : Int32)), .val (.int (2 : Int32)), .val .null, .val (.ref a_10)] [])) _
    refine XS.aloadN X_27.here hx rfl (hb hby d0_51) rfl rfl ?_
    refine XS.aload X_27.here hx rfl (hb hby d0_52) rfl rfl ?_
    refine st_40 _ ?_
    exact Steps.refl _
  have E_44 : Exa Z h_36 x "java/lang/String" := (E_34.wr W_39)
  have F_45 : Fld Z h_36 x "java/lang/String" "coder" "B" (.int (0 : Int32)) := (F_32.other W_39 (Or.inr (slot_ne (Or.inr (w27 hw)) (Or.inr (w29 hw)) (by decide) (t := .byte) (by decide) (t' := (.array .byte)) (by decide))))
  have V_46 : Arv Z h_36 a_10 k_11 .byte (2 : Int32) [(.int (own_lo8 c0)), (.int (own_lo8 c1))] (.int (0 : Int32)) := ((g_15.other W_29 (Ne.symm (Nat.ne_of_lt (Nat.lt_of_lt_of_le hp0.lt (Nat.le_trans (Nat.le_refl _) g_14))))).other W_39 (Ne.symm (Nat.ne_of_lt (Nat.lt_of_lt_of_le hp0.lt (Nat.le_trans (Nat.le_refl _) g_14)))))
  have K_47 : Keep h0 h_36 [x] := ((((Keep.refl _ _).trans K_13 all0).wr W_29 (Or.inl (List.mem_of_getElem? (i := 0) rfl))).wr W_39 (Or.inl (List.mem_of_getElem? (i := 0) rfl)))
  obtain ⟨fs, hr, hrun, hended, hW, hsame⟩ := X_37.leave (v := none) (fun _ => rfl)
  refine ⟨_, _, C_43.trans (X_37.returnOut hx Bd.returns (hb hby d0_57) hr), hrun, hended, _, _, rfl, ?_, ⟨_, rfl⟩, hW, hsame.mono (by decide) (by decide)⟩
  show Q_si4_2 Z G1 G3 x b k c0 c1 h0 n0 (none) T_35.heap _
  rw [e_38]
  exact ⟨a_10, k_11, rfl, N_41, K_47, E_44, F_45, F_42, (Nat.le_trans (Nat.le_refl _) g_14), V_46⟩
abbrev R_si1_2 : Room := { frames := 3, cells := 1, slots := 2, locals := 52 }
def Q_si1_2 (Z : State) (G1 : Int32) (G3 : Value) (x : Addr) (b : Addr) (k : ClassId) (c0 : Int32) (c1 : Int32) (h0 : Heap) (n0 : Nat) (v : Option Value) (h : Heap) (L : List Loc) : Prop := (∃ t : Addr, ∃ kt : ClassId, v = none ∧ Fr n0 L ∧ Keep h0 h [x] ∧ (Exa Z h x "java/lang/String") ∧ (Fld Z h x "java/lang/String" "coder" "B" (.int (0 : Int32))) ∧ (Fld Z h x "java/lang/String" "value" "[B" (.ref t)) ∧ (h0.size ≤ t) ∧ (Arv Z h t kt .byte (2 : Int32) [(.int (own_lo8 c0)), (.int (own_lo8 c1))] (.int (0 : Int32))))
set_option maxRecDepth 65536 in
set_option maxHeartbeats 40000000 in
theorem rm_si1_2 (l : Launch) (Z : State) (a0 : Array Value) (hw : ∀ d ∈ tables_1, d.before a0 Z = true) (ws : List Jvm.Cond) (G1 : Int32) (G3 : Value) (HG : own_G l Z a0 G1 G3) (h0 : Heap) (n0 : Nat) (X00 : Old Z n0 h0) (x : Addr) (b : Addr) (k : ClassId) (c0 : Int32) (c1 : Int32) (hp0 : Exa Z h0 x "java/lang/String") (hp1 : Fld Z h0 x "java/lang/String" "value" "[B" .null) (hp2 : Fld Z h0 x "java/lang/String" "coder" "B" (.int (0 : Int32))) (hp3 : n0 ≤ x) (hp4 : Arv Z h0 b k .char (2 : Int32) [(.int c0), (.int c1)] (.int (0 : Int32))) (hh0 : ¬ ((255 : Int32) < c0)) (hh1 : ¬ ((255 : Int32) < c1)) :
    own_CP l Z M25 jdk_42_method_3_code 2 none ws R_si1_2 #[(.ref x), (.ref b)] h0 (Q_si1_2 Z G1 G3 x b k c0 c1 h0 n0) := by
  refine own_P (plainFor_of_name pn_2) ?_
  intro p e s m below meth c s₁ S0 Bd hZ hh hx hby hml hown hnm X0 e0 hS0d
  obtain ⟨O1, P1, O3f, rG3⟩ := id HG
  have N0 := Fr.nil n0
  have C0 : Steps p.tables e below S0 (s₁.setTop (mkF m 0 #[.val (.ref x), .val (.ref b)] [])) := by rw [hS0d]; exact castTop (ef_26 m x b) (Steps.refl _)
  obtain ⟨c_1, A_2, q_3, S_4, M_5, H_6, U_7⟩ := id hp4
  obtain ⟨_, _, ⟨T_8, L_8, k_8, n_8⟩, -, X_8, ⟨Lc_8, hQ_8, l_8, y_8, z_8⟩, st_8⟩ := X0.specialBack hx (y := M0) rfl hown (mvT hZ (w7 hw)) (mvT hZ (w8 hw)) (mvT hZ (w10 hw)) (by decide) (backOf (W := 0) (rm_si4_2 l Z a0 hw [] G1 G3 HG h0 n0 X00 x b k c0 c1 hp0 hp1 hp2 hp3 hp4 hh0 hh1) hZ (w10 hw) (w3 hw) (by decide) (by decide)) (g := (mkF m 6 #[.val (.ref x), .val (.ref b)] [.null, (.int (2 : Int32)), (.int (0 : Int32)), (.ref b), (.ref x)])) rfl (by rw [hml]; rfl) (Steps.refl _) (a := x) (argsL := [(.ref b), (.int (0 : Int32)), (.int (2 : Int32)), .null]) (rest := []) (lenOf pd_35 rfl) rfl (by show 2 * 0 + _ ≤ _; exact Nat.le_of_eq rfl) (hb hby d1_6) (fun _ _ => ⟨rfl, e0, (by decide : 0 + 1 ≤ _), (by decide : 0 + 2 ≤ _)⟩)
  dsimp only [Pt.U, Pt.locs, Pt.cells, Pt.slots] at X_8 l_8 y_8 z_8 st_8 hQ_8
  subst l_8 y_8 z_8
  obtain ⟨a_9, k_10, rfl, N_11, K_12, g_13, g_14, g_15, g_16, g_17⟩ := hQ_8
  have N_18 := Fr.app N0 N_11
  have C_19 : Steps p.tables e below S0 (T_8.setTop (mkF m 9 #[.val (.ref x), .val (.ref b)] [])) := by
    refine C0.trans ?_
    refine XS.aloadN X0.here hx rfl (hb hby d1_0) rfl rfl ?_
    refine XS.aloadN X0.here hx rfl (hb hby d1_1) rfl rfl ?_
    refine XS.iconst X0.here hx rfl (hb hby d1_2) ?_
    refine XS.aloadN X0.here hx rfl (hb hby d1_3) rfl rfl ?_
    refine X0.arraylength hx (by rw [e0]; exact A_2.1) (State.isArrayOf_alike hZ.alike A_2.2.1) (g := (mkF m 4 #[.val (.ref x), .val (.ref b)] [(.ref b), (.int (0 : Int32)), (.ref b), (.ref x)])) rfl rfl (hb hby d1_4) _ ?_
    rw [len_of S_4 M_5]
    refine XS.aconstNull X0.here hx rfl (hb hby d1_5) ?_
    refine st_8.trans ?_
    exact Steps.refl _
  have K_20 : Keep h0 T_8.heap [x] := ((Keep.refl _ _).trans K_12 (allS (Or.inl (List.mem_of_getElem? (i := 0) rfl)) all0))
  obtain ⟨fs, hr, hrun, hended, hW, hsame⟩ := X_8.leave (v := none) (fun _ => rfl)
  refine ⟨_, _, C_19.trans (X_8.returnOut hx Bd.returns (hb hby d1_9) hr), hrun, hended, _, _, rfl, ?_, ⟨_, rfl⟩, hW, hsame.mono (by decide) (by decide)⟩
  show Q_si1_2 Z G1 G3 x b k c0 c1 h0 n0 (none) T_8.heap _
  exact ⟨a_9, k_10, rfl, N_18, K_20, g_13, g_14, g_15, (Nat.le_trans (Nat.le_refl _) g_16), g_17⟩
abbrev R_cmp5_3 : Room := { frames := 0, cells := 0, slots := 0, locals := 0 }
def Q_cmp5_3 (Z : State) (G1 : Int32) (G3 : Value) (b : Addr) (k : ClassId) (t : Addr) (kt : ClassId) (c0 : Int32) (c1 : Int32) (c2 : Int32) (h0 : Heap) (n0 : Nat) (v : Option Value) (h : Heap) (L : List Loc) : Prop := (v = some (.int (3 : Int32)) ∧ Fr n0 L ∧ Keep h0 h [t] ∧ (Arv Z h t kt .byte (3 : Int32) [(.int (own_lo8 c0)), (.int (own_lo8 c1)), (.int (own_lo8 c2))] (.int (0 : Int32))))
set_option maxRecDepth 65536 in
set_option maxHeartbeats 40000000 in
theorem rm_cmp5_3 (l : Launch) (Z : State) (a0 : Array Value) (hw : ∀ d ∈ tables_1, d.before a0 Z = true) (ws : List Jvm.Cond) (G1 : Int32) (G3 : Value) (HG : own_G l Z a0 G1 G3) (h0 : Heap) (n0 : Nat) (X00 : Old Z n0 h0) (b : Addr) (k : ClassId) (t : Addr) (kt : ClassId) (c0 : Int32) (c1 : Int32) (c2 : Int32) (hp0 : Arv Z h0 b k .char (3 : Int32) [(.int c0), (.int c1), (.int c2)] (.int (0 : Int32))) (hp1 : Arv Z h0 t kt .byte (3 : Int32) [(.int (0 : Int32)), (.int (0 : Int32)), (.int (0 : Int32))] (.int (0 : Int32))) (hp2 : n0 ≤ t) (hp3 : b ≠ t) (hh0 : ¬ ((255 : Int32) < c0)) (hh1 : ¬ ((255 : Int32) < c1)) (hh2 : ¬ ((255 : Int32) < c2)) :
    own_CP l Z M40 jdk_52_method_21_code 7 (some .int) ws R_cmp5_3 #[(.ref b), (.int (0 : Int32)), (.ref t), (.int (0 : Int32)), (.int (3 : Int32))] h0 (Q_cmp5_3 Z G1 G3 b k t kt c0 c1 c2 h0 n0) := by
  refine own_P (plainFor_of_name pn_42) ?_
  intro p e s m below meth c s₁ S0 Bd hZ hh hx hby hml hown hnm X0 e0 hS0d
  obtain ⟨O1, P1, O3f, rG3⟩ := id HG
  have N0 := Fr.nil n0
  have C0 : Steps p.tables e below S0 (s₁.setTop (mkF m 0 #[.val (.ref b), .val (.int (0 : Int32)), .val (.ref t), .val (.int (0 : Int32)), .val (.int (3 : Int32)), .unset, .unset] [])) := by rw [hS0d]; exact castTop (ef_41 m b (0 : Int32) t (0 : Int32) (3 : Int32)) (Steps.refl _)
  obtain ⟨c_1, A_2, q_3, S_4, M_5, H_6, U_7⟩ := id hp0
  have hin_8 : ¬ ((0 : Int32) < 0 ∨ c_1.slots.size ≤ (0 : Int32).toNatClampNeg) := inb_of S_4 ⟨(by decide : ¬ ((0 : Int32) < (0 : Int32))), (by decide : (0 : Int32) < (3 : Int32))⟩
  have hat_9 : c_1.slots[(0 : Int32).toNatClampNeg]? = some (.int c0) := Has.at H_6 hin_8 rfl
  obtain ⟨c_10, A_11, q_12, S_13, M_14, H_15, U_16⟩ := id hp1
  have hin_23 : ¬ ((0 : Int32) < 0 ∨ c_10.slots.size ≤ (0 : Int32).toNatClampNeg) := inb_of S_13 ⟨(by decide : ¬ ((0 : Int32) < (0 : Int32))), (by decide : (0 : Int32) < (3 : Int32))⟩
  obtain ⟨T_17, h_18, X_19, e_20, W_21, st_22⟩ := stB X0 hx hZ e0 A_11 (j := (0 : Int32)) hin_23 (g := (mkF m 31 #[.val (.ref b), .val (.int (0 : Int32)), .val (.ref t), .val (.int (0 : Int32)), .val (.int (3 : Int32)), .val (.int (0 : Int32)), .val (.int c0)] [(.int (c0.toInt8.toInt32)), (.int (0 : Int32)), (.ref t)])) rfl rfl (hb hby d2_31)
  have N_24 := Fr.snoc X_19 N0 hp2
  have V_25 : Arv Z h_18 t kt .byte (3 : Int32) [(.int (own_lo8 c0)), (.int (0 : Int32)), (.int (0 : Int32))] (.int (0 : Int32)) := Arv.set A_11 q_12 S_13 M_14 H_15 U_16 (fits_nar_byte _) W_21 0 rfl (Nat.le_of_ble_eq_true rfl)
  have V_26 : Arv Z h_18 b k .char (3 : Int32) [(.int c0), (.int c1), (.int c2)] (.int (0 : Int32)) := (hp0.other W_21 hp3)
  obtain ⟨c_27, A_28, q_29, S_30, M_31, H_32, U_33⟩ := id V_26
  have hin_34 : ¬ ((1 : Int32) < 0 ∨ c_27.slots.size ≤ (1 : Int32).toNatClampNeg) := inb_of S_30 ⟨(by decide : ¬ ((1 : Int32) < (0 : Int32))), (by decide : (1 : Int32) < (3 : Int32))⟩
  have hat_35 : c_27.slots[(1 : Int32).toNatClampNeg]? = some (.int c1) := Has.at H_32 hin_34 rfl
  obtain ⟨c_36, A_37, q_38, S_39, M_40, H_41, U_42⟩ := id V_25
  have hin_49 : ¬ ((1 : Int32) < 0 ∨ c_36.slots.size ≤ (1 : Int32).toNatClampNeg) := inb_of S_39 ⟨(by decide : ¬ ((1 : Int32) < (0 : Int32))), (by decide : (1 : Int32) < (3 : Int32))⟩
  obtain ⟨T_43, h_44, X_45, e_46, W_47, st_48⟩ := stB X_19 hx hZ e_20 A_37 (j := (1 : Int32)) hin_49 (g := (mkF m 31 #[.val (.ref b), .val (.int (1 : Int32)), .val (.ref t), .val (.int (1 : Int32)), .val (.int (3 : Int32)), .val (.int (1 : Int32)), .val (.int c1)] [(.int (c1.toInt8.toInt32)), (.int (1 : Int32)), (.ref t)])) rfl rfl (hb hby d2_31)
  have N_50 := Fr.snoc X_45 N_24 hp2
  have V_51 : Arv Z h_44 t kt .byte (3 : Int32) [(.int (own_lo8 c0)), (.int (own_lo8 c1)), (.int (0 : Int32))] (.int (0 : Int32)) := Arv.set A_37 q_38 S_39 M_40 H_41 U_42 (fits_nar_byte _) W_47 1 rfl (Nat.le_of_ble_eq_true rfl)
  have V_52 : Arv Z h_44 b k .char (3 : Int32) [(.int c0), (.int c1), (.int c2)] (.int (0 : Int32)) := (V_26.other W_47 hp3)
  obtain ⟨c_53, A_54, q_55, S_56, M_57, H_58, U_59⟩ := id V_52
  have hin_60 : ¬ ((2 : Int32) < 0 ∨ c_53.slots.size ≤ (2 : Int32).toNatClampNeg) := inb_of S_56 ⟨(by decide : ¬ ((2 : Int32) < (0 : Int32))), (by decide : (2 : Int32) < (3 : Int32))⟩
  have hat_61 : c_53.slots[(2 : Int32).toNatClampNeg]? = some (.int c2) := Has.at H_58 hin_60 rfl
  obtain ⟨c_62, A_63, q_64, S_65, M_66, H_67, U_68⟩ := id V_51
  have hin_75 : ¬ ((2 : Int32) < 0 ∨ c_62.slots.size ≤ (2 : Int32).toNatClampNeg) := inb_of S_65 ⟨(by decide : ¬ ((2 : Int32) < (0 : Int32))), (by decide : (2 : Int32) < (3 : Int32))⟩
  obtain ⟨T_69, h_70, X_71, e_72, W_73, st_74⟩ := stB X_45 hx hZ e_46 A_63 (j := (2 : Int32)) hin_75 (g := (mkF m 31 #[.val (.ref b), .val (.int (2 : Int32)), .val (.ref t), .val (.int (2 : Int32)), .val (.int (3 : Int32)), .val (.int (2 : Int32)), .val (.int c2)] [(.int (c2.toInt8.toInt32)), (.int (2 : Int32)), (.ref t)])) rfl rfl (hb hby d2_31)
  have N_76 := Fr.snoc X_71 N_50 hp2
  have V_77 : Arv Z h_70 t kt .byte (3 : Int32) [(.int (own_lo8 c0)), (.int (own_lo8 c1)), (.int (own_lo8 c2))] (.int (0 : Int32)) := Arv.set A_63 q_64 S_65 M_66 H_67 U_68 (fits_nar_byte _) W_73 2 rfl (Nat.le_of_ble_eq_true rfl)
  have C_78 : Steps p.tables e below S0 (T_69.setTop (mkF m 46 #[.val (.ref b), .val (.int (3 : Int32)), .val (.ref t), .val (.int (3 : Int32)), .val (.int (3 : Int32)), .val (.int (3 : Int32)), .val (.int c2)] [(.int (3 : Int32))])) := by
    refine C0.trans ?_
    refine XS.iconst X0.here hx rfl (hb hby d2_0) ?_
    refine XS.istore X0.here hx rfl (hb hby d2_1) rfl (l' := #[.val (.ref b), .val (.int (0 : Int32)), .val (.ref t), .val (.int (0 : Int32)), .val (.int (3 : Int32)), .val (.int (0 : Int32)), .unset]) rfl ?_
    refine XS.iload X0.here hx rfl (hb hby d2_3) rfl ?_
    refine XS.iload X0.here hx rfl (hb hby d2_5) rfl ?_
    refine XS.icmpNo X0.here hx rfl (hb hby d2_7) rfl (by decide) ?_
    refine XS.aloadN X0.here hx rfl (hb hby d2_10) rfl rfl ?_
    refine XS.iloadN X0.here hx rfl (hb hby d2_11) rfl ?_
    refine X0.caload hx (j := (0 : Int32)) (v := (.int c0)) (by rw [e0]; exact A_2.1) (State.isArrayOf_alike hZ.alike A_2.2.1) A_2.2.2 hin_8 hat_9 (g := (mkF m 12 #[.val (.ref b), .val (.int (0 : Int32)), .val (.ref t), .val (.int (0 : Int32)), .val (.int (3 : Int32)), .val (.int (0 : Int32)), .unset] [(.int (0 : Int32)), (.ref b)])) rfl rfl (hb hby d2_12) _ ?_
    show Steps p.tables e below (s₁.setTop (mkF m 13 #[.val (.ref b), .val (.int (0 : Int32)), .val (.ref t), .val (.int (0 : Int32)), .val (.int (3 : Int32)), .val (.int (0 : Int32)), .unset] [(.int c0)])) _
    refine XS.istore X0.here hx rfl (hb hby d2_13) rfl (l' := #[.val (.ref b), .val (.int (0 : Int32)), .val (.ref t), .val (.int (0 : Int32)), .val (.int (3 : Int32)), .val (.int (0 : Int32)), .val (.int c0)]) rfl ?_
    refine XS.iload X0.here hx rfl (hb hby d2_15) rfl ?_
    refine XS.sipush X0.here hx rfl (hb hby d2_17) ?_
    refine XS.icmpYes X0.here hx rfl (pc0 := 20) (pc' := 26) rfl (hb hby d2_20) rfl (ii_le_t hh0) (by decide) (by decide) ?_
    refine XS.aloadN X0.here hx rfl (hb hby d2_26) rfl rfl ?_
    refine XS.iloadN X0.here hx rfl (hb hby d2_27) rfl ?_
    refine XS.iload X0.here hx rfl (hb hby d2_28) rfl ?_
    refine XS.i2b X0.here hx rfl (hb hby d2_30) rfl ?_
    show Steps p.tables e below (s₁.setTop (mkF m 31 #[.val (.ref b), .val (.int (0 : Int32)), .val (.ref t), .val (.int (0 : Int32)), .val (.int (3 : Int32)), .val (.int (0 : Int32)), .val (.int c0)] [(.int (c0.toInt8.toInt32)), (.int (0 : Int32)), (.ref t)])) _
    refine st_22 _ ?_
    refine XS.iinc X_19.here hx rfl (hb hby d2_32) (x := (0 : Int32)) rfl (l' := #[.val (.ref b), .val (.int (1 : Int32)), .val (.ref t), .val (.int (0 : Int32)), .val (.int (3 : Int32)), .val (.int (0 : Int32)), .val (.int c0)]) rfl ?_
    refine XS.iinc X_19.here hx rfl (hb hby d2_35) (x := (0 : Int32)) rfl (l' := #[.val (.ref b), .val (.int (1 : Int32)), .val (.ref t), .val (.int (1 : Int32)), .val (.int (3 : Int32)), .val (.int (0 : Int32)), .val (.int c0)]) rfl ?_
    refine XS.iinc X_19.here hx rfl (hb hby d2_38) (x := (0 : Int32)) rfl (l' := #[.val (.ref b), .val (.int (1 : Int32)), .val (.ref t), .val (.int (1 : Int32)), .val (.int (3 : Int32)), .val (.int (1 : Int32)), .val (.int c0)]) rfl ?_
    refine XS.goto X_19.here hx rfl (pc0 := 41) (pc' := 3) rfl (hb hby d2_41) (by decide) (by decide) ?_
    refine XS.iload X_19.here hx rfl (hb hby d2_3) rfl ?_
    refine XS.iload X_19.here hx rfl (hb hby d2_5) rfl ?_
    refine XS.icmpNo X_19.here hx rfl (hb hby d2_7) rfl (by decide) ?_
    show Steps p.tables e below (T_17.setTop (mkF m 10 #[.val (.ref b), .val (.int (1 : Int32)), .val (.ref t), .val (.int (1 : Int32)), .val (.int (3 : Int32)), .val (.int (1 : Int32)), .val (.int c0)] [])) _
    refine XS.aloadN X_19.here hx rfl (hb hby d2_10) rfl rfl ?_
    refine XS.iloadN X_19.here hx rfl (hb hby d2_11) rfl ?_
    refine X_19.caload hx (j := (1 : Int32)) (v := (.int c1)) (by rw [e_20]; exact A_28.1) (State.isArrayOf_alike hZ.alike A_28.2.1) A_28.2.2 hin_34 hat_35 (g := (mkF m 12 #[.val (.ref b), .val (.int (1 : Int32)), .val (.ref t), .val (.int (1 : Int32)), .val (.int (3 : Int32)), .val (.int (1 : Int32)), .val (.int c0)] [(.int (1 : Int32)), (.ref b)])) rfl rfl (hb hby d2_12) _ ?_
    refine XS.istore X_19.here hx rfl (hb hby d2_13) rfl (l' := #[.val (.ref b), .val (.int (1 : Int32)), .val (.ref t), .val (.int (1 : Int32)), .val (.int (3 : Int32)), .val (.int (1 : Int32)), .val (.int c1)]) rfl ?_
    refine XS.iload X_19.here hx rfl (hb hby d2_15) rfl ?_
    refine XS.sipush X_19.here hx rfl (hb hby d2_17) ?_
    refine XS.icmpYes X_19.here hx rfl (pc0 := 20) (pc' := 26) rfl (hb hby d2_20) rfl (ii_le_t hh1) (by decide) (by decide) ?_
    refine XS.aloadN X_19.here hx rfl (hb hby d2_26) rfl rfl ?_
    show Steps p.tables e below (T_17.setTop (mkF m 27 #[.val (.ref b), .val (.int (1 : Int32)), .val (.ref t), .val (.int (1 : Int32)), .val (.int (3 : Int32)), .val (.int (1 : Int32)), .val (.int c1)] [(.ref t)])) _
    refine XS.iloadN X_19.here hx rfl (hb hby d2_27) rfl ?_
    refine XS.iload X_19.here hx rfl (hb hby d2_28) rfl ?_
    refine XS.i2b X_19.here hx rfl (hb hby d2_30) rfl ?_
    refine st_48 _ ?_
    refine XS.iinc X_45.here hx rfl (hb hby d2_32) (x := (1 : Int32)) rfl (l' := #[.val (.ref b), .val (.int (2 : Int32)), .val (.ref t), .val (.int (1 : Int32)), .val (.int (3 : Int32)), .val (.int (1 : Int32)), .val (.int c1)]) rfl ?_
    refine XS.iinc X_45.here hx rfl (hb hby d2_35) (x := (1 : Int32)) rfl (l' := #[.val (.ref b), .val (.int (2 : Int32)), .val (.ref t), .val (.int (2 : Int32)), .val (.int (3 : Int32)), .val (.int (1 : Int32)), .val (.int c1)]) rfl ?_
    refine XS.iinc X_45.here hx rfl (hb hby d2_38) (x := (1 : Int32)) rfl (l' := #[.val (.ref b), .val (.int (2 : Int32)), .val (.ref t), .val (.int (2 : Int32)), .val (.int (3 : Int32)), .val (.int (2 : Int32)), .val (.int c1)]) rfl ?_
    refine XS.goto X_45.here hx rfl (pc0 := 41) (pc' := 3) rfl (hb hby d2_41) (by decide) (by decide) ?_
    show Steps p.tables e below (T_43.setTop (mkF m 3 #[.val (.ref b), .val (.int (2 : Int32)), .val (.ref t), .val (.int (2 : Int32)), .val (.int (3 : Int32)), .val (.int (2 : Int32)), .val (.int c1)] [])) _
    refine XS.iload X_45.here hx rfl (hb hby d2_3) rfl ?_
    refine XS.iload X_45.here hx rfl (hb hby d2_5) rfl ?_
    refine XS.icmpNo X_45.here hx rfl (hb hby d2_7) rfl (by decide) ?_
    refine XS.aloadN X_45.here hx rfl (hb hby d2_10) rfl rfl ?_
    refine XS.iloadN X_45.here hx rfl (hb hby d2_11) rfl ?_
    refine X_45.caload hx (j := (2 : Int32)) (v := (.int c2)) (by rw [e_46]; exact A_54.1) (State.isArrayOf_alike hZ.alike A_54.2.1) A_54.2.2 hin_60 hat_61 (g := (mkF m 12 #[.val (.ref b), .val (.int (2 : Int32)), .val (.ref t), .val (.int (2 : Int32)), .val (.int (3 : Int32)), .val (.int (2 : Int32)), .val (.int c1)] [(.int (2 : Int32)), (.ref b)])) rfl rfl (hb hby d2_12) _ ?_
    refine XS.istore X_45.here hx rfl (hb hby d2_13) rfl (l' := #[.val (.ref b), .val (.int (2 : Int32)), .val (.ref t), .val (.int (2 : Int32)), .val (.int (3 : Int32)), .val (.int (2 : Int32)), .val (.int c2)]) rfl ?_
    refine XS.iload X_45.here hx rfl (hb hby d2_15) rfl ?_
    show Steps p.tables e below (T_43.setTop (mkF m 17 #[.val (.ref b), .val (.int (2 : Int32)), .val (.ref t), .val (.int (2 : Int32)), .val (.int (3 : Int32)), .val (.int (2 : Int32)), .val (.int c2)] [(.int c2)])) _
    refine XS.sipush X_45.here hx rfl (hb hby d2_17) ?_
    refine XS.icmpYes X_45.here hx rfl (pc0 := 20) (pc' := 26) rfl (hb hby d2_20) rfl (ii_le_t hh2) (by decide) (by decide) ?_
    refine XS.aloadN X_45.here hx rfl (hb hby d2_26) rfl rfl ?_
    refine XS.iloadN X_45.here hx rfl (hb hby d2_27) rfl ?_
    refine XS.iload X_45.here hx rfl (hb hby d2_28) rfl ?_
    refine XS.i2b X_45.here hx rfl (hb hby d2_30) rfl ?_
    refine st_74 _ ?_
    refine XS.iinc X_71.here hx rfl (hb hby d2_32) (x := (2 : Int32)) rfl (l' := #[.val (.ref b), .val (.int (3 : Int32)), .val (.ref t), .val (.int (2 : Int32)), .val (.int (3 : Int32)), .val (.int (2 : Int32)), .val (.int c2)]) rfl ?_
    show Steps p.tables e below (T_69.setTop (mkF m 35 #[.val (.ref b), .val (.int (3 : Int32)), .val (.ref t), .val (.int (2 : Int32)), .val (.int (3 : Int32)), .val (.int (2 : Int32)), .val (.int c2)] [])) _
    refine XS.iinc X_71.here hx rfl (hb hby d2_35) (x := (2 : Int32)) rfl (l' := #[.val (.ref b), .val (.int (3 : Int32)), .val (.ref t), .val (.int (3 : Int32)), .val (.int (3 : Int32)), .val (.int (2 : Int32)), .val (.int c2)]) rfl ?_
    refine XS.iinc X_71.here hx rfl (hb hby d2_38) (x := (2 : Int32)) rfl (l' := #[.val (.ref b), .val (.int (3 : Int32)), .val (.ref t), .val (.int (3 : Int32)), .val (.int (3 : Int32)), .val (.int (3 : Int32)), .val (.int c2)]) rfl ?_
    refine XS.goto X_71.here hx rfl (pc0 := 41) (pc' := 3) rfl (hb hby d2_41) (by decide) (by decide) ?_
    refine XS.iload X_71.here hx rfl (hb hby d2_3) rfl ?_
    refine XS.iload X_71.here hx rfl (hb hby d2_5) rfl ?_
    refine XS.icmpYes X_71.here hx rfl (pc0 := 7) (pc' := 44) rfl (hb hby d2_7) rfl (by decide) (by decide) (by decide) ?_
    refine XS.iload X_71.here hx rfl (hb hby d2_44) rfl ?_
    exact Steps.refl _
  have K_79 : Keep h0 h_70 [t] := ((((Keep.refl _ _).wr W_21 (Or.inl (List.mem_of_getElem? (i := 0) rfl))).wr W_47 (Or.inl (List.mem_of_getElem? (i := 0) rfl))).wr W_73 (Or.inl (List.mem_of_getElem? (i := 0) rfl)))
  obtain ⟨fs, hr, hrun, hended, hW, hsame⟩ := X_71.leave (v := some (.int (3 : Int32))) (fun h => by rw [Bd.returns] at h; cases h)
  refine ⟨_, _, C_78.trans (retOut X_71 hx Bd.returns rfl (Or.inl ⟨rfl, Or.inl rfl, _, rfl⟩) (hb hby d2_46) hr), hrun, hended, _, _, rfl, ?_, ⟨_, rfl⟩, hW, hsame.mono (by decide) (by decide)⟩
  show Q_cmp5_3 Z G1 G3 b k t kt c0 c1 c2 h0 n0 (some (.int (3 : Int32))) T_69.heap _
  rw [e_72]
  exact ⟨rfl, N_76, K_79, V_77⟩
abbrev R_cmp3_3 : Room := { frames := 1, cells := 1, slots := 3, locals := 18 }
def Q_cmp3_3 (Z : State) (G1 : Int32) (G3 : Value) (b : Addr) (k : ClassId) (c0 : Int32) (c1 : Int32) (c2 : Int32) (h0 : Heap) (n0 : Nat) (v : Option Value) (h : Heap) (L : List Loc) : Prop := (∃ t : Addr, ∃ kt : ClassId, v = some (.ref t) ∧ Fr n0 L ∧ Keep h0 h [] ∧ (h0.size ≤ t) ∧ (Arv Z h t kt .byte (3 : Int32) [(.int (own_lo8 c0)), (.int (own_lo8 c1)), (.int (own_lo8 c2))] (.int (0 : Int32))))
set_option maxRecDepth 65536 in
set_option maxHeartbeats 40000000 in
theorem rm_cmp3_3 (l : Launch) (Z : State) (a0 : Array Value) (hw : ∀ d ∈ tables_1, d.before a0 Z = true) (ws : List Jvm.Cond) (G1 : Int32) (G3 : Value) (HG : own_G l Z a0 G1 G3) (h0 : Heap) (n0 : Nat) (X00 : Old Z n0 h0) (b : Addr) (k : ClassId) (c0 : Int32) (c1 : Int32) (c2 : Int32) (hp0 : Arv Z h0 b k .char (3 : Int32) [(.int c0), (.int c1), (.int c2)] (.int (0 : Int32))) (hh0 : ¬ ((255 : Int32) < c0)) (hh1 : ¬ ((255 : Int32) < c1)) (hh2 : ¬ ((255 : Int32) < c2)) :
    own_CP l Z M66 jdk_52_method_16_code 6 (some (.array .byte)) ws R_cmp3_3 #[(.ref b), (.int (0 : Int32)), (.int (3 : Int32))] h0 (Q_cmp3_3 Z G1 G3 b k c0 c1 c2 h0 n0) := by
  refine own_P (plainFor_of_name pn_42) ?_
  intro p e s m below meth c s₁ S0 Bd hZ hh hx hby hml hown hnm X0 e0 hS0d
  obtain ⟨O1, P1, O3f, rG3⟩ := id HG
  have N0 := Fr.nil n0
  have C0 : Steps p.tables e below S0 (s₁.setTop (mkF m 0 #[.val (.ref b), .val (.int (0 : Int32)), .val (.int (3 : Int32)), .unset, .unset, .unset] [])) := by rw [hS0d]; exact castTop (ef_67 m b (0 : Int32) (3 : Int32)) (Steps.refl _)
  obtain ⟨T_1, h_2, k_3, X_4, e_5, E_6, A_7, st_8⟩ := newP (aty := .byte) X0 hx hZ (w19 hw) e0 (g := (mkF m 1 #[.val (.ref b), .val (.int (0 : Int32)), .val (.int (3 : Int32)), .unset, .unset, .unset] [(.int (3 : Int32))])) rfl (hb hby d3_1) rfl (by decide : ¬ ((3 : Int32) < (0 : Int32))) (cap := 3) (by decide : (3 : Int32).toNatClampNeg ≤ 3) (by decide) (by decide) (by decide)
  obtain ⟨a_9, g_10⟩ : ∃ z, z = h0.size := ⟨_, rfl⟩
  rw [← g_10] at A_7 st_8
  have V_12 : Arv Z h_2 a_9 k_3 .byte (3 : Int32) [] (.int (0 : Int32)) := Arv.new A_7 (by decide : ¬ ((3 : Int32) < (0 : Int32)))
  have V_11 : Arv Z h_2 a_9 k_3 .byte (3 : Int32) [(.int (0 : Int32)), (.int (0 : Int32)), (.int (0 : Int32))] (.int (0 : Int32)) := (V_12.pad (pad_rep [] (.int (0 : Int32)) 3))
  have V_13 : Arv Z h_2 b k .char (3 : Int32) [(.int c0), (.int c1), (.int c2)] (.int (0 : Int32)) := (hp0.ext E_6)
  have O_14 : Old Z n0 h_2 := (X00.ext E_6)
  obtain ⟨_, _, ⟨T_15, L_15, k_15, n_15⟩, -, X_15, ⟨Lc_15, hQ_15, l_15, y_15, z_15⟩, st_15⟩ := Jvm.LawKit.callS X_4 hx (y := M40) hown (mvT hZ (w20 hw)) (mvT hZ (w21 hw)) (mvT hZ (w17 hw)) (mvT hZ (w22 hw)) (by decide) (backOf (W := 0) (rm_cmp5_3 l Z a0 hw [] G1 G3 HG h_2 n0 O_14 b k a_9 k_3 c0 c1 c2 V_13 V_11 (Nat.le_trans (own_n0 X00) (Nat.le_of_eq g_10.symm)) (Nat.ne_of_lt (Nat.lt_of_lt_of_le hp0.lt (Nat.le_trans (Nat.le_refl _) (Nat.le_of_eq g_10.symm)))) hh0 hh1 hh2) hZ (w22 hw) (w17 hw) (by decide) (by decide)) (g := (mkF m 9 #[.val (.ref b), .val (.int (0 : Int32)), .val (.int (3 : Int32)), .val (.ref a_9), .unset, .unset] [(.int (3 : Int32)), (.int (0 : Int32)), (.ref a_9), (.int (0 : Int32)), (.ref b)])) rfl (by rw [hml]; rfl) (argsL := [(.ref b), (.int (0 : Int32)), (.ref a_9), (.int (0 : Int32)), (.int (3 : Int32))]) (rest := []) (lenOf pd_79 rfl) rfl (by show 2 * 0 + _ ≤ _; exact Nat.le_of_eq rfl) (hb hby d3_9) (fun _ _ => ⟨rfl, e_5, (by decide : 1 + 0 ≤ _), (by decide : 3 + 0 ≤ _)⟩)
  dsimp only [Pt.U, Pt.locs, Pt.cells, Pt.slots] at X_15 l_15 y_15 z_15 st_15 hQ_15
  subst l_15 y_15 z_15
  obtain ⟨rfl, N_16, K_17, g_18⟩ := hQ_15
  have N_19 := Fr.app N0 N_16
  have C_20 : Steps p.tables e below S0 (T_15.setTop (mkF m 58 #[.val (.ref b), .val (.int (0 : Int32)), .val (.int (3 : Int32)), .val (.ref a_9), .val (.int (3 : Int32)), .unset] [(.ref a_9)])) := by
    refine C0.trans ?_
    refine XS.iloadN X0.here hx rfl (hb hby d3_0) rfl ?_
    refine st_8 _ ?_
    refine XS.astoreN X_4.here hx rfl (hb hby d3_3) rfl rfl (l' := #[.val (.ref b), .val (.int (0 : Int32)), .val (.int (3 : Int32)), .val (.ref a_9), .unset, .unset]) rfl ?_
    refine XS.aloadN X_4.here hx rfl (hb hby d3_4) rfl rfl ?_
    refine XS.iloadN X_4.here hx rfl (hb hby d3_5) rfl ?_
    refine XS.aloadN X_4.here hx rfl (hb hby d3_6) rfl rfl ?_
    refine XS.iconst X_4.here hx rfl (hb hby d3_7) ?_
    refine XS.iloadN X_4.here hx rfl (hb hby d3_8) rfl ?_
    show Steps p.tables e below (T_1.setTop (mkF m 9 #[.val (.ref b), .val (.int (0 : Int32)), .val (.int (3 : Int32)), .val (.ref a_9), .unset, .unset] [(.int (3 : Int32)), (.int (0 : Int32)), (.ref a_9), (.int (0 : Int32)), (.ref b)])) _
    refine st_15 _ ?_
    refine XS.istore X_15.here hx rfl (hb hby d3_12) rfl (l' := #[.val (.ref b), .val (.int (0 : Int32)), .val (.int (3 : Int32)), .val (.ref a_9), .val (.int (3 : Int32)), .unset]) rfl ?_
    refine XS.iload X_15.here hx rfl (hb hby d3_14) rfl ?_
    refine XS.iloadN X_15.here hx rfl (hb hby d3_16) rfl ?_
    refine XS.icmpYes X_15.here hx rfl (pc0 := 17) (pc' := 57) rfl (hb hby d3_17) rfl (by decide) (by decide) (by decide) ?_
    refine XS.aloadN X_15.here hx rfl (hb hby d3_57) rfl rfl ?_
    exact Steps.refl _
  have K_21 : Keep h0 T_15.heap [] := (((Keep.refl _ _).ext E_6).trans K_17 (allS (Or.inr (Nat.le_trans (Nat.le_refl _) (Nat.le_of_eq g_10.symm))) all0))
  obtain ⟨fs, hr, hrun, hended, hW, hsame⟩ := X_15.leave (v := some (.ref a_9)) (fun h => by rw [Bd.returns] at h; cases h)
  refine ⟨_, _, C_20.trans (retOut X_15 hx Bd.returns rfl (Or.inr (Or.inr (Or.inr (Or.inr ⟨rfl, rfl, rfl⟩)))) (hb hby d3_58) hr), hrun, hended, _, _, rfl, ?_, ⟨_, rfl⟩, hW, hsame.mono (by decide) (by decide)⟩
  show Q_cmp3_3 Z G1 G3 b k c0 c1 c2 h0 n0 (some (.ref a_9)) T_15.heap _
  exact ⟨a_9, k_3, rfl, N_19, K_21, (Nat.le_trans (Nat.le_refl _) (Nat.le_of_eq g_10.symm)), g_18⟩
abbrev R_codl_3 : Room := { frames := 0, cells := 0, slots := 0, locals := 0 }
def Q_codl_3 (Z : State) (G1 : Int32) (G3 : Value) (t : Addr) (kt : ClassId) (y0 : Int32) (y1 : Int32) (y2 : Int32) (h0 : Heap) (n0 : Nat) (v : Option Value) (h : Heap) (L : List Loc) : Prop := (v = some (.int (0 : Int32)) ∧ Fr n0 L ∧ h = h0)
set_option maxRecDepth 65536 in
set_option maxHeartbeats 40000000 in
theorem rm_codl_3 (l : Launch) (Z : State) (a0 : Array Value) (hw : ∀ d ∈ tables_1, d.before a0 Z = true) (ws : List Jvm.Cond) (G1 : Int32) (G3 : Value) (HG : own_G l Z a0 G1 G3) (h0 : Heap) (n0 : Nat) (X00 : Old Z n0 h0) (t : Addr) (kt : ClassId) (y0 : Int32) (y1 : Int32) (y2 : Int32) (hp0 : Arv Z h0 t kt .byte (3 : Int32) [(.int y0), (.int y1), (.int y2)] (.int (0 : Int32))) :
    own_CP l Z M89 jdk_52_method_15_code 2 (some .byte) ws R_codl_3 #[(.ref t), (.int (3 : Int32))] h0 (Q_codl_3 Z G1 G3 t kt y0 y1 y2 h0 n0) := by
  refine own_P (plainFor_of_name pn_42) ?_
  intro p e s m below meth c s₁ S0 Bd hZ hh hx hby hml hown hnm X0 e0 hS0d
  obtain ⟨O1, P1, O3f, rG3⟩ := id HG
  have N0 := Fr.nil n0
  have C0 : Steps p.tables e below S0 (s₁.setTop (mkF m 0 #[.val (.ref t), .val (.int (3 : Int32))] [])) := by rw [hS0d]; exact castTop (ef_90 m t (3 : Int32)) (Steps.refl _)
  obtain ⟨c_1, A_2, q_3, S_4, M_5, H_6, U_7⟩ := id hp0
  have C_8 : Steps p.tables e below S0 (s₁.setTop (mkF m 8 #[.val (.ref t), .val (.int (3 : Int32))] [(.int (0 : Int32))])) := by
    refine C0.trans ?_
    refine XS.iloadN X0.here hx rfl (hb hby d4_0) rfl ?_
    refine XS.aloadN X0.here hx rfl (hb hby d4_1) rfl rfl ?_
    refine X0.arraylength hx (by rw [e0]; exact A_2.1) (State.isArrayOf_alike hZ.alike A_2.2.1) (g := (mkF m 2 #[.val (.ref t), .val (.int (3 : Int32))] [(.ref t), (.int (3 : Int32))])) rfl rfl (hb hby d4_2) _ ?_
    rw [len_of S_4 M_5]
    refine XS.isub X0.here hx rfl (hb hby d4_3) rfl ?_
    refine XS.bipush X0.here hx rfl (hb hby d4_4) ?_
    refine XS.iushr X0.here hx rfl (hb hby d4_6) rfl ?_
    refine XS.i2b X0.here hx rfl (hb hby d4_7) rfl ?_
    exact Steps.refl _
  obtain ⟨fs, hr, hrun, hended, hW, hsame⟩ := X0.leave (v := some (.int (0 : Int32))) (fun h => by rw [Bd.returns] at h; cases h)
  refine ⟨_, _, C_8.trans (retN X0 hx (t := .byte) Bd.returns (by simp) (hb hby d4_8) hr), hrun, hended, _, _, rfl, ?_, ⟨_, rfl⟩, hW, hsame.mono (by decide) (by decide)⟩
  show Q_codl_3 Z G1 G3 t kt y0 y1 y2 h0 n0 (some (.int (0 : Int32))) s₁.heap _
  rw [e0]
  exact ⟨rfl, N0, rfl⟩
abbrev R_si4_3 : Room := { frames := 2, cells := 1, slots := 3, locals := 35 }
def Q_si4_3 (Z : State) (G1 : Int32) (G3 : Value) (x : Addr) (b : Addr) (k : ClassId) (c0 : Int32) (c1 : Int32) (c2 : Int32) (h0 : Heap) (n0 : Nat) (v : Option Value) (h : Heap) (L : List Loc) : Prop := (∃ t : Addr, ∃ kt : ClassId, v = none ∧ Fr n0 L ∧ Keep h0 h [x] ∧ (Exa Z h x "java/lang/String") ∧ (Fld Z h x "java/lang/String" "coder" "B" (.int (0 : Int32))) ∧ (Fld Z h x "java/lang/String" "value" "[B" (.ref t)) ∧ (h0.size ≤ t) ∧ (Arv Z h t kt .byte (3 : Int32) [(.int (own_lo8 c0)), (.int (own_lo8 c1)), (.int (own_lo8 c2))] (.int (0 : Int32))))
set_option maxRecDepth 65536 in
set_option maxHeartbeats 40000000 in
theorem rm_si4_3 (l : Launch) (Z : State) (a0 : Array Value) (hw : ∀ d ∈ tables_1, d.before a0 Z = true) (ws : List Jvm.Cond) (G1 : Int32) (G3 : Value) (HG : own_G l Z a0 G1 G3) (h0 : Heap) (n0 : Nat) (X00 : Old Z n0 h0) (x : Addr) (b : Addr) (k : ClassId) (c0 : Int32) (c1 : Int32) (c2 : Int32) (hp0 : Exa Z h0 x "java/lang/String") (hp1 : Fld Z h0 x "java/lang/String" "value" "[B" .null) (hp2 : Fld Z h0 x "java/lang/String" "coder" "B" (.int (0 : Int32))) (hp3 : n0 ≤ x) (hp4 : Arv Z h0 b k .char (3 : Int32) [(.int c0), (.int c1), (.int c2)] (.int (0 : Int32))) (hh0 : ¬ ((255 : Int32) < c0)) (hh1 : ¬ ((255 : Int32) < c1)) (hh2 : ¬ ((255 : Int32) < c2)) :
    own_CP l Z M0 jdk_42_method_149_code 6 none ws R_si4_3 #[(.ref x), (.ref b), (.int (0 : Int32)), (.int (3 : Int32)), .null] h0 (Q_si4_3 Z G1 G3 x b k c0 c1 c2 h0 n0) := by
  refine own_P (plainFor_of_name pn_2) ?_
  intro p e s m below meth c s₁ S0 Bd hZ hh hx hby hml hown hnm X0 e0 hS0d
  obtain ⟨O1, P1, O3f, rG3⟩ := id HG
  have N0 := Fr.nil n0
  have C0 : Steps p.tables e below S0 (s₁.setTop (mkF m 0 #[.val (.ref x), .val (.ref b), .val (.int (0 : Int32)), .val (.int (3 : Int32)), .val .null, .unset] [])) := by rw [hS0d]; exact castTop (ef_1 m x b (0 : Int32) (3 : Int32)) (Steps.refl _)
  obtain ⟨T_1, X_2, e_3, st_4⟩ := initO X0 hx hZ hown (w11 hw) (w12 hw) (w13 hw) e0 (g := (mkF m 1 #[.val (.ref x), .val (.ref b), .val (.int (0 : Int32)), .val (.int (3 : Int32)), .val .null, .unset] [(.ref x)])) rfl (by rw [hml]; rfl) rfl (hb hby d0_1) (by decide) (W := 0) (by show 2 * 0 + _ ≤ _; exact Nat.le_of_eq rfl) (by decide)
  obtain ⟨T_5, X_6, e_7, st_8⟩ := getS X_2 hx hZ (host := "") hown (w14 hw) Via.refl e_3 (O1.ext X00.2) (g := (mkF m 27 #[.val (.ref x), .val (.ref b), .val (.int (0 : Int32)), .val (.int (3 : Int32)), .val .null, .unset] [])) rfl (hb hby d0_27)
  obtain ⟨_, _, ⟨T_9, L_9, k_9, n_9⟩, -, X_9, ⟨Lc_9, hQ_9, l_9, y_9, z_9⟩, st_9⟩ := Jvm.LawKit.callS X_6 hx (y := M66) hown (mvT hZ (w15 hw)) (mvT hZ (w16 hw)) (mvT hZ (w17 hw)) (mvT hZ (w18 hw)) (by decide) (backOf (W := 0) (rm_cmp3_3 l Z a0 hw [] G1 G3 HG h0 n0 X00 b k c0 c1 c2 hp4 hh0 hh1 hh2) hZ (w18 hw) (w17 hw) (by decide) (by decide)) (g := (mkF m 36 #[.val (.ref x), .val (.ref b), .val (.int (0 : Int32)), .val (.int (3 : Int32)), .val .null, .unset] [(.int (3 : Int32)), (.int (0 : Int32)), (.ref b)])) rfl (by rw [hml]; rfl) (argsL := [(.ref b), (.int (0 : Int32)), (.int (3 : Int32))]) (rest := []) (lenOf pd_106 rfl) rfl (by show 2 * 0 + _ ≤ _; exact Nat.le_of_eq rfl) (hb hby d0_36) (fun _ _ => ⟨rfl, e_7, (by decide : 0 + 1 ≤ _), (by decide : 0 + 3 ≤ _)⟩)
  dsimp only [Pt.U, Pt.locs, Pt.cells, Pt.slots] at X_9 l_9 y_9 z_9 st_9 hQ_9
  subst l_9 y_9 z_9
  obtain ⟨a_10, k_11, rfl, N_12, K_13, g_14, g_15⟩ := hQ_9
  have N_16 := Fr.app N0 N_12
  have O_17 : Old Z n0 T_9.heap := (X00.keep K_13 all0)
  obtain ⟨_, _, ⟨T_18, L_18, k_18, n_18⟩, -, X_18, ⟨Lc_18, hQ_18, l_18, y_18, z_18⟩, st_18⟩ := Jvm.LawKit.callS X_9 hx (y := M89) hown (mvT hZ (w23 hw)) (mvT hZ (w24 hw)) (mvT hZ (w17 hw)) (mvT hZ (w25 hw)) (by decide) (backOf (W := 1) (rm_codl_3 l Z a0 hw [] G1 G3 HG T_9.heap n0 O_17 a_10 k_11 (own_lo8 c0) (own_lo8 c1) (own_lo8 c2) g_15) hZ (w25 hw) (w17 hw) (by decide) (by decide)) (g := (mkF m 45 #[.val (.ref x), .val (.ref b), .val (.int (0 : Int32)), .val (.int (3 : Int32)), .val .null, .val (.ref a_10)] [(.int (3 : Int32)), (.ref a_10), (.ref x)])) rfl (by rw [hml]; rfl) (argsL := [(.ref a_10), (.int (3 : Int32))]) (rest := [(.ref x)]) (lenOf pd_115 rfl) rfl (by show 2 * 0 + _ ≤ _; exact Nat.le_of_eq rfl) (hb hby d0_45) (fun _ _ => ⟨rfl, rfl, (by decide : 1 + 0 ≤ _), (by decide : 3 + 0 ≤ _)⟩)
  dsimp only [Pt.U, Pt.locs, Pt.cells, Pt.slots] at X_18 l_18 y_18 z_18 st_18 hQ_18
  subst l_18 y_18 z_18
  obtain ⟨rfl, N_19, e_20⟩ := hQ_18
  have N_21 := Fr.app N_16 N_19
  have e_22 : T_18.heap = T_9.heap := e_20
  have F_23 : Fld Z T_9.heap x "java/lang/String" "coder" "B" (.int (0 : Int32)) := (hp2.keep K_13 nin0)
  have E_24 : Exa Z T_9.heap x "java/lang/String" := (hp0.keep K_13)
  obtain ⟨T_25, h_26, X_27, e_28, W_29, st_30⟩ := putF X_18 hx hZ hown (host := "") (Or.inl (w26 hw)) Via.refl e_22 F_23 E_24 (Or.inr ⟨(w27 hw), rfl, hnm⟩) (w2 hw) (ty := .byte) (by decide) rfl (by decide) (g := (mkF m 48 #[.val (.ref x), .val (.ref b), .val (.int (0 : Int32)), .val (.int (3 : Int32)), .val .null, .val (.ref a_10)] [(.int (0 : Int32)), (.ref x)])) rfl rfl (hb hby d0_48)
  have N_31 := Fr.snoc X_27 N_21 hp3
  have F_32 : Fld Z h_26 x "java/lang/String" "coder" "B" (.int (0 : Int32)) := F_23.same W_29
  have F_33 : Fld Z h_26 x "java/lang/String" "value" "[B" .null := ((hp1.keep K_13 nin0).other W_29 (Or.inr (slot_ne (Or.inr (w29 hw)) (Or.inr (w27 hw)) (by decide) (t := (.array .byte)) (by decide) (t' := .byte) (by decide))))
  have E_34 : Exa Z h_26 x "java/lang/String" := (E_24.wr W_29)
  obtain ⟨T_35, h_36, X_37, e_38, W_39, st_40⟩ := putF X_27 hx hZ hown (host := "") (Or.inl (w28 hw)) Via.refl e_28 F_33 E_34 (Or.inr ⟨(w29 hw), rfl, hnm⟩) (w2 hw) (ty := (.array .byte)) (by decide) rfl rfl (g := (mkF m 54 #[.val (.ref x), .val (.ref b), .val (.int (0 : Int32)), .val (.int (3 : Int32)), .val .null, .val (.ref a_10)] [(.ref a_10), (.ref x)])) rfl rfl (hb hby d0_54)
  have N_41 := Fr.snoc X_37 N_31 hp3
  have F_42 : Fld Z h_36 x "java/lang/String" "value" "[B" (.ref a_10) := F_33.same W_39
  have C_43 : Steps p.tables e below S0 (T_35.setTop (mkF m 57 #[.val (.ref x), .val (.ref b), .val (.int (0 : Int32)), .val (.int (3 : Int32)), .val .null, .val (.ref a_10)] [])) := by
    refine C0.trans ?_
    refine XS.aloadN X0.here hx rfl (hb hby d0_0) rfl rfl ?_
    refine st_4 _ ?_
    refine XS.iloadN X_2.here hx rfl (hb hby d0_4) rfl ?_
    refine XS.ifYes X_2.here hx rfl (pc0 := 5) (pc' := 27) rfl (hb hby d0_5) rfl (by decide) (by decide) (by decide) ?_
    refine st_8 _ ?_
    refine XS.ifNo X_6.here hx rfl (hb hby d0_30) rfl (i0_eq_f P1) ?_
    refine XS.aloadN X_6.here hx rfl (hb hby d0_33) rfl rfl ?_
    refine XS.iloadN X_6.here hx rfl (hb hby d0_34) rfl ?_
    show Steps p.tables e below (T_5.setTop (mkF m 35 #[.val (.ref x), .val (.ref b), .val (.int (0 : Int32)), .val (.int (3 : Int32)), .val .null, .unset] [(.int (0 : Int32)), (.ref b)])) _
    refine XS.iloadN X_6.here hx rfl (hb hby d0_35) rfl ?_
    refine st_9 _ ?_
    refine XS.astore X_9.here hx rfl (hb hby d0_39) rfl rfl (l' := #[.val (.ref x), .val (.ref b), .val (.int (0 : Int32)), .val (.int (3 : Int32)), .val .null, .val (.ref a_10)]) rfl ?_
    refine XS.aloadN X_9.here hx rfl (hb hby d0_41) rfl rfl ?_
    refine XS.aload X_9.here hx rfl (hb hby d0_42) rfl rfl ?_
    refine XS.iloadN X_9.here hx rfl (hb hby d0_44) rfl ?_
    refine st_18 _ ?_
    refine st_30 _ ?_
    show Steps p.tables e below (T_25.setTop (mkF m 51 #[.val (.ref x), .val (.ref b), .val (.int (0 : Int32)), .val (.int (3 : Int32)), .val .null, .val (.ref a_10)] [])) _
    refine XS.aloadN X_27.here hx rfl (hb hby d0_51) rfl rfl ?_
    refine XS.aload X_27.here hx rfl (hb hby d0_52) rfl rfl ?_
    refine st_40 _ ?_
    exact Steps.refl _
  have E_44 : Exa Z h_36 x "java/lang/String" := (E_34.wr W_39)
  have F_45 : Fld Z h_36 x "java/lang/String" "coder" "B" (.int (0 : Int32)) := (F_32.other W_39 (Or.inr (slot_ne (Or.inr (w27 hw)) (Or.inr (w29 hw)) (by decide) (t := .byte) (by decide) (t' := (.array .byte)) (by decide))))
  have V_46 : Arv Z h_36 a_10 k_11 .byte (3 : Int32) [(.int (own_lo8 c0)), (.int (own_lo8 c1)), (.int (own_lo8 c2))] (.int (0 : Int32)) := ((g_15.other W_29 (Ne.symm (Nat.ne_of_lt (Nat.lt_of_lt_of_le hp0.lt (Nat.le_trans (Nat.le_refl _) g_14))))).other W_39 (Ne.symm (Nat.ne_of_lt (Nat.lt_of_lt_of_le hp0.lt (Nat.le_trans (Nat.le_refl _) g_14)))))
  have K_47 : Keep h0 h_36 [x] := ((((Keep.refl _ _).trans K_13 all0).wr W_29 (Or.inl (List.mem_of_getElem? (i := 0) rfl))).wr W_39 (Or.inl (List.mem_of_getElem? (i := 0) rfl)))
  obtain ⟨fs, hr, hrun, hended, hW, hsame⟩ := X_37.leave (v := none) (fun _ => rfl)
  refine ⟨_, _, C_43.trans (X_37.returnOut hx Bd.returns (hb hby d0_57) hr), hrun, hended, _, _, rfl, ?_, ⟨_, rfl⟩, hW, hsame.mono (by decide) (by decide)⟩
  show Q_si4_3 Z G1 G3 x b k c0 c1 c2 h0 n0 (none) T_35.heap _
  rw [e_38]
  exact ⟨a_10, k_11, rfl, N_41, K_47, E_44, F_45, F_42, (Nat.le_trans (Nat.le_refl _) g_14), V_46⟩
abbrev R_si1_3 : Room := { frames := 3, cells := 1, slots := 3, locals := 52 }
def Q_si1_3 (Z : State) (G1 : Int32) (G3 : Value) (x : Addr) (b : Addr) (k : ClassId) (c0 : Int32) (c1 : Int32) (c2 : Int32) (h0 : Heap) (n0 : Nat) (v : Option Value) (h : Heap) (L : List Loc) : Prop := (∃ t : Addr, ∃ kt : ClassId, v = none ∧ Fr n0 L ∧ Keep h0 h [x] ∧ (Exa Z h x "java/lang/String") ∧ (Fld Z h x "java/lang/String" "coder" "B" (.int (0 : Int32))) ∧ (Fld Z h x "java/lang/String" "value" "[B" (.ref t)) ∧ (h0.size ≤ t) ∧ (Arv Z h t kt .byte (3 : Int32) [(.int (own_lo8 c0)), (.int (own_lo8 c1)), (.int (own_lo8 c2))] (.int (0 : Int32))))
set_option maxRecDepth 65536 in
set_option maxHeartbeats 40000000 in
theorem rm_si1_3 (l : Launch) (Z : State) (a0 : Array Value) (hw : ∀ d ∈ tables_1, d.before a0 Z = true) (ws : List Jvm.Cond) (G1 : Int32) (G3 : Value) (HG : own_G l Z a0 G1 G3) (h0 : Heap) (n0 : Nat) (X00 : Old Z n0 h0) (x : Addr) (b : Addr) (k : ClassId) (c0 : Int32) (c1 : Int32) (c2 : Int32) (hp0 : Exa Z h0 x "java/lang/String") (hp1 : Fld Z h0 x "java/lang/String" "value" "[B" .null) (hp2 : Fld Z h0 x "java/lang/String" "coder" "B" (.int (0 : Int32))) (hp3 : n0 ≤ x) (hp4 : Arv Z h0 b k .char (3 : Int32) [(.int c0), (.int c1), (.int c2)] (.int (0 : Int32))) (hh0 : ¬ ((255 : Int32) < c0)) (hh1 : ¬ ((255 : Int32) < c1)) (hh2 : ¬ ((255 : Int32) < c2)) :
    own_CP l Z M25 jdk_42_method_3_code 2 none ws R_si1_3 #[(.ref x), (.ref b)] h0 (Q_si1_3 Z G1 G3 x b k c0 c1 c2 h0 n0) := by
  refine own_P (plainFor_of_name pn_2) ?_
  intro p e s m below meth c s₁ S0 Bd hZ hh hx hby hml hown hnm X0 e0 hS0d
  obtain ⟨O1, P1, O3f, rG3⟩ := id HG
  have N0 := Fr.nil n0
  have C0 : Steps p.tables e below S0 (s₁.setTop (mkF m 0 #[.val (.ref x), .val (.ref b)] [])) := by rw [hS0d]; exact castTop (ef_26 m x b) (Steps.refl _)
  obtain ⟨c_1, A_2, q_3, S_4, M_5, H_6, U_7⟩ := id hp4
  obtain ⟨_, _, ⟨T_8, L_8, k_8, n_8⟩, -, X_8, ⟨Lc_8, hQ_8, l_8, y_8, z_8⟩, st_8⟩ := X0.specialBack hx (y := M0) rfl hown (mvT hZ (w7 hw)) (mvT hZ (w8 hw)) (mvT hZ (w10 hw)) (by decide) (backOf (W := 0) (rm_si4_3 l Z a0 hw [] G1 G3 HG h0 n0 X00 x b k c0 c1 c2 hp0 hp1 hp2 hp3 hp4 hh0 hh1 hh2) hZ (w10 hw) (w3 hw) (by decide) (by decide)) (g := (mkF m 6 #[.val (.ref x), .val (.ref b)] [.null, (.int (3 : Int32)), (.int (0 : Int32)), (.ref b), (.ref x)])) rfl (by rw [hml]; rfl) (Steps.refl _) (a := x) (argsL := [(.ref b), (.int (0 : Int32)), (.int (3 : Int32)), .null]) (rest := []) (lenOf pd_35 rfl) rfl (by show 2 * 0 + _ ≤ _; exact Nat.le_of_eq rfl) (hb hby d1_6) (fun _ _ => ⟨rfl, e0, (by decide : 0 + 1 ≤ _), (by decide : 0 + 3 ≤ _)⟩)
  dsimp only [Pt.U, Pt.locs, Pt.cells, Pt.slots] at X_8 l_8 y_8 z_8 st_8 hQ_8
  subst l_8 y_8 z_8
  obtain ⟨a_9, k_10, rfl, N_11, K_12, g_13, g_14, g_15, g_16, g_17⟩ := hQ_8
  have N_18 := Fr.app N0 N_11
  have C_19 : Steps p.tables e below S0 (T_8.setTop (mkF m 9 #[.val (.ref x), .val (.ref b)] [])) := by
    refine C0.trans ?_
    refine XS.aloadN X0.here hx rfl (hb hby d1_0) rfl rfl ?_
    refine XS.aloadN X0.here hx rfl (hb hby d1_1) rfl rfl ?_
    refine XS.iconst X0.here hx rfl (hb hby d1_2) ?_
    refine XS.aloadN X0.here hx rfl (hb hby d1_3) rfl rfl ?_
    refine X0.arraylength hx (by rw [e0]; exact A_2.1) (State.isArrayOf_alike hZ.alike A_2.2.1) (g := (mkF m 4 #[.val (.ref x), .val (.ref b)] [(.ref b), (.int (0 : Int32)), (.ref b), (.ref x)])) rfl rfl (hb hby d1_4) _ ?_
    rw [len_of S_4 M_5]
    refine XS.aconstNull X0.here hx rfl (hb hby d1_5) ?_
    refine st_8.trans ?_
    exact Steps.refl _
  have K_20 : Keep h0 T_8.heap [x] := ((Keep.refl _ _).trans K_12 (allS (Or.inl (List.mem_of_getElem? (i := 0) rfl)) all0))
  obtain ⟨fs, hr, hrun, hended, hW, hsame⟩ := X_8.leave (v := none) (fun _ => rfl)
  refine ⟨_, _, C_19.trans (X_8.returnOut hx Bd.returns (hb hby d1_9) hr), hrun, hended, _, _, rfl, ?_, ⟨_, rfl⟩, hW, hsame.mono (by decide) (by decide)⟩
  show Q_si1_3 Z G1 G3 x b k c0 c1 c2 h0 n0 (none) T_8.heap _
  exact ⟨a_9, k_10, rfl, N_18, K_20, g_13, g_14, g_15, (Nat.le_trans (Nat.le_refl _) g_16), g_17⟩
abbrev M124 : MethodName := ⟨"java/lang/String", "coder", "()B"⟩
theorem ef_125 (m : MethodId) (x0 : Addr) : entryFrame m #[(.ref x0)] 1 = mkF m 0 #[.val (.ref x0)] [] := by first | (simp [entryFrame, mkF, argsToLocals, Value.category]; done) | rfl
theorem d5_0 : decode jdk_42_method_152_code 0 = .ok (.getstatic 38, 3) := by decide +kernel
theorem d5_3 : decode jdk_42_method_152_code 3 = .ok (.ifCond .eq 10, 3) := by decide +kernel
theorem d5_6 : decode jdk_42_method_152_code 6 = .ok (.aload_n 0, 1) := by decide +kernel
theorem d5_7 : decode jdk_42_method_152_code 7 = .ok (.getfield 15, 3) := by decide +kernel
theorem d5_10 : decode jdk_42_method_152_code 10 = .ok (.goto 4, 3) := by decide +kernel
theorem d5_14 : decode jdk_42_method_152_code 14 = .ok (.ireturn, 1) := by decide +kernel
abbrev R_coder : Room := { frames := 0, cells := 0, slots := 0, locals := 0 }
def Q_coder (Z : State) (G1 : Int32) (G3 : Value) (x : Addr) (h0 : Heap) (n0 : Nat) (v : Option Value) (h : Heap) (L : List Loc) : Prop := (v = some (.int (0 : Int32)) ∧ Fr n0 L ∧ h = h0)
set_option maxRecDepth 65536 in
set_option maxHeartbeats 40000000 in
theorem rm_coder (l : Launch) (Z : State) (a0 : Array Value) (hw : ∀ d ∈ tables_1, d.before a0 Z = true) (ws : List Jvm.Cond) (G1 : Int32) (G3 : Value) (HG : own_G l Z a0 G1 G3) (h0 : Heap) (n0 : Nat) (X00 : Old Z n0 h0) (x : Addr) (hp0 : Fld Z h0 x "java/lang/String" "coder" "B" (.int (0 : Int32))) :
    own_CP l Z M124 jdk_42_method_152_code 1 (some .byte) ws R_coder #[(.ref x)] h0 (Q_coder Z G1 G3 x h0 n0) := by
  refine own_P (plainFor_of_name pn_2) ?_
  intro p e s m below meth c s₁ S0 Bd hZ hh hx hby hml hown hnm X0 e0 hS0d
  obtain ⟨O1, P1, O3f, rG3⟩ := id HG
  have N0 := Fr.nil n0
  have C0 : Steps p.tables e below S0 (s₁.setTop (mkF m 0 #[.val (.ref x)] [])) := by rw [hS0d]; exact castTop (ef_125 m x) (Steps.refl _)
  obtain ⟨T_1, X_2, e_3, st_4⟩ := getS X0 hx hZ (host := "") hown (w14 hw) Via.refl e0 (O1.ext X00.2) (g := (mkF m 0 #[.val (.ref x)] [])) rfl (hb hby d5_0)
  obtain ⟨T_5, X_6, e_7, st_8⟩ := getF X_2 hx hZ hown (host := "") (Or.inl (w26 hw)) Via.refl e_3 hp0 (g := (mkF m 7 #[.val (.ref x)] [(.ref x)])) rfl rfl (hb hby d5_7)
  have C_9 : Steps p.tables e below S0 (T_5.setTop (mkF m 14 #[.val (.ref x)] [(.int (0 : Int32))])) := by
    refine C0.trans ?_
    refine st_4 _ ?_
    refine XS.ifNo X_2.here hx rfl (hb hby d5_3) rfl (i0_eq_f P1) ?_
    refine XS.aloadN X_2.here hx rfl (hb hby d5_6) rfl rfl ?_
    refine st_8 _ ?_
    refine XS.goto X_6.here hx rfl (pc0 := 10) (pc' := 14) rfl (hb hby d5_10) (by decide) (by decide) ?_
    exact Steps.refl _
  obtain ⟨fs, hr, hrun, hended, hW, hsame⟩ := X_6.leave (v := some (.int (0 : Int32))) (fun h => by rw [Bd.returns] at h; cases h)
  refine ⟨_, _, C_9.trans (retN X_6 hx (t := .byte) Bd.returns (by simp) (hb hby d5_14) hr), hrun, hended, _, _, rfl, ?_, ⟨_, rfl⟩, hW, hsame.mono (by decide) (by decide)⟩
  show Q_coder Z G1 G3 x h0 n0 (some (.int (0 : Int32))) T_5.heap _
  rw [e_7]
  exact ⟨rfl, N0, rfl⟩
abbrev M132 : MethodName := ⟨"java/lang/String", "isLatin1", "()Z"⟩
theorem d6_0 : decode jdk_42_method_154_code 0 = .ok (.getstatic 38, 3) := by decide +kernel
theorem d6_3 : decode jdk_42_method_154_code 3 = .ok (.ifCond .eq 14, 3) := by decide +kernel
theorem d6_6 : decode jdk_42_method_154_code 6 = .ok (.aload_n 0, 1) := by decide +kernel
theorem d6_7 : decode jdk_42_method_154_code 7 = .ok (.getfield 15, 3) := by decide +kernel
theorem d6_10 : decode jdk_42_method_154_code 10 = .ok (.ifCond .ne 7, 3) := by decide +kernel
theorem d6_13 : decode jdk_42_method_154_code 13 = .ok (.iconst 1, 1) := by decide +kernel
theorem d6_14 : decode jdk_42_method_154_code 14 = .ok (.goto 4, 3) := by decide +kernel
theorem d6_18 : decode jdk_42_method_154_code 18 = .ok (.ireturn, 1) := by decide +kernel
abbrev R_islat : Room := { frames := 0, cells := 0, slots := 0, locals := 0 }
def Q_islat (Z : State) (G1 : Int32) (G3 : Value) (x : Addr) (h0 : Heap) (n0 : Nat) (v : Option Value) (h : Heap) (L : List Loc) : Prop := (v = some (.int (1 : Int32)) ∧ Fr n0 L ∧ h = h0)
set_option maxRecDepth 65536 in
set_option maxHeartbeats 40000000 in
theorem rm_islat (l : Launch) (Z : State) (a0 : Array Value) (hw : ∀ d ∈ tables_1, d.before a0 Z = true) (ws : List Jvm.Cond) (G1 : Int32) (G3 : Value) (HG : own_G l Z a0 G1 G3) (h0 : Heap) (n0 : Nat) (X00 : Old Z n0 h0) (x : Addr) (hp0 : Fld Z h0 x "java/lang/String" "coder" "B" (.int (0 : Int32))) :
    own_CP l Z M132 jdk_42_method_154_code 1 (some .boolean) ws R_islat #[(.ref x)] h0 (Q_islat Z G1 G3 x h0 n0) := by
  refine own_P (plainFor_of_name pn_2) ?_
  intro p e s m below meth c s₁ S0 Bd hZ hh hx hby hml hown hnm X0 e0 hS0d
  obtain ⟨O1, P1, O3f, rG3⟩ := id HG
  have N0 := Fr.nil n0
  have C0 : Steps p.tables e below S0 (s₁.setTop (mkF m 0 #[.val (.ref x)] [])) := by rw [hS0d]; exact castTop (ef_125 m x) (Steps.refl _)
  obtain ⟨T_1, X_2, e_3, st_4⟩ := getS X0 hx hZ (host := "") hown (w14 hw) Via.refl e0 (O1.ext X00.2) (g := (mkF m 0 #[.val (.ref x)] [])) rfl (hb hby d6_0)
  obtain ⟨T_5, X_6, e_7, st_8⟩ := getF X_2 hx hZ hown (host := "") (Or.inl (w26 hw)) Via.refl e_3 hp0 (g := (mkF m 7 #[.val (.ref x)] [(.ref x)])) rfl rfl (hb hby d6_7)
  have C_9 : Steps p.tables e below S0 (T_5.setTop (mkF m 18 #[.val (.ref x)] [(.int (1 : Int32))])) := by
    refine C0.trans ?_
    refine st_4 _ ?_
    refine XS.ifNo X_2.here hx rfl (hb hby d6_3) rfl (i0_eq_f P1) ?_
    refine XS.aloadN X_2.here hx rfl (hb hby d6_6) rfl rfl ?_
    refine st_8 _ ?_
    refine XS.ifNo X_6.here hx rfl (hb hby d6_10) rfl (by decide) ?_
    refine XS.iconst X_6.here hx rfl (hb hby d6_13) ?_
    refine XS.goto X_6.here hx rfl (pc0 := 14) (pc' := 18) rfl (hb hby d6_14) (by decide) (by decide) ?_
    exact Steps.refl _
  obtain ⟨fs, hr, hrun, hended, hW, hsame⟩ := X_6.leave (v := some (.int (1 : Int32))) (fun h => by rw [Bd.returns] at h; cases h)
  refine ⟨_, _, C_9.trans (retN X_6 hx (t := .boolean) Bd.returns (by simp) (hb hby d6_18) hr), hrun, hended, _, _, rfl, ?_, ⟨_, rfl⟩, hW, hsame.mono (by decide) (by decide)⟩
  show Q_islat Z G1 G3 x h0 n0 (some (.int (1 : Int32))) T_5.heap _
  rw [e_7]
  exact ⟨rfl, N0, rfl⟩
abbrev M141 : MethodName := ⟨"java/lang/String", "length", "()I"⟩
theorem d7_0 : decode jdk_42_method_54_code 0 = .ok (.aload_n 0, 1) := by decide +kernel
theorem d7_1 : decode jdk_42_method_54_code 1 = .ok (.getfield 9, 3) := by decide +kernel
theorem d7_4 : decode jdk_42_method_54_code 4 = .ok (.arraylength, 1) := by decide +kernel
theorem d7_5 : decode jdk_42_method_54_code 5 = .ok (.aload_n 0, 1) := by decide +kernel
theorem w98 {Z : State} {a0 : Array Value} (hw : ∀ d ∈ tables_1, d.before a0 Z = true) : Jvm.Cond.before (Jvm.Cond.code ({ cls := "java/lang/String", name := "coder", desc := "()B" } : Jvm.MethodName) jdk_42_method_152_code (1 : Nat) (Option.some Jvm.ClassFile.FieldType.byte)) a0 Z = true := hw _ (List.mem_of_getElem? (i := 98) rfl)
theorem pd_147 : parseMethodDescriptor "()B" = some ⟨[], some .byte⟩ := by decide +kernel
theorem d7_6 : decode jdk_42_method_54_code 6 = .ok (.invokevirtual 335, 3) := by decide +kernel
theorem w94 {Z : State} {a0 : Array Value} (hw : ∀ d ∈ tables_1, d.before a0 Z = true) : Jvm.Cond.before (Jvm.Cond.methodLink "java/lang/String" (335 : Nat) ({ cls := "java/lang/String", name := "coder", desc := "()B" } : Jvm.MethodName)) a0 Z = true := hw _ (List.mem_of_getElem? (i := 94) rfl)
theorem w97 {Z : State} {a0 : Array Value} (hw : ∀ d ∈ tables_1, d.before a0 Z = true) : Jvm.Cond.before (Jvm.Cond.selects "java/lang/String" ({ cls := "java/lang/String", name := "coder", desc := "()B" } : Jvm.MethodName) ({ cls := "java/lang/String", name := "coder", desc := "()B" } : Jvm.MethodName)) a0 Z = true := hw _ (List.mem_of_getElem? (i := 97) rfl)
theorem w96 {Z : State} {a0 : Array Value} (hw : ∀ d ∈ tables_1, d.before a0 Z = true) : Jvm.Cond.before (Jvm.Cond.instanceMethod ({ cls := "java/lang/String", name := "coder", desc := "()B" } : Jvm.MethodName)) a0 Z = true := hw _ (List.mem_of_getElem? (i := 96) rfl)
theorem w95 {Z : State} {a0 : Array Value} (hw : ∀ d ∈ tables_1, d.before a0 Z = true) : Jvm.Cond.before (Jvm.Cond.declares ({ cls := "java/lang/String", name := "coder", desc := "()B" } : Jvm.MethodName)) a0 Z = true := hw _ (List.mem_of_getElem? (i := 95) rfl)
theorem d7_9 : decode jdk_42_method_54_code 9 = .ok (.ishr, 1) := by decide +kernel
theorem d7_10 : decode jdk_42_method_54_code 10 = .ok (.ireturn, 1) := by decide +kernel
abbrev R_lenany : Room := { frames := 1, cells := 0, slots := 0, locals := 13 }
def Q_lenany (Z : State) (G1 : Int32) (G3 : Value) (x : Addr) (t : Addr) (kt : ClassId) (z : Int32) (bs : List Value) (h0 : Heap) (n0 : Nat) (v : Option Value) (h : Heap) (L : List Loc) : Prop := (v = some (.int (z >>> ((0 : Int32) &&& 31))) ∧ Fr n0 L ∧ h = h0)
set_option maxRecDepth 65536 in
set_option maxHeartbeats 40000000 in
theorem rm_lenany (l : Launch) (Z : State) (a0 : Array Value) (hw : ∀ d ∈ tables_1, d.before a0 Z = true) (ws : List Jvm.Cond) (G1 : Int32) (G3 : Value) (HG : own_G l Z a0 G1 G3) (h0 : Heap) (n0 : Nat) (X00 : Old Z n0 h0) (x : Addr) (t : Addr) (kt : ClassId) (z : Int32) (bs : List Value) (hp0 : Exa Z h0 x "java/lang/String") (hp1 : Fld Z h0 x "java/lang/String" "coder" "B" (.int (0 : Int32))) (hp2 : Fld Z h0 x "java/lang/String" "value" "[B" (.ref t)) (hp3 : Arv Z h0 t kt .byte z bs (.int (0 : Int32))) :
    own_CP l Z M141 jdk_42_method_54_code 1 (some .int) ws R_lenany #[(.ref x)] h0 (Q_lenany Z G1 G3 x t kt z bs h0 n0) := by
  refine own_P (plainFor_of_name pn_2) ?_
  intro p e s m below meth c s₁ S0 Bd hZ hh hx hby hml hown hnm X0 e0 hS0d
  obtain ⟨O1, P1, O3f, rG3⟩ := id HG
  have N0 := Fr.nil n0
  have C0 : Steps p.tables e below S0 (s₁.setTop (mkF m 0 #[.val (.ref x)] [])) := by rw [hS0d]; exact castTop (ef_125 m x) (Steps.refl _)
  obtain ⟨T_1, X_2, e_3, st_4⟩ := getF X0 hx hZ hown (host := "") (Or.inl (w28 hw)) Via.refl e0 hp2 (g := (mkF m 1 #[.val (.ref x)] [(.ref x)])) rfl rfl (hb hby d7_1)
  obtain ⟨c_5, A_6, q_7, S_8, M_9, H_10, U_11⟩ := id hp3
  obtain ⟨q_13, q_14, q_15, q_16, q_17⟩ := isOf (T := T_1) hZ e_3 hp0
  obtain ⟨_, _, ⟨T_12, L_12, k_12, n_12⟩, -, X_12, ⟨Lc_12, hQ_12, l_12, y_12, z_12⟩, st_12⟩ := X_2.virtualBack hx (y := M124) (z := M124) hown (mvT hZ (w94 hw)) (mvT hZ (w95 hw)) (notFace_of_selects (args := #[]) (mvT hZ (w97 hw))) (mvT hZ (w97 hw)) (mvT hZ (w96 hw)) (by decide) (backOf (W := 1) (rm_coder l Z a0 hw [] G1 G3 HG h0 n0 X00 x hp1) hZ (w98 hw) (w3 hw) (by decide) (by decide)) q_15 q_17 (g := (mkF m 6 #[.val (.ref x)] [(.ref x), (.int z)])) rfl (by rw [hml]; rfl) (Steps.refl _) (argsL := []) (rest := [(.int z)]) (lenOf pd_147 rfl) rfl (by show 2 * 0 + _ ≤ _; exact Nat.le_of_eq rfl) (hb hby d7_6) (fun _ _ => ⟨rfl, e_3, (by decide : 0 + 0 ≤ _), (by decide : 0 + 0 ≤ _)⟩)
  dsimp only [Pt.U, Pt.locs, Pt.cells, Pt.slots] at X_12 l_12 y_12 z_12 st_12 hQ_12
  subst l_12 y_12 z_12
  obtain ⟨rfl, N_18, e_19⟩ := hQ_12
  have N_20 := Fr.app N0 N_18
  have e_21 : T_12.heap = h0 := e_19
  have C_22 : Steps p.tables e below S0 (T_12.setTop (mkF m 10 #[.val (.ref x)] [(.int (z >>> ((0 : Int32) &&& 31)))])) := by
    refine C0.trans ?_
    refine XS.aloadN X0.here hx rfl (hb hby d7_0) rfl rfl ?_
    refine st_4 _ ?_
    refine X_2.arraylength hx (by rw [e_3]; exact A_6.1) (State.isArrayOf_alike hZ.alike A_6.2.1) (g := (mkF m 4 #[.val (.ref x)] [(.ref t)])) rfl rfl (hb hby d7_4) _ ?_
    rw [len_of S_8 M_9]
    refine XS.aloadN X_2.here hx rfl (hb hby d7_5) rfl rfl ?_
    refine st_12.trans ?_
    refine XS.ishr X_12.here hx rfl (hb hby d7_9) rfl ?_
    exact Steps.refl _
  obtain ⟨fs, hr, hrun, hended, hW, hsame⟩ := X_12.leave (v := some (.int (z >>> ((0 : Int32) &&& 31)))) (fun h => by rw [Bd.returns] at h; cases h)
  refine ⟨_, _, C_22.trans (retOut X_12 hx Bd.returns rfl (Or.inl ⟨rfl, Or.inl rfl, _, rfl⟩) (hb hby d7_10) hr), hrun, hended, _, _, rfl, ?_, ⟨_, rfl⟩, hW, hsame.mono (by decide) (by decide)⟩
  show Q_lenany Z G1 G3 x t kt z bs h0 n0 (some (.int (z >>> ((0 : Int32) &&& 31)))) T_12.heap _
  rw [e_21]
  exact ⟨rfl, N_20, rfl⟩
abbrev M155 : MethodName := ⟨"jdk/internal/util/Preconditions", "checkIndex", "(IILjava/util/function/BiFunction;)I"⟩
theorem ef_156 (m : MethodId) (x0 : Int32) (x1 : Int32) (x2 : Value) (r2 : x2.isRef = true) : entryFrame m #[(.int x0), (.int x1), x2] 3 = mkF m 0 #[.val (.int x0), .val (.int x1), .val x2] [] := by rcases ref_cases r2 with rfl | ⟨q2, rfl⟩ <;> first | (simp [entryFrame, mkF, argsToLocals, Value.category]; done) | rfl
theorem pn_157 : plainName "jdk/internal/util/Preconditions" = true := by first | (simp [plainName, overriddenIn]; done) | decide +kernel
theorem d8_0 : decode jdk_41_method_11_code 0 = .ok (.iload_n 0, 1) := by decide +kernel
theorem d8_1 : decode jdk_41_method_11_code 1 = .ok (.ifCond .lt 8, 3) := by decide +kernel
theorem d8_4 : decode jdk_41_method_11_code 4 = .ok (.iload_n 0, 1) := by decide +kernel
theorem d8_5 : decode jdk_41_method_11_code 5 = .ok (.iload_n 1, 1) := by decide +kernel
theorem d8_6 : decode jdk_41_method_11_code 6 = .ok (.if_icmp .lt 10, 3) := by decide +kernel
theorem d8_16 : decode jdk_41_method_11_code 16 = .ok (.iload_n 0, 1) := by decide +kernel
theorem d8_17 : decode jdk_41_method_11_code 17 = .ok (.ireturn, 1) := by decide +kernel
abbrev R_pchk : Room := { frames := 0, cells := 0, slots := 0, locals := 0 }
def Q_pchk (Z : State) (G1 : Int32) (G3 : Value) (i : Int32) (n : Int32) (h0 : Heap) (n0 : Nat) (v : Option Value) (h : Heap) (L : List Loc) : Prop := (v = some (.int i) ∧ Fr n0 L ∧ h = h0)
set_option maxRecDepth 65536 in
set_option maxHeartbeats 40000000 in
theorem rm_pchk (l : Launch) (Z : State) (a0 : Array Value) (hw : ∀ d ∈ tables_1, d.before a0 Z = true) (ws : List Jvm.Cond) (G1 : Int32) (G3 : Value) (HG : own_G l Z a0 G1 G3) (h0 : Heap) (n0 : Nat) (X00 : Old Z n0 h0) (i : Int32) (n : Int32) (h1 : ¬ (i < (0 : Int32))) (h2 : i < n) :
    own_CP l Z M155 jdk_41_method_11_code 3 (some .int) ws R_pchk #[(.int i), (.int n), G3] h0 (Q_pchk Z G1 G3 i n h0 n0) := by
  refine own_P (plainFor_of_name pn_157) ?_
  intro p e s m below meth c s₁ S0 Bd hZ hh hx hby hml hown hnm X0 e0 hS0d
  obtain ⟨O1, P1, O3f, rG3⟩ := id HG
  have N0 := Fr.nil n0
  have C0 : Steps p.tables e below S0 (s₁.setTop (mkF m 0 #[.val (.int i), .val (.int n), .val G3] [])) := by rw [hS0d]; exact castTop (ef_156 m i n G3 rG3) (Steps.refl _)
  have C_1 : Steps p.tables e below S0 (s₁.setTop (mkF m 17 #[.val (.int i), .val (.int n), .val G3] [(.int i)])) := by
    refine C0.trans ?_
    refine XS.iloadN X0.here hx rfl (hb hby d8_0) rfl ?_
    refine XS.ifNo X0.here hx rfl (hb hby d8_1) rfl (i0_lt_f h1) ?_
    refine XS.iloadN X0.here hx rfl (hb hby d8_4) rfl ?_
    refine XS.iloadN X0.here hx rfl (hb hby d8_5) rfl ?_
    refine XS.icmpYes X0.here hx rfl (pc0 := 6) (pc' := 16) rfl (hb hby d8_6) rfl (ii_lt_t h2) (by decide) (by decide) ?_
    refine XS.iloadN X0.here hx rfl (hb hby d8_16) rfl ?_
    exact Steps.refl _
  obtain ⟨fs, hr, hrun, hended, hW, hsame⟩ := X0.leave (v := some (.int i)) (fun h => by rw [Bd.returns] at h; cases h)
  refine ⟨_, _, C_1.trans (retOut X0 hx Bd.returns rfl (Or.inl ⟨rfl, Or.inl rfl, _, rfl⟩) (hb hby d8_17) hr), hrun, hended, _, _, rfl, ?_, ⟨_, rfl⟩, hW, hsame.mono (by decide) (by decide)⟩
  show Q_pchk Z G1 G3 i n h0 n0 (some (.int i)) s₁.heap _
  rw [e0]
  exact ⟨rfl, N0, rfl⟩
abbrev M165 : MethodName := ⟨"java/lang/String", "checkIndex", "(II)V"⟩
theorem ef_166 (m : MethodId) (x0 : Int32) (x1 : Int32) : entryFrame m #[(.int x0), (.int x1)] 2 = mkF m 0 #[.val (.int x0), .val (.int x1)] [] := by first | (simp [entryFrame, mkF, argsToLocals, Value.category]; done) | rfl
theorem d9_0 : decode jdk_42_method_155_code 0 = .ok (.iload_n 0, 1) := by decide +kernel
theorem d9_1 : decode jdk_42_method_155_code 1 = .ok (.iload_n 1, 1) := by decide +kernel
theorem w116 {Z : State} {a0 : Array Value} (hw : ∀ d ∈ tables_1, d.before a0 Z = true) : Jvm.Cond.before (Jvm.Cond.fieldLink "java/lang/String" (1053 : Nat) "jdk/internal/util/Preconditions" "SIOOBE_FORMATTER" "Ljava/util/function/BiFunction;") a0 Z = true := hw _ (List.mem_of_getElem? (i := 116) rfl)
theorem d9_2 : decode jdk_42_method_155_code 2 = .ok (.getstatic 1053, 3) := by decide +kernel
theorem w120 {Z : State} {a0 : Array Value} (hw : ∀ d ∈ tables_1, d.before a0 Z = true) : Jvm.Cond.before (Jvm.Cond.code ({ cls := "jdk/internal/util/Preconditions", name := "checkIndex", desc := "(IILjava/util/function/BiFunction;)I" } : Jvm.MethodName) jdk_41_method_11_code (3 : Nat) (Option.some Jvm.ClassFile.FieldType.int)) a0 Z = true := hw _ (List.mem_of_getElem? (i := 120) rfl)
theorem w117 {Z : State} {a0 : Array Value} (hw : ∀ d ∈ tables_1, d.before a0 Z = true) : Jvm.Cond.before (Jvm.Cond.initialized "jdk/internal/util/Preconditions") a0 Z = true := hw _ (List.mem_of_getElem? (i := 117) rfl)
theorem pd_173 : parseMethodDescriptor "(IILjava/util/function/BiFunction;)I" = some ⟨[.int, .int, (.object "java/util/function/BiFunction")], some .int⟩ := by decide +kernel
theorem d9_5 : decode jdk_42_method_155_code 5 = .ok (.invokestatic 1059, 3) := by decide +kernel
theorem w118 {Z : State} {a0 : Array Value} (hw : ∀ d ∈ tables_1, d.before a0 Z = true) : Jvm.Cond.before (Jvm.Cond.methodLink "java/lang/String" (1059 : Nat) ({ cls := "jdk/internal/util/Preconditions", name := "checkIndex", desc := "(IILjava/util/function/BiFunction;)I" } : Jvm.MethodName)) a0 Z = true := hw _ (List.mem_of_getElem? (i := 118) rfl)
theorem w119 {Z : State} {a0 : Array Value} (hw : ∀ d ∈ tables_1, d.before a0 Z = true) : Jvm.Cond.before (Jvm.Cond.static ({ cls := "jdk/internal/util/Preconditions", name := "checkIndex", desc := "(IILjava/util/function/BiFunction;)I" } : Jvm.MethodName)) a0 Z = true := hw _ (List.mem_of_getElem? (i := 119) rfl)
theorem d9_8 : decode jdk_42_method_155_code 8 = .ok (.pop, 1) := by decide +kernel
theorem d9_9 : decode jdk_42_method_155_code 9 = .ok (.return_, 1) := by decide +kernel
abbrev R_schk : Room := { frames := 1, cells := 0, slots := 0, locals := 14 }
def Q_schk (Z : State) (G1 : Int32) (G3 : Value) (i : Int32) (n : Int32) (h0 : Heap) (n0 : Nat) (v : Option Value) (h : Heap) (L : List Loc) : Prop := (v = none ∧ Fr n0 L ∧ h = h0)
set_option maxRecDepth 65536 in
set_option maxHeartbeats 40000000 in
theorem rm_schk (l : Launch) (Z : State) (a0 : Array Value) (hw : ∀ d ∈ tables_1, d.before a0 Z = true) (ws : List Jvm.Cond) (G1 : Int32) (G3 : Value) (HG : own_G l Z a0 G1 G3) (h0 : Heap) (n0 : Nat) (X00 : Old Z n0 h0) (i : Int32) (n : Int32) (h1 : ¬ (i < (0 : Int32))) (h2 : i < n) :
    own_CP l Z M165 jdk_42_method_155_code 2 none ws R_schk #[(.int i), (.int n)] h0 (Q_schk Z G1 G3 i n h0 n0) := by
  refine own_P (plainFor_of_name pn_2) ?_
  intro p e s m below meth c s₁ S0 Bd hZ hh hx hby hml hown hnm X0 e0 hS0d
  obtain ⟨O1, P1, O3f, rG3⟩ := id HG
  have N0 := Fr.nil n0
  have C0 : Steps p.tables e below S0 (s₁.setTop (mkF m 0 #[.val (.int i), .val (.int n)] [])) := by rw [hS0d]; exact castTop (ef_166 m i n) (Steps.refl _)
  obtain ⟨T_1, X_2, e_3, st_4⟩ := getS X0 hx hZ (host := "") hown (w116 hw) Via.refl e0 (O3f.ext X00.2) (g := (mkF m 2 #[.val (.int i), .val (.int n)] [(.int n), (.int i)])) rfl (hb hby d9_2)
  obtain ⟨_, _, ⟨T_5, L_5, k_5, n_5⟩, -, X_5, ⟨Lc_5, hQ_5, l_5, y_5, z_5⟩, st_5⟩ := Jvm.LawKit.callS X_2 hx (y := M155) hown (mvT hZ (w118 hw)) (mvT hZ (w119 hw)) (mvT hZ (w117 hw)) (mvT hZ (w120 hw)) (by decide) (backOf (W := 0) (rm_pchk l Z a0 hw [] G1 G3 HG h0 n0 X00 i n h1 h2) hZ (w120 hw) (w117 hw) (by decide) (by decide)) (g := (mkF m 5 #[.val (.int i), .val (.int n)] [G3, (.int n), (.int i)])) rfl (by rw [hml]; rfl) (argsL := [(.int i), (.int n), G3]) (rest := []) (lenOf pd_173 rfl) rfl (by show 2 * 0 + _ ≤ _; exact Nat.le_of_eq rfl) (hb hby d9_5) (fun _ _ => ⟨rfl, e_3, (by decide : 0 + 0 ≤ _), (by decide : 0 + 0 ≤ _)⟩)
  dsimp only [Pt.U, Pt.locs, Pt.cells, Pt.slots] at X_5 l_5 y_5 z_5 st_5 hQ_5
  subst l_5 y_5 z_5
  obtain ⟨rfl, N_6, e_7⟩ := hQ_5
  have N_8 := Fr.app N0 N_6
  have e_9 : T_5.heap = h0 := e_7
  have C_10 : Steps p.tables e below S0 (T_5.setTop (mkF m 9 #[.val (.int i), .val (.int n)] [])) := by
    refine C0.trans ?_
    refine XS.iloadN X0.here hx rfl (hb hby d9_0) rfl ?_
    refine XS.iloadN X0.here hx rfl (hb hby d9_1) rfl ?_
    refine st_4 _ ?_
    refine st_5 _ ?_
    refine XS.pop X_5.here hx rfl (hb hby d9_8) rfl rfl ?_
    exact Steps.refl _
  obtain ⟨fs, hr, hrun, hended, hW, hsame⟩ := X_5.leave (v := none) (fun _ => rfl)
  refine ⟨_, _, C_10.trans (X_5.returnOut hx Bd.returns (hb hby d9_9) hr), hrun, hended, _, _, rfl, ?_, ⟨_, rfl⟩, hW, hsame.mono (by decide) (by decide)⟩
  show Q_schk Z G1 G3 i n h0 n0 (none) T_5.heap _
  rw [e_9]
  exact ⟨rfl, N_8, rfl⟩
abbrev M179 : MethodName := ⟨"java/lang/StringLatin1", "charAt", "([BI)C"⟩
theorem pn_180 : plainName "java/lang/StringLatin1" = true := by first | (simp [plainName, overriddenIn]; done) | decide +kernel
theorem d10_0 : decode jdk_43_method_2_code 0 = .ok (.iload_n 1, 1) := by decide +kernel
theorem d10_1 : decode jdk_43_method_2_code 1 = .ok (.aload_n 0, 1) := by decide +kernel
theorem d10_2 : decode jdk_43_method_2_code 2 = .ok (.arraylength, 1) := by decide +kernel
theorem w115 {Z : State} {a0 : Array Value} (hw : ∀ d ∈ tables_1, d.before a0 Z = true) : Jvm.Cond.before (Jvm.Cond.code ({ cls := "java/lang/String", name := "checkIndex", desc := "(II)V" } : Jvm.MethodName) jdk_42_method_155_code (2 : Nat) (Option.none : Option Jvm.ClassFile.FieldType)) a0 Z = true := hw _ (List.mem_of_getElem? (i := 115) rfl)
theorem pd_185 : parseMethodDescriptor "(II)V" = some ⟨[.int, .int], none⟩ := by decide +kernel
theorem d10_3 : decode jdk_43_method_2_code 3 = .ok (.invokestatic 9, 3) := by decide +kernel
theorem w113 {Z : State} {a0 : Array Value} (hw : ∀ d ∈ tables_1, d.before a0 Z = true) : Jvm.Cond.before (Jvm.Cond.methodLink "java/lang/StringLatin1" (9 : Nat) ({ cls := "java/lang/String", name := "checkIndex", desc := "(II)V" } : Jvm.MethodName)) a0 Z = true := hw _ (List.mem_of_getElem? (i := 113) rfl)
theorem w114 {Z : State} {a0 : Array Value} (hw : ∀ d ∈ tables_1, d.before a0 Z = true) : Jvm.Cond.before (Jvm.Cond.static ({ cls := "java/lang/String", name := "checkIndex", desc := "(II)V" } : Jvm.MethodName)) a0 Z = true := hw _ (List.mem_of_getElem? (i := 114) rfl)
theorem d10_6 : decode jdk_43_method_2_code 6 = .ok (.aload_n 0, 1) := by decide +kernel
theorem d10_7 : decode jdk_43_method_2_code 7 = .ok (.iload_n 1, 1) := by decide +kernel
theorem d10_8 : decode jdk_43_method_2_code 8 = .ok (.baload, 1) := by decide +kernel
theorem d10_9 : decode jdk_43_method_2_code 9 = .ok (.sipush 255, 3) := by decide +kernel
theorem d10_12 : decode jdk_43_method_2_code 12 = .ok (.iand, 1) := by decide +kernel
theorem d10_13 : decode jdk_43_method_2_code 13 = .ok (.i2c, 1) := by decide +kernel
theorem d10_14 : decode jdk_43_method_2_code 14 = .ok (.ireturn, 1) := by decide +kernel
abbrev R_lch_1_0 : Room := { frames := 2, cells := 0, slots := 0, locals := 27 }
def Q_lch_1_0 (Z : State) (G1 : Int32) (G3 : Value) (t : Addr) (kt : ClassId) (y0 : Int32) (h0 : Heap) (n0 : Nat) (v : Option Value) (h : Heap) (L : List Loc) : Prop := (v = some (.int (own_ch y0)) ∧ Fr n0 L ∧ h = h0)
set_option maxRecDepth 65536 in
set_option maxHeartbeats 40000000 in
theorem rm_lch_1_0 (l : Launch) (Z : State) (a0 : Array Value) (hw : ∀ d ∈ tables_1, d.before a0 Z = true) (ws : List Jvm.Cond) (G1 : Int32) (G3 : Value) (HG : own_G l Z a0 G1 G3) (h0 : Heap) (n0 : Nat) (X00 : Old Z n0 h0) (t : Addr) (kt : ClassId) (y0 : Int32) (hp0 : Arv Z h0 t kt .byte (1 : Int32) [(.int y0)] (.int (0 : Int32))) :
    own_CP l Z M179 jdk_43_method_2_code 2 (some .char) ws R_lch_1_0 #[(.ref t), (.int (0 : Int32))] h0 (Q_lch_1_0 Z G1 G3 t kt y0 h0 n0) := by
  refine own_P (plainFor_of_name pn_180) ?_
  intro p e s m below meth c s₁ S0 Bd hZ hh hx hby hml hown hnm X0 e0 hS0d
  obtain ⟨O1, P1, O3f, rG3⟩ := id HG
  have N0 := Fr.nil n0
  have C0 : Steps p.tables e below S0 (s₁.setTop (mkF m 0 #[.val (.ref t), .val (.int (0 : Int32))] [])) := by rw [hS0d]; exact castTop (ef_90 m t (0 : Int32)) (Steps.refl _)
  obtain ⟨c_1, A_2, q_3, S_4, M_5, H_6, U_7⟩ := id hp0
  obtain ⟨_, _, ⟨T_8, L_8, k_8, n_8⟩, -, X_8, ⟨Lc_8, hQ_8, l_8, y_8, z_8⟩, st_8⟩ := Jvm.LawKit.callS X0 hx (y := M165) hown (mvT hZ (w113 hw)) (mvT hZ (w114 hw)) (mvT hZ (w3 hw)) (mvT hZ (w115 hw)) (by decide) (backOf (W := 0) (rm_schk l Z a0 hw [] G1 G3 HG h0 n0 X00 (0 : Int32) (1 : Int32) (by decide) (by decide)) hZ (w115 hw) (w3 hw) (by decide) (by decide)) (g := (mkF m 3 #[.val (.ref t), .val (.int (0 : Int32))] [(.int (1 : Int32)), (.int (0 : Int32))])) rfl (by rw [hml]; rfl) (argsL := [(.int (0 : Int32)), (.int (1 : Int32))]) (rest := []) (lenOf pd_185 rfl) rfl (by show 2 * 0 + _ ≤ _; exact Nat.le_of_eq rfl) (hb hby d10_3) (fun _ _ => ⟨rfl, e0, (by decide : 0 + 0 ≤ _), (by decide : 0 + 0 ≤ _)⟩)
  dsimp only [Pt.U, Pt.locs, Pt.cells, Pt.slots] at X_8 l_8 y_8 z_8 st_8 hQ_8
  subst l_8 y_8 z_8
  obtain ⟨rfl, N_9, e_10⟩ := hQ_8
  have N_11 := Fr.app N0 N_9
  have e_12 : T_8.heap = h0 := e_10
  obtain ⟨c_13, A_14, q_15, S_16, M_17, H_18, U_19⟩ := id hp0
  have hin_20 : ¬ ((0 : Int32) < 0 ∨ c_13.slots.size ≤ (0 : Int32).toNatClampNeg) := inb_of S_16 ⟨(by decide : ¬ ((0 : Int32) < (0 : Int32))), (by decide : (0 : Int32) < (1 : Int32))⟩
  have hat_21 : c_13.slots[(0 : Int32).toNatClampNeg]? = some (.int y0) := Has.at H_18 hin_20 rfl
  have C_22 : Steps p.tables e below S0 (T_8.setTop (mkF m 14 #[.val (.ref t), .val (.int (0 : Int32))] [(.int ((y0 &&& (255 : Int32)).toUInt32.toUInt16.toUInt32.toInt32))])) := by
    refine C0.trans ?_
    refine XS.iloadN X0.here hx rfl (hb hby d10_0) rfl ?_
    refine XS.aloadN X0.here hx rfl (hb hby d10_1) rfl rfl ?_
    refine X0.arraylength hx (by rw [e0]; exact A_2.1) (State.isArrayOf_alike hZ.alike A_2.2.1) (g := (mkF m 2 #[.val (.ref t), .val (.int (0 : Int32))] [(.ref t), (.int (0 : Int32))])) rfl rfl (hb hby d10_2) _ ?_
    rw [len_of S_4 M_5]
    refine st_8 _ ?_
    refine XS.aloadN X_8.here hx rfl (hb hby d10_6) rfl rfl ?_
    refine XS.iloadN X_8.here hx rfl (hb hby d10_7) rfl ?_
    refine X_8.baloadBytes hx (j := (0 : Int32)) (v := (.int y0)) (by rw [e_12]; exact A_14.1) (State.isArrayOf_alike hZ.alike A_14.2.1) A_14.2.2 hin_20 hat_21 (g := (mkF m 8 #[.val (.ref t), .val (.int (0 : Int32))] [(.int (0 : Int32)), (.ref t)])) rfl rfl (hb hby d10_8) _ ?_
    refine XS.sipush X_8.here hx rfl (hb hby d10_9) ?_
    show Steps p.tables e below (T_8.setTop (mkF m 12 #[.val (.ref t), .val (.int (0 : Int32))] [(.int (255 : Int32)), (.int y0)])) _
    refine XS.iand X_8.here hx rfl (hb hby d10_12) rfl ?_
    refine XS.i2c X_8.here hx rfl (hb hby d10_13) rfl ?_
    exact Steps.refl _
  obtain ⟨fs, hr, hrun, hended, hW, hsame⟩ := X_8.leave (v := some (.int (own_ch y0))) (fun h => by rw [Bd.returns] at h; cases h)
  refine ⟨_, _, C_22.trans (retN X_8 hx (t := .char) Bd.returns (by simp) (hb hby d10_14) hr), hrun, hended, _, _, rfl, ?_, ⟨_, rfl⟩, hW, hsame.mono (by decide) (by decide)⟩
  show Q_lch_1_0 Z G1 G3 t kt y0 h0 n0 (some (.int (own_ch y0))) T_8.heap _
  rw [e_12]
  exact ⟨rfl, N_11, rfl⟩
abbrev M196 : MethodName := ⟨"java/lang/String", "charAt", "(I)C"⟩
theorem d11_0 : decode jdk_42_method_56_code 0 = .ok (.aload_n 0, 1) := by decide +kernel
theorem w108 {Z : State} {a0 : Array Value} (hw : ∀ d ∈ tables_1, d.before a0 Z = true) : Jvm.Cond.before (Jvm.Cond.code ({ cls := "java/lang/String", name := "isLatin1", desc := "()Z" } : Jvm.MethodName) jdk_42_method_154_code (1 : Nat) (Option.some Jvm.ClassFile.FieldType.boolean)) a0 Z = true := hw _ (List.mem_of_getElem? (i := 108) rfl)
theorem pd_199 : parseMethodDescriptor "()Z" = some ⟨[], some .boolean⟩ := by decide +kernel
theorem d11_1 : decode jdk_42_method_56_code 1 = .ok (.invokevirtual 492, 3) := by decide +kernel
theorem w104 {Z : State} {a0 : Array Value} (hw : ∀ d ∈ tables_1, d.before a0 Z = true) : Jvm.Cond.before (Jvm.Cond.methodLink "java/lang/String" (492 : Nat) ({ cls := "java/lang/String", name := "isLatin1", desc := "()Z" } : Jvm.MethodName)) a0 Z = true := hw _ (List.mem_of_getElem? (i := 104) rfl)
theorem w107 {Z : State} {a0 : Array Value} (hw : ∀ d ∈ tables_1, d.before a0 Z = true) : Jvm.Cond.before (Jvm.Cond.selects "java/lang/String" ({ cls := "java/lang/String", name := "isLatin1", desc := "()Z" } : Jvm.MethodName) ({ cls := "java/lang/String", name := "isLatin1", desc := "()Z" } : Jvm.MethodName)) a0 Z = true := hw _ (List.mem_of_getElem? (i := 107) rfl)
theorem w106 {Z : State} {a0 : Array Value} (hw : ∀ d ∈ tables_1, d.before a0 Z = true) : Jvm.Cond.before (Jvm.Cond.instanceMethod ({ cls := "java/lang/String", name := "isLatin1", desc := "()Z" } : Jvm.MethodName)) a0 Z = true := hw _ (List.mem_of_getElem? (i := 106) rfl)
theorem w105 {Z : State} {a0 : Array Value} (hw : ∀ d ∈ tables_1, d.before a0 Z = true) : Jvm.Cond.before (Jvm.Cond.declares ({ cls := "java/lang/String", name := "isLatin1", desc := "()Z" } : Jvm.MethodName)) a0 Z = true := hw _ (List.mem_of_getElem? (i := 105) rfl)
theorem d11_4 : decode jdk_42_method_56_code 4 = .ok (.ifCond .eq 12, 3) := by decide +kernel
theorem d11_7 : decode jdk_42_method_56_code 7 = .ok (.aload_n 0, 1) := by decide +kernel
theorem d11_8 : decode jdk_42_method_56_code 8 = .ok (.getfield 9, 3) := by decide +kernel
theorem d11_11 : decode jdk_42_method_56_code 11 = .ok (.iload_n 1, 1) := by decide +kernel
theorem w112 {Z : State} {a0 : Array Value} (hw : ∀ d ∈ tables_1, d.before a0 Z = true) : Jvm.Cond.before (Jvm.Cond.code ({ cls := "java/lang/StringLatin1", name := "charAt", desc := "([BI)C" } : Jvm.MethodName) jdk_43_method_2_code (2 : Nat) (Option.some Jvm.ClassFile.FieldType.char)) a0 Z = true := hw _ (List.mem_of_getElem? (i := 112) rfl)
theorem w111 {Z : State} {a0 : Array Value} (hw : ∀ d ∈ tables_1, d.before a0 Z = true) : Jvm.Cond.before (Jvm.Cond.initialized "java/lang/StringLatin1") a0 Z = true := hw _ (List.mem_of_getElem? (i := 111) rfl)
theorem pd_211 : parseMethodDescriptor "([BI)C" = some ⟨[(.array .byte), .int], some .char⟩ := by decide +kernel
theorem d11_12 : decode jdk_42_method_56_code 12 = .ok (.invokestatic 495, 3) := by decide +kernel
theorem w109 {Z : State} {a0 : Array Value} (hw : ∀ d ∈ tables_1, d.before a0 Z = true) : Jvm.Cond.before (Jvm.Cond.methodLink "java/lang/String" (495 : Nat) ({ cls := "java/lang/StringLatin1", name := "charAt", desc := "([BI)C" } : Jvm.MethodName)) a0 Z = true := hw _ (List.mem_of_getElem? (i := 109) rfl)
theorem w110 {Z : State} {a0 : Array Value} (hw : ∀ d ∈ tables_1, d.before a0 Z = true) : Jvm.Cond.before (Jvm.Cond.static ({ cls := "java/lang/StringLatin1", name := "charAt", desc := "([BI)C" } : Jvm.MethodName)) a0 Z = true := hw _ (List.mem_of_getElem? (i := 110) rfl)
theorem d11_15 : decode jdk_42_method_56_code 15 = .ok (.ireturn, 1) := by decide +kernel
abbrev R_ch_1_0 : Room := { frames := 3, cells := 0, slots := 0, locals := 40 }
def Q_ch_1_0 (Z : State) (G1 : Int32) (G3 : Value) (x : Addr) (t : Addr) (kt : ClassId) (y0 : Int32) (h0 : Heap) (n0 : Nat) (v : Option Value) (h : Heap) (L : List Loc) : Prop := (v = some (.int (own_at y0)) ∧ Fr n0 L ∧ h = h0)
set_option maxRecDepth 65536 in
set_option maxHeartbeats 40000000 in
theorem rm_ch_1_0 (l : Launch) (Z : State) (a0 : Array Value) (hw : ∀ d ∈ tables_1, d.before a0 Z = true) (ws : List Jvm.Cond) (G1 : Int32) (G3 : Value) (HG : own_G l Z a0 G1 G3) (h0 : Heap) (n0 : Nat) (X00 : Old Z n0 h0) (x : Addr) (t : Addr) (kt : ClassId) (y0 : Int32) (hp0 : Exa Z h0 x "java/lang/String") (hp1 : Fld Z h0 x "java/lang/String" "coder" "B" (.int (0 : Int32))) (hp2 : Fld Z h0 x "java/lang/String" "value" "[B" (.ref t)) (hp3 : Arv Z h0 t kt .byte (1 : Int32) [(.int y0)] (.int (0 : Int32))) :
    own_CP l Z M196 jdk_42_method_56_code 2 (some .char) ws R_ch_1_0 #[(.ref x), (.int (0 : Int32))] h0 (Q_ch_1_0 Z G1 G3 x t kt y0 h0 n0) := by
  refine own_P (plainFor_of_name pn_2) ?_
  intro p e s m below meth c s₁ S0 Bd hZ hh hx hby hml hown hnm X0 e0 hS0d
  obtain ⟨O1, P1, O3f, rG3⟩ := id HG
  have N0 := Fr.nil n0
  have C0 : Steps p.tables e below S0 (s₁.setTop (mkF m 0 #[.val (.ref x), .val (.int (0 : Int32))] [])) := by rw [hS0d]; exact castTop (ef_90 m x (0 : Int32)) (Steps.refl _)
  obtain ⟨q_2, q_3, q_4, q_5, q_6⟩ := isOf (T := s₁) hZ e0 hp0
  obtain ⟨_, _, ⟨T_1, L_1, k_1, n_1⟩, -, X_1, ⟨Lc_1, hQ_1, l_1, y_1, z_1⟩, st_1⟩ := X0.virtualBack hx (y := M132) (z := M132) hown (mvT hZ (w104 hw)) (mvT hZ (w105 hw)) (notFace_of_selects (args := #[]) (mvT hZ (w107 hw))) (mvT hZ (w107 hw)) (mvT hZ (w106 hw)) (by decide) (backOf (W := 0) (rm_islat l Z a0 hw [] G1 G3 HG h0 n0 X00 x hp1) hZ (w108 hw) (w3 hw) (by decide) (by decide)) q_4 q_6 (g := (mkF m 1 #[.val (.ref x), .val (.int (0 : Int32))] [(.ref x)])) rfl (by rw [hml]; rfl) (Steps.refl _) (argsL := []) (rest := []) (lenOf pd_199 rfl) rfl (by show 2 * 0 + _ ≤ _; exact Nat.le_of_eq rfl) (hb hby d11_1) (fun _ _ => ⟨rfl, e0, (by decide : 0 + 0 ≤ _), (by decide : 0 + 0 ≤ _)⟩)
  dsimp only [Pt.U, Pt.locs, Pt.cells, Pt.slots] at X_1 l_1 y_1 z_1 st_1 hQ_1
  subst l_1 y_1 z_1
  obtain ⟨rfl, N_7, e_8⟩ := hQ_1
  have N_9 := Fr.app N0 N_7
  have e_10 : T_1.heap = h0 := e_8
  obtain ⟨T_11, X_12, e_13, st_14⟩ := getF X_1 hx hZ hown (host := "") (Or.inl (w28 hw)) Via.refl e_10 hp2 (g := (mkF m 8 #[.val (.ref x), .val (.int (0 : Int32))] [(.ref x)])) rfl rfl (hb hby d11_8)
  obtain ⟨_, _, ⟨T_15, L_15, k_15, n_15⟩, -, X_15, ⟨Lc_15, hQ_15, l_15, y_15, z_15⟩, st_15⟩ := Jvm.LawKit.callS X_12 hx (y := M179) hown (mvT hZ (w109 hw)) (mvT hZ (w110 hw)) (mvT hZ (w111 hw)) (mvT hZ (w112 hw)) (by decide) (backOf (W := 0) (rm_lch_1_0 l Z a0 hw [] G1 G3 HG h0 n0 X00 t kt y0 hp3) hZ (w112 hw) (w111 hw) (by decide) (by decide)) (g := (mkF m 12 #[.val (.ref x), .val (.int (0 : Int32))] [(.int (0 : Int32)), (.ref t)])) rfl (by rw [hml]; rfl) (argsL := [(.ref t), (.int (0 : Int32))]) (rest := []) (lenOf pd_211 rfl) rfl (by show 2 * 0 + _ ≤ _; exact Nat.le_of_eq rfl) (hb hby d11_12) (fun _ _ => ⟨rfl, e_13, (by decide : 0 + 0 ≤ _), (by decide : 0 + 0 ≤ _)⟩)
  dsimp only [Pt.U, Pt.locs, Pt.cells, Pt.slots] at X_15 l_15 y_15 z_15 st_15 hQ_15
  subst l_15 y_15 z_15
  obtain ⟨rfl, N_16, e_17⟩ := hQ_15
  have N_18 := Fr.app N_9 N_16
  have e_19 : T_15.heap = h0 := e_17
  have C_20 : Steps p.tables e below S0 (T_15.setTop (mkF m 15 #[.val (.ref x), .val (.int (0 : Int32))] [(.int (own_ch y0))])) := by
    refine C0.trans ?_
    refine XS.aloadN X0.here hx rfl (hb hby d11_0) rfl rfl ?_
    refine st_1.trans ?_
    refine XS.ifNo X_1.here hx rfl (hb hby d11_4) rfl (by decide) ?_
    refine XS.aloadN X_1.here hx rfl (hb hby d11_7) rfl rfl ?_
    refine st_14 _ ?_
    refine XS.iloadN X_12.here hx rfl (hb hby d11_11) rfl ?_
    refine st_15 _ ?_
    exact Steps.refl _
  obtain ⟨fs, hr, hrun, hended, hW, hsame⟩ := X_15.leave (v := some (.int (own_at y0))) (fun h => by rw [Bd.returns] at h; cases h)
  refine ⟨_, _, C_20.trans (retN X_15 hx (t := .char) Bd.returns (by simp) (hb hby d11_15) hr), hrun, hended, _, _, rfl, ?_, ⟨_, rfl⟩, hW, hsame.mono (by decide) (by decide)⟩
  show Q_ch_1_0 Z G1 G3 x t kt y0 h0 n0 (some (.int (own_at y0))) T_15.heap _
  rw [e_19]
  exact ⟨rfl, N_18, rfl⟩
abbrev R_lch_2_0 : Room := { frames := 2, cells := 0, slots := 0, locals := 27 }
def Q_lch_2_0 (Z : State) (G1 : Int32) (G3 : Value) (t : Addr) (kt : ClassId) (y0 : Int32) (y1 : Int32) (h0 : Heap) (n0 : Nat) (v : Option Value) (h : Heap) (L : List Loc) : Prop := (v = some (.int (own_ch y0)) ∧ Fr n0 L ∧ h = h0)
set_option maxRecDepth 65536 in
set_option maxHeartbeats 40000000 in
theorem rm_lch_2_0 (l : Launch) (Z : State) (a0 : Array Value) (hw : ∀ d ∈ tables_1, d.before a0 Z = true) (ws : List Jvm.Cond) (G1 : Int32) (G3 : Value) (HG : own_G l Z a0 G1 G3) (h0 : Heap) (n0 : Nat) (X00 : Old Z n0 h0) (t : Addr) (kt : ClassId) (y0 : Int32) (y1 : Int32) (hp0 : Arv Z h0 t kt .byte (2 : Int32) [(.int y0), (.int y1)] (.int (0 : Int32))) :
    own_CP l Z M179 jdk_43_method_2_code 2 (some .char) ws R_lch_2_0 #[(.ref t), (.int (0 : Int32))] h0 (Q_lch_2_0 Z G1 G3 t kt y0 y1 h0 n0) := by
  refine own_P (plainFor_of_name pn_180) ?_
  intro p e s m below meth c s₁ S0 Bd hZ hh hx hby hml hown hnm X0 e0 hS0d
  obtain ⟨O1, P1, O3f, rG3⟩ := id HG
  have N0 := Fr.nil n0
  have C0 : Steps p.tables e below S0 (s₁.setTop (mkF m 0 #[.val (.ref t), .val (.int (0 : Int32))] [])) := by rw [hS0d]; exact castTop (ef_90 m t (0 : Int32)) (Steps.refl _)
  obtain ⟨c_1, A_2, q_3, S_4, M_5, H_6, U_7⟩ := id hp0
  obtain ⟨_, _, ⟨T_8, L_8, k_8, n_8⟩, -, X_8, ⟨Lc_8, hQ_8, l_8, y_8, z_8⟩, st_8⟩ := Jvm.LawKit.callS X0 hx (y := M165) hown (mvT hZ (w113 hw)) (mvT hZ (w114 hw)) (mvT hZ (w3 hw)) (mvT hZ (w115 hw)) (by decide) (backOf (W := 0) (rm_schk l Z a0 hw [] G1 G3 HG h0 n0 X00 (0 : Int32) (2 : Int32) (by decide) (by decide)) hZ (w115 hw) (w3 hw) (by decide) (by decide)) (g := (mkF m 3 #[.val (.ref t), .val (.int (0 : Int32))] [(.int (2 : Int32)), (.int (0 : Int32))])) rfl (by rw [hml]; rfl) (argsL := [(.int (0 : Int32)), (.int (2 : Int32))]) (rest := []) (lenOf pd_185 rfl) rfl (by show 2 * 0 + _ ≤ _; exact Nat.le_of_eq rfl) (hb hby d10_3) (fun _ _ => ⟨rfl, e0, (by decide : 0 + 0 ≤ _), (by decide : 0 + 0 ≤ _)⟩)
  dsimp only [Pt.U, Pt.locs, Pt.cells, Pt.slots] at X_8 l_8 y_8 z_8 st_8 hQ_8
  subst l_8 y_8 z_8
  obtain ⟨rfl, N_9, e_10⟩ := hQ_8
  have N_11 := Fr.app N0 N_9
  have e_12 : T_8.heap = h0 := e_10
  obtain ⟨c_13, A_14, q_15, S_16, M_17, H_18, U_19⟩ := id hp0
  have hin_20 : ¬ ((0 : Int32) < 0 ∨ c_13.slots.size ≤ (0 : Int32).toNatClampNeg) := inb_of S_16 ⟨(by decide : ¬ ((0 : Int32) < (0 : Int32))), (by decide : (0 : Int32) < (2 : Int32))⟩
  have hat_21 : c_13.slots[(0 : Int32).toNatClampNeg]? = some (.int y0) := Has.at H_18 hin_20 rfl
  have C_22 : Steps p.tables e below S0 (T_8.setTop (mkF m 14 #[.val (.ref t), .val (.int (0 : Int32))] [(.int ((y0 &&& (255 : Int32)).toUInt32.toUInt16.toUInt32.toInt32))])) := by
    refine C0.trans ?_
    refine XS.iloadN X0.here hx rfl (hb hby d10_0) rfl ?_
    refine XS.aloadN X0.here hx rfl (hb hby d10_1) rfl rfl ?_
    refine X0.arraylength hx (by rw [e0]; exact A_2.1) (State.isArrayOf_alike hZ.alike A_2.2.1) (g := (mkF m 2 #[.val (.ref t), .val (.int (0 : Int32))] [(.ref t), (.int (0 : Int32))])) rfl rfl (hb hby d10_2) _ ?_
    rw [len_of S_4 M_5]
    refine st_8 _ ?_
    refine XS.aloadN X_8.here hx rfl (hb hby d10_6) rfl rfl ?_
    refine XS.iloadN X_8.here hx rfl (hb hby d10_7) rfl ?_
    refine X_8.baloadBytes hx (j := (0 : Int32)) (v := (.int y0)) (by rw [e_12]; exact A_14.1) (State.isArrayOf_alike hZ.alike A_14.2.1) A_14.2.2 hin_20 hat_21 (g := (mkF m 8 #[.val (.ref t), .val (.int (0 : Int32))] [(.int (0 : Int32)), (.ref t)])) rfl rfl (hb hby d10_8) _ ?_
    refine XS.sipush X_8.here hx rfl (hb hby d10_9) ?_
    show Steps p.tables e below (T_8.setTop (mkF m 12 #[.val (.ref t), .val (.int (0 : Int32))] [(.int (255 : Int32)), (.int y0)])) _
    refine XS.iand X_8.here hx rfl (hb hby d10_12) rfl ?_
    refine XS.i2c X_8.here hx rfl (hb hby d10_13) rfl ?_
    exact Steps.refl _
  obtain ⟨fs, hr, hrun, hended, hW, hsame⟩ := X_8.leave (v := some (.int (own_ch y0))) (fun h => by rw [Bd.returns] at h; cases h)
  refine ⟨_, _, C_22.trans (retN X_8 hx (t := .char) Bd.returns (by simp) (hb hby d10_14) hr), hrun, hended, _, _, rfl, ?_, ⟨_, rfl⟩, hW, hsame.mono (by decide) (by decide)⟩
  show Q_lch_2_0 Z G1 G3 t kt y0 y1 h0 n0 (some (.int (own_ch y0))) T_8.heap _
  rw [e_12]
  exact ⟨rfl, N_11, rfl⟩
abbrev R_ch_2_0 : Room := { frames := 3, cells := 0, slots := 0, locals := 40 }
def Q_ch_2_0 (Z : State) (G1 : Int32) (G3 : Value) (x : Addr) (t : Addr) (kt : ClassId) (y0 : Int32) (y1 : Int32) (h0 : Heap) (n0 : Nat) (v : Option Value) (h : Heap) (L : List Loc) : Prop := (v = some (.int (own_at y0)) ∧ Fr n0 L ∧ h = h0)
set_option maxRecDepth 65536 in
set_option maxHeartbeats 40000000 in
theorem rm_ch_2_0 (l : Launch) (Z : State) (a0 : Array Value) (hw : ∀ d ∈ tables_1, d.before a0 Z = true) (ws : List Jvm.Cond) (G1 : Int32) (G3 : Value) (HG : own_G l Z a0 G1 G3) (h0 : Heap) (n0 : Nat) (X00 : Old Z n0 h0) (x : Addr) (t : Addr) (kt : ClassId) (y0 : Int32) (y1 : Int32) (hp0 : Exa Z h0 x "java/lang/String") (hp1 : Fld Z h0 x "java/lang/String" "coder" "B" (.int (0 : Int32))) (hp2 : Fld Z h0 x "java/lang/String" "value" "[B" (.ref t)) (hp3 : Arv Z h0 t kt .byte (2 : Int32) [(.int y0), (.int y1)] (.int (0 : Int32))) :
    own_CP l Z M196 jdk_42_method_56_code 2 (some .char) ws R_ch_2_0 #[(.ref x), (.int (0 : Int32))] h0 (Q_ch_2_0 Z G1 G3 x t kt y0 y1 h0 n0) := by
  refine own_P (plainFor_of_name pn_2) ?_
  intro p e s m below meth c s₁ S0 Bd hZ hh hx hby hml hown hnm X0 e0 hS0d
  obtain ⟨O1, P1, O3f, rG3⟩ := id HG
  have N0 := Fr.nil n0
  have C0 : Steps p.tables e below S0 (s₁.setTop (mkF m 0 #[.val (.ref x), .val (.int (0 : Int32))] [])) := by rw [hS0d]; exact castTop (ef_90 m x (0 : Int32)) (Steps.refl _)
  obtain ⟨q_2, q_3, q_4, q_5, q_6⟩ := isOf (T := s₁) hZ e0 hp0
  obtain ⟨_, _, ⟨T_1, L_1, k_1, n_1⟩, -, X_1, ⟨Lc_1, hQ_1, l_1, y_1, z_1⟩, st_1⟩ := X0.virtualBack hx (y := M132) (z := M132) hown (mvT hZ (w104 hw)) (mvT hZ (w105 hw)) (notFace_of_selects (args := #[]) (mvT hZ (w107 hw))) (mvT hZ (w107 hw)) (mvT hZ (w106 hw)) (by decide) (backOf (W := 0) (rm_islat l Z a0 hw [] G1 G3 HG h0 n0 X00 x hp1) hZ (w108 hw) (w3 hw) (by decide) (by decide)) q_4 q_6 (g := (mkF m 1 #[.val (.ref x), .val (.int (0 : Int32))] [(.ref x)])) rfl (by rw [hml]; rfl) (Steps.refl _) (argsL := []) (rest := []) (lenOf pd_199 rfl) rfl (by show 2 * 0 + _ ≤ _; exact Nat.le_of_eq rfl) (hb hby d11_1) (fun _ _ => ⟨rfl, e0, (by decide : 0 + 0 ≤ _), (by decide : 0 + 0 ≤ _)⟩)
  dsimp only [Pt.U, Pt.locs, Pt.cells, Pt.slots] at X_1 l_1 y_1 z_1 st_1 hQ_1
  subst l_1 y_1 z_1
  obtain ⟨rfl, N_7, e_8⟩ := hQ_1
  have N_9 := Fr.app N0 N_7
  have e_10 : T_1.heap = h0 := e_8
  obtain ⟨T_11, X_12, e_13, st_14⟩ := getF X_1 hx hZ hown (host := "") (Or.inl (w28 hw)) Via.refl e_10 hp2 (g := (mkF m 8 #[.val (.ref x), .val (.int (0 : Int32))] [(.ref x)])) rfl rfl (hb hby d11_8)
  obtain ⟨_, _, ⟨T_15, L_15, k_15, n_15⟩, -, X_15, ⟨Lc_15, hQ_15, l_15, y_15, z_15⟩, st_15⟩ := Jvm.LawKit.callS X_12 hx (y := M179) hown (mvT hZ (w109 hw)) (mvT hZ (w110 hw)) (mvT hZ (w111 hw)) (mvT hZ (w112 hw)) (by decide) (backOf (W := 0) (rm_lch_2_0 l Z a0 hw [] G1 G3 HG h0 n0 X00 t kt y0 y1 hp3) hZ (w112 hw) (w111 hw) (by decide) (by decide)) (g := (mkF m 12 #[.val (.ref x), .val (.int (0 : Int32))] [(.int (0 : Int32)), (.ref t)])) rfl (by rw [hml]; rfl) (argsL := [(.ref t), (.int (0 : Int32))]) (rest := []) (lenOf pd_211 rfl) rfl (by show 2 * 0 + _ ≤ _; exact Nat.le_of_eq rfl) (hb hby d11_12) (fun _ _ => ⟨rfl, e_13, (by decide : 0 + 0 ≤ _), (by decide : 0 + 0 ≤ _)⟩)
  dsimp only [Pt.U, Pt.locs, Pt.cells, Pt.slots] at X_15 l_15 y_15 z_15 st_15 hQ_15
  subst l_15 y_15 z_15
  obtain ⟨rfl, N_16, e_17⟩ := hQ_15
  have N_18 := Fr.app N_9 N_16
  have e_19 : T_15.heap = h0 := e_17
  have C_20 : Steps p.tables e below S0 (T_15.setTop (mkF m 15 #[.val (.ref x), .val (.int (0 : Int32))] [(.int (own_ch y0))])) := by
    refine C0.trans ?_
    refine XS.aloadN X0.here hx rfl (hb hby d11_0) rfl rfl ?_
    refine st_1.trans ?_
    refine XS.ifNo X_1.here hx rfl (hb hby d11_4) rfl (by decide) ?_
    refine XS.aloadN X_1.here hx rfl (hb hby d11_7) rfl rfl ?_
    refine st_14 _ ?_
    refine XS.iloadN X_12.here hx rfl (hb hby d11_11) rfl ?_
    refine st_15 _ ?_
    exact Steps.refl _
  obtain ⟨fs, hr, hrun, hended, hW, hsame⟩ := X_15.leave (v := some (.int (own_at y0))) (fun h => by rw [Bd.returns] at h; cases h)
  refine ⟨_, _, C_20.trans (retN X_15 hx (t := .char) Bd.returns (by simp) (hb hby d11_15) hr), hrun, hended, _, _, rfl, ?_, ⟨_, rfl⟩, hW, hsame.mono (by decide) (by decide)⟩
  show Q_ch_2_0 Z G1 G3 x t kt y0 y1 h0 n0 (some (.int (own_at y0))) T_15.heap _
  rw [e_19]
  exact ⟨rfl, N_18, rfl⟩
abbrev R_lch_2_1 : Room := { frames := 2, cells := 0, slots := 0, locals := 27 }
def Q_lch_2_1 (Z : State) (G1 : Int32) (G3 : Value) (t : Addr) (kt : ClassId) (y0 : Int32) (y1 : Int32) (h0 : Heap) (n0 : Nat) (v : Option Value) (h : Heap) (L : List Loc) : Prop := (v = some (.int (own_ch y1)) ∧ Fr n0 L ∧ h = h0)
set_option maxRecDepth 65536 in
set_option maxHeartbeats 40000000 in
theorem rm_lch_2_1 (l : Launch) (Z : State) (a0 : Array Value) (hw : ∀ d ∈ tables_1, d.before a0 Z = true) (ws : List Jvm.Cond) (G1 : Int32) (G3 : Value) (HG : own_G l Z a0 G1 G3) (h0 : Heap) (n0 : Nat) (X00 : Old Z n0 h0) (t : Addr) (kt : ClassId) (y0 : Int32) (y1 : Int32) (hp0 : Arv Z h0 t kt .byte (2 : Int32) [(.int y0), (.int y1)] (.int (0 : Int32))) :
    own_CP l Z M179 jdk_43_method_2_code 2 (some .char) ws R_lch_2_1 #[(.ref t), (.int (1 : Int32))] h0 (Q_lch_2_1 Z G1 G3 t kt y0 y1 h0 n0) := by
  refine own_P (plainFor_of_name pn_180) ?_
  intro p e s m below meth c s₁ S0 Bd hZ hh hx hby hml hown hnm X0 e0 hS0d
  obtain ⟨O1, P1, O3f, rG3⟩ := id HG
  have N0 := Fr.nil n0
  have C0 : Steps p.tables e below S0 (s₁.setTop (mkF m 0 #[.val (.ref t), .val (.int (1 : Int32))] [])) := by rw [hS0d]; exact castTop (ef_90 m t (1 : Int32)) (Steps.refl _)
  obtain ⟨c_1, A_2, q_3, S_4, M_5, H_6, U_7⟩ := id hp0
  obtain ⟨_, _, ⟨T_8, L_8, k_8, n_8⟩, -, X_8, ⟨Lc_8, hQ_8, l_8, y_8, z_8⟩, st_8⟩ := Jvm.LawKit.callS X0 hx (y := M165) hown (mvT hZ (w113 hw)) (mvT hZ (w114 hw)) (mvT hZ (w3 hw)) (mvT hZ (w115 hw)) (by decide) (backOf (W := 0) (rm_schk l Z a0 hw [] G1 G3 HG h0 n0 X00 (1 : Int32) (2 : Int32) (by decide) (by decide)) hZ (w115 hw) (w3 hw) (by decide) (by decide)) (g := (mkF m 3 #[.val (.ref t), .val (.int (1 : Int32))] [(.int (2 : Int32)), (.int (1 : Int32))])) rfl (by rw [hml]; rfl) (argsL := [(.int (1 : Int32)), (.int (2 : Int32))]) (rest := []) (lenOf pd_185 rfl) rfl (by show 2 * 0 + _ ≤ _; exact Nat.le_of_eq rfl) (hb hby d10_3) (fun _ _ => ⟨rfl, e0, (by decide : 0 + 0 ≤ _), (by decide : 0 + 0 ≤ _)⟩)
  dsimp only [Pt.U, Pt.locs, Pt.cells, Pt.slots] at X_8 l_8 y_8 z_8 st_8 hQ_8
  subst l_8 y_8 z_8
  obtain ⟨rfl, N_9, e_10⟩ := hQ_8
  have N_11 := Fr.app N0 N_9
  have e_12 : T_8.heap = h0 := e_10
  obtain ⟨c_13, A_14, q_15, S_16, M_17, H_18, U_19⟩ := id hp0
  have hin_20 : ¬ ((1 : Int32) < 0 ∨ c_13.slots.size ≤ (1 : Int32).toNatClampNeg) := inb_of S_16 ⟨(by decide : ¬ ((1 : Int32) < (0 : Int32))), (by decide : (1 : Int32) < (2 : Int32))⟩
  have hat_21 : c_13.slots[(1 : Int32).toNatClampNeg]? = some (.int y1) := Has.at H_18 hin_20 rfl
  have C_22 : Steps p.tables e below S0 (T_8.setTop (mkF m 14 #[.val (.ref t), .val (.int (1 : Int32))] [(.int ((y1 &&& (255 : Int32)).toUInt32.toUInt16.toUInt32.toInt32))])) := by
    refine C0.trans ?_
    refine XS.iloadN X0.here hx rfl (hb hby d10_0) rfl ?_
    refine XS.aloadN X0.here hx rfl (hb hby d10_1) rfl rfl ?_
    refine X0.arraylength hx (by rw [e0]; exact A_2.1) (State.isArrayOf_alike hZ.alike A_2.2.1) (g := (mkF m 2 #[.val (.ref t), .val (.int (1 : Int32))] [(.ref t), (.int (1 : Int32))])) rfl rfl (hb hby d10_2) _ ?_
    rw [len_of S_4 M_5]
    refine st_8 _ ?_
    refine XS.aloadN X_8.here hx rfl (hb hby d10_6) rfl rfl ?_
    refine XS.iloadN X_8.here hx rfl (hb hby d10_7) rfl ?_
    refine X_8.baloadBytes hx (j := (1 : Int32)) (v := (.int y1)) (by rw [e_12]; exact A_14.1) (State.isArrayOf_alike hZ.alike A_14.2.1) A_14.2.2 hin_20 hat_21 (g := (mkF m 8 #[.val (.ref t), .val (.int (1 : Int32))] [(.int (1 : Int32)), (.ref t)])) rfl rfl (hb hby d10_8) _ ?_
    refine XS.sipush X_8.here hx rfl (hb hby d10_9) ?_
    show Steps p.tables e below (T_8.setTop (mkF m 12 #[.val (.ref t), .val (.int (1 : Int32))] [(.int (255 : Int32)), (.int y1)])) _
    refine XS.iand X_8.here hx rfl (hb hby d10_12) rfl ?_
    refine XS.i2c X_8.here hx rfl (hb hby d10_13) rfl ?_
    exact Steps.refl _
  obtain ⟨fs, hr, hrun, hended, hW, hsame⟩ := X_8.leave (v := some (.int (own_ch y1))) (fun h => by rw [Bd.returns] at h; cases h)
  refine ⟨_, _, C_22.trans (retN X_8 hx (t := .char) Bd.returns (by simp) (hb hby d10_14) hr), hrun, hended, _, _, rfl, ?_, ⟨_, rfl⟩, hW, hsame.mono (by decide) (by decide)⟩
  show Q_lch_2_1 Z G1 G3 t kt y0 y1 h0 n0 (some (.int (own_ch y1))) T_8.heap _
  rw [e_12]
  exact ⟨rfl, N_11, rfl⟩
abbrev R_ch_2_1 : Room := { frames := 3, cells := 0, slots := 0, locals := 40 }
def Q_ch_2_1 (Z : State) (G1 : Int32) (G3 : Value) (x : Addr) (t : Addr) (kt : ClassId) (y0 : Int32) (y1 : Int32) (h0 : Heap) (n0 : Nat) (v : Option Value) (h : Heap) (L : List Loc) : Prop := (v = some (.int (own_at y1)) ∧ Fr n0 L ∧ h = h0)
set_option maxRecDepth 65536 in
set_option maxHeartbeats 40000000 in
theorem rm_ch_2_1 (l : Launch) (Z : State) (a0 : Array Value) (hw : ∀ d ∈ tables_1, d.before a0 Z = true) (ws : List Jvm.Cond) (G1 : Int32) (G3 : Value) (HG : own_G l Z a0 G1 G3) (h0 : Heap) (n0 : Nat) (X00 : Old Z n0 h0) (x : Addr) (t : Addr) (kt : ClassId) (y0 : Int32) (y1 : Int32) (hp0 : Exa Z h0 x "java/lang/String") (hp1 : Fld Z h0 x "java/lang/String" "coder" "B" (.int (0 : Int32))) (hp2 : Fld Z h0 x "java/lang/String" "value" "[B" (.ref t)) (hp3 : Arv Z h0 t kt .byte (2 : Int32) [(.int y0), (.int y1)] (.int (0 : Int32))) :
    own_CP l Z M196 jdk_42_method_56_code 2 (some .char) ws R_ch_2_1 #[(.ref x), (.int (1 : Int32))] h0 (Q_ch_2_1 Z G1 G3 x t kt y0 y1 h0 n0) := by
  refine own_P (plainFor_of_name pn_2) ?_
  intro p e s m below meth c s₁ S0 Bd hZ hh hx hby hml hown hnm X0 e0 hS0d
  obtain ⟨O1, P1, O3f, rG3⟩ := id HG
  have N0 := Fr.nil n0
  have C0 : Steps p.tables e below S0 (s₁.setTop (mkF m 0 #[.val (.ref x), .val (.int (1 : Int32))] [])) := by rw [hS0d]; exact castTop (ef_90 m x (1 : Int32)) (Steps.refl _)
  obtain ⟨q_2, q_3, q_4, q_5, q_6⟩ := isOf (T := s₁) hZ e0 hp0
  obtain ⟨_, _, ⟨T_1, L_1, k_1, n_1⟩, -, X_1, ⟨Lc_1, hQ_1, l_1, y_1, z_1⟩, st_1⟩ := X0.virtualBack hx (y := M132) (z := M132) hown (mvT hZ (w104 hw)) (mvT hZ (w105 hw)) (notFace_of_selects (args := #[]) (mvT hZ (w107 hw))) (mvT hZ (w107 hw)) (mvT hZ (w106 hw)) (by decide) (backOf (W := 0) (rm_islat l Z a0 hw [] G1 G3 HG h0 n0 X00 x hp1) hZ (w108 hw) (w3 hw) (by decide) (by decide)) q_4 q_6 (g := (mkF m 1 #[.val (.ref x), .val (.int (1 : Int32))] [(.ref x)])) rfl (by rw [hml]; rfl) (Steps.refl _) (argsL := []) (rest := []) (lenOf pd_199 rfl) rfl (by show 2 * 0 + _ ≤ _; exact Nat.le_of_eq rfl) (hb hby d11_1) (fun _ _ => ⟨rfl, e0, (by decide : 0 + 0 ≤ _), (by decide : 0 + 0 ≤ _)⟩)
  dsimp only [Pt.U, Pt.locs, Pt.cells, Pt.slots] at X_1 l_1 y_1 z_1 st_1 hQ_1
  subst l_1 y_1 z_1
  obtain ⟨rfl, N_7, e_8⟩ := hQ_1
  have N_9 := Fr.app N0 N_7
  have e_10 : T_1.heap = h0 := e_8
  obtain ⟨T_11, X_12, e_13, st_14⟩ := getF X_1 hx hZ hown (host := "") (Or.inl (w28 hw)) Via.refl e_10 hp2 (g := (mkF m 8 #[.val (.ref x), .val (.int (1 : Int32))] [(.ref x)])) rfl rfl (hb hby d11_8)
  obtain ⟨_, _, ⟨T_15, L_15, k_15, n_15⟩, -, X_15, ⟨Lc_15, hQ_15, l_15, y_15, z_15⟩, st_15⟩ := Jvm.LawKit.callS X_12 hx (y := M179) hown (mvT hZ (w109 hw)) (mvT hZ (w110 hw)) (mvT hZ (w111 hw)) (mvT hZ (w112 hw)) (by decide) (backOf (W := 0) (rm_lch_2_1 l Z a0 hw [] G1 G3 HG h0 n0 X00 t kt y0 y1 hp3) hZ (w112 hw) (w111 hw) (by decide) (by decide)) (g := (mkF m 12 #[.val (.ref x), .val (.int (1 : Int32))] [(.int (1 : Int32)), (.ref t)])) rfl (by rw [hml]; rfl) (argsL := [(.ref t), (.int (1 : Int32))]) (rest := []) (lenOf pd_211 rfl) rfl (by show 2 * 0 + _ ≤ _; exact Nat.le_of_eq rfl) (hb hby d11_12) (fun _ _ => ⟨rfl, e_13, (by decide : 0 + 0 ≤ _), (by decide : 0 + 0 ≤ _)⟩)
  dsimp only [Pt.U, Pt.locs, Pt.cells, Pt.slots] at X_15 l_15 y_15 z_15 st_15 hQ_15
  subst l_15 y_15 z_15
  obtain ⟨rfl, N_16, e_17⟩ := hQ_15
  have N_18 := Fr.app N_9 N_16
  have e_19 : T_15.heap = h0 := e_17
  have C_20 : Steps p.tables e below S0 (T_15.setTop (mkF m 15 #[.val (.ref x), .val (.int (1 : Int32))] [(.int (own_ch y1))])) := by
    refine C0.trans ?_
    refine XS.aloadN X0.here hx rfl (hb hby d11_0) rfl rfl ?_
    refine st_1.trans ?_
    refine XS.ifNo X_1.here hx rfl (hb hby d11_4) rfl (by decide) ?_
    refine XS.aloadN X_1.here hx rfl (hb hby d11_7) rfl rfl ?_
    refine st_14 _ ?_
    refine XS.iloadN X_12.here hx rfl (hb hby d11_11) rfl ?_
    refine st_15 _ ?_
    exact Steps.refl _
  obtain ⟨fs, hr, hrun, hended, hW, hsame⟩ := X_15.leave (v := some (.int (own_at y1))) (fun h => by rw [Bd.returns] at h; cases h)
  refine ⟨_, _, C_20.trans (retN X_15 hx (t := .char) Bd.returns (by simp) (hb hby d11_15) hr), hrun, hended, _, _, rfl, ?_, ⟨_, rfl⟩, hW, hsame.mono (by decide) (by decide)⟩
  show Q_ch_2_1 Z G1 G3 x t kt y0 y1 h0 n0 (some (.int (own_at y1))) T_15.heap _
  rw [e_19]
  exact ⟨rfl, N_18, rfl⟩
abbrev R_lch_3_0 : Room := { frames := 2, cells := 0, slots := 0, locals := 27 }
def Q_lch_3_0 (Z : State) (G1 : Int32) (G3 : Value) (t : Addr) (kt : ClassId) (y0 : Int32) (y1 : Int32) (y2 : Int32) (h0 : Heap) (n0 : Nat) (v : Option Value) (h : Heap) (L : List Loc) : Prop := (v = some (.int (own_ch y0)) ∧ Fr n0 L ∧ h = h0)
set_option maxRecDepth 65536 in
set_option maxHeartbeats 40000000 in
theorem rm_lch_3_0 (l : Launch) (Z : State) (a0 : Array Value) (hw : ∀ d ∈ tables_1, d.before a0 Z = true) (ws : List Jvm.Cond) (G1 : Int32) (G3 : Value) (HG : own_G l Z a0 G1 G3) (h0 : Heap) (n0 : Nat) (X00 : Old Z n0 h0) (t : Addr) (kt : ClassId) (y0 : Int32) (y1 : Int32) (y2 : Int32) (hp0 : Arv Z h0 t kt .byte (3 : Int32) [(.int y0), (.int y1), (.int y2)] (.int (0 : Int32))) :
    own_CP l Z M179 jdk_43_method_2_code 2 (some .char) ws R_lch_3_0 #[(.ref t), (.int (0 : Int32))] h0 (Q_lch_3_0 Z G1 G3 t kt y0 y1 y2 h0 n0) := by
  refine own_P (plainFor_of_name pn_180) ?_
  intro p e s m below meth c s₁ S0 Bd hZ hh hx hby hml hown hnm X0 e0 hS0d
  obtain ⟨O1, P1, O3f, rG3⟩ := id HG
  have N0 := Fr.nil n0
  have C0 : Steps p.tables e below S0 (s₁.setTop (mkF m 0 #[.val (.ref t), .val (.int (0 : Int32))] [])) := by rw [hS0d]; exact castTop (ef_90 m t (0 : Int32)) (Steps.refl _)
  obtain ⟨c_1, A_2, q_3, S_4, M_5, H_6, U_7⟩ := id hp0
  obtain ⟨_, _, ⟨T_8, L_8, k_8, n_8⟩, -, X_8, ⟨Lc_8, hQ_8, l_8, y_8, z_8⟩, st_8⟩ := Jvm.LawKit.callS X0 hx (y := M165) hown (mvT hZ (w113 hw)) (mvT hZ (w114 hw)) (mvT hZ (w3 hw)) (mvT hZ (w115 hw)) (by decide) (backOf (W := 0) (rm_schk l Z a0 hw [] G1 G3 HG h0 n0 X00 (0 : Int32) (3 : Int32) (by decide) (by decide)) hZ (w115 hw) (w3 hw) (by decide) (by decide)) (g := (mkF m 3 #[.val (.ref t), .val (.int (0 : Int32))] [(.int (3 : Int32)), (.int (0 : Int32))])) rfl (by rw [hml]; rfl) (argsL := [(.int (0 : Int32)), (.int (3 : Int32))]) (rest := []) (lenOf pd_185 rfl) rfl (by show 2 * 0 + _ ≤ _; exact Nat.le_of_eq rfl) (hb hby d10_3) (fun _ _ => ⟨rfl, e0, (by decide : 0 + 0 ≤ _), (by decide : 0 + 0 ≤ _)⟩)
  dsimp only [Pt.U, Pt.locs, Pt.cells, Pt.slots] at X_8 l_8 y_8 z_8 st_8 hQ_8
  subst l_8 y_8 z_8
  obtain ⟨rfl, N_9, e_10⟩ := hQ_8
  have N_11 := Fr.app N0 N_9
  have e_12 : T_8.heap = h0 := e_10
  obtain ⟨c_13, A_14, q_15, S_16, M_17, H_18, U_19⟩ := id hp0
  have hin_20 : ¬ ((0 : Int32) < 0 ∨ c_13.slots.size ≤ (0 : Int32).toNatClampNeg) := inb_of S_16 ⟨(by decide : ¬ ((0 : Int32) < (0 : Int32))), (by decide : (0 : Int32) < (3 : Int32))⟩
  have hat_21 : c_13.slots[(0 : Int32).toNatClampNeg]? = some (.int y0) := Has.at H_18 hin_20 rfl
  have C_22 : Steps p.tables e below S0 (T_8.setTop (mkF m 14 #[.val (.ref t), .val (.int (0 : Int32))] [(.int ((y0 &&& (255 : Int32)).toUInt32.toUInt16.toUInt32.toInt32))])) := by
    refine C0.trans ?_
    refine XS.iloadN X0.here hx rfl (hb hby d10_0) rfl ?_
    refine XS.aloadN X0.here hx rfl (hb hby d10_1) rfl rfl ?_
    refine X0.arraylength hx (by rw [e0]; exact A_2.1) (State.isArrayOf_alike hZ.alike A_2.2.1) (g := (mkF m 2 #[.val (.ref t), .val (.int (0 : Int32))] [(.ref t), (.int (0 : Int32))])) rfl rfl (hb hby d10_2) _ ?_
    rw [len_of S_4 M_5]
    refine st_8 _ ?_
    refine XS.aloadN X_8.here hx rfl (hb hby d10_6) rfl rfl ?_
    refine XS.iloadN X_8.here hx rfl (hb hby d10_7) rfl ?_
    refine X_8.baloadBytes hx (j := (0 : Int32)) (v := (.int y0)) (by rw [e_12]; exact A_14.1) (State.isArrayOf_alike hZ.alike A_14.2.1) A_14.2.2 hin_20 hat_21 (g := (mkF m 8 #[.val (.ref t), .val (.int (0 : Int32))] [(.int (0 : Int32)), (.ref t)])) rfl rfl (hb hby d10_8) _ ?_
    refine XS.sipush X_8.here hx rfl (hb hby d10_9) ?_
    show Steps p.tables e below (T_8.setTop (mkF m 12 #[.val (.ref t), .val (.int (0 : Int32))] [(.int (255 : Int32)), (.int y0)])) _
    refine XS.iand X_8.here hx rfl (hb hby d10_12) rfl ?_
    refine XS.i2c X_8.here hx rfl (hb hby d10_13) rfl ?_
    exact Steps.refl _
  obtain ⟨fs, hr, hrun, hended, hW, hsame⟩ := X_8.leave (v := some (.int (own_ch y0))) (fun h => by rw [Bd.returns] at h; cases h)
  refine ⟨_, _, C_22.trans (retN X_8 hx (t := .char) Bd.returns (by simp) (hb hby d10_14) hr), hrun, hended, _, _, rfl, ?_, ⟨_, rfl⟩, hW, hsame.mono (by decide) (by decide)⟩
  show Q_lch_3_0 Z G1 G3 t kt y0 y1 y2 h0 n0 (some (.int (own_ch y0))) T_8.heap _
  rw [e_12]
  exact ⟨rfl, N_11, rfl⟩
abbrev R_ch_3_0 : Room := { frames := 3, cells := 0, slots := 0, locals := 40 }
def Q_ch_3_0 (Z : State) (G1 : Int32) (G3 : Value) (x : Addr) (t : Addr) (kt : ClassId) (y0 : Int32) (y1 : Int32) (y2 : Int32) (h0 : Heap) (n0 : Nat) (v : Option Value) (h : Heap) (L : List Loc) : Prop := (v = some (.int (own_at y0)) ∧ Fr n0 L ∧ h = h0)
set_option maxRecDepth 65536 in
set_option maxHeartbeats 40000000 in
theorem rm_ch_3_0 (l : Launch) (Z : State) (a0 : Array Value) (hw : ∀ d ∈ tables_1, d.before a0 Z = true) (ws : List Jvm.Cond) (G1 : Int32) (G3 : Value) (HG : own_G l Z a0 G1 G3) (h0 : Heap) (n0 : Nat) (X00 : Old Z n0 h0) (x : Addr) (t : Addr) (kt : ClassId) (y0 : Int32) (y1 : Int32) (y2 : Int32) (hp0 : Exa Z h0 x "java/lang/String") (hp1 : Fld Z h0 x "java/lang/String" "coder" "B" (.int (0 : Int32))) (hp2 : Fld Z h0 x "java/lang/String" "value" "[B" (.ref t)) (hp3 : Arv Z h0 t kt .byte (3 : Int32) [(.int y0), (.int y1), (.int y2)] (.int (0 : Int32))) :
    own_CP l Z M196 jdk_42_method_56_code 2 (some .char) ws R_ch_3_0 #[(.ref x), (.int (0 : Int32))] h0 (Q_ch_3_0 Z G1 G3 x t kt y0 y1 y2 h0 n0) := by
  refine own_P (plainFor_of_name pn_2) ?_
  intro p e s m below meth c s₁ S0 Bd hZ hh hx hby hml hown hnm X0 e0 hS0d
  obtain ⟨O1, P1, O3f, rG3⟩ := id HG
  have N0 := Fr.nil n0
  have C0 : Steps p.tables e below S0 (s₁.setTop (mkF m 0 #[.val (.ref x), .val (.int (0 : Int32))] [])) := by rw [hS0d]; exact castTop (ef_90 m x (0 : Int32)) (Steps.refl _)
  obtain ⟨q_2, q_3, q_4, q_5, q_6⟩ := isOf (T := s₁) hZ e0 hp0
  obtain ⟨_, _, ⟨T_1, L_1, k_1, n_1⟩, -, X_1, ⟨Lc_1, hQ_1, l_1, y_1, z_1⟩, st_1⟩ := X0.virtualBack hx (y := M132) (z := M132) hown (mvT hZ (w104 hw)) (mvT hZ (w105 hw)) (notFace_of_selects (args := #[]) (mvT hZ (w107 hw))) (mvT hZ (w107 hw)) (mvT hZ (w106 hw)) (by decide) (backOf (W := 0) (rm_islat l Z a0 hw [] G1 G3 HG h0 n0 X00 x hp1) hZ (w108 hw) (w3 hw) (by decide) (by decide)) q_4 q_6 (g := (mkF m 1 #[.val (.ref x), .val (.int (0 : Int32))] [(.ref x)])) rfl (by rw [hml]; rfl) (Steps.refl _) (argsL := []) (rest := []) (lenOf pd_199 rfl) rfl (by show 2 * 0 + _ ≤ _; exact Nat.le_of_eq rfl) (hb hby d11_1) (fun _ _ => ⟨rfl, e0, (by decide : 0 + 0 ≤ _), (by decide : 0 + 0 ≤ _)⟩)
  dsimp only [Pt.U, Pt.locs, Pt.cells, Pt.slots] at X_1 l_1 y_1 z_1 st_1 hQ_1
  subst l_1 y_1 z_1
  obtain ⟨rfl, N_7, e_8⟩ := hQ_1
  have N_9 := Fr.app N0 N_7
  have e_10 : T_1.heap = h0 := e_8
  obtain ⟨T_11, X_12, e_13, st_14⟩ := getF X_1 hx hZ hown (host := "") (Or.inl (w28 hw)) Via.refl e_10 hp2 (g := (mkF m 8 #[.val (.ref x), .val (.int (0 : Int32))] [(.ref x)])) rfl rfl (hb hby d11_8)
  obtain ⟨_, _, ⟨T_15, L_15, k_15, n_15⟩, -, X_15, ⟨Lc_15, hQ_15, l_15, y_15, z_15⟩, st_15⟩ := Jvm.LawKit.callS X_12 hx (y := M179) hown (mvT hZ (w109 hw)) (mvT hZ (w110 hw)) (mvT hZ (w111 hw)) (mvT hZ (w112 hw)) (by decide) (backOf (W := 0) (rm_lch_3_0 l Z a0 hw [] G1 G3 HG h0 n0 X00 t kt y0 y1 y2 hp3) hZ (w112 hw) (w111 hw) (by decide) (by decide)) (g := (mkF m 12 #[.val (.ref x), .val (.int (0 : Int32))] [(.int (0 : Int32)), (.ref t)])) rfl (by rw [hml]; rfl) (argsL := [(.ref t), (.int (0 : Int32))]) (rest := []) (lenOf pd_211 rfl) rfl (by show 2 * 0 + _ ≤ _; exact Nat.le_of_eq rfl) (hb hby d11_12) (fun _ _ => ⟨rfl, e_13, (by decide : 0 + 0 ≤ _), (by decide : 0 + 0 ≤ _)⟩)
  dsimp only [Pt.U, Pt.locs, Pt.cells, Pt.slots] at X_15 l_15 y_15 z_15 st_15 hQ_15
  subst l_15 y_15 z_15
  obtain ⟨rfl, N_16, e_17⟩ := hQ_15
  have N_18 := Fr.app N_9 N_16
  have e_19 : T_15.heap = h0 := e_17
  have C_20 : Steps p.tables e below S0 (T_15.setTop (mkF m 15 #[.val (.ref x), .val (.int (0 : Int32))] [(.int (own_ch y0))])) := by
    refine C0.trans ?_
    refine XS.aloadN X0.here hx rfl (hb hby d11_0) rfl rfl ?_
    refine st_1.trans ?_
    refine XS.ifNo X_1.here hx rfl (hb hby d11_4) rfl (by decide) ?_
    refine XS.aloadN X_1.here hx rfl (hb hby d11_7) rfl rfl ?_
    refine st_14 _ ?_
    refine XS.iloadN X_12.here hx rfl (hb hby d11_11) rfl ?_
    refine st_15 _ ?_
    exact Steps.refl _
  obtain ⟨fs, hr, hrun, hended, hW, hsame⟩ := X_15.leave (v := some (.int (own_at y0))) (fun h => by rw [Bd.returns] at h; cases h)
  refine ⟨_, _, C_20.trans (retN X_15 hx (t := .char) Bd.returns (by simp) (hb hby d11_15) hr), hrun, hended, _, _, rfl, ?_, ⟨_, rfl⟩, hW, hsame.mono (by decide) (by decide)⟩
  show Q_ch_3_0 Z G1 G3 x t kt y0 y1 y2 h0 n0 (some (.int (own_at y0))) T_15.heap _
  rw [e_19]
  exact ⟨rfl, N_18, rfl⟩
abbrev R_lch_3_1 : Room := { frames := 2, cells := 0, slots := 0, locals := 27 }
def Q_lch_3_1 (Z : State) (G1 : Int32) (G3 : Value) (t : Addr) (kt : ClassId) (y0 : Int32) (y1 : Int32) (y2 : Int32) (h0 : Heap) (n0 : Nat) (v : Option Value) (h : Heap) (L : List Loc) : Prop := (v = some (.int (own_ch y1)) ∧ Fr n0 L ∧ h = h0)
set_option maxRecDepth 65536 in
set_option maxHeartbeats 40000000 in
theorem rm_lch_3_1 (l : Launch) (Z : State) (a0 : Array Value) (hw : ∀ d ∈ tables_1, d.before a0 Z = true) (ws : List Jvm.Cond) (G1 : Int32) (G3 : Value) (HG : own_G l Z a0 G1 G3) (h0 : Heap) (n0 : Nat) (X00 : Old Z n0 h0) (t : Addr) (kt : ClassId) (y0 : Int32) (y1 : Int32) (y2 : Int32) (hp0 : Arv Z h0 t kt .byte (3 : Int32) [(.int y0), (.int y1), (.int y2)] (.int (0 : Int32))) :
    own_CP l Z M179 jdk_43_method_2_code 2 (some .char) ws R_lch_3_1 #[(.ref t), (.int (1 : Int32))] h0 (Q_lch_3_1 Z G1 G3 t kt y0 y1 y2 h0 n0) := by
  refine own_P (plainFor_of_name pn_180) ?_
  intro p e s m below meth c s₁ S0 Bd hZ hh hx hby hml hown hnm X0 e0 hS0d
  obtain ⟨O1, P1, O3f, rG3⟩ := id HG
  have N0 := Fr.nil n0
  have C0 : Steps p.tables e below S0 (s₁.setTop (mkF m 0 #[.val (.ref t), .val (.int (1 : Int32))] [])) := by rw [hS0d]; exact castTop (ef_90 m t (1 : Int32)) (Steps.refl _)
  obtain ⟨c_1, A_2, q_3, S_4, M_5, H_6, U_7⟩ := id hp0
  obtain ⟨_, _, ⟨T_8, L_8, k_8, n_8⟩, -, X_8, ⟨Lc_8, hQ_8, l_8, y_8, z_8⟩, st_8⟩ := Jvm.LawKit.callS X0 hx (y := M165) hown (mvT hZ (w113 hw)) (mvT hZ (w114 hw)) (mvT hZ (w3 hw)) (mvT hZ (w115 hw)) (by decide) (backOf (W := 0) (rm_schk l Z a0 hw [] G1 G3 HG h0 n0 X00 (1 : Int32) (3 : Int32) (by decide) (by decide)) hZ (w115 hw) (w3 hw) (by decide) (by decide)) (g := (mkF m 3 #[.val (.ref t), .val (.int (1 : Int32))] [(.int (3 : Int32)), (.int (1 : Int32))])) rfl (by rw [hml]; rfl) (argsL := [(.int (1 : Int32)), (.int (3 : Int32))]) (rest := []) (lenOf pd_185 rfl) rfl (by show 2 * 0 + _ ≤ _; exact Nat.le_of_eq rfl) (hb hby d10_3) (fun _ _ => ⟨rfl, e0, (by decide : 0 + 0 ≤ _), (by decide : 0 + 0 ≤ _)⟩)
  dsimp only [Pt.U, Pt.locs, Pt.cells, Pt.slots] at X_8 l_8 y_8 z_8 st_8 hQ_8
  subst l_8 y_8 z_8
  obtain ⟨rfl, N_9, e_10⟩ := hQ_8
  have N_11 := Fr.app N0 N_9
  have e_12 : T_8.heap = h0 := e_10
  obtain ⟨c_13, A_14, q_15, S_16, M_17, H_18, U_19⟩ := id hp0
  have hin_20 : ¬ ((1 : Int32) < 0 ∨ c_13.slots.size ≤ (1 : Int32).toNatClampNeg) := inb_of S_16 ⟨(by decide : ¬ ((1 : Int32) < (0 : Int32))), (by decide : (1 : Int32) < (3 : Int32))⟩
  have hat_21 : c_13.slots[(1 : Int32).toNatClampNeg]? = some (.int y1) := Has.at H_18 hin_20 rfl
  have C_22 : Steps p.tables e below S0 (T_8.setTop (mkF m 14 #[.val (.ref t), .val (.int (1 : Int32))] [(.int ((y1 &&& (255 : Int32)).toUInt32.toUInt16.toUInt32.toInt32))])) := by
    refine C0.trans ?_
    refine XS.iloadN X0.here hx rfl (hb hby d10_0) rfl ?_
    refine XS.aloadN X0.here hx rfl (hb hby d10_1) rfl rfl ?_
    refine X0.arraylength hx (by rw [e0]; exact A_2.1) (State.isArrayOf_alike hZ.alike A_2.2.1) (g := (mkF m 2 #[.val (.ref t), .val (.int (1 : Int32))] [(.ref t), (.int (1 : Int32))])) rfl rfl (hb hby d10_2) _ ?_
    rw [len_of S_4 M_5]
    refine st_8 _ ?_
    refine XS.aloadN X_8.here hx rfl (hb hby d10_6) rfl rfl ?_
    refine XS.iloadN X_8.here hx rfl (hb hby d10_7) rfl ?_
    refine X_8.baloadBytes hx (j := (1 : Int32)) (v := (.int y1)) (by rw [e_12]; exact A_14.1) (State.isArrayOf_alike hZ.alike A_14.2.1) A_14.2.2 hin_20 hat_21 (g := (mkF m 8 #[.val (.ref t), .val (.int (1 : Int32))] [(.int (1 : Int32)), (.ref t)])) rfl rfl (hb hby d10_8) _ ?_
    refine XS.sipush X_8.here hx rfl (hb hby d10_9) ?_
    show Steps p.tables e below (T_8.setTop (mkF m 12 #[.val (.ref t), .val (.int (1 : Int32))] [(.int (255 : Int32)), (.int y1)])) _
    refine XS.iand X_8.here hx rfl (hb hby d10_12) rfl ?_
    refine XS.i2c X_8.here hx rfl (hb hby d10_13) rfl ?_
    exact Steps.refl _
  obtain ⟨fs, hr, hrun, hended, hW, hsame⟩ := X_8.leave (v := some (.int (own_ch y1))) (fun h => by rw [Bd.returns] at h; cases h)
  refine ⟨_, _, C_22.trans (retN X_8 hx (t := .char) Bd.returns (by simp) (hb hby d10_14) hr), hrun, hended, _, _, rfl, ?_, ⟨_, rfl⟩, hW, hsame.mono (by decide) (by decide)⟩
  show Q_lch_3_1 Z G1 G3 t kt y0 y1 y2 h0 n0 (some (.int (own_ch y1))) T_8.heap _
  rw [e_12]
  exact ⟨rfl, N_11, rfl⟩
abbrev R_ch_3_1 : Room := { frames := 3, cells := 0, slots := 0, locals := 40 }
def Q_ch_3_1 (Z : State) (G1 : Int32) (G3 : Value) (x : Addr) (t : Addr) (kt : ClassId) (y0 : Int32) (y1 : Int32) (y2 : Int32) (h0 : Heap) (n0 : Nat) (v : Option Value) (h : Heap) (L : List Loc) : Prop := (v = some (.int (own_at y1)) ∧ Fr n0 L ∧ h = h0)
set_option maxRecDepth 65536 in
set_option maxHeartbeats 40000000 in
theorem rm_ch_3_1 (l : Launch) (Z : State) (a0 : Array Value) (hw : ∀ d ∈ tables_1, d.before a0 Z = true) (ws : List Jvm.Cond) (G1 : Int32) (G3 : Value) (HG : own_G l Z a0 G1 G3) (h0 : Heap) (n0 : Nat) (X00 : Old Z n0 h0) (x : Addr) (t : Addr) (kt : ClassId) (y0 : Int32) (y1 : Int32) (y2 : Int32) (hp0 : Exa Z h0 x "java/lang/String") (hp1 : Fld Z h0 x "java/lang/String" "coder" "B" (.int (0 : Int32))) (hp2 : Fld Z h0 x "java/lang/String" "value" "[B" (.ref t)) (hp3 : Arv Z h0 t kt .byte (3 : Int32) [(.int y0), (.int y1), (.int y2)] (.int (0 : Int32))) :
    own_CP l Z M196 jdk_42_method_56_code 2 (some .char) ws R_ch_3_1 #[(.ref x), (.int (1 : Int32))] h0 (Q_ch_3_1 Z G1 G3 x t kt y0 y1 y2 h0 n0) := by
  refine own_P (plainFor_of_name pn_2) ?_
  intro p e s m below meth c s₁ S0 Bd hZ hh hx hby hml hown hnm X0 e0 hS0d
  obtain ⟨O1, P1, O3f, rG3⟩ := id HG
  have N0 := Fr.nil n0
  have C0 : Steps p.tables e below S0 (s₁.setTop (mkF m 0 #[.val (.ref x), .val (.int (1 : Int32))] [])) := by rw [hS0d]; exact castTop (ef_90 m x (1 : Int32)) (Steps.refl _)
  obtain ⟨q_2, q_3, q_4, q_5, q_6⟩ := isOf (T := s₁) hZ e0 hp0
  obtain ⟨_, _, ⟨T_1, L_1, k_1, n_1⟩, -, X_1, ⟨Lc_1, hQ_1, l_1, y_1, z_1⟩, st_1⟩ := X0.virtualBack hx (y := M132) (z := M132) hown (mvT hZ (w104 hw)) (mvT hZ (w105 hw)) (notFace_of_selects (args := #[]) (mvT hZ (w107 hw))) (mvT hZ (w107 hw)) (mvT hZ (w106 hw)) (by decide) (backOf (W := 0) (rm_islat l Z a0 hw [] G1 G3 HG h0 n0 X00 x hp1) hZ (w108 hw) (w3 hw) (by decide) (by decide)) q_4 q_6 (g := (mkF m 1 #[.val (.ref x), .val (.int (1 : Int32))] [(.ref x)])) rfl (by rw [hml]; rfl) (Steps.refl _) (argsL := []) (rest := []) (lenOf pd_199 rfl) rfl (by show 2 * 0 + _ ≤ _; exact Nat.le_of_eq rfl) (hb hby d11_1) (fun _ _ => ⟨rfl, e0, (by decide : 0 + 0 ≤ _), (by decide : 0 + 0 ≤ _)⟩)
  dsimp only [Pt.U, Pt.locs, Pt.cells, Pt.slots] at X_1 l_1 y_1 z_1 st_1 hQ_1
  subst l_1 y_1 z_1
  obtain ⟨rfl, N_7, e_8⟩ := hQ_1
  have N_9 := Fr.app N0 N_7
  have e_10 : T_1.heap = h0 := e_8
  obtain ⟨T_11, X_12, e_13, st_14⟩ := getF X_1 hx hZ hown (host := "") (Or.inl (w28 hw)) Via.refl e_10 hp2 (g := (mkF m 8 #[.val (.ref x), .val (.int (1 : Int32))] [(.ref x)])) rfl rfl (hb hby d11_8)
  obtain ⟨_, _, ⟨T_15, L_15, k_15, n_15⟩, -, X_15, ⟨Lc_15, hQ_15, l_15, y_15, z_15⟩, st_15⟩ := Jvm.LawKit.callS X_12 hx (y := M179) hown (mvT hZ (w109 hw)) (mvT hZ (w110 hw)) (mvT hZ (w111 hw)) (mvT hZ (w112 hw)) (by decide) (backOf (W := 0) (rm_lch_3_1 l Z a0 hw [] G1 G3 HG h0 n0 X00 t kt y0 y1 y2 hp3) hZ (w112 hw) (w111 hw) (by decide) (by decide)) (g := (mkF m 12 #[.val (.ref x), .val (.int (1 : Int32))] [(.int (1 : Int32)), (.ref t)])) rfl (by rw [hml]; rfl) (argsL := [(.ref t), (.int (1 : Int32))]) (rest := []) (lenOf pd_211 rfl) rfl (by show 2 * 0 + _ ≤ _; exact Nat.le_of_eq rfl) (hb hby d11_12) (fun _ _ => ⟨rfl, e_13, (by decide : 0 + 0 ≤ _), (by decide : 0 + 0 ≤ _)⟩)
  dsimp only [Pt.U, Pt.locs, Pt.cells, Pt.slots] at X_15 l_15 y_15 z_15 st_15 hQ_15
  subst l_15 y_15 z_15
  obtain ⟨rfl, N_16, e_17⟩ := hQ_15
  have N_18 := Fr.app N_9 N_16
  have e_19 : T_15.heap = h0 := e_17
  have C_20 : Steps p.tables e below S0 (T_15.setTop (mkF m 15 #[.val (.ref x), .val (.int (1 : Int32))] [(.int (own_ch y1))])) := by
    refine C0.trans ?_
    refine XS.aloadN X0.here hx rfl (hb hby d11_0) rfl rfl ?_
    refine st_1.trans ?_
    refine XS.ifNo X_1.here hx rfl (hb hby d11_4) rfl (by decide) ?_
    refine XS.aloadN X_1.here hx rfl (hb hby d11_7) rfl rfl ?_
    refine st_14 _ ?_
    refine XS.iloadN X_12.here hx rfl (hb hby d11_11) rfl ?_
    refine st_15 _ ?_
    exact Steps.refl _
  obtain ⟨fs, hr, hrun, hended, hW, hsame⟩ := X_15.leave (v := some (.int (own_at y1))) (fun h => by rw [Bd.returns] at h; cases h)
  refine ⟨_, _, C_20.trans (retN X_15 hx (t := .char) Bd.returns (by simp) (hb hby d11_15) hr), hrun, hended, _, _, rfl, ?_, ⟨_, rfl⟩, hW, hsame.mono (by decide) (by decide)⟩
  show Q_ch_3_1 Z G1 G3 x t kt y0 y1 y2 h0 n0 (some (.int (own_at y1))) T_15.heap _
  rw [e_19]
  exact ⟨rfl, N_18, rfl⟩
abbrev R_lch_3_2 : Room := { frames := 2, cells := 0, slots := 0, locals := 27 }
def Q_lch_3_2 (Z : State) (G1 : Int32) (G3 : Value) (t : Addr) (kt : ClassId) (y0 : Int32) (y1 : Int32) (y2 : Int32) (h0 : Heap) (n0 : Nat) (v : Option Value) (h : Heap) (L : List Loc) : Prop := (v = some (.int (own_ch y2)) ∧ Fr n0 L ∧ h = h0)
set_option maxRecDepth 65536 in
set_option maxHeartbeats 40000000 in
theorem rm_lch_3_2 (l : Launch) (Z : State) (a0 : Array Value) (hw : ∀ d ∈ tables_1, d.before a0 Z = true) (ws : List Jvm.Cond) (G1 : Int32) (G3 : Value) (HG : own_G l Z a0 G1 G3) (h0 : Heap) (n0 : Nat) (X00 : Old Z n0 h0) (t : Addr) (kt : ClassId) (y0 : Int32) (y1 : Int32) (y2 : Int32) (hp0 : Arv Z h0 t kt .byte (3 : Int32) [(.int y0), (.int y1), (.int y2)] (.int (0 : Int32))) :
    own_CP l Z M179 jdk_43_method_2_code 2 (some .char) ws R_lch_3_2 #[(.ref t), (.int (2 : Int32))] h0 (Q_lch_3_2 Z G1 G3 t kt y0 y1 y2 h0 n0) := by
  refine own_P (plainFor_of_name pn_180) ?_
  intro p e s m below meth c s₁ S0 Bd hZ hh hx hby hml hown hnm X0 e0 hS0d
  obtain ⟨O1, P1, O3f, rG3⟩ := id HG
  have N0 := Fr.nil n0
  have C0 : Steps p.tables e below S0 (s₁.setTop (mkF m 0 #[.val (.ref t), .val (.int (2 : Int32))] [])) := by rw [hS0d]; exact castTop (ef_90 m t (2 : Int32)) (Steps.refl _)
  obtain ⟨c_1, A_2, q_3, S_4, M_5, H_6, U_7⟩ := id hp0
  obtain ⟨_, _, ⟨T_8, L_8, k_8, n_8⟩, -, X_8, ⟨Lc_8, hQ_8, l_8, y_8, z_8⟩, st_8⟩ := Jvm.LawKit.callS X0 hx (y := M165) hown (mvT hZ (w113 hw)) (mvT hZ (w114 hw)) (mvT hZ (w3 hw)) (mvT hZ (w115 hw)) (by decide) (backOf (W := 0) (rm_schk l Z a0 hw [] G1 G3 HG h0 n0 X00 (2 : Int32) (3 : Int32) (by decide) (by decide)) hZ (w115 hw) (w3 hw) (by decide) (by decide)) (g := (mkF m 3 #[.val (.ref t), .val (.int (2 : Int32))] [(.int (3 : Int32)), (.int (2 : Int32))])) rfl (by rw [hml]; rfl) (argsL := [(.int (2 : Int32)), (.int (3 : Int32))]) (rest := []) (lenOf pd_185 rfl) rfl (by show 2 * 0 + _ ≤ _; exact Nat.le_of_eq rfl) (hb hby d10_3) (fun _ _ => ⟨rfl, e0, (by decide : 0 + 0 ≤ _), (by decide : 0 + 0 ≤ _)⟩)
  dsimp only [Pt.U, Pt.locs, Pt.cells, Pt.slots] at X_8 l_8 y_8 z_8 st_8 hQ_8
  subst l_8 y_8 z_8
  obtain ⟨rfl, N_9, e_10⟩ := hQ_8
  have N_11 := Fr.app N0 N_9
  have e_12 : T_8.heap = h0 := e_10
  obtain ⟨c_13, A_14, q_15, S_16, M_17, H_18, U_19⟩ := id hp0
  have hin_20 : ¬ ((2 : Int32) < 0 ∨ c_13.slots.size ≤ (2 : Int32).toNatClampNeg) := inb_of S_16 ⟨(by decide : ¬ ((2 : Int32) < (0 : Int32))), (by decide : (2 : Int32) < (3 : Int32))⟩
  have hat_21 : c_13.slots[(2 : Int32).toNatClampNeg]? = some (.int y2) := Has.at H_18 hin_20 rfl
  have C_22 : Steps p.tables e below S0 (T_8.setTop (mkF m 14 #[.val (.ref t), .val (.int (2 : Int32))] [(.int ((y2 &&& (255 : Int32)).toUInt32.toUInt16.toUInt32.toInt32))])) := by
    refine C0.trans ?_
    refine XS.iloadN X0.here hx rfl (hb hby d10_0) rfl ?_
    refine XS.aloadN X0.here hx rfl (hb hby d10_1) rfl rfl ?_
    refine X0.arraylength hx (by rw [e0]; exact A_2.1) (State.isArrayOf_alike hZ.alike A_2.2.1) (g := (mkF m 2 #[.val (.ref t), .val (.int (2 : Int32))] [(.ref t), (.int (2 : Int32))])) rfl rfl (hb hby d10_2) _ ?_
    rw [len_of S_4 M_5]
    refine st_8 _ ?_
    refine XS.aloadN X_8.here hx rfl (hb hby d10_6) rfl rfl ?_
    refine XS.iloadN X_8.here hx rfl (hb hby d10_7) rfl ?_
    refine X_8.baloadBytes hx (j := (2 : Int32)) (v := (.int y2)) (by rw [e_12]; exact A_14.1) (State.isArrayOf_alike hZ.alike A_14.2.1) A_14.2.2 hin_20 hat_21 (g := (mkF m 8 #[.val (.ref t), .val (.int (2 : Int32))] [(.int (2 : Int32)), (.ref t)])) rfl rfl (hb hby d10_8) _ ?_
    refine XS.sipush X_8.here hx rfl (hb hby d10_9) ?_
    show Steps p.tables e below (T_8.setTop (mkF m 12 #[.val (.ref t), .val (.int (2 : Int32))] [(.int (255 : Int32)), (.int y2)])) _
    refine XS.iand X_8.here hx rfl (hb hby d10_12) rfl ?_
    refine XS.i2c X_8.here hx rfl (hb hby d10_13) rfl ?_
    exact Steps.refl _
  obtain ⟨fs, hr, hrun, hended, hW, hsame⟩ := X_8.leave (v := some (.int (own_ch y2))) (fun h => by rw [Bd.returns] at h; cases h)
  refine ⟨_, _, C_22.trans (retN X_8 hx (t := .char) Bd.returns (by simp) (hb hby d10_14) hr), hrun, hended, _, _, rfl, ?_, ⟨_, rfl⟩, hW, hsame.mono (by decide) (by decide)⟩
  show Q_lch_3_2 Z G1 G3 t kt y0 y1 y2 h0 n0 (some (.int (own_ch y2))) T_8.heap _
  rw [e_12]
  exact ⟨rfl, N_11, rfl⟩
abbrev R_ch_3_2 : Room := { frames := 3, cells := 0, slots := 0, locals := 40 }
def Q_ch_3_2 (Z : State) (G1 : Int32) (G3 : Value) (x : Addr) (t : Addr) (kt : ClassId) (y0 : Int32) (y1 : Int32) (y2 : Int32) (h0 : Heap) (n0 : Nat) (v : Option Value) (h : Heap) (L : List Loc) : Prop := (v = some (.int (own_at y2)) ∧ Fr n0 L ∧ h = h0)
set_option maxRecDepth 65536 in
set_option maxHeartbeats 40000000 in
theorem rm_ch_3_2 (l : Launch) (Z : State) (a0 : Array Value) (hw : ∀ d ∈ tables_1, d.before a0 Z = true) (ws : List Jvm.Cond) (G1 : Int32) (G3 : Value) (HG : own_G l Z a0 G1 G3) (h0 : Heap) (n0 : Nat) (X00 : Old Z n0 h0) (x : Addr) (t : Addr) (kt : ClassId) (y0 : Int32) (y1 : Int32) (y2 : Int32) (hp0 : Exa Z h0 x "java/lang/String") (hp1 : Fld Z h0 x "java/lang/String" "coder" "B" (.int (0 : Int32))) (hp2 : Fld Z h0 x "java/lang/String" "value" "[B" (.ref t)) (hp3 : Arv Z h0 t kt .byte (3 : Int32) [(.int y0), (.int y1), (.int y2)] (.int (0 : Int32))) :
    own_CP l Z M196 jdk_42_method_56_code 2 (some .char) ws R_ch_3_2 #[(.ref x), (.int (2 : Int32))] h0 (Q_ch_3_2 Z G1 G3 x t kt y0 y1 y2 h0 n0) := by
  refine own_P (plainFor_of_name pn_2) ?_
  intro p e s m below meth c s₁ S0 Bd hZ hh hx hby hml hown hnm X0 e0 hS0d
  obtain ⟨O1, P1, O3f, rG3⟩ := id HG
  have N0 := Fr.nil n0
  have C0 : Steps p.tables e below S0 (s₁.setTop (mkF m 0 #[.val (.ref x), .val (.int (2 : Int32))] [])) := by rw [hS0d]; exact castTop (ef_90 m x (2 : Int32)) (Steps.refl _)
  obtain ⟨q_2, q_3, q_4, q_5, q_6⟩ := isOf (T := s₁) hZ e0 hp0
  obtain ⟨_, _, ⟨T_1, L_1, k_1, n_1⟩, -, X_1, ⟨Lc_1, hQ_1, l_1, y_1, z_1⟩, st_1⟩ := X0.virtualBack hx (y := M132) (z := M132) hown (mvT hZ (w104 hw)) (mvT hZ (w105 hw)) (notFace_of_selects (args := #[]) (mvT hZ (w107 hw))) (mvT hZ (w107 hw)) (mvT hZ (w106 hw)) (by decide) (backOf (W := 0) (rm_islat l Z a0 hw [] G1 G3 HG h0 n0 X00 x hp1) hZ (w108 hw) (w3 hw) (by decide) (by decide)) q_4 q_6 (g := (mkF m 1 #[.val (.ref x), .val (.int (2 : Int32))] [(.ref x)])) rfl (by rw [hml]; rfl) (Steps.refl _) (argsL := []) (rest := []) (lenOf pd_199 rfl) rfl (by show 2 * 0 + _ ≤ _; exact Nat.le_of_eq rfl) (hb hby d11_1) (fun _ _ => ⟨rfl, e0, (by decide : 0 + 0 ≤ _), (by decide : 0 + 0 ≤ _)⟩)
  dsimp only [Pt.U, Pt.locs, Pt.cells, Pt.slots] at X_1 l_1 y_1 z_1 st_1 hQ_1
  subst l_1 y_1 z_1
  obtain ⟨rfl, N_7, e_8⟩ := hQ_1
  have N_9 := Fr.app N0 N_7
  have e_10 : T_1.heap = h0 := e_8
  obtain ⟨T_11, X_12, e_13, st_14⟩ := getF X_1 hx hZ hown (host := "") (Or.inl (w28 hw)) Via.refl e_10 hp2 (g := (mkF m 8 #[.val (.ref x), .val (.int (2 : Int32))] [(.ref x)])) rfl rfl (hb hby d11_8)
  obtain ⟨_, _, ⟨T_15, L_15, k_15, n_15⟩, -, X_15, ⟨Lc_15, hQ_15, l_15, y_15, z_15⟩, st_15⟩ := Jvm.LawKit.callS X_12 hx (y := M179) hown (mvT hZ (w109 hw)) (mvT hZ (w110 hw)) (mvT hZ (w111 hw)) (mvT hZ (w112 hw)) (by decide) (backOf (W := 0) (rm_lch_3_2 l Z a0 hw [] G1 G3 HG h0 n0 X00 t kt y0 y1 y2 hp3) hZ (w112 hw) (w111 hw) (by decide) (by decide)) (g := (mkF m 12 #[.val (.ref x), .val (.int (2 : Int32))] [(.int (2 : Int32)), (.ref t)])) rfl (by rw [hml]; rfl) (argsL := [(.ref t), (.int (2 : Int32))]) (rest := []) (lenOf pd_211 rfl) rfl (by show 2 * 0 + _ ≤ _; exact Nat.le_of_eq rfl) (hb hby d11_12) (fun _ _ => ⟨rfl, e_13, (by decide : 0 + 0 ≤ _), (by decide : 0 + 0 ≤ _)⟩)
  dsimp only [Pt.U, Pt.locs, Pt.cells, Pt.slots] at X_15 l_15 y_15 z_15 st_15 hQ_15
  subst l_15 y_15 z_15
  obtain ⟨rfl, N_16, e_17⟩ := hQ_15
  have N_18 := Fr.app N_9 N_16
  have e_19 : T_15.heap = h0 := e_17
  have C_20 : Steps p.tables e below S0 (T_15.setTop (mkF m 15 #[.val (.ref x), .val (.int (2 : Int32))] [(.int (own_ch y2))])) := by
    refine C0.trans ?_
    refine XS.aloadN X0.here hx rfl (hb hby d11_0) rfl rfl ?_
    refine st_1.trans ?_
    refine XS.ifNo X_1.here hx rfl (hb hby d11_4) rfl (by decide) ?_
    refine XS.aloadN X_1.here hx rfl (hb hby d11_7) rfl rfl ?_
    refine st_14 _ ?_
    refine XS.iloadN X_12.here hx rfl (hb hby d11_11) rfl ?_
    refine st_15 _ ?_
    exact Steps.refl _
  obtain ⟨fs, hr, hrun, hended, hW, hsame⟩ := X_15.leave (v := some (.int (own_at y2))) (fun h => by rw [Bd.returns] at h; cases h)
  refine ⟨_, _, C_20.trans (retN X_15 hx (t := .char) Bd.returns (by simp) (hb hby d11_15) hr), hrun, hended, _, _, rfl, ?_, ⟨_, rfl⟩, hW, hsame.mono (by decide) (by decide)⟩
  show Q_ch_3_2 Z G1 G3 x t kt y0 y1 y2 h0 n0 (some (.int (own_at y2))) T_15.heap _
  rw [e_19]
  exact ⟨rfl, N_18, rfl⟩
abbrev M216 : MethodName := ⟨"java/lang/String", "equals", "(Ljava/lang/Object;)Z"⟩
theorem ef_217 (m : MethodId) (x0 : Addr) (x1 : Addr) : entryFrame m #[(.ref x0), (.ref x1)] 3 = mkF m 0 #[.val (.ref x0), .val (.ref x1), .unset] [] := by first | (simp [entryFrame, mkF, argsToLocals, Value.category]; done) | rfl
theorem d12_0 : decode jdk_42_method_66_code 0 = .ok (.aload_n 0, 1) := by decide +kernel
theorem d12_1 : decode jdk_42_method_66_code 1 = .ok (.aload_n 1, 1) := by decide +kernel
theorem d12_2 : decode jdk_42_method_66_code 2 = .ok (.if_acmp .ne 5, 3) := by decide +kernel
theorem d12_5 : decode jdk_42_method_66_code 5 = .ok (.iconst 1, 1) := by decide +kernel
theorem d12_6 : decode jdk_42_method_66_code 6 = .ok (.ireturn, 1) := by decide +kernel
abbrev R_eqself : Room := { frames := 0, cells := 0, slots := 0, locals := 0 }
def Q_eqself (Z : State) (G1 : Int32) (G3 : Value) (x : Addr) (h0 : Heap) (n0 : Nat) (v : Option Value) (h : Heap) (L : List Loc) : Prop := (v = some (.int (1 : Int32)) ∧ Fr n0 L ∧ h = h0)
set_option maxRecDepth 65536 in
set_option maxHeartbeats 40000000 in
theorem rm_eqself (l : Launch) (Z : State) (a0 : Array Value) (hw : ∀ d ∈ tables_1, d.before a0 Z = true) (ws : List Jvm.Cond) (G1 : Int32) (G3 : Value) (HG : own_G l Z a0 G1 G3) (h0 : Heap) (n0 : Nat) (X00 : Old Z n0 h0) (x : Addr)  :
    own_CP l Z M216 jdk_42_method_66_code 3 (some .boolean) ws R_eqself #[(.ref x), (.ref x)] h0 (Q_eqself Z G1 G3 x h0 n0) := by
  refine own_P (plainFor_of_name pn_2) ?_
  intro p e s m below meth c s₁ S0 Bd hZ hh hx hby hml hown hnm X0 e0 hS0d
  obtain ⟨O1, P1, O3f, rG3⟩ := id HG
  have N0 := Fr.nil n0
  have C0 : Steps p.tables e below S0 (s₁.setTop (mkF m 0 #[.val (.ref x), .val (.ref x), .unset] [])) := by rw [hS0d]; exact castTop (ef_217 m x x) (Steps.refl _)
  have C_1 : Steps p.tables e below S0 (s₁.setTop (mkF m 6 #[.val (.ref x), .val (.ref x), .unset] [(.int (1 : Int32))])) := by
    refine C0.trans ?_
    refine XS.aloadN X0.here hx rfl (hb hby d12_0) rfl rfl ?_
    refine XS.aloadN X0.here hx rfl (hb hby d12_1) rfl rfl ?_
    refine acmp X0 hx rfl (cd := .ne) (x := (.ref x)) (y := (.ref x)) rfl rfl (same := true) (pc0 := 2) (pc' := 5) rfl (hb hby d12_2) rfl (decide_eq_true rfl) (by decide) (by decide) ?_
    refine XS.iconst X0.here hx rfl (hb hby d12_5) ?_
    exact Steps.refl _
  obtain ⟨fs, hr, hrun, hended, hW, hsame⟩ := X0.leave (v := some (.int (1 : Int32))) (fun h => by rw [Bd.returns] at h; cases h)
  refine ⟨_, _, C_1.trans (retN X0 hx (t := .boolean) Bd.returns (by simp) (hb hby d12_6) hr), hrun, hended, _, _, rfl, ?_, ⟨_, rfl⟩, hW, hsame.mono (by decide) (by decide)⟩
  show Q_eqself Z G1 G3 x h0 n0 (some (.int (1 : Int32))) s₁.heap _
  rw [e0]
  exact ⟨rfl, N0, rfl⟩
abbrev M223 : MethodName := ⟨"java/lang/Math", "abs", "(J)J"⟩
theorem ef_224 (m : MethodId) (x0 : Int64) : entryFrame m #[(.long x0)] 2 = mkF m 0 #[.val (.long x0), .second] [] := by first | (simp [entryFrame, mkF, argsToLocals, Value.category]; done) | rfl
theorem d13_0 : decode jdk_29_method_61_code 0 = .ok (.lload_n 0, 1) := by decide +kernel
theorem d13_1 : decode jdk_29_method_61_code 1 = .ok (.lconst 0, 1) := by decide +kernel
theorem d13_2 : decode jdk_29_method_61_code 2 = .ok (.lcmp, 1) := by decide +kernel
theorem d13_3 : decode jdk_29_method_61_code 3 = .ok (.ifCond .ge 8, 3) := by decide +kernel
theorem d13_11 : decode jdk_29_method_61_code 11 = .ok (.lload_n 0, 1) := by decide +kernel
theorem d13_12 : decode jdk_29_method_61_code 12 = .ok (.lreturn, 1) := by decide +kernel
abbrev R_abs15 : Room := { frames := 0, cells := 0, slots := 0, locals := 0 }
def Q_abs15 (Z : State) (G1 : Int32) (G3 : Value)  (h0 : Heap) (n0 : Nat) (v : Option Value) (h : Heap) (L : List Loc) : Prop := (v = some (.long (15 : Int64)) ∧ Fr n0 L ∧ h = h0)
set_option maxRecDepth 65536 in
set_option maxHeartbeats 40000000 in
theorem rm_abs15 (l : Launch) (Z : State) (a0 : Array Value) (hw : ∀ d ∈ tables_1, d.before a0 Z = true) (ws : List Jvm.Cond) (G1 : Int32) (G3 : Value) (HG : own_G l Z a0 G1 G3) (h0 : Heap) (n0 : Nat) (X00 : Old Z n0 h0)   :
    own_CP l Z M223 jdk_29_method_61_code 2 (some .long) ws R_abs15 #[(.long (15 : Int64))] h0 (Q_abs15 Z G1 G3  h0 n0) := by
  refine own_P (Jvm.Free.JP.mathPlain rfl (by decide +kernel)) ?_
  intro p e s m below meth c s₁ S0 Bd hZ hh hx hby hml hown hnm X0 e0 hS0d
  obtain ⟨O1, P1, O3f, rG3⟩ := id HG
  have N0 := Fr.nil n0
  have C0 : Steps p.tables e below S0 (s₁.setTop (mkF m 0 #[.val (.long (15 : Int64)), .second] [])) := by rw [hS0d]; exact castTop (ef_224 m (15 : Int64)) (Steps.refl _)
  have C_1 : Steps p.tables e below S0 (s₁.setTop (mkF m 12 #[.val (.long (15 : Int64)), .second] [(.long (15 : Int64))])) := by
    refine C0.trans ?_
    refine XS.lloadN X0.here hx rfl (hb hby d13_0) rfl ?_
    refine XS.lconst X0.here hx rfl (hb hby d13_1) ?_
    refine XS.lcmp X0.here hx rfl (hb hby d13_2) rfl ?_
    refine XS.ifYes X0.here hx rfl (pc0 := 3) (pc' := 11) rfl (hb hby d13_3) rfl (by decide) (by decide) (by decide) ?_
    refine XS.lloadN X0.here hx rfl (hb hby d13_11) rfl ?_
    exact Steps.refl _
  obtain ⟨fs, hr, hrun, hended, hW, hsame⟩ := X0.leave (v := some (.long (15 : Int64))) (fun h => by rw [Bd.returns] at h; cases h)
  refine ⟨_, _, C_1.trans (retOut X0 hx Bd.returns rfl (Or.inr (Or.inl ⟨rfl, rfl, _, rfl⟩)) (hb hby d13_12) hr), hrun, hended, _, _, rfl, ?_, ⟨_, rfl⟩, hW, hsame.mono (by decide) (by decide)⟩
  show Q_abs15 Z G1 G3  h0 n0 (some (.long (15 : Int64))) s₁.heap _
  rw [e0]
  exact ⟨rfl, N0, rfl⟩
abbrev R_abs60 : Room := { frames := 0, cells := 0, slots := 0, locals := 0 }
def Q_abs60 (Z : State) (G1 : Int32) (G3 : Value)  (h0 : Heap) (n0 : Nat) (v : Option Value) (h : Heap) (L : List Loc) : Prop := (v = some (.long (60 : Int64)) ∧ Fr n0 L ∧ h = h0)
set_option maxRecDepth 65536 in
set_option maxHeartbeats 40000000 in
theorem rm_abs60 (l : Launch) (Z : State) (a0 : Array Value) (hw : ∀ d ∈ tables_1, d.before a0 Z = true) (ws : List Jvm.Cond) (G1 : Int32) (G3 : Value) (HG : own_G l Z a0 G1 G3) (h0 : Heap) (n0 : Nat) (X00 : Old Z n0 h0)   :
    own_CP l Z M223 jdk_29_method_61_code 2 (some .long) ws R_abs60 #[(.long (60 : Int64))] h0 (Q_abs60 Z G1 G3  h0 n0) := by
  refine own_P (Jvm.Free.JP.mathPlain rfl (by decide +kernel)) ?_
  intro p e s m below meth c s₁ S0 Bd hZ hh hx hby hml hown hnm X0 e0 hS0d
  obtain ⟨O1, P1, O3f, rG3⟩ := id HG
  have N0 := Fr.nil n0
  have C0 : Steps p.tables e below S0 (s₁.setTop (mkF m 0 #[.val (.long (60 : Int64)), .second] [])) := by rw [hS0d]; exact castTop (ef_224 m (60 : Int64)) (Steps.refl _)
  have C_1 : Steps p.tables e below S0 (s₁.setTop (mkF m 12 #[.val (.long (60 : Int64)), .second] [(.long (60 : Int64))])) := by
    refine C0.trans ?_
    refine XS.lloadN X0.here hx rfl (hb hby d13_0) rfl ?_
    refine XS.lconst X0.here hx rfl (hb hby d13_1) ?_
    refine XS.lcmp X0.here hx rfl (hb hby d13_2) rfl ?_
    refine XS.ifYes X0.here hx rfl (pc0 := 3) (pc' := 11) rfl (hb hby d13_3) rfl (by decide) (by decide) (by decide) ?_
    refine XS.lloadN X0.here hx rfl (hb hby d13_11) rfl ?_
    exact Steps.refl _
  obtain ⟨fs, hr, hrun, hended, hW, hsame⟩ := X0.leave (v := some (.long (60 : Int64))) (fun h => by rw [Bd.returns] at h; cases h)
  refine ⟨_, _, C_1.trans (retOut X0 hx Bd.returns rfl (Or.inr (Or.inl ⟨rfl, rfl, _, rfl⟩)) (hb hby d13_12) hr), hrun, hended, _, _, rfl, ?_, ⟨_, rfl⟩, hW, hsame.mono (by decide) (by decide)⟩
  show Q_abs60 Z G1 G3  h0 n0 (some (.long (60 : Int64))) s₁.heap _
  rw [e0]
  exact ⟨rfl, N0, rfl⟩
abbrev M231 : MethodName := ⟨"java/lang/Math", "multiplyExact", "(JJ)J"⟩
theorem ef_232 (m : MethodId) (x0 : Int64) (x1 : Int64) : entryFrame m #[(.long x0), (.long x1)] 10 = mkF m 0 #[.val (.long x0), .second, .val (.long x1), .second, .unset, .unset, .unset, .unset, .unset, .unset] [] := by first | (simp [entryFrame, mkF, argsToLocals, Value.category]; done) | rfl
theorem d14_0 : decode jdk_29_method_30_code 0 = .ok (.lload_n 0, 1) := by decide +kernel
theorem d14_1 : decode jdk_29_method_30_code 1 = .ok (.lload_n 2, 1) := by decide +kernel
theorem d14_2 : decode jdk_29_method_30_code 2 = .ok (.lmul, 1) := by decide +kernel
theorem d14_3 : decode jdk_29_method_30_code 3 = .ok (.lstore 4, 2) := by decide +kernel
theorem d14_5 : decode jdk_29_method_30_code 5 = .ok (.lload_n 0, 1) := by decide +kernel
theorem w57 {Z : State} {a0 : Array Value} (hw : ∀ d ∈ tables_1, d.before a0 Z = true) : Jvm.Cond.before (Jvm.Cond.code ({ cls := "java/lang/Math", name := "abs", desc := "(J)J" } : Jvm.MethodName) jdk_29_method_61_code (2 : Nat) (Option.some Jvm.ClassFile.FieldType.long)) a0 Z = true := hw _ (List.mem_of_getElem? (i := 57) rfl)
theorem w50 {Z : State} {a0 : Array Value} (hw : ∀ d ∈ tables_1, d.before a0 Z = true) : Jvm.Cond.before (Jvm.Cond.initialized "java/lang/Math") a0 Z = true := hw _ (List.mem_of_getElem? (i := 50) rfl)
theorem pd_240 : parseMethodDescriptor "(J)J" = some ⟨[.long], some .long⟩ := by decide +kernel
theorem d14_6 : decode jdk_29_method_30_code 6 = .ok (.invokestatic 122, 3) := by decide +kernel
theorem w55 {Z : State} {a0 : Array Value} (hw : ∀ d ∈ tables_1, d.before a0 Z = true) : Jvm.Cond.before (Jvm.Cond.methodLink "java/lang/Math" (122 : Nat) ({ cls := "java/lang/Math", name := "abs", desc := "(J)J" } : Jvm.MethodName)) a0 Z = true := hw _ (List.mem_of_getElem? (i := 55) rfl)
theorem w56 {Z : State} {a0 : Array Value} (hw : ∀ d ∈ tables_1, d.before a0 Z = true) : Jvm.Cond.before (Jvm.Cond.static ({ cls := "java/lang/Math", name := "abs", desc := "(J)J" } : Jvm.MethodName)) a0 Z = true := hw _ (List.mem_of_getElem? (i := 56) rfl)
theorem d14_9 : decode jdk_29_method_30_code 9 = .ok (.lstore 6, 2) := by decide +kernel
theorem d14_11 : decode jdk_29_method_30_code 11 = .ok (.lload_n 2, 1) := by decide +kernel
theorem d14_12 : decode jdk_29_method_30_code 12 = .ok (.invokestatic 122, 3) := by decide +kernel
theorem d14_15 : decode jdk_29_method_30_code 15 = .ok (.lstore 8, 2) := by decide +kernel
theorem d14_17 : decode jdk_29_method_30_code 17 = .ok (.lload 6, 2) := by decide +kernel
theorem d14_19 : decode jdk_29_method_30_code 19 = .ok (.lload 8, 2) := by decide +kernel
theorem d14_21 : decode jdk_29_method_30_code 21 = .ok (.lor, 1) := by decide +kernel
theorem d14_22 : decode jdk_29_method_30_code 22 = .ok (.bipush 31, 2) := by decide +kernel
theorem d14_24 : decode jdk_29_method_30_code 24 = .ok (.lushr, 1) := by decide +kernel
theorem d14_25 : decode jdk_29_method_30_code 25 = .ok (.lconst 0, 1) := by decide +kernel
theorem d14_26 : decode jdk_29_method_30_code 26 = .ok (.lcmp, 1) := by decide +kernel
theorem d14_27 : decode jdk_29_method_30_code 27 = .ok (.ifCond .eq 44, 3) := by decide +kernel
theorem d14_71 : decode jdk_29_method_30_code 71 = .ok (.lload 4, 2) := by decide +kernel
theorem d14_73 : decode jdk_29_method_30_code 73 = .ok (.lreturn, 1) := by decide +kernel
abbrev R_mulx : Room := { frames := 1, cells := 0, slots := 0, locals := 13 }
def Q_mulx (Z : State) (G1 : Int32) (G3 : Value)  (h0 : Heap) (n0 : Nat) (v : Option Value) (h : Heap) (L : List Loc) : Prop := (v = some (.long (900 : Int64)) ∧ Fr n0 L ∧ h = h0)
set_option maxRecDepth 65536 in
set_option maxHeartbeats 40000000 in
theorem rm_mulx (l : Launch) (Z : State) (a0 : Array Value) (hw : ∀ d ∈ tables_1, d.before a0 Z = true) (ws : List Jvm.Cond) (G1 : Int32) (G3 : Value) (HG : own_G l Z a0 G1 G3) (h0 : Heap) (n0 : Nat) (X00 : Old Z n0 h0)   :
    own_CP l Z M231 jdk_29_method_30_code 10 (some .long) ws R_mulx #[(.long (15 : Int64)), (.long (60 : Int64))] h0 (Q_mulx Z G1 G3  h0 n0) := by
  refine own_P (Jvm.Free.JP.mathPlain rfl (by decide +kernel)) ?_
  intro p e s m below meth c s₁ S0 Bd hZ hh hx hby hml hown hnm X0 e0 hS0d
  obtain ⟨O1, P1, O3f, rG3⟩ := id HG
  have N0 := Fr.nil n0
  have C0 : Steps p.tables e below S0 (s₁.setTop (mkF m 0 #[.val (.long (15 : Int64)), .second, .val (.long (60 : Int64)), .second, .unset, .unset, .unset, .unset, .unset, .unset] [])) := by rw [hS0d]; exact castTop (ef_232 m (15 : Int64) (60 : Int64)) (Steps.refl _)
  obtain ⟨_, _, ⟨T_1, L_1, k_1, n_1⟩, -, X_1, ⟨Lc_1, hQ_1, l_1, y_1, z_1⟩, st_1⟩ := Jvm.LawKit.callS X0 hx (y := M223) hown (mvT hZ (w55 hw)) (mvT hZ (w56 hw)) (mvT hZ (w50 hw)) (mvT hZ (w57 hw)) (by decide) (backOf (W := 0) (rm_abs15 l Z a0 hw [] G1 G3 HG h0 n0 X00  ) hZ (w57 hw) (w50 hw) (by decide) (by decide)) (g := (mkF m 6 #[.val (.long (15 : Int64)), .second, .val (.long (60 : Int64)), .second, .val (.long (900 : Int64)), .second, .unset, .unset, .unset, .unset] [(.long (15 : Int64))])) rfl (by rw [hml]; rfl) (argsL := [(.long (15 : Int64))]) (rest := []) (lenOf pd_240 rfl) rfl (by show 2 * 0 + _ ≤ _; exact Nat.le_of_eq rfl) (hb hby d14_6) (fun _ _ => ⟨rfl, e0, (by decide : 0 + 0 ≤ _), (by decide : 0 + 0 ≤ _)⟩)
  dsimp only [Pt.U, Pt.locs, Pt.cells, Pt.slots] at X_1 l_1 y_1 z_1 st_1 hQ_1
  subst l_1 y_1 z_1
  obtain ⟨rfl, N_2, e_3⟩ := hQ_1
  have N_4 := Fr.app N0 N_2
  have e_5 : T_1.heap = h0 := e_3
  obtain ⟨_, _, ⟨T_6, L_6, k_6, n_6⟩, -, X_6, ⟨Lc_6, hQ_6, l_6, y_6, z_6⟩, st_6⟩ := Jvm.LawKit.callS X_1 hx (y := M223) hown (mvT hZ (w55 hw)) (mvT hZ (w56 hw)) (mvT hZ (w50 hw)) (mvT hZ (w57 hw)) (by decide) (backOf (W := 0) (rm_abs60 l Z a0 hw [] G1 G3 HG h0 n0 X00  ) hZ (w57 hw) (w50 hw) (by decide) (by decide)) (g := (mkF m 12 #[.val (.long (15 : Int64)), .second, .val (.long (60 : Int64)), .second, .val (.long (900 : Int64)), .second, .val (.long (15 : Int64)), .second, .unset, .unset] [(.long (60 : Int64))])) rfl (by rw [hml]; rfl) (argsL := [(.long (60 : Int64))]) (rest := []) (lenOf pd_240 rfl) rfl (by show 2 * 0 + _ ≤ _; exact Nat.le_of_eq rfl) (hb hby d14_12) (fun _ _ => ⟨rfl, e_5, (by decide : 0 + 0 ≤ _), (by decide : 0 + 0 ≤ _)⟩)
  dsimp only [Pt.U, Pt.locs, Pt.cells, Pt.slots] at X_6 l_6 y_6 z_6 st_6 hQ_6
  subst l_6 y_6 z_6
  obtain ⟨rfl, N_7, e_8⟩ := hQ_6
  have N_9 := Fr.app N_4 N_7
  have e_10 : T_6.heap = h0 := e_8
  have C_11 : Steps p.tables e below S0 (T_6.setTop (mkF m 73 #[.val (.long (15 : Int64)), .second, .val (.long (60 : Int64)), .second, .val (.long (900 : Int64)), .second, .val (.long (15 : Int64)), .second, .val (.long (60 : Int64)), .second] [(.long (900 : Int64))])) := by
    refine C0.trans ?_
    refine XS.lloadN X0.here hx rfl (hb hby d14_0) rfl ?_
    refine XS.lloadN X0.here hx rfl (hb hby d14_1) rfl ?_
    refine XS.lmul X0.here hx rfl (hb hby d14_2) rfl ?_
    refine XS.lstore X0.here hx rfl (hb hby d14_3) rfl (l' := #[.val (.long (15 : Int64)), .second, .val (.long (60 : Int64)), .second, .val (.long (900 : Int64)), .second, .unset, .unset, .unset, .unset]) rfl ?_
    refine XS.lloadN X0.here hx rfl (hb hby d14_5) rfl ?_
    refine st_1 _ ?_
    refine XS.lstore X_1.here hx rfl (hb hby d14_9) rfl (l' := #[.val (.long (15 : Int64)), .second, .val (.long (60 : Int64)), .second, .val (.long (900 : Int64)), .second, .val (.long (15 : Int64)), .second, .unset, .unset]) rfl ?_
    refine XS.lloadN X_1.here hx rfl (hb hby d14_11) rfl ?_
    show Steps p.tables e below (T_1.setTop (mkF m 12 #[.val (.long (15 : Int64)), .second, .val (.long (60 : Int64)), .second, .val (.long (900 : Int64)), .second, .val (.long (15 : Int64)), .second, .unset, .unset] [(.long (60 : Int64))])) _
    refine st_6 _ ?_
    refine XS.lstore X_6.here hx rfl (hb hby d14_15) rfl (l' := #[.val (.long (15 : Int64)), .second, .val (.long (60 : Int64)), .second, .val (.long (900 : Int64)), .second, .val (.long (15 : Int64)), .second, .val (.long (60 : Int64)), .second]) rfl ?_
    refine XS.lload X_6.here hx rfl (hb hby d14_17) rfl ?_
    refine XS.lload X_6.here hx rfl (hb hby d14_19) rfl ?_
    refine XS.lor X_6.here hx rfl (hb hby d14_21) rfl ?_
    refine XS.bipush X_6.here hx rfl (hb hby d14_22) ?_
    refine XS.lushr X_6.here hx rfl (hb hby d14_24) rfl ?_
    refine XS.lconst X_6.here hx rfl (hb hby d14_25) ?_
    show Steps p.tables e below (T_6.setTop (mkF m 26 #[.val (.long (15 : Int64)), .second, .val (.long (60 : Int64)), .second, .val (.long (900 : Int64)), .second, .val (.long (15 : Int64)), .second, .val (.long (60 : Int64)), .second] [(.long (0 : Int64)), (.long (0 : Int64))])) _
    refine XS.lcmp X_6.here hx rfl (hb hby d14_26) rfl ?_
    refine XS.ifYes X_6.here hx rfl (pc0 := 27) (pc' := 71) rfl (hb hby d14_27) rfl (by decide) (by decide) (by decide) ?_
    refine XS.lload X_6.here hx rfl (hb hby d14_71) rfl ?_
    exact Steps.refl _
  obtain ⟨fs, hr, hrun, hended, hW, hsame⟩ := X_6.leave (v := some (.long (900 : Int64))) (fun h => by rw [Bd.returns] at h; cases h)
  refine ⟨_, _, C_11.trans (retOut X_6 hx Bd.returns rfl (Or.inr (Or.inl ⟨rfl, rfl, _, rfl⟩)) (hb hby d14_73) hr), hrun, hended, _, _, rfl, ?_, ⟨_, rfl⟩, hW, hsame.mono (by decide) (by decide)⟩
  show Q_mulx Z G1 G3  h0 n0 (some (.long (900 : Int64))) T_6.heap _
  rw [e_10]
  exact ⟨rfl, N_9, rfl⟩
abbrev M258 : MethodName := ⟨"java/lang/Math", "multiplyExact", "(JI)J"⟩
theorem ef_259 (m : MethodId) (x0 : Int64) (x1 : Int32) : entryFrame m #[(.long x0), (.int x1)] 3 = mkF m 0 #[.val (.long x0), .second, .val (.int x1)] [] := by first | (simp [entryFrame, mkF, argsToLocals, Value.category]; done) | rfl
theorem d15_0 : decode jdk_29_method_29_code 0 = .ok (.lload_n 0, 1) := by decide +kernel
theorem d15_1 : decode jdk_29_method_29_code 1 = .ok (.iload_n 2, 1) := by decide +kernel
theorem d15_2 : decode jdk_29_method_29_code 2 = .ok (.i2l, 1) := by decide +kernel
theorem w54 {Z : State} {a0 : Array Value} (hw : ∀ d ∈ tables_1, d.before a0 Z = true) : Jvm.Cond.before (Jvm.Cond.code ({ cls := "java/lang/Math", name := "multiplyExact", desc := "(JJ)J" } : Jvm.MethodName) jdk_29_method_30_code (10 : Nat) (Option.some Jvm.ClassFile.FieldType.long)) a0 Z = true := hw _ (List.mem_of_getElem? (i := 54) rfl)
theorem pd_264 : parseMethodDescriptor "(JJ)J" = some ⟨[.long, .long], some .long⟩ := by decide +kernel
theorem d15_3 : decode jdk_29_method_29_code 3 = .ok (.invokestatic 118, 3) := by decide +kernel
theorem w52 {Z : State} {a0 : Array Value} (hw : ∀ d ∈ tables_1, d.before a0 Z = true) : Jvm.Cond.before (Jvm.Cond.methodLink "java/lang/Math" (118 : Nat) ({ cls := "java/lang/Math", name := "multiplyExact", desc := "(JJ)J" } : Jvm.MethodName)) a0 Z = true := hw _ (List.mem_of_getElem? (i := 52) rfl)
theorem w53 {Z : State} {a0 : Array Value} (hw : ∀ d ∈ tables_1, d.before a0 Z = true) : Jvm.Cond.before (Jvm.Cond.static ({ cls := "java/lang/Math", name := "multiplyExact", desc := "(JJ)J" } : Jvm.MethodName)) a0 Z = true := hw _ (List.mem_of_getElem? (i := 53) rfl)
theorem d15_6 : decode jdk_29_method_29_code 6 = .ok (.lreturn, 1) := by decide +kernel
abbrev R_mulxi : Room := { frames := 2, cells := 0, slots := 0, locals := 34 }
def Q_mulxi (Z : State) (G1 : Int32) (G3 : Value)  (h0 : Heap) (n0 : Nat) (v : Option Value) (h : Heap) (L : List Loc) : Prop := (v = some (.long (900 : Int64)) ∧ Fr n0 L ∧ h = h0)
set_option maxRecDepth 65536 in
set_option maxHeartbeats 40000000 in
theorem rm_mulxi (l : Launch) (Z : State) (a0 : Array Value) (hw : ∀ d ∈ tables_1, d.before a0 Z = true) (ws : List Jvm.Cond) (G1 : Int32) (G3 : Value) (HG : own_G l Z a0 G1 G3) (h0 : Heap) (n0 : Nat) (X00 : Old Z n0 h0)   :
    own_CP l Z M258 jdk_29_method_29_code 3 (some .long) ws R_mulxi #[(.long (15 : Int64)), (.int (60 : Int32))] h0 (Q_mulxi Z G1 G3  h0 n0) := by
  refine own_P (Jvm.Free.JP.mathPlain rfl (by decide +kernel)) ?_
  intro p e s m below meth c s₁ S0 Bd hZ hh hx hby hml hown hnm X0 e0 hS0d
  obtain ⟨O1, P1, O3f, rG3⟩ := id HG
  have N0 := Fr.nil n0
  have C0 : Steps p.tables e below S0 (s₁.setTop (mkF m 0 #[.val (.long (15 : Int64)), .second, .val (.int (60 : Int32))] [])) := by rw [hS0d]; exact castTop (ef_259 m (15 : Int64) (60 : Int32)) (Steps.refl _)
  obtain ⟨_, _, ⟨T_1, L_1, k_1, n_1⟩, -, X_1, ⟨Lc_1, hQ_1, l_1, y_1, z_1⟩, st_1⟩ := Jvm.LawKit.callS X0 hx (y := M231) hown (mvT hZ (w52 hw)) (mvT hZ (w53 hw)) (mvT hZ (w50 hw)) (mvT hZ (w54 hw)) (by decide) (backOf (W := 0) (rm_mulx l Z a0 hw [] G1 G3 HG h0 n0 X00  ) hZ (w54 hw) (w50 hw) (by decide) (by decide)) (g := (mkF m 3 #[.val (.long (15 : Int64)), .second, .val (.int (60 : Int32))] [(.long (60 : Int64)), (.long (15 : Int64))])) rfl (by rw [hml]; rfl) (argsL := [(.long (15 : Int64)), (.long (60 : Int64))]) (rest := []) (lenOf pd_264 rfl) rfl (by show 2 * 0 + _ ≤ _; exact Nat.le_of_eq rfl) (hb hby d15_3) (fun _ _ => ⟨rfl, e0, (by decide : 0 + 0 ≤ _), (by decide : 0 + 0 ≤ _)⟩)
  dsimp only [Pt.U, Pt.locs, Pt.cells, Pt.slots] at X_1 l_1 y_1 z_1 st_1 hQ_1
  subst l_1 y_1 z_1
  obtain ⟨rfl, N_2, e_3⟩ := hQ_1
  have N_4 := Fr.app N0 N_2
  have e_5 : T_1.heap = h0 := e_3
  have C_6 : Steps p.tables e below S0 (T_1.setTop (mkF m 6 #[.val (.long (15 : Int64)), .second, .val (.int (60 : Int32))] [(.long (900 : Int64))])) := by
    refine C0.trans ?_
    refine XS.lloadN X0.here hx rfl (hb hby d15_0) rfl ?_
    refine XS.iloadN X0.here hx rfl (hb hby d15_1) rfl ?_
    refine XS.i2l X0.here hx rfl (hb hby d15_2) rfl ?_
    refine st_1 _ ?_
    exact Steps.refl _
  obtain ⟨fs, hr, hrun, hended, hW, hsame⟩ := X_1.leave (v := some (.long (900 : Int64))) (fun h => by rw [Bd.returns] at h; cases h)
  refine ⟨_, _, C_6.trans (retOut X_1 hx Bd.returns rfl (Or.inr (Or.inl ⟨rfl, rfl, _, rfl⟩)) (hb hby d15_6) hr), hrun, hended, _, _, rfl, ?_, ⟨_, rfl⟩, hW, hsame.mono (by decide) (by decide)⟩
  show Q_mulxi Z G1 G3  h0 n0 (some (.long (900 : Int64))) T_1.heap _
  rw [e_5]
  exact ⟨rfl, N_4, rfl⟩
abbrev M269 : MethodName := ⟨"java/time/Duration", "<init>", "(JI)V"⟩
theorem ef_270 (m : MethodId) (x0 : Addr) (x1 : Int64) (x2 : Int32) : entryFrame m #[(.ref x0), (.long x1), (.int x2)] 4 = mkF m 0 #[.val (.ref x0), .val (.long x1), .second, .val (.int x2)] [] := by first | (simp [entryFrame, mkF, argsToLocals, Value.category]; done) | rfl
theorem pn_271 : plainName "java/time/Duration" = true := by first | (simp [plainName, overriddenIn]; done) | decide +kernel
theorem d16_0 : decode jdk_2316_method_17_code 0 = .ok (.aload_n 0, 1) := by decide +kernel
theorem w67 {Z : State} {a0 : Array Value} (hw : ∀ d ∈ tables_1, d.before a0 Z = true) : Jvm.Cond.before (Jvm.Cond.methodLink "java/time/Duration" (218 : Nat) ({ cls := "java/lang/Object", name := "<init>", desc := "()V" } : Jvm.MethodName)) a0 Z = true := hw _ (List.mem_of_getElem? (i := 67) rfl)
theorem d16_1 : decode jdk_2316_method_17_code 1 = .ok (.invokespecial 218, 3) := by decide +kernel
theorem d16_4 : decode jdk_2316_method_17_code 4 = .ok (.aload_n 0, 1) := by decide +kernel
theorem d16_5 : decode jdk_2316_method_17_code 5 = .ok (.lload_n 1, 1) := by decide +kernel
theorem w68 {Z : State} {a0 : Array Value} (hw : ∀ d ∈ tables_1, d.before a0 Z = true) : Jvm.Cond.before (Jvm.Cond.fieldLink "java/time/Duration" (221 : Nat) "java/time/Duration" "seconds" "J") a0 Z = true := hw _ (List.mem_of_getElem? (i := 68) rfl)
theorem w69 {Z : State} {a0 : Array Value} (hw : ∀ d ∈ tables_1, d.before a0 Z = true) : Jvm.Cond.before (Jvm.Cond.laysFinal "java/time/Duration" "java/time/Duration" "seconds" "J") a0 Z = true := hw _ (List.mem_of_getElem? (i := 69) rfl)
theorem w62 {Z : State} {a0 : Array Value} (hw : ∀ d ∈ tables_1, d.before a0 Z = true) : Jvm.Cond.before (Jvm.Cond.instantiable "java/time/Duration" (2 : Nat)) a0 Z = true := hw _ (List.mem_of_getElem? (i := 62) rfl)
theorem d16_6 : decode jdk_2316_method_17_code 6 = .ok (.putfield 221, 3) := by decide +kernel
theorem d16_9 : decode jdk_2316_method_17_code 9 = .ok (.aload_n 0, 1) := by decide +kernel
theorem d16_10 : decode jdk_2316_method_17_code 10 = .ok (.iload_n 3, 1) := by decide +kernel
theorem w70 {Z : State} {a0 : Array Value} (hw : ∀ d ∈ tables_1, d.before a0 Z = true) : Jvm.Cond.before (Jvm.Cond.fieldLink "java/time/Duration" (224 : Nat) "java/time/Duration" "nanos" "I") a0 Z = true := hw _ (List.mem_of_getElem? (i := 70) rfl)
theorem w71 {Z : State} {a0 : Array Value} (hw : ∀ d ∈ tables_1, d.before a0 Z = true) : Jvm.Cond.before (Jvm.Cond.laysFinal "java/time/Duration" "java/time/Duration" "nanos" "I") a0 Z = true := hw _ (List.mem_of_getElem? (i := 71) rfl)
theorem d16_11 : decode jdk_2316_method_17_code 11 = .ok (.putfield 224, 3) := by decide +kernel
theorem d16_14 : decode jdk_2316_method_17_code 14 = .ok (.return_, 1) := by decide +kernel
abbrev R_duinit : Room := { frames := 1, cells := 0, slots := 0, locals := 12 }
def Q_duinit (Z : State) (G1 : Int32) (G3 : Value) (d : Addr) (h0 : Heap) (n0 : Nat) (v : Option Value) (h : Heap) (L : List Loc) : Prop := (v = none ∧ Fr n0 L ∧ Keep h0 h [d])
set_option maxRecDepth 65536 in
set_option maxHeartbeats 40000000 in
theorem rm_duinit (l : Launch) (Z : State) (a0 : Array Value) (hw : ∀ d ∈ tables_1, d.before a0 Z = true) (ws : List Jvm.Cond) (G1 : Int32) (G3 : Value) (HG : own_G l Z a0 G1 G3) (h0 : Heap) (n0 : Nat) (X00 : Old Z n0 h0) (d : Addr) (hp0 : Exa Z h0 d "java/time/Duration") (hp1 : Fld Z h0 d "java/time/Duration" "seconds" "J" (.long (0 : Int64))) (hp2 : Fld Z h0 d "java/time/Duration" "nanos" "I" (.int (0 : Int32))) (hp3 : n0 ≤ d) :
    own_CP l Z M269 jdk_2316_method_17_code 4 none ws R_duinit #[(.ref d), (.long (900 : Int64)), (.int (0 : Int32))] h0 (Q_duinit Z G1 G3 d h0 n0) := by
  refine own_P (plainFor_of_name pn_271) ?_
  intro p e s m below meth c s₁ S0 Bd hZ hh hx hby hml hown hnm X0 e0 hS0d
  obtain ⟨O1, P1, O3f, rG3⟩ := id HG
  have N0 := Fr.nil n0
  have C0 : Steps p.tables e below S0 (s₁.setTop (mkF m 0 #[.val (.ref d), .val (.long (900 : Int64)), .second, .val (.int (0 : Int32))] [])) := by rw [hS0d]; exact castTop (ef_270 m d (900 : Int64) (0 : Int32)) (Steps.refl _)
  obtain ⟨T_1, X_2, e_3, st_4⟩ := initO X0 hx hZ hown (w67 hw) (w12 hw) (w13 hw) e0 (g := (mkF m 1 #[.val (.ref d), .val (.long (900 : Int64)), .second, .val (.int (0 : Int32))] [(.ref d)])) rfl (by rw [hml]; rfl) rfl (hb hby d16_1) (by decide) (W := 0) (by show 2 * 0 + _ ≤ _; exact Nat.le_of_eq rfl) (by decide)
  obtain ⟨T_5, h_6, X_7, e_8, W_9, st_10⟩ := putF X_2 hx hZ hown (host := "") (Or.inl (w68 hw)) Via.refl e_3 hp1 hp0 (Or.inr ⟨(w69 hw), rfl, hnm⟩) (w62 hw) (ty := .long) (by decide) rfl rfl (g := (mkF m 6 #[.val (.ref d), .val (.long (900 : Int64)), .second, .val (.int (0 : Int32))] [(.long (900 : Int64)), (.ref d)])) rfl rfl (hb hby d16_6)
  have N_11 := Fr.snoc X_7 N0 hp3
  have F_12 : Fld Z h_6 d "java/time/Duration" "seconds" "J" (.long (900 : Int64)) := hp1.same W_9
  have F_13 : Fld Z h_6 d "java/time/Duration" "nanos" "I" (.int (0 : Int32)) := (hp2.other W_9 (Or.inr (slot_ne (Or.inr (w71 hw)) (Or.inr (w69 hw)) (by decide) (t := .int) (by decide) (t' := .long) (by decide))))
  have E_14 : Exa Z h_6 d "java/time/Duration" := (hp0.wr W_9)
  obtain ⟨T_15, h_16, X_17, e_18, W_19, st_20⟩ := putF X_7 hx hZ hown (host := "") (Or.inl (w70 hw)) Via.refl e_8 F_13 E_14 (Or.inr ⟨(w71 hw), rfl, hnm⟩) (w62 hw) (ty := .int) (by decide) rfl rfl (g := (mkF m 11 #[.val (.ref d), .val (.long (900 : Int64)), .second, .val (.int (0 : Int32))] [(.int (0 : Int32)), (.ref d)])) rfl rfl (hb hby d16_11)
  have N_21 := Fr.snoc X_17 N_11 hp3
  have F_22 : Fld Z h_16 d "java/time/Duration" "nanos" "I" (.int (0 : Int32)) := F_13.same W_19
  have C_23 : Steps p.tables e below S0 (T_15.setTop (mkF m 14 #[.val (.ref d), .val (.long (900 : Int64)), .second, .val (.int (0 : Int32))] [])) := by
    refine C0.trans ?_
    refine XS.aloadN X0.here hx rfl (hb hby d16_0) rfl rfl ?_
    refine st_4 _ ?_
    refine XS.aloadN X_2.here hx rfl (hb hby d16_4) rfl rfl ?_
    refine XS.lloadN X_2.here hx rfl (hb hby d16_5) rfl ?_
    refine st_10 _ ?_
    refine XS.aloadN X_7.here hx rfl (hb hby d16_9) rfl rfl ?_
    refine XS.iloadN X_7.here hx rfl (hb hby d16_10) rfl ?_
    refine st_20 _ ?_
    show Steps p.tables e below (T_15.setTop (mkF m 14 #[.val (.ref d), .val (.long (900 : Int64)), .second, .val (.int (0 : Int32))] [])) _
    exact Steps.refl _
  have K_24 : Keep h0 h_16 [d] := (((Keep.refl _ _).wr W_9 (Or.inl (List.mem_of_getElem? (i := 0) rfl))).wr W_19 (Or.inl (List.mem_of_getElem? (i := 0) rfl)))
  obtain ⟨fs, hr, hrun, hended, hW, hsame⟩ := X_17.leave (v := none) (fun _ => rfl)
  refine ⟨_, _, C_23.trans (X_17.returnOut hx Bd.returns (hb hby d16_14) hr), hrun, hended, _, _, rfl, ?_, ⟨_, rfl⟩, hW, hsame.mono (by decide) (by decide)⟩
  show Q_duinit Z G1 G3 d h0 n0 (none) T_15.heap _
  rw [e_18]
  exact ⟨rfl, N_21, K_24⟩
abbrev M287 : MethodName := ⟨"java/time/Duration", "create", "(JI)Ljava/time/Duration;"⟩
theorem d17_0 : decode jdk_2316_method_16_code 0 = .ok (.lload_n 0, 1) := by decide +kernel
theorem d17_1 : decode jdk_2316_method_16_code 1 = .ok (.iload_n 2, 1) := by decide +kernel
theorem d17_2 : decode jdk_2316_method_16_code 2 = .ok (.i2l, 1) := by decide +kernel
theorem d17_3 : decode jdk_2316_method_16_code 3 = .ok (.lor, 1) := by decide +kernel
theorem d17_4 : decode jdk_2316_method_16_code 4 = .ok (.lconst 0, 1) := by decide +kernel
theorem d17_5 : decode jdk_2316_method_16_code 5 = .ok (.lcmp, 1) := by decide +kernel
theorem d17_6 : decode jdk_2316_method_16_code 6 = .ok (.ifCond .ne 7, 3) := by decide +kernel
theorem w61 {Z : State} {a0 : Array Value} (hw : ∀ d ∈ tables_1, d.before a0 Z = true) : Jvm.Cond.before (Jvm.Cond.classLink "java/time/Duration" (11 : Nat) "java/time/Duration") a0 Z = true := hw _ (List.mem_of_getElem? (i := 61) rfl)
theorem w46 {Z : State} {a0 : Array Value} (hw : ∀ d ∈ tables_1, d.before a0 Z = true) : Jvm.Cond.before (Jvm.Cond.initialized "java/time/Duration") a0 Z = true := hw _ (List.mem_of_getElem? (i := 46) rfl)
theorem d17_13 : decode jdk_2316_method_16_code 13 = .ok (.new 11, 3) := by decide +kernel
theorem d17_16 : decode jdk_2316_method_16_code 16 = .ok (.dup, 1) := by decide +kernel
theorem d17_17 : decode jdk_2316_method_16_code 17 = .ok (.lload_n 0, 1) := by decide +kernel
theorem d17_18 : decode jdk_2316_method_16_code 18 = .ok (.iload_n 2, 1) := by decide +kernel
theorem w66 {Z : State} {a0 : Array Value} (hw : ∀ d ∈ tables_1, d.before a0 Z = true) : Jvm.Cond.before (Jvm.Cond.code ({ cls := "java/time/Duration", name := "<init>", desc := "(JI)V" } : Jvm.MethodName) jdk_2316_method_17_code (4 : Nat) (Option.none : Option Jvm.ClassFile.FieldType)) a0 Z = true := hw _ (List.mem_of_getElem? (i := 66) rfl)
theorem pd_302 : parseMethodDescriptor "(JI)V" = some ⟨[.long, .int], none⟩ := by decide +kernel
theorem d17_19 : decode jdk_2316_method_16_code 19 = .ok (.invokespecial 215, 3) := by decide +kernel
theorem w63 {Z : State} {a0 : Array Value} (hw : ∀ d ∈ tables_1, d.before a0 Z = true) : Jvm.Cond.before (Jvm.Cond.methodLink "java/time/Duration" (215 : Nat) ({ cls := "java/time/Duration", name := "<init>", desc := "(JI)V" } : Jvm.MethodName)) a0 Z = true := hw _ (List.mem_of_getElem? (i := 63) rfl)
theorem w64 {Z : State} {a0 : Array Value} (hw : ∀ d ∈ tables_1, d.before a0 Z = true) : Jvm.Cond.before (Jvm.Cond.instanceMethod ({ cls := "java/time/Duration", name := "<init>", desc := "(JI)V" } : Jvm.MethodName)) a0 Z = true := hw _ (List.mem_of_getElem? (i := 64) rfl)
theorem d17_22 : decode jdk_2316_method_16_code 22 = .ok (.areturn, 1) := by decide +kernel
abbrev R_ducre : Room := { frames := 2, cells := 1, slots := 2, locals := 28 }
def Q_ducre (Z : State) (G1 : Int32) (G3 : Value)  (h0 : Heap) (n0 : Nat) (v : Option Value) (h : Heap) (L : List Loc) : Prop := (∃ d : Addr, v = some (.ref d) ∧ Fr n0 L ∧ Keep h0 h [])
set_option maxRecDepth 65536 in
set_option maxHeartbeats 40000000 in
theorem rm_ducre (l : Launch) (Z : State) (a0 : Array Value) (hw : ∀ d ∈ tables_1, d.before a0 Z = true) (ws : List Jvm.Cond) (G1 : Int32) (G3 : Value) (HG : own_G l Z a0 G1 G3) (h0 : Heap) (n0 : Nat) (X00 : Old Z n0 h0)   :
    own_CP l Z M287 jdk_2316_method_16_code 3 (some (.object "java/time/Duration")) ws R_ducre #[(.long (900 : Int64)), (.int (0 : Int32))] h0 (Q_ducre Z G1 G3  h0 n0) := by
  refine own_P (plainFor_of_name pn_271) ?_
  intro p e s m below meth c s₁ S0 Bd hZ hh hx hby hml hown hnm X0 e0 hS0d
  obtain ⟨O1, P1, O3f, rG3⟩ := id HG
  have N0 := Fr.nil n0
  have C0 : Steps p.tables e below S0 (s₁.setTop (mkF m 0 #[.val (.long (900 : Int64)), .second, .val (.int (0 : Int32))] [])) := by rw [hS0d]; exact castTop (ef_259 m (900 : Int64) (0 : Int32)) (Steps.refl _)
  obtain ⟨T_1, h_2, X_3, e_4, E_5, A_6, D_7, U_11, st_8⟩ := newO X0 hx hZ hown (w61 hw) (w62 hw) (w46 hw) e0 (g := (mkF m 13 #[.val (.long (900 : Int64)), .second, .val (.int (0 : Int32))] [])) rfl (hb hby d17_13) (by decide) (by decide)
  obtain ⟨a_9, g_10⟩ : ∃ z, z = h0.size := ⟨_, rfl⟩
  rw [← g_10] at A_6 D_7 st_8 U_11
  have O_12 : Old Z n0 h_2 := (X00.ext E_5)
  obtain ⟨_, _, ⟨T_13, L_13, k_13, n_13⟩, -, X_13, ⟨Lc_13, hQ_13, l_13, y_13, z_13⟩, st_13⟩ := X_3.specialBack hx (y := M269) rfl hown (mvT hZ (w63 hw)) (mvT hZ (w64 hw)) (mvT hZ (w66 hw)) (by decide) (backOf (W := 1) (rm_duinit l Z a0 hw [] G1 G3 HG h_2 n0 O_12 a_9 A_6 (D_7 (Or.inr (w69 hw)) (ty := .long) (by decide)) (D_7 (Or.inr (w71 hw)) (ty := .int) (by decide)) (Nat.le_trans (own_n0 X00) (Nat.le_of_eq g_10.symm))) hZ (w66 hw) (w46 hw) (by decide) (by decide)) (g := (mkF m 19 #[.val (.long (900 : Int64)), .second, .val (.int (0 : Int32))] [(.int (0 : Int32)), (.long (900 : Int64)), (.ref a_9), (.ref a_9)])) rfl (by rw [hml]; rfl) (Steps.refl _) (a := a_9) (argsL := [(.long (900 : Int64)), (.int (0 : Int32))]) (rest := [(.ref a_9)]) (lenOf pd_302 rfl) rfl (by show 2 * 0 + _ ≤ _; exact Nat.le_of_eq rfl) (hb hby d17_19) (fun _ _ => ⟨rfl, e_4, (by decide : 1 + 0 ≤ _), (by decide : 2 + 0 ≤ _)⟩)
  dsimp only [Pt.U, Pt.locs, Pt.cells, Pt.slots] at X_13 l_13 y_13 z_13 st_13 hQ_13
  subst l_13 y_13 z_13
  obtain ⟨rfl, N_14, K_15⟩ := hQ_13
  have N_16 := Fr.app N0 N_14
  have C_17 : Steps p.tables e below S0 (T_13.setTop (mkF m 22 #[.val (.long (900 : Int64)), .second, .val (.int (0 : Int32))] [(.ref a_9)])) := by
    refine C0.trans ?_
    refine XS.lloadN X0.here hx rfl (hb hby d17_0) rfl ?_
    refine XS.iloadN X0.here hx rfl (hb hby d17_1) rfl ?_
    refine XS.i2l X0.here hx rfl (hb hby d17_2) rfl ?_
    refine XS.lor X0.here hx rfl (hb hby d17_3) rfl ?_
    refine XS.lconst X0.here hx rfl (hb hby d17_4) ?_
    refine XS.lcmp X0.here hx rfl (hb hby d17_5) rfl ?_
    refine XS.ifYes X0.here hx rfl (pc0 := 6) (pc' := 13) rfl (hb hby d17_6) rfl (by decide) (by decide) (by decide) ?_
    refine st_8 _ ?_
    show Steps p.tables e below (T_1.setTop (mkF m 16 #[.val (.long (900 : Int64)), .second, .val (.int (0 : Int32))] [(.ref a_9)])) _
    refine XS.dup X_3.here hx rfl (hb hby d17_16) rfl rfl ?_
    refine XS.lloadN X_3.here hx rfl (hb hby d17_17) rfl ?_
    refine XS.iloadN X_3.here hx rfl (hb hby d17_18) rfl ?_
    refine st_13.trans ?_
    exact Steps.refl _
  have K_18 : Keep h0 T_13.heap [] := (((Keep.refl _ _).ext E_5).trans K_15 (allS (Or.inr (Nat.le_trans (Nat.le_refl _) (Nat.le_of_eq g_10.symm))) all0))
  obtain ⟨fs, hr, hrun, hended, hW, hsame⟩ := X_13.leave (v := some (.ref a_9)) (fun h => by rw [Bd.returns] at h; cases h)
  refine ⟨_, _, C_17.trans (retOut X_13 hx Bd.returns rfl (Or.inr (Or.inr (Or.inr (Or.inr ⟨rfl, rfl, rfl⟩)))) (hb hby d17_22) hr), hrun, hended, _, _, rfl, ?_, ⟨_, rfl⟩, hW, hsame.mono (by decide) (by decide)⟩
  show Q_ducre Z G1 G3  h0 n0 (some (.ref a_9)) T_13.heap _
  exact ⟨a_9, rfl, N_16, K_18⟩
abbrev M307 : MethodName := ⟨"java/time/Duration", "ofMinutes", "(J)Ljava/time/Duration;"⟩
theorem d18_0 : decode jdk_2316_method_3_code 0 = .ok (.lload_n 0, 1) := by decide +kernel
theorem d18_1 : decode jdk_2316_method_3_code 1 = .ok (.bipush 60, 2) := by decide +kernel
theorem w51 {Z : State} {a0 : Array Value} (hw : ∀ d ∈ tables_1, d.before a0 Z = true) : Jvm.Cond.before (Jvm.Cond.code ({ cls := "java/lang/Math", name := "multiplyExact", desc := "(JI)J" } : Jvm.MethodName) jdk_29_method_29_code (3 : Nat) (Option.some Jvm.ClassFile.FieldType.long)) a0 Z = true := hw _ (List.mem_of_getElem? (i := 51) rfl)
theorem pd_311 : parseMethodDescriptor "(JI)J" = some ⟨[.long, .int], some .long⟩ := by decide +kernel
theorem d18_3 : decode jdk_2316_method_3_code 3 = .ok (.invokestatic 4, 3) := by decide +kernel
theorem w48 {Z : State} {a0 : Array Value} (hw : ∀ d ∈ tables_1, d.before a0 Z = true) : Jvm.Cond.before (Jvm.Cond.methodLink "java/time/Duration" (4 : Nat) ({ cls := "java/lang/Math", name := "multiplyExact", desc := "(JI)J" } : Jvm.MethodName)) a0 Z = true := hw _ (List.mem_of_getElem? (i := 48) rfl)
theorem w49 {Z : State} {a0 : Array Value} (hw : ∀ d ∈ tables_1, d.before a0 Z = true) : Jvm.Cond.before (Jvm.Cond.static ({ cls := "java/lang/Math", name := "multiplyExact", desc := "(JI)J" } : Jvm.MethodName)) a0 Z = true := hw _ (List.mem_of_getElem? (i := 49) rfl)
theorem d18_6 : decode jdk_2316_method_3_code 6 = .ok (.iconst 0, 1) := by decide +kernel
theorem w60 {Z : State} {a0 : Array Value} (hw : ∀ d ∈ tables_1, d.before a0 Z = true) : Jvm.Cond.before (Jvm.Cond.code ({ cls := "java/time/Duration", name := "create", desc := "(JI)Ljava/time/Duration;" } : Jvm.MethodName) jdk_2316_method_16_code (3 : Nat) (Option.some (Jvm.ClassFile.FieldType.object "java/time/Duration"))) a0 Z = true := hw _ (List.mem_of_getElem? (i := 60) rfl)
theorem pd_317 : parseMethodDescriptor "(JI)Ljava/time/Duration;" = some ⟨[.long, .int], some (.object "java/time/Duration")⟩ := by decide +kernel
theorem d18_7 : decode jdk_2316_method_3_code 7 = .ok (.invokestatic 10, 3) := by decide +kernel
theorem w58 {Z : State} {a0 : Array Value} (hw : ∀ d ∈ tables_1, d.before a0 Z = true) : Jvm.Cond.before (Jvm.Cond.methodLink "java/time/Duration" (10 : Nat) ({ cls := "java/time/Duration", name := "create", desc := "(JI)Ljava/time/Duration;" } : Jvm.MethodName)) a0 Z = true := hw _ (List.mem_of_getElem? (i := 58) rfl)
theorem w59 {Z : State} {a0 : Array Value} (hw : ∀ d ∈ tables_1, d.before a0 Z = true) : Jvm.Cond.before (Jvm.Cond.static ({ cls := "java/time/Duration", name := "create", desc := "(JI)Ljava/time/Duration;" } : Jvm.MethodName)) a0 Z = true := hw _ (List.mem_of_getElem? (i := 59) rfl)
theorem d18_10 : decode jdk_2316_method_3_code 10 = .ok (.areturn, 1) := by decide +kernel
abbrev R_ofmin : Room := { frames := 3, cells := 1, slots := 2, locals := 48 }
def Q_ofmin (Z : State) (G1 : Int32) (G3 : Value)  (h0 : Heap) (n0 : Nat) (v : Option Value) (h : Heap) (L : List Loc) : Prop := (∃ d : Addr, v = some (.ref d) ∧ Fr n0 L ∧ Keep h0 h [])
set_option maxRecDepth 65536 in
set_option maxHeartbeats 40000000 in
theorem rm_ofmin (l : Launch) (Z : State) (a0 : Array Value) (hw : ∀ d ∈ tables_1, d.before a0 Z = true) (ws : List Jvm.Cond) (G1 : Int32) (G3 : Value) (HG : own_G l Z a0 G1 G3) (h0 : Heap) (n0 : Nat) (X00 : Old Z n0 h0)   :
    own_CP l Z M307 jdk_2316_method_3_code 2 (some (.object "java/time/Duration")) ws R_ofmin #[(.long (15 : Int64))] h0 (Q_ofmin Z G1 G3  h0 n0) := by
  refine own_P (plainFor_of_name pn_271) ?_
  intro p e s m below meth c s₁ S0 Bd hZ hh hx hby hml hown hnm X0 e0 hS0d
  obtain ⟨O1, P1, O3f, rG3⟩ := id HG
  have N0 := Fr.nil n0
  have C0 : Steps p.tables e below S0 (s₁.setTop (mkF m 0 #[.val (.long (15 : Int64)), .second] [])) := by rw [hS0d]; exact castTop (ef_224 m (15 : Int64)) (Steps.refl _)
  obtain ⟨_, _, ⟨T_1, L_1, k_1, n_1⟩, -, X_1, ⟨Lc_1, hQ_1, l_1, y_1, z_1⟩, st_1⟩ := Jvm.LawKit.callS X0 hx (y := M258) hown (mvT hZ (w48 hw)) (mvT hZ (w49 hw)) (mvT hZ (w50 hw)) (mvT hZ (w51 hw)) (by decide) (backOf (W := 0) (rm_mulxi l Z a0 hw [] G1 G3 HG h0 n0 X00  ) hZ (w51 hw) (w50 hw) (by decide) (by decide)) (g := (mkF m 3 #[.val (.long (15 : Int64)), .second] [(.int (60 : Int32)), (.long (15 : Int64))])) rfl (by rw [hml]; rfl) (argsL := [(.long (15 : Int64)), (.int (60 : Int32))]) (rest := []) (lenOf pd_311 rfl) rfl (by show 2 * 0 + _ ≤ _; exact Nat.le_of_eq rfl) (hb hby d18_3) (fun _ _ => ⟨rfl, e0, (by decide : 0 + 0 ≤ _), (by decide : 0 + 0 ≤ _)⟩)
  dsimp only [Pt.U, Pt.locs, Pt.cells, Pt.slots] at X_1 l_1 y_1 z_1 st_1 hQ_1
  subst l_1 y_1 z_1
  obtain ⟨rfl, N_2, e_3⟩ := hQ_1
  have N_4 := Fr.app N0 N_2
  have e_5 : T_1.heap = h0 := e_3
  obtain ⟨_, _, ⟨T_6, L_6, k_6, n_6⟩, -, X_6, ⟨Lc_6, hQ_6, l_6, y_6, z_6⟩, st_6⟩ := Jvm.LawKit.callS X_1 hx (y := M287) hown (mvT hZ (w58 hw)) (mvT hZ (w59 hw)) (mvT hZ (w46 hw)) (mvT hZ (w60 hw)) (by decide) (backOf (W := 0) (rm_ducre l Z a0 hw [] G1 G3 HG h0 n0 X00  ) hZ (w60 hw) (w46 hw) (by decide) (by decide)) (g := (mkF m 7 #[.val (.long (15 : Int64)), .second] [(.int (0 : Int32)), (.long (900 : Int64))])) rfl (by rw [hml]; rfl) (argsL := [(.long (900 : Int64)), (.int (0 : Int32))]) (rest := []) (lenOf pd_317 rfl) rfl (by show 2 * 0 + _ ≤ _; exact Nat.le_of_eq rfl) (hb hby d18_7) (fun _ _ => ⟨rfl, e_5, (by decide : 0 + 1 ≤ _), (by decide : 0 + 2 ≤ _)⟩)
  dsimp only [Pt.U, Pt.locs, Pt.cells, Pt.slots] at X_6 l_6 y_6 z_6 st_6 hQ_6
  subst l_6 y_6 z_6
  obtain ⟨a_7, rfl, N_8, K_9⟩ := hQ_6
  have N_10 := Fr.app N_4 N_8
  have C_11 : Steps p.tables e below S0 (T_6.setTop (mkF m 10 #[.val (.long (15 : Int64)), .second] [(.ref a_7)])) := by
    refine C0.trans ?_
    refine XS.lloadN X0.here hx rfl (hb hby d18_0) rfl ?_
    refine XS.bipush X0.here hx rfl (hb hby d18_1) ?_
    refine st_1 _ ?_
    refine XS.iconst X_1.here hx rfl (hb hby d18_6) ?_
    refine st_6 _ ?_
    exact Steps.refl _
  have K_12 : Keep h0 T_6.heap [] := ((Keep.refl _ _).trans K_9 all0)
  obtain ⟨fs, hr, hrun, hended, hW, hsame⟩ := X_6.leave (v := some (.ref a_7)) (fun h => by rw [Bd.returns] at h; cases h)
  refine ⟨_, _, C_11.trans (retOut X_6 hx Bd.returns rfl (Or.inr (Or.inr (Or.inr (Or.inr ⟨rfl, rfl, rfl⟩)))) (hb hby d18_10) hr), hrun, hended, _, _, rfl, ?_, ⟨_, rfl⟩, hW, hsame.mono (by decide) (by decide)⟩
  show Q_ofmin Z G1 G3  h0 n0 (some (.ref a_7)) T_6.heap _
  exact ⟨a_7, rfl, N_10, K_12⟩
abbrev M322 : MethodName := ⟨"java/util/Objects", "requireNonNull", "(Ljava/lang/Object;Ljava/lang/String;)Ljava/lang/Object;"⟩
theorem pn_323 : plainName "java/util/Objects" = true := by first | (simp [plainName, overriddenIn]; done) | decide +kernel
theorem d19_0 : decode jdk_31_method_11_code 0 = .ok (.aload_n 0, 1) := by decide +kernel
theorem d19_1 : decode jdk_31_method_11_code 1 = .ok (.ifnonnull 12, 3) := by decide +kernel
theorem d19_13 : decode jdk_31_method_11_code 13 = .ok (.aload_n 0, 1) := by decide +kernel
theorem d19_14 : decode jdk_31_method_11_code 14 = .ok (.areturn, 1) := by decide +kernel
abbrev R_rnn : Room := { frames := 0, cells := 0, slots := 0, locals := 0 }
def Q_rnn (Z : State) (G1 : Int32) (G3 : Value) (o : Addr) (q : Addr) (h0 : Heap) (n0 : Nat) (v : Option Value) (h : Heap) (L : List Loc) : Prop := (v = some (.ref o) ∧ Fr n0 L ∧ h = h0)
set_option maxRecDepth 65536 in
set_option maxHeartbeats 40000000 in
theorem rm_rnn (l : Launch) (Z : State) (a0 : Array Value) (hw : ∀ d ∈ tables_1, d.before a0 Z = true) (ws : List Jvm.Cond) (G1 : Int32) (G3 : Value) (HG : own_G l Z a0 G1 G3) (h0 : Heap) (n0 : Nat) (X00 : Old Z n0 h0) (o : Addr) (q : Addr)  :
    own_CP l Z M322 jdk_31_method_11_code 2 (some (.object "java/lang/Object")) ws R_rnn #[(.ref o), (.ref q)] h0 (Q_rnn Z G1 G3 o q h0 n0) := by
  refine own_P (plainFor_of_name pn_323) ?_
  intro p e s m below meth c s₁ S0 Bd hZ hh hx hby hml hown hnm X0 e0 hS0d
  obtain ⟨O1, P1, O3f, rG3⟩ := id HG
  have N0 := Fr.nil n0
  have C0 : Steps p.tables e below S0 (s₁.setTop (mkF m 0 #[.val (.ref o), .val (.ref q)] [])) := by rw [hS0d]; exact castTop (ef_26 m o q) (Steps.refl _)
  have C_1 : Steps p.tables e below S0 (s₁.setTop (mkF m 14 #[.val (.ref o), .val (.ref q)] [(.ref o)])) := by
    refine C0.trans ?_
    refine XS.aloadN X0.here hx rfl (hb hby d19_0) rfl rfl ?_
    refine XS.ifnonnullYes X0.here hx rfl (pc0 := 1) (pc' := 13) rfl (hb hby d19_1) rfl (by decide) (by decide) ?_
    refine XS.aloadN X0.here hx rfl (hb hby d19_13) rfl rfl ?_
    exact Steps.refl _
  obtain ⟨fs, hr, hrun, hended, hW, hsame⟩ := X0.leave (v := some (.ref o)) (fun h => by rw [Bd.returns] at h; cases h)
  refine ⟨_, _, C_1.trans (retOut X0 hx Bd.returns rfl (Or.inr (Or.inr (Or.inr (Or.inr ⟨rfl, rfl, rfl⟩)))) (hb hby d19_14) hr), hrun, hended, _, _, rfl, ?_, ⟨_, rfl⟩, hW, hsame.mono (by decide) (by decide)⟩
  show Q_rnn Z G1 G3 o q h0 n0 (some (.ref o)) s₁.heap _
  rw [e0]
  exact ⟨rfl, N0, rfl⟩
abbrev M328 : MethodName := ⟨"com/example/expiring_state/expiringstate/LoginLockout$Rules", "<init>", "(Ljava/lang/String;ILjava/time/Duration;Ljava/time/Duration;)V"⟩
theorem ef_329 (m : MethodId) (x0 : Addr) (x1 : Addr) (x2 : Int32) (x3 : Addr) (x4 : Addr) : entryFrame m #[(.ref x0), (.ref x1), (.int x2), (.ref x3), (.ref x4)] 5 = mkF m 0 #[.val (.ref x0), .val (.ref x1), .val (.int x2), .val (.ref x3), .val (.ref x4)] [] := by first | (simp [entryFrame, mkF, argsToLocals, Value.category]; done) | rfl
theorem pn_330 : plainName "com/example/expiring_state/expiringstate/LoginLockout$Rules" = true := by first | (simp [plainName, overriddenIn]; done) | decide +kernel
theorem d20_0 : decode prog_31_method_1_code 0 = .ok (.aload_n 0, 1) := by decide +kernel
theorem w75 {Z : State} {a0 : Array Value} (hw : ∀ d ∈ tables_1, d.before a0 Z = true) : Jvm.Cond.before (Jvm.Cond.methodLink "com/example/expiring_state/expiringstate/LoginLockout$Rules" (1 : Nat) ({ cls := "java/lang/Object", name := "<init>", desc := "()V" } : Jvm.MethodName)) a0 Z = true := hw _ (List.mem_of_getElem? (i := 75) rfl)
theorem d20_1 : decode prog_31_method_1_code 1 = .ok (.invokespecial 1, 3) := by decide +kernel
theorem d20_4 : decode prog_31_method_1_code 4 = .ok (.aload_n 0, 1) := by decide +kernel
theorem d20_5 : decode prog_31_method_1_code 5 = .ok (.aload_n 1, 1) := by decide +kernel
theorem w76 {Z : State} {a0 : Array Value} (hw : ∀ d ∈ tables_1, d.before a0 Z = true) : Jvm.Cond.before (Jvm.Cond.fieldLink "com/example/expiring_state/expiringstate/LoginLockout$Rules" (7 : Nat) "com/example/expiring_state/expiringstate/LoginLockout$Rules" "name" "Ljava/lang/String;") a0 Z = true := hw _ (List.mem_of_getElem? (i := 76) rfl)
theorem w77 {Z : State} {a0 : Array Value} (hw : ∀ d ∈ tables_1, d.before a0 Z = true) : Jvm.Cond.before (Jvm.Cond.laysFinal "com/example/expiring_state/expiringstate/LoginLockout$Rules" "com/example/expiring_state/expiringstate/LoginLockout$Rules" "name" "Ljava/lang/String;") a0 Z = true := hw _ (List.mem_of_getElem? (i := 77) rfl)
theorem w42 {Z : State} {a0 : Array Value} (hw : ∀ d ∈ tables_1, d.before a0 Z = true) : Jvm.Cond.before (Jvm.Cond.instantiable "com/example/expiring_state/expiringstate/LoginLockout$Rules" (4 : Nat)) a0 Z = true := hw _ (List.mem_of_getElem? (i := 42) rfl)
theorem d20_6 : decode prog_31_method_1_code 6 = .ok (.putfield 7, 3) := by decide +kernel
theorem d20_9 : decode prog_31_method_1_code 9 = .ok (.aload_n 0, 1) := by decide +kernel
theorem d20_10 : decode prog_31_method_1_code 10 = .ok (.iload_n 2, 1) := by decide +kernel
theorem w78 {Z : State} {a0 : Array Value} (hw : ∀ d ∈ tables_1, d.before a0 Z = true) : Jvm.Cond.before (Jvm.Cond.fieldLink "com/example/expiring_state/expiringstate/LoginLockout$Rules" (13 : Nat) "com/example/expiring_state/expiringstate/LoginLockout$Rules" "failures" "I") a0 Z = true := hw _ (List.mem_of_getElem? (i := 78) rfl)
theorem w79 {Z : State} {a0 : Array Value} (hw : ∀ d ∈ tables_1, d.before a0 Z = true) : Jvm.Cond.before (Jvm.Cond.laysFinal "com/example/expiring_state/expiringstate/LoginLockout$Rules" "com/example/expiring_state/expiringstate/LoginLockout$Rules" "failures" "I") a0 Z = true := hw _ (List.mem_of_getElem? (i := 79) rfl)
theorem d20_11 : decode prog_31_method_1_code 11 = .ok (.putfield 13, 3) := by decide +kernel
theorem d20_14 : decode prog_31_method_1_code 14 = .ok (.aload_n 0, 1) := by decide +kernel
theorem d20_15 : decode prog_31_method_1_code 15 = .ok (.aload_n 3, 1) := by decide +kernel
theorem w80 {Z : State} {a0 : Array Value} (hw : ∀ d ∈ tables_1, d.before a0 Z = true) : Jvm.Cond.before (Jvm.Cond.fieldLink "com/example/expiring_state/expiringstate/LoginLockout$Rules" (17 : Nat) "com/example/expiring_state/expiringstate/LoginLockout$Rules" "window" "Ljava/time/Duration;") a0 Z = true := hw _ (List.mem_of_getElem? (i := 80) rfl)
theorem w81 {Z : State} {a0 : Array Value} (hw : ∀ d ∈ tables_1, d.before a0 Z = true) : Jvm.Cond.before (Jvm.Cond.laysFinal "com/example/expiring_state/expiringstate/LoginLockout$Rules" "com/example/expiring_state/expiringstate/LoginLockout$Rules" "window" "Ljava/time/Duration;") a0 Z = true := hw _ (List.mem_of_getElem? (i := 81) rfl)
theorem d20_16 : decode prog_31_method_1_code 16 = .ok (.putfield 17, 3) := by decide +kernel
theorem d20_19 : decode prog_31_method_1_code 19 = .ok (.aload_n 0, 1) := by decide +kernel
theorem d20_20 : decode prog_31_method_1_code 20 = .ok (.aload 4, 2) := by decide +kernel
theorem w82 {Z : State} {a0 : Array Value} (hw : ∀ d ∈ tables_1, d.before a0 Z = true) : Jvm.Cond.before (Jvm.Cond.fieldLink "com/example/expiring_state/expiringstate/LoginLockout$Rules" (21 : Nat) "com/example/expiring_state/expiringstate/LoginLockout$Rules" "lock" "Ljava/time/Duration;") a0 Z = true := hw _ (List.mem_of_getElem? (i := 82) rfl)
theorem w83 {Z : State} {a0 : Array Value} (hw : ∀ d ∈ tables_1, d.before a0 Z = true) : Jvm.Cond.before (Jvm.Cond.laysFinal "com/example/expiring_state/expiringstate/LoginLockout$Rules" "com/example/expiring_state/expiringstate/LoginLockout$Rules" "lock" "Ljava/time/Duration;") a0 Z = true := hw _ (List.mem_of_getElem? (i := 83) rfl)
theorem d20_22 : decode prog_31_method_1_code 22 = .ok (.putfield 21, 3) := by decide +kernel
theorem d20_25 : decode prog_31_method_1_code 25 = .ok (.return_, 1) := by decide +kernel
abbrev R_rinit : Room := { frames := 1, cells := 0, slots := 0, locals := 12 }
def Q_rinit (Z : State) (G1 : Int32) (G3 : Value) (d : Addr) (r : Addr) (u : Addr) (w : Addr) (h0 : Heap) (n0 : Nat) (v : Option Value) (h : Heap) (L : List Loc) : Prop := (v = none ∧ Fr n0 L ∧ Keep h0 h [d] ∧ (Fld Z h d "com/example/expiring_state/expiringstate/LoginLockout$Rules" "name" "Ljava/lang/String;" (.ref r)) ∧ (Fld Z h d "com/example/expiring_state/expiringstate/LoginLockout$Rules" "failures" "I" (.int (5 : Int32))))
set_option maxRecDepth 65536 in
set_option maxHeartbeats 40000000 in
theorem rm_rinit (l : Launch) (Z : State) (a0 : Array Value) (hw : ∀ d ∈ tables_1, d.before a0 Z = true) (ws : List Jvm.Cond) (G1 : Int32) (G3 : Value) (HG : own_G l Z a0 G1 G3) (h0 : Heap) (n0 : Nat) (X00 : Old Z n0 h0) (d : Addr) (r : Addr) (u : Addr) (w : Addr) (hp0 : Exa Z h0 d "com/example/expiring_state/expiringstate/LoginLockout$Rules") (hp1 : Fld Z h0 d "com/example/expiring_state/expiringstate/LoginLockout$Rules" "name" "Ljava/lang/String;" .null) (hp2 : Fld Z h0 d "com/example/expiring_state/expiringstate/LoginLockout$Rules" "failures" "I" (.int (0 : Int32))) (hp3 : Fld Z h0 d "com/example/expiring_state/expiringstate/LoginLockout$Rules" "window" "Ljava/time/Duration;" .null) (hp4 : Fld Z h0 d "com/example/expiring_state/expiringstate/LoginLockout$Rules" "lock" "Ljava/time/Duration;" .null) (hp5 : n0 ≤ d) :
    own_CP l Z M328 prog_31_method_1_code 5 none ws R_rinit #[(.ref d), (.ref r), (.int (5 : Int32)), (.ref u), (.ref w)] h0 (Q_rinit Z G1 G3 d r u w h0 n0) := by
  refine own_P (plainFor_of_name pn_330) ?_
  intro p e s m below meth c s₁ S0 Bd hZ hh hx hby hml hown hnm X0 e0 hS0d
  obtain ⟨O1, P1, O3f, rG3⟩ := id HG
  have N0 := Fr.nil n0
  have C0 : Steps p.tables e below S0 (s₁.setTop (mkF m 0 #[.val (.ref d), .val (.ref r), .val (.int (5 : Int32)), .val (.ref u), .val (.ref w)] [])) := by rw [hS0d]; exact castTop (ef_329 m d r (5 : Int32) u w) (Steps.refl _)
  obtain ⟨T_1, X_2, e_3, st_4⟩ := initO X0 hx hZ hown (w75 hw) (w12 hw) (w13 hw) e0 (g := (mkF m 1 #[.val (.ref d), .val (.ref r), .val (.int (5 : Int32)), .val (.ref u), .val (.ref w)] [(.ref d)])) rfl (by rw [hml]; rfl) rfl (hb hby d20_1) (by decide) (W := 0) (by show 2 * 0 + _ ≤ _; exact Nat.le_of_eq rfl) (by decide)
  obtain ⟨T_5, h_6, X_7, e_8, W_9, st_10⟩ := putF X_2 hx hZ hown (host := "") (Or.inl (w76 hw)) Via.refl e_3 hp1 hp0 (Or.inr ⟨(w77 hw), rfl, hnm⟩) (w42 hw) (ty := (.object "java/lang/String")) (by decide) rfl rfl (g := (mkF m 6 #[.val (.ref d), .val (.ref r), .val (.int (5 : Int32)), .val (.ref u), .val (.ref w)] [(.ref r), (.ref d)])) rfl rfl (hb hby d20_6)
  have N_11 := Fr.snoc X_7 N0 hp5
  have F_12 : Fld Z h_6 d "com/example/expiring_state/expiringstate/LoginLockout$Rules" "name" "Ljava/lang/String;" (.ref r) := hp1.same W_9
  have F_13 : Fld Z h_6 d "com/example/expiring_state/expiringstate/LoginLockout$Rules" "failures" "I" (.int (0 : Int32)) := (hp2.other W_9 (Or.inr (slot_ne (Or.inr (w79 hw)) (Or.inr (w77 hw)) (by decide) (t := .int) (by decide) (t' := (.object "java/lang/String")) (by decide))))
  have E_14 : Exa Z h_6 d "com/example/expiring_state/expiringstate/LoginLockout$Rules" := (hp0.wr W_9)
  obtain ⟨T_15, h_16, X_17, e_18, W_19, st_20⟩ := putF X_7 hx hZ hown (host := "") (Or.inl (w78 hw)) Via.refl e_8 F_13 E_14 (Or.inr ⟨(w79 hw), rfl, hnm⟩) (w42 hw) (ty := .int) (by decide) rfl rfl (g := (mkF m 11 #[.val (.ref d), .val (.ref r), .val (.int (5 : Int32)), .val (.ref u), .val (.ref w)] [(.int (5 : Int32)), (.ref d)])) rfl rfl (hb hby d20_11)
  have N_21 := Fr.snoc X_17 N_11 hp5
  have F_22 : Fld Z h_16 d "com/example/expiring_state/expiringstate/LoginLockout$Rules" "failures" "I" (.int (5 : Int32)) := F_13.same W_19
  have F_23 : Fld Z h_16 d "com/example/expiring_state/expiringstate/LoginLockout$Rules" "window" "Ljava/time/Duration;" .null := ((hp3.other W_9 (Or.inr (slot_ne (Or.inr (w81 hw)) (Or.inr (w77 hw)) (by decide) (t := (.object "java/time/Duration")) (by decide) (t' := (.object "java/lang/String")) (by decide)))).other W_19 (Or.inr (slot_ne (Or.inr (w81 hw)) (Or.inr (w79 hw)) (by decide) (t := (.object "java/time/Duration")) (by decide) (t' := .int) (by decide))))
  have E_24 : Exa Z h_16 d "com/example/expiring_state/expiringstate/LoginLockout$Rules" := (E_14.wr W_19)
  obtain ⟨T_25, h_26, X_27, e_28, W_29, st_30⟩ := putF X_17 hx hZ hown (host := "") (Or.inl (w80 hw)) Via.refl e_18 F_23 E_24 (Or.inr ⟨(w81 hw), rfl, hnm⟩) (w42 hw) (ty := (.object "java/time/Duration")) (by decide) rfl rfl (g := (mkF m 16 #[.val (.ref d), .val (.ref r), .val (.int (5 : Int32)), .val (.ref u), .val (.ref w)] [(.ref u), (.ref d)])) rfl rfl (hb hby d20_16)
  have N_31 := Fr.snoc X_27 N_21 hp5
  have F_32 : Fld Z h_26 d "com/example/expiring_state/expiringstate/LoginLockout$Rules" "window" "Ljava/time/Duration;" (.ref u) := F_23.same W_29
  have F_33 : Fld Z h_26 d "com/example/expiring_state/expiringstate/LoginLockout$Rules" "lock" "Ljava/time/Duration;" .null := (((hp4.other W_9 (Or.inr (slot_ne (Or.inr (w83 hw)) (Or.inr (w77 hw)) (by decide) (t := (.object "java/time/Duration")) (by decide) (t' := (.object "java/lang/String")) (by decide)))).other W_19 (Or.inr (slot_ne (Or.inr (w83 hw)) (Or.inr (w79 hw)) (by decide) (t := (.object "java/time/Duration")) (by decide) (t' := .int) (by decide)))).other W_29 (Or.inr (slot_ne (Or.inr (w83 hw)) (Or.inr (w81 hw)) (by decide) (t := (.object "java/time/Duration")) (by decide) (t' := (.object "java/time/Duration")) (by decide))))
  have E_34 : Exa Z h_26 d "com/example/expiring_state/expiringstate/LoginLockout$Rules" := (E_24.wr W_29)
  obtain ⟨T_35, h_36, X_37, e_38, W_39, st_40⟩ := putF X_27 hx hZ hown (host := "") (Or.inl (w82 hw)) Via.refl e_28 F_33 E_34 (Or.inr ⟨(w83 hw), rfl, hnm⟩) (w42 hw) (ty := (.object "java/time/Duration")) (by decide) rfl rfl (g := (mkF m 22 #[.val (.ref d), .val (.ref r), .val (.int (5 : Int32)), .val (.ref u), .val (.ref w)] [(.ref w), (.ref d)])) rfl rfl (hb hby d20_22)
  have N_41 := Fr.snoc X_37 N_31 hp5
  have F_42 : Fld Z h_36 d "com/example/expiring_state/expiringstate/LoginLockout$Rules" "lock" "Ljava/time/Duration;" (.ref w) := F_33.same W_39
  have C_43 : Steps p.tables e below S0 (T_35.setTop (mkF m 25 #[.val (.ref d), .val (.ref r), .val (.int (5 : Int32)), .val (.ref u), .val (.ref w)] [])) := by
    refine C0.trans ?_
    refine XS.aloadN X0.here hx rfl (hb hby d20_0) rfl rfl ?_
    refine st_4 _ ?_
    refine XS.aloadN X_2.here hx rfl (hb hby d20_4) rfl rfl ?_
    refine XS.aloadN X_2.here hx rfl (hb hby d20_5) rfl rfl ?_
    refine st_10 _ ?_
    refine XS.aloadN X_7.here hx rfl (hb hby d20_9) rfl rfl ?_
    refine XS.iloadN X_7.here hx rfl (hb hby d20_10) rfl ?_
    refine st_20 _ ?_
    show Steps p.tables e below (T_15.setTop (mkF m 14 #[.val (.ref d), .val (.ref r), .val (.int (5 : Int32)), .val (.ref u), .val (.ref w)] [])) _
    refine XS.aloadN X_17.here hx rfl (hb hby d20_14) rfl rfl ?_
    refine XS.aloadN X_17.here hx rfl (hb hby d20_15) rfl rfl ?_
    refine st_30 _ ?_
    refine XS.aloadN X_27.here hx rfl (hb hby d20_19) rfl rfl ?_
    refine XS.aload X_27.here hx rfl (hb hby d20_20) rfl rfl ?_
    refine st_40 _ ?_
    exact Steps.refl _
  have F_44 : Fld Z h_36 d "com/example/expiring_state/expiringstate/LoginLockout$Rules" "name" "Ljava/lang/String;" (.ref r) := (((F_12.other W_19 (Or.inr (slot_ne (Or.inr (w77 hw)) (Or.inr (w79 hw)) (by decide) (t := (.object "java/lang/String")) (by decide) (t' := .int) (by decide)))).other W_29 (Or.inr (slot_ne (Or.inr (w77 hw)) (Or.inr (w81 hw)) (by decide) (t := (.object "java/lang/String")) (by decide) (t' := (.object "java/time/Duration")) (by decide)))).other W_39 (Or.inr (slot_ne (Or.inr (w77 hw)) (Or.inr (w83 hw)) (by decide) (t := (.object "java/lang/String")) (by decide) (t' := (.object "java/time/Duration")) (by decide))))
  have F_45 : Fld Z h_36 d "com/example/expiring_state/expiringstate/LoginLockout$Rules" "failures" "I" (.int (5 : Int32)) := ((F_22.other W_29 (Or.inr (slot_ne (Or.inr (w79 hw)) (Or.inr (w81 hw)) (by decide) (t := .int) (by decide) (t' := (.object "java/time/Duration")) (by decide)))).other W_39 (Or.inr (slot_ne (Or.inr (w79 hw)) (Or.inr (w83 hw)) (by decide) (t := .int) (by decide) (t' := (.object "java/time/Duration")) (by decide))))
  have K_46 : Keep h0 h_36 [d] := (((((Keep.refl _ _).wr W_9 (Or.inl (List.mem_of_getElem? (i := 0) rfl))).wr W_19 (Or.inl (List.mem_of_getElem? (i := 0) rfl))).wr W_29 (Or.inl (List.mem_of_getElem? (i := 0) rfl))).wr W_39 (Or.inl (List.mem_of_getElem? (i := 0) rfl)))
  obtain ⟨fs, hr, hrun, hended, hW, hsame⟩ := X_37.leave (v := none) (fun _ => rfl)
  refine ⟨_, _, C_43.trans (X_37.returnOut hx Bd.returns (hb hby d20_25) hr), hrun, hended, _, _, rfl, ?_, ⟨_, rfl⟩, hW, hsame.mono (by decide) (by decide)⟩
  show Q_rinit Z G1 G3 d r u w h0 n0 (none) T_35.heap _
  rw [e_38]
  exact ⟨rfl, N_41, K_46, F_44, F_45⟩
abbrev M356 : MethodName := ⟨"com/example/expiring_state/expiringstate/LoginLockout$Rules", "of", "(Ljava/lang/String;)Lcom/example/expiring_state/expiringstate/LoginLockout$Rules;"⟩
theorem d21_0 : decode prog_31_method_2_code 0 = .ok (.aload_n 0, 1) := by decide +kernel
theorem w34 {Z : State} {a0 : Array Value} (hw : ∀ d ∈ tables_1, d.before a0 Z = true) : Jvm.Cond.before (Jvm.Cond.stringLink "com/example/expiring_state/expiringstate/LoginLockout$Rules" (24 : Nat) "name") a0 Z = true := hw _ (List.mem_of_getElem? (i := 34) rfl)
theorem d21_1 : decode prog_31_method_2_code 1 = .ok (.ldc 24, 2) := by decide +kernel
theorem w40 {Z : State} {a0 : Array Value} (hw : ∀ d ∈ tables_1, d.before a0 Z = true) : Jvm.Cond.before (Jvm.Cond.code ({ cls := "java/util/Objects", name := "requireNonNull", desc := "(Ljava/lang/Object;Ljava/lang/String;)Ljava/lang/Object;" } : Jvm.MethodName) jdk_31_method_11_code (2 : Nat) (Option.some (Jvm.ClassFile.FieldType.object "java/lang/Object"))) a0 Z = true := hw _ (List.mem_of_getElem? (i := 40) rfl)
theorem w39 {Z : State} {a0 : Array Value} (hw : ∀ d ∈ tables_1, d.before a0 Z = true) : Jvm.Cond.before (Jvm.Cond.initialized "java/util/Objects") a0 Z = true := hw _ (List.mem_of_getElem? (i := 39) rfl)
theorem pd_362 : parseMethodDescriptor "(Ljava/lang/Object;Ljava/lang/String;)Ljava/lang/Object;" = some ⟨[(.object "java/lang/Object"), (.object "java/lang/String")], some (.object "java/lang/Object")⟩ := by decide +kernel
theorem d21_3 : decode prog_31_method_2_code 3 = .ok (.invokestatic 25, 3) := by decide +kernel
theorem w37 {Z : State} {a0 : Array Value} (hw : ∀ d ∈ tables_1, d.before a0 Z = true) : Jvm.Cond.before (Jvm.Cond.methodLink "com/example/expiring_state/expiringstate/LoginLockout$Rules" (25 : Nat) ({ cls := "java/util/Objects", name := "requireNonNull", desc := "(Ljava/lang/Object;Ljava/lang/String;)Ljava/lang/Object;" } : Jvm.MethodName)) a0 Z = true := hw _ (List.mem_of_getElem? (i := 37) rfl)
theorem w38 {Z : State} {a0 : Array Value} (hw : ∀ d ∈ tables_1, d.before a0 Z = true) : Jvm.Cond.before (Jvm.Cond.static ({ cls := "java/util/Objects", name := "requireNonNull", desc := "(Ljava/lang/Object;Ljava/lang/String;)Ljava/lang/Object;" } : Jvm.MethodName)) a0 Z = true := hw _ (List.mem_of_getElem? (i := 38) rfl)
theorem d21_6 : decode prog_31_method_2_code 6 = .ok (.pop, 1) := by decide +kernel
theorem w41 {Z : State} {a0 : Array Value} (hw : ∀ d ∈ tables_1, d.before a0 Z = true) : Jvm.Cond.before (Jvm.Cond.classLink "com/example/expiring_state/expiringstate/LoginLockout$Rules" (8 : Nat) "com/example/expiring_state/expiringstate/LoginLockout$Rules") a0 Z = true := hw _ (List.mem_of_getElem? (i := 41) rfl)
theorem w32 {Z : State} {a0 : Array Value} (hw : ∀ d ∈ tables_1, d.before a0 Z = true) : Jvm.Cond.before (Jvm.Cond.initialized "com/example/expiring_state/expiringstate/LoginLockout$Rules") a0 Z = true := hw _ (List.mem_of_getElem? (i := 32) rfl)
theorem d21_7 : decode prog_31_method_2_code 7 = .ok (.new 8, 3) := by decide +kernel
theorem d21_10 : decode prog_31_method_2_code 10 = .ok (.dup, 1) := by decide +kernel
theorem d21_11 : decode prog_31_method_2_code 11 = .ok (.aload_n 0, 1) := by decide +kernel
theorem d21_12 : decode prog_31_method_2_code 12 = .ok (.iconst 5, 1) := by decide +kernel
theorem w43 {Z : State} {a0 : Array Value} (hw : ∀ d ∈ tables_1, d.before a0 Z = true) : Jvm.Cond.before (Jvm.Cond.constantLong "com/example/expiring_state/expiringstate/LoginLockout$Rules" (31 : Nat) (15 : Int64)) a0 Z = true := hw _ (List.mem_of_getElem? (i := 43) rfl)
theorem d21_13 : decode prog_31_method_2_code 13 = .ok (.ldc2_w 31, 3) := by decide +kernel
theorem w47 {Z : State} {a0 : Array Value} (hw : ∀ d ∈ tables_1, d.before a0 Z = true) : Jvm.Cond.before (Jvm.Cond.code ({ cls := "java/time/Duration", name := "ofMinutes", desc := "(J)Ljava/time/Duration;" } : Jvm.MethodName) jdk_2316_method_3_code (2 : Nat) (Option.some (Jvm.ClassFile.FieldType.object "java/time/Duration"))) a0 Z = true := hw _ (List.mem_of_getElem? (i := 47) rfl)
theorem pd_376 : parseMethodDescriptor "(J)Ljava/time/Duration;" = some ⟨[.long], some (.object "java/time/Duration")⟩ := by decide +kernel
theorem d21_16 : decode prog_31_method_2_code 16 = .ok (.invokestatic 33, 3) := by decide +kernel
theorem w44 {Z : State} {a0 : Array Value} (hw : ∀ d ∈ tables_1, d.before a0 Z = true) : Jvm.Cond.before (Jvm.Cond.methodLink "com/example/expiring_state/expiringstate/LoginLockout$Rules" (33 : Nat) ({ cls := "java/time/Duration", name := "ofMinutes", desc := "(J)Ljava/time/Duration;" } : Jvm.MethodName)) a0 Z = true := hw _ (List.mem_of_getElem? (i := 44) rfl)
theorem w45 {Z : State} {a0 : Array Value} (hw : ∀ d ∈ tables_1, d.before a0 Z = true) : Jvm.Cond.before (Jvm.Cond.static ({ cls := "java/time/Duration", name := "ofMinutes", desc := "(J)Ljava/time/Duration;" } : Jvm.MethodName)) a0 Z = true := hw _ (List.mem_of_getElem? (i := 45) rfl)
theorem d21_19 : decode prog_31_method_2_code 19 = .ok (.ldc2_w 31, 3) := by decide +kernel
theorem d21_22 : decode prog_31_method_2_code 22 = .ok (.invokestatic 33, 3) := by decide +kernel
theorem w74 {Z : State} {a0 : Array Value} (hw : ∀ d ∈ tables_1, d.before a0 Z = true) : Jvm.Cond.before (Jvm.Cond.code ({ cls := "com/example/expiring_state/expiringstate/LoginLockout$Rules", name := "<init>", desc := "(Ljava/lang/String;ILjava/time/Duration;Ljava/time/Duration;)V" } : Jvm.MethodName) prog_31_method_1_code (5 : Nat) (Option.none : Option Jvm.ClassFile.FieldType)) a0 Z = true := hw _ (List.mem_of_getElem? (i := 74) rfl)
theorem pd_383 : parseMethodDescriptor "(Ljava/lang/String;ILjava/time/Duration;Ljava/time/Duration;)V" = some ⟨[(.object "java/lang/String"), .int, (.object "java/time/Duration"), (.object "java/time/Duration")], none⟩ := by decide +kernel
theorem d21_25 : decode prog_31_method_2_code 25 = .ok (.invokespecial 39, 3) := by decide +kernel
theorem w72 {Z : State} {a0 : Array Value} (hw : ∀ d ∈ tables_1, d.before a0 Z = true) : Jvm.Cond.before (Jvm.Cond.methodLink "com/example/expiring_state/expiringstate/LoginLockout$Rules" (39 : Nat) ({ cls := "com/example/expiring_state/expiringstate/LoginLockout$Rules", name := "<init>", desc := "(Ljava/lang/String;ILjava/time/Duration;Ljava/time/Duration;)V" } : Jvm.MethodName)) a0 Z = true := hw _ (List.mem_of_getElem? (i := 72) rfl)
theorem w73 {Z : State} {a0 : Array Value} (hw : ∀ d ∈ tables_1, d.before a0 Z = true) : Jvm.Cond.before (Jvm.Cond.instanceMethod ({ cls := "com/example/expiring_state/expiringstate/LoginLockout$Rules", name := "<init>", desc := "(Ljava/lang/String;ILjava/time/Duration;Ljava/time/Duration;)V" } : Jvm.MethodName)) a0 Z = true := hw _ (List.mem_of_getElem? (i := 73) rfl)
theorem d21_28 : decode prog_31_method_2_code 28 = .ok (.areturn, 1) := by decide +kernel
abbrev R_of : Room := { frames := 4, cells := 5, slots := 28, locals := 66 }
def Q_of (Z : State) (G1 : Int32) (G3 : Value) (r : Addr) (h0 : Heap) (n0 : Nat) (v : Option Value) (h : Heap) (L : List Loc) : Prop := (∃ d : Addr, v = some (.ref d) ∧ Fr n0 L ∧ Keep h0 h [] ∧ (h0.size ≤ d) ∧ (Exa Z h d "com/example/expiring_state/expiringstate/LoginLockout$Rules") ∧ (Fld Z h d "com/example/expiring_state/expiringstate/LoginLockout$Rules" "name" "Ljava/lang/String;" (.ref r)) ∧ (Fld Z h d "com/example/expiring_state/expiringstate/LoginLockout$Rules" "failures" "I" (.int (5 : Int32))))
set_option maxRecDepth 65536 in
set_option maxHeartbeats 40000000 in
theorem rm_of (l : Launch) (Z : State) (a0 : Array Value) (hw : ∀ d ∈ tables_1, d.before a0 Z = true) (ws : List Jvm.Cond) (G1 : Int32) (G3 : Value) (HG : own_G l Z a0 G1 G3) (h0 : Heap) (n0 : Nat) (X00 : Old Z n0 h0) (r : Addr)  :
    own_CH l Z M356 prog_31_method_2_code 1 (some (.object "com/example/expiring_state/expiringstate/LoginLockout$Rules")) ws R_of #[(.ref r)] h0 (Q_of Z G1 G3 r h0 n0) := by
  refine own_H (plainFor_of_name pn_330) ?_
  intro p e s m below meth c s₁ S0 Bd hZ hh CH0 hS0 CR0 hx hby hml hown hnm X0 e0 hS0d
  obtain ⟨O1, P1, O3f, rG3⟩ := id HG
  have hEL := own_EL hw
  have hSA := own_SA hw
  have N0 := Fr.nil n0
  have C0 : Steps p.tables e below S0 (s₁.setTop (mkF m 0 #[.val (.ref r)] [])) := by rw [hS0d]; exact castTop (ef_125 m r) (Steps.refl _)
  obtain ⟨a_1, T_2, h_3, k1_4, b_5, k_6, X_7, e_8, E_9, S_10, hk_11, hZ_12, ho_13, Ex_14, Fc_15, Fv_16, Va_17, la_18, lb_19, R_20, L_21, Sf_22, st_23⟩ := ldcCH (vm0 := s.vm) X0 hx hZ hown (w34 hw) hSA e0 hS0 (Nat.le_refl _) hEL (by decide) CH0 (vs := [(.int (110 : Int32)), (.int (97 : Int32)), (.int (109 : Int32)), (.int (101 : Int32))]) (z := (4 : Int32)) ⟨by decide, by decide⟩ (by decide) (by decide) (g := (mkF m 1 #[.val (.ref r)] [(.ref r)])) rfl (hb hby d21_1) (n := 16) (by decide) (by decide) (by decide) (by decide)
  have CH_24 : CHv Z consts_1 T_2.vm h_3 := R_20.1
  have CR_25 : CHr Z consts_1 s.vm h0 T_2.vm h_3 := CR0.trans R_20
  have O_26 : Old Z n0 h_3 := (X00.ext E_9)
  obtain ⟨_, _, ⟨T_27, L_27, k_27, n_27⟩, -, X_27, ⟨Lc_27, hQ_27, l_27, y_27, z_27⟩, st_27⟩ := Jvm.LawKit.callS X_7 hx (y := M322) ho_13 (mvT hZ_12 (w37 hw)) (mvT hZ_12 (w38 hw)) (mvT hZ_12 (w39 hw)) (mvT hZ_12 (w40 hw)) (by decide) (backOf (W := 0) (rm_rnn l Z a0 hw [] G1 G3 HG h_3 n0 O_26 r a_1 ) hZ_12 (w40 hw) (w39 hw) (by decide) (by decide)) (g := (mkF m 3 #[.val (.ref r)] [(.ref a_1), (.ref r)])) rfl (by rw [hml]; rfl) (argsL := [(.ref r), (.ref a_1)]) (rest := []) (lenOf pd_362 rfl) rfl (by show 2 * 0 + _ ≤ _; exact Nat.le_of_eq rfl) (hb hby d21_3) (fun _ _ => ⟨rfl, e_8, (by decide : 2 + 0 ≤ _), (by decide : 20 + 0 ≤ _)⟩)
  dsimp only [Pt.U, Pt.locs, Pt.cells, Pt.slots] at X_27 l_27 y_27 z_27 st_27 hQ_27
  subst l_27 y_27 z_27
  obtain ⟨rfl, N_28, e_29⟩ := hQ_27
  have N_30 := Fr.app N0 N_28
  have e_31 : T_27.heap = h_3 := e_29
  obtain ⟨T_32, h_33, X_34, e_35, E_36, A_37, D_38, U_42, st_39⟩ := newO X_27 hx hZ_12 ho_13 (w41 hw) (w42 hw) (w32 hw) e_31 (g := (mkF m 7 #[.val (.ref r)] [])) rfl (hb hby d21_7) (by decide) (by decide)
  obtain ⟨a_40, g_41⟩ : ∃ z, z = h_3.size := ⟨_, rfl⟩
  rw [← g_41] at A_37 D_38 st_39 U_42
  have CH_43 : CHv Z consts_1 T_2.vm h_33 := CHv.ext E_36 CH_24
  have CR_44 : CHr Z consts_1 s.vm h0 T_2.vm h_33 := CR_25.trans (CHr.ext E_36 CH_24)
  have O_45 : Old Z n0 h_33 := (O_26.ext E_36)
  obtain ⟨_, _, ⟨T_46, L_46, k_46, n_46⟩, -, X_46, ⟨Lc_46, hQ_46, l_46, y_46, z_46⟩, st_46⟩ := Jvm.LawKit.callS X_34 hx (y := M307) ho_13 (mvT hZ_12 (w44 hw)) (mvT hZ_12 (w45 hw)) (mvT hZ_12 (w46 hw)) (mvT hZ_12 (w47 hw)) (by decide) (backOf (W := 4) (rm_ofmin l Z a0 hw [] G1 G3 HG h_33 n0 O_45  ) hZ_12 (w47 hw) (w46 hw) (by decide) (by decide)) (g := (mkF m 16 #[.val (.ref r)] [(.long (15 : Int64)), (.int (5 : Int32)), (.ref r), (.ref a_40), (.ref a_40)])) rfl (by rw [hml]; rfl) (argsL := [(.long (15 : Int64))]) (rest := [(.int (5 : Int32)), (.ref r), (.ref a_40), (.ref a_40)]) (lenOf pd_376 rfl) rfl (by show 2 * 0 + _ ≤ _; exact Nat.le_of_eq rfl) (hb hby d21_16) (fun _ _ => ⟨rfl, e_35, (by decide : 3 + 1 ≤ _), (by decide : 24 + 2 ≤ _)⟩)
  dsimp only [Pt.U, Pt.locs, Pt.cells, Pt.slots] at X_46 l_46 y_46 z_46 st_46 hQ_46
  subst l_46 y_46 z_46
  obtain ⟨a_47, rfl, N_48, K_49⟩ := hQ_46
  have N_50 := Fr.app N_30 N_48
  have CH_51 : CHv Z consts_1 T_2.vm T_46.heap := CHv.keep K_49 sf0 CH_43
  have CR_52 : CHr Z consts_1 s.vm h0 T_2.vm T_46.heap := CR_44.trans (CHr.keep K_49 sf0 CH_43)
  have O_53 : Old Z n0 T_46.heap := (O_45.keep K_49 all0)
  obtain ⟨_, _, ⟨T_54, L_54, k_54, n_54⟩, -, X_54, ⟨Lc_54, hQ_54, l_54, y_54, z_54⟩, st_54⟩ := Jvm.LawKit.callS X_46 hx (y := M307) ho_13 (mvT hZ_12 (w44 hw)) (mvT hZ_12 (w45 hw)) (mvT hZ_12 (w46 hw)) (mvT hZ_12 (w47 hw)) (by decide) (backOf (W := 5) (rm_ofmin l Z a0 hw [] G1 G3 HG T_46.heap n0 O_53  ) hZ_12 (w47 hw) (w46 hw) (by decide) (by decide)) (g := (mkF m 22 #[.val (.ref r)] [(.long (15 : Int64)), (.ref a_47), (.int (5 : Int32)), (.ref r), (.ref a_40), (.ref a_40)])) rfl (by rw [hml]; rfl) (argsL := [(.long (15 : Int64))]) (rest := [(.ref a_47), (.int (5 : Int32)), (.ref r), (.ref a_40), (.ref a_40)]) (lenOf pd_376 rfl) rfl (by show 2 * 0 + _ ≤ _; exact Nat.le_of_eq rfl) (hb hby d21_22) (fun _ _ => ⟨rfl, rfl, (by decide : 4 + 1 ≤ _), (by decide : 26 + 2 ≤ _)⟩)
  dsimp only [Pt.U, Pt.locs, Pt.cells, Pt.slots] at X_54 l_54 y_54 z_54 st_54 hQ_54
  subst l_54 y_54 z_54
  obtain ⟨a_55, rfl, N_56, K_57⟩ := hQ_54
  have N_58 := Fr.app N_50 N_56
  have CH_59 : CHv Z consts_1 T_2.vm T_54.heap := CHv.keep K_57 sf0 CH_51
  have CR_60 : CHr Z consts_1 s.vm h0 T_2.vm T_54.heap := CR_52.trans (CHr.keep K_57 sf0 CH_51)
  have E_61 : Exa Z T_54.heap a_40 "com/example/expiring_state/expiringstate/LoginLockout$Rules" := ((A_37.keep K_49).keep K_57)
  have F_62 : Fld Z T_54.heap a_40 "com/example/expiring_state/expiringstate/LoginLockout$Rules" "name" "Ljava/lang/String;" .null := (((D_38 (Or.inr (w77 hw)) (ty := (.object "java/lang/String")) (by decide)).keep K_49 nin0).keep K_57 nin0)
  have F_63 : Fld Z T_54.heap a_40 "com/example/expiring_state/expiringstate/LoginLockout$Rules" "failures" "I" (.int (0 : Int32)) := (((D_38 (Or.inr (w79 hw)) (ty := .int) (by decide)).keep K_49 nin0).keep K_57 nin0)
  have F_64 : Fld Z T_54.heap a_40 "com/example/expiring_state/expiringstate/LoginLockout$Rules" "window" "Ljava/time/Duration;" .null := (((D_38 (Or.inr (w81 hw)) (ty := (.object "java/time/Duration")) (by decide)).keep K_49 nin0).keep K_57 nin0)
  have F_65 : Fld Z T_54.heap a_40 "com/example/expiring_state/expiringstate/LoginLockout$Rules" "lock" "Ljava/time/Duration;" .null := (((D_38 (Or.inr (w83 hw)) (ty := (.object "java/time/Duration")) (by decide)).keep K_49 nin0).keep K_57 nin0)
  have O_66 : Old Z n0 T_54.heap := (O_53.keep K_57 all0)
  obtain ⟨_, _, ⟨T_67, L_67, k_67, n_67⟩, -, X_67, ⟨Lc_67, hQ_67, l_67, y_67, z_67⟩, st_67⟩ := X_54.specialBack hx (y := M328) rfl ho_13 (mvT hZ_12 (w72 hw)) (mvT hZ_12 (w73 hw)) (mvT hZ_12 (w74 hw)) (by decide) (backOf (W := 1) (rm_rinit l Z a0 hw [] G1 G3 HG T_54.heap n0 O_66 a_40 r a_47 a_55 E_61 F_62 F_63 F_64 F_65 (Nat.le_trans (own_n0 O_26) (Nat.le_of_eq g_41.symm))) hZ_12 (w74 hw) (w32 hw) (by decide) (by decide)) (g := (mkF m 25 #[.val (.ref r)] [(.ref a_55), (.ref a_47), (.int (5 : Int32)), (.ref r), (.ref a_40), (.ref a_40)])) rfl (by rw [hml]; rfl) (Steps.refl _) (a := a_40) (argsL := [(.ref r), (.int (5 : Int32)), (.ref a_47), (.ref a_55)]) (rest := [(.ref a_40)]) (lenOf pd_383 rfl) rfl (by show 2 * 0 + _ ≤ _; exact Nat.le_of_eq rfl) (hb hby d21_25) (fun _ _ => ⟨rfl, rfl, (by decide : 5 + 0 ≤ _), (by decide : 28 + 0 ≤ _)⟩)
  dsimp only [Pt.U, Pt.locs, Pt.cells, Pt.slots] at X_67 l_67 y_67 z_67 st_67 hQ_67
  subst l_67 y_67 z_67
  obtain ⟨rfl, N_68, K_69, g_70, g_71⟩ := hQ_67
  have N_72 := Fr.app N_58 N_68
  have CH_73 : CHv Z consts_1 T_2.vm T_67.heap := CHv.keep K_69 (sfS (Safe.exa hZ_12.alike E_61 (by decide) (by decide)) sf0) CH_59
  have CR_74 : CHr Z consts_1 s.vm h0 T_2.vm T_67.heap := CR_60.trans (CHr.keep K_69 (sfS (Safe.exa hZ_12.alike E_61 (by decide) (by decide)) sf0) CH_59)
  have C_75 : Steps p.tables e below S0 (T_67.setTop (mkF m 28 #[.val (.ref r)] [(.ref a_40)])) := by
    refine C0.trans ?_
    refine XS.aloadN X0.here hx rfl (hb hby d21_0) rfl rfl ?_
    refine st_23 _ ?_
    refine st_27 _ ?_
    refine XS.pop X_27.here hx rfl (hb hby d21_6) rfl rfl ?_
    refine st_39 _ ?_
    refine XS.dup X_34.here hx rfl (hb hby d21_10) rfl rfl ?_
    refine XS.aloadN X_34.here hx rfl (hb hby d21_11) rfl rfl ?_
    refine XS.iconst X_34.here hx rfl (hb hby d21_12) ?_
    show Steps p.tables e below (T_32.setTop (mkF m 13 #[.val (.ref r)] [(.int (5 : Int32)), (.ref r), (.ref a_40), (.ref a_40)])) _
    refine X_34.ldc2J hx ho_13 (mvT hZ_12 (w43 hw)) rfl (hb hby d21_13) ?_
    refine st_46 _ ?_
    refine X_46.ldc2J hx ho_13 (mvT hZ_12 (w43 hw)) rfl (hb hby d21_19) ?_
    refine st_54 _ ?_
    refine st_67.trans ?_
    exact Steps.refl _
  have E_76 : Exa Z T_67.heap a_40 "com/example/expiring_state/expiringstate/LoginLockout$Rules" := (E_61.keep K_69)
  have K_77 : Keep h0 T_67.heap [] := ((((((Keep.refl _ _).ext E_9).ext E_36).trans K_49 all0).trans K_57 all0).trans K_69 (allS (Or.inr (Nat.le_trans E_9.1 (Nat.le_of_eq g_41.symm))) all0))
  obtain ⟨fs, hr, hrun, hended, hRE⟩ := X_67.leaveW S_10 (by rw [show T_67.heap = T_67.heap from rfl]; exact (Nat.le_trans hk_11 (Nat.le_trans (Nat.le_trans (Nat.le_trans E_36.1 K_49.1) K_57.1) K_69.1))) (v := some (.ref a_40)) (fun h => by rw [Bd.returns] at h; cases h)
  refine ⟨_, _, C_75.trans (retOut X_67 hx Bd.returns rfl (Or.inr (Or.inr (Or.inr (Or.inr ⟨rfl, rfl, rfl⟩)))) (hb hby d21_28) hr), hrun, hended, _, _, rfl, ?_, ?_, hRE.1, hRE.2.1, hRE.2.2.1, hRE.2.2.2.mono (by decide) (by decide)⟩
  · show Q_of Z G1 G3 r h0 n0 (some (.ref a_40)) T_67.heap _
    exact ⟨a_40, rfl, N_72, K_77, (Nat.le_trans E_9.1 (Nat.le_of_eq g_41.symm)), E_76, g_70, g_71⟩
  · show CHr Z consts_1 s.vm s.heap T_67.vm T_67.heap
    rw [hh]
    exact CR_74.trans (CHv.at X_67 hZ_12 hEL CH_73)
abbrev M388 : MethodName := ⟨"com/example/expiring_state/expiringstate/LoginLockout$Rules", "failures", "()I"⟩
theorem d22_0 : decode prog_31_method_7_code 0 = .ok (.aload_n 0, 1) := by decide +kernel
theorem d22_1 : decode prog_31_method_7_code 1 = .ok (.getfield 13, 3) := by decide +kernel
theorem d22_4 : decode prog_31_method_7_code 4 = .ok (.ireturn, 1) := by decide +kernel
abbrev R_gf : Room := { frames := 0, cells := 0, slots := 0, locals := 0 }
def Q_gf (Z : State) (G1 : Int32) (G3 : Value) (d : Addr) (h0 : Heap) (n0 : Nat) (v : Option Value) (h : Heap) (L : List Loc) : Prop := (v = some (.int (5 : Int32)) ∧ Fr n0 L ∧ h = h0)
set_option maxRecDepth 65536 in
set_option maxHeartbeats 40000000 in
theorem rm_gf (l : Launch) (Z : State) (a0 : Array Value) (hw : ∀ d ∈ tables_1, d.before a0 Z = true) (ws : List Jvm.Cond) (G1 : Int32) (G3 : Value) (HG : own_G l Z a0 G1 G3) (h0 : Heap) (n0 : Nat) (X00 : Old Z n0 h0) (d : Addr) (hp0 : Fld Z h0 d "com/example/expiring_state/expiringstate/LoginLockout$Rules" "failures" "I" (.int (5 : Int32))) :
    own_CP l Z M388 prog_31_method_7_code 1 (some .int) ws R_gf #[(.ref d)] h0 (Q_gf Z G1 G3 d h0 n0) := by
  refine own_P (plainFor_of_name pn_330) ?_
  intro p e s m below meth c s₁ S0 Bd hZ hh hx hby hml hown hnm X0 e0 hS0d
  obtain ⟨O1, P1, O3f, rG3⟩ := id HG
  have N0 := Fr.nil n0
  have C0 : Steps p.tables e below S0 (s₁.setTop (mkF m 0 #[.val (.ref d)] [])) := by rw [hS0d]; exact castTop (ef_125 m d) (Steps.refl _)
  obtain ⟨T_1, X_2, e_3, st_4⟩ := getF X0 hx hZ hown (host := "") (Or.inl (w78 hw)) Via.refl e0 hp0 (g := (mkF m 1 #[.val (.ref d)] [(.ref d)])) rfl rfl (hb hby d22_1)
  have C_5 : Steps p.tables e below S0 (T_1.setTop (mkF m 4 #[.val (.ref d)] [(.int (5 : Int32))])) := by
    refine C0.trans ?_
    refine XS.aloadN X0.here hx rfl (hb hby d22_0) rfl rfl ?_
    refine st_4 _ ?_
    exact Steps.refl _
  obtain ⟨fs, hr, hrun, hended, hW, hsame⟩ := X_2.leave (v := some (.int (5 : Int32))) (fun h => by rw [Bd.returns] at h; cases h)
  refine ⟨_, _, C_5.trans (retOut X_2 hx Bd.returns rfl (Or.inl ⟨rfl, Or.inl rfl, _, rfl⟩) (hb hby d22_4) hr), hrun, hended, _, _, rfl, ?_, ⟨_, rfl⟩, hW, hsame.mono (by decide) (by decide)⟩
  show Q_gf Z G1 G3 d h0 n0 (some (.int (5 : Int32))) T_1.heap _
  rw [e_3]
  exact ⟨rfl, N0, rfl⟩
abbrev M392 : MethodName := ⟨"com/example/expiring_state/expiringstate/LoginLockout$Rules", "name", "()Ljava/lang/String;"⟩
theorem d23_0 : decode prog_31_method_6_code 0 = .ok (.aload_n 0, 1) := by decide +kernel
theorem d23_1 : decode prog_31_method_6_code 1 = .ok (.getfield 7, 3) := by decide +kernel
theorem d23_4 : decode prog_31_method_6_code 4 = .ok (.areturn, 1) := by decide +kernel
abbrev R_gname : Room := { frames := 0, cells := 0, slots := 0, locals := 0 }
def Q_gname (Z : State) (G1 : Int32) (G3 : Value) (d : Addr) (r : Addr) (h0 : Heap) (n0 : Nat) (v : Option Value) (h : Heap) (L : List Loc) : Prop := (v = some (.ref r) ∧ Fr n0 L ∧ h = h0)
set_option maxRecDepth 65536 in
set_option maxHeartbeats 40000000 in
theorem rm_gname (l : Launch) (Z : State) (a0 : Array Value) (hw : ∀ d ∈ tables_1, d.before a0 Z = true) (ws : List Jvm.Cond) (G1 : Int32) (G3 : Value) (HG : own_G l Z a0 G1 G3) (h0 : Heap) (n0 : Nat) (X00 : Old Z n0 h0) (d : Addr) (r : Addr) (hp0 : Fld Z h0 d "com/example/expiring_state/expiringstate/LoginLockout$Rules" "name" "Ljava/lang/String;" (.ref r)) :
    own_CP l Z M392 prog_31_method_6_code 1 (some (.object "java/lang/String")) ws R_gname #[(.ref d)] h0 (Q_gname Z G1 G3 d r h0 n0) := by
  refine own_P (plainFor_of_name pn_330) ?_
  intro p e s m below meth c s₁ S0 Bd hZ hh hx hby hml hown hnm X0 e0 hS0d
  obtain ⟨O1, P1, O3f, rG3⟩ := id HG
  have N0 := Fr.nil n0
  have C0 : Steps p.tables e below S0 (s₁.setTop (mkF m 0 #[.val (.ref d)] [])) := by rw [hS0d]; exact castTop (ef_125 m d) (Steps.refl _)
  obtain ⟨T_1, X_2, e_3, st_4⟩ := getF X0 hx hZ hown (host := "") (Or.inl (w76 hw)) Via.refl e0 hp0 (g := (mkF m 1 #[.val (.ref d)] [(.ref d)])) rfl rfl (hb hby d23_1)
  have C_5 : Steps p.tables e below S0 (T_1.setTop (mkF m 4 #[.val (.ref d)] [(.ref r)])) := by
    refine C0.trans ?_
    refine XS.aloadN X0.here hx rfl (hb hby d23_0) rfl rfl ?_
    refine st_4 _ ?_
    exact Steps.refl _
  obtain ⟨fs, hr, hrun, hended, hW, hsame⟩ := X_2.leave (v := some (.ref r)) (fun h => by rw [Bd.returns] at h; cases h)
  refine ⟨_, _, C_5.trans (retOut X_2 hx Bd.returns rfl (Or.inr (Or.inr (Or.inr (Or.inr ⟨rfl, rfl, rfl⟩)))) (hb hby d23_4) hr), hrun, hended, _, _, rfl, ?_, ⟨_, rfl⟩, hW, hsame.mono (by decide) (by decide)⟩
  show Q_gname Z G1 G3 d r h0 n0 (some (.ref r)) T_1.heap _
  rw [e_3]
  exact ⟨rfl, N0, rfl⟩
theorem ef_396 (m : MethodId) (x0 : Int32) (x1 : Int32) (x2 : Int32) (x3 : Int32) : entryFrame m #[(.int x0), (.int x1), (.int x2), (.int x3)] maxLocals = mkF m 0 #[.val (.int x0), .val (.int x1), .val (.int x2), .val (.int x3), .unset, .unset, .unset, .unset, .unset, .unset, .unset, .unset] [] := by first | (simp [entryFrame, mkF, argsToLocals, Value.category, maxLocals]; done) | rfl
theorem pn_397 : plainName "com/example/expiring_state/expiringstate/RulesOf297PinLaw" = true := by first | (simp [plainName, overriddenIn]; done) | decide +kernel
theorem w0 {Z : State} {a0 : Array Value} (hw : ∀ d ∈ tables_1, d.before a0 Z = true) : Jvm.Cond.before (Jvm.Cond.arrayClass Jvm.ClassFile.FieldType.char) a0 Z = true := hw _ (List.mem_of_getElem? (i := 0) rfl)
theorem w1 {Z : State} {a0 : Array Value} (hw : ∀ d ∈ tables_1, d.before a0 Z = true) : Jvm.Cond.before (Jvm.Cond.classLink "com/example/expiring_state/expiringstate/RulesOf297PinLaw" (7 : Nat) "java/lang/String") a0 Z = true := hw _ (List.mem_of_getElem? (i := 1) rfl)
theorem w6 {Z : State} {a0 : Array Value} (hw : ∀ d ∈ tables_1, d.before a0 Z = true) : Jvm.Cond.before (Jvm.Cond.code ({ cls := "java/lang/String", name := "<init>", desc := "([C)V" } : Jvm.MethodName) jdk_42_method_3_code (2 : Nat) (Option.none : Option Jvm.ClassFile.FieldType)) a0 Z = true := hw _ (List.mem_of_getElem? (i := 6) rfl)
theorem pd_401 : parseMethodDescriptor "([C)V" = some ⟨[(.array .char)], none⟩ := by decide +kernel
theorem w4 {Z : State} {a0 : Array Value} (hw : ∀ d ∈ tables_1, d.before a0 Z = true) : Jvm.Cond.before (Jvm.Cond.methodLink "com/example/expiring_state/expiringstate/RulesOf297PinLaw" (9 : Nat) ({ cls := "java/lang/String", name := "<init>", desc := "([C)V" } : Jvm.MethodName)) a0 Z = true := hw _ (List.mem_of_getElem? (i := 4) rfl)
theorem w5 {Z : State} {a0 : Array Value} (hw : ∀ d ∈ tables_1, d.before a0 Z = true) : Jvm.Cond.before (Jvm.Cond.instanceMethod ({ cls := "java/lang/String", name := "<init>", desc := "([C)V" } : Jvm.MethodName)) a0 Z = true := hw _ (List.mem_of_getElem? (i := 5) rfl)
theorem w33 {Z : State} {a0 : Array Value} (hw : ∀ d ∈ tables_1, d.before a0 Z = true) : Jvm.Cond.before (Jvm.Cond.code ({ cls := "com/example/expiring_state/expiringstate/LoginLockout$Rules", name := "of", desc := "(Ljava/lang/String;)Lcom/example/expiring_state/expiringstate/LoginLockout$Rules;" } : Jvm.MethodName) prog_31_method_2_code (1 : Nat) (Option.some (Jvm.ClassFile.FieldType.object "com/example/expiring_state/expiringstate/LoginLockout$Rules"))) a0 Z = true := hw _ (List.mem_of_getElem? (i := 33) rfl)
theorem pd_405 : parseMethodDescriptor "(Ljava/lang/String;)Lcom/example/expiring_state/expiringstate/LoginLockout$Rules;" = some ⟨[(.object "java/lang/String")], some (.object "com/example/expiring_state/expiringstate/LoginLockout$Rules")⟩ := by decide +kernel
theorem w30 {Z : State} {a0 : Array Value} (hw : ∀ d ∈ tables_1, d.before a0 Z = true) : Jvm.Cond.before (Jvm.Cond.methodLink "com/example/expiring_state/expiringstate/RulesOf297PinLaw" (12 : Nat) ({ cls := "com/example/expiring_state/expiringstate/LoginLockout$Rules", name := "of", desc := "(Ljava/lang/String;)Lcom/example/expiring_state/expiringstate/LoginLockout$Rules;" } : Jvm.MethodName)) a0 Z = true := hw _ (List.mem_of_getElem? (i := 30) rfl)
theorem w31 {Z : State} {a0 : Array Value} (hw : ∀ d ∈ tables_1, d.before a0 Z = true) : Jvm.Cond.before (Jvm.Cond.static ({ cls := "com/example/expiring_state/expiringstate/LoginLockout$Rules", name := "of", desc := "(Ljava/lang/String;)Lcom/example/expiring_state/expiringstate/LoginLockout$Rules;" } : Jvm.MethodName)) a0 Z = true := hw _ (List.mem_of_getElem? (i := 31) rfl)
theorem w88 {Z : State} {a0 : Array Value} (hw : ∀ d ∈ tables_1, d.before a0 Z = true) : Jvm.Cond.before (Jvm.Cond.code ({ cls := "com/example/expiring_state/expiringstate/LoginLockout$Rules", name := "name", desc := "()Ljava/lang/String;" } : Jvm.MethodName) prog_31_method_6_code (1 : Nat) (Option.some (Jvm.ClassFile.FieldType.object "java/lang/String"))) a0 Z = true := hw _ (List.mem_of_getElem? (i := 88) rfl)
theorem pd_409 : parseMethodDescriptor "()Ljava/lang/String;" = some ⟨[], some (.object "java/lang/String")⟩ := by decide +kernel
theorem w84 {Z : State} {a0 : Array Value} (hw : ∀ d ∈ tables_1, d.before a0 Z = true) : Jvm.Cond.before (Jvm.Cond.methodLink "com/example/expiring_state/expiringstate/RulesOf297PinLaw" (18 : Nat) ({ cls := "com/example/expiring_state/expiringstate/LoginLockout$Rules", name := "name", desc := "()Ljava/lang/String;" } : Jvm.MethodName)) a0 Z = true := hw _ (List.mem_of_getElem? (i := 84) rfl)
theorem w87 {Z : State} {a0 : Array Value} (hw : ∀ d ∈ tables_1, d.before a0 Z = true) : Jvm.Cond.before (Jvm.Cond.selects "com/example/expiring_state/expiringstate/LoginLockout$Rules" ({ cls := "com/example/expiring_state/expiringstate/LoginLockout$Rules", name := "name", desc := "()Ljava/lang/String;" } : Jvm.MethodName) ({ cls := "com/example/expiring_state/expiringstate/LoginLockout$Rules", name := "name", desc := "()Ljava/lang/String;" } : Jvm.MethodName)) a0 Z = true := hw _ (List.mem_of_getElem? (i := 87) rfl)
theorem w86 {Z : State} {a0 : Array Value} (hw : ∀ d ∈ tables_1, d.before a0 Z = true) : Jvm.Cond.before (Jvm.Cond.instanceMethod ({ cls := "com/example/expiring_state/expiringstate/LoginLockout$Rules", name := "name", desc := "()Ljava/lang/String;" } : Jvm.MethodName)) a0 Z = true := hw _ (List.mem_of_getElem? (i := 86) rfl)
theorem w85 {Z : State} {a0 : Array Value} (hw : ∀ d ∈ tables_1, d.before a0 Z = true) : Jvm.Cond.before (Jvm.Cond.declares ({ cls := "com/example/expiring_state/expiringstate/LoginLockout$Rules", name := "name", desc := "()Ljava/lang/String;" } : Jvm.MethodName)) a0 Z = true := hw _ (List.mem_of_getElem? (i := 85) rfl)
theorem w93 {Z : State} {a0 : Array Value} (hw : ∀ d ∈ tables_1, d.before a0 Z = true) : Jvm.Cond.before (Jvm.Cond.code ({ cls := "java/lang/String", name := "length", desc := "()I" } : Jvm.MethodName) jdk_42_method_54_code (1 : Nat) (Option.some Jvm.ClassFile.FieldType.int)) a0 Z = true := hw _ (List.mem_of_getElem? (i := 93) rfl)
theorem pd_415 : parseMethodDescriptor "()I" = some ⟨[], some .int⟩ := by decide +kernel
theorem w89 {Z : State} {a0 : Array Value} (hw : ∀ d ∈ tables_1, d.before a0 Z = true) : Jvm.Cond.before (Jvm.Cond.methodLink "com/example/expiring_state/expiringstate/RulesOf297PinLaw" (22 : Nat) ({ cls := "java/lang/String", name := "length", desc := "()I" } : Jvm.MethodName)) a0 Z = true := hw _ (List.mem_of_getElem? (i := 89) rfl)
theorem w92 {Z : State} {a0 : Array Value} (hw : ∀ d ∈ tables_1, d.before a0 Z = true) : Jvm.Cond.before (Jvm.Cond.selects "java/lang/String" ({ cls := "java/lang/String", name := "length", desc := "()I" } : Jvm.MethodName) ({ cls := "java/lang/String", name := "length", desc := "()I" } : Jvm.MethodName)) a0 Z = true := hw _ (List.mem_of_getElem? (i := 92) rfl)
theorem w91 {Z : State} {a0 : Array Value} (hw : ∀ d ∈ tables_1, d.before a0 Z = true) : Jvm.Cond.before (Jvm.Cond.instanceMethod ({ cls := "java/lang/String", name := "length", desc := "()I" } : Jvm.MethodName)) a0 Z = true := hw _ (List.mem_of_getElem? (i := 91) rfl)
theorem w90 {Z : State} {a0 : Array Value} (hw : ∀ d ∈ tables_1, d.before a0 Z = true) : Jvm.Cond.before (Jvm.Cond.declares ({ cls := "java/lang/String", name := "length", desc := "()I" } : Jvm.MethodName)) a0 Z = true := hw _ (List.mem_of_getElem? (i := 90) rfl)
theorem w125 {Z : State} {a0 : Array Value} (hw : ∀ d ∈ tables_1, d.before a0 Z = true) : Jvm.Cond.before (Jvm.Cond.code ({ cls := "java/lang/String", name := "equals", desc := "(Ljava/lang/Object;)Z" } : Jvm.MethodName) jdk_42_method_66_code (3 : Nat) (Option.some Jvm.ClassFile.FieldType.boolean)) a0 Z = true := hw _ (List.mem_of_getElem? (i := 125) rfl)
theorem pd_421 : parseMethodDescriptor "(Ljava/lang/Object;)Z" = some ⟨[(.object "java/lang/Object")], some .boolean⟩ := by decide +kernel
theorem w121 {Z : State} {a0 : Array Value} (hw : ∀ d ∈ tables_1, d.before a0 Z = true) : Jvm.Cond.before (Jvm.Cond.methodLink "com/example/expiring_state/expiringstate/RulesOf297PinLaw" (30 : Nat) ({ cls := "java/lang/String", name := "equals", desc := "(Ljava/lang/Object;)Z" } : Jvm.MethodName)) a0 Z = true := hw _ (List.mem_of_getElem? (i := 121) rfl)
theorem w124 {Z : State} {a0 : Array Value} (hw : ∀ d ∈ tables_1, d.before a0 Z = true) : Jvm.Cond.before (Jvm.Cond.selects "java/lang/String" ({ cls := "java/lang/String", name := "equals", desc := "(Ljava/lang/Object;)Z" } : Jvm.MethodName) ({ cls := "java/lang/String", name := "equals", desc := "(Ljava/lang/Object;)Z" } : Jvm.MethodName)) a0 Z = true := hw _ (List.mem_of_getElem? (i := 124) rfl)
theorem w123 {Z : State} {a0 : Array Value} (hw : ∀ d ∈ tables_1, d.before a0 Z = true) : Jvm.Cond.before (Jvm.Cond.instanceMethod ({ cls := "java/lang/String", name := "equals", desc := "(Ljava/lang/Object;)Z" } : Jvm.MethodName)) a0 Z = true := hw _ (List.mem_of_getElem? (i := 123) rfl)
theorem w122 {Z : State} {a0 : Array Value} (hw : ∀ d ∈ tables_1, d.before a0 Z = true) : Jvm.Cond.before (Jvm.Cond.declares ({ cls := "java/lang/String", name := "equals", desc := "(Ljava/lang/Object;)Z" } : Jvm.MethodName)) a0 Z = true := hw _ (List.mem_of_getElem? (i := 122) rfl)
theorem w130 {Z : State} {a0 : Array Value} (hw : ∀ d ∈ tables_1, d.before a0 Z = true) : Jvm.Cond.before (Jvm.Cond.code ({ cls := "com/example/expiring_state/expiringstate/LoginLockout$Rules", name := "failures", desc := "()I" } : Jvm.MethodName) prog_31_method_7_code (1 : Nat) (Option.some Jvm.ClassFile.FieldType.int)) a0 Z = true := hw _ (List.mem_of_getElem? (i := 130) rfl)
theorem w126 {Z : State} {a0 : Array Value} (hw : ∀ d ∈ tables_1, d.before a0 Z = true) : Jvm.Cond.before (Jvm.Cond.methodLink "com/example/expiring_state/expiringstate/RulesOf297PinLaw" (34 : Nat) ({ cls := "com/example/expiring_state/expiringstate/LoginLockout$Rules", name := "failures", desc := "()I" } : Jvm.MethodName)) a0 Z = true := hw _ (List.mem_of_getElem? (i := 126) rfl)
theorem w129 {Z : State} {a0 : Array Value} (hw : ∀ d ∈ tables_1, d.before a0 Z = true) : Jvm.Cond.before (Jvm.Cond.selects "com/example/expiring_state/expiringstate/LoginLockout$Rules" ({ cls := "com/example/expiring_state/expiringstate/LoginLockout$Rules", name := "failures", desc := "()I" } : Jvm.MethodName) ({ cls := "com/example/expiring_state/expiringstate/LoginLockout$Rules", name := "failures", desc := "()I" } : Jvm.MethodName)) a0 Z = true := hw _ (List.mem_of_getElem? (i := 129) rfl)
theorem w128 {Z : State} {a0 : Array Value} (hw : ∀ d ∈ tables_1, d.before a0 Z = true) : Jvm.Cond.before (Jvm.Cond.instanceMethod ({ cls := "com/example/expiring_state/expiringstate/LoginLockout$Rules", name := "failures", desc := "()I" } : Jvm.MethodName)) a0 Z = true := hw _ (List.mem_of_getElem? (i := 128) rfl)
theorem w127 {Z : State} {a0 : Array Value} (hw : ∀ d ∈ tables_1, d.before a0 Z = true) : Jvm.Cond.before (Jvm.Cond.declares ({ cls := "com/example/expiring_state/expiringstate/LoginLockout$Rules", name := "failures", desc := "()I" } : Jvm.MethodName)) a0 Z = true := hw _ (List.mem_of_getElem? (i := 127) rfl)
theorem w103 {Z : State} {a0 : Array Value} (hw : ∀ d ∈ tables_1, d.before a0 Z = true) : Jvm.Cond.before (Jvm.Cond.code ({ cls := "java/lang/String", name := "charAt", desc := "(I)C" } : Jvm.MethodName) jdk_42_method_56_code (2 : Nat) (Option.some Jvm.ClassFile.FieldType.char)) a0 Z = true := hw _ (List.mem_of_getElem? (i := 103) rfl)
theorem pd_432 : parseMethodDescriptor "(I)C" = some ⟨[.int], some .char⟩ := by decide +kernel
theorem w99 {Z : State} {a0 : Array Value} (hw : ∀ d ∈ tables_1, d.before a0 Z = true) : Jvm.Cond.before (Jvm.Cond.methodLink "com/example/expiring_state/expiringstate/RulesOf297PinLaw" (26 : Nat) ({ cls := "java/lang/String", name := "charAt", desc := "(I)C" } : Jvm.MethodName)) a0 Z = true := hw _ (List.mem_of_getElem? (i := 99) rfl)
theorem w102 {Z : State} {a0 : Array Value} (hw : ∀ d ∈ tables_1, d.before a0 Z = true) : Jvm.Cond.before (Jvm.Cond.selects "java/lang/String" ({ cls := "java/lang/String", name := "charAt", desc := "(I)C" } : Jvm.MethodName) ({ cls := "java/lang/String", name := "charAt", desc := "(I)C" } : Jvm.MethodName)) a0 Z = true := hw _ (List.mem_of_getElem? (i := 102) rfl)
theorem w101 {Z : State} {a0 : Array Value} (hw : ∀ d ∈ tables_1, d.before a0 Z = true) : Jvm.Cond.before (Jvm.Cond.instanceMethod ({ cls := "java/lang/String", name := "charAt", desc := "(I)C" } : Jvm.MethodName)) a0 Z = true := hw _ (List.mem_of_getElem? (i := 101) rfl)
theorem w100 {Z : State} {a0 : Array Value} (hw : ∀ d ∈ tables_1, d.before a0 Z = true) : Jvm.Cond.before (Jvm.Cond.declares ({ cls := "java/lang/String", name := "charAt", desc := "(I)C" } : Jvm.MethodName)) a0 Z = true := hw _ (List.mem_of_getElem? (i := 100) rfl)
def Q_law (Z : State) (G1 : Int32) (G3 : Value) (p0 : Int32) (p1 : Int32) (p2 : Int32) (p3 : Int32) (h0 : Heap) (n0 : Nat) (v : Option Value) (h : Heap) (L : List Loc) : Prop := (v = some (.int (1 : Int32)) ∧ Fr n0 L ∧ Keep h0 h [])
set_option maxRecDepth 65536 in
set_option maxHeartbeats 40000000 in
theorem rm_law (l : Launch) (Z : State) (a0 : Array Value) (hw : ∀ d ∈ tables_1, d.before a0 Z = true) (ws : List Jvm.Cond) (G1 : Int32) (G3 : Value) (HG : own_G l Z a0 G1 G3) (h0 : Heap) (n0 : Nat) (X00 : Old Z n0 h0) (p0 : Int32) (p1 : Int32) (p2 : Int32) (p3 : Int32)  :
    own_CH l Z x code maxLocals ret ws room_1 #[(.int p0), (.int p1), (.int p2), (.int p3)] h0 (Q_law Z G1 G3 p0 p1 p2 p3 h0 n0) := by
  refine own_H (plainFor_of_name pn_397) ?_
  intro p e s m below meth c s₁ S0 Bd hZ hh CH0 hS0 CR0 hx hby hml hown hnm X0 e0 hS0d
  obtain ⟨O1, P1, O3f, rG3⟩ := id HG
  have hEL := own_EL hw
  have hSA := own_SA hw
  have N0 := Fr.nil n0
  have C0 : Steps p.tables e below S0 (s₁.setTop (mkF m 0 #[.val (.int p0), .val (.int p1), .val (.int p2), .val (.int p3), .unset, .unset, .unset, .unset, .unset, .unset, .unset, .unset] [])) := by rw [hS0d]; exact castTop (ef_396 m p0 p1 p2 p3) (Steps.refl _)
  have C_1 : Steps p.tables e below S0 (s₁.setTop (mkF m 27 #[.val (.int p0), .val (.int p1), .val (.int p2), .val (.int p3), .val (.int (own_cb p0)), .val (.int (own_cb p1)), .val (.int (own_cb p2)), .unset, .unset, .unset, .unset, .unset] [(.int (p3 &&& (3 : Int32)))])) := by
    refine C0.trans ?_
    refine XS.iloadN X0.here hx rfl (hb hby at_0) rfl ?_
    refine XS.sipush X0.here hx rfl (hb hby at_1) ?_
    refine XS.iand X0.here hx rfl (hb hby at_4) rfl ?_
    refine XS.i2c X0.here hx rfl (hb hby at_5) rfl ?_
    refine XS.istore X0.here hx rfl (hb hby at_6) rfl (l' := #[.val (.int p0), .val (.int p1), .val (.int p2), .val (.int p3), .val (.int (own_cb p0)), .unset, .unset, .unset, .unset, .unset, .unset, .unset]) rfl ?_
    refine XS.iloadN X0.here hx rfl (hb hby at_8) rfl ?_
    refine XS.sipush X0.here hx rfl (hb hby at_9) ?_
    refine XS.iand X0.here hx rfl (hb hby at_12) rfl ?_
    show Steps p.tables e below (s₁.setTop (mkF m 13 #[.val (.int p0), .val (.int p1), .val (.int p2), .val (.int p3), .val (.int (own_cb p0)), .unset, .unset, .unset, .unset, .unset, .unset, .unset] [(.int (p1 &&& (255 : Int32)))])) _
    refine XS.i2c X0.here hx rfl (hb hby at_13) rfl ?_
    refine XS.istore X0.here hx rfl (hb hby at_14) rfl (l' := #[.val (.int p0), .val (.int p1), .val (.int p2), .val (.int p3), .val (.int (own_cb p0)), .val (.int (own_cb p1)), .unset, .unset, .unset, .unset, .unset, .unset]) rfl ?_
    refine XS.iloadN X0.here hx rfl (hb hby at_16) rfl ?_
    refine XS.sipush X0.here hx rfl (hb hby at_17) ?_
    refine XS.iand X0.here hx rfl (hb hby at_20) rfl ?_
    refine XS.i2c X0.here hx rfl (hb hby at_21) rfl ?_
    refine XS.istore X0.here hx rfl (hb hby at_22) rfl (l' := #[.val (.int p0), .val (.int p1), .val (.int p2), .val (.int p3), .val (.int (own_cb p0)), .val (.int (own_cb p1)), .val (.int (own_cb p2)), .unset, .unset, .unset, .unset, .unset]) rfl ?_
    refine XS.iloadN X0.here hx rfl (hb hby at_24) rfl ?_
    show Steps p.tables e below (s₁.setTop (mkF m 25 #[.val (.int p0), .val (.int p1), .val (.int p2), .val (.int p3), .val (.int (own_cb p0)), .val (.int (own_cb p1)), .val (.int (own_cb p2)), .unset, .unset, .unset, .unset, .unset] [(.int p3)])) _
    refine XS.iconst X0.here hx rfl (hb hby at_25) ?_
    refine XS.iand X0.here hx rfl (hb hby at_26) rfl ?_
    exact Steps.refl _
  rcases own_and3 p3 with hn_2 | hn_3 | hn_4 | hn_5
  · skip
    have C_6 : Steps p.tables e below S0 (s₁.setTop (mkF m 27 #[.val (.int p0), .val (.int p1), .val (.int p2), .val (.int p3), .val (.int (own_cb p0)), .val (.int (own_cb p1)), .val (.int (own_cb p2)), .unset, .unset, .unset, .unset, .unset] [(.int (0 : Int32))])) := by have q := C_1; rw [hn_2] at q; exact q
    obtain ⟨T_7, h_8, k_9, X_10, e_11, E_12, A_13, st_14⟩ := newP (aty := .char) X0 hx hZ (w0 hw) e0 (g := (mkF m 35 #[.val (.int p0), .val (.int p1), .val (.int p2), .val (.int p3), .val (.int (own_cb p0)), .val (.int (own_cb p1)), .val (.int (own_cb p2)), .val (.int (0 : Int32)), .unset, .unset, .unset, .unset] [(.int (0 : Int32))])) rfl (hb hby at_35) rfl (by decide : ¬ ((0 : Int32) < (0 : Int32))) (cap := 0) (by decide : (0 : Int32).toNatClampNeg ≤ 0) (by decide) (by decide) (by decide)
    obtain ⟨a_15, g_16⟩ : ∃ z, z = h0.size := ⟨_, rfl⟩
    rw [← g_16] at A_13 st_14
    have CH_18 : CHv Z consts_1 s.vm h_8 := CHv.ext E_12 CH0
    have CR_19 : CHr Z consts_1 s.vm h0 s.vm h_8 := CR0.trans (CHr.ext E_12 CH0)
    have V_20 : Arv Z h_8 a_15 k_9 .char (0 : Int32) [] (.int (0 : Int32)) := Arv.new A_13 (by decide : ¬ ((0 : Int32) < (0 : Int32)))
    obtain ⟨T_21, h_22, X_23, e_24, E_25, A_26, D_27, U_31, st_28⟩ := newO X_10 hx hZ hown (w1 hw) (w2 hw) (w3 hw) e_11 (g := (mkF m 105 #[.val (.int p0), .val (.int p1), .val (.int p2), .val (.int p3), .val (.int (own_cb p0)), .val (.int (own_cb p1)), .val (.int (own_cb p2)), .val (.int (0 : Int32)), .val (.ref a_15), .unset, .unset, .unset] [])) rfl (hb hby at_105) (by decide) (by decide)
    obtain ⟨a_29, g_30⟩ : ∃ z, z = h_8.size := ⟨_, rfl⟩
    rw [← g_30] at A_26 D_27 st_28 U_31
    have CH_32 : CHv Z consts_1 s.vm h_22 := CHv.ext E_25 CH_18
    have CR_33 : CHr Z consts_1 s.vm h0 s.vm h_22 := CR_19.trans (CHr.ext E_25 CH_18)
    have O_34 : Old Z n0 h_8 := (X00.ext E_12)
    have V_35 : Arv Z h_22 a_15 k_9 .char (0 : Int32) [] (.int (0 : Int32)) := (V_20.ext E_25)
    have O_36 : Old Z n0 h_22 := (O_34.ext E_25)
    obtain ⟨_, _, ⟨T_37, L_37, k_37, n_37⟩, -, Y_37, S_37, G_37, ⟨Lc_37, hQ_37, l_37, y_37, z_37, R_37⟩, st_37⟩ := X_23.specialBackS hx (y := M25) rfl hown (mvT hZ (w4 hw)) (mvT hZ (w5 hw)) (mvT hZ (w6 hw)) (by decide) (backOfSH (vm0 := s.vm) (W := 1) (rm_si1_0 l Z a0 hw [] G1 G3 HG h_22 n0 O_36 a_29 a_15 k_9 A_26 (D_27 (Or.inr (w29 hw)) (ty := (.array .byte)) (by decide)) (D_27 (Or.inr (w27 hw)) (ty := .byte) (by decide)) (Nat.le_trans (own_n0 O_34) (Nat.le_of_eq g_30.symm)) V_35) hZ (w6 hw) (w3 hw) (by decide) (by decide) hEL CH_32) (g := (mkF m 111 #[.val (.int p0), .val (.int p1), .val (.int p2), .val (.int p3), .val (.int (own_cb p0)), .val (.int (own_cb p1)), .val (.int (own_cb p2)), .val (.int (0 : Int32)), .val (.ref a_15), .unset, .unset, .unset] [(.ref a_15), (.ref a_29), (.ref a_29)])) rfl (by rw [hml]; rfl) (Steps.refl _) (a := a_29) (argsL := [(.ref a_15)]) (rest := [(.ref a_29)]) (lenOf pd_401 rfl) rfl (by show 2 * 0 + _ ≤ _; exact Nat.le_of_eq rfl) (hb hby at_111) (fun _ _ => ⟨rfl, e_24, (by decide : 2 + 4 ≤ _), (by decide : 4 + 8 ≤ _)⟩)
    dsimp only [Pt.U, Pt.locs, Pt.cells, Pt.slots] at Y_37 S_37 G_37 l_37 y_37 z_37 st_37 hQ_37 R_37
    subst l_37 y_37 z_37
    obtain ⟨X_37, hS_37, hZ_37, hown_37⟩ := rebS hS0 (n1 := T_21.heap.size) (by rw [show T_21.heap = h_22 from e_24]; exact (Nat.le_trans (Nat.le_refl _) (Nat.le_trans E_12.1 E_25.1))) Y_37 S_37 G_37 hZ hown
    obtain ⟨a_38, k_39, rfl, N_40, K_41, g_42, g_43, g_44, g_45⟩ := hQ_37
    have N_46 := Fr.app N0 N_40
    have CH_47 : CHv Z consts_1 T_37.vm T_37.heap := R_37.1
    have CR_48 : CHr Z consts_1 s.vm h0 T_37.vm T_37.heap := CR_33.trans R_37
    have O_49 : Old Z n0 T_37.heap := (O_36.keep K_41 (allS (Nat.le_trans (own_n0 O_34) (Nat.le_of_eq g_30.symm)) all0))
    obtain ⟨_, _, ⟨T_50, L_50, k_50, n_50⟩, -, Y_50, S_50, G_50, ⟨Lc_50, hQ_50, l_50, y_50, z_50, R_50⟩, st_50⟩ := callSS X_37 hx (y := M356) hown_37 (mvT hZ_37 (w30 hw)) (mvT hZ_37 (w31 hw)) (mvT hZ_37 (w32 hw)) (mvT hZ_37 (w33 hw)) (by decide) (backOfSH (vm0 := T_37.vm) (W := 0) (rm_of l Z a0 hw [] G1 G3 HG T_37.heap n0 O_49 a_29 ) hZ_37 (w33 hw) (w32 hw) (by decide) (by decide) hEL CH_47) (g := (mkF m 118 #[.val (.int p0), .val (.int p1), .val (.int p2), .val (.int p3), .val (.int (own_cb p0)), .val (.int (own_cb p1)), .val (.int (own_cb p2)), .val (.int (0 : Int32)), .val (.ref a_15), .val (.ref a_29), .unset, .unset] [(.ref a_29)])) rfl (by rw [hml]; rfl) (argsL := [(.ref a_29)]) (rest := []) (lenOf pd_405 rfl) rfl (by show 2 * 0 + _ ≤ _; exact Nat.le_of_eq rfl) (hb hby at_118) (fun _ _ => ⟨rfl, rfl, (by decide : 6 + 5 ≤ _), (by decide : 12 + 28 ≤ _)⟩)
    dsimp only [Pt.U, Pt.locs, Pt.cells, Pt.slots] at Y_50 S_50 G_50 l_50 y_50 z_50 st_50 hQ_50 R_50
    subst l_50 y_50 z_50
    obtain ⟨X_50, hS_50, hZ_50, hown_50⟩ := rebS hS_37 (n1 := T_37.heap.size) (by rw [show T_37.heap = T_37.heap from rfl]; exact (Nat.le_refl _)) Y_50 S_50 G_50 hZ_37 hown_37
    obtain ⟨a_51, rfl, N_52, K_53, g_54, g_55, g_56, g_57⟩ := hQ_50
    have N_58 := Fr.app N_46 N_52
    have CH_59 : CHv Z consts_1 T_50.vm T_50.heap := R_50.1
    have CR_60 : CHr Z consts_1 s.vm h0 T_50.vm T_50.heap := CR_48.trans R_50
    have O_61 : Old Z n0 T_50.heap := (O_49.keep K_53 all0)
    obtain ⟨q_63, q_64, q_65, q_66, q_67⟩ := isOf (T := T_50) hZ_50 rfl g_55
    obtain ⟨_, _, ⟨T_62, L_62, k_62, n_62⟩, -, X_62, ⟨Lc_62, hQ_62, l_62, y_62, z_62⟩, st_62⟩ := X_50.virtualBack hx (y := M392) (z := M392) hown_50 (mvT hZ_50 (w84 hw)) (mvT hZ_50 (w85 hw)) (notFace_of_selects (args := #[]) (mvT hZ_50 (w87 hw))) (mvT hZ_50 (w87 hw)) (mvT hZ_50 (w86 hw)) (by decide) (backOf (W := 0) (rm_gname l Z a0 hw [] G1 G3 HG T_50.heap n0 O_61 a_51 a_29 g_56) hZ_50 (w88 hw) (w32 hw) (by decide) (by decide)) q_65 q_67 (g := (mkF m 132 #[.val (.int p0), .val (.int p1), .val (.int p2), .val (.int p3), .val (.int (own_cb p0)), .val (.int (own_cb p1)), .val (.int (own_cb p2)), .val (.int (0 : Int32)), .val (.ref a_15), .val (.ref a_29), .val (.ref a_51), .unset] [(.ref a_51)])) rfl (by rw [hml]; rfl) (Steps.refl _) (argsL := []) (rest := []) (lenOf pd_409 rfl) rfl (by show 2 * 0 + _ ≤ _; exact Nat.le_of_eq rfl) (hb hby at_132) (fun _ _ => ⟨rfl, rfl, (by decide : 11 + 0 ≤ _), (by decide : 40 + 0 ≤ _)⟩)
    dsimp only [Pt.U, Pt.locs, Pt.cells, Pt.slots] at X_62 l_62 y_62 z_62 st_62 hQ_62
    subst l_62 y_62 z_62
    obtain ⟨rfl, N_68, e_69⟩ := hQ_62
    have N_70 := Fr.app N_58 N_68
    have e_71 : T_62.heap = T_50.heap := e_69
    have E_72 : Exa Z T_50.heap a_29 "java/lang/String" := (g_42.keep K_53)
    have F_73 : Fld Z T_50.heap a_29 "java/lang/String" "coder" "B" (.int (0 : Int32)) := (g_43.keep K_53 nin0)
    have F_74 : Fld Z T_50.heap a_29 "java/lang/String" "value" "[B" (.ref a_38) := (g_44.keep K_53 nin0)
    have V_75 : Arv Z T_50.heap a_38 k_39 .byte (0 : Int32) [] (.int (0 : Int32)) := (g_45.keep K_53 nin0)
    obtain ⟨q_77, q_78, q_79, q_80, q_81⟩ := isOf (T := T_62) hZ_50 e_71 E_72
    obtain ⟨_, _, ⟨T_76, L_76, k_76, n_76⟩, -, X_76, ⟨Lc_76, hQ_76, l_76, y_76, z_76⟩, st_76⟩ := X_62.virtualBack hx (y := M141) (z := M141) hown_50 (mvT hZ_50 (w89 hw)) (mvT hZ_50 (w90 hw)) (notFace_of_selects (args := #[]) (mvT hZ_50 (w92 hw))) (mvT hZ_50 (w92 hw)) (mvT hZ_50 (w91 hw)) (by decide) (backOf (W := 0) (rm_lenany l Z a0 hw [] G1 G3 HG T_50.heap n0 O_61 a_29 a_38 k_39 (0 : Int32) [] E_72 F_73 F_74 V_75) hZ_50 (w93 hw) (w3 hw) (by decide) (by decide)) q_79 q_81 (g := (mkF m 144 #[.val (.int p0), .val (.int p1), .val (.int p2), .val (.int p3), .val (.int (own_cb p0)), .val (.int (own_cb p1)), .val (.int (own_cb p2)), .val (.int (0 : Int32)), .val (.ref a_15), .val (.ref a_29), .val (.ref a_51), .val (.ref a_29)] [(.ref a_29)])) rfl (by rw [hml]; rfl) (Steps.refl _) (argsL := []) (rest := []) (lenOf pd_415 rfl) rfl (by show 2 * 0 + _ ≤ _; exact Nat.le_of_eq rfl) (hb hby at_144) (fun _ _ => ⟨rfl, e_71, (by decide : 11 + 0 ≤ _), (by decide : 40 + 0 ≤ _)⟩)
    dsimp only [Pt.U, Pt.locs, Pt.cells, Pt.slots] at X_76 l_76 y_76 z_76 st_76 hQ_76
    subst l_76 y_76 z_76
    obtain ⟨rfl, N_82, e_83⟩ := hQ_76
    have N_84 := Fr.app N_70 N_82
    have e_85 : T_76.heap = T_50.heap := e_83
    obtain ⟨q_87, q_88, q_89, q_90, q_91⟩ := isOf (T := T_76) hZ_50 e_85 E_72
    obtain ⟨_, _, ⟨T_86, L_86, k_86, n_86⟩, -, X_86, ⟨Lc_86, hQ_86, l_86, y_86, z_86⟩, st_86⟩ := X_76.virtualBack hx (y := M216) (z := M216) hown_50 (mvT hZ_50 (w121 hw)) (mvT hZ_50 (w122 hw)) (notFace_of_selects (args := #[]) (mvT hZ_50 (w124 hw))) (mvT hZ_50 (w124 hw)) (mvT hZ_50 (w123 hw)) (by decide) (backOf (W := 0) (rm_eqself l Z a0 hw [] G1 G3 HG T_50.heap n0 O_61 a_29 ) hZ_50 (w125 hw) (w3 hw) (by decide) (by decide)) q_89 q_91 (g := (mkF m 215 #[.val (.int p0), .val (.int p1), .val (.int p2), .val (.int p3), .val (.int (own_cb p0)), .val (.int (own_cb p1)), .val (.int (own_cb p2)), .val (.int (0 : Int32)), .val (.ref a_15), .val (.ref a_29), .val (.ref a_51), .val (.ref a_29)] [(.ref a_29), (.ref a_29)])) rfl (by rw [hml]; rfl) (Steps.refl _) (argsL := [(.ref a_29)]) (rest := []) (lenOf pd_421 rfl) rfl (by show 2 * 0 + _ ≤ _; exact Nat.le_of_eq rfl) (hb hby at_215) (fun _ _ => ⟨rfl, e_85, (by decide : 11 + 0 ≤ _), (by decide : 40 + 0 ≤ _)⟩)
    dsimp only [Pt.U, Pt.locs, Pt.cells, Pt.slots] at X_86 l_86 y_86 z_86 st_86 hQ_86
    subst l_86 y_86 z_86
    obtain ⟨rfl, N_92, e_93⟩ := hQ_86
    have N_94 := Fr.app N_84 N_92
    have e_95 : T_86.heap = T_50.heap := e_93
    obtain ⟨q_97, q_98, q_99, q_100, q_101⟩ := isOf (T := T_86) hZ_50 e_95 g_55
    obtain ⟨_, _, ⟨T_96, L_96, k_96, n_96⟩, -, X_96, ⟨Lc_96, hQ_96, l_96, y_96, z_96⟩, st_96⟩ := X_86.virtualBack hx (y := M388) (z := M388) hown_50 (mvT hZ_50 (w126 hw)) (mvT hZ_50 (w127 hw)) (notFace_of_selects (args := #[]) (mvT hZ_50 (w129 hw))) (mvT hZ_50 (w129 hw)) (mvT hZ_50 (w128 hw)) (by decide) (backOf (W := 0) (rm_gf l Z a0 hw [] G1 G3 HG T_50.heap n0 O_61 a_51 g_57) hZ_50 (w130 hw) (w32 hw) (by decide) (by decide)) q_99 q_101 (g := (mkF m 223 #[.val (.int p0), .val (.int p1), .val (.int p2), .val (.int p3), .val (.int (own_cb p0)), .val (.int (own_cb p1)), .val (.int (own_cb p2)), .val (.int (0 : Int32)), .val (.ref a_15), .val (.ref a_29), .val (.ref a_51), .val (.ref a_29)] [(.ref a_51)])) rfl (by rw [hml]; rfl) (Steps.refl _) (argsL := []) (rest := []) (lenOf pd_415 rfl) rfl (by show 2 * 0 + _ ≤ _; exact Nat.le_of_eq rfl) (hb hby at_223) (fun _ _ => ⟨rfl, e_95, (by decide : 11 + 0 ≤ _), (by decide : 40 + 0 ≤ _)⟩)
    dsimp only [Pt.U, Pt.locs, Pt.cells, Pt.slots] at X_96 l_96 y_96 z_96 st_96 hQ_96
    subst l_96 y_96 z_96
    obtain ⟨rfl, N_102, e_103⟩ := hQ_96
    have N_104 := Fr.app N_94 N_102
    have e_105 : T_96.heap = T_50.heap := e_103
    have C_106 : Steps p.tables e below S0 (T_96.setTop (mkF m 235 #[.val (.int p0), .val (.int p1), .val (.int p2), .val (.int p3), .val (.int (own_cb p0)), .val (.int (own_cb p1)), .val (.int (own_cb p2)), .val (.int (0 : Int32)), .val (.ref a_15), .val (.ref a_29), .val (.ref a_51), .val (.ref a_29)] [(.int (1 : Int32))])) := by
      refine C_6.trans ?_
      refine XS.istore X0.here hx rfl (hb hby at_27) rfl (l' := #[.val (.int p0), .val (.int p1), .val (.int p2), .val (.int p3), .val (.int (own_cb p0)), .val (.int (own_cb p1)), .val (.int (own_cb p2)), .val (.int (0 : Int32)), .unset, .unset, .unset, .unset]) rfl ?_
      refine XS.iload X0.here hx rfl (hb hby at_29) rfl ?_
      refine XS.ifNo X0.here hx rfl (hb hby at_31) rfl (by decide) ?_
      refine XS.iconst X0.here hx rfl (hb hby at_34) ?_
      refine st_14 _ ?_
      refine XS.astore X_10.here hx rfl (hb hby at_37) rfl rfl (l' := #[.val (.int p0), .val (.int p1), .val (.int p2), .val (.int p3), .val (.int (own_cb p0)), .val (.int (own_cb p1)), .val (.int (own_cb p2)), .val (.int (0 : Int32)), .val (.ref a_15), .unset, .unset, .unset]) rfl ?_
      refine XS.goto X_10.here hx rfl (pc0 := 39) (pc' := 105) rfl (hb hby at_39) (by decide) (by decide) ?_
      refine st_28 _ ?_
      show Steps p.tables e below (T_21.setTop (mkF m 108 #[.val (.int p0), .val (.int p1), .val (.int p2), .val (.int p3), .val (.int (own_cb p0)), .val (.int (own_cb p1)), .val (.int (own_cb p2)), .val (.int (0 : Int32)), .val (.ref a_15), .unset, .unset, .unset] [(.ref a_29)])) _
      refine XS.dup X_23.here hx rfl (hb hby at_108) rfl rfl ?_
      refine XS.aload X_23.here hx rfl (hb hby at_109) rfl rfl ?_
      refine st_37.trans ?_
      refine XS.astore X_37.here hx rfl (hb hby at_114) rfl rfl (l' := #[.val (.int p0), .val (.int p1), .val (.int p2), .val (.int p3), .val (.int (own_cb p0)), .val (.int (own_cb p1)), .val (.int (own_cb p2)), .val (.int (0 : Int32)), .val (.ref a_15), .val (.ref a_29), .unset, .unset]) rfl ?_
      refine XS.aload X_37.here hx rfl (hb hby at_116) rfl rfl ?_
      refine st_50.trans ?_
      refine XS.astore X_50.here hx rfl (hb hby at_121) rfl rfl (l' := #[.val (.int p0), .val (.int p1), .val (.int p2), .val (.int p3), .val (.int (own_cb p0)), .val (.int (own_cb p1)), .val (.int (own_cb p2)), .val (.int (0 : Int32)), .val (.ref a_15), .val (.ref a_29), .val (.ref a_51), .unset]) rfl ?_
      refine XS.aload X_50.here hx rfl (hb hby at_123) rfl rfl ?_
      show Steps p.tables e below (T_50.setTop (mkF m 125 #[.val (.int p0), .val (.int p1), .val (.int p2), .val (.int p3), .val (.int (own_cb p0)), .val (.int (own_cb p1)), .val (.int (own_cb p2)), .val (.int (0 : Int32)), .val (.ref a_15), .val (.ref a_29), .val (.ref a_51), .unset] [(.ref a_51)])) _
      refine XS.ifnonnullYes X_50.here hx rfl (pc0 := 125) (pc' := 130) rfl (hb hby at_125) rfl (by decide) (by decide) ?_
      refine XS.aload X_50.here hx rfl (hb hby at_130) rfl rfl ?_
      refine st_62.trans ?_
      refine XS.astore X_62.here hx rfl (hb hby at_135) rfl rfl (l' := #[.val (.int p0), .val (.int p1), .val (.int p2), .val (.int p3), .val (.int (own_cb p0)), .val (.int (own_cb p1)), .val (.int (own_cb p2)), .val (.int (0 : Int32)), .val (.ref a_15), .val (.ref a_29), .val (.ref a_51), .val (.ref a_29)]) rfl ?_
      refine XS.aload X_62.here hx rfl (hb hby at_137) rfl rfl ?_
      refine XS.ifnullNo X_62.here hx rfl (hb hby at_139) rfl ?_
      refine XS.aload X_62.here hx rfl (hb hby at_142) rfl rfl ?_
      refine st_76.trans ?_
      show Steps p.tables e below (T_76.setTop (mkF m 147 #[.val (.int p0), .val (.int p1), .val (.int p2), .val (.int p3), .val (.int (own_cb p0)), .val (.int (own_cb p1)), .val (.int (own_cb p2)), .val (.int (0 : Int32)), .val (.ref a_15), .val (.ref a_29), .val (.ref a_51), .val (.ref a_29)] [(.int (0 : Int32))])) _
      refine XS.iload X_76.here hx rfl (hb hby at_147) rfl ?_
      refine XS.icmpYes X_76.here hx rfl (pc0 := 149) (pc' := 154) rfl (hb hby at_149) rfl (by decide) (by decide) (by decide) ?_
      refine XS.iload X_76.here hx rfl (hb hby at_154) rfl ?_
      refine XS.iconst X_76.here hx rfl (hb hby at_156) ?_
      refine XS.icmpYes X_76.here hx rfl (pc0 := 157) (pc' := 173) rfl (hb hby at_157) rfl (by decide) (by decide) (by decide) ?_
      refine XS.iload X_76.here hx rfl (hb hby at_173) rfl ?_
      refine XS.iconst X_76.here hx rfl (hb hby at_175) ?_
      refine XS.icmpYes X_76.here hx rfl (pc0 := 176) (pc' := 192) rfl (hb hby at_176) rfl (by decide) (by decide) (by decide) ?_
      show Steps p.tables e below (T_76.setTop (mkF m 192 #[.val (.int p0), .val (.int p1), .val (.int p2), .val (.int p3), .val (.int (own_cb p0)), .val (.int (own_cb p1)), .val (.int (own_cb p2)), .val (.int (0 : Int32)), .val (.ref a_15), .val (.ref a_29), .val (.ref a_51), .val (.ref a_29)] [])) _
      refine XS.iload X_76.here hx rfl (hb hby at_192) rfl ?_
      refine XS.iconst X_76.here hx rfl (hb hby at_194) ?_
      refine XS.icmpYes X_76.here hx rfl (pc0 := 195) (pc' := 211) rfl (hb hby at_195) rfl (by decide) (by decide) (by decide) ?_
      refine XS.aload X_76.here hx rfl (hb hby at_211) rfl rfl ?_
      refine XS.aload X_76.here hx rfl (hb hby at_213) rfl rfl ?_
      refine st_86.trans ?_
      refine XS.ifNo X_86.here hx rfl (hb hby at_218) rfl (by decide) ?_
      refine XS.aload X_86.here hx rfl (hb hby at_221) rfl rfl ?_
      show Steps p.tables e below (T_86.setTop (mkF m 223 #[.val (.int p0), .val (.int p1), .val (.int p2), .val (.int p3), .val (.int (own_cb p0)), .val (.int (own_cb p1)), .val (.int (own_cb p2)), .val (.int (0 : Int32)), .val (.ref a_15), .val (.ref a_29), .val (.ref a_51), .val (.ref a_29)] [(.ref a_51)])) _
      refine st_96.trans ?_
      refine XS.iconst X_96.here hx rfl (hb hby at_226) ?_
      refine XS.icmpNo X_96.here hx rfl (hb hby at_227) rfl (by decide) ?_
      refine XS.iconst X_96.here hx rfl (hb hby at_230) ?_
      refine XS.goto X_96.here hx rfl (pc0 := 231) (pc' := 235) rfl (hb hby at_231) (by decide) (by decide) ?_
      exact Steps.refl _
    have K_107 : Keep h0 T_50.heap [] := (((((Keep.refl _ _).ext E_12).ext E_25).trans K_41 (allS (Or.inr (Nat.le_trans E_12.1 (Nat.le_of_eq g_30.symm))) all0)).trans K_53 all0)
    obtain ⟨fs, hr, hrun, hended, hRE⟩ := X_96.leaveW hS_50 (by rw [show T_96.heap = T_50.heap from e_105]; exact (Nat.le_refl _)) (v := some (.int (1 : Int32))) (fun h => by rw [Bd.returns] at h; cases h)
    refine ⟨_, _, C_106.trans (retN X_96 hx (t := .boolean) Bd.returns (by simp) (hb hby at_235) hr), hrun, hended, _, _, rfl, ?_, ?_, hRE.1, hRE.2.1, hRE.2.2.1, hRE.2.2.2.mono (by decide) (by decide)⟩
    · show Q_law Z G1 G3 p0 p1 p2 p3 h0 n0 (some (.int (1 : Int32))) T_96.heap _
      rw [e_105]
      exact ⟨rfl, N_104, K_107⟩
    · show CHr Z consts_1 s.vm s.heap T_96.vm T_96.heap
      rw [hh, show T_96.heap = T_50.heap from e_105]
      exact CR_60.trans (CHv.at X_96 hZ_50 hEL CH_59)
  · skip
    have C_108 : Steps p.tables e below S0 (s₁.setTop (mkF m 27 #[.val (.int p0), .val (.int p1), .val (.int p2), .val (.int p3), .val (.int (own_cb p0)), .val (.int (own_cb p1)), .val (.int (own_cb p2)), .unset, .unset, .unset, .unset, .unset] [(.int (1 : Int32))])) := by have q := C_1; rw [hn_3] at q; exact q
    obtain ⟨T_109, h_110, k_111, X_112, e_113, E_114, A_115, st_116⟩ := newP (aty := .char) X0 hx hZ (w0 hw) e0 (g := (mkF m 49 #[.val (.int p0), .val (.int p1), .val (.int p2), .val (.int p3), .val (.int (own_cb p0)), .val (.int (own_cb p1)), .val (.int (own_cb p2)), .val (.int (1 : Int32)), .unset, .unset, .unset, .unset] [(.int (1 : Int32))])) rfl (hb hby at_49) rfl (by decide : ¬ ((1 : Int32) < (0 : Int32))) (cap := 1) (by decide : (1 : Int32).toNatClampNeg ≤ 1) (by decide) (by decide) (by decide)
    obtain ⟨a_117, g_118⟩ : ∃ z, z = h0.size := ⟨_, rfl⟩
    rw [← g_118] at A_115 st_116
    have CH_120 : CHv Z consts_1 s.vm h_110 := CHv.ext E_114 CH0
    have CR_121 : CHr Z consts_1 s.vm h0 s.vm h_110 := CR0.trans (CHr.ext E_114 CH0)
    have V_122 : Arv Z h_110 a_117 k_111 .char (1 : Int32) [] (.int (0 : Int32)) := Arv.new A_115 (by decide : ¬ ((1 : Int32) < (0 : Int32)))
    have V_119 : Arv Z h_110 a_117 k_111 .char (1 : Int32) [(.int (0 : Int32))] (.int (0 : Int32)) := (V_122.pad (pad_rep [] (.int (0 : Int32)) 1))
    obtain ⟨c_123, A_124, q_125, S_126, M_127, H_128, U_129⟩ := id V_119
    have hin_136 : ¬ ((0 : Int32) < 0 ∨ c_123.slots.size ≤ (0 : Int32).toNatClampNeg) := inb_of S_126 ⟨(by decide : ¬ ((0 : Int32) < (0 : Int32))), (by decide : (0 : Int32) < (1 : Int32))⟩
    obtain ⟨T_130, h_131, X_132, e_133, W_134, st_135⟩ := stC X_112 hx hZ e_113 A_124 (j := (0 : Int32)) hin_136 (g := (mkF m 55 #[.val (.int p0), .val (.int p1), .val (.int p2), .val (.int p3), .val (.int (own_cb p0)), .val (.int (own_cb p1)), .val (.int (own_cb p2)), .val (.int (1 : Int32)), .unset, .unset, .unset, .unset] [(.int (own_cb p0)), (.int (0 : Int32)), (.ref a_117), (.ref a_117)])) rfl rfl (hb hby at_55)
    have N_137 := Fr.snoc X_132 N0 (Nat.le_trans (own_n0 X00) (Nat.le_of_eq g_118.symm))
    have CH_138 : CHv Z consts_1 s.vm h_131 := CHv.wr W_134 (Safe.arv hZ.alike V_119 (by decide)) CH_120
    have CR_139 : CHr Z consts_1 s.vm h0 s.vm h_131 := CR_121.trans (CHr.wr W_134 (Safe.arv hZ.alike V_119 (by decide)) CH_120)
    have V_140 : Arv Z h_131 a_117 k_111 .char (1 : Int32) [(.int (own_cb p0))] (.int (0 : Int32)) := by have q := Arv.set A_124 q_125 S_126 M_127 H_128 U_129 (fits_nar_char _) W_134 0 rfl (Nat.le_of_ble_eq_true rfl); rw [own_cb_nar] at q; exact q
    obtain ⟨T_141, h_142, X_143, e_144, E_145, A_146, D_147, U_151, st_148⟩ := newO X_132 hx hZ hown (w1 hw) (w2 hw) (w3 hw) e_133 (g := (mkF m 105 #[.val (.int p0), .val (.int p1), .val (.int p2), .val (.int p3), .val (.int (own_cb p0)), .val (.int (own_cb p1)), .val (.int (own_cb p2)), .val (.int (1 : Int32)), .val (.ref a_117), .unset, .unset, .unset] [])) rfl (hb hby at_105) (by decide) (by decide)
    obtain ⟨a_149, g_150⟩ : ∃ z, z = h_131.size := ⟨_, rfl⟩
    rw [← g_150] at A_146 D_147 st_148 U_151
    have CH_152 : CHv Z consts_1 s.vm h_142 := CHv.ext E_145 CH_138
    have CR_153 : CHr Z consts_1 s.vm h0 s.vm h_142 := CR_139.trans (CHr.ext E_145 CH_138)
    have O_154 : Old Z n0 h_131 := ((X00.ext E_114).wr W_134 (Nat.le_trans (own_n0 X00) (Nat.le_of_eq g_118.symm)))
    have V_155 : Arv Z h_142 a_117 k_111 .char (1 : Int32) [(.int (own_cb p0))] (.int (0 : Int32)) := (V_140.ext E_145)
    have O_156 : Old Z n0 h_142 := (O_154.ext E_145)
    obtain ⟨_, _, ⟨T_157, L_157, k_157, n_157⟩, -, X_157, ⟨Lc_157, hQ_157, l_157, y_157, z_157⟩, st_157⟩ := X_143.specialBack hx (y := M25) rfl hown (mvT hZ (w4 hw)) (mvT hZ (w5 hw)) (mvT hZ (w6 hw)) (by decide) (backOf (W := 1) (rm_si1_1 l Z a0 hw [] G1 G3 HG h_142 n0 O_156 a_149 a_117 k_111 (own_cb p0) A_146 (D_147 (Or.inr (w29 hw)) (ty := (.array .byte)) (by decide)) (D_147 (Or.inr (w27 hw)) (ty := .byte) (by decide)) (Nat.le_trans (own_n0 O_154) (Nat.le_of_eq g_150.symm)) V_155 (own_cb_hi p0)) hZ (w6 hw) (w3 hw) (by decide) (by decide)) (g := (mkF m 111 #[.val (.int p0), .val (.int p1), .val (.int p2), .val (.int p3), .val (.int (own_cb p0)), .val (.int (own_cb p1)), .val (.int (own_cb p2)), .val (.int (1 : Int32)), .val (.ref a_117), .unset, .unset, .unset] [(.ref a_117), (.ref a_149), (.ref a_149)])) rfl (by rw [hml]; rfl) (Steps.refl _) (a := a_149) (argsL := [(.ref a_117)]) (rest := [(.ref a_149)]) (lenOf pd_401 rfl) rfl (by show 2 * 0 + _ ≤ _; exact Nat.le_of_eq rfl) (hb hby at_111) (fun _ _ => ⟨rfl, e_144, (by decide : 2 + 1 ≤ _), (by decide : 5 + 1 ≤ _)⟩)
    dsimp only [Pt.U, Pt.locs, Pt.cells, Pt.slots] at X_157 l_157 y_157 z_157 st_157 hQ_157
    subst l_157 y_157 z_157
    obtain ⟨a_158, k_159, rfl, N_160, K_161, g_162, g_163, g_164, g_165, g_166⟩ := hQ_157
    have N_167 := Fr.app N_137 N_160
    have CH_168 : CHv Z consts_1 s.vm T_157.heap := CHv.keep K_161 (sfS (own_safe_null hZ.alike A_146 (D_147 (Or.inr (w29 hw)) (ty := (.array .byte)) (by decide))) sf0) CH_152
    have CR_169 : CHr Z consts_1 s.vm h0 s.vm T_157.heap := CR_153.trans (CHr.keep K_161 (sfS (own_safe_null hZ.alike A_146 (D_147 (Or.inr (w29 hw)) (ty := (.array .byte)) (by decide))) sf0) CH_152)
    have O_170 : Old Z n0 T_157.heap := (O_156.keep K_161 (allS (Nat.le_trans (own_n0 O_154) (Nat.le_of_eq g_150.symm)) all0))
    obtain ⟨_, _, ⟨T_171, L_171, k_171, n_171⟩, -, Y_171, S_171, G_171, ⟨Lc_171, hQ_171, l_171, y_171, z_171, R_171⟩, st_171⟩ := callSS X_157 hx (y := M356) hown (mvT hZ (w30 hw)) (mvT hZ (w31 hw)) (mvT hZ (w32 hw)) (mvT hZ (w33 hw)) (by decide) (backOfSH (vm0 := s.vm) (W := 0) (rm_of l Z a0 hw [] G1 G3 HG T_157.heap n0 O_170 a_149 ) hZ (w33 hw) (w32 hw) (by decide) (by decide) hEL CH_168) (g := (mkF m 118 #[.val (.int p0), .val (.int p1), .val (.int p2), .val (.int p3), .val (.int (own_cb p0)), .val (.int (own_cb p1)), .val (.int (own_cb p2)), .val (.int (1 : Int32)), .val (.ref a_117), .val (.ref a_149), .unset, .unset] [(.ref a_149)])) rfl (by rw [hml]; rfl) (argsL := [(.ref a_149)]) (rest := []) (lenOf pd_405 rfl) rfl (by show 2 * 0 + _ ≤ _; exact Nat.le_of_eq rfl) (hb hby at_118) (fun _ _ => ⟨rfl, rfl, (by decide : 3 + 5 ≤ _), (by decide : 6 + 28 ≤ _)⟩)
    dsimp only [Pt.U, Pt.locs, Pt.cells, Pt.slots] at Y_171 S_171 G_171 l_171 y_171 z_171 st_171 hQ_171 R_171
    subst l_171 y_171 z_171
    obtain ⟨X_171, hS_171, hZ_171, hown_171⟩ := rebS hS0 (n1 := T_157.heap.size) (by rw [show T_157.heap = T_157.heap from rfl]; exact (Nat.le_trans (Nat.le_refl _) (Nat.le_trans (Nat.le_trans (Nat.le_trans E_114.1 (Keep.of_wr W_134).1) E_145.1) K_161.1))) Y_171 S_171 G_171 hZ hown
    obtain ⟨a_172, rfl, N_173, K_174, g_175, g_176, g_177, g_178⟩ := hQ_171
    have N_179 := Fr.app N_167 N_173
    have CH_180 : CHv Z consts_1 T_171.vm T_171.heap := R_171.1
    have CR_181 : CHr Z consts_1 s.vm h0 T_171.vm T_171.heap := CR_169.trans R_171
    have O_182 : Old Z n0 T_171.heap := (O_170.keep K_174 all0)
    obtain ⟨q_184, q_185, q_186, q_187, q_188⟩ := isOf (T := T_171) hZ_171 rfl g_176
    obtain ⟨_, _, ⟨T_183, L_183, k_183, n_183⟩, -, X_183, ⟨Lc_183, hQ_183, l_183, y_183, z_183⟩, st_183⟩ := X_171.virtualBack hx (y := M392) (z := M392) hown_171 (mvT hZ_171 (w84 hw)) (mvT hZ_171 (w85 hw)) (notFace_of_selects (args := #[]) (mvT hZ_171 (w87 hw))) (mvT hZ_171 (w87 hw)) (mvT hZ_171 (w86 hw)) (by decide) (backOf (W := 0) (rm_gname l Z a0 hw [] G1 G3 HG T_171.heap n0 O_182 a_172 a_149 g_177) hZ_171 (w88 hw) (w32 hw) (by decide) (by decide)) q_186 q_188 (g := (mkF m 132 #[.val (.int p0), .val (.int p1), .val (.int p2), .val (.int p3), .val (.int (own_cb p0)), .val (.int (own_cb p1)), .val (.int (own_cb p2)), .val (.int (1 : Int32)), .val (.ref a_117), .val (.ref a_149), .val (.ref a_172), .unset] [(.ref a_172)])) rfl (by rw [hml]; rfl) (Steps.refl _) (argsL := []) (rest := []) (lenOf pd_409 rfl) rfl (by show 2 * 0 + _ ≤ _; exact Nat.le_of_eq rfl) (hb hby at_132) (fun _ _ => ⟨rfl, rfl, (by decide : 8 + 0 ≤ _), (by decide : 34 + 0 ≤ _)⟩)
    dsimp only [Pt.U, Pt.locs, Pt.cells, Pt.slots] at X_183 l_183 y_183 z_183 st_183 hQ_183
    subst l_183 y_183 z_183
    obtain ⟨rfl, N_189, e_190⟩ := hQ_183
    have N_191 := Fr.app N_179 N_189
    have e_192 : T_183.heap = T_171.heap := e_190
    have E_193 : Exa Z T_171.heap a_149 "java/lang/String" := (g_162.keep K_174)
    have F_194 : Fld Z T_171.heap a_149 "java/lang/String" "coder" "B" (.int (0 : Int32)) := (g_163.keep K_174 nin0)
    have F_195 : Fld Z T_171.heap a_149 "java/lang/String" "value" "[B" (.ref a_158) := (g_164.keep K_174 nin0)
    have V_196 : Arv Z T_171.heap a_158 k_159 .byte (1 : Int32) [(.int (own_lo8 (own_cb p0)))] (.int (0 : Int32)) := (g_166.keep K_174 nin0)
    obtain ⟨q_198, q_199, q_200, q_201, q_202⟩ := isOf (T := T_183) hZ_171 e_192 E_193
    obtain ⟨_, _, ⟨T_197, L_197, k_197, n_197⟩, -, X_197, ⟨Lc_197, hQ_197, l_197, y_197, z_197⟩, st_197⟩ := X_183.virtualBack hx (y := M141) (z := M141) hown_171 (mvT hZ_171 (w89 hw)) (mvT hZ_171 (w90 hw)) (notFace_of_selects (args := #[]) (mvT hZ_171 (w92 hw))) (mvT hZ_171 (w92 hw)) (mvT hZ_171 (w91 hw)) (by decide) (backOf (W := 0) (rm_lenany l Z a0 hw [] G1 G3 HG T_171.heap n0 O_182 a_149 a_158 k_159 (1 : Int32) [(.int (own_lo8 (own_cb p0)))] E_193 F_194 F_195 V_196) hZ_171 (w93 hw) (w3 hw) (by decide) (by decide)) q_200 q_202 (g := (mkF m 144 #[.val (.int p0), .val (.int p1), .val (.int p2), .val (.int p3), .val (.int (own_cb p0)), .val (.int (own_cb p1)), .val (.int (own_cb p2)), .val (.int (1 : Int32)), .val (.ref a_117), .val (.ref a_149), .val (.ref a_172), .val (.ref a_149)] [(.ref a_149)])) rfl (by rw [hml]; rfl) (Steps.refl _) (argsL := []) (rest := []) (lenOf pd_415 rfl) rfl (by show 2 * 0 + _ ≤ _; exact Nat.le_of_eq rfl) (hb hby at_144) (fun _ _ => ⟨rfl, e_192, (by decide : 8 + 0 ≤ _), (by decide : 34 + 0 ≤ _)⟩)
    dsimp only [Pt.U, Pt.locs, Pt.cells, Pt.slots] at X_197 l_197 y_197 z_197 st_197 hQ_197
    subst l_197 y_197 z_197
    obtain ⟨rfl, N_203, e_204⟩ := hQ_197
    have N_205 := Fr.app N_191 N_203
    have e_206 : T_197.heap = T_171.heap := e_204
    obtain ⟨q_208, q_209, q_210, q_211, q_212⟩ := isOf (T := T_197) hZ_171 e_206 E_193
    obtain ⟨_, _, ⟨T_207, L_207, k_207, n_207⟩, -, X_207, ⟨Lc_207, hQ_207, l_207, y_207, z_207⟩, st_207⟩ := X_197.virtualBack hx (y := M196) (z := M196) hown_171 (mvT hZ_171 (w99 hw)) (mvT hZ_171 (w100 hw)) (notFace_of_selects (args := #[]) (mvT hZ_171 (w102 hw))) (mvT hZ_171 (w102 hw)) (mvT hZ_171 (w101 hw)) (by decide) (backOf (W := 0) (rm_ch_1_0 l Z a0 hw [] G1 G3 HG T_171.heap n0 O_182 a_149 a_158 k_159 (own_lo8 (own_cb p0)) E_193 F_194 F_195 V_196) hZ_171 (w103 hw) (w3 hw) (by decide) (by decide)) q_210 q_212 (g := (mkF m 163 #[.val (.int p0), .val (.int p1), .val (.int p2), .val (.int p3), .val (.int (own_cb p0)), .val (.int (own_cb p1)), .val (.int (own_cb p2)), .val (.int (1 : Int32)), .val (.ref a_117), .val (.ref a_149), .val (.ref a_172), .val (.ref a_149)] [(.int (0 : Int32)), (.ref a_149)])) rfl (by rw [hml]; rfl) (Steps.refl _) (argsL := [(.int (0 : Int32))]) (rest := []) (lenOf pd_432 rfl) rfl (by show 2 * 0 + _ ≤ _; exact Nat.le_of_eq rfl) (hb hby at_163) (fun _ _ => ⟨rfl, e_206, (by decide : 8 + 0 ≤ _), (by decide : 34 + 0 ≤ _)⟩)
    dsimp only [Pt.U, Pt.locs, Pt.cells, Pt.slots] at X_207 l_207 y_207 z_207 st_207 hQ_207
    subst l_207 y_207 z_207
    obtain ⟨rfl, N_213, e_214⟩ := hQ_207
    have N_215 := Fr.app N_205 N_213
    have e_216 : T_207.heap = T_171.heap := e_214
    obtain ⟨q_218, q_219, q_220, q_221, q_222⟩ := isOf (T := T_207) hZ_171 e_216 E_193
    obtain ⟨_, _, ⟨T_217, L_217, k_217, n_217⟩, -, X_217, ⟨Lc_217, hQ_217, l_217, y_217, z_217⟩, st_217⟩ := X_207.virtualBack hx (y := M216) (z := M216) hown_171 (mvT hZ_171 (w121 hw)) (mvT hZ_171 (w122 hw)) (notFace_of_selects (args := #[]) (mvT hZ_171 (w124 hw))) (mvT hZ_171 (w124 hw)) (mvT hZ_171 (w123 hw)) (by decide) (backOf (W := 0) (rm_eqself l Z a0 hw [] G1 G3 HG T_171.heap n0 O_182 a_149 ) hZ_171 (w125 hw) (w3 hw) (by decide) (by decide)) q_220 q_222 (g := (mkF m 215 #[.val (.int p0), .val (.int p1), .val (.int p2), .val (.int p3), .val (.int (own_cb p0)), .val (.int (own_cb p1)), .val (.int (own_cb p2)), .val (.int (1 : Int32)), .val (.ref a_117), .val (.ref a_149), .val (.ref a_172), .val (.ref a_149)] [(.ref a_149), (.ref a_149)])) rfl (by rw [hml]; rfl) (Steps.refl _) (argsL := [(.ref a_149)]) (rest := []) (lenOf pd_421 rfl) rfl (by show 2 * 0 + _ ≤ _; exact Nat.le_of_eq rfl) (hb hby at_215) (fun _ _ => ⟨rfl, e_216, (by decide : 8 + 0 ≤ _), (by decide : 34 + 0 ≤ _)⟩)
    dsimp only [Pt.U, Pt.locs, Pt.cells, Pt.slots] at X_217 l_217 y_217 z_217 st_217 hQ_217
    subst l_217 y_217 z_217
    obtain ⟨rfl, N_223, e_224⟩ := hQ_217
    have N_225 := Fr.app N_215 N_223
    have e_226 : T_217.heap = T_171.heap := e_224
    obtain ⟨q_228, q_229, q_230, q_231, q_232⟩ := isOf (T := T_217) hZ_171 e_226 g_176
    obtain ⟨_, _, ⟨T_227, L_227, k_227, n_227⟩, -, X_227, ⟨Lc_227, hQ_227, l_227, y_227, z_227⟩, st_227⟩ := X_217.virtualBack hx (y := M388) (z := M388) hown_171 (mvT hZ_171 (w126 hw)) (mvT hZ_171 (w127 hw)) (notFace_of_selects (args := #[]) (mvT hZ_171 (w129 hw))) (mvT hZ_171 (w129 hw)) (mvT hZ_171 (w128 hw)) (by decide) (backOf (W := 0) (rm_gf l Z a0 hw [] G1 G3 HG T_171.heap n0 O_182 a_172 g_178) hZ_171 (w130 hw) (w32 hw) (by decide) (by decide)) q_230 q_232 (g := (mkF m 223 #[.val (.int p0), .val (.int p1), .val (.int p2), .val (.int p3), .val (.int (own_cb p0)), .val (.int (own_cb p1)), .val (.int (own_cb p2)), .val (.int (1 : Int32)), .val (.ref a_117), .val (.ref a_149), .val (.ref a_172), .val (.ref a_149)] [(.ref a_172)])) rfl (by rw [hml]; rfl) (Steps.refl _) (argsL := []) (rest := []) (lenOf pd_415 rfl) rfl (by show 2 * 0 + _ ≤ _; exact Nat.le_of_eq rfl) (hb hby at_223) (fun _ _ => ⟨rfl, e_226, (by decide : 8 + 0 ≤ _), (by decide : 34 + 0 ≤ _)⟩)
    dsimp only [Pt.U, Pt.locs, Pt.cells, Pt.slots] at X_227 l_227 y_227 z_227 st_227 hQ_227
    subst l_227 y_227 z_227
    obtain ⟨rfl, N_233, e_234⟩ := hQ_227
    have N_235 := Fr.app N_225 N_233
    have e_236 : T_227.heap = T_171.heap := e_234
    have C_237 : Steps p.tables e below S0 (T_227.setTop (mkF m 235 #[.val (.int p0), .val (.int p1), .val (.int p2), .val (.int p3), .val (.int (own_cb p0)), .val (.int (own_cb p1)), .val (.int (own_cb p2)), .val (.int (1 : Int32)), .val (.ref a_117), .val (.ref a_149), .val (.ref a_172), .val (.ref a_149)] [(.int (1 : Int32))])) := by
      refine C_108.trans ?_
      refine XS.istore X0.here hx rfl (hb hby at_27) rfl (l' := #[.val (.int p0), .val (.int p1), .val (.int p2), .val (.int p3), .val (.int (own_cb p0)), .val (.int (own_cb p1)), .val (.int (own_cb p2)), .val (.int (1 : Int32)), .unset, .unset, .unset, .unset]) rfl ?_
      refine XS.iload X0.here hx rfl (hb hby at_29) rfl ?_
      refine XS.ifYes X0.here hx rfl (pc0 := 31) (pc' := 42) rfl (hb hby at_31) rfl (by decide) (by decide) (by decide) ?_
      refine XS.iload X0.here hx rfl (hb hby at_42) rfl ?_
      refine XS.iconst X0.here hx rfl (hb hby at_44) ?_
      refine XS.icmpNo X0.here hx rfl (hb hby at_45) rfl (by decide) ?_
      refine XS.iconst X0.here hx rfl (hb hby at_48) ?_
      refine st_116 _ ?_
      show Steps p.tables e below (T_109.setTop (mkF m 51 #[.val (.int p0), .val (.int p1), .val (.int p2), .val (.int p3), .val (.int (own_cb p0)), .val (.int (own_cb p1)), .val (.int (own_cb p2)), .val (.int (1 : Int32)), .unset, .unset, .unset, .unset] [(.ref a_117)])) _
      refine XS.dup X_112.here hx rfl (hb hby at_51) rfl rfl ?_
      refine XS.iconst X_112.here hx rfl (hb hby at_52) ?_
      refine XS.iload X_112.here hx rfl (hb hby at_53) rfl ?_
      refine st_135 _ ?_
      refine XS.astore X_132.here hx rfl (hb hby at_56) rfl rfl (l' := #[.val (.int p0), .val (.int p1), .val (.int p2), .val (.int p3), .val (.int (own_cb p0)), .val (.int (own_cb p1)), .val (.int (own_cb p2)), .val (.int (1 : Int32)), .val (.ref a_117), .unset, .unset, .unset]) rfl ?_
      refine XS.goto X_132.here hx rfl (pc0 := 58) (pc' := 105) rfl (hb hby at_58) (by decide) (by decide) ?_
      refine st_148 _ ?_
      refine XS.dup X_143.here hx rfl (hb hby at_108) rfl rfl ?_
      show Steps p.tables e below (T_141.setTop (mkF m 109 #[.val (.int p0), .val (.int p1), .val (.int p2), .val (.int p3), .val (.int (own_cb p0)), .val (.int (own_cb p1)), .val (.int (own_cb p2)), .val (.int (1 : Int32)), .val (.ref a_117), .unset, .unset, .unset] [(.ref a_149), (.ref a_149)])) _
      refine XS.aload X_143.here hx rfl (hb hby at_109) rfl rfl ?_
      refine st_157.trans ?_
      refine XS.astore X_157.here hx rfl (hb hby at_114) rfl rfl (l' := #[.val (.int p0), .val (.int p1), .val (.int p2), .val (.int p3), .val (.int (own_cb p0)), .val (.int (own_cb p1)), .val (.int (own_cb p2)), .val (.int (1 : Int32)), .val (.ref a_117), .val (.ref a_149), .unset, .unset]) rfl ?_
      refine XS.aload X_157.here hx rfl (hb hby at_116) rfl rfl ?_
      refine st_171.trans ?_
      refine XS.astore X_171.here hx rfl (hb hby at_121) rfl rfl (l' := #[.val (.int p0), .val (.int p1), .val (.int p2), .val (.int p3), .val (.int (own_cb p0)), .val (.int (own_cb p1)), .val (.int (own_cb p2)), .val (.int (1 : Int32)), .val (.ref a_117), .val (.ref a_149), .val (.ref a_172), .unset]) rfl ?_
      refine XS.aload X_171.here hx rfl (hb hby at_123) rfl rfl ?_
      refine XS.ifnonnullYes X_171.here hx rfl (pc0 := 125) (pc' := 130) rfl (hb hby at_125) rfl (by decide) (by decide) ?_
      show Steps p.tables e below (T_171.setTop (mkF m 130 #[.val (.int p0), .val (.int p1), .val (.int p2), .val (.int p3), .val (.int (own_cb p0)), .val (.int (own_cb p1)), .val (.int (own_cb p2)), .val (.int (1 : Int32)), .val (.ref a_117), .val (.ref a_149), .val (.ref a_172), .unset] [])) _
      refine XS.aload X_171.here hx rfl (hb hby at_130) rfl rfl ?_
      refine st_183.trans ?_
      refine XS.astore X_183.here hx rfl (hb hby at_135) rfl rfl (l' := #[.val (.int p0), .val (.int p1), .val (.int p2), .val (.int p3), .val (.int (own_cb p0)), .val (.int (own_cb p1)), .val (.int (own_cb p2)), .val (.int (1 : Int32)), .val (.ref a_117), .val (.ref a_149), .val (.ref a_172), .val (.ref a_149)]) rfl ?_
      refine XS.aload X_183.here hx rfl (hb hby at_137) rfl rfl ?_
      refine XS.ifnullNo X_183.here hx rfl (hb hby at_139) rfl ?_
      refine XS.aload X_183.here hx rfl (hb hby at_142) rfl rfl ?_
      refine st_197.trans ?_
      refine XS.iload X_197.here hx rfl (hb hby at_147) rfl ?_
      show Steps p.tables e below (T_197.setTop (mkF m 149 #[.val (.int p0), .val (.int p1), .val (.int p2), .val (.int p3), .val (.int (own_cb p0)), .val (.int (own_cb p1)), .val (.int (own_cb p2)), .val (.int (1 : Int32)), .val (.ref a_117), .val (.ref a_149), .val (.ref a_172), .val (.ref a_149)] [(.int (1 : Int32)), (.int (1 : Int32))])) _
      refine XS.icmpYes X_197.here hx rfl (pc0 := 149) (pc' := 154) rfl (hb hby at_149) rfl (by decide) (by decide) (by decide) ?_
      refine XS.iload X_197.here hx rfl (hb hby at_154) rfl ?_
      refine XS.iconst X_197.here hx rfl (hb hby at_156) ?_
      refine XS.icmpNo X_197.here hx rfl (hb hby at_157) rfl (by decide) ?_
      refine XS.aload X_197.here hx rfl (hb hby at_160) rfl rfl ?_
      refine XS.iconst X_197.here hx rfl (hb hby at_162) ?_
      refine st_207.trans ?_
      refine XS.iload X_207.here hx rfl (hb hby at_166) rfl ?_
      show Steps p.tables e below (T_207.setTop (mkF m 168 #[.val (.int p0), .val (.int p1), .val (.int p2), .val (.int p3), .val (.int (own_cb p0)), .val (.int (own_cb p1)), .val (.int (own_cb p2)), .val (.int (1 : Int32)), .val (.ref a_117), .val (.ref a_149), .val (.ref a_172), .val (.ref a_149)] [(.int (own_cb p0)), (.int (own_at (own_lo8 (own_cb p0))))])) _
      refine XS.icmpYes X_207.here hx rfl (pc0 := 168) (pc' := 173) rfl (hb hby at_168) rfl (ii_eq_t (own_at_says (own_cb_lo p0) (own_cb_hi p0))) (by decide) (by decide) ?_
      refine XS.iload X_207.here hx rfl (hb hby at_173) rfl ?_
      refine XS.iconst X_207.here hx rfl (hb hby at_175) ?_
      refine XS.icmpYes X_207.here hx rfl (pc0 := 176) (pc' := 192) rfl (hb hby at_176) rfl (by decide) (by decide) (by decide) ?_
      refine XS.iload X_207.here hx rfl (hb hby at_192) rfl ?_
      refine XS.iconst X_207.here hx rfl (hb hby at_194) ?_
      refine XS.icmpYes X_207.here hx rfl (pc0 := 195) (pc' := 211) rfl (hb hby at_195) rfl (by decide) (by decide) (by decide) ?_
      refine XS.aload X_207.here hx rfl (hb hby at_211) rfl rfl ?_
      show Steps p.tables e below (T_207.setTop (mkF m 213 #[.val (.int p0), .val (.int p1), .val (.int p2), .val (.int p3), .val (.int (own_cb p0)), .val (.int (own_cb p1)), .val (.int (own_cb p2)), .val (.int (1 : Int32)), .val (.ref a_117), .val (.ref a_149), .val (.ref a_172), .val (.ref a_149)] [(.ref a_149)])) _
      refine XS.aload X_207.here hx rfl (hb hby at_213) rfl rfl ?_
      refine st_217.trans ?_
      refine XS.ifNo X_217.here hx rfl (hb hby at_218) rfl (by decide) ?_
      refine XS.aload X_217.here hx rfl (hb hby at_221) rfl rfl ?_
      refine st_227.trans ?_
      refine XS.iconst X_227.here hx rfl (hb hby at_226) ?_
      refine XS.icmpNo X_227.here hx rfl (hb hby at_227) rfl (by decide) ?_
      refine XS.iconst X_227.here hx rfl (hb hby at_230) ?_
      show Steps p.tables e below (T_227.setTop (mkF m 231 #[.val (.int p0), .val (.int p1), .val (.int p2), .val (.int p3), .val (.int (own_cb p0)), .val (.int (own_cb p1)), .val (.int (own_cb p2)), .val (.int (1 : Int32)), .val (.ref a_117), .val (.ref a_149), .val (.ref a_172), .val (.ref a_149)] [(.int (1 : Int32))])) _
      refine XS.goto X_227.here hx rfl (pc0 := 231) (pc' := 235) rfl (hb hby at_231) (by decide) (by decide) ?_
      exact Steps.refl _
    have K_238 : Keep h0 T_171.heap [] := ((((((Keep.refl _ _).ext E_114).wr W_134 (Or.inr (Nat.le_trans (Nat.le_refl _) (Nat.le_of_eq g_118.symm)))).ext E_145).trans K_161 (allS (Or.inr (Nat.le_trans (Nat.le_trans E_114.1 (Keep.of_wr W_134).1) (Nat.le_of_eq g_150.symm))) all0)).trans K_174 all0)
    obtain ⟨fs, hr, hrun, hended, hRE⟩ := X_227.leaveW hS_171 (by rw [show T_227.heap = T_171.heap from e_236]; exact (Nat.le_refl _)) (v := some (.int (1 : Int32))) (fun h => by rw [Bd.returns] at h; cases h)
    refine ⟨_, _, C_237.trans (retN X_227 hx (t := .boolean) Bd.returns (by simp) (hb hby at_235) hr), hrun, hended, _, _, rfl, ?_, ?_, hRE.1, hRE.2.1, hRE.2.2.1, hRE.2.2.2.mono (by decide) (by decide)⟩
    · show Q_law Z G1 G3 p0 p1 p2 p3 h0 n0 (some (.int (1 : Int32))) T_227.heap _
      rw [e_236]
      exact ⟨rfl, N_235, K_238⟩
    · show CHr Z consts_1 s.vm s.heap T_227.vm T_227.heap
      rw [hh, show T_227.heap = T_171.heap from e_236]
      exact CR_181.trans (CHv.at X_227 hZ_171 hEL CH_180)
  · skip
    have C_239 : Steps p.tables e below S0 (s₁.setTop (mkF m 27 #[.val (.int p0), .val (.int p1), .val (.int p2), .val (.int p3), .val (.int (own_cb p0)), .val (.int (own_cb p1)), .val (.int (own_cb p2)), .unset, .unset, .unset, .unset, .unset] [(.int (2 : Int32))])) := by have q := C_1; rw [hn_4] at q; exact q
    obtain ⟨T_240, h_241, k_242, X_243, e_244, E_245, A_246, st_247⟩ := newP (aty := .char) X0 hx hZ (w0 hw) e0 (g := (mkF m 68 #[.val (.int p0), .val (.int p1), .val (.int p2), .val (.int p3), .val (.int (own_cb p0)), .val (.int (own_cb p1)), .val (.int (own_cb p2)), .val (.int (2 : Int32)), .unset, .unset, .unset, .unset] [(.int (2 : Int32))])) rfl (hb hby at_68) rfl (by decide : ¬ ((2 : Int32) < (0 : Int32))) (cap := 2) (by decide : (2 : Int32).toNatClampNeg ≤ 2) (by decide) (by decide) (by decide)
    obtain ⟨a_248, g_249⟩ : ∃ z, z = h0.size := ⟨_, rfl⟩
    rw [← g_249] at A_246 st_247
    have CH_251 : CHv Z consts_1 s.vm h_241 := CHv.ext E_245 CH0
    have CR_252 : CHr Z consts_1 s.vm h0 s.vm h_241 := CR0.trans (CHr.ext E_245 CH0)
    have V_253 : Arv Z h_241 a_248 k_242 .char (2 : Int32) [] (.int (0 : Int32)) := Arv.new A_246 (by decide : ¬ ((2 : Int32) < (0 : Int32)))
    have V_250 : Arv Z h_241 a_248 k_242 .char (2 : Int32) [(.int (0 : Int32)), (.int (0 : Int32))] (.int (0 : Int32)) := (V_253.pad (pad_rep [] (.int (0 : Int32)) 2))
    obtain ⟨c_254, A_255, q_256, S_257, M_258, H_259, U_260⟩ := id V_250
    have hin_267 : ¬ ((0 : Int32) < 0 ∨ c_254.slots.size ≤ (0 : Int32).toNatClampNeg) := inb_of S_257 ⟨(by decide : ¬ ((0 : Int32) < (0 : Int32))), (by decide : (0 : Int32) < (2 : Int32))⟩
    obtain ⟨T_261, h_262, X_263, e_264, W_265, st_266⟩ := stC X_243 hx hZ e_244 A_255 (j := (0 : Int32)) hin_267 (g := (mkF m 74 #[.val (.int p0), .val (.int p1), .val (.int p2), .val (.int p3), .val (.int (own_cb p0)), .val (.int (own_cb p1)), .val (.int (own_cb p2)), .val (.int (2 : Int32)), .unset, .unset, .unset, .unset] [(.int (own_cb p0)), (.int (0 : Int32)), (.ref a_248), (.ref a_248)])) rfl rfl (hb hby at_74)
    have N_268 := Fr.snoc X_263 N0 (Nat.le_trans (own_n0 X00) (Nat.le_of_eq g_249.symm))
    have CH_269 : CHv Z consts_1 s.vm h_262 := CHv.wr W_265 (Safe.arv hZ.alike V_250 (by decide)) CH_251
    have CR_270 : CHr Z consts_1 s.vm h0 s.vm h_262 := CR_252.trans (CHr.wr W_265 (Safe.arv hZ.alike V_250 (by decide)) CH_251)
    have V_271 : Arv Z h_262 a_248 k_242 .char (2 : Int32) [(.int (own_cb p0)), (.int (0 : Int32))] (.int (0 : Int32)) := by have q := Arv.set A_255 q_256 S_257 M_258 H_259 U_260 (fits_nar_char _) W_265 0 rfl (Nat.le_of_ble_eq_true rfl); rw [own_cb_nar] at q; exact q
    obtain ⟨c_272, A_273, q_274, S_275, M_276, H_277, U_278⟩ := id V_271
    have hin_285 : ¬ ((1 : Int32) < 0 ∨ c_272.slots.size ≤ (1 : Int32).toNatClampNeg) := inb_of S_275 ⟨(by decide : ¬ ((1 : Int32) < (0 : Int32))), (by decide : (1 : Int32) < (2 : Int32))⟩
    obtain ⟨T_279, h_280, X_281, e_282, W_283, st_284⟩ := stC X_263 hx hZ e_264 A_273 (j := (1 : Int32)) hin_285 (g := (mkF m 79 #[.val (.int p0), .val (.int p1), .val (.int p2), .val (.int p3), .val (.int (own_cb p0)), .val (.int (own_cb p1)), .val (.int (own_cb p2)), .val (.int (2 : Int32)), .unset, .unset, .unset, .unset] [(.int (own_cb p1)), (.int (1 : Int32)), (.ref a_248), (.ref a_248)])) rfl rfl (hb hby at_79)
    have N_286 := Fr.snoc X_281 N_268 (Nat.le_trans (own_n0 X00) (Nat.le_of_eq g_249.symm))
    have CH_287 : CHv Z consts_1 s.vm h_280 := CHv.wr W_283 (Safe.arv hZ.alike V_271 (by decide)) CH_269
    have CR_288 : CHr Z consts_1 s.vm h0 s.vm h_280 := CR_270.trans (CHr.wr W_283 (Safe.arv hZ.alike V_271 (by decide)) CH_269)
    have V_289 : Arv Z h_280 a_248 k_242 .char (2 : Int32) [(.int (own_cb p0)), (.int (own_cb p1))] (.int (0 : Int32)) := by have q := Arv.set A_273 q_274 S_275 M_276 H_277 U_278 (fits_nar_char _) W_283 1 rfl (Nat.le_of_ble_eq_true rfl); rw [own_cb_nar] at q; exact q
    obtain ⟨T_290, h_291, X_292, e_293, E_294, A_295, D_296, U_300, st_297⟩ := newO X_281 hx hZ hown (w1 hw) (w2 hw) (w3 hw) e_282 (g := (mkF m 105 #[.val (.int p0), .val (.int p1), .val (.int p2), .val (.int p3), .val (.int (own_cb p0)), .val (.int (own_cb p1)), .val (.int (own_cb p2)), .val (.int (2 : Int32)), .val (.ref a_248), .unset, .unset, .unset] [])) rfl (hb hby at_105) (by decide) (by decide)
    obtain ⟨a_298, g_299⟩ : ∃ z, z = h_280.size := ⟨_, rfl⟩
    rw [← g_299] at A_295 D_296 st_297 U_300
    have CH_301 : CHv Z consts_1 s.vm h_291 := CHv.ext E_294 CH_287
    have CR_302 : CHr Z consts_1 s.vm h0 s.vm h_291 := CR_288.trans (CHr.ext E_294 CH_287)
    have O_303 : Old Z n0 h_280 := (((X00.ext E_245).wr W_265 (Nat.le_trans (own_n0 X00) (Nat.le_of_eq g_249.symm))).wr W_283 (Nat.le_trans (own_n0 X00) (Nat.le_of_eq g_249.symm)))
    have V_304 : Arv Z h_291 a_248 k_242 .char (2 : Int32) [(.int (own_cb p0)), (.int (own_cb p1))] (.int (0 : Int32)) := (V_289.ext E_294)
    have O_305 : Old Z n0 h_291 := (O_303.ext E_294)
    obtain ⟨_, _, ⟨T_306, L_306, k_306, n_306⟩, -, X_306, ⟨Lc_306, hQ_306, l_306, y_306, z_306⟩, st_306⟩ := X_292.specialBack hx (y := M25) rfl hown (mvT hZ (w4 hw)) (mvT hZ (w5 hw)) (mvT hZ (w6 hw)) (by decide) (backOf (W := 1) (rm_si1_2 l Z a0 hw [] G1 G3 HG h_291 n0 O_305 a_298 a_248 k_242 (own_cb p0) (own_cb p1) A_295 (D_296 (Or.inr (w29 hw)) (ty := (.array .byte)) (by decide)) (D_296 (Or.inr (w27 hw)) (ty := .byte) (by decide)) (Nat.le_trans (own_n0 O_303) (Nat.le_of_eq g_299.symm)) V_304 (own_cb_hi p0) (own_cb_hi p1)) hZ (w6 hw) (w3 hw) (by decide) (by decide)) (g := (mkF m 111 #[.val (.int p0), .val (.int p1), .val (.int p2), .val (.int p3), .val (.int (own_cb p0)), .val (.int (own_cb p1)), .val (.int (own_cb p2)), .val (.int (2 : Int32)), .val (.ref a_248), .unset, .unset, .unset] [(.ref a_248), (.ref a_298), (.ref a_298)])) rfl (by rw [hml]; rfl) (Steps.refl _) (a := a_298) (argsL := [(.ref a_248)]) (rest := [(.ref a_298)]) (lenOf pd_401 rfl) rfl (by show 2 * 0 + _ ≤ _; exact Nat.le_of_eq rfl) (hb hby at_111) (fun _ _ => ⟨rfl, e_293, (by decide : 2 + 1 ≤ _), (by decide : 6 + 2 ≤ _)⟩)
    dsimp only [Pt.U, Pt.locs, Pt.cells, Pt.slots] at X_306 l_306 y_306 z_306 st_306 hQ_306
    subst l_306 y_306 z_306
    obtain ⟨a_307, k_308, rfl, N_309, K_310, g_311, g_312, g_313, g_314, g_315⟩ := hQ_306
    have N_316 := Fr.app N_286 N_309
    have CH_317 : CHv Z consts_1 s.vm T_306.heap := CHv.keep K_310 (sfS (own_safe_null hZ.alike A_295 (D_296 (Or.inr (w29 hw)) (ty := (.array .byte)) (by decide))) sf0) CH_301
    have CR_318 : CHr Z consts_1 s.vm h0 s.vm T_306.heap := CR_302.trans (CHr.keep K_310 (sfS (own_safe_null hZ.alike A_295 (D_296 (Or.inr (w29 hw)) (ty := (.array .byte)) (by decide))) sf0) CH_301)
    have O_319 : Old Z n0 T_306.heap := (O_305.keep K_310 (allS (Nat.le_trans (own_n0 O_303) (Nat.le_of_eq g_299.symm)) all0))
    obtain ⟨_, _, ⟨T_320, L_320, k_320, n_320⟩, -, Y_320, S_320, G_320, ⟨Lc_320, hQ_320, l_320, y_320, z_320, R_320⟩, st_320⟩ := callSS X_306 hx (y := M356) hown (mvT hZ (w30 hw)) (mvT hZ (w31 hw)) (mvT hZ (w32 hw)) (mvT hZ (w33 hw)) (by decide) (backOfSH (vm0 := s.vm) (W := 0) (rm_of l Z a0 hw [] G1 G3 HG T_306.heap n0 O_319 a_298 ) hZ (w33 hw) (w32 hw) (by decide) (by decide) hEL CH_317) (g := (mkF m 118 #[.val (.int p0), .val (.int p1), .val (.int p2), .val (.int p3), .val (.int (own_cb p0)), .val (.int (own_cb p1)), .val (.int (own_cb p2)), .val (.int (2 : Int32)), .val (.ref a_248), .val (.ref a_298), .unset, .unset] [(.ref a_298)])) rfl (by rw [hml]; rfl) (argsL := [(.ref a_298)]) (rest := []) (lenOf pd_405 rfl) rfl (by show 2 * 0 + _ ≤ _; exact Nat.le_of_eq rfl) (hb hby at_118) (fun _ _ => ⟨rfl, rfl, (by decide : 3 + 5 ≤ _), (by decide : 8 + 28 ≤ _)⟩)
    dsimp only [Pt.U, Pt.locs, Pt.cells, Pt.slots] at Y_320 S_320 G_320 l_320 y_320 z_320 st_320 hQ_320 R_320
    subst l_320 y_320 z_320
    obtain ⟨X_320, hS_320, hZ_320, hown_320⟩ := rebS hS0 (n1 := T_306.heap.size) (by rw [show T_306.heap = T_306.heap from rfl]; exact (Nat.le_trans (Nat.le_refl _) (Nat.le_trans (Nat.le_trans (Nat.le_trans (Nat.le_trans E_245.1 (Keep.of_wr W_265).1) (Keep.of_wr W_283).1) E_294.1) K_310.1))) Y_320 S_320 G_320 hZ hown
    obtain ⟨a_321, rfl, N_322, K_323, g_324, g_325, g_326, g_327⟩ := hQ_320
    have N_328 := Fr.app N_316 N_322
    have CH_329 : CHv Z consts_1 T_320.vm T_320.heap := R_320.1
    have CR_330 : CHr Z consts_1 s.vm h0 T_320.vm T_320.heap := CR_318.trans R_320
    have O_331 : Old Z n0 T_320.heap := (O_319.keep K_323 all0)
    obtain ⟨q_333, q_334, q_335, q_336, q_337⟩ := isOf (T := T_320) hZ_320 rfl g_325
    obtain ⟨_, _, ⟨T_332, L_332, k_332, n_332⟩, -, X_332, ⟨Lc_332, hQ_332, l_332, y_332, z_332⟩, st_332⟩ := X_320.virtualBack hx (y := M392) (z := M392) hown_320 (mvT hZ_320 (w84 hw)) (mvT hZ_320 (w85 hw)) (notFace_of_selects (args := #[]) (mvT hZ_320 (w87 hw))) (mvT hZ_320 (w87 hw)) (mvT hZ_320 (w86 hw)) (by decide) (backOf (W := 0) (rm_gname l Z a0 hw [] G1 G3 HG T_320.heap n0 O_331 a_321 a_298 g_326) hZ_320 (w88 hw) (w32 hw) (by decide) (by decide)) q_335 q_337 (g := (mkF m 132 #[.val (.int p0), .val (.int p1), .val (.int p2), .val (.int p3), .val (.int (own_cb p0)), .val (.int (own_cb p1)), .val (.int (own_cb p2)), .val (.int (2 : Int32)), .val (.ref a_248), .val (.ref a_298), .val (.ref a_321), .unset] [(.ref a_321)])) rfl (by rw [hml]; rfl) (Steps.refl _) (argsL := []) (rest := []) (lenOf pd_409 rfl) rfl (by show 2 * 0 + _ ≤ _; exact Nat.le_of_eq rfl) (hb hby at_132) (fun _ _ => ⟨rfl, rfl, (by decide : 8 + 0 ≤ _), (by decide : 36 + 0 ≤ _)⟩)
    dsimp only [Pt.U, Pt.locs, Pt.cells, Pt.slots] at X_332 l_332 y_332 z_332 st_332 hQ_332
    subst l_332 y_332 z_332
    obtain ⟨rfl, N_338, e_339⟩ := hQ_332
    have N_340 := Fr.app N_328 N_338
    have e_341 : T_332.heap = T_320.heap := e_339
    have E_342 : Exa Z T_320.heap a_298 "java/lang/String" := (g_311.keep K_323)
    have F_343 : Fld Z T_320.heap a_298 "java/lang/String" "coder" "B" (.int (0 : Int32)) := (g_312.keep K_323 nin0)
    have F_344 : Fld Z T_320.heap a_298 "java/lang/String" "value" "[B" (.ref a_307) := (g_313.keep K_323 nin0)
    have V_345 : Arv Z T_320.heap a_307 k_308 .byte (2 : Int32) [(.int (own_lo8 (own_cb p0))), (.int (own_lo8 (own_cb p1)))] (.int (0 : Int32)) := (g_315.keep K_323 nin0)
    obtain ⟨q_347, q_348, q_349, q_350, q_351⟩ := isOf (T := T_332) hZ_320 e_341 E_342
    obtain ⟨_, _, ⟨T_346, L_346, k_346, n_346⟩, -, X_346, ⟨Lc_346, hQ_346, l_346, y_346, z_346⟩, st_346⟩ := X_332.virtualBack hx (y := M141) (z := M141) hown_320 (mvT hZ_320 (w89 hw)) (mvT hZ_320 (w90 hw)) (notFace_of_selects (args := #[]) (mvT hZ_320 (w92 hw))) (mvT hZ_320 (w92 hw)) (mvT hZ_320 (w91 hw)) (by decide) (backOf (W := 0) (rm_lenany l Z a0 hw [] G1 G3 HG T_320.heap n0 O_331 a_298 a_307 k_308 (2 : Int32) [(.int (own_lo8 (own_cb p0))), (.int (own_lo8 (own_cb p1)))] E_342 F_343 F_344 V_345) hZ_320 (w93 hw) (w3 hw) (by decide) (by decide)) q_349 q_351 (g := (mkF m 144 #[.val (.int p0), .val (.int p1), .val (.int p2), .val (.int p3), .val (.int (own_cb p0)), .val (.int (own_cb p1)), .val (.int (own_cb p2)), .val (.int (2 : Int32)), .val (.ref a_248), .val (.ref a_298), .val (.ref a_321), .val (.ref a_298)] [(.ref a_298)])) rfl (by rw [hml]; rfl) (Steps.refl _) (argsL := []) (rest := []) (lenOf pd_415 rfl) rfl (by show 2 * 0 + _ ≤ _; exact Nat.le_of_eq rfl) (hb hby at_144) (fun _ _ => ⟨rfl, e_341, (by decide : 8 + 0 ≤ _), (by decide : 36 + 0 ≤ _)⟩)
    dsimp only [Pt.U, Pt.locs, Pt.cells, Pt.slots] at X_346 l_346 y_346 z_346 st_346 hQ_346
    subst l_346 y_346 z_346
    obtain ⟨rfl, N_352, e_353⟩ := hQ_346
    have N_354 := Fr.app N_340 N_352
    have e_355 : T_346.heap = T_320.heap := e_353
    obtain ⟨q_357, q_358, q_359, q_360, q_361⟩ := isOf (T := T_346) hZ_320 e_355 E_342
    obtain ⟨_, _, ⟨T_356, L_356, k_356, n_356⟩, -, X_356, ⟨Lc_356, hQ_356, l_356, y_356, z_356⟩, st_356⟩ := X_346.virtualBack hx (y := M196) (z := M196) hown_320 (mvT hZ_320 (w99 hw)) (mvT hZ_320 (w100 hw)) (notFace_of_selects (args := #[]) (mvT hZ_320 (w102 hw))) (mvT hZ_320 (w102 hw)) (mvT hZ_320 (w101 hw)) (by decide) (backOf (W := 0) (rm_ch_2_0 l Z a0 hw [] G1 G3 HG T_320.heap n0 O_331 a_298 a_307 k_308 (own_lo8 (own_cb p0)) (own_lo8 (own_cb p1)) E_342 F_343 F_344 V_345) hZ_320 (w103 hw) (w3 hw) (by decide) (by decide)) q_359 q_361 (g := (mkF m 163 #[.val (.int p0), .val (.int p1), .val (.int p2), .val (.int p3), .val (.int (own_cb p0)), .val (.int (own_cb p1)), .val (.int (own_cb p2)), .val (.int (2 : Int32)), .val (.ref a_248), .val (.ref a_298), .val (.ref a_321), .val (.ref a_298)] [(.int (0 : Int32)), (.ref a_298)])) rfl (by rw [hml]; rfl) (Steps.refl _) (argsL := [(.int (0 : Int32))]) (rest := []) (lenOf pd_432 rfl) rfl (by show 2 * 0 + _ ≤ _; exact Nat.le_of_eq rfl) (hb hby at_163) (fun _ _ => ⟨rfl, e_355, (by decide : 8 + 0 ≤ _), (by decide : 36 + 0 ≤ _)⟩)
    dsimp only [Pt.U, Pt.locs, Pt.cells, Pt.slots] at X_356 l_356 y_356 z_356 st_356 hQ_356
    subst l_356 y_356 z_356
    obtain ⟨rfl, N_362, e_363⟩ := hQ_356
    have N_364 := Fr.app N_354 N_362
    have e_365 : T_356.heap = T_320.heap := e_363
    obtain ⟨q_367, q_368, q_369, q_370, q_371⟩ := isOf (T := T_356) hZ_320 e_365 E_342
    obtain ⟨_, _, ⟨T_366, L_366, k_366, n_366⟩, -, X_366, ⟨Lc_366, hQ_366, l_366, y_366, z_366⟩, st_366⟩ := X_356.virtualBack hx (y := M196) (z := M196) hown_320 (mvT hZ_320 (w99 hw)) (mvT hZ_320 (w100 hw)) (notFace_of_selects (args := #[]) (mvT hZ_320 (w102 hw))) (mvT hZ_320 (w102 hw)) (mvT hZ_320 (w101 hw)) (by decide) (backOf (W := 0) (rm_ch_2_1 l Z a0 hw [] G1 G3 HG T_320.heap n0 O_331 a_298 a_307 k_308 (own_lo8 (own_cb p0)) (own_lo8 (own_cb p1)) E_342 F_343 F_344 V_345) hZ_320 (w103 hw) (w3 hw) (by decide) (by decide)) q_369 q_371 (g := (mkF m 182 #[.val (.int p0), .val (.int p1), .val (.int p2), .val (.int p3), .val (.int (own_cb p0)), .val (.int (own_cb p1)), .val (.int (own_cb p2)), .val (.int (2 : Int32)), .val (.ref a_248), .val (.ref a_298), .val (.ref a_321), .val (.ref a_298)] [(.int (1 : Int32)), (.ref a_298)])) rfl (by rw [hml]; rfl) (Steps.refl _) (argsL := [(.int (1 : Int32))]) (rest := []) (lenOf pd_432 rfl) rfl (by show 2 * 0 + _ ≤ _; exact Nat.le_of_eq rfl) (hb hby at_182) (fun _ _ => ⟨rfl, e_365, (by decide : 8 + 0 ≤ _), (by decide : 36 + 0 ≤ _)⟩)
    dsimp only [Pt.U, Pt.locs, Pt.cells, Pt.slots] at X_366 l_366 y_366 z_366 st_366 hQ_366
    subst l_366 y_366 z_366
    obtain ⟨rfl, N_372, e_373⟩ := hQ_366
    have N_374 := Fr.app N_364 N_372
    have e_375 : T_366.heap = T_320.heap := e_373
    obtain ⟨q_377, q_378, q_379, q_380, q_381⟩ := isOf (T := T_366) hZ_320 e_375 E_342
    obtain ⟨_, _, ⟨T_376, L_376, k_376, n_376⟩, -, X_376, ⟨Lc_376, hQ_376, l_376, y_376, z_376⟩, st_376⟩ := X_366.virtualBack hx (y := M216) (z := M216) hown_320 (mvT hZ_320 (w121 hw)) (mvT hZ_320 (w122 hw)) (notFace_of_selects (args := #[]) (mvT hZ_320 (w124 hw))) (mvT hZ_320 (w124 hw)) (mvT hZ_320 (w123 hw)) (by decide) (backOf (W := 0) (rm_eqself l Z a0 hw [] G1 G3 HG T_320.heap n0 O_331 a_298 ) hZ_320 (w125 hw) (w3 hw) (by decide) (by decide)) q_379 q_381 (g := (mkF m 215 #[.val (.int p0), .val (.int p1), .val (.int p2), .val (.int p3), .val (.int (own_cb p0)), .val (.int (own_cb p1)), .val (.int (own_cb p2)), .val (.int (2 : Int32)), .val (.ref a_248), .val (.ref a_298), .val (.ref a_321), .val (.ref a_298)] [(.ref a_298), (.ref a_298)])) rfl (by rw [hml]; rfl) (Steps.refl _) (argsL := [(.ref a_298)]) (rest := []) (lenOf pd_421 rfl) rfl (by show 2 * 0 + _ ≤ _; exact Nat.le_of_eq rfl) (hb hby at_215) (fun _ _ => ⟨rfl, e_375, (by decide : 8 + 0 ≤ _), (by decide : 36 + 0 ≤ _)⟩)
    dsimp only [Pt.U, Pt.locs, Pt.cells, Pt.slots] at X_376 l_376 y_376 z_376 st_376 hQ_376
    subst l_376 y_376 z_376
    obtain ⟨rfl, N_382, e_383⟩ := hQ_376
    have N_384 := Fr.app N_374 N_382
    have e_385 : T_376.heap = T_320.heap := e_383
    obtain ⟨q_387, q_388, q_389, q_390, q_391⟩ := isOf (T := T_376) hZ_320 e_385 g_325
    obtain ⟨_, _, ⟨T_386, L_386, k_386, n_386⟩, -, X_386, ⟨Lc_386, hQ_386, l_386, y_386, z_386⟩, st_386⟩ := X_376.virtualBack hx (y := M388) (z := M388) hown_320 (mvT hZ_320 (w126 hw)) (mvT hZ_320 (w127 hw)) (notFace_of_selects (args := #[]) (mvT hZ_320 (w129 hw))) (mvT hZ_320 (w129 hw)) (mvT hZ_320 (w128 hw)) (by decide) (backOf (W := 0) (rm_gf l Z a0 hw [] G1 G3 HG T_320.heap n0 O_331 a_321 g_327) hZ_320 (w130 hw) (w32 hw) (by decide) (by decide)) q_389 q_391 (g := (mkF m 223 #[.val (.int p0), .val (.int p1), .val (.int p2), .val (.int p3), .val (.int (own_cb p0)), .val (.int (own_cb p1)), .val (.int (own_cb p2)), .val (.int (2 : Int32)), .val (.ref a_248), .val (.ref a_298), .val (.ref a_321), .val (.ref a_298)] [(.ref a_321)])) rfl (by rw [hml]; rfl) (Steps.refl _) (argsL := []) (rest := []) (lenOf pd_415 rfl) rfl (by show 2 * 0 + _ ≤ _; exact Nat.le_of_eq rfl) (hb hby at_223) (fun _ _ => ⟨rfl, e_385, (by decide : 8 + 0 ≤ _), (by decide : 36 + 0 ≤ _)⟩)
    dsimp only [Pt.U, Pt.locs, Pt.cells, Pt.slots] at X_386 l_386 y_386 z_386 st_386 hQ_386
    subst l_386 y_386 z_386
    obtain ⟨rfl, N_392, e_393⟩ := hQ_386
    have N_394 := Fr.app N_384 N_392
    have e_395 : T_386.heap = T_320.heap := e_393
    have C_396 : Steps p.tables e below S0 (T_386.setTop (mkF m 235 #[.val (.int p0), .val (.int p1), .val (.int p2), .val (.int p3), .val (.int (own_cb p0)), .val (.int (own_cb p1)), .val (.int (own_cb p2)), .val (.int (2 : Int32)), .val (.ref a_248), .val (.ref a_298), .val (.ref a_321), .val (.ref a_298)] [(.int (1 : Int32))])) := by
      refine C_239.trans ?_
      refine XS.istore X0.here hx rfl (hb hby at_27) rfl (l' := #[.val (.int p0), .val (.int p1), .val (.int p2), .val (.int p3), .val (.int (own_cb p0)), .val (.int (own_cb p1)), .val (.int (own_cb p2)), .val (.int (2 : Int32)), .unset, .unset, .unset, .unset]) rfl ?_
      refine XS.iload X0.here hx rfl (hb hby at_29) rfl ?_
      refine XS.ifYes X0.here hx rfl (pc0 := 31) (pc' := 42) rfl (hb hby at_31) rfl (by decide) (by decide) (by decide) ?_
      refine XS.iload X0.here hx rfl (hb hby at_42) rfl ?_
      refine XS.iconst X0.here hx rfl (hb hby at_44) ?_
      refine XS.icmpYes X0.here hx rfl (pc0 := 45) (pc' := 61) rfl (hb hby at_45) rfl (by decide) (by decide) (by decide) ?_
      refine XS.iload X0.here hx rfl (hb hby at_61) rfl ?_
      refine XS.iconst X0.here hx rfl (hb hby at_63) ?_
      show Steps p.tables e below (s₁.setTop (mkF m 64 #[.val (.int p0), .val (.int p1), .val (.int p2), .val (.int p3), .val (.int (own_cb p0)), .val (.int (own_cb p1)), .val (.int (own_cb p2)), .val (.int (2 : Int32)), .unset, .unset, .unset, .unset] [(.int (2 : Int32)), (.int (2 : Int32))])) _
      refine XS.icmpNo X0.here hx rfl (hb hby at_64) rfl (by decide) ?_
      refine XS.iconst X0.here hx rfl (hb hby at_67) ?_
      refine st_247 _ ?_
      refine XS.dup X_243.here hx rfl (hb hby at_70) rfl rfl ?_
      refine XS.iconst X_243.here hx rfl (hb hby at_71) ?_
      refine XS.iload X_243.here hx rfl (hb hby at_72) rfl ?_
      refine st_266 _ ?_
      refine XS.dup X_263.here hx rfl (hb hby at_75) rfl rfl ?_
      show Steps p.tables e below (T_261.setTop (mkF m 76 #[.val (.int p0), .val (.int p1), .val (.int p2), .val (.int p3), .val (.int (own_cb p0)), .val (.int (own_cb p1)), .val (.int (own_cb p2)), .val (.int (2 : Int32)), .unset, .unset, .unset, .unset] [(.ref a_248), (.ref a_248)])) _
      refine XS.iconst X_263.here hx rfl (hb hby at_76) ?_
      refine XS.iload X_263.here hx rfl (hb hby at_77) rfl ?_
      refine st_284 _ ?_
      refine XS.astore X_281.here hx rfl (hb hby at_80) rfl rfl (l' := #[.val (.int p0), .val (.int p1), .val (.int p2), .val (.int p3), .val (.int (own_cb p0)), .val (.int (own_cb p1)), .val (.int (own_cb p2)), .val (.int (2 : Int32)), .val (.ref a_248), .unset, .unset, .unset]) rfl ?_
      refine XS.goto X_281.here hx rfl (pc0 := 82) (pc' := 105) rfl (hb hby at_82) (by decide) (by decide) ?_
      refine st_297 _ ?_
      refine XS.dup X_292.here hx rfl (hb hby at_108) rfl rfl ?_
      refine XS.aload X_292.here hx rfl (hb hby at_109) rfl rfl ?_
      show Steps p.tables e below (T_290.setTop (mkF m 111 #[.val (.int p0), .val (.int p1), .val (.int p2), .val (.int p3), .val (.int (own_cb p0)), .val (.int (own_cb p1)), .val (.int (own_cb p2)), .val (.int (2 : Int32)), .val (.ref a_248), .unset, .unset, .unset] [(.ref a_248), (.ref a_298), (.ref a_298)])) _
      refine st_306.trans ?_
      refine XS.astore X_306.here hx rfl (hb hby at_114) rfl rfl (l' := #[.val (.int p0), .val (.int p1), .val (.int p2), .val (.int p3), .val (.int (own_cb p0)), .val (.int (own_cb p1)), .val (.int (own_cb p2)), .val (.int (2 : Int32)), .val (.ref a_248), .val (.ref a_298), .unset, .unset]) rfl ?_
      refine XS.aload X_306.here hx rfl (hb hby at_116) rfl rfl ?_
      refine st_320.trans ?_
      refine XS.astore X_320.here hx rfl (hb hby at_121) rfl rfl (l' := #[.val (.int p0), .val (.int p1), .val (.int p2), .val (.int p3), .val (.int (own_cb p0)), .val (.int (own_cb p1)), .val (.int (own_cb p2)), .val (.int (2 : Int32)), .val (.ref a_248), .val (.ref a_298), .val (.ref a_321), .unset]) rfl ?_
      refine XS.aload X_320.here hx rfl (hb hby at_123) rfl rfl ?_
      refine XS.ifnonnullYes X_320.here hx rfl (pc0 := 125) (pc' := 130) rfl (hb hby at_125) rfl (by decide) (by decide) ?_
      refine XS.aload X_320.here hx rfl (hb hby at_130) rfl rfl ?_
      show Steps p.tables e below (T_320.setTop (mkF m 132 #[.val (.int p0), .val (.int p1), .val (.int p2), .val (.int p3), .val (.int (own_cb p0)), .val (.int (own_cb p1)), .val (.int (own_cb p2)), .val (.int (2 : Int32)), .val (.ref a_248), .val (.ref a_298), .val (.ref a_321), .unset] [(.ref a_321)])) _
      refine st_332.trans ?_
      refine XS.astore X_332.here hx rfl (hb hby at_135) rfl rfl (l' := #[.val (.int p0), .val (.int p1), .val (.int p2), .val (.int p3), .val (.int (own_cb p0)), .val (.int (own_cb p1)), .val (.int (own_cb p2)), .val (.int (2 : Int32)), .val (.ref a_248), .val (.ref a_298), .val (.ref a_321), .val (.ref a_298)]) rfl ?_
      refine XS.aload X_332.here hx rfl (hb hby at_137) rfl rfl ?_
      refine XS.ifnullNo X_332.here hx rfl (hb hby at_139) rfl ?_
      refine XS.aload X_332.here hx rfl (hb hby at_142) rfl rfl ?_
      refine st_346.trans ?_
      refine XS.iload X_346.here hx rfl (hb hby at_147) rfl ?_
      refine XS.icmpYes X_346.here hx rfl (pc0 := 149) (pc' := 154) rfl (hb hby at_149) rfl (by decide) (by decide) (by decide) ?_
      show Steps p.tables e below (T_346.setTop (mkF m 154 #[.val (.int p0), .val (.int p1), .val (.int p2), .val (.int p3), .val (.int (own_cb p0)), .val (.int (own_cb p1)), .val (.int (own_cb p2)), .val (.int (2 : Int32)), .val (.ref a_248), .val (.ref a_298), .val (.ref a_321), .val (.ref a_298)] [])) _
      refine XS.iload X_346.here hx rfl (hb hby at_154) rfl ?_
      refine XS.iconst X_346.here hx rfl (hb hby at_156) ?_
      refine XS.icmpNo X_346.here hx rfl (hb hby at_157) rfl (by decide) ?_
      refine XS.aload X_346.here hx rfl (hb hby at_160) rfl rfl ?_
      refine XS.iconst X_346.here hx rfl (hb hby at_162) ?_
      refine st_356.trans ?_
      refine XS.iload X_356.here hx rfl (hb hby at_166) rfl ?_
      refine XS.icmpYes X_356.here hx rfl (pc0 := 168) (pc' := 173) rfl (hb hby at_168) rfl (ii_eq_t (own_at_says (own_cb_lo p0) (own_cb_hi p0))) (by decide) (by decide) ?_
      show Steps p.tables e below (T_356.setTop (mkF m 173 #[.val (.int p0), .val (.int p1), .val (.int p2), .val (.int p3), .val (.int (own_cb p0)), .val (.int (own_cb p1)), .val (.int (own_cb p2)), .val (.int (2 : Int32)), .val (.ref a_248), .val (.ref a_298), .val (.ref a_321), .val (.ref a_298)] [])) _
      refine XS.iload X_356.here hx rfl (hb hby at_173) rfl ?_
      refine XS.iconst X_356.here hx rfl (hb hby at_175) ?_
      refine XS.icmpNo X_356.here hx rfl (hb hby at_176) rfl (by decide) ?_
      refine XS.aload X_356.here hx rfl (hb hby at_179) rfl rfl ?_
      refine XS.iconst X_356.here hx rfl (hb hby at_181) ?_
      refine st_366.trans ?_
      refine XS.iload X_366.here hx rfl (hb hby at_185) rfl ?_
      refine XS.icmpYes X_366.here hx rfl (pc0 := 187) (pc' := 192) rfl (hb hby at_187) rfl (ii_eq_t (own_at_says (own_cb_lo p1) (own_cb_hi p1))) (by decide) (by decide) ?_
      show Steps p.tables e below (T_366.setTop (mkF m 192 #[.val (.int p0), .val (.int p1), .val (.int p2), .val (.int p3), .val (.int (own_cb p0)), .val (.int (own_cb p1)), .val (.int (own_cb p2)), .val (.int (2 : Int32)), .val (.ref a_248), .val (.ref a_298), .val (.ref a_321), .val (.ref a_298)] [])) _
      refine XS.iload X_366.here hx rfl (hb hby at_192) rfl ?_
      refine XS.iconst X_366.here hx rfl (hb hby at_194) ?_
      refine XS.icmpYes X_366.here hx rfl (pc0 := 195) (pc' := 211) rfl (hb hby at_195) rfl (by decide) (by decide) (by decide) ?_
      refine XS.aload X_366.here hx rfl (hb hby at_211) rfl rfl ?_
      refine XS.aload X_366.here hx rfl (hb hby at_213) rfl rfl ?_
      refine st_376.trans ?_
      refine XS.ifNo X_376.here hx rfl (hb hby at_218) rfl (by decide) ?_
      refine XS.aload X_376.here hx rfl (hb hby at_221) rfl rfl ?_
      show Steps p.tables e below (T_376.setTop (mkF m 223 #[.val (.int p0), .val (.int p1), .val (.int p2), .val (.int p3), .val (.int (own_cb p0)), .val (.int (own_cb p1)), .val (.int (own_cb p2)), .val (.int (2 : Int32)), .val (.ref a_248), .val (.ref a_298), .val (.ref a_321), .val (.ref a_298)] [(.ref a_321)])) _
      refine st_386.trans ?_
      refine XS.iconst X_386.here hx rfl (hb hby at_226) ?_
      refine XS.icmpNo X_386.here hx rfl (hb hby at_227) rfl (by decide) ?_
      refine XS.iconst X_386.here hx rfl (hb hby at_230) ?_
      refine XS.goto X_386.here hx rfl (pc0 := 231) (pc' := 235) rfl (hb hby at_231) (by decide) (by decide) ?_
      exact Steps.refl _
    have K_397 : Keep h0 T_320.heap [] := (((((((Keep.refl _ _).ext E_245).wr W_265 (Or.inr (Nat.le_trans (Nat.le_refl _) (Nat.le_of_eq g_249.symm)))).wr W_283 (Or.inr (Nat.le_trans (Nat.le_refl _) (Nat.le_of_eq g_249.symm)))).ext E_294).trans K_310 (allS (Or.inr (Nat.le_trans (Nat.le_trans (Nat.le_trans E_245.1 (Keep.of_wr W_265).1) (Keep.of_wr W_283).1) (Nat.le_of_eq g_299.symm))) all0)).trans K_323 all0)
    obtain ⟨fs, hr, hrun, hended, hRE⟩ := X_386.leaveW hS_320 (by rw [show T_386.heap = T_320.heap from e_395]; exact (Nat.le_refl _)) (v := some (.int (1 : Int32))) (fun h => by rw [Bd.returns] at h; cases h)
    refine ⟨_, _, C_396.trans (retN X_386 hx (t := .boolean) Bd.returns (by simp) (hb hby at_235) hr), hrun, hended, _, _, rfl, ?_, ?_, hRE.1, hRE.2.1, hRE.2.2.1, hRE.2.2.2.mono (by decide) (by decide)⟩
    · show Q_law Z G1 G3 p0 p1 p2 p3 h0 n0 (some (.int (1 : Int32))) T_386.heap _
      rw [e_395]
      exact ⟨rfl, N_394, K_397⟩
    · show CHr Z consts_1 s.vm s.heap T_386.vm T_386.heap
      rw [hh, show T_386.heap = T_320.heap from e_395]
      exact CR_330.trans (CHv.at X_386 hZ_320 hEL CH_329)
  · skip
    have C_398 : Steps p.tables e below S0 (s₁.setTop (mkF m 27 #[.val (.int p0), .val (.int p1), .val (.int p2), .val (.int p3), .val (.int (own_cb p0)), .val (.int (own_cb p1)), .val (.int (own_cb p2)), .unset, .unset, .unset, .unset, .unset] [(.int (3 : Int32))])) := by have q := C_1; rw [hn_5] at q; exact q
    obtain ⟨T_399, h_400, k_401, X_402, e_403, E_404, A_405, st_406⟩ := newP (aty := .char) X0 hx hZ (w0 hw) e0 (g := (mkF m 86 #[.val (.int p0), .val (.int p1), .val (.int p2), .val (.int p3), .val (.int (own_cb p0)), .val (.int (own_cb p1)), .val (.int (own_cb p2)), .val (.int (3 : Int32)), .unset, .unset, .unset, .unset] [(.int (3 : Int32))])) rfl (hb hby at_86) rfl (by decide : ¬ ((3 : Int32) < (0 : Int32))) (cap := 3) (by decide : (3 : Int32).toNatClampNeg ≤ 3) (by decide) (by decide) (by decide)
    obtain ⟨a_407, g_408⟩ : ∃ z, z = h0.size := ⟨_, rfl⟩
    rw [← g_408] at A_405 st_406
    have CH_410 : CHv Z consts_1 s.vm h_400 := CHv.ext E_404 CH0
    have CR_411 : CHr Z consts_1 s.vm h0 s.vm h_400 := CR0.trans (CHr.ext E_404 CH0)
    have V_412 : Arv Z h_400 a_407 k_401 .char (3 : Int32) [] (.int (0 : Int32)) := Arv.new A_405 (by decide : ¬ ((3 : Int32) < (0 : Int32)))
    have V_409 : Arv Z h_400 a_407 k_401 .char (3 : Int32) [(.int (0 : Int32)), (.int (0 : Int32)), (.int (0 : Int32))] (.int (0 : Int32)) := (V_412.pad (pad_rep [] (.int (0 : Int32)) 3))
    obtain ⟨c_413, A_414, q_415, S_416, M_417, H_418, U_419⟩ := id V_409
    have hin_426 : ¬ ((0 : Int32) < 0 ∨ c_413.slots.size ≤ (0 : Int32).toNatClampNeg) := inb_of S_416 ⟨(by decide : ¬ ((0 : Int32) < (0 : Int32))), (by decide : (0 : Int32) < (3 : Int32))⟩
    obtain ⟨T_420, h_421, X_422, e_423, W_424, st_425⟩ := stC X_402 hx hZ e_403 A_414 (j := (0 : Int32)) hin_426 (g := (mkF m 92 #[.val (.int p0), .val (.int p1), .val (.int p2), .val (.int p3), .val (.int (own_cb p0)), .val (.int (own_cb p1)), .val (.int (own_cb p2)), .val (.int (3 : Int32)), .unset, .unset, .unset, .unset] [(.int (own_cb p0)), (.int (0 : Int32)), (.ref a_407), (.ref a_407)])) rfl rfl (hb hby at_92)
    have N_427 := Fr.snoc X_422 N0 (Nat.le_trans (own_n0 X00) (Nat.le_of_eq g_408.symm))
    have CH_428 : CHv Z consts_1 s.vm h_421 := CHv.wr W_424 (Safe.arv hZ.alike V_409 (by decide)) CH_410
    have CR_429 : CHr Z consts_1 s.vm h0 s.vm h_421 := CR_411.trans (CHr.wr W_424 (Safe.arv hZ.alike V_409 (by decide)) CH_410)
    have V_430 : Arv Z h_421 a_407 k_401 .char (3 : Int32) [(.int (own_cb p0)), (.int (0 : Int32)), (.int (0 : Int32))] (.int (0 : Int32)) := by have q := Arv.set A_414 q_415 S_416 M_417 H_418 U_419 (fits_nar_char _) W_424 0 rfl (Nat.le_of_ble_eq_true rfl); rw [own_cb_nar] at q; exact q
    obtain ⟨c_431, A_432, q_433, S_434, M_435, H_436, U_437⟩ := id V_430
    have hin_444 : ¬ ((1 : Int32) < 0 ∨ c_431.slots.size ≤ (1 : Int32).toNatClampNeg) := inb_of S_434 ⟨(by decide : ¬ ((1 : Int32) < (0 : Int32))), (by decide : (1 : Int32) < (3 : Int32))⟩
    obtain ⟨T_438, h_439, X_440, e_441, W_442, st_443⟩ := stC X_422 hx hZ e_423 A_432 (j := (1 : Int32)) hin_444 (g := (mkF m 97 #[.val (.int p0), .val (.int p1), .val (.int p2), .val (.int p3), .val (.int (own_cb p0)), .val (.int (own_cb p1)), .val (.int (own_cb p2)), .val (.int (3 : Int32)), .unset, .unset, .unset, .unset] [(.int (own_cb p1)), (.int (1 : Int32)), (.ref a_407), (.ref a_407)])) rfl rfl (hb hby at_97)
    have N_445 := Fr.snoc X_440 N_427 (Nat.le_trans (own_n0 X00) (Nat.le_of_eq g_408.symm))
    have CH_446 : CHv Z consts_1 s.vm h_439 := CHv.wr W_442 (Safe.arv hZ.alike V_430 (by decide)) CH_428
    have CR_447 : CHr Z consts_1 s.vm h0 s.vm h_439 := CR_429.trans (CHr.wr W_442 (Safe.arv hZ.alike V_430 (by decide)) CH_428)
    have V_448 : Arv Z h_439 a_407 k_401 .char (3 : Int32) [(.int (own_cb p0)), (.int (own_cb p1)), (.int (0 : Int32))] (.int (0 : Int32)) := by have q := Arv.set A_432 q_433 S_434 M_435 H_436 U_437 (fits_nar_char _) W_442 1 rfl (Nat.le_of_ble_eq_true rfl); rw [own_cb_nar] at q; exact q
    obtain ⟨c_449, A_450, q_451, S_452, M_453, H_454, U_455⟩ := id V_448
    have hin_462 : ¬ ((2 : Int32) < 0 ∨ c_449.slots.size ≤ (2 : Int32).toNatClampNeg) := inb_of S_452 ⟨(by decide : ¬ ((2 : Int32) < (0 : Int32))), (by decide : (2 : Int32) < (3 : Int32))⟩
    obtain ⟨T_456, h_457, X_458, e_459, W_460, st_461⟩ := stC X_440 hx hZ e_441 A_450 (j := (2 : Int32)) hin_462 (g := (mkF m 102 #[.val (.int p0), .val (.int p1), .val (.int p2), .val (.int p3), .val (.int (own_cb p0)), .val (.int (own_cb p1)), .val (.int (own_cb p2)), .val (.int (3 : Int32)), .unset, .unset, .unset, .unset] [(.int (own_cb p2)), (.int (2 : Int32)), (.ref a_407), (.ref a_407)])) rfl rfl (hb hby at_102)
    have N_463 := Fr.snoc X_458 N_445 (Nat.le_trans (own_n0 X00) (Nat.le_of_eq g_408.symm))
    have CH_464 : CHv Z consts_1 s.vm h_457 := CHv.wr W_460 (Safe.arv hZ.alike V_448 (by decide)) CH_446
    have CR_465 : CHr Z consts_1 s.vm h0 s.vm h_457 := CR_447.trans (CHr.wr W_460 (Safe.arv hZ.alike V_448 (by decide)) CH_446)
    have V_466 : Arv Z h_457 a_407 k_401 .char (3 : Int32) [(.int (own_cb p0)), (.int (own_cb p1)), (.int (own_cb p2))] (.int (0 : Int32)) := by have q := Arv.set A_450 q_451 S_452 M_453 H_454 U_455 (fits_nar_char _) W_460 2 rfl (Nat.le_of_ble_eq_true rfl); rw [own_cb_nar] at q; exact q
    obtain ⟨T_467, h_468, X_469, e_470, E_471, A_472, D_473, U_477, st_474⟩ := newO X_458 hx hZ hown (w1 hw) (w2 hw) (w3 hw) e_459 (g := (mkF m 105 #[.val (.int p0), .val (.int p1), .val (.int p2), .val (.int p3), .val (.int (own_cb p0)), .val (.int (own_cb p1)), .val (.int (own_cb p2)), .val (.int (3 : Int32)), .val (.ref a_407), .unset, .unset, .unset] [])) rfl (hb hby at_105) (by decide) (by decide)
    obtain ⟨a_475, g_476⟩ : ∃ z, z = h_457.size := ⟨_, rfl⟩
    rw [← g_476] at A_472 D_473 st_474 U_477
    have CH_478 : CHv Z consts_1 s.vm h_468 := CHv.ext E_471 CH_464
    have CR_479 : CHr Z consts_1 s.vm h0 s.vm h_468 := CR_465.trans (CHr.ext E_471 CH_464)
    have O_480 : Old Z n0 h_457 := ((((X00.ext E_404).wr W_424 (Nat.le_trans (own_n0 X00) (Nat.le_of_eq g_408.symm))).wr W_442 (Nat.le_trans (own_n0 X00) (Nat.le_of_eq g_408.symm))).wr W_460 (Nat.le_trans (own_n0 X00) (Nat.le_of_eq g_408.symm)))
    have V_481 : Arv Z h_468 a_407 k_401 .char (3 : Int32) [(.int (own_cb p0)), (.int (own_cb p1)), (.int (own_cb p2))] (.int (0 : Int32)) := (V_466.ext E_471)
    have O_482 : Old Z n0 h_468 := (O_480.ext E_471)
    obtain ⟨_, _, ⟨T_483, L_483, k_483, n_483⟩, -, X_483, ⟨Lc_483, hQ_483, l_483, y_483, z_483⟩, st_483⟩ := X_469.specialBack hx (y := M25) rfl hown (mvT hZ (w4 hw)) (mvT hZ (w5 hw)) (mvT hZ (w6 hw)) (by decide) (backOf (W := 1) (rm_si1_3 l Z a0 hw [] G1 G3 HG h_468 n0 O_482 a_475 a_407 k_401 (own_cb p0) (own_cb p1) (own_cb p2) A_472 (D_473 (Or.inr (w29 hw)) (ty := (.array .byte)) (by decide)) (D_473 (Or.inr (w27 hw)) (ty := .byte) (by decide)) (Nat.le_trans (own_n0 O_480) (Nat.le_of_eq g_476.symm)) V_481 (own_cb_hi p0) (own_cb_hi p1) (own_cb_hi p2)) hZ (w6 hw) (w3 hw) (by decide) (by decide)) (g := (mkF m 111 #[.val (.int p0), .val (.int p1), .val (.int p2), .val (.int p3), .val (.int (own_cb p0)), .val (.int (own_cb p1)), .val (.int (own_cb p2)), .val (.int (3 : Int32)), .val (.ref a_407), .unset, .unset, .unset] [(.ref a_407), (.ref a_475), (.ref a_475)])) rfl (by rw [hml]; rfl) (Steps.refl _) (a := a_475) (argsL := [(.ref a_407)]) (rest := [(.ref a_475)]) (lenOf pd_401 rfl) rfl (by show 2 * 0 + _ ≤ _; exact Nat.le_of_eq rfl) (hb hby at_111) (fun _ _ => ⟨rfl, e_470, (by decide : 2 + 1 ≤ _), (by decide : 7 + 3 ≤ _)⟩)
    dsimp only [Pt.U, Pt.locs, Pt.cells, Pt.slots] at X_483 l_483 y_483 z_483 st_483 hQ_483
    subst l_483 y_483 z_483
    obtain ⟨a_484, k_485, rfl, N_486, K_487, g_488, g_489, g_490, g_491, g_492⟩ := hQ_483
    have N_493 := Fr.app N_463 N_486
    have CH_494 : CHv Z consts_1 s.vm T_483.heap := CHv.keep K_487 (sfS (own_safe_null hZ.alike A_472 (D_473 (Or.inr (w29 hw)) (ty := (.array .byte)) (by decide))) sf0) CH_478
    have CR_495 : CHr Z consts_1 s.vm h0 s.vm T_483.heap := CR_479.trans (CHr.keep K_487 (sfS (own_safe_null hZ.alike A_472 (D_473 (Or.inr (w29 hw)) (ty := (.array .byte)) (by decide))) sf0) CH_478)
    have O_496 : Old Z n0 T_483.heap := (O_482.keep K_487 (allS (Nat.le_trans (own_n0 O_480) (Nat.le_of_eq g_476.symm)) all0))
    obtain ⟨_, _, ⟨T_497, L_497, k_497, n_497⟩, -, Y_497, S_497, G_497, ⟨Lc_497, hQ_497, l_497, y_497, z_497, R_497⟩, st_497⟩ := callSS X_483 hx (y := M356) hown (mvT hZ (w30 hw)) (mvT hZ (w31 hw)) (mvT hZ (w32 hw)) (mvT hZ (w33 hw)) (by decide) (backOfSH (vm0 := s.vm) (W := 0) (rm_of l Z a0 hw [] G1 G3 HG T_483.heap n0 O_496 a_475 ) hZ (w33 hw) (w32 hw) (by decide) (by decide) hEL CH_494) (g := (mkF m 118 #[.val (.int p0), .val (.int p1), .val (.int p2), .val (.int p3), .val (.int (own_cb p0)), .val (.int (own_cb p1)), .val (.int (own_cb p2)), .val (.int (3 : Int32)), .val (.ref a_407), .val (.ref a_475), .unset, .unset] [(.ref a_475)])) rfl (by rw [hml]; rfl) (argsL := [(.ref a_475)]) (rest := []) (lenOf pd_405 rfl) rfl (by show 2 * 0 + _ ≤ _; exact Nat.le_of_eq rfl) (hb hby at_118) (fun _ _ => ⟨rfl, rfl, (by decide : 3 + 5 ≤ _), (by decide : 10 + 28 ≤ _)⟩)
    dsimp only [Pt.U, Pt.locs, Pt.cells, Pt.slots] at Y_497 S_497 G_497 l_497 y_497 z_497 st_497 hQ_497 R_497
    subst l_497 y_497 z_497
    obtain ⟨X_497, hS_497, hZ_497, hown_497⟩ := rebS hS0 (n1 := T_483.heap.size) (by rw [show T_483.heap = T_483.heap from rfl]; exact (Nat.le_trans (Nat.le_refl _) (Nat.le_trans (Nat.le_trans (Nat.le_trans (Nat.le_trans (Nat.le_trans E_404.1 (Keep.of_wr W_424).1) (Keep.of_wr W_442).1) (Keep.of_wr W_460).1) E_471.1) K_487.1))) Y_497 S_497 G_497 hZ hown
    obtain ⟨a_498, rfl, N_499, K_500, g_501, g_502, g_503, g_504⟩ := hQ_497
    have N_505 := Fr.app N_493 N_499
    have CH_506 : CHv Z consts_1 T_497.vm T_497.heap := R_497.1
    have CR_507 : CHr Z consts_1 s.vm h0 T_497.vm T_497.heap := CR_495.trans R_497
    have O_508 : Old Z n0 T_497.heap := (O_496.keep K_500 all0)
    obtain ⟨q_510, q_511, q_512, q_513, q_514⟩ := isOf (T := T_497) hZ_497 rfl g_502
    obtain ⟨_, _, ⟨T_509, L_509, k_509, n_509⟩, -, X_509, ⟨Lc_509, hQ_509, l_509, y_509, z_509⟩, st_509⟩ := X_497.virtualBack hx (y := M392) (z := M392) hown_497 (mvT hZ_497 (w84 hw)) (mvT hZ_497 (w85 hw)) (notFace_of_selects (args := #[]) (mvT hZ_497 (w87 hw))) (mvT hZ_497 (w87 hw)) (mvT hZ_497 (w86 hw)) (by decide) (backOf (W := 0) (rm_gname l Z a0 hw [] G1 G3 HG T_497.heap n0 O_508 a_498 a_475 g_503) hZ_497 (w88 hw) (w32 hw) (by decide) (by decide)) q_512 q_514 (g := (mkF m 132 #[.val (.int p0), .val (.int p1), .val (.int p2), .val (.int p3), .val (.int (own_cb p0)), .val (.int (own_cb p1)), .val (.int (own_cb p2)), .val (.int (3 : Int32)), .val (.ref a_407), .val (.ref a_475), .val (.ref a_498), .unset] [(.ref a_498)])) rfl (by rw [hml]; rfl) (Steps.refl _) (argsL := []) (rest := []) (lenOf pd_409 rfl) rfl (by show 2 * 0 + _ ≤ _; exact Nat.le_of_eq rfl) (hb hby at_132) (fun _ _ => ⟨rfl, rfl, (by decide : 8 + 0 ≤ _), (by decide : 38 + 0 ≤ _)⟩)
    dsimp only [Pt.U, Pt.locs, Pt.cells, Pt.slots] at X_509 l_509 y_509 z_509 st_509 hQ_509
    subst l_509 y_509 z_509
    obtain ⟨rfl, N_515, e_516⟩ := hQ_509
    have N_517 := Fr.app N_505 N_515
    have e_518 : T_509.heap = T_497.heap := e_516
    have E_519 : Exa Z T_497.heap a_475 "java/lang/String" := (g_488.keep K_500)
    have F_520 : Fld Z T_497.heap a_475 "java/lang/String" "coder" "B" (.int (0 : Int32)) := (g_489.keep K_500 nin0)
    have F_521 : Fld Z T_497.heap a_475 "java/lang/String" "value" "[B" (.ref a_484) := (g_490.keep K_500 nin0)
    have V_522 : Arv Z T_497.heap a_484 k_485 .byte (3 : Int32) [(.int (own_lo8 (own_cb p0))), (.int (own_lo8 (own_cb p1))), (.int (own_lo8 (own_cb p2)))] (.int (0 : Int32)) := (g_492.keep K_500 nin0)
    obtain ⟨q_524, q_525, q_526, q_527, q_528⟩ := isOf (T := T_509) hZ_497 e_518 E_519
    obtain ⟨_, _, ⟨T_523, L_523, k_523, n_523⟩, -, X_523, ⟨Lc_523, hQ_523, l_523, y_523, z_523⟩, st_523⟩ := X_509.virtualBack hx (y := M141) (z := M141) hown_497 (mvT hZ_497 (w89 hw)) (mvT hZ_497 (w90 hw)) (notFace_of_selects (args := #[]) (mvT hZ_497 (w92 hw))) (mvT hZ_497 (w92 hw)) (mvT hZ_497 (w91 hw)) (by decide) (backOf (W := 0) (rm_lenany l Z a0 hw [] G1 G3 HG T_497.heap n0 O_508 a_475 a_484 k_485 (3 : Int32) [(.int (own_lo8 (own_cb p0))), (.int (own_lo8 (own_cb p1))), (.int (own_lo8 (own_cb p2)))] E_519 F_520 F_521 V_522) hZ_497 (w93 hw) (w3 hw) (by decide) (by decide)) q_526 q_528 (g := (mkF m 144 #[.val (.int p0), .val (.int p1), .val (.int p2), .val (.int p3), .val (.int (own_cb p0)), .val (.int (own_cb p1)), .val (.int (own_cb p2)), .val (.int (3 : Int32)), .val (.ref a_407), .val (.ref a_475), .val (.ref a_498), .val (.ref a_475)] [(.ref a_475)])) rfl (by rw [hml]; rfl) (Steps.refl _) (argsL := []) (rest := []) (lenOf pd_415 rfl) rfl (by show 2 * 0 + _ ≤ _; exact Nat.le_of_eq rfl) (hb hby at_144) (fun _ _ => ⟨rfl, e_518, (by decide : 8 + 0 ≤ _), (by decide : 38 + 0 ≤ _)⟩)
    dsimp only [Pt.U, Pt.locs, Pt.cells, Pt.slots] at X_523 l_523 y_523 z_523 st_523 hQ_523
    subst l_523 y_523 z_523
    obtain ⟨rfl, N_529, e_530⟩ := hQ_523
    have N_531 := Fr.app N_517 N_529
    have e_532 : T_523.heap = T_497.heap := e_530
    obtain ⟨q_534, q_535, q_536, q_537, q_538⟩ := isOf (T := T_523) hZ_497 e_532 E_519
    obtain ⟨_, _, ⟨T_533, L_533, k_533, n_533⟩, -, X_533, ⟨Lc_533, hQ_533, l_533, y_533, z_533⟩, st_533⟩ := X_523.virtualBack hx (y := M196) (z := M196) hown_497 (mvT hZ_497 (w99 hw)) (mvT hZ_497 (w100 hw)) (notFace_of_selects (args := #[]) (mvT hZ_497 (w102 hw))) (mvT hZ_497 (w102 hw)) (mvT hZ_497 (w101 hw)) (by decide) (backOf (W := 0) (rm_ch_3_0 l Z a0 hw [] G1 G3 HG T_497.heap n0 O_508 a_475 a_484 k_485 (own_lo8 (own_cb p0)) (own_lo8 (own_cb p1)) (own_lo8 (own_cb p2)) E_519 F_520 F_521 V_522) hZ_497 (w103 hw) (w3 hw) (by decide) (by decide)) q_536 q_538 (g := (mkF m 163 #[.val (.int p0), .val (.int p1), .val (.int p2), .val (.int p3), .val (.int (own_cb p0)), .val (.int (own_cb p1)), .val (.int (own_cb p2)), .val (.int (3 : Int32)), .val (.ref a_407), .val (.ref a_475), .val (.ref a_498), .val (.ref a_475)] [(.int (0 : Int32)), (.ref a_475)])) rfl (by rw [hml]; rfl) (Steps.refl _) (argsL := [(.int (0 : Int32))]) (rest := []) (lenOf pd_432 rfl) rfl (by show 2 * 0 + _ ≤ _; exact Nat.le_of_eq rfl) (hb hby at_163) (fun _ _ => ⟨rfl, e_532, (by decide : 8 + 0 ≤ _), (by decide : 38 + 0 ≤ _)⟩)
    dsimp only [Pt.U, Pt.locs, Pt.cells, Pt.slots] at X_533 l_533 y_533 z_533 st_533 hQ_533
    subst l_533 y_533 z_533
    obtain ⟨rfl, N_539, e_540⟩ := hQ_533
    have N_541 := Fr.app N_531 N_539
    have e_542 : T_533.heap = T_497.heap := e_540
    obtain ⟨q_544, q_545, q_546, q_547, q_548⟩ := isOf (T := T_533) hZ_497 e_542 E_519
    obtain ⟨_, _, ⟨T_543, L_543, k_543, n_543⟩, -, X_543, ⟨Lc_543, hQ_543, l_543, y_543, z_543⟩, st_543⟩ := X_533.virtualBack hx (y := M196) (z := M196) hown_497 (mvT hZ_497 (w99 hw)) (mvT hZ_497 (w100 hw)) (notFace_of_selects (args := #[]) (mvT hZ_497 (w102 hw))) (mvT hZ_497 (w102 hw)) (mvT hZ_497 (w101 hw)) (by decide) (backOf (W := 0) (rm_ch_3_1 l Z a0 hw [] G1 G3 HG T_497.heap n0 O_508 a_475 a_484 k_485 (own_lo8 (own_cb p0)) (own_lo8 (own_cb p1)) (own_lo8 (own_cb p2)) E_519 F_520 F_521 V_522) hZ_497 (w103 hw) (w3 hw) (by decide) (by decide)) q_546 q_548 (g := (mkF m 182 #[.val (.int p0), .val (.int p1), .val (.int p2), .val (.int p3), .val (.int (own_cb p0)), .val (.int (own_cb p1)), .val (.int (own_cb p2)), .val (.int (3 : Int32)), .val (.ref a_407), .val (.ref a_475), .val (.ref a_498), .val (.ref a_475)] [(.int (1 : Int32)), (.ref a_475)])) rfl (by rw [hml]; rfl) (Steps.refl _) (argsL := [(.int (1 : Int32))]) (rest := []) (lenOf pd_432 rfl) rfl (by show 2 * 0 + _ ≤ _; exact Nat.le_of_eq rfl) (hb hby at_182) (fun _ _ => ⟨rfl, e_542, (by decide : 8 + 0 ≤ _), (by decide : 38 + 0 ≤ _)⟩)
    dsimp only [Pt.U, Pt.locs, Pt.cells, Pt.slots] at X_543 l_543 y_543 z_543 st_543 hQ_543
    subst l_543 y_543 z_543
    obtain ⟨rfl, N_549, e_550⟩ := hQ_543
    have N_551 := Fr.app N_541 N_549
    have e_552 : T_543.heap = T_497.heap := e_550
    obtain ⟨q_554, q_555, q_556, q_557, q_558⟩ := isOf (T := T_543) hZ_497 e_552 E_519
    obtain ⟨_, _, ⟨T_553, L_553, k_553, n_553⟩, -, X_553, ⟨Lc_553, hQ_553, l_553, y_553, z_553⟩, st_553⟩ := X_543.virtualBack hx (y := M196) (z := M196) hown_497 (mvT hZ_497 (w99 hw)) (mvT hZ_497 (w100 hw)) (notFace_of_selects (args := #[]) (mvT hZ_497 (w102 hw))) (mvT hZ_497 (w102 hw)) (mvT hZ_497 (w101 hw)) (by decide) (backOf (W := 0) (rm_ch_3_2 l Z a0 hw [] G1 G3 HG T_497.heap n0 O_508 a_475 a_484 k_485 (own_lo8 (own_cb p0)) (own_lo8 (own_cb p1)) (own_lo8 (own_cb p2)) E_519 F_520 F_521 V_522) hZ_497 (w103 hw) (w3 hw) (by decide) (by decide)) q_556 q_558 (g := (mkF m 201 #[.val (.int p0), .val (.int p1), .val (.int p2), .val (.int p3), .val (.int (own_cb p0)), .val (.int (own_cb p1)), .val (.int (own_cb p2)), .val (.int (3 : Int32)), .val (.ref a_407), .val (.ref a_475), .val (.ref a_498), .val (.ref a_475)] [(.int (2 : Int32)), (.ref a_475)])) rfl (by rw [hml]; rfl) (Steps.refl _) (argsL := [(.int (2 : Int32))]) (rest := []) (lenOf pd_432 rfl) rfl (by show 2 * 0 + _ ≤ _; exact Nat.le_of_eq rfl) (hb hby at_201) (fun _ _ => ⟨rfl, e_552, (by decide : 8 + 0 ≤ _), (by decide : 38 + 0 ≤ _)⟩)
    dsimp only [Pt.U, Pt.locs, Pt.cells, Pt.slots] at X_553 l_553 y_553 z_553 st_553 hQ_553
    subst l_553 y_553 z_553
    obtain ⟨rfl, N_559, e_560⟩ := hQ_553
    have N_561 := Fr.app N_551 N_559
    have e_562 : T_553.heap = T_497.heap := e_560
    obtain ⟨q_564, q_565, q_566, q_567, q_568⟩ := isOf (T := T_553) hZ_497 e_562 E_519
    obtain ⟨_, _, ⟨T_563, L_563, k_563, n_563⟩, -, X_563, ⟨Lc_563, hQ_563, l_563, y_563, z_563⟩, st_563⟩ := X_553.virtualBack hx (y := M216) (z := M216) hown_497 (mvT hZ_497 (w121 hw)) (mvT hZ_497 (w122 hw)) (notFace_of_selects (args := #[]) (mvT hZ_497 (w124 hw))) (mvT hZ_497 (w124 hw)) (mvT hZ_497 (w123 hw)) (by decide) (backOf (W := 0) (rm_eqself l Z a0 hw [] G1 G3 HG T_497.heap n0 O_508 a_475 ) hZ_497 (w125 hw) (w3 hw) (by decide) (by decide)) q_566 q_568 (g := (mkF m 215 #[.val (.int p0), .val (.int p1), .val (.int p2), .val (.int p3), .val (.int (own_cb p0)), .val (.int (own_cb p1)), .val (.int (own_cb p2)), .val (.int (3 : Int32)), .val (.ref a_407), .val (.ref a_475), .val (.ref a_498), .val (.ref a_475)] [(.ref a_475), (.ref a_475)])) rfl (by rw [hml]; rfl) (Steps.refl _) (argsL := [(.ref a_475)]) (rest := []) (lenOf pd_421 rfl) rfl (by show 2 * 0 + _ ≤ _; exact Nat.le_of_eq rfl) (hb hby at_215) (fun _ _ => ⟨rfl, e_562, (by decide : 8 + 0 ≤ _), (by decide : 38 + 0 ≤ _)⟩)
    dsimp only [Pt.U, Pt.locs, Pt.cells, Pt.slots] at X_563 l_563 y_563 z_563 st_563 hQ_563
    subst l_563 y_563 z_563
    obtain ⟨rfl, N_569, e_570⟩ := hQ_563
    have N_571 := Fr.app N_561 N_569
    have e_572 : T_563.heap = T_497.heap := e_570
    obtain ⟨q_574, q_575, q_576, q_577, q_578⟩ := isOf (T := T_563) hZ_497 e_572 g_502
    obtain ⟨_, _, ⟨T_573, L_573, k_573, n_573⟩, -, X_573, ⟨Lc_573, hQ_573, l_573, y_573, z_573⟩, st_573⟩ := X_563.virtualBack hx (y := M388) (z := M388) hown_497 (mvT hZ_497 (w126 hw)) (mvT hZ_497 (w127 hw)) (notFace_of_selects (args := #[]) (mvT hZ_497 (w129 hw))) (mvT hZ_497 (w129 hw)) (mvT hZ_497 (w128 hw)) (by decide) (backOf (W := 0) (rm_gf l Z a0 hw [] G1 G3 HG T_497.heap n0 O_508 a_498 g_504) hZ_497 (w130 hw) (w32 hw) (by decide) (by decide)) q_576 q_578 (g := (mkF m 223 #[.val (.int p0), .val (.int p1), .val (.int p2), .val (.int p3), .val (.int (own_cb p0)), .val (.int (own_cb p1)), .val (.int (own_cb p2)), .val (.int (3 : Int32)), .val (.ref a_407), .val (.ref a_475), .val (.ref a_498), .val (.ref a_475)] [(.ref a_498)])) rfl (by rw [hml]; rfl) (Steps.refl _) (argsL := []) (rest := []) (lenOf pd_415 rfl) rfl (by show 2 * 0 + _ ≤ _; exact Nat.le_of_eq rfl) (hb hby at_223) (fun _ _ => ⟨rfl, e_572, (by decide : 8 + 0 ≤ _), (by decide : 38 + 0 ≤ _)⟩)
    dsimp only [Pt.U, Pt.locs, Pt.cells, Pt.slots] at X_573 l_573 y_573 z_573 st_573 hQ_573
    subst l_573 y_573 z_573
    obtain ⟨rfl, N_579, e_580⟩ := hQ_573
    have N_581 := Fr.app N_571 N_579
    have e_582 : T_573.heap = T_497.heap := e_580
    have C_583 : Steps p.tables e below S0 (T_573.setTop (mkF m 235 #[.val (.int p0), .val (.int p1), .val (.int p2), .val (.int p3), .val (.int (own_cb p0)), .val (.int (own_cb p1)), .val (.int (own_cb p2)), .val (.int (3 : Int32)), .val (.ref a_407), .val (.ref a_475), .val (.ref a_498), .val (.ref a_475)] [(.int (1 : Int32))])) := by
      refine C_398.trans ?_
      refine XS.istore X0.here hx rfl (hb hby at_27) rfl (l' := #[.val (.int p0), .val (.int p1), .val (.int p2), .val (.int p3), .val (.int (own_cb p0)), .val (.int (own_cb p1)), .val (.int (own_cb p2)), .val (.int (3 : Int32)), .unset, .unset, .unset, .unset]) rfl ?_
      refine XS.iload X0.here hx rfl (hb hby at_29) rfl ?_
      refine XS.ifYes X0.here hx rfl (pc0 := 31) (pc' := 42) rfl (hb hby at_31) rfl (by decide) (by decide) (by decide) ?_
      refine XS.iload X0.here hx rfl (hb hby at_42) rfl ?_
      refine XS.iconst X0.here hx rfl (hb hby at_44) ?_
      refine XS.icmpYes X0.here hx rfl (pc0 := 45) (pc' := 61) rfl (hb hby at_45) rfl (by decide) (by decide) (by decide) ?_
      refine XS.iload X0.here hx rfl (hb hby at_61) rfl ?_
      refine XS.iconst X0.here hx rfl (hb hby at_63) ?_
      show Steps p.tables e below (s₁.setTop (mkF m 64 #[.val (.int p0), .val (.int p1), .val (.int p2), .val (.int p3), .val (.int (own_cb p0)), .val (.int (own_cb p1)), .val (.int (own_cb p2)), .val (.int (3 : Int32)), .unset, .unset, .unset, .unset] [(.int (2 : Int32)), (.int (3 : Int32))])) _
      refine XS.icmpYes X0.here hx rfl (pc0 := 64) (pc' := 85) rfl (hb hby at_64) rfl (by decide) (by decide) (by decide) ?_
      refine XS.iconst X0.here hx rfl (hb hby at_85) ?_
      refine st_406 _ ?_
      refine XS.dup X_402.here hx rfl (hb hby at_88) rfl rfl ?_
      refine XS.iconst X_402.here hx rfl (hb hby at_89) ?_
      refine XS.iload X_402.here hx rfl (hb hby at_90) rfl ?_
      refine st_425 _ ?_
      refine XS.dup X_422.here hx rfl (hb hby at_93) rfl rfl ?_
      show Steps p.tables e below (T_420.setTop (mkF m 94 #[.val (.int p0), .val (.int p1), .val (.int p2), .val (.int p3), .val (.int (own_cb p0)), .val (.int (own_cb p1)), .val (.int (own_cb p2)), .val (.int (3 : Int32)), .unset, .unset, .unset, .unset] [(.ref a_407), (.ref a_407)])) _
      refine XS.iconst X_422.here hx rfl (hb hby at_94) ?_
      refine XS.iload X_422.here hx rfl (hb hby at_95) rfl ?_
      refine st_443 _ ?_
      refine XS.dup X_440.here hx rfl (hb hby at_98) rfl rfl ?_
      refine XS.iconst X_440.here hx rfl (hb hby at_99) ?_
      refine XS.iload X_440.here hx rfl (hb hby at_100) rfl ?_
      refine st_461 _ ?_
      refine XS.astore X_458.here hx rfl (hb hby at_103) rfl rfl (l' := #[.val (.int p0), .val (.int p1), .val (.int p2), .val (.int p3), .val (.int (own_cb p0)), .val (.int (own_cb p1)), .val (.int (own_cb p2)), .val (.int (3 : Int32)), .val (.ref a_407), .unset, .unset, .unset]) rfl ?_
      show Steps p.tables e below (T_456.setTop (mkF m 105 #[.val (.int p0), .val (.int p1), .val (.int p2), .val (.int p3), .val (.int (own_cb p0)), .val (.int (own_cb p1)), .val (.int (own_cb p2)), .val (.int (3 : Int32)), .val (.ref a_407), .unset, .unset, .unset] [])) _
      refine st_474 _ ?_
      refine XS.dup X_469.here hx rfl (hb hby at_108) rfl rfl ?_
      refine XS.aload X_469.here hx rfl (hb hby at_109) rfl rfl ?_
      refine st_483.trans ?_
      refine XS.astore X_483.here hx rfl (hb hby at_114) rfl rfl (l' := #[.val (.int p0), .val (.int p1), .val (.int p2), .val (.int p3), .val (.int (own_cb p0)), .val (.int (own_cb p1)), .val (.int (own_cb p2)), .val (.int (3 : Int32)), .val (.ref a_407), .val (.ref a_475), .unset, .unset]) rfl ?_
      refine XS.aload X_483.here hx rfl (hb hby at_116) rfl rfl ?_
      refine st_497.trans ?_
      refine XS.astore X_497.here hx rfl (hb hby at_121) rfl rfl (l' := #[.val (.int p0), .val (.int p1), .val (.int p2), .val (.int p3), .val (.int (own_cb p0)), .val (.int (own_cb p1)), .val (.int (own_cb p2)), .val (.int (3 : Int32)), .val (.ref a_407), .val (.ref a_475), .val (.ref a_498), .unset]) rfl ?_
      show Steps p.tables e below (T_497.setTop (mkF m 123 #[.val (.int p0), .val (.int p1), .val (.int p2), .val (.int p3), .val (.int (own_cb p0)), .val (.int (own_cb p1)), .val (.int (own_cb p2)), .val (.int (3 : Int32)), .val (.ref a_407), .val (.ref a_475), .val (.ref a_498), .unset] [])) _
      refine XS.aload X_497.here hx rfl (hb hby at_123) rfl rfl ?_
      refine XS.ifnonnullYes X_497.here hx rfl (pc0 := 125) (pc' := 130) rfl (hb hby at_125) rfl (by decide) (by decide) ?_
      refine XS.aload X_497.here hx rfl (hb hby at_130) rfl rfl ?_
      refine st_509.trans ?_
      refine XS.astore X_509.here hx rfl (hb hby at_135) rfl rfl (l' := #[.val (.int p0), .val (.int p1), .val (.int p2), .val (.int p3), .val (.int (own_cb p0)), .val (.int (own_cb p1)), .val (.int (own_cb p2)), .val (.int (3 : Int32)), .val (.ref a_407), .val (.ref a_475), .val (.ref a_498), .val (.ref a_475)]) rfl ?_
      refine XS.aload X_509.here hx rfl (hb hby at_137) rfl rfl ?_
      refine XS.ifnullNo X_509.here hx rfl (hb hby at_139) rfl ?_
      refine XS.aload X_509.here hx rfl (hb hby at_142) rfl rfl ?_
      show Steps p.tables e below (T_509.setTop (mkF m 144 #[.val (.int p0), .val (.int p1), .val (.int p2), .val (.int p3), .val (.int (own_cb p0)), .val (.int (own_cb p1)), .val (.int (own_cb p2)), .val (.int (3 : Int32)), .val (.ref a_407), .val (.ref a_475), .val (.ref a_498), .val (.ref a_475)] [(.ref a_475)])) _
      refine st_523.trans ?_
      refine XS.iload X_523.here hx rfl (hb hby at_147) rfl ?_
      refine XS.icmpYes X_523.here hx rfl (pc0 := 149) (pc' := 154) rfl (hb hby at_149) rfl (by decide) (by decide) (by decide) ?_
      refine XS.iload X_523.here hx rfl (hb hby at_154) rfl ?_
      refine XS.iconst X_523.here hx rfl (hb hby at_156) ?_
      refine XS.icmpNo X_523.here hx rfl (hb hby at_157) rfl (by decide) ?_
      refine XS.aload X_523.here hx rfl (hb hby at_160) rfl rfl ?_
      refine XS.iconst X_523.here hx rfl (hb hby at_162) ?_
      show Steps p.tables e below (T_523.setTop (mkF m 163 #[.val (.int p0), .val (.int p1), .val (.int p2), .val (.int p3), .val (.int (own_cb p0)), .val (.int (own_cb p1)), .val (.int (own_cb p2)), .val (.int (3 : Int32)), .val (.ref a_407), .val (.ref a_475), .val (.ref a_498), .val (.ref a_475)] [(.int (0 : Int32)), (.ref a_475)])) _
      refine st_533.trans ?_
      refine XS.iload X_533.here hx rfl (hb hby at_166) rfl ?_
      refine XS.icmpYes X_533.here hx rfl (pc0 := 168) (pc' := 173) rfl (hb hby at_168) rfl (ii_eq_t (own_at_says (own_cb_lo p0) (own_cb_hi p0))) (by decide) (by decide) ?_
      refine XS.iload X_533.here hx rfl (hb hby at_173) rfl ?_
      refine XS.iconst X_533.here hx rfl (hb hby at_175) ?_
      refine XS.icmpNo X_533.here hx rfl (hb hby at_176) rfl (by decide) ?_
      refine XS.aload X_533.here hx rfl (hb hby at_179) rfl rfl ?_
      refine XS.iconst X_533.here hx rfl (hb hby at_181) ?_
      show Steps p.tables e below (T_533.setTop (mkF m 182 #[.val (.int p0), .val (.int p1), .val (.int p2), .val (.int p3), .val (.int (own_cb p0)), .val (.int (own_cb p1)), .val (.int (own_cb p2)), .val (.int (3 : Int32)), .val (.ref a_407), .val (.ref a_475), .val (.ref a_498), .val (.ref a_475)] [(.int (1 : Int32)), (.ref a_475)])) _
      refine st_543.trans ?_
      refine XS.iload X_543.here hx rfl (hb hby at_185) rfl ?_
      refine XS.icmpYes X_543.here hx rfl (pc0 := 187) (pc' := 192) rfl (hb hby at_187) rfl (ii_eq_t (own_at_says (own_cb_lo p1) (own_cb_hi p1))) (by decide) (by decide) ?_
      refine XS.iload X_543.here hx rfl (hb hby at_192) rfl ?_
      refine XS.iconst X_543.here hx rfl (hb hby at_194) ?_
      refine XS.icmpNo X_543.here hx rfl (hb hby at_195) rfl (by decide) ?_
      refine XS.aload X_543.here hx rfl (hb hby at_198) rfl rfl ?_
      refine XS.iconst X_543.here hx rfl (hb hby at_200) ?_
      show Steps p.tables e below (T_543.setTop (mkF m 201 #[.val (.int p0), .val (.int p1), .val (.int p2), .val (.int p3), .val (.int (own_cb p0)), .val (.int (own_cb p1)), .val (.int (own_cb p2)), .val (.int (3 : Int32)), .val (.ref a_407), .val (.ref a_475), .val (.ref a_498), .val (.ref a_475)] [(.int (2 : Int32)), (.ref a_475)])) _
      refine st_553.trans ?_
      refine XS.iload X_553.here hx rfl (hb hby at_204) rfl ?_
      refine XS.icmpYes X_553.here hx rfl (pc0 := 206) (pc' := 211) rfl (hb hby at_206) rfl (ii_eq_t (own_at_says (own_cb_lo p2) (own_cb_hi p2))) (by decide) (by decide) ?_
      refine XS.aload X_553.here hx rfl (hb hby at_211) rfl rfl ?_
      refine XS.aload X_553.here hx rfl (hb hby at_213) rfl rfl ?_
      refine st_563.trans ?_
      refine XS.ifNo X_563.here hx rfl (hb hby at_218) rfl (by decide) ?_
      refine XS.aload X_563.here hx rfl (hb hby at_221) rfl rfl ?_
      show Steps p.tables e below (T_563.setTop (mkF m 223 #[.val (.int p0), .val (.int p1), .val (.int p2), .val (.int p3), .val (.int (own_cb p0)), .val (.int (own_cb p1)), .val (.int (own_cb p2)), .val (.int (3 : Int32)), .val (.ref a_407), .val (.ref a_475), .val (.ref a_498), .val (.ref a_475)] [(.ref a_498)])) _
      refine st_573.trans ?_
      refine XS.iconst X_573.here hx rfl (hb hby at_226) ?_
      refine XS.icmpNo X_573.here hx rfl (hb hby at_227) rfl (by decide) ?_
      refine XS.iconst X_573.here hx rfl (hb hby at_230) ?_
      refine XS.goto X_573.here hx rfl (pc0 := 231) (pc' := 235) rfl (hb hby at_231) (by decide) (by decide) ?_
      exact Steps.refl _
    have K_584 : Keep h0 T_497.heap [] := ((((((((Keep.refl _ _).ext E_404).wr W_424 (Or.inr (Nat.le_trans (Nat.le_refl _) (Nat.le_of_eq g_408.symm)))).wr W_442 (Or.inr (Nat.le_trans (Nat.le_refl _) (Nat.le_of_eq g_408.symm)))).wr W_460 (Or.inr (Nat.le_trans (Nat.le_refl _) (Nat.le_of_eq g_408.symm)))).ext E_471).trans K_487 (allS (Or.inr (Nat.le_trans (Nat.le_trans (Nat.le_trans (Nat.le_trans E_404.1 (Keep.of_wr W_424).1) (Keep.of_wr W_442).1) (Keep.of_wr W_460).1) (Nat.le_of_eq g_476.symm))) all0)).trans K_500 all0)
    obtain ⟨fs, hr, hrun, hended, hRE⟩ := X_573.leaveW hS_497 (by rw [show T_573.heap = T_497.heap from e_582]; exact (Nat.le_refl _)) (v := some (.int (1 : Int32))) (fun h => by rw [Bd.returns] at h; cases h)
    refine ⟨_, _, C_583.trans (retN X_573 hx (t := .boolean) Bd.returns (by simp) (hb hby at_235) hr), hrun, hended, _, _, rfl, ?_, ?_, hRE.1, hRE.2.1, hRE.2.2.1, hRE.2.2.2.mono (by decide) (by decide)⟩
    · show Q_law Z G1 G3 p0 p1 p2 p3 h0 n0 (some (.int (1 : Int32))) T_573.heap _
      rw [e_582]
      exact ⟨rfl, N_581, K_584⟩
    · show CHr Z consts_1 s.vm s.heap T_573.vm T_573.heap
      rw [hh, show T_573.heap = T_497.heap from e_582]
      exact CR_507.trans (CHv.at X_573 hZ_497 hEL CH_506)
theorem own_sta {s : State} {args : Array Value} {C n d K : String} (hx : (Jvm.Cond.exactly (.static C n d) K).value args s none s [] = some true) (hi : (Jvm.Cond.initialized C).before args s = true) (hl : (Jvm.Cond.laysStatic C n d).before args s = true) :
    ∃ a, Sta s s.heap C n d (.ref a) ∧ Exa s s.heap a K ∧ (Term.static C n d).eval args s none [] s = some (.ref a) := by
  obtain ⟨a, c', cell, k, e1, -⟩ := Cond.exactly_spec (Cond.before_iff.mpr hx)
  exact ⟨a, Sta.start e1 (Or.inr ⟨hi, hl⟩), Exa.start e1 hx, e1⟩
theorem own_fld {s : State} {args : Array Value} {t : Term} {a : Addr} {O n d : String} {v : Value} (ev : t.eval args s none [] s = some (.ref a)) (h : (Term.field t O n d).eval args s none [] s = some v) : Fld s s.heap a O n d v :=
  Fld.start (by simpa [Term.eval, ev] using h)
theorem own_fldI {s : State} {args : Array Value} {t : Term} {a : Addr} {O n d : String} {i : Int32} (ev : t.eval args s none [] s = some (.ref a)) (h : (Jvm.Cond.eq (Term.field t O n d) (.int i)).value args s none s [] = some true) : Fld s s.heap a O n d (.int i) :=
  own_fld ev (eqv_i (Term.int_eval i) h)
set_option maxRecDepth 65536 in
set_option maxHeartbeats 40000000 in
theorem comes_1 {Post : Tables → Env → Array Value → State → Outcome → State → Prop} (hpost : ∀ tb e args s v u, (limb_1_1.after args s (.returned v) u = true ∧ limb_1_2.after args s (.returned v) u = true ∧ True) → ReturnedEndW s (.returned v) u (Jvm.fieldLocs frame_1_writes args s ++ Jvm.arrayLocs frame_1_arrays args s ++ Jvm.staticLocs frame_1_statics s) 24 2176 → Post tb e args s (.returned v) u) :
    ArmFor flags0 classFile x code maxLocals ret World_1 tables_1 room_1 Calls_1 rest_1 Pre_1 Post := by
  intro l hfl _ _ p e ha hc hk s m args below hf hA hF happ hP
  obtain ⟨hcalls, hrest, hpre⟩ := hP
  obtain ⟨-, -, -, hnamed, -, -, -, hat⟩ := (Spec.applies_iff hf).mp happ
  obtain ⟨hg, hn⟩ := and_e (Cond.before_iff.mp (show (Jvm.Cond.and given_1 narrow_1).before args s = true from hpre))
  obtain ⟨h1, g0⟩ := and_e hg
  obtain ⟨a0, g1⟩ := and_e g0
  obtain ⟨a1, g2⟩ := and_e g1
  obtain ⟨a2, g3⟩ := and_e g2
  have a3 := g3
  obtain ⟨w0, w1, w2, w3, rfl⟩ : ∃ w0 w1 w2 w3 : Value, args = #[w0, w1, w2, w3] := by
    have hs : args.size = 4 := by simpa [Cond.value, given_1] using h1
    obtain ⟨L⟩ := args
    match L, hs with
    | [w0, w1, w2, w3], _ => exact ⟨w0, w1, w2, w3, rfl⟩
  have hw := fun d (hd : d ∈ tables_1) => atoms_spec (ws := Jvm.Cond.code x code maxLocals ret :: tables_1) hat d (List.mem_cons_of_mem _ hd)
  obtain ⟨hsets, hown0⟩ := atoms_of _ (rest_1_c_eq ▸ (show rest_1_c.before _ s = true from hrest))
  have hfit : Fit s := fun {y c} hc i hi => by
    obtain ⟨ha, rfl⟩ := Array.getElem?_eq_some_iff.mp hc
    have q := List.all_eq_true.mp ((Array.all_eq_true_iff_forall_mem.mp hF) _ (Array.getElem_mem ha)) i (List.mem_range.mpr hi)
    simpa [Array.getElem?_eq_getElem hi] using q
  obtain ⟨i0, q0⟩ := is_v a0
  obtain rfl : w0 = (.int i0) := Option.some.inj q0
  obtain ⟨i1, q1⟩ := is_v a1
  obtain rfl : w1 = (.int i1) := Option.some.inj q1
  obtain ⟨i2, q2⟩ := is_v a2
  obtain rfl : w2 = (.int i2) := Option.some.inj q2
  obtain ⟨i3, q3⟩ := is_v a3
  obtain rfl : w3 = (.int i3) := Option.some.inj q3
  obtain ⟨iCS, eCS⟩ := is_v (Cond.before_iff.mp (hsets _ (List.mem_of_getElem? (i := 1) rfl)))
  have SCS : Sta s s.heap "java/lang/String" "COMPACT_STRINGS" "Z" (.int iCS) := Sta.start eCS (Or.inl (hsets _ (List.mem_of_getElem? (i := 0) rfl)))
  have PCS : ¬ (iCS = (0 : Int32)) := gotF (Cond.eq_ints eCS (Term.int_eval (0))) (not_v (Cond.before_iff.mp (hsets _ (List.mem_of_getElem? (i := 2) rfl))))
  obtain ⟨vF, eF, rF⟩ := isR_v (Cond.before_iff.mp (hsets _ (List.mem_of_getElem? (i := 8) rfl)))
  have SF : Sta s s.heap "jdk/internal/util/Preconditions" "SIOOBE_FORMATTER" "Ljava/util/function/BiFunction;" vF := Sta.start eF (Or.inl (hsets _ (List.mem_of_getElem? (i := 7) rfl)))
  have HG : own_G l s #[(.int i0), (.int i1), (.int i2), (.int i3)] iCS vF := ⟨SCS, PCS, SF, rF⟩
  have CH : CHv s consts_1 s.vm s.heap := CHv.start (own_EL hw) hcalls.1 (hsets _ (List.mem_of_getElem? (i := 2) rfl)) (hw _ (List.mem_of_getElem? (i := 19) rfl)) (hw _ (List.mem_of_getElem? (i := 2) rfl))
  obtain ⟨n, o, h1, h2, h3, _, L, rfl, ⟨rfl, N, -⟩, -, hq⟩ := rm_law l s _ hw tables_1 iCS vF HG s.heap s.heap.size (Old.start s) i0 i1 i2 i3 p e ha hc hk s m _ below hf ((Spec.applies_iff_loose hf).mp happ).1 ⟨rfl, State.Warmed39.refl s, rfl, CH⟩ trivial
  refine ⟨n, _, h1, h2, h3, hpost _ _ _ _ _ _ ⟨Cond.after_iff.mpr rfl, Cond.after_iff.mpr (eq_i res_at (Term.int_eval (1)) rfl), trivial⟩ ⟨hq.1, hq.2.1, hq.2.2.1, (hq.2.2.2.sift fun y hy => Or.inr (N y hy)).mono (by decide) (by decide)⟩⟩
theorem main_1_1 : Claimed_1_1 := comes_1 fun _ _ _ _ _ _ h hF => ⟨h.1, hF⟩
theorem main_1_2 : Claimed_1_2 := comes_1 fun _ _ _ _ _ _ h hF => ⟨h.2.1, hF⟩
end Jvm.Pilot.@@N@@
namespace Jvm.Pilot.@@N@@
open Jvm Jvm.ClassFile Sem Op Lib Jvm.Free Jvm.Stand Jvm.Pilot.@@N@@.Jvm.D
/-! MADE BY PROGRAM (witnessworld.py) out of the Statement's table words and the real class files: 24 classes; the members and pool entries that the words name. The judged class is class 1, her method 1. -/
namespace start1
open Jvm.ClassFile
def u (s : String) : CpInfo := .utf8 (stringToUtf16 s)
/-- a pool by its gaps: so many unusable entries, then the entry; so many at the end -/
def gap : Nat → List CpInfo → List CpInfo
  | 0, r => r
  | n + 1, r => .unusable :: gap n r
def poolList (es : List (Nat × CpInfo)) (last : Nat) : List CpInfo := es.foldr (fun e r => gap e.1 (e.2 :: r)) (gap last [])
def pool (es : List (Nat × CpInfo)) (last : Nat) : Array CpInfo := ⟨poolList es last⟩
def fileOf (pool : Array CpInfo) (this : Nat) (attrs : Array Attribute := #[]) (ms : Array MethodInfo := #[]) (fl : Nat := 33) (sup : Nat := 0) (ifs : Array Nat := #[]) (fds : Array FieldInfo := #[]) : ClassFile where
  minorVersion := 0
  majorVersion := 65
  constantPool := pool
  accessFlags := fl
  thisClass := this
  superClass := sup
  interfaces := ifs
  fields := fds
  methods := ms
  attributes := attrs
def plain (name : String) (sup : Option ClassId) : Class where
  name := name
  kind := .ordinary
  loader := none
  accessFlags := 33
  super := sup
  interfaces := #[]
  cf := none
  fields := #[]
  methods := #[]
  instanceTypes := #[]
  staticTypes := #[]
  resolved := #[]
  callSites := []
  init := .initialized
  statics := none
  mirror := none

def pool0 : Array CpInfo := pool [(5, u "<init>"), (0, u "()V"), (1, .class_ 10), (1, u "java/lang/Object")] 113

def k0c0 : Code := { maxStack := 0, maxLocals := 1, code := object_method_1_code, exceptionTable := #[], attributes := #[] }
def k0m0 : Method := { name := "<init>", desc := "()V", sig := { parameters := [], returnType := none }, accessFlags := 1, code := some k0c0 }
/-- java/lang/Object -/
def k0 : Class := { plain "java/lang/Object" none with
  accessFlags := 33
  interfaces := #[]
  cf := some (fileOf pool0 8 #[] #[{ accessFlags := 1, nameIndex := 5, descriptorIndex := 6, attributes := #[] }] 33 0 #[] #[])
  fields := #[]
  methods := #[k0m0]
  instanceTypes := #[]
  staticTypes := #[]
  resolved := Array.replicate 124 none
  statics := none }

def pool1 : Array CpInfo := pool [(2, .class_ 4), (1, u "java/lang/Object"), (0, u "<init>"), (0, u "()V"), (0, .class_ 8), (0, u "java/lang/String"), (0, .methodref 7 10), (0, .nameAndType 5 11), (0, u "([C)V"), (0, .methodref 13 14), (0, .class_ 15), (0, .nameAndType 16 17), (0, u "com/example/expiring_state/expiringstate/LoginLockout$Rules"), (0, u "of"), (0, u "(Ljava/lang/String;)Lcom/example/expiring_state/expiringstate/LoginLockout$Rules;"), (0, .methodref 13 19), (0, .nameAndType 20 21), (0, u "name"), (0, u "()Ljava/lang/String;"), (0, .methodref 7 23), (0, .nameAndType 24 25), (0, u "length"), (0, u "()I"), (0, .methodref 7 27), (0, .nameAndType 28 29), (0, u "charAt"), (0, u "(I)C"), (0, .methodref 7 31), (0, .nameAndType 32 33), (0, u "equals"), (0, u "(Ljava/lang/Object;)Z"), (0, .methodref 13 35), (0, .nameAndType 36 25), (0, u "failures"), (0, .class_ 38), (0, u "com/example/expiring_state/expiringstate/RulesOf297PinLaw"), (2, u "law"), (0, u "(IIII)Z")] 9

def k1m0 : Method := { name := "<init>", desc := "()V", sig := { parameters := [], returnType := none }, accessFlags := 1, code := none }
def k1c1 : Code := { maxStack := 4, maxLocals := 12, code := code, exceptionTable := #[], attributes := #[] }
def k1m1 : Method := { name := "law", desc := "(IIII)Z", sig := { parameters := [.int, .int, .int, .int], returnType := some .boolean }, accessFlags := 9, code := some k1c1 }
/-- com/example/expiring_state/expiringstate/RulesOf297PinLaw -/
def k1 : Class := { plain "com/example/expiring_state/expiringstate/RulesOf297PinLaw" (some 0) with
  accessFlags := 49
  interfaces := #[]
  cf := some (fileOf pool1 37 #[] #[{ accessFlags := 1, nameIndex := 5, descriptorIndex := 6, attributes := #[] }, { accessFlags := 9, nameIndex := 41, descriptorIndex := 42, attributes := #[] }] 49 2 #[] #[])
  fields := #[]
  methods := #[k1m0, k1m1]
  instanceTypes := #[]
  staticTypes := #[]
  resolved := Array.replicate 52 none
  statics := none }

def pool2 : Array CpInfo := pool [(1, .class_ 2), (0, u "java/io/Serializable"), (0, .class_ 4), (0, u "java/lang/Object")] 2

/-- java/io/Serializable -/
def k2 : Class := { plain "java/io/Serializable" (some 0) with
  accessFlags := 1537
  interfaces := #[]
  cf := some (fileOf pool2 1 #[] #[] 1537 3 #[] #[])
  fields := #[]
  methods := #[]
  instanceTypes := #[]
  staticTypes := #[]
  resolved := Array.replicate 7 none
  statics := none }

def pool3 : Array CpInfo := pool [(1, .class_ 2), (0, u "java/lang/Comparable"), (0, .class_ 4), (0, u "java/lang/Object")] 7

/-- java/lang/Comparable -/
def k3 : Class := { plain "java/lang/Comparable" (some 0) with
  accessFlags := 1537
  interfaces := #[]
  cf := some (fileOf pool3 1 #[] #[] 1537 3 #[] #[])
  fields := #[]
  methods := #[]
  instanceTypes := #[]
  staticTypes := #[]
  resolved := Array.replicate 12 none
  statics := none }

def pool4 : Array CpInfo := pool [(2, .class_ 4), (1, u "java/lang/CharSequence"), (42, .class_ 48), (0, u "java/lang/CharSequence$1CodePointIterator"), (10, .class_ 60), (0, u "java/lang/CharSequence$1CharIterator"), (5, .class_ 67), (0, u "java/lang/Object")] 63

/-- java/lang/CharSequence -/
def k4 : Class := { plain "java/lang/CharSequence" (some 0) with
  accessFlags := 1537
  interfaces := #[]
  cf := some (fileOf pool4 2 #[.nestMembers #[47, 59]] #[] 1537 66 #[] #[])
  fields := #[]
  methods := #[]
  instanceTypes := #[]
  staticTypes := #[]
  resolved := Array.replicate 131 none
  statics := none }

def pool5 : Array CpInfo := pool [(1, .class_ 2), (0, u "java/lang/constant/Constable"), (0, .class_ 4), (0, u "java/lang/Object")] 6

/-- java/lang/constant/Constable -/
def k5 : Class := { plain "java/lang/constant/Constable" (some 0) with
  accessFlags := 1537
  interfaces := #[]
  cf := some (fileOf pool5 1 #[] #[] 1537 3 #[] #[])
  fields := #[]
  methods := #[]
  instanceTypes := #[]
  staticTypes := #[]
  resolved := Array.replicate 11 none
  statics := none }

def pool6 : Array CpInfo := pool [(1, .class_ 2), (0, u "java/lang/constant/ConstantDesc"), (0, .class_ 4), (0, u "java/lang/Object")] 32

/-- java/lang/constant/ConstantDesc -/
def k6 : Class := { plain "java/lang/constant/ConstantDesc" (some 0) with
  accessFlags := 1537
  interfaces := #[]
  cf := some (fileOf pool6 1 #[] #[] 1537 3 #[] #[])
  fields := #[]
  methods := #[]
  instanceTypes := #[]
  staticTypes := #[]
  resolved := Array.replicate 37 none
  statics := none }

def pool7 : Array CpInfo := pool [(1, .methodref 2 3), (0, .class_ 4), (0, .nameAndType 5 6), (0, u "java/lang/Object"), (0, u "<init>"), (0, u "()V"), (0, .string 8), (0, u ""), (0, .fieldref 10 11), (0, .class_ 12), (0, .nameAndType 13 14), (0, u "java/lang/String"), (0, u "value"), (0, u "[B"), (0, .fieldref 10 16), (0, .nameAndType 17 18), (0, u "coder"), (0, u "B"), (2, u "hash"), (0, u "I"), (2, u "hashIsZero"), (0, u "Z"), (0, .methodref 10 28), (0, .nameAndType 5 29), (0, u "([CIILjava/lang/Void;)V"), (8, .fieldref 10 39), (0, .nameAndType 40 26), (0, u "COMPACT_STRINGS"), (1, .class_ 44), (1, u "java/lang/StringUTF16"), (0, u "compress"), (1, .methodref 42 48), (0, .nameAndType 49 50), (0, u "coderFromArrayLen"), (0, u "([BI)B"), (56, .class_ 109), (1, u "java/lang/StringLatin1"), (32, u "()Z"), (34, .methodref 42 178), (0, .nameAndType 45 179), (0, u "([CII)[B"), (154, u "()I"), (0, .methodref 10 336), (0, .nameAndType 17 337), (0, u "()B"), (25, u "([BI)C"), (27, u "(II)V"), (35, u "(I)C"), (64, .methodref 10 493), (0, .nameAndType 494 142), (0, u "isLatin1"), (0, .methodref 107 496), (0, .nameAndType 497 363), (0, u "charAt"), (3, u "checkIndex"), (5, u "length"), (35, u "equals"), (29, u "(Ljava/lang/Object;)Z"), (1, .class_ 576), (0, u "java/lang/CharSequence"), (22, u "CASE_INSENSITIVE_ORDER"), (0, u "Ljava/util/Comparator;"), (409, u "([C)V"), (42, .fieldref 1054 1055), (0, .class_ 1056), (0, .nameAndType 1057 1058), (0, u "jdk/internal/util/Preconditions"), (0, u "SIOOBE_FORMATTER"), (0, u "Ljava/util/function/BiFunction;"), (0, .methodref 1054 1060), (0, .nameAndType 501 1061), (0, u "(IILjava/util/function/BiFunction;)I"), (39, u "serialPersistentFields"), (0, u "[Ljava/io/ObjectStreamField;"), (0, .class_ 1104), (0, u "java/lang/String$CaseInsensitiveComparator"), (1, .class_ 1107), (0, u "java/io/Serializable"), (0, .class_ 1109), (0, u "java/lang/Comparable"), (0, .class_ 1111), (0, u "java/lang/constant/Constable"), (0, .class_ 1113), (0, u "java/lang/constant/ConstantDesc"), (2, u "serialVersionUID"), (0, u "J"), (3, u "REPL"), (0, u "C"), (2, u "LATIN1"), (1, u "UTF16")] 323

def k7m0 : Method := { name := "<init>", desc := "()V", sig := { parameters := [], returnType := none }, accessFlags := 1, code := none }
def k7c1 : Code := { maxStack := 5, maxLocals := 2, code := jdk_42_method_3_code, exceptionTable := #[], attributes := #[] }
def k7m1 : Method := { name := "<init>", desc := "([C)V", sig := { parameters := [(.array .char)], returnType := none }, accessFlags := 1, code := some k7c1 }
def k7c2 : Code := { maxStack := 2, maxLocals := 1, code := jdk_42_method_54_code, exceptionTable := #[], attributes := #[] }
def k7m2 : Method := { name := "length", desc := "()I", sig := { parameters := [], returnType := some .int }, accessFlags := 1, code := some k7c2 }
def k7c3 : Code := { maxStack := 2, maxLocals := 2, code := jdk_42_method_56_code, exceptionTable := #[], attributes := #[] }
def k7m3 : Method := { name := "charAt", desc := "(I)C", sig := { parameters := [.int], returnType := some .char }, accessFlags := 1, code := some k7c3 }
def k7c4 : Code := { maxStack := 2, maxLocals := 3, code := jdk_42_method_66_code, exceptionTable := #[], attributes := #[] }
def k7m4 : Method := { name := "equals", desc := "(Ljava/lang/Object;)Z", sig := { parameters := [(.object "java/lang/Object")], returnType := some .boolean }, accessFlags := 1, code := some k7c4 }
def k7c5 : Code := { maxStack := 4, maxLocals := 6, code := jdk_42_method_149_code, exceptionTable := #[], attributes := #[] }
def k7m5 : Method := { name := "<init>", desc := "([CIILjava/lang/Void;)V", sig := { parameters := [(.array .char), .int, .int, (.object "java/lang/Void")], returnType := none }, accessFlags := 2, code := some k7c5 }
def k7c6 : Code := { maxStack := 1, maxLocals := 1, code := jdk_42_method_152_code, exceptionTable := #[], attributes := #[] }
def k7m6 : Method := { name := "coder", desc := "()B", sig := { parameters := [], returnType := some .byte }, accessFlags := 0, code := some k7c6 }
def k7c7 : Code := { maxStack := 1, maxLocals := 1, code := jdk_42_method_154_code, exceptionTable := #[], attributes := #[] }
def k7m7 : Method := { name := "isLatin1", desc := "()Z", sig := { parameters := [], returnType := some .boolean }, accessFlags := 0, code := some k7c7 }
def k7c8 : Code := { maxStack := 3, maxLocals := 2, code := jdk_42_method_155_code, exceptionTable := #[], attributes := #[] }
def k7m8 : Method := { name := "checkIndex", desc := "(II)V", sig := { parameters := [.int, .int], returnType := none }, accessFlags := 8, code := some k7c8 }
/-- java/lang/String -/
def k7 : Class := { plain "java/lang/String" (some 0) with
  accessFlags := 49
  interfaces := #[2, 3, 4, 5, 6]
  cf := some (fileOf pool7 10 #[.nestMembers #[1103]] #[{ accessFlags := 1, nameIndex := 5, descriptorIndex := 6, attributes := #[] }, { accessFlags := 1, nameIndex := 5, descriptorIndex := 1010, attributes := #[] }, { accessFlags := 1, nameIndex := 507, descriptorIndex := 334, attributes := #[] }, { accessFlags := 1, nameIndex := 497, descriptorIndex := 427, attributes := #[] }, { accessFlags := 1, nameIndex := 543, descriptorIndex := 573, attributes := #[] }, { accessFlags := 2, nameIndex := 5, descriptorIndex := 29, attributes := #[] }, { accessFlags := 0, nameIndex := 17, descriptorIndex := 337, attributes := #[] }, { accessFlags := 0, nameIndex := 494, descriptorIndex := 142, attributes := #[] }, { accessFlags := 8, nameIndex := 501, descriptorIndex := 391, attributes := #[] }] 49 2 #[1106, 1108, 575, 1110, 1112] #[{ accessFlags := 18, nameIndex := 13, descriptorIndex := 14, attributes := #[] }, { accessFlags := 18, nameIndex := 17, descriptorIndex := 18, attributes := #[] }, { accessFlags := 2, nameIndex := 21, descriptorIndex := 22, attributes := #[] }, { accessFlags := 2, nameIndex := 25, descriptorIndex := 26, attributes := #[] }, { accessFlags := 26, nameIndex := 1116, descriptorIndex := 1117, attributes := #[] }, { accessFlags := 24, nameIndex := 40, descriptorIndex := 26, attributes := #[] }, { accessFlags := 26, nameIndex := 1101, descriptorIndex := 1102, attributes := #[] }, { accessFlags := 26, nameIndex := 1121, descriptorIndex := 1122, attributes := #[] }, { accessFlags := 25, nameIndex := 599, descriptorIndex := 600, attributes := #[] }, { accessFlags := 24, nameIndex := 1125, descriptorIndex := 18, attributes := #[] }, { accessFlags := 24, nameIndex := 1127, descriptorIndex := 18, attributes := #[] }])
  fields := #[{ name := "value", type := (.array .byte), accessFlags := 18, slot := 0, constantValue := 0 }, { name := "coder", type := .byte, accessFlags := 18, slot := 1, constantValue := 0 }, { name := "hash", type := .int, accessFlags := 2, slot := 2, constantValue := 0 }, { name := "hashIsZero", type := .boolean, accessFlags := 2, slot := 3, constantValue := 0 }, { name := "serialVersionUID", type := .long, accessFlags := 26, slot := 0, constantValue := 0 }, { name := "COMPACT_STRINGS", type := .boolean, accessFlags := 24, slot := 1, constantValue := 0 }, { name := "serialPersistentFields", type := (.array (.object "java/io/ObjectStreamField")), accessFlags := 26, slot := 2, constantValue := 0 }, { name := "REPL", type := .char, accessFlags := 26, slot := 3, constantValue := 0 }, { name := "CASE_INSENSITIVE_ORDER", type := (.object "java/util/Comparator"), accessFlags := 25, slot := 4, constantValue := 0 }, { name := "LATIN1", type := .byte, accessFlags := 24, slot := 5, constantValue := 0 }, { name := "UTF16", type := .byte, accessFlags := 24, slot := 6, constantValue := 0 }]
  methods := #[k7m0, k7m1, k7m2, k7m3, k7m4, k7m5, k7m6, k7m7, k7m8]
  instanceTypes := #[(.array .byte), .byte, .int, .boolean]
  staticTypes := #[.long, .boolean, (.array (.object "java/io/ObjectStreamField")), .char, (.object "java/util/Comparator"), .byte, .byte]
  resolved := Array.replicate 1451 none
  statics := some 0 }

def pool8 : Array CpInfo := pool [(6, .class_ 8), (1, u "java/lang/Object"), (0, u "<init>"), (0, u "()V"), (1, .class_ 14), (1, u "java/lang/StringUTF16"), (31, u "$assertionsDisabled"), (0, u "Z"), (13, u "HI_BYTE_SHIFT"), (0, u "I"), (2, u "LO_BYTE_SHIFT"), (49, .methodref 12 116), (0, .nameAndType 117 118), (0, u "compress"), (0, u "([CI[BII)I"), (3, u "([CII)[B"), (138, u "coderFromArrayLen"), (0, u "([BI)B"), (106, .class_ 371), (1, u "java/lang/StringUTF16$LinesSpliterator"), (58, u "MAX_LENGTH"), (196, .class_ 628), (0, u "java/lang/StringUTF16$CodePointsSpliterator"), (0, .class_ 630), (0, u "java/lang/StringUTF16$CharsSpliterator")] 4

def k8m0 : Method := { name := "<init>", desc := "()V", sig := { parameters := [], returnType := none }, accessFlags := 0, code := none }
def k8c1 : Code := { maxStack := 2, maxLocals := 2, code := jdk_52_method_15_code, exceptionTable := #[], attributes := #[] }
def k8m1 : Method := { name := "coderFromArrayLen", desc := "([BI)B", sig := { parameters := [(.array .byte), .int], returnType := some .byte }, accessFlags := 8, code := some k8c1 }
def k8c2 : Code := { maxStack := 5, maxLocals := 6, code := jdk_52_method_16_code, exceptionTable := #[], attributes := #[] }
def k8m2 : Method := { name := "compress", desc := "([CII)[B", sig := { parameters := [(.array .char), .int, .int], returnType := some (.array .byte) }, accessFlags := 9, code := some k8c2 }
def k8c3 : Code := { maxStack := 3, maxLocals := 7, code := jdk_52_method_21_code, exceptionTable := #[], attributes := #[] }
def k8m3 : Method := { name := "compress", desc := "([CI[BII)I", sig := { parameters := [(.array .char), .int, (.array .byte), .int, .int], returnType := some .int }, accessFlags := 9, code := some k8c3 }
/-- java/lang/StringUTF16 -/
def k8 : Class := { plain "java/lang/StringUTF16" (some 0) with
  accessFlags := 48
  interfaces := #[]
  cf := some (fileOf pool8 12 #[.nestMembers #[627, 629, 369]] #[{ accessFlags := 0, nameIndex := 9, descriptorIndex := 10, attributes := #[] }, { accessFlags := 8, nameIndex := 261, descriptorIndex := 262, attributes := #[] }, { accessFlags := 9, nameIndex := 117, descriptorIndex := 122, attributes := #[] }, { accessFlags := 9, nameIndex := 117, descriptorIndex := 118, attributes := #[] }] 48 6 #[] #[{ accessFlags := 26, nameIndex := 61, descriptorIndex := 62, attributes := #[] }, { accessFlags := 26, nameIndex := 65, descriptorIndex := 62, attributes := #[] }, { accessFlags := 24, nameIndex := 430, descriptorIndex := 62, attributes := #[] }, { accessFlags := 4120, nameIndex := 46, descriptorIndex := 47, attributes := #[] }])
  fields := #[{ name := "HI_BYTE_SHIFT", type := .int, accessFlags := 26, slot := 0, constantValue := 0 }, { name := "LO_BYTE_SHIFT", type := .int, accessFlags := 26, slot := 1, constantValue := 0 }, { name := "MAX_LENGTH", type := .int, accessFlags := 24, slot := 2, constantValue := 0 }, { name := "$assertionsDisabled", type := .boolean, accessFlags := 4120, slot := 3, constantValue := 0 }]
  methods := #[k8m0, k8m1, k8m2, k8m3]
  instanceTypes := #[]
  staticTypes := #[.int, .int, .int, .boolean]
  resolved := Array.replicate 635 none
  statics := none }

def pool9 : Array CpInfo := pool [(1, .methodref 2 3), (0, .class_ 4), (0, .nameAndType 5 6), (0, u "java/lang/Object"), (0, u "<init>"), (0, u "()V"), (0, .fieldref 8 9), (0, .class_ 10), (0, .nameAndType 11 12), (0, u "com/example/expiring_state/expiringstate/LoginLockout$Rules"), (0, u "name"), (0, u "Ljava/lang/String;"), (0, .fieldref 8 14), (0, .nameAndType 15 16), (0, u "failures"), (0, u "I"), (0, .fieldref 8 18), (0, .nameAndType 19 20), (0, u "window"), (0, u "Ljava/time/Duration;"), (0, .fieldref 8 22), (0, .nameAndType 23 20), (0, u "lock"), (0, .string 11), (0, .methodref 26 27), (0, .class_ 28), (0, .nameAndType 29 30), (0, u "java/util/Objects"), (0, u "requireNonNull"), (0, u "(Ljava/lang/Object;Ljava/lang/String;)Ljava/lang/Object;"), (0, .long 15), (1, .methodref 34 35), (0, .class_ 36), (0, .nameAndType 37 38), (0, u "java/time/Duration"), (0, u "ofMinutes"), (0, u "(J)Ljava/time/Duration;"), (0, .methodref 8 40), (0, .nameAndType 5 41), (0, u "(Ljava/lang/String;ILjava/time/Duration;Ljava/time/Duration;)V"), (35, u "of"), (0, u "(Ljava/lang/String;)Lcom/example/expiring_state/expiringstate/LoginLockout$Rules;"), (6, u "()Ljava/lang/String;"), (0, u "()I"), (5, .class_ 93), (0, u "com/example/expiring_state/expiringstate/LoginLockout")] 2

def k9c0 : Code := { maxStack := 2, maxLocals := 5, code := prog_31_method_1_code, exceptionTable := #[], attributes := #[] }
def k9m0 : Method := { name := "<init>", desc := "(Ljava/lang/String;ILjava/time/Duration;Ljava/time/Duration;)V", sig := { parameters := [(.object "java/lang/String"), .int, (.object "java/time/Duration"), (.object "java/time/Duration")], returnType := none }, accessFlags := 2, code := some k9c0 }
def k9c1 : Code := { maxStack := 7, maxLocals := 1, code := prog_31_method_2_code, exceptionTable := #[], attributes := #[] }
def k9m1 : Method := { name := "of", desc := "(Ljava/lang/String;)Lcom/example/expiring_state/expiringstate/LoginLockout$Rules;", sig := { parameters := [(.object "java/lang/String")], returnType := some (.object "com/example/expiring_state/expiringstate/LoginLockout$Rules") }, accessFlags := 9, code := some k9c1 }
def k9c2 : Code := { maxStack := 1, maxLocals := 1, code := prog_31_method_6_code, exceptionTable := #[], attributes := #[] }
def k9m2 : Method := { name := "name", desc := "()Ljava/lang/String;", sig := { parameters := [], returnType := some (.object "java/lang/String") }, accessFlags := 1, code := some k9c2 }
def k9c3 : Code := { maxStack := 1, maxLocals := 1, code := prog_31_method_7_code, exceptionTable := #[], attributes := #[] }
def k9m3 : Method := { name := "failures", desc := "()I", sig := { parameters := [], returnType := some .int }, accessFlags := 1, code := some k9c3 }
/-- com/example/expiring_state/expiringstate/LoginLockout$Rules -/
def k9 : Class := { plain "com/example/expiring_state/expiringstate/LoginLockout$Rules" (some 0) with
  accessFlags := 49
  interfaces := #[]
  cf := some (fileOf pool9 8 #[.nestHost 92] #[{ accessFlags := 2, nameIndex := 5, descriptorIndex := 41, attributes := #[] }, { accessFlags := 9, nameIndex := 77, descriptorIndex := 78, attributes := #[] }, { accessFlags := 1, nameIndex := 11, descriptorIndex := 85, attributes := #[] }, { accessFlags := 1, nameIndex := 15, descriptorIndex := 86, attributes := #[] }] 49 2 #[] #[{ accessFlags := 18, nameIndex := 11, descriptorIndex := 12, attributes := #[] }, { accessFlags := 18, nameIndex := 15, descriptorIndex := 16, attributes := #[] }, { accessFlags := 18, nameIndex := 19, descriptorIndex := 20, attributes := #[] }, { accessFlags := 18, nameIndex := 23, descriptorIndex := 20, attributes := #[] }])
  fields := #[{ name := "name", type := (.object "java/lang/String"), accessFlags := 18, slot := 0, constantValue := 0 }, { name := "failures", type := .int, accessFlags := 18, slot := 1, constantValue := 0 }, { name := "window", type := (.object "java/time/Duration"), accessFlags := 18, slot := 2, constantValue := 0 }, { name := "lock", type := (.object "java/time/Duration"), accessFlags := 18, slot := 3, constantValue := 0 }]
  methods := #[k9m0, k9m1, k9m2, k9m3]
  instanceTypes := #[(.object "java/lang/String"), .int, (.object "java/time/Duration"), (.object "java/time/Duration")]
  staticTypes := #[]
  resolved := Array.replicate 96 none
  statics := none }

def pool10 : Array CpInfo := pool [(2, .class_ 4), (1, u "java/lang/Object"), (0, u "<init>"), (0, u "()V"), (35, .class_ 44), (1, u "java/util/Objects"), (0, u "requireNonNull"), (48, u "(Ljava/lang/Object;Ljava/lang/String;)Ljava/lang/Object;")] 89

def k10m0 : Method := { name := "<init>", desc := "()V", sig := { parameters := [], returnType := none }, accessFlags := 2, code := none }
def k10c1 : Code := { maxStack := 3, maxLocals := 2, code := jdk_31_method_11_code, exceptionTable := #[], attributes := #[] }
def k10m1 : Method := { name := "requireNonNull", desc := "(Ljava/lang/Object;Ljava/lang/String;)Ljava/lang/Object;", sig := { parameters := [(.object "java/lang/Object"), (.object "java/lang/String")], returnType := some (.object "java/lang/Object") }, accessFlags := 9, code := some k10c1 }
/-- java/util/Objects -/
def k10 : Class := { plain "java/util/Objects" (some 0) with
  accessFlags := 49
  interfaces := #[]
  cf := some (fileOf pool10 42 #[] #[{ accessFlags := 2, nameIndex := 5, descriptorIndex := 6, attributes := #[] }, { accessFlags := 9, nameIndex := 45, descriptorIndex := 94, attributes := #[] }] 49 2 #[] #[])
  fields := #[]
  methods := #[k10m0, k10m1]
  instanceTypes := #[]
  staticTypes := #[]
  resolved := Array.replicate 184 none
  statics := none }

def pool11 : Array CpInfo := pool [(1, .class_ 2), (0, u "java/time/temporal/TemporalAmount"), (0, .class_ 4), (0, u "java/lang/Object")] 11

/-- java/time/temporal/TemporalAmount -/
def k11 : Class := { plain "java/time/temporal/TemporalAmount" (some 0) with
  accessFlags := 1537
  interfaces := #[]
  cf := some (fileOf pool11 1 #[] #[] 1537 3 #[] #[])
  fields := #[]
  methods := #[]
  instanceTypes := #[]
  staticTypes := #[]
  resolved := Array.replicate 16 none
  statics := none }

def pool12 : Array CpInfo := pool [(4, .methodref 5 6), (0, .class_ 7), (0, .nameAndType 8 9), (0, u "java/lang/Math"), (0, u "multiplyExact"), (0, u "(JI)J"), (0, .methodref 11 12), (0, .class_ 13), (0, .nameAndType 14 15), (0, u "java/time/Duration"), (0, u "create"), (0, u "(JI)Ljava/time/Duration;"), (18, u "ZERO"), (0, u "Ljava/time/Duration;"), (13, .class_ 51), (1, u "java/time/temporal/TemporalAmount"), (27, .class_ 81), (1, u "java/time/Duration$Lazy"), (35, u "seconds"), (21, u "<init>"), (17, .nameAndType 139 158), (0, u "()V"), (40, u "(J)Ljava/time/Duration;"), (15, .methodref 11 216), (0, .nameAndType 139 217), (0, u "(JI)V"), (0, .methodref 219 157), (0, .class_ 220), (0, u "java/lang/Object"), (0, .fieldref 11 222), (0, .nameAndType 117 223), (0, u "J"), (0, .fieldref 11 225), (0, .nameAndType 226 227), (0, u "nanos"), (0, u "I"), (11, .class_ 241), (1, u "java/time/Duration$DurationUnits"), (27, .class_ 271), (1, u "java/time/Duration$1"), (91, u "BI_NANOS_PER_SECOND"), (0, u "Ljava/math/BigInteger;"), (120, .class_ 486), (0, u "java/lang/Comparable"), (0, .class_ 488), (0, u "java/io/Serializable"), (0, u "serialVersionUID"), (8, u "ofMinutes")] 157

def k12c0 : Code := { maxStack := 3, maxLocals := 2, code := jdk_2316_method_3_code, exceptionTable := #[], attributes := #[] }
def k12m0 : Method := { name := "ofMinutes", desc := "(J)Ljava/time/Duration;", sig := { parameters := [.long], returnType := some (.object "java/time/Duration") }, accessFlags := 9, code := some k12c0 }
def k12c1 : Code := { maxStack := 5, maxLocals := 3, code := jdk_2316_method_16_code, exceptionTable := #[], attributes := #[] }
def k12m1 : Method := { name := "create", desc := "(JI)Ljava/time/Duration;", sig := { parameters := [.long, .int], returnType := some (.object "java/time/Duration") }, accessFlags := 10, code := some k12c1 }
def k12c2 : Code := { maxStack := 3, maxLocals := 4, code := jdk_2316_method_17_code, exceptionTable := #[], attributes := #[] }
def k12m2 : Method := { name := "<init>", desc := "(JI)V", sig := { parameters := [.long, .int], returnType := none }, accessFlags := 2, code := some k12c2 }
/-- java/time/Duration -/
def k12 : Class := { plain "java/time/Duration" (some 0) with
  accessFlags := 49
  interfaces := #[11, 3, 2]
  cf := some (fileOf pool12 11 #[.nestMembers #[269, 239, 79]] #[{ accessFlags := 9, nameIndex := 498, descriptorIndex := 199, attributes := #[] }, { accessFlags := 10, nameIndex := 14, descriptorIndex := 15, attributes := #[] }, { accessFlags := 2, nameIndex := 139, descriptorIndex := 217, attributes := #[] }] 49 219 #[49, 485, 487] #[{ accessFlags := 25, nameIndex := 34, descriptorIndex := 35, attributes := #[] }, { accessFlags := 26, nameIndex := 489, descriptorIndex := 223, attributes := #[] }, { accessFlags := 26, nameIndex := 363, descriptorIndex := 364, attributes := #[] }, { accessFlags := 18, nameIndex := 117, descriptorIndex := 223, attributes := #[] }, { accessFlags := 18, nameIndex := 226, descriptorIndex := 227, attributes := #[] }])
  fields := #[{ name := "ZERO", type := (.object "java/time/Duration"), accessFlags := 25, slot := 0, constantValue := 0 }, { name := "serialVersionUID", type := .long, accessFlags := 26, slot := 1, constantValue := 0 }, { name := "BI_NANOS_PER_SECOND", type := (.object "java/math/BigInteger"), accessFlags := 26, slot := 2, constantValue := 0 }, { name := "seconds", type := .long, accessFlags := 18, slot := 0, constantValue := 0 }, { name := "nanos", type := .int, accessFlags := 18, slot := 1, constantValue := 0 }]
  methods := #[k12m0, k12m1, k12m2]
  instanceTypes := #[.long, .int]
  staticTypes := #[(.object "java/time/Duration"), .long, (.object "java/math/BigInteger")]
  resolved := Array.replicate 656 none
  statics := none }

def pool13 : Array CpInfo := pool [(1, .class_ 2), (0, u "java/lang/Math"), (1, .class_ 6), (1, u "java/lang/Object"), (0, u "<init>"), (0, u "()V"), (89, .class_ 100), (1, u "java/lang/Math$RandomNumberGeneratorHolder"), (17, .methodref 1 119), (0, .nameAndType 120 121), (0, u "multiplyExact"), (0, u "(JJ)J"), (0, .methodref 1 123), (0, .nameAndType 124 125), (0, u "abs"), (0, u "(J)J"), (46, u "negativeZeroFloatBits"), (0, u "J"), (2, u "negativeZeroDoubleBits"), (68, u "$assertionsDisabled"), (0, u "Z"), (91, u "twoToTheDoubleScaleDown"), (0, u "D"), (4, u "twoToTheDoubleScaleUp"), (9, u "E"), (3, u "PI"), (2, u "TAU"), (2, u "DEGREES_TO_RADIANS"), (0, u "RADIANS_TO_DEGREES"), (29, u "(JI)J")] 64

def k13m0 : Method := { name := "<init>", desc := "()V", sig := { parameters := [], returnType := none }, accessFlags := 2, code := none }
def k13c1 : Code := { maxStack := 4, maxLocals := 3, code := jdk_29_method_29_code, exceptionTable := #[], attributes := #[] }
def k13m1 : Method := { name := "multiplyExact", desc := "(JI)J", sig := { parameters := [.long, .int], returnType := some .long }, accessFlags := 9, code := some k13c1 }
def k13c2 : Code := { maxStack := 4, maxLocals := 10, code := jdk_29_method_30_code, exceptionTable := #[], attributes := #[] }
def k13m2 : Method := { name := "multiplyExact", desc := "(JJ)J", sig := { parameters := [.long, .long], returnType := some .long }, accessFlags := 9, code := some k13c2 }
def k13c3 : Code := { maxStack := 4, maxLocals := 2, code := jdk_29_method_61_code, exceptionTable := #[], attributes := #[] }
def k13m3 : Method := { name := "abs", desc := "(J)J", sig := { parameters := [.long], returnType := some .long }, accessFlags := 9, code := some k13c3 }
/-- java/lang/Math -/
def k13 : Class := { plain "java/lang/Math" (some 0) with
  accessFlags := 49
  interfaces := #[]
  cf := some (fileOf pool13 1 #[.nestMembers #[98]] #[{ accessFlags := 2, nameIndex := 7, descriptorIndex := 8, attributes := #[] }, { accessFlags := 9, nameIndex := 120, descriptorIndex := 395, attributes := #[] }, { accessFlags := 9, nameIndex := 120, descriptorIndex := 121, attributes := #[] }, { accessFlags := 9, nameIndex := 124, descriptorIndex := 125, attributes := #[] }] 49 4 #[] #[{ accessFlags := 25, nameIndex := 354, descriptorIndex := 339, attributes := #[] }, { accessFlags := 25, nameIndex := 358, descriptorIndex := 339, attributes := #[] }, { accessFlags := 25, nameIndex := 361, descriptorIndex := 339, attributes := #[] }, { accessFlags := 26, nameIndex := 364, descriptorIndex := 339, attributes := #[] }, { accessFlags := 26, nameIndex := 365, descriptorIndex := 339, attributes := #[] }, { accessFlags := 26, nameIndex := 172, descriptorIndex := 173, attributes := #[] }, { accessFlags := 26, nameIndex := 176, descriptorIndex := 173, attributes := #[] }, { accessFlags := 8, nameIndex := 344, descriptorIndex := 339, attributes := #[] }, { accessFlags := 8, nameIndex := 338, descriptorIndex := 339, attributes := #[] }, { accessFlags := 4120, nameIndex := 245, descriptorIndex := 246, attributes := #[] }])
  fields := #[{ name := "E", type := .double, accessFlags := 25, slot := 0, constantValue := 0 }, { name := "PI", type := .double, accessFlags := 25, slot := 1, constantValue := 0 }, { name := "TAU", type := .double, accessFlags := 25, slot := 2, constantValue := 0 }, { name := "DEGREES_TO_RADIANS", type := .double, accessFlags := 26, slot := 3, constantValue := 0 }, { name := "RADIANS_TO_DEGREES", type := .double, accessFlags := 26, slot := 4, constantValue := 0 }, { name := "negativeZeroFloatBits", type := .long, accessFlags := 26, slot := 5, constantValue := 0 }, { name := "negativeZeroDoubleBits", type := .long, accessFlags := 26, slot := 6, constantValue := 0 }, { name := "twoToTheDoubleScaleUp", type := .double, accessFlags := 8, slot := 7, constantValue := 0 }, { name := "twoToTheDoubleScaleDown", type := .double, accessFlags := 8, slot := 8, constantValue := 0 }, { name := "$assertionsDisabled", type := .boolean, accessFlags := 4120, slot := 9, constantValue := 0 }]
  methods := #[k13m0, k13m1, k13m2, k13m3]
  instanceTypes := #[]
  staticTypes := #[.double, .double, .double, .double, .double, .long, .long, .double, .double, .boolean]
  resolved := Array.replicate 460 none
  statics := none }

def pool14 : Array CpInfo := pool [(1, .class_ 2), (0, u "java/lang/String"), (1, .class_ 6), (1, u "java/lang/Object"), (0, u "<init>"), (0, u "()V"), (0, .methodref 1 10), (0, .nameAndType 11 12), (0, u "checkIndex"), (0, u "(II)V"), (1, .class_ 16), (1, u "java/lang/StringLatin1"), (36, u "([BI)C"), (67, u "$assertionsDisabled"), (0, u "Z"), (98, .class_ 223), (1, u "java/lang/StringLatin1$LinesSpliterator"), (28, u "charAt"), (137, .class_ 391), (0, u "java/lang/StringLatin1$CharsSpliterator")] 3

def k14m0 : Method := { name := "<init>", desc := "()V", sig := { parameters := [], returnType := none }, accessFlags := 0, code := none }
def k14c1 : Code := { maxStack := 2, maxLocals := 2, code := jdk_43_method_2_code, exceptionTable := #[], attributes := #[] }
def k14m1 : Method := { name := "charAt", desc := "([BI)C", sig := { parameters := [(.array .byte), .int], returnType := some .char }, accessFlags := 9, code := some k14c1 }
/-- java/lang/StringLatin1 -/
def k14 : Class := { plain "java/lang/StringLatin1" (some 0) with
  accessFlags := 48
  interfaces := #[]
  cf := some (fileOf pool14 14 #[.nestMembers #[390, 221]] #[{ accessFlags := 0, nameIndex := 7, descriptorIndex := 8, attributes := #[] }, { accessFlags := 9, nameIndex := 252, descriptorIndex := 53, attributes := #[] }] 48 4 #[] #[{ accessFlags := 4120, nameIndex := 121, descriptorIndex := 122, attributes := #[] }])
  fields := #[{ name := "$assertionsDisabled", type := .boolean, accessFlags := 4120, slot := 0, constantValue := 0 }]
  methods := #[k14m0, k14m1]
  instanceTypes := #[]
  staticTypes := #[.boolean]
  resolved := Array.replicate 395 none
  statics := none }

def pool15 : Array CpInfo := pool [(2, .class_ 4), (1, u "java/lang/Object"), (0, u "<init>"), (0, u "()V"), (17, .class_ 26), (1, u "jdk/internal/util/Preconditions"), (6, u "checkIndex"), (21, .class_ 56), (0, u "jdk/internal/util/Preconditions$4"), (57, .class_ 115), (0, u "jdk/internal/util/Preconditions$1"), (7, u "SIOOBE_FORMATTER"), (0, u "Ljava/util/function/BiFunction;"), (0, .class_ 126), (0, u "jdk/internal/util/Preconditions$2"), (3, u "AIOOBE_FORMATTER"), (0, .class_ 132), (0, u "jdk/internal/util/Preconditions$3"), (3, u "IOOBE_FORMATTER"), (41, u "(IILjava/util/function/BiFunction;)I")] 15

def k15m0 : Method := { name := "<init>", desc := "()V", sig := { parameters := [], returnType := none }, accessFlags := 1, code := none }
def k15c1 : Code := { maxStack := 3, maxLocals := 3, code := jdk_41_method_11_code, exceptionTable := #[], attributes := #[] }
def k15m1 : Method := { name := "checkIndex", desc := "(IILjava/util/function/BiFunction;)I", sig := { parameters := [.int, .int, (.object "java/util/function/BiFunction")], returnType := some .int }, accessFlags := 9, code := some k15c1 }
/-- jdk/internal/util/Preconditions -/
def k15 : Class := { plain "jdk/internal/util/Preconditions" (some 0) with
  accessFlags := 33
  interfaces := #[]
  cf := some (fileOf pool15 24 #[.nestMembers #[55, 131, 125, 114]] #[{ accessFlags := 1, nameIndex := 5, descriptorIndex := 6, attributes := #[] }, { accessFlags := 9, nameIndex := 33, descriptorIndex := 178, attributes := #[] }] 33 2 #[] #[{ accessFlags := 25, nameIndex := 123, descriptorIndex := 124, attributes := #[] }, { accessFlags := 25, nameIndex := 130, descriptorIndex := 124, attributes := #[] }, { accessFlags := 25, nameIndex := 136, descriptorIndex := 124, attributes := #[] }])
  fields := #[{ name := "SIOOBE_FORMATTER", type := (.object "java/util/function/BiFunction"), accessFlags := 25, slot := 0, constantValue := 0 }, { name := "AIOOBE_FORMATTER", type := (.object "java/util/function/BiFunction"), accessFlags := 25, slot := 1, constantValue := 0 }, { name := "IOOBE_FORMATTER", type := (.object "java/util/function/BiFunction"), accessFlags := 25, slot := 2, constantValue := 0 }]
  methods := #[k15m0, k15m1]
  instanceTypes := #[]
  staticTypes := #[(.object "java/util/function/BiFunction"), (.object "java/util/function/BiFunction"), (.object "java/util/function/BiFunction")]
  resolved := Array.replicate 194 none
  statics := some 1 }

def pool16 : Array CpInfo := pool [(9, u "<init>"), (6, .class_ 18), (1, u "java/lang/Object"), (0, u "()V"), (1, .class_ 23), (1, u "jdk/internal/util/ArraysSupport"), (0, u "LOG2_ARRAY_LONG_INDEX_SCALE"), (0, u "I"), (2, u "U"), (0, u "Ljdk/internal/misc/Unsafe;"), (8, u "BIG_ENDIAN"), (0, u "Z"), (8, u "LOG2_BYTE_BIT_SIZE"), (4, u "LOG2_ARRAY_INT_INDEX_SCALE"), (54, u "JLA"), (0, u "Ljdk/internal/access/JavaLangAccess;"), (11, u "LOG2_ARRAY_BOOLEAN_INDEX_SCALE"), (9, u "LOG2_ARRAY_BYTE_INDEX_SCALE"), (5, u "LOG2_ARRAY_CHAR_INDEX_SCALE"), (5, u "LOG2_ARRAY_SHORT_INDEX_SCALE"), (18, u "LOG2_ARRAY_FLOAT_INDEX_SCALE"), (24, u "LOG2_ARRAY_DOUBLE_INDEX_SCALE"), (89, u "T_BOOLEAN"), (2, u "T_CHAR"), (1, u "T_FLOAT"), (1, u "T_DOUBLE"), (1, u "T_BYTE"), (1, u "T_SHORT"), (1, u "T_INT"), (1, u "T_LONG"), (1, u "SOFT_MAX_ARRAY_LENGTH")] 83

def k16m0 : Method := { name := "<init>", desc := "()V", sig := { parameters := [], returnType := none }, accessFlags := 2, code := none }
/-- jdk/internal/util/ArraysSupport -/
def k16 : Class := { plain "jdk/internal/util/ArraysSupport" (some 0) with
  accessFlags := 33
  interfaces := #[]
  cf := some (fileOf pool16 21 #[] #[{ accessFlags := 2, nameIndex := 9, descriptorIndex := 19, attributes := #[] }] 33 16 #[] #[{ accessFlags := 24, nameIndex := 28, descriptorIndex := 29, attributes := #[] }, { accessFlags := 26, nameIndex := 38, descriptorIndex := 39, attributes := #[] }, { accessFlags := 25, nameIndex := 121, descriptorIndex := 25, attributes := #[] }, { accessFlags := 25, nameIndex := 131, descriptorIndex := 25, attributes := #[] }, { accessFlags := 25, nameIndex := 137, descriptorIndex := 25, attributes := #[] }, { accessFlags := 25, nameIndex := 143, descriptorIndex := 25, attributes := #[] }, { accessFlags := 25, nameIndex := 53, descriptorIndex := 25, attributes := #[] }, { accessFlags := 25, nameIndex := 24, descriptorIndex := 25, attributes := #[] }, { accessFlags := 25, nameIndex := 162, descriptorIndex := 25, attributes := #[] }, { accessFlags := 25, nameIndex := 187, descriptorIndex := 25, attributes := #[] }, { accessFlags := 26, nameIndex := 48, descriptorIndex := 25, attributes := #[] }, { accessFlags := 25, nameIndex := 277, descriptorIndex := 25, attributes := #[] }, { accessFlags := 25, nameIndex := 280, descriptorIndex := 25, attributes := #[] }, { accessFlags := 25, nameIndex := 282, descriptorIndex := 25, attributes := #[] }, { accessFlags := 25, nameIndex := 284, descriptorIndex := 25, attributes := #[] }, { accessFlags := 25, nameIndex := 286, descriptorIndex := 25, attributes := #[] }, { accessFlags := 25, nameIndex := 288, descriptorIndex := 25, attributes := #[] }, { accessFlags := 25, nameIndex := 290, descriptorIndex := 25, attributes := #[] }, { accessFlags := 25, nameIndex := 292, descriptorIndex := 25, attributes := #[] }, { accessFlags := 26, nameIndex := 108, descriptorIndex := 109, attributes := #[] }, { accessFlags := 25, nameIndex := 294, descriptorIndex := 25, attributes := #[] }])
  fields := #[{ name := "U", type := (.object "jdk/internal/misc/Unsafe"), accessFlags := 24, slot := 0, constantValue := 0 }, { name := "BIG_ENDIAN", type := .boolean, accessFlags := 26, slot := 1, constantValue := 0 }, { name := "LOG2_ARRAY_BOOLEAN_INDEX_SCALE", type := .int, accessFlags := 25, slot := 2, constantValue := 0 }, { name := "LOG2_ARRAY_BYTE_INDEX_SCALE", type := .int, accessFlags := 25, slot := 3, constantValue := 0 }, { name := "LOG2_ARRAY_CHAR_INDEX_SCALE", type := .int, accessFlags := 25, slot := 4, constantValue := 0 }, { name := "LOG2_ARRAY_SHORT_INDEX_SCALE", type := .int, accessFlags := 25, slot := 5, constantValue := 0 }, { name := "LOG2_ARRAY_INT_INDEX_SCALE", type := .int, accessFlags := 25, slot := 6, constantValue := 0 }, { name := "LOG2_ARRAY_LONG_INDEX_SCALE", type := .int, accessFlags := 25, slot := 7, constantValue := 0 }, { name := "LOG2_ARRAY_FLOAT_INDEX_SCALE", type := .int, accessFlags := 25, slot := 8, constantValue := 0 }, { name := "LOG2_ARRAY_DOUBLE_INDEX_SCALE", type := .int, accessFlags := 25, slot := 9, constantValue := 0 }, { name := "LOG2_BYTE_BIT_SIZE", type := .int, accessFlags := 26, slot := 10, constantValue := 0 }, { name := "T_BOOLEAN", type := .int, accessFlags := 25, slot := 11, constantValue := 0 }, { name := "T_CHAR", type := .int, accessFlags := 25, slot := 12, constantValue := 0 }, { name := "T_FLOAT", type := .int, accessFlags := 25, slot := 13, constantValue := 0 }, { name := "T_DOUBLE", type := .int, accessFlags := 25, slot := 14, constantValue := 0 }, { name := "T_BYTE", type := .int, accessFlags := 25, slot := 15, constantValue := 0 }, { name := "T_SHORT", type := .int, accessFlags := 25, slot := 16, constantValue := 0 }, { name := "T_INT", type := .int, accessFlags := 25, slot := 17, constantValue := 0 }, { name := "T_LONG", type := .int, accessFlags := 25, slot := 18, constantValue := 0 }, { name := "JLA", type := (.object "jdk/internal/access/JavaLangAccess"), accessFlags := 26, slot := 19, constantValue := 0 }, { name := "SOFT_MAX_ARRAY_LENGTH", type := .int, accessFlags := 25, slot := 20, constantValue := 0 }]
  methods := #[k16m0]
  instanceTypes := #[]
  staticTypes := #[(.object "jdk/internal/misc/Unsafe"), .boolean, .int, .int, .int, .int, .int, .int, .int, .int, .int, .int, .int, .int, .int, .int, .int, .int, .int, (.object "jdk/internal/access/JavaLangAccess"), .int]
  resolved := Array.replicate 378 none
  statics := none }

def pool17 : Array CpInfo := pool [(1, u "java/lang/Cloneable"), (0, .class_ 1), (0, u "java/lang/Object"), (0, .class_ 3)] 3

/-- java/lang/Cloneable -/
def k17 : Class := { plain "java/lang/Cloneable" (some 0) with
  accessFlags := 1537
  interfaces := #[]
  cf := some (fileOf pool17 2 #[] #[] 1537 4 #[] #[])
  fields := #[]
  methods := #[]
  instanceTypes := #[]
  staticTypes := #[]
  resolved := Array.replicate 8 none
  statics := none }

/-- the primitive byte -/
def k18 : Class := { plain "byte" none with kind := .primitive 'B', accessFlags := 0x411 }
/-- [B -/
def k19 : Class := { plain "[B" (some 0) with kind := .array 18 .byte, interfaces := #[17, 2], accessFlags := 1041 }

/-- the primitive char -/
def k20 : Class := { plain "char" none with kind := .primitive 'C', accessFlags := 0x411 }
/-- [C -/
def k21 : Class := { plain "[C" (some 0) with kind := .array 20 .char, interfaces := #[17, 2], accessFlags := 1041 }

/-- the primitive int -/
def k22 : Class := { plain "int" none with kind := .primitive 'I', accessFlags := 0x411 }
/-- [I -/
def k23 : Class := { plain "[I" (some 0) with kind := .array 22 .int, interfaces := #[17, 2], accessFlags := 1041 }

def heap : Heap := #[{ cls := 7, slots := #[.long 0, .int 1, .null, .int 0, .null, .int 0, .int 0], vm := .statics 7 },
  { cls := 15, slots := #[.null, .null, .null], vm := .statics 15 }]
def classes : Array Class := #[k0, k1, k2, k3, k4, k5, k6, k7, k8, k9, k10, k11, k12, k13, k14, k15, k16, k17, k18, k19, k20, k21, k22, k23]
def interned : List (Array UInt16 × Addr) := []
def slotsUsed : Nat := 10
def theMethod : MethodId := ⟨1, 1⟩
def args0 : Array Value := #[.int 3, .int 5, .int 300, .int 7]
def aboutOver (below : List Frame) : State where
  vm := { classes := classes, interned := interned.toArray }
  heap := heap
  slotsUsed := slotsUsed
  threads := #[{ frames := .invoking theMethod args0 :: below }]
def below0 : List Frame := [.native { method := ⟨0, 0⟩, args := #[] }]
def about1 : State := aboutOver below0
def p0 : Program := .bare "" "" ""
def e0 : Env := launch0.env 0 0 0
theorem w_frames : about1.frames = Frame.invoking theMethod args0 :: below0 := rfl
set_option maxRecDepth 65536 in
theorem w_args : argsFit about1.vm theMethod args0 = true := by decide +kernel
set_option maxRecDepth 65536 in
theorem w_heap : heapFits about1 = true := by decide +kernel
set_option maxRecDepth 65536 in
theorem w_runnable : about1.curStatus? = some .runnable := by decide +kernel
set_option maxRecDepth 65536 in
theorem w_alone : about1.alone = true := by decide +kernel
set_option maxRecDepth 65536 in
theorem w_named : about1.methodNamed? x = some theMethod := by decide +kernel
set_option maxRecDepth 65536 in
theorem w_hears : about1.hears theMethod below0 = true := by decide +kernel
set_option maxRecDepth 65536 in
theorem w_ripe : about1.ripe theMethod args0 below0 = true := by decide +kernel
theorem w_running : about1.status = .running := rfl
set_option maxRecDepth 65536 in
theorem w_room : about1.hasRoom e0.platform room_1 = true :=
  launch0.hasRoom_least _ room_1 (by decide +kernel) (by decide +kernel) (by decide +kernel) (by decide +kernel) (by decide +kernel) (by decide +kernel)
theorem allAtoms_all (ts : List Jvm.Cond) (a : Array Jvm.Value) (st : Jvm.State) : (allAtoms ts).before a st = ts.all (fun c => c.before a st) := by
  induction ts with
  | nil => rfl
  | cons c t ih =>
    show (Jvm.Cond.and c (allAtoms t)).before a st = _
    rw [Jvm.Cond.before_and, ih, List.all_cons]
def words1 : List Jvm.Cond := Jvm.Cond.code x code maxLocals ret :: tables_1
/-- a 'code' word, met by the world's own term for the bytes: nothing is compared byte by byte -/
theorem code_word {y : MethodName} {bytes : ByteArray} {mx : Nat} {rt : Option FieldType} {a : Array Value} {s : State} {m : MethodId} {meth : Method} {c : Code} (h1 : s.methodNamed? y = some m) (h2 : s.vm.method? m = some meth) (h3 : meth.code = some c) (h4 : c.code = bytes)
    (h5 : (c.maxLocals == mx && c.exceptionTable.isEmpty && decide (c.maxStack ≤ mostOperands) && decide (meth.sig.returnType = rt) && !meth.locks && decide (parseMethodDescriptor y.desc = some meth.sig)) = true) : (Jvm.Cond.code y bytes mx rt).before a s = true := by
  simp only [Bool.and_eq_true, beq_iff_eq, Bool.not_eq_true', decide_eq_true_eq] at h5
  obtain ⟨⟨⟨⟨⟨g1, g2⟩, g3⟩, g4⟩, g5⟩, g6⟩ := h5
  simp [Cond.before, Cond.holds, Cond.value, h1, h2, h3, h4, g1, g2, g3, g4, g5, g6]
def isCode : Jvm.Cond → Bool
  | .code _ _ _ _ => true
  | _ => false
theorem all_split {L : List Jvm.Cond} {P : Jvm.Cond → Bool} (h1 : L.all (fun c => isCode c || P c) = true) (h2 : ∀ c ∈ L.filter isCode, P c = true) : L.all P = true := by
  refine List.all_eq_true.mpr fun c hc => ?_
  have h := List.all_eq_true.mp h1 c hc
  rcases Bool.eq_false_or_eq_true (isCode c) with hi | hi
  · exact h2 c (List.mem_filter.mpr ⟨hc, hi⟩)
  · simpa [hi] using h
set_option maxRecDepth 65536 in
theorem w_c0 : (Jvm.Cond.code x code maxLocals ret).before args0 about1 = true := code_word (m := ⟨1, 1⟩) (meth := k1m1) (c := k1c1) (by decide +kernel) rfl rfl rfl (by decide +kernel)
set_option maxRecDepth 65536 in
theorem w_c1 : (Jvm.Cond.code ({ cls := "java/lang/String", name := "<init>", desc := "([C)V" } : Jvm.MethodName) jdk_42_method_3_code (2 : Nat) (Option.none : Option Jvm.ClassFile.FieldType)).before args0 about1 = true := code_word (m := ⟨7, 1⟩) (meth := k7m1) (c := k7c1) (by decide +kernel) rfl rfl rfl (by decide +kernel)
set_option maxRecDepth 65536 in
theorem w_c2 : (Jvm.Cond.code ({ cls := "java/lang/String", name := "<init>", desc := "([CIILjava/lang/Void;)V" } : Jvm.MethodName) jdk_42_method_149_code (6 : Nat) (Option.none : Option Jvm.ClassFile.FieldType)).before args0 about1 = true := code_word (m := ⟨7, 5⟩) (meth := k7m5) (c := k7c5) (by decide +kernel) rfl rfl rfl (by decide +kernel)
set_option maxRecDepth 65536 in
theorem w_c3 : (Jvm.Cond.code ({ cls := "java/lang/Object", name := "<init>", desc := "()V" } : Jvm.MethodName) object_method_1_code (1 : Nat) (Option.none : Option Jvm.ClassFile.FieldType)).before args0 about1 = true := code_word (m := ⟨0, 0⟩) (meth := k0m0) (c := k0c0) (by decide +kernel) rfl rfl rfl (by decide +kernel)
set_option maxRecDepth 65536 in
theorem w_c4 : (Jvm.Cond.code ({ cls := "java/lang/StringUTF16", name := "compress", desc := "([CII)[B" } : Jvm.MethodName) jdk_52_method_16_code (6 : Nat) (Option.some (Jvm.ClassFile.FieldType.array Jvm.ClassFile.FieldType.byte))).before args0 about1 = true := code_word (m := ⟨8, 2⟩) (meth := k8m2) (c := k8c2) (by decide +kernel) rfl rfl rfl (by decide +kernel)
set_option maxRecDepth 65536 in
theorem w_c5 : (Jvm.Cond.code ({ cls := "java/lang/StringUTF16", name := "compress", desc := "([CI[BII)I" } : Jvm.MethodName) jdk_52_method_21_code (7 : Nat) (Option.some Jvm.ClassFile.FieldType.int)).before args0 about1 = true := code_word (m := ⟨8, 3⟩) (meth := k8m3) (c := k8c3) (by decide +kernel) rfl rfl rfl (by decide +kernel)
set_option maxRecDepth 65536 in
theorem w_c6 : (Jvm.Cond.code ({ cls := "java/lang/StringUTF16", name := "coderFromArrayLen", desc := "([BI)B" } : Jvm.MethodName) jdk_52_method_15_code (2 : Nat) (Option.some Jvm.ClassFile.FieldType.byte)).before args0 about1 = true := code_word (m := ⟨8, 1⟩) (meth := k8m1) (c := k8c1) (by decide +kernel) rfl rfl rfl (by decide +kernel)
set_option maxRecDepth 65536 in
theorem w_c7 : (Jvm.Cond.code ({ cls := "com/example/expiring_state/expiringstate/LoginLockout$Rules", name := "of", desc := "(Ljava/lang/String;)Lcom/example/expiring_state/expiringstate/LoginLockout$Rules;" } : Jvm.MethodName) prog_31_method_2_code (1 : Nat) (Option.some (Jvm.ClassFile.FieldType.object "com/example/expiring_state/expiringstate/LoginLockout$Rules"))).before args0 about1 = true := code_word (m := ⟨9, 1⟩) (meth := k9m1) (c := k9c1) (by decide +kernel) rfl rfl rfl (by decide +kernel)
set_option maxRecDepth 65536 in
theorem w_c8 : (Jvm.Cond.code ({ cls := "java/util/Objects", name := "requireNonNull", desc := "(Ljava/lang/Object;Ljava/lang/String;)Ljava/lang/Object;" } : Jvm.MethodName) jdk_31_method_11_code (2 : Nat) (Option.some (Jvm.ClassFile.FieldType.object "java/lang/Object"))).before args0 about1 = true := code_word (m := ⟨10, 1⟩) (meth := k10m1) (c := k10c1) (by decide +kernel) rfl rfl rfl (by decide +kernel)
set_option maxRecDepth 65536 in
theorem w_c9 : (Jvm.Cond.code ({ cls := "java/time/Duration", name := "ofMinutes", desc := "(J)Ljava/time/Duration;" } : Jvm.MethodName) jdk_2316_method_3_code (2 : Nat) (Option.some (Jvm.ClassFile.FieldType.object "java/time/Duration"))).before args0 about1 = true := code_word (m := ⟨12, 0⟩) (meth := k12m0) (c := k12c0) (by decide +kernel) rfl rfl rfl (by decide +kernel)
set_option maxRecDepth 65536 in
theorem w_c10 : (Jvm.Cond.code ({ cls := "java/lang/Math", name := "multiplyExact", desc := "(JI)J" } : Jvm.MethodName) jdk_29_method_29_code (3 : Nat) (Option.some Jvm.ClassFile.FieldType.long)).before args0 about1 = true := code_word (m := ⟨13, 1⟩) (meth := k13m1) (c := k13c1) (by decide +kernel) rfl rfl rfl (by decide +kernel)
set_option maxRecDepth 65536 in
theorem w_c11 : (Jvm.Cond.code ({ cls := "java/lang/Math", name := "multiplyExact", desc := "(JJ)J" } : Jvm.MethodName) jdk_29_method_30_code (10 : Nat) (Option.some Jvm.ClassFile.FieldType.long)).before args0 about1 = true := code_word (m := ⟨13, 2⟩) (meth := k13m2) (c := k13c2) (by decide +kernel) rfl rfl rfl (by decide +kernel)
set_option maxRecDepth 65536 in
theorem w_c12 : (Jvm.Cond.code ({ cls := "java/lang/Math", name := "abs", desc := "(J)J" } : Jvm.MethodName) jdk_29_method_61_code (2 : Nat) (Option.some Jvm.ClassFile.FieldType.long)).before args0 about1 = true := code_word (m := ⟨13, 3⟩) (meth := k13m3) (c := k13c3) (by decide +kernel) rfl rfl rfl (by decide +kernel)
set_option maxRecDepth 65536 in
theorem w_c13 : (Jvm.Cond.code ({ cls := "java/time/Duration", name := "create", desc := "(JI)Ljava/time/Duration;" } : Jvm.MethodName) jdk_2316_method_16_code (3 : Nat) (Option.some (Jvm.ClassFile.FieldType.object "java/time/Duration"))).before args0 about1 = true := code_word (m := ⟨12, 1⟩) (meth := k12m1) (c := k12c1) (by decide +kernel) rfl rfl rfl (by decide +kernel)
set_option maxRecDepth 65536 in
theorem w_c14 : (Jvm.Cond.code ({ cls := "java/time/Duration", name := "<init>", desc := "(JI)V" } : Jvm.MethodName) jdk_2316_method_17_code (4 : Nat) (Option.none : Option Jvm.ClassFile.FieldType)).before args0 about1 = true := code_word (m := ⟨12, 2⟩) (meth := k12m2) (c := k12c2) (by decide +kernel) rfl rfl rfl (by decide +kernel)
set_option maxRecDepth 65536 in
theorem w_c15 : (Jvm.Cond.code ({ cls := "com/example/expiring_state/expiringstate/LoginLockout$Rules", name := "<init>", desc := "(Ljava/lang/String;ILjava/time/Duration;Ljava/time/Duration;)V" } : Jvm.MethodName) prog_31_method_1_code (5 : Nat) (Option.none : Option Jvm.ClassFile.FieldType)).before args0 about1 = true := code_word (m := ⟨9, 0⟩) (meth := k9m0) (c := k9c0) (by decide +kernel) rfl rfl rfl (by decide +kernel)
set_option maxRecDepth 65536 in
theorem w_c16 : (Jvm.Cond.code ({ cls := "com/example/expiring_state/expiringstate/LoginLockout$Rules", name := "name", desc := "()Ljava/lang/String;" } : Jvm.MethodName) prog_31_method_6_code (1 : Nat) (Option.some (Jvm.ClassFile.FieldType.object "java/lang/String"))).before args0 about1 = true := code_word (m := ⟨9, 2⟩) (meth := k9m2) (c := k9c2) (by decide +kernel) rfl rfl rfl (by decide +kernel)
set_option maxRecDepth 65536 in
theorem w_c17 : (Jvm.Cond.code ({ cls := "java/lang/String", name := "length", desc := "()I" } : Jvm.MethodName) jdk_42_method_54_code (1 : Nat) (Option.some Jvm.ClassFile.FieldType.int)).before args0 about1 = true := code_word (m := ⟨7, 2⟩) (meth := k7m2) (c := k7c2) (by decide +kernel) rfl rfl rfl (by decide +kernel)
set_option maxRecDepth 65536 in
theorem w_c18 : (Jvm.Cond.code ({ cls := "java/lang/String", name := "coder", desc := "()B" } : Jvm.MethodName) jdk_42_method_152_code (1 : Nat) (Option.some Jvm.ClassFile.FieldType.byte)).before args0 about1 = true := code_word (m := ⟨7, 6⟩) (meth := k7m6) (c := k7c6) (by decide +kernel) rfl rfl rfl (by decide +kernel)
set_option maxRecDepth 65536 in
theorem w_c19 : (Jvm.Cond.code ({ cls := "java/lang/String", name := "charAt", desc := "(I)C" } : Jvm.MethodName) jdk_42_method_56_code (2 : Nat) (Option.some Jvm.ClassFile.FieldType.char)).before args0 about1 = true := code_word (m := ⟨7, 3⟩) (meth := k7m3) (c := k7c3) (by decide +kernel) rfl rfl rfl (by decide +kernel)
set_option maxRecDepth 65536 in
theorem w_c20 : (Jvm.Cond.code ({ cls := "java/lang/String", name := "isLatin1", desc := "()Z" } : Jvm.MethodName) jdk_42_method_154_code (1 : Nat) (Option.some Jvm.ClassFile.FieldType.boolean)).before args0 about1 = true := code_word (m := ⟨7, 7⟩) (meth := k7m7) (c := k7c7) (by decide +kernel) rfl rfl rfl (by decide +kernel)
set_option maxRecDepth 65536 in
theorem w_c21 : (Jvm.Cond.code ({ cls := "java/lang/StringLatin1", name := "charAt", desc := "([BI)C" } : Jvm.MethodName) jdk_43_method_2_code (2 : Nat) (Option.some Jvm.ClassFile.FieldType.char)).before args0 about1 = true := code_word (m := ⟨14, 1⟩) (meth := k14m1) (c := k14c1) (by decide +kernel) rfl rfl rfl (by decide +kernel)
set_option maxRecDepth 65536 in
theorem w_c22 : (Jvm.Cond.code ({ cls := "java/lang/String", name := "checkIndex", desc := "(II)V" } : Jvm.MethodName) jdk_42_method_155_code (2 : Nat) (Option.none : Option Jvm.ClassFile.FieldType)).before args0 about1 = true := code_word (m := ⟨7, 8⟩) (meth := k7m8) (c := k7c8) (by decide +kernel) rfl rfl rfl (by decide +kernel)
set_option maxRecDepth 65536 in
theorem w_c23 : (Jvm.Cond.code ({ cls := "jdk/internal/util/Preconditions", name := "checkIndex", desc := "(IILjava/util/function/BiFunction;)I" } : Jvm.MethodName) jdk_41_method_11_code (3 : Nat) (Option.some Jvm.ClassFile.FieldType.int)).before args0 about1 = true := code_word (m := ⟨15, 1⟩) (meth := k15m1) (c := k15c1) (by decide +kernel) rfl rfl rfl (by decide +kernel)
set_option maxRecDepth 65536 in
theorem w_c24 : (Jvm.Cond.code ({ cls := "java/lang/String", name := "equals", desc := "(Ljava/lang/Object;)Z" } : Jvm.MethodName) jdk_42_method_66_code (3 : Nat) (Option.some Jvm.ClassFile.FieldType.boolean)).before args0 about1 = true := code_word (m := ⟨7, 4⟩) (meth := k7m4) (c := k7c4) (by decide +kernel) rfl rfl rfl (by decide +kernel)
set_option maxRecDepth 65536 in
theorem w_c25 : (Jvm.Cond.code ({ cls := "com/example/expiring_state/expiringstate/LoginLockout$Rules", name := "failures", desc := "()I" } : Jvm.MethodName) prog_31_method_7_code (1 : Nat) (Option.some Jvm.ClassFile.FieldType.int)).before args0 about1 = true := code_word (m := ⟨9, 3⟩) (meth := k9m3) (c := k9c3) (by decide +kernel) rfl rfl rfl (by decide +kernel)
def codes1 : List Jvm.Cond := [Jvm.Cond.code x code maxLocals ret, Jvm.Cond.code ({ cls := "java/lang/String", name := "<init>", desc := "([C)V" } : Jvm.MethodName) jdk_42_method_3_code (2 : Nat) (Option.none : Option Jvm.ClassFile.FieldType), Jvm.Cond.code ({ cls := "java/lang/String", name := "<init>", desc := "([CIILjava/lang/Void;)V" } : Jvm.MethodName) jdk_42_method_149_code (6 : Nat) (Option.none : Option Jvm.ClassFile.FieldType), Jvm.Cond.code ({ cls := "java/lang/Object", name := "<init>", desc := "()V" } : Jvm.MethodName) object_method_1_code (1 : Nat) (Option.none : Option Jvm.ClassFile.FieldType), Jvm.Cond.code ({ cls := "java/lang/StringUTF16", name := "compress", desc := "([CII)[B" } : Jvm.MethodName) jdk_52_method_16_code (6 : Nat) (Option.some (Jvm.ClassFile.FieldType.array Jvm.ClassFile.FieldType.byte)), Jvm.Cond.code ({ cls := "java/lang/StringUTF16", name := "compress", desc := "([CI[BII)I" } : Jvm.MethodName) jdk_52_method_21_code (7 : Nat) (Option.some Jvm.ClassFile.FieldType.int), Jvm.Cond.code ({ cls := "java/lang/StringUTF16", name := "coderFromArrayLen", desc := "([BI)B" } : Jvm.MethodName) jdk_52_method_15_code (2 : Nat) (Option.some Jvm.ClassFile.FieldType.byte), Jvm.Cond.code ({ cls := "com/example/expiring_state/expiringstate/LoginLockout$Rules", name := "of", desc := "(Ljava/lang/String;)Lcom/example/expiring_state/expiringstate/LoginLockout$Rules;" } : Jvm.MethodName) prog_31_method_2_code (1 : Nat) (Option.some (Jvm.ClassFile.FieldType.object "com/example/expiring_state/expiringstate/LoginLockout$Rules")), Jvm.Cond.code ({ cls := "java/util/Objects", name := "requireNonNull", desc := "(Ljava/lang/Object;Ljava/lang/String;)Ljava/lang/Object;" } : Jvm.MethodName) jdk_31_method_11_code (2 : Nat) (Option.some (Jvm.ClassFile.FieldType.object "java/lang/Object")), Jvm.Cond.code ({ cls := "java/time/Duration", name := "ofMinutes", desc := "(J)Ljava/time/Duration;" } : Jvm.MethodName) jdk_2316_method_3_code (2 : Nat) (Option.some (Jvm.ClassFile.FieldType.object "java/time/Duration")), Jvm.Cond.code ({ cls := "java/lang/Math", name := "multiplyExact", desc := "(JI)J" } : Jvm.MethodName) jdk_29_method_29_code (3 : Nat) (Option.some Jvm.ClassFile.FieldType.long), Jvm.Cond.code ({ cls := "java/lang/Math", name := "multiplyExact", desc := "(JJ)J" } : Jvm.MethodName) jdk_29_method_30_code (10 : Nat) (Option.some Jvm.ClassFile.FieldType.long), Jvm.Cond.code ({ cls := "java/lang/Math", name := "abs", desc := "(J)J" } : Jvm.MethodName) jdk_29_method_61_code (2 : Nat) (Option.some Jvm.ClassFile.FieldType.long), Jvm.Cond.code ({ cls := "java/time/Duration", name := "create", desc := "(JI)Ljava/time/Duration;" } : Jvm.MethodName) jdk_2316_method_16_code (3 : Nat) (Option.some (Jvm.ClassFile.FieldType.object "java/time/Duration")), Jvm.Cond.code ({ cls := "java/time/Duration", name := "<init>", desc := "(JI)V" } : Jvm.MethodName) jdk_2316_method_17_code (4 : Nat) (Option.none : Option Jvm.ClassFile.FieldType), Jvm.Cond.code ({ cls := "com/example/expiring_state/expiringstate/LoginLockout$Rules", name := "<init>", desc := "(Ljava/lang/String;ILjava/time/Duration;Ljava/time/Duration;)V" } : Jvm.MethodName) prog_31_method_1_code (5 : Nat) (Option.none : Option Jvm.ClassFile.FieldType), Jvm.Cond.code ({ cls := "com/example/expiring_state/expiringstate/LoginLockout$Rules", name := "name", desc := "()Ljava/lang/String;" } : Jvm.MethodName) prog_31_method_6_code (1 : Nat) (Option.some (Jvm.ClassFile.FieldType.object "java/lang/String")), Jvm.Cond.code ({ cls := "java/lang/String", name := "length", desc := "()I" } : Jvm.MethodName) jdk_42_method_54_code (1 : Nat) (Option.some Jvm.ClassFile.FieldType.int), Jvm.Cond.code ({ cls := "java/lang/String", name := "coder", desc := "()B" } : Jvm.MethodName) jdk_42_method_152_code (1 : Nat) (Option.some Jvm.ClassFile.FieldType.byte), Jvm.Cond.code ({ cls := "java/lang/String", name := "charAt", desc := "(I)C" } : Jvm.MethodName) jdk_42_method_56_code (2 : Nat) (Option.some Jvm.ClassFile.FieldType.char), Jvm.Cond.code ({ cls := "java/lang/String", name := "isLatin1", desc := "()Z" } : Jvm.MethodName) jdk_42_method_154_code (1 : Nat) (Option.some Jvm.ClassFile.FieldType.boolean), Jvm.Cond.code ({ cls := "java/lang/StringLatin1", name := "charAt", desc := "([BI)C" } : Jvm.MethodName) jdk_43_method_2_code (2 : Nat) (Option.some Jvm.ClassFile.FieldType.char), Jvm.Cond.code ({ cls := "java/lang/String", name := "checkIndex", desc := "(II)V" } : Jvm.MethodName) jdk_42_method_155_code (2 : Nat) (Option.none : Option Jvm.ClassFile.FieldType), Jvm.Cond.code ({ cls := "jdk/internal/util/Preconditions", name := "checkIndex", desc := "(IILjava/util/function/BiFunction;)I" } : Jvm.MethodName) jdk_41_method_11_code (3 : Nat) (Option.some Jvm.ClassFile.FieldType.int), Jvm.Cond.code ({ cls := "java/lang/String", name := "equals", desc := "(Ljava/lang/Object;)Z" } : Jvm.MethodName) jdk_42_method_66_code (3 : Nat) (Option.some Jvm.ClassFile.FieldType.boolean), Jvm.Cond.code ({ cls := "com/example/expiring_state/expiringstate/LoginLockout$Rules", name := "failures", desc := "()I" } : Jvm.MethodName) prog_31_method_7_code (1 : Nat) (Option.some Jvm.ClassFile.FieldType.int)]
set_option maxRecDepth 65536 in
theorem codes_eq : words1.filter isCode = codes1 := rfl
theorem w_codes : ∀ c ∈ words1.filter isCode, c.before args0 about1 = true := by
  rw [codes_eq]
  intro c hc
  simp only [codes1, List.mem_cons, List.not_mem_nil, or_false] at hc
  rcases hc with rfl | rfl | rfl | rfl | rfl | rfl | rfl | rfl | rfl | rfl | rfl | rfl | rfl | rfl | rfl | rfl | rfl | rfl | rfl | rfl | rfl | rfl | rfl | rfl | rfl | rfl
  · exact w_c0
  · exact w_c1
  · exact w_c2
  · exact w_c3
  · exact w_c4
  · exact w_c5
  · exact w_c6
  · exact w_c7
  · exact w_c8
  · exact w_c9
  · exact w_c10
  · exact w_c11
  · exact w_c12
  · exact w_c13
  · exact w_c14
  · exact w_c15
  · exact w_c16
  · exact w_c17
  · exact w_c18
  · exact w_c19
  · exact w_c20
  · exact w_c21
  · exact w_c22
  · exact w_c23
  · exact w_c24
  · exact w_c25
set_option maxRecDepth 65536 in
theorem w_t1 : (words1.take 24).all (fun c => isCode c || c.before args0 about1) = true := by decide +kernel
set_option maxRecDepth 65536 in
theorem w_t2 : ((words1.drop 24).take 24).all (fun c => isCode c || c.before args0 about1) = true := by decide +kernel
set_option maxRecDepth 65536 in
theorem w_t3 : (((words1.drop 24).drop 24).take 24).all (fun c => isCode c || c.before args0 about1) = true := by decide +kernel
set_option maxRecDepth 65536 in
theorem w_t4 : ((((words1.drop 24).drop 24).drop 24).take 24).all (fun c => isCode c || c.before args0 about1) = true := by decide +kernel
set_option maxRecDepth 65536 in
theorem w_t5 : (((((words1.drop 24).drop 24).drop 24).drop 24).take 24).all (fun c => isCode c || c.before args0 about1) = true := by decide +kernel
set_option maxRecDepth 65536 in
theorem w_t6 : (((((words1.drop 24).drop 24).drop 24).drop 24).drop 24).all (fun c => isCode c || c.before args0 about1) = true := by decide +kernel
theorem w_tables : (allAtoms (Jvm.Cond.code x code maxLocals ret :: tables_1)).before args0 about1 = true := by
  rw [allAtoms_all]
  show words1.all (fun c => c.before args0 about1) = true
  refine all_split ?_ w_codes
  rw [← List.take_append_drop 24 words1, List.all_append, w_t1, ← List.take_append_drop 24 (words1.drop 24), List.all_append, w_t2, ← List.take_append_drop 24 ((words1.drop 24).drop 24), List.all_append, w_t3, ← List.take_append_drop 24 (((words1.drop 24).drop 24).drop 24), List.all_append, w_t4, ← List.take_append_drop 24 ((((words1.drop 24).drop 24).drop 24).drop 24), List.all_append, w_t5, w_t6]
  rfl
set_option maxRecDepth 65536 in
theorem w_rest : rest_1_c.before args0 about1 = true := by decide +kernel
set_option maxRecDepth 65536 in
theorem w_case : (Jvm.Cond.and given_1 narrow_1).before args0 about1 = true := by decide +kernel
set_option maxRecDepth 65536 in
theorem w_consts : constsHeld consts_1 about1 := Jvm.Lit.constsHeldB_iff.mp (by decide +kernel)
theorem w_applies : (headSpec (Jvm.Cond.code x code maxLocals ret :: tables_1) room_1).applies x e0.platform about1 = true :=
  (Spec.applies_iff w_frames).mpr ⟨w_running, w_runnable, w_alone, w_named, w_hears, w_ripe, w_room, w_tables⟩
theorem atStart : AtStart classFile x code maxLocals ret World_1 tables_1 room_1 Calls_1 rest_1 Pre_1 launch0 p0 e0 about1 theMethod args0 below0 :=
  ⟨lists_1, trivial, launch0.admits_env _ _ _, launch0.least_env, fairChoices_fair.cas, fairChoices_fair.clock, w_frames, w_args, w_heap, w_applies, ⟨w_consts, trivial⟩, w_rest, w_case⟩
end start1
theorem witness_1 : WitnessClaimed_1 := ⟨start1.p0, start1.e0, start1.about1, start1.theMethod, start1.args0, start1.below0, start1.atStart⟩
end Jvm.Pilot.@@N@@
