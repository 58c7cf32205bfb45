import JvmDerived
import JvmDerived.Pilot.@@N@@Statement
import JvmDerived.Pilot.@@N@@Code
set_option linter.unusedVariables false
set_option linter.unusedSimpArgs false
namespace Jvm.Pilot.@@N@@
open Jvm Jvm.ClassFile Sem Op Lib Jvm.Free Jvm.Stand Jvm.LawKit Jvm.RoadKit Bundle Jvm.Free.XT Jvm.Pilot.@@N@@.Jvm.D
set_option maxRecDepth 65536
set_option maxHeartbeats 40000000
abbrev VI (x : Int32) : Slot := .val (.int x)
abbrev VR (x : Addr) : Slot := .val (.ref x)
abbrev HW (Z : State) (a0 : Array Value) : Prop := ∀ d ∈ tables_1, d.before a0 Z = true
theorem own_n0 {Z : State} {n0 : Nat} {h : Heap} (X : Old Z n0 h) : n0 ≤ h.size := X.1 ▸ X.2.1
theorem own_lt {a m n : Nat} (h : a < m) (k : m ≤ n) : a < n := Nat.lt_of_lt_of_le h k
theorem own_since0 (s : State) (n : Nat) : s.Since s.vm n := ⟨State.Warmed39.refl s, fun j p hj hp => absurd (Array.getElem?_eq_some_iff.mp hp).1 (Nat.not_lt.mpr hj)⟩
theorem own_narR {v : Value} {t : FieldType} (h : v.isRef = true) : narrow t v = v := by rcases ref_cases h with rfl | ⟨a, rfl⟩ <;> cases t <;> rfl
theorem own_fitR {v : Value} {t : FieldType} (h : v.isRef = true) (ht : t.isReference = true := by rfl) : fits t v = true := by rcases ref_cases h with rfl | ⟨a, rfl⟩ <;> cases t <;> first | rfl | cases ht
theorem own_priv {s : State} {args : Array Value} {y : MethodName} (h : (Jvm.Cond.privateMethod y).before args s = true) : s.PrivateAt y := Cond.privateMethod_at h
abbrev own_CP (l : Launch) (Z : State) (y : MethodName) (bytes : ByteArray) (ml : Nat) (ret : Option FieldType) (ws : List Jvm.Cond) (R : Room) (as' : Array Value) (h0 : Heap) (Q : Option Value → Heap → List Loc → Prop) : Prop :=
  MetFree l y (head1 (Jvm.Cond.code y bytes ml ret :: ws) R) (fun a U => a = as' ∧ Z.Warmed39 U.vm ∧ U.heap = h0) (fun _ _ _ _ _ => True) (fun _ U o U' => ∃ v L, o = .returned v ∧ Q v U'.heap L ∧ FrameEnd U o U' L R.cells R.slots)
theorem own_P {l : Launch} {Z : State} {y : MethodName} {bytes : ByteArray} {ml : Nat} {ret : Option FieldType} {ws : List Jvm.Cond} {R : Room} {as' : Array Value} {h0 : Heap} {Q : Option Value → Heap → List Loc → Prop} (hpl : plainFor y = true)
    (H : ∀ (p : Program) (e : Env) (s : State) (m : MethodId) (below : List Frame) (meth : Method) (c : ClassFile.Code) (s₁ S0 : State), BodyLoose p l y (head1 (Jvm.Cond.code y bytes ml ret :: ws) R) bytes ml ret e s m as' below meth c s₁ → Z.Warmed39 s.vm → s.heap = h0 → p.tables.exec = Jvm.exec → c.code = bytes → c.maxLocals = ml → s.vm.findClass y.cls = some m.cls → meth.name = y.name →
      Stand p l e R s m as' below meth c s₁ [] 0 0 → s₁.heap = h0 → S0 = s₁.setTop (entryFrame m as' ml) → ∃ s₂ o, Steps p.tables e below S0 s₂ ∧ s₂.status = .running ∧ Ended s₂ below o ∧ ∃ v L, o = .returned v ∧ Q v s₂.heap L ∧ FrameEnd s o s₂ L R.cells R.slots) : own_CP l Z y bytes ml ret ws R as' h0 Q := by
  refine MetFree.of_bodySF hpl hisR ?_
  intro p e s m args below meth c s₁ Bd hml hP hK
  obtain ⟨rfl, hZ, hh⟩ := hP
  exact H p e s m below meth c s₁ _ Bd hZ hh Bd.exec Bd.bytes hml (findClass_of_methodNamed Bd.named) (name_of_methodNamed Bd.named Bd.method).1 (Stand.of_body Bd) (by rw [← hh, Bd.state]; rfl) rfl
theorem own_EL {Z a0} (hw : HW Z a0) : EW Z a0 consts_1 := (EW.cons (hw _ (List.mem_of_getElem? (i := 33) rfl)) (by decide) (EW.cons (hw _ (List.mem_of_getElem? (i := 22) rfl)) (by decide) (EW.cons (hw _ (List.mem_of_getElem? (i := 124) rfl)) (by decide) EW.nil)))
theorem own_SA {Z a0} (hw : HW Z a0) : ∀ d ∈ Bundle.stringAtoms, d.before a0 Z = true := fun d hd => hw d ((by decide +kernel : ∀ d ∈ Bundle.stringAtoms, d ∈ tables_1) d hd)
theorem own_safe_null {Z : State} {EL : List (String × Nat)} {vm : Vm} {h : Heap} {x : Addr} (hal : Z.vm.Alike vm) (E : Exa Z h x "java/lang/String") (F : Fld Z h x "java/lang/String" "value" "[B" .null) : Safe Z EL vm h x := by
  rintro ⟨p, hp, u, a, B, q, hqa, ⟨cS, ⟨S1, S2, S3⟩, -, hcl, hsb⟩, hy⟩
  rcases hy with hy | hy
  · subst hy
    obtain ⟨cell, cf, k, i, f, h1, h2, h3, h4, h5, h6, h7⟩ := F
    obtain ⟨k', h2', -⟩ := State.fieldFound?_setVm (s := Z) hal h2
    obtain ⟨c2, k2, i2, g1, -⟩ := S1.ffV
    have e1 : cell = q.sC := Option.some.inj (h1.symm.trans S1.ha)
    have e2 : (Z.setVm vm).fieldFound? "java/lang/String" "value" "[B" = some (c2, k2, i2, q.fSV) := g1
    have e3 := Option.some.inj (h2'.symm.trans e2)
    have e4 : f = q.fSV := congrArg (fun z => z.2.2.2) e3
    have e5 : q.sC.slots[q.fSV.slot]? = some (.ref q.sd) := S1.2.2.2.2.2.2.2.1
    rw [e1, e4, e5] at h7
    cases h7
  · subst hy
    obtain ⟨c1, k1, h1, h2, -⟩ := E
    have e1 : c1 = q.SA := Option.some.inj (h1.symm.trans S1.2.2.2.2.2.2.2.2.2.1)
    have h2' : vm.findClass "java/lang/String" = some c1.cls := by rw [hal.findClass]; exact h2
    have hcl' : vm.findClass "[B" = some q.SA.cls := hcl
    rw [e1] at h2'
    obtain ⟨k3, a1, a2⟩ := Vm.findClass_spec h2'
    obtain ⟨k4, b1, b2⟩ := Vm.findClass_spec hcl'
    cases a1.symm.trans b1
    exact absurd (a2.symm.trans b2) (by decide)
abbrev own_CH (l : Launch) (Z : State) (y : MethodName) (bytes : ByteArray) (ml : Nat) (ret : Option FieldType) (ws : List Jvm.Cond) (R : Room) (as' : Array Value) (h0 : Heap) (Q : Option Value → Heap → List Loc → Prop) : Prop :=
  MetFree l y (head1 (Jvm.Cond.code y bytes ml ret :: ws) R) (fun a U => a = as' ∧ Z.Warmed39 U.vm ∧ U.heap = h0 ∧ CHv Z consts_1 U.vm h0) (fun _ _ _ _ _ => True) (fun _ U o U' => ∃ v L, o = .returned v ∧ Q v U'.heap L ∧ CHr Z consts_1 U.vm U.heap U'.vm U'.heap ∧ ReturnedEndW U o U' L R.cells R.slots)
abbrev own_CK (l : Launch) (Z : State) (y : MethodName) (bytes : ByteArray) (ml : Nat) (ret : Option FieldType) (ws : List Jvm.Cond) (R : Room) (as' : Array Value) (h0 : Heap) (Q : Option Value → Heap → List Loc → Prop) : Prop :=
  MetFree l y (head1 (Jvm.Cond.code y bytes ml ret :: ws) R) (fun a U => a = as' ∧ Z.Warmed39 U.vm ∧ U.heap = h0 ∧ CHv Z consts_1 U.vm h0) (fun _ _ bl s _ => s.vm.MethodsKnown ∧ s.vm.FramesKnown bl) (fun _ U o U' => ∃ v L, o = .returned v ∧ Q v U'.heap L ∧ CHr Z consts_1 U.vm U.heap U'.vm U'.heap ∧ ReturnedEndW U o U' L R.cells R.slots)
theorem own_H {l : Launch} {Z : State} {y : MethodName} {bytes : ByteArray} {ml : Nat} {ret : Option FieldType} {ws : List Jvm.Cond} {R : Room} {as' : Array Value} {h0 : Heap} {Q : Option Value → Heap → List Loc → Prop} (hpl : plainFor y = true)
    (H : ∀ (p : Program) (e : Env) (s : State) (m : MethodId) (below : List Frame) (meth : Method) (c : ClassFile.Code) (s₁ S0 : State), BodyLoose p l y (head1 (Jvm.Cond.code y bytes ml ret :: ws) R) bytes ml ret e s m as' below meth c s₁ → Z.Warmed39 (s.setVm s.vm).vm → s.heap = h0 → CHv Z consts_1 s.vm h0 → s.Since s.vm h0.size → CHr Z consts_1 s.vm h0 s.vm h0 → p.tables.exec = Jvm.exec → c.code = bytes → c.maxLocals = ml → (s.setVm s.vm).vm.findClass y.cls = some m.cls → meth.name = y.name →
      Stand p l e R (s.setVm s.vm) m as' below meth c s₁ [] 0 0 → s₁.heap = h0 → S0 = s₁.setTop (entryFrame m as' ml) → ∃ s₂ o, Steps p.tables e below S0 s₂ ∧ s₂.status = .running ∧ Ended s₂ below o ∧ ∃ v L, o = .returned v ∧ Q v s₂.heap L ∧ CHr Z consts_1 s.vm s.heap s₂.vm s₂.heap ∧ ReturnedEndW s o s₂ L R.cells R.slots) : own_CH l Z y bytes ml ret ws R as' h0 Q := by
  refine MetFree.of_bodySF hpl hisR ?_
  intro p e s m args below meth c s₁ Bd hml hP hK
  obtain ⟨rfl, hZ, hh, CH0⟩ := hP
  exact H p e s m below meth c s₁ _ Bd hZ hh CH0 (own_since0 s _) (CHr.refl CH0) Bd.exec Bd.bytes hml (findClass_of_methodNamed Bd.named) (name_of_methodNamed Bd.named Bd.method).1 (Stand.of_body Bd) (by rw [← hh, Bd.state]; rfl) rfl
theorem own_K {l : Launch} {Z : State} {y : MethodName} {bytes : ByteArray} {ml : Nat} {ret : Option FieldType} {ws : List Jvm.Cond} {R : Room} {as' : Array Value} {h0 : Heap} {Q : Option Value → Heap → List Loc → Prop} (hpl : plainFor y = true)
    (H : ∀ (p : Program) (e : Env) (s : State) (m : MethodId) (below : List Frame) (meth : Method) (c : ClassFile.Code) (s₁ S0 : State), BodyLoose p l y (head1 (Jvm.Cond.code y bytes ml ret :: ws) R) bytes ml ret e s m as' below meth c s₁ → Z.Warmed39 (s.setVm s.vm).vm → s.heap = h0 → CHv Z consts_1 s.vm h0 → s.Since s.vm h0.size → CHr Z consts_1 s.vm h0 s.vm h0 → s.vm.MethodsKnown → s.vm.FramesKnown below → p.tables.exec = Jvm.exec → c.code = bytes → c.maxLocals = ml → (s.setVm s.vm).vm.findClass y.cls = some m.cls → meth.name = y.name →
      Stand p l e R (s.setVm s.vm) m as' below meth c s₁ [] 0 0 → s₁.heap = h0 → S0 = s₁.setTop (entryFrame m as' ml) → ∃ s₂ o, Steps p.tables e below S0 s₂ ∧ s₂.status = .running ∧ Ended s₂ below o ∧ ∃ v L, o = .returned v ∧ Q v s₂.heap L ∧ CHr Z consts_1 s.vm s.heap s₂.vm s₂.heap ∧ ReturnedEndW s o s₂ L R.cells R.slots) : own_CK l Z y bytes ml ret ws R as' h0 Q := by
  refine MetFree.of_bodySF hpl hisR ?_
  intro p e s m args below meth c s₁ Bd hml hP hK
  obtain ⟨rfl, hZ, hh, CH0⟩ := hP
  exact H p e s m below meth c s₁ _ Bd hZ hh CH0 (own_since0 s _) (CHr.refl CH0) hK.1 hK.2 Bd.exec Bd.bytes hml (findClass_of_methodNamed Bd.named) (name_of_methodNamed Bd.named Bd.method).1 (Stand.of_body Bd) (by rw [← hh, Bd.state]; rfl) rfl
def own_cb (x : Int32) : Int32 := (x &&& (255 : Int32)).toUInt32.toUInt16.toUInt32.toInt32
theorem own_cb_eq (x : Int32) : own_cb x = x &&& 255 := i2c_mask x
theorem own_cb_nar {x : Int32} : nar .char (own_cb x) = own_cb x := by
  rw [own_cb_eq]; exact i2c_mask x
theorem own_cb_hi (x : Int32) : ¬ ((255 : Int32) < own_cb x) := by
  rw [own_cb_eq, Int32.lt_iff_toInt_lt]
  have h := (c_and x 255 (by decide)).2
  omega
theorem own_cb_lo (x : Int32) : ¬ (own_cb x < (0 : Int32)) := by
  rw [own_cb_eq, Int32.lt_iff_toInt_lt]
  have h := (c_and x 255 (by decide)).1
  have e : (0 : Int32).toInt = 0 := rfl
  omega
def own_lo8 (x : Int32) : Int32 := nar .byte (x.toInt8.toInt32)
def own_ch (x : Int32) : Int32 := nar .char ((x &&& (255 : Int32)).toUInt32.toUInt16.toUInt32.toInt32)
def own_at (x : Int32) : Int32 := nar .char (own_ch x)
theorem own_at_says {c : Int32} (h0 : ¬ (c < (0 : Int32))) (h1 : ¬ ((255 : Int32) < c)) : own_at (own_lo8 c) = c := by
  rw [Int32.lt_iff_toInt_lt] at h0 h1
  have z0 : (0 : Int32).toInt = 0 := rfl
  have z1 : (255 : Int32).toInt = 255 := rfl
  have r1 := c_i2b c
  have r2 := c_i2b (c.toInt8.toInt32)
  have e1 : own_lo8 c = c.toInt8.toInt32.toInt8.toInt32 := rfl
  rw [← e1] at r2
  have m1 := c_mask (own_lo8 c) 255 8 (by decide) (by decide)
  have p8 : ((2 ^ 8 : Nat) : Int) = 256 := rfl
  rw [p8] at m1
  have k1 := c_i2c (own_lo8 c &&& 255)
  have k2 := c_i2c ((own_lo8 c &&& 255).toUInt32.toUInt16.toUInt32.toInt32)
  have k3 := c_i2c (((own_lo8 c &&& 255).toUInt32.toUInt16.toUInt32.toInt32).toUInt32.toUInt16.toUInt32.toInt32)
  have e3 : own_at (own_lo8 c) = (((own_lo8 c &&& 255).toUInt32.toUInt16.toUInt32.toInt32).toUInt32.toUInt16.toUInt32.toInt32).toUInt32.toUInt16.toUInt32.toInt32 := rfl
  rw [← e3] at k3
  apply Int32.toInt_inj.mp
  omega
theorem own_narc {c : Int32} (h0 : ¬ (c < (0 : Int32))) (h1 : ¬ ((255 : Int32) < c)) : nar .char c = c := by
  rw [Int32.lt_iff_toInt_lt] at h0 h1
  have z0 : (0 : Int32).toInt = 0 := rfl
  have z1 : (255 : Int32).toInt = 255 := rfl
  have k := c_i2c c
  have e : nar .char c = c.toUInt32.toUInt16.toUInt32.toInt32 := rfl
  rw [← e] at k
  apply Int32.toInt_inj.mp
  omega
theorem own_is31 {c : Int32} (h0 : ¬ (c < (0 : Int32))) (h1 : ¬ ((255 : Int32) < c)) (h : own_lo8 c = (31 : Int32)) : c = (31 : Int32) := by
  rw [Int32.lt_iff_toInt_lt] at h0 h1
  have z0 : (0 : Int32).toInt = 0 := rfl
  have z1 : (255 : Int32).toInt = 255 := rfl
  have z2 : (31 : Int32).toInt = 31 := rfl
  have r1 := c_i2b c
  have r2 := c_i2b (c.toInt8.toInt32)
  have e1 : own_lo8 c = c.toInt8.toInt32.toInt8.toInt32 := rfl
  rw [← e1, h] at r2
  apply Int32.toInt_inj.mp
  omega
theorem own_not31 {c : Int32} (h : ¬ (own_lo8 c = (31 : Int32))) : ¬ (c = (31 : Int32)) := fun e => h (by rw [e]; decide)
theorem own_mod5 (x : Int32) : (x &&& (2147483647 : Int32)) % (5 : Int32) = 0 ∨ (x &&& (2147483647 : Int32)) % (5 : Int32) = 1 ∨ (x &&& (2147483647 : Int32)) % (5 : Int32) = 2 ∨ (x &&& (2147483647 : Int32)) % (5 : Int32) = 3 ∨ (x &&& (2147483647 : Int32)) % (5 : Int32) = 4 := by
  have h := (c_and x 2147483647 (by decide)).1
  have h2 := (c_irem (x &&& 2147483647) 5 5 rfl).1 h
  have h3 : ((x &&& (2147483647 : Int32)) % (5 : Int32)).toInt = 0 ∨ ((x &&& (2147483647 : Int32)) % (5 : Int32)).toInt = 1 ∨ ((x &&& (2147483647 : Int32)) % (5 : Int32)).toInt = 2 ∨ ((x &&& (2147483647 : Int32)) % (5 : Int32)).toInt = 3 ∨ ((x &&& (2147483647 : Int32)) % (5 : Int32)).toInt = 4 := by omega
  rcases h3 with h | h | h | h | h
  · exact Or.inl (Int32.toInt_inj.mp h)
  · exact Or.inr (Or.inl (Int32.toInt_inj.mp h))
  · exact Or.inr (Or.inr (Or.inl (Int32.toInt_inj.mp h)))
  · exact Or.inr (Or.inr (Or.inr (Or.inl (Int32.toInt_inj.mp h))))
  · exact Or.inr (Or.inr (Or.inr (Or.inr (Int32.toInt_inj.mp h))))
def own_G (l : Launch) (Z : State) (a0 : Array Value) (G1 : Int32) (G3 : Value) : Prop := (Sta Z Z.heap "java/lang/String" "COMPACT_STRINGS" "Z" (.int G1)) ∧ (¬ (G1 = (0 : Int32))) ∧ (Sta Z Z.heap "jdk/internal/util/Preconditions" "SIOOBE_FORMATTER" "Ljava/util/function/BiFunction;" G3) ∧ (G3.isRef = true)
abbrev M0 : MethodName := ⟨"java/lang/String", "<init>", "([CIILjava/lang/Void;)V"⟩
theorem ef_1 (m : MethodId) (x0 : Addr) (x1 : Addr) (x2 : Int32) (x3 : Int32) : entryFrame m #[(.ref x0), (.ref x1), (.int x2), (.int x3), .null] 6 = mkF m 0 #[VR x0, VR x1, VI x2, VI x3, .val .null, .unset] [] := by first | (simp [entryFrame, mkF, argsToLocals, Value.category]; done) | rfl
theorem pn_2 : plainName "java/lang/String" = true := by first | (simp [plainName, overriddenIn]; done) | decide +kernel
theorem d0_0 : decode jdk_42_method_149_code 0 = .ok (.aload_n 0, 1) := by decide +kernel
theorem w19 {Z a0} (hw : HW Z a0) : Cond.before (Cond.methodLink "java/lang/String" (1 : Nat) (⟨"java/lang/Object", "<init>", "()V"⟩ : MethodName)) a0 Z = true := hw _ (List.mem_of_getElem? (i := 19) rfl)
theorem w20 {Z a0} (hw : HW Z a0) : Cond.before (Cond.instanceMethod (⟨"java/lang/Object", "<init>", "()V"⟩ : MethodName)) a0 Z = true := hw _ (List.mem_of_getElem? (i := 20) rfl)
theorem w21 {Z a0} (hw : HW Z a0) : Cond.before (Cond.code (⟨"java/lang/Object", "<init>", "()V"⟩ : MethodName) object_method_1_code (1 : Nat) (Option.none : Option FieldType)) a0 Z = true := hw _ (List.mem_of_getElem? (i := 21) rfl)
theorem d0_1 : decode jdk_42_method_149_code 1 = .ok (.invokespecial 1, 3) := by decide +kernel
theorem d0_4 : decode jdk_42_method_149_code 4 = .ok (.iload_n 3, 1) := by decide +kernel
theorem d0_5 : decode jdk_42_method_149_code 5 = .ok (.ifCond .ne 22, 3) := by decide +kernel
theorem d0_8 : decode jdk_42_method_149_code 8 = .ok (.aload_n 0, 1) := by decide +kernel
theorem w22 {Z a0} (hw : HW Z a0) : Cond.before (Cond.stringLink "java/lang/String" (7 : Nat) "") a0 Z = true := hw _ (List.mem_of_getElem? (i := 22) rfl)
theorem d0_9 : decode jdk_42_method_149_code 9 = .ok (.ldc 7, 2) := by decide +kernel
theorem w28 {Z a0} (hw : HW Z a0) : Cond.before (Cond.fieldLink "java/lang/String" (9 : Nat) "java/lang/String" "value" "[B") a0 Z = true := hw _ (List.mem_of_getElem? (i := 28) rfl)
theorem d0_11 : decode jdk_42_method_149_code 11 = .ok (.getfield 9, 3) := by decide +kernel
theorem w24 {Z a0} (hw : HW Z a0) : Cond.before (Cond.laysFinal "java/lang/String" "java/lang/String" "value" "[B") a0 Z = true := hw _ (List.mem_of_getElem? (i := 24) rfl)
theorem w9 {Z a0} (hw : HW Z a0) : Cond.before (Cond.instantiable "java/lang/String" (4 : Nat)) a0 Z = true := hw _ (List.mem_of_getElem? (i := 9) rfl)
theorem d0_14 : decode jdk_42_method_149_code 14 = .ok (.putfield 9, 3) := by decide +kernel
theorem d0_17 : decode jdk_42_method_149_code 17 = .ok (.aload_n 0, 1) := by decide +kernel
theorem d0_18 : decode jdk_42_method_149_code 18 = .ok (.ldc 7, 2) := by decide +kernel
theorem w29 {Z a0} (hw : HW Z a0) : Cond.before (Cond.fieldLink "java/lang/String" (15 : Nat) "java/lang/String" "coder" "B") a0 Z = true := hw _ (List.mem_of_getElem? (i := 29) rfl)
theorem d0_20 : decode jdk_42_method_149_code 20 = .ok (.getfield 15, 3) := by decide +kernel
theorem w25 {Z a0} (hw : HW Z a0) : Cond.before (Cond.laysFinal "java/lang/String" "java/lang/String" "coder" "B") a0 Z = true := hw _ (List.mem_of_getElem? (i := 25) rfl)
theorem d0_23 : decode jdk_42_method_149_code 23 = .ok (.putfield 15, 3) := by decide +kernel
theorem d0_26 : decode jdk_42_method_149_code 26 = .ok (.return_, 1) := by decide +kernel
abbrev R_si4_0 : Room := { frames := 1, cells := 4, slots := 8, locals := 12 }
def Q_si4_0 (Z : State) (G1 : Int32) (G3 : Value) (x : Addr) (b : Addr) (k : ClassId) (h0 : Heap) (n0 : Nat) (v : Option Value) (h : Heap) (L : List Loc) : Prop := (∃ t : Addr, ∃ kt : ClassId, v = none ∧ Fr n0 L ∧ Keep h0 h [x] ∧ (Exa Z h x "java/lang/String") ∧ (Fld Z h x "java/lang/String" "coder" "B" (.int 0)) ∧ (Fld Z h x "java/lang/String" "value" "[B" (.ref t)) ∧ (Arv Z h t kt .byte (0 : Int32) [] (.int 0)))
theorem rm_si4_0 (l : Launch) (Z : State) (a0 : Array Value) (hw : HW Z a0) (ws : List Jvm.Cond) (G1 : Int32) (G3 : Value) (HG : own_G l Z a0 G1 G3) (h0 : Heap) (n0 : Nat) (X00 : Old Z n0 h0) (x : Addr) (b : Addr) (k : ClassId) (hp0 : Exa Z h0 x "java/lang/String") (hp1 : Fld Z h0 x "java/lang/String" "value" "[B" .null) (hp2 : Fld Z h0 x "java/lang/String" "coder" "B" (.int 0)) (hp3 : n0 ≤ x) (hp4 : Arv Z h0 b k .char (0 : Int32) [] (.int 0)) :
  own_CH l Z M0 jdk_42_method_149_code 6 none ws R_si4_0 #[(.ref x), (.ref b), (.int 0), (.int 0), .null] h0 (Q_si4_0 Z G1 G3 x b k h0 n0) := by
 refine own_H (plainFor_of_name pn_2) ?_
 intro p e s m below meth c s₁ S0 Bd hZ hh CH0 hS0 CR0 hx hby hml hown hnm X0 e0 hS0d
 obtain ⟨O1, P1, O3f, rG3⟩ := id HG
 have hEL := own_EL hw
 have hSA := own_SA hw
 have N0 := Fr.nil n0
 have C0 : Steps p.tables e below S0 (s₁.setTop (mkF m 0 #[VR x, VR b, VI 0, VI 0, .val .null, .unset] [])) := by rw [hS0d]; exact castTop (ef_1 m x b (0 : Int32) (0 : Int32)) (Steps.refl _)
 have Sf_1 : Safe Z consts_1 s.vm h0 x := (own_safe_null hZ.alike hp0 hp1)
 obtain ⟨T_2, X_3, e_4, st_5⟩ := initO X0 hx hZ hown (w19 hw) (w20 hw) (w21 hw) e0 (g := (mkF m 1 #[VR x, VR b, VI 0, VI 0, .val .null, .unset] [(.ref x)])) rfl (by rw [hml]; rfl) rfl (hb hby d0_1) (by decide) (W := 0) (by show 2 * 0 + _ ≤ _; exact Nat.le_of_eq rfl) (by decide)
 obtain ⟨a_6, T_7, h_8, k1_9, b_10, k_11, X_12, e_13, E_14, S_15, hk_16, hZ_17, ho_18, Ex_19, Fc_20, Fv_21, Va_22, la_23, lb_24, R_25, L_26, Sf_27, st_28⟩ := ldcCH (vm0 := s.vm) X_3 hx hZ hown (w22 hw) hSA e_4 hS0 (Nat.le_refl _) hEL (by decide) CH0 (vs := []) (z := (0 : Int32)) ⟨by decide, by decide⟩ (by decide) (by decide) (g := (mkF m 9 #[VR x, VR b, VI 0, VI 0, .val .null, .unset] [(.ref x)])) rfl (hb hby d0_9) (n := 0) (by decide) (by decide) (by decide) (by decide)
 have CH_29 : CHv Z consts_1 T_7.vm h_8 := R_25.1
 have CR_30 : CHr Z consts_1 s.vm h0 T_7.vm h_8 := CR0.trans R_25
 have E_31 : Exa Z h_8 x "java/lang/String" := (hp0.ext E_14)
 have F_32 : Fld Z h_8 x "java/lang/String" "value" "[B" .null := (hp1.ext E_14)
 obtain ⟨T_33, X_34, e_35, st_36⟩ := getF X_12 hx hZ_17 ho_18 (host := "") (Or.inl (w28 hw)) Via.refl e_13 Fv_21 (g := (mkF m 11 #[VR x, VR b, VI 0, VI 0, .val .null, .unset] [(.ref a_6), (.ref x)])) rfl rfl (hb hby d0_11)
 obtain ⟨T_37, h_38, X_39, e_40, W_41, st_42⟩ := putF X_34 hx hZ_17 ho_18 (host := "") (Or.inl (w28 hw)) Via.refl e_35 F_32 E_31 (Or.inr ⟨(w24 hw), rfl, hnm⟩) (w9 hw) (ty := (.array .byte)) (by decide) rfl rfl (g := (mkF m 14 #[VR x, VR b, VI 0, VI 0, .val .null, .unset] [(.ref b_10), (.ref x)])) rfl rfl (hb hby d0_14)
 have N_43 := Fr.snoc X_39 N0 hp3
 have CH_44 : CHv Z consts_1 T_7.vm h_38 := CHv.wr W_41 (own_safe_null hZ_17.alike E_31 F_32) CH_29
 have CR_45 : CHr Z consts_1 s.vm h0 T_7.vm h_38 := CR_30.trans (CHr.wr W_41 (own_safe_null hZ_17.alike E_31 F_32) CH_29)
 have F_46 : Fld Z h_38 x "java/lang/String" "value" "[B" (.ref b_10) := F_32.same W_41
 obtain ⟨a_47, T_48, h_49, k1_50, b_51, k_52, X_53, e_54, E_55, S_56, hk_57, hZ_58, ho_59, Ex_60, Fc_61, Fv_62, Va_63, la_64, lb_65, R_66, L_67, Sf_68, st_69⟩ := ldcCH (vm0 := T_7.vm) X_39 hx hZ_17 ho_18 (w22 hw) hSA e_40 S_15 (Nat.le_trans hk_16 (Keep.of_wr W_41).1) hEL (by decide) CH_44 (vs := []) (z := (0 : Int32)) ⟨by decide, by decide⟩ (by decide) (by decide) (g := (mkF m 18 #[VR x, VR b, VI 0, VI 0, .val .null, .unset] [(.ref x)])) rfl (hb hby d0_18) (n := 0) (by decide) (by decide) (by decide) (by decide)
 have CH_70 : CHv Z consts_1 T_48.vm h_49 := R_66.1
 have CR_71 : CHr Z consts_1 s.vm h0 T_48.vm h_49 := CR_45.trans R_66
 have Sf_72 : Safe Z consts_1 T_48.vm h_49 x := (CHr.safe R_66 (own_lt hp0.lt (Nat.le_trans E_14.1 (Keep.of_wr W_41).1)) (Safe.wr W_41 (own_safe_null hZ_17.alike E_31 F_32) CH_29 (CHr.safe R_25 (own_lt hp0.lt (Nat.le_refl _)) Sf_1)))
 obtain ⟨T_73, X_74, e_75, st_76⟩ := getF X_53 hx hZ_58 ho_59 (host := "") (Or.inl (w29 hw)) Via.refl e_54 Fc_61 (g := (mkF m 20 #[VR x, VR b, VI 0, VI 0, .val .null, .unset] [(.ref a_47), (.ref x)])) rfl rfl (hb hby d0_20)
 have F_77 : Fld Z h_49 x "java/lang/String" "coder" "B" (.int 0) := (((hp2.ext E_14).other W_41 (Or.inr (slot_ne (Or.inr (w25 hw)) (Or.inr (w24 hw)) (by decide) (t := .byte) (by decide) (t' := (.array .byte)) (by decide)))).ext E_55)
 have E_78 : Exa Z h_49 x "java/lang/String" := ((E_31.wr W_41).ext E_55)
 obtain ⟨T_79, h_80, X_81, e_82, W_83, st_84⟩ := putF X_74 hx hZ_58 ho_59 (host := "") (Or.inl (w29 hw)) Via.refl e_75 F_77 E_78 (Or.inr ⟨(w25 hw), rfl, hnm⟩) (w9 hw) (ty := .byte) (by decide) rfl (by decide) (g := (mkF m 23 #[VR x, VR b, VI 0, VI 0, .val .null, .unset] [(.int 0), (.ref x)])) rfl rfl (hb hby d0_23)
 have N_85 := Fr.snoc X_81 N_43 hp3
 have Sf_86 : Safe Z consts_1 T_48.vm h_49 x := Sf_72
 have CH_87 : CHv Z consts_1 T_48.vm h_80 := CHv.wr W_83 Sf_86 CH_70
 have CR_88 : CHr Z consts_1 s.vm h0 T_48.vm h_80 := CR_71.trans (CHr.wr W_83 Sf_86 CH_70)
 have F_89 : Fld Z h_80 x "java/lang/String" "coder" "B" (.int 0) := F_77.same W_83
 have C_90 : Steps p.tables e below S0 (T_79.setTop (mkF m 26 #[VR x, VR b, VI 0, VI 0, .val .null, .unset] [])) := by
  refine C0.trans ?_
  refine XS.aloadN X0.here hx rfl (hb hby d0_0) rfl rfl ?_
  refine st_5 _ ?_
  refine XS.iloadN X_3.here hx rfl (hb hby d0_4) rfl ?_
  refine XS.ifNo X_3.here hx rfl (hb hby d0_5) rfl (by decide) ?_
  refine XS.aloadN X_3.here hx rfl (hb hby d0_8) rfl rfl ?_
  refine st_28 _ ?_
  refine st_36 _ ?_
  refine st_42 _ ?_
  refine XS.aloadN X_39.here hx rfl (hb hby d0_17) rfl rfl ?_
  refine st_69 _ ?_
  refine st_76 _ ?_
  refine st_84 _ ?_
  exact Steps.refl _
 have E_91 : Exa Z h_80 x "java/lang/String" := (E_78.wr W_83)
 have F_92 : Fld Z h_80 x "java/lang/String" "value" "[B" (.ref b_10) := ((F_46.ext E_55).other W_83 (Or.inr (slot_ne (Or.inr (w24 hw)) (Or.inr (w25 hw)) (by decide) (t := (.array .byte)) (by decide) (t' := .byte) (by decide))))
 have V_93 : Arv Z h_80 b_10 k_11 .byte (0 : Int32) [] (.int 0) := (((Va_22.other W_41 (Ne.symm (Sf_27 _ (own_safe_null hZ_17.alike E_31 F_32)).2)).ext E_55).other W_83 (Ne.symm (Sf_27 _ (own_safe_null hZ_17.alike E_31 F_32)).2))
 have K_94 : Keep h0 h_80 [x] := (((((Keep.refl _ _).ext E_14).wr W_41 (Or.inl (List.mem_of_getElem? (i := 0) rfl))).ext E_55).wr W_83 (Or.inl (List.mem_of_getElem? (i := 0) rfl)))
 obtain ⟨fs, hr, hrun, hended, hRE⟩ := X_81.leaveW S_56 (by rw [show T_79.heap = h_80 from e_82]; exact (Nat.le_trans hk_57 (Keep.of_wr W_83).1)) (v := none) (fun _ => rfl)
 refine ⟨_, _, C_90.trans (X_81.returnOut hx Bd.returns (hb hby d0_26) hr), hrun, hended, _, _, rfl, ?_, ?_, hRE.1, hRE.2.1, hRE.2.2.1, hRE.2.2.2.mono (by decide) (by decide)⟩
 ·show Q_si4_0 Z G1 G3 x b k h0 n0 (none) T_79.heap _
  rw [e_82]
  exact ⟨b_10, k_11, rfl, N_85, K_94, E_91, F_89, F_92, V_93⟩
 ·show CHr Z consts_1 s.vm s.heap T_79.vm T_79.heap
  rw [hh, show T_79.heap = h_80 from e_82]
  exact CR_88.trans (CHv.at X_81 hZ_58 hEL CH_87)
abbrev M25 : MethodName := ⟨"java/lang/String", "<init>", "([C)V"⟩
theorem ef_26 (m : MethodId) (x0 : Addr) (x1 : Addr) : entryFrame m #[(.ref x0), (.ref x1)] 2 = mkF m 0 #[VR x0, VR x1] [] := by first | (simp [entryFrame, mkF, argsToLocals, Value.category]; done) | rfl
theorem d1_0 : decode jdk_42_method_3_code 0 = .ok (.aload_n 0, 1) := by decide +kernel
theorem d1_1 : decode jdk_42_method_3_code 1 = .ok (.aload_n 1, 1) := by decide +kernel
theorem d1_2 : decode jdk_42_method_3_code 2 = .ok (.iconst 0, 1) := by decide +kernel
theorem d1_3 : decode jdk_42_method_3_code 3 = .ok (.aload_n 1, 1) := by decide +kernel
theorem d1_4 : decode jdk_42_method_3_code 4 = .ok (.arraylength, 1) := by decide +kernel
theorem d1_5 : decode jdk_42_method_3_code 5 = .ok (.aconst_null, 1) := by decide +kernel
theorem w18 {Z a0} (hw : HW Z a0) : Cond.before (Cond.code (⟨"java/lang/String", "<init>", "([CIILjava/lang/Void;)V"⟩ : MethodName) jdk_42_method_149_code (6 : Nat) (Option.none : Option FieldType)) a0 Z = true := hw _ (List.mem_of_getElem? (i := 18) rfl)
theorem w10 {Z a0} (hw : HW Z a0) : Cond.before (Cond.initialized "java/lang/String") a0 Z = true := hw _ (List.mem_of_getElem? (i := 10) rfl)
theorem pd_35 : parseMethodDescriptor "([CIILjava/lang/Void;)V" = some ⟨[(.array .char), .int, .int, (.object "java/lang/Void")], none⟩ := by decide +kernel
theorem d1_6 : decode jdk_42_method_3_code 6 = .ok (.invokespecial 27, 3) := by decide +kernel
theorem w15 {Z a0} (hw : HW Z a0) : Cond.before (Cond.methodLink "java/lang/String" (27 : Nat) (⟨"java/lang/String", "<init>", "([CIILjava/lang/Void;)V"⟩ : MethodName)) a0 Z = true := hw _ (List.mem_of_getElem? (i := 15) rfl)
theorem w16 {Z a0} (hw : HW Z a0) : Cond.before (Cond.instanceMethod (⟨"java/lang/String", "<init>", "([CIILjava/lang/Void;)V"⟩ : MethodName)) a0 Z = true := hw _ (List.mem_of_getElem? (i := 16) rfl)
theorem d1_9 : decode jdk_42_method_3_code 9 = .ok (.return_, 1) := by decide +kernel
abbrev R_si1_0 : Room := { frames := 2, cells := 4, slots := 8, locals := 29 }
def Q_si1_0 (Z : State) (G1 : Int32) (G3 : Value) (x : Addr) (b : Addr) (k : ClassId) (h0 : Heap) (n0 : Nat) (v : Option Value) (h : Heap) (L : List Loc) : Prop := (∃ t : Addr, ∃ kt : ClassId, v = none ∧ Fr n0 L ∧ Keep h0 h [x] ∧ (Exa Z h x "java/lang/String") ∧ (Fld Z h x "java/lang/String" "coder" "B" (.int 0)) ∧ (Fld Z h x "java/lang/String" "value" "[B" (.ref t)) ∧ (Arv Z h t kt .byte (0 : Int32) [] (.int 0)))
theorem rm_si1_0 (l : Launch) (Z : State) (a0 : Array Value) (hw : HW Z a0) (ws : List Jvm.Cond) (G1 : Int32) (G3 : Value) (HG : own_G l Z a0 G1 G3) (h0 : Heap) (n0 : Nat) (X00 : Old Z n0 h0) (x : Addr) (b : Addr) (k : ClassId) (hp0 : Exa Z h0 x "java/lang/String") (hp1 : Fld Z h0 x "java/lang/String" "value" "[B" .null) (hp2 : Fld Z h0 x "java/lang/String" "coder" "B" (.int 0)) (hp3 : n0 ≤ x) (hp4 : Arv Z h0 b k .char (0 : Int32) [] (.int 0)) :
  own_CH l Z M25 jdk_42_method_3_code 2 none ws R_si1_0 #[(.ref x), (.ref b)] h0 (Q_si1_0 Z G1 G3 x b k h0 n0) := by
 refine own_H (plainFor_of_name pn_2) ?_
 intro p e s m below meth c s₁ S0 Bd hZ hh CH0 hS0 CR0 hx hby hml hown hnm X0 e0 hS0d
 obtain ⟨O1, P1, O3f, rG3⟩ := id HG
 have hEL := own_EL hw
 have hSA := own_SA hw
 have N0 := Fr.nil n0
 have C0 : Steps p.tables e below S0 (s₁.setTop (mkF m 0 #[VR x, VR b] [])) := by rw [hS0d]; exact castTop (ef_26 m x b) (Steps.refl _)
 obtain ⟨c_1, A_2, q_3, S_4, M_5, H_6, U_7⟩ := id hp4
 obtain ⟨_, _, ⟨T_8, L_8, k_8, n_8⟩, -, Y_8, S_8, G_8, ⟨Lc_8, hQ_8, l_8, y_8, z_8, R_8⟩, st_8⟩ := X0.specialBackS hx (y := M0) rfl hown (mvT hZ (w15 hw)) (mvT hZ (w16 hw)) (mvT hZ (w18 hw)) (by decide) (backOfSH (vm0 := s.vm) (W := 0) (rm_si4_0 l Z a0 hw [] G1 G3 HG h0 n0 X00 x b k hp0 hp1 hp2 hp3 hp4) hZ (w18 hw) (w10 hw) (by decide) (by decide) hEL CH0) (g := (mkF m 6 #[VR x, VR b] [.null, (.int 0), (.int 0), (.ref b), (.ref x)])) rfl (by rw [hml]; rfl) (Steps.refl _) (a := x) (argsL := [(.ref b), (.int 0), (.int 0), .null]) (rest := []) (lenOf pd_35 rfl) rfl (by show 2 * 0 + _ ≤ _; exact Nat.le_of_eq rfl) (hb hby d1_6) (fun _ _ => ⟨rfl, e0, (by decide : 0 + 4 ≤ _), (by decide : 0 + 8 ≤ _)⟩)
 dsimp only [Pt.U, Pt.locs, Pt.cells, Pt.slots] at Y_8 S_8 G_8 l_8 y_8 z_8 st_8 hQ_8 R_8
 subst l_8 y_8 z_8
 obtain ⟨X_8, hS_8, hZ_8, hown_8⟩ := rebS hS0 (n1 := s₁.heap.size) (by rw [show s₁.heap = h0 from e0]; exact (Nat.le_refl _)) Y_8 S_8 G_8 hZ hown
 obtain ⟨a_9, k_10, rfl, N_11, K_12, g_13, g_14, g_15, g_16⟩ := hQ_8
 have N_17 := Fr.app N0 N_11
 have CH_18 : CHv Z consts_1 T_8.vm T_8.heap := R_8.1
 have CR_19 : CHr Z consts_1 s.vm h0 T_8.vm T_8.heap := CR0.trans R_8
 have C_20 : Steps p.tables e below S0 (T_8.setTop (mkF m 9 #[VR x, VR b] [])) := by
  refine C0.trans ?_
  refine XS.aloadN X0.here hx rfl (hb hby d1_0) rfl rfl ?_
  refine XS.aloadN X0.here hx rfl (hb hby d1_1) rfl rfl ?_
  refine XS.iconst X0.here hx rfl (hb hby d1_2) ?_
  refine XS.aloadN X0.here hx rfl (hb hby d1_3) rfl rfl ?_
  refine X0.arraylength hx (by rw [e0]; exact A_2.1) (State.isArrayOf_alike hZ.alike A_2.2.1) (g := (mkF m 4 #[VR x, VR b] [(.ref b), (.int 0), (.ref b), (.ref x)])) rfl rfl (hb hby d1_4) _ ?_
  rw [len_of S_4 M_5]
  refine XS.aconstNull X0.here hx rfl (hb hby d1_5) ?_
  refine st_8.trans ?_
  exact Steps.refl _
 have K_21 : Keep h0 T_8.heap [x] := ((Keep.refl _ _).trans K_12 (allS (Or.inl (List.mem_of_getElem? (i := 0) rfl)) all0))
 obtain ⟨fs, hr, hrun, hended, hRE⟩ := X_8.leaveW hS_8 (by rw [show T_8.heap = T_8.heap from rfl]; exact (Nat.le_refl _)) (v := none) (fun _ => rfl)
 refine ⟨_, _, C_20.trans (X_8.returnOut hx Bd.returns (hb hby d1_9) hr), hrun, hended, _, _, rfl, ?_, ?_, hRE.1, hRE.2.1, hRE.2.2.1, hRE.2.2.2.mono (by decide) (by decide)⟩
 ·show Q_si1_0 Z G1 G3 x b k h0 n0 (none) T_8.heap _
  exact ⟨a_9, k_10, rfl, N_17, K_21, g_13, g_14, g_15, g_16⟩
 ·show CHr Z consts_1 s.vm s.heap T_8.vm T_8.heap
  rw [hh]
  exact CR_19.trans (CHv.at X_8 hZ_8 hEL CH_18)
abbrev M40 : MethodName := ⟨"java/lang/StringUTF16", "compress", "([CI[BII)I"⟩
theorem ef_41 (m : MethodId) (x0 : Addr) (x1 : Int32) (x2 : Addr) (x3 : Int32) (x4 : Int32) : entryFrame m #[(.ref x0), (.int x1), (.ref x2), (.int x3), (.int x4)] 7 = mkF m 0 #[VR x0, VI x1, VR x2, VI x3, VI x4, .unset, .unset] [] := by first | (simp [entryFrame, mkF, argsToLocals, Value.category]; done) | rfl
theorem pn_42 : plainName "java/lang/StringUTF16" = true := by first | (simp [plainName, overriddenIn]; done) | decide +kernel
theorem d2_0 : decode jdk_52_method_21_code 0 = .ok (.iconst 0, 1) := by decide +kernel
theorem d2_1 : decode jdk_52_method_21_code 1 = .ok (.istore 5, 2) := by decide +kernel
theorem d2_3 : decode jdk_52_method_21_code 3 = .ok (.iload 5, 2) := by decide +kernel
theorem d2_5 : decode jdk_52_method_21_code 5 = .ok (.iload 4, 2) := by decide +kernel
theorem d2_7 : decode jdk_52_method_21_code 7 = .ok (.if_icmp .ge 37, 3) := by decide +kernel
theorem d2_10 : decode jdk_52_method_21_code 10 = .ok (.aload_n 0, 1) := by decide +kernel
theorem d2_11 : decode jdk_52_method_21_code 11 = .ok (.iload_n 1, 1) := by decide +kernel
theorem d2_12 : decode jdk_52_method_21_code 12 = .ok (.caload, 1) := by decide +kernel
theorem d2_13 : decode jdk_52_method_21_code 13 = .ok (.istore 6, 2) := by decide +kernel
theorem d2_15 : decode jdk_52_method_21_code 15 = .ok (.iload 6, 2) := by decide +kernel
theorem d2_17 : decode jdk_52_method_21_code 17 = .ok (.sipush 255, 3) := by decide +kernel
theorem d2_20 : decode jdk_52_method_21_code 20 = .ok (.if_icmp .le 6, 3) := by decide +kernel
theorem d2_26 : decode jdk_52_method_21_code 26 = .ok (.aload_n 2, 1) := by decide +kernel
theorem d2_27 : decode jdk_52_method_21_code 27 = .ok (.iload_n 3, 1) := by decide +kernel
theorem d2_28 : decode jdk_52_method_21_code 28 = .ok (.iload 6, 2) := by decide +kernel
theorem d2_30 : decode jdk_52_method_21_code 30 = .ok (.i2b, 1) := by decide +kernel
theorem d2_31 : decode jdk_52_method_21_code 31 = .ok (.bastore, 1) := by decide +kernel
theorem d2_32 : decode jdk_52_method_21_code 32 = .ok (.iinc 1 1, 3) := by decide +kernel
theorem d2_35 : decode jdk_52_method_21_code 35 = .ok (.iinc 3 1, 3) := by decide +kernel
theorem d2_38 : decode jdk_52_method_21_code 38 = .ok (.iinc 5 1, 3) := by decide +kernel
theorem d2_41 : decode jdk_52_method_21_code 41 = .ok (.goto (-38), 3) := by decide +kernel
theorem d2_44 : decode jdk_52_method_21_code 44 = .ok (.iload 4, 2) := by decide +kernel
theorem d2_46 : decode jdk_52_method_21_code 46 = .ok (.ireturn, 1) := by decide +kernel
abbrev R_cmp5_1 : Room := { frames := 0, cells := 0, slots := 0, locals := 0 }
def Q_cmp5_1 (Z : State) (G1 : Int32) (G3 : Value) (b : Addr) (k : ClassId) (t : Addr) (kt : ClassId) (c0 : Int32) (h0 : Heap) (n0 : Nat) (v : Option Value) (h : Heap) (L : List Loc) : Prop := (v = some (.int 1) ∧ Fr n0 L ∧ Keep h0 h [t] ∧ (Arv Z h t kt .byte (1 : Int32) [(.int (own_lo8 c0))] (.int 0)))
theorem rm_cmp5_1 (l : Launch) (Z : State) (a0 : Array Value) (hw : HW Z a0) (ws : List Jvm.Cond) (G1 : Int32) (G3 : Value) (HG : own_G l Z a0 G1 G3) (h0 : Heap) (n0 : Nat) (X00 : Old Z n0 h0) (b : Addr) (k : ClassId) (t : Addr) (kt : ClassId) (c0 : Int32) (hp0 : Arv Z h0 b k .char (1 : Int32) [(.int c0)] (.int 0)) (hp1 : Arv Z h0 t kt .byte (1 : Int32) [(.int 0)] (.int 0)) (hp2 : n0 ≤ t) (hp3 : b ≠ t) (hh0 : ¬ ((255 : Int32) < c0)) :
  own_CP l Z M40 jdk_52_method_21_code 7 (some .int) ws R_cmp5_1 #[(.ref b), (.int 0), (.ref t), (.int 0), (.int 1)] h0 (Q_cmp5_1 Z G1 G3 b k t kt c0 h0 n0) := by
 refine own_P (plainFor_of_name pn_42) ?_
 intro p e s m below meth c s₁ S0 Bd hZ hh hx hby hml hown hnm X0 e0 hS0d
 obtain ⟨O1, P1, O3f, rG3⟩ := id HG
 have N0 := Fr.nil n0
 have C0 : Steps p.tables e below S0 (s₁.setTop (mkF m 0 #[VR b, VI 0, VR t, VI 0, VI 1, .unset, .unset] [])) := by rw [hS0d]; exact castTop (ef_41 m b (0 : Int32) t (0 : Int32) (1 : Int32)) (Steps.refl _)
 obtain ⟨c_1, A_2, q_3, S_4, M_5, H_6, U_7⟩ := id hp0
 have hin_8 : ¬ ((0 : Int32) < 0 ∨ c_1.slots.size ≤ (0 : Int32).toNatClampNeg) := inb_of S_4 ⟨(by decide : ¬ ((0 : Int32) < (0 : Int32))), (by decide : (0 : Int32) < (1 : Int32))⟩
 have hat_9 : c_1.slots[(0 : Int32).toNatClampNeg]? = some (.int c0) := Has.at H_6 hin_8 rfl
 obtain ⟨c_10, A_11, q_12, S_13, M_14, H_15, U_16⟩ := id hp1
 have hin_23 : ¬ ((0 : Int32) < 0 ∨ c_10.slots.size ≤ (0 : Int32).toNatClampNeg) := inb_of S_13 ⟨(by decide : ¬ ((0 : Int32) < (0 : Int32))), (by decide : (0 : Int32) < (1 : Int32))⟩
 obtain ⟨T_17, h_18, X_19, e_20, W_21, st_22⟩ := stB X0 hx hZ e0 A_11 (j := (0 : Int32)) hin_23 (g := (mkF m 31 #[VR b, VI 0, VR t, VI 0, VI 1, VI 0, VI c0] [(.int (c0.toInt8.toInt32)), (.int 0), (.ref t)])) rfl rfl (hb hby d2_31)
 have N_24 := Fr.snoc X_19 N0 hp2
 have V_25 : Arv Z h_18 t kt .byte (1 : Int32) [(.int (own_lo8 c0))] (.int 0) := Arv.set A_11 q_12 S_13 M_14 H_15 U_16 (fits_nar_byte _) W_21 0 rfl (Nat.le_of_ble_eq_true rfl)
 have C_26 : Steps p.tables e below S0 (T_17.setTop (mkF m 46 #[VR b, VI 1, VR t, VI 1, VI 1, VI 1, VI c0] [(.int 1)])) := by
  refine C0.trans ?_
  refine XS.iconst X0.here hx rfl (hb hby d2_0) ?_
  refine XS.istore X0.here hx rfl (hb hby d2_1) rfl (l' := #[VR b, VI 0, VR t, VI 0, VI 1, VI 0, .unset]) rfl ?_
  refine XS.iload X0.here hx rfl (hb hby d2_3) rfl ?_
  refine XS.iload X0.here hx rfl (hb hby d2_5) rfl ?_
  refine XS.icmpNo X0.here hx rfl (hb hby d2_7) rfl (by decide) ?_
  refine XS.aloadN X0.here hx rfl (hb hby d2_10) rfl rfl ?_
  refine XS.iloadN X0.here hx rfl (hb hby d2_11) rfl ?_
  refine X0.caload hx (j := (0 : Int32)) (v := (.int c0)) (by rw [e0]; exact A_2.1) (State.isArrayOf_alike hZ.alike A_2.2.1) A_2.2.2 hin_8 hat_9 (g := (mkF m 12 #[VR b, VI 0, VR t, VI 0, VI 1, VI 0, .unset] [(.int 0), (.ref b)])) rfl rfl (hb hby d2_12) _ ?_
  refine XS.istore X0.here hx rfl (hb hby d2_13) rfl (l' := #[VR b, VI 0, VR t, VI 0, VI 1, VI 0, VI c0]) rfl ?_
  refine XS.iload X0.here hx rfl (hb hby d2_15) rfl ?_
  refine XS.sipush X0.here hx rfl (hb hby d2_17) ?_
  refine XS.icmpYes X0.here hx rfl (pc0 := 20) (pc' := 26) rfl (hb hby d2_20) rfl (ii_le_t hh0) (by decide) (by decide) ?_
  refine XS.aloadN X0.here hx rfl (hb hby d2_26) rfl rfl ?_
  refine XS.iloadN X0.here hx rfl (hb hby d2_27) rfl ?_
  refine XS.iload X0.here hx rfl (hb hby d2_28) rfl ?_
  refine XS.i2b X0.here hx rfl (hb hby d2_30) rfl ?_
  show Steps p.tables e below (s₁.setTop (mkF m 31 #[VR b, VI 0, VR t, VI 0, VI 1, VI 0, VI c0] [(.int (c0.toInt8.toInt32)), (.int 0), (.ref t)])) _
  refine st_22 _ ?_
  refine XS.iinc X_19.here hx rfl (hb hby d2_32) (x := (0 : Int32)) rfl (l' := #[VR b, VI 1, VR t, VI 0, VI 1, VI 0, VI c0]) rfl ?_
  refine XS.iinc X_19.here hx rfl (hb hby d2_35) (x := (0 : Int32)) rfl (l' := #[VR b, VI 1, VR t, VI 1, VI 1, VI 0, VI c0]) rfl ?_
  refine XS.iinc X_19.here hx rfl (hb hby d2_38) (x := (0 : Int32)) rfl (l' := #[VR b, VI 1, VR t, VI 1, VI 1, VI 1, VI c0]) rfl ?_
  refine XS.goto X_19.here hx rfl (pc0 := 41) (pc' := 3) rfl (hb hby d2_41) (by decide) (by decide) ?_
  refine XS.iload X_19.here hx rfl (hb hby d2_3) rfl ?_
  refine XS.iload X_19.here hx rfl (hb hby d2_5) rfl ?_
  refine XS.icmpYes X_19.here hx rfl (pc0 := 7) (pc' := 44) rfl (hb hby d2_7) rfl (by decide) (by decide) (by decide) ?_
  refine XS.iload X_19.here hx rfl (hb hby d2_44) rfl ?_
  exact Steps.refl _
 have K_27 : Keep h0 h_18 [t] := ((Keep.refl _ _).wr W_21 (Or.inl (List.mem_of_getElem? (i := 0) rfl)))
 obtain ⟨fs, hr, hrun, hended, hW, hsame⟩ := X_19.leave (v := some (.int 1)) (fun h => by rw [Bd.returns] at h; cases h)
 refine ⟨_, _, C_26.trans (retOut X_19 hx Bd.returns rfl (Or.inl ⟨rfl, Or.inl rfl, _, rfl⟩) (hb hby d2_46) hr), hrun, hended, _, _, rfl, ?_, ⟨_, rfl⟩, hW, hsame.mono (by decide) (by decide)⟩
 show Q_cmp5_1 Z G1 G3 b k t kt c0 h0 n0 (some (.int 1)) T_17.heap _
 rw [e_20]
 exact ⟨rfl, N_24, K_27, V_25⟩
abbrev M66 : MethodName := ⟨"java/lang/StringUTF16", "compress", "([CII)[B"⟩
theorem ef_67 (m : MethodId) (x0 : Addr) (x1 : Int32) (x2 : Int32) : entryFrame m #[(.ref x0), (.int x1), (.int x2)] 6 = mkF m 0 #[VR x0, VI x1, VI x2, .unset, .unset, .unset] [] := by first | (simp [entryFrame, mkF, argsToLocals, Value.category]; done) | rfl
theorem d3_0 : decode jdk_52_method_16_code 0 = .ok (.iload_n 2, 1) := by decide +kernel
theorem w23 {Z a0} (hw : HW Z a0) : Cond.before (Cond.arrayClass FieldType.byte) a0 Z = true := hw _ (List.mem_of_getElem? (i := 23) rfl)
theorem d3_1 : decode jdk_52_method_16_code 1 = .ok (.newarray .byte, 2) := by decide +kernel
theorem d3_3 : decode jdk_52_method_16_code 3 = .ok (.astore_n 3, 1) := by decide +kernel
theorem d3_4 : decode jdk_52_method_16_code 4 = .ok (.aload_n 0, 1) := by decide +kernel
theorem d3_5 : decode jdk_52_method_16_code 5 = .ok (.iload_n 1, 1) := by decide +kernel
theorem d3_6 : decode jdk_52_method_16_code 6 = .ok (.aload_n 3, 1) := by decide +kernel
theorem d3_7 : decode jdk_52_method_16_code 7 = .ok (.iconst 0, 1) := by decide +kernel
theorem d3_8 : decode jdk_52_method_16_code 8 = .ok (.iload_n 2, 1) := by decide +kernel
theorem w114 {Z a0} (hw : HW Z a0) : Cond.before (Cond.code (⟨"java/lang/StringUTF16", "compress", "([CI[BII)I"⟩ : MethodName) jdk_52_method_21_code (7 : Nat) (Option.some FieldType.int)) a0 Z = true := hw _ (List.mem_of_getElem? (i := 114) rfl)
theorem w110 {Z a0} (hw : HW Z a0) : Cond.before (Cond.initialized "java/lang/StringUTF16") a0 Z = true := hw _ (List.mem_of_getElem? (i := 110) rfl)
theorem pd_79 : parseMethodDescriptor "([CI[BII)I" = some ⟨[(.array .char), .int, (.array .byte), .int, .int], some .int⟩ := by decide +kernel
theorem d3_9 : decode jdk_52_method_16_code 9 = .ok (.invokestatic 115, 3) := by decide +kernel
theorem w112 {Z a0} (hw : HW Z a0) : Cond.before (Cond.methodLink "java/lang/StringUTF16" (115 : Nat) (⟨"java/lang/StringUTF16", "compress", "([CI[BII)I"⟩ : MethodName)) a0 Z = true := hw _ (List.mem_of_getElem? (i := 112) rfl)
theorem w113 {Z a0} (hw : HW Z a0) : Cond.before (Cond.static (⟨"java/lang/StringUTF16", "compress", "([CI[BII)I"⟩ : MethodName)) a0 Z = true := hw _ (List.mem_of_getElem? (i := 113) rfl)
theorem d3_12 : decode jdk_52_method_16_code 12 = .ok (.istore 4, 2) := by decide +kernel
theorem d3_14 : decode jdk_52_method_16_code 14 = .ok (.iload 4, 2) := by decide +kernel
theorem d3_16 : decode jdk_52_method_16_code 16 = .ok (.iload_n 2, 1) := by decide +kernel
theorem d3_17 : decode jdk_52_method_16_code 17 = .ok (.if_icmp .eq 40, 3) := by decide +kernel
theorem d3_57 : decode jdk_52_method_16_code 57 = .ok (.aload_n 3, 1) := by decide +kernel
theorem d3_58 : decode jdk_52_method_16_code 58 = .ok (.areturn, 1) := by decide +kernel
abbrev R_cmp3_1 : Room := { frames := 1, cells := 1, slots := 1, locals := 18 }
def Q_cmp3_1 (Z : State) (G1 : Int32) (G3 : Value) (b : Addr) (k : ClassId) (c0 : Int32) (h0 : Heap) (n0 : Nat) (v : Option Value) (h : Heap) (L : List Loc) : Prop := (∃ t : Addr, ∃ kt : ClassId, v = some (.ref t) ∧ Fr n0 L ∧ Keep h0 h [] ∧ (h0.size ≤ t) ∧ (Arv Z h t kt .byte (1 : Int32) [(.int (own_lo8 c0))] (.int 0)))
theorem rm_cmp3_1 (l : Launch) (Z : State) (a0 : Array Value) (hw : HW Z a0) (ws : List Jvm.Cond) (G1 : Int32) (G3 : Value) (HG : own_G l Z a0 G1 G3) (h0 : Heap) (n0 : Nat) (X00 : Old Z n0 h0) (b : Addr) (k : ClassId) (c0 : Int32) (hp0 : Arv Z h0 b k .char (1 : Int32) [(.int c0)] (.int 0)) (hh0 : ¬ ((255 : Int32) < c0)) :
  own_CP l Z M66 jdk_52_method_16_code 6 (some (.array .byte)) ws R_cmp3_1 #[(.ref b), (.int 0), (.int 1)] h0 (Q_cmp3_1 Z G1 G3 b k c0 h0 n0) := by
 refine own_P (plainFor_of_name pn_42) ?_
 intro p e s m below meth c s₁ S0 Bd hZ hh hx hby hml hown hnm X0 e0 hS0d
 obtain ⟨O1, P1, O3f, rG3⟩ := id HG
 have N0 := Fr.nil n0
 have C0 : Steps p.tables e below S0 (s₁.setTop (mkF m 0 #[VR b, VI 0, VI 1, .unset, .unset, .unset] [])) := by rw [hS0d]; exact castTop (ef_67 m b (0 : Int32) (1 : Int32)) (Steps.refl _)
 obtain ⟨T_1, h_2, k_3, X_4, e_5, E_6, A_7, st_8⟩ := newP (aty := .byte) X0 hx hZ (w23 hw) e0 (g := (mkF m 1 #[VR b, VI 0, VI 1, .unset, .unset, .unset] [(.int 1)])) rfl (hb hby d3_1) rfl (by decide : ¬ ((1 : Int32) < (0 : Int32))) (cap := 1) (by decide : (1 : Int32).toNatClampNeg ≤ 1) (by decide) (by decide) (by decide)
 obtain ⟨a_9, g_10⟩ : ∃ z, z = h0.size := ⟨_, rfl⟩
 rw [← g_10] at A_7 st_8
 have V_12 : Arv Z h_2 a_9 k_3 .byte (1 : Int32) [] (.int 0) := Arv.new A_7 (by decide : ¬ ((1 : Int32) < (0 : Int32)))
 have V_11 : Arv Z h_2 a_9 k_3 .byte (1 : Int32) [(.int 0)] (.int 0) := (V_12.pad (pad_rep [] (.int 0) 1))
 have V_13 : Arv Z h_2 b k .char (1 : Int32) [(.int c0)] (.int 0) := (hp0.ext E_6)
 have O_14 : Old Z n0 h_2 := (X00.ext E_6)
 obtain ⟨_, _, ⟨T_15, L_15, k_15, n_15⟩, -, X_15, ⟨Lc_15, hQ_15, l_15, y_15, z_15⟩, st_15⟩ := Jvm.LawKit.callS X_4 hx (y := M40) hown (mvT hZ (w112 hw)) (mvT hZ (w113 hw)) (mvT hZ (w110 hw)) (mvT hZ (w114 hw)) (by decide) (backOf (W := 0) (rm_cmp5_1 l Z a0 hw [] G1 G3 HG h_2 n0 O_14 b k a_9 k_3 c0 V_13 V_11 (Nat.le_trans (own_n0 X00) (Nat.le_of_eq g_10.symm)) (Nat.ne_of_lt (Nat.lt_of_lt_of_le hp0.lt (Nat.le_trans (Nat.le_refl _) (Nat.le_of_eq g_10.symm)))) hh0) hZ (w114 hw) (w110 hw) (by decide) (by decide)) (g := (mkF m 9 #[VR b, VI 0, VI 1, VR a_9, .unset, .unset] [(.int 1), (.int 0), (.ref a_9), (.int 0), (.ref b)])) rfl (by rw [hml]; rfl) (argsL := [(.ref b), (.int 0), (.ref a_9), (.int 0), (.int 1)]) (rest := []) (lenOf pd_79 rfl) rfl (by show 2 * 0 + _ ≤ _; exact Nat.le_of_eq rfl) (hb hby d3_9) (fun _ _ => ⟨rfl, e_5, (by decide : 1 + 0 ≤ _), (by decide : 1 + 0 ≤ _)⟩)
 dsimp only [Pt.U, Pt.locs, Pt.cells, Pt.slots] at X_15 l_15 y_15 z_15 st_15 hQ_15
 subst l_15 y_15 z_15
 obtain ⟨rfl, N_16, K_17, g_18⟩ := hQ_15
 have N_19 := Fr.app N0 N_16
 have C_20 : Steps p.tables e below S0 (T_15.setTop (mkF m 58 #[VR b, VI 0, VI 1, VR a_9, VI 1, .unset] [(.ref a_9)])) := by
  refine C0.trans ?_
  refine XS.iloadN X0.here hx rfl (hb hby d3_0) rfl ?_
  refine st_8 _ ?_
  refine XS.astoreN X_4.here hx rfl (hb hby d3_3) rfl rfl (l' := #[VR b, VI 0, VI 1, VR a_9, .unset, .unset]) rfl ?_
  refine XS.aloadN X_4.here hx rfl (hb hby d3_4) rfl rfl ?_
  refine XS.iloadN X_4.here hx rfl (hb hby d3_5) rfl ?_
  refine XS.aloadN X_4.here hx rfl (hb hby d3_6) rfl rfl ?_
  refine XS.iconst X_4.here hx rfl (hb hby d3_7) ?_
  refine XS.iloadN X_4.here hx rfl (hb hby d3_8) rfl ?_
  refine st_15 _ ?_
  refine XS.istore X_15.here hx rfl (hb hby d3_12) rfl (l' := #[VR b, VI 0, VI 1, VR a_9, VI 1, .unset]) rfl ?_
  refine XS.iload X_15.here hx rfl (hb hby d3_14) rfl ?_
  refine XS.iloadN X_15.here hx rfl (hb hby d3_16) rfl ?_
  refine XS.icmpYes X_15.here hx rfl (pc0 := 17) (pc' := 57) rfl (hb hby d3_17) rfl (by decide) (by decide) (by decide) ?_
  refine XS.aloadN X_15.here hx rfl (hb hby d3_57) rfl rfl ?_
  exact Steps.refl _
 have K_21 : Keep h0 T_15.heap [] := (((Keep.refl _ _).ext E_6).trans K_17 (allS (Or.inr (Nat.le_trans (Nat.le_refl _) (Nat.le_of_eq g_10.symm))) all0))
 obtain ⟨fs, hr, hrun, hended, hW, hsame⟩ := X_15.leave (v := some (.ref a_9)) (fun h => by rw [Bd.returns] at h; cases h)
 refine ⟨_, _, C_20.trans (retOut X_15 hx Bd.returns rfl (Or.inr (Or.inr (Or.inr (Or.inr ⟨rfl, rfl, rfl⟩)))) (hb hby d3_58) hr), hrun, hended, _, _, rfl, ?_, ⟨_, rfl⟩, hW, hsame.mono (by decide) (by decide)⟩
 show Q_cmp3_1 Z G1 G3 b k c0 h0 n0 (some (.ref a_9)) T_15.heap _
 exact ⟨a_9, k_3, rfl, N_19, K_21, (Nat.le_trans (Nat.le_refl _) (Nat.le_of_eq g_10.symm)), g_18⟩
abbrev M89 : MethodName := ⟨"java/lang/StringUTF16", "coderFromArrayLen", "([BI)B"⟩
theorem ef_90 (m : MethodId) (x0 : Addr) (x1 : Int32) : entryFrame m #[(.ref x0), (.int x1)] 2 = mkF m 0 #[VR x0, VI x1] [] := by first | (simp [entryFrame, mkF, argsToLocals, Value.category]; done) | rfl
theorem d4_0 : decode jdk_52_method_15_code 0 = .ok (.iload_n 1, 1) := by decide +kernel
theorem d4_1 : decode jdk_52_method_15_code 1 = .ok (.aload_n 0, 1) := by decide +kernel
theorem d4_2 : decode jdk_52_method_15_code 2 = .ok (.arraylength, 1) := by decide +kernel
theorem d4_3 : decode jdk_52_method_15_code 3 = .ok (.isub, 1) := by decide +kernel
theorem d4_4 : decode jdk_52_method_15_code 4 = .ok (.bipush 31, 2) := by decide +kernel
theorem d4_6 : decode jdk_52_method_15_code 6 = .ok (.iushr, 1) := by decide +kernel
theorem d4_7 : decode jdk_52_method_15_code 7 = .ok (.i2b, 1) := by decide +kernel
theorem d4_8 : decode jdk_52_method_15_code 8 = .ok (.ireturn, 1) := by decide +kernel
abbrev R_codl_1 : Room := { frames := 0, cells := 0, slots := 0, locals := 0 }
def Q_codl_1 (Z : State) (G1 : Int32) (G3 : Value) (t : Addr) (kt : ClassId) (y0 : Int32) (h0 : Heap) (n0 : Nat) (v : Option Value) (h : Heap) (L : List Loc) : Prop := (v = some (.int 0) ∧ Fr n0 L ∧ h = h0)
theorem rm_codl_1 (l : Launch) (Z : State) (a0 : Array Value) (hw : HW Z a0) (ws : List Jvm.Cond) (G1 : Int32) (G3 : Value) (HG : own_G l Z a0 G1 G3) (h0 : Heap) (n0 : Nat) (X00 : Old Z n0 h0) (t : Addr) (kt : ClassId) (y0 : Int32) (hp0 : Arv Z h0 t kt .byte (1 : Int32) [(.int y0)] (.int 0)) :
  own_CP l Z M89 jdk_52_method_15_code 2 (some .byte) ws R_codl_1 #[(.ref t), (.int 1)] h0 (Q_codl_1 Z G1 G3 t kt y0 h0 n0) := by
 refine own_P (plainFor_of_name pn_42) ?_
 intro p e s m below meth c s₁ S0 Bd hZ hh hx hby hml hown hnm X0 e0 hS0d
 obtain ⟨O1, P1, O3f, rG3⟩ := id HG
 have N0 := Fr.nil n0
 have C0 : Steps p.tables e below S0 (s₁.setTop (mkF m 0 #[VR t, VI 1] [])) := by rw [hS0d]; exact castTop (ef_90 m t (1 : Int32)) (Steps.refl _)
 obtain ⟨c_1, A_2, q_3, S_4, M_5, H_6, U_7⟩ := id hp0
 have C_8 : Steps p.tables e below S0 (s₁.setTop (mkF m 8 #[VR t, VI 1] [(.int 0)])) := by
  refine C0.trans ?_
  refine XS.iloadN X0.here hx rfl (hb hby d4_0) rfl ?_
  refine XS.aloadN X0.here hx rfl (hb hby d4_1) rfl rfl ?_
  refine X0.arraylength hx (by rw [e0]; exact A_2.1) (State.isArrayOf_alike hZ.alike A_2.2.1) (g := (mkF m 2 #[VR t, VI 1] [(.ref t), (.int 1)])) rfl rfl (hb hby d4_2) _ ?_
  rw [len_of S_4 M_5]
  refine XS.isub X0.here hx rfl (hb hby d4_3) rfl ?_
  refine XS.bipush X0.here hx rfl (hb hby d4_4) ?_
  refine XS.iushr X0.here hx rfl (hb hby d4_6) rfl ?_
  refine XS.i2b X0.here hx rfl (hb hby d4_7) rfl ?_
  exact Steps.refl _
 obtain ⟨fs, hr, hrun, hended, hW, hsame⟩ := X0.leave (v := some (.int 0)) (fun h => by rw [Bd.returns] at h; cases h)
 refine ⟨_, _, C_8.trans (retN X0 hx (t := .byte) Bd.returns (by simp) (hb hby d4_8) hr), hrun, hended, _, _, rfl, ?_, ⟨_, rfl⟩, hW, hsame.mono (by decide) (by decide)⟩
 show Q_codl_1 Z G1 G3 t kt y0 h0 n0 (some (.int 0)) s₁.heap _
 rw [e0]
 exact ⟨rfl, N0, rfl⟩
theorem w67 {Z a0} (hw : HW Z a0) : Cond.before (Cond.fieldLink "java/lang/String" (38 : Nat) "java/lang/String" "COMPACT_STRINGS" "Z") a0 Z = true := hw _ (List.mem_of_getElem? (i := 67) rfl)
theorem d0_27 : decode jdk_42_method_149_code 27 = .ok (.getstatic 38, 3) := by decide +kernel
theorem d0_30 : decode jdk_42_method_149_code 30 = .ok (.ifCond .eq 28, 3) := by decide +kernel
theorem d0_33 : decode jdk_42_method_149_code 33 = .ok (.aload_n 1, 1) := by decide +kernel
theorem d0_34 : decode jdk_42_method_149_code 34 = .ok (.iload_n 2, 1) := by decide +kernel
theorem d0_35 : decode jdk_42_method_149_code 35 = .ok (.iload_n 3, 1) := by decide +kernel
theorem w111 {Z a0} (hw : HW Z a0) : Cond.before (Cond.code (⟨"java/lang/StringUTF16", "compress", "([CII)[B"⟩ : MethodName) jdk_52_method_16_code (6 : Nat) (Option.some (FieldType.array FieldType.byte))) a0 Z = true := hw _ (List.mem_of_getElem? (i := 111) rfl)
theorem pd_106 : parseMethodDescriptor "([CII)[B" = some ⟨[(.array .char), .int, .int], some (.array .byte)⟩ := by decide +kernel
theorem d0_36 : decode jdk_42_method_149_code 36 = .ok (.invokestatic 177, 3) := by decide +kernel
theorem w108 {Z a0} (hw : HW Z a0) : Cond.before (Cond.methodLink "java/lang/String" (177 : Nat) (⟨"java/lang/StringUTF16", "compress", "([CII)[B"⟩ : MethodName)) a0 Z = true := hw _ (List.mem_of_getElem? (i := 108) rfl)
theorem w109 {Z a0} (hw : HW Z a0) : Cond.before (Cond.static (⟨"java/lang/StringUTF16", "compress", "([CII)[B"⟩ : MethodName)) a0 Z = true := hw _ (List.mem_of_getElem? (i := 109) rfl)
theorem d0_39 : decode jdk_42_method_149_code 39 = .ok (.astore 5, 2) := by decide +kernel
theorem d0_41 : decode jdk_42_method_149_code 41 = .ok (.aload_n 0, 1) := by decide +kernel
theorem d0_42 : decode jdk_42_method_149_code 42 = .ok (.aload 5, 2) := by decide +kernel
theorem d0_44 : decode jdk_42_method_149_code 44 = .ok (.iload_n 3, 1) := by decide +kernel
theorem w117 {Z a0} (hw : HW Z a0) : Cond.before (Cond.code (⟨"java/lang/StringUTF16", "coderFromArrayLen", "([BI)B"⟩ : MethodName) jdk_52_method_15_code (2 : Nat) (Option.some FieldType.byte)) a0 Z = true := hw _ (List.mem_of_getElem? (i := 117) rfl)
theorem pd_115 : parseMethodDescriptor "([BI)B" = some ⟨[(.array .byte), .int], some .byte⟩ := by decide +kernel
theorem d0_45 : decode jdk_42_method_149_code 45 = .ok (.invokestatic 47, 3) := by decide +kernel
theorem w115 {Z a0} (hw : HW Z a0) : Cond.before (Cond.methodLink "java/lang/String" (47 : Nat) (⟨"java/lang/StringUTF16", "coderFromArrayLen", "([BI)B"⟩ : MethodName)) a0 Z = true := hw _ (List.mem_of_getElem? (i := 115) rfl)
theorem w116 {Z a0} (hw : HW Z a0) : Cond.before (Cond.static (⟨"java/lang/StringUTF16", "coderFromArrayLen", "([BI)B"⟩ : MethodName)) a0 Z = true := hw _ (List.mem_of_getElem? (i := 116) rfl)
theorem d0_48 : decode jdk_42_method_149_code 48 = .ok (.putfield 15, 3) := by decide +kernel
theorem d0_51 : decode jdk_42_method_149_code 51 = .ok (.aload_n 0, 1) := by decide +kernel
theorem d0_52 : decode jdk_42_method_149_code 52 = .ok (.aload 5, 2) := by decide +kernel
theorem d0_54 : decode jdk_42_method_149_code 54 = .ok (.putfield 9, 3) := by decide +kernel
theorem d0_57 : decode jdk_42_method_149_code 57 = .ok (.return_, 1) := by decide +kernel
abbrev R_si4_1 : Room := { frames := 2, cells := 1, slots := 1, locals := 35 }
def Q_si4_1 (Z : State) (G1 : Int32) (G3 : Value) (x : Addr) (b : Addr) (k : ClassId) (c0 : Int32) (h0 : Heap) (n0 : Nat) (v : Option Value) (h : Heap) (L : List Loc) : Prop := (∃ t : Addr, ∃ kt : ClassId, v = none ∧ Fr n0 L ∧ Keep h0 h [x] ∧ (Exa Z h x "java/lang/String") ∧ (Fld Z h x "java/lang/String" "coder" "B" (.int 0)) ∧ (Fld Z h x "java/lang/String" "value" "[B" (.ref t)) ∧ (h0.size ≤ t) ∧ (Arv Z h t kt .byte (1 : Int32) [(.int (own_lo8 c0))] (.int 0)))
theorem rm_si4_1 (l : Launch) (Z : State) (a0 : Array Value) (hw : HW Z a0) (ws : List Jvm.Cond) (G1 : Int32) (G3 : Value) (HG : own_G l Z a0 G1 G3) (h0 : Heap) (n0 : Nat) (X00 : Old Z n0 h0) (x : Addr) (b : Addr) (k : ClassId) (c0 : Int32) (hp0 : Exa Z h0 x "java/lang/String") (hp1 : Fld Z h0 x "java/lang/String" "value" "[B" .null) (hp2 : Fld Z h0 x "java/lang/String" "coder" "B" (.int 0)) (hp3 : n0 ≤ x) (hp4 : Arv Z h0 b k .char (1 : Int32) [(.int c0)] (.int 0)) (hh0 : ¬ ((255 : Int32) < c0)) :
  own_CP l Z M0 jdk_42_method_149_code 6 none ws R_si4_1 #[(.ref x), (.ref b), (.int 0), (.int 1), .null] h0 (Q_si4_1 Z G1 G3 x b k c0 h0 n0) := by
 refine own_P (plainFor_of_name pn_2) ?_
 intro p e s m below meth c s₁ S0 Bd hZ hh hx hby hml hown hnm X0 e0 hS0d
 obtain ⟨O1, P1, O3f, rG3⟩ := id HG
 have N0 := Fr.nil n0
 have C0 : Steps p.tables e below S0 (s₁.setTop (mkF m 0 #[VR x, VR b, VI 0, VI 1, .val .null, .unset] [])) := by rw [hS0d]; exact castTop (ef_1 m x b (0 : Int32) (1 : Int32)) (Steps.refl _)
 obtain ⟨T_1, X_2, e_3, st_4⟩ := initO X0 hx hZ hown (w19 hw) (w20 hw) (w21 hw) e0 (g := (mkF m 1 #[VR x, VR b, VI 0, VI 1, .val .null, .unset] [(.ref x)])) rfl (by rw [hml]; rfl) rfl (hb hby d0_1) (by decide) (W := 0) (by show 2 * 0 + _ ≤ _; exact Nat.le_of_eq rfl) (by decide)
 obtain ⟨T_5, X_6, e_7, st_8⟩ := getS X_2 hx hZ (host := "") hown (w67 hw) Via.refl e_3 (O1.ext X00.2) (g := (mkF m 27 #[VR x, VR b, VI 0, VI 1, .val .null, .unset] [])) rfl (hb hby d0_27)
 obtain ⟨_, _, ⟨T_9, L_9, k_9, n_9⟩, -, X_9, ⟨Lc_9, hQ_9, l_9, y_9, z_9⟩, st_9⟩ := Jvm.LawKit.callS X_6 hx (y := M66) hown (mvT hZ (w108 hw)) (mvT hZ (w109 hw)) (mvT hZ (w110 hw)) (mvT hZ (w111 hw)) (by decide) (backOf (W := 0) (rm_cmp3_1 l Z a0 hw [] G1 G3 HG h0 n0 X00 b k c0 hp4 hh0) hZ (w111 hw) (w110 hw) (by decide) (by decide)) (g := (mkF m 36 #[VR x, VR b, VI 0, VI 1, .val .null, .unset] [(.int 1), (.int 0), (.ref b)])) rfl (by rw [hml]; rfl) (argsL := [(.ref b), (.int 0), (.int 1)]) (rest := []) (lenOf pd_106 rfl) rfl (by show 2 * 0 + _ ≤ _; exact Nat.le_of_eq rfl) (hb hby d0_36) (fun _ _ => ⟨rfl, e_7, (by decide : 0 + 1 ≤ _), (by decide : 0 + 1 ≤ _)⟩)
 dsimp only [Pt.U, Pt.locs, Pt.cells, Pt.slots] at X_9 l_9 y_9 z_9 st_9 hQ_9
 subst l_9 y_9 z_9
 obtain ⟨a_10, k_11, rfl, N_12, K_13, g_14, g_15⟩ := hQ_9
 have N_16 := Fr.app N0 N_12
 have O_17 : Old Z n0 T_9.heap := (X00.keep K_13 all0)
 obtain ⟨_, _, ⟨T_18, L_18, k_18, n_18⟩, -, X_18, ⟨Lc_18, hQ_18, l_18, y_18, z_18⟩, st_18⟩ := Jvm.LawKit.callS X_9 hx (y := M89) hown (mvT hZ (w115 hw)) (mvT hZ (w116 hw)) (mvT hZ (w110 hw)) (mvT hZ (w117 hw)) (by decide) (backOf (W := 1) (rm_codl_1 l Z a0 hw [] G1 G3 HG T_9.heap n0 O_17 a_10 k_11 (own_lo8 c0) g_15) hZ (w117 hw) (w110 hw) (by decide) (by decide)) (g := (mkF m 45 #[VR x, VR b, VI 0, VI 1, .val .null, VR a_10] [(.int 1), (.ref a_10), (.ref x)])) rfl (by rw [hml]; rfl) (argsL := [(.ref a_10), (.int 1)]) (rest := [(.ref x)]) (lenOf pd_115 rfl) rfl (by show 2 * 0 + _ ≤ _; exact Nat.le_of_eq rfl) (hb hby d0_45) (fun _ _ => ⟨rfl, rfl, (by decide : 1 + 0 ≤ _), (by decide : 1 + 0 ≤ _)⟩)
 dsimp only [Pt.U, Pt.locs, Pt.cells, Pt.slots] at X_18 l_18 y_18 z_18 st_18 hQ_18
 subst l_18 y_18 z_18
 obtain ⟨rfl, N_19, e_20⟩ := hQ_18
 have N_21 := Fr.app N_16 N_19
 have e_22 : T_18.heap = T_9.heap := e_20
 have F_23 : Fld Z T_9.heap x "java/lang/String" "coder" "B" (.int 0) := (hp2.keep K_13 nin0)
 have E_24 : Exa Z T_9.heap x "java/lang/String" := (hp0.keep K_13)
 obtain ⟨T_25, h_26, X_27, e_28, W_29, st_30⟩ := putF X_18 hx hZ hown (host := "") (Or.inl (w29 hw)) Via.refl e_22 F_23 E_24 (Or.inr ⟨(w25 hw), rfl, hnm⟩) (w9 hw) (ty := .byte) (by decide) rfl (by decide) (g := (mkF m 48 #[VR x, VR b, VI 0, VI 1, .val .null, VR a_10] [(.int 0), (.ref x)])) rfl rfl (hb hby d0_48)
 have N_31 := Fr.snoc X_27 N_21 hp3
 have F_32 : Fld Z h_26 x "java/lang/String" "coder" "B" (.int 0) := F_23.same W_29
 have F_33 : Fld Z h_26 x "java/lang/String" "value" "[B" .null := ((hp1.keep K_13 nin0).other W_29 (Or.inr (slot_ne (Or.inr (w24 hw)) (Or.inr (w25 hw)) (by decide) (t := (.array .byte)) (by decide) (t' := .byte) (by decide))))
 have E_34 : Exa Z h_26 x "java/lang/String" := (E_24.wr W_29)
 obtain ⟨T_35, h_36, X_37, e_38, W_39, st_40⟩ := putF X_27 hx hZ hown (host := "") (Or.inl (w28 hw)) Via.refl e_28 F_33 E_34 (Or.inr ⟨(w24 hw), rfl, hnm⟩) (w9 hw) (ty := (.array .byte)) (by decide) rfl rfl (g := (mkF m 54 #[VR x, VR b, VI 0, VI 1, .val .null, VR a_10] [(.ref a_10), (.ref x)])) rfl rfl (hb hby d0_54)
 have N_41 := Fr.snoc X_37 N_31 hp3
 have F_42 : Fld Z h_36 x "java/lang/String" "value" "[B" (.ref a_10) := F_33.same W_39
 have C_43 : Steps p.tables e below S0 (T_35.setTop (mkF m 57 #[VR x, VR b, VI 0, VI 1, .val .null, VR a_10] [])) := by
  refine C0.trans ?_
  refine XS.aloadN X0.here hx rfl (hb hby d0_0) rfl rfl ?_
  refine st_4 _ ?_
  refine XS.iloadN X_2.here hx rfl (hb hby d0_4) rfl ?_
  refine XS.ifYes X_2.here hx rfl (pc0 := 5) (pc' := 27) rfl (hb hby d0_5) rfl (by decide) (by decide) (by decide) ?_
  refine st_8 _ ?_
  refine XS.ifNo X_6.here hx rfl (hb hby d0_30) rfl (i0_eq_f P1) ?_
  refine XS.aloadN X_6.here hx rfl (hb hby d0_33) rfl rfl ?_
  refine XS.iloadN X_6.here hx rfl (hb hby d0_34) rfl ?_
  refine XS.iloadN X_6.here hx rfl (hb hby d0_35) rfl ?_
  refine st_9 _ ?_
  refine XS.astore X_9.here hx rfl (hb hby d0_39) rfl rfl (l' := #[VR x, VR b, VI 0, VI 1, .val .null, VR a_10]) rfl ?_
  refine XS.aloadN X_9.here hx rfl (hb hby d0_41) rfl rfl ?_
  refine XS.aload X_9.here hx rfl (hb hby d0_42) rfl rfl ?_
  refine XS.iloadN X_9.here hx rfl (hb hby d0_44) rfl ?_
  refine st_18 _ ?_
  refine st_30 _ ?_
  show Steps p.tables e below (T_25.setTop (mkF m 51 #[VR x, VR b, VI 0, VI 1, .val .null, VR a_10] [])) _
  refine XS.aloadN X_27.here hx rfl (hb hby d0_51) rfl rfl ?_
  refine XS.aload X_27.here hx rfl (hb hby d0_52) rfl rfl ?_
  refine st_40 _ ?_
  exact Steps.refl _
 have E_44 : Exa Z h_36 x "java/lang/String" := (E_34.wr W_39)
 have F_45 : Fld Z h_36 x "java/lang/String" "coder" "B" (.int 0) := (F_32.other W_39 (Or.inr (slot_ne (Or.inr (w25 hw)) (Or.inr (w24 hw)) (by decide) (t := .byte) (by decide) (t' := (.array .byte)) (by decide))))
 have V_46 : Arv Z h_36 a_10 k_11 .byte (1 : Int32) [(.int (own_lo8 c0))] (.int 0) := ((g_15.other W_29 (Ne.symm (Nat.ne_of_lt (Nat.lt_of_lt_of_le hp0.lt (Nat.le_trans (Nat.le_refl _) g_14))))).other W_39 (Ne.symm (Nat.ne_of_lt (Nat.lt_of_lt_of_le hp0.lt (Nat.le_trans (Nat.le_refl _) g_14)))))
 have K_47 : Keep h0 h_36 [x] := ((((Keep.refl _ _).trans K_13 all0).wr W_29 (Or.inl (List.mem_of_getElem? (i := 0) rfl))).wr W_39 (Or.inl (List.mem_of_getElem? (i := 0) rfl)))
 obtain ⟨fs, hr, hrun, hended, hW, hsame⟩ := X_37.leave (v := none) (fun _ => rfl)
 refine ⟨_, _, C_43.trans (X_37.returnOut hx Bd.returns (hb hby d0_57) hr), hrun, hended, _, _, rfl, ?_, ⟨_, rfl⟩, hW, hsame.mono (by decide) (by decide)⟩
 show Q_si4_1 Z G1 G3 x b k c0 h0 n0 (none) T_35.heap _
 rw [e_38]
 exact ⟨a_10, k_11, rfl, N_41, K_47, E_44, F_45, F_42, (Nat.le_trans (Nat.le_refl _) g_14), V_46⟩
abbrev R_si1_1 : Room := { frames := 3, cells := 1, slots := 1, locals := 52 }
def Q_si1_1 (Z : State) (G1 : Int32) (G3 : Value) (x : Addr) (b : Addr) (k : ClassId) (c0 : Int32) (h0 : Heap) (n0 : Nat) (v : Option Value) (h : Heap) (L : List Loc) : Prop := (∃ t : Addr, ∃ kt : ClassId, v = none ∧ Fr n0 L ∧ Keep h0 h [x] ∧ (Exa Z h x "java/lang/String") ∧ (Fld Z h x "java/lang/String" "coder" "B" (.int 0)) ∧ (Fld Z h x "java/lang/String" "value" "[B" (.ref t)) ∧ (h0.size ≤ t) ∧ (Arv Z h t kt .byte (1 : Int32) [(.int (own_lo8 c0))] (.int 0)))
theorem rm_si1_1 (l : Launch) (Z : State) (a0 : Array Value) (hw : HW Z a0) (ws : List Jvm.Cond) (G1 : Int32) (G3 : Value) (HG : own_G l Z a0 G1 G3) (h0 : Heap) (n0 : Nat) (X00 : Old Z n0 h0) (x : Addr) (b : Addr) (k : ClassId) (c0 : Int32) (hp0 : Exa Z h0 x "java/lang/String") (hp1 : Fld Z h0 x "java/lang/String" "value" "[B" .null) (hp2 : Fld Z h0 x "java/lang/String" "coder" "B" (.int 0)) (hp3 : n0 ≤ x) (hp4 : Arv Z h0 b k .char (1 : Int32) [(.int c0)] (.int 0)) (hh0 : ¬ ((255 : Int32) < c0)) :
  own_CP l Z M25 jdk_42_method_3_code 2 none ws R_si1_1 #[(.ref x), (.ref b)] h0 (Q_si1_1 Z G1 G3 x b k c0 h0 n0) := by
 refine own_P (plainFor_of_name pn_2) ?_
 intro p e s m below meth c s₁ S0 Bd hZ hh hx hby hml hown hnm X0 e0 hS0d
 obtain ⟨O1, P1, O3f, rG3⟩ := id HG
 have N0 := Fr.nil n0
 have C0 : Steps p.tables e below S0 (s₁.setTop (mkF m 0 #[VR x, VR b] [])) := by rw [hS0d]; exact castTop (ef_26 m x b) (Steps.refl _)
 obtain ⟨c_1, A_2, q_3, S_4, M_5, H_6, U_7⟩ := id hp4
 obtain ⟨_, _, ⟨T_8, L_8, k_8, n_8⟩, -, X_8, ⟨Lc_8, hQ_8, l_8, y_8, z_8⟩, st_8⟩ := X0.specialBack hx (y := M0) rfl hown (mvT hZ (w15 hw)) (mvT hZ (w16 hw)) (mvT hZ (w18 hw)) (by decide) (backOf (W := 0) (rm_si4_1 l Z a0 hw [] G1 G3 HG h0 n0 X00 x b k c0 hp0 hp1 hp2 hp3 hp4 hh0) hZ (w18 hw) (w10 hw) (by decide) (by decide)) (g := (mkF m 6 #[VR x, VR b] [.null, (.int 1), (.int 0), (.ref b), (.ref x)])) rfl (by rw [hml]; rfl) (Steps.refl _) (a := x) (argsL := [(.ref b), (.int 0), (.int 1), .null]) (rest := []) (lenOf pd_35 rfl) rfl (by show 2 * 0 + _ ≤ _; exact Nat.le_of_eq rfl) (hb hby d1_6) (fun _ _ => ⟨rfl, e0, (by decide : 0 + 1 ≤ _), (by decide : 0 + 1 ≤ _)⟩)
 dsimp only [Pt.U, Pt.locs, Pt.cells, Pt.slots] at X_8 l_8 y_8 z_8 st_8 hQ_8
 subst l_8 y_8 z_8
 obtain ⟨a_9, k_10, rfl, N_11, K_12, g_13, g_14, g_15, g_16, g_17⟩ := hQ_8
 have N_18 := Fr.app N0 N_11
 have C_19 : Steps p.tables e below S0 (T_8.setTop (mkF m 9 #[VR x, VR b] [])) := by
  refine C0.trans ?_
  refine XS.aloadN X0.here hx rfl (hb hby d1_0) rfl rfl ?_
  refine XS.aloadN X0.here hx rfl (hb hby d1_1) rfl rfl ?_
  refine XS.iconst X0.here hx rfl (hb hby d1_2) ?_
  refine XS.aloadN X0.here hx rfl (hb hby d1_3) rfl rfl ?_
  refine X0.arraylength hx (by rw [e0]; exact A_2.1) (State.isArrayOf_alike hZ.alike A_2.2.1) (g := (mkF m 4 #[VR x, VR b] [(.ref b), (.int 0), (.ref b), (.ref x)])) rfl rfl (hb hby d1_4) _ ?_
  rw [len_of S_4 M_5]
  refine XS.aconstNull X0.here hx rfl (hb hby d1_5) ?_
  refine st_8.trans ?_
  exact Steps.refl _
 have K_20 : Keep h0 T_8.heap [x] := ((Keep.refl _ _).trans K_12 (allS (Or.inl (List.mem_of_getElem? (i := 0) rfl)) all0))
 obtain ⟨fs, hr, hrun, hended, hW, hsame⟩ := X_8.leave (v := none) (fun _ => rfl)
 refine ⟨_, _, C_19.trans (X_8.returnOut hx Bd.returns (hb hby d1_9) hr), hrun, hended, _, _, rfl, ?_, ⟨_, rfl⟩, hW, hsame.mono (by decide) (by decide)⟩
 show Q_si1_1 Z G1 G3 x b k c0 h0 n0 (none) T_8.heap _
 exact ⟨a_9, k_10, rfl, N_18, K_20, g_13, g_14, g_15, (Nat.le_trans (Nat.le_refl _) g_16), g_17⟩
abbrev R_cmp5_2 : Room := { frames := 0, cells := 0, slots := 0, locals := 0 }
def Q_cmp5_2 (Z : State) (G1 : Int32) (G3 : Value) (b : Addr) (k : ClassId) (t : Addr) (kt : ClassId) (c0 : Int32) (c1 : Int32) (h0 : Heap) (n0 : Nat) (v : Option Value) (h : Heap) (L : List Loc) : Prop := (v = some (.int 2) ∧ Fr n0 L ∧ Keep h0 h [t] ∧ (Arv Z h t kt .byte (2 : Int32) [(.int (own_lo8 c0)), (.int (own_lo8 c1))] (.int 0)))
theorem rm_cmp5_2 (l : Launch) (Z : State) (a0 : Array Value) (hw : HW Z a0) (ws : List Jvm.Cond) (G1 : Int32) (G3 : Value) (HG : own_G l Z a0 G1 G3) (h0 : Heap) (n0 : Nat) (X00 : Old Z n0 h0) (b : Addr) (k : ClassId) (t : Addr) (kt : ClassId) (c0 : Int32) (c1 : Int32) (hp0 : Arv Z h0 b k .char (2 : Int32) [(.int c0), (.int c1)] (.int 0)) (hp1 : Arv Z h0 t kt .byte (2 : Int32) [(.int 0), (.int 0)] (.int 0)) (hp2 : n0 ≤ t) (hp3 : b ≠ t) (hh0 : ¬ ((255 : Int32) < c0)) (hh1 : ¬ ((255 : Int32) < c1)) :
  own_CP l Z M40 jdk_52_method_21_code 7 (some .int) ws R_cmp5_2 #[(.ref b), (.int 0), (.ref t), (.int 0), (.int 2)] h0 (Q_cmp5_2 Z G1 G3 b k t kt c0 c1 h0 n0) := by
 refine own_P (plainFor_of_name pn_42) ?_
 intro p e s m below meth c s₁ S0 Bd hZ hh hx hby hml hown hnm X0 e0 hS0d
 obtain ⟨O1, P1, O3f, rG3⟩ := id HG
 have N0 := Fr.nil n0
 have C0 : Steps p.tables e below S0 (s₁.setTop (mkF m 0 #[VR b, VI 0, VR t, VI 0, VI 2, .unset, .unset] [])) := by rw [hS0d]; exact castTop (ef_41 m b (0 : Int32) t (0 : Int32) (2 : Int32)) (Steps.refl _)
 obtain ⟨c_1, A_2, q_3, S_4, M_5, H_6, U_7⟩ := id hp0
 have hin_8 : ¬ ((0 : Int32) < 0 ∨ c_1.slots.size ≤ (0 : Int32).toNatClampNeg) := inb_of S_4 ⟨(by decide : ¬ ((0 : Int32) < (0 : Int32))), (by decide : (0 : Int32) < (2 : Int32))⟩
 have hat_9 : c_1.slots[(0 : Int32).toNatClampNeg]? = some (.int c0) := Has.at H_6 hin_8 rfl
 obtain ⟨c_10, A_11, q_12, S_13, M_14, H_15, U_16⟩ := id hp1
 have hin_23 : ¬ ((0 : Int32) < 0 ∨ c_10.slots.size ≤ (0 : Int32).toNatClampNeg) := inb_of S_13 ⟨(by decide : ¬ ((0 : Int32) < (0 : Int32))), (by decide : (0 : Int32) < (2 : Int32))⟩
 obtain ⟨T_17, h_18, X_19, e_20, W_21, st_22⟩ := stB X0 hx hZ e0 A_11 (j := (0 : Int32)) hin_23 (g := (mkF m 31 #[VR b, VI 0, VR t, VI 0, VI 2, VI 0, VI c0] [(.int (c0.toInt8.toInt32)), (.int 0), (.ref t)])) rfl rfl (hb hby d2_31)
 have N_24 := Fr.snoc X_19 N0 hp2
 have V_25 : Arv Z h_18 t kt .byte (2 : Int32) [(.int (own_lo8 c0)), (.int 0)] (.int 0) := Arv.set A_11 q_12 S_13 M_14 H_15 U_16 (fits_nar_byte _) W_21 0 rfl (Nat.le_of_ble_eq_true rfl)
 have V_26 : Arv Z h_18 b k .char (2 : Int32) [(.int c0), (.int c1)] (.int 0) := (hp0.other W_21 hp3)
 obtain ⟨c_27, A_28, q_29, S_30, M_31, H_32, U_33⟩ := id V_26
 have hin_34 : ¬ ((1 : Int32) < 0 ∨ c_27.slots.size ≤ (1 : Int32).toNatClampNeg) := inb_of S_30 ⟨(by decide : ¬ ((1 : Int32) < (0 : Int32))), (by decide : (1 : Int32) < (2 : Int32))⟩
 have hat_35 : c_27.slots[(1 : Int32).toNatClampNeg]? = some (.int c1) := Has.at H_32 hin_34 rfl
 obtain ⟨c_36, A_37, q_38, S_39, M_40, H_41, U_42⟩ := id V_25
 have hin_49 : ¬ ((1 : Int32) < 0 ∨ c_36.slots.size ≤ (1 : Int32).toNatClampNeg) := inb_of S_39 ⟨(by decide : ¬ ((1 : Int32) < (0 : Int32))), (by decide : (1 : Int32) < (2 : Int32))⟩
 obtain ⟨T_43, h_44, X_45, e_46, W_47, st_48⟩ := stB X_19 hx hZ e_20 A_37 (j := (1 : Int32)) hin_49 (g := (mkF m 31 #[VR b, VI 1, VR t, VI 1, VI 2, VI 1, VI c1] [(.int (c1.toInt8.toInt32)), (.int 1), (.ref t)])) rfl rfl (hb hby d2_31)
 have N_50 := Fr.snoc X_45 N_24 hp2
 have V_51 : Arv Z h_44 t kt .byte (2 : Int32) [(.int (own_lo8 c0)), (.int (own_lo8 c1))] (.int 0) := Arv.set A_37 q_38 S_39 M_40 H_41 U_42 (fits_nar_byte _) W_47 1 rfl (Nat.le_of_ble_eq_true rfl)
 have C_52 : Steps p.tables e below S0 (T_43.setTop (mkF m 46 #[VR b, VI 2, VR t, VI 2, VI 2, VI 2, VI c1] [(.int 2)])) := by
  refine C0.trans ?_
  refine XS.iconst X0.here hx rfl (hb hby d2_0) ?_
  refine XS.istore X0.here hx rfl (hb hby d2_1) rfl (l' := #[VR b, VI 0, VR t, VI 0, VI 2, VI 0, .unset]) rfl ?_
  refine XS.iload X0.here hx rfl (hb hby d2_3) rfl ?_
  refine XS.iload X0.here hx rfl (hb hby d2_5) rfl ?_
  refine XS.icmpNo X0.here hx rfl (hb hby d2_7) rfl (by decide) ?_
  refine XS.aloadN X0.here hx rfl (hb hby d2_10) rfl rfl ?_
  refine XS.iloadN X0.here hx rfl (hb hby d2_11) rfl ?_
  refine X0.caload hx (j := (0 : Int32)) (v := (.int c0)) (by rw [e0]; exact A_2.1) (State.isArrayOf_alike hZ.alike A_2.2.1) A_2.2.2 hin_8 hat_9 (g := (mkF m 12 #[VR b, VI 0, VR t, VI 0, VI 2, VI 0, .unset] [(.int 0), (.ref b)])) rfl rfl (hb hby d2_12) _ ?_
  refine XS.istore X0.here hx rfl (hb hby d2_13) rfl (l' := #[VR b, VI 0, VR t, VI 0, VI 2, VI 0, VI c0]) rfl ?_
  refine XS.iload X0.here hx rfl (hb hby d2_15) rfl ?_
  refine XS.sipush X0.here hx rfl (hb hby d2_17) ?_
  refine XS.icmpYes X0.here hx rfl (pc0 := 20) (pc' := 26) rfl (hb hby d2_20) rfl (ii_le_t hh0) (by decide) (by decide) ?_
  refine XS.aloadN X0.here hx rfl (hb hby d2_26) rfl rfl ?_
  refine XS.iloadN X0.here hx rfl (hb hby d2_27) rfl ?_
  refine XS.iload X0.here hx rfl (hb hby d2_28) rfl ?_
  refine XS.i2b X0.here hx rfl (hb hby d2_30) rfl ?_
  show Steps p.tables e below (s₁.setTop (mkF m 31 #[VR b, VI 0, VR t, VI 0, VI 2, VI 0, VI c0] [(.int (c0.toInt8.toInt32)), (.int 0), (.ref t)])) _
  refine st_22 _ ?_
  refine XS.iinc X_19.here hx rfl (hb hby d2_32) (x := (0 : Int32)) rfl (l' := #[VR b, VI 1, VR t, VI 0, VI 2, VI 0, VI c0]) rfl ?_
  refine XS.iinc X_19.here hx rfl (hb hby d2_35) (x := (0 : Int32)) rfl (l' := #[VR b, VI 1, VR t, VI 1, VI 2, VI 0, VI c0]) rfl ?_
  refine XS.iinc X_19.here hx rfl (hb hby d2_38) (x := (0 : Int32)) rfl (l' := #[VR b, VI 1, VR t, VI 1, VI 2, VI 1, VI c0]) rfl ?_
  refine XS.goto X_19.here hx rfl (pc0 := 41) (pc' := 3) rfl (hb hby d2_41) (by decide) (by decide) ?_
  refine XS.iload X_19.here hx rfl (hb hby d2_3) rfl ?_
  refine XS.iload X_19.here hx rfl (hb hby d2_5) rfl ?_
  refine XS.icmpNo X_19.here hx rfl (hb hby d2_7) rfl (by decide) ?_
  refine XS.aloadN X_19.here hx rfl (hb hby d2_10) rfl rfl ?_
  refine XS.iloadN X_19.here hx rfl (hb hby d2_11) rfl ?_
  refine X_19.caload hx (j := (1 : Int32)) (v := (.int c1)) (by rw [e_20]; exact A_28.1) (State.isArrayOf_alike hZ.alike A_28.2.1) A_28.2.2 hin_34 hat_35 (g := (mkF m 12 #[VR b, VI 1, VR t, VI 1, VI 2, VI 1, VI c0] [(.int 1), (.ref b)])) rfl rfl (hb hby d2_12) _ ?_
  refine XS.istore X_19.here hx rfl (hb hby d2_13) rfl (l' := #[VR b, VI 1, VR t, VI 1, VI 2, VI 1, VI c1]) rfl ?_
  refine XS.iload X_19.here hx rfl (hb hby d2_15) rfl ?_
  refine XS.sipush X_19.here hx rfl (hb hby d2_17) ?_
  refine XS.icmpYes X_19.here hx rfl (pc0 := 20) (pc' := 26) rfl (hb hby d2_20) rfl (ii_le_t hh1) (by decide) (by decide) ?_
  refine XS.aloadN X_19.here hx rfl (hb hby d2_26) rfl rfl ?_
  show Steps p.tables e below (T_17.setTop (mkF m 27 #[VR b, VI 1, VR t, VI 1, VI 2, VI 1, VI c1] [(.ref t)])) _
  refine XS.iloadN X_19.here hx rfl (hb hby d2_27) rfl ?_
  refine XS.iload X_19.here hx rfl (hb hby d2_28) rfl ?_
  refine XS.i2b X_19.here hx rfl (hb hby d2_30) rfl ?_
  refine st_48 _ ?_
  refine XS.iinc X_45.here hx rfl (hb hby d2_32) (x := (1 : Int32)) rfl (l' := #[VR b, VI 2, VR t, VI 1, VI 2, VI 1, VI c1]) rfl ?_
  refine XS.iinc X_45.here hx rfl (hb hby d2_35) (x := (1 : Int32)) rfl (l' := #[VR b, VI 2, VR t, VI 2, VI 2, VI 1, VI c1]) rfl ?_
  refine XS.iinc X_45.here hx rfl (hb hby d2_38) (x := (1 : Int32)) rfl (l' := #[VR b, VI 2, VR t, VI 2, VI 2, VI 2, VI c1]) rfl ?_
  refine XS.goto X_45.here hx rfl (pc0 := 41) (pc' := 3) rfl (hb hby d2_41) (by decide) (by decide) ?_
  refine XS.iload X_45.here hx rfl (hb hby d2_3) rfl ?_
  refine XS.iload X_45.here hx rfl (hb hby d2_5) rfl ?_
  refine XS.icmpYes X_45.here hx rfl (pc0 := 7) (pc' := 44) rfl (hb hby d2_7) rfl (by decide) (by decide) (by decide) ?_
  refine XS.iload X_45.here hx rfl (hb hby d2_44) rfl ?_
  exact Steps.refl _
 have K_53 : Keep h0 h_44 [t] := (((Keep.refl _ _).wr W_21 (Or.inl (List.mem_of_getElem? (i := 0) rfl))).wr W_47 (Or.inl (List.mem_of_getElem? (i := 0) rfl)))
 obtain ⟨fs, hr, hrun, hended, hW, hsame⟩ := X_45.leave (v := some (.int 2)) (fun h => by rw [Bd.returns] at h; cases h)
 refine ⟨_, _, C_52.trans (retOut X_45 hx Bd.returns rfl (Or.inl ⟨rfl, Or.inl rfl, _, rfl⟩) (hb hby d2_46) hr), hrun, hended, _, _, rfl, ?_, ⟨_, rfl⟩, hW, hsame.mono (by decide) (by decide)⟩
 show Q_cmp5_2 Z G1 G3 b k t kt c0 c1 h0 n0 (some (.int 2)) T_43.heap _
 rw [e_46]
 exact ⟨rfl, N_50, K_53, V_51⟩
abbrev R_cmp3_2 : Room := { frames := 1, cells := 1, slots := 2, locals := 18 }
def Q_cmp3_2 (Z : State) (G1 : Int32) (G3 : Value) (b : Addr) (k : ClassId) (c0 : Int32) (c1 : Int32) (h0 : Heap) (n0 : Nat) (v : Option Value) (h : Heap) (L : List Loc) : Prop := (∃ t : Addr, ∃ kt : ClassId, v = some (.ref t) ∧ Fr n0 L ∧ Keep h0 h [] ∧ (h0.size ≤ t) ∧ (Arv Z h t kt .byte (2 : Int32) [(.int (own_lo8 c0)), (.int (own_lo8 c1))] (.int 0)))
theorem rm_cmp3_2 (l : Launch) (Z : State) (a0 : Array Value) (hw : HW Z a0) (ws : List Jvm.Cond) (G1 : Int32) (G3 : Value) (HG : own_G l Z a0 G1 G3) (h0 : Heap) (n0 : Nat) (X00 : Old Z n0 h0) (b : Addr) (k : ClassId) (c0 : Int32) (c1 : Int32) (hp0 : Arv Z h0 b k .char (2 : Int32) [(.int c0), (.int c1)] (.int 0)) (hh0 : ¬ ((255 : Int32) < c0)) (hh1 : ¬ ((255 : Int32) < c1)) :
  own_CP l Z M66 jdk_52_method_16_code 6 (some (.array .byte)) ws R_cmp3_2 #[(.ref b), (.int 0), (.int 2)] h0 (Q_cmp3_2 Z G1 G3 b k c0 c1 h0 n0) := by
 refine own_P (plainFor_of_name pn_42) ?_
 intro p e s m below meth c s₁ S0 Bd hZ hh hx hby hml hown hnm X0 e0 hS0d
 obtain ⟨O1, P1, O3f, rG3⟩ := id HG
 have N0 := Fr.nil n0
 have C0 : Steps p.tables e below S0 (s₁.setTop (mkF m 0 #[VR b, VI 0, VI 2, .unset, .unset, .unset] [])) := by rw [hS0d]; exact castTop (ef_67 m b (0 : Int32) (2 : Int32)) (Steps.refl _)
 obtain ⟨T_1, h_2, k_3, X_4, e_5, E_6, A_7, st_8⟩ := newP (aty := .byte) X0 hx hZ (w23 hw) e0 (g := (mkF m 1 #[VR b, VI 0, VI 2, .unset, .unset, .unset] [(.int 2)])) rfl (hb hby d3_1) rfl (by decide : ¬ ((2 : Int32) < (0 : Int32))) (cap := 2) (by decide : (2 : Int32).toNatClampNeg ≤ 2) (by decide) (by decide) (by decide)
 obtain ⟨a_9, g_10⟩ : ∃ z, z = h0.size := ⟨_, rfl⟩
 rw [← g_10] at A_7 st_8
 have V_12 : Arv Z h_2 a_9 k_3 .byte (2 : Int32) [] (.int 0) := Arv.new A_7 (by decide : ¬ ((2 : Int32) < (0 : Int32)))
 have V_11 : Arv Z h_2 a_9 k_3 .byte (2 : Int32) [(.int 0), (.int 0)] (.int 0) := (V_12.pad (pad_rep [] (.int 0) 2))
 have V_13 : Arv Z h_2 b k .char (2 : Int32) [(.int c0), (.int c1)] (.int 0) := (hp0.ext E_6)
 have O_14 : Old Z n0 h_2 := (X00.ext E_6)
 obtain ⟨_, _, ⟨T_15, L_15, k_15, n_15⟩, -, X_15, ⟨Lc_15, hQ_15, l_15, y_15, z_15⟩, st_15⟩ := Jvm.LawKit.callS X_4 hx (y := M40) hown (mvT hZ (w112 hw)) (mvT hZ (w113 hw)) (mvT hZ (w110 hw)) (mvT hZ (w114 hw)) (by decide) (backOf (W := 0) (rm_cmp5_2 l Z a0 hw [] G1 G3 HG h_2 n0 O_14 b k a_9 k_3 c0 c1 V_13 V_11 (Nat.le_trans (own_n0 X00) (Nat.le_of_eq g_10.symm)) (Nat.ne_of_lt (Nat.lt_of_lt_of_le hp0.lt (Nat.le_trans (Nat.le_refl _) (Nat.le_of_eq g_10.symm)))) hh0 hh1) hZ (w114 hw) (w110 hw) (by decide) (by decide)) (g := (mkF m 9 #[VR b, VI 0, VI 2, VR a_9, .unset, .unset] [(.int 2), (.int 0), (.ref a_9), (.int 0), (.ref b)])) rfl (by rw [hml]; rfl) (argsL := [(.ref b), (.int 0), (.ref a_9), (.int 0), (.int 2)]) (rest := []) (lenOf pd_79 rfl) rfl (by show 2 * 0 + _ ≤ _; exact Nat.le_of_eq rfl) (hb hby d3_9) (fun _ _ => ⟨rfl, e_5, (by decide : 1 + 0 ≤ _), (by decide : 2 + 0 ≤ _)⟩)
 dsimp only [Pt.U, Pt.locs, Pt.cells, Pt.slots] at X_15 l_15 y_15 z_15 st_15 hQ_15
 subst l_15 y_15 z_15
 obtain ⟨rfl, N_16, K_17, g_18⟩ := hQ_15
 have N_19 := Fr.app N0 N_16
 have C_20 : Steps p.tables e below S0 (T_15.setTop (mkF m 58 #[VR b, VI 0, VI 2, VR a_9, VI 2, .unset] [(.ref a_9)])) := by
  refine C0.trans ?_
  refine XS.iloadN X0.here hx rfl (hb hby d3_0) rfl ?_
  refine st_8 _ ?_
  refine XS.astoreN X_4.here hx rfl (hb hby d3_3) rfl rfl (l' := #[VR b, VI 0, VI 2, VR a_9, .unset, .unset]) rfl ?_
  refine XS.aloadN X_4.here hx rfl (hb hby d3_4) rfl rfl ?_
  refine XS.iloadN X_4.here hx rfl (hb hby d3_5) rfl ?_
  refine XS.aloadN X_4.here hx rfl (hb hby d3_6) rfl rfl ?_
  refine XS.iconst X_4.here hx rfl (hb hby d3_7) ?_
  refine XS.iloadN X_4.here hx rfl (hb hby d3_8) rfl ?_
  refine st_15 _ ?_
  refine XS.istore X_15.here hx rfl (hb hby d3_12) rfl (l' := #[VR b, VI 0, VI 2, VR a_9, VI 2, .unset]) rfl ?_
  refine XS.iload X_15.here hx rfl (hb hby d3_14) rfl ?_
  refine XS.iloadN X_15.here hx rfl (hb hby d3_16) rfl ?_
  refine XS.icmpYes X_15.here hx rfl (pc0 := 17) (pc' := 57) rfl (hb hby d3_17) rfl (by decide) (by decide) (by decide) ?_
  refine XS.aloadN X_15.here hx rfl (hb hby d3_57) rfl rfl ?_
  exact Steps.refl _
 have K_21 : Keep h0 T_15.heap [] := (((Keep.refl _ _).ext E_6).trans K_17 (allS (Or.inr (Nat.le_trans (Nat.le_refl _) (Nat.le_of_eq g_10.symm))) all0))
 obtain ⟨fs, hr, hrun, hended, hW, hsame⟩ := X_15.leave (v := some (.ref a_9)) (fun h => by rw [Bd.returns] at h; cases h)
 refine ⟨_, _, C_20.trans (retOut X_15 hx Bd.returns rfl (Or.inr (Or.inr (Or.inr (Or.inr ⟨rfl, rfl, rfl⟩)))) (hb hby d3_58) hr), hrun, hended, _, _, rfl, ?_, ⟨_, rfl⟩, hW, hsame.mono (by decide) (by decide)⟩
 show Q_cmp3_2 Z G1 G3 b k c0 c1 h0 n0 (some (.ref a_9)) T_15.heap _
 exact ⟨a_9, k_3, rfl, N_19, K_21, (Nat.le_trans (Nat.le_refl _) (Nat.le_of_eq g_10.symm)), g_18⟩
abbrev R_codl_2 : Room := { frames := 0, cells := 0, slots := 0, locals := 0 }
def Q_codl_2 (Z : State) (G1 : Int32) (G3 : Value) (t : Addr) (kt : ClassId) (y0 : Int32) (y1 : Int32) (h0 : Heap) (n0 : Nat) (v : Option Value) (h : Heap) (L : List Loc) : Prop := (v = some (.int 0) ∧ Fr n0 L ∧ h = h0)
theorem rm_codl_2 (l : Launch) (Z : State) (a0 : Array Value) (hw : HW Z a0) (ws : List Jvm.Cond) (G1 : Int32) (G3 : Value) (HG : own_G l Z a0 G1 G3) (h0 : Heap) (n0 : Nat) (X00 : Old Z n0 h0) (t : Addr) (kt : ClassId) (y0 : Int32) (y1 : Int32) (hp0 : Arv Z h0 t kt .byte (2 : Int32) [(.int y0), (.int y1)] (.int 0)) :
  own_CP l Z M89 jdk_52_method_15_code 2 (some .byte) ws R_codl_2 #[(.ref t), (.int 2)] h0 (Q_codl_2 Z G1 G3 t kt y0 y1 h0 n0) := by
 refine own_P (plainFor_of_name pn_42) ?_
 intro p e s m below meth c s₁ S0 Bd hZ hh hx hby hml hown hnm X0 e0 hS0d
 obtain ⟨O1, P1, O3f, rG3⟩ := id HG
 have N0 := Fr.nil n0
 have C0 : Steps p.tables e below S0 (s₁.setTop (mkF m 0 #[VR t, VI 2] [])) := by rw [hS0d]; exact castTop (ef_90 m t (2 : Int32)) (Steps.refl _)
 obtain ⟨c_1, A_2, q_3, S_4, M_5, H_6, U_7⟩ := id hp0
 have C_8 : Steps p.tables e below S0 (s₁.setTop (mkF m 8 #[VR t, VI 2] [(.int 0)])) := by
  refine C0.trans ?_
  refine XS.iloadN X0.here hx rfl (hb hby d4_0) rfl ?_
  refine XS.aloadN X0.here hx rfl (hb hby d4_1) rfl rfl ?_
  refine X0.arraylength hx (by rw [e0]; exact A_2.1) (State.isArrayOf_alike hZ.alike A_2.2.1) (g := (mkF m 2 #[VR t, VI 2] [(.ref t), (.int 2)])) rfl rfl (hb hby d4_2) _ ?_
  rw [len_of S_4 M_5]
  refine XS.isub X0.here hx rfl (hb hby d4_3) rfl ?_
  refine XS.bipush X0.here hx rfl (hb hby d4_4) ?_
  refine XS.iushr X0.here hx rfl (hb hby d4_6) rfl ?_
  refine XS.i2b X0.here hx rfl (hb hby d4_7) rfl ?_
  exact Steps.refl _
 obtain ⟨fs, hr, hrun, hended, hW, hsame⟩ := X0.leave (v := some (.int 0)) (fun h => by rw [Bd.returns] at h; cases h)
 refine ⟨_, _, C_8.trans (retN X0 hx (t := .byte) Bd.returns (by simp) (hb hby d4_8) hr), hrun, hended, _, _, rfl, ?_, ⟨_, rfl⟩, hW, hsame.mono (by decide) (by decide)⟩
 show Q_codl_2 Z G1 G3 t kt y0 y1 h0 n0 (some (.int 0)) s₁.heap _
 rw [e0]
 exact ⟨rfl, N0, rfl⟩
abbrev R_si4_2 : Room := { frames := 2, cells := 1, slots := 2, locals := 35 }
def Q_si4_2 (Z : State) (G1 : Int32) (G3 : Value) (x : Addr) (b : Addr) (k : ClassId) (c0 : Int32) (c1 : Int32) (h0 : Heap) (n0 : Nat) (v : Option Value) (h : Heap) (L : List Loc) : Prop := (∃ t : Addr, ∃ kt : ClassId, v = none ∧ Fr n0 L ∧ Keep h0 h [x] ∧ (Exa Z h x "java/lang/String") ∧ (Fld Z h x "java/lang/String" "coder" "B" (.int 0)) ∧ (Fld Z h x "java/lang/String" "value" "[B" (.ref t)) ∧ (h0.size ≤ t) ∧ (Arv Z h t kt .byte (2 : Int32) [(.int (own_lo8 c0)), (.int (own_lo8 c1))] (.int 0)))
theorem rm_si4_2 (l : Launch) (Z : State) (a0 : Array Value) (hw : HW Z a0) (ws : List Jvm.Cond) (G1 : Int32) (G3 : Value) (HG : own_G l Z a0 G1 G3) (h0 : Heap) (n0 : Nat) (X00 : Old Z n0 h0) (x : Addr) (b : Addr) (k : ClassId) (c0 : Int32) (c1 : Int32) (hp0 : Exa Z h0 x "java/lang/String") (hp1 : Fld Z h0 x "java/lang/String" "value" "[B" .null) (hp2 : Fld Z h0 x "java/lang/String" "coder" "B" (.int 0)) (hp3 : n0 ≤ x) (hp4 : Arv Z h0 b k .char (2 : Int32) [(.int c0), (.int c1)] (.int 0)) (hh0 : ¬ ((255 : Int32) < c0)) (hh1 : ¬ ((255 : Int32) < c1)) :
  own_CP l Z M0 jdk_42_method_149_code 6 none ws R_si4_2 #[(.ref x), (.ref b), (.int 0), (.int 2), .null] h0 (Q_si4_2 Z G1 G3 x b k c0 c1 h0 n0) := by
 refine own_P (plainFor_of_name pn_2) ?_
 intro p e s m below meth c s₁ S0 Bd hZ hh hx hby hml hown hnm X0 e0 hS0d
 obtain ⟨O1, P1, O3f, rG3⟩ := id HG
 have N0 := Fr.nil n0
 have C0 : Steps p.tables e below S0 (s₁.setTop (mkF m 0 #[VR x, VR b, VI 0, VI 2, .val .null, .unset] [])) := by rw [hS0d]; exact castTop (ef_1 m x b (0 : Int32) (2 : Int32)) (Steps.refl _)
 obtain ⟨T_1, X_2, e_3, st_4⟩ := initO X0 hx hZ hown (w19 hw) (w20 hw) (w21 hw) e0 (g := (mkF m 1 #[VR x, VR b, VI 0, VI 2, .val .null, .unset] [(.ref x)])) rfl (by rw [hml]; rfl) rfl (hb hby d0_1) (by decide) (W := 0) (by show 2 * 0 + _ ≤ _; exact Nat.le_of_eq rfl) (by decide)
 obtain ⟨T_5, X_6, e_7, st_8⟩ := getS X_2 hx hZ (host := "") hown (w67 hw) Via.refl e_3 (O1.ext X00.2) (g := (mkF m 27 #[VR x, VR b, VI 0, VI 2, .val .null, .unset] [])) rfl (hb hby d0_27)
 obtain ⟨_, _, ⟨T_9, L_9, k_9, n_9⟩, -, X_9, ⟨Lc_9, hQ_9, l_9, y_9, z_9⟩, st_9⟩ := Jvm.LawKit.callS X_6 hx (y := M66) hown (mvT hZ (w108 hw)) (mvT hZ (w109 hw)) (mvT hZ (w110 hw)) (mvT hZ (w111 hw)) (by decide) (backOf (W := 0) (rm_cmp3_2 l Z a0 hw [] G1 G3 HG h0 n0 X00 b k c0 c1 hp4 hh0 hh1) hZ (w111 hw) (w110 hw) (by decide) (by decide)) (g := (mkF m 36 #[VR x, VR b, VI 0, VI 2, .val .null, .unset] [(.int 2), (.int 0), (.ref b)])) rfl (by rw [hml]; rfl) (argsL := [(.ref b), (.int 0), (.int 2)]) (rest := []) (lenOf pd_106 rfl) rfl (by show 2 * 0 + _ ≤ _; exact Nat.le_of_eq rfl) (hb hby d0_36) (fun _ _ => ⟨rfl, e_7, (by decide : 0 + 1 ≤ _), (by decide : 0 + 2 ≤ _)⟩)
 dsimp only [Pt.U, Pt.locs, Pt.cells, Pt.slots] at X_9 l_9 y_9 z_9 st_9 hQ_9
 subst l_9 y_9 z_9
 obtain ⟨a_10, k_11, rfl, N_12, K_13, g_14, g_15⟩ := hQ_9
 have N_16 := Fr.app N0 N_12
 have O_17 : Old Z n0 T_9.heap := (X00.keep K_13 all0)
 obtain ⟨_, _, ⟨T_18, L_18, k_18, n_18⟩, -, X_18, ⟨Lc_18, hQ_18, l_18, y_18, z_18⟩, st_18⟩ := Jvm.LawKit.callS X_9 hx (y := M89) hown (mvT hZ (w115 hw)) (mvT hZ (w116 hw)) (mvT hZ (w110 hw)) (mvT hZ (w117 hw)) (by decide) (backOf (W := 1) (rm_codl_2 l Z a0 hw [] G1 G3 HG T_9.heap n0 O_17 a_10 k_11 (own_lo8 c0) (own_lo8 c1) g_15) hZ (w117 hw) (w110 hw) (by decide) (by decide)) (g := (mkF m 45 #[VR x, VR b, VI 0, VI 2, .val .null, VR a_10] [(.int 2), (.ref a_10), (.ref x)])) rfl (by rw [hml]; rfl) (argsL := [(.ref a_10), (.int 2)]) (rest := [(.ref x)]) (lenOf pd_115 rfl) rfl (by show 2 * 0 + _ ≤ _; exact Nat.le_of_eq rfl) (hb hby d0_45) (fun _ _ => ⟨rfl, rfl, (by decide : 1 + 0 ≤ _), (by decide : 2 + 0 ≤ _)⟩)
 dsimp only [Pt.U, Pt.locs, Pt.cells, Pt.slots] at X_18 l_18 y_18 z_18 st_18 hQ_18
 subst l_18 y_18 z_18
 obtain ⟨rfl, N_19, e_20⟩ := hQ_18
 have N_21 := Fr.app N_16 N_19
 have e_22 : T_18.heap = T_9.heap := e_20
 have F_23 : Fld Z T_9.heap x "java/lang/String" "coder" "B" (.int 0) := (hp2.keep K_13 nin0)
 have E_24 : Exa Z T_9.heap x "java/lang/String" := (hp0.keep K_13)
 obtain ⟨T_25, h_26, X_27, e_28, W_29, st_30⟩ := putF X_18 hx hZ hown (host := "") (Or.inl (w29 hw)) Via.refl e_22 F_23 E_24 (Or.inr ⟨(w25 hw), rfl, hnm⟩) (w9 hw) (ty := .byte) (by decide) rfl (by decide) (g := (mkF m 48 #[VR x, VR b, VI 0, VI 2, .val .null, VR a_10] [(.int 0), (.ref x)])) rfl rfl (hb hby d0_48)
 have N_31 := Fr.snoc X_27 N_21 hp3
 have F_32 : Fld Z h_26 x "java/lang/String" "coder" "B" (.int 0) := F_23.same W_29
 have F_33 : Fld Z h_26 x "java/lang/String" "value" "[B" .null := ((hp1.keep K_13 nin0).other W_29 (Or.inr (slot_ne (Or.inr (w24 hw)) (Or.inr (w25 hw)) (by decide) (t := (.array .byte)) (by decide) (t' := .byte) (by decide))))
 have E_34 : Exa Z h_26 x "java/lang/String" := (E_24.wr W_29)
 obtain ⟨T_35, h_36, X_37, e_38, W_39, st_40⟩ := putF X_27 hx hZ hown (host := "") (Or.inl (w28 hw)) Via.refl e_28 F_33 E_34 (Or.inr ⟨(w24 hw), rfl, hnm⟩) (w9 hw) (ty := (.array .byte)) (by decide) rfl rfl (g := (mkF m 54 #[VR x, VR b, VI 0, VI 2, .val .null, VR a_10] [(.ref a_10), (.ref x)])) rfl rfl (hb hby d0_54)
 have N_41 := Fr.snoc X_37 N_31 hp3
 have F_42 : Fld Z h_36 x "java/lang/String" "value" "[B" (.ref a_10) := F_33.same W_39
 have C_43 : Steps p.tables e below S0 (T_35.setTop (mkF m 57 #[VR x, VR b, VI 0, VI 2, .val .null, VR a_10] [])) := by
  refine C0.trans ?_
  refine XS.aloadN X0.here hx rfl (hb hby d0_0) rfl rfl ?_
  refine st_4 _ ?_
  refine XS.iloadN X_2.here hx rfl (hb hby d0_4) rfl ?_
  refine XS.ifYes X_2.here hx rfl (pc0 := 5) (pc' := 27) rfl (hb hby d0_5) rfl (by decide) (by decide) (by decide) ?_
  refine st_8 _ ?_
  refine XS.ifNo X_6.here hx rfl (hb hby d0_30) rfl (i0_eq_f P1) ?_
  refine XS.aloadN X_6.here hx rfl (hb hby d0_33) rfl rfl ?_
  refine XS.iloadN X_6.here hx rfl (hb hby d0_34) rfl ?_
  refine XS.iloadN X_6.here hx rfl (hb hby d0_35) rfl ?_
  refine st_9 _ ?_
  refine XS.astore X_9.here hx rfl (hb hby d0_39) rfl rfl (l' := #[VR x, VR b, VI 0, VI 2, .val .null, VR a_10]) rfl ?_
  refine XS.aloadN X_9.here hx rfl (hb hby d0_41) rfl rfl ?_
  refine XS.aload X_9.here hx rfl (hb hby d0_42) rfl rfl ?_
  refine XS.iloadN X_9.here hx rfl (hb hby d0_44) rfl ?_
  refine st_18 _ ?_
  refine st_30 _ ?_
  show Steps p.tables e below (T_25.setTop (mkF m 51 #[VR x, VR b, VI 0, VI 2, .val .null, VR a_10] [])) _
  refine XS.aloadN X_27.here hx rfl (hb hby d0_51) rfl rfl ?_
  refine XS.aload X_27.here hx rfl (hb hby d0_52) rfl rfl ?_
  refine st_40 _ ?_
  exact Steps.refl _
 have E_44 : Exa Z h_36 x "java/lang/String" := (E_34.wr W_39)
 have F_45 : Fld Z h_36 x "java/lang/String" "coder" "B" (.int 0) := (F_32.other W_39 (Or.inr (slot_ne (Or.inr (w25 hw)) (Or.inr (w24 hw)) (by decide) (t := .byte) (by decide) (t' := (.array .byte)) (by decide))))
 have V_46 : Arv Z h_36 a_10 k_11 .byte (2 : Int32) [(.int (own_lo8 c0)), (.int (own_lo8 c1))] (.int 0) := ((g_15.other W_29 (Ne.symm (Nat.ne_of_lt (Nat.lt_of_lt_of_le hp0.lt (Nat.le_trans (Nat.le_refl _) g_14))))).other W_39 (Ne.symm (Nat.ne_of_lt (Nat.lt_of_lt_of_le hp0.lt (Nat.le_trans (Nat.le_refl _) g_14)))))
 have K_47 : Keep h0 h_36 [x] := ((((Keep.refl _ _).trans K_13 all0).wr W_29 (Or.inl (List.mem_of_getElem? (i := 0) rfl))).wr W_39 (Or.inl (List.mem_of_getElem? (i := 0) rfl)))
 obtain ⟨fs, hr, hrun, hended, hW, hsame⟩ := X_37.leave (v := none) (fun _ => rfl)
 refine ⟨_, _, C_43.trans (X_37.returnOut hx Bd.returns (hb hby d0_57) hr), hrun, hended, _, _, rfl, ?_, ⟨_, rfl⟩, hW, hsame.mono (by decide) (by decide)⟩
 show Q_si4_2 Z G1 G3 x b k c0 c1 h0 n0 (none) T_35.heap _
 rw [e_38]
 exact ⟨a_10, k_11, rfl, N_41, K_47, E_44, F_45, F_42, (Nat.le_trans (Nat.le_refl _) g_14), V_46⟩
abbrev R_si1_2 : Room := { frames := 3, cells := 1, slots := 2, locals := 52 }
def Q_si1_2 (Z : State) (G1 : Int32) (G3 : Value) (x : Addr) (b : Addr) (k : ClassId) (c0 : Int32) (c1 : Int32) (h0 : Heap) (n0 : Nat) (v : Option Value) (h : Heap) (L : List Loc) : Prop := (∃ t : Addr, ∃ kt : ClassId, v = none ∧ Fr n0 L ∧ Keep h0 h [x] ∧ (Exa Z h x "java/lang/String") ∧ (Fld Z h x "java/lang/String" "coder" "B" (.int 0)) ∧ (Fld Z h x "java/lang/String" "value" "[B" (.ref t)) ∧ (h0.size ≤ t) ∧ (Arv Z h t kt .byte (2 : Int32) [(.int (own_lo8 c0)), (.int (own_lo8 c1))] (.int 0)))
theorem rm_si1_2 (l : Launch) (Z : State) (a0 : Array Value) (hw : HW Z a0) (ws : List Jvm.Cond) (G1 : Int32) (G3 : Value) (HG : own_G l Z a0 G1 G3) (h0 : Heap) (n0 : Nat) (X00 : Old Z n0 h0) (x : Addr) (b : Addr) (k : ClassId) (c0 : Int32) (c1 : Int32) (hp0 : Exa Z h0 x "java/lang/String") (hp1 : Fld Z h0 x "java/lang/String" "value" "[B" .null) (hp2 : Fld Z h0 x "java/lang/String" "coder" "B" (.int 0)) (hp3 : n0 ≤ x) (hp4 : Arv Z h0 b k .char (2 : Int32) [(.int c0), (.int c1)] (.int 0)) (hh0 : ¬ ((255 : Int32) < c0)) (hh1 : ¬ ((255 : Int32) < c1)) :
  own_CP l Z M25 jdk_42_method_3_code 2 none ws R_si1_2 #[(.ref x), (.ref b)] h0 (Q_si1_2 Z G1 G3 x b k c0 c1 h0 n0) := by
 refine own_P (plainFor_of_name pn_2) ?_
 intro p e s m below meth c s₁ S0 Bd hZ hh hx hby hml hown hnm X0 e0 hS0d
 obtain ⟨O1, P1, O3f, rG3⟩ := id HG
 have N0 := Fr.nil n0
 have C0 : Steps p.tables e below S0 (s₁.setTop (mkF m 0 #[VR x, VR b] [])) := by rw [hS0d]; exact castTop (ef_26 m x b) (Steps.refl _)
 obtain ⟨c_1, A_2, q_3, S_4, M_5, H_6, U_7⟩ := id hp4
 obtain ⟨_, _, ⟨T_8, L_8, k_8, n_8⟩, -, X_8, ⟨Lc_8, hQ_8, l_8, y_8, z_8⟩, st_8⟩ := X0.specialBack hx (y := M0) rfl hown (mvT hZ (w15 hw)) (mvT hZ (w16 hw)) (mvT hZ (w18 hw)) (by decide) (backOf (W := 0) (rm_si4_2 l Z a0 hw [] G1 G3 HG h0 n0 X00 x b k c0 c1 hp0 hp1 hp2 hp3 hp4 hh0 hh1) hZ (w18 hw) (w10 hw) (by decide) (by decide)) (g := (mkF m 6 #[VR x, VR b] [.null, (.int 2), (.int 0), (.ref b), (.ref x)])) rfl (by rw [hml]; rfl) (Steps.refl _) (a := x) (argsL := [(.ref b), (.int 0), (.int 2), .null]) (rest := []) (lenOf pd_35 rfl) rfl (by show 2 * 0 + _ ≤ _; exact Nat.le_of_eq rfl) (hb hby d1_6) (fun _ _ => ⟨rfl, e0, (by decide : 0 + 1 ≤ _), (by decide : 0 + 2 ≤ _)⟩)
 dsimp only [Pt.U, Pt.locs, Pt.cells, Pt.slots] at X_8 l_8 y_8 z_8 st_8 hQ_8
 subst l_8 y_8 z_8
 obtain ⟨a_9, k_10, rfl, N_11, K_12, g_13, g_14, g_15, g_16, g_17⟩ := hQ_8
 have N_18 := Fr.app N0 N_11
 have C_19 : Steps p.tables e below S0 (T_8.setTop (mkF m 9 #[VR x, VR b] [])) := by
  refine C0.trans ?_
  refine XS.aloadN X0.here hx rfl (hb hby d1_0) rfl rfl ?_
  refine XS.aloadN X0.here hx rfl (hb hby d1_1) rfl rfl ?_
  refine XS.iconst X0.here hx rfl (hb hby d1_2) ?_
  refine XS.aloadN X0.here hx rfl (hb hby d1_3) rfl rfl ?_
  refine X0.arraylength hx (by rw [e0]; exact A_2.1) (State.isArrayOf_alike hZ.alike A_2.2.1) (g := (mkF m 4 #[VR x, VR b] [(.ref b), (.int 0), (.ref b), (.ref x)])) rfl rfl (hb hby d1_4) _ ?_
  rw [len_of S_4 M_5]
  refine XS.aconstNull X0.here hx rfl (hb hby d1_5) ?_
  refine st_8.trans ?_
  exact Steps.refl _
 have K_20 : Keep h0 T_8.heap [x] := ((Keep.refl _ _).trans K_12 (allS (Or.inl (List.mem_of_getElem? (i := 0) rfl)) all0))
 obtain ⟨fs, hr, hrun, hended, hW, hsame⟩ := X_8.leave (v := none) (fun _ => rfl)
 refine ⟨_, _, C_19.trans (X_8.returnOut hx Bd.returns (hb hby d1_9) hr), hrun, hended, _, _, rfl, ?_, ⟨_, rfl⟩, hW, hsame.mono (by decide) (by decide)⟩
 show Q_si1_2 Z G1 G3 x b k c0 c1 h0 n0 (none) T_8.heap _
 exact ⟨a_9, k_10, rfl, N_18, K_20, g_13, g_14, g_15, (Nat.le_trans (Nat.le_refl _) g_16), g_17⟩
abbrev R_cmp5_3 : Room := { frames := 0, cells := 0, slots := 0, locals := 0 }
def Q_cmp5_3 (Z : State) (G1 : Int32) (G3 : Value) (b : Addr) (k : ClassId) (t : Addr) (kt : ClassId) (c0 : Int32) (c1 : Int32) (c2 : Int32) (h0 : Heap) (n0 : Nat) (v : Option Value) (h : Heap) (L : List Loc) : Prop := (v = some (.int 3) ∧ Fr n0 L ∧ Keep h0 h [t] ∧ (Arv Z h t kt .byte (3 : Int32) [(.int (own_lo8 c0)), (.int (own_lo8 c1)), (.int (own_lo8 c2))] (.int 0)))
theorem rm_cmp5_3 (l : Launch) (Z : State) (a0 : Array Value) (hw : HW Z a0) (ws : List Jvm.Cond) (G1 : Int32) (G3 : Value) (HG : own_G l Z a0 G1 G3) (h0 : Heap) (n0 : Nat) (X00 : Old Z n0 h0) (b : Addr) (k : ClassId) (t : Addr) (kt : ClassId) (c0 : Int32) (c1 : Int32) (c2 : Int32) (hp0 : Arv Z h0 b k .char (3 : Int32) [(.int c0), (.int c1), (.int c2)] (.int 0)) (hp1 : Arv Z h0 t kt .byte (3 : Int32) [(.int 0), (.int 0), (.int 0)] (.int 0)) (hp2 : n0 ≤ t) (hp3 : b ≠ t) (hh0 : ¬ ((255 : Int32) < c0)) (hh1 : ¬ ((255 : Int32) < c1)) (hh2 : ¬ ((255 : Int32) < c2)) :
  own_CP l Z M40 jdk_52_method_21_code 7 (some .int) ws R_cmp5_3 #[(.ref b), (.int 0), (.ref t), (.int 0), (.int 3)] h0 (Q_cmp5_3 Z G1 G3 b k t kt c0 c1 c2 h0 n0) := by
 refine own_P (plainFor_of_name pn_42) ?_
 intro p e s m below meth c s₁ S0 Bd hZ hh hx hby hml hown hnm X0 e0 hS0d
 obtain ⟨O1, P1, O3f, rG3⟩ := id HG
 have N0 := Fr.nil n0
 have C0 : Steps p.tables e below S0 (s₁.setTop (mkF m 0 #[VR b, VI 0, VR t, VI 0, VI 3, .unset, .unset] [])) := by rw [hS0d]; exact castTop (ef_41 m b (0 : Int32) t (0 : Int32) (3 : Int32)) (Steps.refl _)
 obtain ⟨c_1, A_2, q_3, S_4, M_5, H_6, U_7⟩ := id hp0
 have hin_8 : ¬ ((0 : Int32) < 0 ∨ c_1.slots.size ≤ (0 : Int32).toNatClampNeg) := inb_of S_4 ⟨(by decide : ¬ ((0 : Int32) < (0 : Int32))), (by decide : (0 : Int32) < (3 : Int32))⟩
 have hat_9 : c_1.slots[(0 : Int32).toNatClampNeg]? = some (.int c0) := Has.at H_6 hin_8 rfl
 obtain ⟨c_10, A_11, q_12, S_13, M_14, H_15, U_16⟩ := id hp1
 have hin_23 : ¬ ((0 : Int32) < 0 ∨ c_10.slots.size ≤ (0 : Int32).toNatClampNeg) := inb_of S_13 ⟨(by decide : ¬ ((0 : Int32) < (0 : Int32))), (by decide : (0 : Int32) < (3 : Int32))⟩
 obtain ⟨T_17, h_18, X_19, e_20, W_21, st_22⟩ := stB X0 hx hZ e0 A_11 (j := (0 : Int32)) hin_23 (g := (mkF m 31 #[VR b, VI 0, VR t, VI 0, VI 3, VI 0, VI c0] [(.int (c0.toInt8.toInt32)), (.int 0), (.ref t)])) rfl rfl (hb hby d2_31)
 have N_24 := Fr.snoc X_19 N0 hp2
 have V_25 : Arv Z h_18 t kt .byte (3 : Int32) [(.int (own_lo8 c0)), (.int 0), (.int 0)] (.int 0) := Arv.set A_11 q_12 S_13 M_14 H_15 U_16 (fits_nar_byte _) W_21 0 rfl (Nat.le_of_ble_eq_true rfl)
 have V_26 : Arv Z h_18 b k .char (3 : Int32) [(.int c0), (.int c1), (.int c2)] (.int 0) := (hp0.other W_21 hp3)
 obtain ⟨c_27, A_28, q_29, S_30, M_31, H_32, U_33⟩ := id V_26
 have hin_34 : ¬ ((1 : Int32) < 0 ∨ c_27.slots.size ≤ (1 : Int32).toNatClampNeg) := inb_of S_30 ⟨(by decide : ¬ ((1 : Int32) < (0 : Int32))), (by decide : (1 : Int32) < (3 : Int32))⟩
 have hat_35 : c_27.slots[(1 : Int32).toNatClampNeg]? = some (.int c1) := Has.at H_32 hin_34 rfl
 obtain ⟨c_36, A_37, q_38, S_39, M_40, H_41, U_42⟩ := id V_25
 have hin_49 : ¬ ((1 : Int32) < 0 ∨ c_36.slots.size ≤ (1 : Int32).toNatClampNeg) := inb_of S_39 ⟨(by decide : ¬ ((1 : Int32) < (0 : Int32))), (by decide : (1 : Int32) < (3 : Int32))⟩
 obtain ⟨T_43, h_44, X_45, e_46, W_47, st_48⟩ := stB X_19 hx hZ e_20 A_37 (j := (1 : Int32)) hin_49 (g := (mkF m 31 #[VR b, VI 1, VR t, VI 1, VI 3, VI 1, VI c1] [(.int (c1.toInt8.toInt32)), (.int 1), (.ref t)])) rfl rfl (hb hby d2_31)
 have N_50 := Fr.snoc X_45 N_24 hp2
 have V_51 : Arv Z h_44 t kt .byte (3 : Int32) [(.int (own_lo8 c0)), (.int (own_lo8 c1)), (.int 0)] (.int 0) := Arv.set A_37 q_38 S_39 M_40 H_41 U_42 (fits_nar_byte _) W_47 1 rfl (Nat.le_of_ble_eq_true rfl)
 have V_52 : Arv Z h_44 b k .char (3 : Int32) [(.int c0), (.int c1), (.int c2)] (.int 0) := (V_26.other W_47 hp3)
 obtain ⟨c_53, A_54, q_55, S_56, M_57, H_58, U_59⟩ := id V_52
 have hin_60 : ¬ ((2 : Int32) < 0 ∨ c_53.slots.size ≤ (2 : Int32).toNatClampNeg) := inb_of S_56 ⟨(by decide : ¬ ((2 : Int32) < (0 : Int32))), (by decide : (2 : Int32) < (3 : Int32))⟩
 have hat_61 : c_53.slots[(2 : Int32).toNatClampNeg]? = some (.int c2) := Has.at H_58 hin_60 rfl
 obtain ⟨c_62, A_63, q_64, S_65, M_66, H_67, U_68⟩ := id V_51
 have hin_75 : ¬ ((2 : Int32) < 0 ∨ c_62.slots.size ≤ (2 : Int32).toNatClampNeg) := inb_of S_65 ⟨(by decide : ¬ ((2 : Int32) < (0 : Int32))), (by decide : (2 : Int32) < (3 : Int32))⟩
 obtain ⟨T_69, h_70, X_71, e_72, W_73, st_74⟩ := stB X_45 hx hZ e_46 A_63 (j := (2 : Int32)) hin_75 (g := (mkF m 31 #[VR b, VI 2, VR t, VI 2, VI 3, VI 2, VI c2] [(.int (c2.toInt8.toInt32)), (.int 2), (.ref t)])) rfl rfl (hb hby d2_31)
 have N_76 := Fr.snoc X_71 N_50 hp2
 have V_77 : Arv Z h_70 t kt .byte (3 : Int32) [(.int (own_lo8 c0)), (.int (own_lo8 c1)), (.int (own_lo8 c2))] (.int 0) := Arv.set A_63 q_64 S_65 M_66 H_67 U_68 (fits_nar_byte _) W_73 2 rfl (Nat.le_of_ble_eq_true rfl)
 have C_78 : Steps p.tables e below S0 (T_69.setTop (mkF m 46 #[VR b, VI 3, VR t, VI 3, VI 3, VI 3, VI c2] [(.int 3)])) := by
  refine C0.trans ?_
  refine XS.iconst X0.here hx rfl (hb hby d2_0) ?_
  refine XS.istore X0.here hx rfl (hb hby d2_1) rfl (l' := #[VR b, VI 0, VR t, VI 0, VI 3, VI 0, .unset]) rfl ?_
  refine XS.iload X0.here hx rfl (hb hby d2_3) rfl ?_
  refine XS.iload X0.here hx rfl (hb hby d2_5) rfl ?_
  refine XS.icmpNo X0.here hx rfl (hb hby d2_7) rfl (by decide) ?_
  refine XS.aloadN X0.here hx rfl (hb hby d2_10) rfl rfl ?_
  refine XS.iloadN X0.here hx rfl (hb hby d2_11) rfl ?_
  refine X0.caload hx (j := (0 : Int32)) (v := (.int c0)) (by rw [e0]; exact A_2.1) (State.isArrayOf_alike hZ.alike A_2.2.1) A_2.2.2 hin_8 hat_9 (g := (mkF m 12 #[VR b, VI 0, VR t, VI 0, VI 3, VI 0, .unset] [(.int 0), (.ref b)])) rfl rfl (hb hby d2_12) _ ?_
  refine XS.istore X0.here hx rfl (hb hby d2_13) rfl (l' := #[VR b, VI 0, VR t, VI 0, VI 3, VI 0, VI c0]) rfl ?_
  refine XS.iload X0.here hx rfl (hb hby d2_15) rfl ?_
  refine XS.sipush X0.here hx rfl (hb hby d2_17) ?_
  refine XS.icmpYes X0.here hx rfl (pc0 := 20) (pc' := 26) rfl (hb hby d2_20) rfl (ii_le_t hh0) (by decide) (by decide) ?_
  refine XS.aloadN X0.here hx rfl (hb hby d2_26) rfl rfl ?_
  refine XS.iloadN X0.here hx rfl (hb hby d2_27) rfl ?_
  refine XS.iload X0.here hx rfl (hb hby d2_28) rfl ?_
  refine XS.i2b X0.here hx rfl (hb hby d2_30) rfl ?_
  show Steps p.tables e below (s₁.setTop (mkF m 31 #[VR b, VI 0, VR t, VI 0, VI 3, VI 0, VI c0] [(.int (c0.toInt8.toInt32)), (.int 0), (.ref t)])) _
  refine st_22 _ ?_
  refine XS.iinc X_19.here hx rfl (hb hby d2_32) (x := (0 : Int32)) rfl (l' := #[VR b, VI 1, VR t, VI 0, VI 3, VI 0, VI c0]) rfl ?_
  refine XS.iinc X_19.here hx rfl (hb hby d2_35) (x := (0 : Int32)) rfl (l' := #[VR b, VI 1, VR t, VI 1, VI 3, VI 0, VI c0]) rfl ?_
  refine XS.iinc X_19.here hx rfl (hb hby d2_38) (x := (0 : Int32)) rfl (l' := #[VR b, VI 1, VR t, VI 1, VI 3, VI 1, VI c0]) rfl ?_
  refine XS.goto X_19.here hx rfl (pc0 := 41) (pc' := 3) rfl (hb hby d2_41) (by decide) (by decide) ?_
  refine XS.iload X_19.here hx rfl (hb hby d2_3) rfl ?_
  refine XS.iload X_19.here hx rfl (hb hby d2_5) rfl ?_
  refine XS.icmpNo X_19.here hx rfl (hb hby d2_7) rfl (by decide) ?_
  refine XS.aloadN X_19.here hx rfl (hb hby d2_10) rfl rfl ?_
  refine XS.iloadN X_19.here hx rfl (hb hby d2_11) rfl ?_
  refine X_19.caload hx (j := (1 : Int32)) (v := (.int c1)) (by rw [e_20]; exact A_28.1) (State.isArrayOf_alike hZ.alike A_28.2.1) A_28.2.2 hin_34 hat_35 (g := (mkF m 12 #[VR b, VI 1, VR t, VI 1, VI 3, VI 1, VI c0] [(.int 1), (.ref b)])) rfl rfl (hb hby d2_12) _ ?_
  refine XS.istore X_19.here hx rfl (hb hby d2_13) rfl (l' := #[VR b, VI 1, VR t, VI 1, VI 3, VI 1, VI c1]) rfl ?_
  refine XS.iload X_19.here hx rfl (hb hby d2_15) rfl ?_
  refine XS.sipush X_19.here hx rfl (hb hby d2_17) ?_
  refine XS.icmpYes X_19.here hx rfl (pc0 := 20) (pc' := 26) rfl (hb hby d2_20) rfl (ii_le_t hh1) (by decide) (by decide) ?_
  refine XS.aloadN X_19.here hx rfl (hb hby d2_26) rfl rfl ?_
  show Steps p.tables e below (T_17.setTop (mkF m 27 #[VR b, VI 1, VR t, VI 1, VI 3, VI 1, VI c1] [(.ref t)])) _
  refine XS.iloadN X_19.here hx rfl (hb hby d2_27) rfl ?_
  refine XS.iload X_19.here hx rfl (hb hby d2_28) rfl ?_
  refine XS.i2b X_19.here hx rfl (hb hby d2_30) rfl ?_
  refine st_48 _ ?_
  refine XS.iinc X_45.here hx rfl (hb hby d2_32) (x := (1 : Int32)) rfl (l' := #[VR b, VI 2, VR t, VI 1, VI 3, VI 1, VI c1]) rfl ?_
  refine XS.iinc X_45.here hx rfl (hb hby d2_35) (x := (1 : Int32)) rfl (l' := #[VR b, VI 2, VR t, VI 2, VI 3, VI 1, VI c1]) rfl ?_
  refine XS.iinc X_45.here hx rfl (hb hby d2_38) (x := (1 : Int32)) rfl (l' := #[VR b, VI 2, VR t, VI 2, VI 3, VI 2, VI c1]) rfl ?_
  refine XS.goto X_45.here hx rfl (pc0 := 41) (pc' := 3) rfl (hb hby d2_41) (by decide) (by decide) ?_
  refine XS.iload X_45.here hx rfl (hb hby d2_3) rfl ?_
  refine XS.iload X_45.here hx rfl (hb hby d2_5) rfl ?_
  refine XS.icmpNo X_45.here hx rfl (hb hby d2_7) rfl (by decide) ?_
  refine XS.aloadN X_45.here hx rfl (hb hby d2_10) rfl rfl ?_
  refine XS.iloadN X_45.here hx rfl (hb hby d2_11) rfl ?_
  refine X_45.caload hx (j := (2 : Int32)) (v := (.int c2)) (by rw [e_46]; exact A_54.1) (State.isArrayOf_alike hZ.alike A_54.2.1) A_54.2.2 hin_60 hat_61 (g := (mkF m 12 #[VR b, VI 2, VR t, VI 2, VI 3, VI 2, VI c1] [(.int 2), (.ref b)])) rfl rfl (hb hby d2_12) _ ?_
  refine XS.istore X_45.here hx rfl (hb hby d2_13) rfl (l' := #[VR b, VI 2, VR t, VI 2, VI 3, VI 2, VI c2]) rfl ?_
  refine XS.iload X_45.here hx rfl (hb hby d2_15) rfl ?_
  show Steps p.tables e below (T_43.setTop (mkF m 17 #[VR b, VI 2, VR t, VI 2, VI 3, VI 2, VI c2] [(.int c2)])) _
  refine XS.sipush X_45.here hx rfl (hb hby d2_17) ?_
  refine XS.icmpYes X_45.here hx rfl (pc0 := 20) (pc' := 26) rfl (hb hby d2_20) rfl (ii_le_t hh2) (by decide) (by decide) ?_
  refine XS.aloadN X_45.here hx rfl (hb hby d2_26) rfl rfl ?_
  refine XS.iloadN X_45.here hx rfl (hb hby d2_27) rfl ?_
  refine XS.iload X_45.here hx rfl (hb hby d2_28) rfl ?_
  refine XS.i2b X_45.here hx rfl (hb hby d2_30) rfl ?_
  refine st_74 _ ?_
  refine XS.iinc X_71.here hx rfl (hb hby d2_32) (x := (2 : Int32)) rfl (l' := #[VR b, VI 3, VR t, VI 2, VI 3, VI 2, VI c2]) rfl ?_
  refine XS.iinc X_71.here hx rfl (hb hby d2_35) (x := (2 : Int32)) rfl (l' := #[VR b, VI 3, VR t, VI 3, VI 3, VI 2, VI c2]) rfl ?_
  refine XS.iinc X_71.here hx rfl (hb hby d2_38) (x := (2 : Int32)) rfl (l' := #[VR b, VI 3, VR t, VI 3, VI 3, VI 3, VI c2]) rfl ?_
  refine XS.goto X_71.here hx rfl (pc0 := 41) (pc' := 3) rfl (hb hby d2_41) (by decide) (by decide) ?_
  refine XS.iload X_71.here hx rfl (hb hby d2_3) rfl ?_
  refine XS.iload X_71.here hx rfl (hb hby d2_5) rfl ?_
  refine XS.icmpYes X_71.here hx rfl (pc0 := 7) (pc' := 44) rfl (hb hby d2_7) rfl (by decide) (by decide) (by decide) ?_
  refine XS.iload X_71.here hx rfl (hb hby d2_44) rfl ?_
  exact Steps.refl _
 have K_79 : Keep h0 h_70 [t] := ((((Keep.refl _ _).wr W_21 (Or.inl (List.mem_of_getElem? (i := 0) rfl))).wr W_47 (Or.inl (List.mem_of_getElem? (i := 0) rfl))).wr W_73 (Or.inl (List.mem_of_getElem? (i := 0) rfl)))
 obtain ⟨fs, hr, hrun, hended, hW, hsame⟩ := X_71.leave (v := some (.int 3)) (fun h => by rw [Bd.returns] at h; cases h)
 refine ⟨_, _, C_78.trans (retOut X_71 hx Bd.returns rfl (Or.inl ⟨rfl, Or.inl rfl, _, rfl⟩) (hb hby d2_46) hr), hrun, hended, _, _, rfl, ?_, ⟨_, rfl⟩, hW, hsame.mono (by decide) (by decide)⟩
 show Q_cmp5_3 Z G1 G3 b k t kt c0 c1 c2 h0 n0 (some (.int 3)) T_69.heap _
 rw [e_72]
 exact ⟨rfl, N_76, K_79, V_77⟩
abbrev R_cmp3_3 : Room := { frames := 1, cells := 1, slots := 3, locals := 18 }
def Q_cmp3_3 (Z : State) (G1 : Int32) (G3 : Value) (b : Addr) (k : ClassId) (c0 : Int32) (c1 : Int32) (c2 : Int32) (h0 : Heap) (n0 : Nat) (v : Option Value) (h : Heap) (L : List Loc) : Prop := (∃ t : Addr, ∃ kt : ClassId, v = some (.ref t) ∧ Fr n0 L ∧ Keep h0 h [] ∧ (h0.size ≤ t) ∧ (Arv Z h t kt .byte (3 : Int32) [(.int (own_lo8 c0)), (.int (own_lo8 c1)), (.int (own_lo8 c2))] (.int 0)))
theorem rm_cmp3_3 (l : Launch) (Z : State) (a0 : Array Value) (hw : HW Z a0) (ws : List Jvm.Cond) (G1 : Int32) (G3 : Value) (HG : own_G l Z a0 G1 G3) (h0 : Heap) (n0 : Nat) (X00 : Old Z n0 h0) (b : Addr) (k : ClassId) (c0 : Int32) (c1 : Int32) (c2 : Int32) (hp0 : Arv Z h0 b k .char (3 : Int32) [(.int c0), (.int c1), (.int c2)] (.int 0)) (hh0 : ¬ ((255 : Int32) < c0)) (hh1 : ¬ ((255 : Int32) < c1)) (hh2 : ¬ ((255 : Int32) < c2)) :
  own_CP l Z M66 jdk_52_method_16_code 6 (some (.array .byte)) ws R_cmp3_3 #[(.ref b), (.int 0), (.int 3)] h0 (Q_cmp3_3 Z G1 G3 b k c0 c1 c2 h0 n0) := by
 refine own_P (plainFor_of_name pn_42) ?_
 intro p e s m below meth c s₁ S0 Bd hZ hh hx hby hml hown hnm X0 e0 hS0d
 obtain ⟨O1, P1, O3f, rG3⟩ := id HG
 have N0 := Fr.nil n0
 have C0 : Steps p.tables e below S0 (s₁.setTop (mkF m 0 #[VR b, VI 0, VI 3, .unset, .unset, .unset] [])) := by rw [hS0d]; exact castTop (ef_67 m b (0 : Int32) (3 : Int32)) (Steps.refl _)
 obtain ⟨T_1, h_2, k_3, X_4, e_5, E_6, A_7, st_8⟩ := newP (aty := .byte) X0 hx hZ (w23 hw) e0 (g := (mkF m 1 #[VR b, VI 0, VI 3, .unset, .unset, .unset] [(.int 3)])) rfl (hb hby d3_1) rfl (by decide : ¬ ((3 : Int32) < (0 : Int32))) (cap := 3) (by decide : (3 : Int32).toNatClampNeg ≤ 3) (by decide) (by decide) (by decide)
 obtain ⟨a_9, g_10⟩ : ∃ z, z = h0.size := ⟨_, rfl⟩
 rw [← g_10] at A_7 st_8
 have V_12 : Arv Z h_2 a_9 k_3 .byte (3 : Int32) [] (.int 0) := Arv.new A_7 (by decide : ¬ ((3 : Int32) < (0 : Int32)))
 have V_11 : Arv Z h_2 a_9 k_3 .byte (3 : Int32) [(.int 0), (.int 0), (.int 0)] (.int 0) := (V_12.pad (pad_rep [] (.int 0) 3))
 have V_13 : Arv Z h_2 b k .char (3 : Int32) [(.int c0), (.int c1), (.int c2)] (.int 0) := (hp0.ext E_6)
 have O_14 : Old Z n0 h_2 := (X00.ext E_6)
 obtain ⟨_, _, ⟨T_15, L_15, k_15, n_15⟩, -, X_15, ⟨Lc_15, hQ_15, l_15, y_15, z_15⟩, st_15⟩ := Jvm.LawKit.callS X_4 hx (y := M40) hown (mvT hZ (w112 hw)) (mvT hZ (w113 hw)) (mvT hZ (w110 hw)) (mvT hZ (w114 hw)) (by decide) (backOf (W := 0) (rm_cmp5_3 l Z a0 hw [] G1 G3 HG h_2 n0 O_14 b k a_9 k_3 c0 c1 c2 V_13 V_11 (Nat.le_trans (own_n0 X00) (Nat.le_of_eq g_10.symm)) (Nat.ne_of_lt (Nat.lt_of_lt_of_le hp0.lt (Nat.le_trans (Nat.le_refl _) (Nat.le_of_eq g_10.symm)))) hh0 hh1 hh2) hZ (w114 hw) (w110 hw) (by decide) (by decide)) (g := (mkF m 9 #[VR b, VI 0, VI 3, VR a_9, .unset, .unset] [(.int 3), (.int 0), (.ref a_9), (.int 0), (.ref b)])) rfl (by rw [hml]; rfl) (argsL := [(.ref b), (.int 0), (.ref a_9), (.int 0), (.int 3)]) (rest := []) (lenOf pd_79 rfl) rfl (by show 2 * 0 + _ ≤ _; exact Nat.le_of_eq rfl) (hb hby d3_9) (fun _ _ => ⟨rfl, e_5, (by decide : 1 + 0 ≤ _), (by decide : 3 + 0 ≤ _)⟩)
 dsimp only [Pt.U, Pt.locs, Pt.cells, Pt.slots] at X_15 l_15 y_15 z_15 st_15 hQ_15
 subst l_15 y_15 z_15
 obtain ⟨rfl, N_16, K_17, g_18⟩ := hQ_15
 have N_19 := Fr.app N0 N_16
 have C_20 : Steps p.tables e below S0 (T_15.setTop (mkF m 58 #[VR b, VI 0, VI 3, VR a_9, VI 3, .unset] [(.ref a_9)])) := by
  refine C0.trans ?_
  refine XS.iloadN X0.here hx rfl (hb hby d3_0) rfl ?_
  refine st_8 _ ?_
  refine XS.astoreN X_4.here hx rfl (hb hby d3_3) rfl rfl (l' := #[VR b, VI 0, VI 3, VR a_9, .unset, .unset]) rfl ?_
  refine XS.aloadN X_4.here hx rfl (hb hby d3_4) rfl rfl ?_
  refine XS.iloadN X_4.here hx rfl (hb hby d3_5) rfl ?_
  refine XS.aloadN X_4.here hx rfl (hb hby d3_6) rfl rfl ?_
  refine XS.iconst X_4.here hx rfl (hb hby d3_7) ?_
  refine XS.iloadN X_4.here hx rfl (hb hby d3_8) rfl ?_
  refine st_15 _ ?_
  refine XS.istore X_15.here hx rfl (hb hby d3_12) rfl (l' := #[VR b, VI 0, VI 3, VR a_9, VI 3, .unset]) rfl ?_
  refine XS.iload X_15.here hx rfl (hb hby d3_14) rfl ?_
  refine XS.iloadN X_15.here hx rfl (hb hby d3_16) rfl ?_
  refine XS.icmpYes X_15.here hx rfl (pc0 := 17) (pc' := 57) rfl (hb hby d3_17) rfl (by decide) (by decide) (by decide) ?_
  refine XS.aloadN X_15.here hx rfl (hb hby d3_57) rfl rfl ?_
  exact Steps.refl _
 have K_21 : Keep h0 T_15.heap [] := (((Keep.refl _ _).ext E_6).trans K_17 (allS (Or.inr (Nat.le_trans (Nat.le_refl _) (Nat.le_of_eq g_10.symm))) all0))
 obtain ⟨fs, hr, hrun, hended, hW, hsame⟩ := X_15.leave (v := some (.ref a_9)) (fun h => by rw [Bd.returns] at h; cases h)
 refine ⟨_, _, C_20.trans (retOut X_15 hx Bd.returns rfl (Or.inr (Or.inr (Or.inr (Or.inr ⟨rfl, rfl, rfl⟩)))) (hb hby d3_58) hr), hrun, hended, _, _, rfl, ?_, ⟨_, rfl⟩, hW, hsame.mono (by decide) (by decide)⟩
 show Q_cmp3_3 Z G1 G3 b k c0 c1 c2 h0 n0 (some (.ref a_9)) T_15.heap _
 exact ⟨a_9, k_3, rfl, N_19, K_21, (Nat.le_trans (Nat.le_refl _) (Nat.le_of_eq g_10.symm)), g_18⟩
abbrev R_codl_3 : Room := { frames := 0, cells := 0, slots := 0, locals := 0 }
def Q_codl_3 (Z : State) (G1 : Int32) (G3 : Value) (t : Addr) (kt : ClassId) (y0 : Int32) (y1 : Int32) (y2 : Int32) (h0 : Heap) (n0 : Nat) (v : Option Value) (h : Heap) (L : List Loc) : Prop := (v = some (.int 0) ∧ Fr n0 L ∧ h = h0)
theorem rm_codl_3 (l : Launch) (Z : State) (a0 : Array Value) (hw : HW Z a0) (ws : List Jvm.Cond) (G1 : Int32) (G3 : Value) (HG : own_G l Z a0 G1 G3) (h0 : Heap) (n0 : Nat) (X00 : Old Z n0 h0) (t : Addr) (kt : ClassId) (y0 : Int32) (y1 : Int32) (y2 : Int32) (hp0 : Arv Z h0 t kt .byte (3 : Int32) [(.int y0), (.int y1), (.int y2)] (.int 0)) :
  own_CP l Z M89 jdk_52_method_15_code 2 (some .byte) ws R_codl_3 #[(.ref t), (.int 3)] h0 (Q_codl_3 Z G1 G3 t kt y0 y1 y2 h0 n0) := by
 refine own_P (plainFor_of_name pn_42) ?_
 intro p e s m below meth c s₁ S0 Bd hZ hh hx hby hml hown hnm X0 e0 hS0d
 obtain ⟨O1, P1, O3f, rG3⟩ := id HG
 have N0 := Fr.nil n0
 have C0 : Steps p.tables e below S0 (s₁.setTop (mkF m 0 #[VR t, VI 3] [])) := by rw [hS0d]; exact castTop (ef_90 m t (3 : Int32)) (Steps.refl _)
 obtain ⟨c_1, A_2, q_3, S_4, M_5, H_6, U_7⟩ := id hp0
 have C_8 : Steps p.tables e below S0 (s₁.setTop (mkF m 8 #[VR t, VI 3] [(.int 0)])) := by
  refine C0.trans ?_
  refine XS.iloadN X0.here hx rfl (hb hby d4_0) rfl ?_
  refine XS.aloadN X0.here hx rfl (hb hby d4_1) rfl rfl ?_
  refine X0.arraylength hx (by rw [e0]; exact A_2.1) (State.isArrayOf_alike hZ.alike A_2.2.1) (g := (mkF m 2 #[VR t, VI 3] [(.ref t), (.int 3)])) rfl rfl (hb hby d4_2) _ ?_
  rw [len_of S_4 M_5]
  refine XS.isub X0.here hx rfl (hb hby d4_3) rfl ?_
  refine XS.bipush X0.here hx rfl (hb hby d4_4) ?_
  refine XS.iushr X0.here hx rfl (hb hby d4_6) rfl ?_
  refine XS.i2b X0.here hx rfl (hb hby d4_7) rfl ?_
  exact Steps.refl _
 obtain ⟨fs, hr, hrun, hended, hW, hsame⟩ := X0.leave (v := some (.int 0)) (fun h => by rw [Bd.returns] at h; cases h)
 refine ⟨_, _, C_8.trans (retN X0 hx (t := .byte) Bd.returns (by simp) (hb hby d4_8) hr), hrun, hended, _, _, rfl, ?_, ⟨_, rfl⟩, hW, hsame.mono (by decide) (by decide)⟩
 show Q_codl_3 Z G1 G3 t kt y0 y1 y2 h0 n0 (some (.int 0)) s₁.heap _
 rw [e0]
 exact ⟨rfl, N0, rfl⟩
abbrev R_si4_3 : Room := { frames := 2, cells := 1, slots := 3, locals := 35 }
def Q_si4_3 (Z : State) (G1 : Int32) (G3 : Value) (x : Addr) (b : Addr) (k : ClassId) (c0 : Int32) (c1 : Int32) (c2 : Int32) (h0 : Heap) (n0 : Nat) (v : Option Value) (h : Heap) (L : List Loc) : Prop := (∃ t : Addr, ∃ kt : ClassId, v = none ∧ Fr n0 L ∧ Keep h0 h [x] ∧ (Exa Z h x "java/lang/String") ∧ (Fld Z h x "java/lang/String" "coder" "B" (.int 0)) ∧ (Fld Z h x "java/lang/String" "value" "[B" (.ref t)) ∧ (h0.size ≤ t) ∧ (Arv Z h t kt .byte (3 : Int32) [(.int (own_lo8 c0)), (.int (own_lo8 c1)), (.int (own_lo8 c2))] (.int 0)))
theorem rm_si4_3 (l : Launch) (Z : State) (a0 : Array Value) (hw : HW Z a0) (ws : List Jvm.Cond) (G1 : Int32) (G3 : Value) (HG : own_G l Z a0 G1 G3) (h0 : Heap) (n0 : Nat) (X00 : Old Z n0 h0) (x : Addr) (b : Addr) (k : ClassId) (c0 : Int32) (c1 : Int32) (c2 : Int32) (hp0 : Exa Z h0 x "java/lang/String") (hp1 : Fld Z h0 x "java/lang/String" "value" "[B" .null) (hp2 : Fld Z h0 x "java/lang/String" "coder" "B" (.int 0)) (hp3 : n0 ≤ x) (hp4 : Arv Z h0 b k .char (3 : Int32) [(.int c0), (.int c1), (.int c2)] (.int 0)) (hh0 : ¬ ((255 : Int32) < c0)) (hh1 : ¬ ((255 : Int32) < c1)) (hh2 : ¬ ((255 : Int32) < c2)) :
  own_CP l Z M0 jdk_42_method_149_code 6 none ws R_si4_3 #[(.ref x), (.ref b), (.int 0), (.int 3), .null] h0 (Q_si4_3 Z G1 G3 x b k c0 c1 c2 h0 n0) := by
 refine own_P (plainFor_of_name pn_2) ?_
 intro p e s m below meth c s₁ S0 Bd hZ hh hx hby hml hown hnm X0 e0 hS0d
 obtain ⟨O1, P1, O3f, rG3⟩ := id HG
 have N0 := Fr.nil n0
 have C0 : Steps p.tables e below S0 (s₁.setTop (mkF m 0 #[VR x, VR b, VI 0, VI 3, .val .null, .unset] [])) := by rw [hS0d]; exact castTop (ef_1 m x b (0 : Int32) (3 : Int32)) (Steps.refl _)
 obtain ⟨T_1, X_2, e_3, st_4⟩ := initO X0 hx hZ hown (w19 hw) (w20 hw) (w21 hw) e0 (g := (mkF m 1 #[VR x, VR b, VI 0, VI 3, .val .null, .unset] [(.ref x)])) rfl (by rw [hml]; rfl) rfl (hb hby d0_1) (by decide) (W := 0) (by show 2 * 0 + _ ≤ _; exact Nat.le_of_eq rfl) (by decide)
 obtain ⟨T_5, X_6, e_7, st_8⟩ := getS X_2 hx hZ (host := "") hown (w67 hw) Via.refl e_3 (O1.ext X00.2) (g := (mkF m 27 #[VR x, VR b, VI 0, VI 3, .val .null, .unset] [])) rfl (hb hby d0_27)
 obtain ⟨_, _, ⟨T_9, L_9, k_9, n_9⟩, -, X_9, ⟨Lc_9, hQ_9, l_9, y_9, z_9⟩, st_9⟩ := Jvm.LawKit.callS X_6 hx (y := M66) hown (mvT hZ (w108 hw)) (mvT hZ (w109 hw)) (mvT hZ (w110 hw)) (mvT hZ (w111 hw)) (by decide) (backOf (W := 0) (rm_cmp3_3 l Z a0 hw [] G1 G3 HG h0 n0 X00 b k c0 c1 c2 hp4 hh0 hh1 hh2) hZ (w111 hw) (w110 hw) (by decide) (by decide)) (g := (mkF m 36 #[VR x, VR b, VI 0, VI 3, .val .null, .unset] [(.int 3), (.int 0), (.ref b)])) rfl (by rw [hml]; rfl) (argsL := [(.ref b), (.int 0), (.int 3)]) (rest := []) (lenOf pd_106 rfl) rfl (by show 2 * 0 + _ ≤ _; exact Nat.le_of_eq rfl) (hb hby d0_36) (fun _ _ => ⟨rfl, e_7, (by decide : 0 + 1 ≤ _), (by decide : 0 + 3 ≤ _)⟩)
 dsimp only [Pt.U, Pt.locs, Pt.cells, Pt.slots] at X_9 l_9 y_9 z_9 st_9 hQ_9
 subst l_9 y_9 z_9
 obtain ⟨a_10, k_11, rfl, N_12, K_13, g_14, g_15⟩ := hQ_9
 have N_16 := Fr.app N0 N_12
 have O_17 : Old Z n0 T_9.heap := (X00.keep K_13 all0)
 obtain ⟨_, _, ⟨T_18, L_18, k_18, n_18⟩, -, X_18, ⟨Lc_18, hQ_18, l_18, y_18, z_18⟩, st_18⟩ := Jvm.LawKit.callS X_9 hx (y := M89) hown (mvT hZ (w115 hw)) (mvT hZ (w116 hw)) (mvT hZ (w110 hw)) (mvT hZ (w117 hw)) (by decide) (backOf (W := 1) (rm_codl_3 l Z a0 hw [] G1 G3 HG T_9.heap n0 O_17 a_10 k_11 (own_lo8 c0) (own_lo8 c1) (own_lo8 c2) g_15) hZ (w117 hw) (w110 hw) (by decide) (by decide)) (g := (mkF m 45 #[VR x, VR b, VI 0, VI 3, .val .null, VR a_10] [(.int 3), (.ref a_10), (.ref x)])) rfl (by rw [hml]; rfl) (argsL := [(.ref a_10), (.int 3)]) (rest := [(.ref x)]) (lenOf pd_115 rfl) rfl (by show 2 * 0 + _ ≤ _; exact Nat.le_of_eq rfl) (hb hby d0_45) (fun _ _ => ⟨rfl, rfl, (by decide : 1 + 0 ≤ _), (by decide : 3 + 0 ≤ _)⟩)
 dsimp only [Pt.U, Pt.locs, Pt.cells, Pt.slots] at X_18 l_18 y_18 z_18 st_18 hQ_18
 subst l_18 y_18 z_18
 obtain ⟨rfl, N_19, e_20⟩ := hQ_18
 have N_21 := Fr.app N_16 N_19
 have e_22 : T_18.heap = T_9.heap := e_20
 have F_23 : Fld Z T_9.heap x "java/lang/String" "coder" "B" (.int 0) := (hp2.keep K_13 nin0)
 have E_24 : Exa Z T_9.heap x "java/lang/String" := (hp0.keep K_13)
 obtain ⟨T_25, h_26, X_27, e_28, W_29, st_30⟩ := putF X_18 hx hZ hown (host := "") (Or.inl (w29 hw)) Via.refl e_22 F_23 E_24 (Or.inr ⟨(w25 hw), rfl, hnm⟩) (w9 hw) (ty := .byte) (by decide) rfl (by decide) (g := (mkF m 48 #[VR x, VR b, VI 0, VI 3, .val .null, VR a_10] [(.int 0), (.ref x)])) rfl rfl (hb hby d0_48)
 have N_31 := Fr.snoc X_27 N_21 hp3
 have F_32 : Fld Z h_26 x "java/lang/String" "coder" "B" (.int 0) := F_23.same W_29
 have F_33 : Fld Z h_26 x "java/lang/String" "value" "[B" .null := ((hp1.keep K_13 nin0).other W_29 (Or.inr (slot_ne (Or.inr (w24 hw)) (Or.inr (w25 hw)) (by decide) (t := (.array .byte)) (by decide) (t' := .byte) (by decide))))
 have E_34 : Exa Z h_26 x "java/lang/String" := (E_24.wr W_29)
 obtain ⟨T_35, h_36, X_37, e_38, W_39, st_40⟩ := putF X_27 hx hZ hown (host := "") (Or.inl (w28 hw)) Via.refl e_28 F_33 E_34 (Or.inr ⟨(w24 hw), rfl, hnm⟩) (w9 hw) (ty := (.array .byte)) (by decide) rfl rfl (g := (mkF m 54 #[VR x, VR b, VI 0, VI 3, .val .null, VR a_10] [(.ref a_10), (.ref x)])) rfl rfl (hb hby d0_54)
 have N_41 := Fr.snoc X_37 N_31 hp3
 have F_42 : Fld Z h_36 x "java/lang/String" "value" "[B" (.ref a_10) := F_33.same W_39
 have C_43 : Steps p.tables e below S0 (T_35.setTop (mkF m 57 #[VR x, VR b, VI 0, VI 3, .val .null, VR a_10] [])) := by
  refine C0.trans ?_
  refine XS.aloadN X0.here hx rfl (hb hby d0_0) rfl rfl ?_
  refine st_4 _ ?_
  refine XS.iloadN X_2.here hx rfl (hb hby d0_4) rfl ?_
  refine XS.ifYes X_2.here hx rfl (pc0 := 5) (pc' := 27) rfl (hb hby d0_5) rfl (by decide) (by decide) (by decide) ?_
  refine st_8 _ ?_
  refine XS.ifNo X_6.here hx rfl (hb hby d0_30) rfl (i0_eq_f P1) ?_
  refine XS.aloadN X_6.here hx rfl (hb hby d0_33) rfl rfl ?_
  refine XS.iloadN X_6.here hx rfl (hb hby d0_34) rfl ?_
  refine XS.iloadN X_6.here hx rfl (hb hby d0_35) rfl ?_
  refine st_9 _ ?_
  refine XS.astore X_9.here hx rfl (hb hby d0_39) rfl rfl (l' := #[VR x, VR b, VI 0, VI 3, .val .null, VR a_10]) rfl ?_
  refine XS.aloadN X_9.here hx rfl (hb hby d0_41) rfl rfl ?_
  refine XS.aload X_9.here hx rfl (hb hby d0_42) rfl rfl ?_
  refine XS.iloadN X_9.here hx rfl (hb hby d0_44) rfl ?_
  refine st_18 _ ?_
  refine st_30 _ ?_
  show Steps p.tables e below (T_25.setTop (mkF m 51 #[VR x, VR b, VI 0, VI 3, .val .null, VR a_10] [])) _
  refine XS.aloadN X_27.here hx rfl (hb hby d0_51) rfl rfl ?_
  refine XS.aload X_27.here hx rfl (hb hby d0_52) rfl rfl ?_
  refine st_40 _ ?_
  exact Steps.refl _
 have E_44 : Exa Z h_36 x "java/lang/String" := (E_34.wr W_39)
 have F_45 : Fld Z h_36 x "java/lang/String" "coder" "B" (.int 0) := (F_32.other W_39 (Or.inr (slot_ne (Or.inr (w25 hw)) (Or.inr (w24 hw)) (by decide) (t := .byte) (by decide) (t' := (.array .byte)) (by decide))))
 have V_46 : Arv Z h_36 a_10 k_11 .byte (3 : Int32) [(.int (own_lo8 c0)), (.int (own_lo8 c1)), (.int (own_lo8 c2))] (.int 0) := ((g_15.other W_29 (Ne.symm (Nat.ne_of_lt (Nat.lt_of_lt_of_le hp0.lt (Nat.le_trans (Nat.le_refl _) g_14))))).other W_39 (Ne.symm (Nat.ne_of_lt (Nat.lt_of_lt_of_le hp0.lt (Nat.le_trans (Nat.le_refl _) g_14)))))
 have K_47 : Keep h0 h_36 [x] := ((((Keep.refl _ _).trans K_13 all0).wr W_29 (Or.inl (List.mem_of_getElem? (i := 0) rfl))).wr W_39 (Or.inl (List.mem_of_getElem? (i := 0) rfl)))
 obtain ⟨fs, hr, hrun, hended, hW, hsame⟩ := X_37.leave (v := none) (fun _ => rfl)
 refine ⟨_, _, C_43.trans (X_37.returnOut hx Bd.returns (hb hby d0_57) hr), hrun, hended, _, _, rfl, ?_, ⟨_, rfl⟩, hW, hsame.mono (by decide) (by decide)⟩
 show Q_si4_3 Z G1 G3 x b k c0 c1 c2 h0 n0 (none) T_35.heap _
 rw [e_38]
 exact ⟨a_10, k_11, rfl, N_41, K_47, E_44, F_45, F_42, (Nat.le_trans (Nat.le_refl _) g_14), V_46⟩
abbrev R_si1_3 : Room := { frames := 3, cells := 1, slots := 3, locals := 52 }
def Q_si1_3 (Z : State) (G1 : Int32) (G3 : Value) (x : Addr) (b : Addr) (k : ClassId) (c0 : Int32) (c1 : Int32) (c2 : Int32) (h0 : Heap) (n0 : Nat) (v : Option Value) (h : Heap) (L : List Loc) : Prop := (∃ t : Addr, ∃ kt : ClassId, v = none ∧ Fr n0 L ∧ Keep h0 h [x] ∧ (Exa Z h x "java/lang/String") ∧ (Fld Z h x "java/lang/String" "coder" "B" (.int 0)) ∧ (Fld Z h x "java/lang/String" "value" "[B" (.ref t)) ∧ (h0.size ≤ t) ∧ (Arv Z h t kt .byte (3 : Int32) [(.int (own_lo8 c0)), (.int (own_lo8 c1)), (.int (own_lo8 c2))] (.int 0)))
theorem rm_si1_3 (l : Launch) (Z : State) (a0 : Array Value) (hw : HW Z a0) (ws : List Jvm.Cond) (G1 : Int32) (G3 : Value) (HG : own_G l Z a0 G1 G3) (h0 : Heap) (n0 : Nat) (X00 : Old Z n0 h0) (x : Addr) (b : Addr) (k : ClassId) (c0 : Int32) (c1 : Int32) (c2 : Int32) (hp0 : Exa Z h0 x "java/lang/String") (hp1 : Fld Z h0 x "java/lang/String" "value" "[B" .null) (hp2 : Fld Z h0 x "java/lang/String" "coder" "B" (.int 0)) (hp3 : n0 ≤ x) (hp4 : Arv Z h0 b k .char (3 : Int32) [(.int c0), (.int c1), (.int c2)] (.int 0)) (hh0 : ¬ ((255 : Int32) < c0)) (hh1 : ¬ ((255 : Int32) < c1)) (hh2 : ¬ ((255 : Int32) < c2)) :
  own_CP l Z M25 jdk_42_method_3_code 2 none ws R_si1_3 #[(.ref x), (.ref b)] h0 (Q_si1_3 Z G1 G3 x b k c0 c1 c2 h0 n0) := by
 refine own_P (plainFor_of_name pn_2) ?_
 intro p e s m below meth c s₁ S0 Bd hZ hh hx hby hml hown hnm X0 e0 hS0d
 obtain ⟨O1, P1, O3f, rG3⟩ := id HG
 have N0 := Fr.nil n0
 have C0 : Steps p.tables e below S0 (s₁.setTop (mkF m 0 #[VR x, VR b] [])) := by rw [hS0d]; exact castTop (ef_26 m x b) (Steps.refl _)
 obtain ⟨c_1, A_2, q_3, S_4, M_5, H_6, U_7⟩ := id hp4
 obtain ⟨_, _, ⟨T_8, L_8, k_8, n_8⟩, -, X_8, ⟨Lc_8, hQ_8, l_8, y_8, z_8⟩, st_8⟩ := X0.specialBack hx (y := M0) rfl hown (mvT hZ (w15 hw)) (mvT hZ (w16 hw)) (mvT hZ (w18 hw)) (by decide) (backOf (W := 0) (rm_si4_3 l Z a0 hw [] G1 G3 HG h0 n0 X00 x b k c0 c1 c2 hp0 hp1 hp2 hp3 hp4 hh0 hh1 hh2) hZ (w18 hw) (w10 hw) (by decide) (by decide)) (g := (mkF m 6 #[VR x, VR b] [.null, (.int 3), (.int 0), (.ref b), (.ref x)])) rfl (by rw [hml]; rfl) (Steps.refl _) (a := x) (argsL := [(.ref b), (.int 0), (.int 3), .null]) (rest := []) (lenOf pd_35 rfl) rfl (by show 2 * 0 + _ ≤ _; exact Nat.le_of_eq rfl) (hb hby d1_6) (fun _ _ => ⟨rfl, e0, (by decide : 0 + 1 ≤ _), (by decide : 0 + 3 ≤ _)⟩)
 dsimp only [Pt.U, Pt.locs, Pt.cells, Pt.slots] at X_8 l_8 y_8 z_8 st_8 hQ_8
 subst l_8 y_8 z_8
 obtain ⟨a_9, k_10, rfl, N_11, K_12, g_13, g_14, g_15, g_16, g_17⟩ := hQ_8
 have N_18 := Fr.app N0 N_11
 have C_19 : Steps p.tables e below S0 (T_8.setTop (mkF m 9 #[VR x, VR b] [])) := by
  refine C0.trans ?_
  refine XS.aloadN X0.here hx rfl (hb hby d1_0) rfl rfl ?_
  refine XS.aloadN X0.here hx rfl (hb hby d1_1) rfl rfl ?_
  refine XS.iconst X0.here hx rfl (hb hby d1_2) ?_
  refine XS.aloadN X0.here hx rfl (hb hby d1_3) rfl rfl ?_
  refine X0.arraylength hx (by rw [e0]; exact A_2.1) (State.isArrayOf_alike hZ.alike A_2.2.1) (g := (mkF m 4 #[VR x, VR b] [(.ref b), (.int 0), (.ref b), (.ref x)])) rfl rfl (hb hby d1_4) _ ?_
  rw [len_of S_4 M_5]
  refine XS.aconstNull X0.here hx rfl (hb hby d1_5) ?_
  refine st_8.trans ?_
  exact Steps.refl _
 have K_20 : Keep h0 T_8.heap [x] := ((Keep.refl _ _).trans K_12 (allS (Or.inl (List.mem_of_getElem? (i := 0) rfl)) all0))
 obtain ⟨fs, hr, hrun, hended, hW, hsame⟩ := X_8.leave (v := none) (fun _ => rfl)
 refine ⟨_, _, C_19.trans (X_8.returnOut hx Bd.returns (hb hby d1_9) hr), hrun, hended, _, _, rfl, ?_, ⟨_, rfl⟩, hW, hsame.mono (by decide) (by decide)⟩
 show Q_si1_3 Z G1 G3 x b k c0 c1 c2 h0 n0 (none) T_8.heap _
 exact ⟨a_9, k_10, rfl, N_18, K_20, g_13, g_14, g_15, (Nat.le_trans (Nat.le_refl _) g_16), g_17⟩
abbrev R_cmp5_4 : Room := { frames := 0, cells := 0, slots := 0, locals := 0 }
def Q_cmp5_4 (Z : State) (G1 : Int32) (G3 : Value) (b : Addr) (k : ClassId) (t : Addr) (kt : ClassId) (c0 : Int32) (c1 : Int32) (c2 : Int32) (c3 : Int32) (h0 : Heap) (n0 : Nat) (v : Option Value) (h : Heap) (L : List Loc) : Prop := (v = some (.int 4) ∧ Fr n0 L ∧ Keep h0 h [t] ∧ (Arv Z h t kt .byte (4 : Int32) [(.int (own_lo8 c0)), (.int (own_lo8 c1)), (.int (own_lo8 c2)), (.int (own_lo8 c3))] (.int 0)))
theorem rm_cmp5_4 (l : Launch) (Z : State) (a0 : Array Value) (hw : HW Z a0) (ws : List Jvm.Cond) (G1 : Int32) (G3 : Value) (HG : own_G l Z a0 G1 G3) (h0 : Heap) (n0 : Nat) (X00 : Old Z n0 h0) (b : Addr) (k : ClassId) (t : Addr) (kt : ClassId) (c0 : Int32) (c1 : Int32) (c2 : Int32) (c3 : Int32) (hp0 : Arv Z h0 b k .char (4 : Int32) [(.int c0), (.int c1), (.int c2), (.int c3)] (.int 0)) (hp1 : Arv Z h0 t kt .byte (4 : Int32) [(.int 0), (.int 0), (.int 0), (.int 0)] (.int 0)) (hp2 : n0 ≤ t) (hp3 : b ≠ t) (hh0 : ¬ ((255 : Int32) < c0)) (hh1 : ¬ ((255 : Int32) < c1)) (hh2 : ¬ ((255 : Int32) < c2)) (hh3 : ¬ ((255 : Int32) < c3)) :
  own_CP l Z M40 jdk_52_method_21_code 7 (some .int) ws R_cmp5_4 #[(.ref b), (.int 0), (.ref t), (.int 0), (.int 4)] h0 (Q_cmp5_4 Z G1 G3 b k t kt c0 c1 c2 c3 h0 n0) := by
 refine own_P (plainFor_of_name pn_42) ?_
 intro p e s m below meth c s₁ S0 Bd hZ hh hx hby hml hown hnm X0 e0 hS0d
 obtain ⟨O1, P1, O3f, rG3⟩ := id HG
 have N0 := Fr.nil n0
 have C0 : Steps p.tables e below S0 (s₁.setTop (mkF m 0 #[VR b, VI 0, VR t, VI 0, VI 4, .unset, .unset] [])) := by rw [hS0d]; exact castTop (ef_41 m b (0 : Int32) t (0 : Int32) (4 : Int32)) (Steps.refl _)
 obtain ⟨c_1, A_2, q_3, S_4, M_5, H_6, U_7⟩ := id hp0
 have hin_8 : ¬ ((0 : Int32) < 0 ∨ c_1.slots.size ≤ (0 : Int32).toNatClampNeg) := inb_of S_4 ⟨(by decide : ¬ ((0 : Int32) < (0 : Int32))), (by decide : (0 : Int32) < (4 : Int32))⟩
 have hat_9 : c_1.slots[(0 : Int32).toNatClampNeg]? = some (.int c0) := Has.at H_6 hin_8 rfl
 obtain ⟨c_10, A_11, q_12, S_13, M_14, H_15, U_16⟩ := id hp1
 have hin_23 : ¬ ((0 : Int32) < 0 ∨ c_10.slots.size ≤ (0 : Int32).toNatClampNeg) := inb_of S_13 ⟨(by decide : ¬ ((0 : Int32) < (0 : Int32))), (by decide : (0 : Int32) < (4 : Int32))⟩
 obtain ⟨T_17, h_18, X_19, e_20, W_21, st_22⟩ := stB X0 hx hZ e0 A_11 (j := (0 : Int32)) hin_23 (g := (mkF m 31 #[VR b, VI 0, VR t, VI 0, VI 4, VI 0, VI c0] [(.int (c0.toInt8.toInt32)), (.int 0), (.ref t)])) rfl rfl (hb hby d2_31)
 have N_24 := Fr.snoc X_19 N0 hp2
 have V_25 : Arv Z h_18 t kt .byte (4 : Int32) [(.int (own_lo8 c0)), (.int 0), (.int 0), (.int 0)] (.int 0) := Arv.set A_11 q_12 S_13 M_14 H_15 U_16 (fits_nar_byte _) W_21 0 rfl (Nat.le_of_ble_eq_true rfl)
 have V_26 : Arv Z h_18 b k .char (4 : Int32) [(.int c0), (.int c1), (.int c2), (.int c3)] (.int 0) := (hp0.other W_21 hp3)
 obtain ⟨c_27, A_28, q_29, S_30, M_31, H_32, U_33⟩ := id V_26
 have hin_34 : ¬ ((1 : Int32) < 0 ∨ c_27.slots.size ≤ (1 : Int32).toNatClampNeg) := inb_of S_30 ⟨(by decide : ¬ ((1 : Int32) < (0 : Int32))), (by decide : (1 : Int32) < (4 : Int32))⟩
 have hat_35 : c_27.slots[(1 : Int32).toNatClampNeg]? = some (.int c1) := Has.at H_32 hin_34 rfl
 obtain ⟨c_36, A_37, q_38, S_39, M_40, H_41, U_42⟩ := id V_25
 have hin_49 : ¬ ((1 : Int32) < 0 ∨ c_36.slots.size ≤ (1 : Int32).toNatClampNeg) := inb_of S_39 ⟨(by decide : ¬ ((1 : Int32) < (0 : Int32))), (by decide : (1 : Int32) < (4 : Int32))⟩
 obtain ⟨T_43, h_44, X_45, e_46, W_47, st_48⟩ := stB X_19 hx hZ e_20 A_37 (j := (1 : Int32)) hin_49 (g := (mkF m 31 #[VR b, VI 1, VR t, VI 1, VI 4, VI 1, VI c1] [(.int (c1.toInt8.toInt32)), (.int 1), (.ref t)])) rfl rfl (hb hby d2_31)
 have N_50 := Fr.snoc X_45 N_24 hp2
 have V_51 : Arv Z h_44 t kt .byte (4 : Int32) [(.int (own_lo8 c0)), (.int (own_lo8 c1)), (.int 0), (.int 0)] (.int 0) := Arv.set A_37 q_38 S_39 M_40 H_41 U_42 (fits_nar_byte _) W_47 1 rfl (Nat.le_of_ble_eq_true rfl)
 have V_52 : Arv Z h_44 b k .char (4 : Int32) [(.int c0), (.int c1), (.int c2), (.int c3)] (.int 0) := (V_26.other W_47 hp3)
 obtain ⟨c_53, A_54, q_55, S_56, M_57, H_58, U_59⟩ := id V_52
 have hin_60 : ¬ ((2 : Int32) < 0 ∨ c_53.slots.size ≤ (2 : Int32).toNatClampNeg) := inb_of S_56 ⟨(by decide : ¬ ((2 : Int32) < (0 : Int32))), (by decide : (2 : Int32) < (4 : Int32))⟩
 have hat_61 : c_53.slots[(2 : Int32).toNatClampNeg]? = some (.int c2) := Has.at H_58 hin_60 rfl
 obtain ⟨c_62, A_63, q_64, S_65, M_66, H_67, U_68⟩ := id V_51
 have hin_75 : ¬ ((2 : Int32) < 0 ∨ c_62.slots.size ≤ (2 : Int32).toNatClampNeg) := inb_of S_65 ⟨(by decide : ¬ ((2 : Int32) < (0 : Int32))), (by decide : (2 : Int32) < (4 : Int32))⟩
 obtain ⟨T_69, h_70, X_71, e_72, W_73, st_74⟩ := stB X_45 hx hZ e_46 A_63 (j := (2 : Int32)) hin_75 (g := (mkF m 31 #[VR b, VI 2, VR t, VI 2, VI 4, VI 2, VI c2] [(.int (c2.toInt8.toInt32)), (.int 2), (.ref t)])) rfl rfl (hb hby d2_31)
 have N_76 := Fr.snoc X_71 N_50 hp2
 have V_77 : Arv Z h_70 t kt .byte (4 : Int32) [(.int (own_lo8 c0)), (.int (own_lo8 c1)), (.int (own_lo8 c2)), (.int 0)] (.int 0) := Arv.set A_63 q_64 S_65 M_66 H_67 U_68 (fits_nar_byte _) W_73 2 rfl (Nat.le_of_ble_eq_true rfl)
 have V_78 : Arv Z h_70 b k .char (4 : Int32) [(.int c0), (.int c1), (.int c2), (.int c3)] (.int 0) := (V_52.other W_73 hp3)
 obtain ⟨c_79, A_80, q_81, S_82, M_83, H_84, U_85⟩ := id V_78
 have hin_86 : ¬ ((3 : Int32) < 0 ∨ c_79.slots.size ≤ (3 : Int32).toNatClampNeg) := inb_of S_82 ⟨(by decide : ¬ ((3 : Int32) < (0 : Int32))), (by decide : (3 : Int32) < (4 : Int32))⟩
 have hat_87 : c_79.slots[(3 : Int32).toNatClampNeg]? = some (.int c3) := Has.at H_84 hin_86 rfl
 obtain ⟨c_88, A_89, q_90, S_91, M_92, H_93, U_94⟩ := id V_77
 have hin_101 : ¬ ((3 : Int32) < 0 ∨ c_88.slots.size ≤ (3 : Int32).toNatClampNeg) := inb_of S_91 ⟨(by decide : ¬ ((3 : Int32) < (0 : Int32))), (by decide : (3 : Int32) < (4 : Int32))⟩
 obtain ⟨T_95, h_96, X_97, e_98, W_99, st_100⟩ := stB X_71 hx hZ e_72 A_89 (j := (3 : Int32)) hin_101 (g := (mkF m 31 #[VR b, VI 3, VR t, VI 3, VI 4, VI 3, VI c3] [(.int (c3.toInt8.toInt32)), (.int 3), (.ref t)])) rfl rfl (hb hby d2_31)
 have N_102 := Fr.snoc X_97 N_76 hp2
 have V_103 : Arv Z h_96 t kt .byte (4 : Int32) [(.int (own_lo8 c0)), (.int (own_lo8 c1)), (.int (own_lo8 c2)), (.int (own_lo8 c3))] (.int 0) := Arv.set A_89 q_90 S_91 M_92 H_93 U_94 (fits_nar_byte _) W_99 3 rfl (Nat.le_of_ble_eq_true rfl)
 have C_104 : Steps p.tables e below S0 (T_95.setTop (mkF m 46 #[VR b, VI 4, VR t, VI 4, VI 4, VI 4, VI c3] [(.int 4)])) := by
  refine C0.trans ?_
  refine XS.iconst X0.here hx rfl (hb hby d2_0) ?_
  refine XS.istore X0.here hx rfl (hb hby d2_1) rfl (l' := #[VR b, VI 0, VR t, VI 0, VI 4, VI 0, .unset]) rfl ?_
  refine XS.iload X0.here hx rfl (hb hby d2_3) rfl ?_
  refine XS.iload X0.here hx rfl (hb hby d2_5) rfl ?_
  refine XS.icmpNo X0.here hx rfl (hb hby d2_7) rfl (by decide) ?_
  refine XS.aloadN X0.here hx rfl (hb hby d2_10) rfl rfl ?_
  refine XS.iloadN X0.here hx rfl (hb hby d2_11) rfl ?_
  refine X0.caload hx (j := (0 : Int32)) (v := (.int c0)) (by rw [e0]; exact A_2.1) (State.isArrayOf_alike hZ.alike A_2.2.1) A_2.2.2 hin_8 hat_9 (g := (mkF m 12 #[VR b, VI 0, VR t, VI 0, VI 4, VI 0, .unset] [(.int 0), (.ref b)])) rfl rfl (hb hby d2_12) _ ?_
  refine XS.istore X0.here hx rfl (hb hby d2_13) rfl (l' := #[VR b, VI 0, VR t, VI 0, VI 4, VI 0, VI c0]) rfl ?_
  refine XS.iload X0.here hx rfl (hb hby d2_15) rfl ?_
  refine XS.sipush X0.here hx rfl (hb hby d2_17) ?_
  refine XS.icmpYes X0.here hx rfl (pc0 := 20) (pc' := 26) rfl (hb hby d2_20) rfl (ii_le_t hh0) (by decide) (by decide) ?_
  refine XS.aloadN X0.here hx rfl (hb hby d2_26) rfl rfl ?_
  refine XS.iloadN X0.here hx rfl (hb hby d2_27) rfl ?_
  refine XS.iload X0.here hx rfl (hb hby d2_28) rfl ?_
  refine XS.i2b X0.here hx rfl (hb hby d2_30) rfl ?_
  show Steps p.tables e below (s₁.setTop (mkF m 31 #[VR b, VI 0, VR t, VI 0, VI 4, VI 0, VI c0] [(.int (c0.toInt8.toInt32)), (.int 0), (.ref t)])) _
  refine st_22 _ ?_
  refine XS.iinc X_19.here hx rfl (hb hby d2_32) (x := (0 : Int32)) rfl (l' := #[VR b, VI 1, VR t, VI 0, VI 4, VI 0, VI c0]) rfl ?_
  refine XS.iinc X_19.here hx rfl (hb hby d2_35) (x := (0 : Int32)) rfl (l' := #[VR b, VI 1, VR t, VI 1, VI 4, VI 0, VI c0]) rfl ?_
  refine XS.iinc X_19.here hx rfl (hb hby d2_38) (x := (0 : Int32)) rfl (l' := #[VR b, VI 1, VR t, VI 1, VI 4, VI 1, VI c0]) rfl ?_
  refine XS.goto X_19.here hx rfl (pc0 := 41) (pc' := 3) rfl (hb hby d2_41) (by decide) (by decide) ?_
  refine XS.iload X_19.here hx rfl (hb hby d2_3) rfl ?_
  refine XS.iload X_19.here hx rfl (hb hby d2_5) rfl ?_
  refine XS.icmpNo X_19.here hx rfl (hb hby d2_7) rfl (by decide) ?_
  refine XS.aloadN X_19.here hx rfl (hb hby d2_10) rfl rfl ?_
  refine XS.iloadN X_19.here hx rfl (hb hby d2_11) rfl ?_
  refine X_19.caload hx (j := (1 : Int32)) (v := (.int c1)) (by rw [e_20]; exact A_28.1) (State.isArrayOf_alike hZ.alike A_28.2.1) A_28.2.2 hin_34 hat_35 (g := (mkF m 12 #[VR b, VI 1, VR t, VI 1, VI 4, VI 1, VI c0] [(.int 1), (.ref b)])) rfl rfl (hb hby d2_12) _ ?_
  refine XS.istore X_19.here hx rfl (hb hby d2_13) rfl (l' := #[VR b, VI 1, VR t, VI 1, VI 4, VI 1, VI c1]) rfl ?_
  refine XS.iload X_19.here hx rfl (hb hby d2_15) rfl ?_
  refine XS.sipush X_19.here hx rfl (hb hby d2_17) ?_
  refine XS.icmpYes X_19.here hx rfl (pc0 := 20) (pc' := 26) rfl (hb hby d2_20) rfl (ii_le_t hh1) (by decide) (by decide) ?_
  refine XS.aloadN X_19.here hx rfl (hb hby d2_26) rfl rfl ?_
  show Steps p.tables e below (T_17.setTop (mkF m 27 #[VR b, VI 1, VR t, VI 1, VI 4, VI 1, VI c1] [(.ref t)])) _
  refine XS.iloadN X_19.here hx rfl (hb hby d2_27) rfl ?_
  refine XS.iload X_19.here hx rfl (hb hby d2_28) rfl ?_
  refine XS.i2b X_19.here hx rfl (hb hby d2_30) rfl ?_
  refine st_48 _ ?_
  refine XS.iinc X_45.here hx rfl (hb hby d2_32) (x := (1 : Int32)) rfl (l' := #[VR b, VI 2, VR t, VI 1, VI 4, VI 1, VI c1]) rfl ?_
  refine XS.iinc X_45.here hx rfl (hb hby d2_35) (x := (1 : Int32)) rfl (l' := #[VR b, VI 2, VR t, VI 2, VI 4, VI 1, VI c1]) rfl ?_
  refine XS.iinc X_45.here hx rfl (hb hby d2_38) (x := (1 : Int32)) rfl (l' := #[VR b, VI 2, VR t, VI 2, VI 4, VI 2, VI c1]) rfl ?_
  refine XS.goto X_45.here hx rfl (pc0 := 41) (pc' := 3) rfl (hb hby d2_41) (by decide) (by decide) ?_
  refine XS.iload X_45.here hx rfl (hb hby d2_3) rfl ?_
  refine XS.iload X_45.here hx rfl (hb hby d2_5) rfl ?_
  refine XS.icmpNo X_45.here hx rfl (hb hby d2_7) rfl (by decide) ?_
  refine XS.aloadN X_45.here hx rfl (hb hby d2_10) rfl rfl ?_
  refine XS.iloadN X_45.here hx rfl (hb hby d2_11) rfl ?_
  refine X_45.caload hx (j := (2 : Int32)) (v := (.int c2)) (by rw [e_46]; exact A_54.1) (State.isArrayOf_alike hZ.alike A_54.2.1) A_54.2.2 hin_60 hat_61 (g := (mkF m 12 #[VR b, VI 2, VR t, VI 2, VI 4, VI 2, VI c1] [(.int 2), (.ref b)])) rfl rfl (hb hby d2_12) _ ?_
  refine XS.istore X_45.here hx rfl (hb hby d2_13) rfl (l' := #[VR b, VI 2, VR t, VI 2, VI 4, VI 2, VI c2]) rfl ?_
  refine XS.iload X_45.here hx rfl (hb hby d2_15) rfl ?_
  show Steps p.tables e below (T_43.setTop (mkF m 17 #[VR b, VI 2, VR t, VI 2, VI 4, VI 2, VI c2] [(.int c2)])) _
  refine XS.sipush X_45.here hx rfl (hb hby d2_17) ?_
  refine XS.icmpYes X_45.here hx rfl (pc0 := 20) (pc' := 26) rfl (hb hby d2_20) rfl (ii_le_t hh2) (by decide) (by decide) ?_
  refine XS.aloadN X_45.here hx rfl (hb hby d2_26) rfl rfl ?_
  refine XS.iloadN X_45.here hx rfl (hb hby d2_27) rfl ?_
  refine XS.iload X_45.here hx rfl (hb hby d2_28) rfl ?_
  refine XS.i2b X_45.here hx rfl (hb hby d2_30) rfl ?_
  refine st_74 _ ?_
  refine XS.iinc X_71.here hx rfl (hb hby d2_32) (x := (2 : Int32)) rfl (l' := #[VR b, VI 3, VR t, VI 2, VI 4, VI 2, VI c2]) rfl ?_
  refine XS.iinc X_71.here hx rfl (hb hby d2_35) (x := (2 : Int32)) rfl (l' := #[VR b, VI 3, VR t, VI 3, VI 4, VI 2, VI c2]) rfl ?_
  refine XS.iinc X_71.here hx rfl (hb hby d2_38) (x := (2 : Int32)) rfl (l' := #[VR b, VI 3, VR t, VI 3, VI 4, VI 3, VI c2]) rfl ?_
  refine XS.goto X_71.here hx rfl (pc0 := 41) (pc' := 3) rfl (hb hby d2_41) (by decide) (by decide) ?_
  refine XS.iload X_71.here hx rfl (hb hby d2_3) rfl ?_
  refine XS.iload X_71.here hx rfl (hb hby d2_5) rfl ?_
  refine XS.icmpNo X_71.here hx rfl (hb hby d2_7) rfl (by decide) ?_
  refine XS.aloadN X_71.here hx rfl (hb hby d2_10) rfl rfl ?_
  refine XS.iloadN X_71.here hx rfl (hb hby d2_11) rfl ?_
  show Steps p.tables e below (T_69.setTop (mkF m 12 #[VR b, VI 3, VR t, VI 3, VI 4, VI 3, VI c2] [(.int 3), (.ref b)])) _
  refine X_71.caload hx (j := (3 : Int32)) (v := (.int c3)) (by rw [e_72]; exact A_80.1) (State.isArrayOf_alike hZ.alike A_80.2.1) A_80.2.2 hin_86 hat_87 (g := (mkF m 12 #[VR b, VI 3, VR t, VI 3, VI 4, VI 3, VI c2] [(.int 3), (.ref b)])) rfl rfl (hb hby d2_12) _ ?_
  refine XS.istore X_71.here hx rfl (hb hby d2_13) rfl (l' := #[VR b, VI 3, VR t, VI 3, VI 4, VI 3, VI c3]) rfl ?_
  refine XS.iload X_71.here hx rfl (hb hby d2_15) rfl ?_
  refine XS.sipush X_71.here hx rfl (hb hby d2_17) ?_
  refine XS.icmpYes X_71.here hx rfl (pc0 := 20) (pc' := 26) rfl (hb hby d2_20) rfl (ii_le_t hh3) (by decide) (by decide) ?_
  refine XS.aloadN X_71.here hx rfl (hb hby d2_26) rfl rfl ?_
  refine XS.iloadN X_71.here hx rfl (hb hby d2_27) rfl ?_
  refine XS.iload X_71.here hx rfl (hb hby d2_28) rfl ?_
  refine XS.i2b X_71.here hx rfl (hb hby d2_30) rfl ?_
  refine st_100 _ ?_
  refine XS.iinc X_97.here hx rfl (hb hby d2_32) (x := (3 : Int32)) rfl (l' := #[VR b, VI 4, VR t, VI 3, VI 4, VI 3, VI c3]) rfl ?_
  refine XS.iinc X_97.here hx rfl (hb hby d2_35) (x := (3 : Int32)) rfl (l' := #[VR b, VI 4, VR t, VI 4, VI 4, VI 3, VI c3]) rfl ?_
  refine XS.iinc X_97.here hx rfl (hb hby d2_38) (x := (3 : Int32)) rfl (l' := #[VR b, VI 4, VR t, VI 4, VI 4, VI 4, VI c3]) rfl ?_
  refine XS.goto X_97.here hx rfl (pc0 := 41) (pc' := 3) rfl (hb hby d2_41) (by decide) (by decide) ?_
  refine XS.iload X_97.here hx rfl (hb hby d2_3) rfl ?_
  refine XS.iload X_97.here hx rfl (hb hby d2_5) rfl ?_
  show Steps p.tables e below (T_95.setTop (mkF m 7 #[VR b, VI 4, VR t, VI 4, VI 4, VI 4, VI c3] [(.int 4), (.int 4)])) _
  refine XS.icmpYes X_97.here hx rfl (pc0 := 7) (pc' := 44) rfl (hb hby d2_7) rfl (by decide) (by decide) (by decide) ?_
  refine XS.iload X_97.here hx rfl (hb hby d2_44) rfl ?_
  exact Steps.refl _
 have K_105 : Keep h0 h_96 [t] := (((((Keep.refl _ _).wr W_21 (Or.inl (List.mem_of_getElem? (i := 0) rfl))).wr W_47 (Or.inl (List.mem_of_getElem? (i := 0) rfl))).wr W_73 (Or.inl (List.mem_of_getElem? (i := 0) rfl))).wr W_99 (Or.inl (List.mem_of_getElem? (i := 0) rfl)))
 obtain ⟨fs, hr, hrun, hended, hW, hsame⟩ := X_97.leave (v := some (.int 4)) (fun h => by rw [Bd.returns] at h; cases h)
 refine ⟨_, _, C_104.trans (retOut X_97 hx Bd.returns rfl (Or.inl ⟨rfl, Or.inl rfl, _, rfl⟩) (hb hby d2_46) hr), hrun, hended, _, _, rfl, ?_, ⟨_, rfl⟩, hW, hsame.mono (by decide) (by decide)⟩
 show Q_cmp5_4 Z G1 G3 b k t kt c0 c1 c2 c3 h0 n0 (some (.int 4)) T_95.heap _
 rw [e_98]
 exact ⟨rfl, N_102, K_105, V_103⟩
abbrev R_cmp3_4 : Room := { frames := 1, cells := 1, slots := 4, locals := 18 }
def Q_cmp3_4 (Z : State) (G1 : Int32) (G3 : Value) (b : Addr) (k : ClassId) (c0 : Int32) (c1 : Int32) (c2 : Int32) (c3 : Int32) (h0 : Heap) (n0 : Nat) (v : Option Value) (h : Heap) (L : List Loc) : Prop := (∃ t : Addr, ∃ kt : ClassId, v = some (.ref t) ∧ Fr n0 L ∧ Keep h0 h [] ∧ (h0.size ≤ t) ∧ (Arv Z h t kt .byte (4 : Int32) [(.int (own_lo8 c0)), (.int (own_lo8 c1)), (.int (own_lo8 c2)), (.int (own_lo8 c3))] (.int 0)))
theorem rm_cmp3_4 (l : Launch) (Z : State) (a0 : Array Value) (hw : HW Z a0) (ws : List Jvm.Cond) (G1 : Int32) (G3 : Value) (HG : own_G l Z a0 G1 G3) (h0 : Heap) (n0 : Nat) (X00 : Old Z n0 h0) (b : Addr) (k : ClassId) (c0 : Int32) (c1 : Int32) (c2 : Int32) (c3 : Int32) (hp0 : Arv Z h0 b k .char (4 : Int32) [(.int c0), (.int c1), (.int c2), (.int c3)] (.int 0)) (hh0 : ¬ ((255 : Int32) < c0)) (hh1 : ¬ ((255 : Int32) < c1)) (hh2 : ¬ ((255 : Int32) < c2)) (hh3 : ¬ ((255 : Int32) < c3)) :
  own_CP l Z M66 jdk_52_method_16_code 6 (some (.array .byte)) ws R_cmp3_4 #[(.ref b), (.int 0), (.int 4)] h0 (Q_cmp3_4 Z G1 G3 b k c0 c1 c2 c3 h0 n0) := by
 refine own_P (plainFor_of_name pn_42) ?_
 intro p e s m below meth c s₁ S0 Bd hZ hh hx hby hml hown hnm X0 e0 hS0d
 obtain ⟨O1, P1, O3f, rG3⟩ := id HG
 have N0 := Fr.nil n0
 have C0 : Steps p.tables e below S0 (s₁.setTop (mkF m 0 #[VR b, VI 0, VI 4, .unset, .unset, .unset] [])) := by rw [hS0d]; exact castTop (ef_67 m b (0 : Int32) (4 : Int32)) (Steps.refl _)
 obtain ⟨T_1, h_2, k_3, X_4, e_5, E_6, A_7, st_8⟩ := newP (aty := .byte) X0 hx hZ (w23 hw) e0 (g := (mkF m 1 #[VR b, VI 0, VI 4, .unset, .unset, .unset] [(.int 4)])) rfl (hb hby d3_1) rfl (by decide : ¬ ((4 : Int32) < (0 : Int32))) (cap := 4) (by decide : (4 : Int32).toNatClampNeg ≤ 4) (by decide) (by decide) (by decide)
 obtain ⟨a_9, g_10⟩ : ∃ z, z = h0.size := ⟨_, rfl⟩
 rw [← g_10] at A_7 st_8
 have V_12 : Arv Z h_2 a_9 k_3 .byte (4 : Int32) [] (.int 0) := Arv.new A_7 (by decide : ¬ ((4 : Int32) < (0 : Int32)))
 have V_11 : Arv Z h_2 a_9 k_3 .byte (4 : Int32) [(.int 0), (.int 0), (.int 0), (.int 0)] (.int 0) := (V_12.pad (pad_rep [] (.int 0) 4))
 have V_13 : Arv Z h_2 b k .char (4 : Int32) [(.int c0), (.int c1), (.int c2), (.int c3)] (.int 0) := (hp0.ext E_6)
 have O_14 : Old Z n0 h_2 := (X00.ext E_6)
 obtain ⟨_, _, ⟨T_15, L_15, k_15, n_15⟩, -, X_15, ⟨Lc_15, hQ_15, l_15, y_15, z_15⟩, st_15⟩ := Jvm.LawKit.callS X_4 hx (y := M40) hown (mvT hZ (w112 hw)) (mvT hZ (w113 hw)) (mvT hZ (w110 hw)) (mvT hZ (w114 hw)) (by decide) (backOf (W := 0) (rm_cmp5_4 l Z a0 hw [] G1 G3 HG h_2 n0 O_14 b k a_9 k_3 c0 c1 c2 c3 V_13 V_11 (Nat.le_trans (own_n0 X00) (Nat.le_of_eq g_10.symm)) (Nat.ne_of_lt (Nat.lt_of_lt_of_le hp0.lt (Nat.le_trans (Nat.le_refl _) (Nat.le_of_eq g_10.symm)))) hh0 hh1 hh2 hh3) hZ (w114 hw) (w110 hw) (by decide) (by decide)) (g := (mkF m 9 #[VR b, VI 0, VI 4, VR a_9, .unset, .unset] [(.int 4), (.int 0), (.ref a_9), (.int 0), (.ref b)])) rfl (by rw [hml]; rfl) (argsL := [(.ref b), (.int 0), (.ref a_9), (.int 0), (.int 4)]) (rest := []) (lenOf pd_79 rfl) rfl (by show 2 * 0 + _ ≤ _; exact Nat.le_of_eq rfl) (hb hby d3_9) (fun _ _ => ⟨rfl, e_5, (by decide : 1 + 0 ≤ _), (by decide : 4 + 0 ≤ _)⟩)
 dsimp only [Pt.U, Pt.locs, Pt.cells, Pt.slots] at X_15 l_15 y_15 z_15 st_15 hQ_15
 subst l_15 y_15 z_15
 obtain ⟨rfl, N_16, K_17, g_18⟩ := hQ_15
 have N_19 := Fr.app N0 N_16
 have C_20 : Steps p.tables e below S0 (T_15.setTop (mkF m 58 #[VR b, VI 0, VI 4, VR a_9, VI 4, .unset] [(.ref a_9)])) := by
  refine C0.trans ?_
  refine XS.iloadN X0.here hx rfl (hb hby d3_0) rfl ?_
  refine st_8 _ ?_
  refine XS.astoreN X_4.here hx rfl (hb hby d3_3) rfl rfl (l' := #[VR b, VI 0, VI 4, VR a_9, .unset, .unset]) rfl ?_
  refine XS.aloadN X_4.here hx rfl (hb hby d3_4) rfl rfl ?_
  refine XS.iloadN X_4.here hx rfl (hb hby d3_5) rfl ?_
  refine XS.aloadN X_4.here hx rfl (hb hby d3_6) rfl rfl ?_
  refine XS.iconst X_4.here hx rfl (hb hby d3_7) ?_
  refine XS.iloadN X_4.here hx rfl (hb hby d3_8) rfl ?_
  refine st_15 _ ?_
  refine XS.istore X_15.here hx rfl (hb hby d3_12) rfl (l' := #[VR b, VI 0, VI 4, VR a_9, VI 4, .unset]) rfl ?_
  refine XS.iload X_15.here hx rfl (hb hby d3_14) rfl ?_
  refine XS.iloadN X_15.here hx rfl (hb hby d3_16) rfl ?_
  refine XS.icmpYes X_15.here hx rfl (pc0 := 17) (pc' := 57) rfl (hb hby d3_17) rfl (by decide) (by decide) (by decide) ?_
  refine XS.aloadN X_15.here hx rfl (hb hby d3_57) rfl rfl ?_
  exact Steps.refl _
 have K_21 : Keep h0 T_15.heap [] := (((Keep.refl _ _).ext E_6).trans K_17 (allS (Or.inr (Nat.le_trans (Nat.le_refl _) (Nat.le_of_eq g_10.symm))) all0))
 obtain ⟨fs, hr, hrun, hended, hW, hsame⟩ := X_15.leave (v := some (.ref a_9)) (fun h => by rw [Bd.returns] at h; cases h)
 refine ⟨_, _, C_20.trans (retOut X_15 hx Bd.returns rfl (Or.inr (Or.inr (Or.inr (Or.inr ⟨rfl, rfl, rfl⟩)))) (hb hby d3_58) hr), hrun, hended, _, _, rfl, ?_, ⟨_, rfl⟩, hW, hsame.mono (by decide) (by decide)⟩
 show Q_cmp3_4 Z G1 G3 b k c0 c1 c2 c3 h0 n0 (some (.ref a_9)) T_15.heap _
 exact ⟨a_9, k_3, rfl, N_19, K_21, (Nat.le_trans (Nat.le_refl _) (Nat.le_of_eq g_10.symm)), g_18⟩
abbrev R_codl_4 : Room := { frames := 0, cells := 0, slots := 0, locals := 0 }
def Q_codl_4 (Z : State) (G1 : Int32) (G3 : Value) (t : Addr) (kt : ClassId) (y0 : Int32) (y1 : Int32) (y2 : Int32) (y3 : Int32) (h0 : Heap) (n0 : Nat) (v : Option Value) (h : Heap) (L : List Loc) : Prop := (v = some (.int 0) ∧ Fr n0 L ∧ h = h0)
theorem rm_codl_4 (l : Launch) (Z : State) (a0 : Array Value) (hw : HW Z a0) (ws : List Jvm.Cond) (G1 : Int32) (G3 : Value) (HG : own_G l Z a0 G1 G3) (h0 : Heap) (n0 : Nat) (X00 : Old Z n0 h0) (t : Addr) (kt : ClassId) (y0 : Int32) (y1 : Int32) (y2 : Int32) (y3 : Int32) (hp0 : Arv Z h0 t kt .byte (4 : Int32) [(.int y0), (.int y1), (.int y2), (.int y3)] (.int 0)) :
  own_CP l Z M89 jdk_52_method_15_code 2 (some .byte) ws R_codl_4 #[(.ref t), (.int 4)] h0 (Q_codl_4 Z G1 G3 t kt y0 y1 y2 y3 h0 n0) := by
 refine own_P (plainFor_of_name pn_42) ?_
 intro p e s m below meth c s₁ S0 Bd hZ hh hx hby hml hown hnm X0 e0 hS0d
 obtain ⟨O1, P1, O3f, rG3⟩ := id HG
 have N0 := Fr.nil n0
 have C0 : Steps p.tables e below S0 (s₁.setTop (mkF m 0 #[VR t, VI 4] [])) := by rw [hS0d]; exact castTop (ef_90 m t (4 : Int32)) (Steps.refl _)
 obtain ⟨c_1, A_2, q_3, S_4, M_5, H_6, U_7⟩ := id hp0
 have C_8 : Steps p.tables e below S0 (s₁.setTop (mkF m 8 #[VR t, VI 4] [(.int 0)])) := by
  refine C0.trans ?_
  refine XS.iloadN X0.here hx rfl (hb hby d4_0) rfl ?_
  refine XS.aloadN X0.here hx rfl (hb hby d4_1) rfl rfl ?_
  refine X0.arraylength hx (by rw [e0]; exact A_2.1) (State.isArrayOf_alike hZ.alike A_2.2.1) (g := (mkF m 2 #[VR t, VI 4] [(.ref t), (.int 4)])) rfl rfl (hb hby d4_2) _ ?_
  rw [len_of S_4 M_5]
  refine XS.isub X0.here hx rfl (hb hby d4_3) rfl ?_
  refine XS.bipush X0.here hx rfl (hb hby d4_4) ?_
  refine XS.iushr X0.here hx rfl (hb hby d4_6) rfl ?_
  refine XS.i2b X0.here hx rfl (hb hby d4_7) rfl ?_
  exact Steps.refl _
 obtain ⟨fs, hr, hrun, hended, hW, hsame⟩ := X0.leave (v := some (.int 0)) (fun h => by rw [Bd.returns] at h; cases h)
 refine ⟨_, _, C_8.trans (retN X0 hx (t := .byte) Bd.returns (by simp) (hb hby d4_8) hr), hrun, hended, _, _, rfl, ?_, ⟨_, rfl⟩, hW, hsame.mono (by decide) (by decide)⟩
 show Q_codl_4 Z G1 G3 t kt y0 y1 y2 y3 h0 n0 (some (.int 0)) s₁.heap _
 rw [e0]
 exact ⟨rfl, N0, rfl⟩
abbrev R_si4_4 : Room := { frames := 2, cells := 1, slots := 4, locals := 35 }
def Q_si4_4 (Z : State) (G1 : Int32) (G3 : Value) (x : Addr) (b : Addr) (k : ClassId) (c0 : Int32) (c1 : Int32) (c2 : Int32) (c3 : Int32) (h0 : Heap) (n0 : Nat) (v : Option Value) (h : Heap) (L : List Loc) : Prop := (∃ t : Addr, ∃ kt : ClassId, v = none ∧ Fr n0 L ∧ Keep h0 h [x] ∧ (Exa Z h x "java/lang/String") ∧ (Fld Z h x "java/lang/String" "coder" "B" (.int 0)) ∧ (Fld Z h x "java/lang/String" "value" "[B" (.ref t)) ∧ (h0.size ≤ t) ∧ (Arv Z h t kt .byte (4 : Int32) [(.int (own_lo8 c0)), (.int (own_lo8 c1)), (.int (own_lo8 c2)), (.int (own_lo8 c3))] (.int 0)))
theorem rm_si4_4 (l : Launch) (Z : State) (a0 : Array Value) (hw : HW Z a0) (ws : List Jvm.Cond) (G1 : Int32) (G3 : Value) (HG : own_G l Z a0 G1 G3) (h0 : Heap) (n0 : Nat) (X00 : Old Z n0 h0) (x : Addr) (b : Addr) (k : ClassId) (c0 : Int32) (c1 : Int32) (c2 : Int32) (c3 : Int32) (hp0 : Exa Z h0 x "java/lang/String") (hp1 : Fld Z h0 x "java/lang/String" "value" "[B" .null) (hp2 : Fld Z h0 x "java/lang/String" "coder" "B" (.int 0)) (hp3 : n0 ≤ x) (hp4 : Arv Z h0 b k .char (4 : Int32) [(.int c0), (.int c1), (.int c2), (.int c3)] (.int 0)) (hh0 : ¬ ((255 : Int32) < c0)) (hh1 : ¬ ((255 : Int32) < c1)) (hh2 : ¬ ((255 : Int32) < c2)) (hh3 : ¬ ((255 : Int32) < c3)) :
  own_CP l Z M0 jdk_42_method_149_code 6 none ws R_si4_4 #[(.ref x), (.ref b), (.int 0), (.int 4), .null] h0 (Q_si4_4 Z G1 G3 x b k c0 c1 c2 c3 h0 n0) := by
 refine own_P (plainFor_of_name pn_2) ?_
 intro p e s m below meth c s₁ S0 Bd hZ hh hx hby hml hown hnm X0 e0 hS0d
 obtain ⟨O1, P1, O3f, rG3⟩ := id HG
 have N0 := Fr.nil n0
 have C0 : Steps p.tables e below S0 (s₁.setTop (mkF m 0 #[VR x, VR b, VI 0, VI 4, .val .null, .unset] [])) := by rw [hS0d]; exact castTop (ef_1 m x b (0 : Int32) (4 : Int32)) (Steps.refl _)
 obtain ⟨T_1, X_2, e_3, st_4⟩ := initO X0 hx hZ hown (w19 hw) (w20 hw) (w21 hw) e0 (g := (mkF m 1 #[VR x, VR b, VI 0, VI 4, .val .null, .unset] [(.ref x)])) rfl (by rw [hml]; rfl) rfl (hb hby d0_1) (by decide) (W := 0) (by show 2 * 0 + _ ≤ _; exact Nat.le_of_eq rfl) (by decide)
 obtain ⟨T_5, X_6, e_7, st_8⟩ := getS X_2 hx hZ (host := "") hown (w67 hw) Via.refl e_3 (O1.ext X00.2) (g := (mkF m 27 #[VR x, VR b, VI 0, VI 4, .val .null, .unset] [])) rfl (hb hby d0_27)
 obtain ⟨_, _, ⟨T_9, L_9, k_9, n_9⟩, -, X_9, ⟨Lc_9, hQ_9, l_9, y_9, z_9⟩, st_9⟩ := Jvm.LawKit.callS X_6 hx (y := M66) hown (mvT hZ (w108 hw)) (mvT hZ (w109 hw)) (mvT hZ (w110 hw)) (mvT hZ (w111 hw)) (by decide) (backOf (W := 0) (rm_cmp3_4 l Z a0 hw [] G1 G3 HG h0 n0 X00 b k c0 c1 c2 c3 hp4 hh0 hh1 hh2 hh3) hZ (w111 hw) (w110 hw) (by decide) (by decide)) (g := (mkF m 36 #[VR x, VR b, VI 0, VI 4, .val .null, .unset] [(.int 4), (.int 0), (.ref b)])) rfl (by rw [hml]; rfl) (argsL := [(.ref b), (.int 0), (.int 4)]) (rest := []) (lenOf pd_106 rfl) rfl (by show 2 * 0 + _ ≤ _; exact Nat.le_of_eq rfl) (hb hby d0_36) (fun _ _ => ⟨rfl, e_7, (by decide : 0 + 1 ≤ _), (by decide : 0 + 4 ≤ _)⟩)
 dsimp only [Pt.U, Pt.locs, Pt.cells, Pt.slots] at X_9 l_9 y_9 z_9 st_9 hQ_9
 subst l_9 y_9 z_9
 obtain ⟨a_10, k_11, rfl, N_12, K_13, g_14, g_15⟩ := hQ_9
 have N_16 := Fr.app N0 N_12
 have O_17 : Old Z n0 T_9.heap := (X00.keep K_13 all0)
 obtain ⟨_, _, ⟨T_18, L_18, k_18, n_18⟩, -, X_18, ⟨Lc_18, hQ_18, l_18, y_18, z_18⟩, st_18⟩ := Jvm.LawKit.callS X_9 hx (y := M89) hown (mvT hZ (w115 hw)) (mvT hZ (w116 hw)) (mvT hZ (w110 hw)) (mvT hZ (w117 hw)) (by decide) (backOf (W := 1) (rm_codl_4 l Z a0 hw [] G1 G3 HG T_9.heap n0 O_17 a_10 k_11 (own_lo8 c0) (own_lo8 c1) (own_lo8 c2) (own_lo8 c3) g_15) hZ (w117 hw) (w110 hw) (by decide) (by decide)) (g := (mkF m 45 #[VR x, VR b, VI 0, VI 4, .val .null, VR a_10] [(.int 4), (.ref a_10), (.ref x)])) rfl (by rw [hml]; rfl) (argsL := [(.ref a_10), (.int 4)]) (rest := [(.ref x)]) (lenOf pd_115 rfl) rfl (by show 2 * 0 + _ ≤ _; exact Nat.le_of_eq rfl) (hb hby d0_45) (fun _ _ => ⟨rfl, rfl, (by decide : 1 + 0 ≤ _), (by decide : 4 + 0 ≤ _)⟩)
 dsimp only [Pt.U, Pt.locs, Pt.cells, Pt.slots] at X_18 l_18 y_18 z_18 st_18 hQ_18
 subst l_18 y_18 z_18
 obtain ⟨rfl, N_19, e_20⟩ := hQ_18
 have N_21 := Fr.app N_16 N_19
 have e_22 : T_18.heap = T_9.heap := e_20
 have F_23 : Fld Z T_9.heap x "java/lang/String" "coder" "B" (.int 0) := (hp2.keep K_13 nin0)
 have E_24 : Exa Z T_9.heap x "java/lang/String" := (hp0.keep K_13)
 obtain ⟨T_25, h_26, X_27, e_28, W_29, st_30⟩ := putF X_18 hx hZ hown (host := "") (Or.inl (w29 hw)) Via.refl e_22 F_23 E_24 (Or.inr ⟨(w25 hw), rfl, hnm⟩) (w9 hw) (ty := .byte) (by decide) rfl (by decide) (g := (mkF m 48 #[VR x, VR b, VI 0, VI 4, .val .null, VR a_10] [(.int 0), (.ref x)])) rfl rfl (hb hby d0_48)
 have N_31 := Fr.snoc X_27 N_21 hp3
 have F_32 : Fld Z h_26 x "java/lang/String" "coder" "B" (.int 0) := F_23.same W_29
 have F_33 : Fld Z h_26 x "java/lang/String" "value" "[B" .null := ((hp1.keep K_13 nin0).other W_29 (Or.inr (slot_ne (Or.inr (w24 hw)) (Or.inr (w25 hw)) (by decide) (t := (.array .byte)) (by decide) (t' := .byte) (by decide))))
 have E_34 : Exa Z h_26 x "java/lang/String" := (E_24.wr W_29)
 obtain ⟨T_35, h_36, X_37, e_38, W_39, st_40⟩ := putF X_27 hx hZ hown (host := "") (Or.inl (w28 hw)) Via.refl e_28 F_33 E_34 (Or.inr ⟨(w24 hw), rfl, hnm⟩) (w9 hw) (ty := (.array .byte)) (by decide) rfl rfl (g := (mkF m 54 #[VR x, VR b, VI 0, VI 4, .val .null, VR a_10] [(.ref a_10), (.ref x)])) rfl rfl (hb hby d0_54)
 have N_41 := Fr.snoc X_37 N_31 hp3
 have F_42 : Fld Z h_36 x "java/lang/String" "value" "[B" (.ref a_10) := F_33.same W_39
 have C_43 : Steps p.tables e below S0 (T_35.setTop (mkF m 57 #[VR x, VR b, VI 0, VI 4, .val .null, VR a_10] [])) := by
  refine C0.trans ?_
  refine XS.aloadN X0.here hx rfl (hb hby d0_0) rfl rfl ?_
  refine st_4 _ ?_
  refine XS.iloadN X_2.here hx rfl (hb hby d0_4) rfl ?_
  refine XS.ifYes X_2.here hx rfl (pc0 := 5) (pc' := 27) rfl (hb hby d0_5) rfl (by decide) (by decide) (by decide) ?_
  refine st_8 _ ?_
  refine XS.ifNo X_6.here hx rfl (hb hby d0_30) rfl (i0_eq_f P1) ?_
  refine XS.aloadN X_6.here hx rfl (hb hby d0_33) rfl rfl ?_
  refine XS.iloadN X_6.here hx rfl (hb hby d0_34) rfl ?_
  refine XS.iloadN X_6.here hx rfl (hb hby d0_35) rfl ?_
  refine st_9 _ ?_
  refine XS.astore X_9.here hx rfl (hb hby d0_39) rfl rfl (l' := #[VR x, VR b, VI 0, VI 4, .val .null, VR a_10]) rfl ?_
  refine XS.aloadN X_9.here hx rfl (hb hby d0_41) rfl rfl ?_
  refine XS.aload X_9.here hx rfl (hb hby d0_42) rfl rfl ?_
  refine XS.iloadN X_9.here hx rfl (hb hby d0_44) rfl ?_
  refine st_18 _ ?_
  refine st_30 _ ?_
  show Steps p.tables e below (T_25.setTop (mkF m 51 #[VR x, VR b, VI 0, VI 4, .val .null, VR a_10] [])) _
  refine XS.aloadN X_27.here hx rfl (hb hby d0_51) rfl rfl ?_
  refine XS.aload X_27.here hx rfl (hb hby d0_52) rfl rfl ?_
  refine st_40 _ ?_
  exact Steps.refl _
 have E_44 : Exa Z h_36 x "java/lang/String" := (E_34.wr W_39)
 have F_45 : Fld Z h_36 x "java/lang/String" "coder" "B" (.int 0) := (F_32.other W_39 (Or.inr (slot_ne (Or.inr (w25 hw)) (Or.inr (w24 hw)) (by decide) (t := .byte) (by decide) (t' := (.array .byte)) (by decide))))
 have V_46 : Arv Z h_36 a_10 k_11 .byte (4 : Int32) [(.int (own_lo8 c0)), (.int (own_lo8 c1)), (.int (own_lo8 c2)), (.int (own_lo8 c3))] (.int 0) := ((g_15.other W_29 (Ne.symm (Nat.ne_of_lt (Nat.lt_of_lt_of_le hp0.lt (Nat.le_trans (Nat.le_refl _) g_14))))).other W_39 (Ne.symm (Nat.ne_of_lt (Nat.lt_of_lt_of_le hp0.lt (Nat.le_trans (Nat.le_refl _) g_14)))))
 have K_47 : Keep h0 h_36 [x] := ((((Keep.refl _ _).trans K_13 all0).wr W_29 (Or.inl (List.mem_of_getElem? (i := 0) rfl))).wr W_39 (Or.inl (List.mem_of_getElem? (i := 0) rfl)))
 obtain ⟨fs, hr, hrun, hended, hW, hsame⟩ := X_37.leave (v := none) (fun _ => rfl)
 refine ⟨_, _, C_43.trans (X_37.returnOut hx Bd.returns (hb hby d0_57) hr), hrun, hended, _, _, rfl, ?_, ⟨_, rfl⟩, hW, hsame.mono (by decide) (by decide)⟩
 show Q_si4_4 Z G1 G3 x b k c0 c1 c2 c3 h0 n0 (none) T_35.heap _
 rw [e_38]
 exact ⟨a_10, k_11, rfl, N_41, K_47, E_44, F_45, F_42, (Nat.le_trans (Nat.le_refl _) g_14), V_46⟩
abbrev R_si1_4 : Room := { frames := 3, cells := 1, slots := 4, locals := 52 }
def Q_si1_4 (Z : State) (G1 : Int32) (G3 : Value) (x : Addr) (b : Addr) (k : ClassId) (c0 : Int32) (c1 : Int32) (c2 : Int32) (c3 : Int32) (h0 : Heap) (n0 : Nat) (v : Option Value) (h : Heap) (L : List Loc) : Prop := (∃ t : Addr, ∃ kt : ClassId, v = none ∧ Fr n0 L ∧ Keep h0 h [x] ∧ (Exa Z h x "java/lang/String") ∧ (Fld Z h x "java/lang/String" "coder" "B" (.int 0)) ∧ (Fld Z h x "java/lang/String" "value" "[B" (.ref t)) ∧ (h0.size ≤ t) ∧ (Arv Z h t kt .byte (4 : Int32) [(.int (own_lo8 c0)), (.int (own_lo8 c1)), (.int (own_lo8 c2)), (.int (own_lo8 c3))] (.int 0)))
theorem rm_si1_4 (l : Launch) (Z : State) (a0 : Array Value) (hw : HW Z a0) (ws : List Jvm.Cond) (G1 : Int32) (G3 : Value) (HG : own_G l Z a0 G1 G3) (h0 : Heap) (n0 : Nat) (X00 : Old Z n0 h0) (x : Addr) (b : Addr) (k : ClassId) (c0 : Int32) (c1 : Int32) (c2 : Int32) (c3 : Int32) (hp0 : Exa Z h0 x "java/lang/String") (hp1 : Fld Z h0 x "java/lang/String" "value" "[B" .null) (hp2 : Fld Z h0 x "java/lang/String" "coder" "B" (.int 0)) (hp3 : n0 ≤ x) (hp4 : Arv Z h0 b k .char (4 : Int32) [(.int c0), (.int c1), (.int c2), (.int c3)] (.int 0)) (hh0 : ¬ ((255 : Int32) < c0)) (hh1 : ¬ ((255 : Int32) < c1)) (hh2 : ¬ ((255 : Int32) < c2)) (hh3 : ¬ ((255 : Int32) < c3)) :
  own_CP l Z M25 jdk_42_method_3_code 2 none ws R_si1_4 #[(.ref x), (.ref b)] h0 (Q_si1_4 Z G1 G3 x b k c0 c1 c2 c3 h0 n0) := by
 refine own_P (plainFor_of_name pn_2) ?_
 intro p e s m below meth c s₁ S0 Bd hZ hh hx hby hml hown hnm X0 e0 hS0d
 obtain ⟨O1, P1, O3f, rG3⟩ := id HG
 have N0 := Fr.nil n0
 have C0 : Steps p.tables e below S0 (s₁.setTop (mkF m 0 #[VR x, VR b] [])) := by rw [hS0d]; exact castTop (ef_26 m x b) (Steps.refl _)
 obtain ⟨c_1, A_2, q_3, S_4, M_5, H_6, U_7⟩ := id hp4
 obtain ⟨_, _, ⟨T_8, L_8, k_8, n_8⟩, -, X_8, ⟨Lc_8, hQ_8, l_8, y_8, z_8⟩, st_8⟩ := X0.specialBack hx (y := M0) rfl hown (mvT hZ (w15 hw)) (mvT hZ (w16 hw)) (mvT hZ (w18 hw)) (by decide) (backOf (W := 0) (rm_si4_4 l Z a0 hw [] G1 G3 HG h0 n0 X00 x b k c0 c1 c2 c3 hp0 hp1 hp2 hp3 hp4 hh0 hh1 hh2 hh3) hZ (w18 hw) (w10 hw) (by decide) (by decide)) (g := (mkF m 6 #[VR x, VR b] [.null, (.int 4), (.int 0), (.ref b), (.ref x)])) rfl (by rw [hml]; rfl) (Steps.refl _) (a := x) (argsL := [(.ref b), (.int 0), (.int 4), .null]) (rest := []) (lenOf pd_35 rfl) rfl (by show 2 * 0 + _ ≤ _; exact Nat.le_of_eq rfl) (hb hby d1_6) (fun _ _ => ⟨rfl, e0, (by decide : 0 + 1 ≤ _), (by decide : 0 + 4 ≤ _)⟩)
 dsimp only [Pt.U, Pt.locs, Pt.cells, Pt.slots] at X_8 l_8 y_8 z_8 st_8 hQ_8
 subst l_8 y_8 z_8
 obtain ⟨a_9, k_10, rfl, N_11, K_12, g_13, g_14, g_15, g_16, g_17⟩ := hQ_8
 have N_18 := Fr.app N0 N_11
 have C_19 : Steps p.tables e below S0 (T_8.setTop (mkF m 9 #[VR x, VR b] [])) := by
  refine C0.trans ?_
  refine XS.aloadN X0.here hx rfl (hb hby d1_0) rfl rfl ?_
  refine XS.aloadN X0.here hx rfl (hb hby d1_1) rfl rfl ?_
  refine XS.iconst X0.here hx rfl (hb hby d1_2) ?_
  refine XS.aloadN X0.here hx rfl (hb hby d1_3) rfl rfl ?_
  refine X0.arraylength hx (by rw [e0]; exact A_2.1) (State.isArrayOf_alike hZ.alike A_2.2.1) (g := (mkF m 4 #[VR x, VR b] [(.ref b), (.int 0), (.ref b), (.ref x)])) rfl rfl (hb hby d1_4) _ ?_
  rw [len_of S_4 M_5]
  refine XS.aconstNull X0.here hx rfl (hb hby d1_5) ?_
  refine st_8.trans ?_
  exact Steps.refl _
 have K_20 : Keep h0 T_8.heap [x] := ((Keep.refl _ _).trans K_12 (allS (Or.inl (List.mem_of_getElem? (i := 0) rfl)) all0))
 obtain ⟨fs, hr, hrun, hended, hW, hsame⟩ := X_8.leave (v := none) (fun _ => rfl)
 refine ⟨_, _, C_19.trans (X_8.returnOut hx Bd.returns (hb hby d1_9) hr), hrun, hended, _, _, rfl, ?_, ⟨_, rfl⟩, hW, hsame.mono (by decide) (by decide)⟩
 show Q_si1_4 Z G1 G3 x b k c0 c1 c2 c3 h0 n0 (none) T_8.heap _
 exact ⟨a_9, k_10, rfl, N_18, K_20, g_13, g_14, g_15, (Nat.le_trans (Nat.le_refl _) g_16), g_17⟩
abbrev M124 : MethodName := ⟨"java/lang/String", "coder", "()B"⟩
theorem ef_125 (m : MethodId) (x0 : Addr) : entryFrame m #[(.ref x0)] 1 = mkF m 0 #[VR x0] [] := by first | (simp [entryFrame, mkF, argsToLocals, Value.category]; done) | rfl
theorem d5_0 : decode jdk_42_method_152_code 0 = .ok (.getstatic 38, 3) := by decide +kernel
theorem d5_3 : decode jdk_42_method_152_code 3 = .ok (.ifCond .eq 10, 3) := by decide +kernel
theorem d5_6 : decode jdk_42_method_152_code 6 = .ok (.aload_n 0, 1) := by decide +kernel
theorem d5_7 : decode jdk_42_method_152_code 7 = .ok (.getfield 15, 3) := by decide +kernel
theorem d5_10 : decode jdk_42_method_152_code 10 = .ok (.goto 4, 3) := by decide +kernel
theorem d5_14 : decode jdk_42_method_152_code 14 = .ok (.ireturn, 1) := by decide +kernel
abbrev R_coder : Room := { frames := 0, cells := 0, slots := 0, locals := 0 }
def Q_coder (Z : State) (G1 : Int32) (G3 : Value) (x : Addr) (h0 : Heap) (n0 : Nat) (v : Option Value) (h : Heap) (L : List Loc) : Prop := (v = some (.int 0) ∧ Fr n0 L ∧ h = h0)
theorem rm_coder (l : Launch) (Z : State) (a0 : Array Value) (hw : HW Z a0) (ws : List Jvm.Cond) (G1 : Int32) (G3 : Value) (HG : own_G l Z a0 G1 G3) (h0 : Heap) (n0 : Nat) (X00 : Old Z n0 h0) (x : Addr) (hp0 : Fld Z h0 x "java/lang/String" "coder" "B" (.int 0)) :
  own_CP l Z M124 jdk_42_method_152_code 1 (some .byte) ws R_coder #[(.ref x)] h0 (Q_coder Z G1 G3 x h0 n0) := by
 refine own_P (plainFor_of_name pn_2) ?_
 intro p e s m below meth c s₁ S0 Bd hZ hh hx hby hml hown hnm X0 e0 hS0d
 obtain ⟨O1, P1, O3f, rG3⟩ := id HG
 have N0 := Fr.nil n0
 have C0 : Steps p.tables e below S0 (s₁.setTop (mkF m 0 #[VR x] [])) := by rw [hS0d]; exact castTop (ef_125 m x) (Steps.refl _)
 obtain ⟨T_1, X_2, e_3, st_4⟩ := getS X0 hx hZ (host := "") hown (w67 hw) Via.refl e0 (O1.ext X00.2) (g := (mkF m 0 #[VR x] [])) rfl (hb hby d5_0)
 obtain ⟨T_5, X_6, e_7, st_8⟩ := getF X_2 hx hZ hown (host := "") (Or.inl (w29 hw)) Via.refl e_3 hp0 (g := (mkF m 7 #[VR x] [(.ref x)])) rfl rfl (hb hby d5_7)
 have C_9 : Steps p.tables e below S0 (T_5.setTop (mkF m 14 #[VR x] [(.int 0)])) := by
  refine C0.trans ?_
  refine st_4 _ ?_
  refine XS.ifNo X_2.here hx rfl (hb hby d5_3) rfl (i0_eq_f P1) ?_
  refine XS.aloadN X_2.here hx rfl (hb hby d5_6) rfl rfl ?_
  refine st_8 _ ?_
  refine XS.goto X_6.here hx rfl (pc0 := 10) (pc' := 14) rfl (hb hby d5_10) (by decide) (by decide) ?_
  exact Steps.refl _
 obtain ⟨fs, hr, hrun, hended, hW, hsame⟩ := X_6.leave (v := some (.int 0)) (fun h => by rw [Bd.returns] at h; cases h)
 refine ⟨_, _, C_9.trans (retN X_6 hx (t := .byte) Bd.returns (by simp) (hb hby d5_14) hr), hrun, hended, _, _, rfl, ?_, ⟨_, rfl⟩, hW, hsame.mono (by decide) (by decide)⟩
 show Q_coder Z G1 G3 x h0 n0 (some (.int 0)) T_5.heap _
 rw [e_7]
 exact ⟨rfl, N0, rfl⟩
abbrev M132 : MethodName := ⟨"java/lang/String", "isLatin1", "()Z"⟩
theorem d6_0 : decode jdk_42_method_154_code 0 = .ok (.getstatic 38, 3) := by decide +kernel
theorem d6_3 : decode jdk_42_method_154_code 3 = .ok (.ifCond .eq 14, 3) := by decide +kernel
theorem d6_6 : decode jdk_42_method_154_code 6 = .ok (.aload_n 0, 1) := by decide +kernel
theorem d6_7 : decode jdk_42_method_154_code 7 = .ok (.getfield 15, 3) := by decide +kernel
theorem d6_10 : decode jdk_42_method_154_code 10 = .ok (.ifCond .ne 7, 3) := by decide +kernel
theorem d6_13 : decode jdk_42_method_154_code 13 = .ok (.iconst 1, 1) := by decide +kernel
theorem d6_14 : decode jdk_42_method_154_code 14 = .ok (.goto 4, 3) := by decide +kernel
theorem d6_18 : decode jdk_42_method_154_code 18 = .ok (.ireturn, 1) := by decide +kernel
abbrev R_islat : Room := { frames := 0, cells := 0, slots := 0, locals := 0 }
def Q_islat (Z : State) (G1 : Int32) (G3 : Value) (x : Addr) (h0 : Heap) (n0 : Nat) (v : Option Value) (h : Heap) (L : List Loc) : Prop := (v = some (.int 1) ∧ Fr n0 L ∧ h = h0)
theorem rm_islat (l : Launch) (Z : State) (a0 : Array Value) (hw : HW Z a0) (ws : List Jvm.Cond) (G1 : Int32) (G3 : Value) (HG : own_G l Z a0 G1 G3) (h0 : Heap) (n0 : Nat) (X00 : Old Z n0 h0) (x : Addr) (hp0 : Fld Z h0 x "java/lang/String" "coder" "B" (.int 0)) :
  own_CP l Z M132 jdk_42_method_154_code 1 (some .boolean) ws R_islat #[(.ref x)] h0 (Q_islat Z G1 G3 x h0 n0) := by
 refine own_P (plainFor_of_name pn_2) ?_
 intro p e s m below meth c s₁ S0 Bd hZ hh hx hby hml hown hnm X0 e0 hS0d
 obtain ⟨O1, P1, O3f, rG3⟩ := id HG
 have N0 := Fr.nil n0
 have C0 : Steps p.tables e below S0 (s₁.setTop (mkF m 0 #[VR x] [])) := by rw [hS0d]; exact castTop (ef_125 m x) (Steps.refl _)
 obtain ⟨T_1, X_2, e_3, st_4⟩ := getS X0 hx hZ (host := "") hown (w67 hw) Via.refl e0 (O1.ext X00.2) (g := (mkF m 0 #[VR x] [])) rfl (hb hby d6_0)
 obtain ⟨T_5, X_6, e_7, st_8⟩ := getF X_2 hx hZ hown (host := "") (Or.inl (w29 hw)) Via.refl e_3 hp0 (g := (mkF m 7 #[VR x] [(.ref x)])) rfl rfl (hb hby d6_7)
 have C_9 : Steps p.tables e below S0 (T_5.setTop (mkF m 18 #[VR x] [(.int 1)])) := by
  refine C0.trans ?_
  refine st_4 _ ?_
  refine XS.ifNo X_2.here hx rfl (hb hby d6_3) rfl (i0_eq_f P1) ?_
  refine XS.aloadN X_2.here hx rfl (hb hby d6_6) rfl rfl ?_
  refine st_8 _ ?_
  refine XS.ifNo X_6.here hx rfl (hb hby d6_10) rfl (by decide) ?_
  refine XS.iconst X_6.here hx rfl (hb hby d6_13) ?_
  refine XS.goto X_6.here hx rfl (pc0 := 14) (pc' := 18) rfl (hb hby d6_14) (by decide) (by decide) ?_
  exact Steps.refl _
 obtain ⟨fs, hr, hrun, hended, hW, hsame⟩ := X_6.leave (v := some (.int 1)) (fun h => by rw [Bd.returns] at h; cases h)
 refine ⟨_, _, C_9.trans (retN X_6 hx (t := .boolean) Bd.returns (by simp) (hb hby d6_18) hr), hrun, hended, _, _, rfl, ?_, ⟨_, rfl⟩, hW, hsame.mono (by decide) (by decide)⟩
 show Q_islat Z G1 G3 x h0 n0 (some (.int 1)) T_5.heap _
 rw [e_7]
 exact ⟨rfl, N0, rfl⟩
abbrev M141 : MethodName := ⟨"java/lang/String", "length", "()I"⟩
theorem d7_0 : decode jdk_42_method_54_code 0 = .ok (.aload_n 0, 1) := by decide +kernel
theorem d7_1 : decode jdk_42_method_54_code 1 = .ok (.getfield 9, 3) := by decide +kernel
theorem d7_4 : decode jdk_42_method_54_code 4 = .ok (.arraylength, 1) := by decide +kernel
theorem d7_5 : decode jdk_42_method_54_code 5 = .ok (.aload_n 0, 1) := by decide +kernel
theorem w77 {Z a0} (hw : HW Z a0) : Cond.before (Cond.code (⟨"java/lang/String", "coder", "()B"⟩ : MethodName) jdk_42_method_152_code (1 : Nat) (Option.some FieldType.byte)) a0 Z = true := hw _ (List.mem_of_getElem? (i := 77) rfl)
theorem pd_147 : parseMethodDescriptor "()B" = some ⟨[], some .byte⟩ := by decide +kernel
theorem d7_6 : decode jdk_42_method_54_code 6 = .ok (.invokevirtual 335, 3) := by decide +kernel
theorem w73 {Z a0} (hw : HW Z a0) : Cond.before (Cond.methodLink "java/lang/String" (335 : Nat) (⟨"java/lang/String", "coder", "()B"⟩ : MethodName)) a0 Z = true := hw _ (List.mem_of_getElem? (i := 73) rfl)
theorem w76 {Z a0} (hw : HW Z a0) : Cond.before (Cond.selects "java/lang/String" (⟨"java/lang/String", "coder", "()B"⟩ : MethodName) (⟨"java/lang/String", "coder", "()B"⟩ : MethodName)) a0 Z = true := hw _ (List.mem_of_getElem? (i := 76) rfl)
theorem w75 {Z a0} (hw : HW Z a0) : Cond.before (Cond.instanceMethod (⟨"java/lang/String", "coder", "()B"⟩ : MethodName)) a0 Z = true := hw _ (List.mem_of_getElem? (i := 75) rfl)
theorem w74 {Z a0} (hw : HW Z a0) : Cond.before (Cond.declares (⟨"java/lang/String", "coder", "()B"⟩ : MethodName)) a0 Z = true := hw _ (List.mem_of_getElem? (i := 74) rfl)
theorem d7_9 : decode jdk_42_method_54_code 9 = .ok (.ishr, 1) := by decide +kernel
theorem d7_10 : decode jdk_42_method_54_code 10 = .ok (.ireturn, 1) := by decide +kernel
abbrev R_lenany : Room := { frames := 1, cells := 0, slots := 0, locals := 13 }
def Q_lenany (Z : State) (G1 : Int32) (G3 : Value) (x : Addr) (t : Addr) (kt : ClassId) (z : Int32) (bs : List Value) (h0 : Heap) (n0 : Nat) (v : Option Value) (h : Heap) (L : List Loc) : Prop := (v = some (.int (z >>> ((0 : Int32) &&& 31))) ∧ Fr n0 L ∧ h = h0)
theorem rm_lenany (l : Launch) (Z : State) (a0 : Array Value) (hw : HW Z a0) (ws : List Jvm.Cond) (G1 : Int32) (G3 : Value) (HG : own_G l Z a0 G1 G3) (h0 : Heap) (n0 : Nat) (X00 : Old Z n0 h0) (x : Addr) (t : Addr) (kt : ClassId) (z : Int32) (bs : List Value) (hp0 : Exa Z h0 x "java/lang/String") (hp1 : Fld Z h0 x "java/lang/String" "coder" "B" (.int 0)) (hp2 : Fld Z h0 x "java/lang/String" "value" "[B" (.ref t)) (hp3 : Arv Z h0 t kt .byte z bs (.int 0)) :
  own_CP l Z M141 jdk_42_method_54_code 1 (some .int) ws R_lenany #[(.ref x)] h0 (Q_lenany Z G1 G3 x t kt z bs h0 n0) := by
 refine own_P (plainFor_of_name pn_2) ?_
 intro p e s m below meth c s₁ S0 Bd hZ hh hx hby hml hown hnm X0 e0 hS0d
 obtain ⟨O1, P1, O3f, rG3⟩ := id HG
 have N0 := Fr.nil n0
 have C0 : Steps p.tables e below S0 (s₁.setTop (mkF m 0 #[VR x] [])) := by rw [hS0d]; exact castTop (ef_125 m x) (Steps.refl _)
 obtain ⟨T_1, X_2, e_3, st_4⟩ := getF X0 hx hZ hown (host := "") (Or.inl (w28 hw)) Via.refl e0 hp2 (g := (mkF m 1 #[VR x] [(.ref x)])) rfl rfl (hb hby d7_1)
 obtain ⟨c_5, A_6, q_7, S_8, M_9, H_10, U_11⟩ := id hp3
 obtain ⟨q_13, q_14, q_15, q_16, q_17⟩ := isOf (T := T_1) hZ e_3 hp0
 obtain ⟨_, _, ⟨T_12, L_12, k_12, n_12⟩, -, X_12, ⟨Lc_12, hQ_12, l_12, y_12, z_12⟩, st_12⟩ := X_2.virtualBack hx (y := M124) (z := M124) hown (mvT hZ (w73 hw)) (mvT hZ (w74 hw)) (notFace_of_selects (args := #[]) (mvT hZ (w76 hw))) (mvT hZ (w76 hw)) (mvT hZ (w75 hw)) (by decide) (backOf (W := 1) (rm_coder l Z a0 hw [] G1 G3 HG h0 n0 X00 x hp1) hZ (w77 hw) (w10 hw) (by decide) (by decide)) q_15 q_17 (g := (mkF m 6 #[VR x] [(.ref x), (.int z)])) rfl (by rw [hml]; rfl) (Steps.refl _) (argsL := []) (rest := [(.int z)]) (lenOf pd_147 rfl) rfl (by show 2 * 0 + _ ≤ _; exact Nat.le_of_eq rfl) (hb hby d7_6) (fun _ _ => ⟨rfl, e_3, (by decide : 0 + 0 ≤ _), (by decide : 0 + 0 ≤ _)⟩)
 dsimp only [Pt.U, Pt.locs, Pt.cells, Pt.slots] at X_12 l_12 y_12 z_12 st_12 hQ_12
 subst l_12 y_12 z_12
 obtain ⟨rfl, N_18, e_19⟩ := hQ_12
 have N_20 := Fr.app N0 N_18
 have e_21 : T_12.heap = h0 := e_19
 have C_22 : Steps p.tables e below S0 (T_12.setTop (mkF m 10 #[VR x] [(.int (z >>> ((0 : Int32) &&& 31)))])) := by
  refine C0.trans ?_
  refine XS.aloadN X0.here hx rfl (hb hby d7_0) rfl rfl ?_
  refine st_4 _ ?_
  refine X_2.arraylength hx (by rw [e_3]; exact A_6.1) (State.isArrayOf_alike hZ.alike A_6.2.1) (g := (mkF m 4 #[VR x] [(.ref t)])) rfl rfl (hb hby d7_4) _ ?_
  rw [len_of S_8 M_9]
  refine XS.aloadN X_2.here hx rfl (hb hby d7_5) rfl rfl ?_
  refine st_12.trans ?_
  refine XS.ishr X_12.here hx rfl (hb hby d7_9) rfl ?_
  exact Steps.refl _
 obtain ⟨fs, hr, hrun, hended, hW, hsame⟩ := X_12.leave (v := some (.int (z >>> ((0 : Int32) &&& 31)))) (fun h => by rw [Bd.returns] at h; cases h)
 refine ⟨_, _, C_22.trans (retOut X_12 hx Bd.returns rfl (Or.inl ⟨rfl, Or.inl rfl, _, rfl⟩) (hb hby d7_10) hr), hrun, hended, _, _, rfl, ?_, ⟨_, rfl⟩, hW, hsame.mono (by decide) (by decide)⟩
 show Q_lenany Z G1 G3 x t kt z bs h0 n0 (some (.int (z >>> ((0 : Int32) &&& 31)))) T_12.heap _
 rw [e_21]
 exact ⟨rfl, N_20, rfl⟩
abbrev M155 : MethodName := ⟨"java/lang/StringLatin1", "canEncode", "(I)Z"⟩
theorem ef_156 (m : MethodId) (x0 : Int32) : entryFrame m #[(.int x0)] 1 = mkF m 0 #[VI x0] [] := by first | (simp [entryFrame, mkF, argsToLocals, Value.category]; done) | rfl
theorem pn_157 : plainName "java/lang/StringLatin1" = true := by first | (simp [plainName, overriddenIn]; done) | decide +kernel
theorem d8_0 : decode jdk_43_method_4_code 0 = .ok (.iload_n 0, 1) := by decide +kernel
theorem d8_1 : decode jdk_43_method_4_code 1 = .ok (.ifCond .lt 14, 3) := by decide +kernel
theorem d8_4 : decode jdk_43_method_4_code 4 = .ok (.iload_n 0, 1) := by decide +kernel
theorem d8_5 : decode jdk_43_method_4_code 5 = .ok (.sipush 255, 3) := by decide +kernel
theorem d8_8 : decode jdk_43_method_4_code 8 = .ok (.if_icmp .gt 7, 3) := by decide +kernel
theorem d8_11 : decode jdk_43_method_4_code 11 = .ok (.iconst 1, 1) := by decide +kernel
theorem d8_12 : decode jdk_43_method_4_code 12 = .ok (.goto 4, 3) := by decide +kernel
theorem d8_16 : decode jdk_43_method_4_code 16 = .ok (.ireturn, 1) := by decide +kernel
abbrev R_cei_31 : Room := { frames := 0, cells := 0, slots := 0, locals := 0 }
def Q_cei_31 (Z : State) (G1 : Int32) (G3 : Value)  (h0 : Heap) (n0 : Nat) (v : Option Value) (h : Heap) (L : List Loc) : Prop := (v = some (.int 1) ∧ Fr n0 L ∧ h = h0)
theorem rm_cei_31 (l : Launch) (Z : State) (a0 : Array Value) (hw : HW Z a0) (ws : List Jvm.Cond) (G1 : Int32) (G3 : Value) (HG : own_G l Z a0 G1 G3) (h0 : Heap) (n0 : Nat) (X00 : Old Z n0 h0)   :
  own_CP l Z M155 jdk_43_method_4_code 1 (some .boolean) ws R_cei_31 #[(.int 31)] h0 (Q_cei_31 Z G1 G3  h0 n0) := by
 refine own_P (plainFor_of_name pn_157) ?_
 intro p e s m below meth c s₁ S0 Bd hZ hh hx hby hml hown hnm X0 e0 hS0d
 obtain ⟨O1, P1, O3f, rG3⟩ := id HG
 have N0 := Fr.nil n0
 have C0 : Steps p.tables e below S0 (s₁.setTop (mkF m 0 #[VI 31] [])) := by rw [hS0d]; exact castTop (ef_156 m (31 : Int32)) (Steps.refl _)
 have C_1 : Steps p.tables e below S0 (s₁.setTop (mkF m 16 #[VI 31] [(.int 1)])) := by
  refine C0.trans ?_
  refine XS.iloadN X0.here hx rfl (hb hby d8_0) rfl ?_
  refine XS.ifNo X0.here hx rfl (hb hby d8_1) rfl (by decide) ?_
  refine XS.iloadN X0.here hx rfl (hb hby d8_4) rfl ?_
  refine XS.sipush X0.here hx rfl (hb hby d8_5) ?_
  refine XS.icmpNo X0.here hx rfl (hb hby d8_8) rfl (by decide) ?_
  refine XS.iconst X0.here hx rfl (hb hby d8_11) ?_
  refine XS.goto X0.here hx rfl (pc0 := 12) (pc' := 16) rfl (hb hby d8_12) (by decide) (by decide) ?_
  exact Steps.refl _
 obtain ⟨fs, hr, hrun, hended, hW, hsame⟩ := X0.leave (v := some (.int 1)) (fun h => by rw [Bd.returns] at h; cases h)
 refine ⟨_, _, C_1.trans (retN X0 hx (t := .boolean) Bd.returns (by simp) (hb hby d8_16) hr), hrun, hended, _, _, rfl, ?_, ⟨_, rfl⟩, hW, hsame.mono (by decide) (by decide)⟩
 show Q_cei_31 Z G1 G3  h0 n0 (some (.int 1)) s₁.heap _
 rw [e0]
 exact ⟨rfl, N0, rfl⟩
abbrev M166 : MethodName := ⟨"java/lang/Math", "max", "(II)I"⟩
theorem ef_167 (m : MethodId) (x0 : Int32) (x1 : Int32) : entryFrame m #[(.int x0), (.int x1)] 2 = mkF m 0 #[VI x0, VI x1] [] := by first | (simp [entryFrame, mkF, argsToLocals, Value.category]; done) | rfl
theorem d9_0 : decode jdk_29_method_65_code 0 = .ok (.iload_n 0, 1) := by decide +kernel
theorem d9_1 : decode jdk_29_method_65_code 1 = .ok (.iload_n 1, 1) := by decide +kernel
theorem d9_2 : decode jdk_29_method_65_code 2 = .ok (.if_icmp .lt 7, 3) := by decide +kernel
theorem d9_5 : decode jdk_29_method_65_code 5 = .ok (.iload_n 0, 1) := by decide +kernel
theorem d9_6 : decode jdk_29_method_65_code 6 = .ok (.goto 4, 3) := by decide +kernel
theorem d9_10 : decode jdk_29_method_65_code 10 = .ok (.ireturn, 1) := by decide +kernel
abbrev R_maxL : Room := { frames := 0, cells := 0, slots := 0, locals := 0 }
def Q_maxL (Z : State) (G1 : Int32) (G3 : Value) (a : Int32) (b : Int32) (h0 : Heap) (n0 : Nat) (v : Option Value) (h : Heap) (L : List Loc) : Prop := (v = some (.int a) ∧ Fr n0 L ∧ h = h0)
theorem rm_maxL (l : Launch) (Z : State) (a0 : Array Value) (hw : HW Z a0) (ws : List Jvm.Cond) (G1 : Int32) (G3 : Value) (HG : own_G l Z a0 G1 G3) (h0 : Heap) (n0 : Nat) (X00 : Old Z n0 h0) (a : Int32) (b : Int32) (h : ¬ (a < b)) :
  own_CP l Z M166 jdk_29_method_65_code 2 (some .int) ws R_maxL #[(.int a), (.int b)] h0 (Q_maxL Z G1 G3 a b h0 n0) := by
 refine own_P (Jvm.Free.JP.mathPlain rfl (by decide +kernel)) ?_
 intro p e s m below meth c s₁ S0 Bd hZ hh hx hby hml hown hnm X0 e0 hS0d
 obtain ⟨O1, P1, O3f, rG3⟩ := id HG
 have N0 := Fr.nil n0
 have C0 : Steps p.tables e below S0 (s₁.setTop (mkF m 0 #[VI a, VI b] [])) := by rw [hS0d]; exact castTop (ef_167 m a b) (Steps.refl _)
 have C_1 : Steps p.tables e below S0 (s₁.setTop (mkF m 10 #[VI a, VI b] [(.int a)])) := by
  refine C0.trans ?_
  refine XS.iloadN X0.here hx rfl (hb hby d9_0) rfl ?_
  refine XS.iloadN X0.here hx rfl (hb hby d9_1) rfl ?_
  refine XS.icmpNo X0.here hx rfl (hb hby d9_2) rfl (ii_lt_f h) ?_
  refine XS.iloadN X0.here hx rfl (hb hby d9_5) rfl ?_
  refine XS.goto X0.here hx rfl (pc0 := 6) (pc' := 10) rfl (hb hby d9_6) (by decide) (by decide) ?_
  exact Steps.refl _
 obtain ⟨fs, hr, hrun, hended, hW, hsame⟩ := X0.leave (v := some (.int a)) (fun h => by rw [Bd.returns] at h; cases h)
 refine ⟨_, _, C_1.trans (retOut X0 hx Bd.returns rfl (Or.inl ⟨rfl, Or.inl rfl, _, rfl⟩) (hb hby d9_10) hr), hrun, hended, _, _, rfl, ?_, ⟨_, rfl⟩, hW, hsame.mono (by decide) (by decide)⟩
 show Q_maxL Z G1 G3 a b h0 n0 (some (.int a)) s₁.heap _
 rw [e0]
 exact ⟨rfl, N0, rfl⟩
theorem d9_9 : decode jdk_29_method_65_code 9 = .ok (.iload_n 1, 1) := by decide +kernel
abbrev R_maxR : Room := { frames := 0, cells := 0, slots := 0, locals := 0 }
def Q_maxR (Z : State) (G1 : Int32) (G3 : Value) (a : Int32) (b : Int32) (h0 : Heap) (n0 : Nat) (v : Option Value) (h : Heap) (L : List Loc) : Prop := (v = some (.int b) ∧ Fr n0 L ∧ h = h0)
theorem rm_maxR (l : Launch) (Z : State) (a0 : Array Value) (hw : HW Z a0) (ws : List Jvm.Cond) (G1 : Int32) (G3 : Value) (HG : own_G l Z a0 G1 G3) (h0 : Heap) (n0 : Nat) (X00 : Old Z n0 h0) (a : Int32) (b : Int32) (h : a < b) :
  own_CP l Z M166 jdk_29_method_65_code 2 (some .int) ws R_maxR #[(.int a), (.int b)] h0 (Q_maxR Z G1 G3 a b h0 n0) := by
 refine own_P (Jvm.Free.JP.mathPlain rfl (by decide +kernel)) ?_
 intro p e s m below meth c s₁ S0 Bd hZ hh hx hby hml hown hnm X0 e0 hS0d
 obtain ⟨O1, P1, O3f, rG3⟩ := id HG
 have N0 := Fr.nil n0
 have C0 : Steps p.tables e below S0 (s₁.setTop (mkF m 0 #[VI a, VI b] [])) := by rw [hS0d]; exact castTop (ef_167 m a b) (Steps.refl _)
 have C_1 : Steps p.tables e below S0 (s₁.setTop (mkF m 10 #[VI a, VI b] [(.int b)])) := by
  refine C0.trans ?_
  refine XS.iloadN X0.here hx rfl (hb hby d9_0) rfl ?_
  refine XS.iloadN X0.here hx rfl (hb hby d9_1) rfl ?_
  refine XS.icmpYes X0.here hx rfl (pc0 := 2) (pc' := 9) rfl (hb hby d9_2) rfl (ii_lt_t h) (by decide) (by decide) ?_
  refine XS.iloadN X0.here hx rfl (hb hby d9_9) rfl ?_
  exact Steps.refl _
 obtain ⟨fs, hr, hrun, hended, hW, hsame⟩ := X0.leave (v := some (.int b)) (fun h => by rw [Bd.returns] at h; cases h)
 refine ⟨_, _, C_1.trans (retOut X0 hx Bd.returns rfl (Or.inl ⟨rfl, Or.inl rfl, _, rfl⟩) (hb hby d9_10) hr), hrun, hended, _, _, rfl, ?_, ⟨_, rfl⟩, hW, hsame.mono (by decide) (by decide)⟩
 show Q_maxR Z G1 G3 a b h0 n0 (some (.int b)) s₁.heap _
 rw [e0]
 exact ⟨rfl, N0, rfl⟩
abbrev M175 : MethodName := ⟨"java/lang/Math", "min", "(II)I"⟩
theorem d10_0 : decode jdk_29_method_69_code 0 = .ok (.iload_n 0, 1) := by decide +kernel
theorem d10_1 : decode jdk_29_method_69_code 1 = .ok (.iload_n 1, 1) := by decide +kernel
theorem d10_2 : decode jdk_29_method_69_code 2 = .ok (.if_icmp .gt 7, 3) := by decide +kernel
theorem d10_5 : decode jdk_29_method_69_code 5 = .ok (.iload_n 0, 1) := by decide +kernel
theorem d10_6 : decode jdk_29_method_69_code 6 = .ok (.goto 4, 3) := by decide +kernel
theorem d10_10 : decode jdk_29_method_69_code 10 = .ok (.ireturn, 1) := by decide +kernel
abbrev R_minL : Room := { frames := 0, cells := 0, slots := 0, locals := 0 }
def Q_minL (Z : State) (G1 : Int32) (G3 : Value) (a : Int32) (b : Int32) (h0 : Heap) (n0 : Nat) (v : Option Value) (h : Heap) (L : List Loc) : Prop := (v = some (.int a) ∧ Fr n0 L ∧ h = h0)
theorem rm_minL (l : Launch) (Z : State) (a0 : Array Value) (hw : HW Z a0) (ws : List Jvm.Cond) (G1 : Int32) (G3 : Value) (HG : own_G l Z a0 G1 G3) (h0 : Heap) (n0 : Nat) (X00 : Old Z n0 h0) (a : Int32) (b : Int32) (h : ¬ (b < a)) :
  own_CP l Z M175 jdk_29_method_69_code 2 (some .int) ws R_minL #[(.int a), (.int b)] h0 (Q_minL Z G1 G3 a b h0 n0) := by
 refine own_P (Jvm.Free.JP.mathPlain rfl (by decide +kernel)) ?_
 intro p e s m below meth c s₁ S0 Bd hZ hh hx hby hml hown hnm X0 e0 hS0d
 obtain ⟨O1, P1, O3f, rG3⟩ := id HG
 have N0 := Fr.nil n0
 have C0 : Steps p.tables e below S0 (s₁.setTop (mkF m 0 #[VI a, VI b] [])) := by rw [hS0d]; exact castTop (ef_167 m a b) (Steps.refl _)
 have C_1 : Steps p.tables e below S0 (s₁.setTop (mkF m 10 #[VI a, VI b] [(.int a)])) := by
  refine C0.trans ?_
  refine XS.iloadN X0.here hx rfl (hb hby d10_0) rfl ?_
  refine XS.iloadN X0.here hx rfl (hb hby d10_1) rfl ?_
  refine XS.icmpNo X0.here hx rfl (hb hby d10_2) rfl (ii_gt_f h) ?_
  refine XS.iloadN X0.here hx rfl (hb hby d10_5) rfl ?_
  refine XS.goto X0.here hx rfl (pc0 := 6) (pc' := 10) rfl (hb hby d10_6) (by decide) (by decide) ?_
  exact Steps.refl _
 obtain ⟨fs, hr, hrun, hended, hW, hsame⟩ := X0.leave (v := some (.int a)) (fun h => by rw [Bd.returns] at h; cases h)
 refine ⟨_, _, C_1.trans (retOut X0 hx Bd.returns rfl (Or.inl ⟨rfl, Or.inl rfl, _, rfl⟩) (hb hby d10_10) hr), hrun, hended, _, _, rfl, ?_, ⟨_, rfl⟩, hW, hsame.mono (by decide) (by decide)⟩
 show Q_minL Z G1 G3 a b h0 n0 (some (.int a)) s₁.heap _
 rw [e0]
 exact ⟨rfl, N0, rfl⟩
theorem d10_9 : decode jdk_29_method_69_code 9 = .ok (.iload_n 1, 1) := by decide +kernel
abbrev R_minR : Room := { frames := 0, cells := 0, slots := 0, locals := 0 }
def Q_minR (Z : State) (G1 : Int32) (G3 : Value) (a : Int32) (b : Int32) (h0 : Heap) (n0 : Nat) (v : Option Value) (h : Heap) (L : List Loc) : Prop := (v = some (.int b) ∧ Fr n0 L ∧ h = h0)
theorem rm_minR (l : Launch) (Z : State) (a0 : Array Value) (hw : HW Z a0) (ws : List Jvm.Cond) (G1 : Int32) (G3 : Value) (HG : own_G l Z a0 G1 G3) (h0 : Heap) (n0 : Nat) (X00 : Old Z n0 h0) (a : Int32) (b : Int32) (h : b < a) :
  own_CP l Z M175 jdk_29_method_69_code 2 (some .int) ws R_minR #[(.int a), (.int b)] h0 (Q_minR Z G1 G3 a b h0 n0) := by
 refine own_P (Jvm.Free.JP.mathPlain rfl (by decide +kernel)) ?_
 intro p e s m below meth c s₁ S0 Bd hZ hh hx hby hml hown hnm X0 e0 hS0d
 obtain ⟨O1, P1, O3f, rG3⟩ := id HG
 have N0 := Fr.nil n0
 have C0 : Steps p.tables e below S0 (s₁.setTop (mkF m 0 #[VI a, VI b] [])) := by rw [hS0d]; exact castTop (ef_167 m a b) (Steps.refl _)
 have C_1 : Steps p.tables e below S0 (s₁.setTop (mkF m 10 #[VI a, VI b] [(.int b)])) := by
  refine C0.trans ?_
  refine XS.iloadN X0.here hx rfl (hb hby d10_0) rfl ?_
  refine XS.iloadN X0.here hx rfl (hb hby d10_1) rfl ?_
  refine XS.icmpYes X0.here hx rfl (pc0 := 2) (pc' := 9) rfl (hb hby d10_2) rfl (ii_gt_t h) (by decide) (by decide) ?_
  refine XS.iloadN X0.here hx rfl (hb hby d10_9) rfl ?_
  exact Steps.refl _
 obtain ⟨fs, hr, hrun, hended, hW, hsame⟩ := X0.leave (v := some (.int b)) (fun h => by rw [Bd.returns] at h; cases h)
 refine ⟨_, _, C_1.trans (retOut X0 hx Bd.returns rfl (Or.inl ⟨rfl, Or.inl rfl, _, rfl⟩) (hb hby d10_10) hr), hrun, hended, _, _, rfl, ?_, ⟨_, rfl⟩, hW, hsame.mono (by decide) (by decide)⟩
 show Q_minR Z G1 G3 a b h0 n0 (some (.int b)) s₁.heap _
 rw [e0]
 exact ⟨rfl, N0, rfl⟩
abbrev M183 : MethodName := ⟨"java/lang/StringLatin1", "indexOf", "([BIII)I"⟩
theorem ef_184 (m : MethodId) (x0 : Addr) (x1 : Int32) (x2 : Int32) (x3 : Int32) : entryFrame m #[(.ref x0), (.int x1), (.int x2), (.int x3)] 4 = mkF m 0 #[VR x0, VI x1, VI x2, VI x3] [] := by first | (simp [entryFrame, mkF, argsToLocals, Value.category]; done) | rfl
theorem d11_0 : decode jdk_43_method_22_code 0 = .ok (.iload_n 1, 1) := by decide +kernel
theorem w84 {Z a0} (hw : HW Z a0) : Cond.before (Cond.code (⟨"java/lang/StringLatin1", "canEncode", "(I)Z"⟩ : MethodName) jdk_43_method_4_code (1 : Nat) (Option.some FieldType.boolean)) a0 Z = true := hw _ (List.mem_of_getElem? (i := 84) rfl)
theorem w80 {Z a0} (hw : HW Z a0) : Cond.before (Cond.initialized "java/lang/StringLatin1") a0 Z = true := hw _ (List.mem_of_getElem? (i := 80) rfl)
theorem pd_188 : parseMethodDescriptor "(I)Z" = some ⟨[.int], some .boolean⟩ := by decide +kernel
theorem d11_1 : decode jdk_43_method_22_code 1 = .ok (.invokestatic 88, 3) := by decide +kernel
theorem w82 {Z a0} (hw : HW Z a0) : Cond.before (Cond.methodLink "java/lang/StringLatin1" (88 : Nat) (⟨"java/lang/StringLatin1", "canEncode", "(I)Z"⟩ : MethodName)) a0 Z = true := hw _ (List.mem_of_getElem? (i := 82) rfl)
theorem w83 {Z a0} (hw : HW Z a0) : Cond.before (Cond.static (⟨"java/lang/StringLatin1", "canEncode", "(I)Z"⟩ : MethodName)) a0 Z = true := hw _ (List.mem_of_getElem? (i := 83) rfl)
theorem d11_4 : decode jdk_43_method_22_code 4 = .ok (.ifCond .ne 5, 3) := by decide +kernel
theorem d11_9 : decode jdk_43_method_22_code 9 = .ok (.iload_n 2, 1) := by decide +kernel
theorem d11_10 : decode jdk_43_method_22_code 10 = .ok (.iconst 0, 1) := by decide +kernel
theorem w88 {Z a0} (hw : HW Z a0) : Cond.before (Cond.code (⟨"java/lang/Math", "max", "(II)I"⟩ : MethodName) jdk_29_method_65_code (2 : Nat) (Option.some FieldType.int)) a0 Z = true := hw _ (List.mem_of_getElem? (i := 88) rfl)
theorem w87 {Z a0} (hw : HW Z a0) : Cond.before (Cond.initialized "java/lang/Math") a0 Z = true := hw _ (List.mem_of_getElem? (i := 87) rfl)
theorem pd_197 : parseMethodDescriptor "(II)I" = some ⟨[.int, .int], some .int⟩ := by decide +kernel
theorem d11_11 : decode jdk_43_method_22_code 11 = .ok (.invokestatic 92, 3) := by decide +kernel
theorem w85 {Z a0} (hw : HW Z a0) : Cond.before (Cond.methodLink "java/lang/StringLatin1" (92 : Nat) (⟨"java/lang/Math", "max", "(II)I"⟩ : MethodName)) a0 Z = true := hw _ (List.mem_of_getElem? (i := 85) rfl)
theorem w86 {Z a0} (hw : HW Z a0) : Cond.before (Cond.static (⟨"java/lang/Math", "max", "(II)I"⟩ : MethodName)) a0 Z = true := hw _ (List.mem_of_getElem? (i := 86) rfl)
theorem d11_14 : decode jdk_43_method_22_code 14 = .ok (.istore_n 2, 1) := by decide +kernel
theorem d11_15 : decode jdk_43_method_22_code 15 = .ok (.iload_n 3, 1) := by decide +kernel
theorem d11_16 : decode jdk_43_method_22_code 16 = .ok (.aload_n 0, 1) := by decide +kernel
theorem d11_17 : decode jdk_43_method_22_code 17 = .ok (.arraylength, 1) := by decide +kernel
theorem w91 {Z a0} (hw : HW Z a0) : Cond.before (Cond.code (⟨"java/lang/Math", "min", "(II)I"⟩ : MethodName) jdk_29_method_69_code (2 : Nat) (Option.some FieldType.int)) a0 Z = true := hw _ (List.mem_of_getElem? (i := 91) rfl)
theorem d11_18 : decode jdk_43_method_22_code 18 = .ok (.invokestatic 38, 3) := by decide +kernel
theorem w89 {Z a0} (hw : HW Z a0) : Cond.before (Cond.methodLink "java/lang/StringLatin1" (38 : Nat) (⟨"java/lang/Math", "min", "(II)I"⟩ : MethodName)) a0 Z = true := hw _ (List.mem_of_getElem? (i := 89) rfl)
theorem w90 {Z a0} (hw : HW Z a0) : Cond.before (Cond.static (⟨"java/lang/Math", "min", "(II)I"⟩ : MethodName)) a0 Z = true := hw _ (List.mem_of_getElem? (i := 90) rfl)
theorem d11_21 : decode jdk_43_method_22_code 21 = .ok (.istore_n 3, 1) := by decide +kernel
theorem d11_22 : decode jdk_43_method_22_code 22 = .ok (.iload_n 2, 1) := by decide +kernel
theorem d11_23 : decode jdk_43_method_22_code 23 = .ok (.iload_n 3, 1) := by decide +kernel
theorem d11_24 : decode jdk_43_method_22_code 24 = .ok (.if_icmp .lt 5, 3) := by decide +kernel
theorem d11_27 : decode jdk_43_method_22_code 27 = .ok (.iconst (-1), 1) := by decide +kernel
theorem d11_28 : decode jdk_43_method_22_code 28 = .ok (.ireturn, 1) := by decide +kernel
abbrev R_lio_0 : Room := { frames := 1, cells := 0, slots := 0, locals := 13 }
def Q_lio_0 (Z : State) (G1 : Int32) (G3 : Value) (t : Addr) (kt : ClassId) (h0 : Heap) (n0 : Nat) (v : Option Value) (h : Heap) (L : List Loc) : Prop := (v = some (.int (-1 : Int32)) ∧ Fr n0 L ∧ h = h0)
theorem rm_lio_0 (l : Launch) (Z : State) (a0 : Array Value) (hw : HW Z a0) (ws : List Jvm.Cond) (G1 : Int32) (G3 : Value) (HG : own_G l Z a0 G1 G3) (h0 : Heap) (n0 : Nat) (X00 : Old Z n0 h0) (t : Addr) (kt : ClassId) (hp0 : Arv Z h0 t kt .byte (0 : Int32) [] (.int 0)) :
  own_CP l Z M183 jdk_43_method_22_code 4 (some .int) ws R_lio_0 #[(.ref t), (.int 31), (.int 0), (.int 0)] h0 (Q_lio_0 Z G1 G3 t kt h0 n0) := by
 refine own_P (plainFor_of_name pn_157) ?_
 intro p e s m below meth c s₁ S0 Bd hZ hh hx hby hml hown hnm X0 e0 hS0d
 obtain ⟨O1, P1, O3f, rG3⟩ := id HG
 have N0 := Fr.nil n0
 have C0 : Steps p.tables e below S0 (s₁.setTop (mkF m 0 #[VR t, VI 31, VI 0, VI 0] [])) := by rw [hS0d]; exact castTop (ef_184 m t (31 : Int32) (0 : Int32) (0 : Int32)) (Steps.refl _)
 obtain ⟨_, _, ⟨T_1, L_1, k_1, n_1⟩, -, X_1, ⟨Lc_1, hQ_1, l_1, y_1, z_1⟩, st_1⟩ := Jvm.LawKit.callS X0 hx (y := M155) hown (mvT hZ (w82 hw)) (mvT hZ (w83 hw)) (mvT hZ (w80 hw)) (mvT hZ (w84 hw)) (by decide) (backOf (W := 0) (rm_cei_31 l Z a0 hw [] G1 G3 HG h0 n0 X00  ) hZ (w84 hw) (w80 hw) (by decide) (by decide)) (g := (mkF m 1 #[VR t, VI 31, VI 0, VI 0] [(.int 31)])) rfl (by rw [hml]; rfl) (argsL := [(.int 31)]) (rest := []) (lenOf pd_188 rfl) rfl (by show 2 * 0 + _ ≤ _; exact Nat.le_of_eq rfl) (hb hby d11_1) (fun _ _ => ⟨rfl, e0, (by decide : 0 + 0 ≤ _), (by decide : 0 + 0 ≤ _)⟩)
 dsimp only [Pt.U, Pt.locs, Pt.cells, Pt.slots] at X_1 l_1 y_1 z_1 st_1 hQ_1
 subst l_1 y_1 z_1
 obtain ⟨rfl, N_2, e_3⟩ := hQ_1
 have N_4 := Fr.app N0 N_2
 have e_5 : T_1.heap = h0 := e_3
 obtain ⟨_, _, ⟨T_6, L_6, k_6, n_6⟩, -, X_6, ⟨Lc_6, hQ_6, l_6, y_6, z_6⟩, st_6⟩ := Jvm.LawKit.callS X_1 hx (y := M166) hown (mvT hZ (w85 hw)) (mvT hZ (w86 hw)) (mvT hZ (w87 hw)) (mvT hZ (w88 hw)) (by decide) (backOf (W := 0) (rm_maxL l Z a0 hw [] G1 G3 HG h0 n0 X00 (0 : Int32) (0 : Int32) (by decide)) hZ (w88 hw) (w87 hw) (by decide) (by decide)) (g := (mkF m 11 #[VR t, VI 31, VI 0, VI 0] [(.int 0), (.int 0)])) rfl (by rw [hml]; rfl) (argsL := [(.int 0), (.int 0)]) (rest := []) (lenOf pd_197 rfl) rfl (by show 2 * 0 + _ ≤ _; exact Nat.le_of_eq rfl) (hb hby d11_11) (fun _ _ => ⟨rfl, e_5, (by decide : 0 + 0 ≤ _), (by decide : 0 + 0 ≤ _)⟩)
 dsimp only [Pt.U, Pt.locs, Pt.cells, Pt.slots] at X_6 l_6 y_6 z_6 st_6 hQ_6
 subst l_6 y_6 z_6
 obtain ⟨rfl, N_7, e_8⟩ := hQ_6
 have N_9 := Fr.app N_4 N_7
 have e_10 : T_6.heap = h0 := e_8
 obtain ⟨c_11, A_12, q_13, S_14, M_15, H_16, U_17⟩ := id hp0
 obtain ⟨_, _, ⟨T_18, L_18, k_18, n_18⟩, -, X_18, ⟨Lc_18, hQ_18, l_18, y_18, z_18⟩, st_18⟩ := Jvm.LawKit.callS X_6 hx (y := M175) hown (mvT hZ (w89 hw)) (mvT hZ (w90 hw)) (mvT hZ (w87 hw)) (mvT hZ (w91 hw)) (by decide) (backOf (W := 0) (rm_minL l Z a0 hw [] G1 G3 HG h0 n0 X00 (0 : Int32) (0 : Int32) (by decide)) hZ (w91 hw) (w87 hw) (by decide) (by decide)) (g := (mkF m 18 #[VR t, VI 31, VI 0, VI 0] [(.int 0), (.int 0)])) rfl (by rw [hml]; rfl) (argsL := [(.int 0), (.int 0)]) (rest := []) (lenOf pd_197 rfl) rfl (by show 2 * 0 + _ ≤ _; exact Nat.le_of_eq rfl) (hb hby d11_18) (fun _ _ => ⟨rfl, e_10, (by decide : 0 + 0 ≤ _), (by decide : 0 + 0 ≤ _)⟩)
 dsimp only [Pt.U, Pt.locs, Pt.cells, Pt.slots] at X_18 l_18 y_18 z_18 st_18 hQ_18
 subst l_18 y_18 z_18
 obtain ⟨rfl, N_19, e_20⟩ := hQ_18
 have N_21 := Fr.app N_9 N_19
 have e_22 : T_18.heap = h0 := e_20
 have C_23 : Steps p.tables e below S0 (T_18.setTop (mkF m 28 #[VR t, VI 31, VI 0, VI 0] [(.int (-1 : Int32))])) := by
  refine C0.trans ?_
  refine XS.iloadN X0.here hx rfl (hb hby d11_0) rfl ?_
  refine st_1 _ ?_
  refine XS.ifYes X_1.here hx rfl (pc0 := 4) (pc' := 9) rfl (hb hby d11_4) rfl (by decide) (by decide) (by decide) ?_
  refine XS.iloadN X_1.here hx rfl (hb hby d11_9) rfl ?_
  refine XS.iconst X_1.here hx rfl (hb hby d11_10) ?_
  refine st_6 _ ?_
  refine XS.istoreN X_6.here hx rfl (hb hby d11_14) rfl (l' := #[VR t, VI 31, VI 0, VI 0]) rfl ?_
  refine XS.iloadN X_6.here hx rfl (hb hby d11_15) rfl ?_
  refine XS.aloadN X_6.here hx rfl (hb hby d11_16) rfl rfl ?_
  refine X_6.arraylength hx (by rw [e_10]; exact A_12.1) (State.isArrayOf_alike hZ.alike A_12.2.1) (g := (mkF m 17 #[VR t, VI 31, VI 0, VI 0] [(.ref t), (.int 0)])) rfl rfl (hb hby d11_17) _ ?_
  rw [len_of S_14 M_15]
  refine st_18 _ ?_
  refine XS.istoreN X_18.here hx rfl (hb hby d11_21) rfl (l' := #[VR t, VI 31, VI 0, VI 0]) rfl ?_
  refine XS.iloadN X_18.here hx rfl (hb hby d11_22) rfl ?_
  refine XS.iloadN X_18.here hx rfl (hb hby d11_23) rfl ?_
  refine XS.icmpNo X_18.here hx rfl (hb hby d11_24) rfl (by decide) ?_
  refine XS.iconst X_18.here hx rfl (hb hby d11_27) ?_
  show Steps p.tables e below (T_18.setTop (mkF m 28 #[VR t, VI 31, VI 0, VI 0] [(.int (-1 : Int32))])) _
  exact Steps.refl _
 obtain ⟨fs, hr, hrun, hended, hW, hsame⟩ := X_18.leave (v := some (.int (-1 : Int32))) (fun h => by rw [Bd.returns] at h; cases h)
 refine ⟨_, _, C_23.trans (retOut X_18 hx Bd.returns rfl (Or.inl ⟨rfl, Or.inl rfl, _, rfl⟩) (hb hby d11_28) hr), hrun, hended, _, _, rfl, ?_, ⟨_, rfl⟩, hW, hsame.mono (by decide) (by decide)⟩
 show Q_lio_0 Z G1 G3 t kt h0 n0 (some (.int (-1 : Int32))) T_18.heap _
 rw [e_22]
 exact ⟨rfl, N_21, rfl⟩
abbrev M215 : MethodName := ⟨"java/lang/String", "indexOf", "(II)I"⟩
theorem ef_216 (m : MethodId) (x0 : Addr) (x1 : Int32) (x2 : Int32) : entryFrame m #[(.ref x0), (.int x1), (.int x2)] 3 = mkF m 0 #[VR x0, VI x1, VI x2] [] := by first | (simp [entryFrame, mkF, argsToLocals, Value.category]; done) | rfl
theorem d12_0 : decode jdk_42_method_80_code 0 = .ok (.aload_n 0, 1) := by decide +kernel
theorem w66 {Z a0} (hw : HW Z a0) : Cond.before (Cond.code (⟨"java/lang/String", "isLatin1", "()Z"⟩ : MethodName) jdk_42_method_154_code (1 : Nat) (Option.some FieldType.boolean)) a0 Z = true := hw _ (List.mem_of_getElem? (i := 66) rfl)
theorem pd_219 : parseMethodDescriptor "()Z" = some ⟨[], some .boolean⟩ := by decide +kernel
theorem d12_1 : decode jdk_42_method_80_code 1 = .ok (.invokevirtual 492, 3) := by decide +kernel
theorem w62 {Z a0} (hw : HW Z a0) : Cond.before (Cond.methodLink "java/lang/String" (492 : Nat) (⟨"java/lang/String", "isLatin1", "()Z"⟩ : MethodName)) a0 Z = true := hw _ (List.mem_of_getElem? (i := 62) rfl)
theorem w65 {Z a0} (hw : HW Z a0) : Cond.before (Cond.selects "java/lang/String" (⟨"java/lang/String", "isLatin1", "()Z"⟩ : MethodName) (⟨"java/lang/String", "isLatin1", "()Z"⟩ : MethodName)) a0 Z = true := hw _ (List.mem_of_getElem? (i := 65) rfl)
theorem w64 {Z a0} (hw : HW Z a0) : Cond.before (Cond.instanceMethod (⟨"java/lang/String", "isLatin1", "()Z"⟩ : MethodName)) a0 Z = true := hw _ (List.mem_of_getElem? (i := 64) rfl)
theorem w63 {Z a0} (hw : HW Z a0) : Cond.before (Cond.declares (⟨"java/lang/String", "isLatin1", "()Z"⟩ : MethodName)) a0 Z = true := hw _ (List.mem_of_getElem? (i := 63) rfl)
theorem d12_4 : decode jdk_42_method_80_code 4 = .ok (.ifCond .eq 19, 3) := by decide +kernel
theorem d12_7 : decode jdk_42_method_80_code 7 = .ok (.aload_n 0, 1) := by decide +kernel
theorem d12_8 : decode jdk_42_method_80_code 8 = .ok (.getfield 9, 3) := by decide +kernel
theorem d12_11 : decode jdk_42_method_80_code 11 = .ok (.iload_n 1, 1) := by decide +kernel
theorem d12_12 : decode jdk_42_method_80_code 12 = .ok (.iload_n 2, 1) := by decide +kernel
theorem d12_13 : decode jdk_42_method_80_code 13 = .ok (.aload_n 0, 1) := by decide +kernel
theorem w72 {Z a0} (hw : HW Z a0) : Cond.before (Cond.code (⟨"java/lang/String", "length", "()I"⟩ : MethodName) jdk_42_method_54_code (1 : Nat) (Option.some FieldType.int)) a0 Z = true := hw _ (List.mem_of_getElem? (i := 72) rfl)
theorem pd_232 : parseMethodDescriptor "()I" = some ⟨[], some .int⟩ := by decide +kernel
theorem d12_14 : decode jdk_42_method_80_code 14 = .ok (.invokevirtual 505, 3) := by decide +kernel
theorem w68 {Z a0} (hw : HW Z a0) : Cond.before (Cond.methodLink "java/lang/String" (505 : Nat) (⟨"java/lang/String", "length", "()I"⟩ : MethodName)) a0 Z = true := hw _ (List.mem_of_getElem? (i := 68) rfl)
theorem w71 {Z a0} (hw : HW Z a0) : Cond.before (Cond.selects "java/lang/String" (⟨"java/lang/String", "length", "()I"⟩ : MethodName) (⟨"java/lang/String", "length", "()I"⟩ : MethodName)) a0 Z = true := hw _ (List.mem_of_getElem? (i := 71) rfl)
theorem w70 {Z a0} (hw : HW Z a0) : Cond.before (Cond.instanceMethod (⟨"java/lang/String", "length", "()I"⟩ : MethodName)) a0 Z = true := hw _ (List.mem_of_getElem? (i := 70) rfl)
theorem w69 {Z a0} (hw : HW Z a0) : Cond.before (Cond.declares (⟨"java/lang/String", "length", "()I"⟩ : MethodName)) a0 Z = true := hw _ (List.mem_of_getElem? (i := 69) rfl)
theorem w81 {Z a0} (hw : HW Z a0) : Cond.before (Cond.code (⟨"java/lang/StringLatin1", "indexOf", "([BIII)I"⟩ : MethodName) jdk_43_method_22_code (4 : Nat) (Option.some FieldType.int)) a0 Z = true := hw _ (List.mem_of_getElem? (i := 81) rfl)
theorem pd_239 : parseMethodDescriptor "([BIII)I" = some ⟨[(.array .byte), .int, .int, .int], some .int⟩ := by decide +kernel
theorem d12_17 : decode jdk_42_method_80_code 17 = .ok (.invokestatic 637, 3) := by decide +kernel
theorem w78 {Z a0} (hw : HW Z a0) : Cond.before (Cond.methodLink "java/lang/String" (637 : Nat) (⟨"java/lang/StringLatin1", "indexOf", "([BIII)I"⟩ : MethodName)) a0 Z = true := hw _ (List.mem_of_getElem? (i := 78) rfl)
theorem w79 {Z a0} (hw : HW Z a0) : Cond.before (Cond.static (⟨"java/lang/StringLatin1", "indexOf", "([BIII)I"⟩ : MethodName)) a0 Z = true := hw _ (List.mem_of_getElem? (i := 79) rfl)
theorem d12_20 : decode jdk_42_method_80_code 20 = .ok (.goto 16, 3) := by decide +kernel
theorem d12_36 : decode jdk_42_method_80_code 36 = .ok (.ireturn, 1) := by decide +kernel
abbrev R_io2_0 : Room := { frames := 2, cells := 0, slots := 0, locals := 28 }
def Q_io2_0 (Z : State) (G1 : Int32) (G3 : Value) (x : Addr) (t : Addr) (kt : ClassId) (h0 : Heap) (n0 : Nat) (v : Option Value) (h : Heap) (L : List Loc) : Prop := (v = some (.int (-1 : Int32)) ∧ Fr n0 L ∧ h = h0)
theorem rm_io2_0 (l : Launch) (Z : State) (a0 : Array Value) (hw : HW Z a0) (ws : List Jvm.Cond) (G1 : Int32) (G3 : Value) (HG : own_G l Z a0 G1 G3) (h0 : Heap) (n0 : Nat) (X00 : Old Z n0 h0) (x : Addr) (t : Addr) (kt : ClassId) (hp0 : Exa Z h0 x "java/lang/String") (hp1 : Fld Z h0 x "java/lang/String" "coder" "B" (.int 0)) (hp2 : Fld Z h0 x "java/lang/String" "value" "[B" (.ref t)) (hp3 : Arv Z h0 t kt .byte (0 : Int32) [] (.int 0)) :
  own_CP l Z M215 jdk_42_method_80_code 3 (some .int) ws R_io2_0 #[(.ref x), (.int 31), (.int 0)] h0 (Q_io2_0 Z G1 G3 x t kt h0 n0) := by
 refine own_P (plainFor_of_name pn_2) ?_
 intro p e s m below meth c s₁ S0 Bd hZ hh hx hby hml hown hnm X0 e0 hS0d
 obtain ⟨O1, P1, O3f, rG3⟩ := id HG
 have N0 := Fr.nil n0
 have C0 : Steps p.tables e below S0 (s₁.setTop (mkF m 0 #[VR x, VI 31, VI 0] [])) := by rw [hS0d]; exact castTop (ef_216 m x (31 : Int32) (0 : Int32)) (Steps.refl _)
 obtain ⟨q_2, q_3, q_4, q_5, q_6⟩ := isOf (T := s₁) hZ e0 hp0
 obtain ⟨_, _, ⟨T_1, L_1, k_1, n_1⟩, -, X_1, ⟨Lc_1, hQ_1, l_1, y_1, z_1⟩, st_1⟩ := X0.virtualBack hx (y := M132) (z := M132) hown (mvT hZ (w62 hw)) (mvT hZ (w63 hw)) (notFace_of_selects (args := #[]) (mvT hZ (w65 hw))) (mvT hZ (w65 hw)) (mvT hZ (w64 hw)) (by decide) (backOf (W := 0) (rm_islat l Z a0 hw [] G1 G3 HG h0 n0 X00 x hp1) hZ (w66 hw) (w10 hw) (by decide) (by decide)) q_4 q_6 (g := (mkF m 1 #[VR x, VI 31, VI 0] [(.ref x)])) rfl (by rw [hml]; rfl) (Steps.refl _) (argsL := []) (rest := []) (lenOf pd_219 rfl) rfl (by show 2 * 0 + _ ≤ _; exact Nat.le_of_eq rfl) (hb hby d12_1) (fun _ _ => ⟨rfl, e0, (by decide : 0 + 0 ≤ _), (by decide : 0 + 0 ≤ _)⟩)
 dsimp only [Pt.U, Pt.locs, Pt.cells, Pt.slots] at X_1 l_1 y_1 z_1 st_1 hQ_1
 subst l_1 y_1 z_1
 obtain ⟨rfl, N_7, e_8⟩ := hQ_1
 have N_9 := Fr.app N0 N_7
 have e_10 : T_1.heap = h0 := e_8
 obtain ⟨T_11, X_12, e_13, st_14⟩ := getF X_1 hx hZ hown (host := "") (Or.inl (w28 hw)) Via.refl e_10 hp2 (g := (mkF m 8 #[VR x, VI 31, VI 0] [(.ref x)])) rfl rfl (hb hby d12_8)
 obtain ⟨q_16, q_17, q_18, q_19, q_20⟩ := isOf (T := T_11) hZ e_13 hp0
 obtain ⟨_, _, ⟨T_15, L_15, k_15, n_15⟩, -, X_15, ⟨Lc_15, hQ_15, l_15, y_15, z_15⟩, st_15⟩ := X_12.virtualBack hx (y := M141) (z := M141) hown (mvT hZ (w68 hw)) (mvT hZ (w69 hw)) (notFace_of_selects (args := #[]) (mvT hZ (w71 hw))) (mvT hZ (w71 hw)) (mvT hZ (w70 hw)) (by decide) (backOf (W := 3) (rm_lenany l Z a0 hw [] G1 G3 HG h0 n0 X00 x t kt (0 : Int32) [] hp0 hp1 hp2 hp3) hZ (w72 hw) (w10 hw) (by decide) (by decide)) q_18 q_20 (g := (mkF m 14 #[VR x, VI 31, VI 0] [(.ref x), (.int 0), (.int 31), (.ref t)])) rfl (by rw [hml]; rfl) (Steps.refl _) (argsL := []) (rest := [(.int 0), (.int 31), (.ref t)]) (lenOf pd_232 rfl) rfl (by show 2 * 0 + _ ≤ _; exact Nat.le_of_eq rfl) (hb hby d12_14) (fun _ _ => ⟨rfl, e_13, (by decide : 0 + 0 ≤ _), (by decide : 0 + 0 ≤ _)⟩)
 dsimp only [Pt.U, Pt.locs, Pt.cells, Pt.slots] at X_15 l_15 y_15 z_15 st_15 hQ_15
 subst l_15 y_15 z_15
 obtain ⟨rfl, N_21, e_22⟩ := hQ_15
 have N_23 := Fr.app N_9 N_21
 have e_24 : T_15.heap = h0 := e_22
 obtain ⟨_, _, ⟨T_25, L_25, k_25, n_25⟩, -, X_25, ⟨Lc_25, hQ_25, l_25, y_25, z_25⟩, st_25⟩ := Jvm.LawKit.callS X_15 hx (y := M183) hown (mvT hZ (w78 hw)) (mvT hZ (w79 hw)) (mvT hZ (w80 hw)) (mvT hZ (w81 hw)) (by decide) (backOf (W := 0) (rm_lio_0 l Z a0 hw [] G1 G3 HG h0 n0 X00 t kt hp3) hZ (w81 hw) (w80 hw) (by decide) (by decide)) (g := (mkF m 17 #[VR x, VI 31, VI 0] [(.int 0), (.int 0), (.int 31), (.ref t)])) rfl (by rw [hml]; rfl) (argsL := [(.ref t), (.int 31), (.int 0), (.int 0)]) (rest := []) (lenOf pd_239 rfl) rfl (by show 2 * 0 + _ ≤ _; exact Nat.le_of_eq rfl) (hb hby d12_17) (fun _ _ => ⟨rfl, e_24, (by decide : 0 + 0 ≤ _), (by decide : 0 + 0 ≤ _)⟩)
 dsimp only [Pt.U, Pt.locs, Pt.cells, Pt.slots] at X_25 l_25 y_25 z_25 st_25 hQ_25
 subst l_25 y_25 z_25
 obtain ⟨rfl, N_26, e_27⟩ := hQ_25
 have N_28 := Fr.app N_23 N_26
 have e_29 : T_25.heap = h0 := e_27
 have C_30 : Steps p.tables e below S0 (T_25.setTop (mkF m 36 #[VR x, VI 31, VI 0] [(.int (-1 : Int32))])) := by
  refine C0.trans ?_
  refine XS.aloadN X0.here hx rfl (hb hby d12_0) rfl rfl ?_
  refine st_1.trans ?_
  refine XS.ifNo X_1.here hx rfl (hb hby d12_4) rfl (by decide) ?_
  refine XS.aloadN X_1.here hx rfl (hb hby d12_7) rfl rfl ?_
  refine st_14 _ ?_
  refine XS.iloadN X_12.here hx rfl (hb hby d12_11) rfl ?_
  refine XS.iloadN X_12.here hx rfl (hb hby d12_12) rfl ?_
  refine XS.aloadN X_12.here hx rfl (hb hby d12_13) rfl rfl ?_
  refine st_15.trans ?_
  refine st_25 _ ?_
  refine XS.goto X_25.here hx rfl (pc0 := 20) (pc' := 36) rfl (hb hby d12_20) (by decide) (by decide) ?_
  exact Steps.refl _
 obtain ⟨fs, hr, hrun, hended, hW, hsame⟩ := X_25.leave (v := some (.int (-1 : Int32))) (fun h => by rw [Bd.returns] at h; cases h)
 refine ⟨_, _, C_30.trans (retOut X_25 hx Bd.returns rfl (Or.inl ⟨rfl, Or.inl rfl, _, rfl⟩) (hb hby d12_36) hr), hrun, hended, _, _, rfl, ?_, ⟨_, rfl⟩, hW, hsame.mono (by decide) (by decide)⟩
 show Q_io2_0 Z G1 G3 x t kt h0 n0 (some (.int (-1 : Int32))) T_25.heap _
 rw [e_29]
 exact ⟨rfl, N_28, rfl⟩
abbrev M245 : MethodName := ⟨"java/lang/String", "indexOf", "(I)I"⟩
theorem d13_0 : decode jdk_42_method_79_code 0 = .ok (.aload_n 0, 1) := by decide +kernel
theorem d13_1 : decode jdk_42_method_79_code 1 = .ok (.iload_n 1, 1) := by decide +kernel
theorem d13_2 : decode jdk_42_method_79_code 2 = .ok (.iconst 0, 1) := by decide +kernel
theorem w61 {Z a0} (hw : HW Z a0) : Cond.before (Cond.code (⟨"java/lang/String", "indexOf", "(II)I"⟩ : MethodName) jdk_42_method_80_code (3 : Nat) (Option.some FieldType.int)) a0 Z = true := hw _ (List.mem_of_getElem? (i := 61) rfl)
theorem d13_3 : decode jdk_42_method_79_code 3 = .ok (.invokevirtual 633, 3) := by decide +kernel
theorem w57 {Z a0} (hw : HW Z a0) : Cond.before (Cond.methodLink "java/lang/String" (633 : Nat) (⟨"java/lang/String", "indexOf", "(II)I"⟩ : MethodName)) a0 Z = true := hw _ (List.mem_of_getElem? (i := 57) rfl)
theorem w60 {Z a0} (hw : HW Z a0) : Cond.before (Cond.selects "java/lang/String" (⟨"java/lang/String", "indexOf", "(II)I"⟩ : MethodName) (⟨"java/lang/String", "indexOf", "(II)I"⟩ : MethodName)) a0 Z = true := hw _ (List.mem_of_getElem? (i := 60) rfl)
theorem w59 {Z a0} (hw : HW Z a0) : Cond.before (Cond.instanceMethod (⟨"java/lang/String", "indexOf", "(II)I"⟩ : MethodName)) a0 Z = true := hw _ (List.mem_of_getElem? (i := 59) rfl)
theorem w58 {Z a0} (hw : HW Z a0) : Cond.before (Cond.declares (⟨"java/lang/String", "indexOf", "(II)I"⟩ : MethodName)) a0 Z = true := hw _ (List.mem_of_getElem? (i := 58) rfl)
theorem d13_6 : decode jdk_42_method_79_code 6 = .ok (.ireturn, 1) := by decide +kernel
abbrev R_io1_0 : Room := { frames := 3, cells := 0, slots := 0, locals := 42 }
def Q_io1_0 (Z : State) (G1 : Int32) (G3 : Value) (x : Addr) (t : Addr) (kt : ClassId) (h0 : Heap) (n0 : Nat) (v : Option Value) (h : Heap) (L : List Loc) : Prop := (v = some (.int (-1 : Int32)) ∧ Fr n0 L ∧ h = h0)
theorem rm_io1_0 (l : Launch) (Z : State) (a0 : Array Value) (hw : HW Z a0) (ws : List Jvm.Cond) (G1 : Int32) (G3 : Value) (HG : own_G l Z a0 G1 G3) (h0 : Heap) (n0 : Nat) (X00 : Old Z n0 h0) (x : Addr) (t : Addr) (kt : ClassId) (hp0 : Exa Z h0 x "java/lang/String") (hp1 : Fld Z h0 x "java/lang/String" "coder" "B" (.int 0)) (hp2 : Fld Z h0 x "java/lang/String" "value" "[B" (.ref t)) (hp3 : Arv Z h0 t kt .byte (0 : Int32) [] (.int 0)) :
  own_CP l Z M245 jdk_42_method_79_code 2 (some .int) ws R_io1_0 #[(.ref x), (.int 31)] h0 (Q_io1_0 Z G1 G3 x t kt h0 n0) := by
 refine own_P (plainFor_of_name pn_2) ?_
 intro p e s m below meth c s₁ S0 Bd hZ hh hx hby hml hown hnm X0 e0 hS0d
 obtain ⟨O1, P1, O3f, rG3⟩ := id HG
 have N0 := Fr.nil n0
 have C0 : Steps p.tables e below S0 (s₁.setTop (mkF m 0 #[VR x, VI 31] [])) := by rw [hS0d]; exact castTop (ef_90 m x (31 : Int32)) (Steps.refl _)
 obtain ⟨q_2, q_3, q_4, q_5, q_6⟩ := isOf (T := s₁) hZ e0 hp0
 obtain ⟨_, _, ⟨T_1, L_1, k_1, n_1⟩, -, X_1, ⟨Lc_1, hQ_1, l_1, y_1, z_1⟩, st_1⟩ := X0.virtualBack hx (y := M215) (z := M215) hown (mvT hZ (w57 hw)) (mvT hZ (w58 hw)) (notFace_of_selects (args := #[]) (mvT hZ (w60 hw))) (mvT hZ (w60 hw)) (mvT hZ (w59 hw)) (by decide) (backOf (W := 0) (rm_io2_0 l Z a0 hw [] G1 G3 HG h0 n0 X00 x t kt hp0 hp1 hp2 hp3) hZ (w61 hw) (w10 hw) (by decide) (by decide)) q_4 q_6 (g := (mkF m 3 #[VR x, VI 31] [(.int 0), (.int 31), (.ref x)])) rfl (by rw [hml]; rfl) (Steps.refl _) (argsL := [(.int 31), (.int 0)]) (rest := []) (lenOf pd_197 rfl) rfl (by show 2 * 0 + _ ≤ _; exact Nat.le_of_eq rfl) (hb hby d13_3) (fun _ _ => ⟨rfl, e0, (by decide : 0 + 0 ≤ _), (by decide : 0 + 0 ≤ _)⟩)
 dsimp only [Pt.U, Pt.locs, Pt.cells, Pt.slots] at X_1 l_1 y_1 z_1 st_1 hQ_1
 subst l_1 y_1 z_1
 obtain ⟨rfl, N_7, e_8⟩ := hQ_1
 have N_9 := Fr.app N0 N_7
 have e_10 : T_1.heap = h0 := e_8
 have C_11 : Steps p.tables e below S0 (T_1.setTop (mkF m 6 #[VR x, VI 31] [(.int (-1 : Int32))])) := by
  refine C0.trans ?_
  refine XS.aloadN X0.here hx rfl (hb hby d13_0) rfl rfl ?_
  refine XS.iloadN X0.here hx rfl (hb hby d13_1) rfl ?_
  refine XS.iconst X0.here hx rfl (hb hby d13_2) ?_
  refine st_1.trans ?_
  exact Steps.refl _
 obtain ⟨fs, hr, hrun, hended, hW, hsame⟩ := X_1.leave (v := some (.int (-1 : Int32))) (fun h => by rw [Bd.returns] at h; cases h)
 refine ⟨_, _, C_11.trans (retOut X_1 hx Bd.returns rfl (Or.inl ⟨rfl, Or.inl rfl, _, rfl⟩) (hb hby d13_6) hr), hrun, hended, _, _, rfl, ?_, ⟨_, rfl⟩, hW, hsame.mono (by decide) (by decide)⟩
 show Q_io1_0 Z G1 G3 x t kt h0 n0 (some (.int (-1 : Int32))) T_1.heap _
 rw [e_10]
 exact ⟨rfl, N_9, rfl⟩
abbrev M256 : MethodName := ⟨"java/lang/StringLatin1", "indexOfChar", "([BIII)I"⟩
theorem ef_257 (m : MethodId) (x0 : Addr) (x1 : Int32) (x2 : Int32) (x3 : Int32) : entryFrame m #[(.ref x0), (.int x1), (.int x2), (.int x3)] 6 = mkF m 0 #[VR x0, VI x1, VI x2, VI x3, .unset, .unset] [] := by first | (simp [entryFrame, mkF, argsToLocals, Value.category]; done) | rfl
theorem d14_0 : decode jdk_43_method_23_code 0 = .ok (.iload_n 1, 1) := by decide +kernel
theorem d14_1 : decode jdk_43_method_23_code 1 = .ok (.i2b, 1) := by decide +kernel
theorem d14_2 : decode jdk_43_method_23_code 2 = .ok (.istore 4, 2) := by decide +kernel
theorem d14_4 : decode jdk_43_method_23_code 4 = .ok (.iload_n 2, 1) := by decide +kernel
theorem d14_5 : decode jdk_43_method_23_code 5 = .ok (.istore 5, 2) := by decide +kernel
theorem d14_7 : decode jdk_43_method_23_code 7 = .ok (.iload 5, 2) := by decide +kernel
theorem d14_9 : decode jdk_43_method_23_code 9 = .ok (.iload_n 3, 1) := by decide +kernel
theorem d14_10 : decode jdk_43_method_23_code 10 = .ok (.if_icmp .ge 21, 3) := by decide +kernel
theorem d14_13 : decode jdk_43_method_23_code 13 = .ok (.aload_n 0, 1) := by decide +kernel
theorem d14_14 : decode jdk_43_method_23_code 14 = .ok (.iload 5, 2) := by decide +kernel
theorem d14_16 : decode jdk_43_method_23_code 16 = .ok (.baload, 1) := by decide +kernel
theorem d14_17 : decode jdk_43_method_23_code 17 = .ok (.iload 4, 2) := by decide +kernel
theorem d14_19 : decode jdk_43_method_23_code 19 = .ok (.if_icmp .ne 6, 3) := by decide +kernel
theorem d14_22 : decode jdk_43_method_23_code 22 = .ok (.iload 5, 2) := by decide +kernel
theorem d14_24 : decode jdk_43_method_23_code 24 = .ok (.ireturn, 1) := by decide +kernel
theorem d14_25 : decode jdk_43_method_23_code 25 = .ok (.iinc 5 1, 3) := by decide +kernel
theorem d14_28 : decode jdk_43_method_23_code 28 = .ok (.goto (-21), 3) := by decide +kernel
theorem d14_31 : decode jdk_43_method_23_code 31 = .ok (.iconst (-1), 1) := by decide +kernel
theorem d14_32 : decode jdk_43_method_23_code 32 = .ok (.ireturn, 1) := by decide +kernel
abbrev R_ioc_1 : Room := { frames := 0, cells := 0, slots := 0, locals := 0 }
def Q_ioc_1 (Z : State) (G1 : Int32) (G3 : Value) (t : Addr) (kt : ClassId) (y0 : Int32) (h0 : Heap) (n0 : Nat) (v : Option Value) (h : Heap) (L : List Loc) : Prop := (v = some (.int 0) ∧ Fr n0 L ∧ h = h0 ∧ (y0 = (31 : Int32))) ∨ (v = some (.int (-1 : Int32)) ∧ Fr n0 L ∧ h = h0 ∧ (¬ (y0 = (31 : Int32))))
theorem rm_ioc_1 (l : Launch) (Z : State) (a0 : Array Value) (hw : HW Z a0) (ws : List Jvm.Cond) (G1 : Int32) (G3 : Value) (HG : own_G l Z a0 G1 G3) (h0 : Heap) (n0 : Nat) (X00 : Old Z n0 h0) (t : Addr) (kt : ClassId) (y0 : Int32) (hp0 : Arv Z h0 t kt .byte (1 : Int32) [(.int y0)] (.int 0)) :
  own_CP l Z M256 jdk_43_method_23_code 6 (some .int) ws R_ioc_1 #[(.ref t), (.int 31), (.int 0), (.int 1)] h0 (Q_ioc_1 Z G1 G3 t kt y0 h0 n0) := by
 refine own_P (plainFor_of_name pn_157) ?_
 intro p e s m below meth c s₁ S0 Bd hZ hh hx hby hml hown hnm X0 e0 hS0d
 obtain ⟨O1, P1, O3f, rG3⟩ := id HG
 have N0 := Fr.nil n0
 have C0 : Steps p.tables e below S0 (s₁.setTop (mkF m 0 #[VR t, VI 31, VI 0, VI 1, .unset, .unset] [])) := by rw [hS0d]; exact castTop (ef_257 m t (31 : Int32) (0 : Int32) (1 : Int32)) (Steps.refl _)
 obtain ⟨c_1, A_2, q_3, S_4, M_5, H_6, U_7⟩ := id hp0
 have hin_8 : ¬ ((0 : Int32) < 0 ∨ c_1.slots.size ≤ (0 : Int32).toNatClampNeg) := inb_of S_4 ⟨(by decide : ¬ ((0 : Int32) < (0 : Int32))), (by decide : (0 : Int32) < (1 : Int32))⟩
 have hat_9 : c_1.slots[(0 : Int32).toNatClampNeg]? = some (.int y0) := Has.at H_6 hin_8 rfl
 have C_10 : Steps p.tables e below S0 (s₁.setTop (mkF m 19 #[VR t, VI 31, VI 0, VI 1, VI 31, VI 0] [(.int 31), (.int y0)])) := by
  refine C0.trans ?_
  refine XS.iloadN X0.here hx rfl (hb hby d14_0) rfl ?_
  refine XS.i2b X0.here hx rfl (hb hby d14_1) rfl ?_
  refine XS.istore X0.here hx rfl (hb hby d14_2) rfl (l' := #[VR t, VI 31, VI 0, VI 1, VI 31, .unset]) rfl ?_
  refine XS.iloadN X0.here hx rfl (hb hby d14_4) rfl ?_
  refine XS.istore X0.here hx rfl (hb hby d14_5) rfl (l' := #[VR t, VI 31, VI 0, VI 1, VI 31, VI 0]) rfl ?_
  refine XS.iload X0.here hx rfl (hb hby d14_7) rfl ?_
  refine XS.iloadN X0.here hx rfl (hb hby d14_9) rfl ?_
  refine XS.icmpNo X0.here hx rfl (hb hby d14_10) rfl (by decide) ?_
  refine XS.aloadN X0.here hx rfl (hb hby d14_13) rfl rfl ?_
  refine XS.iload X0.here hx rfl (hb hby d14_14) rfl ?_
  refine X0.baloadBytes hx (j := (0 : Int32)) (v := (.int y0)) (by rw [e0]; exact A_2.1) (State.isArrayOf_alike hZ.alike A_2.2.1) A_2.2.2 hin_8 hat_9 (g := (mkF m 16 #[VR t, VI 31, VI 0, VI 1, VI 31, VI 0] [(.int 0), (.ref t)])) rfl rfl (hb hby d14_16) _ ?_
  refine XS.iload X0.here hx rfl (hb hby d14_17) rfl ?_
  exact Steps.refl _
 by_cases hc_11 : y0 = (31 : Int32)
 ·skip
  have C_12 : Steps p.tables e below S0 (s₁.setTop (mkF m 24 #[VR t, VI 31, VI 0, VI 1, VI 31, VI 0] [(.int 0)])) := by
   refine C_10.trans ?_
   refine XS.icmpNo X0.here hx rfl (hb hby d14_19) rfl (ii_ne_f hc_11) ?_
   refine XS.iload X0.here hx rfl (hb hby d14_22) rfl ?_
   exact Steps.refl _
  obtain ⟨fs, hr, hrun, hended, hW, hsame⟩ := X0.leave (v := some (.int 0)) (fun h => by rw [Bd.returns] at h; cases h)
  refine ⟨_, _, C_12.trans (retOut X0 hx Bd.returns rfl (Or.inl ⟨rfl, Or.inl rfl, _, rfl⟩) (hb hby d14_24) hr), hrun, hended, _, _, rfl, ?_, ⟨_, rfl⟩, hW, hsame.mono (by decide) (by decide)⟩
  show Q_ioc_1 Z G1 G3 t kt y0 h0 n0 (some (.int 0)) s₁.heap _
  rw [e0]
  exact Or.inl ⟨rfl, N0, rfl, hc_11⟩
 ·skip
  have C_13 : Steps p.tables e below S0 (s₁.setTop (mkF m 32 #[VR t, VI 31, VI 0, VI 1, VI 31, VI 1] [(.int (-1 : Int32))])) := by
   refine C_10.trans ?_
   refine XS.icmpYes X0.here hx rfl (pc0 := 19) (pc' := 25) rfl (hb hby d14_19) rfl (ii_ne_t hc_11) (by decide) (by decide) ?_
   refine XS.iinc X0.here hx rfl (hb hby d14_25) (x := (0 : Int32)) rfl (l' := #[VR t, VI 31, VI 0, VI 1, VI 31, VI 1]) rfl ?_
   refine XS.goto X0.here hx rfl (pc0 := 28) (pc' := 7) rfl (hb hby d14_28) (by decide) (by decide) ?_
   refine XS.iload X0.here hx rfl (hb hby d14_7) rfl ?_
   refine XS.iloadN X0.here hx rfl (hb hby d14_9) rfl ?_
   refine XS.icmpYes X0.here hx rfl (pc0 := 10) (pc' := 31) rfl (hb hby d14_10) rfl (by decide) (by decide) (by decide) ?_
   refine XS.iconst X0.here hx rfl (hb hby d14_31) ?_
   exact Steps.refl _
  obtain ⟨fs, hr, hrun, hended, hW, hsame⟩ := X0.leave (v := some (.int (-1 : Int32))) (fun h => by rw [Bd.returns] at h; cases h)
  refine ⟨_, _, C_13.trans (retOut X0 hx Bd.returns rfl (Or.inl ⟨rfl, Or.inl rfl, _, rfl⟩) (hb hby d14_32) hr), hrun, hended, _, _, rfl, ?_, ⟨_, rfl⟩, hW, hsame.mono (by decide) (by decide)⟩
  show Q_ioc_1 Z G1 G3 t kt y0 h0 n0 (some (.int (-1 : Int32))) s₁.heap _
  rw [e0]
  exact Or.inr (⟨rfl, N0, rfl, hc_11⟩)
theorem d11_29 : decode jdk_43_method_22_code 29 = .ok (.aload_n 0, 1) := by decide +kernel
theorem d11_30 : decode jdk_43_method_22_code 30 = .ok (.iload_n 1, 1) := by decide +kernel
theorem d11_31 : decode jdk_43_method_22_code 31 = .ok (.iload_n 2, 1) := by decide +kernel
theorem d11_32 : decode jdk_43_method_22_code 32 = .ok (.iload_n 3, 1) := by decide +kernel
theorem w120 {Z a0} (hw : HW Z a0) : Cond.before (Cond.code (⟨"java/lang/StringLatin1", "indexOfChar", "([BIII)I"⟩ : MethodName) jdk_43_method_23_code (6 : Nat) (Option.some FieldType.int)) a0 Z = true := hw _ (List.mem_of_getElem? (i := 120) rfl)
theorem d11_33 : decode jdk_43_method_22_code 33 = .ok (.invokestatic 95, 3) := by decide +kernel
theorem w118 {Z a0} (hw : HW Z a0) : Cond.before (Cond.methodLink "java/lang/StringLatin1" (95 : Nat) (⟨"java/lang/StringLatin1", "indexOfChar", "([BIII)I"⟩ : MethodName)) a0 Z = true := hw _ (List.mem_of_getElem? (i := 118) rfl)
theorem w119 {Z a0} (hw : HW Z a0) : Cond.before (Cond.static (⟨"java/lang/StringLatin1", "indexOfChar", "([BIII)I"⟩ : MethodName)) a0 Z = true := hw _ (List.mem_of_getElem? (i := 119) rfl)
theorem d11_36 : decode jdk_43_method_22_code 36 = .ok (.ireturn, 1) := by decide +kernel
abbrev R_lio_1 : Room := { frames := 1, cells := 0, slots := 0, locals := 17 }
def Q_lio_1 (Z : State) (G1 : Int32) (G3 : Value) (t : Addr) (kt : ClassId) (y0 : Int32) (h0 : Heap) (n0 : Nat) (v : Option Value) (h : Heap) (L : List Loc) : Prop := (v = some (.int 0) ∧ Fr n0 L ∧ h = h0 ∧ (y0 = (31 : Int32))) ∨ (v = some (.int (-1 : Int32)) ∧ Fr n0 L ∧ h = h0 ∧ (¬ (y0 = (31 : Int32))))
theorem rm_lio_1 (l : Launch) (Z : State) (a0 : Array Value) (hw : HW Z a0) (ws : List Jvm.Cond) (G1 : Int32) (G3 : Value) (HG : own_G l Z a0 G1 G3) (h0 : Heap) (n0 : Nat) (X00 : Old Z n0 h0) (t : Addr) (kt : ClassId) (y0 : Int32) (hp0 : Arv Z h0 t kt .byte (1 : Int32) [(.int y0)] (.int 0)) :
  own_CP l Z M183 jdk_43_method_22_code 4 (some .int) ws R_lio_1 #[(.ref t), (.int 31), (.int 0), (.int 1)] h0 (Q_lio_1 Z G1 G3 t kt y0 h0 n0) := by
 refine own_P (plainFor_of_name pn_157) ?_
 intro p e s m below meth c s₁ S0 Bd hZ hh hx hby hml hown hnm X0 e0 hS0d
 obtain ⟨O1, P1, O3f, rG3⟩ := id HG
 have N0 := Fr.nil n0
 have C0 : Steps p.tables e below S0 (s₁.setTop (mkF m 0 #[VR t, VI 31, VI 0, VI 1] [])) := by rw [hS0d]; exact castTop (ef_184 m t (31 : Int32) (0 : Int32) (1 : Int32)) (Steps.refl _)
 obtain ⟨_, _, ⟨T_1, L_1, k_1, n_1⟩, -, X_1, ⟨Lc_1, hQ_1, l_1, y_1, z_1⟩, st_1⟩ := Jvm.LawKit.callS X0 hx (y := M155) hown (mvT hZ (w82 hw)) (mvT hZ (w83 hw)) (mvT hZ (w80 hw)) (mvT hZ (w84 hw)) (by decide) (backOf (W := 0) (rm_cei_31 l Z a0 hw [] G1 G3 HG h0 n0 X00  ) hZ (w84 hw) (w80 hw) (by decide) (by decide)) (g := (mkF m 1 #[VR t, VI 31, VI 0, VI 1] [(.int 31)])) rfl (by rw [hml]; rfl) (argsL := [(.int 31)]) (rest := []) (lenOf pd_188 rfl) rfl (by show 2 * 0 + _ ≤ _; exact Nat.le_of_eq rfl) (hb hby d11_1) (fun _ _ => ⟨rfl, e0, (by decide : 0 + 0 ≤ _), (by decide : 0 + 0 ≤ _)⟩)
 dsimp only [Pt.U, Pt.locs, Pt.cells, Pt.slots] at X_1 l_1 y_1 z_1 st_1 hQ_1
 subst l_1 y_1 z_1
 obtain ⟨rfl, N_2, e_3⟩ := hQ_1
 have N_4 := Fr.app N0 N_2
 have e_5 : T_1.heap = h0 := e_3
 obtain ⟨_, _, ⟨T_6, L_6, k_6, n_6⟩, -, X_6, ⟨Lc_6, hQ_6, l_6, y_6, z_6⟩, st_6⟩ := Jvm.LawKit.callS X_1 hx (y := M166) hown (mvT hZ (w85 hw)) (mvT hZ (w86 hw)) (mvT hZ (w87 hw)) (mvT hZ (w88 hw)) (by decide) (backOf (W := 0) (rm_maxL l Z a0 hw [] G1 G3 HG h0 n0 X00 (0 : Int32) (0 : Int32) (by decide)) hZ (w88 hw) (w87 hw) (by decide) (by decide)) (g := (mkF m 11 #[VR t, VI 31, VI 0, VI 1] [(.int 0), (.int 0)])) rfl (by rw [hml]; rfl) (argsL := [(.int 0), (.int 0)]) (rest := []) (lenOf pd_197 rfl) rfl (by show 2 * 0 + _ ≤ _; exact Nat.le_of_eq rfl) (hb hby d11_11) (fun _ _ => ⟨rfl, e_5, (by decide : 0 + 0 ≤ _), (by decide : 0 + 0 ≤ _)⟩)
 dsimp only [Pt.U, Pt.locs, Pt.cells, Pt.slots] at X_6 l_6 y_6 z_6 st_6 hQ_6
 subst l_6 y_6 z_6
 obtain ⟨rfl, N_7, e_8⟩ := hQ_6
 have N_9 := Fr.app N_4 N_7
 have e_10 : T_6.heap = h0 := e_8
 obtain ⟨c_11, A_12, q_13, S_14, M_15, H_16, U_17⟩ := id hp0
 obtain ⟨_, _, ⟨T_18, L_18, k_18, n_18⟩, -, X_18, ⟨Lc_18, hQ_18, l_18, y_18, z_18⟩, st_18⟩ := Jvm.LawKit.callS X_6 hx (y := M175) hown (mvT hZ (w89 hw)) (mvT hZ (w90 hw)) (mvT hZ (w87 hw)) (mvT hZ (w91 hw)) (by decide) (backOf (W := 0) (rm_minL l Z a0 hw [] G1 G3 HG h0 n0 X00 (1 : Int32) (1 : Int32) (by decide)) hZ (w91 hw) (w87 hw) (by decide) (by decide)) (g := (mkF m 18 #[VR t, VI 31, VI 0, VI 1] [(.int 1), (.int 1)])) rfl (by rw [hml]; rfl) (argsL := [(.int 1), (.int 1)]) (rest := []) (lenOf pd_197 rfl) rfl (by show 2 * 0 + _ ≤ _; exact Nat.le_of_eq rfl) (hb hby d11_18) (fun _ _ => ⟨rfl, e_10, (by decide : 0 + 0 ≤ _), (by decide : 0 + 0 ≤ _)⟩)
 dsimp only [Pt.U, Pt.locs, Pt.cells, Pt.slots] at X_18 l_18 y_18 z_18 st_18 hQ_18
 subst l_18 y_18 z_18
 obtain ⟨rfl, N_19, e_20⟩ := hQ_18
 have N_21 := Fr.app N_9 N_19
 have e_22 : T_18.heap = h0 := e_20
 obtain ⟨_, _, ⟨T_23, L_23, k_23, n_23⟩, -, X_23, ⟨Lc_23, hQ_23, l_23, y_23, z_23⟩, st_23⟩ := Jvm.LawKit.callS X_18 hx (y := M256) hown (mvT hZ (w118 hw)) (mvT hZ (w119 hw)) (mvT hZ (w80 hw)) (mvT hZ (w120 hw)) (by decide) (backOf (W := 0) (rm_ioc_1 l Z a0 hw [] G1 G3 HG h0 n0 X00 t kt y0 hp0) hZ (w120 hw) (w80 hw) (by decide) (by decide)) (g := (mkF m 33 #[VR t, VI 31, VI 0, VI 1] [(.int 1), (.int 0), (.int 31), (.ref t)])) rfl (by rw [hml]; rfl) (argsL := [(.ref t), (.int 31), (.int 0), (.int 1)]) (rest := []) (lenOf pd_239 rfl) rfl (by show 2 * 0 + _ ≤ _; exact Nat.le_of_eq rfl) (hb hby d11_33) (fun _ _ => ⟨rfl, e_22, (by decide : 0 + 0 ≤ _), (by decide : 0 + 0 ≤ _)⟩)
 dsimp only [Pt.U, Pt.locs, Pt.cells, Pt.slots] at X_23 l_23 y_23 z_23 st_23 hQ_23
 subst l_23 y_23 z_23
 have C_24 : Steps p.tables e below S0 (T_18.setTop (mkF m 33 #[VR t, VI 31, VI 0, VI 1] [(.int 1), (.int 0), (.int 31), (.ref t)])) := by
  refine C0.trans ?_
  refine XS.iloadN X0.here hx rfl (hb hby d11_0) rfl ?_
  refine st_1 _ ?_
  refine XS.ifYes X_1.here hx rfl (pc0 := 4) (pc' := 9) rfl (hb hby d11_4) rfl (by decide) (by decide) (by decide) ?_
  refine XS.iloadN X_1.here hx rfl (hb hby d11_9) rfl ?_
  refine XS.iconst X_1.here hx rfl (hb hby d11_10) ?_
  refine st_6 _ ?_
  refine XS.istoreN X_6.here hx rfl (hb hby d11_14) rfl (l' := #[VR t, VI 31, VI 0, VI 1]) rfl ?_
  refine XS.iloadN X_6.here hx rfl (hb hby d11_15) rfl ?_
  refine XS.aloadN X_6.here hx rfl (hb hby d11_16) rfl rfl ?_
  refine X_6.arraylength hx (by rw [e_10]; exact A_12.1) (State.isArrayOf_alike hZ.alike A_12.2.1) (g := (mkF m 17 #[VR t, VI 31, VI 0, VI 1] [(.ref t), (.int 1)])) rfl rfl (hb hby d11_17) _ ?_
  rw [len_of S_14 M_15]
  refine st_18 _ ?_
  refine XS.istoreN X_18.here hx rfl (hb hby d11_21) rfl (l' := #[VR t, VI 31, VI 0, VI 1]) rfl ?_
  refine XS.iloadN X_18.here hx rfl (hb hby d11_22) rfl ?_
  refine XS.iloadN X_18.here hx rfl (hb hby d11_23) rfl ?_
  refine XS.icmpYes X_18.here hx rfl (pc0 := 24) (pc' := 29) rfl (hb hby d11_24) rfl (by decide) (by decide) (by decide) ?_
  refine XS.aloadN X_18.here hx rfl (hb hby d11_29) rfl rfl ?_
  show Steps p.tables e below (T_18.setTop (mkF m 30 #[VR t, VI 31, VI 0, VI 1] [(.ref t)])) _
  refine XS.iloadN X_18.here hx rfl (hb hby d11_30) rfl ?_
  refine XS.iloadN X_18.here hx rfl (hb hby d11_31) rfl ?_
  refine XS.iloadN X_18.here hx rfl (hb hby d11_32) rfl ?_
  exact Steps.refl _
 rcases hQ_23 with hQ_25 | hQ_26
 ·skip
  obtain ⟨rfl, N_27, e_28, g_29⟩ := hQ_25
  have N_30 := Fr.app N_21 N_27
  have e_31 : T_23.heap = h0 := e_28
  have C_32 : Steps p.tables e below S0 (T_23.setTop (mkF m 36 #[VR t, VI 31, VI 0, VI 1] [(.int 0)])) := by
   refine C_24.trans ?_
   refine st_23 _ ?_
   exact Steps.refl _
  obtain ⟨fs, hr, hrun, hended, hW, hsame⟩ := X_23.leave (v := some (.int 0)) (fun h => by rw [Bd.returns] at h; cases h)
  refine ⟨_, _, C_32.trans (retOut X_23 hx Bd.returns rfl (Or.inl ⟨rfl, Or.inl rfl, _, rfl⟩) (hb hby d11_36) hr), hrun, hended, _, _, rfl, ?_, ⟨_, rfl⟩, hW, hsame.mono (by decide) (by decide)⟩
  show Q_lio_1 Z G1 G3 t kt y0 h0 n0 (some (.int 0)) T_23.heap _
  rw [e_31]
  exact Or.inl ⟨rfl, N_30, rfl, g_29⟩
 ·skip
  obtain ⟨rfl, N_33, e_34, g_35⟩ := hQ_26
  have N_36 := Fr.app N_21 N_33
  have e_37 : T_23.heap = h0 := e_34
  have C_38 : Steps p.tables e below S0 (T_23.setTop (mkF m 36 #[VR t, VI 31, VI 0, VI 1] [(.int (-1 : Int32))])) := by
   refine C_24.trans ?_
   refine st_23 _ ?_
   exact Steps.refl _
  obtain ⟨fs, hr, hrun, hended, hW, hsame⟩ := X_23.leave (v := some (.int (-1 : Int32))) (fun h => by rw [Bd.returns] at h; cases h)
  refine ⟨_, _, C_38.trans (retOut X_23 hx Bd.returns rfl (Or.inl ⟨rfl, Or.inl rfl, _, rfl⟩) (hb hby d11_36) hr), hrun, hended, _, _, rfl, ?_, ⟨_, rfl⟩, hW, hsame.mono (by decide) (by decide)⟩
  show Q_lio_1 Z G1 G3 t kt y0 h0 n0 (some (.int (-1 : Int32))) T_23.heap _
  rw [e_37]
  exact Or.inr (⟨rfl, N_36, rfl, g_35⟩)
abbrev R_io2_1 : Room := { frames := 2, cells := 0, slots := 0, locals := 32 }
def Q_io2_1 (Z : State) (G1 : Int32) (G3 : Value) (x : Addr) (t : Addr) (kt : ClassId) (y0 : Int32) (h0 : Heap) (n0 : Nat) (v : Option Value) (h : Heap) (L : List Loc) : Prop := (v = some (.int 0) ∧ Fr n0 L ∧ h = h0 ∧ (y0 = (31 : Int32))) ∨ (v = some (.int (-1 : Int32)) ∧ Fr n0 L ∧ h = h0 ∧ (¬ (y0 = (31 : Int32))))
theorem rm_io2_1 (l : Launch) (Z : State) (a0 : Array Value) (hw : HW Z a0) (ws : List Jvm.Cond) (G1 : Int32) (G3 : Value) (HG : own_G l Z a0 G1 G3) (h0 : Heap) (n0 : Nat) (X00 : Old Z n0 h0) (x : Addr) (t : Addr) (kt : ClassId) (y0 : Int32) (hp0 : Exa Z h0 x "java/lang/String") (hp1 : Fld Z h0 x "java/lang/String" "coder" "B" (.int 0)) (hp2 : Fld Z h0 x "java/lang/String" "value" "[B" (.ref t)) (hp3 : Arv Z h0 t kt .byte (1 : Int32) [(.int y0)] (.int 0)) :
  own_CP l Z M215 jdk_42_method_80_code 3 (some .int) ws R_io2_1 #[(.ref x), (.int 31), (.int 0)] h0 (Q_io2_1 Z G1 G3 x t kt y0 h0 n0) := by
 refine own_P (plainFor_of_name pn_2) ?_
 intro p e s m below meth c s₁ S0 Bd hZ hh hx hby hml hown hnm X0 e0 hS0d
 obtain ⟨O1, P1, O3f, rG3⟩ := id HG
 have N0 := Fr.nil n0
 have C0 : Steps p.tables e below S0 (s₁.setTop (mkF m 0 #[VR x, VI 31, VI 0] [])) := by rw [hS0d]; exact castTop (ef_216 m x (31 : Int32) (0 : Int32)) (Steps.refl _)
 obtain ⟨q_2, q_3, q_4, q_5, q_6⟩ := isOf (T := s₁) hZ e0 hp0
 obtain ⟨_, _, ⟨T_1, L_1, k_1, n_1⟩, -, X_1, ⟨Lc_1, hQ_1, l_1, y_1, z_1⟩, st_1⟩ := X0.virtualBack hx (y := M132) (z := M132) hown (mvT hZ (w62 hw)) (mvT hZ (w63 hw)) (notFace_of_selects (args := #[]) (mvT hZ (w65 hw))) (mvT hZ (w65 hw)) (mvT hZ (w64 hw)) (by decide) (backOf (W := 0) (rm_islat l Z a0 hw [] G1 G3 HG h0 n0 X00 x hp1) hZ (w66 hw) (w10 hw) (by decide) (by decide)) q_4 q_6 (g := (mkF m 1 #[VR x, VI 31, VI 0] [(.ref x)])) rfl (by rw [hml]; rfl) (Steps.refl _) (argsL := []) (rest := []) (lenOf pd_219 rfl) rfl (by show 2 * 0 + _ ≤ _; exact Nat.le_of_eq rfl) (hb hby d12_1) (fun _ _ => ⟨rfl, e0, (by decide : 0 + 0 ≤ _), (by decide : 0 + 0 ≤ _)⟩)
 dsimp only [Pt.U, Pt.locs, Pt.cells, Pt.slots] at X_1 l_1 y_1 z_1 st_1 hQ_1
 subst l_1 y_1 z_1
 obtain ⟨rfl, N_7, e_8⟩ := hQ_1
 have N_9 := Fr.app N0 N_7
 have e_10 : T_1.heap = h0 := e_8
 obtain ⟨T_11, X_12, e_13, st_14⟩ := getF X_1 hx hZ hown (host := "") (Or.inl (w28 hw)) Via.refl e_10 hp2 (g := (mkF m 8 #[VR x, VI 31, VI 0] [(.ref x)])) rfl rfl (hb hby d12_8)
 obtain ⟨q_16, q_17, q_18, q_19, q_20⟩ := isOf (T := T_11) hZ e_13 hp0
 obtain ⟨_, _, ⟨T_15, L_15, k_15, n_15⟩, -, X_15, ⟨Lc_15, hQ_15, l_15, y_15, z_15⟩, st_15⟩ := X_12.virtualBack hx (y := M141) (z := M141) hown (mvT hZ (w68 hw)) (mvT hZ (w69 hw)) (notFace_of_selects (args := #[]) (mvT hZ (w71 hw))) (mvT hZ (w71 hw)) (mvT hZ (w70 hw)) (by decide) (backOf (W := 3) (rm_lenany l Z a0 hw [] G1 G3 HG h0 n0 X00 x t kt (1 : Int32) [(.int y0)] hp0 hp1 hp2 hp3) hZ (w72 hw) (w10 hw) (by decide) (by decide)) q_18 q_20 (g := (mkF m 14 #[VR x, VI 31, VI 0] [(.ref x), (.int 0), (.int 31), (.ref t)])) rfl (by rw [hml]; rfl) (Steps.refl _) (argsL := []) (rest := [(.int 0), (.int 31), (.ref t)]) (lenOf pd_232 rfl) rfl (by show 2 * 0 + _ ≤ _; exact Nat.le_of_eq rfl) (hb hby d12_14) (fun _ _ => ⟨rfl, e_13, (by decide : 0 + 0 ≤ _), (by decide : 0 + 0 ≤ _)⟩)
 dsimp only [Pt.U, Pt.locs, Pt.cells, Pt.slots] at X_15 l_15 y_15 z_15 st_15 hQ_15
 subst l_15 y_15 z_15
 obtain ⟨rfl, N_21, e_22⟩ := hQ_15
 have N_23 := Fr.app N_9 N_21
 have e_24 : T_15.heap = h0 := e_22
 obtain ⟨_, _, ⟨T_25, L_25, k_25, n_25⟩, -, X_25, ⟨Lc_25, hQ_25, l_25, y_25, z_25⟩, st_25⟩ := Jvm.LawKit.callS X_15 hx (y := M183) hown (mvT hZ (w78 hw)) (mvT hZ (w79 hw)) (mvT hZ (w80 hw)) (mvT hZ (w81 hw)) (by decide) (backOf (W := 0) (rm_lio_1 l Z a0 hw [] G1 G3 HG h0 n0 X00 t kt y0 hp3) hZ (w81 hw) (w80 hw) (by decide) (by decide)) (g := (mkF m 17 #[VR x, VI 31, VI 0] [(.int 1), (.int 0), (.int 31), (.ref t)])) rfl (by rw [hml]; rfl) (argsL := [(.ref t), (.int 31), (.int 0), (.int 1)]) (rest := []) (lenOf pd_239 rfl) rfl (by show 2 * 0 + _ ≤ _; exact Nat.le_of_eq rfl) (hb hby d12_17) (fun _ _ => ⟨rfl, e_24, (by decide : 0 + 0 ≤ _), (by decide : 0 + 0 ≤ _)⟩)
 dsimp only [Pt.U, Pt.locs, Pt.cells, Pt.slots] at X_25 l_25 y_25 z_25 st_25 hQ_25
 subst l_25 y_25 z_25
 have C_26 : Steps p.tables e below S0 (T_15.setTop (mkF m 17 #[VR x, VI 31, VI 0] [(.int 1), (.int 0), (.int 31), (.ref t)])) := by
  refine C0.trans ?_
  refine XS.aloadN X0.here hx rfl (hb hby d12_0) rfl rfl ?_
  refine st_1.trans ?_
  refine XS.ifNo X_1.here hx rfl (hb hby d12_4) rfl (by decide) ?_
  refine XS.aloadN X_1.here hx rfl (hb hby d12_7) rfl rfl ?_
  refine st_14 _ ?_
  refine XS.iloadN X_12.here hx rfl (hb hby d12_11) rfl ?_
  refine XS.iloadN X_12.here hx rfl (hb hby d12_12) rfl ?_
  refine XS.aloadN X_12.here hx rfl (hb hby d12_13) rfl rfl ?_
  refine st_15.trans ?_
  exact Steps.refl _
 rcases hQ_25 with hQ_27 | hQ_28
 ·skip
  obtain ⟨rfl, N_29, e_30, g_31⟩ := hQ_27
  have N_32 := Fr.app N_23 N_29
  have e_33 : T_25.heap = h0 := e_30
  have C_34 : Steps p.tables e below S0 (T_25.setTop (mkF m 36 #[VR x, VI 31, VI 0] [(.int 0)])) := by
   refine C_26.trans ?_
   refine st_25 _ ?_
   refine XS.goto X_25.here hx rfl (pc0 := 20) (pc' := 36) rfl (hb hby d12_20) (by decide) (by decide) ?_
   exact Steps.refl _
  obtain ⟨fs, hr, hrun, hended, hW, hsame⟩ := X_25.leave (v := some (.int 0)) (fun h => by rw [Bd.returns] at h; cases h)
  refine ⟨_, _, C_34.trans (retOut X_25 hx Bd.returns rfl (Or.inl ⟨rfl, Or.inl rfl, _, rfl⟩) (hb hby d12_36) hr), hrun, hended, _, _, rfl, ?_, ⟨_, rfl⟩, hW, hsame.mono (by decide) (by decide)⟩
  show Q_io2_1 Z G1 G3 x t kt y0 h0 n0 (some (.int 0)) T_25.heap _
  rw [e_33]
  exact Or.inl ⟨rfl, N_32, rfl, g_31⟩
 ·skip
  obtain ⟨rfl, N_35, e_36, g_37⟩ := hQ_28
  have N_38 := Fr.app N_23 N_35
  have e_39 : T_25.heap = h0 := e_36
  have C_40 : Steps p.tables e below S0 (T_25.setTop (mkF m 36 #[VR x, VI 31, VI 0] [(.int (-1 : Int32))])) := by
   refine C_26.trans ?_
   refine st_25 _ ?_
   refine XS.goto X_25.here hx rfl (pc0 := 20) (pc' := 36) rfl (hb hby d12_20) (by decide) (by decide) ?_
   exact Steps.refl _
  obtain ⟨fs, hr, hrun, hended, hW, hsame⟩ := X_25.leave (v := some (.int (-1 : Int32))) (fun h => by rw [Bd.returns] at h; cases h)
  refine ⟨_, _, C_40.trans (retOut X_25 hx Bd.returns rfl (Or.inl ⟨rfl, Or.inl rfl, _, rfl⟩) (hb hby d12_36) hr), hrun, hended, _, _, rfl, ?_, ⟨_, rfl⟩, hW, hsame.mono (by decide) (by decide)⟩
  show Q_io2_1 Z G1 G3 x t kt y0 h0 n0 (some (.int (-1 : Int32))) T_25.heap _
  rw [e_39]
  exact Or.inr (⟨rfl, N_38, rfl, g_37⟩)
abbrev R_io1_1 : Room := { frames := 3, cells := 0, slots := 0, locals := 46 }
def Q_io1_1 (Z : State) (G1 : Int32) (G3 : Value) (x : Addr) (t : Addr) (kt : ClassId) (y0 : Int32) (h0 : Heap) (n0 : Nat) (v : Option Value) (h : Heap) (L : List Loc) : Prop := (v = some (.int 0) ∧ Fr n0 L ∧ h = h0 ∧ (y0 = (31 : Int32))) ∨ (v = some (.int (-1 : Int32)) ∧ Fr n0 L ∧ h = h0 ∧ (¬ (y0 = (31 : Int32))))
theorem rm_io1_1 (l : Launch) (Z : State) (a0 : Array Value) (hw : HW Z a0) (ws : List Jvm.Cond) (G1 : Int32) (G3 : Value) (HG : own_G l Z a0 G1 G3) (h0 : Heap) (n0 : Nat) (X00 : Old Z n0 h0) (x : Addr) (t : Addr) (kt : ClassId) (y0 : Int32) (hp0 : Exa Z h0 x "java/lang/String") (hp1 : Fld Z h0 x "java/lang/String" "coder" "B" (.int 0)) (hp2 : Fld Z h0 x "java/lang/String" "value" "[B" (.ref t)) (hp3 : Arv Z h0 t kt .byte (1 : Int32) [(.int y0)] (.int 0)) :
  own_CP l Z M245 jdk_42_method_79_code 2 (some .int) ws R_io1_1 #[(.ref x), (.int 31)] h0 (Q_io1_1 Z G1 G3 x t kt y0 h0 n0) := by
 refine own_P (plainFor_of_name pn_2) ?_
 intro p e s m below meth c s₁ S0 Bd hZ hh hx hby hml hown hnm X0 e0 hS0d
 obtain ⟨O1, P1, O3f, rG3⟩ := id HG
 have N0 := Fr.nil n0
 have C0 : Steps p.tables e below S0 (s₁.setTop (mkF m 0 #[VR x, VI 31] [])) := by rw [hS0d]; exact castTop (ef_90 m x (31 : Int32)) (Steps.refl _)
 obtain ⟨q_2, q_3, q_4, q_5, q_6⟩ := isOf (T := s₁) hZ e0 hp0
 obtain ⟨_, _, ⟨T_1, L_1, k_1, n_1⟩, -, X_1, ⟨Lc_1, hQ_1, l_1, y_1, z_1⟩, st_1⟩ := X0.virtualBack hx (y := M215) (z := M215) hown (mvT hZ (w57 hw)) (mvT hZ (w58 hw)) (notFace_of_selects (args := #[]) (mvT hZ (w60 hw))) (mvT hZ (w60 hw)) (mvT hZ (w59 hw)) (by decide) (backOf (W := 0) (rm_io2_1 l Z a0 hw [] G1 G3 HG h0 n0 X00 x t kt y0 hp0 hp1 hp2 hp3) hZ (w61 hw) (w10 hw) (by decide) (by decide)) q_4 q_6 (g := (mkF m 3 #[VR x, VI 31] [(.int 0), (.int 31), (.ref x)])) rfl (by rw [hml]; rfl) (Steps.refl _) (argsL := [(.int 31), (.int 0)]) (rest := []) (lenOf pd_197 rfl) rfl (by show 2 * 0 + _ ≤ _; exact Nat.le_of_eq rfl) (hb hby d13_3) (fun _ _ => ⟨rfl, e0, (by decide : 0 + 0 ≤ _), (by decide : 0 + 0 ≤ _)⟩)
 dsimp only [Pt.U, Pt.locs, Pt.cells, Pt.slots] at X_1 l_1 y_1 z_1 st_1 hQ_1
 subst l_1 y_1 z_1
 have C_7 : Steps p.tables e below S0 (s₁.setTop (mkF m 3 #[VR x, VI 31] [(.int 0), (.int 31), (.ref x)])) := by
  refine C0.trans ?_
  refine XS.aloadN X0.here hx rfl (hb hby d13_0) rfl rfl ?_
  refine XS.iloadN X0.here hx rfl (hb hby d13_1) rfl ?_
  refine XS.iconst X0.here hx rfl (hb hby d13_2) ?_
  exact Steps.refl _
 rcases hQ_1 with hQ_8 | hQ_9
 ·skip
  obtain ⟨rfl, N_10, e_11, g_12⟩ := hQ_8
  have N_13 := Fr.app N0 N_10
  have e_14 : T_1.heap = h0 := e_11
  have C_15 : Steps p.tables e below S0 (T_1.setTop (mkF m 6 #[VR x, VI 31] [(.int 0)])) := by
   refine C_7.trans ?_
   refine st_1.trans ?_
   exact Steps.refl _
  obtain ⟨fs, hr, hrun, hended, hW, hsame⟩ := X_1.leave (v := some (.int 0)) (fun h => by rw [Bd.returns] at h; cases h)
  refine ⟨_, _, C_15.trans (retOut X_1 hx Bd.returns rfl (Or.inl ⟨rfl, Or.inl rfl, _, rfl⟩) (hb hby d13_6) hr), hrun, hended, _, _, rfl, ?_, ⟨_, rfl⟩, hW, hsame.mono (by decide) (by decide)⟩
  show Q_io1_1 Z G1 G3 x t kt y0 h0 n0 (some (.int 0)) T_1.heap _
  rw [e_14]
  exact Or.inl ⟨rfl, N_13, rfl, g_12⟩
 ·skip
  obtain ⟨rfl, N_16, e_17, g_18⟩ := hQ_9
  have N_19 := Fr.app N0 N_16
  have e_20 : T_1.heap = h0 := e_17
  have C_21 : Steps p.tables e below S0 (T_1.setTop (mkF m 6 #[VR x, VI 31] [(.int (-1 : Int32))])) := by
   refine C_7.trans ?_
   refine st_1.trans ?_
   exact Steps.refl _
  obtain ⟨fs, hr, hrun, hended, hW, hsame⟩ := X_1.leave (v := some (.int (-1 : Int32))) (fun h => by rw [Bd.returns] at h; cases h)
  refine ⟨_, _, C_21.trans (retOut X_1 hx Bd.returns rfl (Or.inl ⟨rfl, Or.inl rfl, _, rfl⟩) (hb hby d13_6) hr), hrun, hended, _, _, rfl, ?_, ⟨_, rfl⟩, hW, hsame.mono (by decide) (by decide)⟩
  show Q_io1_1 Z G1 G3 x t kt y0 h0 n0 (some (.int (-1 : Int32))) T_1.heap _
  rw [e_20]
  exact Or.inr (⟨rfl, N_19, rfl, g_18⟩)
abbrev R_ioc_2 : Room := { frames := 0, cells := 0, slots := 0, locals := 0 }
def Q_ioc_2 (Z : State) (G1 : Int32) (G3 : Value) (t : Addr) (kt : ClassId) (y0 : Int32) (y1 : Int32) (h0 : Heap) (n0 : Nat) (v : Option Value) (h : Heap) (L : List Loc) : Prop := (v = some (.int 0) ∧ Fr n0 L ∧ h = h0 ∧ (y0 = (31 : Int32))) ∨ (v = some (.int 1) ∧ Fr n0 L ∧ h = h0 ∧ (¬ (y0 = (31 : Int32))) ∧ (y1 = (31 : Int32))) ∨ (v = some (.int (-1 : Int32)) ∧ Fr n0 L ∧ h = h0 ∧ (¬ (y0 = (31 : Int32))) ∧ (¬ (y1 = (31 : Int32))))
theorem rm_ioc_2 (l : Launch) (Z : State) (a0 : Array Value) (hw : HW Z a0) (ws : List Jvm.Cond) (G1 : Int32) (G3 : Value) (HG : own_G l Z a0 G1 G3) (h0 : Heap) (n0 : Nat) (X00 : Old Z n0 h0) (t : Addr) (kt : ClassId) (y0 : Int32) (y1 : Int32) (hp0 : Arv Z h0 t kt .byte (2 : Int32) [(.int y0), (.int y1)] (.int 0)) :
  own_CP l Z M256 jdk_43_method_23_code 6 (some .int) ws R_ioc_2 #[(.ref t), (.int 31), (.int 0), (.int 2)] h0 (Q_ioc_2 Z G1 G3 t kt y0 y1 h0 n0) := by
 refine own_P (plainFor_of_name pn_157) ?_
 intro p e s m below meth c s₁ S0 Bd hZ hh hx hby hml hown hnm X0 e0 hS0d
 obtain ⟨O1, P1, O3f, rG3⟩ := id HG
 have N0 := Fr.nil n0
 have C0 : Steps p.tables e below S0 (s₁.setTop (mkF m 0 #[VR t, VI 31, VI 0, VI 2, .unset, .unset] [])) := by rw [hS0d]; exact castTop (ef_257 m t (31 : Int32) (0 : Int32) (2 : Int32)) (Steps.refl _)
 obtain ⟨c_1, A_2, q_3, S_4, M_5, H_6, U_7⟩ := id hp0
 have hin_8 : ¬ ((0 : Int32) < 0 ∨ c_1.slots.size ≤ (0 : Int32).toNatClampNeg) := inb_of S_4 ⟨(by decide : ¬ ((0 : Int32) < (0 : Int32))), (by decide : (0 : Int32) < (2 : Int32))⟩
 have hat_9 : c_1.slots[(0 : Int32).toNatClampNeg]? = some (.int y0) := Has.at H_6 hin_8 rfl
 have C_10 : Steps p.tables e below S0 (s₁.setTop (mkF m 19 #[VR t, VI 31, VI 0, VI 2, VI 31, VI 0] [(.int 31), (.int y0)])) := by
  refine C0.trans ?_
  refine XS.iloadN X0.here hx rfl (hb hby d14_0) rfl ?_
  refine XS.i2b X0.here hx rfl (hb hby d14_1) rfl ?_
  refine XS.istore X0.here hx rfl (hb hby d14_2) rfl (l' := #[VR t, VI 31, VI 0, VI 2, VI 31, .unset]) rfl ?_
  refine XS.iloadN X0.here hx rfl (hb hby d14_4) rfl ?_
  refine XS.istore X0.here hx rfl (hb hby d14_5) rfl (l' := #[VR t, VI 31, VI 0, VI 2, VI 31, VI 0]) rfl ?_
  refine XS.iload X0.here hx rfl (hb hby d14_7) rfl ?_
  refine XS.iloadN X0.here hx rfl (hb hby d14_9) rfl ?_
  refine XS.icmpNo X0.here hx rfl (hb hby d14_10) rfl (by decide) ?_
  refine XS.aloadN X0.here hx rfl (hb hby d14_13) rfl rfl ?_
  refine XS.iload X0.here hx rfl (hb hby d14_14) rfl ?_
  refine X0.baloadBytes hx (j := (0 : Int32)) (v := (.int y0)) (by rw [e0]; exact A_2.1) (State.isArrayOf_alike hZ.alike A_2.2.1) A_2.2.2 hin_8 hat_9 (g := (mkF m 16 #[VR t, VI 31, VI 0, VI 2, VI 31, VI 0] [(.int 0), (.ref t)])) rfl rfl (hb hby d14_16) _ ?_
  refine XS.iload X0.here hx rfl (hb hby d14_17) rfl ?_
  exact Steps.refl _
 by_cases hc_11 : y0 = (31 : Int32)
 ·skip
  have C_12 : Steps p.tables e below S0 (s₁.setTop (mkF m 24 #[VR t, VI 31, VI 0, VI 2, VI 31, VI 0] [(.int 0)])) := by
   refine C_10.trans ?_
   refine XS.icmpNo X0.here hx rfl (hb hby d14_19) rfl (ii_ne_f hc_11) ?_
   refine XS.iload X0.here hx rfl (hb hby d14_22) rfl ?_
   exact Steps.refl _
  obtain ⟨fs, hr, hrun, hended, hW, hsame⟩ := X0.leave (v := some (.int 0)) (fun h => by rw [Bd.returns] at h; cases h)
  refine ⟨_, _, C_12.trans (retOut X0 hx Bd.returns rfl (Or.inl ⟨rfl, Or.inl rfl, _, rfl⟩) (hb hby d14_24) hr), hrun, hended, _, _, rfl, ?_, ⟨_, rfl⟩, hW, hsame.mono (by decide) (by decide)⟩
  show Q_ioc_2 Z G1 G3 t kt y0 y1 h0 n0 (some (.int 0)) s₁.heap _
  rw [e0]
  exact Or.inl ⟨rfl, N0, rfl, hc_11⟩
 ·skip
  obtain ⟨c_13, A_14, q_15, S_16, M_17, H_18, U_19⟩ := id hp0
  have hin_20 : ¬ ((1 : Int32) < 0 ∨ c_13.slots.size ≤ (1 : Int32).toNatClampNeg) := inb_of S_16 ⟨(by decide : ¬ ((1 : Int32) < (0 : Int32))), (by decide : (1 : Int32) < (2 : Int32))⟩
  have hat_21 : c_13.slots[(1 : Int32).toNatClampNeg]? = some (.int y1) := Has.at H_18 hin_20 rfl
  have C_22 : Steps p.tables e below S0 (s₁.setTop (mkF m 19 #[VR t, VI 31, VI 0, VI 2, VI 31, VI 1] [(.int 31), (.int y1)])) := by
   refine C_10.trans ?_
   refine XS.icmpYes X0.here hx rfl (pc0 := 19) (pc' := 25) rfl (hb hby d14_19) rfl (ii_ne_t hc_11) (by decide) (by decide) ?_
   refine XS.iinc X0.here hx rfl (hb hby d14_25) (x := (0 : Int32)) rfl (l' := #[VR t, VI 31, VI 0, VI 2, VI 31, VI 1]) rfl ?_
   refine XS.goto X0.here hx rfl (pc0 := 28) (pc' := 7) rfl (hb hby d14_28) (by decide) (by decide) ?_
   refine XS.iload X0.here hx rfl (hb hby d14_7) rfl ?_
   refine XS.iloadN X0.here hx rfl (hb hby d14_9) rfl ?_
   refine XS.icmpNo X0.here hx rfl (hb hby d14_10) rfl (by decide) ?_
   refine XS.aloadN X0.here hx rfl (hb hby d14_13) rfl rfl ?_
   refine XS.iload X0.here hx rfl (hb hby d14_14) rfl ?_
   refine X0.baloadBytes hx (j := (1 : Int32)) (v := (.int y1)) (by rw [e0]; exact A_14.1) (State.isArrayOf_alike hZ.alike A_14.2.1) A_14.2.2 hin_20 hat_21 (g := (mkF m 16 #[VR t, VI 31, VI 0, VI 2, VI 31, VI 1] [(.int 1), (.ref t)])) rfl rfl (hb hby d14_16) _ ?_
   refine XS.iload X0.here hx rfl (hb hby d14_17) rfl ?_
   exact Steps.refl _
  by_cases hc_23 : y1 = (31 : Int32)
  ·skip
   have C_24 : Steps p.tables e below S0 (s₁.setTop (mkF m 24 #[VR t, VI 31, VI 0, VI 2, VI 31, VI 1] [(.int 1)])) := by
    refine C_22.trans ?_
    refine XS.icmpNo X0.here hx rfl (hb hby d14_19) rfl (ii_ne_f hc_23) ?_
    refine XS.iload X0.here hx rfl (hb hby d14_22) rfl ?_
    exact Steps.refl _
   obtain ⟨fs, hr, hrun, hended, hW, hsame⟩ := X0.leave (v := some (.int 1)) (fun h => by rw [Bd.returns] at h; cases h)
   refine ⟨_, _, C_24.trans (retOut X0 hx Bd.returns rfl (Or.inl ⟨rfl, Or.inl rfl, _, rfl⟩) (hb hby d14_24) hr), hrun, hended, _, _, rfl, ?_, ⟨_, rfl⟩, hW, hsame.mono (by decide) (by decide)⟩
   show Q_ioc_2 Z G1 G3 t kt y0 y1 h0 n0 (some (.int 1)) s₁.heap _
   rw [e0]
   exact Or.inr (Or.inl ⟨rfl, N0, rfl, hc_11, hc_23⟩)
  ·skip
   have C_25 : Steps p.tables e below S0 (s₁.setTop (mkF m 32 #[VR t, VI 31, VI 0, VI 2, VI 31, VI 2] [(.int (-1 : Int32))])) := by
    refine C_22.trans ?_
    refine XS.icmpYes X0.here hx rfl (pc0 := 19) (pc' := 25) rfl (hb hby d14_19) rfl (ii_ne_t hc_23) (by decide) (by decide) ?_
    refine XS.iinc X0.here hx rfl (hb hby d14_25) (x := (1 : Int32)) rfl (l' := #[VR t, VI 31, VI 0, VI 2, VI 31, VI 2]) rfl ?_
    refine XS.goto X0.here hx rfl (pc0 := 28) (pc' := 7) rfl (hb hby d14_28) (by decide) (by decide) ?_
    refine XS.iload X0.here hx rfl (hb hby d14_7) rfl ?_
    refine XS.iloadN X0.here hx rfl (hb hby d14_9) rfl ?_
    refine XS.icmpYes X0.here hx rfl (pc0 := 10) (pc' := 31) rfl (hb hby d14_10) rfl (by decide) (by decide) (by decide) ?_
    refine XS.iconst X0.here hx rfl (hb hby d14_31) ?_
    exact Steps.refl _
   obtain ⟨fs, hr, hrun, hended, hW, hsame⟩ := X0.leave (v := some (.int (-1 : Int32))) (fun h => by rw [Bd.returns] at h; cases h)
   refine ⟨_, _, C_25.trans (retOut X0 hx Bd.returns rfl (Or.inl ⟨rfl, Or.inl rfl, _, rfl⟩) (hb hby d14_32) hr), hrun, hended, _, _, rfl, ?_, ⟨_, rfl⟩, hW, hsame.mono (by decide) (by decide)⟩
   show Q_ioc_2 Z G1 G3 t kt y0 y1 h0 n0 (some (.int (-1 : Int32))) s₁.heap _
   rw [e0]
   exact Or.inr (Or.inr (⟨rfl, N0, rfl, hc_11, hc_23⟩))
abbrev R_lio_2 : Room := { frames := 1, cells := 0, slots := 0, locals := 17 }
def Q_lio_2 (Z : State) (G1 : Int32) (G3 : Value) (t : Addr) (kt : ClassId) (y0 : Int32) (y1 : Int32) (h0 : Heap) (n0 : Nat) (v : Option Value) (h : Heap) (L : List Loc) : Prop := (v = some (.int 0) ∧ Fr n0 L ∧ h = h0 ∧ (y0 = (31 : Int32))) ∨ (v = some (.int 1) ∧ Fr n0 L ∧ h = h0 ∧ (¬ (y0 = (31 : Int32))) ∧ (y1 = (31 : Int32))) ∨ (v = some (.int (-1 : Int32)) ∧ Fr n0 L ∧ h = h0 ∧ (¬ (y0 = (31 : Int32))) ∧ (¬ (y1 = (31 : Int32))))
theorem rm_lio_2 (l : Launch) (Z : State) (a0 : Array Value) (hw : HW Z a0) (ws : List Jvm.Cond) (G1 : Int32) (G3 : Value) (HG : own_G l Z a0 G1 G3) (h0 : Heap) (n0 : Nat) (X00 : Old Z n0 h0) (t : Addr) (kt : ClassId) (y0 : Int32) (y1 : Int32) (hp0 : Arv Z h0 t kt .byte (2 : Int32) [(.int y0), (.int y1)] (.int 0)) :
  own_CP l Z M183 jdk_43_method_22_code 4 (some .int) ws R_lio_2 #[(.ref t), (.int 31), (.int 0), (.int 2)] h0 (Q_lio_2 Z G1 G3 t kt y0 y1 h0 n0) := by
 refine own_P (plainFor_of_name pn_157) ?_
 intro p e s m below meth c s₁ S0 Bd hZ hh hx hby hml hown hnm X0 e0 hS0d
 obtain ⟨O1, P1, O3f, rG3⟩ := id HG
 have N0 := Fr.nil n0
 have C0 : Steps p.tables e below S0 (s₁.setTop (mkF m 0 #[VR t, VI 31, VI 0, VI 2] [])) := by rw [hS0d]; exact castTop (ef_184 m t (31 : Int32) (0 : Int32) (2 : Int32)) (Steps.refl _)
 obtain ⟨_, _, ⟨T_1, L_1, k_1, n_1⟩, -, X_1, ⟨Lc_1, hQ_1, l_1, y_1, z_1⟩, st_1⟩ := Jvm.LawKit.callS X0 hx (y := M155) hown (mvT hZ (w82 hw)) (mvT hZ (w83 hw)) (mvT hZ (w80 hw)) (mvT hZ (w84 hw)) (by decide) (backOf (W := 0) (rm_cei_31 l Z a0 hw [] G1 G3 HG h0 n0 X00  ) hZ (w84 hw) (w80 hw) (by decide) (by decide)) (g := (mkF m 1 #[VR t, VI 31, VI 0, VI 2] [(.int 31)])) rfl (by rw [hml]; rfl) (argsL := [(.int 31)]) (rest := []) (lenOf pd_188 rfl) rfl (by show 2 * 0 + _ ≤ _; exact Nat.le_of_eq rfl) (hb hby d11_1) (fun _ _ => ⟨rfl, e0, (by decide : 0 + 0 ≤ _), (by decide : 0 + 0 ≤ _)⟩)
 dsimp only [Pt.U, Pt.locs, Pt.cells, Pt.slots] at X_1 l_1 y_1 z_1 st_1 hQ_1
 subst l_1 y_1 z_1
 obtain ⟨rfl, N_2, e_3⟩ := hQ_1
 have N_4 := Fr.app N0 N_2
 have e_5 : T_1.heap = h0 := e_3
 obtain ⟨_, _, ⟨T_6, L_6, k_6, n_6⟩, -, X_6, ⟨Lc_6, hQ_6, l_6, y_6, z_6⟩, st_6⟩ := Jvm.LawKit.callS X_1 hx (y := M166) hown (mvT hZ (w85 hw)) (mvT hZ (w86 hw)) (mvT hZ (w87 hw)) (mvT hZ (w88 hw)) (by decide) (backOf (W := 0) (rm_maxL l Z a0 hw [] G1 G3 HG h0 n0 X00 (0 : Int32) (0 : Int32) (by decide)) hZ (w88 hw) (w87 hw) (by decide) (by decide)) (g := (mkF m 11 #[VR t, VI 31, VI 0, VI 2] [(.int 0), (.int 0)])) rfl (by rw [hml]; rfl) (argsL := [(.int 0), (.int 0)]) (rest := []) (lenOf pd_197 rfl) rfl (by show 2 * 0 + _ ≤ _; exact Nat.le_of_eq rfl) (hb hby d11_11) (fun _ _ => ⟨rfl, e_5, (by decide : 0 + 0 ≤ _), (by decide : 0 + 0 ≤ _)⟩)
 dsimp only [Pt.U, Pt.locs, Pt.cells, Pt.slots] at X_6 l_6 y_6 z_6 st_6 hQ_6
 subst l_6 y_6 z_6
 obtain ⟨rfl, N_7, e_8⟩ := hQ_6
 have N_9 := Fr.app N_4 N_7
 have e_10 : T_6.heap = h0 := e_8
 obtain ⟨c_11, A_12, q_13, S_14, M_15, H_16, U_17⟩ := id hp0
 obtain ⟨_, _, ⟨T_18, L_18, k_18, n_18⟩, -, X_18, ⟨Lc_18, hQ_18, l_18, y_18, z_18⟩, st_18⟩ := Jvm.LawKit.callS X_6 hx (y := M175) hown (mvT hZ (w89 hw)) (mvT hZ (w90 hw)) (mvT hZ (w87 hw)) (mvT hZ (w91 hw)) (by decide) (backOf (W := 0) (rm_minL l Z a0 hw [] G1 G3 HG h0 n0 X00 (2 : Int32) (2 : Int32) (by decide)) hZ (w91 hw) (w87 hw) (by decide) (by decide)) (g := (mkF m 18 #[VR t, VI 31, VI 0, VI 2] [(.int 2), (.int 2)])) rfl (by rw [hml]; rfl) (argsL := [(.int 2), (.int 2)]) (rest := []) (lenOf pd_197 rfl) rfl (by show 2 * 0 + _ ≤ _; exact Nat.le_of_eq rfl) (hb hby d11_18) (fun _ _ => ⟨rfl, e_10, (by decide : 0 + 0 ≤ _), (by decide : 0 + 0 ≤ _)⟩)
 dsimp only [Pt.U, Pt.locs, Pt.cells, Pt.slots] at X_18 l_18 y_18 z_18 st_18 hQ_18
 subst l_18 y_18 z_18
 obtain ⟨rfl, N_19, e_20⟩ := hQ_18
 have N_21 := Fr.app N_9 N_19
 have e_22 : T_18.heap = h0 := e_20
 obtain ⟨_, _, ⟨T_23, L_23, k_23, n_23⟩, -, X_23, ⟨Lc_23, hQ_23, l_23, y_23, z_23⟩, st_23⟩ := Jvm.LawKit.callS X_18 hx (y := M256) hown (mvT hZ (w118 hw)) (mvT hZ (w119 hw)) (mvT hZ (w80 hw)) (mvT hZ (w120 hw)) (by decide) (backOf (W := 0) (rm_ioc_2 l Z a0 hw [] G1 G3 HG h0 n0 X00 t kt y0 y1 hp0) hZ (w120 hw) (w80 hw) (by decide) (by decide)) (g := (mkF m 33 #[VR t, VI 31, VI 0, VI 2] [(.int 2), (.int 0), (.int 31), (.ref t)])) rfl (by rw [hml]; rfl) (argsL := [(.ref t), (.int 31), (.int 0), (.int 2)]) (rest := []) (lenOf pd_239 rfl) rfl (by show 2 * 0 + _ ≤ _; exact Nat.le_of_eq rfl) (hb hby d11_33) (fun _ _ => ⟨rfl, e_22, (by decide : 0 + 0 ≤ _), (by decide : 0 + 0 ≤ _)⟩)
 dsimp only [Pt.U, Pt.locs, Pt.cells, Pt.slots] at X_23 l_23 y_23 z_23 st_23 hQ_23
 subst l_23 y_23 z_23
 have C_24 : Steps p.tables e below S0 (T_18.setTop (mkF m 33 #[VR t, VI 31, VI 0, VI 2] [(.int 2), (.int 0), (.int 31), (.ref t)])) := by
  refine C0.trans ?_
  refine XS.iloadN X0.here hx rfl (hb hby d11_0) rfl ?_
  refine st_1 _ ?_
  refine XS.ifYes X_1.here hx rfl (pc0 := 4) (pc' := 9) rfl (hb hby d11_4) rfl (by decide) (by decide) (by decide) ?_
  refine XS.iloadN X_1.here hx rfl (hb hby d11_9) rfl ?_
  refine XS.iconst X_1.here hx rfl (hb hby d11_10) ?_
  refine st_6 _ ?_
  refine XS.istoreN X_6.here hx rfl (hb hby d11_14) rfl (l' := #[VR t, VI 31, VI 0, VI 2]) rfl ?_
  refine XS.iloadN X_6.here hx rfl (hb hby d11_15) rfl ?_
  refine XS.aloadN X_6.here hx rfl (hb hby d11_16) rfl rfl ?_
  refine X_6.arraylength hx (by rw [e_10]; exact A_12.1) (State.isArrayOf_alike hZ.alike A_12.2.1) (g := (mkF m 17 #[VR t, VI 31, VI 0, VI 2] [(.ref t), (.int 2)])) rfl rfl (hb hby d11_17) _ ?_
  rw [len_of S_14 M_15]
  refine st_18 _ ?_
  refine XS.istoreN X_18.here hx rfl (hb hby d11_21) rfl (l' := #[VR t, VI 31, VI 0, VI 2]) rfl ?_
  refine XS.iloadN X_18.here hx rfl (hb hby d11_22) rfl ?_
  refine XS.iloadN X_18.here hx rfl (hb hby d11_23) rfl ?_
  refine XS.icmpYes X_18.here hx rfl (pc0 := 24) (pc' := 29) rfl (hb hby d11_24) rfl (by decide) (by decide) (by decide) ?_
  refine XS.aloadN X_18.here hx rfl (hb hby d11_29) rfl rfl ?_
  show Steps p.tables e below (T_18.setTop (mkF m 30 #[VR t, VI 31, VI 0, VI 2] [(.ref t)])) _
  refine XS.iloadN X_18.here hx rfl (hb hby d11_30) rfl ?_
  refine XS.iloadN X_18.here hx rfl (hb hby d11_31) rfl ?_
  refine XS.iloadN X_18.here hx rfl (hb hby d11_32) rfl ?_
  exact Steps.refl _
 rcases hQ_23 with hQ_25 | hQ_26 | hQ_27
 ·skip
  obtain ⟨rfl, N_28, e_29, g_30⟩ := hQ_25
  have N_31 := Fr.app N_21 N_28
  have e_32 : T_23.heap = h0 := e_29
  have C_33 : Steps p.tables e below S0 (T_23.setTop (mkF m 36 #[VR t, VI 31, VI 0, VI 2] [(.int 0)])) := by
   refine C_24.trans ?_
   refine st_23 _ ?_
   exact Steps.refl _
  obtain ⟨fs, hr, hrun, hended, hW, hsame⟩ := X_23.leave (v := some (.int 0)) (fun h => by rw [Bd.returns] at h; cases h)
  refine ⟨_, _, C_33.trans (retOut X_23 hx Bd.returns rfl (Or.inl ⟨rfl, Or.inl rfl, _, rfl⟩) (hb hby d11_36) hr), hrun, hended, _, _, rfl, ?_, ⟨_, rfl⟩, hW, hsame.mono (by decide) (by decide)⟩
  show Q_lio_2 Z G1 G3 t kt y0 y1 h0 n0 (some (.int 0)) T_23.heap _
  rw [e_32]
  exact Or.inl ⟨rfl, N_31, rfl, g_30⟩
 ·skip
  obtain ⟨rfl, N_34, e_35, g_36, g_37⟩ := hQ_26
  have N_38 := Fr.app N_21 N_34
  have e_39 : T_23.heap = h0 := e_35
  have C_40 : Steps p.tables e below S0 (T_23.setTop (mkF m 36 #[VR t, VI 31, VI 0, VI 2] [(.int 1)])) := by
   refine C_24.trans ?_
   refine st_23 _ ?_
   exact Steps.refl _
  obtain ⟨fs, hr, hrun, hended, hW, hsame⟩ := X_23.leave (v := some (.int 1)) (fun h => by rw [Bd.returns] at h; cases h)
  refine ⟨_, _, C_40.trans (retOut X_23 hx Bd.returns rfl (Or.inl ⟨rfl, Or.inl rfl, _, rfl⟩) (hb hby d11_36) hr), hrun, hended, _, _, rfl, ?_, ⟨_, rfl⟩, hW, hsame.mono (by decide) (by decide)⟩
  show Q_lio_2 Z G1 G3 t kt y0 y1 h0 n0 (some (.int 1)) T_23.heap _
  rw [e_39]
  exact Or.inr (Or.inl ⟨rfl, N_38, rfl, g_36, g_37⟩)
 ·skip
  obtain ⟨rfl, N_41, e_42, g_43, g_44⟩ := hQ_27
  have N_45 := Fr.app N_21 N_41
  have e_46 : T_23.heap = h0 := e_42
  have C_47 : Steps p.tables e below S0 (T_23.setTop (mkF m 36 #[VR t, VI 31, VI 0, VI 2] [(.int (-1 : Int32))])) := by
   refine C_24.trans ?_
   refine st_23 _ ?_
   exact Steps.refl _
  obtain ⟨fs, hr, hrun, hended, hW, hsame⟩ := X_23.leave (v := some (.int (-1 : Int32))) (fun h => by rw [Bd.returns] at h; cases h)
  refine ⟨_, _, C_47.trans (retOut X_23 hx Bd.returns rfl (Or.inl ⟨rfl, Or.inl rfl, _, rfl⟩) (hb hby d11_36) hr), hrun, hended, _, _, rfl, ?_, ⟨_, rfl⟩, hW, hsame.mono (by decide) (by decide)⟩
  show Q_lio_2 Z G1 G3 t kt y0 y1 h0 n0 (some (.int (-1 : Int32))) T_23.heap _
  rw [e_46]
  exact Or.inr (Or.inr (⟨rfl, N_45, rfl, g_43, g_44⟩))
abbrev R_io2_2 : Room := { frames := 2, cells := 0, slots := 0, locals := 32 }
def Q_io2_2 (Z : State) (G1 : Int32) (G3 : Value) (x : Addr) (t : Addr) (kt : ClassId) (y0 : Int32) (y1 : Int32) (h0 : Heap) (n0 : Nat) (v : Option Value) (h : Heap) (L : List Loc) : Prop := (v = some (.int 0) ∧ Fr n0 L ∧ h = h0 ∧ (y0 = (31 : Int32))) ∨ (v = some (.int 1) ∧ Fr n0 L ∧ h = h0 ∧ (¬ (y0 = (31 : Int32))) ∧ (y1 = (31 : Int32))) ∨ (v = some (.int (-1 : Int32)) ∧ Fr n0 L ∧ h = h0 ∧ (¬ (y0 = (31 : Int32))) ∧ (¬ (y1 = (31 : Int32))))
theorem rm_io2_2 (l : Launch) (Z : State) (a0 : Array Value) (hw : HW Z a0) (ws : List Jvm.Cond) (G1 : Int32) (G3 : Value) (HG : own_G l Z a0 G1 G3) (h0 : Heap) (n0 : Nat) (X00 : Old Z n0 h0) (x : Addr) (t : Addr) (kt : ClassId) (y0 : Int32) (y1 : Int32) (hp0 : Exa Z h0 x "java/lang/String") (hp1 : Fld Z h0 x "java/lang/String" "coder" "B" (.int 0)) (hp2 : Fld Z h0 x "java/lang/String" "value" "[B" (.ref t)) (hp3 : Arv Z h0 t kt .byte (2 : Int32) [(.int y0), (.int y1)] (.int 0)) :
  own_CP l Z M215 jdk_42_method_80_code 3 (some .int) ws R_io2_2 #[(.ref x), (.int 31), (.int 0)] h0 (Q_io2_2 Z G1 G3 x t kt y0 y1 h0 n0) := by
 refine own_P (plainFor_of_name pn_2) ?_
 intro p e s m below meth c s₁ S0 Bd hZ hh hx hby hml hown hnm X0 e0 hS0d
 obtain ⟨O1, P1, O3f, rG3⟩ := id HG
 have N0 := Fr.nil n0
 have C0 : Steps p.tables e below S0 (s₁.setTop (mkF m 0 #[VR x, VI 31, VI 0] [])) := by rw [hS0d]; exact castTop (ef_216 m x (31 : Int32) (0 : Int32)) (Steps.refl _)
 obtain ⟨q_2, q_3, q_4, q_5, q_6⟩ := isOf (T := s₁) hZ e0 hp0
 obtain ⟨_, _, ⟨T_1, L_1, k_1, n_1⟩, -, X_1, ⟨Lc_1, hQ_1, l_1, y_1, z_1⟩, st_1⟩ := X0.virtualBack hx (y := M132) (z := M132) hown (mvT hZ (w62 hw)) (mvT hZ (w63 hw)) (notFace_of_selects (args := #[]) (mvT hZ (w65 hw))) (mvT hZ (w65 hw)) (mvT hZ (w64 hw)) (by decide) (backOf (W := 0) (rm_islat l Z a0 hw [] G1 G3 HG h0 n0 X00 x hp1) hZ (w66 hw) (w10 hw) (by decide) (by decide)) q_4 q_6 (g := (mkF m 1 #[VR x, VI 31, VI 0] [(.ref x)])) rfl (by rw [hml]; rfl) (Steps.refl _) (argsL := []) (rest := []) (lenOf pd_219 rfl) rfl (by show 2 * 0 + _ ≤ _; exact Nat.le_of_eq rfl) (hb hby d12_1) (fun _ _ => ⟨rfl, e0, (by decide : 0 + 0 ≤ _), (by decide : 0 + 0 ≤ _)⟩)
 dsimp only [Pt.U, Pt.locs, Pt.cells, Pt.slots] at X_1 l_1 y_1 z_1 st_1 hQ_1
 subst l_1 y_1 z_1
 obtain ⟨rfl, N_7, e_8⟩ := hQ_1
 have N_9 := Fr.app N0 N_7
 have e_10 : T_1.heap = h0 := e_8
 obtain ⟨T_11, X_12, e_13, st_14⟩ := getF X_1 hx hZ hown (host := "") (Or.inl (w28 hw)) Via.refl e_10 hp2 (g := (mkF m 8 #[VR x, VI 31, VI 0] [(.ref x)])) rfl rfl (hb hby d12_8)
 obtain ⟨q_16, q_17, q_18, q_19, q_20⟩ := isOf (T := T_11) hZ e_13 hp0
 obtain ⟨_, _, ⟨T_15, L_15, k_15, n_15⟩, -, X_15, ⟨Lc_15, hQ_15, l_15, y_15, z_15⟩, st_15⟩ := X_12.virtualBack hx (y := M141) (z := M141) hown (mvT hZ (w68 hw)) (mvT hZ (w69 hw)) (notFace_of_selects (args := #[]) (mvT hZ (w71 hw))) (mvT hZ (w71 hw)) (mvT hZ (w70 hw)) (by decide) (backOf (W := 3) (rm_lenany l Z a0 hw [] G1 G3 HG h0 n0 X00 x t kt (2 : Int32) [(.int y0), (.int y1)] hp0 hp1 hp2 hp3) hZ (w72 hw) (w10 hw) (by decide) (by decide)) q_18 q_20 (g := (mkF m 14 #[VR x, VI 31, VI 0] [(.ref x), (.int 0), (.int 31), (.ref t)])) rfl (by rw [hml]; rfl) (Steps.refl _) (argsL := []) (rest := [(.int 0), (.int 31), (.ref t)]) (lenOf pd_232 rfl) rfl (by show 2 * 0 + _ ≤ _; exact Nat.le_of_eq rfl) (hb hby d12_14) (fun _ _ => ⟨rfl, e_13, (by decide : 0 + 0 ≤ _), (by decide : 0 + 0 ≤ _)⟩)
 dsimp only [Pt.U, Pt.locs, Pt.cells, Pt.slots] at X_15 l_15 y_15 z_15 st_15 hQ_15
 subst l_15 y_15 z_15
 obtain ⟨rfl, N_21, e_22⟩ := hQ_15
 have N_23 := Fr.app N_9 N_21
 have e_24 : T_15.heap = h0 := e_22
 obtain ⟨_, _, ⟨T_25, L_25, k_25, n_25⟩, -, X_25, ⟨Lc_25, hQ_25, l_25, y_25, z_25⟩, st_25⟩ := Jvm.LawKit.callS X_15 hx (y := M183) hown (mvT hZ (w78 hw)) (mvT hZ (w79 hw)) (mvT hZ (w80 hw)) (mvT hZ (w81 hw)) (by decide) (backOf (W := 0) (rm_lio_2 l Z a0 hw [] G1 G3 HG h0 n0 X00 t kt y0 y1 hp3) hZ (w81 hw) (w80 hw) (by decide) (by decide)) (g := (mkF m 17 #[VR x, VI 31, VI 0] [(.int 2), (.int 0), (.int 31), (.ref t)])) rfl (by rw [hml]; rfl) (argsL := [(.ref t), (.int 31), (.int 0), (.int 2)]) (rest := []) (lenOf pd_239 rfl) rfl (by show 2 * 0 + _ ≤ _; exact Nat.le_of_eq rfl) (hb hby d12_17) (fun _ _ => ⟨rfl, e_24, (by decide : 0 + 0 ≤ _), (by decide : 0 + 0 ≤ _)⟩)
 dsimp only [Pt.U, Pt.locs, Pt.cells, Pt.slots] at X_25 l_25 y_25 z_25 st_25 hQ_25
 subst l_25 y_25 z_25
 have C_26 : Steps p.tables e below S0 (T_15.setTop (mkF m 17 #[VR x, VI 31, VI 0] [(.int 2), (.int 0), (.int 31), (.ref t)])) := by
  refine C0.trans ?_
  refine XS.aloadN X0.here hx rfl (hb hby d12_0) rfl rfl ?_
  refine st_1.trans ?_
  refine XS.ifNo X_1.here hx rfl (hb hby d12_4) rfl (by decide) ?_
  refine XS.aloadN X_1.here hx rfl (hb hby d12_7) rfl rfl ?_
  refine st_14 _ ?_
  refine XS.iloadN X_12.here hx rfl (hb hby d12_11) rfl ?_
  refine XS.iloadN X_12.here hx rfl (hb hby d12_12) rfl ?_
  refine XS.aloadN X_12.here hx rfl (hb hby d12_13) rfl rfl ?_
  refine st_15.trans ?_
  exact Steps.refl _
 rcases hQ_25 with hQ_27 | hQ_28 | hQ_29
 ·skip
  obtain ⟨rfl, N_30, e_31, g_32⟩ := hQ_27
  have N_33 := Fr.app N_23 N_30
  have e_34 : T_25.heap = h0 := e_31
  have C_35 : Steps p.tables e below S0 (T_25.setTop (mkF m 36 #[VR x, VI 31, VI 0] [(.int 0)])) := by
   refine C_26.trans ?_
   refine st_25 _ ?_
   refine XS.goto X_25.here hx rfl (pc0 := 20) (pc' := 36) rfl (hb hby d12_20) (by decide) (by decide) ?_
   exact Steps.refl _
  obtain ⟨fs, hr, hrun, hended, hW, hsame⟩ := X_25.leave (v := some (.int 0)) (fun h => by rw [Bd.returns] at h; cases h)
  refine ⟨_, _, C_35.trans (retOut X_25 hx Bd.returns rfl (Or.inl ⟨rfl, Or.inl rfl, _, rfl⟩) (hb hby d12_36) hr), hrun, hended, _, _, rfl, ?_, ⟨_, rfl⟩, hW, hsame.mono (by decide) (by decide)⟩
  show Q_io2_2 Z G1 G3 x t kt y0 y1 h0 n0 (some (.int 0)) T_25.heap _
  rw [e_34]
  exact Or.inl ⟨rfl, N_33, rfl, g_32⟩
 ·skip
  obtain ⟨rfl, N_36, e_37, g_38, g_39⟩ := hQ_28
  have N_40 := Fr.app N_23 N_36
  have e_41 : T_25.heap = h0 := e_37
  have C_42 : Steps p.tables e below S0 (T_25.setTop (mkF m 36 #[VR x, VI 31, VI 0] [(.int 1)])) := by
   refine C_26.trans ?_
   refine st_25 _ ?_
   refine XS.goto X_25.here hx rfl (pc0 := 20) (pc' := 36) rfl (hb hby d12_20) (by decide) (by decide) ?_
   exact Steps.refl _
  obtain ⟨fs, hr, hrun, hended, hW, hsame⟩ := X_25.leave (v := some (.int 1)) (fun h => by rw [Bd.returns] at h; cases h)
  refine ⟨_, _, C_42.trans (retOut X_25 hx Bd.returns rfl (Or.inl ⟨rfl, Or.inl rfl, _, rfl⟩) (hb hby d12_36) hr), hrun, hended, _, _, rfl, ?_, ⟨_, rfl⟩, hW, hsame.mono (by decide) (by decide)⟩
  show Q_io2_2 Z G1 G3 x t kt y0 y1 h0 n0 (some (.int 1)) T_25.heap _
  rw [e_41]
  exact Or.inr (Or.inl ⟨rfl, N_40, rfl, g_38, g_39⟩)
 ·skip
  obtain ⟨rfl, N_43, e_44, g_45, g_46⟩ := hQ_29
  have N_47 := Fr.app N_23 N_43
  have e_48 : T_25.heap = h0 := e_44
  have C_49 : Steps p.tables e below S0 (T_25.setTop (mkF m 36 #[VR x, VI 31, VI 0] [(.int (-1 : Int32))])) := by
   refine C_26.trans ?_
   refine st_25 _ ?_
   refine XS.goto X_25.here hx rfl (pc0 := 20) (pc' := 36) rfl (hb hby d12_20) (by decide) (by decide) ?_
   exact Steps.refl _
  obtain ⟨fs, hr, hrun, hended, hW, hsame⟩ := X_25.leave (v := some (.int (-1 : Int32))) (fun h => by rw [Bd.returns] at h; cases h)
  refine ⟨_, _, C_49.trans (retOut X_25 hx Bd.returns rfl (Or.inl ⟨rfl, Or.inl rfl, _, rfl⟩) (hb hby d12_36) hr), hrun, hended, _, _, rfl, ?_, ⟨_, rfl⟩, hW, hsame.mono (by decide) (by decide)⟩
  show Q_io2_2 Z G1 G3 x t kt y0 y1 h0 n0 (some (.int (-1 : Int32))) T_25.heap _
  rw [e_48]
  exact Or.inr (Or.inr (⟨rfl, N_47, rfl, g_45, g_46⟩))
abbrev R_io1_2 : Room := { frames := 3, cells := 0, slots := 0, locals := 46 }
def Q_io1_2 (Z : State) (G1 : Int32) (G3 : Value) (x : Addr) (t : Addr) (kt : ClassId) (y0 : Int32) (y1 : Int32) (h0 : Heap) (n0 : Nat) (v : Option Value) (h : Heap) (L : List Loc) : Prop := (v = some (.int 0) ∧ Fr n0 L ∧ h = h0 ∧ (y0 = (31 : Int32))) ∨ (v = some (.int 1) ∧ Fr n0 L ∧ h = h0 ∧ (¬ (y0 = (31 : Int32))) ∧ (y1 = (31 : Int32))) ∨ (v = some (.int (-1 : Int32)) ∧ Fr n0 L ∧ h = h0 ∧ (¬ (y0 = (31 : Int32))) ∧ (¬ (y1 = (31 : Int32))))
theorem rm_io1_2 (l : Launch) (Z : State) (a0 : Array Value) (hw : HW Z a0) (ws : List Jvm.Cond) (G1 : Int32) (G3 : Value) (HG : own_G l Z a0 G1 G3) (h0 : Heap) (n0 : Nat) (X00 : Old Z n0 h0) (x : Addr) (t : Addr) (kt : ClassId) (y0 : Int32) (y1 : Int32) (hp0 : Exa Z h0 x "java/lang/String") (hp1 : Fld Z h0 x "java/lang/String" "coder" "B" (.int 0)) (hp2 : Fld Z h0 x "java/lang/String" "value" "[B" (.ref t)) (hp3 : Arv Z h0 t kt .byte (2 : Int32) [(.int y0), (.int y1)] (.int 0)) :
  own_CP l Z M245 jdk_42_method_79_code 2 (some .int) ws R_io1_2 #[(.ref x), (.int 31)] h0 (Q_io1_2 Z G1 G3 x t kt y0 y1 h0 n0) := by
 refine own_P (plainFor_of_name pn_2) ?_
 intro p e s m below meth c s₁ S0 Bd hZ hh hx hby hml hown hnm X0 e0 hS0d
 obtain ⟨O1, P1, O3f, rG3⟩ := id HG
 have N0 := Fr.nil n0
 have C0 : Steps p.tables e below S0 (s₁.setTop (mkF m 0 #[VR x, VI 31] [])) := by rw [hS0d]; exact castTop (ef_90 m x (31 : Int32)) (Steps.refl _)
 obtain ⟨q_2, q_3, q_4, q_5, q_6⟩ := isOf (T := s₁) hZ e0 hp0
 obtain ⟨_, _, ⟨T_1, L_1, k_1, n_1⟩, -, X_1, ⟨Lc_1, hQ_1, l_1, y_1, z_1⟩, st_1⟩ := X0.virtualBack hx (y := M215) (z := M215) hown (mvT hZ (w57 hw)) (mvT hZ (w58 hw)) (notFace_of_selects (args := #[]) (mvT hZ (w60 hw))) (mvT hZ (w60 hw)) (mvT hZ (w59 hw)) (by decide) (backOf (W := 0) (rm_io2_2 l Z a0 hw [] G1 G3 HG h0 n0 X00 x t kt y0 y1 hp0 hp1 hp2 hp3) hZ (w61 hw) (w10 hw) (by decide) (by decide)) q_4 q_6 (g := (mkF m 3 #[VR x, VI 31] [(.int 0), (.int 31), (.ref x)])) rfl (by rw [hml]; rfl) (Steps.refl _) (argsL := [(.int 31), (.int 0)]) (rest := []) (lenOf pd_197 rfl) rfl (by show 2 * 0 + _ ≤ _; exact Nat.le_of_eq rfl) (hb hby d13_3) (fun _ _ => ⟨rfl, e0, (by decide : 0 + 0 ≤ _), (by decide : 0 + 0 ≤ _)⟩)
 dsimp only [Pt.U, Pt.locs, Pt.cells, Pt.slots] at X_1 l_1 y_1 z_1 st_1 hQ_1
 subst l_1 y_1 z_1
 have C_7 : Steps p.tables e below S0 (s₁.setTop (mkF m 3 #[VR x, VI 31] [(.int 0), (.int 31), (.ref x)])) := by
  refine C0.trans ?_
  refine XS.aloadN X0.here hx rfl (hb hby d13_0) rfl rfl ?_
  refine XS.iloadN X0.here hx rfl (hb hby d13_1) rfl ?_
  refine XS.iconst X0.here hx rfl (hb hby d13_2) ?_
  exact Steps.refl _
 rcases hQ_1 with hQ_8 | hQ_9 | hQ_10
 ·skip
  obtain ⟨rfl, N_11, e_12, g_13⟩ := hQ_8
  have N_14 := Fr.app N0 N_11
  have e_15 : T_1.heap = h0 := e_12
  have C_16 : Steps p.tables e below S0 (T_1.setTop (mkF m 6 #[VR x, VI 31] [(.int 0)])) := by
   refine C_7.trans ?_
   refine st_1.trans ?_
   exact Steps.refl _
  obtain ⟨fs, hr, hrun, hended, hW, hsame⟩ := X_1.leave (v := some (.int 0)) (fun h => by rw [Bd.returns] at h; cases h)
  refine ⟨_, _, C_16.trans (retOut X_1 hx Bd.returns rfl (Or.inl ⟨rfl, Or.inl rfl, _, rfl⟩) (hb hby d13_6) hr), hrun, hended, _, _, rfl, ?_, ⟨_, rfl⟩, hW, hsame.mono (by decide) (by decide)⟩
  show Q_io1_2 Z G1 G3 x t kt y0 y1 h0 n0 (some (.int 0)) T_1.heap _
  rw [e_15]
  exact Or.inl ⟨rfl, N_14, rfl, g_13⟩
 ·skip
  obtain ⟨rfl, N_17, e_18, g_19, g_20⟩ := hQ_9
  have N_21 := Fr.app N0 N_17
  have e_22 : T_1.heap = h0 := e_18
  have C_23 : Steps p.tables e below S0 (T_1.setTop (mkF m 6 #[VR x, VI 31] [(.int 1)])) := by
   refine C_7.trans ?_
   refine st_1.trans ?_
   exact Steps.refl _
  obtain ⟨fs, hr, hrun, hended, hW, hsame⟩ := X_1.leave (v := some (.int 1)) (fun h => by rw [Bd.returns] at h; cases h)
  refine ⟨_, _, C_23.trans (retOut X_1 hx Bd.returns rfl (Or.inl ⟨rfl, Or.inl rfl, _, rfl⟩) (hb hby d13_6) hr), hrun, hended, _, _, rfl, ?_, ⟨_, rfl⟩, hW, hsame.mono (by decide) (by decide)⟩
  show Q_io1_2 Z G1 G3 x t kt y0 y1 h0 n0 (some (.int 1)) T_1.heap _
  rw [e_22]
  exact Or.inr (Or.inl ⟨rfl, N_21, rfl, g_19, g_20⟩)
 ·skip
  obtain ⟨rfl, N_24, e_25, g_26, g_27⟩ := hQ_10
  have N_28 := Fr.app N0 N_24
  have e_29 : T_1.heap = h0 := e_25
  have C_30 : Steps p.tables e below S0 (T_1.setTop (mkF m 6 #[VR x, VI 31] [(.int (-1 : Int32))])) := by
   refine C_7.trans ?_
   refine st_1.trans ?_
   exact Steps.refl _
  obtain ⟨fs, hr, hrun, hended, hW, hsame⟩ := X_1.leave (v := some (.int (-1 : Int32))) (fun h => by rw [Bd.returns] at h; cases h)
  refine ⟨_, _, C_30.trans (retOut X_1 hx Bd.returns rfl (Or.inl ⟨rfl, Or.inl rfl, _, rfl⟩) (hb hby d13_6) hr), hrun, hended, _, _, rfl, ?_, ⟨_, rfl⟩, hW, hsame.mono (by decide) (by decide)⟩
  show Q_io1_2 Z G1 G3 x t kt y0 y1 h0 n0 (some (.int (-1 : Int32))) T_1.heap _
  rw [e_29]
  exact Or.inr (Or.inr (⟨rfl, N_28, rfl, g_26, g_27⟩))
abbrev R_ioc_3 : Room := { frames := 0, cells := 0, slots := 0, locals := 0 }
def Q_ioc_3 (Z : State) (G1 : Int32) (G3 : Value) (t : Addr) (kt : ClassId) (y0 : Int32) (y1 : Int32) (y2 : Int32) (h0 : Heap) (n0 : Nat) (v : Option Value) (h : Heap) (L : List Loc) : Prop := (v = some (.int 0) ∧ Fr n0 L ∧ h = h0 ∧ (y0 = (31 : Int32))) ∨ (v = some (.int 1) ∧ Fr n0 L ∧ h = h0 ∧ (¬ (y0 = (31 : Int32))) ∧ (y1 = (31 : Int32))) ∨ (v = some (.int 2) ∧ Fr n0 L ∧ h = h0 ∧ (¬ (y0 = (31 : Int32))) ∧ (¬ (y1 = (31 : Int32))) ∧ (y2 = (31 : Int32))) ∨ (v = some (.int (-1 : Int32)) ∧ Fr n0 L ∧ h = h0 ∧ (¬ (y0 = (31 : Int32))) ∧ (¬ (y1 = (31 : Int32))) ∧ (¬ (y2 = (31 : Int32))))
theorem rm_ioc_3 (l : Launch) (Z : State) (a0 : Array Value) (hw : HW Z a0) (ws : List Jvm.Cond) (G1 : Int32) (G3 : Value) (HG : own_G l Z a0 G1 G3) (h0 : Heap) (n0 : Nat) (X00 : Old Z n0 h0) (t : Addr) (kt : ClassId) (y0 : Int32) (y1 : Int32) (y2 : Int32) (hp0 : Arv Z h0 t kt .byte (3 : Int32) [(.int y0), (.int y1), (.int y2)] (.int 0)) :
  own_CP l Z M256 jdk_43_method_23_code 6 (some .int) ws R_ioc_3 #[(.ref t), (.int 31), (.int 0), (.int 3)] h0 (Q_ioc_3 Z G1 G3 t kt y0 y1 y2 h0 n0) := by
 refine own_P (plainFor_of_name pn_157) ?_
 intro p e s m below meth c s₁ S0 Bd hZ hh hx hby hml hown hnm X0 e0 hS0d
 obtain ⟨O1, P1, O3f, rG3⟩ := id HG
 have N0 := Fr.nil n0
 have C0 : Steps p.tables e below S0 (s₁.setTop (mkF m 0 #[VR t, VI 31, VI 0, VI 3, .unset, .unset] [])) := by rw [hS0d]; exact castTop (ef_257 m t (31 : Int32) (0 : Int32) (3 : Int32)) (Steps.refl _)
 obtain ⟨c_1, A_2, q_3, S_4, M_5, H_6, U_7⟩ := id hp0
 have hin_8 : ¬ ((0 : Int32) < 0 ∨ c_1.slots.size ≤ (0 : Int32).toNatClampNeg) := inb_of S_4 ⟨(by decide : ¬ ((0 : Int32) < (0 : Int32))), (by decide : (0 : Int32) < (3 : Int32))⟩
 have hat_9 : c_1.slots[(0 : Int32).toNatClampNeg]? = some (.int y0) := Has.at H_6 hin_8 rfl
 have C_10 : Steps p.tables e below S0 (s₁.setTop (mkF m 19 #[VR t, VI 31, VI 0, VI 3, VI 31, VI 0] [(.int 31), (.int y0)])) := by
  refine C0.trans ?_
  refine XS.iloadN X0.here hx rfl (hb hby d14_0) rfl ?_
  refine XS.i2b X0.here hx rfl (hb hby d14_1) rfl ?_
  refine XS.istore X0.here hx rfl (hb hby d14_2) rfl (l' := #[VR t, VI 31, VI 0, VI 3, VI 31, .unset]) rfl ?_
  refine XS.iloadN X0.here hx rfl (hb hby d14_4) rfl ?_
  refine XS.istore X0.here hx rfl (hb hby d14_5) rfl (l' := #[VR t, VI 31, VI 0, VI 3, VI 31, VI 0]) rfl ?_
  refine XS.iload X0.here hx rfl (hb hby d14_7) rfl ?_
  refine XS.iloadN X0.here hx rfl (hb hby d14_9) rfl ?_
  refine XS.icmpNo X0.here hx rfl (hb hby d14_10) rfl (by decide) ?_
  refine XS.aloadN X0.here hx rfl (hb hby d14_13) rfl rfl ?_
  refine XS.iload X0.here hx rfl (hb hby d14_14) rfl ?_
  refine X0.baloadBytes hx (j := (0 : Int32)) (v := (.int y0)) (by rw [e0]; exact A_2.1) (State.isArrayOf_alike hZ.alike A_2.2.1) A_2.2.2 hin_8 hat_9 (g := (mkF m 16 #[VR t, VI 31, VI 0, VI 3, VI 31, VI 0] [(.int 0), (.ref t)])) rfl rfl (hb hby d14_16) _ ?_
  refine XS.iload X0.here hx rfl (hb hby d14_17) rfl ?_
  exact Steps.refl _
 by_cases hc_11 : y0 = (31 : Int32)
 ·skip
  have C_12 : Steps p.tables e below S0 (s₁.setTop (mkF m 24 #[VR t, VI 31, VI 0, VI 3, VI 31, VI 0] [(.int 0)])) := by
   refine C_10.trans ?_
   refine XS.icmpNo X0.here hx rfl (hb hby d14_19) rfl (ii_ne_f hc_11) ?_
   refine XS.iload X0.here hx rfl (hb hby d14_22) rfl ?_
   exact Steps.refl _
  obtain ⟨fs, hr, hrun, hended, hW, hsame⟩ := X0.leave (v := some (.int 0)) (fun h => by rw [Bd.returns] at h; cases h)
  refine ⟨_, _, C_12.trans (retOut X0 hx Bd.returns rfl (Or.inl ⟨rfl, Or.inl rfl, _, rfl⟩) (hb hby d14_24) hr), hrun, hended, _, _, rfl, ?_, ⟨_, rfl⟩, hW, hsame.mono (by decide) (by decide)⟩
  show Q_ioc_3 Z G1 G3 t kt y0 y1 y2 h0 n0 (some (.int 0)) s₁.heap _
  rw [e0]
  exact Or.inl ⟨rfl, N0, rfl, hc_11⟩
 ·skip
  obtain ⟨c_13, A_14, q_15, S_16, M_17, H_18, U_19⟩ := id hp0
  have hin_20 : ¬ ((1 : Int32) < 0 ∨ c_13.slots.size ≤ (1 : Int32).toNatClampNeg) := inb_of S_16 ⟨(by decide : ¬ ((1 : Int32) < (0 : Int32))), (by decide : (1 : Int32) < (3 : Int32))⟩
  have hat_21 : c_13.slots[(1 : Int32).toNatClampNeg]? = some (.int y1) := Has.at H_18 hin_20 rfl
  have C_22 : Steps p.tables e below S0 (s₁.setTop (mkF m 19 #[VR t, VI 31, VI 0, VI 3, VI 31, VI 1] [(.int 31), (.int y1)])) := by
   refine C_10.trans ?_
   refine XS.icmpYes X0.here hx rfl (pc0 := 19) (pc' := 25) rfl (hb hby d14_19) rfl (ii_ne_t hc_11) (by decide) (by decide) ?_
   refine XS.iinc X0.here hx rfl (hb hby d14_25) (x := (0 : Int32)) rfl (l' := #[VR t, VI 31, VI 0, VI 3, VI 31, VI 1]) rfl ?_
   refine XS.goto X0.here hx rfl (pc0 := 28) (pc' := 7) rfl (hb hby d14_28) (by decide) (by decide) ?_
   refine XS.iload X0.here hx rfl (hb hby d14_7) rfl ?_
   refine XS.iloadN X0.here hx rfl (hb hby d14_9) rfl ?_
   refine XS.icmpNo X0.here hx rfl (hb hby d14_10) rfl (by decide) ?_
   refine XS.aloadN X0.here hx rfl (hb hby d14_13) rfl rfl ?_
   refine XS.iload X0.here hx rfl (hb hby d14_14) rfl ?_
   refine X0.baloadBytes hx (j := (1 : Int32)) (v := (.int y1)) (by rw [e0]; exact A_14.1) (State.isArrayOf_alike hZ.alike A_14.2.1) A_14.2.2 hin_20 hat_21 (g := (mkF m 16 #[VR t, VI 31, VI 0, VI 3, VI 31, VI 1] [(.int 1), (.ref t)])) rfl rfl (hb hby d14_16) _ ?_
   refine XS.iload X0.here hx rfl (hb hby d14_17) rfl ?_
   exact Steps.refl _
  by_cases hc_23 : y1 = (31 : Int32)
  ·skip
   have C_24 : Steps p.tables e below S0 (s₁.setTop (mkF m 24 #[VR t, VI 31, VI 0, VI 3, VI 31, VI 1] [(.int 1)])) := by
    refine C_22.trans ?_
    refine XS.icmpNo X0.here hx rfl (hb hby d14_19) rfl (ii_ne_f hc_23) ?_
    refine XS.iload X0.here hx rfl (hb hby d14_22) rfl ?_
    exact Steps.refl _
   obtain ⟨fs, hr, hrun, hended, hW, hsame⟩ := X0.leave (v := some (.int 1)) (fun h => by rw [Bd.returns] at h; cases h)
   refine ⟨_, _, C_24.trans (retOut X0 hx Bd.returns rfl (Or.inl ⟨rfl, Or.inl rfl, _, rfl⟩) (hb hby d14_24) hr), hrun, hended, _, _, rfl, ?_, ⟨_, rfl⟩, hW, hsame.mono (by decide) (by decide)⟩
   show Q_ioc_3 Z G1 G3 t kt y0 y1 y2 h0 n0 (some (.int 1)) s₁.heap _
   rw [e0]
   exact Or.inr (Or.inl ⟨rfl, N0, rfl, hc_11, hc_23⟩)
  ·skip
   obtain ⟨c_25, A_26, q_27, S_28, M_29, H_30, U_31⟩ := id hp0
   have hin_32 : ¬ ((2 : Int32) < 0 ∨ c_25.slots.size ≤ (2 : Int32).toNatClampNeg) := inb_of S_28 ⟨(by decide : ¬ ((2 : Int32) < (0 : Int32))), (by decide : (2 : Int32) < (3 : Int32))⟩
   have hat_33 : c_25.slots[(2 : Int32).toNatClampNeg]? = some (.int y2) := Has.at H_30 hin_32 rfl
   have C_34 : Steps p.tables e below S0 (s₁.setTop (mkF m 19 #[VR t, VI 31, VI 0, VI 3, VI 31, VI 2] [(.int 31), (.int y2)])) := by
    refine C_22.trans ?_
    refine XS.icmpYes X0.here hx rfl (pc0 := 19) (pc' := 25) rfl (hb hby d14_19) rfl (ii_ne_t hc_23) (by decide) (by decide) ?_
    refine XS.iinc X0.here hx rfl (hb hby d14_25) (x := (1 : Int32)) rfl (l' := #[VR t, VI 31, VI 0, VI 3, VI 31, VI 2]) rfl ?_
    refine XS.goto X0.here hx rfl (pc0 := 28) (pc' := 7) rfl (hb hby d14_28) (by decide) (by decide) ?_
    refine XS.iload X0.here hx rfl (hb hby d14_7) rfl ?_
    refine XS.iloadN X0.here hx rfl (hb hby d14_9) rfl ?_
    refine XS.icmpNo X0.here hx rfl (hb hby d14_10) rfl (by decide) ?_
    refine XS.aloadN X0.here hx rfl (hb hby d14_13) rfl rfl ?_
    refine XS.iload X0.here hx rfl (hb hby d14_14) rfl ?_
    refine X0.baloadBytes hx (j := (2 : Int32)) (v := (.int y2)) (by rw [e0]; exact A_26.1) (State.isArrayOf_alike hZ.alike A_26.2.1) A_26.2.2 hin_32 hat_33 (g := (mkF m 16 #[VR t, VI 31, VI 0, VI 3, VI 31, VI 2] [(.int 2), (.ref t)])) rfl rfl (hb hby d14_16) _ ?_
    refine XS.iload X0.here hx rfl (hb hby d14_17) rfl ?_
    exact Steps.refl _
   by_cases hc_35 : y2 = (31 : Int32)
   ·skip
    have C_36 : Steps p.tables e below S0 (s₁.setTop (mkF m 24 #[VR t, VI 31, VI 0, VI 3, VI 31, VI 2] [(.int 2)])) := by
     refine C_34.trans ?_
     refine XS.icmpNo X0.here hx rfl (hb hby d14_19) rfl (ii_ne_f hc_35) ?_
     refine XS.iload X0.here hx rfl (hb hby d14_22) rfl ?_
     exact Steps.refl _
    obtain ⟨fs, hr, hrun, hended, hW, hsame⟩ := X0.leave (v := some (.int 2)) (fun h => by rw [Bd.returns] at h; cases h)
    refine ⟨_, _, C_36.trans (retOut X0 hx Bd.returns rfl (Or.inl ⟨rfl, Or.inl rfl, _, rfl⟩) (hb hby d14_24) hr), hrun, hended, _, _, rfl, ?_, ⟨_, rfl⟩, hW, hsame.mono (by decide) (by decide)⟩
    show Q_ioc_3 Z G1 G3 t kt y0 y1 y2 h0 n0 (some (.int 2)) s₁.heap _
    rw [e0]
    exact Or.inr (Or.inr (Or.inl ⟨rfl, N0, rfl, hc_11, hc_23, hc_35⟩))
   ·skip
    have C_37 : Steps p.tables e below S0 (s₁.setTop (mkF m 32 #[VR t, VI 31, VI 0, VI 3, VI 31, VI 3] [(.int (-1 : Int32))])) := by
     refine C_34.trans ?_
     refine XS.icmpYes X0.here hx rfl (pc0 := 19) (pc' := 25) rfl (hb hby d14_19) rfl (ii_ne_t hc_35) (by decide) (by decide) ?_
     refine XS.iinc X0.here hx rfl (hb hby d14_25) (x := (2 : Int32)) rfl (l' := #[VR t, VI 31, VI 0, VI 3, VI 31, VI 3]) rfl ?_
     refine XS.goto X0.here hx rfl (pc0 := 28) (pc' := 7) rfl (hb hby d14_28) (by decide) (by decide) ?_
     refine XS.iload X0.here hx rfl (hb hby d14_7) rfl ?_
     refine XS.iloadN X0.here hx rfl (hb hby d14_9) rfl ?_
     refine XS.icmpYes X0.here hx rfl (pc0 := 10) (pc' := 31) rfl (hb hby d14_10) rfl (by decide) (by decide) (by decide) ?_
     refine XS.iconst X0.here hx rfl (hb hby d14_31) ?_
     exact Steps.refl _
    obtain ⟨fs, hr, hrun, hended, hW, hsame⟩ := X0.leave (v := some (.int (-1 : Int32))) (fun h => by rw [Bd.returns] at h; cases h)
    refine ⟨_, _, C_37.trans (retOut X0 hx Bd.returns rfl (Or.inl ⟨rfl, Or.inl rfl, _, rfl⟩) (hb hby d14_32) hr), hrun, hended, _, _, rfl, ?_, ⟨_, rfl⟩, hW, hsame.mono (by decide) (by decide)⟩
    show Q_ioc_3 Z G1 G3 t kt y0 y1 y2 h0 n0 (some (.int (-1 : Int32))) s₁.heap _
    rw [e0]
    exact Or.inr (Or.inr (Or.inr (⟨rfl, N0, rfl, hc_11, hc_23, hc_35⟩)))
abbrev R_lio_3 : Room := { frames := 1, cells := 0, slots := 0, locals := 17 }
def Q_lio_3 (Z : State) (G1 : Int32) (G3 : Value) (t : Addr) (kt : ClassId) (y0 : Int32) (y1 : Int32) (y2 : Int32) (h0 : Heap) (n0 : Nat) (v : Option Value) (h : Heap) (L : List Loc) : Prop := (v = some (.int 0) ∧ Fr n0 L ∧ h = h0 ∧ (y0 = (31 : Int32))) ∨ (v = some (.int 1) ∧ Fr n0 L ∧ h = h0 ∧ (¬ (y0 = (31 : Int32))) ∧ (y1 = (31 : Int32))) ∨ (v = some (.int 2) ∧ Fr n0 L ∧ h = h0 ∧ (¬ (y0 = (31 : Int32))) ∧ (¬ (y1 = (31 : Int32))) ∧ (y2 = (31 : Int32))) ∨ (v = some (.int (-1 : Int32)) ∧ Fr n0 L ∧ h = h0 ∧ (¬ (y0 = (31 : Int32))) ∧ (¬ (y1 = (31 : Int32))) ∧ (¬ (y2 = (31 : Int32))))
theorem rm_lio_3 (l : Launch) (Z : State) (a0 : Array Value) (hw : HW Z a0) (ws : List Jvm.Cond) (G1 : Int32) (G3 : Value) (HG : own_G l Z a0 G1 G3) (h0 : Heap) (n0 : Nat) (X00 : Old Z n0 h0) (t : Addr) (kt : ClassId) (y0 : Int32) (y1 : Int32) (y2 : Int32) (hp0 : Arv Z h0 t kt .byte (3 : Int32) [(.int y0), (.int y1), (.int y2)] (.int 0)) :
  own_CP l Z M183 jdk_43_method_22_code 4 (some .int) ws R_lio_3 #[(.ref t), (.int 31), (.int 0), (.int 3)] h0 (Q_lio_3 Z G1 G3 t kt y0 y1 y2 h0 n0) := by
 refine own_P (plainFor_of_name pn_157) ?_
 intro p e s m below meth c s₁ S0 Bd hZ hh hx hby hml hown hnm X0 e0 hS0d
 obtain ⟨O1, P1, O3f, rG3⟩ := id HG
 have N0 := Fr.nil n0
 have C0 : Steps p.tables e below S0 (s₁.setTop (mkF m 0 #[VR t, VI 31, VI 0, VI 3] [])) := by rw [hS0d]; exact castTop (ef_184 m t (31 : Int32) (0 : Int32) (3 : Int32)) (Steps.refl _)
 obtain ⟨_, _, ⟨T_1, L_1, k_1, n_1⟩, -, X_1, ⟨Lc_1, hQ_1, l_1, y_1, z_1⟩, st_1⟩ := Jvm.LawKit.callS X0 hx (y := M155) hown (mvT hZ (w82 hw)) (mvT hZ (w83 hw)) (mvT hZ (w80 hw)) (mvT hZ (w84 hw)) (by decide) (backOf (W := 0) (rm_cei_31 l Z a0 hw [] G1 G3 HG h0 n0 X00  ) hZ (w84 hw) (w80 hw) (by decide) (by decide)) (g := (mkF m 1 #[VR t, VI 31, VI 0, VI 3] [(.int 31)])) rfl (by rw [hml]; rfl) (argsL := [(.int 31)]) (rest := []) (lenOf pd_188 rfl) rfl (by show 2 * 0 + _ ≤ _; exact Nat.le_of_eq rfl) (hb hby d11_1) (fun _ _ => ⟨rfl, e0, (by decide : 0 + 0 ≤ _), (by decide : 0 + 0 ≤ _)⟩)
 dsimp only [Pt.U, Pt.locs, Pt.cells, Pt.slots] at X_1 l_1 y_1 z_1 st_1 hQ_1
 subst l_1 y_1 z_1
 obtain ⟨rfl, N_2, e_3⟩ := hQ_1
 have N_4 := Fr.app N0 N_2
 have e_5 : T_1.heap = h0 := e_3
 obtain ⟨_, _, ⟨T_6, L_6, k_6, n_6⟩, -, X_6, ⟨Lc_6, hQ_6, l_6, y_6, z_6⟩, st_6⟩ := Jvm.LawKit.callS X_1 hx (y := M166) hown (mvT hZ (w85 hw)) (mvT hZ (w86 hw)) (mvT hZ (w87 hw)) (mvT hZ (w88 hw)) (by decide) (backOf (W := 0) (rm_maxL l Z a0 hw [] G1 G3 HG h0 n0 X00 (0 : Int32) (0 : Int32) (by decide)) hZ (w88 hw) (w87 hw) (by decide) (by decide)) (g := (mkF m 11 #[VR t, VI 31, VI 0, VI 3] [(.int 0), (.int 0)])) rfl (by rw [hml]; rfl) (argsL := [(.int 0), (.int 0)]) (rest := []) (lenOf pd_197 rfl) rfl (by show 2 * 0 + _ ≤ _; exact Nat.le_of_eq rfl) (hb hby d11_11) (fun _ _ => ⟨rfl, e_5, (by decide : 0 + 0 ≤ _), (by decide : 0 + 0 ≤ _)⟩)
 dsimp only [Pt.U, Pt.locs, Pt.cells, Pt.slots] at X_6 l_6 y_6 z_6 st_6 hQ_6
 subst l_6 y_6 z_6
 obtain ⟨rfl, N_7, e_8⟩ := hQ_6
 have N_9 := Fr.app N_4 N_7
 have e_10 : T_6.heap = h0 := e_8
 obtain ⟨c_11, A_12, q_13, S_14, M_15, H_16, U_17⟩ := id hp0
 obtain ⟨_, _, ⟨T_18, L_18, k_18, n_18⟩, -, X_18, ⟨Lc_18, hQ_18, l_18, y_18, z_18⟩, st_18⟩ := Jvm.LawKit.callS X_6 hx (y := M175) hown (mvT hZ (w89 hw)) (mvT hZ (w90 hw)) (mvT hZ (w87 hw)) (mvT hZ (w91 hw)) (by decide) (backOf (W := 0) (rm_minL l Z a0 hw [] G1 G3 HG h0 n0 X00 (3 : Int32) (3 : Int32) (by decide)) hZ (w91 hw) (w87 hw) (by decide) (by decide)) (g := (mkF m 18 #[VR t, VI 31, VI 0, VI 3] [(.int 3), (.int 3)])) rfl (by rw [hml]; rfl) (argsL := [(.int 3), (.int 3)]) (rest := []) (lenOf pd_197 rfl) rfl (by show 2 * 0 + _ ≤ _; exact Nat.le_of_eq rfl) (hb hby d11_18) (fun _ _ => ⟨rfl, e_10, (by decide : 0 + 0 ≤ _), (by decide : 0 + 0 ≤ _)⟩)
 dsimp only [Pt.U, Pt.locs, Pt.cells, Pt.slots] at X_18 l_18 y_18 z_18 st_18 hQ_18
 subst l_18 y_18 z_18
 obtain ⟨rfl, N_19, e_20⟩ := hQ_18
 have N_21 := Fr.app N_9 N_19
 have e_22 : T_18.heap = h0 := e_20
 obtain ⟨_, _, ⟨T_23, L_23, k_23, n_23⟩, -, X_23, ⟨Lc_23, hQ_23, l_23, y_23, z_23⟩, st_23⟩ := Jvm.LawKit.callS X_18 hx (y := M256) hown (mvT hZ (w118 hw)) (mvT hZ (w119 hw)) (mvT hZ (w80 hw)) (mvT hZ (w120 hw)) (by decide) (backOf (W := 0) (rm_ioc_3 l Z a0 hw [] G1 G3 HG h0 n0 X00 t kt y0 y1 y2 hp0) hZ (w120 hw) (w80 hw) (by decide) (by decide)) (g := (mkF m 33 #[VR t, VI 31, VI 0, VI 3] [(.int 3), (.int 0), (.int 31), (.ref t)])) rfl (by rw [hml]; rfl) (argsL := [(.ref t), (.int 31), (.int 0), (.int 3)]) (rest := []) (lenOf pd_239 rfl) rfl (by show 2 * 0 + _ ≤ _; exact Nat.le_of_eq rfl) (hb hby d11_33) (fun _ _ => ⟨rfl, e_22, (by decide : 0 + 0 ≤ _), (by decide : 0 + 0 ≤ _)⟩)
 dsimp only [Pt.U, Pt.locs, Pt.cells, Pt.slots] at X_23 l_23 y_23 z_23 st_23 hQ_23
 subst l_23 y_23 z_23
 have C_24 : Steps p.tables e below S0 (T_18.setTop (mkF m 33 #[VR t, VI 31, VI 0, VI 3] [(.int 3), (.int 0), (.int 31), (.ref t)])) := by
  refine C0.trans ?_
  refine XS.iloadN X0.here hx rfl (hb hby d11_0) rfl ?_
  refine st_1 _ ?_
  refine XS.ifYes X_1.here hx rfl (pc0 := 4) (pc' := 9) rfl (hb hby d11_4) rfl (by decide) (by decide) (by decide) ?_
  refine XS.iloadN X_1.here hx rfl (hb hby d11_9) rfl ?_
  refine XS.iconst X_1.here hx rfl (hb hby d11_10) ?_
  refine st_6 _ ?_
  refine XS.istoreN X_6.here hx rfl (hb hby d11_14) rfl (l' := #[VR t, VI 31, VI 0, VI 3]) rfl ?_
  refine XS.iloadN X_6.here hx rfl (hb hby d11_15) rfl ?_
  refine XS.aloadN X_6.here hx rfl (hb hby d11_16) rfl rfl ?_
  refine X_6.arraylength hx (by rw [e_10]; exact A_12.1) (State.isArrayOf_alike hZ.alike A_12.2.1) (g := (mkF m 17 #[VR t, VI 31, VI 0, VI 3] [(.ref t), (.int 3)])) rfl rfl (hb hby d11_17) _ ?_
  rw [len_of S_14 M_15]
  refine st_18 _ ?_
  refine XS.istoreN X_18.here hx rfl (hb hby d11_21) rfl (l' := #[VR t, VI 31, VI 0, VI 3]) rfl ?_
  refine XS.iloadN X_18.here hx rfl (hb hby d11_22) rfl ?_
  refine XS.iloadN X_18.here hx rfl (hb hby d11_23) rfl ?_
  refine XS.icmpYes X_18.here hx rfl (pc0 := 24) (pc' := 29) rfl (hb hby d11_24) rfl (by decide) (by decide) (by decide) ?_
  refine XS.aloadN X_18.here hx rfl (hb hby d11_29) rfl rfl ?_
  show Steps p.tables e below (T_18.setTop (mkF m 30 #[VR t, VI 31, VI 0, VI 3] [(.ref t)])) _
  refine XS.iloadN X_18.here hx rfl (hb hby d11_30) rfl ?_
  refine XS.iloadN X_18.here hx rfl (hb hby d11_31) rfl ?_
  refine XS.iloadN X_18.here hx rfl (hb hby d11_32) rfl ?_
  exact Steps.refl _
 rcases hQ_23 with hQ_25 | hQ_26 | hQ_27 | hQ_28
 ·skip
  obtain ⟨rfl, N_29, e_30, g_31⟩ := hQ_25
  have N_32 := Fr.app N_21 N_29
  have e_33 : T_23.heap = h0 := e_30
  have C_34 : Steps p.tables e below S0 (T_23.setTop (mkF m 36 #[VR t, VI 31, VI 0, VI 3] [(.int 0)])) := by
   refine C_24.trans ?_
   refine st_23 _ ?_
   exact Steps.refl _
  obtain ⟨fs, hr, hrun, hended, hW, hsame⟩ := X_23.leave (v := some (.int 0)) (fun h => by rw [Bd.returns] at h; cases h)
  refine ⟨_, _, C_34.trans (retOut X_23 hx Bd.returns rfl (Or.inl ⟨rfl, Or.inl rfl, _, rfl⟩) (hb hby d11_36) hr), hrun, hended, _, _, rfl, ?_, ⟨_, rfl⟩, hW, hsame.mono (by decide) (by decide)⟩
  show Q_lio_3 Z G1 G3 t kt y0 y1 y2 h0 n0 (some (.int 0)) T_23.heap _
  rw [e_33]
  exact Or.inl ⟨rfl, N_32, rfl, g_31⟩
 ·skip
  obtain ⟨rfl, N_35, e_36, g_37, g_38⟩ := hQ_26
  have N_39 := Fr.app N_21 N_35
  have e_40 : T_23.heap = h0 := e_36
  have C_41 : Steps p.tables e below S0 (T_23.setTop (mkF m 36 #[VR t, VI 31, VI 0, VI 3] [(.int 1)])) := by
   refine C_24.trans ?_
   refine st_23 _ ?_
   exact Steps.refl _
  obtain ⟨fs, hr, hrun, hended, hW, hsame⟩ := X_23.leave (v := some (.int 1)) (fun h => by rw [Bd.returns] at h; cases h)
  refine ⟨_, _, C_41.trans (retOut X_23 hx Bd.returns rfl (Or.inl ⟨rfl, Or.inl rfl, _, rfl⟩) (hb hby d11_36) hr), hrun, hended, _, _, rfl, ?_, ⟨_, rfl⟩, hW, hsame.mono (by decide) (by decide)⟩
  show Q_lio_3 Z G1 G3 t kt y0 y1 y2 h0 n0 (some (.int 1)) T_23.heap _
  rw [e_40]
  exact Or.inr (Or.inl ⟨rfl, N_39, rfl, g_37, g_38⟩)
 ·skip
  obtain ⟨rfl, N_42, e_43, g_44, g_45, g_46⟩ := hQ_27
  have N_47 := Fr.app N_21 N_42
  have e_48 : T_23.heap = h0 := e_43
  have C_49 : Steps p.tables e below S0 (T_23.setTop (mkF m 36 #[VR t, VI 31, VI 0, VI 3] [(.int 2)])) := by
   refine C_24.trans ?_
   refine st_23 _ ?_
   exact Steps.refl _
  obtain ⟨fs, hr, hrun, hended, hW, hsame⟩ := X_23.leave (v := some (.int 2)) (fun h => by rw [Bd.returns] at h; cases h)
  refine ⟨_, _, C_49.trans (retOut X_23 hx Bd.returns rfl (Or.inl ⟨rfl, Or.inl rfl, _, rfl⟩) (hb hby d11_36) hr), hrun, hended, _, _, rfl, ?_, ⟨_, rfl⟩, hW, hsame.mono (by decide) (by decide)⟩
  show Q_lio_3 Z G1 G3 t kt y0 y1 y2 h0 n0 (some (.int 2)) T_23.heap _
  rw [e_48]
  exact Or.inr (Or.inr (Or.inl ⟨rfl, N_47, rfl, g_44, g_45, g_46⟩))
 ·skip
  obtain ⟨rfl, N_50, e_51, g_52, g_53, g_54⟩ := hQ_28
  have N_55 := Fr.app N_21 N_50
  have e_56 : T_23.heap = h0 := e_51
  have C_57 : Steps p.tables e below S0 (T_23.setTop (mkF m 36 #[VR t, VI 31, VI 0, VI 3] [(.int (-1 : Int32))])) := by
   refine C_24.trans ?_
   refine st_23 _ ?_
   exact Steps.refl _
  obtain ⟨fs, hr, hrun, hended, hW, hsame⟩ := X_23.leave (v := some (.int (-1 : Int32))) (fun h => by rw [Bd.returns] at h; cases h)
  refine ⟨_, _, C_57.trans (retOut X_23 hx Bd.returns rfl (Or.inl ⟨rfl, Or.inl rfl, _, rfl⟩) (hb hby d11_36) hr), hrun, hended, _, _, rfl, ?_, ⟨_, rfl⟩, hW, hsame.mono (by decide) (by decide)⟩
  show Q_lio_3 Z G1 G3 t kt y0 y1 y2 h0 n0 (some (.int (-1 : Int32))) T_23.heap _
  rw [e_56]
  exact Or.inr (Or.inr (Or.inr (⟨rfl, N_55, rfl, g_52, g_53, g_54⟩)))
abbrev R_io2_3 : Room := { frames := 2, cells := 0, slots := 0, locals := 32 }
def Q_io2_3 (Z : State) (G1 : Int32) (G3 : Value) (x : Addr) (t : Addr) (kt : ClassId) (y0 : Int32) (y1 : Int32) (y2 : Int32) (h0 : Heap) (n0 : Nat) (v : Option Value) (h : Heap) (L : List Loc) : Prop := (v = some (.int 0) ∧ Fr n0 L ∧ h = h0 ∧ (y0 = (31 : Int32))) ∨ (v = some (.int 1) ∧ Fr n0 L ∧ h = h0 ∧ (¬ (y0 = (31 : Int32))) ∧ (y1 = (31 : Int32))) ∨ (v = some (.int 2) ∧ Fr n0 L ∧ h = h0 ∧ (¬ (y0 = (31 : Int32))) ∧ (¬ (y1 = (31 : Int32))) ∧ (y2 = (31 : Int32))) ∨ (v = some (.int (-1 : Int32)) ∧ Fr n0 L ∧ h = h0 ∧ (¬ (y0 = (31 : Int32))) ∧ (¬ (y1 = (31 : Int32))) ∧ (¬ (y2 = (31 : Int32))))
theorem rm_io2_3 (l : Launch) (Z : State) (a0 : Array Value) (hw : HW Z a0) (ws : List Jvm.Cond) (G1 : Int32) (G3 : Value) (HG : own_G l Z a0 G1 G3) (h0 : Heap) (n0 : Nat) (X00 : Old Z n0 h0) (x : Addr) (t : Addr) (kt : ClassId) (y0 : Int32) (y1 : Int32) (y2 : Int32) (hp0 : Exa Z h0 x "java/lang/String") (hp1 : Fld Z h0 x "java/lang/String" "coder" "B" (.int 0)) (hp2 : Fld Z h0 x "java/lang/String" "value" "[B" (.ref t)) (hp3 : Arv Z h0 t kt .byte (3 : Int32) [(.int y0), (.int y1), (.int y2)] (.int 0)) :
  own_CP l Z M215 jdk_42_method_80_code 3 (some .int) ws R_io2_3 #[(.ref x), (.int 31), (.int 0)] h0 (Q_io2_3 Z G1 G3 x t kt y0 y1 y2 h0 n0) := by
 refine own_P (plainFor_of_name pn_2) ?_
 intro p e s m below meth c s₁ S0 Bd hZ hh hx hby hml hown hnm X0 e0 hS0d
 obtain ⟨O1, P1, O3f, rG3⟩ := id HG
 have N0 := Fr.nil n0
 have C0 : Steps p.tables e below S0 (s₁.setTop (mkF m 0 #[VR x, VI 31, VI 0] [])) := by rw [hS0d]; exact castTop (ef_216 m x (31 : Int32) (0 : Int32)) (Steps.refl _)
 obtain ⟨q_2, q_3, q_4, q_5, q_6⟩ := isOf (T := s₁) hZ e0 hp0
 obtain ⟨_, _, ⟨T_1, L_1, k_1, n_1⟩, -, X_1, ⟨Lc_1, hQ_1, l_1, y_1, z_1⟩, st_1⟩ := X0.virtualBack hx (y := M132) (z := M132) hown (mvT hZ (w62 hw)) (mvT hZ (w63 hw)) (notFace_of_selects (args := #[]) (mvT hZ (w65 hw))) (mvT hZ (w65 hw)) (mvT hZ (w64 hw)) (by decide) (backOf (W := 0) (rm_islat l Z a0 hw [] G1 G3 HG h0 n0 X00 x hp1) hZ (w66 hw) (w10 hw) (by decide) (by decide)) q_4 q_6 (g := (mkF m 1 #[VR x, VI 31, VI 0] [(.ref x)])) rfl (by rw [hml]; rfl) (Steps.refl _) (argsL := []) (rest := []) (lenOf pd_219 rfl) rfl (by show 2 * 0 + _ ≤ _; exact Nat.le_of_eq rfl) (hb hby d12_1) (fun _ _ => ⟨rfl, e0, (by decide : 0 + 0 ≤ _), (by decide : 0 + 0 ≤ _)⟩)
 dsimp only [Pt.U, Pt.locs, Pt.cells, Pt.slots] at X_1 l_1 y_1 z_1 st_1 hQ_1
 subst l_1 y_1 z_1
 obtain ⟨rfl, N_7, e_8⟩ := hQ_1
 have N_9 := Fr.app N0 N_7
 have e_10 : T_1.heap = h0 := e_8
 obtain ⟨T_11, X_12, e_13, st_14⟩ := getF X_1 hx hZ hown (host := "") (Or.inl (w28 hw)) Via.refl e_10 hp2 (g := (mkF m 8 #[VR x, VI 31, VI 0] [(.ref x)])) rfl rfl (hb hby d12_8)
 obtain ⟨q_16, q_17, q_18, q_19, q_20⟩ := isOf (T := T_11) hZ e_13 hp0
 obtain ⟨_, _, ⟨T_15, L_15, k_15, n_15⟩, -, X_15, ⟨Lc_15, hQ_15, l_15, y_15, z_15⟩, st_15⟩ := X_12.virtualBack hx (y := M141) (z := M141) hown (mvT hZ (w68 hw)) (mvT hZ (w69 hw)) (notFace_of_selects (args := #[]) (mvT hZ (w71 hw))) (mvT hZ (w71 hw)) (mvT hZ (w70 hw)) (by decide) (backOf (W := 3) (rm_lenany l Z a0 hw [] G1 G3 HG h0 n0 X00 x t kt (3 : Int32) [(.int y0), (.int y1), (.int y2)] hp0 hp1 hp2 hp3) hZ (w72 hw) (w10 hw) (by decide) (by decide)) q_18 q_20 (g := (mkF m 14 #[VR x, VI 31, VI 0] [(.ref x), (.int 0), (.int 31), (.ref t)])) rfl (by rw [hml]; rfl) (Steps.refl _) (argsL := []) (rest := [(.int 0), (.int 31), (.ref t)]) (lenOf pd_232 rfl) rfl (by show 2 * 0 + _ ≤ _; exact Nat.le_of_eq rfl) (hb hby d12_14) (fun _ _ => ⟨rfl, e_13, (by decide : 0 + 0 ≤ _), (by decide : 0 + 0 ≤ _)⟩)
 dsimp only [Pt.U, Pt.locs, Pt.cells, Pt.slots] at X_15 l_15 y_15 z_15 st_15 hQ_15
 subst l_15 y_15 z_15
 obtain ⟨rfl, N_21, e_22⟩ := hQ_15
 have N_23 := Fr.app N_9 N_21
 have e_24 : T_15.heap = h0 := e_22
 obtain ⟨_, _, ⟨T_25, L_25, k_25, n_25⟩, -, X_25, ⟨Lc_25, hQ_25, l_25, y_25, z_25⟩, st_25⟩ := Jvm.LawKit.callS X_15 hx (y := M183) hown (mvT hZ (w78 hw)) (mvT hZ (w79 hw)) (mvT hZ (w80 hw)) (mvT hZ (w81 hw)) (by decide) (backOf (W := 0) (rm_lio_3 l Z a0 hw [] G1 G3 HG h0 n0 X00 t kt y0 y1 y2 hp3) hZ (w81 hw) (w80 hw) (by decide) (by decide)) (g := (mkF m 17 #[VR x, VI 31, VI 0] [(.int 3), (.int 0), (.int 31), (.ref t)])) rfl (by rw [hml]; rfl) (argsL := [(.ref t), (.int 31), (.int 0), (.int 3)]) (rest := []) (lenOf pd_239 rfl) rfl (by show 2 * 0 + _ ≤ _; exact Nat.le_of_eq rfl) (hb hby d12_17) (fun _ _ => ⟨rfl, e_24, (by decide : 0 + 0 ≤ _), (by decide : 0 + 0 ≤ _)⟩)
 dsimp only [Pt.U, Pt.locs, Pt.cells, Pt.slots] at X_25 l_25 y_25 z_25 st_25 hQ_25
 subst l_25 y_25 z_25
 have C_26 : Steps p.tables e below S0 (T_15.setTop (mkF m 17 #[VR x, VI 31, VI 0] [(.int 3), (.int 0), (.int 31), (.ref t)])) := by
  refine C0.trans ?_
  refine XS.aloadN X0.here hx rfl (hb hby d12_0) rfl rfl ?_
  refine st_1.trans ?_
  refine XS.ifNo X_1.here hx rfl (hb hby d12_4) rfl (by decide) ?_
  refine XS.aloadN X_1.here hx rfl (hb hby d12_7) rfl rfl ?_
  refine st_14 _ ?_
  refine XS.iloadN X_12.here hx rfl (hb hby d12_11) rfl ?_
  refine XS.iloadN X_12.here hx rfl (hb hby d12_12) rfl ?_
  refine XS.aloadN X_12.here hx rfl (hb hby d12_13) rfl rfl ?_
  refine st_15.trans ?_
  exact Steps.refl _
 rcases hQ_25 with hQ_27 | hQ_28 | hQ_29 | hQ_30
 ·skip
  obtain ⟨rfl, N_31, e_32, g_33⟩ := hQ_27
  have N_34 := Fr.app N_23 N_31
  have e_35 : T_25.heap = h0 := e_32
  have C_36 : Steps p.tables e below S0 (T_25.setTop (mkF m 36 #[VR x, VI 31, VI 0] [(.int 0)])) := by
   refine C_26.trans ?_
   refine st_25 _ ?_
   refine XS.goto X_25.here hx rfl (pc0 := 20) (pc' := 36) rfl (hb hby d12_20) (by decide) (by decide) ?_
   exact Steps.refl _
  obtain ⟨fs, hr, hrun, hended, hW, hsame⟩ := X_25.leave (v := some (.int 0)) (fun h => by rw [Bd.returns] at h; cases h)
  refine ⟨_, _, C_36.trans (retOut X_25 hx Bd.returns rfl (Or.inl ⟨rfl, Or.inl rfl, _, rfl⟩) (hb hby d12_36) hr), hrun, hended, _, _, rfl, ?_, ⟨_, rfl⟩, hW, hsame.mono (by decide) (by decide)⟩
  show Q_io2_3 Z G1 G3 x t kt y0 y1 y2 h0 n0 (some (.int 0)) T_25.heap _
  rw [e_35]
  exact Or.inl ⟨rfl, N_34, rfl, g_33⟩
 ·skip
  obtain ⟨rfl, N_37, e_38, g_39, g_40⟩ := hQ_28
  have N_41 := Fr.app N_23 N_37
  have e_42 : T_25.heap = h0 := e_38
  have C_43 : Steps p.tables e below S0 (T_25.setTop (mkF m 36 #[VR x, VI 31, VI 0] [(.int 1)])) := by
   refine C_26.trans ?_
   refine st_25 _ ?_
   refine XS.goto X_25.here hx rfl (pc0 := 20) (pc' := 36) rfl (hb hby d12_20) (by decide) (by decide) ?_
   exact Steps.refl _
  obtain ⟨fs, hr, hrun, hended, hW, hsame⟩ := X_25.leave (v := some (.int 1)) (fun h => by rw [Bd.returns] at h; cases h)
  refine ⟨_, _, C_43.trans (retOut X_25 hx Bd.returns rfl (Or.inl ⟨rfl, Or.inl rfl, _, rfl⟩) (hb hby d12_36) hr), hrun, hended, _, _, rfl, ?_, ⟨_, rfl⟩, hW, hsame.mono (by decide) (by decide)⟩
  show Q_io2_3 Z G1 G3 x t kt y0 y1 y2 h0 n0 (some (.int 1)) T_25.heap _
  rw [e_42]
  exact Or.inr (Or.inl ⟨rfl, N_41, rfl, g_39, g_40⟩)
 ·skip
  obtain ⟨rfl, N_44, e_45, g_46, g_47, g_48⟩ := hQ_29
  have N_49 := Fr.app N_23 N_44
  have e_50 : T_25.heap = h0 := e_45
  have C_51 : Steps p.tables e below S0 (T_25.setTop (mkF m 36 #[VR x, VI 31, VI 0] [(.int 2)])) := by
   refine C_26.trans ?_
   refine st_25 _ ?_
   refine XS.goto X_25.here hx rfl (pc0 := 20) (pc' := 36) rfl (hb hby d12_20) (by decide) (by decide) ?_
   exact Steps.refl _
  obtain ⟨fs, hr, hrun, hended, hW, hsame⟩ := X_25.leave (v := some (.int 2)) (fun h => by rw [Bd.returns] at h; cases h)
  refine ⟨_, _, C_51.trans (retOut X_25 hx Bd.returns rfl (Or.inl ⟨rfl, Or.inl rfl, _, rfl⟩) (hb hby d12_36) hr), hrun, hended, _, _, rfl, ?_, ⟨_, rfl⟩, hW, hsame.mono (by decide) (by decide)⟩
  show Q_io2_3 Z G1 G3 x t kt y0 y1 y2 h0 n0 (some (.int 2)) T_25.heap _
  rw [e_50]
  exact Or.inr (Or.inr (Or.inl ⟨rfl, N_49, rfl, g_46, g_47, g_48⟩))
 ·skip
  obtain ⟨rfl, N_52, e_53, g_54, g_55, g_56⟩ := hQ_30
  have N_57 := Fr.app N_23 N_52
  have e_58 : T_25.heap = h0 := e_53
  have C_59 : Steps p.tables e below S0 (T_25.setTop (mkF m 36 #[VR x, VI 31, VI 0] [(.int (-1 : Int32))])) := by
   refine C_26.trans ?_
   refine st_25 _ ?_
   refine XS.goto X_25.here hx rfl (pc0 := 20) (pc' := 36) rfl (hb hby d12_20) (by decide) (by decide) ?_
   exact Steps.refl _
  obtain ⟨fs, hr, hrun, hended, hW, hsame⟩ := X_25.leave (v := some (.int (-1 : Int32))) (fun h => by rw [Bd.returns] at h; cases h)
  refine ⟨_, _, C_59.trans (retOut X_25 hx Bd.returns rfl (Or.inl ⟨rfl, Or.inl rfl, _, rfl⟩) (hb hby d12_36) hr), hrun, hended, _, _, rfl, ?_, ⟨_, rfl⟩, hW, hsame.mono (by decide) (by decide)⟩
  show Q_io2_3 Z G1 G3 x t kt y0 y1 y2 h0 n0 (some (.int (-1 : Int32))) T_25.heap _
  rw [e_58]
  exact Or.inr (Or.inr (Or.inr (⟨rfl, N_57, rfl, g_54, g_55, g_56⟩)))
abbrev R_io1_3 : Room := { frames := 3, cells := 0, slots := 0, locals := 46 }
def Q_io1_3 (Z : State) (G1 : Int32) (G3 : Value) (x : Addr) (t : Addr) (kt : ClassId) (y0 : Int32) (y1 : Int32) (y2 : Int32) (h0 : Heap) (n0 : Nat) (v : Option Value) (h : Heap) (L : List Loc) : Prop := (v = some (.int 0) ∧ Fr n0 L ∧ h = h0 ∧ (y0 = (31 : Int32))) ∨ (v = some (.int 1) ∧ Fr n0 L ∧ h = h0 ∧ (¬ (y0 = (31 : Int32))) ∧ (y1 = (31 : Int32))) ∨ (v = some (.int 2) ∧ Fr n0 L ∧ h = h0 ∧ (¬ (y0 = (31 : Int32))) ∧ (¬ (y1 = (31 : Int32))) ∧ (y2 = (31 : Int32))) ∨ (v = some (.int (-1 : Int32)) ∧ Fr n0 L ∧ h = h0 ∧ (¬ (y0 = (31 : Int32))) ∧ (¬ (y1 = (31 : Int32))) ∧ (¬ (y2 = (31 : Int32))))
theorem rm_io1_3 (l : Launch) (Z : State) (a0 : Array Value) (hw : HW Z a0) (ws : List Jvm.Cond) (G1 : Int32) (G3 : Value) (HG : own_G l Z a0 G1 G3) (h0 : Heap) (n0 : Nat) (X00 : Old Z n0 h0) (x : Addr) (t : Addr) (kt : ClassId) (y0 : Int32) (y1 : Int32) (y2 : Int32) (hp0 : Exa Z h0 x "java/lang/String") (hp1 : Fld Z h0 x "java/lang/String" "coder" "B" (.int 0)) (hp2 : Fld Z h0 x "java/lang/String" "value" "[B" (.ref t)) (hp3 : Arv Z h0 t kt .byte (3 : Int32) [(.int y0), (.int y1), (.int y2)] (.int 0)) :
  own_CP l Z M245 jdk_42_method_79_code 2 (some .int) ws R_io1_3 #[(.ref x), (.int 31)] h0 (Q_io1_3 Z G1 G3 x t kt y0 y1 y2 h0 n0) := by
 refine own_P (plainFor_of_name pn_2) ?_
 intro p e s m below meth c s₁ S0 Bd hZ hh hx hby hml hown hnm X0 e0 hS0d
 obtain ⟨O1, P1, O3f, rG3⟩ := id HG
 have N0 := Fr.nil n0
 have C0 : Steps p.tables e below S0 (s₁.setTop (mkF m 0 #[VR x, VI 31] [])) := by rw [hS0d]; exact castTop (ef_90 m x (31 : Int32)) (Steps.refl _)
 obtain ⟨q_2, q_3, q_4, q_5, q_6⟩ := isOf (T := s₁) hZ e0 hp0
 obtain ⟨_, _, ⟨T_1, L_1, k_1, n_1⟩, -, X_1, ⟨Lc_1, hQ_1, l_1, y_1, z_1⟩, st_1⟩ := X0.virtualBack hx (y := M215) (z := M215) hown (mvT hZ (w57 hw)) (mvT hZ (w58 hw)) (notFace_of_selects (args := #[]) (mvT hZ (w60 hw))) (mvT hZ (w60 hw)) (mvT hZ (w59 hw)) (by decide) (backOf (W := 0) (rm_io2_3 l Z a0 hw [] G1 G3 HG h0 n0 X00 x t kt y0 y1 y2 hp0 hp1 hp2 hp3) hZ (w61 hw) (w10 hw) (by decide) (by decide)) q_4 q_6 (g := (mkF m 3 #[VR x, VI 31] [(.int 0), (.int 31), (.ref x)])) rfl (by rw [hml]; rfl) (Steps.refl _) (argsL := [(.int 31), (.int 0)]) (rest := []) (lenOf pd_197 rfl) rfl (by show 2 * 0 + _ ≤ _; exact Nat.le_of_eq rfl) (hb hby d13_3) (fun _ _ => ⟨rfl, e0, (by decide : 0 + 0 ≤ _), (by decide : 0 + 0 ≤ _)⟩)
 dsimp only [Pt.U, Pt.locs, Pt.cells, Pt.slots] at X_1 l_1 y_1 z_1 st_1 hQ_1
 subst l_1 y_1 z_1
 have C_7 : Steps p.tables e below S0 (s₁.setTop (mkF m 3 #[VR x, VI 31] [(.int 0), (.int 31), (.ref x)])) := by
  refine C0.trans ?_
  refine XS.aloadN X0.here hx rfl (hb hby d13_0) rfl rfl ?_
  refine XS.iloadN X0.here hx rfl (hb hby d13_1) rfl ?_
  refine XS.iconst X0.here hx rfl (hb hby d13_2) ?_
  exact Steps.refl _
 rcases hQ_1 with hQ_8 | hQ_9 | hQ_10 | hQ_11
 ·skip
  obtain ⟨rfl, N_12, e_13, g_14⟩ := hQ_8
  have N_15 := Fr.app N0 N_12
  have e_16 : T_1.heap = h0 := e_13
  have C_17 : Steps p.tables e below S0 (T_1.setTop (mkF m 6 #[VR x, VI 31] [(.int 0)])) := by
   refine C_7.trans ?_
   refine st_1.trans ?_
   exact Steps.refl _
  obtain ⟨fs, hr, hrun, hended, hW, hsame⟩ := X_1.leave (v := some (.int 0)) (fun h => by rw [Bd.returns] at h; cases h)
  refine ⟨_, _, C_17.trans (retOut X_1 hx Bd.returns rfl (Or.inl ⟨rfl, Or.inl rfl, _, rfl⟩) (hb hby d13_6) hr), hrun, hended, _, _, rfl, ?_, ⟨_, rfl⟩, hW, hsame.mono (by decide) (by decide)⟩
  show Q_io1_3 Z G1 G3 x t kt y0 y1 y2 h0 n0 (some (.int 0)) T_1.heap _
  rw [e_16]
  exact Or.inl ⟨rfl, N_15, rfl, g_14⟩
 ·skip
  obtain ⟨rfl, N_18, e_19, g_20, g_21⟩ := hQ_9
  have N_22 := Fr.app N0 N_18
  have e_23 : T_1.heap = h0 := e_19
  have C_24 : Steps p.tables e below S0 (T_1.setTop (mkF m 6 #[VR x, VI 31] [(.int 1)])) := by
   refine C_7.trans ?_
   refine st_1.trans ?_
   exact Steps.refl _
  obtain ⟨fs, hr, hrun, hended, hW, hsame⟩ := X_1.leave (v := some (.int 1)) (fun h => by rw [Bd.returns] at h; cases h)
  refine ⟨_, _, C_24.trans (retOut X_1 hx Bd.returns rfl (Or.inl ⟨rfl, Or.inl rfl, _, rfl⟩) (hb hby d13_6) hr), hrun, hended, _, _, rfl, ?_, ⟨_, rfl⟩, hW, hsame.mono (by decide) (by decide)⟩
  show Q_io1_3 Z G1 G3 x t kt y0 y1 y2 h0 n0 (some (.int 1)) T_1.heap _
  rw [e_23]
  exact Or.inr (Or.inl ⟨rfl, N_22, rfl, g_20, g_21⟩)
 ·skip
  obtain ⟨rfl, N_25, e_26, g_27, g_28, g_29⟩ := hQ_10
  have N_30 := Fr.app N0 N_25
  have e_31 : T_1.heap = h0 := e_26
  have C_32 : Steps p.tables e below S0 (T_1.setTop (mkF m 6 #[VR x, VI 31] [(.int 2)])) := by
   refine C_7.trans ?_
   refine st_1.trans ?_
   exact Steps.refl _
  obtain ⟨fs, hr, hrun, hended, hW, hsame⟩ := X_1.leave (v := some (.int 2)) (fun h => by rw [Bd.returns] at h; cases h)
  refine ⟨_, _, C_32.trans (retOut X_1 hx Bd.returns rfl (Or.inl ⟨rfl, Or.inl rfl, _, rfl⟩) (hb hby d13_6) hr), hrun, hended, _, _, rfl, ?_, ⟨_, rfl⟩, hW, hsame.mono (by decide) (by decide)⟩
  show Q_io1_3 Z G1 G3 x t kt y0 y1 y2 h0 n0 (some (.int 2)) T_1.heap _
  rw [e_31]
  exact Or.inr (Or.inr (Or.inl ⟨rfl, N_30, rfl, g_27, g_28, g_29⟩))
 ·skip
  obtain ⟨rfl, N_33, e_34, g_35, g_36, g_37⟩ := hQ_11
  have N_38 := Fr.app N0 N_33
  have e_39 : T_1.heap = h0 := e_34
  have C_40 : Steps p.tables e below S0 (T_1.setTop (mkF m 6 #[VR x, VI 31] [(.int (-1 : Int32))])) := by
   refine C_7.trans ?_
   refine st_1.trans ?_
   exact Steps.refl _
  obtain ⟨fs, hr, hrun, hended, hW, hsame⟩ := X_1.leave (v := some (.int (-1 : Int32))) (fun h => by rw [Bd.returns] at h; cases h)
  refine ⟨_, _, C_40.trans (retOut X_1 hx Bd.returns rfl (Or.inl ⟨rfl, Or.inl rfl, _, rfl⟩) (hb hby d13_6) hr), hrun, hended, _, _, rfl, ?_, ⟨_, rfl⟩, hW, hsame.mono (by decide) (by decide)⟩
  show Q_io1_3 Z G1 G3 x t kt y0 y1 y2 h0 n0 (some (.int (-1 : Int32))) T_1.heap _
  rw [e_39]
  exact Or.inr (Or.inr (Or.inr (⟨rfl, N_38, rfl, g_35, g_36, g_37⟩)))
abbrev R_ioc_4 : Room := { frames := 0, cells := 0, slots := 0, locals := 0 }
def Q_ioc_4 (Z : State) (G1 : Int32) (G3 : Value) (t : Addr) (kt : ClassId) (y0 : Int32) (y1 : Int32) (y2 : Int32) (y3 : Int32) (h0 : Heap) (n0 : Nat) (v : Option Value) (h : Heap) (L : List Loc) : Prop := (v = some (.int 0) ∧ Fr n0 L ∧ h = h0 ∧ (y0 = (31 : Int32))) ∨ (v = some (.int 1) ∧ Fr n0 L ∧ h = h0 ∧ (¬ (y0 = (31 : Int32))) ∧ (y1 = (31 : Int32))) ∨ (v = some (.int 2) ∧ Fr n0 L ∧ h = h0 ∧ (¬ (y0 = (31 : Int32))) ∧ (¬ (y1 = (31 : Int32))) ∧ (y2 = (31 : Int32))) ∨ (v = some (.int 3) ∧ Fr n0 L ∧ h = h0 ∧ (¬ (y0 = (31 : Int32))) ∧ (¬ (y1 = (31 : Int32))) ∧ (¬ (y2 = (31 : Int32))) ∧ (y3 = (31 : Int32))) ∨ (v = some (.int (-1 : Int32)) ∧ Fr n0 L ∧ h = h0 ∧ (¬ (y0 = (31 : Int32))) ∧ (¬ (y1 = (31 : Int32))) ∧ (¬ (y2 = (31 : Int32))) ∧ (¬ (y3 = (31 : Int32))))
theorem rm_ioc_4 (l : Launch) (Z : State) (a0 : Array Value) (hw : HW Z a0) (ws : List Jvm.Cond) (G1 : Int32) (G3 : Value) (HG : own_G l Z a0 G1 G3) (h0 : Heap) (n0 : Nat) (X00 : Old Z n0 h0) (t : Addr) (kt : ClassId) (y0 : Int32) (y1 : Int32) (y2 : Int32) (y3 : Int32) (hp0 : Arv Z h0 t kt .byte (4 : Int32) [(.int y0), (.int y1), (.int y2), (.int y3)] (.int 0)) :
  own_CP l Z M256 jdk_43_method_23_code 6 (some .int) ws R_ioc_4 #[(.ref t), (.int 31), (.int 0), (.int 4)] h0 (Q_ioc_4 Z G1 G3 t kt y0 y1 y2 y3 h0 n0) := by
 refine own_P (plainFor_of_name pn_157) ?_
 intro p e s m below meth c s₁ S0 Bd hZ hh hx hby hml hown hnm X0 e0 hS0d
 obtain ⟨O1, P1, O3f, rG3⟩ := id HG
 have N0 := Fr.nil n0
 have C0 : Steps p.tables e below S0 (s₁.setTop (mkF m 0 #[VR t, VI 31, VI 0, VI 4, .unset, .unset] [])) := by rw [hS0d]; exact castTop (ef_257 m t (31 : Int32) (0 : Int32) (4 : Int32)) (Steps.refl _)
 obtain ⟨c_1, A_2, q_3, S_4, M_5, H_6, U_7⟩ := id hp0
 have hin_8 : ¬ ((0 : Int32) < 0 ∨ c_1.slots.size ≤ (0 : Int32).toNatClampNeg) := inb_of S_4 ⟨(by decide : ¬ ((0 : Int32) < (0 : Int32))), (by decide : (0 : Int32) < (4 : Int32))⟩
 have hat_9 : c_1.slots[(0 : Int32).toNatClampNeg]? = some (.int y0) := Has.at H_6 hin_8 rfl
 have C_10 : Steps p.tables e below S0 (s₁.setTop (mkF m 19 #[VR t, VI 31, VI 0, VI 4, VI 31, VI 0] [(.int 31), (.int y0)])) := by
  refine C0.trans ?_
  refine XS.iloadN X0.here hx rfl (hb hby d14_0) rfl ?_
  refine XS.i2b X0.here hx rfl (hb hby d14_1) rfl ?_
  refine XS.istore X0.here hx rfl (hb hby d14_2) rfl (l' := #[VR t, VI 31, VI 0, VI 4, VI 31, .unset]) rfl ?_
  refine XS.iloadN X0.here hx rfl (hb hby d14_4) rfl ?_
  refine XS.istore X0.here hx rfl (hb hby d14_5) rfl (l' := #[VR t, VI 31, VI 0, VI 4, VI 31, VI 0]) rfl ?_
  refine XS.iload X0.here hx rfl (hb hby d14_7) rfl ?_
  refine XS.iloadN X0.here hx rfl (hb hby d14_9) rfl ?_
  refine XS.icmpNo X0.here hx rfl (hb hby d14_10) rfl (by decide) ?_
  refine XS.aloadN X0.here hx rfl (hb hby d14_13) rfl rfl ?_
  refine XS.iload X0.here hx rfl (hb hby d14_14) rfl ?_
  refine X0.baloadBytes hx (j := (0 : Int32)) (v := (.int y0)) (by rw [e0]; exact A_2.1) (State.isArrayOf_alike hZ.alike A_2.2.1) A_2.2.2 hin_8 hat_9 (g := (mkF m 16 #[VR t, VI 31, VI 0, VI 4, VI 31, VI 0] [(.int 0), (.ref t)])) rfl rfl (hb hby d14_16) _ ?_
  refine XS.iload X0.here hx rfl (hb hby d14_17) rfl ?_
  exact Steps.refl _
 by_cases hc_11 : y0 = (31 : Int32)
 ·skip
  have C_12 : Steps p.tables e below S0 (s₁.setTop (mkF m 24 #[VR t, VI 31, VI 0, VI 4, VI 31, VI 0] [(.int 0)])) := by
   refine C_10.trans ?_
   refine XS.icmpNo X0.here hx rfl (hb hby d14_19) rfl (ii_ne_f hc_11) ?_
   refine XS.iload X0.here hx rfl (hb hby d14_22) rfl ?_
   exact Steps.refl _
  obtain ⟨fs, hr, hrun, hended, hW, hsame⟩ := X0.leave (v := some (.int 0)) (fun h => by rw [Bd.returns] at h; cases h)
  refine ⟨_, _, C_12.trans (retOut X0 hx Bd.returns rfl (Or.inl ⟨rfl, Or.inl rfl, _, rfl⟩) (hb hby d14_24) hr), hrun, hended, _, _, rfl, ?_, ⟨_, rfl⟩, hW, hsame.mono (by decide) (by decide)⟩
  show Q_ioc_4 Z G1 G3 t kt y0 y1 y2 y3 h0 n0 (some (.int 0)) s₁.heap _
  rw [e0]
  exact Or.inl ⟨rfl, N0, rfl, hc_11⟩
 ·skip
  obtain ⟨c_13, A_14, q_15, S_16, M_17, H_18, U_19⟩ := id hp0
  have hin_20 : ¬ ((1 : Int32) < 0 ∨ c_13.slots.size ≤ (1 : Int32).toNatClampNeg) := inb_of S_16 ⟨(by decide : ¬ ((1 : Int32) < (0 : Int32))), (by decide : (1 : Int32) < (4 : Int32))⟩
  have hat_21 : c_13.slots[(1 : Int32).toNatClampNeg]? = some (.int y1) := Has.at H_18 hin_20 rfl
  have C_22 : Steps p.tables e below S0 (s₁.setTop (mkF m 19 #[VR t, VI 31, VI 0, VI 4, VI 31, VI 1] [(.int 31), (.int y1)])) := by
   refine C_10.trans ?_
   refine XS.icmpYes X0.here hx rfl (pc0 := 19) (pc' := 25) rfl (hb hby d14_19) rfl (ii_ne_t hc_11) (by decide) (by decide) ?_
   refine XS.iinc X0.here hx rfl (hb hby d14_25) (x := (0 : Int32)) rfl (l' := #[VR t, VI 31, VI 0, VI 4, VI 31, VI 1]) rfl ?_
   refine XS.goto X0.here hx rfl (pc0 := 28) (pc' := 7) rfl (hb hby d14_28) (by decide) (by decide) ?_
   refine XS.iload X0.here hx rfl (hb hby d14_7) rfl ?_
   refine XS.iloadN X0.here hx rfl (hb hby d14_9) rfl ?_
   refine XS.icmpNo X0.here hx rfl (hb hby d14_10) rfl (by decide) ?_
   refine XS.aloadN X0.here hx rfl (hb hby d14_13) rfl rfl ?_
   refine XS.iload X0.here hx rfl (hb hby d14_14) rfl ?_
   refine X0.baloadBytes hx (j := (1 : Int32)) (v := (.int y1)) (by rw [e0]; exact A_14.1) (State.isArrayOf_alike hZ.alike A_14.2.1) A_14.2.2 hin_20 hat_21 (g := (mkF m 16 #[VR t, VI 31, VI 0, VI 4, VI 31, VI 1] [(.int 1), (.ref t)])) rfl rfl (hb hby d14_16) _ ?_
   refine XS.iload X0.here hx rfl (hb hby d14_17) rfl ?_
   exact Steps.refl _
  by_cases hc_23 : y1 = (31 : Int32)
  ·skip
   have C_24 : Steps p.tables e below S0 (s₁.setTop (mkF m 24 #[VR t, VI 31, VI 0, VI 4, VI 31, VI 1] [(.int 1)])) := by
    refine C_22.trans ?_
    refine XS.icmpNo X0.here hx rfl (hb hby d14_19) rfl (ii_ne_f hc_23) ?_
    refine XS.iload X0.here hx rfl (hb hby d14_22) rfl ?_
    exact Steps.refl _
   obtain ⟨fs, hr, hrun, hended, hW, hsame⟩ := X0.leave (v := some (.int 1)) (fun h => by rw [Bd.returns] at h; cases h)
   refine ⟨_, _, C_24.trans (retOut X0 hx Bd.returns rfl (Or.inl ⟨rfl, Or.inl rfl, _, rfl⟩) (hb hby d14_24) hr), hrun, hended, _, _, rfl, ?_, ⟨_, rfl⟩, hW, hsame.mono (by decide) (by decide)⟩
   show Q_ioc_4 Z G1 G3 t kt y0 y1 y2 y3 h0 n0 (some (.int 1)) s₁.heap _
   rw [e0]
   exact Or.inr (Or.inl ⟨rfl, N0, rfl, hc_11, hc_23⟩)
  ·skip
   obtain ⟨c_25, A_26, q_27, S_28, M_29, H_30, U_31⟩ := id hp0
   have hin_32 : ¬ ((2 : Int32) < 0 ∨ c_25.slots.size ≤ (2 : Int32).toNatClampNeg) := inb_of S_28 ⟨(by decide : ¬ ((2 : Int32) < (0 : Int32))), (by decide : (2 : Int32) < (4 : Int32))⟩
   have hat_33 : c_25.slots[(2 : Int32).toNatClampNeg]? = some (.int y2) := Has.at H_30 hin_32 rfl
   have C_34 : Steps p.tables e below S0 (s₁.setTop (mkF m 19 #[VR t, VI 31, VI 0, VI 4, VI 31, VI 2] [(.int 31), (.int y2)])) := by
    refine C_22.trans ?_
    refine XS.icmpYes X0.here hx rfl (pc0 := 19) (pc' := 25) rfl (hb hby d14_19) rfl (ii_ne_t hc_23) (by decide) (by decide) ?_
    refine XS.iinc X0.here hx rfl (hb hby d14_25) (x := (1 : Int32)) rfl (l' := #[VR t, VI 31, VI 0, VI 4, VI 31, VI 2]) rfl ?_
    refine XS.goto X0.here hx rfl (pc0 := 28) (pc' := 7) rfl (hb hby d14_28) (by decide) (by decide) ?_
    refine XS.iload X0.here hx rfl (hb hby d14_7) rfl ?_
    refine XS.iloadN X0.here hx rfl (hb hby d14_9) rfl ?_
    refine XS.icmpNo X0.here hx rfl (hb hby d14_10) rfl (by decide) ?_
    refine XS.aloadN X0.here hx rfl (hb hby d14_13) rfl rfl ?_
    refine XS.iload X0.here hx rfl (hb hby d14_14) rfl ?_
    refine X0.baloadBytes hx (j := (2 : Int32)) (v := (.int y2)) (by rw [e0]; exact A_26.1) (State.isArrayOf_alike hZ.alike A_26.2.1) A_26.2.2 hin_32 hat_33 (g := (mkF m 16 #[VR t, VI 31, VI 0, VI 4, VI 31, VI 2] [(.int 2), (.ref t)])) rfl rfl (hb hby d14_16) _ ?_
    refine XS.iload X0.here hx rfl (hb hby d14_17) rfl ?_
    exact Steps.refl _
   by_cases hc_35 : y2 = (31 : Int32)
   ·skip
    have C_36 : Steps p.tables e below S0 (s₁.setTop (mkF m 24 #[VR t, VI 31, VI 0, VI 4, VI 31, VI 2] [(.int 2)])) := by
     refine C_34.trans ?_
     refine XS.icmpNo X0.here hx rfl (hb hby d14_19) rfl (ii_ne_f hc_35) ?_
     refine XS.iload X0.here hx rfl (hb hby d14_22) rfl ?_
     exact Steps.refl _
    obtain ⟨fs, hr, hrun, hended, hW, hsame⟩ := X0.leave (v := some (.int 2)) (fun h => by rw [Bd.returns] at h; cases h)
    refine ⟨_, _, C_36.trans (retOut X0 hx Bd.returns rfl (Or.inl ⟨rfl, Or.inl rfl, _, rfl⟩) (hb hby d14_24) hr), hrun, hended, _, _, rfl, ?_, ⟨_, rfl⟩, hW, hsame.mono (by decide) (by decide)⟩
    show Q_ioc_4 Z G1 G3 t kt y0 y1 y2 y3 h0 n0 (some (.int 2)) s₁.heap _
    rw [e0]
    exact Or.inr (Or.inr (Or.inl ⟨rfl, N0, rfl, hc_11, hc_23, hc_35⟩))
   ·skip
    obtain ⟨c_37, A_38, q_39, S_40, M_41, H_42, U_43⟩ := id hp0
    have hin_44 : ¬ ((3 : Int32) < 0 ∨ c_37.slots.size ≤ (3 : Int32).toNatClampNeg) := inb_of S_40 ⟨(by decide : ¬ ((3 : Int32) < (0 : Int32))), (by decide : (3 : Int32) < (4 : Int32))⟩
    have hat_45 : c_37.slots[(3 : Int32).toNatClampNeg]? = some (.int y3) := Has.at H_42 hin_44 rfl
    have C_46 : Steps p.tables e below S0 (s₁.setTop (mkF m 19 #[VR t, VI 31, VI 0, VI 4, VI 31, VI 3] [(.int 31), (.int y3)])) := by
     refine C_34.trans ?_
     refine XS.icmpYes X0.here hx rfl (pc0 := 19) (pc' := 25) rfl (hb hby d14_19) rfl (ii_ne_t hc_35) (by decide) (by decide) ?_
     refine XS.iinc X0.here hx rfl (hb hby d14_25) (x := (2 : Int32)) rfl (l' := #[VR t, VI 31, VI 0, VI 4, VI 31, VI 3]) rfl ?_
     refine XS.goto X0.here hx rfl (pc0 := 28) (pc' := 7) rfl (hb hby d14_28) (by decide) (by decide) ?_
     refine XS.iload X0.here hx rfl (hb hby d14_7) rfl ?_
     refine XS.iloadN X0.here hx rfl (hb hby d14_9) rfl ?_
     refine XS.icmpNo X0.here hx rfl (hb hby d14_10) rfl (by decide) ?_
     refine XS.aloadN X0.here hx rfl (hb hby d14_13) rfl rfl ?_
     refine XS.iload X0.here hx rfl (hb hby d14_14) rfl ?_
     refine X0.baloadBytes hx (j := (3 : Int32)) (v := (.int y3)) (by rw [e0]; exact A_38.1) (State.isArrayOf_alike hZ.alike A_38.2.1) A_38.2.2 hin_44 hat_45 (g := (mkF m 16 #[VR t, VI 31, VI 0, VI 4, VI 31, VI 3] [(.int 3), (.ref t)])) rfl rfl (hb hby d14_16) _ ?_
     refine XS.iload X0.here hx rfl (hb hby d14_17) rfl ?_
     exact Steps.refl _
    by_cases hc_47 : y3 = (31 : Int32)
    ·skip
     have C_48 : Steps p.tables e below S0 (s₁.setTop (mkF m 24 #[VR t, VI 31, VI 0, VI 4, VI 31, VI 3] [(.int 3)])) := by
      refine C_46.trans ?_
      refine XS.icmpNo X0.here hx rfl (hb hby d14_19) rfl (ii_ne_f hc_47) ?_
      refine XS.iload X0.here hx rfl (hb hby d14_22) rfl ?_
      exact Steps.refl _
     obtain ⟨fs, hr, hrun, hended, hW, hsame⟩ := X0.leave (v := some (.int 3)) (fun h => by rw [Bd.returns] at h; cases h)
     refine ⟨_, _, C_48.trans (retOut X0 hx Bd.returns rfl (Or.inl ⟨rfl, Or.inl rfl, _, rfl⟩) (hb hby d14_24) hr), hrun, hended, _, _, rfl, ?_, ⟨_, rfl⟩, hW, hsame.mono (by decide) (by decide)⟩
     show Q_ioc_4 Z G1 G3 t kt y0 y1 y2 y3 h0 n0 (some (.int 3)) s₁.heap _
     rw [e0]
     exact Or.inr (Or.inr (Or.inr (Or.inl ⟨rfl, N0, rfl, hc_11, hc_23, hc_35, hc_47⟩)))
    ·skip
     have C_49 : Steps p.tables e below S0 (s₁.setTop (mkF m 32 #[VR t, VI 31, VI 0, VI 4, VI 31, VI 4] [(.int (-1 : Int32))])) := by
      refine C_46.trans ?_
      refine XS.icmpYes X0.here hx rfl (pc0 := 19) (pc' := 25) rfl (hb hby d14_19) rfl (ii_ne_t hc_47) (by decide) (by decide) ?_
      refine XS.iinc X0.here hx rfl (hb hby d14_25) (x := (3 : Int32)) rfl (l' := #[VR t, VI 31, VI 0, VI 4, VI 31, VI 4]) rfl ?_
      refine XS.goto X0.here hx rfl (pc0 := 28) (pc' := 7) rfl (hb hby d14_28) (by decide) (by decide) ?_
      refine XS.iload X0.here hx rfl (hb hby d14_7) rfl ?_
      refine XS.iloadN X0.here hx rfl (hb hby d14_9) rfl ?_
      refine XS.icmpYes X0.here hx rfl (pc0 := 10) (pc' := 31) rfl (hb hby d14_10) rfl (by decide) (by decide) (by decide) ?_
      refine XS.iconst X0.here hx rfl (hb hby d14_31) ?_
      exact Steps.refl _
     obtain ⟨fs, hr, hrun, hended, hW, hsame⟩ := X0.leave (v := some (.int (-1 : Int32))) (fun h => by rw [Bd.returns] at h; cases h)
     refine ⟨_, _, C_49.trans (retOut X0 hx Bd.returns rfl (Or.inl ⟨rfl, Or.inl rfl, _, rfl⟩) (hb hby d14_32) hr), hrun, hended, _, _, rfl, ?_, ⟨_, rfl⟩, hW, hsame.mono (by decide) (by decide)⟩
     show Q_ioc_4 Z G1 G3 t kt y0 y1 y2 y3 h0 n0 (some (.int (-1 : Int32))) s₁.heap _
     rw [e0]
     exact Or.inr (Or.inr (Or.inr (Or.inr (⟨rfl, N0, rfl, hc_11, hc_23, hc_35, hc_47⟩))))
abbrev R_lio_4 : Room := { frames := 1, cells := 0, slots := 0, locals := 17 }
def Q_lio_4 (Z : State) (G1 : Int32) (G3 : Value) (t : Addr) (kt : ClassId) (y0 : Int32) (y1 : Int32) (y2 : Int32) (y3 : Int32) (h0 : Heap) (n0 : Nat) (v : Option Value) (h : Heap) (L : List Loc) : Prop := (v = some (.int 0) ∧ Fr n0 L ∧ h = h0 ∧ (y0 = (31 : Int32))) ∨ (v = some (.int 1) ∧ Fr n0 L ∧ h = h0 ∧ (¬ (y0 = (31 : Int32))) ∧ (y1 = (31 : Int32))) ∨ (v = some (.int 2) ∧ Fr n0 L ∧ h = h0 ∧ (¬ (y0 = (31 : Int32))) ∧ (¬ (y1 = (31 : Int32))) ∧ (y2 = (31 : Int32))) ∨ (v = some (.int 3) ∧ Fr n0 L ∧ h = h0 ∧ (¬ (y0 = (31 : Int32))) ∧ (¬ (y1 = (31 : Int32))) ∧ (¬ (y2 = (31 : Int32))) ∧ (y3 = (31 : Int32))) ∨ (v = some (.int (-1 : Int32)) ∧ Fr n0 L ∧ h = h0 ∧ (¬ (y0 = (31 : Int32))) ∧ (¬ (y1 = (31 : Int32))) ∧ (¬ (y2 = (31 : Int32))) ∧ (¬ (y3 = (31 : Int32))))
theorem rm_lio_4 (l : Launch) (Z : State) (a0 : Array Value) (hw : HW Z a0) (ws : List Jvm.Cond) (G1 : Int32) (G3 : Value) (HG : own_G l Z a0 G1 G3) (h0 : Heap) (n0 : Nat) (X00 : Old Z n0 h0) (t : Addr) (kt : ClassId) (y0 : Int32) (y1 : Int32) (y2 : Int32) (y3 : Int32) (hp0 : Arv Z h0 t kt .byte (4 : Int32) [(.int y0), (.int y1), (.int y2), (.int y3)] (.int 0)) :
  own_CP l Z M183 jdk_43_method_22_code 4 (some .int) ws R_lio_4 #[(.ref t), (.int 31), (.int 0), (.int 4)] h0 (Q_lio_4 Z G1 G3 t kt y0 y1 y2 y3 h0 n0) := by
 refine own_P (plainFor_of_name pn_157) ?_
 intro p e s m below meth c s₁ S0 Bd hZ hh hx hby hml hown hnm X0 e0 hS0d
 obtain ⟨O1, P1, O3f, rG3⟩ := id HG
 have N0 := Fr.nil n0
 have C0 : Steps p.tables e below S0 (s₁.setTop (mkF m 0 #[VR t, VI 31, VI 0, VI 4] [])) := by rw [hS0d]; exact castTop (ef_184 m t (31 : Int32) (0 : Int32) (4 : Int32)) (Steps.refl _)
 obtain ⟨_, _, ⟨T_1, L_1, k_1, n_1⟩, -, X_1, ⟨Lc_1, hQ_1, l_1, y_1, z_1⟩, st_1⟩ := Jvm.LawKit.callS X0 hx (y := M155) hown (mvT hZ (w82 hw)) (mvT hZ (w83 hw)) (mvT hZ (w80 hw)) (mvT hZ (w84 hw)) (by decide) (backOf (W := 0) (rm_cei_31 l Z a0 hw [] G1 G3 HG h0 n0 X00  ) hZ (w84 hw) (w80 hw) (by decide) (by decide)) (g := (mkF m 1 #[VR t, VI 31, VI 0, VI 4] [(.int 31)])) rfl (by rw [hml]; rfl) (argsL := [(.int 31)]) (rest := []) (lenOf pd_188 rfl) rfl (by show 2 * 0 + _ ≤ _; exact Nat.le_of_eq rfl) (hb hby d11_1) (fun _ _ => ⟨rfl, e0, (by decide : 0 + 0 ≤ _), (by decide : 0 + 0 ≤ _)⟩)
 dsimp only [Pt.U, Pt.locs, Pt.cells, Pt.slots] at X_1 l_1 y_1 z_1 st_1 hQ_1
 subst l_1 y_1 z_1
 obtain ⟨rfl, N_2, e_3⟩ := hQ_1
 have N_4 := Fr.app N0 N_2
 have e_5 : T_1.heap = h0 := e_3
 obtain ⟨_, _, ⟨T_6, L_6, k_6, n_6⟩, -, X_6, ⟨Lc_6, hQ_6, l_6, y_6, z_6⟩, st_6⟩ := Jvm.LawKit.callS X_1 hx (y := M166) hown (mvT hZ (w85 hw)) (mvT hZ (w86 hw)) (mvT hZ (w87 hw)) (mvT hZ (w88 hw)) (by decide) (backOf (W := 0) (rm_maxL l Z a0 hw [] G1 G3 HG h0 n0 X00 (0 : Int32) (0 : Int32) (by decide)) hZ (w88 hw) (w87 hw) (by decide) (by decide)) (g := (mkF m 11 #[VR t, VI 31, VI 0, VI 4] [(.int 0), (.int 0)])) rfl (by rw [hml]; rfl) (argsL := [(.int 0), (.int 0)]) (rest := []) (lenOf pd_197 rfl) rfl (by show 2 * 0 + _ ≤ _; exact Nat.le_of_eq rfl) (hb hby d11_11) (fun _ _ => ⟨rfl, e_5, (by decide : 0 + 0 ≤ _), (by decide : 0 + 0 ≤ _)⟩)
 dsimp only [Pt.U, Pt.locs, Pt.cells, Pt.slots] at X_6 l_6 y_6 z_6 st_6 hQ_6
 subst l_6 y_6 z_6
 obtain ⟨rfl, N_7, e_8⟩ := hQ_6
 have N_9 := Fr.app N_4 N_7
 have e_10 : T_6.heap = h0 := e_8
 obtain ⟨c_11, A_12, q_13, S_14, M_15, H_16, U_17⟩ := id hp0
 obtain ⟨_, _, ⟨T_18, L_18, k_18, n_18⟩, -, X_18, ⟨Lc_18, hQ_18, l_18, y_18, z_18⟩, st_18⟩ := Jvm.LawKit.callS X_6 hx (y := M175) hown (mvT hZ (w89 hw)) (mvT hZ (w90 hw)) (mvT hZ (w87 hw)) (mvT hZ (w91 hw)) (by decide) (backOf (W := 0) (rm_minL l Z a0 hw [] G1 G3 HG h0 n0 X00 (4 : Int32) (4 : Int32) (by decide)) hZ (w91 hw) (w87 hw) (by decide) (by decide)) (g := (mkF m 18 #[VR t, VI 31, VI 0, VI 4] [(.int 4), (.int 4)])) rfl (by rw [hml]; rfl) (argsL := [(.int 4), (.int 4)]) (rest := []) (lenOf pd_197 rfl) rfl (by show 2 * 0 + _ ≤ _; exact Nat.le_of_eq rfl) (hb hby d11_18) (fun _ _ => ⟨rfl, e_10, (by decide : 0 + 0 ≤ _), (by decide : 0 + 0 ≤ _)⟩)
 dsimp only [Pt.U, Pt.locs, Pt.cells, Pt.slots] at X_18 l_18 y_18 z_18 st_18 hQ_18
 subst l_18 y_18 z_18
 obtain ⟨rfl, N_19, e_20⟩ := hQ_18
 have N_21 := Fr.app N_9 N_19
 have e_22 : T_18.heap = h0 := e_20
 obtain ⟨_, _, ⟨T_23, L_23, k_23, n_23⟩, -, X_23, ⟨Lc_23, hQ_23, l_23, y_23, z_23⟩, st_23⟩ := Jvm.LawKit.callS X_18 hx (y := M256) hown (mvT hZ (w118 hw)) (mvT hZ (w119 hw)) (mvT hZ (w80 hw)) (mvT hZ (w120 hw)) (by decide) (backOf (W := 0) (rm_ioc_4 l Z a0 hw [] G1 G3 HG h0 n0 X00 t kt y0 y1 y2 y3 hp0) hZ (w120 hw) (w80 hw) (by decide) (by decide)) (g := (mkF m 33 #[VR t, VI 31, VI 0, VI 4] [(.int 4), (.int 0), (.int 31), (.ref t)])) rfl (by rw [hml]; rfl) (argsL := [(.ref t), (.int 31), (.int 0), (.int 4)]) (rest := []) (lenOf pd_239 rfl) rfl (by show 2 * 0 + _ ≤ _; exact Nat.le_of_eq rfl) (hb hby d11_33) (fun _ _ => ⟨rfl, e_22, (by decide : 0 + 0 ≤ _), (by decide : 0 + 0 ≤ _)⟩)
 dsimp only [Pt.U, Pt.locs, Pt.cells, Pt.slots] at X_23 l_23 y_23 z_23 st_23 hQ_23
 subst l_23 y_23 z_23
 have C_24 : Steps p.tables e below S0 (T_18.setTop (mkF m 33 #[VR t, VI 31, VI 0, VI 4] [(.int 4), (.int 0), (.int 31), (.ref t)])) := by
  refine C0.trans ?_
  refine XS.iloadN X0.here hx rfl (hb hby d11_0) rfl ?_
  refine st_1 _ ?_
  refine XS.ifYes X_1.here hx rfl (pc0 := 4) (pc' := 9) rfl (hb hby d11_4) rfl (by decide) (by decide) (by decide) ?_
  refine XS.iloadN X_1.here hx rfl (hb hby d11_9) rfl ?_
  refine XS.iconst X_1.here hx rfl (hb hby d11_10) ?_
  refine st_6 _ ?_
  refine XS.istoreN X_6.here hx rfl (hb hby d11_14) rfl (l' := #[VR t, VI 31, VI 0, VI 4]) rfl ?_
  refine XS.iloadN X_6.here hx rfl (hb hby d11_15) rfl ?_
  refine XS.aloadN X_6.here hx rfl (hb hby d11_16) rfl rfl ?_
  refine X_6.arraylength hx (by rw [e_10]; exact A_12.1) (State.isArrayOf_alike hZ.alike A_12.2.1) (g := (mkF m 17 #[VR t, VI 31, VI 0, VI 4] [(.ref t), (.int 4)])) rfl rfl (hb hby d11_17) _ ?_
  rw [len_of S_14 M_15]
  refine st_18 _ ?_
  refine XS.istoreN X_18.here hx rfl (hb hby d11_21) rfl (l' := #[VR t, VI 31, VI 0, VI 4]) rfl ?_
  refine XS.iloadN X_18.here hx rfl (hb hby d11_22) rfl ?_
  refine XS.iloadN X_18.here hx rfl (hb hby d11_23) rfl ?_
  refine XS.icmpYes X_18.here hx rfl (pc0 := 24) (pc' := 29) rfl (hb hby d11_24) rfl (by decide) (by decide) (by decide) ?_
  refine XS.aloadN X_18.here hx rfl (hb hby d11_29) rfl rfl ?_
  show Steps p.tables e below (T_18.setTop (mkF m 30 #[VR t, VI 31, VI 0, VI 4] [(.ref t)])) _
  refine XS.iloadN X_18.here hx rfl (hb hby d11_30) rfl ?_
  refine XS.iloadN X_18.here hx rfl (hb hby d11_31) rfl ?_
  refine XS.iloadN X_18.here hx rfl (hb hby d11_32) rfl ?_
  exact Steps.refl _
 rcases hQ_23 with hQ_25 | hQ_26 | hQ_27 | hQ_28 | hQ_29
 ·skip
  obtain ⟨rfl, N_30, e_31, g_32⟩ := hQ_25
  have N_33 := Fr.app N_21 N_30
  have e_34 : T_23.heap = h0 := e_31
  have C_35 : Steps p.tables e below S0 (T_23.setTop (mkF m 36 #[VR t, VI 31, VI 0, VI 4] [(.int 0)])) := by
   refine C_24.trans ?_
   refine st_23 _ ?_
   exact Steps.refl _
  obtain ⟨fs, hr, hrun, hended, hW, hsame⟩ := X_23.leave (v := some (.int 0)) (fun h => by rw [Bd.returns] at h; cases h)
  refine ⟨_, _, C_35.trans (retOut X_23 hx Bd.returns rfl (Or.inl ⟨rfl, Or.inl rfl, _, rfl⟩) (hb hby d11_36) hr), hrun, hended, _, _, rfl, ?_, ⟨_, rfl⟩, hW, hsame.mono (by decide) (by decide)⟩
  show Q_lio_4 Z G1 G3 t kt y0 y1 y2 y3 h0 n0 (some (.int 0)) T_23.heap _
  rw [e_34]
  exact Or.inl ⟨rfl, N_33, rfl, g_32⟩
 ·skip
  obtain ⟨rfl, N_36, e_37, g_38, g_39⟩ := hQ_26
  have N_40 := Fr.app N_21 N_36
  have e_41 : T_23.heap = h0 := e_37
  have C_42 : Steps p.tables e below S0 (T_23.setTop (mkF m 36 #[VR t, VI 31, VI 0, VI 4] [(.int 1)])) := by
   refine C_24.trans ?_
   refine st_23 _ ?_
   exact Steps.refl _
  obtain ⟨fs, hr, hrun, hended, hW, hsame⟩ := X_23.leave (v := some (.int 1)) (fun h => by rw [Bd.returns] at h; cases h)
  refine ⟨_, _, C_42.trans (retOut X_23 hx Bd.returns rfl (Or.inl ⟨rfl, Or.inl rfl, _, rfl⟩) (hb hby d11_36) hr), hrun, hended, _, _, rfl, ?_, ⟨_, rfl⟩, hW, hsame.mono (by decide) (by decide)⟩
  show Q_lio_4 Z G1 G3 t kt y0 y1 y2 y3 h0 n0 (some (.int 1)) T_23.heap _
  rw [e_41]
  exact Or.inr (Or.inl ⟨rfl, N_40, rfl, g_38, g_39⟩)
 ·skip
  obtain ⟨rfl, N_43, e_44, g_45, g_46, g_47⟩ := hQ_27
  have N_48 := Fr.app N_21 N_43
  have e_49 : T_23.heap = h0 := e_44
  have C_50 : Steps p.tables e below S0 (T_23.setTop (mkF m 36 #[VR t, VI 31, VI 0, VI 4] [(.int 2)])) := by
   refine C_24.trans ?_
   refine st_23 _ ?_
   exact Steps.refl _
  obtain ⟨fs, hr, hrun, hended, hW, hsame⟩ := X_23.leave (v := some (.int 2)) (fun h => by rw [Bd.returns] at h; cases h)
  refine ⟨_, _, C_50.trans (retOut X_23 hx Bd.returns rfl (Or.inl ⟨rfl, Or.inl rfl, _, rfl⟩) (hb hby d11_36) hr), hrun, hended, _, _, rfl, ?_, ⟨_, rfl⟩, hW, hsame.mono (by decide) (by decide)⟩
  show Q_lio_4 Z G1 G3 t kt y0 y1 y2 y3 h0 n0 (some (.int 2)) T_23.heap _
  rw [e_49]
  exact Or.inr (Or.inr (Or.inl ⟨rfl, N_48, rfl, g_45, g_46, g_47⟩))
 ·skip
  obtain ⟨rfl, N_51, e_52, g_53, g_54, g_55, g_56⟩ := hQ_28
  have N_57 := Fr.app N_21 N_51
  have e_58 : T_23.heap = h0 := e_52
  have C_59 : Steps p.tables e below S0 (T_23.setTop (mkF m 36 #[VR t, VI 31, VI 0, VI 4] [(.int 3)])) := by
   refine C_24.trans ?_
   refine st_23 _ ?_
   exact Steps.refl _
  obtain ⟨fs, hr, hrun, hended, hW, hsame⟩ := X_23.leave (v := some (.int 3)) (fun h => by rw [Bd.returns] at h; cases h)
  refine ⟨_, _, C_59.trans (retOut X_23 hx Bd.returns rfl (Or.inl ⟨rfl, Or.inl rfl, _, rfl⟩) (hb hby d11_36) hr), hrun, hended, _, _, rfl, ?_, ⟨_, rfl⟩, hW, hsame.mono (by decide) (by decide)⟩
  show Q_lio_4 Z G1 G3 t kt y0 y1 y2 y3 h0 n0 (some (.int 3)) T_23.heap _
  rw [e_58]
  exact Or.inr (Or.inr (Or.inr (Or.inl ⟨rfl, N_57, rfl, g_53, g_54, g_55, g_56⟩)))
 ·skip
  obtain ⟨rfl, N_60, e_61, g_62, g_63, g_64, g_65⟩ := hQ_29
  have N_66 := Fr.app N_21 N_60
  have e_67 : T_23.heap = h0 := e_61
  have C_68 : Steps p.tables e below S0 (T_23.setTop (mkF m 36 #[VR t, VI 31, VI 0, VI 4] [(.int (-1 : Int32))])) := by
   refine C_24.trans ?_
   refine st_23 _ ?_
   exact Steps.refl _
  obtain ⟨fs, hr, hrun, hended, hW, hsame⟩ := X_23.leave (v := some (.int (-1 : Int32))) (fun h => by rw [Bd.returns] at h; cases h)
  refine ⟨_, _, C_68.trans (retOut X_23 hx Bd.returns rfl (Or.inl ⟨rfl, Or.inl rfl, _, rfl⟩) (hb hby d11_36) hr), hrun, hended, _, _, rfl, ?_, ⟨_, rfl⟩, hW, hsame.mono (by decide) (by decide)⟩
  show Q_lio_4 Z G1 G3 t kt y0 y1 y2 y3 h0 n0 (some (.int (-1 : Int32))) T_23.heap _
  rw [e_67]
  exact Or.inr (Or.inr (Or.inr (Or.inr (⟨rfl, N_66, rfl, g_62, g_63, g_64, g_65⟩))))
abbrev R_io2_4 : Room := { frames := 2, cells := 0, slots := 0, locals := 32 }
def Q_io2_4 (Z : State) (G1 : Int32) (G3 : Value) (x : Addr) (t : Addr) (kt : ClassId) (y0 : Int32) (y1 : Int32) (y2 : Int32) (y3 : Int32) (h0 : Heap) (n0 : Nat) (v : Option Value) (h : Heap) (L : List Loc) : Prop := (v = some (.int 0) ∧ Fr n0 L ∧ h = h0 ∧ (y0 = (31 : Int32))) ∨ (v = some (.int 1) ∧ Fr n0 L ∧ h = h0 ∧ (¬ (y0 = (31 : Int32))) ∧ (y1 = (31 : Int32))) ∨ (v = some (.int 2) ∧ Fr n0 L ∧ h = h0 ∧ (¬ (y0 = (31 : Int32))) ∧ (¬ (y1 = (31 : Int32))) ∧ (y2 = (31 : Int32))) ∨ (v = some (.int 3) ∧ Fr n0 L ∧ h = h0 ∧ (¬ (y0 = (31 : Int32))) ∧ (¬ (y1 = (31 : Int32))) ∧ (¬ (y2 = (31 : Int32))) ∧ (y3 = (31 : Int32))) ∨ (v = some (.int (-1 : Int32)) ∧ Fr n0 L ∧ h = h0 ∧ (¬ (y0 = (31 : Int32))) ∧ (¬ (y1 = (31 : Int32))) ∧ (¬ (y2 = (31 : Int32))) ∧ (¬ (y3 = (31 : Int32))))
theorem rm_io2_4 (l : Launch) (Z : State) (a0 : Array Value) (hw : HW Z a0) (ws : List Jvm.Cond) (G1 : Int32) (G3 : Value) (HG : own_G l Z a0 G1 G3) (h0 : Heap) (n0 : Nat) (X00 : Old Z n0 h0) (x : Addr) (t : Addr) (kt : ClassId) (y0 : Int32) (y1 : Int32) (y2 : Int32) (y3 : Int32) (hp0 : Exa Z h0 x "java/lang/String") (hp1 : Fld Z h0 x "java/lang/String" "coder" "B" (.int 0)) (hp2 : Fld Z h0 x "java/lang/String" "value" "[B" (.ref t)) (hp3 : Arv Z h0 t kt .byte (4 : Int32) [(.int y0), (.int y1), (.int y2), (.int y3)] (.int 0)) :
  own_CP l Z M215 jdk_42_method_80_code 3 (some .int) ws R_io2_4 #[(.ref x), (.int 31), (.int 0)] h0 (Q_io2_4 Z G1 G3 x t kt y0 y1 y2 y3 h0 n0) := by
 refine own_P (plainFor_of_name pn_2) ?_
 intro p e s m below meth c s₁ S0 Bd hZ hh hx hby hml hown hnm X0 e0 hS0d
 obtain ⟨O1, P1, O3f, rG3⟩ := id HG
 have N0 := Fr.nil n0
 have C0 : Steps p.tables e below S0 (s₁.setTop (mkF m 0 #[VR x, VI 31, VI 0] [])) := by rw [hS0d]; exact castTop (ef_216 m x (31 : Int32) (0 : Int32)) (Steps.refl _)
 obtain ⟨q_2, q_3, q_4, q_5, q_6⟩ := isOf (T := s₁) hZ e0 hp0
 obtain ⟨_, _, ⟨T_1, L_1, k_1, n_1⟩, -, X_1, ⟨Lc_1, hQ_1, l_1, y_1, z_1⟩, st_1⟩ := X0.virtualBack hx (y := M132) (z := M132) hown (mvT hZ (w62 hw)) (mvT hZ (w63 hw)) (notFace_of_selects (args := #[]) (mvT hZ (w65 hw))) (mvT hZ (w65 hw)) (mvT hZ (w64 hw)) (by decide) (backOf (W := 0) (rm_islat l Z a0 hw [] G1 G3 HG h0 n0 X00 x hp1) hZ (w66 hw) (w10 hw) (by decide) (by decide)) q_4 q_6 (g := (mkF m 1 #[VR x, VI 31, VI 0] [(.ref x)])) rfl (by rw [hml]; rfl) (Steps.refl _) (argsL := []) (rest := []) (lenOf pd_219 rfl) rfl (by show 2 * 0 + _ ≤ _; exact Nat.le_of_eq rfl) (hb hby d12_1) (fun _ _ => ⟨rfl, e0, (by decide : 0 + 0 ≤ _), (by decide : 0 + 0 ≤ _)⟩)
 dsimp only [Pt.U, Pt.locs, Pt.cells, Pt.slots] at X_1 l_1 y_1 z_1 st_1 hQ_1
 subst l_1 y_1 z_1
 obtain ⟨rfl, N_7, e_8⟩ := hQ_1
 have N_9 := Fr.app N0 N_7
 have e_10 : T_1.heap = h0 := e_8
 obtain ⟨T_11, X_12, e_13, st_14⟩ := getF X_1 hx hZ hown (host := "") (Or.inl (w28 hw)) Via.refl e_10 hp2 (g := (mkF m 8 #[VR x, VI 31, VI 0] [(.ref x)])) rfl rfl (hb hby d12_8)
 obtain ⟨q_16, q_17, q_18, q_19, q_20⟩ := isOf (T := T_11) hZ e_13 hp0
 obtain ⟨_, _, ⟨T_15, L_15, k_15, n_15⟩, -, X_15, ⟨Lc_15, hQ_15, l_15, y_15, z_15⟩, st_15⟩ := X_12.virtualBack hx (y := M141) (z := M141) hown (mvT hZ (w68 hw)) (mvT hZ (w69 hw)) (notFace_of_selects (args := #[]) (mvT hZ (w71 hw))) (mvT hZ (w71 hw)) (mvT hZ (w70 hw)) (by decide) (backOf (W := 3) (rm_lenany l Z a0 hw [] G1 G3 HG h0 n0 X00 x t kt (4 : Int32) [(.int y0), (.int y1), (.int y2), (.int y3)] hp0 hp1 hp2 hp3) hZ (w72 hw) (w10 hw) (by decide) (by decide)) q_18 q_20 (g := (mkF m 14 #[VR x, VI 31, VI 0] [(.ref x), (.int 0), (.int 31), (.ref t)])) rfl (by rw [hml]; rfl) (Steps.refl _) (argsL := []) (rest := [(.int 0), (.int 31), (.ref t)]) (lenOf pd_232 rfl) rfl (by show 2 * 0 + _ ≤ _; exact Nat.le_of_eq rfl) (hb hby d12_14) (fun _ _ => ⟨rfl, e_13, (by decide : 0 + 0 ≤ _), (by decide : 0 + 0 ≤ _)⟩)
 dsimp only [Pt.U, Pt.locs, Pt.cells, Pt.slots] at X_15 l_15 y_15 z_15 st_15 hQ_15
 subst l_15 y_15 z_15
 obtain ⟨rfl, N_21, e_22⟩ := hQ_15
 have N_23 := Fr.app N_9 N_21
 have e_24 : T_15.heap = h0 := e_22
 obtain ⟨_, _, ⟨T_25, L_25, k_25, n_25⟩, -, X_25, ⟨Lc_25, hQ_25, l_25, y_25, z_25⟩, st_25⟩ := Jvm.LawKit.callS X_15 hx (y := M183) hown (mvT hZ (w78 hw)) (mvT hZ (w79 hw)) (mvT hZ (w80 hw)) (mvT hZ (w81 hw)) (by decide) (backOf (W := 0) (rm_lio_4 l Z a0 hw [] G1 G3 HG h0 n0 X00 t kt y0 y1 y2 y3 hp3) hZ (w81 hw) (w80 hw) (by decide) (by decide)) (g := (mkF m 17 #[VR x, VI 31, VI 0] [(.int 4), (.int 0), (.int 31), (.ref t)])) rfl (by rw [hml]; rfl) (argsL := [(.ref t), (.int 31), (.int 0), (.int 4)]) (rest := []) (lenOf pd_239 rfl) rfl (by show 2 * 0 + _ ≤ _; exact Nat.le_of_eq rfl) (hb hby d12_17) (fun _ _ => ⟨rfl, e_24, (by decide : 0 + 0 ≤ _), (by decide : 0 + 0 ≤ _)⟩)
 dsimp only [Pt.U, Pt.locs, Pt.cells, Pt.slots] at X_25 l_25 y_25 z_25 st_25 hQ_25
 subst l_25 y_25 z_25
 have C_26 : Steps p.tables e below S0 (T_15.setTop (mkF m 17 #[VR x, VI 31, VI 0] [(.int 4), (.int 0), (.int 31), (.ref t)])) := by
  refine C0.trans ?_
  refine XS.aloadN X0.here hx rfl (hb hby d12_0) rfl rfl ?_
  refine st_1.trans ?_
  refine XS.ifNo X_1.here hx rfl (hb hby d12_4) rfl (by decide) ?_
  refine XS.aloadN X_1.here hx rfl (hb hby d12_7) rfl rfl ?_
  refine st_14 _ ?_
  refine XS.iloadN X_12.here hx rfl (hb hby d12_11) rfl ?_
  refine XS.iloadN X_12.here hx rfl (hb hby d12_12) rfl ?_
  refine XS.aloadN X_12.here hx rfl (hb hby d12_13) rfl rfl ?_
  refine st_15.trans ?_
  exact Steps.refl _
 rcases hQ_25 with hQ_27 | hQ_28 | hQ_29 | hQ_30 | hQ_31
 ·skip
  obtain ⟨rfl, N_32, e_33, g_34⟩ := hQ_27
  have N_35 := Fr.app N_23 N_32
  have e_36 : T_25.heap = h0 := e_33
  have C_37 : Steps p.tables e below S0 (T_25.setTop (mkF m 36 #[VR x, VI 31, VI 0] [(.int 0)])) := by
   refine C_26.trans ?_
   refine st_25 _ ?_
   refine XS.goto X_25.here hx rfl (pc0 := 20) (pc' := 36) rfl (hb hby d12_20) (by decide) (by decide) ?_
   exact Steps.refl _
  obtain ⟨fs, hr, hrun, hended, hW, hsame⟩ := X_25.leave (v := some (.int 0)) (fun h => by rw [Bd.returns] at h; cases h)
  refine ⟨_, _, C_37.trans (retOut X_25 hx Bd.returns rfl (Or.inl ⟨rfl, Or.inl rfl, _, rfl⟩) (hb hby d12_36) hr), hrun, hended, _, _, rfl, ?_, ⟨_, rfl⟩, hW, hsame.mono (by decide) (by decide)⟩
  show Q_io2_4 Z G1 G3 x t kt y0 y1 y2 y3 h0 n0 (some (.int 0)) T_25.heap _
  rw [e_36]
  exact Or.inl ⟨rfl, N_35, rfl, g_34⟩
 ·skip
  obtain ⟨rfl, N_38, e_39, g_40, g_41⟩ := hQ_28
  have N_42 := Fr.app N_23 N_38
  have e_43 : T_25.heap = h0 := e_39
  have C_44 : Steps p.tables e below S0 (T_25.setTop (mkF m 36 #[VR x, VI 31, VI 0] [(.int 1)])) := by
   refine C_26.trans ?_
   refine st_25 _ ?_
   refine XS.goto X_25.here hx rfl (pc0 := 20) (pc' := 36) rfl (hb hby d12_20) (by decide) (by decide) ?_
   exact Steps.refl _
  obtain ⟨fs, hr, hrun, hended, hW, hsame⟩ := X_25.leave (v := some (.int 1)) (fun h => by rw [Bd.returns] at h; cases h)
  refine ⟨_, _, C_44.trans (retOut X_25 hx Bd.returns rfl (Or.inl ⟨rfl, Or.inl rfl, _, rfl⟩) (hb hby d12_36) hr), hrun, hended, _, _, rfl, ?_, ⟨_, rfl⟩, hW, hsame.mono (by decide) (by decide)⟩
  show Q_io2_4 Z G1 G3 x t kt y0 y1 y2 y3 h0 n0 (some (.int 1)) T_25.heap _
  rw [e_43]
  exact Or.inr (Or.inl ⟨rfl, N_42, rfl, g_40, g_41⟩)
 ·skip
  obtain ⟨rfl, N_45, e_46, g_47, g_48, g_49⟩ := hQ_29
  have N_50 := Fr.app N_23 N_45
  have e_51 : T_25.heap = h0 := e_46
  have C_52 : Steps p.tables e below S0 (T_25.setTop (mkF m 36 #[VR x, VI 31, VI 0] [(.int 2)])) := by
   refine C_26.trans ?_
   refine st_25 _ ?_
   refine XS.goto X_25.here hx rfl (pc0 := 20) (pc' := 36) rfl (hb hby d12_20) (by decide) (by decide) ?_
   exact Steps.refl _
  obtain ⟨fs, hr, hrun, hended, hW, hsame⟩ := X_25.leave (v := some (.int 2)) (fun h => by rw [Bd.returns] at h; cases h)
  refine ⟨_, _, C_52.trans (retOut X_25 hx Bd.returns rfl (Or.inl ⟨rfl, Or.inl rfl, _, rfl⟩) (hb hby d12_36) hr), hrun, hended, _, _, rfl, ?_, ⟨_, rfl⟩, hW, hsame.mono (by decide) (by decide)⟩
  show Q_io2_4 Z G1 G3 x t kt y0 y1 y2 y3 h0 n0 (some (.int 2)) T_25.heap _
  rw [e_51]
  exact Or.inr (Or.inr (Or.inl ⟨rfl, N_50, rfl, g_47, g_48, g_49⟩))
 ·skip
  obtain ⟨rfl, N_53, e_54, g_55, g_56, g_57, g_58⟩ := hQ_30
  have N_59 := Fr.app N_23 N_53
  have e_60 : T_25.heap = h0 := e_54
  have C_61 : Steps p.tables e below S0 (T_25.setTop (mkF m 36 #[VR x, VI 31, VI 0] [(.int 3)])) := by
   refine C_26.trans ?_
   refine st_25 _ ?_
   refine XS.goto X_25.here hx rfl (pc0 := 20) (pc' := 36) rfl (hb hby d12_20) (by decide) (by decide) ?_
   exact Steps.refl _
  obtain ⟨fs, hr, hrun, hended, hW, hsame⟩ := X_25.leave (v := some (.int 3)) (fun h => by rw [Bd.returns] at h; cases h)
  refine ⟨_, _, C_61.trans (retOut X_25 hx Bd.returns rfl (Or.inl ⟨rfl, Or.inl rfl, _, rfl⟩) (hb hby d12_36) hr), hrun, hended, _, _, rfl, ?_, ⟨_, rfl⟩, hW, hsame.mono (by decide) (by decide)⟩
  show Q_io2_4 Z G1 G3 x t kt y0 y1 y2 y3 h0 n0 (some (.int 3)) T_25.heap _
  rw [e_60]
  exact Or.inr (Or.inr (Or.inr (Or.inl ⟨rfl, N_59, rfl, g_55, g_56, g_57, g_58⟩)))
 ·skip
  obtain ⟨rfl, N_62, e_63, g_64, g_65, g_66, g_67⟩ := hQ_31
  have N_68 := Fr.app N_23 N_62
  have e_69 : T_25.heap = h0 := e_63
  have C_70 : Steps p.tables e below S0 (T_25.setTop (mkF m 36 #[VR x, VI 31, VI 0] [(.int (-1 : Int32))])) := by
   refine C_26.trans ?_
   refine st_25 _ ?_
   refine XS.goto X_25.here hx rfl (pc0 := 20) (pc' := 36) rfl (hb hby d12_20) (by decide) (by decide) ?_
   exact Steps.refl _
  obtain ⟨fs, hr, hrun, hended, hW, hsame⟩ := X_25.leave (v := some (.int (-1 : Int32))) (fun h => by rw [Bd.returns] at h; cases h)
  refine ⟨_, _, C_70.trans (retOut X_25 hx Bd.returns rfl (Or.inl ⟨rfl, Or.inl rfl, _, rfl⟩) (hb hby d12_36) hr), hrun, hended, _, _, rfl, ?_, ⟨_, rfl⟩, hW, hsame.mono (by decide) (by decide)⟩
  show Q_io2_4 Z G1 G3 x t kt y0 y1 y2 y3 h0 n0 (some (.int (-1 : Int32))) T_25.heap _
  rw [e_69]
  exact Or.inr (Or.inr (Or.inr (Or.inr (⟨rfl, N_68, rfl, g_64, g_65, g_66, g_67⟩))))
abbrev R_io1_4 : Room := { frames := 3, cells := 0, slots := 0, locals := 46 }
def Q_io1_4 (Z : State) (G1 : Int32) (G3 : Value) (x : Addr) (t : Addr) (kt : ClassId) (y0 : Int32) (y1 : Int32) (y2 : Int32) (y3 : Int32) (h0 : Heap) (n0 : Nat) (v : Option Value) (h : Heap) (L : List Loc) : Prop := (v = some (.int 0) ∧ Fr n0 L ∧ h = h0 ∧ (y0 = (31 : Int32))) ∨ (v = some (.int 1) ∧ Fr n0 L ∧ h = h0 ∧ (¬ (y0 = (31 : Int32))) ∧ (y1 = (31 : Int32))) ∨ (v = some (.int 2) ∧ Fr n0 L ∧ h = h0 ∧ (¬ (y0 = (31 : Int32))) ∧ (¬ (y1 = (31 : Int32))) ∧ (y2 = (31 : Int32))) ∨ (v = some (.int 3) ∧ Fr n0 L ∧ h = h0 ∧ (¬ (y0 = (31 : Int32))) ∧ (¬ (y1 = (31 : Int32))) ∧ (¬ (y2 = (31 : Int32))) ∧ (y3 = (31 : Int32))) ∨ (v = some (.int (-1 : Int32)) ∧ Fr n0 L ∧ h = h0 ∧ (¬ (y0 = (31 : Int32))) ∧ (¬ (y1 = (31 : Int32))) ∧ (¬ (y2 = (31 : Int32))) ∧ (¬ (y3 = (31 : Int32))))
theorem rm_io1_4 (l : Launch) (Z : State) (a0 : Array Value) (hw : HW Z a0) (ws : List Jvm.Cond) (G1 : Int32) (G3 : Value) (HG : own_G l Z a0 G1 G3) (h0 : Heap) (n0 : Nat) (X00 : Old Z n0 h0) (x : Addr) (t : Addr) (kt : ClassId) (y0 : Int32) (y1 : Int32) (y2 : Int32) (y3 : Int32) (hp0 : Exa Z h0 x "java/lang/String") (hp1 : Fld Z h0 x "java/lang/String" "coder" "B" (.int 0)) (hp2 : Fld Z h0 x "java/lang/String" "value" "[B" (.ref t)) (hp3 : Arv Z h0 t kt .byte (4 : Int32) [(.int y0), (.int y1), (.int y2), (.int y3)] (.int 0)) :
  own_CP l Z M245 jdk_42_method_79_code 2 (some .int) ws R_io1_4 #[(.ref x), (.int 31)] h0 (Q_io1_4 Z G1 G3 x t kt y0 y1 y2 y3 h0 n0) := by
 refine own_P (plainFor_of_name pn_2) ?_
 intro p e s m below meth c s₁ S0 Bd hZ hh hx hby hml hown hnm X0 e0 hS0d
 obtain ⟨O1, P1, O3f, rG3⟩ := id HG
 have N0 := Fr.nil n0
 have C0 : Steps p.tables e below S0 (s₁.setTop (mkF m 0 #[VR x, VI 31] [])) := by rw [hS0d]; exact castTop (ef_90 m x (31 : Int32)) (Steps.refl _)
 obtain ⟨q_2, q_3, q_4, q_5, q_6⟩ := isOf (T := s₁) hZ e0 hp0
 obtain ⟨_, _, ⟨T_1, L_1, k_1, n_1⟩, -, X_1, ⟨Lc_1, hQ_1, l_1, y_1, z_1⟩, st_1⟩ := X0.virtualBack hx (y := M215) (z := M215) hown (mvT hZ (w57 hw)) (mvT hZ (w58 hw)) (notFace_of_selects (args := #[]) (mvT hZ (w60 hw))) (mvT hZ (w60 hw)) (mvT hZ (w59 hw)) (by decide) (backOf (W := 0) (rm_io2_4 l Z a0 hw [] G1 G3 HG h0 n0 X00 x t kt y0 y1 y2 y3 hp0 hp1 hp2 hp3) hZ (w61 hw) (w10 hw) (by decide) (by decide)) q_4 q_6 (g := (mkF m 3 #[VR x, VI 31] [(.int 0), (.int 31), (.ref x)])) rfl (by rw [hml]; rfl) (Steps.refl _) (argsL := [(.int 31), (.int 0)]) (rest := []) (lenOf pd_197 rfl) rfl (by show 2 * 0 + _ ≤ _; exact Nat.le_of_eq rfl) (hb hby d13_3) (fun _ _ => ⟨rfl, e0, (by decide : 0 + 0 ≤ _), (by decide : 0 + 0 ≤ _)⟩)
 dsimp only [Pt.U, Pt.locs, Pt.cells, Pt.slots] at X_1 l_1 y_1 z_1 st_1 hQ_1
 subst l_1 y_1 z_1
 have C_7 : Steps p.tables e below S0 (s₁.setTop (mkF m 3 #[VR x, VI 31] [(.int 0), (.int 31), (.ref x)])) := by
  refine C0.trans ?_
  refine XS.aloadN X0.here hx rfl (hb hby d13_0) rfl rfl ?_
  refine XS.iloadN X0.here hx rfl (hb hby d13_1) rfl ?_
  refine XS.iconst X0.here hx rfl (hb hby d13_2) ?_
  exact Steps.refl _
 rcases hQ_1 with hQ_8 | hQ_9 | hQ_10 | hQ_11 | hQ_12
 ·skip
  obtain ⟨rfl, N_13, e_14, g_15⟩ := hQ_8
  have N_16 := Fr.app N0 N_13
  have e_17 : T_1.heap = h0 := e_14
  have C_18 : Steps p.tables e below S0 (T_1.setTop (mkF m 6 #[VR x, VI 31] [(.int 0)])) := by
   refine C_7.trans ?_
   refine st_1.trans ?_
   exact Steps.refl _
  obtain ⟨fs, hr, hrun, hended, hW, hsame⟩ := X_1.leave (v := some (.int 0)) (fun h => by rw [Bd.returns] at h; cases h)
  refine ⟨_, _, C_18.trans (retOut X_1 hx Bd.returns rfl (Or.inl ⟨rfl, Or.inl rfl, _, rfl⟩) (hb hby d13_6) hr), hrun, hended, _, _, rfl, ?_, ⟨_, rfl⟩, hW, hsame.mono (by decide) (by decide)⟩
  show Q_io1_4 Z G1 G3 x t kt y0 y1 y2 y3 h0 n0 (some (.int 0)) T_1.heap _
  rw [e_17]
  exact Or.inl ⟨rfl, N_16, rfl, g_15⟩
 ·skip
  obtain ⟨rfl, N_19, e_20, g_21, g_22⟩ := hQ_9
  have N_23 := Fr.app N0 N_19
  have e_24 : T_1.heap = h0 := e_20
  have C_25 : Steps p.tables e below S0 (T_1.setTop (mkF m 6 #[VR x, VI 31] [(.int 1)])) := by
   refine C_7.trans ?_
   refine st_1.trans ?_
   exact Steps.refl _
  obtain ⟨fs, hr, hrun, hended, hW, hsame⟩ := X_1.leave (v := some (.int 1)) (fun h => by rw [Bd.returns] at h; cases h)
  refine ⟨_, _, C_25.trans (retOut X_1 hx Bd.returns rfl (Or.inl ⟨rfl, Or.inl rfl, _, rfl⟩) (hb hby d13_6) hr), hrun, hended, _, _, rfl, ?_, ⟨_, rfl⟩, hW, hsame.mono (by decide) (by decide)⟩
  show Q_io1_4 Z G1 G3 x t kt y0 y1 y2 y3 h0 n0 (some (.int 1)) T_1.heap _
  rw [e_24]
  exact Or.inr (Or.inl ⟨rfl, N_23, rfl, g_21, g_22⟩)
 ·skip
  obtain ⟨rfl, N_26, e_27, g_28, g_29, g_30⟩ := hQ_10
  have N_31 := Fr.app N0 N_26
  have e_32 : T_1.heap = h0 := e_27
  have C_33 : Steps p.tables e below S0 (T_1.setTop (mkF m 6 #[VR x, VI 31] [(.int 2)])) := by
   refine C_7.trans ?_
   refine st_1.trans ?_
   exact Steps.refl _
  obtain ⟨fs, hr, hrun, hended, hW, hsame⟩ := X_1.leave (v := some (.int 2)) (fun h => by rw [Bd.returns] at h; cases h)
  refine ⟨_, _, C_33.trans (retOut X_1 hx Bd.returns rfl (Or.inl ⟨rfl, Or.inl rfl, _, rfl⟩) (hb hby d13_6) hr), hrun, hended, _, _, rfl, ?_, ⟨_, rfl⟩, hW, hsame.mono (by decide) (by decide)⟩
  show Q_io1_4 Z G1 G3 x t kt y0 y1 y2 y3 h0 n0 (some (.int 2)) T_1.heap _
  rw [e_32]
  exact Or.inr (Or.inr (Or.inl ⟨rfl, N_31, rfl, g_28, g_29, g_30⟩))
 ·skip
  obtain ⟨rfl, N_34, e_35, g_36, g_37, g_38, g_39⟩ := hQ_11
  have N_40 := Fr.app N0 N_34
  have e_41 : T_1.heap = h0 := e_35
  have C_42 : Steps p.tables e below S0 (T_1.setTop (mkF m 6 #[VR x, VI 31] [(.int 3)])) := by
   refine C_7.trans ?_
   refine st_1.trans ?_
   exact Steps.refl _
  obtain ⟨fs, hr, hrun, hended, hW, hsame⟩ := X_1.leave (v := some (.int 3)) (fun h => by rw [Bd.returns] at h; cases h)
  refine ⟨_, _, C_42.trans (retOut X_1 hx Bd.returns rfl (Or.inl ⟨rfl, Or.inl rfl, _, rfl⟩) (hb hby d13_6) hr), hrun, hended, _, _, rfl, ?_, ⟨_, rfl⟩, hW, hsame.mono (by decide) (by decide)⟩
  show Q_io1_4 Z G1 G3 x t kt y0 y1 y2 y3 h0 n0 (some (.int 3)) T_1.heap _
  rw [e_41]
  exact Or.inr (Or.inr (Or.inr (Or.inl ⟨rfl, N_40, rfl, g_36, g_37, g_38, g_39⟩)))
 ·skip
  obtain ⟨rfl, N_43, e_44, g_45, g_46, g_47, g_48⟩ := hQ_12
  have N_49 := Fr.app N0 N_43
  have e_50 : T_1.heap = h0 := e_44
  have C_51 : Steps p.tables e below S0 (T_1.setTop (mkF m 6 #[VR x, VI 31] [(.int (-1 : Int32))])) := by
   refine C_7.trans ?_
   refine st_1.trans ?_
   exact Steps.refl _
  obtain ⟨fs, hr, hrun, hended, hW, hsame⟩ := X_1.leave (v := some (.int (-1 : Int32))) (fun h => by rw [Bd.returns] at h; cases h)
  refine ⟨_, _, C_51.trans (retOut X_1 hx Bd.returns rfl (Or.inl ⟨rfl, Or.inl rfl, _, rfl⟩) (hb hby d13_6) hr), hrun, hended, _, _, rfl, ?_, ⟨_, rfl⟩, hW, hsame.mono (by decide) (by decide)⟩
  show Q_io1_4 Z G1 G3 x t kt y0 y1 y2 y3 h0 n0 (some (.int (-1 : Int32))) T_1.heap _
  rw [e_50]
  exact Or.inr (Or.inr (Or.inr (Or.inr (⟨rfl, N_49, rfl, g_45, g_46, g_47, g_48⟩))))
abbrev M286 : MethodName := ⟨"jdk/internal/util/Preconditions", "checkFromToIndex", "(IIILjava/util/function/BiFunction;)I"⟩
theorem ef_287 (m : MethodId) (x0 : Int32) (x1 : Int32) (x2 : Int32) (x3 : Value) (r3 : x3.isRef = true) : entryFrame m #[(.int x0), (.int x1), (.int x2), x3] 4 = mkF m 0 #[VI x0, VI x1, VI x2, .val x3] [] := by rcases ref_cases r3 with rfl | ⟨q3, rfl⟩ <;> first | (simp [entryFrame, mkF, argsToLocals, Value.category]; done) | rfl
theorem pn_288 : plainName "jdk/internal/util/Preconditions" = true := by first | (simp [plainName, overriddenIn]; done) | decide +kernel
theorem d15_0 : decode jdk_41_method_12_code 0 = .ok (.iload_n 0, 1) := by decide +kernel
theorem d15_1 : decode jdk_41_method_12_code 1 = .ok (.ifCond .lt 13, 3) := by decide +kernel
theorem d15_4 : decode jdk_41_method_12_code 4 = .ok (.iload_n 0, 1) := by decide +kernel
theorem d15_5 : decode jdk_41_method_12_code 5 = .ok (.iload_n 1, 1) := by decide +kernel
theorem d15_6 : decode jdk_41_method_12_code 6 = .ok (.if_icmp .gt 8, 3) := by decide +kernel
theorem d15_9 : decode jdk_41_method_12_code 9 = .ok (.iload_n 1, 1) := by decide +kernel
theorem d15_10 : decode jdk_41_method_12_code 10 = .ok (.iload_n 2, 1) := by decide +kernel
theorem d15_11 : decode jdk_41_method_12_code 11 = .ok (.if_icmp .le 11, 3) := by decide +kernel
theorem d15_22 : decode jdk_41_method_12_code 22 = .ok (.iload_n 0, 1) := by decide +kernel
theorem d15_23 : decode jdk_41_method_12_code 23 = .ok (.ireturn, 1) := by decide +kernel
abbrev R_pcft : Room := { frames := 0, cells := 0, slots := 0, locals := 0 }
def Q_pcft (Z : State) (G1 : Int32) (G3 : Value) (a : Int32) (b : Int32) (n : Int32) (h0 : Heap) (n0 : Nat) (v : Option Value) (h : Heap) (L : List Loc) : Prop := (v = some (.int a) ∧ Fr n0 L ∧ h = h0)
theorem rm_pcft (l : Launch) (Z : State) (a0 : Array Value) (hw : HW Z a0) (ws : List Jvm.Cond) (G1 : Int32) (G3 : Value) (HG : own_G l Z a0 G1 G3) (h0 : Heap) (n0 : Nat) (X00 : Old Z n0 h0) (a : Int32) (b : Int32) (n : Int32) (h1 : ¬ (a < (0 : Int32))) (h2 : ¬ (b < a)) (h3 : ¬ (n < b)) :
  own_CP l Z M286 jdk_41_method_12_code 4 (some .int) ws R_pcft #[(.int a), (.int b), (.int n), G3] h0 (Q_pcft Z G1 G3 a b n h0 n0) := by
 refine own_P (plainFor_of_name pn_288) ?_
 intro p e s m below meth c s₁ S0 Bd hZ hh hx hby hml hown hnm X0 e0 hS0d
 obtain ⟨O1, P1, O3f, rG3⟩ := id HG
 have N0 := Fr.nil n0
 have C0 : Steps p.tables e below S0 (s₁.setTop (mkF m 0 #[VI a, VI b, VI n, .val G3] [])) := by rw [hS0d]; exact castTop (ef_287 m a b n G3 rG3) (Steps.refl _)
 have C_1 : Steps p.tables e below S0 (s₁.setTop (mkF m 23 #[VI a, VI b, VI n, .val G3] [(.int a)])) := by
  refine C0.trans ?_
  refine XS.iloadN X0.here hx rfl (hb hby d15_0) rfl ?_
  refine XS.ifNo X0.here hx rfl (hb hby d15_1) rfl (i0_lt_f h1) ?_
  refine XS.iloadN X0.here hx rfl (hb hby d15_4) rfl ?_
  refine XS.iloadN X0.here hx rfl (hb hby d15_5) rfl ?_
  refine XS.icmpNo X0.here hx rfl (hb hby d15_6) rfl (ii_gt_f h2) ?_
  refine XS.iloadN X0.here hx rfl (hb hby d15_9) rfl ?_
  refine XS.iloadN X0.here hx rfl (hb hby d15_10) rfl ?_
  refine XS.icmpYes X0.here hx rfl (pc0 := 11) (pc' := 22) rfl (hb hby d15_11) rfl (ii_le_t h3) (by decide) (by decide) ?_
  refine XS.iloadN X0.here hx rfl (hb hby d15_22) rfl ?_
  exact Steps.refl _
 obtain ⟨fs, hr, hrun, hended, hW, hsame⟩ := X0.leave (v := some (.int a)) (fun h => by rw [Bd.returns] at h; cases h)
 refine ⟨_, _, C_1.trans (retOut X0 hx Bd.returns rfl (Or.inl ⟨rfl, Or.inl rfl, _, rfl⟩) (hb hby d15_23) hr), hrun, hended, _, _, rfl, ?_, ⟨_, rfl⟩, hW, hsame.mono (by decide) (by decide)⟩
 show Q_pcft Z G1 G3 a b n h0 n0 (some (.int a)) s₁.heap _
 rw [e0]
 exact ⟨rfl, N0, rfl⟩
abbrev M299 : MethodName := ⟨"java/lang/String", "checkBoundsBeginEnd", "(III)V"⟩
theorem ef_300 (m : MethodId) (x0 : Int32) (x1 : Int32) (x2 : Int32) : entryFrame m #[(.int x0), (.int x1), (.int x2)] 3 = mkF m 0 #[VI x0, VI x1, VI x2] [] := by first | (simp [entryFrame, mkF, argsToLocals, Value.category]; done) | rfl
theorem d16_0 : decode jdk_42_method_158_code 0 = .ok (.iload_n 0, 1) := by decide +kernel
theorem d16_1 : decode jdk_42_method_158_code 1 = .ok (.iload_n 1, 1) := by decide +kernel
theorem d16_2 : decode jdk_42_method_158_code 2 = .ok (.iload_n 2, 1) := by decide +kernel
theorem w102 {Z a0} (hw : HW Z a0) : Cond.before (Cond.fieldLink "java/lang/String" (1053 : Nat) "jdk/internal/util/Preconditions" "SIOOBE_FORMATTER" "Ljava/util/function/BiFunction;") a0 Z = true := hw _ (List.mem_of_getElem? (i := 102) rfl)
theorem d16_3 : decode jdk_42_method_158_code 3 = .ok (.getstatic 1053, 3) := by decide +kernel
theorem w106 {Z a0} (hw : HW Z a0) : Cond.before (Cond.code (⟨"jdk/internal/util/Preconditions", "checkFromToIndex", "(IIILjava/util/function/BiFunction;)I"⟩ : MethodName) jdk_41_method_12_code (4 : Nat) (Option.some FieldType.int)) a0 Z = true := hw _ (List.mem_of_getElem? (i := 106) rfl)
theorem w103 {Z a0} (hw : HW Z a0) : Cond.before (Cond.initialized "jdk/internal/util/Preconditions") a0 Z = true := hw _ (List.mem_of_getElem? (i := 103) rfl)
theorem pd_308 : parseMethodDescriptor "(IIILjava/util/function/BiFunction;)I" = some ⟨[.int, .int, .int, (.object "java/util/function/BiFunction")], some .int⟩ := by decide +kernel
theorem d16_6 : decode jdk_42_method_158_code 6 = .ok (.invokestatic 1062, 3) := by decide +kernel
theorem w104 {Z a0} (hw : HW Z a0) : Cond.before (Cond.methodLink "java/lang/String" (1062 : Nat) (⟨"jdk/internal/util/Preconditions", "checkFromToIndex", "(IIILjava/util/function/BiFunction;)I"⟩ : MethodName)) a0 Z = true := hw _ (List.mem_of_getElem? (i := 104) rfl)
theorem w105 {Z a0} (hw : HW Z a0) : Cond.before (Cond.static (⟨"jdk/internal/util/Preconditions", "checkFromToIndex", "(IIILjava/util/function/BiFunction;)I"⟩ : MethodName)) a0 Z = true := hw _ (List.mem_of_getElem? (i := 105) rfl)
theorem d16_9 : decode jdk_42_method_158_code 9 = .ok (.pop, 1) := by decide +kernel
theorem d16_10 : decode jdk_42_method_158_code 10 = .ok (.return_, 1) := by decide +kernel
abbrev R_cbb : Room := { frames := 1, cells := 0, slots := 0, locals := 15 }
def Q_cbb (Z : State) (G1 : Int32) (G3 : Value) (a : Int32) (b : Int32) (n : Int32) (h0 : Heap) (n0 : Nat) (v : Option Value) (h : Heap) (L : List Loc) : Prop := (v = none ∧ Fr n0 L ∧ h = h0)
theorem rm_cbb (l : Launch) (Z : State) (a0 : Array Value) (hw : HW Z a0) (ws : List Jvm.Cond) (G1 : Int32) (G3 : Value) (HG : own_G l Z a0 G1 G3) (h0 : Heap) (n0 : Nat) (X00 : Old Z n0 h0) (a : Int32) (b : Int32) (n : Int32) (h1 : ¬ (a < (0 : Int32))) (h2 : ¬ (b < a)) (h3 : ¬ (n < b)) :
  own_CP l Z M299 jdk_42_method_158_code 3 none ws R_cbb #[(.int a), (.int b), (.int n)] h0 (Q_cbb Z G1 G3 a b n h0 n0) := by
 refine own_P (plainFor_of_name pn_2) ?_
 intro p e s m below meth c s₁ S0 Bd hZ hh hx hby hml hown hnm X0 e0 hS0d
 obtain ⟨O1, P1, O3f, rG3⟩ := id HG
 have N0 := Fr.nil n0
 have C0 : Steps p.tables e below S0 (s₁.setTop (mkF m 0 #[VI a, VI b, VI n] [])) := by rw [hS0d]; exact castTop (ef_300 m a b n) (Steps.refl _)
 obtain ⟨T_1, X_2, e_3, st_4⟩ := getS X0 hx hZ (host := "") hown (w102 hw) Via.refl e0 (O3f.ext X00.2) (g := (mkF m 3 #[VI a, VI b, VI n] [(.int n), (.int b), (.int a)])) rfl (hb hby d16_3)
 obtain ⟨_, _, ⟨T_5, L_5, k_5, n_5⟩, -, X_5, ⟨Lc_5, hQ_5, l_5, y_5, z_5⟩, st_5⟩ := Jvm.LawKit.callS X_2 hx (y := M286) hown (mvT hZ (w104 hw)) (mvT hZ (w105 hw)) (mvT hZ (w103 hw)) (mvT hZ (w106 hw)) (by decide) (backOf (W := 0) (rm_pcft l Z a0 hw [] G1 G3 HG h0 n0 X00 a b n h1 h2 h3) hZ (w106 hw) (w103 hw) (by decide) (by decide)) (g := (mkF m 6 #[VI a, VI b, VI n] [G3, (.int n), (.int b), (.int a)])) rfl (by rw [hml]; rfl) (argsL := [(.int a), (.int b), (.int n), G3]) (rest := []) (lenOf pd_308 rfl) rfl (by show 2 * 0 + _ ≤ _; exact Nat.le_of_eq rfl) (hb hby d16_6) (fun _ _ => ⟨rfl, e_3, (by decide : 0 + 0 ≤ _), (by decide : 0 + 0 ≤ _)⟩)
 dsimp only [Pt.U, Pt.locs, Pt.cells, Pt.slots] at X_5 l_5 y_5 z_5 st_5 hQ_5
 subst l_5 y_5 z_5
 obtain ⟨rfl, N_6, e_7⟩ := hQ_5
 have N_8 := Fr.app N0 N_6
 have e_9 : T_5.heap = h0 := e_7
 have C_10 : Steps p.tables e below S0 (T_5.setTop (mkF m 10 #[VI a, VI b, VI n] [])) := by
  refine C0.trans ?_
  refine XS.iloadN X0.here hx rfl (hb hby d16_0) rfl ?_
  refine XS.iloadN X0.here hx rfl (hb hby d16_1) rfl ?_
  refine XS.iloadN X0.here hx rfl (hb hby d16_2) rfl ?_
  refine st_4 _ ?_
  refine st_5 _ ?_
  refine XS.pop X_5.here hx rfl (hb hby d16_9) rfl rfl ?_
  exact Steps.refl _
 obtain ⟨fs, hr, hrun, hended, hW, hsame⟩ := X_5.leave (v := none) (fun _ => rfl)
 refine ⟨_, _, C_10.trans (X_5.returnOut hx Bd.returns (hb hby d16_10) hr), hrun, hended, _, _, rfl, ?_, ⟨_, rfl⟩, hW, hsame.mono (by decide) (by decide)⟩
 show Q_cbb Z G1 G3 a b n h0 n0 (none) T_5.heap _
 rw [e_9]
 exact ⟨rfl, N_8, rfl⟩
abbrev M314 : MethodName := ⟨"java/lang/String", "substring", "(II)Ljava/lang/String;"⟩
theorem ef_315 (m : MethodId) (x0 : Addr) (x1 : Int32) (x2 : Int32) : entryFrame m #[(.ref x0), (.int x1), (.int x2)] 5 = mkF m 0 #[VR x0, VI x1, VI x2, .unset, .unset] [] := by first | (simp [entryFrame, mkF, argsToLocals, Value.category]; done) | rfl
theorem d17_0 : decode jdk_42_method_92_code 0 = .ok (.aload_n 0, 1) := by decide +kernel
theorem d17_1 : decode jdk_42_method_92_code 1 = .ok (.invokevirtual 505, 3) := by decide +kernel
theorem d17_4 : decode jdk_42_method_92_code 4 = .ok (.istore_n 3, 1) := by decide +kernel
theorem d17_5 : decode jdk_42_method_92_code 5 = .ok (.iload_n 1, 1) := by decide +kernel
theorem d17_6 : decode jdk_42_method_92_code 6 = .ok (.iload_n 2, 1) := by decide +kernel
theorem d17_7 : decode jdk_42_method_92_code 7 = .ok (.iload_n 3, 1) := by decide +kernel
theorem w101 {Z a0} (hw : HW Z a0) : Cond.before (Cond.code (⟨"java/lang/String", "checkBoundsBeginEnd", "(III)V"⟩ : MethodName) jdk_42_method_158_code (3 : Nat) (Option.none : Option FieldType)) a0 Z = true := hw _ (List.mem_of_getElem? (i := 101) rfl)
theorem pd_323 : parseMethodDescriptor "(III)V" = some ⟨[.int, .int, .int], none⟩ := by decide +kernel
theorem d17_8 : decode jdk_42_method_92_code 8 = .ok (.invokestatic 521, 3) := by decide +kernel
theorem w99 {Z a0} (hw : HW Z a0) : Cond.before (Cond.methodLink "java/lang/String" (521 : Nat) (⟨"java/lang/String", "checkBoundsBeginEnd", "(III)V"⟩ : MethodName)) a0 Z = true := hw _ (List.mem_of_getElem? (i := 99) rfl)
theorem w100 {Z a0} (hw : HW Z a0) : Cond.before (Cond.static (⟨"java/lang/String", "checkBoundsBeginEnd", "(III)V"⟩ : MethodName)) a0 Z = true := hw _ (List.mem_of_getElem? (i := 100) rfl)
theorem d17_11 : decode jdk_42_method_92_code 11 = .ok (.iload_n 1, 1) := by decide +kernel
theorem d17_12 : decode jdk_42_method_92_code 12 = .ok (.ifCond .ne 10, 3) := by decide +kernel
theorem d17_15 : decode jdk_42_method_92_code 15 = .ok (.iload_n 2, 1) := by decide +kernel
theorem d17_16 : decode jdk_42_method_92_code 16 = .ok (.iload_n 3, 1) := by decide +kernel
theorem d17_17 : decode jdk_42_method_92_code 17 = .ok (.if_icmp .ne 5, 3) := by decide +kernel
theorem d17_20 : decode jdk_42_method_92_code 20 = .ok (.aload_n 0, 1) := by decide +kernel
theorem d17_21 : decode jdk_42_method_92_code 21 = .ok (.areturn, 1) := by decide +kernel
abbrev R_sub_0_0 : Room := { frames := 2, cells := 0, slots := 0, locals := 29 }
def Q_sub_0_0 (Z : State) (G1 : Int32) (G3 : Value) (x : Addr) (t : Addr) (kt : ClassId) (h0 : Heap) (n0 : Nat) (v : Option Value) (h : Heap) (L : List Loc) : Prop := (∃ r : Addr, ∃ u : Addr, ∃ ku : ClassId, v = some (.ref r) ∧ Fr n0 L ∧ Keep h0 h [] ∧ (Exa Z h r "java/lang/String") ∧ (Fld Z h r "java/lang/String" "coder" "B" (.int 0)) ∧ (Fld Z h r "java/lang/String" "value" "[B" (.ref u)) ∧ (Arv Z h u ku .byte (0 : Int32) [] (.int 0)))
theorem rm_sub_0_0 (l : Launch) (Z : State) (a0 : Array Value) (hw : HW Z a0) (ws : List Jvm.Cond) (G1 : Int32) (G3 : Value) (HG : own_G l Z a0 G1 G3) (h0 : Heap) (n0 : Nat) (X00 : Old Z n0 h0) (x : Addr) (t : Addr) (kt : ClassId) (hp0 : Exa Z h0 x "java/lang/String") (hp1 : Fld Z h0 x "java/lang/String" "coder" "B" (.int 0)) (hp2 : Fld Z h0 x "java/lang/String" "value" "[B" (.ref t)) (hp3 : Arv Z h0 t kt .byte (0 : Int32) [] (.int 0)) :
  own_CP l Z M314 jdk_42_method_92_code 5 (some (.object "java/lang/String")) ws R_sub_0_0 #[(.ref x), (.int 0), (.int 0)] h0 (Q_sub_0_0 Z G1 G3 x t kt h0 n0) := by
 refine own_P (plainFor_of_name pn_2) ?_
 intro p e s m below meth c s₁ S0 Bd hZ hh hx hby hml hown hnm X0 e0 hS0d
 obtain ⟨O1, P1, O3f, rG3⟩ := id HG
 have N0 := Fr.nil n0
 have C0 : Steps p.tables e below S0 (s₁.setTop (mkF m 0 #[VR x, VI 0, VI 0, .unset, .unset] [])) := by rw [hS0d]; exact castTop (ef_315 m x (0 : Int32) (0 : Int32)) (Steps.refl _)
 obtain ⟨q_2, q_3, q_4, q_5, q_6⟩ := isOf (T := s₁) hZ e0 hp0
 obtain ⟨_, _, ⟨T_1, L_1, k_1, n_1⟩, -, X_1, ⟨Lc_1, hQ_1, l_1, y_1, z_1⟩, st_1⟩ := X0.virtualBack hx (y := M141) (z := M141) hown (mvT hZ (w68 hw)) (mvT hZ (w69 hw)) (notFace_of_selects (args := #[]) (mvT hZ (w71 hw))) (mvT hZ (w71 hw)) (mvT hZ (w70 hw)) (by decide) (backOf (W := 0) (rm_lenany l Z a0 hw [] G1 G3 HG h0 n0 X00 x t kt (0 : Int32) [] hp0 hp1 hp2 hp3) hZ (w72 hw) (w10 hw) (by decide) (by decide)) q_4 q_6 (g := (mkF m 1 #[VR x, VI 0, VI 0, .unset, .unset] [(.ref x)])) rfl (by rw [hml]; rfl) (Steps.refl _) (argsL := []) (rest := []) (lenOf pd_232 rfl) rfl (by show 2 * 0 + _ ≤ _; exact Nat.le_of_eq rfl) (hb hby d17_1) (fun _ _ => ⟨rfl, e0, (by decide : 0 + 0 ≤ _), (by decide : 0 + 0 ≤ _)⟩)
 dsimp only [Pt.U, Pt.locs, Pt.cells, Pt.slots] at X_1 l_1 y_1 z_1 st_1 hQ_1
 subst l_1 y_1 z_1
 obtain ⟨rfl, N_7, e_8⟩ := hQ_1
 have N_9 := Fr.app N0 N_7
 have e_10 : T_1.heap = h0 := e_8
 obtain ⟨_, _, ⟨T_11, L_11, k_11, n_11⟩, -, X_11, ⟨Lc_11, hQ_11, l_11, y_11, z_11⟩, st_11⟩ := Jvm.LawKit.callS X_1 hx (y := M299) hown (mvT hZ (w99 hw)) (mvT hZ (w100 hw)) (mvT hZ (w10 hw)) (mvT hZ (w101 hw)) (by decide) (backOf (W := 0) (rm_cbb l Z a0 hw [] G1 G3 HG h0 n0 X00 (0 : Int32) (0 : Int32) (0 : Int32) (by decide) (by decide) (by decide)) hZ (w101 hw) (w10 hw) (by decide) (by decide)) (g := (mkF m 8 #[VR x, VI 0, VI 0, VI 0, .unset] [(.int 0), (.int 0), (.int 0)])) rfl (by rw [hml]; rfl) (argsL := [(.int 0), (.int 0), (.int 0)]) (rest := []) (lenOf pd_323 rfl) rfl (by show 2 * 0 + _ ≤ _; exact Nat.le_of_eq rfl) (hb hby d17_8) (fun _ _ => ⟨rfl, e_10, (by decide : 0 + 0 ≤ _), (by decide : 0 + 0 ≤ _)⟩)
 dsimp only [Pt.U, Pt.locs, Pt.cells, Pt.slots] at X_11 l_11 y_11 z_11 st_11 hQ_11
 subst l_11 y_11 z_11
 obtain ⟨rfl, N_12, e_13⟩ := hQ_11
 have N_14 := Fr.app N_9 N_12
 have e_15 : T_11.heap = h0 := e_13
 have C_16 : Steps p.tables e below S0 (T_11.setTop (mkF m 21 #[VR x, VI 0, VI 0, VI 0, .unset] [(.ref x)])) := by
  refine C0.trans ?_
  refine XS.aloadN X0.here hx rfl (hb hby d17_0) rfl rfl ?_
  refine st_1.trans ?_
  refine XS.istoreN X_1.here hx rfl (hb hby d17_4) rfl (l' := #[VR x, VI 0, VI 0, VI 0, .unset]) rfl ?_
  refine XS.iloadN X_1.here hx rfl (hb hby d17_5) rfl ?_
  refine XS.iloadN X_1.here hx rfl (hb hby d17_6) rfl ?_
  refine XS.iloadN X_1.here hx rfl (hb hby d17_7) rfl ?_
  refine st_11 _ ?_
  refine XS.iloadN X_11.here hx rfl (hb hby d17_11) rfl ?_
  refine XS.ifNo X_11.here hx rfl (hb hby d17_12) rfl (by decide) ?_
  refine XS.iloadN X_11.here hx rfl (hb hby d17_15) rfl ?_
  refine XS.iloadN X_11.here hx rfl (hb hby d17_16) rfl ?_
  refine XS.icmpNo X_11.here hx rfl (hb hby d17_17) rfl (by decide) ?_
  refine XS.aloadN X_11.here hx rfl (hb hby d17_20) rfl rfl ?_
  exact Steps.refl _
 have K_17 : Keep h0 h0 [] := (Keep.refl _ _)
 obtain ⟨fs, hr, hrun, hended, hW, hsame⟩ := X_11.leave (v := some (.ref x)) (fun h => by rw [Bd.returns] at h; cases h)
 refine ⟨_, _, C_16.trans (retOut X_11 hx Bd.returns rfl (Or.inr (Or.inr (Or.inr (Or.inr ⟨rfl, rfl, rfl⟩)))) (hb hby d17_21) hr), hrun, hended, _, _, rfl, ?_, ⟨_, rfl⟩, hW, hsame.mono (by decide) (by decide)⟩
 show Q_sub_0_0 Z G1 G3 x t kt h0 n0 (some (.ref x)) T_11.heap _
 rw [e_15]
 exact ⟨x, t, kt, rfl, N_14, K_17, hp0, hp1, hp2, hp3⟩
abbrev M334 : MethodName := ⟨"java/lang/StringLatin1", "newString", "([BII)Ljava/lang/String;"⟩
theorem d18_0 : decode jdk_43_method_47_code 0 = .ok (.iload_n 2, 1) := by decide +kernel
theorem d18_1 : decode jdk_43_method_47_code 1 = .ok (.ifCond .ne 6, 3) := by decide +kernel
theorem w124 {Z a0} (hw : HW Z a0) : Cond.before (Cond.stringLink "java/lang/StringLatin1" (151 : Nat) "") a0 Z = true := hw _ (List.mem_of_getElem? (i := 124) rfl)
theorem d18_4 : decode jdk_43_method_47_code 4 = .ok (.ldc 151, 2) := by decide +kernel
theorem d18_6 : decode jdk_43_method_47_code 6 = .ok (.areturn, 1) := by decide +kernel
abbrev R_lns_1_0 : Room := { frames := 0, cells := 2, slots := 4, locals := 0 }
def Q_lns_1_0 (Z : State) (G1 : Int32) (G3 : Value) (t : Addr) (kt : ClassId) (y0 : Int32) (h0 : Heap) (n0 : Nat) (v : Option Value) (h : Heap) (L : List Loc) : Prop := (∃ r : Addr, ∃ u : Addr, ∃ ku : ClassId, v = some (.ref r) ∧ Fr n0 L ∧ Keep h0 h [] ∧ (Exa Z h r "java/lang/String") ∧ (Fld Z h r "java/lang/String" "coder" "B" (.int 0)) ∧ (Fld Z h r "java/lang/String" "value" "[B" (.ref u)) ∧ (Arv Z h u ku .byte (0 : Int32) [] (.int 0)))
theorem rm_lns_1_0 (l : Launch) (Z : State) (a0 : Array Value) (hw : HW Z a0) (ws : List Jvm.Cond) (G1 : Int32) (G3 : Value) (HG : own_G l Z a0 G1 G3) (h0 : Heap) (n0 : Nat) (X00 : Old Z n0 h0) (t : Addr) (kt : ClassId) (y0 : Int32) (hp0 : Arv Z h0 t kt .byte (1 : Int32) [(.int y0)] (.int 0)) :
  own_CH l Z M334 jdk_43_method_47_code 3 (some (.object "java/lang/String")) ws R_lns_1_0 #[(.ref t), (.int 0), (.int 0)] h0 (Q_lns_1_0 Z G1 G3 t kt y0 h0 n0) := by
 refine own_H (plainFor_of_name pn_157) ?_
 intro p e s m below meth c s₁ S0 Bd hZ hh CH0 hS0 CR0 hx hby hml hown hnm X0 e0 hS0d
 obtain ⟨O1, P1, O3f, rG3⟩ := id HG
 have hEL := own_EL hw
 have hSA := own_SA hw
 have N0 := Fr.nil n0
 have C0 : Steps p.tables e below S0 (s₁.setTop (mkF m 0 #[VR t, VI 0, VI 0] [])) := by rw [hS0d]; exact castTop (ef_216 m t (0 : Int32) (0 : Int32)) (Steps.refl _)
 obtain ⟨a_1, T_2, h_3, k1_4, b_5, k_6, X_7, e_8, E_9, S_10, hk_11, hZ_12, ho_13, Ex_14, Fc_15, Fv_16, Va_17, la_18, lb_19, R_20, L_21, Sf_22, st_23⟩ := ldcCH (vm0 := s.vm) X0 hx hZ hown (w124 hw) hSA e0 hS0 (Nat.le_refl _) hEL (by decide) CH0 (vs := []) (z := (0 : Int32)) ⟨by decide, by decide⟩ (by decide) (by decide) (g := (mkF m 4 #[VR t, VI 0, VI 0] [])) rfl (hb hby d18_4) (n := 0) (by decide) (by decide) (by decide) (by decide)
 have CH_24 : CHv Z consts_1 T_2.vm h_3 := R_20.1
 have CR_25 : CHr Z consts_1 s.vm h0 T_2.vm h_3 := CR0.trans R_20
 have C_26 : Steps p.tables e below S0 (T_2.setTop (mkF m 6 #[VR t, VI 0, VI 0] [(.ref a_1)])) := by
  refine C0.trans ?_
  refine XS.iloadN X0.here hx rfl (hb hby d18_0) rfl ?_
  refine XS.ifNo X0.here hx rfl (hb hby d18_1) rfl (by decide) ?_
  refine st_23 _ ?_
  exact Steps.refl _
 have K_27 : Keep h0 h_3 [] := ((Keep.refl _ _).ext E_9)
 obtain ⟨fs, hr, hrun, hended, hRE⟩ := X_7.leaveW S_10 (by rw [show T_2.heap = h_3 from e_8]; exact hk_11) (v := some (.ref a_1)) (fun h => by rw [Bd.returns] at h; cases h)
 refine ⟨_, _, C_26.trans (retOut X_7 hx Bd.returns rfl (Or.inr (Or.inr (Or.inr (Or.inr ⟨rfl, rfl, rfl⟩)))) (hb hby d18_6) hr), hrun, hended, _, _, rfl, ?_, ?_, hRE.1, hRE.2.1, hRE.2.2.1, hRE.2.2.2.mono (by decide) (by decide)⟩
 ·show Q_lns_1_0 Z G1 G3 t kt y0 h0 n0 (some (.ref a_1)) T_2.heap _
  rw [e_8]
  exact ⟨a_1, b_5, k_6, rfl, N0, K_27, Ex_14, Fc_15, Fv_16, Va_17⟩
 ·show CHr Z consts_1 s.vm s.heap T_2.vm T_2.heap
  rw [hh, show T_2.heap = h_3 from e_8]
  exact CR_25.trans (CHv.at X_7 hZ_12 hEL CH_24)
theorem d17_22 : decode jdk_42_method_92_code 22 = .ok (.iload_n 2, 1) := by decide +kernel
theorem d17_23 : decode jdk_42_method_92_code 23 = .ok (.iload_n 1, 1) := by decide +kernel
theorem d17_24 : decode jdk_42_method_92_code 24 = .ok (.isub, 1) := by decide +kernel
theorem d17_25 : decode jdk_42_method_92_code 25 = .ok (.istore 4, 2) := by decide +kernel
theorem d17_27 : decode jdk_42_method_92_code 27 = .ok (.aload_n 0, 1) := by decide +kernel
theorem d17_28 : decode jdk_42_method_92_code 28 = .ok (.invokevirtual 492, 3) := by decide +kernel
theorem d17_31 : decode jdk_42_method_92_code 31 = .ok (.ifCond .eq 16, 3) := by decide +kernel
theorem d17_34 : decode jdk_42_method_92_code 34 = .ok (.aload_n 0, 1) := by decide +kernel
theorem d17_35 : decode jdk_42_method_92_code 35 = .ok (.getfield 9, 3) := by decide +kernel
theorem d17_38 : decode jdk_42_method_92_code 38 = .ok (.iload_n 1, 1) := by decide +kernel
theorem d17_39 : decode jdk_42_method_92_code 39 = .ok (.iload 4, 2) := by decide +kernel
theorem w123 {Z a0} (hw : HW Z a0) : Cond.before (Cond.code (⟨"java/lang/StringLatin1", "newString", "([BII)Ljava/lang/String;"⟩ : MethodName) jdk_43_method_47_code (3 : Nat) (Option.some (FieldType.object "java/lang/String"))) a0 Z = true := hw _ (List.mem_of_getElem? (i := 123) rfl)
theorem pd_352 : parseMethodDescriptor "([BII)Ljava/lang/String;" = some ⟨[(.array .byte), .int, .int], some (.object "java/lang/String")⟩ := by decide +kernel
theorem d17_41 : decode jdk_42_method_92_code 41 = .ok (.invokestatic 685, 3) := by decide +kernel
theorem w121 {Z a0} (hw : HW Z a0) : Cond.before (Cond.methodLink "java/lang/String" (685 : Nat) (⟨"java/lang/StringLatin1", "newString", "([BII)Ljava/lang/String;"⟩ : MethodName)) a0 Z = true := hw _ (List.mem_of_getElem? (i := 121) rfl)
theorem w122 {Z a0} (hw : HW Z a0) : Cond.before (Cond.static (⟨"java/lang/StringLatin1", "newString", "([BII)Ljava/lang/String;"⟩ : MethodName)) a0 Z = true := hw _ (List.mem_of_getElem? (i := 122) rfl)
theorem d17_44 : decode jdk_42_method_92_code 44 = .ok (.goto 13, 3) := by decide +kernel
theorem d17_57 : decode jdk_42_method_92_code 57 = .ok (.areturn, 1) := by decide +kernel
abbrev R_sub_1_0 : Room := { frames := 2, cells := 2, slots := 4, locals := 29 }
def Q_sub_1_0 (Z : State) (G1 : Int32) (G3 : Value) (x : Addr) (t : Addr) (kt : ClassId) (y0 : Int32) (h0 : Heap) (n0 : Nat) (v : Option Value) (h : Heap) (L : List Loc) : Prop := (∃ r : Addr, ∃ u : Addr, ∃ ku : ClassId, v = some (.ref r) ∧ Fr n0 L ∧ Keep h0 h [] ∧ (Exa Z h r "java/lang/String") ∧ (Fld Z h r "java/lang/String" "coder" "B" (.int 0)) ∧ (Fld Z h r "java/lang/String" "value" "[B" (.ref u)) ∧ (Arv Z h u ku .byte (0 : Int32) [] (.int 0)))
theorem rm_sub_1_0 (l : Launch) (Z : State) (a0 : Array Value) (hw : HW Z a0) (ws : List Jvm.Cond) (G1 : Int32) (G3 : Value) (HG : own_G l Z a0 G1 G3) (h0 : Heap) (n0 : Nat) (X00 : Old Z n0 h0) (x : Addr) (t : Addr) (kt : ClassId) (y0 : Int32) (hp0 : Exa Z h0 x "java/lang/String") (hp1 : Fld Z h0 x "java/lang/String" "coder" "B" (.int 0)) (hp2 : Fld Z h0 x "java/lang/String" "value" "[B" (.ref t)) (hp3 : Arv Z h0 t kt .byte (1 : Int32) [(.int y0)] (.int 0)) :
  own_CH l Z M314 jdk_42_method_92_code 5 (some (.object "java/lang/String")) ws R_sub_1_0 #[(.ref x), (.int 0), (.int 0)] h0 (Q_sub_1_0 Z G1 G3 x t kt y0 h0 n0) := by
 refine own_H (plainFor_of_name pn_2) ?_
 intro p e s m below meth c s₁ S0 Bd hZ hh CH0 hS0 CR0 hx hby hml hown hnm X0 e0 hS0d
 obtain ⟨O1, P1, O3f, rG3⟩ := id HG
 have hEL := own_EL hw
 have hSA := own_SA hw
 have N0 := Fr.nil n0
 have C0 : Steps p.tables e below S0 (s₁.setTop (mkF m 0 #[VR x, VI 0, VI 0, .unset, .unset] [])) := by rw [hS0d]; exact castTop (ef_315 m x (0 : Int32) (0 : Int32)) (Steps.refl _)
 obtain ⟨q_2, q_3, q_4, q_5, q_6⟩ := isOf (T := s₁) hZ e0 hp0
 obtain ⟨_, _, ⟨T_1, L_1, k_1, n_1⟩, -, X_1, ⟨Lc_1, hQ_1, l_1, y_1, z_1⟩, st_1⟩ := X0.virtualBack hx (y := M141) (z := M141) hown (mvT hZ (w68 hw)) (mvT hZ (w69 hw)) (notFace_of_selects (args := #[]) (mvT hZ (w71 hw))) (mvT hZ (w71 hw)) (mvT hZ (w70 hw)) (by decide) (backOf (W := 0) (rm_lenany l Z a0 hw [] G1 G3 HG h0 n0 X00 x t kt (1 : Int32) [(.int y0)] hp0 hp1 hp2 hp3) hZ (w72 hw) (w10 hw) (by decide) (by decide)) q_4 q_6 (g := (mkF m 1 #[VR x, VI 0, VI 0, .unset, .unset] [(.ref x)])) rfl (by rw [hml]; rfl) (Steps.refl _) (argsL := []) (rest := []) (lenOf pd_232 rfl) rfl (by show 2 * 0 + _ ≤ _; exact Nat.le_of_eq rfl) (hb hby d17_1) (fun _ _ => ⟨rfl, e0, (by decide : 0 + 0 ≤ _), (by decide : 0 + 0 ≤ _)⟩)
 dsimp only [Pt.U, Pt.locs, Pt.cells, Pt.slots] at X_1 l_1 y_1 z_1 st_1 hQ_1
 subst l_1 y_1 z_1
 obtain ⟨rfl, N_7, e_8⟩ := hQ_1
 have N_9 := Fr.app N0 N_7
 have e_10 : T_1.heap = h0 := e_8
 obtain ⟨_, _, ⟨T_11, L_11, k_11, n_11⟩, -, X_11, ⟨Lc_11, hQ_11, l_11, y_11, z_11⟩, st_11⟩ := Jvm.LawKit.callS X_1 hx (y := M299) hown (mvT hZ (w99 hw)) (mvT hZ (w100 hw)) (mvT hZ (w10 hw)) (mvT hZ (w101 hw)) (by decide) (backOf (W := 0) (rm_cbb l Z a0 hw [] G1 G3 HG h0 n0 X00 (0 : Int32) (0 : Int32) (1 : Int32) (by decide) (by decide) (by decide)) hZ (w101 hw) (w10 hw) (by decide) (by decide)) (g := (mkF m 8 #[VR x, VI 0, VI 0, VI 1, .unset] [(.int 1), (.int 0), (.int 0)])) rfl (by rw [hml]; rfl) (argsL := [(.int 0), (.int 0), (.int 1)]) (rest := []) (lenOf pd_323 rfl) rfl (by show 2 * 0 + _ ≤ _; exact Nat.le_of_eq rfl) (hb hby d17_8) (fun _ _ => ⟨rfl, e_10, (by decide : 0 + 0 ≤ _), (by decide : 0 + 0 ≤ _)⟩)
 dsimp only [Pt.U, Pt.locs, Pt.cells, Pt.slots] at X_11 l_11 y_11 z_11 st_11 hQ_11
 subst l_11 y_11 z_11
 obtain ⟨rfl, N_12, e_13⟩ := hQ_11
 have N_14 := Fr.app N_9 N_12
 have e_15 : T_11.heap = h0 := e_13
 obtain ⟨q_17, q_18, q_19, q_20, q_21⟩ := isOf (T := T_11) hZ e_15 hp0
 obtain ⟨_, _, ⟨T_16, L_16, k_16, n_16⟩, -, X_16, ⟨Lc_16, hQ_16, l_16, y_16, z_16⟩, st_16⟩ := X_11.virtualBack hx (y := M132) (z := M132) hown (mvT hZ (w62 hw)) (mvT hZ (w63 hw)) (notFace_of_selects (args := #[]) (mvT hZ (w65 hw))) (mvT hZ (w65 hw)) (mvT hZ (w64 hw)) (by decide) (backOf (W := 0) (rm_islat l Z a0 hw [] G1 G3 HG h0 n0 X00 x hp1) hZ (w66 hw) (w10 hw) (by decide) (by decide)) q_19 q_21 (g := (mkF m 28 #[VR x, VI 0, VI 0, VI 1, VI 0] [(.ref x)])) rfl (by rw [hml]; rfl) (Steps.refl _) (argsL := []) (rest := []) (lenOf pd_219 rfl) rfl (by show 2 * 0 + _ ≤ _; exact Nat.le_of_eq rfl) (hb hby d17_28) (fun _ _ => ⟨rfl, e_15, (by decide : 0 + 0 ≤ _), (by decide : 0 + 0 ≤ _)⟩)
 dsimp only [Pt.U, Pt.locs, Pt.cells, Pt.slots] at X_16 l_16 y_16 z_16 st_16 hQ_16
 subst l_16 y_16 z_16
 obtain ⟨rfl, N_22, e_23⟩ := hQ_16
 have N_24 := Fr.app N_14 N_22
 have e_25 : T_16.heap = h0 := e_23
 obtain ⟨T_26, X_27, e_28, st_29⟩ := getF X_16 hx hZ hown (host := "") (Or.inl (w28 hw)) Via.refl e_25 hp2 (g := (mkF m 35 #[VR x, VI 0, VI 0, VI 1, VI 0] [(.ref x)])) rfl rfl (hb hby d17_35)
 obtain ⟨_, _, ⟨T_30, L_30, k_30, n_30⟩, -, Y_30, S_30, G_30, ⟨Lc_30, hQ_30, l_30, y_30, z_30, R_30⟩, st_30⟩ := callSS X_27 hx (y := M334) hown (mvT hZ (w121 hw)) (mvT hZ (w122 hw)) (mvT hZ (w80 hw)) (mvT hZ (w123 hw)) (by decide) (backOfSH (vm0 := s.vm) (W := 0) (rm_lns_1_0 l Z a0 hw [] G1 G3 HG h0 n0 X00 t kt y0 hp3) hZ (w123 hw) (w80 hw) (by decide) (by decide) hEL CH0) (g := (mkF m 41 #[VR x, VI 0, VI 0, VI 1, VI 0] [(.int 0), (.int 0), (.ref t)])) rfl (by rw [hml]; rfl) (argsL := [(.ref t), (.int 0), (.int 0)]) (rest := []) (lenOf pd_352 rfl) rfl (by show 2 * 0 + _ ≤ _; exact Nat.le_of_eq rfl) (hb hby d17_41) (fun _ _ => ⟨rfl, e_28, (by decide : 0 + 2 ≤ _), (by decide : 0 + 4 ≤ _)⟩)
 dsimp only [Pt.U, Pt.locs, Pt.cells, Pt.slots] at Y_30 S_30 G_30 l_30 y_30 z_30 st_30 hQ_30 R_30
 subst l_30 y_30 z_30
 obtain ⟨X_30, hS_30, hZ_30, hown_30⟩ := rebS hS0 (n1 := T_26.heap.size) (by rw [show T_26.heap = h0 from e_28]; exact (Nat.le_refl _)) Y_30 S_30 G_30 hZ hown
 obtain ⟨a_31, a_32, k_33, rfl, N_34, K_35, g_36, g_37, g_38, g_39⟩ := hQ_30
 have N_40 := Fr.app N_24 N_34
 have CH_41 : CHv Z consts_1 T_30.vm T_30.heap := R_30.1
 have CR_42 : CHr Z consts_1 s.vm h0 T_30.vm T_30.heap := CR0.trans R_30
 have C_43 : Steps p.tables e below S0 (T_30.setTop (mkF m 57 #[VR x, VI 0, VI 0, VI 1, VI 0] [(.ref a_31)])) := by
  refine C0.trans ?_
  refine XS.aloadN X0.here hx rfl (hb hby d17_0) rfl rfl ?_
  refine st_1.trans ?_
  refine XS.istoreN X_1.here hx rfl (hb hby d17_4) rfl (l' := #[VR x, VI 0, VI 0, VI 1, .unset]) rfl ?_
  refine XS.iloadN X_1.here hx rfl (hb hby d17_5) rfl ?_
  refine XS.iloadN X_1.here hx rfl (hb hby d17_6) rfl ?_
  refine XS.iloadN X_1.here hx rfl (hb hby d17_7) rfl ?_
  refine st_11 _ ?_
  refine XS.iloadN X_11.here hx rfl (hb hby d17_11) rfl ?_
  refine XS.ifNo X_11.here hx rfl (hb hby d17_12) rfl (by decide) ?_
  refine XS.iloadN X_11.here hx rfl (hb hby d17_15) rfl ?_
  refine XS.iloadN X_11.here hx rfl (hb hby d17_16) rfl ?_
  refine XS.icmpYes X_11.here hx rfl (pc0 := 17) (pc' := 22) rfl (hb hby d17_17) rfl (by decide) (by decide) (by decide) ?_
  refine XS.iloadN X_11.here hx rfl (hb hby d17_22) rfl ?_
  refine XS.iloadN X_11.here hx rfl (hb hby d17_23) rfl ?_
  refine XS.isub X_11.here hx rfl (hb hby d17_24) rfl ?_
  refine XS.istore X_11.here hx rfl (hb hby d17_25) rfl (l' := #[VR x, VI 0, VI 0, VI 1, VI 0]) rfl ?_
  show Steps p.tables e below (T_11.setTop (mkF m 27 #[VR x, VI 0, VI 0, VI 1, VI 0] [])) _
  refine XS.aloadN X_11.here hx rfl (hb hby d17_27) rfl rfl ?_
  refine st_16.trans ?_
  refine XS.ifNo X_16.here hx rfl (hb hby d17_31) rfl (by decide) ?_
  refine XS.aloadN X_16.here hx rfl (hb hby d17_34) rfl rfl ?_
  refine st_29 _ ?_
  refine XS.iloadN X_27.here hx rfl (hb hby d17_38) rfl ?_
  refine XS.iload X_27.here hx rfl (hb hby d17_39) rfl ?_
  refine st_30.trans ?_
  refine XS.goto X_30.here hx rfl (pc0 := 44) (pc' := 57) rfl (hb hby d17_44) (by decide) (by decide) ?_
  exact Steps.refl _
 have K_44 : Keep h0 T_30.heap [] := ((Keep.refl _ _).trans K_35 all0)
 obtain ⟨fs, hr, hrun, hended, hRE⟩ := X_30.leaveW hS_30 (by rw [show T_30.heap = T_30.heap from rfl]; exact (Nat.le_refl _)) (v := some (.ref a_31)) (fun h => by rw [Bd.returns] at h; cases h)
 refine ⟨_, _, C_43.trans (retOut X_30 hx Bd.returns rfl (Or.inr (Or.inr (Or.inr (Or.inr ⟨rfl, rfl, rfl⟩)))) (hb hby d17_57) hr), hrun, hended, _, _, rfl, ?_, ?_, hRE.1, hRE.2.1, hRE.2.2.1, hRE.2.2.2.mono (by decide) (by decide)⟩
 ·show Q_sub_1_0 Z G1 G3 x t kt y0 h0 n0 (some (.ref a_31)) T_30.heap _
  exact ⟨a_31, a_32, k_33, rfl, N_40, K_44, g_36, g_37, g_38, g_39⟩
 ·show CHr Z consts_1 s.vm s.heap T_30.vm T_30.heap
  rw [hh]
  exact CR_42.trans (CHv.at X_30 hZ_30 hEL CH_41)
abbrev R_sub_1_1 : Room := { frames := 2, cells := 0, slots := 0, locals := 29 }
def Q_sub_1_1 (Z : State) (G1 : Int32) (G3 : Value) (x : Addr) (t : Addr) (kt : ClassId) (y0 : Int32) (h0 : Heap) (n0 : Nat) (v : Option Value) (h : Heap) (L : List Loc) : Prop := (∃ r : Addr, ∃ u : Addr, ∃ ku : ClassId, v = some (.ref r) ∧ Fr n0 L ∧ Keep h0 h [] ∧ (Exa Z h r "java/lang/String") ∧ (Fld Z h r "java/lang/String" "coder" "B" (.int 0)) ∧ (Fld Z h r "java/lang/String" "value" "[B" (.ref u)) ∧ (Arv Z h u ku .byte (1 : Int32) [(.int y0)] (.int 0)))
theorem rm_sub_1_1 (l : Launch) (Z : State) (a0 : Array Value) (hw : HW Z a0) (ws : List Jvm.Cond) (G1 : Int32) (G3 : Value) (HG : own_G l Z a0 G1 G3) (h0 : Heap) (n0 : Nat) (X00 : Old Z n0 h0) (x : Addr) (t : Addr) (kt : ClassId) (y0 : Int32) (hp0 : Exa Z h0 x "java/lang/String") (hp1 : Fld Z h0 x "java/lang/String" "coder" "B" (.int 0)) (hp2 : Fld Z h0 x "java/lang/String" "value" "[B" (.ref t)) (hp3 : Arv Z h0 t kt .byte (1 : Int32) [(.int y0)] (.int 0)) :
  own_CP l Z M314 jdk_42_method_92_code 5 (some (.object "java/lang/String")) ws R_sub_1_1 #[(.ref x), (.int 0), (.int 1)] h0 (Q_sub_1_1 Z G1 G3 x t kt y0 h0 n0) := by
 refine own_P (plainFor_of_name pn_2) ?_
 intro p e s m below meth c s₁ S0 Bd hZ hh hx hby hml hown hnm X0 e0 hS0d
 obtain ⟨O1, P1, O3f, rG3⟩ := id HG
 have N0 := Fr.nil n0
 have C0 : Steps p.tables e below S0 (s₁.setTop (mkF m 0 #[VR x, VI 0, VI 1, .unset, .unset] [])) := by rw [hS0d]; exact castTop (ef_315 m x (0 : Int32) (1 : Int32)) (Steps.refl _)
 obtain ⟨q_2, q_3, q_4, q_5, q_6⟩ := isOf (T := s₁) hZ e0 hp0
 obtain ⟨_, _, ⟨T_1, L_1, k_1, n_1⟩, -, X_1, ⟨Lc_1, hQ_1, l_1, y_1, z_1⟩, st_1⟩ := X0.virtualBack hx (y := M141) (z := M141) hown (mvT hZ (w68 hw)) (mvT hZ (w69 hw)) (notFace_of_selects (args := #[]) (mvT hZ (w71 hw))) (mvT hZ (w71 hw)) (mvT hZ (w70 hw)) (by decide) (backOf (W := 0) (rm_lenany l Z a0 hw [] G1 G3 HG h0 n0 X00 x t kt (1 : Int32) [(.int y0)] hp0 hp1 hp2 hp3) hZ (w72 hw) (w10 hw) (by decide) (by decide)) q_4 q_6 (g := (mkF m 1 #[VR x, VI 0, VI 1, .unset, .unset] [(.ref x)])) rfl (by rw [hml]; rfl) (Steps.refl _) (argsL := []) (rest := []) (lenOf pd_232 rfl) rfl (by show 2 * 0 + _ ≤ _; exact Nat.le_of_eq rfl) (hb hby d17_1) (fun _ _ => ⟨rfl, e0, (by decide : 0 + 0 ≤ _), (by decide : 0 + 0 ≤ _)⟩)
 dsimp only [Pt.U, Pt.locs, Pt.cells, Pt.slots] at X_1 l_1 y_1 z_1 st_1 hQ_1
 subst l_1 y_1 z_1
 obtain ⟨rfl, N_7, e_8⟩ := hQ_1
 have N_9 := Fr.app N0 N_7
 have e_10 : T_1.heap = h0 := e_8
 obtain ⟨_, _, ⟨T_11, L_11, k_11, n_11⟩, -, X_11, ⟨Lc_11, hQ_11, l_11, y_11, z_11⟩, st_11⟩ := Jvm.LawKit.callS X_1 hx (y := M299) hown (mvT hZ (w99 hw)) (mvT hZ (w100 hw)) (mvT hZ (w10 hw)) (mvT hZ (w101 hw)) (by decide) (backOf (W := 0) (rm_cbb l Z a0 hw [] G1 G3 HG h0 n0 X00 (0 : Int32) (1 : Int32) (1 : Int32) (by decide) (by decide) (by decide)) hZ (w101 hw) (w10 hw) (by decide) (by decide)) (g := (mkF m 8 #[VR x, VI 0, VI 1, VI 1, .unset] [(.int 1), (.int 1), (.int 0)])) rfl (by rw [hml]; rfl) (argsL := [(.int 0), (.int 1), (.int 1)]) (rest := []) (lenOf pd_323 rfl) rfl (by show 2 * 0 + _ ≤ _; exact Nat.le_of_eq rfl) (hb hby d17_8) (fun _ _ => ⟨rfl, e_10, (by decide : 0 + 0 ≤ _), (by decide : 0 + 0 ≤ _)⟩)
 dsimp only [Pt.U, Pt.locs, Pt.cells, Pt.slots] at X_11 l_11 y_11 z_11 st_11 hQ_11
 subst l_11 y_11 z_11
 obtain ⟨rfl, N_12, e_13⟩ := hQ_11
 have N_14 := Fr.app N_9 N_12
 have e_15 : T_11.heap = h0 := e_13
 have C_16 : Steps p.tables e below S0 (T_11.setTop (mkF m 21 #[VR x, VI 0, VI 1, VI 1, .unset] [(.ref x)])) := by
  refine C0.trans ?_
  refine XS.aloadN X0.here hx rfl (hb hby d17_0) rfl rfl ?_
  refine st_1.trans ?_
  refine XS.istoreN X_1.here hx rfl (hb hby d17_4) rfl (l' := #[VR x, VI 0, VI 1, VI 1, .unset]) rfl ?_
  refine XS.iloadN X_1.here hx rfl (hb hby d17_5) rfl ?_
  refine XS.iloadN X_1.here hx rfl (hb hby d17_6) rfl ?_
  refine XS.iloadN X_1.here hx rfl (hb hby d17_7) rfl ?_
  refine st_11 _ ?_
  refine XS.iloadN X_11.here hx rfl (hb hby d17_11) rfl ?_
  refine XS.ifNo X_11.here hx rfl (hb hby d17_12) rfl (by decide) ?_
  refine XS.iloadN X_11.here hx rfl (hb hby d17_15) rfl ?_
  refine XS.iloadN X_11.here hx rfl (hb hby d17_16) rfl ?_
  refine XS.icmpNo X_11.here hx rfl (hb hby d17_17) rfl (by decide) ?_
  refine XS.aloadN X_11.here hx rfl (hb hby d17_20) rfl rfl ?_
  exact Steps.refl _
 have K_17 : Keep h0 h0 [] := (Keep.refl _ _)
 obtain ⟨fs, hr, hrun, hended, hW, hsame⟩ := X_11.leave (v := some (.ref x)) (fun h => by rw [Bd.returns] at h; cases h)
 refine ⟨_, _, C_16.trans (retOut X_11 hx Bd.returns rfl (Or.inr (Or.inr (Or.inr (Or.inr ⟨rfl, rfl, rfl⟩)))) (hb hby d17_21) hr), hrun, hended, _, _, rfl, ?_, ⟨_, rfl⟩, hW, hsame.mono (by decide) (by decide)⟩
 show Q_sub_1_1 Z G1 G3 x t kt y0 h0 n0 (some (.ref x)) T_11.heap _
 rw [e_15]
 exact ⟨x, t, kt, rfl, N_14, K_17, hp0, hp1, hp2, hp3⟩
abbrev R_lns_2_0 : Room := { frames := 0, cells := 2, slots := 4, locals := 0 }
def Q_lns_2_0 (Z : State) (G1 : Int32) (G3 : Value) (t : Addr) (kt : ClassId) (y0 : Int32) (y1 : Int32) (h0 : Heap) (n0 : Nat) (v : Option Value) (h : Heap) (L : List Loc) : Prop := (∃ r : Addr, ∃ u : Addr, ∃ ku : ClassId, v = some (.ref r) ∧ Fr n0 L ∧ Keep h0 h [] ∧ (Exa Z h r "java/lang/String") ∧ (Fld Z h r "java/lang/String" "coder" "B" (.int 0)) ∧ (Fld Z h r "java/lang/String" "value" "[B" (.ref u)) ∧ (Arv Z h u ku .byte (0 : Int32) [] (.int 0)))
theorem rm_lns_2_0 (l : Launch) (Z : State) (a0 : Array Value) (hw : HW Z a0) (ws : List Jvm.Cond) (G1 : Int32) (G3 : Value) (HG : own_G l Z a0 G1 G3) (h0 : Heap) (n0 : Nat) (X00 : Old Z n0 h0) (t : Addr) (kt : ClassId) (y0 : Int32) (y1 : Int32) (hp0 : Arv Z h0 t kt .byte (2 : Int32) [(.int y0), (.int y1)] (.int 0)) :
  own_CH l Z M334 jdk_43_method_47_code 3 (some (.object "java/lang/String")) ws R_lns_2_0 #[(.ref t), (.int 0), (.int 0)] h0 (Q_lns_2_0 Z G1 G3 t kt y0 y1 h0 n0) := by
 refine own_H (plainFor_of_name pn_157) ?_
 intro p e s m below meth c s₁ S0 Bd hZ hh CH0 hS0 CR0 hx hby hml hown hnm X0 e0 hS0d
 obtain ⟨O1, P1, O3f, rG3⟩ := id HG
 have hEL := own_EL hw
 have hSA := own_SA hw
 have N0 := Fr.nil n0
 have C0 : Steps p.tables e below S0 (s₁.setTop (mkF m 0 #[VR t, VI 0, VI 0] [])) := by rw [hS0d]; exact castTop (ef_216 m t (0 : Int32) (0 : Int32)) (Steps.refl _)
 obtain ⟨a_1, T_2, h_3, k1_4, b_5, k_6, X_7, e_8, E_9, S_10, hk_11, hZ_12, ho_13, Ex_14, Fc_15, Fv_16, Va_17, la_18, lb_19, R_20, L_21, Sf_22, st_23⟩ := ldcCH (vm0 := s.vm) X0 hx hZ hown (w124 hw) hSA e0 hS0 (Nat.le_refl _) hEL (by decide) CH0 (vs := []) (z := (0 : Int32)) ⟨by decide, by decide⟩ (by decide) (by decide) (g := (mkF m 4 #[VR t, VI 0, VI 0] [])) rfl (hb hby d18_4) (n := 0) (by decide) (by decide) (by decide) (by decide)
 have CH_24 : CHv Z consts_1 T_2.vm h_3 := R_20.1
 have CR_25 : CHr Z consts_1 s.vm h0 T_2.vm h_3 := CR0.trans R_20
 have C_26 : Steps p.tables e below S0 (T_2.setTop (mkF m 6 #[VR t, VI 0, VI 0] [(.ref a_1)])) := by
  refine C0.trans ?_
  refine XS.iloadN X0.here hx rfl (hb hby d18_0) rfl ?_
  refine XS.ifNo X0.here hx rfl (hb hby d18_1) rfl (by decide) ?_
  refine st_23 _ ?_
  exact Steps.refl _
 have K_27 : Keep h0 h_3 [] := ((Keep.refl _ _).ext E_9)
 obtain ⟨fs, hr, hrun, hended, hRE⟩ := X_7.leaveW S_10 (by rw [show T_2.heap = h_3 from e_8]; exact hk_11) (v := some (.ref a_1)) (fun h => by rw [Bd.returns] at h; cases h)
 refine ⟨_, _, C_26.trans (retOut X_7 hx Bd.returns rfl (Or.inr (Or.inr (Or.inr (Or.inr ⟨rfl, rfl, rfl⟩)))) (hb hby d18_6) hr), hrun, hended, _, _, rfl, ?_, ?_, hRE.1, hRE.2.1, hRE.2.2.1, hRE.2.2.2.mono (by decide) (by decide)⟩
 ·show Q_lns_2_0 Z G1 G3 t kt y0 y1 h0 n0 (some (.ref a_1)) T_2.heap _
  rw [e_8]
  exact ⟨a_1, b_5, k_6, rfl, N0, K_27, Ex_14, Fc_15, Fv_16, Va_17⟩
 ·show CHr Z consts_1 s.vm s.heap T_2.vm T_2.heap
  rw [hh, show T_2.heap = h_3 from e_8]
  exact CR_25.trans (CHv.at X_7 hZ_12 hEL CH_24)
abbrev R_sub_2_0 : Room := { frames := 2, cells := 2, slots := 4, locals := 29 }
def Q_sub_2_0 (Z : State) (G1 : Int32) (G3 : Value) (x : Addr) (t : Addr) (kt : ClassId) (y0 : Int32) (y1 : Int32) (h0 : Heap) (n0 : Nat) (v : Option Value) (h : Heap) (L : List Loc) : Prop := (∃ r : Addr, ∃ u : Addr, ∃ ku : ClassId, v = some (.ref r) ∧ Fr n0 L ∧ Keep h0 h [] ∧ (Exa Z h r "java/lang/String") ∧ (Fld Z h r "java/lang/String" "coder" "B" (.int 0)) ∧ (Fld Z h r "java/lang/String" "value" "[B" (.ref u)) ∧ (Arv Z h u ku .byte (0 : Int32) [] (.int 0)))
theorem rm_sub_2_0 (l : Launch) (Z : State) (a0 : Array Value) (hw : HW Z a0) (ws : List Jvm.Cond) (G1 : Int32) (G3 : Value) (HG : own_G l Z a0 G1 G3) (h0 : Heap) (n0 : Nat) (X00 : Old Z n0 h0) (x : Addr) (t : Addr) (kt : ClassId) (y0 : Int32) (y1 : Int32) (hp0 : Exa Z h0 x "java/lang/String") (hp1 : Fld Z h0 x "java/lang/String" "coder" "B" (.int 0)) (hp2 : Fld Z h0 x "java/lang/String" "value" "[B" (.ref t)) (hp3 : Arv Z h0 t kt .byte (2 : Int32) [(.int y0), (.int y1)] (.int 0)) :
  own_CH l Z M314 jdk_42_method_92_code 5 (some (.object "java/lang/String")) ws R_sub_2_0 #[(.ref x), (.int 0), (.int 0)] h0 (Q_sub_2_0 Z G1 G3 x t kt y0 y1 h0 n0) := by
 refine own_H (plainFor_of_name pn_2) ?_
 intro p e s m below meth c s₁ S0 Bd hZ hh CH0 hS0 CR0 hx hby hml hown hnm X0 e0 hS0d
 obtain ⟨O1, P1, O3f, rG3⟩ := id HG
 have hEL := own_EL hw
 have hSA := own_SA hw
 have N0 := Fr.nil n0
 have C0 : Steps p.tables e below S0 (s₁.setTop (mkF m 0 #[VR x, VI 0, VI 0, .unset, .unset] [])) := by rw [hS0d]; exact castTop (ef_315 m x (0 : Int32) (0 : Int32)) (Steps.refl _)
 obtain ⟨q_2, q_3, q_4, q_5, q_6⟩ := isOf (T := s₁) hZ e0 hp0
 obtain ⟨_, _, ⟨T_1, L_1, k_1, n_1⟩, -, X_1, ⟨Lc_1, hQ_1, l_1, y_1, z_1⟩, st_1⟩ := X0.virtualBack hx (y := M141) (z := M141) hown (mvT hZ (w68 hw)) (mvT hZ (w69 hw)) (notFace_of_selects (args := #[]) (mvT hZ (w71 hw))) (mvT hZ (w71 hw)) (mvT hZ (w70 hw)) (by decide) (backOf (W := 0) (rm_lenany l Z a0 hw [] G1 G3 HG h0 n0 X00 x t kt (2 : Int32) [(.int y0), (.int y1)] hp0 hp1 hp2 hp3) hZ (w72 hw) (w10 hw) (by decide) (by decide)) q_4 q_6 (g := (mkF m 1 #[VR x, VI 0, VI 0, .unset, .unset] [(.ref x)])) rfl (by rw [hml]; rfl) (Steps.refl _) (argsL := []) (rest := []) (lenOf pd_232 rfl) rfl (by show 2 * 0 + _ ≤ _; exact Nat.le_of_eq rfl) (hb hby d17_1) (fun _ _ => ⟨rfl, e0, (by decide : 0 + 0 ≤ _), (by decide : 0 + 0 ≤ _)⟩)
 dsimp only [Pt.U, Pt.locs, Pt.cells, Pt.slots] at X_1 l_1 y_1 z_1 st_1 hQ_1
 subst l_1 y_1 z_1
 obtain ⟨rfl, N_7, e_8⟩ := hQ_1
 have N_9 := Fr.app N0 N_7
 have e_10 : T_1.heap = h0 := e_8
 obtain ⟨_, _, ⟨T_11, L_11, k_11, n_11⟩, -, X_11, ⟨Lc_11, hQ_11, l_11, y_11, z_11⟩, st_11⟩ := Jvm.LawKit.callS X_1 hx (y := M299) hown (mvT hZ (w99 hw)) (mvT hZ (w100 hw)) (mvT hZ (w10 hw)) (mvT hZ (w101 hw)) (by decide) (backOf (W := 0) (rm_cbb l Z a0 hw [] G1 G3 HG h0 n0 X00 (0 : Int32) (0 : Int32) (2 : Int32) (by decide) (by decide) (by decide)) hZ (w101 hw) (w10 hw) (by decide) (by decide)) (g := (mkF m 8 #[VR x, VI 0, VI 0, VI 2, .unset] [(.int 2), (.int 0), (.int 0)])) rfl (by rw [hml]; rfl) (argsL := [(.int 0), (.int 0), (.int 2)]) (rest := []) (lenOf pd_323 rfl) rfl (by show 2 * 0 + _ ≤ _; exact Nat.le_of_eq rfl) (hb hby d17_8) (fun _ _ => ⟨rfl, e_10, (by decide : 0 + 0 ≤ _), (by decide : 0 + 0 ≤ _)⟩)
 dsimp only [Pt.U, Pt.locs, Pt.cells, Pt.slots] at X_11 l_11 y_11 z_11 st_11 hQ_11
 subst l_11 y_11 z_11
 obtain ⟨rfl, N_12, e_13⟩ := hQ_11
 have N_14 := Fr.app N_9 N_12
 have e_15 : T_11.heap = h0 := e_13
 obtain ⟨q_17, q_18, q_19, q_20, q_21⟩ := isOf (T := T_11) hZ e_15 hp0
 obtain ⟨_, _, ⟨T_16, L_16, k_16, n_16⟩, -, X_16, ⟨Lc_16, hQ_16, l_16, y_16, z_16⟩, st_16⟩ := X_11.virtualBack hx (y := M132) (z := M132) hown (mvT hZ (w62 hw)) (mvT hZ (w63 hw)) (notFace_of_selects (args := #[]) (mvT hZ (w65 hw))) (mvT hZ (w65 hw)) (mvT hZ (w64 hw)) (by decide) (backOf (W := 0) (rm_islat l Z a0 hw [] G1 G3 HG h0 n0 X00 x hp1) hZ (w66 hw) (w10 hw) (by decide) (by decide)) q_19 q_21 (g := (mkF m 28 #[VR x, VI 0, VI 0, VI 2, VI 0] [(.ref x)])) rfl (by rw [hml]; rfl) (Steps.refl _) (argsL := []) (rest := []) (lenOf pd_219 rfl) rfl (by show 2 * 0 + _ ≤ _; exact Nat.le_of_eq rfl) (hb hby d17_28) (fun _ _ => ⟨rfl, e_15, (by decide : 0 + 0 ≤ _), (by decide : 0 + 0 ≤ _)⟩)
 dsimp only [Pt.U, Pt.locs, Pt.cells, Pt.slots] at X_16 l_16 y_16 z_16 st_16 hQ_16
 subst l_16 y_16 z_16
 obtain ⟨rfl, N_22, e_23⟩ := hQ_16
 have N_24 := Fr.app N_14 N_22
 have e_25 : T_16.heap = h0 := e_23
 obtain ⟨T_26, X_27, e_28, st_29⟩ := getF X_16 hx hZ hown (host := "") (Or.inl (w28 hw)) Via.refl e_25 hp2 (g := (mkF m 35 #[VR x, VI 0, VI 0, VI 2, VI 0] [(.ref x)])) rfl rfl (hb hby d17_35)
 obtain ⟨_, _, ⟨T_30, L_30, k_30, n_30⟩, -, Y_30, S_30, G_30, ⟨Lc_30, hQ_30, l_30, y_30, z_30, R_30⟩, st_30⟩ := callSS X_27 hx (y := M334) hown (mvT hZ (w121 hw)) (mvT hZ (w122 hw)) (mvT hZ (w80 hw)) (mvT hZ (w123 hw)) (by decide) (backOfSH (vm0 := s.vm) (W := 0) (rm_lns_2_0 l Z a0 hw [] G1 G3 HG h0 n0 X00 t kt y0 y1 hp3) hZ (w123 hw) (w80 hw) (by decide) (by decide) hEL CH0) (g := (mkF m 41 #[VR x, VI 0, VI 0, VI 2, VI 0] [(.int 0), (.int 0), (.ref t)])) rfl (by rw [hml]; rfl) (argsL := [(.ref t), (.int 0), (.int 0)]) (rest := []) (lenOf pd_352 rfl) rfl (by show 2 * 0 + _ ≤ _; exact Nat.le_of_eq rfl) (hb hby d17_41) (fun _ _ => ⟨rfl, e_28, (by decide : 0 + 2 ≤ _), (by decide : 0 + 4 ≤ _)⟩)
 dsimp only [Pt.U, Pt.locs, Pt.cells, Pt.slots] at Y_30 S_30 G_30 l_30 y_30 z_30 st_30 hQ_30 R_30
 subst l_30 y_30 z_30
 obtain ⟨X_30, hS_30, hZ_30, hown_30⟩ := rebS hS0 (n1 := T_26.heap.size) (by rw [show T_26.heap = h0 from e_28]; exact (Nat.le_refl _)) Y_30 S_30 G_30 hZ hown
 obtain ⟨a_31, a_32, k_33, rfl, N_34, K_35, g_36, g_37, g_38, g_39⟩ := hQ_30
 have N_40 := Fr.app N_24 N_34
 have CH_41 : CHv Z consts_1 T_30.vm T_30.heap := R_30.1
 have CR_42 : CHr Z consts_1 s.vm h0 T_30.vm T_30.heap := CR0.trans R_30
 have C_43 : Steps p.tables e below S0 (T_30.setTop (mkF m 57 #[VR x, VI 0, VI 0, VI 2, VI 0] [(.ref a_31)])) := by
  refine C0.trans ?_
  refine XS.aloadN X0.here hx rfl (hb hby d17_0) rfl rfl ?_
  refine st_1.trans ?_
  refine XS.istoreN X_1.here hx rfl (hb hby d17_4) rfl (l' := #[VR x, VI 0, VI 0, VI 2, .unset]) rfl ?_
  refine XS.iloadN X_1.here hx rfl (hb hby d17_5) rfl ?_
  refine XS.iloadN X_1.here hx rfl (hb hby d17_6) rfl ?_
  refine XS.iloadN X_1.here hx rfl (hb hby d17_7) rfl ?_
  refine st_11 _ ?_
  refine XS.iloadN X_11.here hx rfl (hb hby d17_11) rfl ?_
  refine XS.ifNo X_11.here hx rfl (hb hby d17_12) rfl (by decide) ?_
  refine XS.iloadN X_11.here hx rfl (hb hby d17_15) rfl ?_
  refine XS.iloadN X_11.here hx rfl (hb hby d17_16) rfl ?_
  refine XS.icmpYes X_11.here hx rfl (pc0 := 17) (pc' := 22) rfl (hb hby d17_17) rfl (by decide) (by decide) (by decide) ?_
  refine XS.iloadN X_11.here hx rfl (hb hby d17_22) rfl ?_
  refine XS.iloadN X_11.here hx rfl (hb hby d17_23) rfl ?_
  refine XS.isub X_11.here hx rfl (hb hby d17_24) rfl ?_
  refine XS.istore X_11.here hx rfl (hb hby d17_25) rfl (l' := #[VR x, VI 0, VI 0, VI 2, VI 0]) rfl ?_
  show Steps p.tables e below (T_11.setTop (mkF m 27 #[VR x, VI 0, VI 0, VI 2, VI 0] [])) _
  refine XS.aloadN X_11.here hx rfl (hb hby d17_27) rfl rfl ?_
  refine st_16.trans ?_
  refine XS.ifNo X_16.here hx rfl (hb hby d17_31) rfl (by decide) ?_
  refine XS.aloadN X_16.here hx rfl (hb hby d17_34) rfl rfl ?_
  refine st_29 _ ?_
  refine XS.iloadN X_27.here hx rfl (hb hby d17_38) rfl ?_
  refine XS.iload X_27.here hx rfl (hb hby d17_39) rfl ?_
  refine st_30.trans ?_
  refine XS.goto X_30.here hx rfl (pc0 := 44) (pc' := 57) rfl (hb hby d17_44) (by decide) (by decide) ?_
  exact Steps.refl _
 have K_44 : Keep h0 T_30.heap [] := ((Keep.refl _ _).trans K_35 all0)
 obtain ⟨fs, hr, hrun, hended, hRE⟩ := X_30.leaveW hS_30 (by rw [show T_30.heap = T_30.heap from rfl]; exact (Nat.le_refl _)) (v := some (.ref a_31)) (fun h => by rw [Bd.returns] at h; cases h)
 refine ⟨_, _, C_43.trans (retOut X_30 hx Bd.returns rfl (Or.inr (Or.inr (Or.inr (Or.inr ⟨rfl, rfl, rfl⟩)))) (hb hby d17_57) hr), hrun, hended, _, _, rfl, ?_, ?_, hRE.1, hRE.2.1, hRE.2.2.1, hRE.2.2.2.mono (by decide) (by decide)⟩
 ·show Q_sub_2_0 Z G1 G3 x t kt y0 y1 h0 n0 (some (.ref a_31)) T_30.heap _
  exact ⟨a_31, a_32, k_33, rfl, N_40, K_44, g_36, g_37, g_38, g_39⟩
 ·show CHr Z consts_1 s.vm s.heap T_30.vm T_30.heap
  rw [hh]
  exact CR_42.trans (CHv.at X_30 hZ_30 hEL CH_41)
abbrev M358 : MethodName := ⟨"java/util/Arrays", "checkLength", "(II)V"⟩
theorem pn_359 : plainName "java/util/Arrays" = true := by first | (simp [plainName, overriddenIn]; done) | decide +kernel
theorem d19_0 : decode jdk_65_method_131_code 0 = .ok (.iload_n 1, 1) := by decide +kernel
theorem d19_1 : decode jdk_65_method_131_code 1 = .ok (.iload_n 0, 1) := by decide +kernel
theorem d19_2 : decode jdk_65_method_131_code 2 = .ok (.if_icmp .ge 35, 3) := by decide +kernel
theorem d19_37 : decode jdk_65_method_131_code 37 = .ok (.return_, 1) := by decide +kernel
abbrev R_ckl : Room := { frames := 0, cells := 0, slots := 0, locals := 0 }
def Q_ckl (Z : State) (G1 : Int32) (G3 : Value) (a : Int32) (b : Int32) (h0 : Heap) (n0 : Nat) (v : Option Value) (h : Heap) (L : List Loc) : Prop := (v = none ∧ Fr n0 L ∧ h = h0)
theorem rm_ckl (l : Launch) (Z : State) (a0 : Array Value) (hw : HW Z a0) (ws : List Jvm.Cond) (G1 : Int32) (G3 : Value) (HG : own_G l Z a0 G1 G3) (h0 : Heap) (n0 : Nat) (X00 : Old Z n0 h0) (a : Int32) (b : Int32) (h : ¬ (b < a)) :
  own_CP l Z M358 jdk_65_method_131_code 2 none ws R_ckl #[(.int a), (.int b)] h0 (Q_ckl Z G1 G3 a b h0 n0) := by
 refine own_P (plainFor_of_name pn_359) ?_
 intro p e s m below meth c s₁ S0 Bd hZ hh hx hby hml hown hnm X0 e0 hS0d
 obtain ⟨O1, P1, O3f, rG3⟩ := id HG
 have N0 := Fr.nil n0
 have C0 : Steps p.tables e below S0 (s₁.setTop (mkF m 0 #[VI a, VI b] [])) := by rw [hS0d]; exact castTop (ef_167 m a b) (Steps.refl _)
 have C_1 : Steps p.tables e below S0 (s₁.setTop (mkF m 37 #[VI a, VI b] [])) := by
  refine C0.trans ?_
  refine XS.iloadN X0.here hx rfl (hb hby d19_0) rfl ?_
  refine XS.iloadN X0.here hx rfl (hb hby d19_1) rfl ?_
  refine XS.icmpYes X0.here hx rfl (pc0 := 2) (pc' := 37) rfl (hb hby d19_2) rfl (ii_ge_t h) (by decide) (by decide) ?_
  exact Steps.refl _
 obtain ⟨fs, hr, hrun, hended, hW, hsame⟩ := X0.leave (v := none) (fun _ => rfl)
 refine ⟨_, _, C_1.trans (X0.returnOut hx Bd.returns (hb hby d19_37) hr), hrun, hended, _, _, rfl, ?_, ⟨_, rfl⟩, hW, hsame.mono (by decide) (by decide)⟩
 show Q_ckl Z G1 G3 a b h0 n0 (none) s₁.heap _
 rw [e0]
 exact ⟨rfl, N0, rfl⟩
abbrev M364 : MethodName := ⟨"java/util/Arrays", "copyOfRangeByte", "([BII)[B"⟩
theorem d20_0 : decode jdk_65_method_133_code 0 = .ok (.iload_n 1, 1) := by decide +kernel
theorem d20_1 : decode jdk_65_method_133_code 1 = .ok (.iload_n 2, 1) := by decide +kernel
theorem w149 {Z a0} (hw : HW Z a0) : Cond.before (Cond.code (⟨"java/util/Arrays", "checkLength", "(II)V"⟩ : MethodName) jdk_65_method_131_code (2 : Nat) (Option.none : Option FieldType)) a0 Z = true := hw _ (List.mem_of_getElem? (i := 149) rfl)
theorem w142 {Z a0} (hw : HW Z a0) : Cond.before (Cond.initialized "java/util/Arrays") a0 Z = true := hw _ (List.mem_of_getElem? (i := 142) rfl)
theorem pd_369 : parseMethodDescriptor "(II)V" = some ⟨[.int, .int], none⟩ := by decide +kernel
theorem d20_2 : decode jdk_65_method_133_code 2 = .ok (.invokestatic 343, 3) := by decide +kernel
theorem w147 {Z a0} (hw : HW Z a0) : Cond.before (Cond.methodLink "java/util/Arrays" (343 : Nat) (⟨"java/util/Arrays", "checkLength", "(II)V"⟩ : MethodName)) a0 Z = true := hw _ (List.mem_of_getElem? (i := 147) rfl)
theorem w148 {Z a0} (hw : HW Z a0) : Cond.before (Cond.static (⟨"java/util/Arrays", "checkLength", "(II)V"⟩ : MethodName)) a0 Z = true := hw _ (List.mem_of_getElem? (i := 148) rfl)
theorem d20_5 : decode jdk_65_method_133_code 5 = .ok (.iload_n 2, 1) := by decide +kernel
theorem d20_6 : decode jdk_65_method_133_code 6 = .ok (.iload_n 1, 1) := by decide +kernel
theorem d20_7 : decode jdk_65_method_133_code 7 = .ok (.isub, 1) := by decide +kernel
theorem d20_8 : decode jdk_65_method_133_code 8 = .ok (.istore_n 3, 1) := by decide +kernel
theorem d20_9 : decode jdk_65_method_133_code 9 = .ok (.iload_n 3, 1) := by decide +kernel
theorem d20_10 : decode jdk_65_method_133_code 10 = .ok (.newarray .byte, 2) := by decide +kernel
theorem d20_12 : decode jdk_65_method_133_code 12 = .ok (.astore 4, 2) := by decide +kernel
theorem d20_14 : decode jdk_65_method_133_code 14 = .ok (.aload_n 0, 1) := by decide +kernel
theorem d20_15 : decode jdk_65_method_133_code 15 = .ok (.iload_n 1, 1) := by decide +kernel
theorem d20_16 : decode jdk_65_method_133_code 16 = .ok (.aload 4, 2) := by decide +kernel
theorem d20_18 : decode jdk_65_method_133_code 18 = .ok (.iconst 0, 1) := by decide +kernel
theorem d20_19 : decode jdk_65_method_133_code 19 = .ok (.aload_n 0, 1) := by decide +kernel
theorem d20_20 : decode jdk_65_method_133_code 20 = .ok (.arraylength, 1) := by decide +kernel
theorem d20_21 : decode jdk_65_method_133_code 21 = .ok (.iload_n 1, 1) := by decide +kernel
theorem d20_22 : decode jdk_65_method_133_code 22 = .ok (.isub, 1) := by decide +kernel
theorem d20_23 : decode jdk_65_method_133_code 23 = .ok (.iload_n 3, 1) := by decide +kernel
theorem d20_24 : decode jdk_65_method_133_code 24 = .ok (.invokestatic 304, 3) := by decide +kernel
theorem w150 {Z a0} (hw : HW Z a0) : Cond.before (Cond.methodLink "java/util/Arrays" (304 : Nat) (⟨"java/lang/Math", "min", "(II)I"⟩ : MethodName)) a0 Z = true := hw _ (List.mem_of_getElem? (i := 150) rfl)
theorem w151 {Z a0} (hw : HW Z a0) : Cond.before (Cond.methodLink "java/util/Arrays" (150 : Nat) (⟨"java/lang/System", "arraycopy", "(Ljava/lang/Object;ILjava/lang/Object;II)V"⟩ : MethodName)) a0 Z = true := hw _ (List.mem_of_getElem? (i := 151) rfl)
theorem w154 {Z a0} (hw : HW Z a0) : Cond.before (Cond.native (⟨"java/lang/System", "arraycopy", "(Ljava/lang/Object;ILjava/lang/Object;II)V"⟩ : MethodName)) a0 Z = true := hw _ (List.mem_of_getElem? (i := 154) rfl)
theorem w152 {Z a0} (hw : HW Z a0) : Cond.before (Cond.static (⟨"java/lang/System", "arraycopy", "(Ljava/lang/Object;ILjava/lang/Object;II)V"⟩ : MethodName)) a0 Z = true := hw _ (List.mem_of_getElem? (i := 152) rfl)
theorem w153 {Z a0} (hw : HW Z a0) : Cond.before (Cond.initialized "java/lang/System") a0 Z = true := hw _ (List.mem_of_getElem? (i := 153) rfl)
theorem d20_27 : decode jdk_65_method_133_code 27 = .ok (.invokestatic 150, 3) := by decide +kernel
theorem d20_30 : decode jdk_65_method_133_code 30 = .ok (.aload 4, 2) := by decide +kernel
theorem d20_32 : decode jdk_65_method_133_code 32 = .ok (.areturn, 1) := by decide +kernel
abbrev R_crb_2_1 : Room := { frames := 1, cells := 1, slots := 1, locals := 18 }
def Q_crb_2_1 (Z : State) (G1 : Int32) (G3 : Value) (t : Addr) (kt : ClassId) (y0 : Int32) (y1 : Int32) (h0 : Heap) (n0 : Nat) (v : Option Value) (h : Heap) (L : List Loc) : Prop := (∃ u : Addr, ∃ ku : ClassId, v = some (.ref u) ∧ Fr n0 L ∧ Keep h0 h [] ∧ (h0.size ≤ u) ∧ (Arv Z h u ku .byte (1 : Int32) [(.int y0)] (.int 0)))
theorem rm_crb_2_1 (l : Launch) (Z : State) (a0 : Array Value) (hw : HW Z a0) (ws : List Jvm.Cond) (G1 : Int32) (G3 : Value) (HG : own_G l Z a0 G1 G3) (h0 : Heap) (n0 : Nat) (X00 : Old Z n0 h0) (t : Addr) (kt : ClassId) (y0 : Int32) (y1 : Int32) (hp0 : Arv Z h0 t kt .byte (2 : Int32) [(.int y0), (.int y1)] (.int 0)) :
  own_CP l Z M364 jdk_65_method_133_code 5 (some (.array .byte)) ws R_crb_2_1 #[(.ref t), (.int 0), (.int 1)] h0 (Q_crb_2_1 Z G1 G3 t kt y0 y1 h0 n0) := by
 refine own_P (plainFor_of_name pn_359) ?_
 intro p e s m below meth c s₁ S0 Bd hZ hh hx hby hml hown hnm X0 e0 hS0d
 obtain ⟨O1, P1, O3f, rG3⟩ := id HG
 have N0 := Fr.nil n0
 have C0 : Steps p.tables e below S0 (s₁.setTop (mkF m 0 #[VR t, VI 0, VI 1, .unset, .unset] [])) := by rw [hS0d]; exact castTop (ef_315 m t (0 : Int32) (1 : Int32)) (Steps.refl _)
 obtain ⟨_, _, ⟨T_1, L_1, k_1, n_1⟩, -, X_1, ⟨Lc_1, hQ_1, l_1, y_1, z_1⟩, st_1⟩ := Jvm.LawKit.callS X0 hx (y := M358) hown (mvT hZ (w147 hw)) (mvT hZ (w148 hw)) (mvT hZ (w142 hw)) (mvT hZ (w149 hw)) (by decide) (backOf (W := 0) (rm_ckl l Z a0 hw [] G1 G3 HG h0 n0 X00 (0 : Int32) (1 : Int32) (by decide)) hZ (w149 hw) (w142 hw) (by decide) (by decide)) (g := (mkF m 2 #[VR t, VI 0, VI 1, .unset, .unset] [(.int 1), (.int 0)])) rfl (by rw [hml]; rfl) (argsL := [(.int 0), (.int 1)]) (rest := []) (lenOf pd_369 rfl) rfl (by show 2 * 0 + _ ≤ _; exact Nat.le_of_eq rfl) (hb hby d20_2) (fun _ _ => ⟨rfl, e0, (by decide : 0 + 0 ≤ _), (by decide : 0 + 0 ≤ _)⟩)
 dsimp only [Pt.U, Pt.locs, Pt.cells, Pt.slots] at X_1 l_1 y_1 z_1 st_1 hQ_1
 subst l_1 y_1 z_1
 obtain ⟨rfl, N_2, e_3⟩ := hQ_1
 have N_4 := Fr.app N0 N_2
 have e_5 : T_1.heap = h0 := e_3
 obtain ⟨T_6, h_7, k_8, X_9, e_10, E_11, A_12, st_13⟩ := newP (aty := .byte) X_1 hx hZ (w23 hw) e_5 (g := (mkF m 10 #[VR t, VI 0, VI 1, VI 1, .unset] [(.int 1)])) rfl (hb hby d20_10) rfl (by decide : ¬ ((1 : Int32) < (0 : Int32))) (cap := 1) (by decide : (1 : Int32).toNatClampNeg ≤ 1) (by decide) (by decide) (by decide)
 obtain ⟨a_14, g_15⟩ : ∃ z, z = h0.size := ⟨_, rfl⟩
 rw [← g_15] at A_12 st_13
 have V_17 : Arv Z h_7 a_14 k_8 .byte (1 : Int32) [] (.int 0) := Arv.new A_12 (by decide : ¬ ((1 : Int32) < (0 : Int32)))
 have V_16 : Arv Z h_7 a_14 k_8 .byte (1 : Int32) [(.int 0)] (.int 0) := (V_17.pad (pad_rep [] (.int 0) 1))
 have V_18 : Arv Z h_7 t kt .byte (2 : Int32) [(.int y0), (.int y1)] (.int 0) := (hp0.ext E_11)
 obtain ⟨c_19, A_20, q_21, S_22, M_23, H_24, U_25⟩ := id V_18
 have O_26 : Old Z n0 h_7 := (X00.ext E_11)
 obtain ⟨_, _, ⟨T_27, L_27, k_27, n_27⟩, -, X_27, ⟨Lc_27, hQ_27, l_27, y_27, z_27⟩, st_27⟩ := Jvm.LawKit.callS X_9 hx (y := M175) hown (mvT hZ (w150 hw)) (mvT hZ (w90 hw)) (mvT hZ (w87 hw)) (mvT hZ (w91 hw)) (by decide) (backOf (W := 4) (rm_minR l Z a0 hw [] G1 G3 HG h_7 n0 O_26 (2 : Int32) (1 : Int32) (by decide)) hZ (w91 hw) (w87 hw) (by decide) (by decide)) (g := (mkF m 24 #[VR t, VI 0, VI 1, VI 1, VR a_14] [(.int 1), (.int 2), (.int 0), (.ref a_14), (.int 0), (.ref t)])) rfl (by rw [hml]; rfl) (argsL := [(.int 2), (.int 1)]) (rest := [(.int 0), (.ref a_14), (.int 0), (.ref t)]) (lenOf pd_197 rfl) rfl (by show 2 * 0 + _ ≤ _; exact Nat.le_of_eq rfl) (hb hby d20_24) (fun _ _ => ⟨rfl, e_10, (by decide : 1 + 0 ≤ _), (by decide : 1 + 0 ≤ _)⟩)
 dsimp only [Pt.U, Pt.locs, Pt.cells, Pt.slots] at X_27 l_27 y_27 z_27 st_27 hQ_27
 subst l_27 y_27 z_27
 obtain ⟨rfl, N_28, e_29⟩ := hQ_27
 have N_30 := Fr.app N_4 N_28
 have e_31 : T_27.heap = h_7 := e_29
 obtain ⟨T_32, h_33, L_34, X_35, e_36, N_37, K_38, V_39, st_40⟩ := cpA X_27 hx hZ hown (w151 hw) (w154 hw) (w152 hw) (w153 hw) e_31 V_18 V_16 (sp := (0 : Int32)) (dp := (0 : Int32)) (nn := (1 : Int32)) (us := [(.int y0)]) (Or.inl ⟨rfl, rfl⟩) (by decide) (by decide) (by decide) (by decide) (by decide) rfl (Nat.le_of_ble_eq_true rfl) N_30 (Nat.le_trans (own_n0 X00) (Nat.le_of_eq g_15.symm)) (g := (mkF m 27 #[VR t, VI 0, VI 1, VI 1, VR a_14] [(.int 1), (.int 0), (.ref a_14), (.int 0), (.ref t)])) rfl (by rw [hml]; rfl) rfl (hb hby d20_27) (by decide) (W := 0) (by show 2 * 0 + _ ≤ _; exact Nat.le_of_eq rfl) (by decide)
 have V_41 : Arv Z h_33 a_14 k_8 .byte (1 : Int32) [(.int y0)] (.int 0) := V_39
 have C_42 : Steps p.tables e below S0 (T_32.setTop (mkF m 32 #[VR t, VI 0, VI 1, VI 1, VR a_14] [(.ref a_14)])) := by
  refine C0.trans ?_
  refine XS.iloadN X0.here hx rfl (hb hby d20_0) rfl ?_
  refine XS.iloadN X0.here hx rfl (hb hby d20_1) rfl ?_
  refine st_1 _ ?_
  refine XS.iloadN X_1.here hx rfl (hb hby d20_5) rfl ?_
  refine XS.iloadN X_1.here hx rfl (hb hby d20_6) rfl ?_
  refine XS.isub X_1.here hx rfl (hb hby d20_7) rfl ?_
  refine XS.istoreN X_1.here hx rfl (hb hby d20_8) rfl (l' := #[VR t, VI 0, VI 1, VI 1, .unset]) rfl ?_
  refine XS.iloadN X_1.here hx rfl (hb hby d20_9) rfl ?_
  refine st_13 _ ?_
  refine XS.astore X_9.here hx rfl (hb hby d20_12) rfl rfl (l' := #[VR t, VI 0, VI 1, VI 1, VR a_14]) rfl ?_
  refine XS.aloadN X_9.here hx rfl (hb hby d20_14) rfl rfl ?_
  refine XS.iloadN X_9.here hx rfl (hb hby d20_15) rfl ?_
  refine XS.aload X_9.here hx rfl (hb hby d20_16) rfl rfl ?_
  refine XS.iconst X_9.here hx rfl (hb hby d20_18) ?_
  refine XS.aloadN X_9.here hx rfl (hb hby d20_19) rfl rfl ?_
  refine X_9.arraylength hx (by rw [e_10]; exact A_20.1) (State.isArrayOf_alike hZ.alike A_20.2.1) (g := (mkF m 20 #[VR t, VI 0, VI 1, VI 1, VR a_14] [(.ref t), (.int 0), (.ref a_14), (.int 0), (.ref t)])) rfl rfl (hb hby d20_20) _ ?_
  rw [len_of S_22 M_23]
  show Steps p.tables e below (T_6.setTop (mkF m 21 #[VR t, VI 0, VI 1, VI 1, VR a_14] [(.int 2), (.int 0), (.ref a_14), (.int 0), (.ref t)])) _
  refine XS.iloadN X_9.here hx rfl (hb hby d20_21) rfl ?_
  refine XS.isub X_9.here hx rfl (hb hby d20_22) rfl ?_
  refine XS.iloadN X_9.here hx rfl (hb hby d20_23) rfl ?_
  refine st_27 _ ?_
  refine st_40 _ ?_
  refine XS.aload X_35.here hx rfl (hb hby d20_30) rfl rfl ?_
  exact Steps.refl _
 have K_43 : Keep h0 h_33 [] := (((Keep.refl _ _).ext E_11).trans K_38 (allS (Or.inr (Nat.le_trans (Nat.le_refl _) (Nat.le_of_eq g_15.symm))) all0))
 obtain ⟨fs, hr, hrun, hended, hW, hsame⟩ := X_35.leave (v := some (.ref a_14)) (fun h => by rw [Bd.returns] at h; cases h)
 refine ⟨_, _, C_42.trans (retOut X_35 hx Bd.returns rfl (Or.inr (Or.inr (Or.inr (Or.inr ⟨rfl, rfl, rfl⟩)))) (hb hby d20_32) hr), hrun, hended, _, _, rfl, ?_, ⟨_, rfl⟩, hW, hsame.mono (by decide) (by decide)⟩
 show Q_crb_2_1 Z G1 G3 t kt y0 y1 h0 n0 (some (.ref a_14)) T_32.heap _
 rw [e_36]
 exact ⟨a_14, k_8, rfl, N_37, K_43, (Nat.le_trans (Nat.le_refl _) (Nat.le_of_eq g_15.symm)), V_41⟩
abbrev M398 : MethodName := ⟨"java/util/Arrays", "copyOfRange", "([BII)[B"⟩
theorem d21_0 : decode jdk_65_method_132_code 0 = .ok (.iload_n 1, 1) := by decide +kernel
theorem d21_1 : decode jdk_65_method_132_code 1 = .ok (.ifCond .ne 9, 3) := by decide +kernel
theorem d21_4 : decode jdk_65_method_132_code 4 = .ok (.iload_n 2, 1) := by decide +kernel
theorem d21_5 : decode jdk_65_method_132_code 5 = .ok (.aload_n 0, 1) := by decide +kernel
theorem d21_6 : decode jdk_65_method_132_code 6 = .ok (.arraylength, 1) := by decide +kernel
theorem d21_7 : decode jdk_65_method_132_code 7 = .ok (.if_icmp .eq 10, 3) := by decide +kernel
theorem d21_10 : decode jdk_65_method_132_code 10 = .ok (.aload_n 0, 1) := by decide +kernel
theorem d21_11 : decode jdk_65_method_132_code 11 = .ok (.iload_n 1, 1) := by decide +kernel
theorem d21_12 : decode jdk_65_method_132_code 12 = .ok (.iload_n 2, 1) := by decide +kernel
theorem w146 {Z a0} (hw : HW Z a0) : Cond.before (Cond.code (⟨"java/util/Arrays", "copyOfRangeByte", "([BII)[B"⟩ : MethodName) jdk_65_method_133_code (5 : Nat) (Option.some (FieldType.array FieldType.byte))) a0 Z = true := hw _ (List.mem_of_getElem? (i := 146) rfl)
theorem pd_409 : parseMethodDescriptor "([BII)[B" = some ⟨[(.array .byte), .int, .int], some (.array .byte)⟩ := by decide +kernel
theorem d21_13 : decode jdk_65_method_132_code 13 = .ok (.invokestatic 339, 3) := by decide +kernel
theorem w144 {Z a0} (hw : HW Z a0) : Cond.before (Cond.methodLink "java/util/Arrays" (339 : Nat) (⟨"java/util/Arrays", "copyOfRangeByte", "([BII)[B"⟩ : MethodName)) a0 Z = true := hw _ (List.mem_of_getElem? (i := 144) rfl)
theorem w145 {Z a0} (hw : HW Z a0) : Cond.before (Cond.static (⟨"java/util/Arrays", "copyOfRangeByte", "([BII)[B"⟩ : MethodName)) a0 Z = true := hw _ (List.mem_of_getElem? (i := 145) rfl)
theorem d21_16 : decode jdk_65_method_132_code 16 = .ok (.areturn, 1) := by decide +kernel
abbrev R_cr_2_1 : Room := { frames := 2, cells := 1, slots := 1, locals := 34 }
def Q_cr_2_1 (Z : State) (G1 : Int32) (G3 : Value) (t : Addr) (kt : ClassId) (y0 : Int32) (y1 : Int32) (h0 : Heap) (n0 : Nat) (v : Option Value) (h : Heap) (L : List Loc) : Prop := (∃ u : Addr, ∃ ku : ClassId, v = some (.ref u) ∧ Fr n0 L ∧ Keep h0 h [] ∧ (h0.size ≤ u) ∧ (Arv Z h u ku .byte (1 : Int32) [(.int y0)] (.int 0)))
theorem rm_cr_2_1 (l : Launch) (Z : State) (a0 : Array Value) (hw : HW Z a0) (ws : List Jvm.Cond) (G1 : Int32) (G3 : Value) (HG : own_G l Z a0 G1 G3) (h0 : Heap) (n0 : Nat) (X00 : Old Z n0 h0) (t : Addr) (kt : ClassId) (y0 : Int32) (y1 : Int32) (hp0 : Arv Z h0 t kt .byte (2 : Int32) [(.int y0), (.int y1)] (.int 0)) :
  own_CP l Z M398 jdk_65_method_132_code 3 (some (.array .byte)) ws R_cr_2_1 #[(.ref t), (.int 0), (.int 1)] h0 (Q_cr_2_1 Z G1 G3 t kt y0 y1 h0 n0) := by
 refine own_P (plainFor_of_name pn_359) ?_
 intro p e s m below meth c s₁ S0 Bd hZ hh hx hby hml hown hnm X0 e0 hS0d
 obtain ⟨O1, P1, O3f, rG3⟩ := id HG
 have N0 := Fr.nil n0
 have C0 : Steps p.tables e below S0 (s₁.setTop (mkF m 0 #[VR t, VI 0, VI 1] [])) := by rw [hS0d]; exact castTop (ef_216 m t (0 : Int32) (1 : Int32)) (Steps.refl _)
 obtain ⟨c_1, A_2, q_3, S_4, M_5, H_6, U_7⟩ := id hp0
 obtain ⟨_, _, ⟨T_8, L_8, k_8, n_8⟩, -, X_8, ⟨Lc_8, hQ_8, l_8, y_8, z_8⟩, st_8⟩ := Jvm.LawKit.callS X0 hx (y := M364) hown (mvT hZ (w144 hw)) (mvT hZ (w145 hw)) (mvT hZ (w142 hw)) (mvT hZ (w146 hw)) (by decide) (backOf (W := 0) (rm_crb_2_1 l Z a0 hw [] G1 G3 HG h0 n0 X00 t kt y0 y1 hp0) hZ (w146 hw) (w142 hw) (by decide) (by decide)) (g := (mkF m 13 #[VR t, VI 0, VI 1] [(.int 1), (.int 0), (.ref t)])) rfl (by rw [hml]; rfl) (argsL := [(.ref t), (.int 0), (.int 1)]) (rest := []) (lenOf pd_409 rfl) rfl (by show 2 * 0 + _ ≤ _; exact Nat.le_of_eq rfl) (hb hby d21_13) (fun _ _ => ⟨rfl, e0, (by decide : 0 + 1 ≤ _), (by decide : 0 + 1 ≤ _)⟩)
 dsimp only [Pt.U, Pt.locs, Pt.cells, Pt.slots] at X_8 l_8 y_8 z_8 st_8 hQ_8
 subst l_8 y_8 z_8
 obtain ⟨a_9, k_10, rfl, N_11, K_12, g_13, g_14⟩ := hQ_8
 have N_15 := Fr.app N0 N_11
 have C_16 : Steps p.tables e below S0 (T_8.setTop (mkF m 16 #[VR t, VI 0, VI 1] [(.ref a_9)])) := by
  refine C0.trans ?_
  refine XS.iloadN X0.here hx rfl (hb hby d21_0) rfl ?_
  refine XS.ifNo X0.here hx rfl (hb hby d21_1) rfl (by decide) ?_
  refine XS.iloadN X0.here hx rfl (hb hby d21_4) rfl ?_
  refine XS.aloadN X0.here hx rfl (hb hby d21_5) rfl rfl ?_
  refine X0.arraylength hx (by rw [e0]; exact A_2.1) (State.isArrayOf_alike hZ.alike A_2.2.1) (g := (mkF m 6 #[VR t, VI 0, VI 1] [(.ref t), (.int 1)])) rfl rfl (hb hby d21_6) _ ?_
  rw [len_of S_4 M_5]
  refine XS.icmpNo X0.here hx rfl (hb hby d21_7) rfl (by decide) ?_
  refine XS.aloadN X0.here hx rfl (hb hby d21_10) rfl rfl ?_
  refine XS.iloadN X0.here hx rfl (hb hby d21_11) rfl ?_
  refine XS.iloadN X0.here hx rfl (hb hby d21_12) rfl ?_
  refine st_8 _ ?_
  exact Steps.refl _
 have K_17 : Keep h0 T_8.heap [] := ((Keep.refl _ _).trans K_12 all0)
 obtain ⟨fs, hr, hrun, hended, hW, hsame⟩ := X_8.leave (v := some (.ref a_9)) (fun h => by rw [Bd.returns] at h; cases h)
 refine ⟨_, _, C_16.trans (retOut X_8 hx Bd.returns rfl (Or.inr (Or.inr (Or.inr (Or.inr ⟨rfl, rfl, rfl⟩)))) (hb hby d21_16) hr), hrun, hended, _, _, rfl, ?_, ⟨_, rfl⟩, hW, hsame.mono (by decide) (by decide)⟩
 show Q_cr_2_1 Z G1 G3 t kt y0 y1 h0 n0 (some (.ref a_9)) T_8.heap _
 exact ⟨a_9, k_10, rfl, N_15, K_17, (Nat.le_trans (Nat.le_refl _) g_13), g_14⟩
abbrev M414 : MethodName := ⟨"java/lang/String", "<init>", "([BB)V"⟩
theorem ef_415 (m : MethodId) (x0 : Addr) (x1 : Addr) (x2 : Int32) : entryFrame m #[(.ref x0), (.ref x1), (.int x2)] 3 = mkF m 0 #[VR x0, VR x1, VI x2] [] := by first | (simp [entryFrame, mkF, argsToLocals, Value.category]; done) | rfl
theorem d22_0 : decode jdk_42_method_151_code 0 = .ok (.aload_n 0, 1) := by decide +kernel
theorem d22_1 : decode jdk_42_method_151_code 1 = .ok (.invokespecial 1, 3) := by decide +kernel
theorem d22_4 : decode jdk_42_method_151_code 4 = .ok (.aload_n 0, 1) := by decide +kernel
theorem d22_5 : decode jdk_42_method_151_code 5 = .ok (.aload_n 1, 1) := by decide +kernel
theorem d22_6 : decode jdk_42_method_151_code 6 = .ok (.putfield 9, 3) := by decide +kernel
theorem d22_9 : decode jdk_42_method_151_code 9 = .ok (.aload_n 0, 1) := by decide +kernel
theorem d22_10 : decode jdk_42_method_151_code 10 = .ok (.iload_n 2, 1) := by decide +kernel
theorem d22_11 : decode jdk_42_method_151_code 11 = .ok (.putfield 15, 3) := by decide +kernel
theorem d22_14 : decode jdk_42_method_151_code 14 = .ok (.return_, 1) := by decide +kernel
abbrev R_sbb_0 : Room := { frames := 1, cells := 0, slots := 0, locals := 12 }
def Q_sbb_0 (Z : State) (G1 : Int32) (G3 : Value) (x : Addr) (t : Addr) (h0 : Heap) (n0 : Nat) (v : Option Value) (h : Heap) (L : List Loc) : Prop := (v = none ∧ Fr n0 L ∧ Keep h0 h [x] ∧ (Exa Z h x "java/lang/String") ∧ (Fld Z h x "java/lang/String" "coder" "B" (.int 0)) ∧ (Fld Z h x "java/lang/String" "value" "[B" (.ref t)))
theorem rm_sbb_0 (l : Launch) (Z : State) (a0 : Array Value) (hw : HW Z a0) (ws : List Jvm.Cond) (G1 : Int32) (G3 : Value) (HG : own_G l Z a0 G1 G3) (h0 : Heap) (n0 : Nat) (X00 : Old Z n0 h0) (x : Addr) (t : Addr) (hp0 : Exa Z h0 x "java/lang/String") (hp1 : Fld Z h0 x "java/lang/String" "value" "[B" .null) (hp2 : Fld Z h0 x "java/lang/String" "coder" "B" (.int 0)) (hp3 : n0 ≤ x) :
  own_CP l Z M414 jdk_42_method_151_code 3 none ws R_sbb_0 #[(.ref x), (.ref t), (.int 0)] h0 (Q_sbb_0 Z G1 G3 x t h0 n0) := by
 refine own_P (plainFor_of_name pn_2) ?_
 intro p e s m below meth c s₁ S0 Bd hZ hh hx hby hml hown hnm X0 e0 hS0d
 obtain ⟨O1, P1, O3f, rG3⟩ := id HG
 have N0 := Fr.nil n0
 have C0 : Steps p.tables e below S0 (s₁.setTop (mkF m 0 #[VR x, VR t, VI 0] [])) := by rw [hS0d]; exact castTop (ef_415 m x t (0 : Int32)) (Steps.refl _)
 obtain ⟨T_1, X_2, e_3, st_4⟩ := initO X0 hx hZ hown (w19 hw) (w20 hw) (w21 hw) e0 (g := (mkF m 1 #[VR x, VR t, VI 0] [(.ref x)])) rfl (by rw [hml]; rfl) rfl (hb hby d22_1) (by decide) (W := 0) (by show 2 * 0 + _ ≤ _; exact Nat.le_of_eq rfl) (by decide)
 obtain ⟨T_5, h_6, X_7, e_8, W_9, st_10⟩ := putF X_2 hx hZ hown (host := "") (Or.inl (w28 hw)) Via.refl e_3 hp1 hp0 (Or.inr ⟨(w24 hw), rfl, hnm⟩) (w9 hw) (ty := (.array .byte)) (by decide) rfl rfl (g := (mkF m 6 #[VR x, VR t, VI 0] [(.ref t), (.ref x)])) rfl rfl (hb hby d22_6)
 have N_11 := Fr.snoc X_7 N0 hp3
 have F_12 : Fld Z h_6 x "java/lang/String" "value" "[B" (.ref t) := hp1.same W_9
 have F_13 : Fld Z h_6 x "java/lang/String" "coder" "B" (.int 0) := (hp2.other W_9 (Or.inr (slot_ne (Or.inr (w25 hw)) (Or.inr (w24 hw)) (by decide) (t := .byte) (by decide) (t' := (.array .byte)) (by decide))))
 have E_14 : Exa Z h_6 x "java/lang/String" := (hp0.wr W_9)
 obtain ⟨T_15, h_16, X_17, e_18, W_19, st_20⟩ := putF X_7 hx hZ hown (host := "") (Or.inl (w29 hw)) Via.refl e_8 F_13 E_14 (Or.inr ⟨(w25 hw), rfl, hnm⟩) (w9 hw) (ty := .byte) (by decide) rfl (by decide) (g := (mkF m 11 #[VR x, VR t, VI 0] [(.int 0), (.ref x)])) rfl rfl (hb hby d22_11)
 have N_21 := Fr.snoc X_17 N_11 hp3
 have F_22 : Fld Z h_16 x "java/lang/String" "coder" "B" (.int 0) := F_13.same W_19
 have C_23 : Steps p.tables e below S0 (T_15.setTop (mkF m 14 #[VR x, VR t, VI 0] [])) := by
  refine C0.trans ?_
  refine XS.aloadN X0.here hx rfl (hb hby d22_0) rfl rfl ?_
  refine st_4 _ ?_
  refine XS.aloadN X_2.here hx rfl (hb hby d22_4) rfl rfl ?_
  refine XS.aloadN X_2.here hx rfl (hb hby d22_5) rfl rfl ?_
  refine st_10 _ ?_
  refine XS.aloadN X_7.here hx rfl (hb hby d22_9) rfl rfl ?_
  refine XS.iloadN X_7.here hx rfl (hb hby d22_10) rfl ?_
  refine st_20 _ ?_
  exact Steps.refl _
 have E_24 : Exa Z h_16 x "java/lang/String" := (E_14.wr W_19)
 have F_25 : Fld Z h_16 x "java/lang/String" "value" "[B" (.ref t) := (F_12.other W_19 (Or.inr (slot_ne (Or.inr (w24 hw)) (Or.inr (w25 hw)) (by decide) (t := (.array .byte)) (by decide) (t' := .byte) (by decide))))
 have K_26 : Keep h0 h_16 [x] := (((Keep.refl _ _).wr W_9 (Or.inl (List.mem_of_getElem? (i := 0) rfl))).wr W_19 (Or.inl (List.mem_of_getElem? (i := 0) rfl)))
 obtain ⟨fs, hr, hrun, hended, hW, hsame⟩ := X_17.leave (v := none) (fun _ => rfl)
 refine ⟨_, _, C_23.trans (X_17.returnOut hx Bd.returns (hb hby d22_14) hr), hrun, hended, _, _, rfl, ?_, ⟨_, rfl⟩, hW, hsame.mono (by decide) (by decide)⟩
 show Q_sbb_0 Z G1 G3 x t h0 n0 (none) T_15.heap _
 rw [e_18]
 exact ⟨rfl, N_21, K_26, E_24, F_22, F_25⟩
theorem w139 {Z a0} (hw : HW Z a0) : Cond.before (Cond.classLink "java/lang/StringLatin1" (1 : Nat) "java/lang/String") a0 Z = true := hw _ (List.mem_of_getElem? (i := 139) rfl)
theorem d18_7 : decode jdk_43_method_47_code 7 = .ok (.new 1, 3) := by decide +kernel
theorem d18_10 : decode jdk_43_method_47_code 10 = .ok (.dup, 1) := by decide +kernel
theorem d18_11 : decode jdk_43_method_47_code 11 = .ok (.aload_n 0, 1) := by decide +kernel
theorem d18_12 : decode jdk_43_method_47_code 12 = .ok (.iload_n 1, 1) := by decide +kernel
theorem d18_13 : decode jdk_43_method_47_code 13 = .ok (.iload_n 1, 1) := by decide +kernel
theorem d18_14 : decode jdk_43_method_47_code 14 = .ok (.iload_n 2, 1) := by decide +kernel
theorem d18_15 : decode jdk_43_method_47_code 15 = .ok (.iadd, 1) := by decide +kernel
theorem w143 {Z a0} (hw : HW Z a0) : Cond.before (Cond.code (⟨"java/util/Arrays", "copyOfRange", "([BII)[B"⟩ : MethodName) jdk_65_method_132_code (3 : Nat) (Option.some (FieldType.array FieldType.byte))) a0 Z = true := hw _ (List.mem_of_getElem? (i := 143) rfl)
theorem d18_16 : decode jdk_43_method_47_code 16 = .ok (.invokestatic 232, 3) := by decide +kernel
theorem w140 {Z a0} (hw : HW Z a0) : Cond.before (Cond.methodLink "java/lang/StringLatin1" (232 : Nat) (⟨"java/util/Arrays", "copyOfRange", "([BII)[B"⟩ : MethodName)) a0 Z = true := hw _ (List.mem_of_getElem? (i := 140) rfl)
theorem w141 {Z a0} (hw : HW Z a0) : Cond.before (Cond.static (⟨"java/util/Arrays", "copyOfRange", "([BII)[B"⟩ : MethodName)) a0 Z = true := hw _ (List.mem_of_getElem? (i := 141) rfl)
theorem d18_19 : decode jdk_43_method_47_code 19 = .ok (.iconst 0, 1) := by decide +kernel
theorem w157 {Z a0} (hw : HW Z a0) : Cond.before (Cond.code (⟨"java/lang/String", "<init>", "([BB)V"⟩ : MethodName) jdk_42_method_151_code (3 : Nat) (Option.none : Option FieldType)) a0 Z = true := hw _ (List.mem_of_getElem? (i := 157) rfl)
theorem pd_439 : parseMethodDescriptor "([BB)V" = some ⟨[(.array .byte), .byte], none⟩ := by decide +kernel
theorem d18_20 : decode jdk_43_method_47_code 20 = .ok (.invokespecial 112, 3) := by decide +kernel
theorem w155 {Z a0} (hw : HW Z a0) : Cond.before (Cond.methodLink "java/lang/StringLatin1" (112 : Nat) (⟨"java/lang/String", "<init>", "([BB)V"⟩ : MethodName)) a0 Z = true := hw _ (List.mem_of_getElem? (i := 155) rfl)
theorem w156 {Z a0} (hw : HW Z a0) : Cond.before (Cond.instanceMethod (⟨"java/lang/String", "<init>", "([BB)V"⟩ : MethodName)) a0 Z = true := hw _ (List.mem_of_getElem? (i := 156) rfl)
theorem d18_23 : decode jdk_43_method_47_code 23 = .ok (.areturn, 1) := by decide +kernel
abbrev R_lns_2_1 : Room := { frames := 3, cells := 2, slots := 5, locals := 50 }
def Q_lns_2_1 (Z : State) (G1 : Int32) (G3 : Value) (t : Addr) (kt : ClassId) (y0 : Int32) (y1 : Int32) (h0 : Heap) (n0 : Nat) (v : Option Value) (h : Heap) (L : List Loc) : Prop := (∃ r : Addr, ∃ u : Addr, ∃ ku : ClassId, v = some (.ref r) ∧ Fr n0 L ∧ Keep h0 h [] ∧ (Exa Z h r "java/lang/String") ∧ (Fld Z h r "java/lang/String" "coder" "B" (.int 0)) ∧ (Fld Z h r "java/lang/String" "value" "[B" (.ref u)) ∧ (Arv Z h u ku .byte (1 : Int32) [(.int y0)] (.int 0)))
theorem rm_lns_2_1 (l : Launch) (Z : State) (a0 : Array Value) (hw : HW Z a0) (ws : List Jvm.Cond) (G1 : Int32) (G3 : Value) (HG : own_G l Z a0 G1 G3) (h0 : Heap) (n0 : Nat) (X00 : Old Z n0 h0) (t : Addr) (kt : ClassId) (y0 : Int32) (y1 : Int32) (hp0 : Arv Z h0 t kt .byte (2 : Int32) [(.int y0), (.int y1)] (.int 0)) :
  own_CP l Z M334 jdk_43_method_47_code 3 (some (.object "java/lang/String")) ws R_lns_2_1 #[(.ref t), (.int 0), (.int 1)] h0 (Q_lns_2_1 Z G1 G3 t kt y0 y1 h0 n0) := by
 refine own_P (plainFor_of_name pn_157) ?_
 intro p e s m below meth c s₁ S0 Bd hZ hh hx hby hml hown hnm X0 e0 hS0d
 obtain ⟨O1, P1, O3f, rG3⟩ := id HG
 have N0 := Fr.nil n0
 have C0 : Steps p.tables e below S0 (s₁.setTop (mkF m 0 #[VR t, VI 0, VI 1] [])) := by rw [hS0d]; exact castTop (ef_216 m t (0 : Int32) (1 : Int32)) (Steps.refl _)
 obtain ⟨T_1, h_2, X_3, e_4, E_5, A_6, D_7, U_11, st_8⟩ := newO X0 hx hZ hown (w139 hw) (w9 hw) (w10 hw) e0 (g := (mkF m 7 #[VR t, VI 0, VI 1] [])) rfl (hb hby d18_7) (by decide) (by decide)
 obtain ⟨a_9, g_10⟩ : ∃ z, z = h0.size := ⟨_, rfl⟩
 rw [← g_10] at A_6 D_7 st_8 U_11
 have V_12 : Arv Z h_2 t kt .byte (2 : Int32) [(.int y0), (.int y1)] (.int 0) := (hp0.ext E_5)
 have O_13 : Old Z n0 h_2 := (X00.ext E_5)
 obtain ⟨_, _, ⟨T_14, L_14, k_14, n_14⟩, -, X_14, ⟨Lc_14, hQ_14, l_14, y_14, z_14⟩, st_14⟩ := Jvm.LawKit.callS X_3 hx (y := M398) hown (mvT hZ (w140 hw)) (mvT hZ (w141 hw)) (mvT hZ (w142 hw)) (mvT hZ (w143 hw)) (by decide) (backOf (W := 2) (rm_cr_2_1 l Z a0 hw [] G1 G3 HG h_2 n0 O_13 t kt y0 y1 V_12) hZ (w143 hw) (w142 hw) (by decide) (by decide)) (g := (mkF m 16 #[VR t, VI 0, VI 1] [(.int 1), (.int 0), (.ref t), (.ref a_9), (.ref a_9)])) rfl (by rw [hml]; rfl) (argsL := [(.ref t), (.int 0), (.int 1)]) (rest := [(.ref a_9), (.ref a_9)]) (lenOf pd_409 rfl) rfl (by show 2 * 0 + _ ≤ _; exact Nat.le_of_eq rfl) (hb hby d18_16) (fun _ _ => ⟨rfl, e_4, (by decide : 1 + 1 ≤ _), (by decide : 4 + 1 ≤ _)⟩)
 dsimp only [Pt.U, Pt.locs, Pt.cells, Pt.slots] at X_14 l_14 y_14 z_14 st_14 hQ_14
 subst l_14 y_14 z_14
 obtain ⟨a_15, k_16, rfl, N_17, K_18, g_19, g_20⟩ := hQ_14
 have N_21 := Fr.app N0 N_17
 have E_22 : Exa Z T_14.heap a_9 "java/lang/String" := (A_6.keep K_18)
 have F_23 : Fld Z T_14.heap a_9 "java/lang/String" "value" "[B" .null := ((D_7 (Or.inr (w24 hw)) (ty := (.array .byte)) (by decide)).keep K_18 nin0)
 have F_24 : Fld Z T_14.heap a_9 "java/lang/String" "coder" "B" (.int 0) := ((D_7 (Or.inr (w25 hw)) (ty := .byte) (by decide)).keep K_18 nin0)
 have O_25 : Old Z n0 T_14.heap := (O_13.keep K_18 all0)
 obtain ⟨_, _, ⟨T_26, L_26, k_26, n_26⟩, -, X_26, ⟨Lc_26, hQ_26, l_26, y_26, z_26⟩, st_26⟩ := X_14.specialBack hx (y := M414) rfl hown (mvT hZ (w155 hw)) (mvT hZ (w156 hw)) (mvT hZ (w157 hw)) (by decide) (backOf (W := 1) (rm_sbb_0 l Z a0 hw [] G1 G3 HG T_14.heap n0 O_25 a_9 a_15 E_22 F_23 F_24 (Nat.le_trans (own_n0 X00) (Nat.le_of_eq g_10.symm))) hZ (w157 hw) (w10 hw) (by decide) (by decide)) (g := (mkF m 20 #[VR t, VI 0, VI 1] [(.int 0), (.ref a_15), (.ref a_9), (.ref a_9)])) rfl (by rw [hml]; rfl) (Steps.refl _) (a := a_9) (argsL := [(.ref a_15), (.int 0)]) (rest := [(.ref a_9)]) (lenOf pd_439 rfl) rfl (by show 2 * 0 + _ ≤ _; exact Nat.le_of_eq rfl) (hb hby d18_20) (fun _ _ => ⟨rfl, rfl, (by decide : 2 + 0 ≤ _), (by decide : 5 + 0 ≤ _)⟩)
 dsimp only [Pt.U, Pt.locs, Pt.cells, Pt.slots] at X_26 l_26 y_26 z_26 st_26 hQ_26
 subst l_26 y_26 z_26
 obtain ⟨rfl, N_27, K_28, g_29, g_30, g_31⟩ := hQ_26
 have N_32 := Fr.app N_21 N_27
 have C_33 : Steps p.tables e below S0 (T_26.setTop (mkF m 23 #[VR t, VI 0, VI 1] [(.ref a_9)])) := by
  refine C0.trans ?_
  refine XS.iloadN X0.here hx rfl (hb hby d18_0) rfl ?_
  refine XS.ifYes X0.here hx rfl (pc0 := 1) (pc' := 7) rfl (hb hby d18_1) rfl (by decide) (by decide) (by decide) ?_
  refine st_8 _ ?_
  refine XS.dup X_3.here hx rfl (hb hby d18_10) rfl rfl ?_
  refine XS.aloadN X_3.here hx rfl (hb hby d18_11) rfl rfl ?_
  refine XS.iloadN X_3.here hx rfl (hb hby d18_12) rfl ?_
  refine XS.iloadN X_3.here hx rfl (hb hby d18_13) rfl ?_
  refine XS.iloadN X_3.here hx rfl (hb hby d18_14) rfl ?_
  refine XS.iadd X_3.here hx rfl (hb hby d18_15) rfl ?_
  refine st_14 _ ?_
  refine XS.iconst X_14.here hx rfl (hb hby d18_19) ?_
  refine st_26.trans ?_
  exact Steps.refl _
 have V_34 : Arv Z T_26.heap a_15 k_16 .byte (1 : Int32) [(.int y0)] (.int 0) := (g_20.keep K_28 (ninS (Ne.symm (Nat.ne_of_lt (Nat.lt_of_lt_of_le A_6.lt (Nat.le_trans (Nat.le_refl _) g_19)))) nin0))
 have K_35 : Keep h0 T_26.heap [] := ((((Keep.refl _ _).ext E_5).trans K_18 all0).trans K_28 (allS (Or.inr (Nat.le_trans (Nat.le_refl _) (Nat.le_of_eq g_10.symm))) all0))
 obtain ⟨fs, hr, hrun, hended, hW, hsame⟩ := X_26.leave (v := some (.ref a_9)) (fun h => by rw [Bd.returns] at h; cases h)
 refine ⟨_, _, C_33.trans (retOut X_26 hx Bd.returns rfl (Or.inr (Or.inr (Or.inr (Or.inr ⟨rfl, rfl, rfl⟩)))) (hb hby d18_23) hr), hrun, hended, _, _, rfl, ?_, ⟨_, rfl⟩, hW, hsame.mono (by decide) (by decide)⟩
 show Q_lns_2_1 Z G1 G3 t kt y0 y1 h0 n0 (some (.ref a_9)) T_26.heap _
 exact ⟨a_9, a_15, k_16, rfl, N_32, K_35, g_29, g_30, g_31, V_34⟩
abbrev R_sub_2_1 : Room := { frames := 4, cells := 2, slots := 5, locals := 64 }
def Q_sub_2_1 (Z : State) (G1 : Int32) (G3 : Value) (x : Addr) (t : Addr) (kt : ClassId) (y0 : Int32) (y1 : Int32) (h0 : Heap) (n0 : Nat) (v : Option Value) (h : Heap) (L : List Loc) : Prop := (∃ r : Addr, ∃ u : Addr, ∃ ku : ClassId, v = some (.ref r) ∧ Fr n0 L ∧ Keep h0 h [] ∧ (Exa Z h r "java/lang/String") ∧ (Fld Z h r "java/lang/String" "coder" "B" (.int 0)) ∧ (Fld Z h r "java/lang/String" "value" "[B" (.ref u)) ∧ (Arv Z h u ku .byte (1 : Int32) [(.int y0)] (.int 0)))
theorem rm_sub_2_1 (l : Launch) (Z : State) (a0 : Array Value) (hw : HW Z a0) (ws : List Jvm.Cond) (G1 : Int32) (G3 : Value) (HG : own_G l Z a0 G1 G3) (h0 : Heap) (n0 : Nat) (X00 : Old Z n0 h0) (x : Addr) (t : Addr) (kt : ClassId) (y0 : Int32) (y1 : Int32) (hp0 : Exa Z h0 x "java/lang/String") (hp1 : Fld Z h0 x "java/lang/String" "coder" "B" (.int 0)) (hp2 : Fld Z h0 x "java/lang/String" "value" "[B" (.ref t)) (hp3 : Arv Z h0 t kt .byte (2 : Int32) [(.int y0), (.int y1)] (.int 0)) :
  own_CP l Z M314 jdk_42_method_92_code 5 (some (.object "java/lang/String")) ws R_sub_2_1 #[(.ref x), (.int 0), (.int 1)] h0 (Q_sub_2_1 Z G1 G3 x t kt y0 y1 h0 n0) := by
 refine own_P (plainFor_of_name pn_2) ?_
 intro p e s m below meth c s₁ S0 Bd hZ hh hx hby hml hown hnm X0 e0 hS0d
 obtain ⟨O1, P1, O3f, rG3⟩ := id HG
 have N0 := Fr.nil n0
 have C0 : Steps p.tables e below S0 (s₁.setTop (mkF m 0 #[VR x, VI 0, VI 1, .unset, .unset] [])) := by rw [hS0d]; exact castTop (ef_315 m x (0 : Int32) (1 : Int32)) (Steps.refl _)
 obtain ⟨q_2, q_3, q_4, q_5, q_6⟩ := isOf (T := s₁) hZ e0 hp0
 obtain ⟨_, _, ⟨T_1, L_1, k_1, n_1⟩, -, X_1, ⟨Lc_1, hQ_1, l_1, y_1, z_1⟩, st_1⟩ := X0.virtualBack hx (y := M141) (z := M141) hown (mvT hZ (w68 hw)) (mvT hZ (w69 hw)) (notFace_of_selects (args := #[]) (mvT hZ (w71 hw))) (mvT hZ (w71 hw)) (mvT hZ (w70 hw)) (by decide) (backOf (W := 0) (rm_lenany l Z a0 hw [] G1 G3 HG h0 n0 X00 x t kt (2 : Int32) [(.int y0), (.int y1)] hp0 hp1 hp2 hp3) hZ (w72 hw) (w10 hw) (by decide) (by decide)) q_4 q_6 (g := (mkF m 1 #[VR x, VI 0, VI 1, .unset, .unset] [(.ref x)])) rfl (by rw [hml]; rfl) (Steps.refl _) (argsL := []) (rest := []) (lenOf pd_232 rfl) rfl (by show 2 * 0 + _ ≤ _; exact Nat.le_of_eq rfl) (hb hby d17_1) (fun _ _ => ⟨rfl, e0, (by decide : 0 + 0 ≤ _), (by decide : 0 + 0 ≤ _)⟩)
 dsimp only [Pt.U, Pt.locs, Pt.cells, Pt.slots] at X_1 l_1 y_1 z_1 st_1 hQ_1
 subst l_1 y_1 z_1
 obtain ⟨rfl, N_7, e_8⟩ := hQ_1
 have N_9 := Fr.app N0 N_7
 have e_10 : T_1.heap = h0 := e_8
 obtain ⟨_, _, ⟨T_11, L_11, k_11, n_11⟩, -, X_11, ⟨Lc_11, hQ_11, l_11, y_11, z_11⟩, st_11⟩ := Jvm.LawKit.callS X_1 hx (y := M299) hown (mvT hZ (w99 hw)) (mvT hZ (w100 hw)) (mvT hZ (w10 hw)) (mvT hZ (w101 hw)) (by decide) (backOf (W := 0) (rm_cbb l Z a0 hw [] G1 G3 HG h0 n0 X00 (0 : Int32) (1 : Int32) (2 : Int32) (by decide) (by decide) (by decide)) hZ (w101 hw) (w10 hw) (by decide) (by decide)) (g := (mkF m 8 #[VR x, VI 0, VI 1, VI 2, .unset] [(.int 2), (.int 1), (.int 0)])) rfl (by rw [hml]; rfl) (argsL := [(.int 0), (.int 1), (.int 2)]) (rest := []) (lenOf pd_323 rfl) rfl (by show 2 * 0 + _ ≤ _; exact Nat.le_of_eq rfl) (hb hby d17_8) (fun _ _ => ⟨rfl, e_10, (by decide : 0 + 0 ≤ _), (by decide : 0 + 0 ≤ _)⟩)
 dsimp only [Pt.U, Pt.locs, Pt.cells, Pt.slots] at X_11 l_11 y_11 z_11 st_11 hQ_11
 subst l_11 y_11 z_11
 obtain ⟨rfl, N_12, e_13⟩ := hQ_11
 have N_14 := Fr.app N_9 N_12
 have e_15 : T_11.heap = h0 := e_13
 obtain ⟨q_17, q_18, q_19, q_20, q_21⟩ := isOf (T := T_11) hZ e_15 hp0
 obtain ⟨_, _, ⟨T_16, L_16, k_16, n_16⟩, -, X_16, ⟨Lc_16, hQ_16, l_16, y_16, z_16⟩, st_16⟩ := X_11.virtualBack hx (y := M132) (z := M132) hown (mvT hZ (w62 hw)) (mvT hZ (w63 hw)) (notFace_of_selects (args := #[]) (mvT hZ (w65 hw))) (mvT hZ (w65 hw)) (mvT hZ (w64 hw)) (by decide) (backOf (W := 0) (rm_islat l Z a0 hw [] G1 G3 HG h0 n0 X00 x hp1) hZ (w66 hw) (w10 hw) (by decide) (by decide)) q_19 q_21 (g := (mkF m 28 #[VR x, VI 0, VI 1, VI 2, VI 1] [(.ref x)])) rfl (by rw [hml]; rfl) (Steps.refl _) (argsL := []) (rest := []) (lenOf pd_219 rfl) rfl (by show 2 * 0 + _ ≤ _; exact Nat.le_of_eq rfl) (hb hby d17_28) (fun _ _ => ⟨rfl, e_15, (by decide : 0 + 0 ≤ _), (by decide : 0 + 0 ≤ _)⟩)
 dsimp only [Pt.U, Pt.locs, Pt.cells, Pt.slots] at X_16 l_16 y_16 z_16 st_16 hQ_16
 subst l_16 y_16 z_16
 obtain ⟨rfl, N_22, e_23⟩ := hQ_16
 have N_24 := Fr.app N_14 N_22
 have e_25 : T_16.heap = h0 := e_23
 obtain ⟨T_26, X_27, e_28, st_29⟩ := getF X_16 hx hZ hown (host := "") (Or.inl (w28 hw)) Via.refl e_25 hp2 (g := (mkF m 35 #[VR x, VI 0, VI 1, VI 2, VI 1] [(.ref x)])) rfl rfl (hb hby d17_35)
 obtain ⟨_, _, ⟨T_30, L_30, k_30, n_30⟩, -, X_30, ⟨Lc_30, hQ_30, l_30, y_30, z_30⟩, st_30⟩ := Jvm.LawKit.callS X_27 hx (y := M334) hown (mvT hZ (w121 hw)) (mvT hZ (w122 hw)) (mvT hZ (w80 hw)) (mvT hZ (w123 hw)) (by decide) (backOf (W := 0) (rm_lns_2_1 l Z a0 hw [] G1 G3 HG h0 n0 X00 t kt y0 y1 hp3) hZ (w123 hw) (w80 hw) (by decide) (by decide)) (g := (mkF m 41 #[VR x, VI 0, VI 1, VI 2, VI 1] [(.int 1), (.int 0), (.ref t)])) rfl (by rw [hml]; rfl) (argsL := [(.ref t), (.int 0), (.int 1)]) (rest := []) (lenOf pd_352 rfl) rfl (by show 2 * 0 + _ ≤ _; exact Nat.le_of_eq rfl) (hb hby d17_41) (fun _ _ => ⟨rfl, e_28, (by decide : 0 + 2 ≤ _), (by decide : 0 + 5 ≤ _)⟩)
 dsimp only [Pt.U, Pt.locs, Pt.cells, Pt.slots] at X_30 l_30 y_30 z_30 st_30 hQ_30
 subst l_30 y_30 z_30
 obtain ⟨a_31, a_32, k_33, rfl, N_34, K_35, g_36, g_37, g_38, g_39⟩ := hQ_30
 have N_40 := Fr.app N_24 N_34
 have C_41 : Steps p.tables e below S0 (T_30.setTop (mkF m 57 #[VR x, VI 0, VI 1, VI 2, VI 1] [(.ref a_31)])) := by
  refine C0.trans ?_
  refine XS.aloadN X0.here hx rfl (hb hby d17_0) rfl rfl ?_
  refine st_1.trans ?_
  refine XS.istoreN X_1.here hx rfl (hb hby d17_4) rfl (l' := #[VR x, VI 0, VI 1, VI 2, .unset]) rfl ?_
  refine XS.iloadN X_1.here hx rfl (hb hby d17_5) rfl ?_
  refine XS.iloadN X_1.here hx rfl (hb hby d17_6) rfl ?_
  refine XS.iloadN X_1.here hx rfl (hb hby d17_7) rfl ?_
  refine st_11 _ ?_
  refine XS.iloadN X_11.here hx rfl (hb hby d17_11) rfl ?_
  refine XS.ifNo X_11.here hx rfl (hb hby d17_12) rfl (by decide) ?_
  refine XS.iloadN X_11.here hx rfl (hb hby d17_15) rfl ?_
  refine XS.iloadN X_11.here hx rfl (hb hby d17_16) rfl ?_
  refine XS.icmpYes X_11.here hx rfl (pc0 := 17) (pc' := 22) rfl (hb hby d17_17) rfl (by decide) (by decide) (by decide) ?_
  refine XS.iloadN X_11.here hx rfl (hb hby d17_22) rfl ?_
  refine XS.iloadN X_11.here hx rfl (hb hby d17_23) rfl ?_
  refine XS.isub X_11.here hx rfl (hb hby d17_24) rfl ?_
  refine XS.istore X_11.here hx rfl (hb hby d17_25) rfl (l' := #[VR x, VI 0, VI 1, VI 2, VI 1]) rfl ?_
  show Steps p.tables e below (T_11.setTop (mkF m 27 #[VR x, VI 0, VI 1, VI 2, VI 1] [])) _
  refine XS.aloadN X_11.here hx rfl (hb hby d17_27) rfl rfl ?_
  refine st_16.trans ?_
  refine XS.ifNo X_16.here hx rfl (hb hby d17_31) rfl (by decide) ?_
  refine XS.aloadN X_16.here hx rfl (hb hby d17_34) rfl rfl ?_
  refine st_29 _ ?_
  refine XS.iloadN X_27.here hx rfl (hb hby d17_38) rfl ?_
  refine XS.iload X_27.here hx rfl (hb hby d17_39) rfl ?_
  refine st_30 _ ?_
  refine XS.goto X_30.here hx rfl (pc0 := 44) (pc' := 57) rfl (hb hby d17_44) (by decide) (by decide) ?_
  exact Steps.refl _
 have K_42 : Keep h0 T_30.heap [] := ((Keep.refl _ _).trans K_35 all0)
 obtain ⟨fs, hr, hrun, hended, hW, hsame⟩ := X_30.leave (v := some (.ref a_31)) (fun h => by rw [Bd.returns] at h; cases h)
 refine ⟨_, _, C_41.trans (retOut X_30 hx Bd.returns rfl (Or.inr (Or.inr (Or.inr (Or.inr ⟨rfl, rfl, rfl⟩)))) (hb hby d17_57) hr), hrun, hended, _, _, rfl, ?_, ⟨_, rfl⟩, hW, hsame.mono (by decide) (by decide)⟩
 show Q_sub_2_1 Z G1 G3 x t kt y0 y1 h0 n0 (some (.ref a_31)) T_30.heap _
 exact ⟨a_31, a_32, k_33, rfl, N_40, K_42, g_36, g_37, g_38, g_39⟩
abbrev R_sub_2_2 : Room := { frames := 2, cells := 0, slots := 0, locals := 29 }
def Q_sub_2_2 (Z : State) (G1 : Int32) (G3 : Value) (x : Addr) (t : Addr) (kt : ClassId) (y0 : Int32) (y1 : Int32) (h0 : Heap) (n0 : Nat) (v : Option Value) (h : Heap) (L : List Loc) : Prop := (∃ r : Addr, ∃ u : Addr, ∃ ku : ClassId, v = some (.ref r) ∧ Fr n0 L ∧ Keep h0 h [] ∧ (Exa Z h r "java/lang/String") ∧ (Fld Z h r "java/lang/String" "coder" "B" (.int 0)) ∧ (Fld Z h r "java/lang/String" "value" "[B" (.ref u)) ∧ (Arv Z h u ku .byte (2 : Int32) [(.int y0), (.int y1)] (.int 0)))
theorem rm_sub_2_2 (l : Launch) (Z : State) (a0 : Array Value) (hw : HW Z a0) (ws : List Jvm.Cond) (G1 : Int32) (G3 : Value) (HG : own_G l Z a0 G1 G3) (h0 : Heap) (n0 : Nat) (X00 : Old Z n0 h0) (x : Addr) (t : Addr) (kt : ClassId) (y0 : Int32) (y1 : Int32) (hp0 : Exa Z h0 x "java/lang/String") (hp1 : Fld Z h0 x "java/lang/String" "coder" "B" (.int 0)) (hp2 : Fld Z h0 x "java/lang/String" "value" "[B" (.ref t)) (hp3 : Arv Z h0 t kt .byte (2 : Int32) [(.int y0), (.int y1)] (.int 0)) :
  own_CP l Z M314 jdk_42_method_92_code 5 (some (.object "java/lang/String")) ws R_sub_2_2 #[(.ref x), (.int 0), (.int 2)] h0 (Q_sub_2_2 Z G1 G3 x t kt y0 y1 h0 n0) := by
 refine own_P (plainFor_of_name pn_2) ?_
 intro p e s m below meth c s₁ S0 Bd hZ hh hx hby hml hown hnm X0 e0 hS0d
 obtain ⟨O1, P1, O3f, rG3⟩ := id HG
 have N0 := Fr.nil n0
 have C0 : Steps p.tables e below S0 (s₁.setTop (mkF m 0 #[VR x, VI 0, VI 2, .unset, .unset] [])) := by rw [hS0d]; exact castTop (ef_315 m x (0 : Int32) (2 : Int32)) (Steps.refl _)
 obtain ⟨q_2, q_3, q_4, q_5, q_6⟩ := isOf (T := s₁) hZ e0 hp0
 obtain ⟨_, _, ⟨T_1, L_1, k_1, n_1⟩, -, X_1, ⟨Lc_1, hQ_1, l_1, y_1, z_1⟩, st_1⟩ := X0.virtualBack hx (y := M141) (z := M141) hown (mvT hZ (w68 hw)) (mvT hZ (w69 hw)) (notFace_of_selects (args := #[]) (mvT hZ (w71 hw))) (mvT hZ (w71 hw)) (mvT hZ (w70 hw)) (by decide) (backOf (W := 0) (rm_lenany l Z a0 hw [] G1 G3 HG h0 n0 X00 x t kt (2 : Int32) [(.int y0), (.int y1)] hp0 hp1 hp2 hp3) hZ (w72 hw) (w10 hw) (by decide) (by decide)) q_4 q_6 (g := (mkF m 1 #[VR x, VI 0, VI 2, .unset, .unset] [(.ref x)])) rfl (by rw [hml]; rfl) (Steps.refl _) (argsL := []) (rest := []) (lenOf pd_232 rfl) rfl (by show 2 * 0 + _ ≤ _; exact Nat.le_of_eq rfl) (hb hby d17_1) (fun _ _ => ⟨rfl, e0, (by decide : 0 + 0 ≤ _), (by decide : 0 + 0 ≤ _)⟩)
 dsimp only [Pt.U, Pt.locs, Pt.cells, Pt.slots] at X_1 l_1 y_1 z_1 st_1 hQ_1
 subst l_1 y_1 z_1
 obtain ⟨rfl, N_7, e_8⟩ := hQ_1
 have N_9 := Fr.app N0 N_7
 have e_10 : T_1.heap = h0 := e_8
 obtain ⟨_, _, ⟨T_11, L_11, k_11, n_11⟩, -, X_11, ⟨Lc_11, hQ_11, l_11, y_11, z_11⟩, st_11⟩ := Jvm.LawKit.callS X_1 hx (y := M299) hown (mvT hZ (w99 hw)) (mvT hZ (w100 hw)) (mvT hZ (w10 hw)) (mvT hZ (w101 hw)) (by decide) (backOf (W := 0) (rm_cbb l Z a0 hw [] G1 G3 HG h0 n0 X00 (0 : Int32) (2 : Int32) (2 : Int32) (by decide) (by decide) (by decide)) hZ (w101 hw) (w10 hw) (by decide) (by decide)) (g := (mkF m 8 #[VR x, VI 0, VI 2, VI 2, .unset] [(.int 2), (.int 2), (.int 0)])) rfl (by rw [hml]; rfl) (argsL := [(.int 0), (.int 2), (.int 2)]) (rest := []) (lenOf pd_323 rfl) rfl (by show 2 * 0 + _ ≤ _; exact Nat.le_of_eq rfl) (hb hby d17_8) (fun _ _ => ⟨rfl, e_10, (by decide : 0 + 0 ≤ _), (by decide : 0 + 0 ≤ _)⟩)
 dsimp only [Pt.U, Pt.locs, Pt.cells, Pt.slots] at X_11 l_11 y_11 z_11 st_11 hQ_11
 subst l_11 y_11 z_11
 obtain ⟨rfl, N_12, e_13⟩ := hQ_11
 have N_14 := Fr.app N_9 N_12
 have e_15 : T_11.heap = h0 := e_13
 have C_16 : Steps p.tables e below S0 (T_11.setTop (mkF m 21 #[VR x, VI 0, VI 2, VI 2, .unset] [(.ref x)])) := by
  refine C0.trans ?_
  refine XS.aloadN X0.here hx rfl (hb hby d17_0) rfl rfl ?_
  refine st_1.trans ?_
  refine XS.istoreN X_1.here hx rfl (hb hby d17_4) rfl (l' := #[VR x, VI 0, VI 2, VI 2, .unset]) rfl ?_
  refine XS.iloadN X_1.here hx rfl (hb hby d17_5) rfl ?_
  refine XS.iloadN X_1.here hx rfl (hb hby d17_6) rfl ?_
  refine XS.iloadN X_1.here hx rfl (hb hby d17_7) rfl ?_
  refine st_11 _ ?_
  refine XS.iloadN X_11.here hx rfl (hb hby d17_11) rfl ?_
  refine XS.ifNo X_11.here hx rfl (hb hby d17_12) rfl (by decide) ?_
  refine XS.iloadN X_11.here hx rfl (hb hby d17_15) rfl ?_
  refine XS.iloadN X_11.here hx rfl (hb hby d17_16) rfl ?_
  refine XS.icmpNo X_11.here hx rfl (hb hby d17_17) rfl (by decide) ?_
  refine XS.aloadN X_11.here hx rfl (hb hby d17_20) rfl rfl ?_
  exact Steps.refl _
 have K_17 : Keep h0 h0 [] := (Keep.refl _ _)
 obtain ⟨fs, hr, hrun, hended, hW, hsame⟩ := X_11.leave (v := some (.ref x)) (fun h => by rw [Bd.returns] at h; cases h)
 refine ⟨_, _, C_16.trans (retOut X_11 hx Bd.returns rfl (Or.inr (Or.inr (Or.inr (Or.inr ⟨rfl, rfl, rfl⟩)))) (hb hby d17_21) hr), hrun, hended, _, _, rfl, ?_, ⟨_, rfl⟩, hW, hsame.mono (by decide) (by decide)⟩
 show Q_sub_2_2 Z G1 G3 x t kt y0 y1 h0 n0 (some (.ref x)) T_11.heap _
 rw [e_15]
 exact ⟨x, t, kt, rfl, N_14, K_17, hp0, hp1, hp2, hp3⟩
abbrev R_lns_3_0 : Room := { frames := 0, cells := 2, slots := 4, locals := 0 }
def Q_lns_3_0 (Z : State) (G1 : Int32) (G3 : Value) (t : Addr) (kt : ClassId) (y0 : Int32) (y1 : Int32) (y2 : Int32) (h0 : Heap) (n0 : Nat) (v : Option Value) (h : Heap) (L : List Loc) : Prop := (∃ r : Addr, ∃ u : Addr, ∃ ku : ClassId, v = some (.ref r) ∧ Fr n0 L ∧ Keep h0 h [] ∧ (Exa Z h r "java/lang/String") ∧ (Fld Z h r "java/lang/String" "coder" "B" (.int 0)) ∧ (Fld Z h r "java/lang/String" "value" "[B" (.ref u)) ∧ (Arv Z h u ku .byte (0 : Int32) [] (.int 0)))
theorem rm_lns_3_0 (l : Launch) (Z : State) (a0 : Array Value) (hw : HW Z a0) (ws : List Jvm.Cond) (G1 : Int32) (G3 : Value) (HG : own_G l Z a0 G1 G3) (h0 : Heap) (n0 : Nat) (X00 : Old Z n0 h0) (t : Addr) (kt : ClassId) (y0 : Int32) (y1 : Int32) (y2 : Int32) (hp0 : Arv Z h0 t kt .byte (3 : Int32) [(.int y0), (.int y1), (.int y2)] (.int 0)) :
  own_CH l Z M334 jdk_43_method_47_code 3 (some (.object "java/lang/String")) ws R_lns_3_0 #[(.ref t), (.int 0), (.int 0)] h0 (Q_lns_3_0 Z G1 G3 t kt y0 y1 y2 h0 n0) := by
 refine own_H (plainFor_of_name pn_157) ?_
 intro p e s m below meth c s₁ S0 Bd hZ hh CH0 hS0 CR0 hx hby hml hown hnm X0 e0 hS0d
 obtain ⟨O1, P1, O3f, rG3⟩ := id HG
 have hEL := own_EL hw
 have hSA := own_SA hw
 have N0 := Fr.nil n0
 have C0 : Steps p.tables e below S0 (s₁.setTop (mkF m 0 #[VR t, VI 0, VI 0] [])) := by rw [hS0d]; exact castTop (ef_216 m t (0 : Int32) (0 : Int32)) (Steps.refl _)
 obtain ⟨a_1, T_2, h_3, k1_4, b_5, k_6, X_7, e_8, E_9, S_10, hk_11, hZ_12, ho_13, Ex_14, Fc_15, Fv_16, Va_17, la_18, lb_19, R_20, L_21, Sf_22, st_23⟩ := ldcCH (vm0 := s.vm) X0 hx hZ hown (w124 hw) hSA e0 hS0 (Nat.le_refl _) hEL (by decide) CH0 (vs := []) (z := (0 : Int32)) ⟨by decide, by decide⟩ (by decide) (by decide) (g := (mkF m 4 #[VR t, VI 0, VI 0] [])) rfl (hb hby d18_4) (n := 0) (by decide) (by decide) (by decide) (by decide)
 have CH_24 : CHv Z consts_1 T_2.vm h_3 := R_20.1
 have CR_25 : CHr Z consts_1 s.vm h0 T_2.vm h_3 := CR0.trans R_20
 have C_26 : Steps p.tables e below S0 (T_2.setTop (mkF m 6 #[VR t, VI 0, VI 0] [(.ref a_1)])) := by
  refine C0.trans ?_
  refine XS.iloadN X0.here hx rfl (hb hby d18_0) rfl ?_
  refine XS.ifNo X0.here hx rfl (hb hby d18_1) rfl (by decide) ?_
  refine st_23 _ ?_
  exact Steps.refl _
 have K_27 : Keep h0 h_3 [] := ((Keep.refl _ _).ext E_9)
 obtain ⟨fs, hr, hrun, hended, hRE⟩ := X_7.leaveW S_10 (by rw [show T_2.heap = h_3 from e_8]; exact hk_11) (v := some (.ref a_1)) (fun h => by rw [Bd.returns] at h; cases h)
 refine ⟨_, _, C_26.trans (retOut X_7 hx Bd.returns rfl (Or.inr (Or.inr (Or.inr (Or.inr ⟨rfl, rfl, rfl⟩)))) (hb hby d18_6) hr), hrun, hended, _, _, rfl, ?_, ?_, hRE.1, hRE.2.1, hRE.2.2.1, hRE.2.2.2.mono (by decide) (by decide)⟩
 ·show Q_lns_3_0 Z G1 G3 t kt y0 y1 y2 h0 n0 (some (.ref a_1)) T_2.heap _
  rw [e_8]
  exact ⟨a_1, b_5, k_6, rfl, N0, K_27, Ex_14, Fc_15, Fv_16, Va_17⟩
 ·show CHr Z consts_1 s.vm s.heap T_2.vm T_2.heap
  rw [hh, show T_2.heap = h_3 from e_8]
  exact CR_25.trans (CHv.at X_7 hZ_12 hEL CH_24)
abbrev R_sub_3_0 : Room := { frames := 2, cells := 2, slots := 4, locals := 29 }
def Q_sub_3_0 (Z : State) (G1 : Int32) (G3 : Value) (x : Addr) (t : Addr) (kt : ClassId) (y0 : Int32) (y1 : Int32) (y2 : Int32) (h0 : Heap) (n0 : Nat) (v : Option Value) (h : Heap) (L : List Loc) : Prop := (∃ r : Addr, ∃ u : Addr, ∃ ku : ClassId, v = some (.ref r) ∧ Fr n0 L ∧ Keep h0 h [] ∧ (Exa Z h r "java/lang/String") ∧ (Fld Z h r "java/lang/String" "coder" "B" (.int 0)) ∧ (Fld Z h r "java/lang/String" "value" "[B" (.ref u)) ∧ (Arv Z h u ku .byte (0 : Int32) [] (.int 0)))
theorem rm_sub_3_0 (l : Launch) (Z : State) (a0 : Array Value) (hw : HW Z a0) (ws : List Jvm.Cond) (G1 : Int32) (G3 : Value) (HG : own_G l Z a0 G1 G3) (h0 : Heap) (n0 : Nat) (X00 : Old Z n0 h0) (x : Addr) (t : Addr) (kt : ClassId) (y0 : Int32) (y1 : Int32) (y2 : Int32) (hp0 : Exa Z h0 x "java/lang/String") (hp1 : Fld Z h0 x "java/lang/String" "coder" "B" (.int 0)) (hp2 : Fld Z h0 x "java/lang/String" "value" "[B" (.ref t)) (hp3 : Arv Z h0 t kt .byte (3 : Int32) [(.int y0), (.int y1), (.int y2)] (.int 0)) :
  own_CH l Z M314 jdk_42_method_92_code 5 (some (.object "java/lang/String")) ws R_sub_3_0 #[(.ref x), (.int 0), (.int 0)] h0 (Q_sub_3_0 Z G1 G3 x t kt y0 y1 y2 h0 n0) := by
 refine own_H (plainFor_of_name pn_2) ?_
 intro p e s m below meth c s₁ S0 Bd hZ hh CH0 hS0 CR0 hx hby hml hown hnm X0 e0 hS0d
 obtain ⟨O1, P1, O3f, rG3⟩ := id HG
 have hEL := own_EL hw
 have hSA := own_SA hw
 have N0 := Fr.nil n0
 have C0 : Steps p.tables e below S0 (s₁.setTop (mkF m 0 #[VR x, VI 0, VI 0, .unset, .unset] [])) := by rw [hS0d]; exact castTop (ef_315 m x (0 : Int32) (0 : Int32)) (Steps.refl _)
 obtain ⟨q_2, q_3, q_4, q_5, q_6⟩ := isOf (T := s₁) hZ e0 hp0
 obtain ⟨_, _, ⟨T_1, L_1, k_1, n_1⟩, -, X_1, ⟨Lc_1, hQ_1, l_1, y_1, z_1⟩, st_1⟩ := X0.virtualBack hx (y := M141) (z := M141) hown (mvT hZ (w68 hw)) (mvT hZ (w69 hw)) (notFace_of_selects (args := #[]) (mvT hZ (w71 hw))) (mvT hZ (w71 hw)) (mvT hZ (w70 hw)) (by decide) (backOf (W := 0) (rm_lenany l Z a0 hw [] G1 G3 HG h0 n0 X00 x t kt (3 : Int32) [(.int y0), (.int y1), (.int y2)] hp0 hp1 hp2 hp3) hZ (w72 hw) (w10 hw) (by decide) (by decide)) q_4 q_6 (g := (mkF m 1 #[VR x, VI 0, VI 0, .unset, .unset] [(.ref x)])) rfl (by rw [hml]; rfl) (Steps.refl _) (argsL := []) (rest := []) (lenOf pd_232 rfl) rfl (by show 2 * 0 + _ ≤ _; exact Nat.le_of_eq rfl) (hb hby d17_1) (fun _ _ => ⟨rfl, e0, (by decide : 0 + 0 ≤ _), (by decide : 0 + 0 ≤ _)⟩)
 dsimp only [Pt.U, Pt.locs, Pt.cells, Pt.slots] at X_1 l_1 y_1 z_1 st_1 hQ_1
 subst l_1 y_1 z_1
 obtain ⟨rfl, N_7, e_8⟩ := hQ_1
 have N_9 := Fr.app N0 N_7
 have e_10 : T_1.heap = h0 := e_8
 obtain ⟨_, _, ⟨T_11, L_11, k_11, n_11⟩, -, X_11, ⟨Lc_11, hQ_11, l_11, y_11, z_11⟩, st_11⟩ := Jvm.LawKit.callS X_1 hx (y := M299) hown (mvT hZ (w99 hw)) (mvT hZ (w100 hw)) (mvT hZ (w10 hw)) (mvT hZ (w101 hw)) (by decide) (backOf (W := 0) (rm_cbb l Z a0 hw [] G1 G3 HG h0 n0 X00 (0 : Int32) (0 : Int32) (3 : Int32) (by decide) (by decide) (by decide)) hZ (w101 hw) (w10 hw) (by decide) (by decide)) (g := (mkF m 8 #[VR x, VI 0, VI 0, VI 3, .unset] [(.int 3), (.int 0), (.int 0)])) rfl (by rw [hml]; rfl) (argsL := [(.int 0), (.int 0), (.int 3)]) (rest := []) (lenOf pd_323 rfl) rfl (by show 2 * 0 + _ ≤ _; exact Nat.le_of_eq rfl) (hb hby d17_8) (fun _ _ => ⟨rfl, e_10, (by decide : 0 + 0 ≤ _), (by decide : 0 + 0 ≤ _)⟩)
 dsimp only [Pt.U, Pt.locs, Pt.cells, Pt.slots] at X_11 l_11 y_11 z_11 st_11 hQ_11
 subst l_11 y_11 z_11
 obtain ⟨rfl, N_12, e_13⟩ := hQ_11
 have N_14 := Fr.app N_9 N_12
 have e_15 : T_11.heap = h0 := e_13
 obtain ⟨q_17, q_18, q_19, q_20, q_21⟩ := isOf (T := T_11) hZ e_15 hp0
 obtain ⟨_, _, ⟨T_16, L_16, k_16, n_16⟩, -, X_16, ⟨Lc_16, hQ_16, l_16, y_16, z_16⟩, st_16⟩ := X_11.virtualBack hx (y := M132) (z := M132) hown (mvT hZ (w62 hw)) (mvT hZ (w63 hw)) (notFace_of_selects (args := #[]) (mvT hZ (w65 hw))) (mvT hZ (w65 hw)) (mvT hZ (w64 hw)) (by decide) (backOf (W := 0) (rm_islat l Z a0 hw [] G1 G3 HG h0 n0 X00 x hp1) hZ (w66 hw) (w10 hw) (by decide) (by decide)) q_19 q_21 (g := (mkF m 28 #[VR x, VI 0, VI 0, VI 3, VI 0] [(.ref x)])) rfl (by rw [hml]; rfl) (Steps.refl _) (argsL := []) (rest := []) (lenOf pd_219 rfl) rfl (by show 2 * 0 + _ ≤ _; exact Nat.le_of_eq rfl) (hb hby d17_28) (fun _ _ => ⟨rfl, e_15, (by decide : 0 + 0 ≤ _), (by decide : 0 + 0 ≤ _)⟩)
 dsimp only [Pt.U, Pt.locs, Pt.cells, Pt.slots] at X_16 l_16 y_16 z_16 st_16 hQ_16
 subst l_16 y_16 z_16
 obtain ⟨rfl, N_22, e_23⟩ := hQ_16
 have N_24 := Fr.app N_14 N_22
 have e_25 : T_16.heap = h0 := e_23
 obtain ⟨T_26, X_27, e_28, st_29⟩ := getF X_16 hx hZ hown (host := "") (Or.inl (w28 hw)) Via.refl e_25 hp2 (g := (mkF m 35 #[VR x, VI 0, VI 0, VI 3, VI 0] [(.ref x)])) rfl rfl (hb hby d17_35)
 obtain ⟨_, _, ⟨T_30, L_30, k_30, n_30⟩, -, Y_30, S_30, G_30, ⟨Lc_30, hQ_30, l_30, y_30, z_30, R_30⟩, st_30⟩ := callSS X_27 hx (y := M334) hown (mvT hZ (w121 hw)) (mvT hZ (w122 hw)) (mvT hZ (w80 hw)) (mvT hZ (w123 hw)) (by decide) (backOfSH (vm0 := s.vm) (W := 0) (rm_lns_3_0 l Z a0 hw [] G1 G3 HG h0 n0 X00 t kt y0 y1 y2 hp3) hZ (w123 hw) (w80 hw) (by decide) (by decide) hEL CH0) (g := (mkF m 41 #[VR x, VI 0, VI 0, VI 3, VI 0] [(.int 0), (.int 0), (.ref t)])) rfl (by rw [hml]; rfl) (argsL := [(.ref t), (.int 0), (.int 0)]) (rest := []) (lenOf pd_352 rfl) rfl (by show 2 * 0 + _ ≤ _; exact Nat.le_of_eq rfl) (hb hby d17_41) (fun _ _ => ⟨rfl, e_28, (by decide : 0 + 2 ≤ _), (by decide : 0 + 4 ≤ _)⟩)
 dsimp only [Pt.U, Pt.locs, Pt.cells, Pt.slots] at Y_30 S_30 G_30 l_30 y_30 z_30 st_30 hQ_30 R_30
 subst l_30 y_30 z_30
 obtain ⟨X_30, hS_30, hZ_30, hown_30⟩ := rebS hS0 (n1 := T_26.heap.size) (by rw [show T_26.heap = h0 from e_28]; exact (Nat.le_refl _)) Y_30 S_30 G_30 hZ hown
 obtain ⟨a_31, a_32, k_33, rfl, N_34, K_35, g_36, g_37, g_38, g_39⟩ := hQ_30
 have N_40 := Fr.app N_24 N_34
 have CH_41 : CHv Z consts_1 T_30.vm T_30.heap := R_30.1
 have CR_42 : CHr Z consts_1 s.vm h0 T_30.vm T_30.heap := CR0.trans R_30
 have C_43 : Steps p.tables e below S0 (T_30.setTop (mkF m 57 #[VR x, VI 0, VI 0, VI 3, VI 0] [(.ref a_31)])) := by
  refine C0.trans ?_
  refine XS.aloadN X0.here hx rfl (hb hby d17_0) rfl rfl ?_
  refine st_1.trans ?_
  refine XS.istoreN X_1.here hx rfl (hb hby d17_4) rfl (l' := #[VR x, VI 0, VI 0, VI 3, .unset]) rfl ?_
  refine XS.iloadN X_1.here hx rfl (hb hby d17_5) rfl ?_
  refine XS.iloadN X_1.here hx rfl (hb hby d17_6) rfl ?_
  refine XS.iloadN X_1.here hx rfl (hb hby d17_7) rfl ?_
  refine st_11 _ ?_
  refine XS.iloadN X_11.here hx rfl (hb hby d17_11) rfl ?_
  refine XS.ifNo X_11.here hx rfl (hb hby d17_12) rfl (by decide) ?_
  refine XS.iloadN X_11.here hx rfl (hb hby d17_15) rfl ?_
  refine XS.iloadN X_11.here hx rfl (hb hby d17_16) rfl ?_
  refine XS.icmpYes X_11.here hx rfl (pc0 := 17) (pc' := 22) rfl (hb hby d17_17) rfl (by decide) (by decide) (by decide) ?_
  refine XS.iloadN X_11.here hx rfl (hb hby d17_22) rfl ?_
  refine XS.iloadN X_11.here hx rfl (hb hby d17_23) rfl ?_
  refine XS.isub X_11.here hx rfl (hb hby d17_24) rfl ?_
  refine XS.istore X_11.here hx rfl (hb hby d17_25) rfl (l' := #[VR x, VI 0, VI 0, VI 3, VI 0]) rfl ?_
  show Steps p.tables e below (T_11.setTop (mkF m 27 #[VR x, VI 0, VI 0, VI 3, VI 0] [])) _
  refine XS.aloadN X_11.here hx rfl (hb hby d17_27) rfl rfl ?_
  refine st_16.trans ?_
  refine XS.ifNo X_16.here hx rfl (hb hby d17_31) rfl (by decide) ?_
  refine XS.aloadN X_16.here hx rfl (hb hby d17_34) rfl rfl ?_
  refine st_29 _ ?_
  refine XS.iloadN X_27.here hx rfl (hb hby d17_38) rfl ?_
  refine XS.iload X_27.here hx rfl (hb hby d17_39) rfl ?_
  refine st_30.trans ?_
  refine XS.goto X_30.here hx rfl (pc0 := 44) (pc' := 57) rfl (hb hby d17_44) (by decide) (by decide) ?_
  exact Steps.refl _
 have K_44 : Keep h0 T_30.heap [] := ((Keep.refl _ _).trans K_35 all0)
 obtain ⟨fs, hr, hrun, hended, hRE⟩ := X_30.leaveW hS_30 (by rw [show T_30.heap = T_30.heap from rfl]; exact (Nat.le_refl _)) (v := some (.ref a_31)) (fun h => by rw [Bd.returns] at h; cases h)
 refine ⟨_, _, C_43.trans (retOut X_30 hx Bd.returns rfl (Or.inr (Or.inr (Or.inr (Or.inr ⟨rfl, rfl, rfl⟩)))) (hb hby d17_57) hr), hrun, hended, _, _, rfl, ?_, ?_, hRE.1, hRE.2.1, hRE.2.2.1, hRE.2.2.2.mono (by decide) (by decide)⟩
 ·show Q_sub_3_0 Z G1 G3 x t kt y0 y1 y2 h0 n0 (some (.ref a_31)) T_30.heap _
  exact ⟨a_31, a_32, k_33, rfl, N_40, K_44, g_36, g_37, g_38, g_39⟩
 ·show CHr Z consts_1 s.vm s.heap T_30.vm T_30.heap
  rw [hh]
  exact CR_42.trans (CHv.at X_30 hZ_30 hEL CH_41)
abbrev R_crb_3_1 : Room := { frames := 1, cells := 1, slots := 1, locals := 18 }
def Q_crb_3_1 (Z : State) (G1 : Int32) (G3 : Value) (t : Addr) (kt : ClassId) (y0 : Int32) (y1 : Int32) (y2 : Int32) (h0 : Heap) (n0 : Nat) (v : Option Value) (h : Heap) (L : List Loc) : Prop := (∃ u : Addr, ∃ ku : ClassId, v = some (.ref u) ∧ Fr n0 L ∧ Keep h0 h [] ∧ (h0.size ≤ u) ∧ (Arv Z h u ku .byte (1 : Int32) [(.int y0)] (.int 0)))
theorem rm_crb_3_1 (l : Launch) (Z : State) (a0 : Array Value) (hw : HW Z a0) (ws : List Jvm.Cond) (G1 : Int32) (G3 : Value) (HG : own_G l Z a0 G1 G3) (h0 : Heap) (n0 : Nat) (X00 : Old Z n0 h0) (t : Addr) (kt : ClassId) (y0 : Int32) (y1 : Int32) (y2 : Int32) (hp0 : Arv Z h0 t kt .byte (3 : Int32) [(.int y0), (.int y1), (.int y2)] (.int 0)) :
  own_CP l Z M364 jdk_65_method_133_code 5 (some (.array .byte)) ws R_crb_3_1 #[(.ref t), (.int 0), (.int 1)] h0 (Q_crb_3_1 Z G1 G3 t kt y0 y1 y2 h0 n0) := by
 refine own_P (plainFor_of_name pn_359) ?_
 intro p e s m below meth c s₁ S0 Bd hZ hh hx hby hml hown hnm X0 e0 hS0d
 obtain ⟨O1, P1, O3f, rG3⟩ := id HG
 have N0 := Fr.nil n0
 have C0 : Steps p.tables e below S0 (s₁.setTop (mkF m 0 #[VR t, VI 0, VI 1, .unset, .unset] [])) := by rw [hS0d]; exact castTop (ef_315 m t (0 : Int32) (1 : Int32)) (Steps.refl _)
 obtain ⟨_, _, ⟨T_1, L_1, k_1, n_1⟩, -, X_1, ⟨Lc_1, hQ_1, l_1, y_1, z_1⟩, st_1⟩ := Jvm.LawKit.callS X0 hx (y := M358) hown (mvT hZ (w147 hw)) (mvT hZ (w148 hw)) (mvT hZ (w142 hw)) (mvT hZ (w149 hw)) (by decide) (backOf (W := 0) (rm_ckl l Z a0 hw [] G1 G3 HG h0 n0 X00 (0 : Int32) (1 : Int32) (by decide)) hZ (w149 hw) (w142 hw) (by decide) (by decide)) (g := (mkF m 2 #[VR t, VI 0, VI 1, .unset, .unset] [(.int 1), (.int 0)])) rfl (by rw [hml]; rfl) (argsL := [(.int 0), (.int 1)]) (rest := []) (lenOf pd_369 rfl) rfl (by show 2 * 0 + _ ≤ _; exact Nat.le_of_eq rfl) (hb hby d20_2) (fun _ _ => ⟨rfl, e0, (by decide : 0 + 0 ≤ _), (by decide : 0 + 0 ≤ _)⟩)
 dsimp only [Pt.U, Pt.locs, Pt.cells, Pt.slots] at X_1 l_1 y_1 z_1 st_1 hQ_1
 subst l_1 y_1 z_1
 obtain ⟨rfl, N_2, e_3⟩ := hQ_1
 have N_4 := Fr.app N0 N_2
 have e_5 : T_1.heap = h0 := e_3
 obtain ⟨T_6, h_7, k_8, X_9, e_10, E_11, A_12, st_13⟩ := newP (aty := .byte) X_1 hx hZ (w23 hw) e_5 (g := (mkF m 10 #[VR t, VI 0, VI 1, VI 1, .unset] [(.int 1)])) rfl (hb hby d20_10) rfl (by decide : ¬ ((1 : Int32) < (0 : Int32))) (cap := 1) (by decide : (1 : Int32).toNatClampNeg ≤ 1) (by decide) (by decide) (by decide)
 obtain ⟨a_14, g_15⟩ : ∃ z, z = h0.size := ⟨_, rfl⟩
 rw [← g_15] at A_12 st_13
 have V_17 : Arv Z h_7 a_14 k_8 .byte (1 : Int32) [] (.int 0) := Arv.new A_12 (by decide : ¬ ((1 : Int32) < (0 : Int32)))
 have V_16 : Arv Z h_7 a_14 k_8 .byte (1 : Int32) [(.int 0)] (.int 0) := (V_17.pad (pad_rep [] (.int 0) 1))
 have V_18 : Arv Z h_7 t kt .byte (3 : Int32) [(.int y0), (.int y1), (.int y2)] (.int 0) := (hp0.ext E_11)
 obtain ⟨c_19, A_20, q_21, S_22, M_23, H_24, U_25⟩ := id V_18
 have O_26 : Old Z n0 h_7 := (X00.ext E_11)
 obtain ⟨_, _, ⟨T_27, L_27, k_27, n_27⟩, -, X_27, ⟨Lc_27, hQ_27, l_27, y_27, z_27⟩, st_27⟩ := Jvm.LawKit.callS X_9 hx (y := M175) hown (mvT hZ (w150 hw)) (mvT hZ (w90 hw)) (mvT hZ (w87 hw)) (mvT hZ (w91 hw)) (by decide) (backOf (W := 4) (rm_minR l Z a0 hw [] G1 G3 HG h_7 n0 O_26 (3 : Int32) (1 : Int32) (by decide)) hZ (w91 hw) (w87 hw) (by decide) (by decide)) (g := (mkF m 24 #[VR t, VI 0, VI 1, VI 1, VR a_14] [(.int 1), (.int 3), (.int 0), (.ref a_14), (.int 0), (.ref t)])) rfl (by rw [hml]; rfl) (argsL := [(.int 3), (.int 1)]) (rest := [(.int 0), (.ref a_14), (.int 0), (.ref t)]) (lenOf pd_197 rfl) rfl (by show 2 * 0 + _ ≤ _; exact Nat.le_of_eq rfl) (hb hby d20_24) (fun _ _ => ⟨rfl, e_10, (by decide : 1 + 0 ≤ _), (by decide : 1 + 0 ≤ _)⟩)
 dsimp only [Pt.U, Pt.locs, Pt.cells, Pt.slots] at X_27 l_27 y_27 z_27 st_27 hQ_27
 subst l_27 y_27 z_27
 obtain ⟨rfl, N_28, e_29⟩ := hQ_27
 have N_30 := Fr.app N_4 N_28
 have e_31 : T_27.heap = h_7 := e_29
 obtain ⟨T_32, h_33, L_34, X_35, e_36, N_37, K_38, V_39, st_40⟩ := cpA X_27 hx hZ hown (w151 hw) (w154 hw) (w152 hw) (w153 hw) e_31 V_18 V_16 (sp := (0 : Int32)) (dp := (0 : Int32)) (nn := (1 : Int32)) (us := [(.int y0)]) (Or.inl ⟨rfl, rfl⟩) (by decide) (by decide) (by decide) (by decide) (by decide) rfl (Nat.le_of_ble_eq_true rfl) N_30 (Nat.le_trans (own_n0 X00) (Nat.le_of_eq g_15.symm)) (g := (mkF m 27 #[VR t, VI 0, VI 1, VI 1, VR a_14] [(.int 1), (.int 0), (.ref a_14), (.int 0), (.ref t)])) rfl (by rw [hml]; rfl) rfl (hb hby d20_27) (by decide) (W := 0) (by show 2 * 0 + _ ≤ _; exact Nat.le_of_eq rfl) (by decide)
 have V_41 : Arv Z h_33 a_14 k_8 .byte (1 : Int32) [(.int y0)] (.int 0) := V_39
 have C_42 : Steps p.tables e below S0 (T_32.setTop (mkF m 32 #[VR t, VI 0, VI 1, VI 1, VR a_14] [(.ref a_14)])) := by
  refine C0.trans ?_
  refine XS.iloadN X0.here hx rfl (hb hby d20_0) rfl ?_
  refine XS.iloadN X0.here hx rfl (hb hby d20_1) rfl ?_
  refine st_1 _ ?_
  refine XS.iloadN X_1.here hx rfl (hb hby d20_5) rfl ?_
  refine XS.iloadN X_1.here hx rfl (hb hby d20_6) rfl ?_
  refine XS.isub X_1.here hx rfl (hb hby d20_7) rfl ?_
  refine XS.istoreN X_1.here hx rfl (hb hby d20_8) rfl (l' := #[VR t, VI 0, VI 1, VI 1, .unset]) rfl ?_
  refine XS.iloadN X_1.here hx rfl (hb hby d20_9) rfl ?_
  refine st_13 _ ?_
  refine XS.astore X_9.here hx rfl (hb hby d20_12) rfl rfl (l' := #[VR t, VI 0, VI 1, VI 1, VR a_14]) rfl ?_
  refine XS.aloadN X_9.here hx rfl (hb hby d20_14) rfl rfl ?_
  refine XS.iloadN X_9.here hx rfl (hb hby d20_15) rfl ?_
  refine XS.aload X_9.here hx rfl (hb hby d20_16) rfl rfl ?_
  refine XS.iconst X_9.here hx rfl (hb hby d20_18) ?_
  refine XS.aloadN X_9.here hx rfl (hb hby d20_19) rfl rfl ?_
  refine X_9.arraylength hx (by rw [e_10]; exact A_20.1) (State.isArrayOf_alike hZ.alike A_20.2.1) (g := (mkF m 20 #[VR t, VI 0, VI 1, VI 1, VR a_14] [(.ref t), (.int 0), (.ref a_14), (.int 0), (.ref t)])) rfl rfl (hb hby d20_20) _ ?_
  rw [len_of S_22 M_23]
  show Steps p.tables e below (T_6.setTop (mkF m 21 #[VR t, VI 0, VI 1, VI 1, VR a_14] [(.int 3), (.int 0), (.ref a_14), (.int 0), (.ref t)])) _
  refine XS.iloadN X_9.here hx rfl (hb hby d20_21) rfl ?_
  refine XS.isub X_9.here hx rfl (hb hby d20_22) rfl ?_
  refine XS.iloadN X_9.here hx rfl (hb hby d20_23) rfl ?_
  refine st_27 _ ?_
  refine st_40 _ ?_
  refine XS.aload X_35.here hx rfl (hb hby d20_30) rfl rfl ?_
  exact Steps.refl _
 have K_43 : Keep h0 h_33 [] := (((Keep.refl _ _).ext E_11).trans K_38 (allS (Or.inr (Nat.le_trans (Nat.le_refl _) (Nat.le_of_eq g_15.symm))) all0))
 obtain ⟨fs, hr, hrun, hended, hW, hsame⟩ := X_35.leave (v := some (.ref a_14)) (fun h => by rw [Bd.returns] at h; cases h)
 refine ⟨_, _, C_42.trans (retOut X_35 hx Bd.returns rfl (Or.inr (Or.inr (Or.inr (Or.inr ⟨rfl, rfl, rfl⟩)))) (hb hby d20_32) hr), hrun, hended, _, _, rfl, ?_, ⟨_, rfl⟩, hW, hsame.mono (by decide) (by decide)⟩
 show Q_crb_3_1 Z G1 G3 t kt y0 y1 y2 h0 n0 (some (.ref a_14)) T_32.heap _
 rw [e_36]
 exact ⟨a_14, k_8, rfl, N_37, K_43, (Nat.le_trans (Nat.le_refl _) (Nat.le_of_eq g_15.symm)), V_41⟩
abbrev R_cr_3_1 : Room := { frames := 2, cells := 1, slots := 1, locals := 34 }
def Q_cr_3_1 (Z : State) (G1 : Int32) (G3 : Value) (t : Addr) (kt : ClassId) (y0 : Int32) (y1 : Int32) (y2 : Int32) (h0 : Heap) (n0 : Nat) (v : Option Value) (h : Heap) (L : List Loc) : Prop := (∃ u : Addr, ∃ ku : ClassId, v = some (.ref u) ∧ Fr n0 L ∧ Keep h0 h [] ∧ (h0.size ≤ u) ∧ (Arv Z h u ku .byte (1 : Int32) [(.int y0)] (.int 0)))
theorem rm_cr_3_1 (l : Launch) (Z : State) (a0 : Array Value) (hw : HW Z a0) (ws : List Jvm.Cond) (G1 : Int32) (G3 : Value) (HG : own_G l Z a0 G1 G3) (h0 : Heap) (n0 : Nat) (X00 : Old Z n0 h0) (t : Addr) (kt : ClassId) (y0 : Int32) (y1 : Int32) (y2 : Int32) (hp0 : Arv Z h0 t kt .byte (3 : Int32) [(.int y0), (.int y1), (.int y2)] (.int 0)) :
  own_CP l Z M398 jdk_65_method_132_code 3 (some (.array .byte)) ws R_cr_3_1 #[(.ref t), (.int 0), (.int 1)] h0 (Q_cr_3_1 Z G1 G3 t kt y0 y1 y2 h0 n0) := by
 refine own_P (plainFor_of_name pn_359) ?_
 intro p e s m below meth c s₁ S0 Bd hZ hh hx hby hml hown hnm X0 e0 hS0d
 obtain ⟨O1, P1, O3f, rG3⟩ := id HG
 have N0 := Fr.nil n0
 have C0 : Steps p.tables e below S0 (s₁.setTop (mkF m 0 #[VR t, VI 0, VI 1] [])) := by rw [hS0d]; exact castTop (ef_216 m t (0 : Int32) (1 : Int32)) (Steps.refl _)
 obtain ⟨c_1, A_2, q_3, S_4, M_5, H_6, U_7⟩ := id hp0
 obtain ⟨_, _, ⟨T_8, L_8, k_8, n_8⟩, -, X_8, ⟨Lc_8, hQ_8, l_8, y_8, z_8⟩, st_8⟩ := Jvm.LawKit.callS X0 hx (y := M364) hown (mvT hZ (w144 hw)) (mvT hZ (w145 hw)) (mvT hZ (w142 hw)) (mvT hZ (w146 hw)) (by decide) (backOf (W := 0) (rm_crb_3_1 l Z a0 hw [] G1 G3 HG h0 n0 X00 t kt y0 y1 y2 hp0) hZ (w146 hw) (w142 hw) (by decide) (by decide)) (g := (mkF m 13 #[VR t, VI 0, VI 1] [(.int 1), (.int 0), (.ref t)])) rfl (by rw [hml]; rfl) (argsL := [(.ref t), (.int 0), (.int 1)]) (rest := []) (lenOf pd_409 rfl) rfl (by show 2 * 0 + _ ≤ _; exact Nat.le_of_eq rfl) (hb hby d21_13) (fun _ _ => ⟨rfl, e0, (by decide : 0 + 1 ≤ _), (by decide : 0 + 1 ≤ _)⟩)
 dsimp only [Pt.U, Pt.locs, Pt.cells, Pt.slots] at X_8 l_8 y_8 z_8 st_8 hQ_8
 subst l_8 y_8 z_8
 obtain ⟨a_9, k_10, rfl, N_11, K_12, g_13, g_14⟩ := hQ_8
 have N_15 := Fr.app N0 N_11
 have C_16 : Steps p.tables e below S0 (T_8.setTop (mkF m 16 #[VR t, VI 0, VI 1] [(.ref a_9)])) := by
  refine C0.trans ?_
  refine XS.iloadN X0.here hx rfl (hb hby d21_0) rfl ?_
  refine XS.ifNo X0.here hx rfl (hb hby d21_1) rfl (by decide) ?_
  refine XS.iloadN X0.here hx rfl (hb hby d21_4) rfl ?_
  refine XS.aloadN X0.here hx rfl (hb hby d21_5) rfl rfl ?_
  refine X0.arraylength hx (by rw [e0]; exact A_2.1) (State.isArrayOf_alike hZ.alike A_2.2.1) (g := (mkF m 6 #[VR t, VI 0, VI 1] [(.ref t), (.int 1)])) rfl rfl (hb hby d21_6) _ ?_
  rw [len_of S_4 M_5]
  refine XS.icmpNo X0.here hx rfl (hb hby d21_7) rfl (by decide) ?_
  refine XS.aloadN X0.here hx rfl (hb hby d21_10) rfl rfl ?_
  refine XS.iloadN X0.here hx rfl (hb hby d21_11) rfl ?_
  refine XS.iloadN X0.here hx rfl (hb hby d21_12) rfl ?_
  refine st_8 _ ?_
  exact Steps.refl _
 have K_17 : Keep h0 T_8.heap [] := ((Keep.refl _ _).trans K_12 all0)
 obtain ⟨fs, hr, hrun, hended, hW, hsame⟩ := X_8.leave (v := some (.ref a_9)) (fun h => by rw [Bd.returns] at h; cases h)
 refine ⟨_, _, C_16.trans (retOut X_8 hx Bd.returns rfl (Or.inr (Or.inr (Or.inr (Or.inr ⟨rfl, rfl, rfl⟩)))) (hb hby d21_16) hr), hrun, hended, _, _, rfl, ?_, ⟨_, rfl⟩, hW, hsame.mono (by decide) (by decide)⟩
 show Q_cr_3_1 Z G1 G3 t kt y0 y1 y2 h0 n0 (some (.ref a_9)) T_8.heap _
 exact ⟨a_9, k_10, rfl, N_15, K_17, (Nat.le_trans (Nat.le_refl _) g_13), g_14⟩
abbrev R_lns_3_1 : Room := { frames := 3, cells := 2, slots := 5, locals := 50 }
def Q_lns_3_1 (Z : State) (G1 : Int32) (G3 : Value) (t : Addr) (kt : ClassId) (y0 : Int32) (y1 : Int32) (y2 : Int32) (h0 : Heap) (n0 : Nat) (v : Option Value) (h : Heap) (L : List Loc) : Prop := (∃ r : Addr, ∃ u : Addr, ∃ ku : ClassId, v = some (.ref r) ∧ Fr n0 L ∧ Keep h0 h [] ∧ (Exa Z h r "java/lang/String") ∧ (Fld Z h r "java/lang/String" "coder" "B" (.int 0)) ∧ (Fld Z h r "java/lang/String" "value" "[B" (.ref u)) ∧ (Arv Z h u ku .byte (1 : Int32) [(.int y0)] (.int 0)))
theorem rm_lns_3_1 (l : Launch) (Z : State) (a0 : Array Value) (hw : HW Z a0) (ws : List Jvm.Cond) (G1 : Int32) (G3 : Value) (HG : own_G l Z a0 G1 G3) (h0 : Heap) (n0 : Nat) (X00 : Old Z n0 h0) (t : Addr) (kt : ClassId) (y0 : Int32) (y1 : Int32) (y2 : Int32) (hp0 : Arv Z h0 t kt .byte (3 : Int32) [(.int y0), (.int y1), (.int y2)] (.int 0)) :
  own_CP l Z M334 jdk_43_method_47_code 3 (some (.object "java/lang/String")) ws R_lns_3_1 #[(.ref t), (.int 0), (.int 1)] h0 (Q_lns_3_1 Z G1 G3 t kt y0 y1 y2 h0 n0) := by
 refine own_P (plainFor_of_name pn_157) ?_
 intro p e s m below meth c s₁ S0 Bd hZ hh hx hby hml hown hnm X0 e0 hS0d
 obtain ⟨O1, P1, O3f, rG3⟩ := id HG
 have N0 := Fr.nil n0
 have C0 : Steps p.tables e below S0 (s₁.setTop (mkF m 0 #[VR t, VI 0, VI 1] [])) := by rw [hS0d]; exact castTop (ef_216 m t (0 : Int32) (1 : Int32)) (Steps.refl _)
 obtain ⟨T_1, h_2, X_3, e_4, E_5, A_6, D_7, U_11, st_8⟩ := newO X0 hx hZ hown (w139 hw) (w9 hw) (w10 hw) e0 (g := (mkF m 7 #[VR t, VI 0, VI 1] [])) rfl (hb hby d18_7) (by decide) (by decide)
 obtain ⟨a_9, g_10⟩ : ∃ z, z = h0.size := ⟨_, rfl⟩
 rw [← g_10] at A_6 D_7 st_8 U_11
 have V_12 : Arv Z h_2 t kt .byte (3 : Int32) [(.int y0), (.int y1), (.int y2)] (.int 0) := (hp0.ext E_5)
 have O_13 : Old Z n0 h_2 := (X00.ext E_5)
 obtain ⟨_, _, ⟨T_14, L_14, k_14, n_14⟩, -, X_14, ⟨Lc_14, hQ_14, l_14, y_14, z_14⟩, st_14⟩ := Jvm.LawKit.callS X_3 hx (y := M398) hown (mvT hZ (w140 hw)) (mvT hZ (w141 hw)) (mvT hZ (w142 hw)) (mvT hZ (w143 hw)) (by decide) (backOf (W := 2) (rm_cr_3_1 l Z a0 hw [] G1 G3 HG h_2 n0 O_13 t kt y0 y1 y2 V_12) hZ (w143 hw) (w142 hw) (by decide) (by decide)) (g := (mkF m 16 #[VR t, VI 0, VI 1] [(.int 1), (.int 0), (.ref t), (.ref a_9), (.ref a_9)])) rfl (by rw [hml]; rfl) (argsL := [(.ref t), (.int 0), (.int 1)]) (rest := [(.ref a_9), (.ref a_9)]) (lenOf pd_409 rfl) rfl (by show 2 * 0 + _ ≤ _; exact Nat.le_of_eq rfl) (hb hby d18_16) (fun _ _ => ⟨rfl, e_4, (by decide : 1 + 1 ≤ _), (by decide : 4 + 1 ≤ _)⟩)
 dsimp only [Pt.U, Pt.locs, Pt.cells, Pt.slots] at X_14 l_14 y_14 z_14 st_14 hQ_14
 subst l_14 y_14 z_14
 obtain ⟨a_15, k_16, rfl, N_17, K_18, g_19, g_20⟩ := hQ_14
 have N_21 := Fr.app N0 N_17
 have E_22 : Exa Z T_14.heap a_9 "java/lang/String" := (A_6.keep K_18)
 have F_23 : Fld Z T_14.heap a_9 "java/lang/String" "value" "[B" .null := ((D_7 (Or.inr (w24 hw)) (ty := (.array .byte)) (by decide)).keep K_18 nin0)
 have F_24 : Fld Z T_14.heap a_9 "java/lang/String" "coder" "B" (.int 0) := ((D_7 (Or.inr (w25 hw)) (ty := .byte) (by decide)).keep K_18 nin0)
 have O_25 : Old Z n0 T_14.heap := (O_13.keep K_18 all0)
 obtain ⟨_, _, ⟨T_26, L_26, k_26, n_26⟩, -, X_26, ⟨Lc_26, hQ_26, l_26, y_26, z_26⟩, st_26⟩ := X_14.specialBack hx (y := M414) rfl hown (mvT hZ (w155 hw)) (mvT hZ (w156 hw)) (mvT hZ (w157 hw)) (by decide) (backOf (W := 1) (rm_sbb_0 l Z a0 hw [] G1 G3 HG T_14.heap n0 O_25 a_9 a_15 E_22 F_23 F_24 (Nat.le_trans (own_n0 X00) (Nat.le_of_eq g_10.symm))) hZ (w157 hw) (w10 hw) (by decide) (by decide)) (g := (mkF m 20 #[VR t, VI 0, VI 1] [(.int 0), (.ref a_15), (.ref a_9), (.ref a_9)])) rfl (by rw [hml]; rfl) (Steps.refl _) (a := a_9) (argsL := [(.ref a_15), (.int 0)]) (rest := [(.ref a_9)]) (lenOf pd_439 rfl) rfl (by show 2 * 0 + _ ≤ _; exact Nat.le_of_eq rfl) (hb hby d18_20) (fun _ _ => ⟨rfl, rfl, (by decide : 2 + 0 ≤ _), (by decide : 5 + 0 ≤ _)⟩)
 dsimp only [Pt.U, Pt.locs, Pt.cells, Pt.slots] at X_26 l_26 y_26 z_26 st_26 hQ_26
 subst l_26 y_26 z_26
 obtain ⟨rfl, N_27, K_28, g_29, g_30, g_31⟩ := hQ_26
 have N_32 := Fr.app N_21 N_27
 have C_33 : Steps p.tables e below S0 (T_26.setTop (mkF m 23 #[VR t, VI 0, VI 1] [(.ref a_9)])) := by
  refine C0.trans ?_
  refine XS.iloadN X0.here hx rfl (hb hby d18_0) rfl ?_
  refine XS.ifYes X0.here hx rfl (pc0 := 1) (pc' := 7) rfl (hb hby d18_1) rfl (by decide) (by decide) (by decide) ?_
  refine st_8 _ ?_
  refine XS.dup X_3.here hx rfl (hb hby d18_10) rfl rfl ?_
  refine XS.aloadN X_3.here hx rfl (hb hby d18_11) rfl rfl ?_
  refine XS.iloadN X_3.here hx rfl (hb hby d18_12) rfl ?_
  refine XS.iloadN X_3.here hx rfl (hb hby d18_13) rfl ?_
  refine XS.iloadN X_3.here hx rfl (hb hby d18_14) rfl ?_
  refine XS.iadd X_3.here hx rfl (hb hby d18_15) rfl ?_
  refine st_14 _ ?_
  refine XS.iconst X_14.here hx rfl (hb hby d18_19) ?_
  refine st_26.trans ?_
  exact Steps.refl _
 have V_34 : Arv Z T_26.heap a_15 k_16 .byte (1 : Int32) [(.int y0)] (.int 0) := (g_20.keep K_28 (ninS (Ne.symm (Nat.ne_of_lt (Nat.lt_of_lt_of_le A_6.lt (Nat.le_trans (Nat.le_refl _) g_19)))) nin0))
 have K_35 : Keep h0 T_26.heap [] := ((((Keep.refl _ _).ext E_5).trans K_18 all0).trans K_28 (allS (Or.inr (Nat.le_trans (Nat.le_refl _) (Nat.le_of_eq g_10.symm))) all0))
 obtain ⟨fs, hr, hrun, hended, hW, hsame⟩ := X_26.leave (v := some (.ref a_9)) (fun h => by rw [Bd.returns] at h; cases h)
 refine ⟨_, _, C_33.trans (retOut X_26 hx Bd.returns rfl (Or.inr (Or.inr (Or.inr (Or.inr ⟨rfl, rfl, rfl⟩)))) (hb hby d18_23) hr), hrun, hended, _, _, rfl, ?_, ⟨_, rfl⟩, hW, hsame.mono (by decide) (by decide)⟩
 show Q_lns_3_1 Z G1 G3 t kt y0 y1 y2 h0 n0 (some (.ref a_9)) T_26.heap _
 exact ⟨a_9, a_15, k_16, rfl, N_32, K_35, g_29, g_30, g_31, V_34⟩
abbrev R_sub_3_1 : Room := { frames := 4, cells := 2, slots := 5, locals := 64 }
def Q_sub_3_1 (Z : State) (G1 : Int32) (G3 : Value) (x : Addr) (t : Addr) (kt : ClassId) (y0 : Int32) (y1 : Int32) (y2 : Int32) (h0 : Heap) (n0 : Nat) (v : Option Value) (h : Heap) (L : List Loc) : Prop := (∃ r : Addr, ∃ u : Addr, ∃ ku : ClassId, v = some (.ref r) ∧ Fr n0 L ∧ Keep h0 h [] ∧ (Exa Z h r "java/lang/String") ∧ (Fld Z h r "java/lang/String" "coder" "B" (.int 0)) ∧ (Fld Z h r "java/lang/String" "value" "[B" (.ref u)) ∧ (Arv Z h u ku .byte (1 : Int32) [(.int y0)] (.int 0)))
theorem rm_sub_3_1 (l : Launch) (Z : State) (a0 : Array Value) (hw : HW Z a0) (ws : List Jvm.Cond) (G1 : Int32) (G3 : Value) (HG : own_G l Z a0 G1 G3) (h0 : Heap) (n0 : Nat) (X00 : Old Z n0 h0) (x : Addr) (t : Addr) (kt : ClassId) (y0 : Int32) (y1 : Int32) (y2 : Int32) (hp0 : Exa Z h0 x "java/lang/String") (hp1 : Fld Z h0 x "java/lang/String" "coder" "B" (.int 0)) (hp2 : Fld Z h0 x "java/lang/String" "value" "[B" (.ref t)) (hp3 : Arv Z h0 t kt .byte (3 : Int32) [(.int y0), (.int y1), (.int y2)] (.int 0)) :
  own_CP l Z M314 jdk_42_method_92_code 5 (some (.object "java/lang/String")) ws R_sub_3_1 #[(.ref x), (.int 0), (.int 1)] h0 (Q_sub_3_1 Z G1 G3 x t kt y0 y1 y2 h0 n0) := by
 refine own_P (plainFor_of_name pn_2) ?_
 intro p e s m below meth c s₁ S0 Bd hZ hh hx hby hml hown hnm X0 e0 hS0d
 obtain ⟨O1, P1, O3f, rG3⟩ := id HG
 have N0 := Fr.nil n0
 have C0 : Steps p.tables e below S0 (s₁.setTop (mkF m 0 #[VR x, VI 0, VI 1, .unset, .unset] [])) := by rw [hS0d]; exact castTop (ef_315 m x (0 : Int32) (1 : Int32)) (Steps.refl _)
 obtain ⟨q_2, q_3, q_4, q_5, q_6⟩ := isOf (T := s₁) hZ e0 hp0
 obtain ⟨_, _, ⟨T_1, L_1, k_1, n_1⟩, -, X_1, ⟨Lc_1, hQ_1, l_1, y_1, z_1⟩, st_1⟩ := X0.virtualBack hx (y := M141) (z := M141) hown (mvT hZ (w68 hw)) (mvT hZ (w69 hw)) (notFace_of_selects (args := #[]) (mvT hZ (w71 hw))) (mvT hZ (w71 hw)) (mvT hZ (w70 hw)) (by decide) (backOf (W := 0) (rm_lenany l Z a0 hw [] G1 G3 HG h0 n0 X00 x t kt (3 : Int32) [(.int y0), (.int y1), (.int y2)] hp0 hp1 hp2 hp3) hZ (w72 hw) (w10 hw) (by decide) (by decide)) q_4 q_6 (g := (mkF m 1 #[VR x, VI 0, VI 1, .unset, .unset] [(.ref x)])) rfl (by rw [hml]; rfl) (Steps.refl _) (argsL := []) (rest := []) (lenOf pd_232 rfl) rfl (by show 2 * 0 + _ ≤ _; exact Nat.le_of_eq rfl) (hb hby d17_1) (fun _ _ => ⟨rfl, e0, (by decide : 0 + 0 ≤ _), (by decide : 0 + 0 ≤ _)⟩)
 dsimp only [Pt.U, Pt.locs, Pt.cells, Pt.slots] at X_1 l_1 y_1 z_1 st_1 hQ_1
 subst l_1 y_1 z_1
 obtain ⟨rfl, N_7, e_8⟩ := hQ_1
 have N_9 := Fr.app N0 N_7
 have e_10 : T_1.heap = h0 := e_8
 obtain ⟨_, _, ⟨T_11, L_11, k_11, n_11⟩, -, X_11, ⟨Lc_11, hQ_11, l_11, y_11, z_11⟩, st_11⟩ := Jvm.LawKit.callS X_1 hx (y := M299) hown (mvT hZ (w99 hw)) (mvT hZ (w100 hw)) (mvT hZ (w10 hw)) (mvT hZ (w101 hw)) (by decide) (backOf (W := 0) (rm_cbb l Z a0 hw [] G1 G3 HG h0 n0 X00 (0 : Int32) (1 : Int32) (3 : Int32) (by decide) (by decide) (by decide)) hZ (w101 hw) (w10 hw) (by decide) (by decide)) (g := (mkF m 8 #[VR x, VI 0, VI 1, VI 3, .unset] [(.int 3), (.int 1), (.int 0)])) rfl (by rw [hml]; rfl) (argsL := [(.int 0), (.int 1), (.int 3)]) (rest := []) (lenOf pd_323 rfl) rfl (by show 2 * 0 + _ ≤ _; exact Nat.le_of_eq rfl) (hb hby d17_8) (fun _ _ => ⟨rfl, e_10, (by decide : 0 + 0 ≤ _), (by decide : 0 + 0 ≤ _)⟩)
 dsimp only [Pt.U, Pt.locs, Pt.cells, Pt.slots] at X_11 l_11 y_11 z_11 st_11 hQ_11
 subst l_11 y_11 z_11
 obtain ⟨rfl, N_12, e_13⟩ := hQ_11
 have N_14 := Fr.app N_9 N_12
 have e_15 : T_11.heap = h0 := e_13
 obtain ⟨q_17, q_18, q_19, q_20, q_21⟩ := isOf (T := T_11) hZ e_15 hp0
 obtain ⟨_, _, ⟨T_16, L_16, k_16, n_16⟩, -, X_16, ⟨Lc_16, hQ_16, l_16, y_16, z_16⟩, st_16⟩ := X_11.virtualBack hx (y := M132) (z := M132) hown (mvT hZ (w62 hw)) (mvT hZ (w63 hw)) (notFace_of_selects (args := #[]) (mvT hZ (w65 hw))) (mvT hZ (w65 hw)) (mvT hZ (w64 hw)) (by decide) (backOf (W := 0) (rm_islat l Z a0 hw [] G1 G3 HG h0 n0 X00 x hp1) hZ (w66 hw) (w10 hw) (by decide) (by decide)) q_19 q_21 (g := (mkF m 28 #[VR x, VI 0, VI 1, VI 3, VI 1] [(.ref x)])) rfl (by rw [hml]; rfl) (Steps.refl _) (argsL := []) (rest := []) (lenOf pd_219 rfl) rfl (by show 2 * 0 + _ ≤ _; exact Nat.le_of_eq rfl) (hb hby d17_28) (fun _ _ => ⟨rfl, e_15, (by decide : 0 + 0 ≤ _), (by decide : 0 + 0 ≤ _)⟩)
 dsimp only [Pt.U, Pt.locs, Pt.cells, Pt.slots] at X_16 l_16 y_16 z_16 st_16 hQ_16
 subst l_16 y_16 z_16
 obtain ⟨rfl, N_22, e_23⟩ := hQ_16
 have N_24 := Fr.app N_14 N_22
 have e_25 : T_16.heap = h0 := e_23
 obtain ⟨T_26, X_27, e_28, st_29⟩ := getF X_16 hx hZ hown (host := "") (Or.inl (w28 hw)) Via.refl e_25 hp2 (g := (mkF m 35 #[VR x, VI 0, VI 1, VI 3, VI 1] [(.ref x)])) rfl rfl (hb hby d17_35)
 obtain ⟨_, _, ⟨T_30, L_30, k_30, n_30⟩, -, X_30, ⟨Lc_30, hQ_30, l_30, y_30, z_30⟩, st_30⟩ := Jvm.LawKit.callS X_27 hx (y := M334) hown (mvT hZ (w121 hw)) (mvT hZ (w122 hw)) (mvT hZ (w80 hw)) (mvT hZ (w123 hw)) (by decide) (backOf (W := 0) (rm_lns_3_1 l Z a0 hw [] G1 G3 HG h0 n0 X00 t kt y0 y1 y2 hp3) hZ (w123 hw) (w80 hw) (by decide) (by decide)) (g := (mkF m 41 #[VR x, VI 0, VI 1, VI 3, VI 1] [(.int 1), (.int 0), (.ref t)])) rfl (by rw [hml]; rfl) (argsL := [(.ref t), (.int 0), (.int 1)]) (rest := []) (lenOf pd_352 rfl) rfl (by show 2 * 0 + _ ≤ _; exact Nat.le_of_eq rfl) (hb hby d17_41) (fun _ _ => ⟨rfl, e_28, (by decide : 0 + 2 ≤ _), (by decide : 0 + 5 ≤ _)⟩)
 dsimp only [Pt.U, Pt.locs, Pt.cells, Pt.slots] at X_30 l_30 y_30 z_30 st_30 hQ_30
 subst l_30 y_30 z_30
 obtain ⟨a_31, a_32, k_33, rfl, N_34, K_35, g_36, g_37, g_38, g_39⟩ := hQ_30
 have N_40 := Fr.app N_24 N_34
 have C_41 : Steps p.tables e below S0 (T_30.setTop (mkF m 57 #[VR x, VI 0, VI 1, VI 3, VI 1] [(.ref a_31)])) := by
  refine C0.trans ?_
  refine XS.aloadN X0.here hx rfl (hb hby d17_0) rfl rfl ?_
  refine st_1.trans ?_
  refine XS.istoreN X_1.here hx rfl (hb hby d17_4) rfl (l' := #[VR x, VI 0, VI 1, VI 3, .unset]) rfl ?_
  refine XS.iloadN X_1.here hx rfl (hb hby d17_5) rfl ?_
  refine XS.iloadN X_1.here hx rfl (hb hby d17_6) rfl ?_
  refine XS.iloadN X_1.here hx rfl (hb hby d17_7) rfl ?_
  refine st_11 _ ?_
  refine XS.iloadN X_11.here hx rfl (hb hby d17_11) rfl ?_
  refine XS.ifNo X_11.here hx rfl (hb hby d17_12) rfl (by decide) ?_
  refine XS.iloadN X_11.here hx rfl (hb hby d17_15) rfl ?_
  refine XS.iloadN X_11.here hx rfl (hb hby d17_16) rfl ?_
  refine XS.icmpYes X_11.here hx rfl (pc0 := 17) (pc' := 22) rfl (hb hby d17_17) rfl (by decide) (by decide) (by decide) ?_
  refine XS.iloadN X_11.here hx rfl (hb hby d17_22) rfl ?_
  refine XS.iloadN X_11.here hx rfl (hb hby d17_23) rfl ?_
  refine XS.isub X_11.here hx rfl (hb hby d17_24) rfl ?_
  refine XS.istore X_11.here hx rfl (hb hby d17_25) rfl (l' := #[VR x, VI 0, VI 1, VI 3, VI 1]) rfl ?_
  show Steps p.tables e below (T_11.setTop (mkF m 27 #[VR x, VI 0, VI 1, VI 3, VI 1] [])) _
  refine XS.aloadN X_11.here hx rfl (hb hby d17_27) rfl rfl ?_
  refine st_16.trans ?_
  refine XS.ifNo X_16.here hx rfl (hb hby d17_31) rfl (by decide) ?_
  refine XS.aloadN X_16.here hx rfl (hb hby d17_34) rfl rfl ?_
  refine st_29 _ ?_
  refine XS.iloadN X_27.here hx rfl (hb hby d17_38) rfl ?_
  refine XS.iload X_27.here hx rfl (hb hby d17_39) rfl ?_
  refine st_30 _ ?_
  refine XS.goto X_30.here hx rfl (pc0 := 44) (pc' := 57) rfl (hb hby d17_44) (by decide) (by decide) ?_
  exact Steps.refl _
 have K_42 : Keep h0 T_30.heap [] := ((Keep.refl _ _).trans K_35 all0)
 obtain ⟨fs, hr, hrun, hended, hW, hsame⟩ := X_30.leave (v := some (.ref a_31)) (fun h => by rw [Bd.returns] at h; cases h)
 refine ⟨_, _, C_41.trans (retOut X_30 hx Bd.returns rfl (Or.inr (Or.inr (Or.inr (Or.inr ⟨rfl, rfl, rfl⟩)))) (hb hby d17_57) hr), hrun, hended, _, _, rfl, ?_, ⟨_, rfl⟩, hW, hsame.mono (by decide) (by decide)⟩
 show Q_sub_3_1 Z G1 G3 x t kt y0 y1 y2 h0 n0 (some (.ref a_31)) T_30.heap _
 exact ⟨a_31, a_32, k_33, rfl, N_40, K_42, g_36, g_37, g_38, g_39⟩
abbrev R_crb_3_2 : Room := { frames := 1, cells := 1, slots := 2, locals := 18 }
def Q_crb_3_2 (Z : State) (G1 : Int32) (G3 : Value) (t : Addr) (kt : ClassId) (y0 : Int32) (y1 : Int32) (y2 : Int32) (h0 : Heap) (n0 : Nat) (v : Option Value) (h : Heap) (L : List Loc) : Prop := (∃ u : Addr, ∃ ku : ClassId, v = some (.ref u) ∧ Fr n0 L ∧ Keep h0 h [] ∧ (h0.size ≤ u) ∧ (Arv Z h u ku .byte (2 : Int32) [(.int y0), (.int y1)] (.int 0)))
theorem rm_crb_3_2 (l : Launch) (Z : State) (a0 : Array Value) (hw : HW Z a0) (ws : List Jvm.Cond) (G1 : Int32) (G3 : Value) (HG : own_G l Z a0 G1 G3) (h0 : Heap) (n0 : Nat) (X00 : Old Z n0 h0) (t : Addr) (kt : ClassId) (y0 : Int32) (y1 : Int32) (y2 : Int32) (hp0 : Arv Z h0 t kt .byte (3 : Int32) [(.int y0), (.int y1), (.int y2)] (.int 0)) :
  own_CP l Z M364 jdk_65_method_133_code 5 (some (.array .byte)) ws R_crb_3_2 #[(.ref t), (.int 0), (.int 2)] h0 (Q_crb_3_2 Z G1 G3 t kt y0 y1 y2 h0 n0) := by
 refine own_P (plainFor_of_name pn_359) ?_
 intro p e s m below meth c s₁ S0 Bd hZ hh hx hby hml hown hnm X0 e0 hS0d
 obtain ⟨O1, P1, O3f, rG3⟩ := id HG
 have N0 := Fr.nil n0
 have C0 : Steps p.tables e below S0 (s₁.setTop (mkF m 0 #[VR t, VI 0, VI 2, .unset, .unset] [])) := by rw [hS0d]; exact castTop (ef_315 m t (0 : Int32) (2 : Int32)) (Steps.refl _)
 obtain ⟨_, _, ⟨T_1, L_1, k_1, n_1⟩, -, X_1, ⟨Lc_1, hQ_1, l_1, y_1, z_1⟩, st_1⟩ := Jvm.LawKit.callS X0 hx (y := M358) hown (mvT hZ (w147 hw)) (mvT hZ (w148 hw)) (mvT hZ (w142 hw)) (mvT hZ (w149 hw)) (by decide) (backOf (W := 0) (rm_ckl l Z a0 hw [] G1 G3 HG h0 n0 X00 (0 : Int32) (2 : Int32) (by decide)) hZ (w149 hw) (w142 hw) (by decide) (by decide)) (g := (mkF m 2 #[VR t, VI 0, VI 2, .unset, .unset] [(.int 2), (.int 0)])) rfl (by rw [hml]; rfl) (argsL := [(.int 0), (.int 2)]) (rest := []) (lenOf pd_369 rfl) rfl (by show 2 * 0 + _ ≤ _; exact Nat.le_of_eq rfl) (hb hby d20_2) (fun _ _ => ⟨rfl, e0, (by decide : 0 + 0 ≤ _), (by decide : 0 + 0 ≤ _)⟩)
 dsimp only [Pt.U, Pt.locs, Pt.cells, Pt.slots] at X_1 l_1 y_1 z_1 st_1 hQ_1
 subst l_1 y_1 z_1
 obtain ⟨rfl, N_2, e_3⟩ := hQ_1
 have N_4 := Fr.app N0 N_2
 have e_5 : T_1.heap = h0 := e_3
 obtain ⟨T_6, h_7, k_8, X_9, e_10, E_11, A_12, st_13⟩ := newP (aty := .byte) X_1 hx hZ (w23 hw) e_5 (g := (mkF m 10 #[VR t, VI 0, VI 2, VI 2, .unset] [(.int 2)])) rfl (hb hby d20_10) rfl (by decide : ¬ ((2 : Int32) < (0 : Int32))) (cap := 2) (by decide : (2 : Int32).toNatClampNeg ≤ 2) (by decide) (by decide) (by decide)
 obtain ⟨a_14, g_15⟩ : ∃ z, z = h0.size := ⟨_, rfl⟩
 rw [← g_15] at A_12 st_13
 have V_17 : Arv Z h_7 a_14 k_8 .byte (2 : Int32) [] (.int 0) := Arv.new A_12 (by decide : ¬ ((2 : Int32) < (0 : Int32)))
 have V_16 : Arv Z h_7 a_14 k_8 .byte (2 : Int32) [(.int 0), (.int 0)] (.int 0) := (V_17.pad (pad_rep [] (.int 0) 2))
 have V_18 : Arv Z h_7 t kt .byte (3 : Int32) [(.int y0), (.int y1), (.int y2)] (.int 0) := (hp0.ext E_11)
 obtain ⟨c_19, A_20, q_21, S_22, M_23, H_24, U_25⟩ := id V_18
 have O_26 : Old Z n0 h_7 := (X00.ext E_11)
 obtain ⟨_, _, ⟨T_27, L_27, k_27, n_27⟩, -, X_27, ⟨Lc_27, hQ_27, l_27, y_27, z_27⟩, st_27⟩ := Jvm.LawKit.callS X_9 hx (y := M175) hown (mvT hZ (w150 hw)) (mvT hZ (w90 hw)) (mvT hZ (w87 hw)) (mvT hZ (w91 hw)) (by decide) (backOf (W := 4) (rm_minR l Z a0 hw [] G1 G3 HG h_7 n0 O_26 (3 : Int32) (2 : Int32) (by decide)) hZ (w91 hw) (w87 hw) (by decide) (by decide)) (g := (mkF m 24 #[VR t, VI 0, VI 2, VI 2, VR a_14] [(.int 2), (.int 3), (.int 0), (.ref a_14), (.int 0), (.ref t)])) rfl (by rw [hml]; rfl) (argsL := [(.int 3), (.int 2)]) (rest := [(.int 0), (.ref a_14), (.int 0), (.ref t)]) (lenOf pd_197 rfl) rfl (by show 2 * 0 + _ ≤ _; exact Nat.le_of_eq rfl) (hb hby d20_24) (fun _ _ => ⟨rfl, e_10, (by decide : 1 + 0 ≤ _), (by decide : 2 + 0 ≤ _)⟩)
 dsimp only [Pt.U, Pt.locs, Pt.cells, Pt.slots] at X_27 l_27 y_27 z_27 st_27 hQ_27
 subst l_27 y_27 z_27
 obtain ⟨rfl, N_28, e_29⟩ := hQ_27
 have N_30 := Fr.app N_4 N_28
 have e_31 : T_27.heap = h_7 := e_29
 obtain ⟨T_32, h_33, L_34, X_35, e_36, N_37, K_38, V_39, st_40⟩ := cpA X_27 hx hZ hown (w151 hw) (w154 hw) (w152 hw) (w153 hw) e_31 V_18 V_16 (sp := (0 : Int32)) (dp := (0 : Int32)) (nn := (2 : Int32)) (us := [(.int y0), (.int y1)]) (Or.inl ⟨rfl, rfl⟩) (by decide) (by decide) (by decide) (by decide) (by decide) rfl (Nat.le_of_ble_eq_true rfl) N_30 (Nat.le_trans (own_n0 X00) (Nat.le_of_eq g_15.symm)) (g := (mkF m 27 #[VR t, VI 0, VI 2, VI 2, VR a_14] [(.int 2), (.int 0), (.ref a_14), (.int 0), (.ref t)])) rfl (by rw [hml]; rfl) rfl (hb hby d20_27) (by decide) (W := 0) (by show 2 * 0 + _ ≤ _; exact Nat.le_of_eq rfl) (by decide)
 have V_41 : Arv Z h_33 a_14 k_8 .byte (2 : Int32) [(.int y0), (.int y1)] (.int 0) := V_39
 have C_42 : Steps p.tables e below S0 (T_32.setTop (mkF m 32 #[VR t, VI 0, VI 2, VI 2, VR a_14] [(.ref a_14)])) := by
  refine C0.trans ?_
  refine XS.iloadN X0.here hx rfl (hb hby d20_0) rfl ?_
  refine XS.iloadN X0.here hx rfl (hb hby d20_1) rfl ?_
  refine st_1 _ ?_
  refine XS.iloadN X_1.here hx rfl (hb hby d20_5) rfl ?_
  refine XS.iloadN X_1.here hx rfl (hb hby d20_6) rfl ?_
  refine XS.isub X_1.here hx rfl (hb hby d20_7) rfl ?_
  refine XS.istoreN X_1.here hx rfl (hb hby d20_8) rfl (l' := #[VR t, VI 0, VI 2, VI 2, .unset]) rfl ?_
  refine XS.iloadN X_1.here hx rfl (hb hby d20_9) rfl ?_
  refine st_13 _ ?_
  refine XS.astore X_9.here hx rfl (hb hby d20_12) rfl rfl (l' := #[VR t, VI 0, VI 2, VI 2, VR a_14]) rfl ?_
  refine XS.aloadN X_9.here hx rfl (hb hby d20_14) rfl rfl ?_
  refine XS.iloadN X_9.here hx rfl (hb hby d20_15) rfl ?_
  refine XS.aload X_9.here hx rfl (hb hby d20_16) rfl rfl ?_
  refine XS.iconst X_9.here hx rfl (hb hby d20_18) ?_
  refine XS.aloadN X_9.here hx rfl (hb hby d20_19) rfl rfl ?_
  refine X_9.arraylength hx (by rw [e_10]; exact A_20.1) (State.isArrayOf_alike hZ.alike A_20.2.1) (g := (mkF m 20 #[VR t, VI 0, VI 2, VI 2, VR a_14] [(.ref t), (.int 0), (.ref a_14), (.int 0), (.ref t)])) rfl rfl (hb hby d20_20) _ ?_
  rw [len_of S_22 M_23]
  show Steps p.tables e below (T_6.setTop (mkF m 21 #[VR t, VI 0, VI 2, VI 2, VR a_14] [(.int 3), (.int 0), (.ref a_14), (.int 0), (.ref t)])) _
  refine XS.iloadN X_9.here hx rfl (hb hby d20_21) rfl ?_
  refine XS.isub X_9.here hx rfl (hb hby d20_22) rfl ?_
  refine XS.iloadN X_9.here hx rfl (hb hby d20_23) rfl ?_
  refine st_27 _ ?_
  refine st_40 _ ?_
  refine XS.aload X_35.here hx rfl (hb hby d20_30) rfl rfl ?_
  exact Steps.refl _
 have K_43 : Keep h0 h_33 [] := (((Keep.refl _ _).ext E_11).trans K_38 (allS (Or.inr (Nat.le_trans (Nat.le_refl _) (Nat.le_of_eq g_15.symm))) all0))
 obtain ⟨fs, hr, hrun, hended, hW, hsame⟩ := X_35.leave (v := some (.ref a_14)) (fun h => by rw [Bd.returns] at h; cases h)
 refine ⟨_, _, C_42.trans (retOut X_35 hx Bd.returns rfl (Or.inr (Or.inr (Or.inr (Or.inr ⟨rfl, rfl, rfl⟩)))) (hb hby d20_32) hr), hrun, hended, _, _, rfl, ?_, ⟨_, rfl⟩, hW, hsame.mono (by decide) (by decide)⟩
 show Q_crb_3_2 Z G1 G3 t kt y0 y1 y2 h0 n0 (some (.ref a_14)) T_32.heap _
 rw [e_36]
 exact ⟨a_14, k_8, rfl, N_37, K_43, (Nat.le_trans (Nat.le_refl _) (Nat.le_of_eq g_15.symm)), V_41⟩
abbrev R_cr_3_2 : Room := { frames := 2, cells := 1, slots := 2, locals := 34 }
def Q_cr_3_2 (Z : State) (G1 : Int32) (G3 : Value) (t : Addr) (kt : ClassId) (y0 : Int32) (y1 : Int32) (y2 : Int32) (h0 : Heap) (n0 : Nat) (v : Option Value) (h : Heap) (L : List Loc) : Prop := (∃ u : Addr, ∃ ku : ClassId, v = some (.ref u) ∧ Fr n0 L ∧ Keep h0 h [] ∧ (h0.size ≤ u) ∧ (Arv Z h u ku .byte (2 : Int32) [(.int y0), (.int y1)] (.int 0)))
theorem rm_cr_3_2 (l : Launch) (Z : State) (a0 : Array Value) (hw : HW Z a0) (ws : List Jvm.Cond) (G1 : Int32) (G3 : Value) (HG : own_G l Z a0 G1 G3) (h0 : Heap) (n0 : Nat) (X00 : Old Z n0 h0) (t : Addr) (kt : ClassId) (y0 : Int32) (y1 : Int32) (y2 : Int32) (hp0 : Arv Z h0 t kt .byte (3 : Int32) [(.int y0), (.int y1), (.int y2)] (.int 0)) :
  own_CP l Z M398 jdk_65_method_132_code 3 (some (.array .byte)) ws R_cr_3_2 #[(.ref t), (.int 0), (.int 2)] h0 (Q_cr_3_2 Z G1 G3 t kt y0 y1 y2 h0 n0) := by
 refine own_P (plainFor_of_name pn_359) ?_
 intro p e s m below meth c s₁ S0 Bd hZ hh hx hby hml hown hnm X0 e0 hS0d
 obtain ⟨O1, P1, O3f, rG3⟩ := id HG
 have N0 := Fr.nil n0
 have C0 : Steps p.tables e below S0 (s₁.setTop (mkF m 0 #[VR t, VI 0, VI 2] [])) := by rw [hS0d]; exact castTop (ef_216 m t (0 : Int32) (2 : Int32)) (Steps.refl _)
 obtain ⟨c_1, A_2, q_3, S_4, M_5, H_6, U_7⟩ := id hp0
 obtain ⟨_, _, ⟨T_8, L_8, k_8, n_8⟩, -, X_8, ⟨Lc_8, hQ_8, l_8, y_8, z_8⟩, st_8⟩ := Jvm.LawKit.callS X0 hx (y := M364) hown (mvT hZ (w144 hw)) (mvT hZ (w145 hw)) (mvT hZ (w142 hw)) (mvT hZ (w146 hw)) (by decide) (backOf (W := 0) (rm_crb_3_2 l Z a0 hw [] G1 G3 HG h0 n0 X00 t kt y0 y1 y2 hp0) hZ (w146 hw) (w142 hw) (by decide) (by decide)) (g := (mkF m 13 #[VR t, VI 0, VI 2] [(.int 2), (.int 0), (.ref t)])) rfl (by rw [hml]; rfl) (argsL := [(.ref t), (.int 0), (.int 2)]) (rest := []) (lenOf pd_409 rfl) rfl (by show 2 * 0 + _ ≤ _; exact Nat.le_of_eq rfl) (hb hby d21_13) (fun _ _ => ⟨rfl, e0, (by decide : 0 + 1 ≤ _), (by decide : 0 + 2 ≤ _)⟩)
 dsimp only [Pt.U, Pt.locs, Pt.cells, Pt.slots] at X_8 l_8 y_8 z_8 st_8 hQ_8
 subst l_8 y_8 z_8
 obtain ⟨a_9, k_10, rfl, N_11, K_12, g_13, g_14⟩ := hQ_8
 have N_15 := Fr.app N0 N_11
 have C_16 : Steps p.tables e below S0 (T_8.setTop (mkF m 16 #[VR t, VI 0, VI 2] [(.ref a_9)])) := by
  refine C0.trans ?_
  refine XS.iloadN X0.here hx rfl (hb hby d21_0) rfl ?_
  refine XS.ifNo X0.here hx rfl (hb hby d21_1) rfl (by decide) ?_
  refine XS.iloadN X0.here hx rfl (hb hby d21_4) rfl ?_
  refine XS.aloadN X0.here hx rfl (hb hby d21_5) rfl rfl ?_
  refine X0.arraylength hx (by rw [e0]; exact A_2.1) (State.isArrayOf_alike hZ.alike A_2.2.1) (g := (mkF m 6 #[VR t, VI 0, VI 2] [(.ref t), (.int 2)])) rfl rfl (hb hby d21_6) _ ?_
  rw [len_of S_4 M_5]
  refine XS.icmpNo X0.here hx rfl (hb hby d21_7) rfl (by decide) ?_
  refine XS.aloadN X0.here hx rfl (hb hby d21_10) rfl rfl ?_
  refine XS.iloadN X0.here hx rfl (hb hby d21_11) rfl ?_
  refine XS.iloadN X0.here hx rfl (hb hby d21_12) rfl ?_
  refine st_8 _ ?_
  exact Steps.refl _
 have K_17 : Keep h0 T_8.heap [] := ((Keep.refl _ _).trans K_12 all0)
 obtain ⟨fs, hr, hrun, hended, hW, hsame⟩ := X_8.leave (v := some (.ref a_9)) (fun h => by rw [Bd.returns] at h; cases h)
 refine ⟨_, _, C_16.trans (retOut X_8 hx Bd.returns rfl (Or.inr (Or.inr (Or.inr (Or.inr ⟨rfl, rfl, rfl⟩)))) (hb hby d21_16) hr), hrun, hended, _, _, rfl, ?_, ⟨_, rfl⟩, hW, hsame.mono (by decide) (by decide)⟩
 show Q_cr_3_2 Z G1 G3 t kt y0 y1 y2 h0 n0 (some (.ref a_9)) T_8.heap _
 exact ⟨a_9, k_10, rfl, N_15, K_17, (Nat.le_trans (Nat.le_refl _) g_13), g_14⟩
abbrev R_lns_3_2 : Room := { frames := 3, cells := 2, slots := 6, locals := 50 }
def Q_lns_3_2 (Z : State) (G1 : Int32) (G3 : Value) (t : Addr) (kt : ClassId) (y0 : Int32) (y1 : Int32) (y2 : Int32) (h0 : Heap) (n0 : Nat) (v : Option Value) (h : Heap) (L : List Loc) : Prop := (∃ r : Addr, ∃ u : Addr, ∃ ku : ClassId, v = some (.ref r) ∧ Fr n0 L ∧ Keep h0 h [] ∧ (Exa Z h r "java/lang/String") ∧ (Fld Z h r "java/lang/String" "coder" "B" (.int 0)) ∧ (Fld Z h r "java/lang/String" "value" "[B" (.ref u)) ∧ (Arv Z h u ku .byte (2 : Int32) [(.int y0), (.int y1)] (.int 0)))
theorem rm_lns_3_2 (l : Launch) (Z : State) (a0 : Array Value) (hw : HW Z a0) (ws : List Jvm.Cond) (G1 : Int32) (G3 : Value) (HG : own_G l Z a0 G1 G3) (h0 : Heap) (n0 : Nat) (X00 : Old Z n0 h0) (t : Addr) (kt : ClassId) (y0 : Int32) (y1 : Int32) (y2 : Int32) (hp0 : Arv Z h0 t kt .byte (3 : Int32) [(.int y0), (.int y1), (.int y2)] (.int 0)) :
  own_CP l Z M334 jdk_43_method_47_code 3 (some (.object "java/lang/String")) ws R_lns_3_2 #[(.ref t), (.int 0), (.int 2)] h0 (Q_lns_3_2 Z G1 G3 t kt y0 y1 y2 h0 n0) := by
 refine own_P (plainFor_of_name pn_157) ?_
 intro p e s m below meth c s₁ S0 Bd hZ hh hx hby hml hown hnm X0 e0 hS0d
 obtain ⟨O1, P1, O3f, rG3⟩ := id HG
 have N0 := Fr.nil n0
 have C0 : Steps p.tables e below S0 (s₁.setTop (mkF m 0 #[VR t, VI 0, VI 2] [])) := by rw [hS0d]; exact castTop (ef_216 m t (0 : Int32) (2 : Int32)) (Steps.refl _)
 obtain ⟨T_1, h_2, X_3, e_4, E_5, A_6, D_7, U_11, st_8⟩ := newO X0 hx hZ hown (w139 hw) (w9 hw) (w10 hw) e0 (g := (mkF m 7 #[VR t, VI 0, VI 2] [])) rfl (hb hby d18_7) (by decide) (by decide)
 obtain ⟨a_9, g_10⟩ : ∃ z, z = h0.size := ⟨_, rfl⟩
 rw [← g_10] at A_6 D_7 st_8 U_11
 have V_12 : Arv Z h_2 t kt .byte (3 : Int32) [(.int y0), (.int y1), (.int y2)] (.int 0) := (hp0.ext E_5)
 have O_13 : Old Z n0 h_2 := (X00.ext E_5)
 obtain ⟨_, _, ⟨T_14, L_14, k_14, n_14⟩, -, X_14, ⟨Lc_14, hQ_14, l_14, y_14, z_14⟩, st_14⟩ := Jvm.LawKit.callS X_3 hx (y := M398) hown (mvT hZ (w140 hw)) (mvT hZ (w141 hw)) (mvT hZ (w142 hw)) (mvT hZ (w143 hw)) (by decide) (backOf (W := 2) (rm_cr_3_2 l Z a0 hw [] G1 G3 HG h_2 n0 O_13 t kt y0 y1 y2 V_12) hZ (w143 hw) (w142 hw) (by decide) (by decide)) (g := (mkF m 16 #[VR t, VI 0, VI 2] [(.int 2), (.int 0), (.ref t), (.ref a_9), (.ref a_9)])) rfl (by rw [hml]; rfl) (argsL := [(.ref t), (.int 0), (.int 2)]) (rest := [(.ref a_9), (.ref a_9)]) (lenOf pd_409 rfl) rfl (by show 2 * 0 + _ ≤ _; exact Nat.le_of_eq rfl) (hb hby d18_16) (fun _ _ => ⟨rfl, e_4, (by decide : 1 + 1 ≤ _), (by decide : 4 + 2 ≤ _)⟩)
 dsimp only [Pt.U, Pt.locs, Pt.cells, Pt.slots] at X_14 l_14 y_14 z_14 st_14 hQ_14
 subst l_14 y_14 z_14
 obtain ⟨a_15, k_16, rfl, N_17, K_18, g_19, g_20⟩ := hQ_14
 have N_21 := Fr.app N0 N_17
 have E_22 : Exa Z T_14.heap a_9 "java/lang/String" := (A_6.keep K_18)
 have F_23 : Fld Z T_14.heap a_9 "java/lang/String" "value" "[B" .null := ((D_7 (Or.inr (w24 hw)) (ty := (.array .byte)) (by decide)).keep K_18 nin0)
 have F_24 : Fld Z T_14.heap a_9 "java/lang/String" "coder" "B" (.int 0) := ((D_7 (Or.inr (w25 hw)) (ty := .byte) (by decide)).keep K_18 nin0)
 have O_25 : Old Z n0 T_14.heap := (O_13.keep K_18 all0)
 obtain ⟨_, _, ⟨T_26, L_26, k_26, n_26⟩, -, X_26, ⟨Lc_26, hQ_26, l_26, y_26, z_26⟩, st_26⟩ := X_14.specialBack hx (y := M414) rfl hown (mvT hZ (w155 hw)) (mvT hZ (w156 hw)) (mvT hZ (w157 hw)) (by decide) (backOf (W := 1) (rm_sbb_0 l Z a0 hw [] G1 G3 HG T_14.heap n0 O_25 a_9 a_15 E_22 F_23 F_24 (Nat.le_trans (own_n0 X00) (Nat.le_of_eq g_10.symm))) hZ (w157 hw) (w10 hw) (by decide) (by decide)) (g := (mkF m 20 #[VR t, VI 0, VI 2] [(.int 0), (.ref a_15), (.ref a_9), (.ref a_9)])) rfl (by rw [hml]; rfl) (Steps.refl _) (a := a_9) (argsL := [(.ref a_15), (.int 0)]) (rest := [(.ref a_9)]) (lenOf pd_439 rfl) rfl (by show 2 * 0 + _ ≤ _; exact Nat.le_of_eq rfl) (hb hby d18_20) (fun _ _ => ⟨rfl, rfl, (by decide : 2 + 0 ≤ _), (by decide : 6 + 0 ≤ _)⟩)
 dsimp only [Pt.U, Pt.locs, Pt.cells, Pt.slots] at X_26 l_26 y_26 z_26 st_26 hQ_26
 subst l_26 y_26 z_26
 obtain ⟨rfl, N_27, K_28, g_29, g_30, g_31⟩ := hQ_26
 have N_32 := Fr.app N_21 N_27
 have C_33 : Steps p.tables e below S0 (T_26.setTop (mkF m 23 #[VR t, VI 0, VI 2] [(.ref a_9)])) := by
  refine C0.trans ?_
  refine XS.iloadN X0.here hx rfl (hb hby d18_0) rfl ?_
  refine XS.ifYes X0.here hx rfl (pc0 := 1) (pc' := 7) rfl (hb hby d18_1) rfl (by decide) (by decide) (by decide) ?_
  refine st_8 _ ?_
  refine XS.dup X_3.here hx rfl (hb hby d18_10) rfl rfl ?_
  refine XS.aloadN X_3.here hx rfl (hb hby d18_11) rfl rfl ?_
  refine XS.iloadN X_3.here hx rfl (hb hby d18_12) rfl ?_
  refine XS.iloadN X_3.here hx rfl (hb hby d18_13) rfl ?_
  refine XS.iloadN X_3.here hx rfl (hb hby d18_14) rfl ?_
  refine XS.iadd X_3.here hx rfl (hb hby d18_15) rfl ?_
  refine st_14 _ ?_
  refine XS.iconst X_14.here hx rfl (hb hby d18_19) ?_
  refine st_26.trans ?_
  exact Steps.refl _
 have V_34 : Arv Z T_26.heap a_15 k_16 .byte (2 : Int32) [(.int y0), (.int y1)] (.int 0) := (g_20.keep K_28 (ninS (Ne.symm (Nat.ne_of_lt (Nat.lt_of_lt_of_le A_6.lt (Nat.le_trans (Nat.le_refl _) g_19)))) nin0))
 have K_35 : Keep h0 T_26.heap [] := ((((Keep.refl _ _).ext E_5).trans K_18 all0).trans K_28 (allS (Or.inr (Nat.le_trans (Nat.le_refl _) (Nat.le_of_eq g_10.symm))) all0))
 obtain ⟨fs, hr, hrun, hended, hW, hsame⟩ := X_26.leave (v := some (.ref a_9)) (fun h => by rw [Bd.returns] at h; cases h)
 refine ⟨_, _, C_33.trans (retOut X_26 hx Bd.returns rfl (Or.inr (Or.inr (Or.inr (Or.inr ⟨rfl, rfl, rfl⟩)))) (hb hby d18_23) hr), hrun, hended, _, _, rfl, ?_, ⟨_, rfl⟩, hW, hsame.mono (by decide) (by decide)⟩
 show Q_lns_3_2 Z G1 G3 t kt y0 y1 y2 h0 n0 (some (.ref a_9)) T_26.heap _
 exact ⟨a_9, a_15, k_16, rfl, N_32, K_35, g_29, g_30, g_31, V_34⟩
abbrev R_sub_3_2 : Room := { frames := 4, cells := 2, slots := 6, locals := 64 }
def Q_sub_3_2 (Z : State) (G1 : Int32) (G3 : Value) (x : Addr) (t : Addr) (kt : ClassId) (y0 : Int32) (y1 : Int32) (y2 : Int32) (h0 : Heap) (n0 : Nat) (v : Option Value) (h : Heap) (L : List Loc) : Prop := (∃ r : Addr, ∃ u : Addr, ∃ ku : ClassId, v = some (.ref r) ∧ Fr n0 L ∧ Keep h0 h [] ∧ (Exa Z h r "java/lang/String") ∧ (Fld Z h r "java/lang/String" "coder" "B" (.int 0)) ∧ (Fld Z h r "java/lang/String" "value" "[B" (.ref u)) ∧ (Arv Z h u ku .byte (2 : Int32) [(.int y0), (.int y1)] (.int 0)))
theorem rm_sub_3_2 (l : Launch) (Z : State) (a0 : Array Value) (hw : HW Z a0) (ws : List Jvm.Cond) (G1 : Int32) (G3 : Value) (HG : own_G l Z a0 G1 G3) (h0 : Heap) (n0 : Nat) (X00 : Old Z n0 h0) (x : Addr) (t : Addr) (kt : ClassId) (y0 : Int32) (y1 : Int32) (y2 : Int32) (hp0 : Exa Z h0 x "java/lang/String") (hp1 : Fld Z h0 x "java/lang/String" "coder" "B" (.int 0)) (hp2 : Fld Z h0 x "java/lang/String" "value" "[B" (.ref t)) (hp3 : Arv Z h0 t kt .byte (3 : Int32) [(.int y0), (.int y1), (.int y2)] (.int 0)) :
  own_CP l Z M314 jdk_42_method_92_code 5 (some (.object "java/lang/String")) ws R_sub_3_2 #[(.ref x), (.int 0), (.int 2)] h0 (Q_sub_3_2 Z G1 G3 x t kt y0 y1 y2 h0 n0) := by
 refine own_P (plainFor_of_name pn_2) ?_
 intro p e s m below meth c s₁ S0 Bd hZ hh hx hby hml hown hnm X0 e0 hS0d
 obtain ⟨O1, P1, O3f, rG3⟩ := id HG
 have N0 := Fr.nil n0
 have C0 : Steps p.tables e below S0 (s₁.setTop (mkF m 0 #[VR x, VI 0, VI 2, .unset, .unset] [])) := by rw [hS0d]; exact castTop (ef_315 m x (0 : Int32) (2 : Int32)) (Steps.refl _)
 obtain ⟨q_2, q_3, q_4, q_5, q_6⟩ := isOf (T := s₁) hZ e0 hp0
 obtain ⟨_, _, ⟨T_1, L_1, k_1, n_1⟩, -, X_1, ⟨Lc_1, hQ_1, l_1, y_1, z_1⟩, st_1⟩ := X0.virtualBack hx (y := M141) (z := M141) hown (mvT hZ (w68 hw)) (mvT hZ (w69 hw)) (notFace_of_selects (args := #[]) (mvT hZ (w71 hw))) (mvT hZ (w71 hw)) (mvT hZ (w70 hw)) (by decide) (backOf (W := 0) (rm_lenany l Z a0 hw [] G1 G3 HG h0 n0 X00 x t kt (3 : Int32) [(.int y0), (.int y1), (.int y2)] hp0 hp1 hp2 hp3) hZ (w72 hw) (w10 hw) (by decide) (by decide)) q_4 q_6 (g := (mkF m 1 #[VR x, VI 0, VI 2, .unset, .unset] [(.ref x)])) rfl (by rw [hml]; rfl) (Steps.refl _) (argsL := []) (rest := []) (lenOf pd_232 rfl) rfl (by show 2 * 0 + _ ≤ _; exact Nat.le_of_eq rfl) (hb hby d17_1) (fun _ _ => ⟨rfl, e0, (by decide : 0 + 0 ≤ _), (by decide : 0 + 0 ≤ _)⟩)
 dsimp only [Pt.U, Pt.locs, Pt.cells, Pt.slots] at X_1 l_1 y_1 z_1 st_1 hQ_1
 subst l_1 y_1 z_1
 obtain ⟨rfl, N_7, e_8⟩ := hQ_1
 have N_9 := Fr.app N0 N_7
 have e_10 : T_1.heap = h0 := e_8
 obtain ⟨_, _, ⟨T_11, L_11, k_11, n_11⟩, -, X_11, ⟨Lc_11, hQ_11, l_11, y_11, z_11⟩, st_11⟩ := Jvm.LawKit.callS X_1 hx (y := M299) hown (mvT hZ (w99 hw)) (mvT hZ (w100 hw)) (mvT hZ (w10 hw)) (mvT hZ (w101 hw)) (by decide) (backOf (W := 0) (rm_cbb l Z a0 hw [] G1 G3 HG h0 n0 X00 (0 : Int32) (2 : Int32) (3 : Int32) (by decide) (by decide) (by decide)) hZ (w101 hw) (w10 hw) (by decide) (by decide)) (g := (mkF m 8 #[VR x, VI 0, VI 2, VI 3, .unset] [(.int 3), (.int 2), (.int 0)])) rfl (by rw [hml]; rfl) (argsL := [(.int 0), (.int 2), (.int 3)]) (rest := []) (lenOf pd_323 rfl) rfl (by show 2 * 0 + _ ≤ _; exact Nat.le_of_eq rfl) (hb hby d17_8) (fun _ _ => ⟨rfl, e_10, (by decide : 0 + 0 ≤ _), (by decide : 0 + 0 ≤ _)⟩)
 dsimp only [Pt.U, Pt.locs, Pt.cells, Pt.slots] at X_11 l_11 y_11 z_11 st_11 hQ_11
 subst l_11 y_11 z_11
 obtain ⟨rfl, N_12, e_13⟩ := hQ_11
 have N_14 := Fr.app N_9 N_12
 have e_15 : T_11.heap = h0 := e_13
 obtain ⟨q_17, q_18, q_19, q_20, q_21⟩ := isOf (T := T_11) hZ e_15 hp0
 obtain ⟨_, _, ⟨T_16, L_16, k_16, n_16⟩, -, X_16, ⟨Lc_16, hQ_16, l_16, y_16, z_16⟩, st_16⟩ := X_11.virtualBack hx (y := M132) (z := M132) hown (mvT hZ (w62 hw)) (mvT hZ (w63 hw)) (notFace_of_selects (args := #[]) (mvT hZ (w65 hw))) (mvT hZ (w65 hw)) (mvT hZ (w64 hw)) (by decide) (backOf (W := 0) (rm_islat l Z a0 hw [] G1 G3 HG h0 n0 X00 x hp1) hZ (w66 hw) (w10 hw) (by decide) (by decide)) q_19 q_21 (g := (mkF m 28 #[VR x, VI 0, VI 2, VI 3, VI 2] [(.ref x)])) rfl (by rw [hml]; rfl) (Steps.refl _) (argsL := []) (rest := []) (lenOf pd_219 rfl) rfl (by show 2 * 0 + _ ≤ _; exact Nat.le_of_eq rfl) (hb hby d17_28) (fun _ _ => ⟨rfl, e_15, (by decide : 0 + 0 ≤ _), (by decide : 0 + 0 ≤ _)⟩)
 dsimp only [Pt.U, Pt.locs, Pt.cells, Pt.slots] at X_16 l_16 y_16 z_16 st_16 hQ_16
 subst l_16 y_16 z_16
 obtain ⟨rfl, N_22, e_23⟩ := hQ_16
 have N_24 := Fr.app N_14 N_22
 have e_25 : T_16.heap = h0 := e_23
 obtain ⟨T_26, X_27, e_28, st_29⟩ := getF X_16 hx hZ hown (host := "") (Or.inl (w28 hw)) Via.refl e_25 hp2 (g := (mkF m 35 #[VR x, VI 0, VI 2, VI 3, VI 2] [(.ref x)])) rfl rfl (hb hby d17_35)
 obtain ⟨_, _, ⟨T_30, L_30, k_30, n_30⟩, -, X_30, ⟨Lc_30, hQ_30, l_30, y_30, z_30⟩, st_30⟩ := Jvm.LawKit.callS X_27 hx (y := M334) hown (mvT hZ (w121 hw)) (mvT hZ (w122 hw)) (mvT hZ (w80 hw)) (mvT hZ (w123 hw)) (by decide) (backOf (W := 0) (rm_lns_3_2 l Z a0 hw [] G1 G3 HG h0 n0 X00 t kt y0 y1 y2 hp3) hZ (w123 hw) (w80 hw) (by decide) (by decide)) (g := (mkF m 41 #[VR x, VI 0, VI 2, VI 3, VI 2] [(.int 2), (.int 0), (.ref t)])) rfl (by rw [hml]; rfl) (argsL := [(.ref t), (.int 0), (.int 2)]) (rest := []) (lenOf pd_352 rfl) rfl (by show 2 * 0 + _ ≤ _; exact Nat.le_of_eq rfl) (hb hby d17_41) (fun _ _ => ⟨rfl, e_28, (by decide : 0 + 2 ≤ _), (by decide : 0 + 6 ≤ _)⟩)
 dsimp only [Pt.U, Pt.locs, Pt.cells, Pt.slots] at X_30 l_30 y_30 z_30 st_30 hQ_30
 subst l_30 y_30 z_30
 obtain ⟨a_31, a_32, k_33, rfl, N_34, K_35, g_36, g_37, g_38, g_39⟩ := hQ_30
 have N_40 := Fr.app N_24 N_34
 have C_41 : Steps p.tables e below S0 (T_30.setTop (mkF m 57 #[VR x, VI 0, VI 2, VI 3, VI 2] [(.ref a_31)])) := by
  refine C0.trans ?_
  refine XS.aloadN X0.here hx rfl (hb hby d17_0) rfl rfl ?_
  refine st_1.trans ?_
  refine XS.istoreN X_1.here hx rfl (hb hby d17_4) rfl (l' := #[VR x, VI 0, VI 2, VI 3, .unset]) rfl ?_
  refine XS.iloadN X_1.here hx rfl (hb hby d17_5) rfl ?_
  refine XS.iloadN X_1.here hx rfl (hb hby d17_6) rfl ?_
  refine XS.iloadN X_1.here hx rfl (hb hby d17_7) rfl ?_
  refine st_11 _ ?_
  refine XS.iloadN X_11.here hx rfl (hb hby d17_11) rfl ?_
  refine XS.ifNo X_11.here hx rfl (hb hby d17_12) rfl (by decide) ?_
  refine XS.iloadN X_11.here hx rfl (hb hby d17_15) rfl ?_
  refine XS.iloadN X_11.here hx rfl (hb hby d17_16) rfl ?_
  refine XS.icmpYes X_11.here hx rfl (pc0 := 17) (pc' := 22) rfl (hb hby d17_17) rfl (by decide) (by decide) (by decide) ?_
  refine XS.iloadN X_11.here hx rfl (hb hby d17_22) rfl ?_
  refine XS.iloadN X_11.here hx rfl (hb hby d17_23) rfl ?_
  refine XS.isub X_11.here hx rfl (hb hby d17_24) rfl ?_
  refine XS.istore X_11.here hx rfl (hb hby d17_25) rfl (l' := #[VR x, VI 0, VI 2, VI 3, VI 2]) rfl ?_
  show Steps p.tables e below (T_11.setTop (mkF m 27 #[VR x, VI 0, VI 2, VI 3, VI 2] [])) _
  refine XS.aloadN X_11.here hx rfl (hb hby d17_27) rfl rfl ?_
  refine st_16.trans ?_
  refine XS.ifNo X_16.here hx rfl (hb hby d17_31) rfl (by decide) ?_
  refine XS.aloadN X_16.here hx rfl (hb hby d17_34) rfl rfl ?_
  refine st_29 _ ?_
  refine XS.iloadN X_27.here hx rfl (hb hby d17_38) rfl ?_
  refine XS.iload X_27.here hx rfl (hb hby d17_39) rfl ?_
  refine st_30 _ ?_
  refine XS.goto X_30.here hx rfl (pc0 := 44) (pc' := 57) rfl (hb hby d17_44) (by decide) (by decide) ?_
  exact Steps.refl _
 have K_42 : Keep h0 T_30.heap [] := ((Keep.refl _ _).trans K_35 all0)
 obtain ⟨fs, hr, hrun, hended, hW, hsame⟩ := X_30.leave (v := some (.ref a_31)) (fun h => by rw [Bd.returns] at h; cases h)
 refine ⟨_, _, C_41.trans (retOut X_30 hx Bd.returns rfl (Or.inr (Or.inr (Or.inr (Or.inr ⟨rfl, rfl, rfl⟩)))) (hb hby d17_57) hr), hrun, hended, _, _, rfl, ?_, ⟨_, rfl⟩, hW, hsame.mono (by decide) (by decide)⟩
 show Q_sub_3_2 Z G1 G3 x t kt y0 y1 y2 h0 n0 (some (.ref a_31)) T_30.heap _
 exact ⟨a_31, a_32, k_33, rfl, N_40, K_42, g_36, g_37, g_38, g_39⟩
abbrev R_lns_4_0 : Room := { frames := 0, cells := 2, slots := 4, locals := 0 }
def Q_lns_4_0 (Z : State) (G1 : Int32) (G3 : Value) (t : Addr) (kt : ClassId) (y0 : Int32) (y1 : Int32) (y2 : Int32) (y3 : Int32) (h0 : Heap) (n0 : Nat) (v : Option Value) (h : Heap) (L : List Loc) : Prop := (∃ r : Addr, ∃ u : Addr, ∃ ku : ClassId, v = some (.ref r) ∧ Fr n0 L ∧ Keep h0 h [] ∧ (Exa Z h r "java/lang/String") ∧ (Fld Z h r "java/lang/String" "coder" "B" (.int 0)) ∧ (Fld Z h r "java/lang/String" "value" "[B" (.ref u)) ∧ (Arv Z h u ku .byte (0 : Int32) [] (.int 0)))
theorem rm_lns_4_0 (l : Launch) (Z : State) (a0 : Array Value) (hw : HW Z a0) (ws : List Jvm.Cond) (G1 : Int32) (G3 : Value) (HG : own_G l Z a0 G1 G3) (h0 : Heap) (n0 : Nat) (X00 : Old Z n0 h0) (t : Addr) (kt : ClassId) (y0 : Int32) (y1 : Int32) (y2 : Int32) (y3 : Int32) (hp0 : Arv Z h0 t kt .byte (4 : Int32) [(.int y0), (.int y1), (.int y2), (.int y3)] (.int 0)) :
  own_CH l Z M334 jdk_43_method_47_code 3 (some (.object "java/lang/String")) ws R_lns_4_0 #[(.ref t), (.int 0), (.int 0)] h0 (Q_lns_4_0 Z G1 G3 t kt y0 y1 y2 y3 h0 n0) := by
 refine own_H (plainFor_of_name pn_157) ?_
 intro p e s m below meth c s₁ S0 Bd hZ hh CH0 hS0 CR0 hx hby hml hown hnm X0 e0 hS0d
 obtain ⟨O1, P1, O3f, rG3⟩ := id HG
 have hEL := own_EL hw
 have hSA := own_SA hw
 have N0 := Fr.nil n0
 have C0 : Steps p.tables e below S0 (s₁.setTop (mkF m 0 #[VR t, VI 0, VI 0] [])) := by rw [hS0d]; exact castTop (ef_216 m t (0 : Int32) (0 : Int32)) (Steps.refl _)
 obtain ⟨a_1, T_2, h_3, k1_4, b_5, k_6, X_7, e_8, E_9, S_10, hk_11, hZ_12, ho_13, Ex_14, Fc_15, Fv_16, Va_17, la_18, lb_19, R_20, L_21, Sf_22, st_23⟩ := ldcCH (vm0 := s.vm) X0 hx hZ hown (w124 hw) hSA e0 hS0 (Nat.le_refl _) hEL (by decide) CH0 (vs := []) (z := (0 : Int32)) ⟨by decide, by decide⟩ (by decide) (by decide) (g := (mkF m 4 #[VR t, VI 0, VI 0] [])) rfl (hb hby d18_4) (n := 0) (by decide) (by decide) (by decide) (by decide)
 have CH_24 : CHv Z consts_1 T_2.vm h_3 := R_20.1
 have CR_25 : CHr Z consts_1 s.vm h0 T_2.vm h_3 := CR0.trans R_20
 have C_26 : Steps p.tables e below S0 (T_2.setTop (mkF m 6 #[VR t, VI 0, VI 0] [(.ref a_1)])) := by
  refine C0.trans ?_
  refine XS.iloadN X0.here hx rfl (hb hby d18_0) rfl ?_
  refine XS.ifNo X0.here hx rfl (hb hby d18_1) rfl (by decide) ?_
  refine st_23 _ ?_
  exact Steps.refl _
 have K_27 : Keep h0 h_3 [] := ((Keep.refl _ _).ext E_9)
 obtain ⟨fs, hr, hrun, hended, hRE⟩ := X_7.leaveW S_10 (by rw [show T_2.heap = h_3 from e_8]; exact hk_11) (v := some (.ref a_1)) (fun h => by rw [Bd.returns] at h; cases h)
 refine ⟨_, _, C_26.trans (retOut X_7 hx Bd.returns rfl (Or.inr (Or.inr (Or.inr (Or.inr ⟨rfl, rfl, rfl⟩)))) (hb hby d18_6) hr), hrun, hended, _, _, rfl, ?_, ?_, hRE.1, hRE.2.1, hRE.2.2.1, hRE.2.2.2.mono (by decide) (by decide)⟩
 ·show Q_lns_4_0 Z G1 G3 t kt y0 y1 y2 y3 h0 n0 (some (.ref a_1)) T_2.heap _
  rw [e_8]
  exact ⟨a_1, b_5, k_6, rfl, N0, K_27, Ex_14, Fc_15, Fv_16, Va_17⟩
 ·show CHr Z consts_1 s.vm s.heap T_2.vm T_2.heap
  rw [hh, show T_2.heap = h_3 from e_8]
  exact CR_25.trans (CHv.at X_7 hZ_12 hEL CH_24)
abbrev R_sub_4_0 : Room := { frames := 2, cells := 2, slots := 4, locals := 29 }
def Q_sub_4_0 (Z : State) (G1 : Int32) (G3 : Value) (x : Addr) (t : Addr) (kt : ClassId) (y0 : Int32) (y1 : Int32) (y2 : Int32) (y3 : Int32) (h0 : Heap) (n0 : Nat) (v : Option Value) (h : Heap) (L : List Loc) : Prop := (∃ r : Addr, ∃ u : Addr, ∃ ku : ClassId, v = some (.ref r) ∧ Fr n0 L ∧ Keep h0 h [] ∧ (Exa Z h r "java/lang/String") ∧ (Fld Z h r "java/lang/String" "coder" "B" (.int 0)) ∧ (Fld Z h r "java/lang/String" "value" "[B" (.ref u)) ∧ (Arv Z h u ku .byte (0 : Int32) [] (.int 0)))
theorem rm_sub_4_0 (l : Launch) (Z : State) (a0 : Array Value) (hw : HW Z a0) (ws : List Jvm.Cond) (G1 : Int32) (G3 : Value) (HG : own_G l Z a0 G1 G3) (h0 : Heap) (n0 : Nat) (X00 : Old Z n0 h0) (x : Addr) (t : Addr) (kt : ClassId) (y0 : Int32) (y1 : Int32) (y2 : Int32) (y3 : Int32) (hp0 : Exa Z h0 x "java/lang/String") (hp1 : Fld Z h0 x "java/lang/String" "coder" "B" (.int 0)) (hp2 : Fld Z h0 x "java/lang/String" "value" "[B" (.ref t)) (hp3 : Arv Z h0 t kt .byte (4 : Int32) [(.int y0), (.int y1), (.int y2), (.int y3)] (.int 0)) :
  own_CH l Z M314 jdk_42_method_92_code 5 (some (.object "java/lang/String")) ws R_sub_4_0 #[(.ref x), (.int 0), (.int 0)] h0 (Q_sub_4_0 Z G1 G3 x t kt y0 y1 y2 y3 h0 n0) := by
 refine own_H (plainFor_of_name pn_2) ?_
 intro p e s m below meth c s₁ S0 Bd hZ hh CH0 hS0 CR0 hx hby hml hown hnm X0 e0 hS0d
 obtain ⟨O1, P1, O3f, rG3⟩ := id HG
 have hEL := own_EL hw
 have hSA := own_SA hw
 have N0 := Fr.nil n0
 have C0 : Steps p.tables e below S0 (s₁.setTop (mkF m 0 #[VR x, VI 0, VI 0, .unset, .unset] [])) := by rw [hS0d]; exact castTop (ef_315 m x (0 : Int32) (0 : Int32)) (Steps.refl _)
 obtain ⟨q_2, q_3, q_4, q_5, q_6⟩ := isOf (T := s₁) hZ e0 hp0
 obtain ⟨_, _, ⟨T_1, L_1, k_1, n_1⟩, -, X_1, ⟨Lc_1, hQ_1, l_1, y_1, z_1⟩, st_1⟩ := X0.virtualBack hx (y := M141) (z := M141) hown (mvT hZ (w68 hw)) (mvT hZ (w69 hw)) (notFace_of_selects (args := #[]) (mvT hZ (w71 hw))) (mvT hZ (w71 hw)) (mvT hZ (w70 hw)) (by decide) (backOf (W := 0) (rm_lenany l Z a0 hw [] G1 G3 HG h0 n0 X00 x t kt (4 : Int32) [(.int y0), (.int y1), (.int y2), (.int y3)] hp0 hp1 hp2 hp3) hZ (w72 hw) (w10 hw) (by decide) (by decide)) q_4 q_6 (g := (mkF m 1 #[VR x, VI 0, VI 0, .unset, .unset] [(.ref x)])) rfl (by rw [hml]; rfl) (Steps.refl _) (argsL := []) (rest := []) (lenOf pd_232 rfl) rfl (by show 2 * 0 + _ ≤ _; exact Nat.le_of_eq rfl) (hb hby d17_1) (fun _ _ => ⟨rfl, e0, (by decide : 0 + 0 ≤ _), (by decide : 0 + 0 ≤ _)⟩)
 dsimp only [Pt.U, Pt.locs, Pt.cells, Pt.slots] at X_1 l_1 y_1 z_1 st_1 hQ_1
 subst l_1 y_1 z_1
 obtain ⟨rfl, N_7, e_8⟩ := hQ_1
 have N_9 := Fr.app N0 N_7
 have e_10 : T_1.heap = h0 := e_8
 obtain ⟨_, _, ⟨T_11, L_11, k_11, n_11⟩, -, X_11, ⟨Lc_11, hQ_11, l_11, y_11, z_11⟩, st_11⟩ := Jvm.LawKit.callS X_1 hx (y := M299) hown (mvT hZ (w99 hw)) (mvT hZ (w100 hw)) (mvT hZ (w10 hw)) (mvT hZ (w101 hw)) (by decide) (backOf (W := 0) (rm_cbb l Z a0 hw [] G1 G3 HG h0 n0 X00 (0 : Int32) (0 : Int32) (4 : Int32) (by decide) (by decide) (by decide)) hZ (w101 hw) (w10 hw) (by decide) (by decide)) (g := (mkF m 8 #[VR x, VI 0, VI 0, VI 4, .unset] [(.int 4), (.int 0), (.int 0)])) rfl (by rw [hml]; rfl) (argsL := [(.int 0), (.int 0), (.int 4)]) (rest := []) (lenOf pd_323 rfl) rfl (by show 2 * 0 + _ ≤ _; exact Nat.le_of_eq rfl) (hb hby d17_8) (fun _ _ => ⟨rfl, e_10, (by decide : 0 + 0 ≤ _), (by decide : 0 + 0 ≤ _)⟩)
 dsimp only [Pt.U, Pt.locs, Pt.cells, Pt.slots] at X_11 l_11 y_11 z_11 st_11 hQ_11
 subst l_11 y_11 z_11
 obtain ⟨rfl, N_12, e_13⟩ := hQ_11
 have N_14 := Fr.app N_9 N_12
 have e_15 : T_11.heap = h0 := e_13
 obtain ⟨q_17, q_18, q_19, q_20, q_21⟩ := isOf (T := T_11) hZ e_15 hp0
 obtain ⟨_, _, ⟨T_16, L_16, k_16, n_16⟩, -, X_16, ⟨Lc_16, hQ_16, l_16, y_16, z_16⟩, st_16⟩ := X_11.virtualBack hx (y := M132) (z := M132) hown (mvT hZ (w62 hw)) (mvT hZ (w63 hw)) (notFace_of_selects (args := #[]) (mvT hZ (w65 hw))) (mvT hZ (w65 hw)) (mvT hZ (w64 hw)) (by decide) (backOf (W := 0) (rm_islat l Z a0 hw [] G1 G3 HG h0 n0 X00 x hp1) hZ (w66 hw) (w10 hw) (by decide) (by decide)) q_19 q_21 (g := (mkF m 28 #[VR x, VI 0, VI 0, VI 4, VI 0] [(.ref x)])) rfl (by rw [hml]; rfl) (Steps.refl _) (argsL := []) (rest := []) (lenOf pd_219 rfl) rfl (by show 2 * 0 + _ ≤ _; exact Nat.le_of_eq rfl) (hb hby d17_28) (fun _ _ => ⟨rfl, e_15, (by decide : 0 + 0 ≤ _), (by decide : 0 + 0 ≤ _)⟩)
 dsimp only [Pt.U, Pt.locs, Pt.cells, Pt.slots] at X_16 l_16 y_16 z_16 st_16 hQ_16
 subst l_16 y_16 z_16
 obtain ⟨rfl, N_22, e_23⟩ := hQ_16
 have N_24 := Fr.app N_14 N_22
 have e_25 : T_16.heap = h0 := e_23
 obtain ⟨T_26, X_27, e_28, st_29⟩ := getF X_16 hx hZ hown (host := "") (Or.inl (w28 hw)) Via.refl e_25 hp2 (g := (mkF m 35 #[VR x, VI 0, VI 0, VI 4, VI 0] [(.ref x)])) rfl rfl (hb hby d17_35)
 obtain ⟨_, _, ⟨T_30, L_30, k_30, n_30⟩, -, Y_30, S_30, G_30, ⟨Lc_30, hQ_30, l_30, y_30, z_30, R_30⟩, st_30⟩ := callSS X_27 hx (y := M334) hown (mvT hZ (w121 hw)) (mvT hZ (w122 hw)) (mvT hZ (w80 hw)) (mvT hZ (w123 hw)) (by decide) (backOfSH (vm0 := s.vm) (W := 0) (rm_lns_4_0 l Z a0 hw [] G1 G3 HG h0 n0 X00 t kt y0 y1 y2 y3 hp3) hZ (w123 hw) (w80 hw) (by decide) (by decide) hEL CH0) (g := (mkF m 41 #[VR x, VI 0, VI 0, VI 4, VI 0] [(.int 0), (.int 0), (.ref t)])) rfl (by rw [hml]; rfl) (argsL := [(.ref t), (.int 0), (.int 0)]) (rest := []) (lenOf pd_352 rfl) rfl (by show 2 * 0 + _ ≤ _; exact Nat.le_of_eq rfl) (hb hby d17_41) (fun _ _ => ⟨rfl, e_28, (by decide : 0 + 2 ≤ _), (by decide : 0 + 4 ≤ _)⟩)
 dsimp only [Pt.U, Pt.locs, Pt.cells, Pt.slots] at Y_30 S_30 G_30 l_30 y_30 z_30 st_30 hQ_30 R_30
 subst l_30 y_30 z_30
 obtain ⟨X_30, hS_30, hZ_30, hown_30⟩ := rebS hS0 (n1 := T_26.heap.size) (by rw [show T_26.heap = h0 from e_28]; exact (Nat.le_refl _)) Y_30 S_30 G_30 hZ hown
 obtain ⟨a_31, a_32, k_33, rfl, N_34, K_35, g_36, g_37, g_38, g_39⟩ := hQ_30
 have N_40 := Fr.app N_24 N_34
 have CH_41 : CHv Z consts_1 T_30.vm T_30.heap := R_30.1
 have CR_42 : CHr Z consts_1 s.vm h0 T_30.vm T_30.heap := CR0.trans R_30
 have C_43 : Steps p.tables e below S0 (T_30.setTop (mkF m 57 #[VR x, VI 0, VI 0, VI 4, VI 0] [(.ref a_31)])) := by
  refine C0.trans ?_
  refine XS.aloadN X0.here hx rfl (hb hby d17_0) rfl rfl ?_
  refine st_1.trans ?_
  refine XS.istoreN X_1.here hx rfl (hb hby d17_4) rfl (l' := #[VR x, VI 0, VI 0, VI 4, .unset]) rfl ?_
  refine XS.iloadN X_1.here hx rfl (hb hby d17_5) rfl ?_
  refine XS.iloadN X_1.here hx rfl (hb hby d17_6) rfl ?_
  refine XS.iloadN X_1.here hx rfl (hb hby d17_7) rfl ?_
  refine st_11 _ ?_
  refine XS.iloadN X_11.here hx rfl (hb hby d17_11) rfl ?_
  refine XS.ifNo X_11.here hx rfl (hb hby d17_12) rfl (by decide) ?_
  refine XS.iloadN X_11.here hx rfl (hb hby d17_15) rfl ?_
  refine XS.iloadN X_11.here hx rfl (hb hby d17_16) rfl ?_
  refine XS.icmpYes X_11.here hx rfl (pc0 := 17) (pc' := 22) rfl (hb hby d17_17) rfl (by decide) (by decide) (by decide) ?_
  refine XS.iloadN X_11.here hx rfl (hb hby d17_22) rfl ?_
  refine XS.iloadN X_11.here hx rfl (hb hby d17_23) rfl ?_
  refine XS.isub X_11.here hx rfl (hb hby d17_24) rfl ?_
  refine XS.istore X_11.here hx rfl (hb hby d17_25) rfl (l' := #[VR x, VI 0, VI 0, VI 4, VI 0]) rfl ?_
  show Steps p.tables e below (T_11.setTop (mkF m 27 #[VR x, VI 0, VI 0, VI 4, VI 0] [])) _
  refine XS.aloadN X_11.here hx rfl (hb hby d17_27) rfl rfl ?_
  refine st_16.trans ?_
  refine XS.ifNo X_16.here hx rfl (hb hby d17_31) rfl (by decide) ?_
  refine XS.aloadN X_16.here hx rfl (hb hby d17_34) rfl rfl ?_
  refine st_29 _ ?_
  refine XS.iloadN X_27.here hx rfl (hb hby d17_38) rfl ?_
  refine XS.iload X_27.here hx rfl (hb hby d17_39) rfl ?_
  refine st_30.trans ?_
  refine XS.goto X_30.here hx rfl (pc0 := 44) (pc' := 57) rfl (hb hby d17_44) (by decide) (by decide) ?_
  exact Steps.refl _
 have K_44 : Keep h0 T_30.heap [] := ((Keep.refl _ _).trans K_35 all0)
 obtain ⟨fs, hr, hrun, hended, hRE⟩ := X_30.leaveW hS_30 (by rw [show T_30.heap = T_30.heap from rfl]; exact (Nat.le_refl _)) (v := some (.ref a_31)) (fun h => by rw [Bd.returns] at h; cases h)
 refine ⟨_, _, C_43.trans (retOut X_30 hx Bd.returns rfl (Or.inr (Or.inr (Or.inr (Or.inr ⟨rfl, rfl, rfl⟩)))) (hb hby d17_57) hr), hrun, hended, _, _, rfl, ?_, ?_, hRE.1, hRE.2.1, hRE.2.2.1, hRE.2.2.2.mono (by decide) (by decide)⟩
 ·show Q_sub_4_0 Z G1 G3 x t kt y0 y1 y2 y3 h0 n0 (some (.ref a_31)) T_30.heap _
  exact ⟨a_31, a_32, k_33, rfl, N_40, K_44, g_36, g_37, g_38, g_39⟩
 ·show CHr Z consts_1 s.vm s.heap T_30.vm T_30.heap
  rw [hh]
  exact CR_42.trans (CHv.at X_30 hZ_30 hEL CH_41)
abbrev R_crb_4_1 : Room := { frames := 1, cells := 1, slots := 1, locals := 18 }
def Q_crb_4_1 (Z : State) (G1 : Int32) (G3 : Value) (t : Addr) (kt : ClassId) (y0 : Int32) (y1 : Int32) (y2 : Int32) (y3 : Int32) (h0 : Heap) (n0 : Nat) (v : Option Value) (h : Heap) (L : List Loc) : Prop := (∃ u : Addr, ∃ ku : ClassId, v = some (.ref u) ∧ Fr n0 L ∧ Keep h0 h [] ∧ (h0.size ≤ u) ∧ (Arv Z h u ku .byte (1 : Int32) [(.int y0)] (.int 0)))
theorem rm_crb_4_1 (l : Launch) (Z : State) (a0 : Array Value) (hw : HW Z a0) (ws : List Jvm.Cond) (G1 : Int32) (G3 : Value) (HG : own_G l Z a0 G1 G3) (h0 : Heap) (n0 : Nat) (X00 : Old Z n0 h0) (t : Addr) (kt : ClassId) (y0 : Int32) (y1 : Int32) (y2 : Int32) (y3 : Int32) (hp0 : Arv Z h0 t kt .byte (4 : Int32) [(.int y0), (.int y1), (.int y2), (.int y3)] (.int 0)) :
  own_CP l Z M364 jdk_65_method_133_code 5 (some (.array .byte)) ws R_crb_4_1 #[(.ref t), (.int 0), (.int 1)] h0 (Q_crb_4_1 Z G1 G3 t kt y0 y1 y2 y3 h0 n0) := by
 refine own_P (plainFor_of_name pn_359) ?_
 intro p e s m below meth c s₁ S0 Bd hZ hh hx hby hml hown hnm X0 e0 hS0d
 obtain ⟨O1, P1, O3f, rG3⟩ := id HG
 have N0 := Fr.nil n0
 have C0 : Steps p.tables e below S0 (s₁.setTop (mkF m 0 #[VR t, VI 0, VI 1, .unset, .unset] [])) := by rw [hS0d]; exact castTop (ef_315 m t (0 : Int32) (1 : Int32)) (Steps.refl _)
 obtain ⟨_, _, ⟨T_1, L_1, k_1, n_1⟩, -, X_1, ⟨Lc_1, hQ_1, l_1, y_1, z_1⟩, st_1⟩ := Jvm.LawKit.callS X0 hx (y := M358) hown (mvT hZ (w147 hw)) (mvT hZ (w148 hw)) (mvT hZ (w142 hw)) (mvT hZ (w149 hw)) (by decide) (backOf (W := 0) (rm_ckl l Z a0 hw [] G1 G3 HG h0 n0 X00 (0 : Int32) (1 : Int32) (by decide)) hZ (w149 hw) (w142 hw) (by decide) (by decide)) (g := (mkF m 2 #[VR t, VI 0, VI 1, .unset, .unset] [(.int 1), (.int 0)])) rfl (by rw [hml]; rfl) (argsL := [(.int 0), (.int 1)]) (rest := []) (lenOf pd_369 rfl) rfl (by show 2 * 0 + _ ≤ _; exact Nat.le_of_eq rfl) (hb hby d20_2) (fun _ _ => ⟨rfl, e0, (by decide : 0 + 0 ≤ _), (by decide : 0 + 0 ≤ _)⟩)
 dsimp only [Pt.U, Pt.locs, Pt.cells, Pt.slots] at X_1 l_1 y_1 z_1 st_1 hQ_1
 subst l_1 y_1 z_1
 obtain ⟨rfl, N_2, e_3⟩ := hQ_1
 have N_4 := Fr.app N0 N_2
 have e_5 : T_1.heap = h0 := e_3
 obtain ⟨T_6, h_7, k_8, X_9, e_10, E_11, A_12, st_13⟩ := newP (aty := .byte) X_1 hx hZ (w23 hw) e_5 (g := (mkF m 10 #[VR t, VI 0, VI 1, VI 1, .unset] [(.int 1)])) rfl (hb hby d20_10) rfl (by decide : ¬ ((1 : Int32) < (0 : Int32))) (cap := 1) (by decide : (1 : Int32).toNatClampNeg ≤ 1) (by decide) (by decide) (by decide)
 obtain ⟨a_14, g_15⟩ : ∃ z, z = h0.size := ⟨_, rfl⟩
 rw [← g_15] at A_12 st_13
 have V_17 : Arv Z h_7 a_14 k_8 .byte (1 : Int32) [] (.int 0) := Arv.new A_12 (by decide : ¬ ((1 : Int32) < (0 : Int32)))
 have V_16 : Arv Z h_7 a_14 k_8 .byte (1 : Int32) [(.int 0)] (.int 0) := (V_17.pad (pad_rep [] (.int 0) 1))
 have V_18 : Arv Z h_7 t kt .byte (4 : Int32) [(.int y0), (.int y1), (.int y2), (.int y3)] (.int 0) := (hp0.ext E_11)
 obtain ⟨c_19, A_20, q_21, S_22, M_23, H_24, U_25⟩ := id V_18
 have O_26 : Old Z n0 h_7 := (X00.ext E_11)
 obtain ⟨_, _, ⟨T_27, L_27, k_27, n_27⟩, -, X_27, ⟨Lc_27, hQ_27, l_27, y_27, z_27⟩, st_27⟩ := Jvm.LawKit.callS X_9 hx (y := M175) hown (mvT hZ (w150 hw)) (mvT hZ (w90 hw)) (mvT hZ (w87 hw)) (mvT hZ (w91 hw)) (by decide) (backOf (W := 4) (rm_minR l Z a0 hw [] G1 G3 HG h_7 n0 O_26 (4 : Int32) (1 : Int32) (by decide)) hZ (w91 hw) (w87 hw) (by decide) (by decide)) (g := (mkF m 24 #[VR t, VI 0, VI 1, VI 1, VR a_14] [(.int 1), (.int 4), (.int 0), (.ref a_14), (.int 0), (.ref t)])) rfl (by rw [hml]; rfl) (argsL := [(.int 4), (.int 1)]) (rest := [(.int 0), (.ref a_14), (.int 0), (.ref t)]) (lenOf pd_197 rfl) rfl (by show 2 * 0 + _ ≤ _; exact Nat.le_of_eq rfl) (hb hby d20_24) (fun _ _ => ⟨rfl, e_10, (by decide : 1 + 0 ≤ _), (by decide : 1 + 0 ≤ _)⟩)
 dsimp only [Pt.U, Pt.locs, Pt.cells, Pt.slots] at X_27 l_27 y_27 z_27 st_27 hQ_27
 subst l_27 y_27 z_27
 obtain ⟨rfl, N_28, e_29⟩ := hQ_27
 have N_30 := Fr.app N_4 N_28
 have e_31 : T_27.heap = h_7 := e_29
 obtain ⟨T_32, h_33, L_34, X_35, e_36, N_37, K_38, V_39, st_40⟩ := cpA X_27 hx hZ hown (w151 hw) (w154 hw) (w152 hw) (w153 hw) e_31 V_18 V_16 (sp := (0 : Int32)) (dp := (0 : Int32)) (nn := (1 : Int32)) (us := [(.int y0)]) (Or.inl ⟨rfl, rfl⟩) (by decide) (by decide) (by decide) (by decide) (by decide) rfl (Nat.le_of_ble_eq_true rfl) N_30 (Nat.le_trans (own_n0 X00) (Nat.le_of_eq g_15.symm)) (g := (mkF m 27 #[VR t, VI 0, VI 1, VI 1, VR a_14] [(.int 1), (.int 0), (.ref a_14), (.int 0), (.ref t)])) rfl (by rw [hml]; rfl) rfl (hb hby d20_27) (by decide) (W := 0) (by show 2 * 0 + _ ≤ _; exact Nat.le_of_eq rfl) (by decide)
 have V_41 : Arv Z h_33 a_14 k_8 .byte (1 : Int32) [(.int y0)] (.int 0) := V_39
 have C_42 : Steps p.tables e below S0 (T_32.setTop (mkF m 32 #[VR t, VI 0, VI 1, VI 1, VR a_14] [(.ref a_14)])) := by
  refine C0.trans ?_
  refine XS.iloadN X0.here hx rfl (hb hby d20_0) rfl ?_
  refine XS.iloadN X0.here hx rfl (hb hby d20_1) rfl ?_
  refine st_1 _ ?_
  refine XS.iloadN X_1.here hx rfl (hb hby d20_5) rfl ?_
  refine XS.iloadN X_1.here hx rfl (hb hby d20_6) rfl ?_
  refine XS.isub X_1.here hx rfl (hb hby d20_7) rfl ?_
  refine XS.istoreN X_1.here hx rfl (hb hby d20_8) rfl (l' := #[VR t, VI 0, VI 1, VI 1, .unset]) rfl ?_
  refine XS.iloadN X_1.here hx rfl (hb hby d20_9) rfl ?_
  refine st_13 _ ?_
  refine XS.astore X_9.here hx rfl (hb hby d20_12) rfl rfl (l' := #[VR t, VI 0, VI 1, VI 1, VR a_14]) rfl ?_
  refine XS.aloadN X_9.here hx rfl (hb hby d20_14) rfl rfl ?_
  refine XS.iloadN X_9.here hx rfl (hb hby d20_15) rfl ?_
  refine XS.aload X_9.here hx rfl (hb hby d20_16) rfl rfl ?_
  refine XS.iconst X_9.here hx rfl (hb hby d20_18) ?_
  refine XS.aloadN X_9.here hx rfl (hb hby d20_19) rfl rfl ?_
  refine X_9.arraylength hx (by rw [e_10]; exact A_20.1) (State.isArrayOf_alike hZ.alike A_20.2.1) (g := (mkF m 20 #[VR t, VI 0, VI 1, VI 1, VR a_14] [(.ref t), (.int 0), (.ref a_14), (.int 0), (.ref t)])) rfl rfl (hb hby d20_20) _ ?_
  rw [len_of S_22 M_23]
  show Steps p.tables e below (T_6.setTop (mkF m 21 #[VR t, VI 0, VI 1, VI 1, VR a_14] [(.int 4), (.int 0), (.ref a_14), (.int 0), (.ref t)])) _
  refine XS.iloadN X_9.here hx rfl (hb hby d20_21) rfl ?_
  refine XS.isub X_9.here hx rfl (hb hby d20_22) rfl ?_
  refine XS.iloadN X_9.here hx rfl (hb hby d20_23) rfl ?_
  refine st_27 _ ?_
  refine st_40 _ ?_
  refine XS.aload X_35.here hx rfl (hb hby d20_30) rfl rfl ?_
  exact Steps.refl _
 have K_43 : Keep h0 h_33 [] := (((Keep.refl _ _).ext E_11).trans K_38 (allS (Or.inr (Nat.le_trans (Nat.le_refl _) (Nat.le_of_eq g_15.symm))) all0))
 obtain ⟨fs, hr, hrun, hended, hW, hsame⟩ := X_35.leave (v := some (.ref a_14)) (fun h => by rw [Bd.returns] at h; cases h)
 refine ⟨_, _, C_42.trans (retOut X_35 hx Bd.returns rfl (Or.inr (Or.inr (Or.inr (Or.inr ⟨rfl, rfl, rfl⟩)))) (hb hby d20_32) hr), hrun, hended, _, _, rfl, ?_, ⟨_, rfl⟩, hW, hsame.mono (by decide) (by decide)⟩
 show Q_crb_4_1 Z G1 G3 t kt y0 y1 y2 y3 h0 n0 (some (.ref a_14)) T_32.heap _
 rw [e_36]
 exact ⟨a_14, k_8, rfl, N_37, K_43, (Nat.le_trans (Nat.le_refl _) (Nat.le_of_eq g_15.symm)), V_41⟩
abbrev R_cr_4_1 : Room := { frames := 2, cells := 1, slots := 1, locals := 34 }
def Q_cr_4_1 (Z : State) (G1 : Int32) (G3 : Value) (t : Addr) (kt : ClassId) (y0 : Int32) (y1 : Int32) (y2 : Int32) (y3 : Int32) (h0 : Heap) (n0 : Nat) (v : Option Value) (h : Heap) (L : List Loc) : Prop := (∃ u : Addr, ∃ ku : ClassId, v = some (.ref u) ∧ Fr n0 L ∧ Keep h0 h [] ∧ (h0.size ≤ u) ∧ (Arv Z h u ku .byte (1 : Int32) [(.int y0)] (.int 0)))
theorem rm_cr_4_1 (l : Launch) (Z : State) (a0 : Array Value) (hw : HW Z a0) (ws : List Jvm.Cond) (G1 : Int32) (G3 : Value) (HG : own_G l Z a0 G1 G3) (h0 : Heap) (n0 : Nat) (X00 : Old Z n0 h0) (t : Addr) (kt : ClassId) (y0 : Int32) (y1 : Int32) (y2 : Int32) (y3 : Int32) (hp0 : Arv Z h0 t kt .byte (4 : Int32) [(.int y0), (.int y1), (.int y2), (.int y3)] (.int 0)) :
  own_CP l Z M398 jdk_65_method_132_code 3 (some (.array .byte)) ws R_cr_4_1 #[(.ref t), (.int 0), (.int 1)] h0 (Q_cr_4_1 Z G1 G3 t kt y0 y1 y2 y3 h0 n0) := by
 refine own_P (plainFor_of_name pn_359) ?_
 intro p e s m below meth c s₁ S0 Bd hZ hh hx hby hml hown hnm X0 e0 hS0d
 obtain ⟨O1, P1, O3f, rG3⟩ := id HG
 have N0 := Fr.nil n0
 have C0 : Steps p.tables e below S0 (s₁.setTop (mkF m 0 #[VR t, VI 0, VI 1] [])) := by rw [hS0d]; exact castTop (ef_216 m t (0 : Int32) (1 : Int32)) (Steps.refl _)
 obtain ⟨c_1, A_2, q_3, S_4, M_5, H_6, U_7⟩ := id hp0
 obtain ⟨_, _, ⟨T_8, L_8, k_8, n_8⟩, -, X_8, ⟨Lc_8, hQ_8, l_8, y_8, z_8⟩, st_8⟩ := Jvm.LawKit.callS X0 hx (y := M364) hown (mvT hZ (w144 hw)) (mvT hZ (w145 hw)) (mvT hZ (w142 hw)) (mvT hZ (w146 hw)) (by decide) (backOf (W := 0) (rm_crb_4_1 l Z a0 hw [] G1 G3 HG h0 n0 X00 t kt y0 y1 y2 y3 hp0) hZ (w146 hw) (w142 hw) (by decide) (by decide)) (g := (mkF m 13 #[VR t, VI 0, VI 1] [(.int 1), (.int 0), (.ref t)])) rfl (by rw [hml]; rfl) (argsL := [(.ref t), (.int 0), (.int 1)]) (rest := []) (lenOf pd_409 rfl) rfl (by show 2 * 0 + _ ≤ _; exact Nat.le_of_eq rfl) (hb hby d21_13) (fun _ _ => ⟨rfl, e0, (by decide : 0 + 1 ≤ _), (by decide : 0 + 1 ≤ _)⟩)
 dsimp only [Pt.U, Pt.locs, Pt.cells, Pt.slots] at X_8 l_8 y_8 z_8 st_8 hQ_8
 subst l_8 y_8 z_8
 obtain ⟨a_9, k_10, rfl, N_11, K_12, g_13, g_14⟩ := hQ_8
 have N_15 := Fr.app N0 N_11
 have C_16 : Steps p.tables e below S0 (T_8.setTop (mkF m 16 #[VR t, VI 0, VI 1] [(.ref a_9)])) := by
  refine C0.trans ?_
  refine XS.iloadN X0.here hx rfl (hb hby d21_0) rfl ?_
  refine XS.ifNo X0.here hx rfl (hb hby d21_1) rfl (by decide) ?_
  refine XS.iloadN X0.here hx rfl (hb hby d21_4) rfl ?_
  refine XS.aloadN X0.here hx rfl (hb hby d21_5) rfl rfl ?_
  refine X0.arraylength hx (by rw [e0]; exact A_2.1) (State.isArrayOf_alike hZ.alike A_2.2.1) (g := (mkF m 6 #[VR t, VI 0, VI 1] [(.ref t), (.int 1)])) rfl rfl (hb hby d21_6) _ ?_
  rw [len_of S_4 M_5]
  refine XS.icmpNo X0.here hx rfl (hb hby d21_7) rfl (by decide) ?_
  refine XS.aloadN X0.here hx rfl (hb hby d21_10) rfl rfl ?_
  refine XS.iloadN X0.here hx rfl (hb hby d21_11) rfl ?_
  refine XS.iloadN X0.here hx rfl (hb hby d21_12) rfl ?_
  refine st_8 _ ?_
  exact Steps.refl _
 have K_17 : Keep h0 T_8.heap [] := ((Keep.refl _ _).trans K_12 all0)
 obtain ⟨fs, hr, hrun, hended, hW, hsame⟩ := X_8.leave (v := some (.ref a_9)) (fun h => by rw [Bd.returns] at h; cases h)
 refine ⟨_, _, C_16.trans (retOut X_8 hx Bd.returns rfl (Or.inr (Or.inr (Or.inr (Or.inr ⟨rfl, rfl, rfl⟩)))) (hb hby d21_16) hr), hrun, hended, _, _, rfl, ?_, ⟨_, rfl⟩, hW, hsame.mono (by decide) (by decide)⟩
 show Q_cr_4_1 Z G1 G3 t kt y0 y1 y2 y3 h0 n0 (some (.ref a_9)) T_8.heap _
 exact ⟨a_9, k_10, rfl, N_15, K_17, (Nat.le_trans (Nat.le_refl _) g_13), g_14⟩
abbrev R_lns_4_1 : Room := { frames := 3, cells := 2, slots := 5, locals := 50 }
def Q_lns_4_1 (Z : State) (G1 : Int32) (G3 : Value) (t : Addr) (kt : ClassId) (y0 : Int32) (y1 : Int32) (y2 : Int32) (y3 : Int32) (h0 : Heap) (n0 : Nat) (v : Option Value) (h : Heap) (L : List Loc) : Prop := (∃ r : Addr, ∃ u : Addr, ∃ ku : ClassId, v = some (.ref r) ∧ Fr n0 L ∧ Keep h0 h [] ∧ (Exa Z h r "java/lang/String") ∧ (Fld Z h r "java/lang/String" "coder" "B" (.int 0)) ∧ (Fld Z h r "java/lang/String" "value" "[B" (.ref u)) ∧ (Arv Z h u ku .byte (1 : Int32) [(.int y0)] (.int 0)))
theorem rm_lns_4_1 (l : Launch) (Z : State) (a0 : Array Value) (hw : HW Z a0) (ws : List Jvm.Cond) (G1 : Int32) (G3 : Value) (HG : own_G l Z a0 G1 G3) (h0 : Heap) (n0 : Nat) (X00 : Old Z n0 h0) (t : Addr) (kt : ClassId) (y0 : Int32) (y1 : Int32) (y2 : Int32) (y3 : Int32) (hp0 : Arv Z h0 t kt .byte (4 : Int32) [(.int y0), (.int y1), (.int y2), (.int y3)] (.int 0)) :
  own_CP l Z M334 jdk_43_method_47_code 3 (some (.object "java/lang/String")) ws R_lns_4_1 #[(.ref t), (.int 0), (.int 1)] h0 (Q_lns_4_1 Z G1 G3 t kt y0 y1 y2 y3 h0 n0) := by
 refine own_P (plainFor_of_name pn_157) ?_
 intro p e s m below meth c s₁ S0 Bd hZ hh hx hby hml hown hnm X0 e0 hS0d
 obtain ⟨O1, P1, O3f, rG3⟩ := id HG
 have N0 := Fr.nil n0
 have C0 : Steps p.tables e below S0 (s₁.setTop (mkF m 0 #[VR t, VI 0, VI 1] [])) := by rw [hS0d]; exact castTop (ef_216 m t (0 : Int32) (1 : Int32)) (Steps.refl _)
 obtain ⟨T_1, h_2, X_3, e_4, E_5, A_6, D_7, U_11, st_8⟩ := newO X0 hx hZ hown (w139 hw) (w9 hw) (w10 hw) e0 (g := (mkF m 7 #[VR t, VI 0, VI 1] [])) rfl (hb hby d18_7) (by decide) (by decide)
 obtain ⟨a_9, g_10⟩ : ∃ z, z = h0.size := ⟨_, rfl⟩
 rw [← g_10] at A_6 D_7 st_8 U_11
 have V_12 : Arv Z h_2 t kt .byte (4 : Int32) [(.int y0), (.int y1), (.int y2), (.int y3)] (.int 0) := (hp0.ext E_5)
 have O_13 : Old Z n0 h_2 := (X00.ext E_5)
 obtain ⟨_, _, ⟨T_14, L_14, k_14, n_14⟩, -, X_14, ⟨Lc_14, hQ_14, l_14, y_14, z_14⟩, st_14⟩ := Jvm.LawKit.callS X_3 hx (y := M398) hown (mvT hZ (w140 hw)) (mvT hZ (w141 hw)) (mvT hZ (w142 hw)) (mvT hZ (w143 hw)) (by decide) (backOf (W := 2) (rm_cr_4_1 l Z a0 hw [] G1 G3 HG h_2 n0 O_13 t kt y0 y1 y2 y3 V_12) hZ (w143 hw) (w142 hw) (by decide) (by decide)) (g := (mkF m 16 #[VR t, VI 0, VI 1] [(.int 1), (.int 0), (.ref t), (.ref a_9), (.ref a_9)])) rfl (by rw [hml]; rfl) (argsL := [(.ref t), (.int 0), (.int 1)]) (rest := [(.ref a_9), (.ref a_9)]) (lenOf pd_409 rfl) rfl (by show 2 * 0 + _ ≤ _; exact Nat.le_of_eq rfl) (hb hby d18_16) (fun _ _ => ⟨rfl, e_4, (by decide : 1 + 1 ≤ _), (by decide : 4 + 1 ≤ _)⟩)
 dsimp only [Pt.U, Pt.locs, Pt.cells, Pt.slots] at X_14 l_14 y_14 z_14 st_14 hQ_14
 subst l_14 y_14 z_14
 obtain ⟨a_15, k_16, rfl, N_17, K_18, g_19, g_20⟩ := hQ_14
 have N_21 := Fr.app N0 N_17
 have E_22 : Exa Z T_14.heap a_9 "java/lang/String" := (A_6.keep K_18)
 have F_23 : Fld Z T_14.heap a_9 "java/lang/String" "value" "[B" .null := ((D_7 (Or.inr (w24 hw)) (ty := (.array .byte)) (by decide)).keep K_18 nin0)
 have F_24 : Fld Z T_14.heap a_9 "java/lang/String" "coder" "B" (.int 0) := ((D_7 (Or.inr (w25 hw)) (ty := .byte) (by decide)).keep K_18 nin0)
 have O_25 : Old Z n0 T_14.heap := (O_13.keep K_18 all0)
 obtain ⟨_, _, ⟨T_26, L_26, k_26, n_26⟩, -, X_26, ⟨Lc_26, hQ_26, l_26, y_26, z_26⟩, st_26⟩ := X_14.specialBack hx (y := M414) rfl hown (mvT hZ (w155 hw)) (mvT hZ (w156 hw)) (mvT hZ (w157 hw)) (by decide) (backOf (W := 1) (rm_sbb_0 l Z a0 hw [] G1 G3 HG T_14.heap n0 O_25 a_9 a_15 E_22 F_23 F_24 (Nat.le_trans (own_n0 X00) (Nat.le_of_eq g_10.symm))) hZ (w157 hw) (w10 hw) (by decide) (by decide)) (g := (mkF m 20 #[VR t, VI 0, VI 1] [(.int 0), (.ref a_15), (.ref a_9), (.ref a_9)])) rfl (by rw [hml]; rfl) (Steps.refl _) (a := a_9) (argsL := [(.ref a_15), (.int 0)]) (rest := [(.ref a_9)]) (lenOf pd_439 rfl) rfl (by show 2 * 0 + _ ≤ _; exact Nat.le_of_eq rfl) (hb hby d18_20) (fun _ _ => ⟨rfl, rfl, (by decide : 2 + 0 ≤ _), (by decide : 5 + 0 ≤ _)⟩)
 dsimp only [Pt.U, Pt.locs, Pt.cells, Pt.slots] at X_26 l_26 y_26 z_26 st_26 hQ_26
 subst l_26 y_26 z_26
 obtain ⟨rfl, N_27, K_28, g_29, g_30, g_31⟩ := hQ_26
 have N_32 := Fr.app N_21 N_27
 have C_33 : Steps p.tables e below S0 (T_26.setTop (mkF m 23 #[VR t, VI 0, VI 1] [(.ref a_9)])) := by
  refine C0.trans ?_
  refine XS.iloadN X0.here hx rfl (hb hby d18_0) rfl ?_
  refine XS.ifYes X0.here hx rfl (pc0 := 1) (pc' := 7) rfl (hb hby d18_1) rfl (by decide) (by decide) (by decide) ?_
  refine st_8 _ ?_
  refine XS.dup X_3.here hx rfl (hb hby d18_10) rfl rfl ?_
  refine XS.aloadN X_3.here hx rfl (hb hby d18_11) rfl rfl ?_
  refine XS.iloadN X_3.here hx rfl (hb hby d18_12) rfl ?_
  refine XS.iloadN X_3.here hx rfl (hb hby d18_13) rfl ?_
  refine XS.iloadN X_3.here hx rfl (hb hby d18_14) rfl ?_
  refine XS.iadd X_3.here hx rfl (hb hby d18_15) rfl ?_
  refine st_14 _ ?_
  refine XS.iconst X_14.here hx rfl (hb hby d18_19) ?_
  refine st_26.trans ?_
  exact Steps.refl _
 have V_34 : Arv Z T_26.heap a_15 k_16 .byte (1 : Int32) [(.int y0)] (.int 0) := (g_20.keep K_28 (ninS (Ne.symm (Nat.ne_of_lt (Nat.lt_of_lt_of_le A_6.lt (Nat.le_trans (Nat.le_refl _) g_19)))) nin0))
 have K_35 : Keep h0 T_26.heap [] := ((((Keep.refl _ _).ext E_5).trans K_18 all0).trans K_28 (allS (Or.inr (Nat.le_trans (Nat.le_refl _) (Nat.le_of_eq g_10.symm))) all0))
 obtain ⟨fs, hr, hrun, hended, hW, hsame⟩ := X_26.leave (v := some (.ref a_9)) (fun h => by rw [Bd.returns] at h; cases h)
 refine ⟨_, _, C_33.trans (retOut X_26 hx Bd.returns rfl (Or.inr (Or.inr (Or.inr (Or.inr ⟨rfl, rfl, rfl⟩)))) (hb hby d18_23) hr), hrun, hended, _, _, rfl, ?_, ⟨_, rfl⟩, hW, hsame.mono (by decide) (by decide)⟩
 show Q_lns_4_1 Z G1 G3 t kt y0 y1 y2 y3 h0 n0 (some (.ref a_9)) T_26.heap _
 exact ⟨a_9, a_15, k_16, rfl, N_32, K_35, g_29, g_30, g_31, V_34⟩
abbrev R_sub_4_1 : Room := { frames := 4, cells := 2, slots := 5, locals := 64 }
def Q_sub_4_1 (Z : State) (G1 : Int32) (G3 : Value) (x : Addr) (t : Addr) (kt : ClassId) (y0 : Int32) (y1 : Int32) (y2 : Int32) (y3 : Int32) (h0 : Heap) (n0 : Nat) (v : Option Value) (h : Heap) (L : List Loc) : Prop := (∃ r : Addr, ∃ u : Addr, ∃ ku : ClassId, v = some (.ref r) ∧ Fr n0 L ∧ Keep h0 h [] ∧ (Exa Z h r "java/lang/String") ∧ (Fld Z h r "java/lang/String" "coder" "B" (.int 0)) ∧ (Fld Z h r "java/lang/String" "value" "[B" (.ref u)) ∧ (Arv Z h u ku .byte (1 : Int32) [(.int y0)] (.int 0)))
theorem rm_sub_4_1 (l : Launch) (Z : State) (a0 : Array Value) (hw : HW Z a0) (ws : List Jvm.Cond) (G1 : Int32) (G3 : Value) (HG : own_G l Z a0 G1 G3) (h0 : Heap) (n0 : Nat) (X00 : Old Z n0 h0) (x : Addr) (t : Addr) (kt : ClassId) (y0 : Int32) (y1 : Int32) (y2 : Int32) (y3 : Int32) (hp0 : Exa Z h0 x "java/lang/String") (hp1 : Fld Z h0 x "java/lang/String" "coder" "B" (.int 0)) (hp2 : Fld Z h0 x "java/lang/String" "value" "[B" (.ref t)) (hp3 : Arv Z h0 t kt .byte (4 : Int32) [(.int y0), (.int y1), (.int y2), (.int y3)] (.int 0)) :
  own_CP l Z M314 jdk_42_method_92_code 5 (some (.object "java/lang/String")) ws R_sub_4_1 #[(.ref x), (.int 0), (.int 1)] h0 (Q_sub_4_1 Z G1 G3 x t kt y0 y1 y2 y3 h0 n0) := by
 refine own_P (plainFor_of_name pn_2) ?_
 intro p e s m below meth c s₁ S0 Bd hZ hh hx hby hml hown hnm X0 e0 hS0d
 obtain ⟨O1, P1, O3f, rG3⟩ := id HG
 have N0 := Fr.nil n0
 have C0 : Steps p.tables e below S0 (s₁.setTop (mkF m 0 #[VR x, VI 0, VI 1, .unset, .unset] [])) := by rw [hS0d]; exact castTop (ef_315 m x (0 : Int32) (1 : Int32)) (Steps.refl _)
 obtain ⟨q_2, q_3, q_4, q_5, q_6⟩ := isOf (T := s₁) hZ e0 hp0
 obtain ⟨_, _, ⟨T_1, L_1, k_1, n_1⟩, -, X_1, ⟨Lc_1, hQ_1, l_1, y_1, z_1⟩, st_1⟩ := X0.virtualBack hx (y := M141) (z := M141) hown (mvT hZ (w68 hw)) (mvT hZ (w69 hw)) (notFace_of_selects (args := #[]) (mvT hZ (w71 hw))) (mvT hZ (w71 hw)) (mvT hZ (w70 hw)) (by decide) (backOf (W := 0) (rm_lenany l Z a0 hw [] G1 G3 HG h0 n0 X00 x t kt (4 : Int32) [(.int y0), (.int y1), (.int y2), (.int y3)] hp0 hp1 hp2 hp3) hZ (w72 hw) (w10 hw) (by decide) (by decide)) q_4 q_6 (g := (mkF m 1 #[VR x, VI 0, VI 1, .unset, .unset] [(.ref x)])) rfl (by rw [hml]; rfl) (Steps.refl _) (argsL := []) (rest := []) (lenOf pd_232 rfl) rfl (by show 2 * 0 + _ ≤ _; exact Nat.le_of_eq rfl) (hb hby d17_1) (fun _ _ => ⟨rfl, e0, (by decide : 0 + 0 ≤ _), (by decide : 0 + 0 ≤ _)⟩)
 dsimp only [Pt.U, Pt.locs, Pt.cells, Pt.slots] at X_1 l_1 y_1 z_1 st_1 hQ_1
 subst l_1 y_1 z_1
 obtain ⟨rfl, N_7, e_8⟩ := hQ_1
 have N_9 := Fr.app N0 N_7
 have e_10 : T_1.heap = h0 := e_8
 obtain ⟨_, _, ⟨T_11, L_11, k_11, n_11⟩, -, X_11, ⟨Lc_11, hQ_11, l_11, y_11, z_11⟩, st_11⟩ := Jvm.LawKit.callS X_1 hx (y := M299) hown (mvT hZ (w99 hw)) (mvT hZ (w100 hw)) (mvT hZ (w10 hw)) (mvT hZ (w101 hw)) (by decide) (backOf (W := 0) (rm_cbb l Z a0 hw [] G1 G3 HG h0 n0 X00 (0 : Int32) (1 : Int32) (4 : Int32) (by decide) (by decide) (by decide)) hZ (w101 hw) (w10 hw) (by decide) (by decide)) (g := (mkF m 8 #[VR x, VI 0, VI 1, VI 4, .unset] [(.int 4), (.int 1), (.int 0)])) rfl (by rw [hml]; rfl) (argsL := [(.int 0), (.int 1), (.int 4)]) (rest := []) (lenOf pd_323 rfl) rfl (by show 2 * 0 + _ ≤ _; exact Nat.le_of_eq rfl) (hb hby d17_8) (fun _ _ => ⟨rfl, e_10, (by decide : 0 + 0 ≤ _), (by decide : 0 + 0 ≤ _)⟩)
 dsimp only [Pt.U, Pt.locs, Pt.cells, Pt.slots] at X_11 l_11 y_11 z_11 st_11 hQ_11
 subst l_11 y_11 z_11
 obtain ⟨rfl, N_12, e_13⟩ := hQ_11
 have N_14 := Fr.app N_9 N_12
 have e_15 : T_11.heap = h0 := e_13
 obtain ⟨q_17, q_18, q_19, q_20, q_21⟩ := isOf (T := T_11) hZ e_15 hp0
 obtain ⟨_, _, ⟨T_16, L_16, k_16, n_16⟩, -, X_16, ⟨Lc_16, hQ_16, l_16, y_16, z_16⟩, st_16⟩ := X_11.virtualBack hx (y := M132) (z := M132) hown (mvT hZ (w62 hw)) (mvT hZ (w63 hw)) (notFace_of_selects (args := #[]) (mvT hZ (w65 hw))) (mvT hZ (w65 hw)) (mvT hZ (w64 hw)) (by decide) (backOf (W := 0) (rm_islat l Z a0 hw [] G1 G3 HG h0 n0 X00 x hp1) hZ (w66 hw) (w10 hw) (by decide) (by decide)) q_19 q_21 (g := (mkF m 28 #[VR x, VI 0, VI 1, VI 4, VI 1] [(.ref x)])) rfl (by rw [hml]; rfl) (Steps.refl _) (argsL := []) (rest := []) (lenOf pd_219 rfl) rfl (by show 2 * 0 + _ ≤ _; exact Nat.le_of_eq rfl) (hb hby d17_28) (fun _ _ => ⟨rfl, e_15, (by decide : 0 + 0 ≤ _), (by decide : 0 + 0 ≤ _)⟩)
 dsimp only [Pt.U, Pt.locs, Pt.cells, Pt.slots] at X_16 l_16 y_16 z_16 st_16 hQ_16
 subst l_16 y_16 z_16
 obtain ⟨rfl, N_22, e_23⟩ := hQ_16
 have N_24 := Fr.app N_14 N_22
 have e_25 : T_16.heap = h0 := e_23
 obtain ⟨T_26, X_27, e_28, st_29⟩ := getF X_16 hx hZ hown (host := "") (Or.inl (w28 hw)) Via.refl e_25 hp2 (g := (mkF m 35 #[VR x, VI 0, VI 1, VI 4, VI 1] [(.ref x)])) rfl rfl (hb hby d17_35)
 obtain ⟨_, _, ⟨T_30, L_30, k_30, n_30⟩, -, X_30, ⟨Lc_30, hQ_30, l_30, y_30, z_30⟩, st_30⟩ := Jvm.LawKit.callS X_27 hx (y := M334) hown (mvT hZ (w121 hw)) (mvT hZ (w122 hw)) (mvT hZ (w80 hw)) (mvT hZ (w123 hw)) (by decide) (backOf (W := 0) (rm_lns_4_1 l Z a0 hw [] G1 G3 HG h0 n0 X00 t kt y0 y1 y2 y3 hp3) hZ (w123 hw) (w80 hw) (by decide) (by decide)) (g := (mkF m 41 #[VR x, VI 0, VI 1, VI 4, VI 1] [(.int 1), (.int 0), (.ref t)])) rfl (by rw [hml]; rfl) (argsL := [(.ref t), (.int 0), (.int 1)]) (rest := []) (lenOf pd_352 rfl) rfl (by show 2 * 0 + _ ≤ _; exact Nat.le_of_eq rfl) (hb hby d17_41) (fun _ _ => ⟨rfl, e_28, (by decide : 0 + 2 ≤ _), (by decide : 0 + 5 ≤ _)⟩)
 dsimp only [Pt.U, Pt.locs, Pt.cells, Pt.slots] at X_30 l_30 y_30 z_30 st_30 hQ_30
 subst l_30 y_30 z_30
 obtain ⟨a_31, a_32, k_33, rfl, N_34, K_35, g_36, g_37, g_38, g_39⟩ := hQ_30
 have N_40 := Fr.app N_24 N_34
 have C_41 : Steps p.tables e below S0 (T_30.setTop (mkF m 57 #[VR x, VI 0, VI 1, VI 4, VI 1] [(.ref a_31)])) := by
  refine C0.trans ?_
  refine XS.aloadN X0.here hx rfl (hb hby d17_0) rfl rfl ?_
  refine st_1.trans ?_
  refine XS.istoreN X_1.here hx rfl (hb hby d17_4) rfl (l' := #[VR x, VI 0, VI 1, VI 4, .unset]) rfl ?_
  refine XS.iloadN X_1.here hx rfl (hb hby d17_5) rfl ?_
  refine XS.iloadN X_1.here hx rfl (hb hby d17_6) rfl ?_
  refine XS.iloadN X_1.here hx rfl (hb hby d17_7) rfl ?_
  refine st_11 _ ?_
  refine XS.iloadN X_11.here hx rfl (hb hby d17_11) rfl ?_
  refine XS.ifNo X_11.here hx rfl (hb hby d17_12) rfl (by decide) ?_
  refine XS.iloadN X_11.here hx rfl (hb hby d17_15) rfl ?_
  refine XS.iloadN X_11.here hx rfl (hb hby d17_16) rfl ?_
  refine XS.icmpYes X_11.here hx rfl (pc0 := 17) (pc' := 22) rfl (hb hby d17_17) rfl (by decide) (by decide) (by decide) ?_
  refine XS.iloadN X_11.here hx rfl (hb hby d17_22) rfl ?_
  refine XS.iloadN X_11.here hx rfl (hb hby d17_23) rfl ?_
  refine XS.isub X_11.here hx rfl (hb hby d17_24) rfl ?_
  refine XS.istore X_11.here hx rfl (hb hby d17_25) rfl (l' := #[VR x, VI 0, VI 1, VI 4, VI 1]) rfl ?_
  show Steps p.tables e below (T_11.setTop (mkF m 27 #[VR x, VI 0, VI 1, VI 4, VI 1] [])) _
  refine XS.aloadN X_11.here hx rfl (hb hby d17_27) rfl rfl ?_
  refine st_16.trans ?_
  refine XS.ifNo X_16.here hx rfl (hb hby d17_31) rfl (by decide) ?_
  refine XS.aloadN X_16.here hx rfl (hb hby d17_34) rfl rfl ?_
  refine st_29 _ ?_
  refine XS.iloadN X_27.here hx rfl (hb hby d17_38) rfl ?_
  refine XS.iload X_27.here hx rfl (hb hby d17_39) rfl ?_
  refine st_30 _ ?_
  refine XS.goto X_30.here hx rfl (pc0 := 44) (pc' := 57) rfl (hb hby d17_44) (by decide) (by decide) ?_
  exact Steps.refl _
 have K_42 : Keep h0 T_30.heap [] := ((Keep.refl _ _).trans K_35 all0)
 obtain ⟨fs, hr, hrun, hended, hW, hsame⟩ := X_30.leave (v := some (.ref a_31)) (fun h => by rw [Bd.returns] at h; cases h)
 refine ⟨_, _, C_41.trans (retOut X_30 hx Bd.returns rfl (Or.inr (Or.inr (Or.inr (Or.inr ⟨rfl, rfl, rfl⟩)))) (hb hby d17_57) hr), hrun, hended, _, _, rfl, ?_, ⟨_, rfl⟩, hW, hsame.mono (by decide) (by decide)⟩
 show Q_sub_4_1 Z G1 G3 x t kt y0 y1 y2 y3 h0 n0 (some (.ref a_31)) T_30.heap _
 exact ⟨a_31, a_32, k_33, rfl, N_40, K_42, g_36, g_37, g_38, g_39⟩
abbrev R_crb_4_2 : Room := { frames := 1, cells := 1, slots := 2, locals := 18 }
def Q_crb_4_2 (Z : State) (G1 : Int32) (G3 : Value) (t : Addr) (kt : ClassId) (y0 : Int32) (y1 : Int32) (y2 : Int32) (y3 : Int32) (h0 : Heap) (n0 : Nat) (v : Option Value) (h : Heap) (L : List Loc) : Prop := (∃ u : Addr, ∃ ku : ClassId, v = some (.ref u) ∧ Fr n0 L ∧ Keep h0 h [] ∧ (h0.size ≤ u) ∧ (Arv Z h u ku .byte (2 : Int32) [(.int y0), (.int y1)] (.int 0)))
theorem rm_crb_4_2 (l : Launch) (Z : State) (a0 : Array Value) (hw : HW Z a0) (ws : List Jvm.Cond) (G1 : Int32) (G3 : Value) (HG : own_G l Z a0 G1 G3) (h0 : Heap) (n0 : Nat) (X00 : Old Z n0 h0) (t : Addr) (kt : ClassId) (y0 : Int32) (y1 : Int32) (y2 : Int32) (y3 : Int32) (hp0 : Arv Z h0 t kt .byte (4 : Int32) [(.int y0), (.int y1), (.int y2), (.int y3)] (.int 0)) :
  own_CP l Z M364 jdk_65_method_133_code 5 (some (.array .byte)) ws R_crb_4_2 #[(.ref t), (.int 0), (.int 2)] h0 (Q_crb_4_2 Z G1 G3 t kt y0 y1 y2 y3 h0 n0) := by
 refine own_P (plainFor_of_name pn_359) ?_
 intro p e s m below meth c s₁ S0 Bd hZ hh hx hby hml hown hnm X0 e0 hS0d
 obtain ⟨O1, P1, O3f, rG3⟩ := id HG
 have N0 := Fr.nil n0
 have C0 : Steps p.tables e below S0 (s₁.setTop (mkF m 0 #[VR t, VI 0, VI 2, .unset, .unset] [])) := by rw [hS0d]; exact castTop (ef_315 m t (0 : Int32) (2 : Int32)) (Steps.refl _)
 obtain ⟨_, _, ⟨T_1, L_1, k_1, n_1⟩, -, X_1, ⟨Lc_1, hQ_1, l_1, y_1, z_1⟩, st_1⟩ := Jvm.LawKit.callS X0 hx (y := M358) hown (mvT hZ (w147 hw)) (mvT hZ (w148 hw)) (mvT hZ (w142 hw)) (mvT hZ (w149 hw)) (by decide) (backOf (W := 0) (rm_ckl l Z a0 hw [] G1 G3 HG h0 n0 X00 (0 : Int32) (2 : Int32) (by decide)) hZ (w149 hw) (w142 hw) (by decide) (by decide)) (g := (mkF m 2 #[VR t, VI 0, VI 2, .unset, .unset] [(.int 2), (.int 0)])) rfl (by rw [hml]; rfl) (argsL := [(.int 0), (.int 2)]) (rest := []) (lenOf pd_369 rfl) rfl (by show 2 * 0 + _ ≤ _; exact Nat.le_of_eq rfl) (hb hby d20_2) (fun _ _ => ⟨rfl, e0, (by decide : 0 + 0 ≤ _), (by decide : 0 + 0 ≤ _)⟩)
 dsimp only [Pt.U, Pt.locs, Pt.cells, Pt.slots] at X_1 l_1 y_1 z_1 st_1 hQ_1
 subst l_1 y_1 z_1
 obtain ⟨rfl, N_2, e_3⟩ := hQ_1
 have N_4 := Fr.app N0 N_2
 have e_5 : T_1.heap = h0 := e_3
 obtain ⟨T_6, h_7, k_8, X_9, e_10, E_11, A_12, st_13⟩ := newP (aty := .byte) X_1 hx hZ (w23 hw) e_5 (g := (mkF m 10 #[VR t, VI 0, VI 2, VI 2, .unset] [(.int 2)])) rfl (hb hby d20_10) rfl (by decide : ¬ ((2 : Int32) < (0 : Int32))) (cap := 2) (by decide : (2 : Int32).toNatClampNeg ≤ 2) (by decide) (by decide) (by decide)
 obtain ⟨a_14, g_15⟩ : ∃ z, z = h0.size := ⟨_, rfl⟩
 rw [← g_15] at A_12 st_13
 have V_17 : Arv Z h_7 a_14 k_8 .byte (2 : Int32) [] (.int 0) := Arv.new A_12 (by decide : ¬ ((2 : Int32) < (0 : Int32)))
 have V_16 : Arv Z h_7 a_14 k_8 .byte (2 : Int32) [(.int 0), (.int 0)] (.int 0) := (V_17.pad (pad_rep [] (.int 0) 2))
 have V_18 : Arv Z h_7 t kt .byte (4 : Int32) [(.int y0), (.int y1), (.int y2), (.int y3)] (.int 0) := (hp0.ext E_11)
 obtain ⟨c_19, A_20, q_21, S_22, M_23, H_24, U_25⟩ := id V_18
 have O_26 : Old Z n0 h_7 := (X00.ext E_11)
 obtain ⟨_, _, ⟨T_27, L_27, k_27, n_27⟩, -, X_27, ⟨Lc_27, hQ_27, l_27, y_27, z_27⟩, st_27⟩ := Jvm.LawKit.callS X_9 hx (y := M175) hown (mvT hZ (w150 hw)) (mvT hZ (w90 hw)) (mvT hZ (w87 hw)) (mvT hZ (w91 hw)) (by decide) (backOf (W := 4) (rm_minR l Z a0 hw [] G1 G3 HG h_7 n0 O_26 (4 : Int32) (2 : Int32) (by decide)) hZ (w91 hw) (w87 hw) (by decide) (by decide)) (g := (mkF m 24 #[VR t, VI 0, VI 2, VI 2, VR a_14] [(.int 2), (.int 4), (.int 0), (.ref a_14), (.int 0), (.ref t)])) rfl (by rw [hml]; rfl) (argsL := [(.int 4), (.int 2)]) (rest := [(.int 0), (.ref a_14), (.int 0), (.ref t)]) (lenOf pd_197 rfl) rfl (by show 2 * 0 + _ ≤ _; exact Nat.le_of_eq rfl) (hb hby d20_24) (fun _ _ => ⟨rfl, e_10, (by decide : 1 + 0 ≤ _), (by decide : 2 + 0 ≤ _)⟩)
 dsimp only [Pt.U, Pt.locs, Pt.cells, Pt.slots] at X_27 l_27 y_27 z_27 st_27 hQ_27
 subst l_27 y_27 z_27
 obtain ⟨rfl, N_28, e_29⟩ := hQ_27
 have N_30 := Fr.app N_4 N_28
 have e_31 : T_27.heap = h_7 := e_29
 obtain ⟨T_32, h_33, L_34, X_35, e_36, N_37, K_38, V_39, st_40⟩ := cpA X_27 hx hZ hown (w151 hw) (w154 hw) (w152 hw) (w153 hw) e_31 V_18 V_16 (sp := (0 : Int32)) (dp := (0 : Int32)) (nn := (2 : Int32)) (us := [(.int y0), (.int y1)]) (Or.inl ⟨rfl, rfl⟩) (by decide) (by decide) (by decide) (by decide) (by decide) rfl (Nat.le_of_ble_eq_true rfl) N_30 (Nat.le_trans (own_n0 X00) (Nat.le_of_eq g_15.symm)) (g := (mkF m 27 #[VR t, VI 0, VI 2, VI 2, VR a_14] [(.int 2), (.int 0), (.ref a_14), (.int 0), (.ref t)])) rfl (by rw [hml]; rfl) rfl (hb hby d20_27) (by decide) (W := 0) (by show 2 * 0 + _ ≤ _; exact Nat.le_of_eq rfl) (by decide)
 have V_41 : Arv Z h_33 a_14 k_8 .byte (2 : Int32) [(.int y0), (.int y1)] (.int 0) := V_39
 have C_42 : Steps p.tables e below S0 (T_32.setTop (mkF m 32 #[VR t, VI 0, VI 2, VI 2, VR a_14] [(.ref a_14)])) := by
  refine C0.trans ?_
  refine XS.iloadN X0.here hx rfl (hb hby d20_0) rfl ?_
  refine XS.iloadN X0.here hx rfl (hb hby d20_1) rfl ?_
  refine st_1 _ ?_
  refine XS.iloadN X_1.here hx rfl (hb hby d20_5) rfl ?_
  refine XS.iloadN X_1.here hx rfl (hb hby d20_6) rfl ?_
  refine XS.isub X_1.here hx rfl (hb hby d20_7) rfl ?_
  refine XS.istoreN X_1.here hx rfl (hb hby d20_8) rfl (l' := #[VR t, VI 0, VI 2, VI 2, .unset]) rfl ?_
  refine XS.iloadN X_1.here hx rfl (hb hby d20_9) rfl ?_
  refine st_13 _ ?_
  refine XS.astore X_9.here hx rfl (hb hby d20_12) rfl rfl (l' := #[VR t, VI 0, VI 2, VI 2, VR a_14]) rfl ?_
  refine XS.aloadN X_9.here hx rfl (hb hby d20_14) rfl rfl ?_
  refine XS.iloadN X_9.here hx rfl (hb hby d20_15) rfl ?_
  refine XS.aload X_9.here hx rfl (hb hby d20_16) rfl rfl ?_
  refine XS.iconst X_9.here hx rfl (hb hby d20_18) ?_
  refine XS.aloadN X_9.here hx rfl (hb hby d20_19) rfl rfl ?_
  refine X_9.arraylength hx (by rw [e_10]; exact A_20.1) (State.isArrayOf_alike hZ.alike A_20.2.1) (g := (mkF m 20 #[VR t, VI 0, VI 2, VI 2, VR a_14] [(.ref t), (.int 0), (.ref a_14), (.int 0), (.ref t)])) rfl rfl (hb hby d20_20) _ ?_
  rw [len_of S_22 M_23]
  show Steps p.tables e below (T_6.setTop (mkF m 21 #[VR t, VI 0, VI 2, VI 2, VR a_14] [(.int 4), (.int 0), (.ref a_14), (.int 0), (.ref t)])) _
  refine XS.iloadN X_9.here hx rfl (hb hby d20_21) rfl ?_
  refine XS.isub X_9.here hx rfl (hb hby d20_22) rfl ?_
  refine XS.iloadN X_9.here hx rfl (hb hby d20_23) rfl ?_
  refine st_27 _ ?_
  refine st_40 _ ?_
  refine XS.aload X_35.here hx rfl (hb hby d20_30) rfl rfl ?_
  exact Steps.refl _
 have K_43 : Keep h0 h_33 [] := (((Keep.refl _ _).ext E_11).trans K_38 (allS (Or.inr (Nat.le_trans (Nat.le_refl _) (Nat.le_of_eq g_15.symm))) all0))
 obtain ⟨fs, hr, hrun, hended, hW, hsame⟩ := X_35.leave (v := some (.ref a_14)) (fun h => by rw [Bd.returns] at h; cases h)
 refine ⟨_, _, C_42.trans (retOut X_35 hx Bd.returns rfl (Or.inr (Or.inr (Or.inr (Or.inr ⟨rfl, rfl, rfl⟩)))) (hb hby d20_32) hr), hrun, hended, _, _, rfl, ?_, ⟨_, rfl⟩, hW, hsame.mono (by decide) (by decide)⟩
 show Q_crb_4_2 Z G1 G3 t kt y0 y1 y2 y3 h0 n0 (some (.ref a_14)) T_32.heap _
 rw [e_36]
 exact ⟨a_14, k_8, rfl, N_37, K_43, (Nat.le_trans (Nat.le_refl _) (Nat.le_of_eq g_15.symm)), V_41⟩
abbrev R_cr_4_2 : Room := { frames := 2, cells := 1, slots := 2, locals := 34 }
def Q_cr_4_2 (Z : State) (G1 : Int32) (G3 : Value) (t : Addr) (kt : ClassId) (y0 : Int32) (y1 : Int32) (y2 : Int32) (y3 : Int32) (h0 : Heap) (n0 : Nat) (v : Option Value) (h : Heap) (L : List Loc) : Prop := (∃ u : Addr, ∃ ku : ClassId, v = some (.ref u) ∧ Fr n0 L ∧ Keep h0 h [] ∧ (h0.size ≤ u) ∧ (Arv Z h u ku .byte (2 : Int32) [(.int y0), (.int y1)] (.int 0)))
theorem rm_cr_4_2 (l : Launch) (Z : State) (a0 : Array Value) (hw : HW Z a0) (ws : List Jvm.Cond) (G1 : Int32) (G3 : Value) (HG : own_G l Z a0 G1 G3) (h0 : Heap) (n0 : Nat) (X00 : Old Z n0 h0) (t : Addr) (kt : ClassId) (y0 : Int32) (y1 : Int32) (y2 : Int32) (y3 : Int32) (hp0 : Arv Z h0 t kt .byte (4 : Int32) [(.int y0), (.int y1), (.int y2), (.int y3)] (.int 0)) :
  own_CP l Z M398 jdk_65_method_132_code 3 (some (.array .byte)) ws R_cr_4_2 #[(.ref t), (.int 0), (.int 2)] h0 (Q_cr_4_2 Z G1 G3 t kt y0 y1 y2 y3 h0 n0) := by
 refine own_P (plainFor_of_name pn_359) ?_
 intro p e s m below meth c s₁ S0 Bd hZ hh hx hby hml hown hnm X0 e0 hS0d
 obtain ⟨O1, P1, O3f, rG3⟩ := id HG
 have N0 := Fr.nil n0
 have C0 : Steps p.tables e below S0 (s₁.setTop (mkF m 0 #[VR t, VI 0, VI 2] [])) := by rw [hS0d]; exact castTop (ef_216 m t (0 : Int32) (2 : Int32)) (Steps.refl _)
 obtain ⟨c_1, A_2, q_3, S_4, M_5, H_6, U_7⟩ := id hp0
 obtain ⟨_, _, ⟨T_8, L_8, k_8, n_8⟩, -, X_8, ⟨Lc_8, hQ_8, l_8, y_8, z_8⟩, st_8⟩ := Jvm.LawKit.callS X0 hx (y := M364) hown (mvT hZ (w144 hw)) (mvT hZ (w145 hw)) (mvT hZ (w142 hw)) (mvT hZ (w146 hw)) (by decide) (backOf (W := 0) (rm_crb_4_2 l Z a0 hw [] G1 G3 HG h0 n0 X00 t kt y0 y1 y2 y3 hp0) hZ (w146 hw) (w142 hw) (by decide) (by decide)) (g := (mkF m 13 #[VR t, VI 0, VI 2] [(.int 2), (.int 0), (.ref t)])) rfl (by rw [hml]; rfl) (argsL := [(.ref t), (.int 0), (.int 2)]) (rest := []) (lenOf pd_409 rfl) rfl (by show 2 * 0 + _ ≤ _; exact Nat.le_of_eq rfl) (hb hby d21_13) (fun _ _ => ⟨rfl, e0, (by decide : 0 + 1 ≤ _), (by decide : 0 + 2 ≤ _)⟩)
 dsimp only [Pt.U, Pt.locs, Pt.cells, Pt.slots] at X_8 l_8 y_8 z_8 st_8 hQ_8
 subst l_8 y_8 z_8
 obtain ⟨a_9, k_10, rfl, N_11, K_12, g_13, g_14⟩ := hQ_8
 have N_15 := Fr.app N0 N_11
 have C_16 : Steps p.tables e below S0 (T_8.setTop (mkF m 16 #[VR t, VI 0, VI 2] [(.ref a_9)])) := by
  refine C0.trans ?_
  refine XS.iloadN X0.here hx rfl (hb hby d21_0) rfl ?_
  refine XS.ifNo X0.here hx rfl (hb hby d21_1) rfl (by decide) ?_
  refine XS.iloadN X0.here hx rfl (hb hby d21_4) rfl ?_
  refine XS.aloadN X0.here hx rfl (hb hby d21_5) rfl rfl ?_
  refine X0.arraylength hx (by rw [e0]; exact A_2.1) (State.isArrayOf_alike hZ.alike A_2.2.1) (g := (mkF m 6 #[VR t, VI 0, VI 2] [(.ref t), (.int 2)])) rfl rfl (hb hby d21_6) _ ?_
  rw [len_of S_4 M_5]
  refine XS.icmpNo X0.here hx rfl (hb hby d21_7) rfl (by decide) ?_
  refine XS.aloadN X0.here hx rfl (hb hby d21_10) rfl rfl ?_
  refine XS.iloadN X0.here hx rfl (hb hby d21_11) rfl ?_
  refine XS.iloadN X0.here hx rfl (hb hby d21_12) rfl ?_
  refine st_8 _ ?_
  exact Steps.refl _
 have K_17 : Keep h0 T_8.heap [] := ((Keep.refl _ _).trans K_12 all0)
 obtain ⟨fs, hr, hrun, hended, hW, hsame⟩ := X_8.leave (v := some (.ref a_9)) (fun h => by rw [Bd.returns] at h; cases h)
 refine ⟨_, _, C_16.trans (retOut X_8 hx Bd.returns rfl (Or.inr (Or.inr (Or.inr (Or.inr ⟨rfl, rfl, rfl⟩)))) (hb hby d21_16) hr), hrun, hended, _, _, rfl, ?_, ⟨_, rfl⟩, hW, hsame.mono (by decide) (by decide)⟩
 show Q_cr_4_2 Z G1 G3 t kt y0 y1 y2 y3 h0 n0 (some (.ref a_9)) T_8.heap _
 exact ⟨a_9, k_10, rfl, N_15, K_17, (Nat.le_trans (Nat.le_refl _) g_13), g_14⟩
abbrev R_lns_4_2 : Room := { frames := 3, cells := 2, slots := 6, locals := 50 }
def Q_lns_4_2 (Z : State) (G1 : Int32) (G3 : Value) (t : Addr) (kt : ClassId) (y0 : Int32) (y1 : Int32) (y2 : Int32) (y3 : Int32) (h0 : Heap) (n0 : Nat) (v : Option Value) (h : Heap) (L : List Loc) : Prop := (∃ r : Addr, ∃ u : Addr, ∃ ku : ClassId, v = some (.ref r) ∧ Fr n0 L ∧ Keep h0 h [] ∧ (Exa Z h r "java/lang/String") ∧ (Fld Z h r "java/lang/String" "coder" "B" (.int 0)) ∧ (Fld Z h r "java/lang/String" "value" "[B" (.ref u)) ∧ (Arv Z h u ku .byte (2 : Int32) [(.int y0), (.int y1)] (.int 0)))
theorem rm_lns_4_2 (l : Launch) (Z : State) (a0 : Array Value) (hw : HW Z a0) (ws : List Jvm.Cond) (G1 : Int32) (G3 : Value) (HG : own_G l Z a0 G1 G3) (h0 : Heap) (n0 : Nat) (X00 : Old Z n0 h0) (t : Addr) (kt : ClassId) (y0 : Int32) (y1 : Int32) (y2 : Int32) (y3 : Int32) (hp0 : Arv Z h0 t kt .byte (4 : Int32) [(.int y0), (.int y1), (.int y2), (.int y3)] (.int 0)) :
  own_CP l Z M334 jdk_43_method_47_code 3 (some (.object "java/lang/String")) ws R_lns_4_2 #[(.ref t), (.int 0), (.int 2)] h0 (Q_lns_4_2 Z G1 G3 t kt y0 y1 y2 y3 h0 n0) := by
 refine own_P (plainFor_of_name pn_157) ?_
 intro p e s m below meth c s₁ S0 Bd hZ hh hx hby hml hown hnm X0 e0 hS0d
 obtain ⟨O1, P1, O3f, rG3⟩ := id HG
 have N0 := Fr.nil n0
 have C0 : Steps p.tables e below S0 (s₁.setTop (mkF m 0 #[VR t, VI 0, VI 2] [])) := by rw [hS0d]; exact castTop (ef_216 m t (0 : Int32) (2 : Int32)) (Steps.refl _)
 obtain ⟨T_1, h_2, X_3, e_4, E_5, A_6, D_7, U_11, st_8⟩ := newO X0 hx hZ hown (w139 hw) (w9 hw) (w10 hw) e0 (g := (mkF m 7 #[VR t, VI 0, VI 2] [])) rfl (hb hby d18_7) (by decide) (by decide)
 obtain ⟨a_9, g_10⟩ : ∃ z, z = h0.size := ⟨_, rfl⟩
 rw [← g_10] at A_6 D_7 st_8 U_11
 have V_12 : Arv Z h_2 t kt .byte (4 : Int32) [(.int y0), (.int y1), (.int y2), (.int y3)] (.int 0) := (hp0.ext E_5)
 have O_13 : Old Z n0 h_2 := (X00.ext E_5)
 obtain ⟨_, _, ⟨T_14, L_14, k_14, n_14⟩, -, X_14, ⟨Lc_14, hQ_14, l_14, y_14, z_14⟩, st_14⟩ := Jvm.LawKit.callS X_3 hx (y := M398) hown (mvT hZ (w140 hw)) (mvT hZ (w141 hw)) (mvT hZ (w142 hw)) (mvT hZ (w143 hw)) (by decide) (backOf (W := 2) (rm_cr_4_2 l Z a0 hw [] G1 G3 HG h_2 n0 O_13 t kt y0 y1 y2 y3 V_12) hZ (w143 hw) (w142 hw) (by decide) (by decide)) (g := (mkF m 16 #[VR t, VI 0, VI 2] [(.int 2), (.int 0), (.ref t), (.ref a_9), (.ref a_9)])) rfl (by rw [hml]; rfl) (argsL := [(.ref t), (.int 0), (.int 2)]) (rest := [(.ref a_9), (.ref a_9)]) (lenOf pd_409 rfl) rfl (by show 2 * 0 + _ ≤ _; exact Nat.le_of_eq rfl) (hb hby d18_16) (fun _ _ => ⟨rfl, e_4, (by decide : 1 + 1 ≤ _), (by decide : 4 + 2 ≤ _)⟩)
 dsimp only [Pt.U, Pt.locs, Pt.cells, Pt.slots] at X_14 l_14 y_14 z_14 st_14 hQ_14
 subst l_14 y_14 z_14
 obtain ⟨a_15, k_16, rfl, N_17, K_18, g_19, g_20⟩ := hQ_14
 have N_21 := Fr.app N0 N_17
 have E_22 : Exa Z T_14.heap a_9 "java/lang/String" := (A_6.keep K_18)
 have F_23 : Fld Z T_14.heap a_9 "java/lang/String" "value" "[B" .null := ((D_7 (Or.inr (w24 hw)) (ty := (.array .byte)) (by decide)).keep K_18 nin0)
 have F_24 : Fld Z T_14.heap a_9 "java/lang/String" "coder" "B" (.int 0) := ((D_7 (Or.inr (w25 hw)) (ty := .byte) (by decide)).keep K_18 nin0)
 have O_25 : Old Z n0 T_14.heap := (O_13.keep K_18 all0)
 obtain ⟨_, _, ⟨T_26, L_26, k_26, n_26⟩, -, X_26, ⟨Lc_26, hQ_26, l_26, y_26, z_26⟩, st_26⟩ := X_14.specialBack hx (y := M414) rfl hown (mvT hZ (w155 hw)) (mvT hZ (w156 hw)) (mvT hZ (w157 hw)) (by decide) (backOf (W := 1) (rm_sbb_0 l Z a0 hw [] G1 G3 HG T_14.heap n0 O_25 a_9 a_15 E_22 F_23 F_24 (Nat.le_trans (own_n0 X00) (Nat.le_of_eq g_10.symm))) hZ (w157 hw) (w10 hw) (by decide) (by decide)) (g := (mkF m 20 #[VR t, VI 0, VI 2] [(.int 0), (.ref a_15), (.ref a_9), (.ref a_9)])) rfl (by rw [hml]; rfl) (Steps.refl _) (a := a_9) (argsL := [(.ref a_15), (.int 0)]) (rest := [(.ref a_9)]) (lenOf pd_439 rfl) rfl (by show 2 * 0 + _ ≤ _; exact Nat.le_of_eq rfl) (hb hby d18_20) (fun _ _ => ⟨rfl, rfl, (by decide : 2 + 0 ≤ _), (by decide : 6 + 0 ≤ _)⟩)
 dsimp only [Pt.U, Pt.locs, Pt.cells, Pt.slots] at X_26 l_26 y_26 z_26 st_26 hQ_26
 subst l_26 y_26 z_26
 obtain ⟨rfl, N_27, K_28, g_29, g_30, g_31⟩ := hQ_26
 have N_32 := Fr.app N_21 N_27
 have C_33 : Steps p.tables e below S0 (T_26.setTop (mkF m 23 #[VR t, VI 0, VI 2] [(.ref a_9)])) := by
  refine C0.trans ?_
  refine XS.iloadN X0.here hx rfl (hb hby d18_0) rfl ?_
  refine XS.ifYes X0.here hx rfl (pc0 := 1) (pc' := 7) rfl (hb hby d18_1) rfl (by decide) (by decide) (by decide) ?_
  refine st_8 _ ?_
  refine XS.dup X_3.here hx rfl (hb hby d18_10) rfl rfl ?_
  refine XS.aloadN X_3.here hx rfl (hb hby d18_11) rfl rfl ?_
  refine XS.iloadN X_3.here hx rfl (hb hby d18_12) rfl ?_
  refine XS.iloadN X_3.here hx rfl (hb hby d18_13) rfl ?_
  refine XS.iloadN X_3.here hx rfl (hb hby d18_14) rfl ?_
  refine XS.iadd X_3.here hx rfl (hb hby d18_15) rfl ?_
  refine st_14 _ ?_
  refine XS.iconst X_14.here hx rfl (hb hby d18_19) ?_
  refine st_26.trans ?_
  exact Steps.refl _
 have V_34 : Arv Z T_26.heap a_15 k_16 .byte (2 : Int32) [(.int y0), (.int y1)] (.int 0) := (g_20.keep K_28 (ninS (Ne.symm (Nat.ne_of_lt (Nat.lt_of_lt_of_le A_6.lt (Nat.le_trans (Nat.le_refl _) g_19)))) nin0))
 have K_35 : Keep h0 T_26.heap [] := ((((Keep.refl _ _).ext E_5).trans K_18 all0).trans K_28 (allS (Or.inr (Nat.le_trans (Nat.le_refl _) (Nat.le_of_eq g_10.symm))) all0))
 obtain ⟨fs, hr, hrun, hended, hW, hsame⟩ := X_26.leave (v := some (.ref a_9)) (fun h => by rw [Bd.returns] at h; cases h)
 refine ⟨_, _, C_33.trans (retOut X_26 hx Bd.returns rfl (Or.inr (Or.inr (Or.inr (Or.inr ⟨rfl, rfl, rfl⟩)))) (hb hby d18_23) hr), hrun, hended, _, _, rfl, ?_, ⟨_, rfl⟩, hW, hsame.mono (by decide) (by decide)⟩
 show Q_lns_4_2 Z G1 G3 t kt y0 y1 y2 y3 h0 n0 (some (.ref a_9)) T_26.heap _
 exact ⟨a_9, a_15, k_16, rfl, N_32, K_35, g_29, g_30, g_31, V_34⟩
abbrev R_sub_4_2 : Room := { frames := 4, cells := 2, slots := 6, locals := 64 }
def Q_sub_4_2 (Z : State) (G1 : Int32) (G3 : Value) (x : Addr) (t : Addr) (kt : ClassId) (y0 : Int32) (y1 : Int32) (y2 : Int32) (y3 : Int32) (h0 : Heap) (n0 : Nat) (v : Option Value) (h : Heap) (L : List Loc) : Prop := (∃ r : Addr, ∃ u : Addr, ∃ ku : ClassId, v = some (.ref r) ∧ Fr n0 L ∧ Keep h0 h [] ∧ (Exa Z h r "java/lang/String") ∧ (Fld Z h r "java/lang/String" "coder" "B" (.int 0)) ∧ (Fld Z h r "java/lang/String" "value" "[B" (.ref u)) ∧ (Arv Z h u ku .byte (2 : Int32) [(.int y0), (.int y1)] (.int 0)))
theorem rm_sub_4_2 (l : Launch) (Z : State) (a0 : Array Value) (hw : HW Z a0) (ws : List Jvm.Cond) (G1 : Int32) (G3 : Value) (HG : own_G l Z a0 G1 G3) (h0 : Heap) (n0 : Nat) (X00 : Old Z n0 h0) (x : Addr) (t : Addr) (kt : ClassId) (y0 : Int32) (y1 : Int32) (y2 : Int32) (y3 : Int32) (hp0 : Exa Z h0 x "java/lang/String") (hp1 : Fld Z h0 x "java/lang/String" "coder" "B" (.int 0)) (hp2 : Fld Z h0 x "java/lang/String" "value" "[B" (.ref t)) (hp3 : Arv Z h0 t kt .byte (4 : Int32) [(.int y0), (.int y1), (.int y2), (.int y3)] (.int 0)) :
  own_CP l Z M314 jdk_42_method_92_code 5 (some (.object "java/lang/String")) ws R_sub_4_2 #[(.ref x), (.int 0), (.int 2)] h0 (Q_sub_4_2 Z G1 G3 x t kt y0 y1 y2 y3 h0 n0) := by
 refine own_P (plainFor_of_name pn_2) ?_
 intro p e s m below meth c s₁ S0 Bd hZ hh hx hby hml hown hnm X0 e0 hS0d
 obtain ⟨O1, P1, O3f, rG3⟩ := id HG
 have N0 := Fr.nil n0
 have C0 : Steps p.tables e below S0 (s₁.setTop (mkF m 0 #[VR x, VI 0, VI 2, .unset, .unset] [])) := by rw [hS0d]; exact castTop (ef_315 m x (0 : Int32) (2 : Int32)) (Steps.refl _)
 obtain ⟨q_2, q_3, q_4, q_5, q_6⟩ := isOf (T := s₁) hZ e0 hp0
 obtain ⟨_, _, ⟨T_1, L_1, k_1, n_1⟩, -, X_1, ⟨Lc_1, hQ_1, l_1, y_1, z_1⟩, st_1⟩ := X0.virtualBack hx (y := M141) (z := M141) hown (mvT hZ (w68 hw)) (mvT hZ (w69 hw)) (notFace_of_selects (args := #[]) (mvT hZ (w71 hw))) (mvT hZ (w71 hw)) (mvT hZ (w70 hw)) (by decide) (backOf (W := 0) (rm_lenany l Z a0 hw [] G1 G3 HG h0 n0 X00 x t kt (4 : Int32) [(.int y0), (.int y1), (.int y2), (.int y3)] hp0 hp1 hp2 hp3) hZ (w72 hw) (w10 hw) (by decide) (by decide)) q_4 q_6 (g := (mkF m 1 #[VR x, VI 0, VI 2, .unset, .unset] [(.ref x)])) rfl (by rw [hml]; rfl) (Steps.refl _) (argsL := []) (rest := []) (lenOf pd_232 rfl) rfl (by show 2 * 0 + _ ≤ _; exact Nat.le_of_eq rfl) (hb hby d17_1) (fun _ _ => ⟨rfl, e0, (by decide : 0 + 0 ≤ _), (by decide : 0 + 0 ≤ _)⟩)
 dsimp only [Pt.U, Pt.locs, Pt.cells, Pt.slots] at X_1 l_1 y_1 z_1 st_1 hQ_1
 subst l_1 y_1 z_1
 obtain ⟨rfl, N_7, e_8⟩ := hQ_1
 have N_9 := Fr.app N0 N_7
 have e_10 : T_1.heap = h0 := e_8
 obtain ⟨_, _, ⟨T_11, L_11, k_11, n_11⟩, -, X_11, ⟨Lc_11, hQ_11, l_11, y_11, z_11⟩, st_11⟩ := Jvm.LawKit.callS X_1 hx (y := M299) hown (mvT hZ (w99 hw)) (mvT hZ (w100 hw)) (mvT hZ (w10 hw)) (mvT hZ (w101 hw)) (by decide) (backOf (W := 0) (rm_cbb l Z a0 hw [] G1 G3 HG h0 n0 X00 (0 : Int32) (2 : Int32) (4 : Int32) (by decide) (by decide) (by decide)) hZ (w101 hw) (w10 hw) (by decide) (by decide)) (g := (mkF m 8 #[VR x, VI 0, VI 2, VI 4, .unset] [(.int 4), (.int 2), (.int 0)])) rfl (by rw [hml]; rfl) (argsL := [(.int 0), (.int 2), (.int 4)]) (rest := []) (lenOf pd_323 rfl) rfl (by show 2 * 0 + _ ≤ _; exact Nat.le_of_eq rfl) (hb hby d17_8) (fun _ _ => ⟨rfl, e_10, (by decide : 0 + 0 ≤ _), (by decide : 0 + 0 ≤ _)⟩)
 dsimp only [Pt.U, Pt.locs, Pt.cells, Pt.slots] at X_11 l_11 y_11 z_11 st_11 hQ_11
 subst l_11 y_11 z_11
 obtain ⟨rfl, N_12, e_13⟩ := hQ_11
 have N_14 := Fr.app N_9 N_12
 have e_15 : T_11.heap = h0 := e_13
 obtain ⟨q_17, q_18, q_19, q_20, q_21⟩ := isOf (T := T_11) hZ e_15 hp0
 obtain ⟨_, _, ⟨T_16, L_16, k_16, n_16⟩, -, X_16, ⟨Lc_16, hQ_16, l_16, y_16, z_16⟩, st_16⟩ := X_11.virtualBack hx (y := M132) (z := M132) hown (mvT hZ (w62 hw)) (mvT hZ (w63 hw)) (notFace_of_selects (args := #[]) (mvT hZ (w65 hw))) (mvT hZ (w65 hw)) (mvT hZ (w64 hw)) (by decide) (backOf (W := 0) (rm_islat l Z a0 hw [] G1 G3 HG h0 n0 X00 x hp1) hZ (w66 hw) (w10 hw) (by decide) (by decide)) q_19 q_21 (g := (mkF m 28 #[VR x, VI 0, VI 2, VI 4, VI 2] [(.ref x)])) rfl (by rw [hml]; rfl) (Steps.refl _) (argsL := []) (rest := []) (lenOf pd_219 rfl) rfl (by show 2 * 0 + _ ≤ _; exact Nat.le_of_eq rfl) (hb hby d17_28) (fun _ _ => ⟨rfl, e_15, (by decide : 0 + 0 ≤ _), (by decide : 0 + 0 ≤ _)⟩)
 dsimp only [Pt.U, Pt.locs, Pt.cells, Pt.slots] at X_16 l_16 y_16 z_16 st_16 hQ_16
 subst l_16 y_16 z_16
 obtain ⟨rfl, N_22, e_23⟩ := hQ_16
 have N_24 := Fr.app N_14 N_22
 have e_25 : T_16.heap = h0 := e_23
 obtain ⟨T_26, X_27, e_28, st_29⟩ := getF X_16 hx hZ hown (host := "") (Or.inl (w28 hw)) Via.refl e_25 hp2 (g := (mkF m 35 #[VR x, VI 0, VI 2, VI 4, VI 2] [(.ref x)])) rfl rfl (hb hby d17_35)
 obtain ⟨_, _, ⟨T_30, L_30, k_30, n_30⟩, -, X_30, ⟨Lc_30, hQ_30, l_30, y_30, z_30⟩, st_30⟩ := Jvm.LawKit.callS X_27 hx (y := M334) hown (mvT hZ (w121 hw)) (mvT hZ (w122 hw)) (mvT hZ (w80 hw)) (mvT hZ (w123 hw)) (by decide) (backOf (W := 0) (rm_lns_4_2 l Z a0 hw [] G1 G3 HG h0 n0 X00 t kt y0 y1 y2 y3 hp3) hZ (w123 hw) (w80 hw) (by decide) (by decide)) (g := (mkF m 41 #[VR x, VI 0, VI 2, VI 4, VI 2] [(.int 2), (.int 0), (.ref t)])) rfl (by rw [hml]; rfl) (argsL := [(.ref t), (.int 0), (.int 2)]) (rest := []) (lenOf pd_352 rfl) rfl (by show 2 * 0 + _ ≤ _; exact Nat.le_of_eq rfl) (hb hby d17_41) (fun _ _ => ⟨rfl, e_28, (by decide : 0 + 2 ≤ _), (by decide : 0 + 6 ≤ _)⟩)
 dsimp only [Pt.U, Pt.locs, Pt.cells, Pt.slots] at X_30 l_30 y_30 z_30 st_30 hQ_30
 subst l_30 y_30 z_30
 obtain ⟨a_31, a_32, k_33, rfl, N_34, K_35, g_36, g_37, g_38, g_39⟩ := hQ_30
 have N_40 := Fr.app N_24 N_34
 have C_41 : Steps p.tables e below S0 (T_30.setTop (mkF m 57 #[VR x, VI 0, VI 2, VI 4, VI 2] [(.ref a_31)])) := by
  refine C0.trans ?_
  refine XS.aloadN X0.here hx rfl (hb hby d17_0) rfl rfl ?_
  refine st_1.trans ?_
  refine XS.istoreN X_1.here hx rfl (hb hby d17_4) rfl (l' := #[VR x, VI 0, VI 2, VI 4, .unset]) rfl ?_
  refine XS.iloadN X_1.here hx rfl (hb hby d17_5) rfl ?_
  refine XS.iloadN X_1.here hx rfl (hb hby d17_6) rfl ?_
  refine XS.iloadN X_1.here hx rfl (hb hby d17_7) rfl ?_
  refine st_11 _ ?_
  refine XS.iloadN X_11.here hx rfl (hb hby d17_11) rfl ?_
  refine XS.ifNo X_11.here hx rfl (hb hby d17_12) rfl (by decide) ?_
  refine XS.iloadN X_11.here hx rfl (hb hby d17_15) rfl ?_
  refine XS.iloadN X_11.here hx rfl (hb hby d17_16) rfl ?_
  refine XS.icmpYes X_11.here hx rfl (pc0 := 17) (pc' := 22) rfl (hb hby d17_17) rfl (by decide) (by decide) (by decide) ?_
  refine XS.iloadN X_11.here hx rfl (hb hby d17_22) rfl ?_
  refine XS.iloadN X_11.here hx rfl (hb hby d17_23) rfl ?_
  refine XS.isub X_11.here hx rfl (hb hby d17_24) rfl ?_
  refine XS.istore X_11.here hx rfl (hb hby d17_25) rfl (l' := #[VR x, VI 0, VI 2, VI 4, VI 2]) rfl ?_
  show Steps p.tables e below (T_11.setTop (mkF m 27 #[VR x, VI 0, VI 2, VI 4, VI 2] [])) _
  refine XS.aloadN X_11.here hx rfl (hb hby d17_27) rfl rfl ?_
  refine st_16.trans ?_
  refine XS.ifNo X_16.here hx rfl (hb hby d17_31) rfl (by decide) ?_
  refine XS.aloadN X_16.here hx rfl (hb hby d17_34) rfl rfl ?_
  refine st_29 _ ?_
  refine XS.iloadN X_27.here hx rfl (hb hby d17_38) rfl ?_
  refine XS.iload X_27.here hx rfl (hb hby d17_39) rfl ?_
  refine st_30 _ ?_
  refine XS.goto X_30.here hx rfl (pc0 := 44) (pc' := 57) rfl (hb hby d17_44) (by decide) (by decide) ?_
  exact Steps.refl _
 have K_42 : Keep h0 T_30.heap [] := ((Keep.refl _ _).trans K_35 all0)
 obtain ⟨fs, hr, hrun, hended, hW, hsame⟩ := X_30.leave (v := some (.ref a_31)) (fun h => by rw [Bd.returns] at h; cases h)
 refine ⟨_, _, C_41.trans (retOut X_30 hx Bd.returns rfl (Or.inr (Or.inr (Or.inr (Or.inr ⟨rfl, rfl, rfl⟩)))) (hb hby d17_57) hr), hrun, hended, _, _, rfl, ?_, ⟨_, rfl⟩, hW, hsame.mono (by decide) (by decide)⟩
 show Q_sub_4_2 Z G1 G3 x t kt y0 y1 y2 y3 h0 n0 (some (.ref a_31)) T_30.heap _
 exact ⟨a_31, a_32, k_33, rfl, N_40, K_42, g_36, g_37, g_38, g_39⟩
abbrev M444 : MethodName := ⟨"jdk/internal/util/Preconditions", "checkIndex", "(IILjava/util/function/BiFunction;)I"⟩
theorem ef_445 (m : MethodId) (x0 : Int32) (x1 : Int32) (x2 : Value) (r2 : x2.isRef = true) : entryFrame m #[(.int x0), (.int x1), x2] 3 = mkF m 0 #[VI x0, VI x1, .val x2] [] := by rcases ref_cases r2 with rfl | ⟨q2, rfl⟩ <;> first | (simp [entryFrame, mkF, argsToLocals, Value.category]; done) | rfl
theorem d23_0 : decode jdk_41_method_11_code 0 = .ok (.iload_n 0, 1) := by decide +kernel
theorem d23_1 : decode jdk_41_method_11_code 1 = .ok (.ifCond .lt 8, 3) := by decide +kernel
theorem d23_4 : decode jdk_41_method_11_code 4 = .ok (.iload_n 0, 1) := by decide +kernel
theorem d23_5 : decode jdk_41_method_11_code 5 = .ok (.iload_n 1, 1) := by decide +kernel
theorem d23_6 : decode jdk_41_method_11_code 6 = .ok (.if_icmp .lt 10, 3) := by decide +kernel
theorem d23_16 : decode jdk_41_method_11_code 16 = .ok (.iload_n 0, 1) := by decide +kernel
theorem d23_17 : decode jdk_41_method_11_code 17 = .ok (.ireturn, 1) := by decide +kernel
abbrev R_pchk : Room := { frames := 0, cells := 0, slots := 0, locals := 0 }
def Q_pchk (Z : State) (G1 : Int32) (G3 : Value) (i : Int32) (n : Int32) (h0 : Heap) (n0 : Nat) (v : Option Value) (h : Heap) (L : List Loc) : Prop := (v = some (.int i) ∧ Fr n0 L ∧ h = h0)
theorem rm_pchk (l : Launch) (Z : State) (a0 : Array Value) (hw : HW Z a0) (ws : List Jvm.Cond) (G1 : Int32) (G3 : Value) (HG : own_G l Z a0 G1 G3) (h0 : Heap) (n0 : Nat) (X00 : Old Z n0 h0) (i : Int32) (n : Int32) (h1 : ¬ (i < (0 : Int32))) (h2 : i < n) :
  own_CP l Z M444 jdk_41_method_11_code 3 (some .int) ws R_pchk #[(.int i), (.int n), G3] h0 (Q_pchk Z G1 G3 i n h0 n0) := by
 refine own_P (plainFor_of_name pn_288) ?_
 intro p e s m below meth c s₁ S0 Bd hZ hh hx hby hml hown hnm X0 e0 hS0d
 obtain ⟨O1, P1, O3f, rG3⟩ := id HG
 have N0 := Fr.nil n0
 have C0 : Steps p.tables e below S0 (s₁.setTop (mkF m 0 #[VI i, VI n, .val G3] [])) := by rw [hS0d]; exact castTop (ef_445 m i n G3 rG3) (Steps.refl _)
 have C_1 : Steps p.tables e below S0 (s₁.setTop (mkF m 17 #[VI i, VI n, .val G3] [(.int i)])) := by
  refine C0.trans ?_
  refine XS.iloadN X0.here hx rfl (hb hby d23_0) rfl ?_
  refine XS.ifNo X0.here hx rfl (hb hby d23_1) rfl (i0_lt_f h1) ?_
  refine XS.iloadN X0.here hx rfl (hb hby d23_4) rfl ?_
  refine XS.iloadN X0.here hx rfl (hb hby d23_5) rfl ?_
  refine XS.icmpYes X0.here hx rfl (pc0 := 6) (pc' := 16) rfl (hb hby d23_6) rfl (ii_lt_t h2) (by decide) (by decide) ?_
  refine XS.iloadN X0.here hx rfl (hb hby d23_16) rfl ?_
  exact Steps.refl _
 obtain ⟨fs, hr, hrun, hended, hW, hsame⟩ := X0.leave (v := some (.int i)) (fun h => by rw [Bd.returns] at h; cases h)
 refine ⟨_, _, C_1.trans (retOut X0 hx Bd.returns rfl (Or.inl ⟨rfl, Or.inl rfl, _, rfl⟩) (hb hby d23_17) hr), hrun, hended, _, _, rfl, ?_, ⟨_, rfl⟩, hW, hsame.mono (by decide) (by decide)⟩
 show Q_pchk Z G1 G3 i n h0 n0 (some (.int i)) s₁.heap _
 rw [e0]
 exact ⟨rfl, N0, rfl⟩
abbrev M453 : MethodName := ⟨"java/lang/String", "checkIndex", "(II)V"⟩
theorem d24_0 : decode jdk_42_method_155_code 0 = .ok (.iload_n 0, 1) := by decide +kernel
theorem d24_1 : decode jdk_42_method_155_code 1 = .ok (.iload_n 1, 1) := by decide +kernel
theorem d24_2 : decode jdk_42_method_155_code 2 = .ok (.getstatic 1053, 3) := by decide +kernel
theorem w138 {Z a0} (hw : HW Z a0) : Cond.before (Cond.code (⟨"jdk/internal/util/Preconditions", "checkIndex", "(IILjava/util/function/BiFunction;)I"⟩ : MethodName) jdk_41_method_11_code (3 : Nat) (Option.some FieldType.int)) a0 Z = true := hw _ (List.mem_of_getElem? (i := 138) rfl)
theorem pd_458 : parseMethodDescriptor "(IILjava/util/function/BiFunction;)I" = some ⟨[.int, .int, (.object "java/util/function/BiFunction")], some .int⟩ := by decide +kernel
theorem d24_5 : decode jdk_42_method_155_code 5 = .ok (.invokestatic 1059, 3) := by decide +kernel
theorem w136 {Z a0} (hw : HW Z a0) : Cond.before (Cond.methodLink "java/lang/String" (1059 : Nat) (⟨"jdk/internal/util/Preconditions", "checkIndex", "(IILjava/util/function/BiFunction;)I"⟩ : MethodName)) a0 Z = true := hw _ (List.mem_of_getElem? (i := 136) rfl)
theorem w137 {Z a0} (hw : HW Z a0) : Cond.before (Cond.static (⟨"jdk/internal/util/Preconditions", "checkIndex", "(IILjava/util/function/BiFunction;)I"⟩ : MethodName)) a0 Z = true := hw _ (List.mem_of_getElem? (i := 137) rfl)
theorem d24_8 : decode jdk_42_method_155_code 8 = .ok (.pop, 1) := by decide +kernel
theorem d24_9 : decode jdk_42_method_155_code 9 = .ok (.return_, 1) := by decide +kernel
abbrev R_schk : Room := { frames := 1, cells := 0, slots := 0, locals := 14 }
def Q_schk (Z : State) (G1 : Int32) (G3 : Value) (i : Int32) (n : Int32) (h0 : Heap) (n0 : Nat) (v : Option Value) (h : Heap) (L : List Loc) : Prop := (v = none ∧ Fr n0 L ∧ h = h0)
theorem rm_schk (l : Launch) (Z : State) (a0 : Array Value) (hw : HW Z a0) (ws : List Jvm.Cond) (G1 : Int32) (G3 : Value) (HG : own_G l Z a0 G1 G3) (h0 : Heap) (n0 : Nat) (X00 : Old Z n0 h0) (i : Int32) (n : Int32) (h1 : ¬ (i < (0 : Int32))) (h2 : i < n) :
  own_CP l Z M453 jdk_42_method_155_code 2 none ws R_schk #[(.int i), (.int n)] h0 (Q_schk Z G1 G3 i n h0 n0) := by
 refine own_P (plainFor_of_name pn_2) ?_
 intro p e s m below meth c s₁ S0 Bd hZ hh hx hby hml hown hnm X0 e0 hS0d
 obtain ⟨O1, P1, O3f, rG3⟩ := id HG
 have N0 := Fr.nil n0
 have C0 : Steps p.tables e below S0 (s₁.setTop (mkF m 0 #[VI i, VI n] [])) := by rw [hS0d]; exact castTop (ef_167 m i n) (Steps.refl _)
 obtain ⟨T_1, X_2, e_3, st_4⟩ := getS X0 hx hZ (host := "") hown (w102 hw) Via.refl e0 (O3f.ext X00.2) (g := (mkF m 2 #[VI i, VI n] [(.int n), (.int i)])) rfl (hb hby d24_2)
 obtain ⟨_, _, ⟨T_5, L_5, k_5, n_5⟩, -, X_5, ⟨Lc_5, hQ_5, l_5, y_5, z_5⟩, st_5⟩ := Jvm.LawKit.callS X_2 hx (y := M444) hown (mvT hZ (w136 hw)) (mvT hZ (w137 hw)) (mvT hZ (w103 hw)) (mvT hZ (w138 hw)) (by decide) (backOf (W := 0) (rm_pchk l Z a0 hw [] G1 G3 HG h0 n0 X00 i n h1 h2) hZ (w138 hw) (w103 hw) (by decide) (by decide)) (g := (mkF m 5 #[VI i, VI n] [G3, (.int n), (.int i)])) rfl (by rw [hml]; rfl) (argsL := [(.int i), (.int n), G3]) (rest := []) (lenOf pd_458 rfl) rfl (by show 2 * 0 + _ ≤ _; exact Nat.le_of_eq rfl) (hb hby d24_5) (fun _ _ => ⟨rfl, e_3, (by decide : 0 + 0 ≤ _), (by decide : 0 + 0 ≤ _)⟩)
 dsimp only [Pt.U, Pt.locs, Pt.cells, Pt.slots] at X_5 l_5 y_5 z_5 st_5 hQ_5
 subst l_5 y_5 z_5
 obtain ⟨rfl, N_6, e_7⟩ := hQ_5
 have N_8 := Fr.app N0 N_6
 have e_9 : T_5.heap = h0 := e_7
 have C_10 : Steps p.tables e below S0 (T_5.setTop (mkF m 9 #[VI i, VI n] [])) := by
  refine C0.trans ?_
  refine XS.iloadN X0.here hx rfl (hb hby d24_0) rfl ?_
  refine XS.iloadN X0.here hx rfl (hb hby d24_1) rfl ?_
  refine st_4 _ ?_
  refine st_5 _ ?_
  refine XS.pop X_5.here hx rfl (hb hby d24_8) rfl rfl ?_
  exact Steps.refl _
 obtain ⟨fs, hr, hrun, hended, hW, hsame⟩ := X_5.leave (v := none) (fun _ => rfl)
 refine ⟨_, _, C_10.trans (X_5.returnOut hx Bd.returns (hb hby d24_9) hr), hrun, hended, _, _, rfl, ?_, ⟨_, rfl⟩, hW, hsame.mono (by decide) (by decide)⟩
 show Q_schk Z G1 G3 i n h0 n0 (none) T_5.heap _
 rw [e_9]
 exact ⟨rfl, N_8, rfl⟩
abbrev M464 : MethodName := ⟨"java/lang/StringLatin1", "charAt", "([BI)C"⟩
theorem d25_0 : decode jdk_43_method_2_code 0 = .ok (.iload_n 1, 1) := by decide +kernel
theorem d25_1 : decode jdk_43_method_2_code 1 = .ok (.aload_n 0, 1) := by decide +kernel
theorem d25_2 : decode jdk_43_method_2_code 2 = .ok (.arraylength, 1) := by decide +kernel
theorem w135 {Z a0} (hw : HW Z a0) : Cond.before (Cond.code (⟨"java/lang/String", "checkIndex", "(II)V"⟩ : MethodName) jdk_42_method_155_code (2 : Nat) (Option.none : Option FieldType)) a0 Z = true := hw _ (List.mem_of_getElem? (i := 135) rfl)
theorem d25_3 : decode jdk_43_method_2_code 3 = .ok (.invokestatic 9, 3) := by decide +kernel
theorem w133 {Z a0} (hw : HW Z a0) : Cond.before (Cond.methodLink "java/lang/StringLatin1" (9 : Nat) (⟨"java/lang/String", "checkIndex", "(II)V"⟩ : MethodName)) a0 Z = true := hw _ (List.mem_of_getElem? (i := 133) rfl)
theorem w134 {Z a0} (hw : HW Z a0) : Cond.before (Cond.static (⟨"java/lang/String", "checkIndex", "(II)V"⟩ : MethodName)) a0 Z = true := hw _ (List.mem_of_getElem? (i := 134) rfl)
theorem d25_6 : decode jdk_43_method_2_code 6 = .ok (.aload_n 0, 1) := by decide +kernel
theorem d25_7 : decode jdk_43_method_2_code 7 = .ok (.iload_n 1, 1) := by decide +kernel
theorem d25_8 : decode jdk_43_method_2_code 8 = .ok (.baload, 1) := by decide +kernel
theorem d25_9 : decode jdk_43_method_2_code 9 = .ok (.sipush 255, 3) := by decide +kernel
theorem d25_12 : decode jdk_43_method_2_code 12 = .ok (.iand, 1) := by decide +kernel
theorem d25_13 : decode jdk_43_method_2_code 13 = .ok (.i2c, 1) := by decide +kernel
theorem d25_14 : decode jdk_43_method_2_code 14 = .ok (.ireturn, 1) := by decide +kernel
abbrev R_lch_1_0 : Room := { frames := 2, cells := 0, slots := 0, locals := 27 }
def Q_lch_1_0 (Z : State) (G1 : Int32) (G3 : Value) (t : Addr) (kt : ClassId) (y0 : Int32) (h0 : Heap) (n0 : Nat) (v : Option Value) (h : Heap) (L : List Loc) : Prop := (v = some (.int (own_ch y0)) ∧ Fr n0 L ∧ h = h0)
theorem rm_lch_1_0 (l : Launch) (Z : State) (a0 : Array Value) (hw : HW Z a0) (ws : List Jvm.Cond) (G1 : Int32) (G3 : Value) (HG : own_G l Z a0 G1 G3) (h0 : Heap) (n0 : Nat) (X00 : Old Z n0 h0) (t : Addr) (kt : ClassId) (y0 : Int32) (hp0 : Arv Z h0 t kt .byte (1 : Int32) [(.int y0)] (.int 0)) :
  own_CP l Z M464 jdk_43_method_2_code 2 (some .char) ws R_lch_1_0 #[(.ref t), (.int 0)] h0 (Q_lch_1_0 Z G1 G3 t kt y0 h0 n0) := by
 refine own_P (plainFor_of_name pn_157) ?_
 intro p e s m below meth c s₁ S0 Bd hZ hh hx hby hml hown hnm X0 e0 hS0d
 obtain ⟨O1, P1, O3f, rG3⟩ := id HG
 have N0 := Fr.nil n0
 have C0 : Steps p.tables e below S0 (s₁.setTop (mkF m 0 #[VR t, VI 0] [])) := by rw [hS0d]; exact castTop (ef_90 m t (0 : Int32)) (Steps.refl _)
 obtain ⟨c_1, A_2, q_3, S_4, M_5, H_6, U_7⟩ := id hp0
 obtain ⟨_, _, ⟨T_8, L_8, k_8, n_8⟩, -, X_8, ⟨Lc_8, hQ_8, l_8, y_8, z_8⟩, st_8⟩ := Jvm.LawKit.callS X0 hx (y := M453) hown (mvT hZ (w133 hw)) (mvT hZ (w134 hw)) (mvT hZ (w10 hw)) (mvT hZ (w135 hw)) (by decide) (backOf (W := 0) (rm_schk l Z a0 hw [] G1 G3 HG h0 n0 X00 (0 : Int32) (1 : Int32) (by decide) (by decide)) hZ (w135 hw) (w10 hw) (by decide) (by decide)) (g := (mkF m 3 #[VR t, VI 0] [(.int 1), (.int 0)])) rfl (by rw [hml]; rfl) (argsL := [(.int 0), (.int 1)]) (rest := []) (lenOf pd_369 rfl) rfl (by show 2 * 0 + _ ≤ _; exact Nat.le_of_eq rfl) (hb hby d25_3) (fun _ _ => ⟨rfl, e0, (by decide : 0 + 0 ≤ _), (by decide : 0 + 0 ≤ _)⟩)
 dsimp only [Pt.U, Pt.locs, Pt.cells, Pt.slots] at X_8 l_8 y_8 z_8 st_8 hQ_8
 subst l_8 y_8 z_8
 obtain ⟨rfl, N_9, e_10⟩ := hQ_8
 have N_11 := Fr.app N0 N_9
 have e_12 : T_8.heap = h0 := e_10
 obtain ⟨c_13, A_14, q_15, S_16, M_17, H_18, U_19⟩ := id hp0
 have hin_20 : ¬ ((0 : Int32) < 0 ∨ c_13.slots.size ≤ (0 : Int32).toNatClampNeg) := inb_of S_16 ⟨(by decide : ¬ ((0 : Int32) < (0 : Int32))), (by decide : (0 : Int32) < (1 : Int32))⟩
 have hat_21 : c_13.slots[(0 : Int32).toNatClampNeg]? = some (.int y0) := Has.at H_18 hin_20 rfl
 have C_22 : Steps p.tables e below S0 (T_8.setTop (mkF m 14 #[VR t, VI 0] [(.int ((y0 &&& (255 : Int32)).toUInt32.toUInt16.toUInt32.toInt32))])) := by
  refine C0.trans ?_
  refine XS.iloadN X0.here hx rfl (hb hby d25_0) rfl ?_
  refine XS.aloadN X0.here hx rfl (hb hby d25_1) rfl rfl ?_
  refine X0.arraylength hx (by rw [e0]; exact A_2.1) (State.isArrayOf_alike hZ.alike A_2.2.1) (g := (mkF m 2 #[VR t, VI 0] [(.ref t), (.int 0)])) rfl rfl (hb hby d25_2) _ ?_
  rw [len_of S_4 M_5]
  refine st_8 _ ?_
  refine XS.aloadN X_8.here hx rfl (hb hby d25_6) rfl rfl ?_
  refine XS.iloadN X_8.here hx rfl (hb hby d25_7) rfl ?_
  refine X_8.baloadBytes hx (j := (0 : Int32)) (v := (.int y0)) (by rw [e_12]; exact A_14.1) (State.isArrayOf_alike hZ.alike A_14.2.1) A_14.2.2 hin_20 hat_21 (g := (mkF m 8 #[VR t, VI 0] [(.int 0), (.ref t)])) rfl rfl (hb hby d25_8) _ ?_
  refine XS.sipush X_8.here hx rfl (hb hby d25_9) ?_
  refine XS.iand X_8.here hx rfl (hb hby d25_12) rfl ?_
  refine XS.i2c X_8.here hx rfl (hb hby d25_13) rfl ?_
  exact Steps.refl _
 obtain ⟨fs, hr, hrun, hended, hW, hsame⟩ := X_8.leave (v := some (.int (own_ch y0))) (fun h => by rw [Bd.returns] at h; cases h)
 refine ⟨_, _, C_22.trans (retN X_8 hx (t := .char) Bd.returns (by simp) (hb hby d25_14) hr), hrun, hended, _, _, rfl, ?_, ⟨_, rfl⟩, hW, hsame.mono (by decide) (by decide)⟩
 show Q_lch_1_0 Z G1 G3 t kt y0 h0 n0 (some (.int (own_ch y0))) T_8.heap _
 rw [e_12]
 exact ⟨rfl, N_11, rfl⟩
abbrev M479 : MethodName := ⟨"java/lang/String", "charAt", "(I)C"⟩
theorem d26_0 : decode jdk_42_method_56_code 0 = .ok (.aload_n 0, 1) := by decide +kernel
theorem d26_1 : decode jdk_42_method_56_code 1 = .ok (.invokevirtual 492, 3) := by decide +kernel
theorem d26_4 : decode jdk_42_method_56_code 4 = .ok (.ifCond .eq 12, 3) := by decide +kernel
theorem d26_7 : decode jdk_42_method_56_code 7 = .ok (.aload_n 0, 1) := by decide +kernel
theorem d26_8 : decode jdk_42_method_56_code 8 = .ok (.getfield 9, 3) := by decide +kernel
theorem d26_11 : decode jdk_42_method_56_code 11 = .ok (.iload_n 1, 1) := by decide +kernel
theorem w132 {Z a0} (hw : HW Z a0) : Cond.before (Cond.code (⟨"java/lang/StringLatin1", "charAt", "([BI)C"⟩ : MethodName) jdk_43_method_2_code (2 : Nat) (Option.some FieldType.char)) a0 Z = true := hw _ (List.mem_of_getElem? (i := 132) rfl)
theorem pd_487 : parseMethodDescriptor "([BI)C" = some ⟨[(.array .byte), .int], some .char⟩ := by decide +kernel
theorem d26_12 : decode jdk_42_method_56_code 12 = .ok (.invokestatic 495, 3) := by decide +kernel
theorem w130 {Z a0} (hw : HW Z a0) : Cond.before (Cond.methodLink "java/lang/String" (495 : Nat) (⟨"java/lang/StringLatin1", "charAt", "([BI)C"⟩ : MethodName)) a0 Z = true := hw _ (List.mem_of_getElem? (i := 130) rfl)
theorem w131 {Z a0} (hw : HW Z a0) : Cond.before (Cond.static (⟨"java/lang/StringLatin1", "charAt", "([BI)C"⟩ : MethodName)) a0 Z = true := hw _ (List.mem_of_getElem? (i := 131) rfl)
theorem d26_15 : decode jdk_42_method_56_code 15 = .ok (.ireturn, 1) := by decide +kernel
abbrev R_ch_1_0 : Room := { frames := 3, cells := 0, slots := 0, locals := 40 }
def Q_ch_1_0 (Z : State) (G1 : Int32) (G3 : Value) (x : Addr) (t : Addr) (kt : ClassId) (y0 : Int32) (h0 : Heap) (n0 : Nat) (v : Option Value) (h : Heap) (L : List Loc) : Prop := (v = some (.int (own_at y0)) ∧ Fr n0 L ∧ h = h0)
theorem rm_ch_1_0 (l : Launch) (Z : State) (a0 : Array Value) (hw : HW Z a0) (ws : List Jvm.Cond) (G1 : Int32) (G3 : Value) (HG : own_G l Z a0 G1 G3) (h0 : Heap) (n0 : Nat) (X00 : Old Z n0 h0) (x : Addr) (t : Addr) (kt : ClassId) (y0 : Int32) (hp0 : Exa Z h0 x "java/lang/String") (hp1 : Fld Z h0 x "java/lang/String" "coder" "B" (.int 0)) (hp2 : Fld Z h0 x "java/lang/String" "value" "[B" (.ref t)) (hp3 : Arv Z h0 t kt .byte (1 : Int32) [(.int y0)] (.int 0)) :
  own_CP l Z M479 jdk_42_method_56_code 2 (some .char) ws R_ch_1_0 #[(.ref x), (.int 0)] h0 (Q_ch_1_0 Z G1 G3 x t kt y0 h0 n0) := by
 refine own_P (plainFor_of_name pn_2) ?_
 intro p e s m below meth c s₁ S0 Bd hZ hh hx hby hml hown hnm X0 e0 hS0d
 obtain ⟨O1, P1, O3f, rG3⟩ := id HG
 have N0 := Fr.nil n0
 have C0 : Steps p.tables e below S0 (s₁.setTop (mkF m 0 #[VR x, VI 0] [])) := by rw [hS0d]; exact castTop (ef_90 m x (0 : Int32)) (Steps.refl _)
 obtain ⟨q_2, q_3, q_4, q_5, q_6⟩ := isOf (T := s₁) hZ e0 hp0
 obtain ⟨_, _, ⟨T_1, L_1, k_1, n_1⟩, -, X_1, ⟨Lc_1, hQ_1, l_1, y_1, z_1⟩, st_1⟩ := X0.virtualBack hx (y := M132) (z := M132) hown (mvT hZ (w62 hw)) (mvT hZ (w63 hw)) (notFace_of_selects (args := #[]) (mvT hZ (w65 hw))) (mvT hZ (w65 hw)) (mvT hZ (w64 hw)) (by decide) (backOf (W := 0) (rm_islat l Z a0 hw [] G1 G3 HG h0 n0 X00 x hp1) hZ (w66 hw) (w10 hw) (by decide) (by decide)) q_4 q_6 (g := (mkF m 1 #[VR x, VI 0] [(.ref x)])) rfl (by rw [hml]; rfl) (Steps.refl _) (argsL := []) (rest := []) (lenOf pd_219 rfl) rfl (by show 2 * 0 + _ ≤ _; exact Nat.le_of_eq rfl) (hb hby d26_1) (fun _ _ => ⟨rfl, e0, (by decide : 0 + 0 ≤ _), (by decide : 0 + 0 ≤ _)⟩)
 dsimp only [Pt.U, Pt.locs, Pt.cells, Pt.slots] at X_1 l_1 y_1 z_1 st_1 hQ_1
 subst l_1 y_1 z_1
 obtain ⟨rfl, N_7, e_8⟩ := hQ_1
 have N_9 := Fr.app N0 N_7
 have e_10 : T_1.heap = h0 := e_8
 obtain ⟨T_11, X_12, e_13, st_14⟩ := getF X_1 hx hZ hown (host := "") (Or.inl (w28 hw)) Via.refl e_10 hp2 (g := (mkF m 8 #[VR x, VI 0] [(.ref x)])) rfl rfl (hb hby d26_8)
 obtain ⟨_, _, ⟨T_15, L_15, k_15, n_15⟩, -, X_15, ⟨Lc_15, hQ_15, l_15, y_15, z_15⟩, st_15⟩ := Jvm.LawKit.callS X_12 hx (y := M464) hown (mvT hZ (w130 hw)) (mvT hZ (w131 hw)) (mvT hZ (w80 hw)) (mvT hZ (w132 hw)) (by decide) (backOf (W := 0) (rm_lch_1_0 l Z a0 hw [] G1 G3 HG h0 n0 X00 t kt y0 hp3) hZ (w132 hw) (w80 hw) (by decide) (by decide)) (g := (mkF m 12 #[VR x, VI 0] [(.int 0), (.ref t)])) rfl (by rw [hml]; rfl) (argsL := [(.ref t), (.int 0)]) (rest := []) (lenOf pd_487 rfl) rfl (by show 2 * 0 + _ ≤ _; exact Nat.le_of_eq rfl) (hb hby d26_12) (fun _ _ => ⟨rfl, e_13, (by decide : 0 + 0 ≤ _), (by decide : 0 + 0 ≤ _)⟩)
 dsimp only [Pt.U, Pt.locs, Pt.cells, Pt.slots] at X_15 l_15 y_15 z_15 st_15 hQ_15
 subst l_15 y_15 z_15
 obtain ⟨rfl, N_16, e_17⟩ := hQ_15
 have N_18 := Fr.app N_9 N_16
 have e_19 : T_15.heap = h0 := e_17
 have C_20 : Steps p.tables e below S0 (T_15.setTop (mkF m 15 #[VR x, VI 0] [(.int (own_ch y0))])) := by
  refine C0.trans ?_
  refine XS.aloadN X0.here hx rfl (hb hby d26_0) rfl rfl ?_
  refine st_1.trans ?_
  refine XS.ifNo X_1.here hx rfl (hb hby d26_4) rfl (by decide) ?_
  refine XS.aloadN X_1.here hx rfl (hb hby d26_7) rfl rfl ?_
  refine st_14 _ ?_
  refine XS.iloadN X_12.here hx rfl (hb hby d26_11) rfl ?_
  refine st_15 _ ?_
  exact Steps.refl _
 obtain ⟨fs, hr, hrun, hended, hW, hsame⟩ := X_15.leave (v := some (.int (own_at y0))) (fun h => by rw [Bd.returns] at h; cases h)
 refine ⟨_, _, C_20.trans (retN X_15 hx (t := .char) Bd.returns (by simp) (hb hby d26_15) hr), hrun, hended, _, _, rfl, ?_, ⟨_, rfl⟩, hW, hsame.mono (by decide) (by decide)⟩
 show Q_ch_1_0 Z G1 G3 x t kt y0 h0 n0 (some (.int (own_at y0))) T_15.heap _
 rw [e_19]
 exact ⟨rfl, N_18, rfl⟩
abbrev R_lch_2_0 : Room := { frames := 2, cells := 0, slots := 0, locals := 27 }
def Q_lch_2_0 (Z : State) (G1 : Int32) (G3 : Value) (t : Addr) (kt : ClassId) (y0 : Int32) (y1 : Int32) (h0 : Heap) (n0 : Nat) (v : Option Value) (h : Heap) (L : List Loc) : Prop := (v = some (.int (own_ch y0)) ∧ Fr n0 L ∧ h = h0)
theorem rm_lch_2_0 (l : Launch) (Z : State) (a0 : Array Value) (hw : HW Z a0) (ws : List Jvm.Cond) (G1 : Int32) (G3 : Value) (HG : own_G l Z a0 G1 G3) (h0 : Heap) (n0 : Nat) (X00 : Old Z n0 h0) (t : Addr) (kt : ClassId) (y0 : Int32) (y1 : Int32) (hp0 : Arv Z h0 t kt .byte (2 : Int32) [(.int y0), (.int y1)] (.int 0)) :
  own_CP l Z M464 jdk_43_method_2_code 2 (some .char) ws R_lch_2_0 #[(.ref t), (.int 0)] h0 (Q_lch_2_0 Z G1 G3 t kt y0 y1 h0 n0) := by
 refine own_P (plainFor_of_name pn_157) ?_
 intro p e s m below meth c s₁ S0 Bd hZ hh hx hby hml hown hnm X0 e0 hS0d
 obtain ⟨O1, P1, O3f, rG3⟩ := id HG
 have N0 := Fr.nil n0
 have C0 : Steps p.tables e below S0 (s₁.setTop (mkF m 0 #[VR t, VI 0] [])) := by rw [hS0d]; exact castTop (ef_90 m t (0 : Int32)) (Steps.refl _)
 obtain ⟨c_1, A_2, q_3, S_4, M_5, H_6, U_7⟩ := id hp0
 obtain ⟨_, _, ⟨T_8, L_8, k_8, n_8⟩, -, X_8, ⟨Lc_8, hQ_8, l_8, y_8, z_8⟩, st_8⟩ := Jvm.LawKit.callS X0 hx (y := M453) hown (mvT hZ (w133 hw)) (mvT hZ (w134 hw)) (mvT hZ (w10 hw)) (mvT hZ (w135 hw)) (by decide) (backOf (W := 0) (rm_schk l Z a0 hw [] G1 G3 HG h0 n0 X00 (0 : Int32) (2 : Int32) (by decide) (by decide)) hZ (w135 hw) (w10 hw) (by decide) (by decide)) (g := (mkF m 3 #[VR t, VI 0] [(.int 2), (.int 0)])) rfl (by rw [hml]; rfl) (argsL := [(.int 0), (.int 2)]) (rest := []) (lenOf pd_369 rfl) rfl (by show 2 * 0 + _ ≤ _; exact Nat.le_of_eq rfl) (hb hby d25_3) (fun _ _ => ⟨rfl, e0, (by decide : 0 + 0 ≤ _), (by decide : 0 + 0 ≤ _)⟩)
 dsimp only [Pt.U, Pt.locs, Pt.cells, Pt.slots] at X_8 l_8 y_8 z_8 st_8 hQ_8
 subst l_8 y_8 z_8
 obtain ⟨rfl, N_9, e_10⟩ := hQ_8
 have N_11 := Fr.app N0 N_9
 have e_12 : T_8.heap = h0 := e_10
 obtain ⟨c_13, A_14, q_15, S_16, M_17, H_18, U_19⟩ := id hp0
 have hin_20 : ¬ ((0 : Int32) < 0 ∨ c_13.slots.size ≤ (0 : Int32).toNatClampNeg) := inb_of S_16 ⟨(by decide : ¬ ((0 : Int32) < (0 : Int32))), (by decide : (0 : Int32) < (2 : Int32))⟩
 have hat_21 : c_13.slots[(0 : Int32).toNatClampNeg]? = some (.int y0) := Has.at H_18 hin_20 rfl
 have C_22 : Steps p.tables e below S0 (T_8.setTop (mkF m 14 #[VR t, VI 0] [(.int ((y0 &&& (255 : Int32)).toUInt32.toUInt16.toUInt32.toInt32))])) := by
  refine C0.trans ?_
  refine XS.iloadN X0.here hx rfl (hb hby d25_0) rfl ?_
  refine XS.aloadN X0.here hx rfl (hb hby d25_1) rfl rfl ?_
  refine X0.arraylength hx (by rw [e0]; exact A_2.1) (State.isArrayOf_alike hZ.alike A_2.2.1) (g := (mkF m 2 #[VR t, VI 0] [(.ref t), (.int 0)])) rfl rfl (hb hby d25_2) _ ?_
  rw [len_of S_4 M_5]
  refine st_8 _ ?_
  refine XS.aloadN X_8.here hx rfl (hb hby d25_6) rfl rfl ?_
  refine XS.iloadN X_8.here hx rfl (hb hby d25_7) rfl ?_
  refine X_8.baloadBytes hx (j := (0 : Int32)) (v := (.int y0)) (by rw [e_12]; exact A_14.1) (State.isArrayOf_alike hZ.alike A_14.2.1) A_14.2.2 hin_20 hat_21 (g := (mkF m 8 #[VR t, VI 0] [(.int 0), (.ref t)])) rfl rfl (hb hby d25_8) _ ?_
  refine XS.sipush X_8.here hx rfl (hb hby d25_9) ?_
  refine XS.iand X_8.here hx rfl (hb hby d25_12) rfl ?_
  refine XS.i2c X_8.here hx rfl (hb hby d25_13) rfl ?_
  exact Steps.refl _
 obtain ⟨fs, hr, hrun, hended, hW, hsame⟩ := X_8.leave (v := some (.int (own_ch y0))) (fun h => by rw [Bd.returns] at h; cases h)
 refine ⟨_, _, C_22.trans (retN X_8 hx (t := .char) Bd.returns (by simp) (hb hby d25_14) hr), hrun, hended, _, _, rfl, ?_, ⟨_, rfl⟩, hW, hsame.mono (by decide) (by decide)⟩
 show Q_lch_2_0 Z G1 G3 t kt y0 y1 h0 n0 (some (.int (own_ch y0))) T_8.heap _
 rw [e_12]
 exact ⟨rfl, N_11, rfl⟩
abbrev R_ch_2_0 : Room := { frames := 3, cells := 0, slots := 0, locals := 40 }
def Q_ch_2_0 (Z : State) (G1 : Int32) (G3 : Value) (x : Addr) (t : Addr) (kt : ClassId) (y0 : Int32) (y1 : Int32) (h0 : Heap) (n0 : Nat) (v : Option Value) (h : Heap) (L : List Loc) : Prop := (v = some (.int (own_at y0)) ∧ Fr n0 L ∧ h = h0)
theorem rm_ch_2_0 (l : Launch) (Z : State) (a0 : Array Value) (hw : HW Z a0) (ws : List Jvm.Cond) (G1 : Int32) (G3 : Value) (HG : own_G l Z a0 G1 G3) (h0 : Heap) (n0 : Nat) (X00 : Old Z n0 h0) (x : Addr) (t : Addr) (kt : ClassId) (y0 : Int32) (y1 : Int32) (hp0 : Exa Z h0 x "java/lang/String") (hp1 : Fld Z h0 x "java/lang/String" "coder" "B" (.int 0)) (hp2 : Fld Z h0 x "java/lang/String" "value" "[B" (.ref t)) (hp3 : Arv Z h0 t kt .byte (2 : Int32) [(.int y0), (.int y1)] (.int 0)) :
  own_CP l Z M479 jdk_42_method_56_code 2 (some .char) ws R_ch_2_0 #[(.ref x), (.int 0)] h0 (Q_ch_2_0 Z G1 G3 x t kt y0 y1 h0 n0) := by
 refine own_P (plainFor_of_name pn_2) ?_
 intro p e s m below meth c s₁ S0 Bd hZ hh hx hby hml hown hnm X0 e0 hS0d
 obtain ⟨O1, P1, O3f, rG3⟩ := id HG
 have N0 := Fr.nil n0
 have C0 : Steps p.tables e below S0 (s₁.setTop (mkF m 0 #[VR x, VI 0] [])) := by rw [hS0d]; exact castTop (ef_90 m x (0 : Int32)) (Steps.refl _)
 obtain ⟨q_2, q_3, q_4, q_5, q_6⟩ := isOf (T := s₁) hZ e0 hp0
 obtain ⟨_, _, ⟨T_1, L_1, k_1, n_1⟩, -, X_1, ⟨Lc_1, hQ_1, l_1, y_1, z_1⟩, st_1⟩ := X0.virtualBack hx (y := M132) (z := M132) hown (mvT hZ (w62 hw)) (mvT hZ (w63 hw)) (notFace_of_selects (args := #[]) (mvT hZ (w65 hw))) (mvT hZ (w65 hw)) (mvT hZ (w64 hw)) (by decide) (backOf (W := 0) (rm_islat l Z a0 hw [] G1 G3 HG h0 n0 X00 x hp1) hZ (w66 hw) (w10 hw) (by decide) (by decide)) q_4 q_6 (g := (mkF m 1 #[VR x, VI 0] [(.ref x)])) rfl (by rw [hml]; rfl) (Steps.refl _) (argsL := []) (rest := []) (lenOf pd_219 rfl) rfl (by show 2 * 0 + _ ≤ _; exact Nat.le_of_eq rfl) (hb hby d26_1) (fun _ _ => ⟨rfl, e0, (by decide : 0 + 0 ≤ _), (by decide : 0 + 0 ≤ _)⟩)
 dsimp only [Pt.U, Pt.locs, Pt.cells, Pt.slots] at X_1 l_1 y_1 z_1 st_1 hQ_1
 subst l_1 y_1 z_1
 obtain ⟨rfl, N_7, e_8⟩ := hQ_1
 have N_9 := Fr.app N0 N_7
 have e_10 : T_1.heap = h0 := e_8
 obtain ⟨T_11, X_12, e_13, st_14⟩ := getF X_1 hx hZ hown (host := "") (Or.inl (w28 hw)) Via.refl e_10 hp2 (g := (mkF m 8 #[VR x, VI 0] [(.ref x)])) rfl rfl (hb hby d26_8)
 obtain ⟨_, _, ⟨T_15, L_15, k_15, n_15⟩, -, X_15, ⟨Lc_15, hQ_15, l_15, y_15, z_15⟩, st_15⟩ := Jvm.LawKit.callS X_12 hx (y := M464) hown (mvT hZ (w130 hw)) (mvT hZ (w131 hw)) (mvT hZ (w80 hw)) (mvT hZ (w132 hw)) (by decide) (backOf (W := 0) (rm_lch_2_0 l Z a0 hw [] G1 G3 HG h0 n0 X00 t kt y0 y1 hp3) hZ (w132 hw) (w80 hw) (by decide) (by decide)) (g := (mkF m 12 #[VR x, VI 0] [(.int 0), (.ref t)])) rfl (by rw [hml]; rfl) (argsL := [(.ref t), (.int 0)]) (rest := []) (lenOf pd_487 rfl) rfl (by show 2 * 0 + _ ≤ _; exact Nat.le_of_eq rfl) (hb hby d26_12) (fun _ _ => ⟨rfl, e_13, (by decide : 0 + 0 ≤ _), (by decide : 0 + 0 ≤ _)⟩)
 dsimp only [Pt.U, Pt.locs, Pt.cells, Pt.slots] at X_15 l_15 y_15 z_15 st_15 hQ_15
 subst l_15 y_15 z_15
 obtain ⟨rfl, N_16, e_17⟩ := hQ_15
 have N_18 := Fr.app N_9 N_16
 have e_19 : T_15.heap = h0 := e_17
 have C_20 : Steps p.tables e below S0 (T_15.setTop (mkF m 15 #[VR x, VI 0] [(.int (own_ch y0))])) := by
  refine C0.trans ?_
  refine XS.aloadN X0.here hx rfl (hb hby d26_0) rfl rfl ?_
  refine st_1.trans ?_
  refine XS.ifNo X_1.here hx rfl (hb hby d26_4) rfl (by decide) ?_
  refine XS.aloadN X_1.here hx rfl (hb hby d26_7) rfl rfl ?_
  refine st_14 _ ?_
  refine XS.iloadN X_12.here hx rfl (hb hby d26_11) rfl ?_
  refine st_15 _ ?_
  exact Steps.refl _
 obtain ⟨fs, hr, hrun, hended, hW, hsame⟩ := X_15.leave (v := some (.int (own_at y0))) (fun h => by rw [Bd.returns] at h; cases h)
 refine ⟨_, _, C_20.trans (retN X_15 hx (t := .char) Bd.returns (by simp) (hb hby d26_15) hr), hrun, hended, _, _, rfl, ?_, ⟨_, rfl⟩, hW, hsame.mono (by decide) (by decide)⟩
 show Q_ch_2_0 Z G1 G3 x t kt y0 y1 h0 n0 (some (.int (own_at y0))) T_15.heap _
 rw [e_19]
 exact ⟨rfl, N_18, rfl⟩
abbrev R_lch_2_1 : Room := { frames := 2, cells := 0, slots := 0, locals := 27 }
def Q_lch_2_1 (Z : State) (G1 : Int32) (G3 : Value) (t : Addr) (kt : ClassId) (y0 : Int32) (y1 : Int32) (h0 : Heap) (n0 : Nat) (v : Option Value) (h : Heap) (L : List Loc) : Prop := (v = some (.int (own_ch y1)) ∧ Fr n0 L ∧ h = h0)
theorem rm_lch_2_1 (l : Launch) (Z : State) (a0 : Array Value) (hw : HW Z a0) (ws : List Jvm.Cond) (G1 : Int32) (G3 : Value) (HG : own_G l Z a0 G1 G3) (h0 : Heap) (n0 : Nat) (X00 : Old Z n0 h0) (t : Addr) (kt : ClassId) (y0 : Int32) (y1 : Int32) (hp0 : Arv Z h0 t kt .byte (2 : Int32) [(.int y0), (.int y1)] (.int 0)) :
  own_CP l Z M464 jdk_43_method_2_code 2 (some .char) ws R_lch_2_1 #[(.ref t), (.int 1)] h0 (Q_lch_2_1 Z G1 G3 t kt y0 y1 h0 n0) := by
 refine own_P (plainFor_of_name pn_157) ?_
 intro p e s m below meth c s₁ S0 Bd hZ hh hx hby hml hown hnm X0 e0 hS0d
 obtain ⟨O1, P1, O3f, rG3⟩ := id HG
 have N0 := Fr.nil n0
 have C0 : Steps p.tables e below S0 (s₁.setTop (mkF m 0 #[VR t, VI 1] [])) := by rw [hS0d]; exact castTop (ef_90 m t (1 : Int32)) (Steps.refl _)
 obtain ⟨c_1, A_2, q_3, S_4, M_5, H_6, U_7⟩ := id hp0
 obtain ⟨_, _, ⟨T_8, L_8, k_8, n_8⟩, -, X_8, ⟨Lc_8, hQ_8, l_8, y_8, z_8⟩, st_8⟩ := Jvm.LawKit.callS X0 hx (y := M453) hown (mvT hZ (w133 hw)) (mvT hZ (w134 hw)) (mvT hZ (w10 hw)) (mvT hZ (w135 hw)) (by decide) (backOf (W := 0) (rm_schk l Z a0 hw [] G1 G3 HG h0 n0 X00 (1 : Int32) (2 : Int32) (by decide) (by decide)) hZ (w135 hw) (w10 hw) (by decide) (by decide)) (g := (mkF m 3 #[VR t, VI 1] [(.int 2), (.int 1)])) rfl (by rw [hml]; rfl) (argsL := [(.int 1), (.int 2)]) (rest := []) (lenOf pd_369 rfl) rfl (by show 2 * 0 + _ ≤ _; exact Nat.le_of_eq rfl) (hb hby d25_3) (fun _ _ => ⟨rfl, e0, (by decide : 0 + 0 ≤ _), (by decide : 0 + 0 ≤ _)⟩)
 dsimp only [Pt.U, Pt.locs, Pt.cells, Pt.slots] at X_8 l_8 y_8 z_8 st_8 hQ_8
 subst l_8 y_8 z_8
 obtain ⟨rfl, N_9, e_10⟩ := hQ_8
 have N_11 := Fr.app N0 N_9
 have e_12 : T_8.heap = h0 := e_10
 obtain ⟨c_13, A_14, q_15, S_16, M_17, H_18, U_19⟩ := id hp0
 have hin_20 : ¬ ((1 : Int32) < 0 ∨ c_13.slots.size ≤ (1 : Int32).toNatClampNeg) := inb_of S_16 ⟨(by decide : ¬ ((1 : Int32) < (0 : Int32))), (by decide : (1 : Int32) < (2 : Int32))⟩
 have hat_21 : c_13.slots[(1 : Int32).toNatClampNeg]? = some (.int y1) := Has.at H_18 hin_20 rfl
 have C_22 : Steps p.tables e below S0 (T_8.setTop (mkF m 14 #[VR t, VI 1] [(.int ((y1 &&& (255 : Int32)).toUInt32.toUInt16.toUInt32.toInt32))])) := by
  refine C0.trans ?_
  refine XS.iloadN X0.here hx rfl (hb hby d25_0) rfl ?_
  refine XS.aloadN X0.here hx rfl (hb hby d25_1) rfl rfl ?_
  refine X0.arraylength hx (by rw [e0]; exact A_2.1) (State.isArrayOf_alike hZ.alike A_2.2.1) (g := (mkF m 2 #[VR t, VI 1] [(.ref t), (.int 1)])) rfl rfl (hb hby d25_2) _ ?_
  rw [len_of S_4 M_5]
  refine st_8 _ ?_
  refine XS.aloadN X_8.here hx rfl (hb hby d25_6) rfl rfl ?_
  refine XS.iloadN X_8.here hx rfl (hb hby d25_7) rfl ?_
  refine X_8.baloadBytes hx (j := (1 : Int32)) (v := (.int y1)) (by rw [e_12]; exact A_14.1) (State.isArrayOf_alike hZ.alike A_14.2.1) A_14.2.2 hin_20 hat_21 (g := (mkF m 8 #[VR t, VI 1] [(.int 1), (.ref t)])) rfl rfl (hb hby d25_8) _ ?_
  refine XS.sipush X_8.here hx rfl (hb hby d25_9) ?_
  refine XS.iand X_8.here hx rfl (hb hby d25_12) rfl ?_
  refine XS.i2c X_8.here hx rfl (hb hby d25_13) rfl ?_
  exact Steps.refl _
 obtain ⟨fs, hr, hrun, hended, hW, hsame⟩ := X_8.leave (v := some (.int (own_ch y1))) (fun h => by rw [Bd.returns] at h; cases h)
 refine ⟨_, _, C_22.trans (retN X_8 hx (t := .char) Bd.returns (by simp) (hb hby d25_14) hr), hrun, hended, _, _, rfl, ?_, ⟨_, rfl⟩, hW, hsame.mono (by decide) (by decide)⟩
 show Q_lch_2_1 Z G1 G3 t kt y0 y1 h0 n0 (some (.int (own_ch y1))) T_8.heap _
 rw [e_12]
 exact ⟨rfl, N_11, rfl⟩
abbrev R_ch_2_1 : Room := { frames := 3, cells := 0, slots := 0, locals := 40 }
def Q_ch_2_1 (Z : State) (G1 : Int32) (G3 : Value) (x : Addr) (t : Addr) (kt : ClassId) (y0 : Int32) (y1 : Int32) (h0 : Heap) (n0 : Nat) (v : Option Value) (h : Heap) (L : List Loc) : Prop := (v = some (.int (own_at y1)) ∧ Fr n0 L ∧ h = h0)
theorem rm_ch_2_1 (l : Launch) (Z : State) (a0 : Array Value) (hw : HW Z a0) (ws : List Jvm.Cond) (G1 : Int32) (G3 : Value) (HG : own_G l Z a0 G1 G3) (h0 : Heap) (n0 : Nat) (X00 : Old Z n0 h0) (x : Addr) (t : Addr) (kt : ClassId) (y0 : Int32) (y1 : Int32) (hp0 : Exa Z h0 x "java/lang/String") (hp1 : Fld Z h0 x "java/lang/String" "coder" "B" (.int 0)) (hp2 : Fld Z h0 x "java/lang/String" "value" "[B" (.ref t)) (hp3 : Arv Z h0 t kt .byte (2 : Int32) [(.int y0), (.int y1)] (.int 0)) :
  own_CP l Z M479 jdk_42_method_56_code 2 (some .char) ws R_ch_2_1 #[(.ref x), (.int 1)] h0 (Q_ch_2_1 Z G1 G3 x t kt y0 y1 h0 n0) := by
 refine own_P (plainFor_of_name pn_2) ?_
 intro p e s m below meth c s₁ S0 Bd hZ hh hx hby hml hown hnm X0 e0 hS0d
 obtain ⟨O1, P1, O3f, rG3⟩ := id HG
 have N0 := Fr.nil n0
 have C0 : Steps p.tables e below S0 (s₁.setTop (mkF m 0 #[VR x, VI 1] [])) := by rw [hS0d]; exact castTop (ef_90 m x (1 : Int32)) (Steps.refl _)
 obtain ⟨q_2, q_3, q_4, q_5, q_6⟩ := isOf (T := s₁) hZ e0 hp0
 obtain ⟨_, _, ⟨T_1, L_1, k_1, n_1⟩, -, X_1, ⟨Lc_1, hQ_1, l_1, y_1, z_1⟩, st_1⟩ := X0.virtualBack hx (y := M132) (z := M132) hown (mvT hZ (w62 hw)) (mvT hZ (w63 hw)) (notFace_of_selects (args := #[]) (mvT hZ (w65 hw))) (mvT hZ (w65 hw)) (mvT hZ (w64 hw)) (by decide) (backOf (W := 0) (rm_islat l Z a0 hw [] G1 G3 HG h0 n0 X00 x hp1) hZ (w66 hw) (w10 hw) (by decide) (by decide)) q_4 q_6 (g := (mkF m 1 #[VR x, VI 1] [(.ref x)])) rfl (by rw [hml]; rfl) (Steps.refl _) (argsL := []) (rest := []) (lenOf pd_219 rfl) rfl (by show 2 * 0 + _ ≤ _; exact Nat.le_of_eq rfl) (hb hby d26_1) (fun _ _ => ⟨rfl, e0, (by decide : 0 + 0 ≤ _), (by decide : 0 + 0 ≤ _)⟩)
 dsimp only [Pt.U, Pt.locs, Pt.cells, Pt.slots] at X_1 l_1 y_1 z_1 st_1 hQ_1
 subst l_1 y_1 z_1
 obtain ⟨rfl, N_7, e_8⟩ := hQ_1
 have N_9 := Fr.app N0 N_7
 have e_10 : T_1.heap = h0 := e_8
 obtain ⟨T_11, X_12, e_13, st_14⟩ := getF X_1 hx hZ hown (host := "") (Or.inl (w28 hw)) Via.refl e_10 hp2 (g := (mkF m 8 #[VR x, VI 1] [(.ref x)])) rfl rfl (hb hby d26_8)
 obtain ⟨_, _, ⟨T_15, L_15, k_15, n_15⟩, -, X_15, ⟨Lc_15, hQ_15, l_15, y_15, z_15⟩, st_15⟩ := Jvm.LawKit.callS X_12 hx (y := M464) hown (mvT hZ (w130 hw)) (mvT hZ (w131 hw)) (mvT hZ (w80 hw)) (mvT hZ (w132 hw)) (by decide) (backOf (W := 0) (rm_lch_2_1 l Z a0 hw [] G1 G3 HG h0 n0 X00 t kt y0 y1 hp3) hZ (w132 hw) (w80 hw) (by decide) (by decide)) (g := (mkF m 12 #[VR x, VI 1] [(.int 1), (.ref t)])) rfl (by rw [hml]; rfl) (argsL := [(.ref t), (.int 1)]) (rest := []) (lenOf pd_487 rfl) rfl (by show 2 * 0 + _ ≤ _; exact Nat.le_of_eq rfl) (hb hby d26_12) (fun _ _ => ⟨rfl, e_13, (by decide : 0 + 0 ≤ _), (by decide : 0 + 0 ≤ _)⟩)
 dsimp only [Pt.U, Pt.locs, Pt.cells, Pt.slots] at X_15 l_15 y_15 z_15 st_15 hQ_15
 subst l_15 y_15 z_15
 obtain ⟨rfl, N_16, e_17⟩ := hQ_15
 have N_18 := Fr.app N_9 N_16
 have e_19 : T_15.heap = h0 := e_17
 have C_20 : Steps p.tables e below S0 (T_15.setTop (mkF m 15 #[VR x, VI 1] [(.int (own_ch y1))])) := by
  refine C0.trans ?_
  refine XS.aloadN X0.here hx rfl (hb hby d26_0) rfl rfl ?_
  refine st_1.trans ?_
  refine XS.ifNo X_1.here hx rfl (hb hby d26_4) rfl (by decide) ?_
  refine XS.aloadN X_1.here hx rfl (hb hby d26_7) rfl rfl ?_
  refine st_14 _ ?_
  refine XS.iloadN X_12.here hx rfl (hb hby d26_11) rfl ?_
  refine st_15 _ ?_
  exact Steps.refl _
 obtain ⟨fs, hr, hrun, hended, hW, hsame⟩ := X_15.leave (v := some (.int (own_at y1))) (fun h => by rw [Bd.returns] at h; cases h)
 refine ⟨_, _, C_20.trans (retN X_15 hx (t := .char) Bd.returns (by simp) (hb hby d26_15) hr), hrun, hended, _, _, rfl, ?_, ⟨_, rfl⟩, hW, hsame.mono (by decide) (by decide)⟩
 show Q_ch_2_1 Z G1 G3 x t kt y0 y1 h0 n0 (some (.int (own_at y1))) T_15.heap _
 rw [e_19]
 exact ⟨rfl, N_18, rfl⟩
abbrev M492 : MethodName := ⟨"com/example/kartoteka/kartoteka/FieldIndicatorsPinLaw", "ch", "(I)C"⟩
theorem pn_493 : plainName "com/example/kartoteka/kartoteka/FieldIndicatorsPinLaw" = true := by first | (simp [plainName, overriddenIn]; done) | decide +kernel
theorem d27_0 : decode method_2_code 0 = .ok (.iload_n 0, 1) := by decide +kernel
theorem d27_1 : decode method_2_code 1 = .ok (.bipush 8, 2) := by decide +kernel
theorem d27_3 : decode method_2_code 3 = .ok (.iushr, 1) := by decide +kernel
theorem d27_4 : decode method_2_code 4 = .ok (.iconst 3, 1) := by decide +kernel
theorem d27_5 : decode method_2_code 5 = .ok (.iand, 1) := by decide +kernel
theorem d27_6 : decode method_2_code 6 = .ok (.ifCond .ne 6, 3) := by decide +kernel
theorem d27_9 : decode method_2_code 9 = .ok (.bipush 31, 2) := by decide +kernel
theorem d27_11 : decode method_2_code 11 = .ok (.ireturn, 1) := by decide +kernel
theorem d27_12 : decode method_2_code 12 = .ok (.iload_n 0, 1) := by decide +kernel
theorem d27_13 : decode method_2_code 13 = .ok (.sipush 255, 3) := by decide +kernel
theorem d27_16 : decode method_2_code 16 = .ok (.iand, 1) := by decide +kernel
theorem d27_17 : decode method_2_code 17 = .ok (.i2c, 1) := by decide +kernel
theorem d27_18 : decode method_2_code 18 = .ok (.ireturn, 1) := by decide +kernel
abbrev R_chh : Room := { frames := 0, cells := 0, slots := 0, locals := 0 }
def Q_chh (Z : State) (G1 : Int32) (G3 : Value) (p0 : Int32) (h0 : Heap) (n0 : Nat) (v : Option Value) (h : Heap) (L : List Loc) : Prop := (∃ vv : Int32, v = some (.int vv) ∧ Fr n0 L ∧ h = h0 ∧ (¬ (vv < (0 : Int32))) ∧ (¬ ((255 : Int32) < vv)))
theorem rm_chh (l : Launch) (Z : State) (a0 : Array Value) (hw : HW Z a0) (ws : List Jvm.Cond) (G1 : Int32) (G3 : Value) (HG : own_G l Z a0 G1 G3) (h0 : Heap) (n0 : Nat) (X00 : Old Z n0 h0) (p0 : Int32)  :
  own_CP l Z M492 method_2_code 1 (some .char) ws R_chh #[(.int p0)] h0 (Q_chh Z G1 G3 p0 h0 n0) := by
 refine own_P (plainFor_of_name pn_493) ?_
 intro p e s m below meth c s₁ S0 Bd hZ hh hx hby hml hown hnm X0 e0 hS0d
 obtain ⟨O1, P1, O3f, rG3⟩ := id HG
 have N0 := Fr.nil n0
 have C0 : Steps p.tables e below S0 (s₁.setTop (mkF m 0 #[VI p0] [])) := by rw [hS0d]; exact castTop (ef_156 m p0) (Steps.refl _)
 have C_1 : Steps p.tables e below S0 (s₁.setTop (mkF m 6 #[VI p0] [(.int (((p0.toUInt32 >>> ((8 : Int32) &&& 31).toUInt32).toInt32) &&& (3 : Int32)))])) := by
  refine C0.trans ?_
  refine XS.iloadN X0.here hx rfl (hb hby d27_0) rfl ?_
  refine XS.bipush X0.here hx rfl (hb hby d27_1) ?_
  refine XS.iushr X0.here hx rfl (hb hby d27_3) rfl ?_
  refine XS.iconst X0.here hx rfl (hb hby d27_4) ?_
  refine XS.iand X0.here hx rfl (hb hby d27_5) rfl ?_
  exact Steps.refl _
 by_cases hc_2 : (((p0.toUInt32 >>> ((8 : Int32) &&& 31).toUInt32).toInt32) &&& (3 : Int32)) = (0 : Int32)
 ·skip
  have C_3 : Steps p.tables e below S0 (s₁.setTop (mkF m 11 #[VI p0] [(.int 31)])) := by
   refine C_1.trans ?_
   refine XS.ifNo X0.here hx rfl (hb hby d27_6) rfl (i0_ne_f hc_2) ?_
   refine XS.bipush X0.here hx rfl (hb hby d27_9) ?_
   exact Steps.refl _
  obtain ⟨fs, hr, hrun, hended, hW, hsame⟩ := X0.leave (v := some (.int 31)) (fun h => by rw [Bd.returns] at h; cases h)
  refine ⟨_, _, C_3.trans (retN X0 hx (t := .char) Bd.returns (by simp) (hb hby d27_11) hr), hrun, hended, _, _, rfl, ?_, ⟨_, rfl⟩, hW, hsame.mono (by decide) (by decide)⟩
  show Q_chh Z G1 G3 p0 h0 n0 (some (.int 31)) s₁.heap _
  rw [e0]
  exact ⟨(31 : Int32), rfl, N0, rfl, (by decide), (by decide)⟩
 ·skip
  have C_4 : Steps p.tables e below S0 (s₁.setTop (mkF m 18 #[VI p0] [(.int (own_cb p0))])) := by
   refine C_1.trans ?_
   refine XS.ifYes X0.here hx rfl (pc0 := 6) (pc' := 12) rfl (hb hby d27_6) rfl (i0_ne_t hc_2) (by decide) (by decide) ?_
   refine XS.iloadN X0.here hx rfl (hb hby d27_12) rfl ?_
   refine XS.sipush X0.here hx rfl (hb hby d27_13) ?_
   refine XS.iand X0.here hx rfl (hb hby d27_16) rfl ?_
   refine XS.i2c X0.here hx rfl (hb hby d27_17) rfl ?_
   exact Steps.refl _
  obtain ⟨fs, hr, hrun, hended, hW, hsame⟩ := X0.leave (v := some (.int (nar .char (own_cb p0)))) (fun h => by rw [Bd.returns] at h; cases h)
  refine ⟨_, _, C_4.trans (retN X0 hx (t := .char) Bd.returns (by simp) (hb hby d27_18) hr), hrun, hended, _, _, rfl, ?_, ⟨_, rfl⟩, hW, hsame.mono (by decide) (by decide)⟩
  show Q_chh Z G1 G3 p0 h0 n0 (some (.int (nar .char (own_cb p0)))) s₁.heap _
  rw [e0]
  exact ⟨(nar .char (own_cb p0)), rfl, N0, rfl, (by rw [own_cb_nar]; exact own_cb_lo p0), (by rw [own_cb_nar]; exact own_cb_hi p0)⟩
abbrev M507 : MethodName := ⟨"com/example/kartoteka/kartoteka/FieldIndicatorsPinLaw", "make", "(ICCCC)Ljava/lang/String;"⟩
theorem ef_508 (m : MethodId) (x0 : Int32) (x1 : Int32) (x2 : Int32) (x3 : Int32) (x4 : Int32) : entryFrame m #[(.int x0), (.int x1), (.int x2), (.int x3), (.int x4)] 5 = mkF m 0 #[VI x0, VI x1, VI x2, VI x3, VI x4] [] := by first | (simp [entryFrame, mkF, argsToLocals, Value.category]; done) | rfl
theorem d28_0 : decode method_3_code 0 = .ok (.iload_n 0, 1) := by decide +kernel
theorem d28_1 : decode method_3_code 1 = .ok (.ifCond .ne 14, 3) := by decide +kernel
theorem w8 {Z a0} (hw : HW Z a0) : Cond.before (Cond.classLink "com/example/kartoteka/kartoteka/FieldIndicatorsPinLaw" (7 : Nat) "java/lang/String") a0 Z = true := hw _ (List.mem_of_getElem? (i := 8) rfl)
theorem d28_4 : decode method_3_code 4 = .ok (.new 7, 3) := by decide +kernel
theorem d28_7 : decode method_3_code 7 = .ok (.dup, 1) := by decide +kernel
theorem d28_8 : decode method_3_code 8 = .ok (.iconst 0, 1) := by decide +kernel
theorem w11 {Z a0} (hw : HW Z a0) : Cond.before (Cond.arrayClass FieldType.char) a0 Z = true := hw _ (List.mem_of_getElem? (i := 11) rfl)
theorem d28_9 : decode method_3_code 9 = .ok (.newarray .char, 2) := by decide +kernel
theorem w14 {Z a0} (hw : HW Z a0) : Cond.before (Cond.code (⟨"java/lang/String", "<init>", "([C)V"⟩ : MethodName) jdk_42_method_3_code (2 : Nat) (Option.none : Option FieldType)) a0 Z = true := hw _ (List.mem_of_getElem? (i := 14) rfl)
theorem pd_518 : parseMethodDescriptor "([C)V" = some ⟨[(.array .char)], none⟩ := by decide +kernel
theorem d28_11 : decode method_3_code 11 = .ok (.invokespecial 9, 3) := by decide +kernel
theorem w12 {Z a0} (hw : HW Z a0) : Cond.before (Cond.methodLink "com/example/kartoteka/kartoteka/FieldIndicatorsPinLaw" (9 : Nat) (⟨"java/lang/String", "<init>", "([C)V"⟩ : MethodName)) a0 Z = true := hw _ (List.mem_of_getElem? (i := 12) rfl)
theorem w13 {Z a0} (hw : HW Z a0) : Cond.before (Cond.instanceMethod (⟨"java/lang/String", "<init>", "([C)V"⟩ : MethodName)) a0 Z = true := hw _ (List.mem_of_getElem? (i := 13) rfl)
theorem d28_14 : decode method_3_code 14 = .ok (.areturn, 1) := by decide +kernel
abbrev R_mk_0 : Room := { frames := 3, cells := 6, slots := 12, locals := 43 }
def Q_mk_0 (Z : State) (G1 : Int32) (G3 : Value) (c0 : Int32) (c1 : Int32) (c2 : Int32) (c3 : Int32) (h0 : Heap) (n0 : Nat) (v : Option Value) (h : Heap) (L : List Loc) : Prop := (∃ x : Addr, ∃ t : Addr, ∃ kt : ClassId, v = some (.ref x) ∧ Fr n0 L ∧ Keep h0 h [] ∧ (Exa Z h x "java/lang/String") ∧ (Fld Z h x "java/lang/String" "coder" "B" (.int 0)) ∧ (Fld Z h x "java/lang/String" "value" "[B" (.ref t)) ∧ (Arv Z h t kt .byte (0 : Int32) [] (.int 0)))
theorem rm_mk_0 (l : Launch) (Z : State) (a0 : Array Value) (hw : HW Z a0) (ws : List Jvm.Cond) (G1 : Int32) (G3 : Value) (HG : own_G l Z a0 G1 G3) (h0 : Heap) (n0 : Nat) (X00 : Old Z n0 h0) (c0 : Int32) (c1 : Int32) (c2 : Int32) (c3 : Int32)  :
  own_CH l Z M507 method_3_code 5 (some (.object "java/lang/String")) ws R_mk_0 #[(.int 0), (.int c0), (.int c1), (.int c2), (.int c3)] h0 (Q_mk_0 Z G1 G3 c0 c1 c2 c3 h0 n0) := by
 refine own_H (plainFor_of_name pn_493) ?_
 intro p e s m below meth c s₁ S0 Bd hZ hh CH0 hS0 CR0 hx hby hml hown hnm X0 e0 hS0d
 obtain ⟨O1, P1, O3f, rG3⟩ := id HG
 have hEL := own_EL hw
 have hSA := own_SA hw
 have N0 := Fr.nil n0
 have C0 : Steps p.tables e below S0 (s₁.setTop (mkF m 0 #[VI 0, VI c0, VI c1, VI c2, VI c3] [])) := by rw [hS0d]; exact castTop (ef_508 m (0 : Int32) c0 c1 c2 c3) (Steps.refl _)
 obtain ⟨T_1, h_2, X_3, e_4, E_5, A_6, D_7, U_11, st_8⟩ := newO X0 hx hZ hown (w8 hw) (w9 hw) (w10 hw) e0 (g := (mkF m 4 #[VI 0, VI c0, VI c1, VI c2, VI c3] [])) rfl (hb hby d28_4) (by decide) (by decide)
 obtain ⟨a_9, g_10⟩ : ∃ z, z = h0.size := ⟨_, rfl⟩
 rw [← g_10] at A_6 D_7 st_8 U_11
 have CH_12 : CHv Z consts_1 s.vm h_2 := CHv.ext E_5 CH0
 have CR_13 : CHr Z consts_1 s.vm h0 s.vm h_2 := CR0.trans (CHr.ext E_5 CH0)
 obtain ⟨T_14, h_15, k_16, X_17, e_18, E_19, A_20, st_21⟩ := newP (aty := .char) X_3 hx hZ (w11 hw) e_4 (g := (mkF m 9 #[VI 0, VI c0, VI c1, VI c2, VI c3] [(.int 0), (.ref a_9), (.ref a_9)])) rfl (hb hby d28_9) rfl (by decide : ¬ ((0 : Int32) < (0 : Int32))) (cap := 0) (by decide : (0 : Int32).toNatClampNeg ≤ 0) (by decide) (by decide) (by decide)
 obtain ⟨a_22, g_23⟩ : ∃ z, z = h_2.size := ⟨_, rfl⟩
 rw [← g_23] at A_20 st_21
 have CH_25 : CHv Z consts_1 s.vm h_15 := CHv.ext E_19 CH_12
 have CR_26 : CHr Z consts_1 s.vm h0 s.vm h_15 := CR_13.trans (CHr.ext E_19 CH_12)
 have V_27 : Arv Z h_15 a_22 k_16 .char (0 : Int32) [] (.int 0) := Arv.new A_20 (by decide : ¬ ((0 : Int32) < (0 : Int32)))
 have E_28 : Exa Z h_15 a_9 "java/lang/String" := (A_6.ext E_19)
 have F_29 : Fld Z h_15 a_9 "java/lang/String" "value" "[B" .null := ((D_7 (Or.inr (w24 hw)) (ty := (.array .byte)) (by decide)).ext E_19)
 have F_30 : Fld Z h_15 a_9 "java/lang/String" "coder" "B" (.int 0) := ((D_7 (Or.inr (w25 hw)) (ty := .byte) (by decide)).ext E_19)
 have O_31 : Old Z n0 h_15 := ((X00.ext E_5).ext E_19)
 obtain ⟨_, _, ⟨T_32, L_32, k_32, n_32⟩, -, Y_32, S_32, G_32, ⟨Lc_32, hQ_32, l_32, y_32, z_32, R_32⟩, st_32⟩ := X_17.specialBackS hx (y := M25) rfl hown (mvT hZ (w12 hw)) (mvT hZ (w13 hw)) (mvT hZ (w14 hw)) (by decide) (backOfSH (vm0 := s.vm) (W := 1) (rm_si1_0 l Z a0 hw [] G1 G3 HG h_15 n0 O_31 a_9 a_22 k_16 E_28 F_29 F_30 (Nat.le_trans (own_n0 X00) (Nat.le_of_eq g_10.symm)) V_27) hZ (w14 hw) (w10 hw) (by decide) (by decide) hEL CH_25) (g := (mkF m 11 #[VI 0, VI c0, VI c1, VI c2, VI c3] [(.ref a_22), (.ref a_9), (.ref a_9)])) rfl (by rw [hml]; rfl) (Steps.refl _) (a := a_9) (argsL := [(.ref a_22)]) (rest := [(.ref a_9)]) (lenOf pd_518 rfl) rfl (by show 2 * 0 + _ ≤ _; exact Nat.le_of_eq rfl) (hb hby d28_11) (fun _ _ => ⟨rfl, e_18, (by decide : 2 + 4 ≤ _), (by decide : 4 + 8 ≤ _)⟩)
 dsimp only [Pt.U, Pt.locs, Pt.cells, Pt.slots] at Y_32 S_32 G_32 l_32 y_32 z_32 st_32 hQ_32 R_32
 subst l_32 y_32 z_32
 obtain ⟨X_32, hS_32, hZ_32, hown_32⟩ := rebS hS0 (n1 := T_14.heap.size) (by rw [show T_14.heap = h_15 from e_18]; exact (Nat.le_trans (Nat.le_refl _) (Nat.le_trans E_5.1 E_19.1))) Y_32 S_32 G_32 hZ hown
 obtain ⟨a_33, k_34, rfl, N_35, K_36, g_37, g_38, g_39, g_40⟩ := hQ_32
 have N_41 := Fr.app N0 N_35
 have CH_42 : CHv Z consts_1 T_32.vm T_32.heap := R_32.1
 have CR_43 : CHr Z consts_1 s.vm h0 T_32.vm T_32.heap := CR_26.trans R_32
 have C_44 : Steps p.tables e below S0 (T_32.setTop (mkF m 14 #[VI 0, VI c0, VI c1, VI c2, VI c3] [(.ref a_9)])) := by
  refine C0.trans ?_
  refine XS.iloadN X0.here hx rfl (hb hby d28_0) rfl ?_
  refine XS.ifNo X0.here hx rfl (hb hby d28_1) rfl (by decide) ?_
  refine st_8 _ ?_
  refine XS.dup X_3.here hx rfl (hb hby d28_7) rfl rfl ?_
  refine XS.iconst X_3.here hx rfl (hb hby d28_8) ?_
  refine st_21 _ ?_
  refine st_32.trans ?_
  exact Steps.refl _
 have K_45 : Keep h0 T_32.heap [] := ((((Keep.refl _ _).ext E_5).ext E_19).trans K_36 (allS (Or.inr (Nat.le_trans (Nat.le_refl _) (Nat.le_of_eq g_10.symm))) all0))
 obtain ⟨fs, hr, hrun, hended, hRE⟩ := X_32.leaveW hS_32 (by rw [show T_32.heap = T_32.heap from rfl]; exact (Nat.le_refl _)) (v := some (.ref a_9)) (fun h => by rw [Bd.returns] at h; cases h)
 refine ⟨_, _, C_44.trans (retOut X_32 hx Bd.returns rfl (Or.inr (Or.inr (Or.inr (Or.inr ⟨rfl, rfl, rfl⟩)))) (hb hby d28_14) hr), hrun, hended, _, _, rfl, ?_, ?_, hRE.1, hRE.2.1, hRE.2.2.1, hRE.2.2.2.mono (by decide) (by decide)⟩
 ·show Q_mk_0 Z G1 G3 c0 c1 c2 c3 h0 n0 (some (.ref a_9)) T_32.heap _
  exact ⟨a_9, a_33, k_34, rfl, N_41, K_45, g_37, g_38, g_39, g_40⟩
 ·show CHr Z consts_1 s.vm s.heap T_32.vm T_32.heap
  rw [hh]
  exact CR_43.trans (CHv.at X_32 hZ_32 hEL CH_42)
theorem d28_15 : decode method_3_code 15 = .ok (.iload_n 0, 1) := by decide +kernel
theorem d28_16 : decode method_3_code 16 = .ok (.iconst 1, 1) := by decide +kernel
theorem d28_17 : decode method_3_code 17 = .ok (.if_icmp .ne 18, 3) := by decide +kernel
theorem d28_20 : decode method_3_code 20 = .ok (.new 7, 3) := by decide +kernel
theorem d28_23 : decode method_3_code 23 = .ok (.dup, 1) := by decide +kernel
theorem d28_24 : decode method_3_code 24 = .ok (.iconst 1, 1) := by decide +kernel
theorem d28_25 : decode method_3_code 25 = .ok (.newarray .char, 2) := by decide +kernel
theorem d28_27 : decode method_3_code 27 = .ok (.dup, 1) := by decide +kernel
theorem d28_28 : decode method_3_code 28 = .ok (.iconst 0, 1) := by decide +kernel
theorem d28_29 : decode method_3_code 29 = .ok (.iload_n 1, 1) := by decide +kernel
theorem d28_30 : decode method_3_code 30 = .ok (.castore, 1) := by decide +kernel
theorem d28_31 : decode method_3_code 31 = .ok (.invokespecial 9, 3) := by decide +kernel
theorem d28_34 : decode method_3_code 34 = .ok (.areturn, 1) := by decide +kernel
abbrev R_mk_1 : Room := { frames := 4, cells := 3, slots := 6, locals := 66 }
def Q_mk_1 (Z : State) (G1 : Int32) (G3 : Value) (c0 : Int32) (c1 : Int32) (c2 : Int32) (c3 : Int32) (h0 : Heap) (n0 : Nat) (v : Option Value) (h : Heap) (L : List Loc) : Prop := (∃ x : Addr, ∃ t : Addr, ∃ kt : ClassId, v = some (.ref x) ∧ Fr n0 L ∧ Keep h0 h [] ∧ (Exa Z h x "java/lang/String") ∧ (Fld Z h x "java/lang/String" "coder" "B" (.int 0)) ∧ (Fld Z h x "java/lang/String" "value" "[B" (.ref t)) ∧ (Arv Z h t kt .byte (1 : Int32) [(.int (own_lo8 c0))] (.int 0)))
theorem rm_mk_1 (l : Launch) (Z : State) (a0 : Array Value) (hw : HW Z a0) (ws : List Jvm.Cond) (G1 : Int32) (G3 : Value) (HG : own_G l Z a0 G1 G3) (h0 : Heap) (n0 : Nat) (X00 : Old Z n0 h0) (c0 : Int32) (c1 : Int32) (c2 : Int32) (c3 : Int32) (hl0 : ¬ (c0 < (0 : Int32))) (hh0 : ¬ ((255 : Int32) < c0)) :
  own_CP l Z M507 method_3_code 5 (some (.object "java/lang/String")) ws R_mk_1 #[(.int 1), (.int c0), (.int c1), (.int c2), (.int c3)] h0 (Q_mk_1 Z G1 G3 c0 c1 c2 c3 h0 n0) := by
 refine own_P (plainFor_of_name pn_493) ?_
 intro p e s m below meth c s₁ S0 Bd hZ hh hx hby hml hown hnm X0 e0 hS0d
 obtain ⟨O1, P1, O3f, rG3⟩ := id HG
 have N0 := Fr.nil n0
 have C0 : Steps p.tables e below S0 (s₁.setTop (mkF m 0 #[VI 1, VI c0, VI c1, VI c2, VI c3] [])) := by rw [hS0d]; exact castTop (ef_508 m (1 : Int32) c0 c1 c2 c3) (Steps.refl _)
 obtain ⟨T_1, h_2, X_3, e_4, E_5, A_6, D_7, U_11, st_8⟩ := newO X0 hx hZ hown (w8 hw) (w9 hw) (w10 hw) e0 (g := (mkF m 20 #[VI 1, VI c0, VI c1, VI c2, VI c3] [])) rfl (hb hby d28_20) (by decide) (by decide)
 obtain ⟨a_9, g_10⟩ : ∃ z, z = h0.size := ⟨_, rfl⟩
 rw [← g_10] at A_6 D_7 st_8 U_11
 obtain ⟨T_12, h_13, k_14, X_15, e_16, E_17, A_18, st_19⟩ := newP (aty := .char) X_3 hx hZ (w11 hw) e_4 (g := (mkF m 25 #[VI 1, VI c0, VI c1, VI c2, VI c3] [(.int 1), (.ref a_9), (.ref a_9)])) rfl (hb hby d28_25) rfl (by decide : ¬ ((1 : Int32) < (0 : Int32))) (cap := 1) (by decide : (1 : Int32).toNatClampNeg ≤ 1) (by decide) (by decide) (by decide)
 obtain ⟨a_20, g_21⟩ : ∃ z, z = h_2.size := ⟨_, rfl⟩
 rw [← g_21] at A_18 st_19
 have V_23 : Arv Z h_13 a_20 k_14 .char (1 : Int32) [] (.int 0) := Arv.new A_18 (by decide : ¬ ((1 : Int32) < (0 : Int32)))
 have V_22 : Arv Z h_13 a_20 k_14 .char (1 : Int32) [(.int 0)] (.int 0) := (V_23.pad (pad_rep [] (.int 0) 1))
 obtain ⟨c_24, A_25, q_26, S_27, M_28, H_29, U_30⟩ := id V_22
 have hin_37 : ¬ ((0 : Int32) < 0 ∨ c_24.slots.size ≤ (0 : Int32).toNatClampNeg) := inb_of S_27 ⟨(by decide : ¬ ((0 : Int32) < (0 : Int32))), (by decide : (0 : Int32) < (1 : Int32))⟩
 obtain ⟨T_31, h_32, X_33, e_34, W_35, st_36⟩ := stC X_15 hx hZ e_16 A_25 (j := (0 : Int32)) hin_37 (g := (mkF m 30 #[VI 1, VI c0, VI c1, VI c2, VI c3] [(.int c0), (.int 0), (.ref a_20), (.ref a_20), (.ref a_9), (.ref a_9)])) rfl rfl (hb hby d28_30)
 have O_39 : Old Z n0 h_2 := (X00.ext E_5)
 have N_38 := Fr.snoc X_33 N0 (Nat.le_trans (own_n0 O_39) (Nat.le_of_eq g_21.symm))
 have V_40 : Arv Z h_32 a_20 k_14 .char (1 : Int32) [(.int c0)] (.int 0) := by have q := Arv.set A_25 q_26 S_27 M_28 H_29 U_30 (fits_nar_char _) W_35 0 rfl (Nat.le_of_ble_eq_true rfl); rw [own_narc hl0 hh0] at q; exact q
 have E_41 : Exa Z h_32 a_9 "java/lang/String" := ((A_6.ext E_17).wr W_35)
 have F_42 : Fld Z h_32 a_9 "java/lang/String" "value" "[B" .null := (((D_7 (Or.inr (w24 hw)) (ty := (.array .byte)) (by decide)).ext E_17).other W_35 (Or.inl (Nat.ne_of_lt (Nat.lt_of_lt_of_le A_6.lt (Nat.le_trans (Nat.le_refl _) (Nat.le_of_eq g_21.symm))))))
 have F_43 : Fld Z h_32 a_9 "java/lang/String" "coder" "B" (.int 0) := (((D_7 (Or.inr (w25 hw)) (ty := .byte) (by decide)).ext E_17).other W_35 (Or.inl (Nat.ne_of_lt (Nat.lt_of_lt_of_le A_6.lt (Nat.le_trans (Nat.le_refl _) (Nat.le_of_eq g_21.symm))))))
 have O_44 : Old Z n0 h_32 := ((O_39.ext E_17).wr W_35 (Nat.le_trans (own_n0 O_39) (Nat.le_of_eq g_21.symm)))
 obtain ⟨_, _, ⟨T_45, L_45, k_45, n_45⟩, -, X_45, ⟨Lc_45, hQ_45, l_45, y_45, z_45⟩, st_45⟩ := X_33.specialBack hx (y := M25) rfl hown (mvT hZ (w12 hw)) (mvT hZ (w13 hw)) (mvT hZ (w14 hw)) (by decide) (backOf (W := 1) (rm_si1_1 l Z a0 hw [] G1 G3 HG h_32 n0 O_44 a_9 a_20 k_14 c0 E_41 F_42 F_43 (Nat.le_trans (own_n0 X00) (Nat.le_of_eq g_10.symm)) V_40 hh0) hZ (w14 hw) (w10 hw) (by decide) (by decide)) (g := (mkF m 31 #[VI 1, VI c0, VI c1, VI c2, VI c3] [(.ref a_20), (.ref a_9), (.ref a_9)])) rfl (by rw [hml]; rfl) (Steps.refl _) (a := a_9) (argsL := [(.ref a_20)]) (rest := [(.ref a_9)]) (lenOf pd_518 rfl) rfl (by show 2 * 0 + _ ≤ _; exact Nat.le_of_eq rfl) (hb hby d28_31) (fun _ _ => ⟨rfl, e_34, (by decide : 2 + 1 ≤ _), (by decide : 5 + 1 ≤ _)⟩)
 dsimp only [Pt.U, Pt.locs, Pt.cells, Pt.slots] at X_45 l_45 y_45 z_45 st_45 hQ_45
 subst l_45 y_45 z_45
 obtain ⟨a_46, k_47, rfl, N_48, K_49, g_50, g_51, g_52, g_53, g_54⟩ := hQ_45
 have N_55 := Fr.app N_38 N_48
 have C_56 : Steps p.tables e below S0 (T_45.setTop (mkF m 34 #[VI 1, VI c0, VI c1, VI c2, VI c3] [(.ref a_9)])) := by
  refine C0.trans ?_
  refine XS.iloadN X0.here hx rfl (hb hby d28_0) rfl ?_
  refine XS.ifYes X0.here hx rfl (pc0 := 1) (pc' := 15) rfl (hb hby d28_1) rfl (by decide) (by decide) (by decide) ?_
  refine XS.iloadN X0.here hx rfl (hb hby d28_15) rfl ?_
  refine XS.iconst X0.here hx rfl (hb hby d28_16) ?_
  refine XS.icmpNo X0.here hx rfl (hb hby d28_17) rfl (by decide) ?_
  refine st_8 _ ?_
  refine XS.dup X_3.here hx rfl (hb hby d28_23) rfl rfl ?_
  refine XS.iconst X_3.here hx rfl (hb hby d28_24) ?_
  refine st_19 _ ?_
  refine XS.dup X_15.here hx rfl (hb hby d28_27) rfl rfl ?_
  refine XS.iconst X_15.here hx rfl (hb hby d28_28) ?_
  refine XS.iloadN X_15.here hx rfl (hb hby d28_29) rfl ?_
  refine st_36 _ ?_
  refine st_45.trans ?_
  exact Steps.refl _
 have K_57 : Keep h0 T_45.heap [] := (((((Keep.refl _ _).ext E_5).ext E_17).wr W_35 (Or.inr (Nat.le_trans E_5.1 (Nat.le_of_eq g_21.symm)))).trans K_49 (allS (Or.inr (Nat.le_trans (Nat.le_refl _) (Nat.le_of_eq g_10.symm))) all0))
 obtain ⟨fs, hr, hrun, hended, hW, hsame⟩ := X_45.leave (v := some (.ref a_9)) (fun h => by rw [Bd.returns] at h; cases h)
 refine ⟨_, _, C_56.trans (retOut X_45 hx Bd.returns rfl (Or.inr (Or.inr (Or.inr (Or.inr ⟨rfl, rfl, rfl⟩)))) (hb hby d28_34) hr), hrun, hended, _, _, rfl, ?_, ⟨_, rfl⟩, hW, hsame.mono (by decide) (by decide)⟩
 show Q_mk_1 Z G1 G3 c0 c1 c2 c3 h0 n0 (some (.ref a_9)) T_45.heap _
 exact ⟨a_9, a_46, k_47, rfl, N_55, K_57, g_50, g_51, g_52, g_54⟩
theorem d28_35 : decode method_3_code 35 = .ok (.iload_n 0, 1) := by decide +kernel
theorem d28_36 : decode method_3_code 36 = .ok (.iconst 2, 1) := by decide +kernel
theorem d28_37 : decode method_3_code 37 = .ok (.if_icmp .ne 22, 3) := by decide +kernel
theorem d28_40 : decode method_3_code 40 = .ok (.new 7, 3) := by decide +kernel
theorem d28_43 : decode method_3_code 43 = .ok (.dup, 1) := by decide +kernel
theorem d28_44 : decode method_3_code 44 = .ok (.iconst 2, 1) := by decide +kernel
theorem d28_45 : decode method_3_code 45 = .ok (.newarray .char, 2) := by decide +kernel
theorem d28_47 : decode method_3_code 47 = .ok (.dup, 1) := by decide +kernel
theorem d28_48 : decode method_3_code 48 = .ok (.iconst 0, 1) := by decide +kernel
theorem d28_49 : decode method_3_code 49 = .ok (.iload_n 1, 1) := by decide +kernel
theorem d28_50 : decode method_3_code 50 = .ok (.castore, 1) := by decide +kernel
theorem d28_51 : decode method_3_code 51 = .ok (.dup, 1) := by decide +kernel
theorem d28_52 : decode method_3_code 52 = .ok (.iconst 1, 1) := by decide +kernel
theorem d28_53 : decode method_3_code 53 = .ok (.iload_n 2, 1) := by decide +kernel
theorem d28_54 : decode method_3_code 54 = .ok (.castore, 1) := by decide +kernel
theorem d28_55 : decode method_3_code 55 = .ok (.invokespecial 9, 3) := by decide +kernel
theorem d28_58 : decode method_3_code 58 = .ok (.areturn, 1) := by decide +kernel
abbrev R_mk_2 : Room := { frames := 4, cells := 3, slots := 8, locals := 66 }
def Q_mk_2 (Z : State) (G1 : Int32) (G3 : Value) (c0 : Int32) (c1 : Int32) (c2 : Int32) (c3 : Int32) (h0 : Heap) (n0 : Nat) (v : Option Value) (h : Heap) (L : List Loc) : Prop := (∃ x : Addr, ∃ t : Addr, ∃ kt : ClassId, v = some (.ref x) ∧ Fr n0 L ∧ Keep h0 h [] ∧ (Exa Z h x "java/lang/String") ∧ (Fld Z h x "java/lang/String" "coder" "B" (.int 0)) ∧ (Fld Z h x "java/lang/String" "value" "[B" (.ref t)) ∧ (Arv Z h t kt .byte (2 : Int32) [(.int (own_lo8 c0)), (.int (own_lo8 c1))] (.int 0)))
theorem rm_mk_2 (l : Launch) (Z : State) (a0 : Array Value) (hw : HW Z a0) (ws : List Jvm.Cond) (G1 : Int32) (G3 : Value) (HG : own_G l Z a0 G1 G3) (h0 : Heap) (n0 : Nat) (X00 : Old Z n0 h0) (c0 : Int32) (c1 : Int32) (c2 : Int32) (c3 : Int32) (hl0 : ¬ (c0 < (0 : Int32))) (hh0 : ¬ ((255 : Int32) < c0)) (hl1 : ¬ (c1 < (0 : Int32))) (hh1 : ¬ ((255 : Int32) < c1)) :
  own_CP l Z M507 method_3_code 5 (some (.object "java/lang/String")) ws R_mk_2 #[(.int 2), (.int c0), (.int c1), (.int c2), (.int c3)] h0 (Q_mk_2 Z G1 G3 c0 c1 c2 c3 h0 n0) := by
 refine own_P (plainFor_of_name pn_493) ?_
 intro p e s m below meth c s₁ S0 Bd hZ hh hx hby hml hown hnm X0 e0 hS0d
 obtain ⟨O1, P1, O3f, rG3⟩ := id HG
 have N0 := Fr.nil n0
 have C0 : Steps p.tables e below S0 (s₁.setTop (mkF m 0 #[VI 2, VI c0, VI c1, VI c2, VI c3] [])) := by rw [hS0d]; exact castTop (ef_508 m (2 : Int32) c0 c1 c2 c3) (Steps.refl _)
 obtain ⟨T_1, h_2, X_3, e_4, E_5, A_6, D_7, U_11, st_8⟩ := newO X0 hx hZ hown (w8 hw) (w9 hw) (w10 hw) e0 (g := (mkF m 40 #[VI 2, VI c0, VI c1, VI c2, VI c3] [])) rfl (hb hby d28_40) (by decide) (by decide)
 obtain ⟨a_9, g_10⟩ : ∃ z, z = h0.size := ⟨_, rfl⟩
 rw [← g_10] at A_6 D_7 st_8 U_11
 obtain ⟨T_12, h_13, k_14, X_15, e_16, E_17, A_18, st_19⟩ := newP (aty := .char) X_3 hx hZ (w11 hw) e_4 (g := (mkF m 45 #[VI 2, VI c0, VI c1, VI c2, VI c3] [(.int 2), (.ref a_9), (.ref a_9)])) rfl (hb hby d28_45) rfl (by decide : ¬ ((2 : Int32) < (0 : Int32))) (cap := 2) (by decide : (2 : Int32).toNatClampNeg ≤ 2) (by decide) (by decide) (by decide)
 obtain ⟨a_20, g_21⟩ : ∃ z, z = h_2.size := ⟨_, rfl⟩
 rw [← g_21] at A_18 st_19
 have V_23 : Arv Z h_13 a_20 k_14 .char (2 : Int32) [] (.int 0) := Arv.new A_18 (by decide : ¬ ((2 : Int32) < (0 : Int32)))
 have V_22 : Arv Z h_13 a_20 k_14 .char (2 : Int32) [(.int 0), (.int 0)] (.int 0) := (V_23.pad (pad_rep [] (.int 0) 2))
 obtain ⟨c_24, A_25, q_26, S_27, M_28, H_29, U_30⟩ := id V_22
 have hin_37 : ¬ ((0 : Int32) < 0 ∨ c_24.slots.size ≤ (0 : Int32).toNatClampNeg) := inb_of S_27 ⟨(by decide : ¬ ((0 : Int32) < (0 : Int32))), (by decide : (0 : Int32) < (2 : Int32))⟩
 obtain ⟨T_31, h_32, X_33, e_34, W_35, st_36⟩ := stC X_15 hx hZ e_16 A_25 (j := (0 : Int32)) hin_37 (g := (mkF m 50 #[VI 2, VI c0, VI c1, VI c2, VI c3] [(.int c0), (.int 0), (.ref a_20), (.ref a_20), (.ref a_9), (.ref a_9)])) rfl rfl (hb hby d28_50)
 have O_39 : Old Z n0 h_2 := (X00.ext E_5)
 have N_38 := Fr.snoc X_33 N0 (Nat.le_trans (own_n0 O_39) (Nat.le_of_eq g_21.symm))
 have V_40 : Arv Z h_32 a_20 k_14 .char (2 : Int32) [(.int c0), (.int 0)] (.int 0) := by have q := Arv.set A_25 q_26 S_27 M_28 H_29 U_30 (fits_nar_char _) W_35 0 rfl (Nat.le_of_ble_eq_true rfl); rw [own_narc hl0 hh0] at q; exact q
 obtain ⟨c_41, A_42, q_43, S_44, M_45, H_46, U_47⟩ := id V_40
 have hin_54 : ¬ ((1 : Int32) < 0 ∨ c_41.slots.size ≤ (1 : Int32).toNatClampNeg) := inb_of S_44 ⟨(by decide : ¬ ((1 : Int32) < (0 : Int32))), (by decide : (1 : Int32) < (2 : Int32))⟩
 obtain ⟨T_48, h_49, X_50, e_51, W_52, st_53⟩ := stC X_33 hx hZ e_34 A_42 (j := (1 : Int32)) hin_54 (g := (mkF m 54 #[VI 2, VI c0, VI c1, VI c2, VI c3] [(.int c1), (.int 1), (.ref a_20), (.ref a_20), (.ref a_9), (.ref a_9)])) rfl rfl (hb hby d28_54)
 have N_55 := Fr.snoc X_50 N_38 (Nat.le_trans (own_n0 O_39) (Nat.le_of_eq g_21.symm))
 have V_56 : Arv Z h_49 a_20 k_14 .char (2 : Int32) [(.int c0), (.int c1)] (.int 0) := by have q := Arv.set A_42 q_43 S_44 M_45 H_46 U_47 (fits_nar_char _) W_52 1 rfl (Nat.le_of_ble_eq_true rfl); rw [own_narc hl1 hh1] at q; exact q
 have E_57 : Exa Z h_49 a_9 "java/lang/String" := (((A_6.ext E_17).wr W_35).wr W_52)
 have F_58 : Fld Z h_49 a_9 "java/lang/String" "value" "[B" .null := ((((D_7 (Or.inr (w24 hw)) (ty := (.array .byte)) (by decide)).ext E_17).other W_35 (Or.inl (Nat.ne_of_lt (Nat.lt_of_lt_of_le A_6.lt (Nat.le_trans (Nat.le_refl _) (Nat.le_of_eq g_21.symm)))))).other W_52 (Or.inl (Nat.ne_of_lt (Nat.lt_of_lt_of_le A_6.lt (Nat.le_trans (Nat.le_refl _) (Nat.le_of_eq g_21.symm))))))
 have F_59 : Fld Z h_49 a_9 "java/lang/String" "coder" "B" (.int 0) := ((((D_7 (Or.inr (w25 hw)) (ty := .byte) (by decide)).ext E_17).other W_35 (Or.inl (Nat.ne_of_lt (Nat.lt_of_lt_of_le A_6.lt (Nat.le_trans (Nat.le_refl _) (Nat.le_of_eq g_21.symm)))))).other W_52 (Or.inl (Nat.ne_of_lt (Nat.lt_of_lt_of_le A_6.lt (Nat.le_trans (Nat.le_refl _) (Nat.le_of_eq g_21.symm))))))
 have O_60 : Old Z n0 h_49 := (((O_39.ext E_17).wr W_35 (Nat.le_trans (own_n0 O_39) (Nat.le_of_eq g_21.symm))).wr W_52 (Nat.le_trans (own_n0 O_39) (Nat.le_of_eq g_21.symm)))
 obtain ⟨_, _, ⟨T_61, L_61, k_61, n_61⟩, -, X_61, ⟨Lc_61, hQ_61, l_61, y_61, z_61⟩, st_61⟩ := X_50.specialBack hx (y := M25) rfl hown (mvT hZ (w12 hw)) (mvT hZ (w13 hw)) (mvT hZ (w14 hw)) (by decide) (backOf (W := 1) (rm_si1_2 l Z a0 hw [] G1 G3 HG h_49 n0 O_60 a_9 a_20 k_14 c0 c1 E_57 F_58 F_59 (Nat.le_trans (own_n0 X00) (Nat.le_of_eq g_10.symm)) V_56 hh0 hh1) hZ (w14 hw) (w10 hw) (by decide) (by decide)) (g := (mkF m 55 #[VI 2, VI c0, VI c1, VI c2, VI c3] [(.ref a_20), (.ref a_9), (.ref a_9)])) rfl (by rw [hml]; rfl) (Steps.refl _) (a := a_9) (argsL := [(.ref a_20)]) (rest := [(.ref a_9)]) (lenOf pd_518 rfl) rfl (by show 2 * 0 + _ ≤ _; exact Nat.le_of_eq rfl) (hb hby d28_55) (fun _ _ => ⟨rfl, e_51, (by decide : 2 + 1 ≤ _), (by decide : 6 + 2 ≤ _)⟩)
 dsimp only [Pt.U, Pt.locs, Pt.cells, Pt.slots] at X_61 l_61 y_61 z_61 st_61 hQ_61
 subst l_61 y_61 z_61
 obtain ⟨a_62, k_63, rfl, N_64, K_65, g_66, g_67, g_68, g_69, g_70⟩ := hQ_61
 have N_71 := Fr.app N_55 N_64
 have C_72 : Steps p.tables e below S0 (T_61.setTop (mkF m 58 #[VI 2, VI c0, VI c1, VI c2, VI c3] [(.ref a_9)])) := by
  refine C0.trans ?_
  refine XS.iloadN X0.here hx rfl (hb hby d28_0) rfl ?_
  refine XS.ifYes X0.here hx rfl (pc0 := 1) (pc' := 15) rfl (hb hby d28_1) rfl (by decide) (by decide) (by decide) ?_
  refine XS.iloadN X0.here hx rfl (hb hby d28_15) rfl ?_
  refine XS.iconst X0.here hx rfl (hb hby d28_16) ?_
  refine XS.icmpYes X0.here hx rfl (pc0 := 17) (pc' := 35) rfl (hb hby d28_17) rfl (by decide) (by decide) (by decide) ?_
  refine XS.iloadN X0.here hx rfl (hb hby d28_35) rfl ?_
  refine XS.iconst X0.here hx rfl (hb hby d28_36) ?_
  refine XS.icmpNo X0.here hx rfl (hb hby d28_37) rfl (by decide) ?_
  refine st_8 _ ?_
  refine XS.dup X_3.here hx rfl (hb hby d28_43) rfl rfl ?_
  refine XS.iconst X_3.here hx rfl (hb hby d28_44) ?_
  refine st_19 _ ?_
  refine XS.dup X_15.here hx rfl (hb hby d28_47) rfl rfl ?_
  refine XS.iconst X_15.here hx rfl (hb hby d28_48) ?_
  refine XS.iloadN X_15.here hx rfl (hb hby d28_49) rfl ?_
  refine st_36 _ ?_
  show Steps p.tables e below (T_31.setTop (mkF m 51 #[VI 2, VI c0, VI c1, VI c2, VI c3] [(.ref a_20), (.ref a_9), (.ref a_9)])) _
  refine XS.dup X_33.here hx rfl (hb hby d28_51) rfl rfl ?_
  refine XS.iconst X_33.here hx rfl (hb hby d28_52) ?_
  refine XS.iloadN X_33.here hx rfl (hb hby d28_53) rfl ?_
  refine st_53 _ ?_
  refine st_61.trans ?_
  exact Steps.refl _
 have K_73 : Keep h0 T_61.heap [] := ((((((Keep.refl _ _).ext E_5).ext E_17).wr W_35 (Or.inr (Nat.le_trans E_5.1 (Nat.le_of_eq g_21.symm)))).wr W_52 (Or.inr (Nat.le_trans E_5.1 (Nat.le_of_eq g_21.symm)))).trans K_65 (allS (Or.inr (Nat.le_trans (Nat.le_refl _) (Nat.le_of_eq g_10.symm))) all0))
 obtain ⟨fs, hr, hrun, hended, hW, hsame⟩ := X_61.leave (v := some (.ref a_9)) (fun h => by rw [Bd.returns] at h; cases h)
 refine ⟨_, _, C_72.trans (retOut X_61 hx Bd.returns rfl (Or.inr (Or.inr (Or.inr (Or.inr ⟨rfl, rfl, rfl⟩)))) (hb hby d28_58) hr), hrun, hended, _, _, rfl, ?_, ⟨_, rfl⟩, hW, hsame.mono (by decide) (by decide)⟩
 show Q_mk_2 Z G1 G3 c0 c1 c2 c3 h0 n0 (some (.ref a_9)) T_61.heap _
 exact ⟨a_9, a_62, k_63, rfl, N_71, K_73, g_66, g_67, g_68, g_70⟩
theorem d28_59 : decode method_3_code 59 = .ok (.iload_n 0, 1) := by decide +kernel
theorem d28_60 : decode method_3_code 60 = .ok (.iconst 3, 1) := by decide +kernel
theorem d28_61 : decode method_3_code 61 = .ok (.if_icmp .ne 26, 3) := by decide +kernel
theorem d28_64 : decode method_3_code 64 = .ok (.new 7, 3) := by decide +kernel
theorem d28_67 : decode method_3_code 67 = .ok (.dup, 1) := by decide +kernel
theorem d28_68 : decode method_3_code 68 = .ok (.iconst 3, 1) := by decide +kernel
theorem d28_69 : decode method_3_code 69 = .ok (.newarray .char, 2) := by decide +kernel
theorem d28_71 : decode method_3_code 71 = .ok (.dup, 1) := by decide +kernel
theorem d28_72 : decode method_3_code 72 = .ok (.iconst 0, 1) := by decide +kernel
theorem d28_73 : decode method_3_code 73 = .ok (.iload_n 1, 1) := by decide +kernel
theorem d28_74 : decode method_3_code 74 = .ok (.castore, 1) := by decide +kernel
theorem d28_75 : decode method_3_code 75 = .ok (.dup, 1) := by decide +kernel
theorem d28_76 : decode method_3_code 76 = .ok (.iconst 1, 1) := by decide +kernel
theorem d28_77 : decode method_3_code 77 = .ok (.iload_n 2, 1) := by decide +kernel
theorem d28_78 : decode method_3_code 78 = .ok (.castore, 1) := by decide +kernel
theorem d28_79 : decode method_3_code 79 = .ok (.dup, 1) := by decide +kernel
theorem d28_80 : decode method_3_code 80 = .ok (.iconst 2, 1) := by decide +kernel
theorem d28_81 : decode method_3_code 81 = .ok (.iload_n 3, 1) := by decide +kernel
theorem d28_82 : decode method_3_code 82 = .ok (.castore, 1) := by decide +kernel
theorem d28_83 : decode method_3_code 83 = .ok (.invokespecial 9, 3) := by decide +kernel
theorem d28_86 : decode method_3_code 86 = .ok (.areturn, 1) := by decide +kernel
abbrev R_mk_3 : Room := { frames := 4, cells := 3, slots := 10, locals := 66 }
def Q_mk_3 (Z : State) (G1 : Int32) (G3 : Value) (c0 : Int32) (c1 : Int32) (c2 : Int32) (c3 : Int32) (h0 : Heap) (n0 : Nat) (v : Option Value) (h : Heap) (L : List Loc) : Prop := (∃ x : Addr, ∃ t : Addr, ∃ kt : ClassId, v = some (.ref x) ∧ Fr n0 L ∧ Keep h0 h [] ∧ (Exa Z h x "java/lang/String") ∧ (Fld Z h x "java/lang/String" "coder" "B" (.int 0)) ∧ (Fld Z h x "java/lang/String" "value" "[B" (.ref t)) ∧ (Arv Z h t kt .byte (3 : Int32) [(.int (own_lo8 c0)), (.int (own_lo8 c1)), (.int (own_lo8 c2))] (.int 0)))
theorem rm_mk_3 (l : Launch) (Z : State) (a0 : Array Value) (hw : HW Z a0) (ws : List Jvm.Cond) (G1 : Int32) (G3 : Value) (HG : own_G l Z a0 G1 G3) (h0 : Heap) (n0 : Nat) (X00 : Old Z n0 h0) (c0 : Int32) (c1 : Int32) (c2 : Int32) (c3 : Int32) (hl0 : ¬ (c0 < (0 : Int32))) (hh0 : ¬ ((255 : Int32) < c0)) (hl1 : ¬ (c1 < (0 : Int32))) (hh1 : ¬ ((255 : Int32) < c1)) (hl2 : ¬ (c2 < (0 : Int32))) (hh2 : ¬ ((255 : Int32) < c2)) :
  own_CP l Z M507 method_3_code 5 (some (.object "java/lang/String")) ws R_mk_3 #[(.int 3), (.int c0), (.int c1), (.int c2), (.int c3)] h0 (Q_mk_3 Z G1 G3 c0 c1 c2 c3 h0 n0) := by
 refine own_P (plainFor_of_name pn_493) ?_
 intro p e s m below meth c s₁ S0 Bd hZ hh hx hby hml hown hnm X0 e0 hS0d
 obtain ⟨O1, P1, O3f, rG3⟩ := id HG
 have N0 := Fr.nil n0
 have C0 : Steps p.tables e below S0 (s₁.setTop (mkF m 0 #[VI 3, VI c0, VI c1, VI c2, VI c3] [])) := by rw [hS0d]; exact castTop (ef_508 m (3 : Int32) c0 c1 c2 c3) (Steps.refl _)
 obtain ⟨T_1, h_2, X_3, e_4, E_5, A_6, D_7, U_11, st_8⟩ := newO X0 hx hZ hown (w8 hw) (w9 hw) (w10 hw) e0 (g := (mkF m 64 #[VI 3, VI c0, VI c1, VI c2, VI c3] [])) rfl (hb hby d28_64) (by decide) (by decide)
 obtain ⟨a_9, g_10⟩ : ∃ z, z = h0.size := ⟨_, rfl⟩
 rw [← g_10] at A_6 D_7 st_8 U_11
 obtain ⟨T_12, h_13, k_14, X_15, e_16, E_17, A_18, st_19⟩ := newP (aty := .char) X_3 hx hZ (w11 hw) e_4 (g := (mkF m 69 #[VI 3, VI c0, VI c1, VI c2, VI c3] [(.int 3), (.ref a_9), (.ref a_9)])) rfl (hb hby d28_69) rfl (by decide : ¬ ((3 : Int32) < (0 : Int32))) (cap := 3) (by decide : (3 : Int32).toNatClampNeg ≤ 3) (by decide) (by decide) (by decide)
 obtain ⟨a_20, g_21⟩ : ∃ z, z = h_2.size := ⟨_, rfl⟩
 rw [← g_21] at A_18 st_19
 have V_23 : Arv Z h_13 a_20 k_14 .char (3 : Int32) [] (.int 0) := Arv.new A_18 (by decide : ¬ ((3 : Int32) < (0 : Int32)))
 have V_22 : Arv Z h_13 a_20 k_14 .char (3 : Int32) [(.int 0), (.int 0), (.int 0)] (.int 0) := (V_23.pad (pad_rep [] (.int 0) 3))
 obtain ⟨c_24, A_25, q_26, S_27, M_28, H_29, U_30⟩ := id V_22
 have hin_37 : ¬ ((0 : Int32) < 0 ∨ c_24.slots.size ≤ (0 : Int32).toNatClampNeg) := inb_of S_27 ⟨(by decide : ¬ ((0 : Int32) < (0 : Int32))), (by decide : (0 : Int32) < (3 : Int32))⟩
 obtain ⟨T_31, h_32, X_33, e_34, W_35, st_36⟩ := stC X_15 hx hZ e_16 A_25 (j := (0 : Int32)) hin_37 (g := (mkF m 74 #[VI 3, VI c0, VI c1, VI c2, VI c3] [(.int c0), (.int 0), (.ref a_20), (.ref a_20), (.ref a_9), (.ref a_9)])) rfl rfl (hb hby d28_74)
 have O_39 : Old Z n0 h_2 := (X00.ext E_5)
 have N_38 := Fr.snoc X_33 N0 (Nat.le_trans (own_n0 O_39) (Nat.le_of_eq g_21.symm))
 have V_40 : Arv Z h_32 a_20 k_14 .char (3 : Int32) [(.int c0), (.int 0), (.int 0)] (.int 0) := by have q := Arv.set A_25 q_26 S_27 M_28 H_29 U_30 (fits_nar_char _) W_35 0 rfl (Nat.le_of_ble_eq_true rfl); rw [own_narc hl0 hh0] at q; exact q
 obtain ⟨c_41, A_42, q_43, S_44, M_45, H_46, U_47⟩ := id V_40
 have hin_54 : ¬ ((1 : Int32) < 0 ∨ c_41.slots.size ≤ (1 : Int32).toNatClampNeg) := inb_of S_44 ⟨(by decide : ¬ ((1 : Int32) < (0 : Int32))), (by decide : (1 : Int32) < (3 : Int32))⟩
 obtain ⟨T_48, h_49, X_50, e_51, W_52, st_53⟩ := stC X_33 hx hZ e_34 A_42 (j := (1 : Int32)) hin_54 (g := (mkF m 78 #[VI 3, VI c0, VI c1, VI c2, VI c3] [(.int c1), (.int 1), (.ref a_20), (.ref a_20), (.ref a_9), (.ref a_9)])) rfl rfl (hb hby d28_78)
 have N_55 := Fr.snoc X_50 N_38 (Nat.le_trans (own_n0 O_39) (Nat.le_of_eq g_21.symm))
 have V_56 : Arv Z h_49 a_20 k_14 .char (3 : Int32) [(.int c0), (.int c1), (.int 0)] (.int 0) := by have q := Arv.set A_42 q_43 S_44 M_45 H_46 U_47 (fits_nar_char _) W_52 1 rfl (Nat.le_of_ble_eq_true rfl); rw [own_narc hl1 hh1] at q; exact q
 obtain ⟨c_57, A_58, q_59, S_60, M_61, H_62, U_63⟩ := id V_56
 have hin_70 : ¬ ((2 : Int32) < 0 ∨ c_57.slots.size ≤ (2 : Int32).toNatClampNeg) := inb_of S_60 ⟨(by decide : ¬ ((2 : Int32) < (0 : Int32))), (by decide : (2 : Int32) < (3 : Int32))⟩
 obtain ⟨T_64, h_65, X_66, e_67, W_68, st_69⟩ := stC X_50 hx hZ e_51 A_58 (j := (2 : Int32)) hin_70 (g := (mkF m 82 #[VI 3, VI c0, VI c1, VI c2, VI c3] [(.int c2), (.int 2), (.ref a_20), (.ref a_20), (.ref a_9), (.ref a_9)])) rfl rfl (hb hby d28_82)
 have N_71 := Fr.snoc X_66 N_55 (Nat.le_trans (own_n0 O_39) (Nat.le_of_eq g_21.symm))
 have V_72 : Arv Z h_65 a_20 k_14 .char (3 : Int32) [(.int c0), (.int c1), (.int c2)] (.int 0) := by have q := Arv.set A_58 q_59 S_60 M_61 H_62 U_63 (fits_nar_char _) W_68 2 rfl (Nat.le_of_ble_eq_true rfl); rw [own_narc hl2 hh2] at q; exact q
 have E_73 : Exa Z h_65 a_9 "java/lang/String" := ((((A_6.ext E_17).wr W_35).wr W_52).wr W_68)
 have F_74 : Fld Z h_65 a_9 "java/lang/String" "value" "[B" .null := (((((D_7 (Or.inr (w24 hw)) (ty := (.array .byte)) (by decide)).ext E_17).other W_35 (Or.inl (Nat.ne_of_lt (Nat.lt_of_lt_of_le A_6.lt (Nat.le_trans (Nat.le_refl _) (Nat.le_of_eq g_21.symm)))))).other W_52 (Or.inl (Nat.ne_of_lt (Nat.lt_of_lt_of_le A_6.lt (Nat.le_trans (Nat.le_refl _) (Nat.le_of_eq g_21.symm)))))).other W_68 (Or.inl (Nat.ne_of_lt (Nat.lt_of_lt_of_le A_6.lt (Nat.le_trans (Nat.le_refl _) (Nat.le_of_eq g_21.symm))))))
 have F_75 : Fld Z h_65 a_9 "java/lang/String" "coder" "B" (.int 0) := (((((D_7 (Or.inr (w25 hw)) (ty := .byte) (by decide)).ext E_17).other W_35 (Or.inl (Nat.ne_of_lt (Nat.lt_of_lt_of_le A_6.lt (Nat.le_trans (Nat.le_refl _) (Nat.le_of_eq g_21.symm)))))).other W_52 (Or.inl (Nat.ne_of_lt (Nat.lt_of_lt_of_le A_6.lt (Nat.le_trans (Nat.le_refl _) (Nat.le_of_eq g_21.symm)))))).other W_68 (Or.inl (Nat.ne_of_lt (Nat.lt_of_lt_of_le A_6.lt (Nat.le_trans (Nat.le_refl _) (Nat.le_of_eq g_21.symm))))))
 have O_76 : Old Z n0 h_65 := ((((O_39.ext E_17).wr W_35 (Nat.le_trans (own_n0 O_39) (Nat.le_of_eq g_21.symm))).wr W_52 (Nat.le_trans (own_n0 O_39) (Nat.le_of_eq g_21.symm))).wr W_68 (Nat.le_trans (own_n0 O_39) (Nat.le_of_eq g_21.symm)))
 obtain ⟨_, _, ⟨T_77, L_77, k_77, n_77⟩, -, X_77, ⟨Lc_77, hQ_77, l_77, y_77, z_77⟩, st_77⟩ := X_66.specialBack hx (y := M25) rfl hown (mvT hZ (w12 hw)) (mvT hZ (w13 hw)) (mvT hZ (w14 hw)) (by decide) (backOf (W := 1) (rm_si1_3 l Z a0 hw [] G1 G3 HG h_65 n0 O_76 a_9 a_20 k_14 c0 c1 c2 E_73 F_74 F_75 (Nat.le_trans (own_n0 X00) (Nat.le_of_eq g_10.symm)) V_72 hh0 hh1 hh2) hZ (w14 hw) (w10 hw) (by decide) (by decide)) (g := (mkF m 83 #[VI 3, VI c0, VI c1, VI c2, VI c3] [(.ref a_20), (.ref a_9), (.ref a_9)])) rfl (by rw [hml]; rfl) (Steps.refl _) (a := a_9) (argsL := [(.ref a_20)]) (rest := [(.ref a_9)]) (lenOf pd_518 rfl) rfl (by show 2 * 0 + _ ≤ _; exact Nat.le_of_eq rfl) (hb hby d28_83) (fun _ _ => ⟨rfl, e_67, (by decide : 2 + 1 ≤ _), (by decide : 7 + 3 ≤ _)⟩)
 dsimp only [Pt.U, Pt.locs, Pt.cells, Pt.slots] at X_77 l_77 y_77 z_77 st_77 hQ_77
 subst l_77 y_77 z_77
 obtain ⟨a_78, k_79, rfl, N_80, K_81, g_82, g_83, g_84, g_85, g_86⟩ := hQ_77
 have N_87 := Fr.app N_71 N_80
 have C_88 : Steps p.tables e below S0 (T_77.setTop (mkF m 86 #[VI 3, VI c0, VI c1, VI c2, VI c3] [(.ref a_9)])) := by
  refine C0.trans ?_
  refine XS.iloadN X0.here hx rfl (hb hby d28_0) rfl ?_
  refine XS.ifYes X0.here hx rfl (pc0 := 1) (pc' := 15) rfl (hb hby d28_1) rfl (by decide) (by decide) (by decide) ?_
  refine XS.iloadN X0.here hx rfl (hb hby d28_15) rfl ?_
  refine XS.iconst X0.here hx rfl (hb hby d28_16) ?_
  refine XS.icmpYes X0.here hx rfl (pc0 := 17) (pc' := 35) rfl (hb hby d28_17) rfl (by decide) (by decide) (by decide) ?_
  refine XS.iloadN X0.here hx rfl (hb hby d28_35) rfl ?_
  refine XS.iconst X0.here hx rfl (hb hby d28_36) ?_
  refine XS.icmpYes X0.here hx rfl (pc0 := 37) (pc' := 59) rfl (hb hby d28_37) rfl (by decide) (by decide) (by decide) ?_
  refine XS.iloadN X0.here hx rfl (hb hby d28_59) rfl ?_
  refine XS.iconst X0.here hx rfl (hb hby d28_60) ?_
  refine XS.icmpNo X0.here hx rfl (hb hby d28_61) rfl (by decide) ?_
  refine st_8 _ ?_
  refine XS.dup X_3.here hx rfl (hb hby d28_67) rfl rfl ?_
  refine XS.iconst X_3.here hx rfl (hb hby d28_68) ?_
  refine st_19 _ ?_
  refine XS.dup X_15.here hx rfl (hb hby d28_71) rfl rfl ?_
  show Steps p.tables e below (T_12.setTop (mkF m 72 #[VI 3, VI c0, VI c1, VI c2, VI c3] [(.ref a_20), (.ref a_20), (.ref a_9), (.ref a_9)])) _
  refine XS.iconst X_15.here hx rfl (hb hby d28_72) ?_
  refine XS.iloadN X_15.here hx rfl (hb hby d28_73) rfl ?_
  refine st_36 _ ?_
  refine XS.dup X_33.here hx rfl (hb hby d28_75) rfl rfl ?_
  refine XS.iconst X_33.here hx rfl (hb hby d28_76) ?_
  refine XS.iloadN X_33.here hx rfl (hb hby d28_77) rfl ?_
  refine st_53 _ ?_
  refine XS.dup X_50.here hx rfl (hb hby d28_79) rfl rfl ?_
  refine XS.iconst X_50.here hx rfl (hb hby d28_80) ?_
  refine XS.iloadN X_50.here hx rfl (hb hby d28_81) rfl ?_
  refine st_69 _ ?_
  refine st_77.trans ?_
  exact Steps.refl _
 have K_89 : Keep h0 T_77.heap [] := (((((((Keep.refl _ _).ext E_5).ext E_17).wr W_35 (Or.inr (Nat.le_trans E_5.1 (Nat.le_of_eq g_21.symm)))).wr W_52 (Or.inr (Nat.le_trans E_5.1 (Nat.le_of_eq g_21.symm)))).wr W_68 (Or.inr (Nat.le_trans E_5.1 (Nat.le_of_eq g_21.symm)))).trans K_81 (allS (Or.inr (Nat.le_trans (Nat.le_refl _) (Nat.le_of_eq g_10.symm))) all0))
 obtain ⟨fs, hr, hrun, hended, hW, hsame⟩ := X_77.leave (v := some (.ref a_9)) (fun h => by rw [Bd.returns] at h; cases h)
 refine ⟨_, _, C_88.trans (retOut X_77 hx Bd.returns rfl (Or.inr (Or.inr (Or.inr (Or.inr ⟨rfl, rfl, rfl⟩)))) (hb hby d28_86) hr), hrun, hended, _, _, rfl, ?_, ⟨_, rfl⟩, hW, hsame.mono (by decide) (by decide)⟩
 show Q_mk_3 Z G1 G3 c0 c1 c2 c3 h0 n0 (some (.ref a_9)) T_77.heap _
 exact ⟨a_9, a_78, k_79, rfl, N_87, K_89, g_82, g_83, g_84, g_86⟩
theorem d28_87 : decode method_3_code 87 = .ok (.new 7, 3) := by decide +kernel
theorem d28_90 : decode method_3_code 90 = .ok (.dup, 1) := by decide +kernel
theorem d28_91 : decode method_3_code 91 = .ok (.iconst 4, 1) := by decide +kernel
theorem d28_92 : decode method_3_code 92 = .ok (.newarray .char, 2) := by decide +kernel
theorem d28_94 : decode method_3_code 94 = .ok (.dup, 1) := by decide +kernel
theorem d28_95 : decode method_3_code 95 = .ok (.iconst 0, 1) := by decide +kernel
theorem d28_96 : decode method_3_code 96 = .ok (.iload_n 1, 1) := by decide +kernel
theorem d28_97 : decode method_3_code 97 = .ok (.castore, 1) := by decide +kernel
theorem d28_98 : decode method_3_code 98 = .ok (.dup, 1) := by decide +kernel
theorem d28_99 : decode method_3_code 99 = .ok (.iconst 1, 1) := by decide +kernel
theorem d28_100 : decode method_3_code 100 = .ok (.iload_n 2, 1) := by decide +kernel
theorem d28_101 : decode method_3_code 101 = .ok (.castore, 1) := by decide +kernel
theorem d28_102 : decode method_3_code 102 = .ok (.dup, 1) := by decide +kernel
theorem d28_103 : decode method_3_code 103 = .ok (.iconst 2, 1) := by decide +kernel
theorem d28_104 : decode method_3_code 104 = .ok (.iload_n 3, 1) := by decide +kernel
theorem d28_105 : decode method_3_code 105 = .ok (.castore, 1) := by decide +kernel
theorem d28_106 : decode method_3_code 106 = .ok (.dup, 1) := by decide +kernel
theorem d28_107 : decode method_3_code 107 = .ok (.iconst 3, 1) := by decide +kernel
theorem d28_108 : decode method_3_code 108 = .ok (.iload 4, 2) := by decide +kernel
theorem d28_110 : decode method_3_code 110 = .ok (.castore, 1) := by decide +kernel
theorem d28_111 : decode method_3_code 111 = .ok (.invokespecial 9, 3) := by decide +kernel
theorem d28_114 : decode method_3_code 114 = .ok (.areturn, 1) := by decide +kernel
abbrev R_mk_4 : Room := { frames := 4, cells := 3, slots := 12, locals := 66 }
def Q_mk_4 (Z : State) (G1 : Int32) (G3 : Value) (c0 : Int32) (c1 : Int32) (c2 : Int32) (c3 : Int32) (h0 : Heap) (n0 : Nat) (v : Option Value) (h : Heap) (L : List Loc) : Prop := (∃ x : Addr, ∃ t : Addr, ∃ kt : ClassId, v = some (.ref x) ∧ Fr n0 L ∧ Keep h0 h [] ∧ (Exa Z h x "java/lang/String") ∧ (Fld Z h x "java/lang/String" "coder" "B" (.int 0)) ∧ (Fld Z h x "java/lang/String" "value" "[B" (.ref t)) ∧ (Arv Z h t kt .byte (4 : Int32) [(.int (own_lo8 c0)), (.int (own_lo8 c1)), (.int (own_lo8 c2)), (.int (own_lo8 c3))] (.int 0)))
theorem rm_mk_4 (l : Launch) (Z : State) (a0 : Array Value) (hw : HW Z a0) (ws : List Jvm.Cond) (G1 : Int32) (G3 : Value) (HG : own_G l Z a0 G1 G3) (h0 : Heap) (n0 : Nat) (X00 : Old Z n0 h0) (c0 : Int32) (c1 : Int32) (c2 : Int32) (c3 : Int32) (hl0 : ¬ (c0 < (0 : Int32))) (hh0 : ¬ ((255 : Int32) < c0)) (hl1 : ¬ (c1 < (0 : Int32))) (hh1 : ¬ ((255 : Int32) < c1)) (hl2 : ¬ (c2 < (0 : Int32))) (hh2 : ¬ ((255 : Int32) < c2)) (hl3 : ¬ (c3 < (0 : Int32))) (hh3 : ¬ ((255 : Int32) < c3)) :
  own_CP l Z M507 method_3_code 5 (some (.object "java/lang/String")) ws R_mk_4 #[(.int 4), (.int c0), (.int c1), (.int c2), (.int c3)] h0 (Q_mk_4 Z G1 G3 c0 c1 c2 c3 h0 n0) := by
 refine own_P (plainFor_of_name pn_493) ?_
 intro p e s m below meth c s₁ S0 Bd hZ hh hx hby hml hown hnm X0 e0 hS0d
 obtain ⟨O1, P1, O3f, rG3⟩ := id HG
 have N0 := Fr.nil n0
 have C0 : Steps p.tables e below S0 (s₁.setTop (mkF m 0 #[VI 4, VI c0, VI c1, VI c2, VI c3] [])) := by rw [hS0d]; exact castTop (ef_508 m (4 : Int32) c0 c1 c2 c3) (Steps.refl _)
 obtain ⟨T_1, h_2, X_3, e_4, E_5, A_6, D_7, U_11, st_8⟩ := newO X0 hx hZ hown (w8 hw) (w9 hw) (w10 hw) e0 (g := (mkF m 87 #[VI 4, VI c0, VI c1, VI c2, VI c3] [])) rfl (hb hby d28_87) (by decide) (by decide)
 obtain ⟨a_9, g_10⟩ : ∃ z, z = h0.size := ⟨_, rfl⟩
 rw [← g_10] at A_6 D_7 st_8 U_11
 obtain ⟨T_12, h_13, k_14, X_15, e_16, E_17, A_18, st_19⟩ := newP (aty := .char) X_3 hx hZ (w11 hw) e_4 (g := (mkF m 92 #[VI 4, VI c0, VI c1, VI c2, VI c3] [(.int 4), (.ref a_9), (.ref a_9)])) rfl (hb hby d28_92) rfl (by decide : ¬ ((4 : Int32) < (0 : Int32))) (cap := 4) (by decide : (4 : Int32).toNatClampNeg ≤ 4) (by decide) (by decide) (by decide)
 obtain ⟨a_20, g_21⟩ : ∃ z, z = h_2.size := ⟨_, rfl⟩
 rw [← g_21] at A_18 st_19
 have V_23 : Arv Z h_13 a_20 k_14 .char (4 : Int32) [] (.int 0) := Arv.new A_18 (by decide : ¬ ((4 : Int32) < (0 : Int32)))
 have V_22 : Arv Z h_13 a_20 k_14 .char (4 : Int32) [(.int 0), (.int 0), (.int 0), (.int 0)] (.int 0) := (V_23.pad (pad_rep [] (.int 0) 4))
 obtain ⟨c_24, A_25, q_26, S_27, M_28, H_29, U_30⟩ := id V_22
 have hin_37 : ¬ ((0 : Int32) < 0 ∨ c_24.slots.size ≤ (0 : Int32).toNatClampNeg) := inb_of S_27 ⟨(by decide : ¬ ((0 : Int32) < (0 : Int32))), (by decide : (0 : Int32) < (4 : Int32))⟩
 obtain ⟨T_31, h_32, X_33, e_34, W_35, st_36⟩ := stC X_15 hx hZ e_16 A_25 (j := (0 : Int32)) hin_37 (g := (mkF m 97 #[VI 4, VI c0, VI c1, VI c2, VI c3] [(.int c0), (.int 0), (.ref a_20), (.ref a_20), (.ref a_9), (.ref a_9)])) rfl rfl (hb hby d28_97)
 have O_39 : Old Z n0 h_2 := (X00.ext E_5)
 have N_38 := Fr.snoc X_33 N0 (Nat.le_trans (own_n0 O_39) (Nat.le_of_eq g_21.symm))
 have V_40 : Arv Z h_32 a_20 k_14 .char (4 : Int32) [(.int c0), (.int 0), (.int 0), (.int 0)] (.int 0) := by have q := Arv.set A_25 q_26 S_27 M_28 H_29 U_30 (fits_nar_char _) W_35 0 rfl (Nat.le_of_ble_eq_true rfl); rw [own_narc hl0 hh0] at q; exact q
 obtain ⟨c_41, A_42, q_43, S_44, M_45, H_46, U_47⟩ := id V_40
 have hin_54 : ¬ ((1 : Int32) < 0 ∨ c_41.slots.size ≤ (1 : Int32).toNatClampNeg) := inb_of S_44 ⟨(by decide : ¬ ((1 : Int32) < (0 : Int32))), (by decide : (1 : Int32) < (4 : Int32))⟩
 obtain ⟨T_48, h_49, X_50, e_51, W_52, st_53⟩ := stC X_33 hx hZ e_34 A_42 (j := (1 : Int32)) hin_54 (g := (mkF m 101 #[VI 4, VI c0, VI c1, VI c2, VI c3] [(.int c1), (.int 1), (.ref a_20), (.ref a_20), (.ref a_9), (.ref a_9)])) rfl rfl (hb hby d28_101)
 have N_55 := Fr.snoc X_50 N_38 (Nat.le_trans (own_n0 O_39) (Nat.le_of_eq g_21.symm))
 have V_56 : Arv Z h_49 a_20 k_14 .char (4 : Int32) [(.int c0), (.int c1), (.int 0), (.int 0)] (.int 0) := by have q := Arv.set A_42 q_43 S_44 M_45 H_46 U_47 (fits_nar_char _) W_52 1 rfl (Nat.le_of_ble_eq_true rfl); rw [own_narc hl1 hh1] at q; exact q
 obtain ⟨c_57, A_58, q_59, S_60, M_61, H_62, U_63⟩ := id V_56
 have hin_70 : ¬ ((2 : Int32) < 0 ∨ c_57.slots.size ≤ (2 : Int32).toNatClampNeg) := inb_of S_60 ⟨(by decide : ¬ ((2 : Int32) < (0 : Int32))), (by decide : (2 : Int32) < (4 : Int32))⟩
 obtain ⟨T_64, h_65, X_66, e_67, W_68, st_69⟩ := stC X_50 hx hZ e_51 A_58 (j := (2 : Int32)) hin_70 (g := (mkF m 105 #[VI 4, VI c0, VI c1, VI c2, VI c3] [(.int c2), (.int 2), (.ref a_20), (.ref a_20), (.ref a_9), (.ref a_9)])) rfl rfl (hb hby d28_105)
 have N_71 := Fr.snoc X_66 N_55 (Nat.le_trans (own_n0 O_39) (Nat.le_of_eq g_21.symm))
 have V_72 : Arv Z h_65 a_20 k_14 .char (4 : Int32) [(.int c0), (.int c1), (.int c2), (.int 0)] (.int 0) := by have q := Arv.set A_58 q_59 S_60 M_61 H_62 U_63 (fits_nar_char _) W_68 2 rfl (Nat.le_of_ble_eq_true rfl); rw [own_narc hl2 hh2] at q; exact q
 obtain ⟨c_73, A_74, q_75, S_76, M_77, H_78, U_79⟩ := id V_72
 have hin_86 : ¬ ((3 : Int32) < 0 ∨ c_73.slots.size ≤ (3 : Int32).toNatClampNeg) := inb_of S_76 ⟨(by decide : ¬ ((3 : Int32) < (0 : Int32))), (by decide : (3 : Int32) < (4 : Int32))⟩
 obtain ⟨T_80, h_81, X_82, e_83, W_84, st_85⟩ := stC X_66 hx hZ e_67 A_74 (j := (3 : Int32)) hin_86 (g := (mkF m 110 #[VI 4, VI c0, VI c1, VI c2, VI c3] [(.int c3), (.int 3), (.ref a_20), (.ref a_20), (.ref a_9), (.ref a_9)])) rfl rfl (hb hby d28_110)
 have N_87 := Fr.snoc X_82 N_71 (Nat.le_trans (own_n0 O_39) (Nat.le_of_eq g_21.symm))
 have V_88 : Arv Z h_81 a_20 k_14 .char (4 : Int32) [(.int c0), (.int c1), (.int c2), (.int c3)] (.int 0) := by have q := Arv.set A_74 q_75 S_76 M_77 H_78 U_79 (fits_nar_char _) W_84 3 rfl (Nat.le_of_ble_eq_true rfl); rw [own_narc hl3 hh3] at q; exact q
 have E_89 : Exa Z h_81 a_9 "java/lang/String" := (((((A_6.ext E_17).wr W_35).wr W_52).wr W_68).wr W_84)
 have F_90 : Fld Z h_81 a_9 "java/lang/String" "value" "[B" .null := ((((((D_7 (Or.inr (w24 hw)) (ty := (.array .byte)) (by decide)).ext E_17).other W_35 (Or.inl (Nat.ne_of_lt (Nat.lt_of_lt_of_le A_6.lt (Nat.le_trans (Nat.le_refl _) (Nat.le_of_eq g_21.symm)))))).other W_52 (Or.inl (Nat.ne_of_lt (Nat.lt_of_lt_of_le A_6.lt (Nat.le_trans (Nat.le_refl _) (Nat.le_of_eq g_21.symm)))))).other W_68 (Or.inl (Nat.ne_of_lt (Nat.lt_of_lt_of_le A_6.lt (Nat.le_trans (Nat.le_refl _) (Nat.le_of_eq g_21.symm)))))).other W_84 (Or.inl (Nat.ne_of_lt (Nat.lt_of_lt_of_le A_6.lt (Nat.le_trans (Nat.le_refl _) (Nat.le_of_eq g_21.symm))))))
 have F_91 : Fld Z h_81 a_9 "java/lang/String" "coder" "B" (.int 0) := ((((((D_7 (Or.inr (w25 hw)) (ty := .byte) (by decide)).ext E_17).other W_35 (Or.inl (Nat.ne_of_lt (Nat.lt_of_lt_of_le A_6.lt (Nat.le_trans (Nat.le_refl _) (Nat.le_of_eq g_21.symm)))))).other W_52 (Or.inl (Nat.ne_of_lt (Nat.lt_of_lt_of_le A_6.lt (Nat.le_trans (Nat.le_refl _) (Nat.le_of_eq g_21.symm)))))).other W_68 (Or.inl (Nat.ne_of_lt (Nat.lt_of_lt_of_le A_6.lt (Nat.le_trans (Nat.le_refl _) (Nat.le_of_eq g_21.symm)))))).other W_84 (Or.inl (Nat.ne_of_lt (Nat.lt_of_lt_of_le A_6.lt (Nat.le_trans (Nat.le_refl _) (Nat.le_of_eq g_21.symm))))))
 have O_92 : Old Z n0 h_81 := (((((O_39.ext E_17).wr W_35 (Nat.le_trans (own_n0 O_39) (Nat.le_of_eq g_21.symm))).wr W_52 (Nat.le_trans (own_n0 O_39) (Nat.le_of_eq g_21.symm))).wr W_68 (Nat.le_trans (own_n0 O_39) (Nat.le_of_eq g_21.symm))).wr W_84 (Nat.le_trans (own_n0 O_39) (Nat.le_of_eq g_21.symm)))
 obtain ⟨_, _, ⟨T_93, L_93, k_93, n_93⟩, -, X_93, ⟨Lc_93, hQ_93, l_93, y_93, z_93⟩, st_93⟩ := X_82.specialBack hx (y := M25) rfl hown (mvT hZ (w12 hw)) (mvT hZ (w13 hw)) (mvT hZ (w14 hw)) (by decide) (backOf (W := 1) (rm_si1_4 l Z a0 hw [] G1 G3 HG h_81 n0 O_92 a_9 a_20 k_14 c0 c1 c2 c3 E_89 F_90 F_91 (Nat.le_trans (own_n0 X00) (Nat.le_of_eq g_10.symm)) V_88 hh0 hh1 hh2 hh3) hZ (w14 hw) (w10 hw) (by decide) (by decide)) (g := (mkF m 111 #[VI 4, VI c0, VI c1, VI c2, VI c3] [(.ref a_20), (.ref a_9), (.ref a_9)])) rfl (by rw [hml]; rfl) (Steps.refl _) (a := a_9) (argsL := [(.ref a_20)]) (rest := [(.ref a_9)]) (lenOf pd_518 rfl) rfl (by show 2 * 0 + _ ≤ _; exact Nat.le_of_eq rfl) (hb hby d28_111) (fun _ _ => ⟨rfl, e_83, (by decide : 2 + 1 ≤ _), (by decide : 8 + 4 ≤ _)⟩)
 dsimp only [Pt.U, Pt.locs, Pt.cells, Pt.slots] at X_93 l_93 y_93 z_93 st_93 hQ_93
 subst l_93 y_93 z_93
 obtain ⟨a_94, k_95, rfl, N_96, K_97, g_98, g_99, g_100, g_101, g_102⟩ := hQ_93
 have N_103 := Fr.app N_87 N_96
 have C_104 : Steps p.tables e below S0 (T_93.setTop (mkF m 114 #[VI 4, VI c0, VI c1, VI c2, VI c3] [(.ref a_9)])) := by
  refine C0.trans ?_
  refine XS.iloadN X0.here hx rfl (hb hby d28_0) rfl ?_
  refine XS.ifYes X0.here hx rfl (pc0 := 1) (pc' := 15) rfl (hb hby d28_1) rfl (by decide) (by decide) (by decide) ?_
  refine XS.iloadN X0.here hx rfl (hb hby d28_15) rfl ?_
  refine XS.iconst X0.here hx rfl (hb hby d28_16) ?_
  refine XS.icmpYes X0.here hx rfl (pc0 := 17) (pc' := 35) rfl (hb hby d28_17) rfl (by decide) (by decide) (by decide) ?_
  refine XS.iloadN X0.here hx rfl (hb hby d28_35) rfl ?_
  refine XS.iconst X0.here hx rfl (hb hby d28_36) ?_
  refine XS.icmpYes X0.here hx rfl (pc0 := 37) (pc' := 59) rfl (hb hby d28_37) rfl (by decide) (by decide) (by decide) ?_
  refine XS.iloadN X0.here hx rfl (hb hby d28_59) rfl ?_
  refine XS.iconst X0.here hx rfl (hb hby d28_60) ?_
  refine XS.icmpYes X0.here hx rfl (pc0 := 61) (pc' := 87) rfl (hb hby d28_61) rfl (by decide) (by decide) (by decide) ?_
  refine st_8 _ ?_
  refine XS.dup X_3.here hx rfl (hb hby d28_90) rfl rfl ?_
  refine XS.iconst X_3.here hx rfl (hb hby d28_91) ?_
  refine st_19 _ ?_
  refine XS.dup X_15.here hx rfl (hb hby d28_94) rfl rfl ?_
  show Steps p.tables e below (T_12.setTop (mkF m 95 #[VI 4, VI c0, VI c1, VI c2, VI c3] [(.ref a_20), (.ref a_20), (.ref a_9), (.ref a_9)])) _
  refine XS.iconst X_15.here hx rfl (hb hby d28_95) ?_
  refine XS.iloadN X_15.here hx rfl (hb hby d28_96) rfl ?_
  refine st_36 _ ?_
  refine XS.dup X_33.here hx rfl (hb hby d28_98) rfl rfl ?_
  refine XS.iconst X_33.here hx rfl (hb hby d28_99) ?_
  refine XS.iloadN X_33.here hx rfl (hb hby d28_100) rfl ?_
  refine st_53 _ ?_
  refine XS.dup X_50.here hx rfl (hb hby d28_102) rfl rfl ?_
  refine XS.iconst X_50.here hx rfl (hb hby d28_103) ?_
  refine XS.iloadN X_50.here hx rfl (hb hby d28_104) rfl ?_
  refine st_69 _ ?_
  refine XS.dup X_66.here hx rfl (hb hby d28_106) rfl rfl ?_
  refine XS.iconst X_66.here hx rfl (hb hby d28_107) ?_
  refine XS.iload X_66.here hx rfl (hb hby d28_108) rfl ?_
  refine st_85 _ ?_
  refine st_93.trans ?_
  show Steps p.tables e below (T_93.setTop (mkF m 114 #[VI 4, VI c0, VI c1, VI c2, VI c3] [(.ref a_9)])) _
  exact Steps.refl _
 have K_105 : Keep h0 T_93.heap [] := ((((((((Keep.refl _ _).ext E_5).ext E_17).wr W_35 (Or.inr (Nat.le_trans E_5.1 (Nat.le_of_eq g_21.symm)))).wr W_52 (Or.inr (Nat.le_trans E_5.1 (Nat.le_of_eq g_21.symm)))).wr W_68 (Or.inr (Nat.le_trans E_5.1 (Nat.le_of_eq g_21.symm)))).wr W_84 (Or.inr (Nat.le_trans E_5.1 (Nat.le_of_eq g_21.symm)))).trans K_97 (allS (Or.inr (Nat.le_trans (Nat.le_refl _) (Nat.le_of_eq g_10.symm))) all0))
 obtain ⟨fs, hr, hrun, hended, hW, hsame⟩ := X_93.leave (v := some (.ref a_9)) (fun h => by rw [Bd.returns] at h; cases h)
 refine ⟨_, _, C_104.trans (retOut X_93 hx Bd.returns rfl (Or.inr (Or.inr (Or.inr (Or.inr ⟨rfl, rfl, rfl⟩)))) (hb hby d28_114) hr), hrun, hended, _, _, rfl, ?_, ⟨_, rfl⟩, hW, hsame.mono (by decide) (by decide)⟩
 show Q_mk_4 Z G1 G3 c0 c1 c2 c3 h0 n0 (some (.ref a_9)) T_93.heap _
 exact ⟨a_9, a_94, k_95, rfl, N_103, K_105, g_98, g_99, g_100, g_102⟩
abbrev M596 : MethodName := ⟨"java/lang/Record", "<init>", "()V"⟩
theorem pn_597 : plainName "java/lang/Record" = true := by first | (simp [plainName, overriddenIn]; done) | decide +kernel
theorem d29_0 : decode jdk_30_method_1_code 0 = .ok (.aload_n 0, 1) := by decide +kernel
theorem w42 {Z a0} (hw : HW Z a0) : Cond.before (Cond.methodLink "java/lang/Record" (1 : Nat) (⟨"java/lang/Object", "<init>", "()V"⟩ : MethodName)) a0 Z = true := hw _ (List.mem_of_getElem? (i := 42) rfl)
theorem d29_1 : decode jdk_30_method_1_code 1 = .ok (.invokespecial 1, 3) := by decide +kernel
theorem d29_4 : decode jdk_30_method_1_code 4 = .ok (.return_, 1) := by decide +kernel
abbrev R_recinit : Room := { frames := 1, cells := 0, slots := 0, locals := 12 }
def Q_recinit (Z : State) (G1 : Int32) (G3 : Value) (d : Addr) (h0 : Heap) (n0 : Nat) (v : Option Value) (h : Heap) (L : List Loc) : Prop := (v = none ∧ Fr n0 L ∧ h = h0)
theorem rm_recinit (l : Launch) (Z : State) (a0 : Array Value) (hw : HW Z a0) (ws : List Jvm.Cond) (G1 : Int32) (G3 : Value) (HG : own_G l Z a0 G1 G3) (h0 : Heap) (n0 : Nat) (X00 : Old Z n0 h0) (d : Addr)  :
  own_CP l Z M596 jdk_30_method_1_code 1 none ws R_recinit #[(.ref d)] h0 (Q_recinit Z G1 G3 d h0 n0) := by
 refine own_P (plainFor_of_name pn_597) ?_
 intro p e s m below meth c s₁ S0 Bd hZ hh hx hby hml hown hnm X0 e0 hS0d
 obtain ⟨O1, P1, O3f, rG3⟩ := id HG
 have N0 := Fr.nil n0
 have C0 : Steps p.tables e below S0 (s₁.setTop (mkF m 0 #[VR d] [])) := by rw [hS0d]; exact castTop (ef_125 m d) (Steps.refl _)
 obtain ⟨T_1, X_2, e_3, st_4⟩ := initO X0 hx hZ hown (w42 hw) (w20 hw) (w21 hw) e0 (g := (mkF m 1 #[VR d] [(.ref d)])) rfl (by rw [hml]; rfl) rfl (hb hby d29_1) (by decide) (W := 0) (by show 2 * 0 + _ ≤ _; exact Nat.le_of_eq rfl) (by decide)
 have C_5 : Steps p.tables e below S0 (T_1.setTop (mkF m 4 #[VR d] [])) := by
  refine C0.trans ?_
  refine XS.aloadN X0.here hx rfl (hb hby d29_0) rfl rfl ?_
  refine st_4 _ ?_
  exact Steps.refl _
 obtain ⟨fs, hr, hrun, hended, hW, hsame⟩ := X_2.leave (v := none) (fun _ => rfl)
 refine ⟨_, _, C_5.trans (X_2.returnOut hx Bd.returns (hb hby d29_4) hr), hrun, hended, _, _, rfl, ?_, ⟨_, rfl⟩, hW, hsame.mono (by decide) (by decide)⟩
 show Q_recinit Z G1 G3 d h0 n0 (none) T_1.heap _
 rw [e_3]
 exact ⟨rfl, N0, rfl⟩
abbrev M602 : MethodName := ⟨"com/example/kartoteka/kartoteka/Field", "<init>", "(Ljava/lang/String;Ljava/lang/String;)V"⟩
theorem ef_603 (m : MethodId) (x0 : Addr) (x1 : Addr) (x2 : Addr) : entryFrame m #[(.ref x0), (.ref x1), (.ref x2)] 3 = mkF m 0 #[VR x0, VR x1, VR x2] [] := by first | (simp [entryFrame, mkF, argsToLocals, Value.category]; done) | rfl
theorem pn_604 : plainName "com/example/kartoteka/kartoteka/Field" = true := by first | (simp [plainName, overriddenIn]; done) | decide +kernel
theorem d30_0 : decode prog_10_method_1_code 0 = .ok (.aload_n 0, 1) := by decide +kernel
theorem w41 {Z a0} (hw : HW Z a0) : Cond.before (Cond.code (⟨"java/lang/Record", "<init>", "()V"⟩ : MethodName) jdk_30_method_1_code (1 : Nat) (Option.none : Option FieldType)) a0 Z = true := hw _ (List.mem_of_getElem? (i := 41) rfl)
theorem w40 {Z a0} (hw : HW Z a0) : Cond.before (Cond.initialized "java/lang/Record") a0 Z = true := hw _ (List.mem_of_getElem? (i := 40) rfl)
theorem pd_608 : parseMethodDescriptor "()V" = some ⟨[], none⟩ := by decide +kernel
theorem d30_1 : decode prog_10_method_1_code 1 = .ok (.invokespecial 1, 3) := by decide +kernel
theorem w37 {Z a0} (hw : HW Z a0) : Cond.before (Cond.methodLink "com/example/kartoteka/kartoteka/Field" (1 : Nat) (⟨"java/lang/Record", "<init>", "()V"⟩ : MethodName)) a0 Z = true := hw _ (List.mem_of_getElem? (i := 37) rfl)
theorem w38 {Z a0} (hw : HW Z a0) : Cond.before (Cond.instanceMethod (⟨"java/lang/Record", "<init>", "()V"⟩ : MethodName)) a0 Z = true := hw _ (List.mem_of_getElem? (i := 38) rfl)
theorem d30_4 : decode prog_10_method_1_code 4 = .ok (.aload_n 0, 1) := by decide +kernel
theorem d30_5 : decode prog_10_method_1_code 5 = .ok (.aload_n 1, 1) := by decide +kernel
theorem w43 {Z a0} (hw : HW Z a0) : Cond.before (Cond.fieldLink "com/example/kartoteka/kartoteka/Field" (7 : Nat) "com/example/kartoteka/kartoteka/Field" "tag" "Ljava/lang/String;") a0 Z = true := hw _ (List.mem_of_getElem? (i := 43) rfl)
theorem w44 {Z a0} (hw : HW Z a0) : Cond.before (Cond.laysFinal "com/example/kartoteka/kartoteka/Field" "com/example/kartoteka/kartoteka/Field" "tag" "Ljava/lang/String;") a0 Z = true := hw _ (List.mem_of_getElem? (i := 44) rfl)
theorem w31 {Z a0} (hw : HW Z a0) : Cond.before (Cond.instantiable "com/example/kartoteka/kartoteka/Field" (2 : Nat)) a0 Z = true := hw _ (List.mem_of_getElem? (i := 31) rfl)
theorem d30_6 : decode prog_10_method_1_code 6 = .ok (.putfield 7, 3) := by decide +kernel
theorem d30_9 : decode prog_10_method_1_code 9 = .ok (.aload_n 0, 1) := by decide +kernel
theorem d30_10 : decode prog_10_method_1_code 10 = .ok (.aload_n 2, 1) := by decide +kernel
theorem w45 {Z a0} (hw : HW Z a0) : Cond.before (Cond.fieldLink "com/example/kartoteka/kartoteka/Field" (13 : Nat) "com/example/kartoteka/kartoteka/Field" "data" "Ljava/lang/String;") a0 Z = true := hw _ (List.mem_of_getElem? (i := 45) rfl)
theorem w46 {Z a0} (hw : HW Z a0) : Cond.before (Cond.laysFinal "com/example/kartoteka/kartoteka/Field" "com/example/kartoteka/kartoteka/Field" "data" "Ljava/lang/String;") a0 Z = true := hw _ (List.mem_of_getElem? (i := 46) rfl)
theorem d30_11 : decode prog_10_method_1_code 11 = .ok (.putfield 13, 3) := by decide +kernel
theorem d30_14 : decode prog_10_method_1_code 14 = .ok (.return_, 1) := by decide +kernel
abbrev R_finit : Room := { frames := 2, cells := 0, slots := 0, locals := 24 }
def Q_finit (Z : State) (G1 : Int32) (G3 : Value) (d : Addr) (g : Addr) (x : Addr) (h0 : Heap) (n0 : Nat) (v : Option Value) (h : Heap) (L : List Loc) : Prop := (v = none ∧ Fr n0 L ∧ Keep h0 h [d] ∧ (Fld Z h d "com/example/kartoteka/kartoteka/Field" "data" "Ljava/lang/String;" (.ref x)))
theorem rm_finit (l : Launch) (Z : State) (a0 : Array Value) (hw : HW Z a0) (ws : List Jvm.Cond) (G1 : Int32) (G3 : Value) (HG : own_G l Z a0 G1 G3) (h0 : Heap) (n0 : Nat) (X00 : Old Z n0 h0) (d : Addr) (g : Addr) (x : Addr) (hp0 : Exa Z h0 d "com/example/kartoteka/kartoteka/Field") (hp1 : Fld Z h0 d "com/example/kartoteka/kartoteka/Field" "tag" "Ljava/lang/String;" .null) (hp2 : Fld Z h0 d "com/example/kartoteka/kartoteka/Field" "data" "Ljava/lang/String;" .null) (hp3 : n0 ≤ d) :
  own_CP l Z M602 prog_10_method_1_code 3 none ws R_finit #[(.ref d), (.ref g), (.ref x)] h0 (Q_finit Z G1 G3 d g x h0 n0) := by
 refine own_P (plainFor_of_name pn_604) ?_
 intro p e s m below meth c s₁ S0 Bd hZ hh hx hby hml hown hnm X0 e0 hS0d
 obtain ⟨O1, P1, O3f, rG3⟩ := id HG
 have N0 := Fr.nil n0
 have C0 : Steps p.tables e below S0 (s₁.setTop (mkF m 0 #[VR d, VR g, VR x] [])) := by rw [hS0d]; exact castTop (ef_603 m d g x) (Steps.refl _)
 obtain ⟨_, _, ⟨T_1, L_1, k_1, n_1⟩, -, X_1, ⟨Lc_1, hQ_1, l_1, y_1, z_1⟩, st_1⟩ := X0.specialBack hx (y := M596) rfl hown (mvT hZ (w37 hw)) (mvT hZ (w38 hw)) (mvT hZ (w41 hw)) (by decide) (backOf (W := 0) (rm_recinit l Z a0 hw [] G1 G3 HG h0 n0 X00 d ) hZ (w41 hw) (w40 hw) (by decide) (by decide)) (g := (mkF m 1 #[VR d, VR g, VR x] [(.ref d)])) rfl (by rw [hml]; rfl) (Steps.refl _) (a := d) (argsL := []) (rest := []) (lenOf pd_608 rfl) rfl (by show 2 * 0 + _ ≤ _; exact Nat.le_of_eq rfl) (hb hby d30_1) (fun _ _ => ⟨rfl, e0, (by decide : 0 + 0 ≤ _), (by decide : 0 + 0 ≤ _)⟩)
 dsimp only [Pt.U, Pt.locs, Pt.cells, Pt.slots] at X_1 l_1 y_1 z_1 st_1 hQ_1
 subst l_1 y_1 z_1
 obtain ⟨rfl, N_2, e_3⟩ := hQ_1
 have N_4 := Fr.app N0 N_2
 have e_5 : T_1.heap = h0 := e_3
 obtain ⟨T_6, h_7, X_8, e_9, W_10, st_11⟩ := putF X_1 hx hZ hown (host := "") (Or.inl (w43 hw)) Via.refl e_5 hp1 hp0 (Or.inr ⟨(w44 hw), rfl, hnm⟩) (w31 hw) (ty := (.object "java/lang/String")) (by decide) rfl rfl (g := (mkF m 6 #[VR d, VR g, VR x] [(.ref g), (.ref d)])) rfl rfl (hb hby d30_6)
 have N_12 := Fr.snoc X_8 N_4 hp3
 have F_13 : Fld Z h_7 d "com/example/kartoteka/kartoteka/Field" "tag" "Ljava/lang/String;" (.ref g) := hp1.same W_10
 have F_14 : Fld Z h_7 d "com/example/kartoteka/kartoteka/Field" "data" "Ljava/lang/String;" .null := (hp2.other W_10 (Or.inr (slot_ne (Or.inr (w46 hw)) (Or.inr (w44 hw)) (by decide) (t := (.object "java/lang/String")) (by decide) (t' := (.object "java/lang/String")) (by decide))))
 have E_15 : Exa Z h_7 d "com/example/kartoteka/kartoteka/Field" := (hp0.wr W_10)
 obtain ⟨T_16, h_17, X_18, e_19, W_20, st_21⟩ := putF X_8 hx hZ hown (host := "") (Or.inl (w45 hw)) Via.refl e_9 F_14 E_15 (Or.inr ⟨(w46 hw), rfl, hnm⟩) (w31 hw) (ty := (.object "java/lang/String")) (by decide) rfl rfl (g := (mkF m 11 #[VR d, VR g, VR x] [(.ref x), (.ref d)])) rfl rfl (hb hby d30_11)
 have N_22 := Fr.snoc X_18 N_12 hp3
 have F_23 : Fld Z h_17 d "com/example/kartoteka/kartoteka/Field" "data" "Ljava/lang/String;" (.ref x) := F_14.same W_20
 have C_24 : Steps p.tables e below S0 (T_16.setTop (mkF m 14 #[VR d, VR g, VR x] [])) := by
  refine C0.trans ?_
  refine XS.aloadN X0.here hx rfl (hb hby d30_0) rfl rfl ?_
  refine st_1.trans ?_
  refine XS.aloadN X_1.here hx rfl (hb hby d30_4) rfl rfl ?_
  refine XS.aloadN X_1.here hx rfl (hb hby d30_5) rfl rfl ?_
  refine st_11 _ ?_
  refine XS.aloadN X_8.here hx rfl (hb hby d30_9) rfl rfl ?_
  refine XS.aloadN X_8.here hx rfl (hb hby d30_10) rfl rfl ?_
  refine st_21 _ ?_
  exact Steps.refl _
 have K_25 : Keep h0 h_17 [d] := (((Keep.refl _ _).wr W_10 (Or.inl (List.mem_of_getElem? (i := 0) rfl))).wr W_20 (Or.inl (List.mem_of_getElem? (i := 0) rfl)))
 obtain ⟨fs, hr, hrun, hended, hW, hsame⟩ := X_18.leave (v := none) (fun _ => rfl)
 refine ⟨_, _, C_24.trans (X_18.returnOut hx Bd.returns (hb hby d30_14) hr), hrun, hended, _, _, rfl, ?_, ⟨_, rfl⟩, hW, hsame.mono (by decide) (by decide)⟩
 show Q_finit Z G1 G3 d g x h0 n0 (none) T_16.heap _
 rw [e_19]
 exact ⟨rfl, N_22, K_25, F_23⟩
abbrev M624 : MethodName := ⟨"com/example/kartoteka/kartoteka/Field", "indicators", "()Ljava/lang/String;"⟩
theorem ef_625 (m : MethodId) (x0 : Addr) : entryFrame m #[(.ref x0)] 2 = mkF m 0 #[VR x0, .unset] [] := by first | (simp [entryFrame, mkF, argsToLocals, Value.category]; done) | rfl
theorem d31_0 : decode prog_10_method_3_code 0 = .ok (.aload_n 0, 1) := by decide +kernel
theorem d31_1 : decode prog_10_method_3_code 1 = .ok (.getfield 13, 3) := by decide +kernel
theorem d31_4 : decode prog_10_method_3_code 4 = .ok (.bipush 31, 2) := by decide +kernel
theorem w56 {Z a0} (hw : HW Z a0) : Cond.before (Cond.code (⟨"java/lang/String", "indexOf", "(I)I"⟩ : MethodName) jdk_42_method_79_code (2 : Nat) (Option.some FieldType.int)) a0 Z = true := hw _ (List.mem_of_getElem? (i := 56) rfl)
theorem pd_630 : parseMethodDescriptor "(I)I" = some ⟨[.int], some .int⟩ := by decide +kernel
theorem d31_6 : decode prog_10_method_3_code 6 = .ok (.invokevirtual 24, 3) := by decide +kernel
theorem w52 {Z a0} (hw : HW Z a0) : Cond.before (Cond.methodLink "com/example/kartoteka/kartoteka/Field" (24 : Nat) (⟨"java/lang/String", "indexOf", "(I)I"⟩ : MethodName)) a0 Z = true := hw _ (List.mem_of_getElem? (i := 52) rfl)
theorem w55 {Z a0} (hw : HW Z a0) : Cond.before (Cond.selects "java/lang/String" (⟨"java/lang/String", "indexOf", "(I)I"⟩ : MethodName) (⟨"java/lang/String", "indexOf", "(I)I"⟩ : MethodName)) a0 Z = true := hw _ (List.mem_of_getElem? (i := 55) rfl)
theorem w54 {Z a0} (hw : HW Z a0) : Cond.before (Cond.instanceMethod (⟨"java/lang/String", "indexOf", "(I)I"⟩ : MethodName)) a0 Z = true := hw _ (List.mem_of_getElem? (i := 54) rfl)
theorem w53 {Z a0} (hw : HW Z a0) : Cond.before (Cond.declares (⟨"java/lang/String", "indexOf", "(I)I"⟩ : MethodName)) a0 Z = true := hw _ (List.mem_of_getElem? (i := 53) rfl)
theorem d31_9 : decode prog_10_method_3_code 9 = .ok (.istore_n 1, 1) := by decide +kernel
theorem d31_10 : decode prog_10_method_3_code 10 = .ok (.aload_n 0, 1) := by decide +kernel
theorem d31_11 : decode prog_10_method_3_code 11 = .ok (.getfield 13, 3) := by decide +kernel
theorem d31_14 : decode prog_10_method_3_code 14 = .ok (.iconst 0, 1) := by decide +kernel
theorem d31_15 : decode prog_10_method_3_code 15 = .ok (.iconst 2, 1) := by decide +kernel
theorem d31_16 : decode prog_10_method_3_code 16 = .ok (.iload_n 1, 1) := by decide +kernel
theorem d31_17 : decode prog_10_method_3_code 17 = .ok (.ifCond .ge 13, 3) := by decide +kernel
theorem d31_20 : decode prog_10_method_3_code 20 = .ok (.aload_n 0, 1) := by decide +kernel
theorem d31_21 : decode prog_10_method_3_code 21 = .ok (.getfield 13, 3) := by decide +kernel
theorem d31_24 : decode prog_10_method_3_code 24 = .ok (.invokevirtual 28, 3) := by decide +kernel
theorem w92 {Z a0} (hw : HW Z a0) : Cond.before (Cond.methodLink "com/example/kartoteka/kartoteka/Field" (28 : Nat) (⟨"java/lang/String", "length", "()I"⟩ : MethodName)) a0 Z = true := hw _ (List.mem_of_getElem? (i := 92) rfl)
theorem d31_27 : decode prog_10_method_3_code 27 = .ok (.goto 4, 3) := by decide +kernel
theorem d31_31 : decode prog_10_method_3_code 31 = .ok (.invokestatic 32, 3) := by decide +kernel
theorem w93 {Z a0} (hw : HW Z a0) : Cond.before (Cond.methodLink "com/example/kartoteka/kartoteka/Field" (32 : Nat) (⟨"java/lang/Math", "min", "(II)I"⟩ : MethodName)) a0 Z = true := hw _ (List.mem_of_getElem? (i := 93) rfl)
theorem w98 {Z a0} (hw : HW Z a0) : Cond.before (Cond.code (⟨"java/lang/String", "substring", "(II)Ljava/lang/String;"⟩ : MethodName) jdk_42_method_92_code (5 : Nat) (Option.some (FieldType.object "java/lang/String"))) a0 Z = true := hw _ (List.mem_of_getElem? (i := 98) rfl)
theorem pd_651 : parseMethodDescriptor "(II)Ljava/lang/String;" = some ⟨[.int, .int], some (.object "java/lang/String")⟩ := by decide +kernel
theorem d31_34 : decode prog_10_method_3_code 34 = .ok (.invokevirtual 38, 3) := by decide +kernel
theorem w94 {Z a0} (hw : HW Z a0) : Cond.before (Cond.methodLink "com/example/kartoteka/kartoteka/Field" (38 : Nat) (⟨"java/lang/String", "substring", "(II)Ljava/lang/String;"⟩ : MethodName)) a0 Z = true := hw _ (List.mem_of_getElem? (i := 94) rfl)
theorem w97 {Z a0} (hw : HW Z a0) : Cond.before (Cond.selects "java/lang/String" (⟨"java/lang/String", "substring", "(II)Ljava/lang/String;"⟩ : MethodName) (⟨"java/lang/String", "substring", "(II)Ljava/lang/String;"⟩ : MethodName)) a0 Z = true := hw _ (List.mem_of_getElem? (i := 97) rfl)
theorem w96 {Z a0} (hw : HW Z a0) : Cond.before (Cond.instanceMethod (⟨"java/lang/String", "substring", "(II)Ljava/lang/String;"⟩ : MethodName)) a0 Z = true := hw _ (List.mem_of_getElem? (i := 96) rfl)
theorem w95 {Z a0} (hw : HW Z a0) : Cond.before (Cond.declares (⟨"java/lang/String", "substring", "(II)Ljava/lang/String;"⟩ : MethodName)) a0 Z = true := hw _ (List.mem_of_getElem? (i := 95) rfl)
theorem d31_37 : decode prog_10_method_3_code 37 = .ok (.areturn, 1) := by decide +kernel
abbrev R_ind_0 : Room := { frames := 4, cells := 0, slots := 0, locals := 55 }
def Q_ind_0 (Z : State) (G1 : Int32) (G3 : Value) (d : Addr) (x : Addr) (t : Addr) (kt : ClassId) (h0 : Heap) (n0 : Nat) (v : Option Value) (h : Heap) (L : List Loc) : Prop := (∃ r : Addr, ∃ u : Addr, ∃ ku : ClassId, v = some (.ref r) ∧ Fr n0 L ∧ Keep h0 h [] ∧ (Exa Z h r "java/lang/String") ∧ (Fld Z h r "java/lang/String" "coder" "B" (.int 0)) ∧ (Fld Z h r "java/lang/String" "value" "[B" (.ref u)) ∧ (Arv Z h u ku .byte (0 : Int32) [] (.int 0)))
theorem rm_ind_0 (l : Launch) (Z : State) (a0 : Array Value) (hw : HW Z a0) (ws : List Jvm.Cond) (G1 : Int32) (G3 : Value) (HG : own_G l Z a0 G1 G3) (h0 : Heap) (n0 : Nat) (X00 : Old Z n0 h0) (d : Addr) (x : Addr) (t : Addr) (kt : ClassId) (hp0 : Fld Z h0 d "com/example/kartoteka/kartoteka/Field" "data" "Ljava/lang/String;" (.ref x)) (hp1 : Exa Z h0 x "java/lang/String") (hp2 : Fld Z h0 x "java/lang/String" "coder" "B" (.int 0)) (hp3 : Fld Z h0 x "java/lang/String" "value" "[B" (.ref t)) (hp4 : Arv Z h0 t kt .byte (0 : Int32) [] (.int 0)) :
  own_CP l Z M624 prog_10_method_3_code 2 (some (.object "java/lang/String")) ws R_ind_0 #[(.ref d)] h0 (Q_ind_0 Z G1 G3 d x t kt h0 n0) := by
 refine own_P (plainFor_of_name pn_604) ?_
 intro p e s m below meth c s₁ S0 Bd hZ hh hx hby hml hown hnm X0 e0 hS0d
 obtain ⟨O1, P1, O3f, rG3⟩ := id HG
 have N0 := Fr.nil n0
 have C0 : Steps p.tables e below S0 (s₁.setTop (mkF m 0 #[VR d, .unset] [])) := by rw [hS0d]; exact castTop (ef_625 m d) (Steps.refl _)
 obtain ⟨T_1, X_2, e_3, st_4⟩ := getF X0 hx hZ hown (host := "") (Or.inl (w45 hw)) Via.refl e0 hp0 (g := (mkF m 1 #[VR d, .unset] [(.ref d)])) rfl rfl (hb hby d31_1)
 obtain ⟨q_6, q_7, q_8, q_9, q_10⟩ := isOf (T := T_1) hZ e_3 hp1
 obtain ⟨_, _, ⟨T_5, L_5, k_5, n_5⟩, -, X_5, ⟨Lc_5, hQ_5, l_5, y_5, z_5⟩, st_5⟩ := X_2.virtualBack hx (y := M245) (z := M245) hown (mvT hZ (w52 hw)) (mvT hZ (w53 hw)) (notFace_of_selects (args := #[]) (mvT hZ (w55 hw))) (mvT hZ (w55 hw)) (mvT hZ (w54 hw)) (by decide) (backOf (W := 0) (rm_io1_0 l Z a0 hw [] G1 G3 HG h0 n0 X00 x t kt hp1 hp2 hp3 hp4) hZ (w56 hw) (w10 hw) (by decide) (by decide)) q_8 q_10 (g := (mkF m 6 #[VR d, .unset] [(.int 31), (.ref x)])) rfl (by rw [hml]; rfl) (Steps.refl _) (argsL := [(.int 31)]) (rest := []) (lenOf pd_630 rfl) rfl (by show 2 * 0 + _ ≤ _; exact Nat.le_of_eq rfl) (hb hby d31_6) (fun _ _ => ⟨rfl, e_3, (by decide : 0 + 0 ≤ _), (by decide : 0 + 0 ≤ _)⟩)
 dsimp only [Pt.U, Pt.locs, Pt.cells, Pt.slots] at X_5 l_5 y_5 z_5 st_5 hQ_5
 subst l_5 y_5 z_5
 obtain ⟨rfl, N_11, e_12⟩ := hQ_5
 have N_13 := Fr.app N0 N_11
 have e_14 : T_5.heap = h0 := e_12
 obtain ⟨T_15, X_16, e_17, st_18⟩ := getF X_5 hx hZ hown (host := "") (Or.inl (w45 hw)) Via.refl e_14 hp0 (g := (mkF m 11 #[VR d, .val (.int (-1 : Int32))] [(.ref d)])) rfl rfl (hb hby d31_11)
 obtain ⟨T_19, X_20, e_21, st_22⟩ := getF X_16 hx hZ hown (host := "") (Or.inl (w45 hw)) Via.refl e_17 hp0 (g := (mkF m 21 #[VR d, .val (.int (-1 : Int32))] [(.ref d), (.int 2), (.int 0), (.ref x)])) rfl rfl (hb hby d31_21)
 obtain ⟨q_24, q_25, q_26, q_27, q_28⟩ := isOf (T := T_19) hZ e_21 hp1
 obtain ⟨_, _, ⟨T_23, L_23, k_23, n_23⟩, -, X_23, ⟨Lc_23, hQ_23, l_23, y_23, z_23⟩, st_23⟩ := X_20.virtualBack hx (y := M141) (z := M141) hown (mvT hZ (w92 hw)) (mvT hZ (w69 hw)) (notFace_of_selects (args := #[]) (mvT hZ (w71 hw))) (mvT hZ (w71 hw)) (mvT hZ (w70 hw)) (by decide) (backOf (W := 3) (rm_lenany l Z a0 hw [] G1 G3 HG h0 n0 X00 x t kt (0 : Int32) [] hp1 hp2 hp3 hp4) hZ (w72 hw) (w10 hw) (by decide) (by decide)) q_26 q_28 (g := (mkF m 24 #[VR d, .val (.int (-1 : Int32))] [(.ref x), (.int 2), (.int 0), (.ref x)])) rfl (by rw [hml]; rfl) (Steps.refl _) (argsL := []) (rest := [(.int 2), (.int 0), (.ref x)]) (lenOf pd_232 rfl) rfl (by show 2 * 0 + _ ≤ _; exact Nat.le_of_eq rfl) (hb hby d31_24) (fun _ _ => ⟨rfl, e_21, (by decide : 0 + 0 ≤ _), (by decide : 0 + 0 ≤ _)⟩)
 dsimp only [Pt.U, Pt.locs, Pt.cells, Pt.slots] at X_23 l_23 y_23 z_23 st_23 hQ_23
 subst l_23 y_23 z_23
 obtain ⟨rfl, N_29, e_30⟩ := hQ_23
 have N_31 := Fr.app N_13 N_29
 have e_32 : T_23.heap = h0 := e_30
 obtain ⟨_, _, ⟨T_33, L_33, k_33, n_33⟩, -, X_33, ⟨Lc_33, hQ_33, l_33, y_33, z_33⟩, st_33⟩ := Jvm.LawKit.callS X_23 hx (y := M175) hown (mvT hZ (w93 hw)) (mvT hZ (w90 hw)) (mvT hZ (w87 hw)) (mvT hZ (w91 hw)) (by decide) (backOf (W := 2) (rm_minR l Z a0 hw [] G1 G3 HG h0 n0 X00 (2 : Int32) (0 : Int32) (by decide)) hZ (w91 hw) (w87 hw) (by decide) (by decide)) (g := (mkF m 31 #[VR d, .val (.int (-1 : Int32))] [(.int 0), (.int 2), (.int 0), (.ref x)])) rfl (by rw [hml]; rfl) (argsL := [(.int 2), (.int 0)]) (rest := [(.int 0), (.ref x)]) (lenOf pd_197 rfl) rfl (by show 2 * 0 + _ ≤ _; exact Nat.le_of_eq rfl) (hb hby d31_31) (fun _ _ => ⟨rfl, e_32, (by decide : 0 + 0 ≤ _), (by decide : 0 + 0 ≤ _)⟩)
 dsimp only [Pt.U, Pt.locs, Pt.cells, Pt.slots] at X_33 l_33 y_33 z_33 st_33 hQ_33
 subst l_33 y_33 z_33
 obtain ⟨rfl, N_34, e_35⟩ := hQ_33
 have N_36 := Fr.app N_31 N_34
 have e_37 : T_33.heap = h0 := e_35
 obtain ⟨q_39, q_40, q_41, q_42, q_43⟩ := isOf (T := T_33) hZ e_37 hp1
 obtain ⟨_, _, ⟨T_38, L_38, k_38, n_38⟩, -, X_38, ⟨Lc_38, hQ_38, l_38, y_38, z_38⟩, st_38⟩ := X_33.virtualBack hx (y := M314) (z := M314) hown (mvT hZ (w94 hw)) (mvT hZ (w95 hw)) (notFace_of_selects (args := #[]) (mvT hZ (w97 hw))) (mvT hZ (w97 hw)) (mvT hZ (w96 hw)) (by decide) (backOf (W := 0) (rm_sub_0_0 l Z a0 hw [] G1 G3 HG h0 n0 X00 x t kt hp1 hp2 hp3 hp4) hZ (w98 hw) (w10 hw) (by decide) (by decide)) q_41 q_43 (g := (mkF m 34 #[VR d, .val (.int (-1 : Int32))] [(.int 0), (.int 0), (.ref x)])) rfl (by rw [hml]; rfl) (Steps.refl _) (argsL := [(.int 0), (.int 0)]) (rest := []) (lenOf pd_651 rfl) rfl (by show 2 * 0 + _ ≤ _; exact Nat.le_of_eq rfl) (hb hby d31_34) (fun _ _ => ⟨rfl, e_37, (by decide : 0 + 0 ≤ _), (by decide : 0 + 0 ≤ _)⟩)
 dsimp only [Pt.U, Pt.locs, Pt.cells, Pt.slots] at X_38 l_38 y_38 z_38 st_38 hQ_38
 subst l_38 y_38 z_38
 obtain ⟨a_44, a_45, k_46, rfl, N_47, K_48, g_49, g_50, g_51, g_52⟩ := hQ_38
 have N_53 := Fr.app N_36 N_47
 have C_54 : Steps p.tables e below S0 (T_38.setTop (mkF m 37 #[VR d, .val (.int (-1 : Int32))] [(.ref a_44)])) := by
  refine C0.trans ?_
  refine XS.aloadN X0.here hx rfl (hb hby d31_0) rfl rfl ?_
  refine st_4 _ ?_
  refine XS.bipush X_2.here hx rfl (hb hby d31_4) ?_
  refine st_5.trans ?_
  refine XS.istoreN X_5.here hx rfl (hb hby d31_9) rfl (l' := #[VR d, .val (.int (-1 : Int32))]) rfl ?_
  refine XS.aloadN X_5.here hx rfl (hb hby d31_10) rfl rfl ?_
  refine st_18 _ ?_
  refine XS.iconst X_16.here hx rfl (hb hby d31_14) ?_
  refine XS.iconst X_16.here hx rfl (hb hby d31_15) ?_
  refine XS.iloadN X_16.here hx rfl (hb hby d31_16) rfl ?_
  refine XS.ifNo X_16.here hx rfl (hb hby d31_17) rfl (by decide) ?_
  refine XS.aloadN X_16.here hx rfl (hb hby d31_20) rfl rfl ?_
  refine st_22 _ ?_
  refine st_23.trans ?_
  refine XS.goto X_23.here hx rfl (pc0 := 27) (pc' := 31) rfl (hb hby d31_27) (by decide) (by decide) ?_
  refine st_33 _ ?_
  show Steps p.tables e below (T_33.setTop (mkF m 34 #[VR d, .val (.int (-1 : Int32))] [(.int 0), (.int 0), (.ref x)])) _
  refine st_38.trans ?_
  exact Steps.refl _
 have K_55 : Keep h0 T_38.heap [] := ((Keep.refl _ _).trans K_48 all0)
 obtain ⟨fs, hr, hrun, hended, hW, hsame⟩ := X_38.leave (v := some (.ref a_44)) (fun h => by rw [Bd.returns] at h; cases h)
 refine ⟨_, _, C_54.trans (retOut X_38 hx Bd.returns rfl (Or.inr (Or.inr (Or.inr (Or.inr ⟨rfl, rfl, rfl⟩)))) (hb hby d31_37) hr), hrun, hended, _, _, rfl, ?_, ⟨_, rfl⟩, hW, hsame.mono (by decide) (by decide)⟩
 show Q_ind_0 Z G1 G3 d x t kt h0 n0 (some (.ref a_44)) T_38.heap _
 exact ⟨a_44, a_45, k_46, rfl, N_53, K_55, g_49, g_50, g_51, g_52⟩
theorem d31_30 : decode prog_10_method_3_code 30 = .ok (.iload_n 1, 1) := by decide +kernel
abbrev R_ind_1 : Room := { frames := 4, cells := 2, slots := 4, locals := 59 }
def Q_ind_1 (Z : State) (G1 : Int32) (G3 : Value) (d : Addr) (x : Addr) (t : Addr) (kt : ClassId) (c0 : Int32) (h0 : Heap) (n0 : Nat) (v : Option Value) (h : Heap) (L : List Loc) : Prop := (∃ r : Addr, ∃ u : Addr, ∃ ku : ClassId, v = some (.ref r) ∧ Fr n0 L ∧ Keep h0 h [] ∧ (Exa Z h r "java/lang/String") ∧ (Fld Z h r "java/lang/String" "coder" "B" (.int 0)) ∧ (Fld Z h r "java/lang/String" "value" "[B" (.ref u)) ∧ (Arv Z h u ku .byte (0 : Int32) [] (.int 0)) ∧ (c0 = (31 : Int32))) ∨ (∃ r : Addr, ∃ u : Addr, ∃ ku : ClassId, v = some (.ref r) ∧ Fr n0 L ∧ Keep h0 h [] ∧ (Exa Z h r "java/lang/String") ∧ (Fld Z h r "java/lang/String" "coder" "B" (.int 0)) ∧ (Fld Z h r "java/lang/String" "value" "[B" (.ref u)) ∧ (Arv Z h u ku .byte (1 : Int32) [(.int (own_lo8 c0))] (.int 0)) ∧ (¬ (c0 = (31 : Int32))))
theorem rm_ind_1 (l : Launch) (Z : State) (a0 : Array Value) (hw : HW Z a0) (ws : List Jvm.Cond) (G1 : Int32) (G3 : Value) (HG : own_G l Z a0 G1 G3) (h0 : Heap) (n0 : Nat) (X00 : Old Z n0 h0) (d : Addr) (x : Addr) (t : Addr) (kt : ClassId) (c0 : Int32) (hp0 : Fld Z h0 d "com/example/kartoteka/kartoteka/Field" "data" "Ljava/lang/String;" (.ref x)) (hp1 : Exa Z h0 x "java/lang/String") (hp2 : Fld Z h0 x "java/lang/String" "coder" "B" (.int 0)) (hp3 : Fld Z h0 x "java/lang/String" "value" "[B" (.ref t)) (hp4 : Arv Z h0 t kt .byte (1 : Int32) [(.int (own_lo8 c0))] (.int 0)) (hl0 : ¬ (c0 < (0 : Int32))) (hh0 : ¬ ((255 : Int32) < c0)) :
  own_CH l Z M624 prog_10_method_3_code 2 (some (.object "java/lang/String")) ws R_ind_1 #[(.ref d)] h0 (Q_ind_1 Z G1 G3 d x t kt c0 h0 n0) := by
 refine own_H (plainFor_of_name pn_604) ?_
 intro p e s m below meth c s₁ S0 Bd hZ hh CH0 hS0 CR0 hx hby hml hown hnm X0 e0 hS0d
 obtain ⟨O1, P1, O3f, rG3⟩ := id HG
 have hEL := own_EL hw
 have hSA := own_SA hw
 have N0 := Fr.nil n0
 have C0 : Steps p.tables e below S0 (s₁.setTop (mkF m 0 #[VR d, .unset] [])) := by rw [hS0d]; exact castTop (ef_625 m d) (Steps.refl _)
 obtain ⟨T_1, X_2, e_3, st_4⟩ := getF X0 hx hZ hown (host := "") (Or.inl (w45 hw)) Via.refl e0 hp0 (g := (mkF m 1 #[VR d, .unset] [(.ref d)])) rfl rfl (hb hby d31_1)
 obtain ⟨q_6, q_7, q_8, q_9, q_10⟩ := isOf (T := T_1) hZ e_3 hp1
 obtain ⟨_, _, ⟨T_5, L_5, k_5, n_5⟩, -, X_5, ⟨Lc_5, hQ_5, l_5, y_5, z_5⟩, st_5⟩ := X_2.virtualBack hx (y := M245) (z := M245) hown (mvT hZ (w52 hw)) (mvT hZ (w53 hw)) (notFace_of_selects (args := #[]) (mvT hZ (w55 hw))) (mvT hZ (w55 hw)) (mvT hZ (w54 hw)) (by decide) (backOf (W := 0) (rm_io1_1 l Z a0 hw [] G1 G3 HG h0 n0 X00 x t kt (own_lo8 c0) hp1 hp2 hp3 hp4) hZ (w56 hw) (w10 hw) (by decide) (by decide)) q_8 q_10 (g := (mkF m 6 #[VR d, .unset] [(.int 31), (.ref x)])) rfl (by rw [hml]; rfl) (Steps.refl _) (argsL := [(.int 31)]) (rest := []) (lenOf pd_630 rfl) rfl (by show 2 * 0 + _ ≤ _; exact Nat.le_of_eq rfl) (hb hby d31_6) (fun _ _ => ⟨rfl, e_3, (by decide : 0 + 0 ≤ _), (by decide : 0 + 0 ≤ _)⟩)
 dsimp only [Pt.U, Pt.locs, Pt.cells, Pt.slots] at X_5 l_5 y_5 z_5 st_5 hQ_5
 subst l_5 y_5 z_5
 have C_11 : Steps p.tables e below S0 (T_1.setTop (mkF m 6 #[VR d, .unset] [(.int 31), (.ref x)])) := by
  refine C0.trans ?_
  refine XS.aloadN X0.here hx rfl (hb hby d31_0) rfl rfl ?_
  refine st_4 _ ?_
  refine XS.bipush X_2.here hx rfl (hb hby d31_4) ?_
  exact Steps.refl _
 rcases hQ_5 with hQ_12 | hQ_13
 ·skip
  obtain ⟨rfl, N_14, e_15, g_16⟩ := hQ_12
  have N_17 := Fr.app N0 N_14
  have e_18 : T_5.heap = h0 := e_15
  obtain ⟨T_19, X_20, e_21, st_22⟩ := getF X_5 hx hZ hown (host := "") (Or.inl (w45 hw)) Via.refl e_18 hp0 (g := (mkF m 11 #[VR d, VI 0] [(.ref d)])) rfl rfl (hb hby d31_11)
  obtain ⟨_, _, ⟨T_23, L_23, k_23, n_23⟩, -, X_23, ⟨Lc_23, hQ_23, l_23, y_23, z_23⟩, st_23⟩ := Jvm.LawKit.callS X_20 hx (y := M175) hown (mvT hZ (w93 hw)) (mvT hZ (w90 hw)) (mvT hZ (w87 hw)) (mvT hZ (w91 hw)) (by decide) (backOf (W := 2) (rm_minR l Z a0 hw [] G1 G3 HG h0 n0 X00 (2 : Int32) (0 : Int32) (by decide)) hZ (w91 hw) (w87 hw) (by decide) (by decide)) (g := (mkF m 31 #[VR d, VI 0] [(.int 0), (.int 2), (.int 0), (.ref x)])) rfl (by rw [hml]; rfl) (argsL := [(.int 2), (.int 0)]) (rest := [(.int 0), (.ref x)]) (lenOf pd_197 rfl) rfl (by show 2 * 0 + _ ≤ _; exact Nat.le_of_eq rfl) (hb hby d31_31) (fun _ _ => ⟨rfl, e_21, (by decide : 0 + 0 ≤ _), (by decide : 0 + 0 ≤ _)⟩)
  dsimp only [Pt.U, Pt.locs, Pt.cells, Pt.slots] at X_23 l_23 y_23 z_23 st_23 hQ_23
  subst l_23 y_23 z_23
  obtain ⟨rfl, N_24, e_25⟩ := hQ_23
  have N_26 := Fr.app N_17 N_24
  have e_27 : T_23.heap = h0 := e_25
  obtain ⟨q_29, q_30, q_31, q_32, q_33⟩ := isOf (T := T_23) hZ e_27 hp1
  obtain ⟨_, _, ⟨T_28, L_28, k_28, n_28⟩, -, Y_28, S_28, G_28, ⟨Lc_28, hQ_28, l_28, y_28, z_28, R_28⟩, st_28⟩ := X_23.virtualBackS hx (y := M314) (z := M314) hown (mvT hZ (w94 hw)) (mvT hZ (w95 hw)) (notFace_of_selects (args := #[]) (mvT hZ (w97 hw))) (mvT hZ (w97 hw)) (mvT hZ (w96 hw)) (by decide) (backOfSH (vm0 := s.vm) (W := 0) (rm_sub_1_0 l Z a0 hw [] G1 G3 HG h0 n0 X00 x t kt (own_lo8 c0) hp1 hp2 hp3 hp4) hZ (w98 hw) (w10 hw) (by decide) (by decide) hEL CH0) q_31 q_33 (g := (mkF m 34 #[VR d, VI 0] [(.int 0), (.int 0), (.ref x)])) rfl (by rw [hml]; rfl) (Steps.refl _) (argsL := [(.int 0), (.int 0)]) (rest := []) (lenOf pd_651 rfl) rfl (by show 2 * 0 + _ ≤ _; exact Nat.le_of_eq rfl) (hb hby d31_34) (fun _ _ => ⟨rfl, e_27, (by decide : 0 + 2 ≤ _), (by decide : 0 + 4 ≤ _)⟩)
  dsimp only [Pt.U, Pt.locs, Pt.cells, Pt.slots] at Y_28 S_28 G_28 l_28 y_28 z_28 st_28 hQ_28 R_28
  subst l_28 y_28 z_28
  obtain ⟨X_28, hS_28, hZ_28, hown_28⟩ := rebS hS0 (n1 := T_23.heap.size) (by rw [show T_23.heap = h0 from e_27]; exact (Nat.le_refl _)) Y_28 S_28 G_28 hZ hown
  obtain ⟨a_34, a_35, k_36, rfl, N_37, K_38, g_39, g_40, g_41, g_42⟩ := hQ_28
  have N_43 := Fr.app N_26 N_37
  have CH_44 : CHv Z consts_1 T_28.vm T_28.heap := R_28.1
  have CR_45 : CHr Z consts_1 s.vm h0 T_28.vm T_28.heap := CR0.trans R_28
  have C_46 : Steps p.tables e below S0 (T_28.setTop (mkF m 37 #[VR d, VI 0] [(.ref a_34)])) := by
   refine C_11.trans ?_
   refine st_5.trans ?_
   refine XS.istoreN X_5.here hx rfl (hb hby d31_9) rfl (l' := #[VR d, VI 0]) rfl ?_
   refine XS.aloadN X_5.here hx rfl (hb hby d31_10) rfl rfl ?_
   refine st_22 _ ?_
   refine XS.iconst X_20.here hx rfl (hb hby d31_14) ?_
   refine XS.iconst X_20.here hx rfl (hb hby d31_15) ?_
   refine XS.iloadN X_20.here hx rfl (hb hby d31_16) rfl ?_
   refine XS.ifYes X_20.here hx rfl (pc0 := 17) (pc' := 30) rfl (hb hby d31_17) rfl (by decide) (by decide) (by decide) ?_
   refine XS.iloadN X_20.here hx rfl (hb hby d31_30) rfl ?_
   refine st_23 _ ?_
   refine st_28.trans ?_
   exact Steps.refl _
  have K_47 : Keep h0 T_28.heap [] := ((Keep.refl _ _).trans K_38 all0)
  obtain ⟨fs, hr, hrun, hended, hRE⟩ := X_28.leaveW hS_28 (by rw [show T_28.heap = T_28.heap from rfl]; exact (Nat.le_refl _)) (v := some (.ref a_34)) (fun h => by rw [Bd.returns] at h; cases h)
  refine ⟨_, _, C_46.trans (retOut X_28 hx Bd.returns rfl (Or.inr (Or.inr (Or.inr (Or.inr ⟨rfl, rfl, rfl⟩)))) (hb hby d31_37) hr), hrun, hended, _, _, rfl, ?_, ?_, hRE.1, hRE.2.1, hRE.2.2.1, hRE.2.2.2.mono (by decide) (by decide)⟩
  ·show Q_ind_1 Z G1 G3 d x t kt c0 h0 n0 (some (.ref a_34)) T_28.heap _
   exact Or.inl ⟨a_34, a_35, k_36, rfl, N_43, K_47, g_39, g_40, g_41, g_42, (own_is31 hl0 hh0 g_16)⟩
  ·show CHr Z consts_1 s.vm s.heap T_28.vm T_28.heap
   rw [hh]
   exact CR_45.trans (CHv.at X_28 hZ_28 hEL CH_44)
 ·skip
  obtain ⟨rfl, N_48, e_49, g_50⟩ := hQ_13
  have N_51 := Fr.app N0 N_48
  have e_52 : T_5.heap = h0 := e_49
  obtain ⟨T_53, X_54, e_55, st_56⟩ := getF X_5 hx hZ hown (host := "") (Or.inl (w45 hw)) Via.refl e_52 hp0 (g := (mkF m 11 #[VR d, .val (.int (-1 : Int32))] [(.ref d)])) rfl rfl (hb hby d31_11)
  obtain ⟨T_57, X_58, e_59, st_60⟩ := getF X_54 hx hZ hown (host := "") (Or.inl (w45 hw)) Via.refl e_55 hp0 (g := (mkF m 21 #[VR d, .val (.int (-1 : Int32))] [(.ref d), (.int 2), (.int 0), (.ref x)])) rfl rfl (hb hby d31_21)
  obtain ⟨q_62, q_63, q_64, q_65, q_66⟩ := isOf (T := T_57) hZ e_59 hp1
  obtain ⟨_, _, ⟨T_61, L_61, k_61, n_61⟩, -, X_61, ⟨Lc_61, hQ_61, l_61, y_61, z_61⟩, st_61⟩ := X_58.virtualBack hx (y := M141) (z := M141) hown (mvT hZ (w92 hw)) (mvT hZ (w69 hw)) (notFace_of_selects (args := #[]) (mvT hZ (w71 hw))) (mvT hZ (w71 hw)) (mvT hZ (w70 hw)) (by decide) (backOf (W := 3) (rm_lenany l Z a0 hw [] G1 G3 HG h0 n0 X00 x t kt (1 : Int32) [(.int (own_lo8 c0))] hp1 hp2 hp3 hp4) hZ (w72 hw) (w10 hw) (by decide) (by decide)) q_64 q_66 (g := (mkF m 24 #[VR d, .val (.int (-1 : Int32))] [(.ref x), (.int 2), (.int 0), (.ref x)])) rfl (by rw [hml]; rfl) (Steps.refl _) (argsL := []) (rest := [(.int 2), (.int 0), (.ref x)]) (lenOf pd_232 rfl) rfl (by show 2 * 0 + _ ≤ _; exact Nat.le_of_eq rfl) (hb hby d31_24) (fun _ _ => ⟨rfl, e_59, (by decide : 0 + 0 ≤ _), (by decide : 0 + 0 ≤ _)⟩)
  dsimp only [Pt.U, Pt.locs, Pt.cells, Pt.slots] at X_61 l_61 y_61 z_61 st_61 hQ_61
  subst l_61 y_61 z_61
  obtain ⟨rfl, N_67, e_68⟩ := hQ_61
  have N_69 := Fr.app N_51 N_67
  have e_70 : T_61.heap = h0 := e_68
  obtain ⟨_, _, ⟨T_71, L_71, k_71, n_71⟩, -, X_71, ⟨Lc_71, hQ_71, l_71, y_71, z_71⟩, st_71⟩ := Jvm.LawKit.callS X_61 hx (y := M175) hown (mvT hZ (w93 hw)) (mvT hZ (w90 hw)) (mvT hZ (w87 hw)) (mvT hZ (w91 hw)) (by decide) (backOf (W := 2) (rm_minR l Z a0 hw [] G1 G3 HG h0 n0 X00 (2 : Int32) (1 : Int32) (by decide)) hZ (w91 hw) (w87 hw) (by decide) (by decide)) (g := (mkF m 31 #[VR d, .val (.int (-1 : Int32))] [(.int 1), (.int 2), (.int 0), (.ref x)])) rfl (by rw [hml]; rfl) (argsL := [(.int 2), (.int 1)]) (rest := [(.int 0), (.ref x)]) (lenOf pd_197 rfl) rfl (by show 2 * 0 + _ ≤ _; exact Nat.le_of_eq rfl) (hb hby d31_31) (fun _ _ => ⟨rfl, e_70, (by decide : 0 + 0 ≤ _), (by decide : 0 + 0 ≤ _)⟩)
  dsimp only [Pt.U, Pt.locs, Pt.cells, Pt.slots] at X_71 l_71 y_71 z_71 st_71 hQ_71
  subst l_71 y_71 z_71
  obtain ⟨rfl, N_72, e_73⟩ := hQ_71
  have N_74 := Fr.app N_69 N_72
  have e_75 : T_71.heap = h0 := e_73
  obtain ⟨q_77, q_78, q_79, q_80, q_81⟩ := isOf (T := T_71) hZ e_75 hp1
  obtain ⟨_, _, ⟨T_76, L_76, k_76, n_76⟩, -, X_76, ⟨Lc_76, hQ_76, l_76, y_76, z_76⟩, st_76⟩ := X_71.virtualBack hx (y := M314) (z := M314) hown (mvT hZ (w94 hw)) (mvT hZ (w95 hw)) (notFace_of_selects (args := #[]) (mvT hZ (w97 hw))) (mvT hZ (w97 hw)) (mvT hZ (w96 hw)) (by decide) (backOf (W := 0) (rm_sub_1_1 l Z a0 hw [] G1 G3 HG h0 n0 X00 x t kt (own_lo8 c0) hp1 hp2 hp3 hp4) hZ (w98 hw) (w10 hw) (by decide) (by decide)) q_79 q_81 (g := (mkF m 34 #[VR d, .val (.int (-1 : Int32))] [(.int 1), (.int 0), (.ref x)])) rfl (by rw [hml]; rfl) (Steps.refl _) (argsL := [(.int 0), (.int 1)]) (rest := []) (lenOf pd_651 rfl) rfl (by show 2 * 0 + _ ≤ _; exact Nat.le_of_eq rfl) (hb hby d31_34) (fun _ _ => ⟨rfl, e_75, (by decide : 0 + 0 ≤ _), (by decide : 0 + 0 ≤ _)⟩)
  dsimp only [Pt.U, Pt.locs, Pt.cells, Pt.slots] at X_76 l_76 y_76 z_76 st_76 hQ_76
  subst l_76 y_76 z_76
  obtain ⟨a_82, a_83, k_84, rfl, N_85, K_86, g_87, g_88, g_89, g_90⟩ := hQ_76
  have N_91 := Fr.app N_74 N_85
  have CH_92 : CHv Z consts_1 s.vm T_76.heap := CHv.keep K_86 sf0 CH0
  have CR_93 : CHr Z consts_1 s.vm h0 s.vm T_76.heap := CR0.trans (CHr.keep K_86 sf0 CH0)
  have C_94 : Steps p.tables e below S0 (T_76.setTop (mkF m 37 #[VR d, .val (.int (-1 : Int32))] [(.ref a_82)])) := by
   refine C_11.trans ?_
   refine st_5.trans ?_
   refine XS.istoreN X_5.here hx rfl (hb hby d31_9) rfl (l' := #[VR d, .val (.int (-1 : Int32))]) rfl ?_
   refine XS.aloadN X_5.here hx rfl (hb hby d31_10) rfl rfl ?_
   refine st_56 _ ?_
   refine XS.iconst X_54.here hx rfl (hb hby d31_14) ?_
   refine XS.iconst X_54.here hx rfl (hb hby d31_15) ?_
   refine XS.iloadN X_54.here hx rfl (hb hby d31_16) rfl ?_
   refine XS.ifNo X_54.here hx rfl (hb hby d31_17) rfl (by decide) ?_
   refine XS.aloadN X_54.here hx rfl (hb hby d31_20) rfl rfl ?_
   refine st_60 _ ?_
   refine st_61.trans ?_
   refine XS.goto X_61.here hx rfl (pc0 := 27) (pc' := 31) rfl (hb hby d31_27) (by decide) (by decide) ?_
   refine st_71 _ ?_
   refine st_76.trans ?_
   exact Steps.refl _
  have K_95 : Keep h0 T_76.heap [] := ((Keep.refl _ _).trans K_86 all0)
  obtain ⟨fs, hr, hrun, hended, hRE⟩ := X_76.leaveW hS0 (by rw [show T_76.heap = T_76.heap from rfl]; exact (Nat.le_trans (Nat.le_refl _) K_86.1)) (v := some (.ref a_82)) (fun h => by rw [Bd.returns] at h; cases h)
  refine ⟨_, _, C_94.trans (retOut X_76 hx Bd.returns rfl (Or.inr (Or.inr (Or.inr (Or.inr ⟨rfl, rfl, rfl⟩)))) (hb hby d31_37) hr), hrun, hended, _, _, rfl, ?_, ?_, hRE.1, hRE.2.1, hRE.2.2.1, hRE.2.2.2.mono (by decide) (by decide)⟩
  ·show Q_ind_1 Z G1 G3 d x t kt c0 h0 n0 (some (.ref a_82)) T_76.heap _
   exact Or.inr (⟨a_82, a_83, k_84, rfl, N_91, K_95, g_87, g_88, g_89, g_90, (own_not31 g_50)⟩)
  ·show CHr Z consts_1 s.vm s.heap T_76.vm T_76.heap
   rw [hh]
   exact CR_93.trans (CHv.at X_76 hZ hEL CH_92)
abbrev R_ind_2 : Room := { frames := 5, cells := 2, slots := 5, locals := 80 }
def Q_ind_2 (Z : State) (G1 : Int32) (G3 : Value) (d : Addr) (x : Addr) (t : Addr) (kt : ClassId) (c0 : Int32) (c1 : Int32) (h0 : Heap) (n0 : Nat) (v : Option Value) (h : Heap) (L : List Loc) : Prop := (∃ r : Addr, ∃ u : Addr, ∃ ku : ClassId, v = some (.ref r) ∧ Fr n0 L ∧ Keep h0 h [] ∧ (Exa Z h r "java/lang/String") ∧ (Fld Z h r "java/lang/String" "coder" "B" (.int 0)) ∧ (Fld Z h r "java/lang/String" "value" "[B" (.ref u)) ∧ (Arv Z h u ku .byte (0 : Int32) [] (.int 0)) ∧ (c0 = (31 : Int32))) ∨ (∃ r : Addr, ∃ u : Addr, ∃ ku : ClassId, v = some (.ref r) ∧ Fr n0 L ∧ Keep h0 h [] ∧ (Exa Z h r "java/lang/String") ∧ (Fld Z h r "java/lang/String" "coder" "B" (.int 0)) ∧ (Fld Z h r "java/lang/String" "value" "[B" (.ref u)) ∧ (Arv Z h u ku .byte (1 : Int32) [(.int (own_lo8 c0))] (.int 0)) ∧ (¬ (c0 = (31 : Int32))) ∧ (c1 = (31 : Int32))) ∨ (∃ r : Addr, ∃ u : Addr, ∃ ku : ClassId, v = some (.ref r) ∧ Fr n0 L ∧ Keep h0 h [] ∧ (Exa Z h r "java/lang/String") ∧ (Fld Z h r "java/lang/String" "coder" "B" (.int 0)) ∧ (Fld Z h r "java/lang/String" "value" "[B" (.ref u)) ∧ (Arv Z h u ku .byte (2 : Int32) [(.int (own_lo8 c0)), (.int (own_lo8 c1))] (.int 0)) ∧ (¬ (c0 = (31 : Int32))) ∧ (¬ (c1 = (31 : Int32))))
theorem rm_ind_2 (l : Launch) (Z : State) (a0 : Array Value) (hw : HW Z a0) (ws : List Jvm.Cond) (G1 : Int32) (G3 : Value) (HG : own_G l Z a0 G1 G3) (h0 : Heap) (n0 : Nat) (X00 : Old Z n0 h0) (d : Addr) (x : Addr) (t : Addr) (kt : ClassId) (c0 : Int32) (c1 : Int32) (hp0 : Fld Z h0 d "com/example/kartoteka/kartoteka/Field" "data" "Ljava/lang/String;" (.ref x)) (hp1 : Exa Z h0 x "java/lang/String") (hp2 : Fld Z h0 x "java/lang/String" "coder" "B" (.int 0)) (hp3 : Fld Z h0 x "java/lang/String" "value" "[B" (.ref t)) (hp4 : Arv Z h0 t kt .byte (2 : Int32) [(.int (own_lo8 c0)), (.int (own_lo8 c1))] (.int 0)) (hl0 : ¬ (c0 < (0 : Int32))) (hh0 : ¬ ((255 : Int32) < c0)) (hl1 : ¬ (c1 < (0 : Int32))) (hh1 : ¬ ((255 : Int32) < c1)) :
  own_CH l Z M624 prog_10_method_3_code 2 (some (.object "java/lang/String")) ws R_ind_2 #[(.ref d)] h0 (Q_ind_2 Z G1 G3 d x t kt c0 c1 h0 n0) := by
 refine own_H (plainFor_of_name pn_604) ?_
 intro p e s m below meth c s₁ S0 Bd hZ hh CH0 hS0 CR0 hx hby hml hown hnm X0 e0 hS0d
 obtain ⟨O1, P1, O3f, rG3⟩ := id HG
 have hEL := own_EL hw
 have hSA := own_SA hw
 have N0 := Fr.nil n0
 have C0 : Steps p.tables e below S0 (s₁.setTop (mkF m 0 #[VR d, .unset] [])) := by rw [hS0d]; exact castTop (ef_625 m d) (Steps.refl _)
 obtain ⟨T_1, X_2, e_3, st_4⟩ := getF X0 hx hZ hown (host := "") (Or.inl (w45 hw)) Via.refl e0 hp0 (g := (mkF m 1 #[VR d, .unset] [(.ref d)])) rfl rfl (hb hby d31_1)
 obtain ⟨q_6, q_7, q_8, q_9, q_10⟩ := isOf (T := T_1) hZ e_3 hp1
 obtain ⟨_, _, ⟨T_5, L_5, k_5, n_5⟩, -, X_5, ⟨Lc_5, hQ_5, l_5, y_5, z_5⟩, st_5⟩ := X_2.virtualBack hx (y := M245) (z := M245) hown (mvT hZ (w52 hw)) (mvT hZ (w53 hw)) (notFace_of_selects (args := #[]) (mvT hZ (w55 hw))) (mvT hZ (w55 hw)) (mvT hZ (w54 hw)) (by decide) (backOf (W := 0) (rm_io1_2 l Z a0 hw [] G1 G3 HG h0 n0 X00 x t kt (own_lo8 c0) (own_lo8 c1) hp1 hp2 hp3 hp4) hZ (w56 hw) (w10 hw) (by decide) (by decide)) q_8 q_10 (g := (mkF m 6 #[VR d, .unset] [(.int 31), (.ref x)])) rfl (by rw [hml]; rfl) (Steps.refl _) (argsL := [(.int 31)]) (rest := []) (lenOf pd_630 rfl) rfl (by show 2 * 0 + _ ≤ _; exact Nat.le_of_eq rfl) (hb hby d31_6) (fun _ _ => ⟨rfl, e_3, (by decide : 0 + 0 ≤ _), (by decide : 0 + 0 ≤ _)⟩)
 dsimp only [Pt.U, Pt.locs, Pt.cells, Pt.slots] at X_5 l_5 y_5 z_5 st_5 hQ_5
 subst l_5 y_5 z_5
 have C_11 : Steps p.tables e below S0 (T_1.setTop (mkF m 6 #[VR d, .unset] [(.int 31), (.ref x)])) := by
  refine C0.trans ?_
  refine XS.aloadN X0.here hx rfl (hb hby d31_0) rfl rfl ?_
  refine st_4 _ ?_
  refine XS.bipush X_2.here hx rfl (hb hby d31_4) ?_
  exact Steps.refl _
 rcases hQ_5 with hQ_12 | hQ_13 | hQ_14
 ·skip
  obtain ⟨rfl, N_15, e_16, g_17⟩ := hQ_12
  have N_18 := Fr.app N0 N_15
  have e_19 : T_5.heap = h0 := e_16
  obtain ⟨T_20, X_21, e_22, st_23⟩ := getF X_5 hx hZ hown (host := "") (Or.inl (w45 hw)) Via.refl e_19 hp0 (g := (mkF m 11 #[VR d, VI 0] [(.ref d)])) rfl rfl (hb hby d31_11)
  obtain ⟨_, _, ⟨T_24, L_24, k_24, n_24⟩, -, X_24, ⟨Lc_24, hQ_24, l_24, y_24, z_24⟩, st_24⟩ := Jvm.LawKit.callS X_21 hx (y := M175) hown (mvT hZ (w93 hw)) (mvT hZ (w90 hw)) (mvT hZ (w87 hw)) (mvT hZ (w91 hw)) (by decide) (backOf (W := 2) (rm_minR l Z a0 hw [] G1 G3 HG h0 n0 X00 (2 : Int32) (0 : Int32) (by decide)) hZ (w91 hw) (w87 hw) (by decide) (by decide)) (g := (mkF m 31 #[VR d, VI 0] [(.int 0), (.int 2), (.int 0), (.ref x)])) rfl (by rw [hml]; rfl) (argsL := [(.int 2), (.int 0)]) (rest := [(.int 0), (.ref x)]) (lenOf pd_197 rfl) rfl (by show 2 * 0 + _ ≤ _; exact Nat.le_of_eq rfl) (hb hby d31_31) (fun _ _ => ⟨rfl, e_22, (by decide : 0 + 0 ≤ _), (by decide : 0 + 0 ≤ _)⟩)
  dsimp only [Pt.U, Pt.locs, Pt.cells, Pt.slots] at X_24 l_24 y_24 z_24 st_24 hQ_24
  subst l_24 y_24 z_24
  obtain ⟨rfl, N_25, e_26⟩ := hQ_24
  have N_27 := Fr.app N_18 N_25
  have e_28 : T_24.heap = h0 := e_26
  obtain ⟨q_30, q_31, q_32, q_33, q_34⟩ := isOf (T := T_24) hZ e_28 hp1
  obtain ⟨_, _, ⟨T_29, L_29, k_29, n_29⟩, -, Y_29, S_29, G_29, ⟨Lc_29, hQ_29, l_29, y_29, z_29, R_29⟩, st_29⟩ := X_24.virtualBackS hx (y := M314) (z := M314) hown (mvT hZ (w94 hw)) (mvT hZ (w95 hw)) (notFace_of_selects (args := #[]) (mvT hZ (w97 hw))) (mvT hZ (w97 hw)) (mvT hZ (w96 hw)) (by decide) (backOfSH (vm0 := s.vm) (W := 0) (rm_sub_2_0 l Z a0 hw [] G1 G3 HG h0 n0 X00 x t kt (own_lo8 c0) (own_lo8 c1) hp1 hp2 hp3 hp4) hZ (w98 hw) (w10 hw) (by decide) (by decide) hEL CH0) q_32 q_34 (g := (mkF m 34 #[VR d, VI 0] [(.int 0), (.int 0), (.ref x)])) rfl (by rw [hml]; rfl) (Steps.refl _) (argsL := [(.int 0), (.int 0)]) (rest := []) (lenOf pd_651 rfl) rfl (by show 2 * 0 + _ ≤ _; exact Nat.le_of_eq rfl) (hb hby d31_34) (fun _ _ => ⟨rfl, e_28, (by decide : 0 + 2 ≤ _), (by decide : 0 + 4 ≤ _)⟩)
  dsimp only [Pt.U, Pt.locs, Pt.cells, Pt.slots] at Y_29 S_29 G_29 l_29 y_29 z_29 st_29 hQ_29 R_29
  subst l_29 y_29 z_29
  obtain ⟨X_29, hS_29, hZ_29, hown_29⟩ := rebS hS0 (n1 := T_24.heap.size) (by rw [show T_24.heap = h0 from e_28]; exact (Nat.le_refl _)) Y_29 S_29 G_29 hZ hown
  obtain ⟨a_35, a_36, k_37, rfl, N_38, K_39, g_40, g_41, g_42, g_43⟩ := hQ_29
  have N_44 := Fr.app N_27 N_38
  have CH_45 : CHv Z consts_1 T_29.vm T_29.heap := R_29.1
  have CR_46 : CHr Z consts_1 s.vm h0 T_29.vm T_29.heap := CR0.trans R_29
  have C_47 : Steps p.tables e below S0 (T_29.setTop (mkF m 37 #[VR d, VI 0] [(.ref a_35)])) := by
   refine C_11.trans ?_
   refine st_5.trans ?_
   refine XS.istoreN X_5.here hx rfl (hb hby d31_9) rfl (l' := #[VR d, VI 0]) rfl ?_
   refine XS.aloadN X_5.here hx rfl (hb hby d31_10) rfl rfl ?_
   refine st_23 _ ?_
   refine XS.iconst X_21.here hx rfl (hb hby d31_14) ?_
   refine XS.iconst X_21.here hx rfl (hb hby d31_15) ?_
   refine XS.iloadN X_21.here hx rfl (hb hby d31_16) rfl ?_
   refine XS.ifYes X_21.here hx rfl (pc0 := 17) (pc' := 30) rfl (hb hby d31_17) rfl (by decide) (by decide) (by decide) ?_
   refine XS.iloadN X_21.here hx rfl (hb hby d31_30) rfl ?_
   refine st_24 _ ?_
   refine st_29.trans ?_
   exact Steps.refl _
  have K_48 : Keep h0 T_29.heap [] := ((Keep.refl _ _).trans K_39 all0)
  obtain ⟨fs, hr, hrun, hended, hRE⟩ := X_29.leaveW hS_29 (by rw [show T_29.heap = T_29.heap from rfl]; exact (Nat.le_refl _)) (v := some (.ref a_35)) (fun h => by rw [Bd.returns] at h; cases h)
  refine ⟨_, _, C_47.trans (retOut X_29 hx Bd.returns rfl (Or.inr (Or.inr (Or.inr (Or.inr ⟨rfl, rfl, rfl⟩)))) (hb hby d31_37) hr), hrun, hended, _, _, rfl, ?_, ?_, hRE.1, hRE.2.1, hRE.2.2.1, hRE.2.2.2.mono (by decide) (by decide)⟩
  ·show Q_ind_2 Z G1 G3 d x t kt c0 c1 h0 n0 (some (.ref a_35)) T_29.heap _
   exact Or.inl ⟨a_35, a_36, k_37, rfl, N_44, K_48, g_40, g_41, g_42, g_43, (own_is31 hl0 hh0 g_17)⟩
  ·show CHr Z consts_1 s.vm s.heap T_29.vm T_29.heap
   rw [hh]
   exact CR_46.trans (CHv.at X_29 hZ_29 hEL CH_45)
 ·skip
  obtain ⟨rfl, N_49, e_50, g_51, g_52⟩ := hQ_13
  have N_53 := Fr.app N0 N_49
  have e_54 : T_5.heap = h0 := e_50
  obtain ⟨T_55, X_56, e_57, st_58⟩ := getF X_5 hx hZ hown (host := "") (Or.inl (w45 hw)) Via.refl e_54 hp0 (g := (mkF m 11 #[VR d, VI 1] [(.ref d)])) rfl rfl (hb hby d31_11)
  obtain ⟨_, _, ⟨T_59, L_59, k_59, n_59⟩, -, X_59, ⟨Lc_59, hQ_59, l_59, y_59, z_59⟩, st_59⟩ := Jvm.LawKit.callS X_56 hx (y := M175) hown (mvT hZ (w93 hw)) (mvT hZ (w90 hw)) (mvT hZ (w87 hw)) (mvT hZ (w91 hw)) (by decide) (backOf (W := 2) (rm_minR l Z a0 hw [] G1 G3 HG h0 n0 X00 (2 : Int32) (1 : Int32) (by decide)) hZ (w91 hw) (w87 hw) (by decide) (by decide)) (g := (mkF m 31 #[VR d, VI 1] [(.int 1), (.int 2), (.int 0), (.ref x)])) rfl (by rw [hml]; rfl) (argsL := [(.int 2), (.int 1)]) (rest := [(.int 0), (.ref x)]) (lenOf pd_197 rfl) rfl (by show 2 * 0 + _ ≤ _; exact Nat.le_of_eq rfl) (hb hby d31_31) (fun _ _ => ⟨rfl, e_57, (by decide : 0 + 0 ≤ _), (by decide : 0 + 0 ≤ _)⟩)
  dsimp only [Pt.U, Pt.locs, Pt.cells, Pt.slots] at X_59 l_59 y_59 z_59 st_59 hQ_59
  subst l_59 y_59 z_59
  obtain ⟨rfl, N_60, e_61⟩ := hQ_59
  have N_62 := Fr.app N_53 N_60
  have e_63 : T_59.heap = h0 := e_61
  obtain ⟨q_65, q_66, q_67, q_68, q_69⟩ := isOf (T := T_59) hZ e_63 hp1
  obtain ⟨_, _, ⟨T_64, L_64, k_64, n_64⟩, -, X_64, ⟨Lc_64, hQ_64, l_64, y_64, z_64⟩, st_64⟩ := X_59.virtualBack hx (y := M314) (z := M314) hown (mvT hZ (w94 hw)) (mvT hZ (w95 hw)) (notFace_of_selects (args := #[]) (mvT hZ (w97 hw))) (mvT hZ (w97 hw)) (mvT hZ (w96 hw)) (by decide) (backOf (W := 0) (rm_sub_2_1 l Z a0 hw [] G1 G3 HG h0 n0 X00 x t kt (own_lo8 c0) (own_lo8 c1) hp1 hp2 hp3 hp4) hZ (w98 hw) (w10 hw) (by decide) (by decide)) q_67 q_69 (g := (mkF m 34 #[VR d, VI 1] [(.int 1), (.int 0), (.ref x)])) rfl (by rw [hml]; rfl) (Steps.refl _) (argsL := [(.int 0), (.int 1)]) (rest := []) (lenOf pd_651 rfl) rfl (by show 2 * 0 + _ ≤ _; exact Nat.le_of_eq rfl) (hb hby d31_34) (fun _ _ => ⟨rfl, e_63, (by decide : 0 + 2 ≤ _), (by decide : 0 + 5 ≤ _)⟩)
  dsimp only [Pt.U, Pt.locs, Pt.cells, Pt.slots] at X_64 l_64 y_64 z_64 st_64 hQ_64
  subst l_64 y_64 z_64
  obtain ⟨a_70, a_71, k_72, rfl, N_73, K_74, g_75, g_76, g_77, g_78⟩ := hQ_64
  have N_79 := Fr.app N_62 N_73
  have CH_80 : CHv Z consts_1 s.vm T_64.heap := CHv.keep K_74 sf0 CH0
  have CR_81 : CHr Z consts_1 s.vm h0 s.vm T_64.heap := CR0.trans (CHr.keep K_74 sf0 CH0)
  have C_82 : Steps p.tables e below S0 (T_64.setTop (mkF m 37 #[VR d, VI 1] [(.ref a_70)])) := by
   refine C_11.trans ?_
   refine st_5.trans ?_
   refine XS.istoreN X_5.here hx rfl (hb hby d31_9) rfl (l' := #[VR d, VI 1]) rfl ?_
   refine XS.aloadN X_5.here hx rfl (hb hby d31_10) rfl rfl ?_
   refine st_58 _ ?_
   refine XS.iconst X_56.here hx rfl (hb hby d31_14) ?_
   refine XS.iconst X_56.here hx rfl (hb hby d31_15) ?_
   refine XS.iloadN X_56.here hx rfl (hb hby d31_16) rfl ?_
   refine XS.ifYes X_56.here hx rfl (pc0 := 17) (pc' := 30) rfl (hb hby d31_17) rfl (by decide) (by decide) (by decide) ?_
   refine XS.iloadN X_56.here hx rfl (hb hby d31_30) rfl ?_
   refine st_59 _ ?_
   refine st_64.trans ?_
   exact Steps.refl _
  have K_83 : Keep h0 T_64.heap [] := ((Keep.refl _ _).trans K_74 all0)
  obtain ⟨fs, hr, hrun, hended, hRE⟩ := X_64.leaveW hS0 (by rw [show T_64.heap = T_64.heap from rfl]; exact (Nat.le_trans (Nat.le_refl _) K_74.1)) (v := some (.ref a_70)) (fun h => by rw [Bd.returns] at h; cases h)
  refine ⟨_, _, C_82.trans (retOut X_64 hx Bd.returns rfl (Or.inr (Or.inr (Or.inr (Or.inr ⟨rfl, rfl, rfl⟩)))) (hb hby d31_37) hr), hrun, hended, _, _, rfl, ?_, ?_, hRE.1, hRE.2.1, hRE.2.2.1, hRE.2.2.2.mono (by decide) (by decide)⟩
  ·show Q_ind_2 Z G1 G3 d x t kt c0 c1 h0 n0 (some (.ref a_70)) T_64.heap _
   exact Or.inr (Or.inl ⟨a_70, a_71, k_72, rfl, N_79, K_83, g_75, g_76, g_77, g_78, (own_not31 g_51), (own_is31 hl1 hh1 g_52)⟩)
  ·show CHr Z consts_1 s.vm s.heap T_64.vm T_64.heap
   rw [hh]
   exact CR_81.trans (CHv.at X_64 hZ hEL CH_80)
 ·skip
  obtain ⟨rfl, N_84, e_85, g_86, g_87⟩ := hQ_14
  have N_88 := Fr.app N0 N_84
  have e_89 : T_5.heap = h0 := e_85
  obtain ⟨T_90, X_91, e_92, st_93⟩ := getF X_5 hx hZ hown (host := "") (Or.inl (w45 hw)) Via.refl e_89 hp0 (g := (mkF m 11 #[VR d, .val (.int (-1 : Int32))] [(.ref d)])) rfl rfl (hb hby d31_11)
  obtain ⟨T_94, X_95, e_96, st_97⟩ := getF X_91 hx hZ hown (host := "") (Or.inl (w45 hw)) Via.refl e_92 hp0 (g := (mkF m 21 #[VR d, .val (.int (-1 : Int32))] [(.ref d), (.int 2), (.int 0), (.ref x)])) rfl rfl (hb hby d31_21)
  obtain ⟨q_99, q_100, q_101, q_102, q_103⟩ := isOf (T := T_94) hZ e_96 hp1
  obtain ⟨_, _, ⟨T_98, L_98, k_98, n_98⟩, -, X_98, ⟨Lc_98, hQ_98, l_98, y_98, z_98⟩, st_98⟩ := X_95.virtualBack hx (y := M141) (z := M141) hown (mvT hZ (w92 hw)) (mvT hZ (w69 hw)) (notFace_of_selects (args := #[]) (mvT hZ (w71 hw))) (mvT hZ (w71 hw)) (mvT hZ (w70 hw)) (by decide) (backOf (W := 3) (rm_lenany l Z a0 hw [] G1 G3 HG h0 n0 X00 x t kt (2 : Int32) [(.int (own_lo8 c0)), (.int (own_lo8 c1))] hp1 hp2 hp3 hp4) hZ (w72 hw) (w10 hw) (by decide) (by decide)) q_101 q_103 (g := (mkF m 24 #[VR d, .val (.int (-1 : Int32))] [(.ref x), (.int 2), (.int 0), (.ref x)])) rfl (by rw [hml]; rfl) (Steps.refl _) (argsL := []) (rest := [(.int 2), (.int 0), (.ref x)]) (lenOf pd_232 rfl) rfl (by show 2 * 0 + _ ≤ _; exact Nat.le_of_eq rfl) (hb hby d31_24) (fun _ _ => ⟨rfl, e_96, (by decide : 0 + 0 ≤ _), (by decide : 0 + 0 ≤ _)⟩)
  dsimp only [Pt.U, Pt.locs, Pt.cells, Pt.slots] at X_98 l_98 y_98 z_98 st_98 hQ_98
  subst l_98 y_98 z_98
  obtain ⟨rfl, N_104, e_105⟩ := hQ_98
  have N_106 := Fr.app N_88 N_104
  have e_107 : T_98.heap = h0 := e_105
  obtain ⟨_, _, ⟨T_108, L_108, k_108, n_108⟩, -, X_108, ⟨Lc_108, hQ_108, l_108, y_108, z_108⟩, st_108⟩ := Jvm.LawKit.callS X_98 hx (y := M175) hown (mvT hZ (w93 hw)) (mvT hZ (w90 hw)) (mvT hZ (w87 hw)) (mvT hZ (w91 hw)) (by decide) (backOf (W := 2) (rm_minL l Z a0 hw [] G1 G3 HG h0 n0 X00 (2 : Int32) (2 : Int32) (by decide)) hZ (w91 hw) (w87 hw) (by decide) (by decide)) (g := (mkF m 31 #[VR d, .val (.int (-1 : Int32))] [(.int 2), (.int 2), (.int 0), (.ref x)])) rfl (by rw [hml]; rfl) (argsL := [(.int 2), (.int 2)]) (rest := [(.int 0), (.ref x)]) (lenOf pd_197 rfl) rfl (by show 2 * 0 + _ ≤ _; exact Nat.le_of_eq rfl) (hb hby d31_31) (fun _ _ => ⟨rfl, e_107, (by decide : 0 + 0 ≤ _), (by decide : 0 + 0 ≤ _)⟩)
  dsimp only [Pt.U, Pt.locs, Pt.cells, Pt.slots] at X_108 l_108 y_108 z_108 st_108 hQ_108
  subst l_108 y_108 z_108
  obtain ⟨rfl, N_109, e_110⟩ := hQ_108
  have N_111 := Fr.app N_106 N_109
  have e_112 : T_108.heap = h0 := e_110
  obtain ⟨q_114, q_115, q_116, q_117, q_118⟩ := isOf (T := T_108) hZ e_112 hp1
  obtain ⟨_, _, ⟨T_113, L_113, k_113, n_113⟩, -, X_113, ⟨Lc_113, hQ_113, l_113, y_113, z_113⟩, st_113⟩ := X_108.virtualBack hx (y := M314) (z := M314) hown (mvT hZ (w94 hw)) (mvT hZ (w95 hw)) (notFace_of_selects (args := #[]) (mvT hZ (w97 hw))) (mvT hZ (w97 hw)) (mvT hZ (w96 hw)) (by decide) (backOf (W := 0) (rm_sub_2_2 l Z a0 hw [] G1 G3 HG h0 n0 X00 x t kt (own_lo8 c0) (own_lo8 c1) hp1 hp2 hp3 hp4) hZ (w98 hw) (w10 hw) (by decide) (by decide)) q_116 q_118 (g := (mkF m 34 #[VR d, .val (.int (-1 : Int32))] [(.int 2), (.int 0), (.ref x)])) rfl (by rw [hml]; rfl) (Steps.refl _) (argsL := [(.int 0), (.int 2)]) (rest := []) (lenOf pd_651 rfl) rfl (by show 2 * 0 + _ ≤ _; exact Nat.le_of_eq rfl) (hb hby d31_34) (fun _ _ => ⟨rfl, e_112, (by decide : 0 + 0 ≤ _), (by decide : 0 + 0 ≤ _)⟩)
  dsimp only [Pt.U, Pt.locs, Pt.cells, Pt.slots] at X_113 l_113 y_113 z_113 st_113 hQ_113
  subst l_113 y_113 z_113
  obtain ⟨a_119, a_120, k_121, rfl, N_122, K_123, g_124, g_125, g_126, g_127⟩ := hQ_113
  have N_128 := Fr.app N_111 N_122
  have CH_129 : CHv Z consts_1 s.vm T_113.heap := CHv.keep K_123 sf0 CH0
  have CR_130 : CHr Z consts_1 s.vm h0 s.vm T_113.heap := CR0.trans (CHr.keep K_123 sf0 CH0)
  have C_131 : Steps p.tables e below S0 (T_113.setTop (mkF m 37 #[VR d, .val (.int (-1 : Int32))] [(.ref a_119)])) := by
   refine C_11.trans ?_
   refine st_5.trans ?_
   refine XS.istoreN X_5.here hx rfl (hb hby d31_9) rfl (l' := #[VR d, .val (.int (-1 : Int32))]) rfl ?_
   refine XS.aloadN X_5.here hx rfl (hb hby d31_10) rfl rfl ?_
   refine st_93 _ ?_
   refine XS.iconst X_91.here hx rfl (hb hby d31_14) ?_
   refine XS.iconst X_91.here hx rfl (hb hby d31_15) ?_
   refine XS.iloadN X_91.here hx rfl (hb hby d31_16) rfl ?_
   refine XS.ifNo X_91.here hx rfl (hb hby d31_17) rfl (by decide) ?_
   refine XS.aloadN X_91.here hx rfl (hb hby d31_20) rfl rfl ?_
   refine st_97 _ ?_
   refine st_98.trans ?_
   refine XS.goto X_98.here hx rfl (pc0 := 27) (pc' := 31) rfl (hb hby d31_27) (by decide) (by decide) ?_
   refine st_108 _ ?_
   refine st_113.trans ?_
   exact Steps.refl _
  have K_132 : Keep h0 T_113.heap [] := ((Keep.refl _ _).trans K_123 all0)
  obtain ⟨fs, hr, hrun, hended, hRE⟩ := X_113.leaveW hS0 (by rw [show T_113.heap = T_113.heap from rfl]; exact (Nat.le_trans (Nat.le_refl _) K_123.1)) (v := some (.ref a_119)) (fun h => by rw [Bd.returns] at h; cases h)
  refine ⟨_, _, C_131.trans (retOut X_113 hx Bd.returns rfl (Or.inr (Or.inr (Or.inr (Or.inr ⟨rfl, rfl, rfl⟩)))) (hb hby d31_37) hr), hrun, hended, _, _, rfl, ?_, ?_, hRE.1, hRE.2.1, hRE.2.2.1, hRE.2.2.2.mono (by decide) (by decide)⟩
  ·show Q_ind_2 Z G1 G3 d x t kt c0 c1 h0 n0 (some (.ref a_119)) T_113.heap _
   exact Or.inr (Or.inr (⟨a_119, a_120, k_121, rfl, N_128, K_132, g_124, g_125, g_126, g_127, (own_not31 g_86), (own_not31 g_87)⟩))
  ·show CHr Z consts_1 s.vm s.heap T_113.vm T_113.heap
   rw [hh]
   exact CR_130.trans (CHv.at X_113 hZ hEL CH_129)
abbrev R_ind_3 : Room := { frames := 5, cells := 2, slots := 6, locals := 80 }
def Q_ind_3 (Z : State) (G1 : Int32) (G3 : Value) (d : Addr) (x : Addr) (t : Addr) (kt : ClassId) (c0 : Int32) (c1 : Int32) (c2 : Int32) (h0 : Heap) (n0 : Nat) (v : Option Value) (h : Heap) (L : List Loc) : Prop := (∃ r : Addr, ∃ u : Addr, ∃ ku : ClassId, v = some (.ref r) ∧ Fr n0 L ∧ Keep h0 h [] ∧ (Exa Z h r "java/lang/String") ∧ (Fld Z h r "java/lang/String" "coder" "B" (.int 0)) ∧ (Fld Z h r "java/lang/String" "value" "[B" (.ref u)) ∧ (Arv Z h u ku .byte (0 : Int32) [] (.int 0)) ∧ (c0 = (31 : Int32))) ∨ (∃ r : Addr, ∃ u : Addr, ∃ ku : ClassId, v = some (.ref r) ∧ Fr n0 L ∧ Keep h0 h [] ∧ (Exa Z h r "java/lang/String") ∧ (Fld Z h r "java/lang/String" "coder" "B" (.int 0)) ∧ (Fld Z h r "java/lang/String" "value" "[B" (.ref u)) ∧ (Arv Z h u ku .byte (1 : Int32) [(.int (own_lo8 c0))] (.int 0)) ∧ (¬ (c0 = (31 : Int32))) ∧ (c1 = (31 : Int32))) ∨ (∃ r : Addr, ∃ u : Addr, ∃ ku : ClassId, v = some (.ref r) ∧ Fr n0 L ∧ Keep h0 h [] ∧ (Exa Z h r "java/lang/String") ∧ (Fld Z h r "java/lang/String" "coder" "B" (.int 0)) ∧ (Fld Z h r "java/lang/String" "value" "[B" (.ref u)) ∧ (Arv Z h u ku .byte (2 : Int32) [(.int (own_lo8 c0)), (.int (own_lo8 c1))] (.int 0)) ∧ (¬ (c0 = (31 : Int32))) ∧ (¬ (c1 = (31 : Int32))))
theorem rm_ind_3 (l : Launch) (Z : State) (a0 : Array Value) (hw : HW Z a0) (ws : List Jvm.Cond) (G1 : Int32) (G3 : Value) (HG : own_G l Z a0 G1 G3) (h0 : Heap) (n0 : Nat) (X00 : Old Z n0 h0) (d : Addr) (x : Addr) (t : Addr) (kt : ClassId) (c0 : Int32) (c1 : Int32) (c2 : Int32) (hp0 : Fld Z h0 d "com/example/kartoteka/kartoteka/Field" "data" "Ljava/lang/String;" (.ref x)) (hp1 : Exa Z h0 x "java/lang/String") (hp2 : Fld Z h0 x "java/lang/String" "coder" "B" (.int 0)) (hp3 : Fld Z h0 x "java/lang/String" "value" "[B" (.ref t)) (hp4 : Arv Z h0 t kt .byte (3 : Int32) [(.int (own_lo8 c0)), (.int (own_lo8 c1)), (.int (own_lo8 c2))] (.int 0)) (hl0 : ¬ (c0 < (0 : Int32))) (hh0 : ¬ ((255 : Int32) < c0)) (hl1 : ¬ (c1 < (0 : Int32))) (hh1 : ¬ ((255 : Int32) < c1)) (hl2 : ¬ (c2 < (0 : Int32))) (hh2 : ¬ ((255 : Int32) < c2)) :
  own_CH l Z M624 prog_10_method_3_code 2 (some (.object "java/lang/String")) ws R_ind_3 #[(.ref d)] h0 (Q_ind_3 Z G1 G3 d x t kt c0 c1 c2 h0 n0) := by
 refine own_H (plainFor_of_name pn_604) ?_
 intro p e s m below meth c s₁ S0 Bd hZ hh CH0 hS0 CR0 hx hby hml hown hnm X0 e0 hS0d
 obtain ⟨O1, P1, O3f, rG3⟩ := id HG
 have hEL := own_EL hw
 have hSA := own_SA hw
 have N0 := Fr.nil n0
 have C0 : Steps p.tables e below S0 (s₁.setTop (mkF m 0 #[VR d, .unset] [])) := by rw [hS0d]; exact castTop (ef_625 m d) (Steps.refl _)
 obtain ⟨T_1, X_2, e_3, st_4⟩ := getF X0 hx hZ hown (host := "") (Or.inl (w45 hw)) Via.refl e0 hp0 (g := (mkF m 1 #[VR d, .unset] [(.ref d)])) rfl rfl (hb hby d31_1)
 obtain ⟨q_6, q_7, q_8, q_9, q_10⟩ := isOf (T := T_1) hZ e_3 hp1
 obtain ⟨_, _, ⟨T_5, L_5, k_5, n_5⟩, -, X_5, ⟨Lc_5, hQ_5, l_5, y_5, z_5⟩, st_5⟩ := X_2.virtualBack hx (y := M245) (z := M245) hown (mvT hZ (w52 hw)) (mvT hZ (w53 hw)) (notFace_of_selects (args := #[]) (mvT hZ (w55 hw))) (mvT hZ (w55 hw)) (mvT hZ (w54 hw)) (by decide) (backOf (W := 0) (rm_io1_3 l Z a0 hw [] G1 G3 HG h0 n0 X00 x t kt (own_lo8 c0) (own_lo8 c1) (own_lo8 c2) hp1 hp2 hp3 hp4) hZ (w56 hw) (w10 hw) (by decide) (by decide)) q_8 q_10 (g := (mkF m 6 #[VR d, .unset] [(.int 31), (.ref x)])) rfl (by rw [hml]; rfl) (Steps.refl _) (argsL := [(.int 31)]) (rest := []) (lenOf pd_630 rfl) rfl (by show 2 * 0 + _ ≤ _; exact Nat.le_of_eq rfl) (hb hby d31_6) (fun _ _ => ⟨rfl, e_3, (by decide : 0 + 0 ≤ _), (by decide : 0 + 0 ≤ _)⟩)
 dsimp only [Pt.U, Pt.locs, Pt.cells, Pt.slots] at X_5 l_5 y_5 z_5 st_5 hQ_5
 subst l_5 y_5 z_5
 have C_11 : Steps p.tables e below S0 (T_1.setTop (mkF m 6 #[VR d, .unset] [(.int 31), (.ref x)])) := by
  refine C0.trans ?_
  refine XS.aloadN X0.here hx rfl (hb hby d31_0) rfl rfl ?_
  refine st_4 _ ?_
  refine XS.bipush X_2.here hx rfl (hb hby d31_4) ?_
  exact Steps.refl _
 rcases hQ_5 with hQ_12 | hQ_13 | hQ_14 | hQ_15
 ·skip
  obtain ⟨rfl, N_16, e_17, g_18⟩ := hQ_12
  have N_19 := Fr.app N0 N_16
  have e_20 : T_5.heap = h0 := e_17
  obtain ⟨T_21, X_22, e_23, st_24⟩ := getF X_5 hx hZ hown (host := "") (Or.inl (w45 hw)) Via.refl e_20 hp0 (g := (mkF m 11 #[VR d, VI 0] [(.ref d)])) rfl rfl (hb hby d31_11)
  obtain ⟨_, _, ⟨T_25, L_25, k_25, n_25⟩, -, X_25, ⟨Lc_25, hQ_25, l_25, y_25, z_25⟩, st_25⟩ := Jvm.LawKit.callS X_22 hx (y := M175) hown (mvT hZ (w93 hw)) (mvT hZ (w90 hw)) (mvT hZ (w87 hw)) (mvT hZ (w91 hw)) (by decide) (backOf (W := 2) (rm_minR l Z a0 hw [] G1 G3 HG h0 n0 X00 (2 : Int32) (0 : Int32) (by decide)) hZ (w91 hw) (w87 hw) (by decide) (by decide)) (g := (mkF m 31 #[VR d, VI 0] [(.int 0), (.int 2), (.int 0), (.ref x)])) rfl (by rw [hml]; rfl) (argsL := [(.int 2), (.int 0)]) (rest := [(.int 0), (.ref x)]) (lenOf pd_197 rfl) rfl (by show 2 * 0 + _ ≤ _; exact Nat.le_of_eq rfl) (hb hby d31_31) (fun _ _ => ⟨rfl, e_23, (by decide : 0 + 0 ≤ _), (by decide : 0 + 0 ≤ _)⟩)
  dsimp only [Pt.U, Pt.locs, Pt.cells, Pt.slots] at X_25 l_25 y_25 z_25 st_25 hQ_25
  subst l_25 y_25 z_25
  obtain ⟨rfl, N_26, e_27⟩ := hQ_25
  have N_28 := Fr.app N_19 N_26
  have e_29 : T_25.heap = h0 := e_27
  obtain ⟨q_31, q_32, q_33, q_34, q_35⟩ := isOf (T := T_25) hZ e_29 hp1
  obtain ⟨_, _, ⟨T_30, L_30, k_30, n_30⟩, -, Y_30, S_30, G_30, ⟨Lc_30, hQ_30, l_30, y_30, z_30, R_30⟩, st_30⟩ := X_25.virtualBackS hx (y := M314) (z := M314) hown (mvT hZ (w94 hw)) (mvT hZ (w95 hw)) (notFace_of_selects (args := #[]) (mvT hZ (w97 hw))) (mvT hZ (w97 hw)) (mvT hZ (w96 hw)) (by decide) (backOfSH (vm0 := s.vm) (W := 0) (rm_sub_3_0 l Z a0 hw [] G1 G3 HG h0 n0 X00 x t kt (own_lo8 c0) (own_lo8 c1) (own_lo8 c2) hp1 hp2 hp3 hp4) hZ (w98 hw) (w10 hw) (by decide) (by decide) hEL CH0) q_33 q_35 (g := (mkF m 34 #[VR d, VI 0] [(.int 0), (.int 0), (.ref x)])) rfl (by rw [hml]; rfl) (Steps.refl _) (argsL := [(.int 0), (.int 0)]) (rest := []) (lenOf pd_651 rfl) rfl (by show 2 * 0 + _ ≤ _; exact Nat.le_of_eq rfl) (hb hby d31_34) (fun _ _ => ⟨rfl, e_29, (by decide : 0 + 2 ≤ _), (by decide : 0 + 4 ≤ _)⟩)
  dsimp only [Pt.U, Pt.locs, Pt.cells, Pt.slots] at Y_30 S_30 G_30 l_30 y_30 z_30 st_30 hQ_30 R_30
  subst l_30 y_30 z_30
  obtain ⟨X_30, hS_30, hZ_30, hown_30⟩ := rebS hS0 (n1 := T_25.heap.size) (by rw [show T_25.heap = h0 from e_29]; exact (Nat.le_refl _)) Y_30 S_30 G_30 hZ hown
  obtain ⟨a_36, a_37, k_38, rfl, N_39, K_40, g_41, g_42, g_43, g_44⟩ := hQ_30
  have N_45 := Fr.app N_28 N_39
  have CH_46 : CHv Z consts_1 T_30.vm T_30.heap := R_30.1
  have CR_47 : CHr Z consts_1 s.vm h0 T_30.vm T_30.heap := CR0.trans R_30
  have C_48 : Steps p.tables e below S0 (T_30.setTop (mkF m 37 #[VR d, VI 0] [(.ref a_36)])) := by
   refine C_11.trans ?_
   refine st_5.trans ?_
   refine XS.istoreN X_5.here hx rfl (hb hby d31_9) rfl (l' := #[VR d, VI 0]) rfl ?_
   refine XS.aloadN X_5.here hx rfl (hb hby d31_10) rfl rfl ?_
   refine st_24 _ ?_
   refine XS.iconst X_22.here hx rfl (hb hby d31_14) ?_
   refine XS.iconst X_22.here hx rfl (hb hby d31_15) ?_
   refine XS.iloadN X_22.here hx rfl (hb hby d31_16) rfl ?_
   refine XS.ifYes X_22.here hx rfl (pc0 := 17) (pc' := 30) rfl (hb hby d31_17) rfl (by decide) (by decide) (by decide) ?_
   refine XS.iloadN X_22.here hx rfl (hb hby d31_30) rfl ?_
   refine st_25 _ ?_
   refine st_30.trans ?_
   exact Steps.refl _
  have K_49 : Keep h0 T_30.heap [] := ((Keep.refl _ _).trans K_40 all0)
  obtain ⟨fs, hr, hrun, hended, hRE⟩ := X_30.leaveW hS_30 (by rw [show T_30.heap = T_30.heap from rfl]; exact (Nat.le_refl _)) (v := some (.ref a_36)) (fun h => by rw [Bd.returns] at h; cases h)
  refine ⟨_, _, C_48.trans (retOut X_30 hx Bd.returns rfl (Or.inr (Or.inr (Or.inr (Or.inr ⟨rfl, rfl, rfl⟩)))) (hb hby d31_37) hr), hrun, hended, _, _, rfl, ?_, ?_, hRE.1, hRE.2.1, hRE.2.2.1, hRE.2.2.2.mono (by decide) (by decide)⟩
  ·show Q_ind_3 Z G1 G3 d x t kt c0 c1 c2 h0 n0 (some (.ref a_36)) T_30.heap _
   exact Or.inl ⟨a_36, a_37, k_38, rfl, N_45, K_49, g_41, g_42, g_43, g_44, (own_is31 hl0 hh0 g_18)⟩
  ·show CHr Z consts_1 s.vm s.heap T_30.vm T_30.heap
   rw [hh]
   exact CR_47.trans (CHv.at X_30 hZ_30 hEL CH_46)
 ·skip
  obtain ⟨rfl, N_50, e_51, g_52, g_53⟩ := hQ_13
  have N_54 := Fr.app N0 N_50
  have e_55 : T_5.heap = h0 := e_51
  obtain ⟨T_56, X_57, e_58, st_59⟩ := getF X_5 hx hZ hown (host := "") (Or.inl (w45 hw)) Via.refl e_55 hp0 (g := (mkF m 11 #[VR d, VI 1] [(.ref d)])) rfl rfl (hb hby d31_11)
  obtain ⟨_, _, ⟨T_60, L_60, k_60, n_60⟩, -, X_60, ⟨Lc_60, hQ_60, l_60, y_60, z_60⟩, st_60⟩ := Jvm.LawKit.callS X_57 hx (y := M175) hown (mvT hZ (w93 hw)) (mvT hZ (w90 hw)) (mvT hZ (w87 hw)) (mvT hZ (w91 hw)) (by decide) (backOf (W := 2) (rm_minR l Z a0 hw [] G1 G3 HG h0 n0 X00 (2 : Int32) (1 : Int32) (by decide)) hZ (w91 hw) (w87 hw) (by decide) (by decide)) (g := (mkF m 31 #[VR d, VI 1] [(.int 1), (.int 2), (.int 0), (.ref x)])) rfl (by rw [hml]; rfl) (argsL := [(.int 2), (.int 1)]) (rest := [(.int 0), (.ref x)]) (lenOf pd_197 rfl) rfl (by show 2 * 0 + _ ≤ _; exact Nat.le_of_eq rfl) (hb hby d31_31) (fun _ _ => ⟨rfl, e_58, (by decide : 0 + 0 ≤ _), (by decide : 0 + 0 ≤ _)⟩)
  dsimp only [Pt.U, Pt.locs, Pt.cells, Pt.slots] at X_60 l_60 y_60 z_60 st_60 hQ_60
  subst l_60 y_60 z_60
  obtain ⟨rfl, N_61, e_62⟩ := hQ_60
  have N_63 := Fr.app N_54 N_61
  have e_64 : T_60.heap = h0 := e_62
  obtain ⟨q_66, q_67, q_68, q_69, q_70⟩ := isOf (T := T_60) hZ e_64 hp1
  obtain ⟨_, _, ⟨T_65, L_65, k_65, n_65⟩, -, X_65, ⟨Lc_65, hQ_65, l_65, y_65, z_65⟩, st_65⟩ := X_60.virtualBack hx (y := M314) (z := M314) hown (mvT hZ (w94 hw)) (mvT hZ (w95 hw)) (notFace_of_selects (args := #[]) (mvT hZ (w97 hw))) (mvT hZ (w97 hw)) (mvT hZ (w96 hw)) (by decide) (backOf (W := 0) (rm_sub_3_1 l Z a0 hw [] G1 G3 HG h0 n0 X00 x t kt (own_lo8 c0) (own_lo8 c1) (own_lo8 c2) hp1 hp2 hp3 hp4) hZ (w98 hw) (w10 hw) (by decide) (by decide)) q_68 q_70 (g := (mkF m 34 #[VR d, VI 1] [(.int 1), (.int 0), (.ref x)])) rfl (by rw [hml]; rfl) (Steps.refl _) (argsL := [(.int 0), (.int 1)]) (rest := []) (lenOf pd_651 rfl) rfl (by show 2 * 0 + _ ≤ _; exact Nat.le_of_eq rfl) (hb hby d31_34) (fun _ _ => ⟨rfl, e_64, (by decide : 0 + 2 ≤ _), (by decide : 0 + 5 ≤ _)⟩)
  dsimp only [Pt.U, Pt.locs, Pt.cells, Pt.slots] at X_65 l_65 y_65 z_65 st_65 hQ_65
  subst l_65 y_65 z_65
  obtain ⟨a_71, a_72, k_73, rfl, N_74, K_75, g_76, g_77, g_78, g_79⟩ := hQ_65
  have N_80 := Fr.app N_63 N_74
  have CH_81 : CHv Z consts_1 s.vm T_65.heap := CHv.keep K_75 sf0 CH0
  have CR_82 : CHr Z consts_1 s.vm h0 s.vm T_65.heap := CR0.trans (CHr.keep K_75 sf0 CH0)
  have C_83 : Steps p.tables e below S0 (T_65.setTop (mkF m 37 #[VR d, VI 1] [(.ref a_71)])) := by
   refine C_11.trans ?_
   refine st_5.trans ?_
   refine XS.istoreN X_5.here hx rfl (hb hby d31_9) rfl (l' := #[VR d, VI 1]) rfl ?_
   refine XS.aloadN X_5.here hx rfl (hb hby d31_10) rfl rfl ?_
   refine st_59 _ ?_
   refine XS.iconst X_57.here hx rfl (hb hby d31_14) ?_
   refine XS.iconst X_57.here hx rfl (hb hby d31_15) ?_
   refine XS.iloadN X_57.here hx rfl (hb hby d31_16) rfl ?_
   refine XS.ifYes X_57.here hx rfl (pc0 := 17) (pc' := 30) rfl (hb hby d31_17) rfl (by decide) (by decide) (by decide) ?_
   refine XS.iloadN X_57.here hx rfl (hb hby d31_30) rfl ?_
   refine st_60 _ ?_
   refine st_65.trans ?_
   exact Steps.refl _
  have K_84 : Keep h0 T_65.heap [] := ((Keep.refl _ _).trans K_75 all0)
  obtain ⟨fs, hr, hrun, hended, hRE⟩ := X_65.leaveW hS0 (by rw [show T_65.heap = T_65.heap from rfl]; exact (Nat.le_trans (Nat.le_refl _) K_75.1)) (v := some (.ref a_71)) (fun h => by rw [Bd.returns] at h; cases h)
  refine ⟨_, _, C_83.trans (retOut X_65 hx Bd.returns rfl (Or.inr (Or.inr (Or.inr (Or.inr ⟨rfl, rfl, rfl⟩)))) (hb hby d31_37) hr), hrun, hended, _, _, rfl, ?_, ?_, hRE.1, hRE.2.1, hRE.2.2.1, hRE.2.2.2.mono (by decide) (by decide)⟩
  ·show Q_ind_3 Z G1 G3 d x t kt c0 c1 c2 h0 n0 (some (.ref a_71)) T_65.heap _
   exact Or.inr (Or.inl ⟨a_71, a_72, k_73, rfl, N_80, K_84, g_76, g_77, g_78, g_79, (own_not31 g_52), (own_is31 hl1 hh1 g_53)⟩)
  ·show CHr Z consts_1 s.vm s.heap T_65.vm T_65.heap
   rw [hh]
   exact CR_82.trans (CHv.at X_65 hZ hEL CH_81)
 ·skip
  obtain ⟨rfl, N_85, e_86, g_87, g_88, g_89⟩ := hQ_14
  have N_90 := Fr.app N0 N_85
  have e_91 : T_5.heap = h0 := e_86
  obtain ⟨T_92, X_93, e_94, st_95⟩ := getF X_5 hx hZ hown (host := "") (Or.inl (w45 hw)) Via.refl e_91 hp0 (g := (mkF m 11 #[VR d, VI 2] [(.ref d)])) rfl rfl (hb hby d31_11)
  obtain ⟨_, _, ⟨T_96, L_96, k_96, n_96⟩, -, X_96, ⟨Lc_96, hQ_96, l_96, y_96, z_96⟩, st_96⟩ := Jvm.LawKit.callS X_93 hx (y := M175) hown (mvT hZ (w93 hw)) (mvT hZ (w90 hw)) (mvT hZ (w87 hw)) (mvT hZ (w91 hw)) (by decide) (backOf (W := 2) (rm_minL l Z a0 hw [] G1 G3 HG h0 n0 X00 (2 : Int32) (2 : Int32) (by decide)) hZ (w91 hw) (w87 hw) (by decide) (by decide)) (g := (mkF m 31 #[VR d, VI 2] [(.int 2), (.int 2), (.int 0), (.ref x)])) rfl (by rw [hml]; rfl) (argsL := [(.int 2), (.int 2)]) (rest := [(.int 0), (.ref x)]) (lenOf pd_197 rfl) rfl (by show 2 * 0 + _ ≤ _; exact Nat.le_of_eq rfl) (hb hby d31_31) (fun _ _ => ⟨rfl, e_94, (by decide : 0 + 0 ≤ _), (by decide : 0 + 0 ≤ _)⟩)
  dsimp only [Pt.U, Pt.locs, Pt.cells, Pt.slots] at X_96 l_96 y_96 z_96 st_96 hQ_96
  subst l_96 y_96 z_96
  obtain ⟨rfl, N_97, e_98⟩ := hQ_96
  have N_99 := Fr.app N_90 N_97
  have e_100 : T_96.heap = h0 := e_98
  obtain ⟨q_102, q_103, q_104, q_105, q_106⟩ := isOf (T := T_96) hZ e_100 hp1
  obtain ⟨_, _, ⟨T_101, L_101, k_101, n_101⟩, -, X_101, ⟨Lc_101, hQ_101, l_101, y_101, z_101⟩, st_101⟩ := X_96.virtualBack hx (y := M314) (z := M314) hown (mvT hZ (w94 hw)) (mvT hZ (w95 hw)) (notFace_of_selects (args := #[]) (mvT hZ (w97 hw))) (mvT hZ (w97 hw)) (mvT hZ (w96 hw)) (by decide) (backOf (W := 0) (rm_sub_3_2 l Z a0 hw [] G1 G3 HG h0 n0 X00 x t kt (own_lo8 c0) (own_lo8 c1) (own_lo8 c2) hp1 hp2 hp3 hp4) hZ (w98 hw) (w10 hw) (by decide) (by decide)) q_104 q_106 (g := (mkF m 34 #[VR d, VI 2] [(.int 2), (.int 0), (.ref x)])) rfl (by rw [hml]; rfl) (Steps.refl _) (argsL := [(.int 0), (.int 2)]) (rest := []) (lenOf pd_651 rfl) rfl (by show 2 * 0 + _ ≤ _; exact Nat.le_of_eq rfl) (hb hby d31_34) (fun _ _ => ⟨rfl, e_100, (by decide : 0 + 2 ≤ _), (by decide : 0 + 6 ≤ _)⟩)
  dsimp only [Pt.U, Pt.locs, Pt.cells, Pt.slots] at X_101 l_101 y_101 z_101 st_101 hQ_101
  subst l_101 y_101 z_101
  obtain ⟨a_107, a_108, k_109, rfl, N_110, K_111, g_112, g_113, g_114, g_115⟩ := hQ_101
  have N_116 := Fr.app N_99 N_110
  have CH_117 : CHv Z consts_1 s.vm T_101.heap := CHv.keep K_111 sf0 CH0
  have CR_118 : CHr Z consts_1 s.vm h0 s.vm T_101.heap := CR0.trans (CHr.keep K_111 sf0 CH0)
  have C_119 : Steps p.tables e below S0 (T_101.setTop (mkF m 37 #[VR d, VI 2] [(.ref a_107)])) := by
   refine C_11.trans ?_
   refine st_5.trans ?_
   refine XS.istoreN X_5.here hx rfl (hb hby d31_9) rfl (l' := #[VR d, VI 2]) rfl ?_
   refine XS.aloadN X_5.here hx rfl (hb hby d31_10) rfl rfl ?_
   refine st_95 _ ?_
   refine XS.iconst X_93.here hx rfl (hb hby d31_14) ?_
   refine XS.iconst X_93.here hx rfl (hb hby d31_15) ?_
   refine XS.iloadN X_93.here hx rfl (hb hby d31_16) rfl ?_
   refine XS.ifYes X_93.here hx rfl (pc0 := 17) (pc' := 30) rfl (hb hby d31_17) rfl (by decide) (by decide) (by decide) ?_
   refine XS.iloadN X_93.here hx rfl (hb hby d31_30) rfl ?_
   refine st_96 _ ?_
   refine st_101.trans ?_
   exact Steps.refl _
  have K_120 : Keep h0 T_101.heap [] := ((Keep.refl _ _).trans K_111 all0)
  obtain ⟨fs, hr, hrun, hended, hRE⟩ := X_101.leaveW hS0 (by rw [show T_101.heap = T_101.heap from rfl]; exact (Nat.le_trans (Nat.le_refl _) K_111.1)) (v := some (.ref a_107)) (fun h => by rw [Bd.returns] at h; cases h)
  refine ⟨_, _, C_119.trans (retOut X_101 hx Bd.returns rfl (Or.inr (Or.inr (Or.inr (Or.inr ⟨rfl, rfl, rfl⟩)))) (hb hby d31_37) hr), hrun, hended, _, _, rfl, ?_, ?_, hRE.1, hRE.2.1, hRE.2.2.1, hRE.2.2.2.mono (by decide) (by decide)⟩
  ·show Q_ind_3 Z G1 G3 d x t kt c0 c1 c2 h0 n0 (some (.ref a_107)) T_101.heap _
   exact Or.inr (Or.inr (⟨a_107, a_108, k_109, rfl, N_116, K_120, g_112, g_113, g_114, g_115, (own_not31 g_87), (own_not31 g_88)⟩))
  ·show CHr Z consts_1 s.vm s.heap T_101.vm T_101.heap
   rw [hh]
   exact CR_118.trans (CHv.at X_101 hZ hEL CH_117)
 ·skip
  obtain ⟨rfl, N_121, e_122, g_123, g_124, g_125⟩ := hQ_15
  have N_126 := Fr.app N0 N_121
  have e_127 : T_5.heap = h0 := e_122
  obtain ⟨T_128, X_129, e_130, st_131⟩ := getF X_5 hx hZ hown (host := "") (Or.inl (w45 hw)) Via.refl e_127 hp0 (g := (mkF m 11 #[VR d, .val (.int (-1 : Int32))] [(.ref d)])) rfl rfl (hb hby d31_11)
  obtain ⟨T_132, X_133, e_134, st_135⟩ := getF X_129 hx hZ hown (host := "") (Or.inl (w45 hw)) Via.refl e_130 hp0 (g := (mkF m 21 #[VR d, .val (.int (-1 : Int32))] [(.ref d), (.int 2), (.int 0), (.ref x)])) rfl rfl (hb hby d31_21)
  obtain ⟨q_137, q_138, q_139, q_140, q_141⟩ := isOf (T := T_132) hZ e_134 hp1
  obtain ⟨_, _, ⟨T_136, L_136, k_136, n_136⟩, -, X_136, ⟨Lc_136, hQ_136, l_136, y_136, z_136⟩, st_136⟩ := X_133.virtualBack hx (y := M141) (z := M141) hown (mvT hZ (w92 hw)) (mvT hZ (w69 hw)) (notFace_of_selects (args := #[]) (mvT hZ (w71 hw))) (mvT hZ (w71 hw)) (mvT hZ (w70 hw)) (by decide) (backOf (W := 3) (rm_lenany l Z a0 hw [] G1 G3 HG h0 n0 X00 x t kt (3 : Int32) [(.int (own_lo8 c0)), (.int (own_lo8 c1)), (.int (own_lo8 c2))] hp1 hp2 hp3 hp4) hZ (w72 hw) (w10 hw) (by decide) (by decide)) q_139 q_141 (g := (mkF m 24 #[VR d, .val (.int (-1 : Int32))] [(.ref x), (.int 2), (.int 0), (.ref x)])) rfl (by rw [hml]; rfl) (Steps.refl _) (argsL := []) (rest := [(.int 2), (.int 0), (.ref x)]) (lenOf pd_232 rfl) rfl (by show 2 * 0 + _ ≤ _; exact Nat.le_of_eq rfl) (hb hby d31_24) (fun _ _ => ⟨rfl, e_134, (by decide : 0 + 0 ≤ _), (by decide : 0 + 0 ≤ _)⟩)
  dsimp only [Pt.U, Pt.locs, Pt.cells, Pt.slots] at X_136 l_136 y_136 z_136 st_136 hQ_136
  subst l_136 y_136 z_136
  obtain ⟨rfl, N_142, e_143⟩ := hQ_136
  have N_144 := Fr.app N_126 N_142
  have e_145 : T_136.heap = h0 := e_143
  obtain ⟨_, _, ⟨T_146, L_146, k_146, n_146⟩, -, X_146, ⟨Lc_146, hQ_146, l_146, y_146, z_146⟩, st_146⟩ := Jvm.LawKit.callS X_136 hx (y := M175) hown (mvT hZ (w93 hw)) (mvT hZ (w90 hw)) (mvT hZ (w87 hw)) (mvT hZ (w91 hw)) (by decide) (backOf (W := 2) (rm_minL l Z a0 hw [] G1 G3 HG h0 n0 X00 (2 : Int32) (3 : Int32) (by decide)) hZ (w91 hw) (w87 hw) (by decide) (by decide)) (g := (mkF m 31 #[VR d, .val (.int (-1 : Int32))] [(.int 3), (.int 2), (.int 0), (.ref x)])) rfl (by rw [hml]; rfl) (argsL := [(.int 2), (.int 3)]) (rest := [(.int 0), (.ref x)]) (lenOf pd_197 rfl) rfl (by show 2 * 0 + _ ≤ _; exact Nat.le_of_eq rfl) (hb hby d31_31) (fun _ _ => ⟨rfl, e_145, (by decide : 0 + 0 ≤ _), (by decide : 0 + 0 ≤ _)⟩)
  dsimp only [Pt.U, Pt.locs, Pt.cells, Pt.slots] at X_146 l_146 y_146 z_146 st_146 hQ_146
  subst l_146 y_146 z_146
  obtain ⟨rfl, N_147, e_148⟩ := hQ_146
  have N_149 := Fr.app N_144 N_147
  have e_150 : T_146.heap = h0 := e_148
  obtain ⟨q_152, q_153, q_154, q_155, q_156⟩ := isOf (T := T_146) hZ e_150 hp1
  obtain ⟨_, _, ⟨T_151, L_151, k_151, n_151⟩, -, X_151, ⟨Lc_151, hQ_151, l_151, y_151, z_151⟩, st_151⟩ := X_146.virtualBack hx (y := M314) (z := M314) hown (mvT hZ (w94 hw)) (mvT hZ (w95 hw)) (notFace_of_selects (args := #[]) (mvT hZ (w97 hw))) (mvT hZ (w97 hw)) (mvT hZ (w96 hw)) (by decide) (backOf (W := 0) (rm_sub_3_2 l Z a0 hw [] G1 G3 HG h0 n0 X00 x t kt (own_lo8 c0) (own_lo8 c1) (own_lo8 c2) hp1 hp2 hp3 hp4) hZ (w98 hw) (w10 hw) (by decide) (by decide)) q_154 q_156 (g := (mkF m 34 #[VR d, .val (.int (-1 : Int32))] [(.int 2), (.int 0), (.ref x)])) rfl (by rw [hml]; rfl) (Steps.refl _) (argsL := [(.int 0), (.int 2)]) (rest := []) (lenOf pd_651 rfl) rfl (by show 2 * 0 + _ ≤ _; exact Nat.le_of_eq rfl) (hb hby d31_34) (fun _ _ => ⟨rfl, e_150, (by decide : 0 + 2 ≤ _), (by decide : 0 + 6 ≤ _)⟩)
  dsimp only [Pt.U, Pt.locs, Pt.cells, Pt.slots] at X_151 l_151 y_151 z_151 st_151 hQ_151
  subst l_151 y_151 z_151
  obtain ⟨a_157, a_158, k_159, rfl, N_160, K_161, g_162, g_163, g_164, g_165⟩ := hQ_151
  have N_166 := Fr.app N_149 N_160
  have CH_167 : CHv Z consts_1 s.vm T_151.heap := CHv.keep K_161 sf0 CH0
  have CR_168 : CHr Z consts_1 s.vm h0 s.vm T_151.heap := CR0.trans (CHr.keep K_161 sf0 CH0)
  have C_169 : Steps p.tables e below S0 (T_151.setTop (mkF m 37 #[VR d, .val (.int (-1 : Int32))] [(.ref a_157)])) := by
   refine C_11.trans ?_
   refine st_5.trans ?_
   refine XS.istoreN X_5.here hx rfl (hb hby d31_9) rfl (l' := #[VR d, .val (.int (-1 : Int32))]) rfl ?_
   refine XS.aloadN X_5.here hx rfl (hb hby d31_10) rfl rfl ?_
   refine st_131 _ ?_
   refine XS.iconst X_129.here hx rfl (hb hby d31_14) ?_
   refine XS.iconst X_129.here hx rfl (hb hby d31_15) ?_
   refine XS.iloadN X_129.here hx rfl (hb hby d31_16) rfl ?_
   refine XS.ifNo X_129.here hx rfl (hb hby d31_17) rfl (by decide) ?_
   refine XS.aloadN X_129.here hx rfl (hb hby d31_20) rfl rfl ?_
   refine st_135 _ ?_
   refine st_136.trans ?_
   refine XS.goto X_136.here hx rfl (pc0 := 27) (pc' := 31) rfl (hb hby d31_27) (by decide) (by decide) ?_
   refine st_146 _ ?_
   refine st_151.trans ?_
   exact Steps.refl _
  have K_170 : Keep h0 T_151.heap [] := ((Keep.refl _ _).trans K_161 all0)
  obtain ⟨fs, hr, hrun, hended, hRE⟩ := X_151.leaveW hS0 (by rw [show T_151.heap = T_151.heap from rfl]; exact (Nat.le_trans (Nat.le_refl _) K_161.1)) (v := some (.ref a_157)) (fun h => by rw [Bd.returns] at h; cases h)
  refine ⟨_, _, C_169.trans (retOut X_151 hx Bd.returns rfl (Or.inr (Or.inr (Or.inr (Or.inr ⟨rfl, rfl, rfl⟩)))) (hb hby d31_37) hr), hrun, hended, _, _, rfl, ?_, ?_, hRE.1, hRE.2.1, hRE.2.2.1, hRE.2.2.2.mono (by decide) (by decide)⟩
  ·show Q_ind_3 Z G1 G3 d x t kt c0 c1 c2 h0 n0 (some (.ref a_157)) T_151.heap _
   exact Or.inr (Or.inr (⟨a_157, a_158, k_159, rfl, N_166, K_170, g_162, g_163, g_164, g_165, (own_not31 g_123), (own_not31 g_124)⟩))
  ·show CHr Z consts_1 s.vm s.heap T_151.vm T_151.heap
   rw [hh]
   exact CR_168.trans (CHv.at X_151 hZ hEL CH_167)
abbrev R_ind_4 : Room := { frames := 5, cells := 2, slots := 6, locals := 80 }
def Q_ind_4 (Z : State) (G1 : Int32) (G3 : Value) (d : Addr) (x : Addr) (t : Addr) (kt : ClassId) (c0 : Int32) (c1 : Int32) (c2 : Int32) (c3 : Int32) (h0 : Heap) (n0 : Nat) (v : Option Value) (h : Heap) (L : List Loc) : Prop := (∃ r : Addr, ∃ u : Addr, ∃ ku : ClassId, v = some (.ref r) ∧ Fr n0 L ∧ Keep h0 h [] ∧ (Exa Z h r "java/lang/String") ∧ (Fld Z h r "java/lang/String" "coder" "B" (.int 0)) ∧ (Fld Z h r "java/lang/String" "value" "[B" (.ref u)) ∧ (Arv Z h u ku .byte (0 : Int32) [] (.int 0)) ∧ (c0 = (31 : Int32))) ∨ (∃ r : Addr, ∃ u : Addr, ∃ ku : ClassId, v = some (.ref r) ∧ Fr n0 L ∧ Keep h0 h [] ∧ (Exa Z h r "java/lang/String") ∧ (Fld Z h r "java/lang/String" "coder" "B" (.int 0)) ∧ (Fld Z h r "java/lang/String" "value" "[B" (.ref u)) ∧ (Arv Z h u ku .byte (1 : Int32) [(.int (own_lo8 c0))] (.int 0)) ∧ (¬ (c0 = (31 : Int32))) ∧ (c1 = (31 : Int32))) ∨ (∃ r : Addr, ∃ u : Addr, ∃ ku : ClassId, v = some (.ref r) ∧ Fr n0 L ∧ Keep h0 h [] ∧ (Exa Z h r "java/lang/String") ∧ (Fld Z h r "java/lang/String" "coder" "B" (.int 0)) ∧ (Fld Z h r "java/lang/String" "value" "[B" (.ref u)) ∧ (Arv Z h u ku .byte (2 : Int32) [(.int (own_lo8 c0)), (.int (own_lo8 c1))] (.int 0)) ∧ (¬ (c0 = (31 : Int32))) ∧ (¬ (c1 = (31 : Int32))))
theorem rm_ind_4 (l : Launch) (Z : State) (a0 : Array Value) (hw : HW Z a0) (ws : List Jvm.Cond) (G1 : Int32) (G3 : Value) (HG : own_G l Z a0 G1 G3) (h0 : Heap) (n0 : Nat) (X00 : Old Z n0 h0) (d : Addr) (x : Addr) (t : Addr) (kt : ClassId) (c0 : Int32) (c1 : Int32) (c2 : Int32) (c3 : Int32) (hp0 : Fld Z h0 d "com/example/kartoteka/kartoteka/Field" "data" "Ljava/lang/String;" (.ref x)) (hp1 : Exa Z h0 x "java/lang/String") (hp2 : Fld Z h0 x "java/lang/String" "coder" "B" (.int 0)) (hp3 : Fld Z h0 x "java/lang/String" "value" "[B" (.ref t)) (hp4 : Arv Z h0 t kt .byte (4 : Int32) [(.int (own_lo8 c0)), (.int (own_lo8 c1)), (.int (own_lo8 c2)), (.int (own_lo8 c3))] (.int 0)) (hl0 : ¬ (c0 < (0 : Int32))) (hh0 : ¬ ((255 : Int32) < c0)) (hl1 : ¬ (c1 < (0 : Int32))) (hh1 : ¬ ((255 : Int32) < c1)) (hl2 : ¬ (c2 < (0 : Int32))) (hh2 : ¬ ((255 : Int32) < c2)) (hl3 : ¬ (c3 < (0 : Int32))) (hh3 : ¬ ((255 : Int32) < c3)) :
  own_CH l Z M624 prog_10_method_3_code 2 (some (.object "java/lang/String")) ws R_ind_4 #[(.ref d)] h0 (Q_ind_4 Z G1 G3 d x t kt c0 c1 c2 c3 h0 n0) := by
 refine own_H (plainFor_of_name pn_604) ?_
 intro p e s m below meth c s₁ S0 Bd hZ hh CH0 hS0 CR0 hx hby hml hown hnm X0 e0 hS0d
 obtain ⟨O1, P1, O3f, rG3⟩ := id HG
 have hEL := own_EL hw
 have hSA := own_SA hw
 have N0 := Fr.nil n0
 have C0 : Steps p.tables e below S0 (s₁.setTop (mkF m 0 #[VR d, .unset] [])) := by rw [hS0d]; exact castTop (ef_625 m d) (Steps.refl _)
 obtain ⟨T_1, X_2, e_3, st_4⟩ := getF X0 hx hZ hown (host := "") (Or.inl (w45 hw)) Via.refl e0 hp0 (g := (mkF m 1 #[VR d, .unset] [(.ref d)])) rfl rfl (hb hby d31_1)
 obtain ⟨q_6, q_7, q_8, q_9, q_10⟩ := isOf (T := T_1) hZ e_3 hp1
 obtain ⟨_, _, ⟨T_5, L_5, k_5, n_5⟩, -, X_5, ⟨Lc_5, hQ_5, l_5, y_5, z_5⟩, st_5⟩ := X_2.virtualBack hx (y := M245) (z := M245) hown (mvT hZ (w52 hw)) (mvT hZ (w53 hw)) (notFace_of_selects (args := #[]) (mvT hZ (w55 hw))) (mvT hZ (w55 hw)) (mvT hZ (w54 hw)) (by decide) (backOf (W := 0) (rm_io1_4 l Z a0 hw [] G1 G3 HG h0 n0 X00 x t kt (own_lo8 c0) (own_lo8 c1) (own_lo8 c2) (own_lo8 c3) hp1 hp2 hp3 hp4) hZ (w56 hw) (w10 hw) (by decide) (by decide)) q_8 q_10 (g := (mkF m 6 #[VR d, .unset] [(.int 31), (.ref x)])) rfl (by rw [hml]; rfl) (Steps.refl _) (argsL := [(.int 31)]) (rest := []) (lenOf pd_630 rfl) rfl (by show 2 * 0 + _ ≤ _; exact Nat.le_of_eq rfl) (hb hby d31_6) (fun _ _ => ⟨rfl, e_3, (by decide : 0 + 0 ≤ _), (by decide : 0 + 0 ≤ _)⟩)
 dsimp only [Pt.U, Pt.locs, Pt.cells, Pt.slots] at X_5 l_5 y_5 z_5 st_5 hQ_5
 subst l_5 y_5 z_5
 have C_11 : Steps p.tables e below S0 (T_1.setTop (mkF m 6 #[VR d, .unset] [(.int 31), (.ref x)])) := by
  refine C0.trans ?_
  refine XS.aloadN X0.here hx rfl (hb hby d31_0) rfl rfl ?_
  refine st_4 _ ?_
  refine XS.bipush X_2.here hx rfl (hb hby d31_4) ?_
  exact Steps.refl _
 rcases hQ_5 with hQ_12 | hQ_13 | hQ_14 | hQ_15 | hQ_16
 ·skip
  obtain ⟨rfl, N_17, e_18, g_19⟩ := hQ_12
  have N_20 := Fr.app N0 N_17
  have e_21 : T_5.heap = h0 := e_18
  obtain ⟨T_22, X_23, e_24, st_25⟩ := getF X_5 hx hZ hown (host := "") (Or.inl (w45 hw)) Via.refl e_21 hp0 (g := (mkF m 11 #[VR d, VI 0] [(.ref d)])) rfl rfl (hb hby d31_11)
  obtain ⟨_, _, ⟨T_26, L_26, k_26, n_26⟩, -, X_26, ⟨Lc_26, hQ_26, l_26, y_26, z_26⟩, st_26⟩ := Jvm.LawKit.callS X_23 hx (y := M175) hown (mvT hZ (w93 hw)) (mvT hZ (w90 hw)) (mvT hZ (w87 hw)) (mvT hZ (w91 hw)) (by decide) (backOf (W := 2) (rm_minR l Z a0 hw [] G1 G3 HG h0 n0 X00 (2 : Int32) (0 : Int32) (by decide)) hZ (w91 hw) (w87 hw) (by decide) (by decide)) (g := (mkF m 31 #[VR d, VI 0] [(.int 0), (.int 2), (.int 0), (.ref x)])) rfl (by rw [hml]; rfl) (argsL := [(.int 2), (.int 0)]) (rest := [(.int 0), (.ref x)]) (lenOf pd_197 rfl) rfl (by show 2 * 0 + _ ≤ _; exact Nat.le_of_eq rfl) (hb hby d31_31) (fun _ _ => ⟨rfl, e_24, (by decide : 0 + 0 ≤ _), (by decide : 0 + 0 ≤ _)⟩)
  dsimp only [Pt.U, Pt.locs, Pt.cells, Pt.slots] at X_26 l_26 y_26 z_26 st_26 hQ_26
  subst l_26 y_26 z_26
  obtain ⟨rfl, N_27, e_28⟩ := hQ_26
  have N_29 := Fr.app N_20 N_27
  have e_30 : T_26.heap = h0 := e_28
  obtain ⟨q_32, q_33, q_34, q_35, q_36⟩ := isOf (T := T_26) hZ e_30 hp1
  obtain ⟨_, _, ⟨T_31, L_31, k_31, n_31⟩, -, Y_31, S_31, G_31, ⟨Lc_31, hQ_31, l_31, y_31, z_31, R_31⟩, st_31⟩ := X_26.virtualBackS hx (y := M314) (z := M314) hown (mvT hZ (w94 hw)) (mvT hZ (w95 hw)) (notFace_of_selects (args := #[]) (mvT hZ (w97 hw))) (mvT hZ (w97 hw)) (mvT hZ (w96 hw)) (by decide) (backOfSH (vm0 := s.vm) (W := 0) (rm_sub_4_0 l Z a0 hw [] G1 G3 HG h0 n0 X00 x t kt (own_lo8 c0) (own_lo8 c1) (own_lo8 c2) (own_lo8 c3) hp1 hp2 hp3 hp4) hZ (w98 hw) (w10 hw) (by decide) (by decide) hEL CH0) q_34 q_36 (g := (mkF m 34 #[VR d, VI 0] [(.int 0), (.int 0), (.ref x)])) rfl (by rw [hml]; rfl) (Steps.refl _) (argsL := [(.int 0), (.int 0)]) (rest := []) (lenOf pd_651 rfl) rfl (by show 2 * 0 + _ ≤ _; exact Nat.le_of_eq rfl) (hb hby d31_34) (fun _ _ => ⟨rfl, e_30, (by decide : 0 + 2 ≤ _), (by decide : 0 + 4 ≤ _)⟩)
  dsimp only [Pt.U, Pt.locs, Pt.cells, Pt.slots] at Y_31 S_31 G_31 l_31 y_31 z_31 st_31 hQ_31 R_31
  subst l_31 y_31 z_31
  obtain ⟨X_31, hS_31, hZ_31, hown_31⟩ := rebS hS0 (n1 := T_26.heap.size) (by rw [show T_26.heap = h0 from e_30]; exact (Nat.le_refl _)) Y_31 S_31 G_31 hZ hown
  obtain ⟨a_37, a_38, k_39, rfl, N_40, K_41, g_42, g_43, g_44, g_45⟩ := hQ_31
  have N_46 := Fr.app N_29 N_40
  have CH_47 : CHv Z consts_1 T_31.vm T_31.heap := R_31.1
  have CR_48 : CHr Z consts_1 s.vm h0 T_31.vm T_31.heap := CR0.trans R_31
  have C_49 : Steps p.tables e below S0 (T_31.setTop (mkF m 37 #[VR d, VI 0] [(.ref a_37)])) := by
   refine C_11.trans ?_
   refine st_5.trans ?_
   refine XS.istoreN X_5.here hx rfl (hb hby d31_9) rfl (l' := #[VR d, VI 0]) rfl ?_
   refine XS.aloadN X_5.here hx rfl (hb hby d31_10) rfl rfl ?_
   refine st_25 _ ?_
   refine XS.iconst X_23.here hx rfl (hb hby d31_14) ?_
   refine XS.iconst X_23.here hx rfl (hb hby d31_15) ?_
   refine XS.iloadN X_23.here hx rfl (hb hby d31_16) rfl ?_
   refine XS.ifYes X_23.here hx rfl (pc0 := 17) (pc' := 30) rfl (hb hby d31_17) rfl (by decide) (by decide) (by decide) ?_
   refine XS.iloadN X_23.here hx rfl (hb hby d31_30) rfl ?_
   refine st_26 _ ?_
   refine st_31.trans ?_
   exact Steps.refl _
  have K_50 : Keep h0 T_31.heap [] := ((Keep.refl _ _).trans K_41 all0)
  obtain ⟨fs, hr, hrun, hended, hRE⟩ := X_31.leaveW hS_31 (by rw [show T_31.heap = T_31.heap from rfl]; exact (Nat.le_refl _)) (v := some (.ref a_37)) (fun h => by rw [Bd.returns] at h; cases h)
  refine ⟨_, _, C_49.trans (retOut X_31 hx Bd.returns rfl (Or.inr (Or.inr (Or.inr (Or.inr ⟨rfl, rfl, rfl⟩)))) (hb hby d31_37) hr), hrun, hended, _, _, rfl, ?_, ?_, hRE.1, hRE.2.1, hRE.2.2.1, hRE.2.2.2.mono (by decide) (by decide)⟩
  ·show Q_ind_4 Z G1 G3 d x t kt c0 c1 c2 c3 h0 n0 (some (.ref a_37)) T_31.heap _
   exact Or.inl ⟨a_37, a_38, k_39, rfl, N_46, K_50, g_42, g_43, g_44, g_45, (own_is31 hl0 hh0 g_19)⟩
  ·show CHr Z consts_1 s.vm s.heap T_31.vm T_31.heap
   rw [hh]
   exact CR_48.trans (CHv.at X_31 hZ_31 hEL CH_47)
 ·skip
  obtain ⟨rfl, N_51, e_52, g_53, g_54⟩ := hQ_13
  have N_55 := Fr.app N0 N_51
  have e_56 : T_5.heap = h0 := e_52
  obtain ⟨T_57, X_58, e_59, st_60⟩ := getF X_5 hx hZ hown (host := "") (Or.inl (w45 hw)) Via.refl e_56 hp0 (g := (mkF m 11 #[VR d, VI 1] [(.ref d)])) rfl rfl (hb hby d31_11)
  obtain ⟨_, _, ⟨T_61, L_61, k_61, n_61⟩, -, X_61, ⟨Lc_61, hQ_61, l_61, y_61, z_61⟩, st_61⟩ := Jvm.LawKit.callS X_58 hx (y := M175) hown (mvT hZ (w93 hw)) (mvT hZ (w90 hw)) (mvT hZ (w87 hw)) (mvT hZ (w91 hw)) (by decide) (backOf (W := 2) (rm_minR l Z a0 hw [] G1 G3 HG h0 n0 X00 (2 : Int32) (1 : Int32) (by decide)) hZ (w91 hw) (w87 hw) (by decide) (by decide)) (g := (mkF m 31 #[VR d, VI 1] [(.int 1), (.int 2), (.int 0), (.ref x)])) rfl (by rw [hml]; rfl) (argsL := [(.int 2), (.int 1)]) (rest := [(.int 0), (.ref x)]) (lenOf pd_197 rfl) rfl (by show 2 * 0 + _ ≤ _; exact Nat.le_of_eq rfl) (hb hby d31_31) (fun _ _ => ⟨rfl, e_59, (by decide : 0 + 0 ≤ _), (by decide : 0 + 0 ≤ _)⟩)
  dsimp only [Pt.U, Pt.locs, Pt.cells, Pt.slots] at X_61 l_61 y_61 z_61 st_61 hQ_61
  subst l_61 y_61 z_61
  obtain ⟨rfl, N_62, e_63⟩ := hQ_61
  have N_64 := Fr.app N_55 N_62
  have e_65 : T_61.heap = h0 := e_63
  obtain ⟨q_67, q_68, q_69, q_70, q_71⟩ := isOf (T := T_61) hZ e_65 hp1
  obtain ⟨_, _, ⟨T_66, L_66, k_66, n_66⟩, -, X_66, ⟨Lc_66, hQ_66, l_66, y_66, z_66⟩, st_66⟩ := X_61.virtualBack hx (y := M314) (z := M314) hown (mvT hZ (w94 hw)) (mvT hZ (w95 hw)) (notFace_of_selects (args := #[]) (mvT hZ (w97 hw))) (mvT hZ (w97 hw)) (mvT hZ (w96 hw)) (by decide) (backOf (W := 0) (rm_sub_4_1 l Z a0 hw [] G1 G3 HG h0 n0 X00 x t kt (own_lo8 c0) (own_lo8 c1) (own_lo8 c2) (own_lo8 c3) hp1 hp2 hp3 hp4) hZ (w98 hw) (w10 hw) (by decide) (by decide)) q_69 q_71 (g := (mkF m 34 #[VR d, VI 1] [(.int 1), (.int 0), (.ref x)])) rfl (by rw [hml]; rfl) (Steps.refl _) (argsL := [(.int 0), (.int 1)]) (rest := []) (lenOf pd_651 rfl) rfl (by show 2 * 0 + _ ≤ _; exact Nat.le_of_eq rfl) (hb hby d31_34) (fun _ _ => ⟨rfl, e_65, (by decide : 0 + 2 ≤ _), (by decide : 0 + 5 ≤ _)⟩)
  dsimp only [Pt.U, Pt.locs, Pt.cells, Pt.slots] at X_66 l_66 y_66 z_66 st_66 hQ_66
  subst l_66 y_66 z_66
  obtain ⟨a_72, a_73, k_74, rfl, N_75, K_76, g_77, g_78, g_79, g_80⟩ := hQ_66
  have N_81 := Fr.app N_64 N_75
  have CH_82 : CHv Z consts_1 s.vm T_66.heap := CHv.keep K_76 sf0 CH0
  have CR_83 : CHr Z consts_1 s.vm h0 s.vm T_66.heap := CR0.trans (CHr.keep K_76 sf0 CH0)
  have C_84 : Steps p.tables e below S0 (T_66.setTop (mkF m 37 #[VR d, VI 1] [(.ref a_72)])) := by
   refine C_11.trans ?_
   refine st_5.trans ?_
   refine XS.istoreN X_5.here hx rfl (hb hby d31_9) rfl (l' := #[VR d, VI 1]) rfl ?_
   refine XS.aloadN X_5.here hx rfl (hb hby d31_10) rfl rfl ?_
   refine st_60 _ ?_
   refine XS.iconst X_58.here hx rfl (hb hby d31_14) ?_
   refine XS.iconst X_58.here hx rfl (hb hby d31_15) ?_
   refine XS.iloadN X_58.here hx rfl (hb hby d31_16) rfl ?_
   refine XS.ifYes X_58.here hx rfl (pc0 := 17) (pc' := 30) rfl (hb hby d31_17) rfl (by decide) (by decide) (by decide) ?_
   refine XS.iloadN X_58.here hx rfl (hb hby d31_30) rfl ?_
   refine st_61 _ ?_
   refine st_66.trans ?_
   exact Steps.refl _
  have K_85 : Keep h0 T_66.heap [] := ((Keep.refl _ _).trans K_76 all0)
  obtain ⟨fs, hr, hrun, hended, hRE⟩ := X_66.leaveW hS0 (by rw [show T_66.heap = T_66.heap from rfl]; exact (Nat.le_trans (Nat.le_refl _) K_76.1)) (v := some (.ref a_72)) (fun h => by rw [Bd.returns] at h; cases h)
  refine ⟨_, _, C_84.trans (retOut X_66 hx Bd.returns rfl (Or.inr (Or.inr (Or.inr (Or.inr ⟨rfl, rfl, rfl⟩)))) (hb hby d31_37) hr), hrun, hended, _, _, rfl, ?_, ?_, hRE.1, hRE.2.1, hRE.2.2.1, hRE.2.2.2.mono (by decide) (by decide)⟩
  ·show Q_ind_4 Z G1 G3 d x t kt c0 c1 c2 c3 h0 n0 (some (.ref a_72)) T_66.heap _
   exact Or.inr (Or.inl ⟨a_72, a_73, k_74, rfl, N_81, K_85, g_77, g_78, g_79, g_80, (own_not31 g_53), (own_is31 hl1 hh1 g_54)⟩)
  ·show CHr Z consts_1 s.vm s.heap T_66.vm T_66.heap
   rw [hh]
   exact CR_83.trans (CHv.at X_66 hZ hEL CH_82)
 ·skip
  obtain ⟨rfl, N_86, e_87, g_88, g_89, g_90⟩ := hQ_14
  have N_91 := Fr.app N0 N_86
  have e_92 : T_5.heap = h0 := e_87
  obtain ⟨T_93, X_94, e_95, st_96⟩ := getF X_5 hx hZ hown (host := "") (Or.inl (w45 hw)) Via.refl e_92 hp0 (g := (mkF m 11 #[VR d, VI 2] [(.ref d)])) rfl rfl (hb hby d31_11)
  obtain ⟨_, _, ⟨T_97, L_97, k_97, n_97⟩, -, X_97, ⟨Lc_97, hQ_97, l_97, y_97, z_97⟩, st_97⟩ := Jvm.LawKit.callS X_94 hx (y := M175) hown (mvT hZ (w93 hw)) (mvT hZ (w90 hw)) (mvT hZ (w87 hw)) (mvT hZ (w91 hw)) (by decide) (backOf (W := 2) (rm_minL l Z a0 hw [] G1 G3 HG h0 n0 X00 (2 : Int32) (2 : Int32) (by decide)) hZ (w91 hw) (w87 hw) (by decide) (by decide)) (g := (mkF m 31 #[VR d, VI 2] [(.int 2), (.int 2), (.int 0), (.ref x)])) rfl (by rw [hml]; rfl) (argsL := [(.int 2), (.int 2)]) (rest := [(.int 0), (.ref x)]) (lenOf pd_197 rfl) rfl (by show 2 * 0 + _ ≤ _; exact Nat.le_of_eq rfl) (hb hby d31_31) (fun _ _ => ⟨rfl, e_95, (by decide : 0 + 0 ≤ _), (by decide : 0 + 0 ≤ _)⟩)
  dsimp only [Pt.U, Pt.locs, Pt.cells, Pt.slots] at X_97 l_97 y_97 z_97 st_97 hQ_97
  subst l_97 y_97 z_97
  obtain ⟨rfl, N_98, e_99⟩ := hQ_97
  have N_100 := Fr.app N_91 N_98
  have e_101 : T_97.heap = h0 := e_99
  obtain ⟨q_103, q_104, q_105, q_106, q_107⟩ := isOf (T := T_97) hZ e_101 hp1
  obtain ⟨_, _, ⟨T_102, L_102, k_102, n_102⟩, -, X_102, ⟨Lc_102, hQ_102, l_102, y_102, z_102⟩, st_102⟩ := X_97.virtualBack hx (y := M314) (z := M314) hown (mvT hZ (w94 hw)) (mvT hZ (w95 hw)) (notFace_of_selects (args := #[]) (mvT hZ (w97 hw))) (mvT hZ (w97 hw)) (mvT hZ (w96 hw)) (by decide) (backOf (W := 0) (rm_sub_4_2 l Z a0 hw [] G1 G3 HG h0 n0 X00 x t kt (own_lo8 c0) (own_lo8 c1) (own_lo8 c2) (own_lo8 c3) hp1 hp2 hp3 hp4) hZ (w98 hw) (w10 hw) (by decide) (by decide)) q_105 q_107 (g := (mkF m 34 #[VR d, VI 2] [(.int 2), (.int 0), (.ref x)])) rfl (by rw [hml]; rfl) (Steps.refl _) (argsL := [(.int 0), (.int 2)]) (rest := []) (lenOf pd_651 rfl) rfl (by show 2 * 0 + _ ≤ _; exact Nat.le_of_eq rfl) (hb hby d31_34) (fun _ _ => ⟨rfl, e_101, (by decide : 0 + 2 ≤ _), (by decide : 0 + 6 ≤ _)⟩)
  dsimp only [Pt.U, Pt.locs, Pt.cells, Pt.slots] at X_102 l_102 y_102 z_102 st_102 hQ_102
  subst l_102 y_102 z_102
  obtain ⟨a_108, a_109, k_110, rfl, N_111, K_112, g_113, g_114, g_115, g_116⟩ := hQ_102
  have N_117 := Fr.app N_100 N_111
  have CH_118 : CHv Z consts_1 s.vm T_102.heap := CHv.keep K_112 sf0 CH0
  have CR_119 : CHr Z consts_1 s.vm h0 s.vm T_102.heap := CR0.trans (CHr.keep K_112 sf0 CH0)
  have C_120 : Steps p.tables e below S0 (T_102.setTop (mkF m 37 #[VR d, VI 2] [(.ref a_108)])) := by
   refine C_11.trans ?_
   refine st_5.trans ?_
   refine XS.istoreN X_5.here hx rfl (hb hby d31_9) rfl (l' := #[VR d, VI 2]) rfl ?_
   refine XS.aloadN X_5.here hx rfl (hb hby d31_10) rfl rfl ?_
   refine st_96 _ ?_
   refine XS.iconst X_94.here hx rfl (hb hby d31_14) ?_
   refine XS.iconst X_94.here hx rfl (hb hby d31_15) ?_
   refine XS.iloadN X_94.here hx rfl (hb hby d31_16) rfl ?_
   refine XS.ifYes X_94.here hx rfl (pc0 := 17) (pc' := 30) rfl (hb hby d31_17) rfl (by decide) (by decide) (by decide) ?_
   refine XS.iloadN X_94.here hx rfl (hb hby d31_30) rfl ?_
   refine st_97 _ ?_
   refine st_102.trans ?_
   exact Steps.refl _
  have K_121 : Keep h0 T_102.heap [] := ((Keep.refl _ _).trans K_112 all0)
  obtain ⟨fs, hr, hrun, hended, hRE⟩ := X_102.leaveW hS0 (by rw [show T_102.heap = T_102.heap from rfl]; exact (Nat.le_trans (Nat.le_refl _) K_112.1)) (v := some (.ref a_108)) (fun h => by rw [Bd.returns] at h; cases h)
  refine ⟨_, _, C_120.trans (retOut X_102 hx Bd.returns rfl (Or.inr (Or.inr (Or.inr (Or.inr ⟨rfl, rfl, rfl⟩)))) (hb hby d31_37) hr), hrun, hended, _, _, rfl, ?_, ?_, hRE.1, hRE.2.1, hRE.2.2.1, hRE.2.2.2.mono (by decide) (by decide)⟩
  ·show Q_ind_4 Z G1 G3 d x t kt c0 c1 c2 c3 h0 n0 (some (.ref a_108)) T_102.heap _
   exact Or.inr (Or.inr (⟨a_108, a_109, k_110, rfl, N_117, K_121, g_113, g_114, g_115, g_116, (own_not31 g_88), (own_not31 g_89)⟩))
  ·show CHr Z consts_1 s.vm s.heap T_102.vm T_102.heap
   rw [hh]
   exact CR_119.trans (CHv.at X_102 hZ hEL CH_118)
 ·skip
  obtain ⟨rfl, N_122, e_123, g_124, g_125, g_126, g_127⟩ := hQ_15
  have N_128 := Fr.app N0 N_122
  have e_129 : T_5.heap = h0 := e_123
  obtain ⟨T_130, X_131, e_132, st_133⟩ := getF X_5 hx hZ hown (host := "") (Or.inl (w45 hw)) Via.refl e_129 hp0 (g := (mkF m 11 #[VR d, VI 3] [(.ref d)])) rfl rfl (hb hby d31_11)
  obtain ⟨_, _, ⟨T_134, L_134, k_134, n_134⟩, -, X_134, ⟨Lc_134, hQ_134, l_134, y_134, z_134⟩, st_134⟩ := Jvm.LawKit.callS X_131 hx (y := M175) hown (mvT hZ (w93 hw)) (mvT hZ (w90 hw)) (mvT hZ (w87 hw)) (mvT hZ (w91 hw)) (by decide) (backOf (W := 2) (rm_minL l Z a0 hw [] G1 G3 HG h0 n0 X00 (2 : Int32) (3 : Int32) (by decide)) hZ (w91 hw) (w87 hw) (by decide) (by decide)) (g := (mkF m 31 #[VR d, VI 3] [(.int 3), (.int 2), (.int 0), (.ref x)])) rfl (by rw [hml]; rfl) (argsL := [(.int 2), (.int 3)]) (rest := [(.int 0), (.ref x)]) (lenOf pd_197 rfl) rfl (by show 2 * 0 + _ ≤ _; exact Nat.le_of_eq rfl) (hb hby d31_31) (fun _ _ => ⟨rfl, e_132, (by decide : 0 + 0 ≤ _), (by decide : 0 + 0 ≤ _)⟩)
  dsimp only [Pt.U, Pt.locs, Pt.cells, Pt.slots] at X_134 l_134 y_134 z_134 st_134 hQ_134
  subst l_134 y_134 z_134
  obtain ⟨rfl, N_135, e_136⟩ := hQ_134
  have N_137 := Fr.app N_128 N_135
  have e_138 : T_134.heap = h0 := e_136
  obtain ⟨q_140, q_141, q_142, q_143, q_144⟩ := isOf (T := T_134) hZ e_138 hp1
  obtain ⟨_, _, ⟨T_139, L_139, k_139, n_139⟩, -, X_139, ⟨Lc_139, hQ_139, l_139, y_139, z_139⟩, st_139⟩ := X_134.virtualBack hx (y := M314) (z := M314) hown (mvT hZ (w94 hw)) (mvT hZ (w95 hw)) (notFace_of_selects (args := #[]) (mvT hZ (w97 hw))) (mvT hZ (w97 hw)) (mvT hZ (w96 hw)) (by decide) (backOf (W := 0) (rm_sub_4_2 l Z a0 hw [] G1 G3 HG h0 n0 X00 x t kt (own_lo8 c0) (own_lo8 c1) (own_lo8 c2) (own_lo8 c3) hp1 hp2 hp3 hp4) hZ (w98 hw) (w10 hw) (by decide) (by decide)) q_142 q_144 (g := (mkF m 34 #[VR d, VI 3] [(.int 2), (.int 0), (.ref x)])) rfl (by rw [hml]; rfl) (Steps.refl _) (argsL := [(.int 0), (.int 2)]) (rest := []) (lenOf pd_651 rfl) rfl (by show 2 * 0 + _ ≤ _; exact Nat.le_of_eq rfl) (hb hby d31_34) (fun _ _ => ⟨rfl, e_138, (by decide : 0 + 2 ≤ _), (by decide : 0 + 6 ≤ _)⟩)
  dsimp only [Pt.U, Pt.locs, Pt.cells, Pt.slots] at X_139 l_139 y_139 z_139 st_139 hQ_139
  subst l_139 y_139 z_139
  obtain ⟨a_145, a_146, k_147, rfl, N_148, K_149, g_150, g_151, g_152, g_153⟩ := hQ_139
  have N_154 := Fr.app N_137 N_148
  have CH_155 : CHv Z consts_1 s.vm T_139.heap := CHv.keep K_149 sf0 CH0
  have CR_156 : CHr Z consts_1 s.vm h0 s.vm T_139.heap := CR0.trans (CHr.keep K_149 sf0 CH0)
  have C_157 : Steps p.tables e below S0 (T_139.setTop (mkF m 37 #[VR d, VI 3] [(.ref a_145)])) := by
   refine C_11.trans ?_
   refine st_5.trans ?_
   refine XS.istoreN X_5.here hx rfl (hb hby d31_9) rfl (l' := #[VR d, VI 3]) rfl ?_
   refine XS.aloadN X_5.here hx rfl (hb hby d31_10) rfl rfl ?_
   refine st_133 _ ?_
   refine XS.iconst X_131.here hx rfl (hb hby d31_14) ?_
   refine XS.iconst X_131.here hx rfl (hb hby d31_15) ?_
   refine XS.iloadN X_131.here hx rfl (hb hby d31_16) rfl ?_
   refine XS.ifYes X_131.here hx rfl (pc0 := 17) (pc' := 30) rfl (hb hby d31_17) rfl (by decide) (by decide) (by decide) ?_
   refine XS.iloadN X_131.here hx rfl (hb hby d31_30) rfl ?_
   refine st_134 _ ?_
   refine st_139.trans ?_
   exact Steps.refl _
  have K_158 : Keep h0 T_139.heap [] := ((Keep.refl _ _).trans K_149 all0)
  obtain ⟨fs, hr, hrun, hended, hRE⟩ := X_139.leaveW hS0 (by rw [show T_139.heap = T_139.heap from rfl]; exact (Nat.le_trans (Nat.le_refl _) K_149.1)) (v := some (.ref a_145)) (fun h => by rw [Bd.returns] at h; cases h)
  refine ⟨_, _, C_157.trans (retOut X_139 hx Bd.returns rfl (Or.inr (Or.inr (Or.inr (Or.inr ⟨rfl, rfl, rfl⟩)))) (hb hby d31_37) hr), hrun, hended, _, _, rfl, ?_, ?_, hRE.1, hRE.2.1, hRE.2.2.1, hRE.2.2.2.mono (by decide) (by decide)⟩
  ·show Q_ind_4 Z G1 G3 d x t kt c0 c1 c2 c3 h0 n0 (some (.ref a_145)) T_139.heap _
   exact Or.inr (Or.inr (⟨a_145, a_146, k_147, rfl, N_154, K_158, g_150, g_151, g_152, g_153, (own_not31 g_124), (own_not31 g_125)⟩))
  ·show CHr Z consts_1 s.vm s.heap T_139.vm T_139.heap
   rw [hh]
   exact CR_156.trans (CHv.at X_139 hZ hEL CH_155)
 ·skip
  obtain ⟨rfl, N_159, e_160, g_161, g_162, g_163, g_164⟩ := hQ_16
  have N_165 := Fr.app N0 N_159
  have e_166 : T_5.heap = h0 := e_160
  obtain ⟨T_167, X_168, e_169, st_170⟩ := getF X_5 hx hZ hown (host := "") (Or.inl (w45 hw)) Via.refl e_166 hp0 (g := (mkF m 11 #[VR d, .val (.int (-1 : Int32))] [(.ref d)])) rfl rfl (hb hby d31_11)
  obtain ⟨T_171, X_172, e_173, st_174⟩ := getF X_168 hx hZ hown (host := "") (Or.inl (w45 hw)) Via.refl e_169 hp0 (g := (mkF m 21 #[VR d, .val (.int (-1 : Int32))] [(.ref d), (.int 2), (.int 0), (.ref x)])) rfl rfl (hb hby d31_21)
  obtain ⟨q_176, q_177, q_178, q_179, q_180⟩ := isOf (T := T_171) hZ e_173 hp1
  obtain ⟨_, _, ⟨T_175, L_175, k_175, n_175⟩, -, X_175, ⟨Lc_175, hQ_175, l_175, y_175, z_175⟩, st_175⟩ := X_172.virtualBack hx (y := M141) (z := M141) hown (mvT hZ (w92 hw)) (mvT hZ (w69 hw)) (notFace_of_selects (args := #[]) (mvT hZ (w71 hw))) (mvT hZ (w71 hw)) (mvT hZ (w70 hw)) (by decide) (backOf (W := 3) (rm_lenany l Z a0 hw [] G1 G3 HG h0 n0 X00 x t kt (4 : Int32) [(.int (own_lo8 c0)), (.int (own_lo8 c1)), (.int (own_lo8 c2)), (.int (own_lo8 c3))] hp1 hp2 hp3 hp4) hZ (w72 hw) (w10 hw) (by decide) (by decide)) q_178 q_180 (g := (mkF m 24 #[VR d, .val (.int (-1 : Int32))] [(.ref x), (.int 2), (.int 0), (.ref x)])) rfl (by rw [hml]; rfl) (Steps.refl _) (argsL := []) (rest := [(.int 2), (.int 0), (.ref x)]) (lenOf pd_232 rfl) rfl (by show 2 * 0 + _ ≤ _; exact Nat.le_of_eq rfl) (hb hby d31_24) (fun _ _ => ⟨rfl, e_173, (by decide : 0 + 0 ≤ _), (by decide : 0 + 0 ≤ _)⟩)
  dsimp only [Pt.U, Pt.locs, Pt.cells, Pt.slots] at X_175 l_175 y_175 z_175 st_175 hQ_175
  subst l_175 y_175 z_175
  obtain ⟨rfl, N_181, e_182⟩ := hQ_175
  have N_183 := Fr.app N_165 N_181
  have e_184 : T_175.heap = h0 := e_182
  obtain ⟨_, _, ⟨T_185, L_185, k_185, n_185⟩, -, X_185, ⟨Lc_185, hQ_185, l_185, y_185, z_185⟩, st_185⟩ := Jvm.LawKit.callS X_175 hx (y := M175) hown (mvT hZ (w93 hw)) (mvT hZ (w90 hw)) (mvT hZ (w87 hw)) (mvT hZ (w91 hw)) (by decide) (backOf (W := 2) (rm_minL l Z a0 hw [] G1 G3 HG h0 n0 X00 (2 : Int32) (4 : Int32) (by decide)) hZ (w91 hw) (w87 hw) (by decide) (by decide)) (g := (mkF m 31 #[VR d, .val (.int (-1 : Int32))] [(.int 4), (.int 2), (.int 0), (.ref x)])) rfl (by rw [hml]; rfl) (argsL := [(.int 2), (.int 4)]) (rest := [(.int 0), (.ref x)]) (lenOf pd_197 rfl) rfl (by show 2 * 0 + _ ≤ _; exact Nat.le_of_eq rfl) (hb hby d31_31) (fun _ _ => ⟨rfl, e_184, (by decide : 0 + 0 ≤ _), (by decide : 0 + 0 ≤ _)⟩)
  dsimp only [Pt.U, Pt.locs, Pt.cells, Pt.slots] at X_185 l_185 y_185 z_185 st_185 hQ_185
  subst l_185 y_185 z_185
  obtain ⟨rfl, N_186, e_187⟩ := hQ_185
  have N_188 := Fr.app N_183 N_186
  have e_189 : T_185.heap = h0 := e_187
  obtain ⟨q_191, q_192, q_193, q_194, q_195⟩ := isOf (T := T_185) hZ e_189 hp1
  obtain ⟨_, _, ⟨T_190, L_190, k_190, n_190⟩, -, X_190, ⟨Lc_190, hQ_190, l_190, y_190, z_190⟩, st_190⟩ := X_185.virtualBack hx (y := M314) (z := M314) hown (mvT hZ (w94 hw)) (mvT hZ (w95 hw)) (notFace_of_selects (args := #[]) (mvT hZ (w97 hw))) (mvT hZ (w97 hw)) (mvT hZ (w96 hw)) (by decide) (backOf (W := 0) (rm_sub_4_2 l Z a0 hw [] G1 G3 HG h0 n0 X00 x t kt (own_lo8 c0) (own_lo8 c1) (own_lo8 c2) (own_lo8 c3) hp1 hp2 hp3 hp4) hZ (w98 hw) (w10 hw) (by decide) (by decide)) q_193 q_195 (g := (mkF m 34 #[VR d, .val (.int (-1 : Int32))] [(.int 2), (.int 0), (.ref x)])) rfl (by rw [hml]; rfl) (Steps.refl _) (argsL := [(.int 0), (.int 2)]) (rest := []) (lenOf pd_651 rfl) rfl (by show 2 * 0 + _ ≤ _; exact Nat.le_of_eq rfl) (hb hby d31_34) (fun _ _ => ⟨rfl, e_189, (by decide : 0 + 2 ≤ _), (by decide : 0 + 6 ≤ _)⟩)
  dsimp only [Pt.U, Pt.locs, Pt.cells, Pt.slots] at X_190 l_190 y_190 z_190 st_190 hQ_190
  subst l_190 y_190 z_190
  obtain ⟨a_196, a_197, k_198, rfl, N_199, K_200, g_201, g_202, g_203, g_204⟩ := hQ_190
  have N_205 := Fr.app N_188 N_199
  have CH_206 : CHv Z consts_1 s.vm T_190.heap := CHv.keep K_200 sf0 CH0
  have CR_207 : CHr Z consts_1 s.vm h0 s.vm T_190.heap := CR0.trans (CHr.keep K_200 sf0 CH0)
  have C_208 : Steps p.tables e below S0 (T_190.setTop (mkF m 37 #[VR d, .val (.int (-1 : Int32))] [(.ref a_196)])) := by
   refine C_11.trans ?_
   refine st_5.trans ?_
   refine XS.istoreN X_5.here hx rfl (hb hby d31_9) rfl (l' := #[VR d, .val (.int (-1 : Int32))]) rfl ?_
   refine XS.aloadN X_5.here hx rfl (hb hby d31_10) rfl rfl ?_
   refine st_170 _ ?_
   refine XS.iconst X_168.here hx rfl (hb hby d31_14) ?_
   refine XS.iconst X_168.here hx rfl (hb hby d31_15) ?_
   refine XS.iloadN X_168.here hx rfl (hb hby d31_16) rfl ?_
   refine XS.ifNo X_168.here hx rfl (hb hby d31_17) rfl (by decide) ?_
   refine XS.aloadN X_168.here hx rfl (hb hby d31_20) rfl rfl ?_
   refine st_174 _ ?_
   refine st_175.trans ?_
   refine XS.goto X_175.here hx rfl (pc0 := 27) (pc' := 31) rfl (hb hby d31_27) (by decide) (by decide) ?_
   refine st_185 _ ?_
   refine st_190.trans ?_
   exact Steps.refl _
  have K_209 : Keep h0 T_190.heap [] := ((Keep.refl _ _).trans K_200 all0)
  obtain ⟨fs, hr, hrun, hended, hRE⟩ := X_190.leaveW hS0 (by rw [show T_190.heap = T_190.heap from rfl]; exact (Nat.le_trans (Nat.le_refl _) K_200.1)) (v := some (.ref a_196)) (fun h => by rw [Bd.returns] at h; cases h)
  refine ⟨_, _, C_208.trans (retOut X_190 hx Bd.returns rfl (Or.inr (Or.inr (Or.inr (Or.inr ⟨rfl, rfl, rfl⟩)))) (hb hby d31_37) hr), hrun, hended, _, _, rfl, ?_, ?_, hRE.1, hRE.2.1, hRE.2.2.1, hRE.2.2.2.mono (by decide) (by decide)⟩
  ·show Q_ind_4 Z G1 G3 d x t kt c0 c1 c2 c3 h0 n0 (some (.ref a_196)) T_190.heap _
   exact Or.inr (Or.inr (⟨a_196, a_197, k_198, rfl, N_205, K_209, g_201, g_202, g_203, g_204, (own_not31 g_161), (own_not31 g_162)⟩))
  ·show CHr Z consts_1 s.vm s.heap T_190.vm T_190.heap
   rw [hh]
   exact CR_207.trans (CHv.at X_190 hZ hEL CH_206)
theorem ef_659 (m : MethodId) (x0 : Int32) (x1 : Int32) (x2 : Int32) (x3 : Int32) (x4 : Int32) : entryFrame m #[(.int x0), (.int x1), (.int x2), (.int x3), (.int x4)] maxLocals = mkF m 0 #[VI x0, VI x1, VI x2, VI x3, VI x4, .unset, .unset, .unset, .unset, .unset, .unset, .unset, .unset, .unset, .unset] [] := by first | (simp [entryFrame, mkF, argsToLocals, Value.category, maxLocals]; done) | rfl
theorem w0 {Z a0} (hw : HW Z a0) : Cond.before (Cond.constant "com/example/kartoteka/kartoteka/FieldIndicatorsPinLaw" (12 : Nat) (2147483647 : Int32)) a0 Z = true := hw _ (List.mem_of_getElem? (i := 0) rfl)
theorem w4 {Z a0} (hw : HW Z a0) : Cond.before (Cond.code (⟨"com/example/kartoteka/kartoteka/FieldIndicatorsPinLaw", "ch", "(I)C"⟩ : MethodName) method_2_code (1 : Nat) (Option.some FieldType.char)) a0 Z = true := hw _ (List.mem_of_getElem? (i := 4) rfl)
theorem w3 {Z a0} (hw : HW Z a0) : Cond.before (Cond.initialized "com/example/kartoteka/kartoteka/FieldIndicatorsPinLaw") a0 Z = true := hw _ (List.mem_of_getElem? (i := 3) rfl)
theorem pd_663 : parseMethodDescriptor "(I)C" = some ⟨[.int], some .char⟩ := by decide +kernel
theorem w1 {Z a0} (hw : HW Z a0) : Cond.before (Cond.methodLink "com/example/kartoteka/kartoteka/FieldIndicatorsPinLaw" (13 : Nat) (⟨"com/example/kartoteka/kartoteka/FieldIndicatorsPinLaw", "ch", "(I)C"⟩ : MethodName)) a0 Z = true := hw _ (List.mem_of_getElem? (i := 1) rfl)
theorem w2 {Z a0} (hw : HW Z a0) : Cond.before (Cond.static (⟨"com/example/kartoteka/kartoteka/FieldIndicatorsPinLaw", "ch", "(I)C"⟩ : MethodName)) a0 Z = true := hw _ (List.mem_of_getElem? (i := 2) rfl)
theorem w7 {Z a0} (hw : HW Z a0) : Cond.before (Cond.code (⟨"com/example/kartoteka/kartoteka/FieldIndicatorsPinLaw", "make", "(ICCCC)Ljava/lang/String;"⟩ : MethodName) method_3_code (5 : Nat) (Option.some (FieldType.object "java/lang/String"))) a0 Z = true := hw _ (List.mem_of_getElem? (i := 7) rfl)
theorem pd_667 : parseMethodDescriptor "(ICCCC)Ljava/lang/String;" = some ⟨[.int, .char, .char, .char, .char], some (.object "java/lang/String")⟩ := by decide +kernel
theorem w5 {Z a0} (hw : HW Z a0) : Cond.before (Cond.methodLink "com/example/kartoteka/kartoteka/FieldIndicatorsPinLaw" (19 : Nat) (⟨"com/example/kartoteka/kartoteka/FieldIndicatorsPinLaw", "make", "(ICCCC)Ljava/lang/String;"⟩ : MethodName)) a0 Z = true := hw _ (List.mem_of_getElem? (i := 5) rfl)
theorem w6 {Z a0} (hw : HW Z a0) : Cond.before (Cond.static (⟨"com/example/kartoteka/kartoteka/FieldIndicatorsPinLaw", "make", "(ICCCC)Ljava/lang/String;"⟩ : MethodName)) a0 Z = true := hw _ (List.mem_of_getElem? (i := 6) rfl)
theorem w30 {Z a0} (hw : HW Z a0) : Cond.before (Cond.classLink "com/example/kartoteka/kartoteka/FieldIndicatorsPinLaw" (23 : Nat) "com/example/kartoteka/kartoteka/Field") a0 Z = true := hw _ (List.mem_of_getElem? (i := 30) rfl)
theorem w32 {Z a0} (hw : HW Z a0) : Cond.before (Cond.initialized "com/example/kartoteka/kartoteka/Field") a0 Z = true := hw _ (List.mem_of_getElem? (i := 32) rfl)
theorem w33 {Z a0} (hw : HW Z a0) : Cond.before (Cond.stringLink "com/example/kartoteka/kartoteka/FieldIndicatorsPinLaw" (25 : Nat) "245") a0 Z = true := hw _ (List.mem_of_getElem? (i := 33) rfl)
theorem w36 {Z a0} (hw : HW Z a0) : Cond.before (Cond.code (⟨"com/example/kartoteka/kartoteka/Field", "<init>", "(Ljava/lang/String;Ljava/lang/String;)V"⟩ : MethodName) prog_10_method_1_code (3 : Nat) (Option.none : Option FieldType)) a0 Z = true := hw _ (List.mem_of_getElem? (i := 36) rfl)
theorem pd_674 : parseMethodDescriptor "(Ljava/lang/String;Ljava/lang/String;)V" = some ⟨[(.object "java/lang/String"), (.object "java/lang/String")], none⟩ := by decide +kernel
theorem w34 {Z a0} (hw : HW Z a0) : Cond.before (Cond.methodLink "com/example/kartoteka/kartoteka/FieldIndicatorsPinLaw" (27 : Nat) (⟨"com/example/kartoteka/kartoteka/Field", "<init>", "(Ljava/lang/String;Ljava/lang/String;)V"⟩ : MethodName)) a0 Z = true := hw _ (List.mem_of_getElem? (i := 34) rfl)
theorem w35 {Z a0} (hw : HW Z a0) : Cond.before (Cond.instanceMethod (⟨"com/example/kartoteka/kartoteka/Field", "<init>", "(Ljava/lang/String;Ljava/lang/String;)V"⟩ : MethodName)) a0 Z = true := hw _ (List.mem_of_getElem? (i := 35) rfl)
theorem w51 {Z a0} (hw : HW Z a0) : Cond.before (Cond.code (⟨"com/example/kartoteka/kartoteka/Field", "indicators", "()Ljava/lang/String;"⟩ : MethodName) prog_10_method_3_code (2 : Nat) (Option.some (FieldType.object "java/lang/String"))) a0 Z = true := hw _ (List.mem_of_getElem? (i := 51) rfl)
theorem pd_678 : parseMethodDescriptor "()Ljava/lang/String;" = some ⟨[], some (.object "java/lang/String")⟩ := by decide +kernel
theorem w47 {Z a0} (hw : HW Z a0) : Cond.before (Cond.methodLink "com/example/kartoteka/kartoteka/FieldIndicatorsPinLaw" (30 : Nat) (⟨"com/example/kartoteka/kartoteka/Field", "indicators", "()Ljava/lang/String;"⟩ : MethodName)) a0 Z = true := hw _ (List.mem_of_getElem? (i := 47) rfl)
theorem w50 {Z a0} (hw : HW Z a0) : Cond.before (Cond.selects "com/example/kartoteka/kartoteka/Field" (⟨"com/example/kartoteka/kartoteka/Field", "indicators", "()Ljava/lang/String;"⟩ : MethodName) (⟨"com/example/kartoteka/kartoteka/Field", "indicators", "()Ljava/lang/String;"⟩ : MethodName)) a0 Z = true := hw _ (List.mem_of_getElem? (i := 50) rfl)
theorem w49 {Z a0} (hw : HW Z a0) : Cond.before (Cond.instanceMethod (⟨"com/example/kartoteka/kartoteka/Field", "indicators", "()Ljava/lang/String;"⟩ : MethodName)) a0 Z = true := hw _ (List.mem_of_getElem? (i := 49) rfl)
theorem w48 {Z a0} (hw : HW Z a0) : Cond.before (Cond.declares (⟨"com/example/kartoteka/kartoteka/Field", "indicators", "()Ljava/lang/String;"⟩ : MethodName)) a0 Z = true := hw _ (List.mem_of_getElem? (i := 48) rfl)
theorem w107 {Z a0} (hw : HW Z a0) : Cond.before (Cond.methodLink "com/example/kartoteka/kartoteka/FieldIndicatorsPinLaw" (34 : Nat) (⟨"java/lang/String", "length", "()I"⟩ : MethodName)) a0 Z = true := hw _ (List.mem_of_getElem? (i := 107) rfl)
theorem w129 {Z a0} (hw : HW Z a0) : Cond.before (Cond.code (⟨"java/lang/String", "charAt", "(I)C"⟩ : MethodName) jdk_42_method_56_code (2 : Nat) (Option.some FieldType.char)) a0 Z = true := hw _ (List.mem_of_getElem? (i := 129) rfl)
theorem w125 {Z a0} (hw : HW Z a0) : Cond.before (Cond.methodLink "com/example/kartoteka/kartoteka/FieldIndicatorsPinLaw" (38 : Nat) (⟨"java/lang/String", "charAt", "(I)C"⟩ : MethodName)) a0 Z = true := hw _ (List.mem_of_getElem? (i := 125) rfl)
theorem w128 {Z a0} (hw : HW Z a0) : Cond.before (Cond.selects "java/lang/String" (⟨"java/lang/String", "charAt", "(I)C"⟩ : MethodName) (⟨"java/lang/String", "charAt", "(I)C"⟩ : MethodName)) a0 Z = true := hw _ (List.mem_of_getElem? (i := 128) rfl)
theorem w127 {Z a0} (hw : HW Z a0) : Cond.before (Cond.instanceMethod (⟨"java/lang/String", "charAt", "(I)C"⟩ : MethodName)) a0 Z = true := hw _ (List.mem_of_getElem? (i := 127) rfl)
theorem w126 {Z a0} (hw : HW Z a0) : Cond.before (Cond.declares (⟨"java/lang/String", "charAt", "(I)C"⟩ : MethodName)) a0 Z = true := hw _ (List.mem_of_getElem? (i := 126) rfl)
def Q_law (Z : State) (G1 : Int32) (G3 : Value) (p0 : Int32) (p1 : Int32) (p2 : Int32) (p3 : Int32) (p4 : Int32) (h0 : Heap) (n0 : Nat) (v : Option Value) (h : Heap) (L : List Loc) : Prop := (v = some (.int 1) ∧ Fr n0 L ∧ Keep h0 h [])
theorem rm_law (l : Launch) (Z : State) (a0 : Array Value) (hw : HW Z a0) (ws : List Jvm.Cond) (G1 : Int32) (G3 : Value) (HG : own_G l Z a0 G1 G3) (h0 : Heap) (n0 : Nat) (X00 : Old Z n0 h0) (p0 : Int32) (p1 : Int32) (p2 : Int32) (p3 : Int32) (p4 : Int32)  :
  own_CH l Z x code maxLocals ret ws room_1 #[(.int p0), (.int p1), (.int p2), (.int p3), (.int p4)] h0 (Q_law Z G1 G3 p0 p1 p2 p3 p4 h0 n0) := by
 refine own_H (plainFor_of_name pn_493) ?_
 intro p e s m below meth c s₁ S0 Bd hZ hh CH0 hS0 CR0 hx hby hml hown hnm X0 e0 hS0d
 obtain ⟨O1, P1, O3f, rG3⟩ := id HG
 have hEL := own_EL hw
 have hSA := own_SA hw
 have N0 := Fr.nil n0
 have C0 : Steps p.tables e below S0 (s₁.setTop (mkF m 0 #[VI p0, VI p1, VI p2, VI p3, VI p4, .unset, .unset, .unset, .unset, .unset, .unset, .unset, .unset, .unset, .unset] [])) := by rw [hS0d]; exact castTop (ef_659 m p0 p1 p2 p3 p4) (Steps.refl _)
 have C_1 : Steps p.tables e below S0 (s₁.setTop (mkF m 6 #[VI p0, VI p1, VI p2, VI p3, VI p4, .unset, .unset, .unset, .unset, .unset, .unset, .unset, .unset, .unset, .unset] [(.int ((p0 &&& (2147483647 : Int32)) % (5 : Int32)))])) := by
  refine C0.trans ?_
  refine XS.iloadN X0.here hx rfl (hb hby at_0) rfl ?_
  refine X0.ldcI hx hown (mvT hZ (w0 hw)) rfl (hb hby at_1) ?_
  refine XS.iand X0.here hx rfl (hb hby at_3) rfl ?_
  refine XS.iconst X0.here hx rfl (hb hby at_4) ?_
  refine iremM X0 hx rfl (hb hby at_5) rfl (by decide) ?_
  exact Steps.refl _
 rcases own_mod5 p0 with hn_2 | hn_3 | hn_4 | hn_5 | hn_6
 ·skip
  have C_7 : Steps p.tables e below S0 (s₁.setTop (mkF m 6 #[VI p0, VI p1, VI p2, VI p3, VI p4, .unset, .unset, .unset, .unset, .unset, .unset, .unset, .unset, .unset, .unset] [(.int 0)])) := by have q := C_1; rw [hn_2] at q; exact q
  obtain ⟨_, _, ⟨T_8, L_8, k_8, n_8⟩, -, X_8, ⟨Lc_8, hQ_8, l_8, y_8, z_8⟩, st_8⟩ := Jvm.LawKit.callS X0 hx (y := M492) hown (mvT hZ (w1 hw)) (mvT hZ (w2 hw)) (mvT hZ (w3 hw)) (mvT hZ (w4 hw)) (by decide) (backOf (W := 0) (rm_chh l Z a0 hw [] G1 G3 HG h0 n0 X00 p1 ) hZ (w4 hw) (w3 hw) (by decide) (by decide)) (g := (mkF m 9 #[VI p0, VI p1, VI p2, VI p3, VI p4, VI 0, .unset, .unset, .unset, .unset, .unset, .unset, .unset, .unset, .unset] [(.int p1)])) rfl (by rw [hml]; rfl) (argsL := [(.int p1)]) (rest := []) (lenOf pd_663 rfl) rfl (by show 2 * 0 + _ ≤ _; exact Nat.le_of_eq rfl) (hb hby at_9) (fun _ _ => ⟨rfl, e0, (by decide : 0 + 0 ≤ _), (by decide : 0 + 0 ≤ _)⟩)
  dsimp only [Pt.U, Pt.locs, Pt.cells, Pt.slots] at X_8 l_8 y_8 z_8 st_8 hQ_8
  subst l_8 y_8 z_8
  obtain ⟨i_9, rfl, N_10, e_11, g_12, g_13⟩ := hQ_8
  have N_14 := Fr.app N0 N_10
  have e_15 : T_8.heap = h0 := e_11
  obtain ⟨_, _, ⟨T_16, L_16, k_16, n_16⟩, -, X_16, ⟨Lc_16, hQ_16, l_16, y_16, z_16⟩, st_16⟩ := Jvm.LawKit.callS X_8 hx (y := M492) hown (mvT hZ (w1 hw)) (mvT hZ (w2 hw)) (mvT hZ (w3 hw)) (mvT hZ (w4 hw)) (by decide) (backOf (W := 0) (rm_chh l Z a0 hw [] G1 G3 HG h0 n0 X00 p2 ) hZ (w4 hw) (w3 hw) (by decide) (by decide)) (g := (mkF m 15 #[VI p0, VI p1, VI p2, VI p3, VI p4, VI 0, VI i_9, .unset, .unset, .unset, .unset, .unset, .unset, .unset, .unset] [(.int p2)])) rfl (by rw [hml]; rfl) (argsL := [(.int p2)]) (rest := []) (lenOf pd_663 rfl) rfl (by show 2 * 0 + _ ≤ _; exact Nat.le_of_eq rfl) (hb hby at_15) (fun _ _ => ⟨rfl, e_15, (by decide : 0 + 0 ≤ _), (by decide : 0 + 0 ≤ _)⟩)
  dsimp only [Pt.U, Pt.locs, Pt.cells, Pt.slots] at X_16 l_16 y_16 z_16 st_16 hQ_16
  subst l_16 y_16 z_16
  obtain ⟨i_17, rfl, N_18, e_19, g_20, g_21⟩ := hQ_16
  have N_22 := Fr.app N_14 N_18
  have e_23 : T_16.heap = h0 := e_19
  obtain ⟨_, _, ⟨T_24, L_24, k_24, n_24⟩, -, X_24, ⟨Lc_24, hQ_24, l_24, y_24, z_24⟩, st_24⟩ := Jvm.LawKit.callS X_16 hx (y := M492) hown (mvT hZ (w1 hw)) (mvT hZ (w2 hw)) (mvT hZ (w3 hw)) (mvT hZ (w4 hw)) (by decide) (backOf (W := 0) (rm_chh l Z a0 hw [] G1 G3 HG h0 n0 X00 p3 ) hZ (w4 hw) (w3 hw) (by decide) (by decide)) (g := (mkF m 21 #[VI p0, VI p1, VI p2, VI p3, VI p4, VI 0, VI i_9, VI i_17, .unset, .unset, .unset, .unset, .unset, .unset, .unset] [(.int p3)])) rfl (by rw [hml]; rfl) (argsL := [(.int p3)]) (rest := []) (lenOf pd_663 rfl) rfl (by show 2 * 0 + _ ≤ _; exact Nat.le_of_eq rfl) (hb hby at_21) (fun _ _ => ⟨rfl, e_23, (by decide : 0 + 0 ≤ _), (by decide : 0 + 0 ≤ _)⟩)
  dsimp only [Pt.U, Pt.locs, Pt.cells, Pt.slots] at X_24 l_24 y_24 z_24 st_24 hQ_24
  subst l_24 y_24 z_24
  obtain ⟨i_25, rfl, N_26, e_27, g_28, g_29⟩ := hQ_24
  have N_30 := Fr.app N_22 N_26
  have e_31 : T_24.heap = h0 := e_27
  obtain ⟨_, _, ⟨T_32, L_32, k_32, n_32⟩, -, X_32, ⟨Lc_32, hQ_32, l_32, y_32, z_32⟩, st_32⟩ := Jvm.LawKit.callS X_24 hx (y := M492) hown (mvT hZ (w1 hw)) (mvT hZ (w2 hw)) (mvT hZ (w3 hw)) (mvT hZ (w4 hw)) (by decide) (backOf (W := 0) (rm_chh l Z a0 hw [] G1 G3 HG h0 n0 X00 p4 ) hZ (w4 hw) (w3 hw) (by decide) (by decide)) (g := (mkF m 28 #[VI p0, VI p1, VI p2, VI p3, VI p4, VI 0, VI i_9, VI i_17, VI i_25, .unset, .unset, .unset, .unset, .unset, .unset] [(.int p4)])) rfl (by rw [hml]; rfl) (argsL := [(.int p4)]) (rest := []) (lenOf pd_663 rfl) rfl (by show 2 * 0 + _ ≤ _; exact Nat.le_of_eq rfl) (hb hby at_28) (fun _ _ => ⟨rfl, e_31, (by decide : 0 + 0 ≤ _), (by decide : 0 + 0 ≤ _)⟩)
  dsimp only [Pt.U, Pt.locs, Pt.cells, Pt.slots] at X_32 l_32 y_32 z_32 st_32 hQ_32
  subst l_32 y_32 z_32
  obtain ⟨i_33, rfl, N_34, e_35, g_36, g_37⟩ := hQ_32
  have N_38 := Fr.app N_30 N_34
  have e_39 : T_32.heap = h0 := e_35
  obtain ⟨_, _, ⟨T_40, L_40, k_40, n_40⟩, -, Y_40, S_40, G_40, ⟨Lc_40, hQ_40, l_40, y_40, z_40, R_40⟩, st_40⟩ := callSS X_32 hx (y := M507) hown (mvT hZ (w5 hw)) (mvT hZ (w6 hw)) (mvT hZ (w3 hw)) (mvT hZ (w7 hw)) (by decide) (backOfSH (vm0 := s.vm) (W := 0) (rm_mk_0 l Z a0 hw [] G1 G3 HG h0 n0 X00 i_9 i_17 i_25 i_33 ) hZ (w7 hw) (w3 hw) (by decide) (by decide) hEL CH0) (g := (mkF m 43 #[VI p0, VI p1, VI p2, VI p3, VI p4, VI 0, VI i_9, VI i_17, VI i_25, VI i_33, .unset, .unset, .unset, .unset, .unset] [(.int i_33), (.int i_25), (.int i_17), (.int i_9), (.int 0)])) rfl (by rw [hml]; rfl) (argsL := [(.int 0), (.int i_9), (.int i_17), (.int i_25), (.int i_33)]) (rest := []) (lenOf pd_667 rfl) rfl (by show 2 * 0 + _ ≤ _; exact Nat.le_of_eq rfl) (hb hby at_43) (fun _ _ => ⟨rfl, e_39, (by decide : 0 + 6 ≤ _), (by decide : 0 + 12 ≤ _)⟩)
  dsimp only [Pt.U, Pt.locs, Pt.cells, Pt.slots] at Y_40 S_40 G_40 l_40 y_40 z_40 st_40 hQ_40 R_40
  subst l_40 y_40 z_40
  obtain ⟨X_40, hS_40, hZ_40, hown_40⟩ := rebS hS0 (n1 := T_32.heap.size) (by rw [show T_32.heap = h0 from e_39]; exact (Nat.le_refl _)) Y_40 S_40 G_40 hZ hown
  obtain ⟨a_41, a_42, k_43, rfl, N_44, K_45, g_46, g_47, g_48, g_49⟩ := hQ_40
  have N_50 := Fr.app N_38 N_44
  have CH_51 : CHv Z consts_1 T_40.vm T_40.heap := R_40.1
  have CR_52 : CHr Z consts_1 s.vm h0 T_40.vm T_40.heap := CR0.trans R_40
  obtain ⟨T_53, h_54, X_55, e_56, E_57, A_58, D_59, U_63, st_60⟩ := newO X_40 hx hZ_40 hown_40 (w30 hw) (w31 hw) (w32 hw) rfl (g := (mkF m 48 #[VI p0, VI p1, VI p2, VI p3, VI p4, VI 0, VI i_9, VI i_17, VI i_25, VI i_33, VR a_41, .unset, .unset, .unset, .unset] [])) rfl (hb hby at_48) (by decide) (by decide)
  obtain ⟨a_61, g_62⟩ : ∃ z, z = T_40.heap.size := ⟨_, rfl⟩
  rw [← g_62] at A_58 D_59 st_60 U_63
  have CH_64 : CHv Z consts_1 T_40.vm h_54 := CHv.ext E_57 CH_51
  have CR_65 : CHr Z consts_1 s.vm h0 T_40.vm h_54 := CR_52.trans (CHr.ext E_57 CH_51)
  obtain ⟨a_66, T_67, h_68, k1_69, b_70, k_71, X_72, e_73, E_74, S_75, hk_76, hZ_77, ho_78, Ex_79, Fc_80, Fv_81, Va_82, la_83, lb_84, R_85, L_86, Sf_87, st_88⟩ := ldcCH (vm0 := T_40.vm) X_55 hx hZ_40 hown_40 (w33 hw) hSA e_56 hS_40 (Nat.le_trans (Nat.le_refl _) E_57.1) hEL (by decide) CH_64 (vs := [(.int 50), (.int 52), (.int 53)]) (z := (3 : Int32)) ⟨by decide, by decide⟩ (by decide) (by decide) (g := (mkF m 52 #[VI p0, VI p1, VI p2, VI p3, VI p4, VI 0, VI i_9, VI i_17, VI i_25, VI i_33, VR a_41, .unset, .unset, .unset, .unset] [(.ref a_61), (.ref a_61)])) rfl (hb hby at_52) (n := 12) (by decide) (by decide) (by decide) (by decide)
  have CH_89 : CHv Z consts_1 T_67.vm h_68 := R_85.1
  have CR_90 : CHr Z consts_1 s.vm h0 T_67.vm h_68 := CR_65.trans R_85
  have E_91 : Exa Z h_68 a_61 "com/example/kartoteka/kartoteka/Field" := (A_58.ext E_74)
  have F_92 : Fld Z h_68 a_61 "com/example/kartoteka/kartoteka/Field" "tag" "Ljava/lang/String;" .null := ((D_59 (Or.inr (w44 hw)) (ty := (.object "java/lang/String")) (by decide)).ext E_74)
  have F_93 : Fld Z h_68 a_61 "com/example/kartoteka/kartoteka/Field" "data" "Ljava/lang/String;" .null := ((D_59 (Or.inr (w46 hw)) (ty := (.object "java/lang/String")) (by decide)).ext E_74)
  have O_94 : Old Z n0 T_40.heap := (X00.keep K_45 all0)
  have O_95 : Old Z n0 h_68 := ((O_94.ext E_57).ext E_74)
  obtain ⟨_, _, ⟨T_96, L_96, k_96, n_96⟩, -, X_96, ⟨Lc_96, hQ_96, l_96, y_96, z_96⟩, st_96⟩ := X_72.specialBack hx (y := M602) rfl ho_78 (mvT hZ_77 (w34 hw)) (mvT hZ_77 (w35 hw)) (mvT hZ_77 (w36 hw)) (by decide) (backOf (W := 1) (rm_finit l Z a0 hw [] G1 G3 HG h_68 n0 O_95 a_61 a_66 a_41 E_91 F_92 F_93 (Nat.le_trans (own_n0 O_94) (Nat.le_of_eq g_62.symm))) hZ_77 (w36 hw) (w32 hw) (by decide) (by decide)) (g := (mkF m 56 #[VI p0, VI p1, VI p2, VI p3, VI p4, VI 0, VI i_9, VI i_17, VI i_25, VI i_33, VR a_41, .unset, .unset, .unset, .unset] [(.ref a_41), (.ref a_66), (.ref a_61), (.ref a_61)])) rfl (by rw [hml]; rfl) (Steps.refl _) (a := a_61) (argsL := [(.ref a_66), (.ref a_41)]) (rest := [(.ref a_61)]) (lenOf pd_674 rfl) rfl (by show 2 * 0 + _ ≤ _; exact Nat.le_of_eq rfl) (hb hby at_56) (fun _ _ => ⟨rfl, e_73, (by decide : 9 + 0 ≤ _), (by decide : 30 + 0 ≤ _)⟩)
  dsimp only [Pt.U, Pt.locs, Pt.cells, Pt.slots] at X_96 l_96 y_96 z_96 st_96 hQ_96
  subst l_96 y_96 z_96
  obtain ⟨rfl, N_97, K_98, g_99⟩ := hQ_96
  have N_100 := Fr.app N_50 N_97
  have CH_101 : CHv Z consts_1 T_67.vm T_96.heap := CHv.keep K_98 (sfS (Safe.exa hZ_77.alike E_91 (by decide) (by decide)) sf0) CH_89
  have CR_102 : CHr Z consts_1 s.vm h0 T_67.vm T_96.heap := CR_90.trans (CHr.keep K_98 (sfS (Safe.exa hZ_77.alike E_91 (by decide) (by decide)) sf0) CH_89)
  have E_103 : Exa Z T_96.heap a_41 "java/lang/String" := (((g_46.ext E_57).ext E_74).keep K_98)
  have F_104 : Fld Z T_96.heap a_41 "java/lang/String" "coder" "B" (.int 0) := (((g_47.ext E_57).ext E_74).keep K_98 (ninS (Nat.ne_of_lt (Nat.lt_of_lt_of_le g_46.lt (Nat.le_trans (Nat.le_refl _) (Nat.le_of_eq g_62.symm)))) nin0))
  have F_105 : Fld Z T_96.heap a_41 "java/lang/String" "value" "[B" (.ref a_42) := (((g_48.ext E_57).ext E_74).keep K_98 (ninS (Nat.ne_of_lt (Nat.lt_of_lt_of_le g_46.lt (Nat.le_trans (Nat.le_refl _) (Nat.le_of_eq g_62.symm)))) nin0))
  have V_106 : Arv Z T_96.heap a_42 k_43 .byte (0 : Int32) [] (.int 0) := (((g_49.ext E_57).ext E_74).keep K_98 (ninS (Nat.ne_of_lt (Nat.lt_of_lt_of_le g_49.lt (Nat.le_trans (Nat.le_refl _) (Nat.le_of_eq g_62.symm)))) nin0))
  have O_107 : Old Z n0 T_96.heap := (O_95.keep K_98 (allS (Nat.le_trans (own_n0 O_94) (Nat.le_of_eq g_62.symm)) all0))
  have E_114 : Exa Z T_96.heap a_61 "com/example/kartoteka/kartoteka/Field" := (E_91.keep K_98)
  obtain ⟨q_109, q_110, q_111, q_112, q_113⟩ := isOf (T := T_96) hZ_77 rfl E_114
  obtain ⟨_, _, ⟨T_108, L_108, k_108, n_108⟩, -, X_108, ⟨Lc_108, hQ_108, l_108, y_108, z_108⟩, st_108⟩ := X_96.virtualBack hx (y := M624) (z := M624) ho_78 (mvT hZ_77 (w47 hw)) (mvT hZ_77 (w48 hw)) (notFace_of_selects (args := #[]) (mvT hZ_77 (w50 hw))) (mvT hZ_77 (w50 hw)) (mvT hZ_77 (w49 hw)) (by decide) (backOf (W := 0) (rm_ind_0 l Z a0 hw [] G1 G3 HG T_96.heap n0 O_107 a_61 a_41 a_42 k_43 g_99 E_103 F_104 F_105 V_106) hZ_77 (w51 hw) (w32 hw) (by decide) (by decide)) q_111 q_113 (g := (mkF m 63 #[VI p0, VI p1, VI p2, VI p3, VI p4, VI 0, VI i_9, VI i_17, VI i_25, VI i_33, VR a_41, VR a_61, .unset, .unset, .unset] [(.ref a_61)])) rfl (by rw [hml]; rfl) (Steps.refl _) (argsL := []) (rest := []) (lenOf pd_678 rfl) rfl (by show 2 * 0 + _ ≤ _; exact Nat.le_of_eq rfl) (hb hby at_63) (fun _ _ => ⟨rfl, rfl, (by decide : 9 + 0 ≤ _), (by decide : 30 + 0 ≤ _)⟩)
  dsimp only [Pt.U, Pt.locs, Pt.cells, Pt.slots] at X_108 l_108 y_108 z_108 st_108 hQ_108
  subst l_108 y_108 z_108
  obtain ⟨a_115, a_116, k_117, rfl, N_118, K_119, g_120, g_121, g_122, g_123⟩ := hQ_108
  have N_124 := Fr.app N_100 N_118
  have CH_125 : CHv Z consts_1 T_67.vm T_108.heap := CHv.keep K_119 sf0 CH_101
  have CR_126 : CHr Z consts_1 s.vm h0 T_67.vm T_108.heap := CR_102.trans (CHr.keep K_119 sf0 CH_101)
  have O_127 : Old Z n0 T_108.heap := (O_107.keep K_119 all0)
  obtain ⟨q_129, q_130, q_131, q_132, q_133⟩ := isOf (T := T_108) hZ_77 rfl g_120
  obtain ⟨_, _, ⟨T_128, L_128, k_128, n_128⟩, -, X_128, ⟨Lc_128, hQ_128, l_128, y_128, z_128⟩, st_128⟩ := X_108.virtualBack hx (y := M141) (z := M141) ho_78 (mvT hZ_77 (w107 hw)) (mvT hZ_77 (w69 hw)) (notFace_of_selects (args := #[]) (mvT hZ_77 (w71 hw))) (mvT hZ_77 (w71 hw)) (mvT hZ_77 (w70 hw)) (by decide) (backOf (W := 0) (rm_lenany l Z a0 hw [] G1 G3 HG T_108.heap n0 O_127 a_115 a_116 k_117 (0 : Int32) [] g_120 g_121 g_122 g_123) hZ_77 (w72 hw) (w10 hw) (by decide) (by decide)) q_131 q_133 (g := (mkF m 131 #[VI p0, VI p1, VI p2, VI p3, VI p4, VI 0, VI i_9, VI i_17, VI i_25, VI i_33, VR a_41, VR a_61, VR a_115, VI 31, VI 0] [(.ref a_115)])) rfl (by rw [hml]; rfl) (Steps.refl _) (argsL := []) (rest := []) (lenOf pd_232 rfl) rfl (by show 2 * 0 + _ ≤ _; exact Nat.le_of_eq rfl) (hb hby at_131) (fun _ _ => ⟨rfl, rfl, (by decide : 9 + 0 ≤ _), (by decide : 30 + 0 ≤ _)⟩)
  dsimp only [Pt.U, Pt.locs, Pt.cells, Pt.slots] at X_128 l_128 y_128 z_128 st_128 hQ_128
  subst l_128 y_128 z_128
  obtain ⟨rfl, N_134, e_135⟩ := hQ_128
  have N_136 := Fr.app N_124 N_134
  have e_137 : T_128.heap = T_108.heap := e_135
  have C_138 : Steps p.tables e below S0 (T_128.setTop (mkF m 180 #[VI p0, VI p1, VI p2, VI p3, VI p4, VI 0, VI i_9, VI i_17, VI i_25, VI i_33, VR a_41, VR a_61, VR a_115, VI 31, VI 0] [(.int 1)])) := by
   refine C_7.trans ?_
   refine XS.istore X0.here hx rfl (hb hby at_6) rfl (l' := #[VI p0, VI p1, VI p2, VI p3, VI p4, VI 0, .unset, .unset, .unset, .unset, .unset, .unset, .unset, .unset, .unset]) rfl ?_
   refine XS.iloadN X0.here hx rfl (hb hby at_8) rfl ?_
   refine st_8 _ ?_
   refine XS.istore X_8.here hx rfl (hb hby at_12) rfl (l' := #[VI p0, VI p1, VI p2, VI p3, VI p4, VI 0, VI i_9, .unset, .unset, .unset, .unset, .unset, .unset, .unset, .unset]) rfl ?_
   refine XS.iloadN X_8.here hx rfl (hb hby at_14) rfl ?_
   refine st_16 _ ?_
   refine XS.istore X_16.here hx rfl (hb hby at_18) rfl (l' := #[VI p0, VI p1, VI p2, VI p3, VI p4, VI 0, VI i_9, VI i_17, .unset, .unset, .unset, .unset, .unset, .unset, .unset]) rfl ?_
   refine XS.iloadN X_16.here hx rfl (hb hby at_20) rfl ?_
   refine st_24 _ ?_
   refine XS.istore X_24.here hx rfl (hb hby at_24) rfl (l' := #[VI p0, VI p1, VI p2, VI p3, VI p4, VI 0, VI i_9, VI i_17, VI i_25, .unset, .unset, .unset, .unset, .unset, .unset]) rfl ?_
   refine XS.iload X_24.here hx rfl (hb hby at_26) rfl ?_
   refine st_32 _ ?_
   refine XS.istore X_32.here hx rfl (hb hby at_31) rfl (l' := #[VI p0, VI p1, VI p2, VI p3, VI p4, VI 0, VI i_9, VI i_17, VI i_25, VI i_33, .unset, .unset, .unset, .unset, .unset]) rfl ?_
   refine XS.iload X_32.here hx rfl (hb hby at_33) rfl ?_
   refine XS.iload X_32.here hx rfl (hb hby at_35) rfl ?_
   refine XS.iload X_32.here hx rfl (hb hby at_37) rfl ?_
   show Steps p.tables e below (T_32.setTop (mkF m 39 #[VI p0, VI p1, VI p2, VI p3, VI p4, VI 0, VI i_9, VI i_17, VI i_25, VI i_33, .unset, .unset, .unset, .unset, .unset] [(.int i_17), (.int i_9), (.int 0)])) _
   refine XS.iload X_32.here hx rfl (hb hby at_39) rfl ?_
   refine XS.iload X_32.here hx rfl (hb hby at_41) rfl ?_
   refine st_40.trans ?_
   refine XS.astore X_40.here hx rfl (hb hby at_46) rfl rfl (l' := #[VI p0, VI p1, VI p2, VI p3, VI p4, VI 0, VI i_9, VI i_17, VI i_25, VI i_33, VR a_41, .unset, .unset, .unset, .unset]) rfl ?_
   refine st_60 _ ?_
   refine XS.dup X_55.here hx rfl (hb hby at_51) rfl rfl ?_
   refine st_88 _ ?_
   refine XS.aload X_72.here hx rfl (hb hby at_54) rfl rfl ?_
   refine st_96.trans ?_
   refine XS.astore X_96.here hx rfl (hb hby at_59) rfl rfl (l' := #[VI p0, VI p1, VI p2, VI p3, VI p4, VI 0, VI i_9, VI i_17, VI i_25, VI i_33, VR a_41, VR a_61, .unset, .unset, .unset]) rfl ?_
   refine XS.aload X_96.here hx rfl (hb hby at_61) rfl rfl ?_
   refine st_108.trans ?_
   refine XS.astore X_108.here hx rfl (hb hby at_66) rfl rfl (l' := #[VI p0, VI p1, VI p2, VI p3, VI p4, VI 0, VI i_9, VI i_17, VI i_25, VI i_33, VR a_41, VR a_61, VR a_115, .unset, .unset]) rfl ?_
   refine XS.bipush X_108.here hx rfl (hb hby at_68) ?_
   refine XS.istore X_108.here hx rfl (hb hby at_70) rfl (l' := #[VI p0, VI p1, VI p2, VI p3, VI p4, VI 0, VI i_9, VI i_17, VI i_25, VI i_33, VR a_41, VR a_61, VR a_115, VI 31, .unset]) rfl ?_
   refine XS.iload X_108.here hx rfl (hb hby at_72) rfl ?_
   show Steps p.tables e below (T_108.setTop (mkF m 74 #[VI p0, VI p1, VI p2, VI p3, VI p4, VI 0, VI i_9, VI i_17, VI i_25, VI i_33, VR a_41, VR a_61, VR a_115, VI 31, .unset] [(.int 0)])) _
   refine XS.ifNo X_108.here hx rfl (hb hby at_74) rfl (by decide) ?_
   refine XS.iconst X_108.here hx rfl (hb hby at_77) ?_
   refine XS.istore X_108.here hx rfl (hb hby at_78) rfl (l' := #[VI p0, VI p1, VI p2, VI p3, VI p4, VI 0, VI i_9, VI i_17, VI i_25, VI i_33, VR a_41, VR a_61, VR a_115, VI 31, VI 0]) rfl ?_
   refine XS.goto X_108.here hx rfl (pc0 := 80) (pc' := 124) rfl (hb hby at_80) (by decide) (by decide) ?_
   refine XS.aload X_108.here hx rfl (hb hby at_124) rfl rfl ?_
   refine XS.ifnullNo X_108.here hx rfl (hb hby at_126) rfl ?_
   refine XS.aload X_108.here hx rfl (hb hby at_129) rfl rfl ?_
   refine st_128.trans ?_
   refine XS.iload X_128.here hx rfl (hb hby at_134) rfl ?_
   refine XS.icmpYes X_128.here hx rfl (pc0 := 136) (pc' := 141) rfl (hb hby at_136) rfl (by decide) (by decide) (by decide) ?_
   refine XS.iload X_128.here hx rfl (hb hby at_141) rfl ?_
   refine XS.iconst X_128.here hx rfl (hb hby at_143) ?_
   refine XS.icmpYes X_128.here hx rfl (pc0 := 144) (pc' := 160) rfl (hb hby at_144) rfl (by decide) (by decide) (by decide) ?_
   refine XS.iload X_128.here hx rfl (hb hby at_160) rfl ?_
   refine XS.iconst X_128.here hx rfl (hb hby at_162) ?_
   refine XS.icmpYes X_128.here hx rfl (pc0 := 163) (pc' := 179) rfl (hb hby at_163) rfl (by decide) (by decide) (by decide) ?_
   show Steps p.tables e below (T_128.setTop (mkF m 179 #[VI p0, VI p1, VI p2, VI p3, VI p4, VI 0, VI i_9, VI i_17, VI i_25, VI i_33, VR a_41, VR a_61, VR a_115, VI 31, VI 0] [])) _
   refine XS.iconst X_128.here hx rfl (hb hby at_179) ?_
   exact Steps.refl _
  have K_139 : Keep h0 T_108.heap [] := ((((((Keep.refl _ _).trans K_45 all0).ext E_57).ext E_74).trans K_98 (allS (Or.inr (Nat.le_trans K_45.1 (Nat.le_of_eq g_62.symm))) all0)).trans K_119 all0)
  obtain ⟨fs, hr, hrun, hended, hRE⟩ := X_128.leaveW S_75 (by rw [show T_128.heap = T_108.heap from e_137]; exact (Nat.le_trans hk_76 (Nat.le_trans K_98.1 K_119.1))) (v := some (.int 1)) (fun h => by rw [Bd.returns] at h; cases h)
  refine ⟨_, _, C_138.trans (retN X_128 hx (t := .boolean) Bd.returns (by simp) (hb hby at_180) hr), hrun, hended, _, _, rfl, ?_, ?_, hRE.1, hRE.2.1, hRE.2.2.1, hRE.2.2.2.mono (by decide) (by decide)⟩
  ·show Q_law Z G1 G3 p0 p1 p2 p3 p4 h0 n0 (some (.int 1)) T_128.heap _
   rw [e_137]
   exact ⟨rfl, N_136, K_139⟩
  ·show CHr Z consts_1 s.vm s.heap T_128.vm T_128.heap
   rw [hh, show T_128.heap = T_108.heap from e_137]
   exact CR_126.trans (CHv.at X_128 hZ_77 hEL CH_125)
 ·skip
  have C_140 : Steps p.tables e below S0 (s₁.setTop (mkF m 6 #[VI p0, VI p1, VI p2, VI p3, VI p4, .unset, .unset, .unset, .unset, .unset, .unset, .unset, .unset, .unset, .unset] [(.int 1)])) := by have q := C_1; rw [hn_3] at q; exact q
  obtain ⟨_, _, ⟨T_141, L_141, k_141, n_141⟩, -, X_141, ⟨Lc_141, hQ_141, l_141, y_141, z_141⟩, st_141⟩ := Jvm.LawKit.callS X0 hx (y := M492) hown (mvT hZ (w1 hw)) (mvT hZ (w2 hw)) (mvT hZ (w3 hw)) (mvT hZ (w4 hw)) (by decide) (backOf (W := 0) (rm_chh l Z a0 hw [] G1 G3 HG h0 n0 X00 p1 ) hZ (w4 hw) (w3 hw) (by decide) (by decide)) (g := (mkF m 9 #[VI p0, VI p1, VI p2, VI p3, VI p4, VI 1, .unset, .unset, .unset, .unset, .unset, .unset, .unset, .unset, .unset] [(.int p1)])) rfl (by rw [hml]; rfl) (argsL := [(.int p1)]) (rest := []) (lenOf pd_663 rfl) rfl (by show 2 * 0 + _ ≤ _; exact Nat.le_of_eq rfl) (hb hby at_9) (fun _ _ => ⟨rfl, e0, (by decide : 0 + 0 ≤ _), (by decide : 0 + 0 ≤ _)⟩)
  dsimp only [Pt.U, Pt.locs, Pt.cells, Pt.slots] at X_141 l_141 y_141 z_141 st_141 hQ_141
  subst l_141 y_141 z_141
  obtain ⟨i_142, rfl, N_143, e_144, g_145, g_146⟩ := hQ_141
  have N_147 := Fr.app N0 N_143
  have e_148 : T_141.heap = h0 := e_144
  obtain ⟨_, _, ⟨T_149, L_149, k_149, n_149⟩, -, X_149, ⟨Lc_149, hQ_149, l_149, y_149, z_149⟩, st_149⟩ := Jvm.LawKit.callS X_141 hx (y := M492) hown (mvT hZ (w1 hw)) (mvT hZ (w2 hw)) (mvT hZ (w3 hw)) (mvT hZ (w4 hw)) (by decide) (backOf (W := 0) (rm_chh l Z a0 hw [] G1 G3 HG h0 n0 X00 p2 ) hZ (w4 hw) (w3 hw) (by decide) (by decide)) (g := (mkF m 15 #[VI p0, VI p1, VI p2, VI p3, VI p4, VI 1, VI i_142, .unset, .unset, .unset, .unset, .unset, .unset, .unset, .unset] [(.int p2)])) rfl (by rw [hml]; rfl) (argsL := [(.int p2)]) (rest := []) (lenOf pd_663 rfl) rfl (by show 2 * 0 + _ ≤ _; exact Nat.le_of_eq rfl) (hb hby at_15) (fun _ _ => ⟨rfl, e_148, (by decide : 0 + 0 ≤ _), (by decide : 0 + 0 ≤ _)⟩)
  dsimp only [Pt.U, Pt.locs, Pt.cells, Pt.slots] at X_149 l_149 y_149 z_149 st_149 hQ_149
  subst l_149 y_149 z_149
  obtain ⟨i_150, rfl, N_151, e_152, g_153, g_154⟩ := hQ_149
  have N_155 := Fr.app N_147 N_151
  have e_156 : T_149.heap = h0 := e_152
  obtain ⟨_, _, ⟨T_157, L_157, k_157, n_157⟩, -, X_157, ⟨Lc_157, hQ_157, l_157, y_157, z_157⟩, st_157⟩ := Jvm.LawKit.callS X_149 hx (y := M492) hown (mvT hZ (w1 hw)) (mvT hZ (w2 hw)) (mvT hZ (w3 hw)) (mvT hZ (w4 hw)) (by decide) (backOf (W := 0) (rm_chh l Z a0 hw [] G1 G3 HG h0 n0 X00 p3 ) hZ (w4 hw) (w3 hw) (by decide) (by decide)) (g := (mkF m 21 #[VI p0, VI p1, VI p2, VI p3, VI p4, VI 1, VI i_142, VI i_150, .unset, .unset, .unset, .unset, .unset, .unset, .unset] [(.int p3)])) rfl (by rw [hml]; rfl) (argsL := [(.int p3)]) (rest := []) (lenOf pd_663 rfl) rfl (by show 2 * 0 + _ ≤ _; exact Nat.le_of_eq rfl) (hb hby at_21) (fun _ _ => ⟨rfl, e_156, (by decide : 0 + 0 ≤ _), (by decide : 0 + 0 ≤ _)⟩)
  dsimp only [Pt.U, Pt.locs, Pt.cells, Pt.slots] at X_157 l_157 y_157 z_157 st_157 hQ_157
  subst l_157 y_157 z_157
  obtain ⟨i_158, rfl, N_159, e_160, g_161, g_162⟩ := hQ_157
  have N_163 := Fr.app N_155 N_159
  have e_164 : T_157.heap = h0 := e_160
  obtain ⟨_, _, ⟨T_165, L_165, k_165, n_165⟩, -, X_165, ⟨Lc_165, hQ_165, l_165, y_165, z_165⟩, st_165⟩ := Jvm.LawKit.callS X_157 hx (y := M492) hown (mvT hZ (w1 hw)) (mvT hZ (w2 hw)) (mvT hZ (w3 hw)) (mvT hZ (w4 hw)) (by decide) (backOf (W := 0) (rm_chh l Z a0 hw [] G1 G3 HG h0 n0 X00 p4 ) hZ (w4 hw) (w3 hw) (by decide) (by decide)) (g := (mkF m 28 #[VI p0, VI p1, VI p2, VI p3, VI p4, VI 1, VI i_142, VI i_150, VI i_158, .unset, .unset, .unset, .unset, .unset, .unset] [(.int p4)])) rfl (by rw [hml]; rfl) (argsL := [(.int p4)]) (rest := []) (lenOf pd_663 rfl) rfl (by show 2 * 0 + _ ≤ _; exact Nat.le_of_eq rfl) (hb hby at_28) (fun _ _ => ⟨rfl, e_164, (by decide : 0 + 0 ≤ _), (by decide : 0 + 0 ≤ _)⟩)
  dsimp only [Pt.U, Pt.locs, Pt.cells, Pt.slots] at X_165 l_165 y_165 z_165 st_165 hQ_165
  subst l_165 y_165 z_165
  obtain ⟨i_166, rfl, N_167, e_168, g_169, g_170⟩ := hQ_165
  have N_171 := Fr.app N_163 N_167
  have e_172 : T_165.heap = h0 := e_168
  obtain ⟨_, _, ⟨T_173, L_173, k_173, n_173⟩, -, X_173, ⟨Lc_173, hQ_173, l_173, y_173, z_173⟩, st_173⟩ := Jvm.LawKit.callS X_165 hx (y := M507) hown (mvT hZ (w5 hw)) (mvT hZ (w6 hw)) (mvT hZ (w3 hw)) (mvT hZ (w7 hw)) (by decide) (backOf (W := 0) (rm_mk_1 l Z a0 hw [] G1 G3 HG h0 n0 X00 i_142 i_150 i_158 i_166 g_145 g_146) hZ (w7 hw) (w3 hw) (by decide) (by decide)) (g := (mkF m 43 #[VI p0, VI p1, VI p2, VI p3, VI p4, VI 1, VI i_142, VI i_150, VI i_158, VI i_166, .unset, .unset, .unset, .unset, .unset] [(.int i_166), (.int i_158), (.int i_150), (.int i_142), (.int 1)])) rfl (by rw [hml]; rfl) (argsL := [(.int 1), (.int i_142), (.int i_150), (.int i_158), (.int i_166)]) (rest := []) (lenOf pd_667 rfl) rfl (by show 2 * 0 + _ ≤ _; exact Nat.le_of_eq rfl) (hb hby at_43) (fun _ _ => ⟨rfl, e_172, (by decide : 0 + 3 ≤ _), (by decide : 0 + 6 ≤ _)⟩)
  dsimp only [Pt.U, Pt.locs, Pt.cells, Pt.slots] at X_173 l_173 y_173 z_173 st_173 hQ_173
  subst l_173 y_173 z_173
  obtain ⟨a_174, a_175, k_176, rfl, N_177, K_178, g_179, g_180, g_181, g_182⟩ := hQ_173
  have N_183 := Fr.app N_171 N_177
  have CH_184 : CHv Z consts_1 s.vm T_173.heap := CHv.keep K_178 sf0 CH0
  have CR_185 : CHr Z consts_1 s.vm h0 s.vm T_173.heap := CR0.trans (CHr.keep K_178 sf0 CH0)
  obtain ⟨T_186, h_187, X_188, e_189, E_190, A_191, D_192, U_196, st_193⟩ := newO X_173 hx hZ hown (w30 hw) (w31 hw) (w32 hw) rfl (g := (mkF m 48 #[VI p0, VI p1, VI p2, VI p3, VI p4, VI 1, VI i_142, VI i_150, VI i_158, VI i_166, VR a_174, .unset, .unset, .unset, .unset] [])) rfl (hb hby at_48) (by decide) (by decide)
  obtain ⟨a_194, g_195⟩ : ∃ z, z = T_173.heap.size := ⟨_, rfl⟩
  rw [← g_195] at A_191 D_192 st_193 U_196
  have CH_197 : CHv Z consts_1 s.vm h_187 := CHv.ext E_190 CH_184
  have CR_198 : CHr Z consts_1 s.vm h0 s.vm h_187 := CR_185.trans (CHr.ext E_190 CH_184)
  obtain ⟨a_199, T_200, h_201, k1_202, b_203, k_204, X_205, e_206, E_207, S_208, hk_209, hZ_210, ho_211, Ex_212, Fc_213, Fv_214, Va_215, la_216, lb_217, R_218, L_219, Sf_220, st_221⟩ := ldcCH (vm0 := s.vm) X_188 hx hZ hown (w33 hw) hSA e_189 hS0 (Nat.le_trans (Nat.le_refl _) (Nat.le_trans K_178.1 E_190.1)) hEL (by decide) CH_197 (vs := [(.int 50), (.int 52), (.int 53)]) (z := (3 : Int32)) ⟨by decide, by decide⟩ (by decide) (by decide) (g := (mkF m 52 #[VI p0, VI p1, VI p2, VI p3, VI p4, VI 1, VI i_142, VI i_150, VI i_158, VI i_166, VR a_174, .unset, .unset, .unset, .unset] [(.ref a_194), (.ref a_194)])) rfl (hb hby at_52) (n := 12) (by decide) (by decide) (by decide) (by decide)
  have CH_222 : CHv Z consts_1 T_200.vm h_201 := R_218.1
  have CR_223 : CHr Z consts_1 s.vm h0 T_200.vm h_201 := CR_198.trans R_218
  have E_224 : Exa Z h_201 a_194 "com/example/kartoteka/kartoteka/Field" := (A_191.ext E_207)
  have F_225 : Fld Z h_201 a_194 "com/example/kartoteka/kartoteka/Field" "tag" "Ljava/lang/String;" .null := ((D_192 (Or.inr (w44 hw)) (ty := (.object "java/lang/String")) (by decide)).ext E_207)
  have F_226 : Fld Z h_201 a_194 "com/example/kartoteka/kartoteka/Field" "data" "Ljava/lang/String;" .null := ((D_192 (Or.inr (w46 hw)) (ty := (.object "java/lang/String")) (by decide)).ext E_207)
  have O_227 : Old Z n0 T_173.heap := (X00.keep K_178 all0)
  have O_228 : Old Z n0 h_201 := ((O_227.ext E_190).ext E_207)
  obtain ⟨_, _, ⟨T_229, L_229, k_229, n_229⟩, -, X_229, ⟨Lc_229, hQ_229, l_229, y_229, z_229⟩, st_229⟩ := X_205.specialBack hx (y := M602) rfl ho_211 (mvT hZ_210 (w34 hw)) (mvT hZ_210 (w35 hw)) (mvT hZ_210 (w36 hw)) (by decide) (backOf (W := 1) (rm_finit l Z a0 hw [] G1 G3 HG h_201 n0 O_228 a_194 a_199 a_174 E_224 F_225 F_226 (Nat.le_trans (own_n0 O_227) (Nat.le_of_eq g_195.symm))) hZ_210 (w36 hw) (w32 hw) (by decide) (by decide)) (g := (mkF m 56 #[VI p0, VI p1, VI p2, VI p3, VI p4, VI 1, VI i_142, VI i_150, VI i_158, VI i_166, VR a_174, .unset, .unset, .unset, .unset] [(.ref a_174), (.ref a_199), (.ref a_194), (.ref a_194)])) rfl (by rw [hml]; rfl) (Steps.refl _) (a := a_194) (argsL := [(.ref a_199), (.ref a_174)]) (rest := [(.ref a_194)]) (lenOf pd_674 rfl) rfl (by show 2 * 0 + _ ≤ _; exact Nat.le_of_eq rfl) (hb hby at_56) (fun _ _ => ⟨rfl, e_206, (by decide : 6 + 0 ≤ _), (by decide : 24 + 0 ≤ _)⟩)
  dsimp only [Pt.U, Pt.locs, Pt.cells, Pt.slots] at X_229 l_229 y_229 z_229 st_229 hQ_229
  subst l_229 y_229 z_229
  obtain ⟨rfl, N_230, K_231, g_232⟩ := hQ_229
  have N_233 := Fr.app N_183 N_230
  have CH_234 : CHv Z consts_1 T_200.vm T_229.heap := CHv.keep K_231 (sfS (Safe.exa hZ_210.alike E_224 (by decide) (by decide)) sf0) CH_222
  have CR_235 : CHr Z consts_1 s.vm h0 T_200.vm T_229.heap := CR_223.trans (CHr.keep K_231 (sfS (Safe.exa hZ_210.alike E_224 (by decide) (by decide)) sf0) CH_222)
  have E_236 : Exa Z T_229.heap a_174 "java/lang/String" := (((g_179.ext E_190).ext E_207).keep K_231)
  have F_237 : Fld Z T_229.heap a_174 "java/lang/String" "coder" "B" (.int 0) := (((g_180.ext E_190).ext E_207).keep K_231 (ninS (Nat.ne_of_lt (Nat.lt_of_lt_of_le g_179.lt (Nat.le_trans (Nat.le_refl _) (Nat.le_of_eq g_195.symm)))) nin0))
  have F_238 : Fld Z T_229.heap a_174 "java/lang/String" "value" "[B" (.ref a_175) := (((g_181.ext E_190).ext E_207).keep K_231 (ninS (Nat.ne_of_lt (Nat.lt_of_lt_of_le g_179.lt (Nat.le_trans (Nat.le_refl _) (Nat.le_of_eq g_195.symm)))) nin0))
  have V_239 : Arv Z T_229.heap a_175 k_176 .byte (1 : Int32) [(.int (own_lo8 i_142))] (.int 0) := (((g_182.ext E_190).ext E_207).keep K_231 (ninS (Nat.ne_of_lt (Nat.lt_of_lt_of_le g_182.lt (Nat.le_trans (Nat.le_refl _) (Nat.le_of_eq g_195.symm)))) nin0))
  have O_240 : Old Z n0 T_229.heap := (O_228.keep K_231 (allS (Nat.le_trans (own_n0 O_227) (Nat.le_of_eq g_195.symm)) all0))
  have E_247 : Exa Z T_229.heap a_194 "com/example/kartoteka/kartoteka/Field" := (E_224.keep K_231)
  obtain ⟨q_242, q_243, q_244, q_245, q_246⟩ := isOf (T := T_229) hZ_210 rfl E_247
  obtain ⟨_, _, ⟨T_241, L_241, k_241, n_241⟩, -, Y_241, S_241, G_241, ⟨Lc_241, hQ_241, l_241, y_241, z_241, R_241⟩, st_241⟩ := X_229.virtualBackS hx (y := M624) (z := M624) ho_211 (mvT hZ_210 (w47 hw)) (mvT hZ_210 (w48 hw)) (notFace_of_selects (args := #[]) (mvT hZ_210 (w50 hw))) (mvT hZ_210 (w50 hw)) (mvT hZ_210 (w49 hw)) (by decide) (backOfSH (vm0 := T_200.vm) (W := 0) (rm_ind_1 l Z a0 hw [] G1 G3 HG T_229.heap n0 O_240 a_194 a_174 a_175 k_176 i_142 g_232 E_236 F_237 F_238 V_239 g_145 g_146) hZ_210 (w51 hw) (w32 hw) (by decide) (by decide) hEL CH_234) q_244 q_246 (g := (mkF m 63 #[VI p0, VI p1, VI p2, VI p3, VI p4, VI 1, VI i_142, VI i_150, VI i_158, VI i_166, VR a_174, VR a_194, .unset, .unset, .unset] [(.ref a_194)])) rfl (by rw [hml]; rfl) (Steps.refl _) (argsL := []) (rest := []) (lenOf pd_678 rfl) rfl (by show 2 * 0 + _ ≤ _; exact Nat.le_of_eq rfl) (hb hby at_63) (fun _ _ => ⟨rfl, rfl, (by decide : 6 + 2 ≤ _), (by decide : 24 + 4 ≤ _)⟩)
  dsimp only [Pt.U, Pt.locs, Pt.cells, Pt.slots] at Y_241 S_241 G_241 l_241 y_241 z_241 st_241 hQ_241 R_241
  subst l_241 y_241 z_241
  obtain ⟨X_241, hS_241, hZ_241, hown_241⟩ := rebS S_208 (n1 := T_229.heap.size) (by rw [show T_229.heap = T_229.heap from rfl]; exact (Nat.le_trans hk_209 K_231.1)) Y_241 S_241 G_241 hZ_210 ho_211
  have C_248 : Steps p.tables e below S0 (T_229.setTop (mkF m 63 #[VI p0, VI p1, VI p2, VI p3, VI p4, VI 1, VI i_142, VI i_150, VI i_158, VI i_166, VR a_174, VR a_194, .unset, .unset, .unset] [(.ref a_194)])) := by
   refine C_140.trans ?_
   refine XS.istore X0.here hx rfl (hb hby at_6) rfl (l' := #[VI p0, VI p1, VI p2, VI p3, VI p4, VI 1, .unset, .unset, .unset, .unset, .unset, .unset, .unset, .unset, .unset]) rfl ?_
   refine XS.iloadN X0.here hx rfl (hb hby at_8) rfl ?_
   refine st_141 _ ?_
   refine XS.istore X_141.here hx rfl (hb hby at_12) rfl (l' := #[VI p0, VI p1, VI p2, VI p3, VI p4, VI 1, VI i_142, .unset, .unset, .unset, .unset, .unset, .unset, .unset, .unset]) rfl ?_
   refine XS.iloadN X_141.here hx rfl (hb hby at_14) rfl ?_
   refine st_149 _ ?_
   refine XS.istore X_149.here hx rfl (hb hby at_18) rfl (l' := #[VI p0, VI p1, VI p2, VI p3, VI p4, VI 1, VI i_142, VI i_150, .unset, .unset, .unset, .unset, .unset, .unset, .unset]) rfl ?_
   refine XS.iloadN X_149.here hx rfl (hb hby at_20) rfl ?_
   refine st_157 _ ?_
   refine XS.istore X_157.here hx rfl (hb hby at_24) rfl (l' := #[VI p0, VI p1, VI p2, VI p3, VI p4, VI 1, VI i_142, VI i_150, VI i_158, .unset, .unset, .unset, .unset, .unset, .unset]) rfl ?_
   refine XS.iload X_157.here hx rfl (hb hby at_26) rfl ?_
   refine st_165 _ ?_
   refine XS.istore X_165.here hx rfl (hb hby at_31) rfl (l' := #[VI p0, VI p1, VI p2, VI p3, VI p4, VI 1, VI i_142, VI i_150, VI i_158, VI i_166, .unset, .unset, .unset, .unset, .unset]) rfl ?_
   refine XS.iload X_165.here hx rfl (hb hby at_33) rfl ?_
   refine XS.iload X_165.here hx rfl (hb hby at_35) rfl ?_
   refine XS.iload X_165.here hx rfl (hb hby at_37) rfl ?_
   show Steps p.tables e below (T_165.setTop (mkF m 39 #[VI p0, VI p1, VI p2, VI p3, VI p4, VI 1, VI i_142, VI i_150, VI i_158, VI i_166, .unset, .unset, .unset, .unset, .unset] [(.int i_150), (.int i_142), (.int 1)])) _
   refine XS.iload X_165.here hx rfl (hb hby at_39) rfl ?_
   refine XS.iload X_165.here hx rfl (hb hby at_41) rfl ?_
   refine st_173 _ ?_
   refine XS.astore X_173.here hx rfl (hb hby at_46) rfl rfl (l' := #[VI p0, VI p1, VI p2, VI p3, VI p4, VI 1, VI i_142, VI i_150, VI i_158, VI i_166, VR a_174, .unset, .unset, .unset, .unset]) rfl ?_
   refine st_193 _ ?_
   refine XS.dup X_188.here hx rfl (hb hby at_51) rfl rfl ?_
   refine st_221 _ ?_
   refine XS.aload X_205.here hx rfl (hb hby at_54) rfl rfl ?_
   refine st_229.trans ?_
   refine XS.astore X_229.here hx rfl (hb hby at_59) rfl rfl (l' := #[VI p0, VI p1, VI p2, VI p3, VI p4, VI 1, VI i_142, VI i_150, VI i_158, VI i_166, VR a_174, VR a_194, .unset, .unset, .unset]) rfl ?_
   refine XS.aload X_229.here hx rfl (hb hby at_61) rfl rfl ?_
   exact Steps.refl _
  rcases hQ_241 with hQ_249 | hQ_250
  ·skip
   obtain ⟨a_251, a_252, k_253, rfl, N_254, K_255, g_256, g_257, g_258, g_259, g_260⟩ := hQ_249
   have N_261 := Fr.app N_233 N_254
   have CH_262 : CHv Z consts_1 T_241.vm T_241.heap := R_241.1
   have CR_263 : CHr Z consts_1 s.vm h0 T_241.vm T_241.heap := CR_235.trans R_241
   have O_264 : Old Z n0 T_241.heap := (O_240.keep K_255 all0)
   obtain ⟨q_266, q_267, q_268, q_269, q_270⟩ := isOf (T := T_241) hZ_241 rfl g_256
   obtain ⟨_, _, ⟨T_265, L_265, k_265, n_265⟩, -, X_265, ⟨Lc_265, hQ_265, l_265, y_265, z_265⟩, st_265⟩ := X_241.virtualBack hx (y := M141) (z := M141) hown_241 (mvT hZ_241 (w107 hw)) (mvT hZ_241 (w69 hw)) (notFace_of_selects (args := #[]) (mvT hZ_241 (w71 hw))) (mvT hZ_241 (w71 hw)) (mvT hZ_241 (w70 hw)) (by decide) (backOf (W := 0) (rm_lenany l Z a0 hw [] G1 G3 HG T_241.heap n0 O_264 a_251 a_252 k_253 (0 : Int32) [] g_256 g_257 g_258 g_259) hZ_241 (w72 hw) (w10 hw) (by decide) (by decide)) q_268 q_270 (g := (mkF m 131 #[VI p0, VI p1, VI p2, VI p3, VI p4, VI 1, VI i_142, VI i_150, VI i_158, VI i_166, VR a_174, VR a_194, VR a_251, VI 31, VI 0] [(.ref a_251)])) rfl (by rw [hml]; rfl) (Steps.refl _) (argsL := []) (rest := []) (lenOf pd_232 rfl) rfl (by show 2 * 0 + _ ≤ _; exact Nat.le_of_eq rfl) (hb hby at_131) (fun _ _ => ⟨rfl, rfl, (by decide : 8 + 0 ≤ _), (by decide : 28 + 0 ≤ _)⟩)
   dsimp only [Pt.U, Pt.locs, Pt.cells, Pt.slots] at X_265 l_265 y_265 z_265 st_265 hQ_265
   subst l_265 y_265 z_265
   obtain ⟨rfl, N_271, e_272⟩ := hQ_265
   have N_273 := Fr.app N_261 N_271
   have e_274 : T_265.heap = T_241.heap := e_272
   have C_275 : Steps p.tables e below S0 (T_265.setTop (mkF m 180 #[VI p0, VI p1, VI p2, VI p3, VI p4, VI 1, VI i_142, VI i_150, VI i_158, VI i_166, VR a_174, VR a_194, VR a_251, VI 31, VI 0] [(.int 1)])) := by
    refine C_248.trans ?_
    refine st_241.trans ?_
    refine XS.astore X_241.here hx rfl (hb hby at_66) rfl rfl (l' := #[VI p0, VI p1, VI p2, VI p3, VI p4, VI 1, VI i_142, VI i_150, VI i_158, VI i_166, VR a_174, VR a_194, VR a_251, .unset, .unset]) rfl ?_
    refine XS.bipush X_241.here hx rfl (hb hby at_68) ?_
    refine XS.istore X_241.here hx rfl (hb hby at_70) rfl (l' := #[VI p0, VI p1, VI p2, VI p3, VI p4, VI 1, VI i_142, VI i_150, VI i_158, VI i_166, VR a_174, VR a_194, VR a_251, VI 31, .unset]) rfl ?_
    refine XS.iload X_241.here hx rfl (hb hby at_72) rfl ?_
    refine XS.ifYes X_241.here hx rfl (pc0 := 74) (pc' := 83) rfl (hb hby at_74) rfl (by decide) (by decide) (by decide) ?_
    refine XS.iload X_241.here hx rfl (hb hby at_83) rfl ?_
    refine XS.iload X_241.here hx rfl (hb hby at_85) rfl ?_
    refine XS.icmpNo X_241.here hx rfl (hb hby at_87) rfl (ii_ne_f g_260) ?_
    refine XS.iconst X_241.here hx rfl (hb hby at_90) ?_
    refine XS.istore X_241.here hx rfl (hb hby at_91) rfl (l' := #[VI p0, VI p1, VI p2, VI p3, VI p4, VI 1, VI i_142, VI i_150, VI i_158, VI i_166, VR a_174, VR a_194, VR a_251, VI 31, VI 0]) rfl ?_
    refine XS.goto X_241.here hx rfl (pc0 := 93) (pc' := 124) rfl (hb hby at_93) (by decide) (by decide) ?_
    refine XS.aload X_241.here hx rfl (hb hby at_124) rfl rfl ?_
    refine XS.ifnullNo X_241.here hx rfl (hb hby at_126) rfl ?_
    refine XS.aload X_241.here hx rfl (hb hby at_129) rfl rfl ?_
    refine st_265.trans ?_
    show Steps p.tables e below (T_265.setTop (mkF m 134 #[VI p0, VI p1, VI p2, VI p3, VI p4, VI 1, VI i_142, VI i_150, VI i_158, VI i_166, VR a_174, VR a_194, VR a_251, VI 31, VI 0] [(.int 0)])) _
    refine XS.iload X_265.here hx rfl (hb hby at_134) rfl ?_
    refine XS.icmpYes X_265.here hx rfl (pc0 := 136) (pc' := 141) rfl (hb hby at_136) rfl (by decide) (by decide) (by decide) ?_
    refine XS.iload X_265.here hx rfl (hb hby at_141) rfl ?_
    refine XS.iconst X_265.here hx rfl (hb hby at_143) ?_
    refine XS.icmpYes X_265.here hx rfl (pc0 := 144) (pc' := 160) rfl (hb hby at_144) rfl (by decide) (by decide) (by decide) ?_
    refine XS.iload X_265.here hx rfl (hb hby at_160) rfl ?_
    refine XS.iconst X_265.here hx rfl (hb hby at_162) ?_
    refine XS.icmpYes X_265.here hx rfl (pc0 := 163) (pc' := 179) rfl (hb hby at_163) rfl (by decide) (by decide) (by decide) ?_
    refine XS.iconst X_265.here hx rfl (hb hby at_179) ?_
    exact Steps.refl _
   have K_276 : Keep h0 T_241.heap [] := ((((((Keep.refl _ _).trans K_178 all0).ext E_190).ext E_207).trans K_231 (allS (Or.inr (Nat.le_trans K_178.1 (Nat.le_of_eq g_195.symm))) all0)).trans K_255 all0)
   obtain ⟨fs, hr, hrun, hended, hRE⟩ := X_265.leaveW hS_241 (by rw [show T_265.heap = T_241.heap from e_274]; exact (Nat.le_refl _)) (v := some (.int 1)) (fun h => by rw [Bd.returns] at h; cases h)
   refine ⟨_, _, C_275.trans (retN X_265 hx (t := .boolean) Bd.returns (by simp) (hb hby at_180) hr), hrun, hended, _, _, rfl, ?_, ?_, hRE.1, hRE.2.1, hRE.2.2.1, hRE.2.2.2.mono (by decide) (by decide)⟩
   ·show Q_law Z G1 G3 p0 p1 p2 p3 p4 h0 n0 (some (.int 1)) T_265.heap _
    rw [e_274]
    exact ⟨rfl, N_273, K_276⟩
   ·show CHr Z consts_1 s.vm s.heap T_265.vm T_265.heap
    rw [hh, show T_265.heap = T_241.heap from e_274]
    exact CR_263.trans (CHv.at X_265 hZ_241 hEL CH_262)
  ·skip
   obtain ⟨a_277, a_278, k_279, rfl, N_280, K_281, g_282, g_283, g_284, g_285, g_286⟩ := hQ_250
   have N_287 := Fr.app N_233 N_280
   have CH_288 : CHv Z consts_1 T_241.vm T_241.heap := R_241.1
   have CR_289 : CHr Z consts_1 s.vm h0 T_241.vm T_241.heap := CR_235.trans R_241
   have O_290 : Old Z n0 T_241.heap := (O_240.keep K_281 all0)
   obtain ⟨q_292, q_293, q_294, q_295, q_296⟩ := isOf (T := T_241) hZ_241 rfl g_282
   obtain ⟨_, _, ⟨T_291, L_291, k_291, n_291⟩, -, X_291, ⟨Lc_291, hQ_291, l_291, y_291, z_291⟩, st_291⟩ := X_241.virtualBack hx (y := M141) (z := M141) hown_241 (mvT hZ_241 (w107 hw)) (mvT hZ_241 (w69 hw)) (notFace_of_selects (args := #[]) (mvT hZ_241 (w71 hw))) (mvT hZ_241 (w71 hw)) (mvT hZ_241 (w70 hw)) (by decide) (backOf (W := 0) (rm_lenany l Z a0 hw [] G1 G3 HG T_241.heap n0 O_290 a_277 a_278 k_279 (1 : Int32) [(.int (own_lo8 i_142))] g_282 g_283 g_284 g_285) hZ_241 (w72 hw) (w10 hw) (by decide) (by decide)) q_294 q_296 (g := (mkF m 131 #[VI p0, VI p1, VI p2, VI p3, VI p4, VI 1, VI i_142, VI i_150, VI i_158, VI i_166, VR a_174, VR a_194, VR a_277, VI 31, VI 1] [(.ref a_277)])) rfl (by rw [hml]; rfl) (Steps.refl _) (argsL := []) (rest := []) (lenOf pd_232 rfl) rfl (by show 2 * 0 + _ ≤ _; exact Nat.le_of_eq rfl) (hb hby at_131) (fun _ _ => ⟨rfl, rfl, (by decide : 8 + 0 ≤ _), (by decide : 28 + 0 ≤ _)⟩)
   dsimp only [Pt.U, Pt.locs, Pt.cells, Pt.slots] at X_291 l_291 y_291 z_291 st_291 hQ_291
   subst l_291 y_291 z_291
   obtain ⟨rfl, N_297, e_298⟩ := hQ_291
   have N_299 := Fr.app N_287 N_297
   have e_300 : T_291.heap = T_241.heap := e_298
   obtain ⟨q_302, q_303, q_304, q_305, q_306⟩ := isOf (T := T_291) hZ_241 e_300 g_282
   obtain ⟨_, _, ⟨T_301, L_301, k_301, n_301⟩, -, X_301, ⟨Lc_301, hQ_301, l_301, y_301, z_301⟩, st_301⟩ := X_291.virtualBack hx (y := M479) (z := M479) hown_241 (mvT hZ_241 (w125 hw)) (mvT hZ_241 (w126 hw)) (notFace_of_selects (args := #[]) (mvT hZ_241 (w128 hw))) (mvT hZ_241 (w128 hw)) (mvT hZ_241 (w127 hw)) (by decide) (backOf (W := 0) (rm_ch_1_0 l Z a0 hw [] G1 G3 HG T_241.heap n0 O_290 a_277 a_278 k_279 (own_lo8 i_142) g_282 g_283 g_284 g_285) hZ_241 (w129 hw) (w10 hw) (by decide) (by decide)) q_304 q_306 (g := (mkF m 150 #[VI p0, VI p1, VI p2, VI p3, VI p4, VI 1, VI i_142, VI i_150, VI i_158, VI i_166, VR a_174, VR a_194, VR a_277, VI 31, VI 1] [(.int 0), (.ref a_277)])) rfl (by rw [hml]; rfl) (Steps.refl _) (argsL := [(.int 0)]) (rest := []) (lenOf pd_663 rfl) rfl (by show 2 * 0 + _ ≤ _; exact Nat.le_of_eq rfl) (hb hby at_150) (fun _ _ => ⟨rfl, e_300, (by decide : 8 + 0 ≤ _), (by decide : 28 + 0 ≤ _)⟩)
   dsimp only [Pt.U, Pt.locs, Pt.cells, Pt.slots] at X_301 l_301 y_301 z_301 st_301 hQ_301
   subst l_301 y_301 z_301
   obtain ⟨rfl, N_307, e_308⟩ := hQ_301
   have N_309 := Fr.app N_299 N_307
   have e_310 : T_301.heap = T_241.heap := e_308
   have C_311 : Steps p.tables e below S0 (T_301.setTop (mkF m 180 #[VI p0, VI p1, VI p2, VI p3, VI p4, VI 1, VI i_142, VI i_150, VI i_158, VI i_166, VR a_174, VR a_194, VR a_277, VI 31, VI 1] [(.int 1)])) := by
    refine C_248.trans ?_
    refine st_241.trans ?_
    refine XS.astore X_241.here hx rfl (hb hby at_66) rfl rfl (l' := #[VI p0, VI p1, VI p2, VI p3, VI p4, VI 1, VI i_142, VI i_150, VI i_158, VI i_166, VR a_174, VR a_194, VR a_277, .unset, .unset]) rfl ?_
    refine XS.bipush X_241.here hx rfl (hb hby at_68) ?_
    refine XS.istore X_241.here hx rfl (hb hby at_70) rfl (l' := #[VI p0, VI p1, VI p2, VI p3, VI p4, VI 1, VI i_142, VI i_150, VI i_158, VI i_166, VR a_174, VR a_194, VR a_277, VI 31, .unset]) rfl ?_
    refine XS.iload X_241.here hx rfl (hb hby at_72) rfl ?_
    refine XS.ifYes X_241.here hx rfl (pc0 := 74) (pc' := 83) rfl (hb hby at_74) rfl (by decide) (by decide) (by decide) ?_
    refine XS.iload X_241.here hx rfl (hb hby at_83) rfl ?_
    refine XS.iload X_241.here hx rfl (hb hby at_85) rfl ?_
    refine XS.icmpYes X_241.here hx rfl (pc0 := 87) (pc' := 96) rfl (hb hby at_87) rfl (ii_ne_t g_286) (by decide) (by decide) ?_
    refine XS.iload X_241.here hx rfl (hb hby at_96) rfl ?_
    refine XS.iconst X_241.here hx rfl (hb hby at_98) ?_
    refine XS.icmpNo X_241.here hx rfl (hb hby at_99) rfl (by decide) ?_
    refine XS.iconst X_241.here hx rfl (hb hby at_102) ?_
    refine XS.istore X_241.here hx rfl (hb hby at_103) rfl (l' := #[VI p0, VI p1, VI p2, VI p3, VI p4, VI 1, VI i_142, VI i_150, VI i_158, VI i_166, VR a_174, VR a_194, VR a_277, VI 31, VI 1]) rfl ?_
    refine XS.goto X_241.here hx rfl (pc0 := 105) (pc' := 124) rfl (hb hby at_105) (by decide) (by decide) ?_
    refine XS.aload X_241.here hx rfl (hb hby at_124) rfl rfl ?_
    show Steps p.tables e below (T_241.setTop (mkF m 126 #[VI p0, VI p1, VI p2, VI p3, VI p4, VI 1, VI i_142, VI i_150, VI i_158, VI i_166, VR a_174, VR a_194, VR a_277, VI 31, VI 1] [(.ref a_277)])) _
    refine XS.ifnullNo X_241.here hx rfl (hb hby at_126) rfl ?_
    refine XS.aload X_241.here hx rfl (hb hby at_129) rfl rfl ?_
    refine st_291.trans ?_
    refine XS.iload X_291.here hx rfl (hb hby at_134) rfl ?_
    refine XS.icmpYes X_291.here hx rfl (pc0 := 136) (pc' := 141) rfl (hb hby at_136) rfl (by decide) (by decide) (by decide) ?_
    refine XS.iload X_291.here hx rfl (hb hby at_141) rfl ?_
    refine XS.iconst X_291.here hx rfl (hb hby at_143) ?_
    refine XS.icmpNo X_291.here hx rfl (hb hby at_144) rfl (by decide) ?_
    refine XS.aload X_291.here hx rfl (hb hby at_147) rfl rfl ?_
    refine XS.iconst X_291.here hx rfl (hb hby at_149) ?_
    refine st_301.trans ?_
    refine XS.iload X_301.here hx rfl (hb hby at_153) rfl ?_
    refine XS.icmpYes X_301.here hx rfl (pc0 := 155) (pc' := 160) rfl (hb hby at_155) rfl (ii_eq_t (own_at_says g_145 g_146)) (by decide) (by decide) ?_
    refine XS.iload X_301.here hx rfl (hb hby at_160) rfl ?_
    refine XS.iconst X_301.here hx rfl (hb hby at_162) ?_
    refine XS.icmpYes X_301.here hx rfl (pc0 := 163) (pc' := 179) rfl (hb hby at_163) rfl (by decide) (by decide) (by decide) ?_
    show Steps p.tables e below (T_301.setTop (mkF m 179 #[VI p0, VI p1, VI p2, VI p3, VI p4, VI 1, VI i_142, VI i_150, VI i_158, VI i_166, VR a_174, VR a_194, VR a_277, VI 31, VI 1] [])) _
    refine XS.iconst X_301.here hx rfl (hb hby at_179) ?_
    exact Steps.refl _
   have K_312 : Keep h0 T_241.heap [] := ((((((Keep.refl _ _).trans K_178 all0).ext E_190).ext E_207).trans K_231 (allS (Or.inr (Nat.le_trans K_178.1 (Nat.le_of_eq g_195.symm))) all0)).trans K_281 all0)
   obtain ⟨fs, hr, hrun, hended, hRE⟩ := X_301.leaveW hS_241 (by rw [show T_301.heap = T_241.heap from e_310]; exact (Nat.le_refl _)) (v := some (.int 1)) (fun h => by rw [Bd.returns] at h; cases h)
   refine ⟨_, _, C_311.trans (retN X_301 hx (t := .boolean) Bd.returns (by simp) (hb hby at_180) hr), hrun, hended, _, _, rfl, ?_, ?_, hRE.1, hRE.2.1, hRE.2.2.1, hRE.2.2.2.mono (by decide) (by decide)⟩
   ·show Q_law Z G1 G3 p0 p1 p2 p3 p4 h0 n0 (some (.int 1)) T_301.heap _
    rw [e_310]
    exact ⟨rfl, N_309, K_312⟩
   ·show CHr Z consts_1 s.vm s.heap T_301.vm T_301.heap
    rw [hh, show T_301.heap = T_241.heap from e_310]
    exact CR_289.trans (CHv.at X_301 hZ_241 hEL CH_288)
 ·skip
  have C_313 : Steps p.tables e below S0 (s₁.setTop (mkF m 6 #[VI p0, VI p1, VI p2, VI p3, VI p4, .unset, .unset, .unset, .unset, .unset, .unset, .unset, .unset, .unset, .unset] [(.int 2)])) := by have q := C_1; rw [hn_4] at q; exact q
  obtain ⟨_, _, ⟨T_314, L_314, k_314, n_314⟩, -, X_314, ⟨Lc_314, hQ_314, l_314, y_314, z_314⟩, st_314⟩ := Jvm.LawKit.callS X0 hx (y := M492) hown (mvT hZ (w1 hw)) (mvT hZ (w2 hw)) (mvT hZ (w3 hw)) (mvT hZ (w4 hw)) (by decide) (backOf (W := 0) (rm_chh l Z a0 hw [] G1 G3 HG h0 n0 X00 p1 ) hZ (w4 hw) (w3 hw) (by decide) (by decide)) (g := (mkF m 9 #[VI p0, VI p1, VI p2, VI p3, VI p4, VI 2, .unset, .unset, .unset, .unset, .unset, .unset, .unset, .unset, .unset] [(.int p1)])) rfl (by rw [hml]; rfl) (argsL := [(.int p1)]) (rest := []) (lenOf pd_663 rfl) rfl (by show 2 * 0 + _ ≤ _; exact Nat.le_of_eq rfl) (hb hby at_9) (fun _ _ => ⟨rfl, e0, (by decide : 0 + 0 ≤ _), (by decide : 0 + 0 ≤ _)⟩)
  dsimp only [Pt.U, Pt.locs, Pt.cells, Pt.slots] at X_314 l_314 y_314 z_314 st_314 hQ_314
  subst l_314 y_314 z_314
  obtain ⟨i_315, rfl, N_316, e_317, g_318, g_319⟩ := hQ_314
  have N_320 := Fr.app N0 N_316
  have e_321 : T_314.heap = h0 := e_317
  obtain ⟨_, _, ⟨T_322, L_322, k_322, n_322⟩, -, X_322, ⟨Lc_322, hQ_322, l_322, y_322, z_322⟩, st_322⟩ := Jvm.LawKit.callS X_314 hx (y := M492) hown (mvT hZ (w1 hw)) (mvT hZ (w2 hw)) (mvT hZ (w3 hw)) (mvT hZ (w4 hw)) (by decide) (backOf (W := 0) (rm_chh l Z a0 hw [] G1 G3 HG h0 n0 X00 p2 ) hZ (w4 hw) (w3 hw) (by decide) (by decide)) (g := (mkF m 15 #[VI p0, VI p1, VI p2, VI p3, VI p4, VI 2, VI i_315, .unset, .unset, .unset, .unset, .unset, .unset, .unset, .unset] [(.int p2)])) rfl (by rw [hml]; rfl) (argsL := [(.int p2)]) (rest := []) (lenOf pd_663 rfl) rfl (by show 2 * 0 + _ ≤ _; exact Nat.le_of_eq rfl) (hb hby at_15) (fun _ _ => ⟨rfl, e_321, (by decide : 0 + 0 ≤ _), (by decide : 0 + 0 ≤ _)⟩)
  dsimp only [Pt.U, Pt.locs, Pt.cells, Pt.slots] at X_322 l_322 y_322 z_322 st_322 hQ_322
  subst l_322 y_322 z_322
  obtain ⟨i_323, rfl, N_324, e_325, g_326, g_327⟩ := hQ_322
  have N_328 := Fr.app N_320 N_324
  have e_329 : T_322.heap = h0 := e_325
  obtain ⟨_, _, ⟨T_330, L_330, k_330, n_330⟩, -, X_330, ⟨Lc_330, hQ_330, l_330, y_330, z_330⟩, st_330⟩ := Jvm.LawKit.callS X_322 hx (y := M492) hown (mvT hZ (w1 hw)) (mvT hZ (w2 hw)) (mvT hZ (w3 hw)) (mvT hZ (w4 hw)) (by decide) (backOf (W := 0) (rm_chh l Z a0 hw [] G1 G3 HG h0 n0 X00 p3 ) hZ (w4 hw) (w3 hw) (by decide) (by decide)) (g := (mkF m 21 #[VI p0, VI p1, VI p2, VI p3, VI p4, VI 2, VI i_315, VI i_323, .unset, .unset, .unset, .unset, .unset, .unset, .unset] [(.int p3)])) rfl (by rw [hml]; rfl) (argsL := [(.int p3)]) (rest := []) (lenOf pd_663 rfl) rfl (by show 2 * 0 + _ ≤ _; exact Nat.le_of_eq rfl) (hb hby at_21) (fun _ _ => ⟨rfl, e_329, (by decide : 0 + 0 ≤ _), (by decide : 0 + 0 ≤ _)⟩)
  dsimp only [Pt.U, Pt.locs, Pt.cells, Pt.slots] at X_330 l_330 y_330 z_330 st_330 hQ_330
  subst l_330 y_330 z_330
  obtain ⟨i_331, rfl, N_332, e_333, g_334, g_335⟩ := hQ_330
  have N_336 := Fr.app N_328 N_332
  have e_337 : T_330.heap = h0 := e_333
  obtain ⟨_, _, ⟨T_338, L_338, k_338, n_338⟩, -, X_338, ⟨Lc_338, hQ_338, l_338, y_338, z_338⟩, st_338⟩ := Jvm.LawKit.callS X_330 hx (y := M492) hown (mvT hZ (w1 hw)) (mvT hZ (w2 hw)) (mvT hZ (w3 hw)) (mvT hZ (w4 hw)) (by decide) (backOf (W := 0) (rm_chh l Z a0 hw [] G1 G3 HG h0 n0 X00 p4 ) hZ (w4 hw) (w3 hw) (by decide) (by decide)) (g := (mkF m 28 #[VI p0, VI p1, VI p2, VI p3, VI p4, VI 2, VI i_315, VI i_323, VI i_331, .unset, .unset, .unset, .unset, .unset, .unset] [(.int p4)])) rfl (by rw [hml]; rfl) (argsL := [(.int p4)]) (rest := []) (lenOf pd_663 rfl) rfl (by show 2 * 0 + _ ≤ _; exact Nat.le_of_eq rfl) (hb hby at_28) (fun _ _ => ⟨rfl, e_337, (by decide : 0 + 0 ≤ _), (by decide : 0 + 0 ≤ _)⟩)
  dsimp only [Pt.U, Pt.locs, Pt.cells, Pt.slots] at X_338 l_338 y_338 z_338 st_338 hQ_338
  subst l_338 y_338 z_338
  obtain ⟨i_339, rfl, N_340, e_341, g_342, g_343⟩ := hQ_338
  have N_344 := Fr.app N_336 N_340
  have e_345 : T_338.heap = h0 := e_341
  obtain ⟨_, _, ⟨T_346, L_346, k_346, n_346⟩, -, X_346, ⟨Lc_346, hQ_346, l_346, y_346, z_346⟩, st_346⟩ := Jvm.LawKit.callS X_338 hx (y := M507) hown (mvT hZ (w5 hw)) (mvT hZ (w6 hw)) (mvT hZ (w3 hw)) (mvT hZ (w7 hw)) (by decide) (backOf (W := 0) (rm_mk_2 l Z a0 hw [] G1 G3 HG h0 n0 X00 i_315 i_323 i_331 i_339 g_318 g_319 g_326 g_327) hZ (w7 hw) (w3 hw) (by decide) (by decide)) (g := (mkF m 43 #[VI p0, VI p1, VI p2, VI p3, VI p4, VI 2, VI i_315, VI i_323, VI i_331, VI i_339, .unset, .unset, .unset, .unset, .unset] [(.int i_339), (.int i_331), (.int i_323), (.int i_315), (.int 2)])) rfl (by rw [hml]; rfl) (argsL := [(.int 2), (.int i_315), (.int i_323), (.int i_331), (.int i_339)]) (rest := []) (lenOf pd_667 rfl) rfl (by show 2 * 0 + _ ≤ _; exact Nat.le_of_eq rfl) (hb hby at_43) (fun _ _ => ⟨rfl, e_345, (by decide : 0 + 3 ≤ _), (by decide : 0 + 8 ≤ _)⟩)
  dsimp only [Pt.U, Pt.locs, Pt.cells, Pt.slots] at X_346 l_346 y_346 z_346 st_346 hQ_346
  subst l_346 y_346 z_346
  obtain ⟨a_347, a_348, k_349, rfl, N_350, K_351, g_352, g_353, g_354, g_355⟩ := hQ_346
  have N_356 := Fr.app N_344 N_350
  have CH_357 : CHv Z consts_1 s.vm T_346.heap := CHv.keep K_351 sf0 CH0
  have CR_358 : CHr Z consts_1 s.vm h0 s.vm T_346.heap := CR0.trans (CHr.keep K_351 sf0 CH0)
  obtain ⟨T_359, h_360, X_361, e_362, E_363, A_364, D_365, U_369, st_366⟩ := newO X_346 hx hZ hown (w30 hw) (w31 hw) (w32 hw) rfl (g := (mkF m 48 #[VI p0, VI p1, VI p2, VI p3, VI p4, VI 2, VI i_315, VI i_323, VI i_331, VI i_339, VR a_347, .unset, .unset, .unset, .unset] [])) rfl (hb hby at_48) (by decide) (by decide)
  obtain ⟨a_367, g_368⟩ : ∃ z, z = T_346.heap.size := ⟨_, rfl⟩
  rw [← g_368] at A_364 D_365 st_366 U_369
  have CH_370 : CHv Z consts_1 s.vm h_360 := CHv.ext E_363 CH_357
  have CR_371 : CHr Z consts_1 s.vm h0 s.vm h_360 := CR_358.trans (CHr.ext E_363 CH_357)
  obtain ⟨a_372, T_373, h_374, k1_375, b_376, k_377, X_378, e_379, E_380, S_381, hk_382, hZ_383, ho_384, Ex_385, Fc_386, Fv_387, Va_388, la_389, lb_390, R_391, L_392, Sf_393, st_394⟩ := ldcCH (vm0 := s.vm) X_361 hx hZ hown (w33 hw) hSA e_362 hS0 (Nat.le_trans (Nat.le_refl _) (Nat.le_trans K_351.1 E_363.1)) hEL (by decide) CH_370 (vs := [(.int 50), (.int 52), (.int 53)]) (z := (3 : Int32)) ⟨by decide, by decide⟩ (by decide) (by decide) (g := (mkF m 52 #[VI p0, VI p1, VI p2, VI p3, VI p4, VI 2, VI i_315, VI i_323, VI i_331, VI i_339, VR a_347, .unset, .unset, .unset, .unset] [(.ref a_367), (.ref a_367)])) rfl (hb hby at_52) (n := 12) (by decide) (by decide) (by decide) (by decide)
  have CH_395 : CHv Z consts_1 T_373.vm h_374 := R_391.1
  have CR_396 : CHr Z consts_1 s.vm h0 T_373.vm h_374 := CR_371.trans R_391
  have E_397 : Exa Z h_374 a_367 "com/example/kartoteka/kartoteka/Field" := (A_364.ext E_380)
  have F_398 : Fld Z h_374 a_367 "com/example/kartoteka/kartoteka/Field" "tag" "Ljava/lang/String;" .null := ((D_365 (Or.inr (w44 hw)) (ty := (.object "java/lang/String")) (by decide)).ext E_380)
  have F_399 : Fld Z h_374 a_367 "com/example/kartoteka/kartoteka/Field" "data" "Ljava/lang/String;" .null := ((D_365 (Or.inr (w46 hw)) (ty := (.object "java/lang/String")) (by decide)).ext E_380)
  have O_400 : Old Z n0 T_346.heap := (X00.keep K_351 all0)
  have O_401 : Old Z n0 h_374 := ((O_400.ext E_363).ext E_380)
  obtain ⟨_, _, ⟨T_402, L_402, k_402, n_402⟩, -, X_402, ⟨Lc_402, hQ_402, l_402, y_402, z_402⟩, st_402⟩ := X_378.specialBack hx (y := M602) rfl ho_384 (mvT hZ_383 (w34 hw)) (mvT hZ_383 (w35 hw)) (mvT hZ_383 (w36 hw)) (by decide) (backOf (W := 1) (rm_finit l Z a0 hw [] G1 G3 HG h_374 n0 O_401 a_367 a_372 a_347 E_397 F_398 F_399 (Nat.le_trans (own_n0 O_400) (Nat.le_of_eq g_368.symm))) hZ_383 (w36 hw) (w32 hw) (by decide) (by decide)) (g := (mkF m 56 #[VI p0, VI p1, VI p2, VI p3, VI p4, VI 2, VI i_315, VI i_323, VI i_331, VI i_339, VR a_347, .unset, .unset, .unset, .unset] [(.ref a_347), (.ref a_372), (.ref a_367), (.ref a_367)])) rfl (by rw [hml]; rfl) (Steps.refl _) (a := a_367) (argsL := [(.ref a_372), (.ref a_347)]) (rest := [(.ref a_367)]) (lenOf pd_674 rfl) rfl (by show 2 * 0 + _ ≤ _; exact Nat.le_of_eq rfl) (hb hby at_56) (fun _ _ => ⟨rfl, e_379, (by decide : 6 + 0 ≤ _), (by decide : 26 + 0 ≤ _)⟩)
  dsimp only [Pt.U, Pt.locs, Pt.cells, Pt.slots] at X_402 l_402 y_402 z_402 st_402 hQ_402
  subst l_402 y_402 z_402
  obtain ⟨rfl, N_403, K_404, g_405⟩ := hQ_402
  have N_406 := Fr.app N_356 N_403
  have CH_407 : CHv Z consts_1 T_373.vm T_402.heap := CHv.keep K_404 (sfS (Safe.exa hZ_383.alike E_397 (by decide) (by decide)) sf0) CH_395
  have CR_408 : CHr Z consts_1 s.vm h0 T_373.vm T_402.heap := CR_396.trans (CHr.keep K_404 (sfS (Safe.exa hZ_383.alike E_397 (by decide) (by decide)) sf0) CH_395)
  have E_409 : Exa Z T_402.heap a_347 "java/lang/String" := (((g_352.ext E_363).ext E_380).keep K_404)
  have F_410 : Fld Z T_402.heap a_347 "java/lang/String" "coder" "B" (.int 0) := (((g_353.ext E_363).ext E_380).keep K_404 (ninS (Nat.ne_of_lt (Nat.lt_of_lt_of_le g_352.lt (Nat.le_trans (Nat.le_refl _) (Nat.le_of_eq g_368.symm)))) nin0))
  have F_411 : Fld Z T_402.heap a_347 "java/lang/String" "value" "[B" (.ref a_348) := (((g_354.ext E_363).ext E_380).keep K_404 (ninS (Nat.ne_of_lt (Nat.lt_of_lt_of_le g_352.lt (Nat.le_trans (Nat.le_refl _) (Nat.le_of_eq g_368.symm)))) nin0))
  have V_412 : Arv Z T_402.heap a_348 k_349 .byte (2 : Int32) [(.int (own_lo8 i_315)), (.int (own_lo8 i_323))] (.int 0) := (((g_355.ext E_363).ext E_380).keep K_404 (ninS (Nat.ne_of_lt (Nat.lt_of_lt_of_le g_355.lt (Nat.le_trans (Nat.le_refl _) (Nat.le_of_eq g_368.symm)))) nin0))
  have O_413 : Old Z n0 T_402.heap := (O_401.keep K_404 (allS (Nat.le_trans (own_n0 O_400) (Nat.le_of_eq g_368.symm)) all0))
  have E_420 : Exa Z T_402.heap a_367 "com/example/kartoteka/kartoteka/Field" := (E_397.keep K_404)
  obtain ⟨q_415, q_416, q_417, q_418, q_419⟩ := isOf (T := T_402) hZ_383 rfl E_420
  obtain ⟨_, _, ⟨T_414, L_414, k_414, n_414⟩, -, Y_414, S_414, G_414, ⟨Lc_414, hQ_414, l_414, y_414, z_414, R_414⟩, st_414⟩ := X_402.virtualBackS hx (y := M624) (z := M624) ho_384 (mvT hZ_383 (w47 hw)) (mvT hZ_383 (w48 hw)) (notFace_of_selects (args := #[]) (mvT hZ_383 (w50 hw))) (mvT hZ_383 (w50 hw)) (mvT hZ_383 (w49 hw)) (by decide) (backOfSH (vm0 := T_373.vm) (W := 0) (rm_ind_2 l Z a0 hw [] G1 G3 HG T_402.heap n0 O_413 a_367 a_347 a_348 k_349 i_315 i_323 g_405 E_409 F_410 F_411 V_412 g_318 g_319 g_326 g_327) hZ_383 (w51 hw) (w32 hw) (by decide) (by decide) hEL CH_407) q_417 q_419 (g := (mkF m 63 #[VI p0, VI p1, VI p2, VI p3, VI p4, VI 2, VI i_315, VI i_323, VI i_331, VI i_339, VR a_347, VR a_367, .unset, .unset, .unset] [(.ref a_367)])) rfl (by rw [hml]; rfl) (Steps.refl _) (argsL := []) (rest := []) (lenOf pd_678 rfl) rfl (by show 2 * 0 + _ ≤ _; exact Nat.le_of_eq rfl) (hb hby at_63) (fun _ _ => ⟨rfl, rfl, (by decide : 6 + 2 ≤ _), (by decide : 26 + 5 ≤ _)⟩)
  dsimp only [Pt.U, Pt.locs, Pt.cells, Pt.slots] at Y_414 S_414 G_414 l_414 y_414 z_414 st_414 hQ_414 R_414
  subst l_414 y_414 z_414
  obtain ⟨X_414, hS_414, hZ_414, hown_414⟩ := rebS S_381 (n1 := T_402.heap.size) (by rw [show T_402.heap = T_402.heap from rfl]; exact (Nat.le_trans hk_382 K_404.1)) Y_414 S_414 G_414 hZ_383 ho_384
  have C_421 : Steps p.tables e below S0 (T_402.setTop (mkF m 63 #[VI p0, VI p1, VI p2, VI p3, VI p4, VI 2, VI i_315, VI i_323, VI i_331, VI i_339, VR a_347, VR a_367, .unset, .unset, .unset] [(.ref a_367)])) := by
   refine C_313.trans ?_
   refine XS.istore X0.here hx rfl (hb hby at_6) rfl (l' := #[VI p0, VI p1, VI p2, VI p3, VI p4, VI 2, .unset, .unset, .unset, .unset, .unset, .unset, .unset, .unset, .unset]) rfl ?_
   refine XS.iloadN X0.here hx rfl (hb hby at_8) rfl ?_
   refine st_314 _ ?_
   refine XS.istore X_314.here hx rfl (hb hby at_12) rfl (l' := #[VI p0, VI p1, VI p2, VI p3, VI p4, VI 2, VI i_315, .unset, .unset, .unset, .unset, .unset, .unset, .unset, .unset]) rfl ?_
   refine XS.iloadN X_314.here hx rfl (hb hby at_14) rfl ?_
   refine st_322 _ ?_
   refine XS.istore X_322.here hx rfl (hb hby at_18) rfl (l' := #[VI p0, VI p1, VI p2, VI p3, VI p4, VI 2, VI i_315, VI i_323, .unset, .unset, .unset, .unset, .unset, .unset, .unset]) rfl ?_
   refine XS.iloadN X_322.here hx rfl (hb hby at_20) rfl ?_
   refine st_330 _ ?_
   refine XS.istore X_330.here hx rfl (hb hby at_24) rfl (l' := #[VI p0, VI p1, VI p2, VI p3, VI p4, VI 2, VI i_315, VI i_323, VI i_331, .unset, .unset, .unset, .unset, .unset, .unset]) rfl ?_
   refine XS.iload X_330.here hx rfl (hb hby at_26) rfl ?_
   refine st_338 _ ?_
   refine XS.istore X_338.here hx rfl (hb hby at_31) rfl (l' := #[VI p0, VI p1, VI p2, VI p3, VI p4, VI 2, VI i_315, VI i_323, VI i_331, VI i_339, .unset, .unset, .unset, .unset, .unset]) rfl ?_
   refine XS.iload X_338.here hx rfl (hb hby at_33) rfl ?_
   refine XS.iload X_338.here hx rfl (hb hby at_35) rfl ?_
   refine XS.iload X_338.here hx rfl (hb hby at_37) rfl ?_
   show Steps p.tables e below (T_338.setTop (mkF m 39 #[VI p0, VI p1, VI p2, VI p3, VI p4, VI 2, VI i_315, VI i_323, VI i_331, VI i_339, .unset, .unset, .unset, .unset, .unset] [(.int i_323), (.int i_315), (.int 2)])) _
   refine XS.iload X_338.here hx rfl (hb hby at_39) rfl ?_
   refine XS.iload X_338.here hx rfl (hb hby at_41) rfl ?_
   refine st_346 _ ?_
   refine XS.astore X_346.here hx rfl (hb hby at_46) rfl rfl (l' := #[VI p0, VI p1, VI p2, VI p3, VI p4, VI 2, VI i_315, VI i_323, VI i_331, VI i_339, VR a_347, .unset, .unset, .unset, .unset]) rfl ?_
   refine st_366 _ ?_
   refine XS.dup X_361.here hx rfl (hb hby at_51) rfl rfl ?_
   refine st_394 _ ?_
   refine XS.aload X_378.here hx rfl (hb hby at_54) rfl rfl ?_
   refine st_402.trans ?_
   refine XS.astore X_402.here hx rfl (hb hby at_59) rfl rfl (l' := #[VI p0, VI p1, VI p2, VI p3, VI p4, VI 2, VI i_315, VI i_323, VI i_331, VI i_339, VR a_347, VR a_367, .unset, .unset, .unset]) rfl ?_
   refine XS.aload X_402.here hx rfl (hb hby at_61) rfl rfl ?_
   exact Steps.refl _
  rcases hQ_414 with hQ_422 | hQ_423 | hQ_424
  ·skip
   obtain ⟨a_425, a_426, k_427, rfl, N_428, K_429, g_430, g_431, g_432, g_433, g_434⟩ := hQ_422
   have N_435 := Fr.app N_406 N_428
   have CH_436 : CHv Z consts_1 T_414.vm T_414.heap := R_414.1
   have CR_437 : CHr Z consts_1 s.vm h0 T_414.vm T_414.heap := CR_408.trans R_414
   have O_438 : Old Z n0 T_414.heap := (O_413.keep K_429 all0)
   obtain ⟨q_440, q_441, q_442, q_443, q_444⟩ := isOf (T := T_414) hZ_414 rfl g_430
   obtain ⟨_, _, ⟨T_439, L_439, k_439, n_439⟩, -, X_439, ⟨Lc_439, hQ_439, l_439, y_439, z_439⟩, st_439⟩ := X_414.virtualBack hx (y := M141) (z := M141) hown_414 (mvT hZ_414 (w107 hw)) (mvT hZ_414 (w69 hw)) (notFace_of_selects (args := #[]) (mvT hZ_414 (w71 hw))) (mvT hZ_414 (w71 hw)) (mvT hZ_414 (w70 hw)) (by decide) (backOf (W := 0) (rm_lenany l Z a0 hw [] G1 G3 HG T_414.heap n0 O_438 a_425 a_426 k_427 (0 : Int32) [] g_430 g_431 g_432 g_433) hZ_414 (w72 hw) (w10 hw) (by decide) (by decide)) q_442 q_444 (g := (mkF m 131 #[VI p0, VI p1, VI p2, VI p3, VI p4, VI 2, VI i_315, VI i_323, VI i_331, VI i_339, VR a_347, VR a_367, VR a_425, VI 31, VI 0] [(.ref a_425)])) rfl (by rw [hml]; rfl) (Steps.refl _) (argsL := []) (rest := []) (lenOf pd_232 rfl) rfl (by show 2 * 0 + _ ≤ _; exact Nat.le_of_eq rfl) (hb hby at_131) (fun _ _ => ⟨rfl, rfl, (by decide : 8 + 0 ≤ _), (by decide : 31 + 0 ≤ _)⟩)
   dsimp only [Pt.U, Pt.locs, Pt.cells, Pt.slots] at X_439 l_439 y_439 z_439 st_439 hQ_439
   subst l_439 y_439 z_439
   obtain ⟨rfl, N_445, e_446⟩ := hQ_439
   have N_447 := Fr.app N_435 N_445
   have e_448 : T_439.heap = T_414.heap := e_446
   have C_449 : Steps p.tables e below S0 (T_439.setTop (mkF m 180 #[VI p0, VI p1, VI p2, VI p3, VI p4, VI 2, VI i_315, VI i_323, VI i_331, VI i_339, VR a_347, VR a_367, VR a_425, VI 31, VI 0] [(.int 1)])) := by
    refine C_421.trans ?_
    refine st_414.trans ?_
    refine XS.astore X_414.here hx rfl (hb hby at_66) rfl rfl (l' := #[VI p0, VI p1, VI p2, VI p3, VI p4, VI 2, VI i_315, VI i_323, VI i_331, VI i_339, VR a_347, VR a_367, VR a_425, .unset, .unset]) rfl ?_
    refine XS.bipush X_414.here hx rfl (hb hby at_68) ?_
    refine XS.istore X_414.here hx rfl (hb hby at_70) rfl (l' := #[VI p0, VI p1, VI p2, VI p3, VI p4, VI 2, VI i_315, VI i_323, VI i_331, VI i_339, VR a_347, VR a_367, VR a_425, VI 31, .unset]) rfl ?_
    refine XS.iload X_414.here hx rfl (hb hby at_72) rfl ?_
    refine XS.ifYes X_414.here hx rfl (pc0 := 74) (pc' := 83) rfl (hb hby at_74) rfl (by decide) (by decide) (by decide) ?_
    refine XS.iload X_414.here hx rfl (hb hby at_83) rfl ?_
    refine XS.iload X_414.here hx rfl (hb hby at_85) rfl ?_
    refine XS.icmpNo X_414.here hx rfl (hb hby at_87) rfl (ii_ne_f g_434) ?_
    refine XS.iconst X_414.here hx rfl (hb hby at_90) ?_
    refine XS.istore X_414.here hx rfl (hb hby at_91) rfl (l' := #[VI p0, VI p1, VI p2, VI p3, VI p4, VI 2, VI i_315, VI i_323, VI i_331, VI i_339, VR a_347, VR a_367, VR a_425, VI 31, VI 0]) rfl ?_
    refine XS.goto X_414.here hx rfl (pc0 := 93) (pc' := 124) rfl (hb hby at_93) (by decide) (by decide) ?_
    refine XS.aload X_414.here hx rfl (hb hby at_124) rfl rfl ?_
    refine XS.ifnullNo X_414.here hx rfl (hb hby at_126) rfl ?_
    refine XS.aload X_414.here hx rfl (hb hby at_129) rfl rfl ?_
    refine st_439.trans ?_
    show Steps p.tables e below (T_439.setTop (mkF m 134 #[VI p0, VI p1, VI p2, VI p3, VI p4, VI 2, VI i_315, VI i_323, VI i_331, VI i_339, VR a_347, VR a_367, VR a_425, VI 31, VI 0] [(.int 0)])) _
    refine XS.iload X_439.here hx rfl (hb hby at_134) rfl ?_
    refine XS.icmpYes X_439.here hx rfl (pc0 := 136) (pc' := 141) rfl (hb hby at_136) rfl (by decide) (by decide) (by decide) ?_
    refine XS.iload X_439.here hx rfl (hb hby at_141) rfl ?_
    refine XS.iconst X_439.here hx rfl (hb hby at_143) ?_
    refine XS.icmpYes X_439.here hx rfl (pc0 := 144) (pc' := 160) rfl (hb hby at_144) rfl (by decide) (by decide) (by decide) ?_
    refine XS.iload X_439.here hx rfl (hb hby at_160) rfl ?_
    refine XS.iconst X_439.here hx rfl (hb hby at_162) ?_
    refine XS.icmpYes X_439.here hx rfl (pc0 := 163) (pc' := 179) rfl (hb hby at_163) rfl (by decide) (by decide) (by decide) ?_
    refine XS.iconst X_439.here hx rfl (hb hby at_179) ?_
    exact Steps.refl _
   have K_450 : Keep h0 T_414.heap [] := ((((((Keep.refl _ _).trans K_351 all0).ext E_363).ext E_380).trans K_404 (allS (Or.inr (Nat.le_trans K_351.1 (Nat.le_of_eq g_368.symm))) all0)).trans K_429 all0)
   obtain ⟨fs, hr, hrun, hended, hRE⟩ := X_439.leaveW hS_414 (by rw [show T_439.heap = T_414.heap from e_448]; exact (Nat.le_refl _)) (v := some (.int 1)) (fun h => by rw [Bd.returns] at h; cases h)
   refine ⟨_, _, C_449.trans (retN X_439 hx (t := .boolean) Bd.returns (by simp) (hb hby at_180) hr), hrun, hended, _, _, rfl, ?_, ?_, hRE.1, hRE.2.1, hRE.2.2.1, hRE.2.2.2.mono (by decide) (by decide)⟩
   ·show Q_law Z G1 G3 p0 p1 p2 p3 p4 h0 n0 (some (.int 1)) T_439.heap _
    rw [e_448]
    exact ⟨rfl, N_447, K_450⟩
   ·show CHr Z consts_1 s.vm s.heap T_439.vm T_439.heap
    rw [hh, show T_439.heap = T_414.heap from e_448]
    exact CR_437.trans (CHv.at X_439 hZ_414 hEL CH_436)
  ·skip
   obtain ⟨a_451, a_452, k_453, rfl, N_454, K_455, g_456, g_457, g_458, g_459, g_460, g_461⟩ := hQ_423
   have N_462 := Fr.app N_406 N_454
   have CH_463 : CHv Z consts_1 T_414.vm T_414.heap := R_414.1
   have CR_464 : CHr Z consts_1 s.vm h0 T_414.vm T_414.heap := CR_408.trans R_414
   have O_465 : Old Z n0 T_414.heap := (O_413.keep K_455 all0)
   obtain ⟨q_467, q_468, q_469, q_470, q_471⟩ := isOf (T := T_414) hZ_414 rfl g_456
   obtain ⟨_, _, ⟨T_466, L_466, k_466, n_466⟩, -, X_466, ⟨Lc_466, hQ_466, l_466, y_466, z_466⟩, st_466⟩ := X_414.virtualBack hx (y := M141) (z := M141) hown_414 (mvT hZ_414 (w107 hw)) (mvT hZ_414 (w69 hw)) (notFace_of_selects (args := #[]) (mvT hZ_414 (w71 hw))) (mvT hZ_414 (w71 hw)) (mvT hZ_414 (w70 hw)) (by decide) (backOf (W := 0) (rm_lenany l Z a0 hw [] G1 G3 HG T_414.heap n0 O_465 a_451 a_452 k_453 (1 : Int32) [(.int (own_lo8 i_315))] g_456 g_457 g_458 g_459) hZ_414 (w72 hw) (w10 hw) (by decide) (by decide)) q_469 q_471 (g := (mkF m 131 #[VI p0, VI p1, VI p2, VI p3, VI p4, VI 2, VI i_315, VI i_323, VI i_331, VI i_339, VR a_347, VR a_367, VR a_451, VI 31, VI 1] [(.ref a_451)])) rfl (by rw [hml]; rfl) (Steps.refl _) (argsL := []) (rest := []) (lenOf pd_232 rfl) rfl (by show 2 * 0 + _ ≤ _; exact Nat.le_of_eq rfl) (hb hby at_131) (fun _ _ => ⟨rfl, rfl, (by decide : 8 + 0 ≤ _), (by decide : 31 + 0 ≤ _)⟩)
   dsimp only [Pt.U, Pt.locs, Pt.cells, Pt.slots] at X_466 l_466 y_466 z_466 st_466 hQ_466
   subst l_466 y_466 z_466
   obtain ⟨rfl, N_472, e_473⟩ := hQ_466
   have N_474 := Fr.app N_462 N_472
   have e_475 : T_466.heap = T_414.heap := e_473
   obtain ⟨q_477, q_478, q_479, q_480, q_481⟩ := isOf (T := T_466) hZ_414 e_475 g_456
   obtain ⟨_, _, ⟨T_476, L_476, k_476, n_476⟩, -, X_476, ⟨Lc_476, hQ_476, l_476, y_476, z_476⟩, st_476⟩ := X_466.virtualBack hx (y := M479) (z := M479) hown_414 (mvT hZ_414 (w125 hw)) (mvT hZ_414 (w126 hw)) (notFace_of_selects (args := #[]) (mvT hZ_414 (w128 hw))) (mvT hZ_414 (w128 hw)) (mvT hZ_414 (w127 hw)) (by decide) (backOf (W := 0) (rm_ch_1_0 l Z a0 hw [] G1 G3 HG T_414.heap n0 O_465 a_451 a_452 k_453 (own_lo8 i_315) g_456 g_457 g_458 g_459) hZ_414 (w129 hw) (w10 hw) (by decide) (by decide)) q_479 q_481 (g := (mkF m 150 #[VI p0, VI p1, VI p2, VI p3, VI p4, VI 2, VI i_315, VI i_323, VI i_331, VI i_339, VR a_347, VR a_367, VR a_451, VI 31, VI 1] [(.int 0), (.ref a_451)])) rfl (by rw [hml]; rfl) (Steps.refl _) (argsL := [(.int 0)]) (rest := []) (lenOf pd_663 rfl) rfl (by show 2 * 0 + _ ≤ _; exact Nat.le_of_eq rfl) (hb hby at_150) (fun _ _ => ⟨rfl, e_475, (by decide : 8 + 0 ≤ _), (by decide : 31 + 0 ≤ _)⟩)
   dsimp only [Pt.U, Pt.locs, Pt.cells, Pt.slots] at X_476 l_476 y_476 z_476 st_476 hQ_476
   subst l_476 y_476 z_476
   obtain ⟨rfl, N_482, e_483⟩ := hQ_476
   have N_484 := Fr.app N_474 N_482
   have e_485 : T_476.heap = T_414.heap := e_483
   have C_486 : Steps p.tables e below S0 (T_476.setTop (mkF m 180 #[VI p0, VI p1, VI p2, VI p3, VI p4, VI 2, VI i_315, VI i_323, VI i_331, VI i_339, VR a_347, VR a_367, VR a_451, VI 31, VI 1] [(.int 1)])) := by
    refine C_421.trans ?_
    refine st_414.trans ?_
    refine XS.astore X_414.here hx rfl (hb hby at_66) rfl rfl (l' := #[VI p0, VI p1, VI p2, VI p3, VI p4, VI 2, VI i_315, VI i_323, VI i_331, VI i_339, VR a_347, VR a_367, VR a_451, .unset, .unset]) rfl ?_
    refine XS.bipush X_414.here hx rfl (hb hby at_68) ?_
    refine XS.istore X_414.here hx rfl (hb hby at_70) rfl (l' := #[VI p0, VI p1, VI p2, VI p3, VI p4, VI 2, VI i_315, VI i_323, VI i_331, VI i_339, VR a_347, VR a_367, VR a_451, VI 31, .unset]) rfl ?_
    refine XS.iload X_414.here hx rfl (hb hby at_72) rfl ?_
    refine XS.ifYes X_414.here hx rfl (pc0 := 74) (pc' := 83) rfl (hb hby at_74) rfl (by decide) (by decide) (by decide) ?_
    refine XS.iload X_414.here hx rfl (hb hby at_83) rfl ?_
    refine XS.iload X_414.here hx rfl (hb hby at_85) rfl ?_
    refine XS.icmpYes X_414.here hx rfl (pc0 := 87) (pc' := 96) rfl (hb hby at_87) rfl (ii_ne_t g_460) (by decide) (by decide) ?_
    refine XS.iload X_414.here hx rfl (hb hby at_96) rfl ?_
    refine XS.iconst X_414.here hx rfl (hb hby at_98) ?_
    refine XS.icmpYes X_414.here hx rfl (pc0 := 99) (pc' := 108) rfl (hb hby at_99) rfl (by decide) (by decide) (by decide) ?_
    refine XS.iload X_414.here hx rfl (hb hby at_108) rfl ?_
    refine XS.iload X_414.here hx rfl (hb hby at_110) rfl ?_
    refine XS.icmpNo X_414.here hx rfl (hb hby at_112) rfl (ii_ne_f g_461) ?_
    refine XS.iconst X_414.here hx rfl (hb hby at_115) ?_
    show Steps p.tables e below (T_414.setTop (mkF m 116 #[VI p0, VI p1, VI p2, VI p3, VI p4, VI 2, VI i_315, VI i_323, VI i_331, VI i_339, VR a_347, VR a_367, VR a_451, VI 31, .unset] [(.int 1)])) _
    refine XS.istore X_414.here hx rfl (hb hby at_116) rfl (l' := #[VI p0, VI p1, VI p2, VI p3, VI p4, VI 2, VI i_315, VI i_323, VI i_331, VI i_339, VR a_347, VR a_367, VR a_451, VI 31, VI 1]) rfl ?_
    refine XS.goto X_414.here hx rfl (pc0 := 118) (pc' := 124) rfl (hb hby at_118) (by decide) (by decide) ?_
    refine XS.aload X_414.here hx rfl (hb hby at_124) rfl rfl ?_
    refine XS.ifnullNo X_414.here hx rfl (hb hby at_126) rfl ?_
    refine XS.aload X_414.here hx rfl (hb hby at_129) rfl rfl ?_
    refine st_466.trans ?_
    refine XS.iload X_466.here hx rfl (hb hby at_134) rfl ?_
    refine XS.icmpYes X_466.here hx rfl (pc0 := 136) (pc' := 141) rfl (hb hby at_136) rfl (by decide) (by decide) (by decide) ?_
    refine XS.iload X_466.here hx rfl (hb hby at_141) rfl ?_
    refine XS.iconst X_466.here hx rfl (hb hby at_143) ?_
    refine XS.icmpNo X_466.here hx rfl (hb hby at_144) rfl (by decide) ?_
    refine XS.aload X_466.here hx rfl (hb hby at_147) rfl rfl ?_
    refine XS.iconst X_466.here hx rfl (hb hby at_149) ?_
    refine st_476.trans ?_
    refine XS.iload X_476.here hx rfl (hb hby at_153) rfl ?_
    refine XS.icmpYes X_476.here hx rfl (pc0 := 155) (pc' := 160) rfl (hb hby at_155) rfl (ii_eq_t (own_at_says g_318 g_319)) (by decide) (by decide) ?_
    show Steps p.tables e below (T_476.setTop (mkF m 160 #[VI p0, VI p1, VI p2, VI p3, VI p4, VI 2, VI i_315, VI i_323, VI i_331, VI i_339, VR a_347, VR a_367, VR a_451, VI 31, VI 1] [])) _
    refine XS.iload X_476.here hx rfl (hb hby at_160) rfl ?_
    refine XS.iconst X_476.here hx rfl (hb hby at_162) ?_
    refine XS.icmpYes X_476.here hx rfl (pc0 := 163) (pc' := 179) rfl (hb hby at_163) rfl (by decide) (by decide) (by decide) ?_
    refine XS.iconst X_476.here hx rfl (hb hby at_179) ?_
    exact Steps.refl _
   have K_487 : Keep h0 T_414.heap [] := ((((((Keep.refl _ _).trans K_351 all0).ext E_363).ext E_380).trans K_404 (allS (Or.inr (Nat.le_trans K_351.1 (Nat.le_of_eq g_368.symm))) all0)).trans K_455 all0)
   obtain ⟨fs, hr, hrun, hended, hRE⟩ := X_476.leaveW hS_414 (by rw [show T_476.heap = T_414.heap from e_485]; exact (Nat.le_refl _)) (v := some (.int 1)) (fun h => by rw [Bd.returns] at h; cases h)
   refine ⟨_, _, C_486.trans (retN X_476 hx (t := .boolean) Bd.returns (by simp) (hb hby at_180) hr), hrun, hended, _, _, rfl, ?_, ?_, hRE.1, hRE.2.1, hRE.2.2.1, hRE.2.2.2.mono (by decide) (by decide)⟩
   ·show Q_law Z G1 G3 p0 p1 p2 p3 p4 h0 n0 (some (.int 1)) T_476.heap _
    rw [e_485]
    exact ⟨rfl, N_484, K_487⟩
   ·show CHr Z consts_1 s.vm s.heap T_476.vm T_476.heap
    rw [hh, show T_476.heap = T_414.heap from e_485]
    exact CR_464.trans (CHv.at X_476 hZ_414 hEL CH_463)
  ·skip
   obtain ⟨a_488, a_489, k_490, rfl, N_491, K_492, g_493, g_494, g_495, g_496, g_497, g_498⟩ := hQ_424
   have N_499 := Fr.app N_406 N_491
   have CH_500 : CHv Z consts_1 T_414.vm T_414.heap := R_414.1
   have CR_501 : CHr Z consts_1 s.vm h0 T_414.vm T_414.heap := CR_408.trans R_414
   have O_502 : Old Z n0 T_414.heap := (O_413.keep K_492 all0)
   obtain ⟨q_504, q_505, q_506, q_507, q_508⟩ := isOf (T := T_414) hZ_414 rfl g_493
   obtain ⟨_, _, ⟨T_503, L_503, k_503, n_503⟩, -, X_503, ⟨Lc_503, hQ_503, l_503, y_503, z_503⟩, st_503⟩ := X_414.virtualBack hx (y := M141) (z := M141) hown_414 (mvT hZ_414 (w107 hw)) (mvT hZ_414 (w69 hw)) (notFace_of_selects (args := #[]) (mvT hZ_414 (w71 hw))) (mvT hZ_414 (w71 hw)) (mvT hZ_414 (w70 hw)) (by decide) (backOf (W := 0) (rm_lenany l Z a0 hw [] G1 G3 HG T_414.heap n0 O_502 a_488 a_489 k_490 (2 : Int32) [(.int (own_lo8 i_315)), (.int (own_lo8 i_323))] g_493 g_494 g_495 g_496) hZ_414 (w72 hw) (w10 hw) (by decide) (by decide)) q_506 q_508 (g := (mkF m 131 #[VI p0, VI p1, VI p2, VI p3, VI p4, VI 2, VI i_315, VI i_323, VI i_331, VI i_339, VR a_347, VR a_367, VR a_488, VI 31, VI 2] [(.ref a_488)])) rfl (by rw [hml]; rfl) (Steps.refl _) (argsL := []) (rest := []) (lenOf pd_232 rfl) rfl (by show 2 * 0 + _ ≤ _; exact Nat.le_of_eq rfl) (hb hby at_131) (fun _ _ => ⟨rfl, rfl, (by decide : 8 + 0 ≤ _), (by decide : 31 + 0 ≤ _)⟩)
   dsimp only [Pt.U, Pt.locs, Pt.cells, Pt.slots] at X_503 l_503 y_503 z_503 st_503 hQ_503
   subst l_503 y_503 z_503
   obtain ⟨rfl, N_509, e_510⟩ := hQ_503
   have N_511 := Fr.app N_499 N_509
   have e_512 : T_503.heap = T_414.heap := e_510
   obtain ⟨q_514, q_515, q_516, q_517, q_518⟩ := isOf (T := T_503) hZ_414 e_512 g_493
   obtain ⟨_, _, ⟨T_513, L_513, k_513, n_513⟩, -, X_513, ⟨Lc_513, hQ_513, l_513, y_513, z_513⟩, st_513⟩ := X_503.virtualBack hx (y := M479) (z := M479) hown_414 (mvT hZ_414 (w125 hw)) (mvT hZ_414 (w126 hw)) (notFace_of_selects (args := #[]) (mvT hZ_414 (w128 hw))) (mvT hZ_414 (w128 hw)) (mvT hZ_414 (w127 hw)) (by decide) (backOf (W := 0) (rm_ch_2_0 l Z a0 hw [] G1 G3 HG T_414.heap n0 O_502 a_488 a_489 k_490 (own_lo8 i_315) (own_lo8 i_323) g_493 g_494 g_495 g_496) hZ_414 (w129 hw) (w10 hw) (by decide) (by decide)) q_516 q_518 (g := (mkF m 150 #[VI p0, VI p1, VI p2, VI p3, VI p4, VI 2, VI i_315, VI i_323, VI i_331, VI i_339, VR a_347, VR a_367, VR a_488, VI 31, VI 2] [(.int 0), (.ref a_488)])) rfl (by rw [hml]; rfl) (Steps.refl _) (argsL := [(.int 0)]) (rest := []) (lenOf pd_663 rfl) rfl (by show 2 * 0 + _ ≤ _; exact Nat.le_of_eq rfl) (hb hby at_150) (fun _ _ => ⟨rfl, e_512, (by decide : 8 + 0 ≤ _), (by decide : 31 + 0 ≤ _)⟩)
   dsimp only [Pt.U, Pt.locs, Pt.cells, Pt.slots] at X_513 l_513 y_513 z_513 st_513 hQ_513
   subst l_513 y_513 z_513
   obtain ⟨rfl, N_519, e_520⟩ := hQ_513
   have N_521 := Fr.app N_511 N_519
   have e_522 : T_513.heap = T_414.heap := e_520
   obtain ⟨q_524, q_525, q_526, q_527, q_528⟩ := isOf (T := T_513) hZ_414 e_522 g_493
   obtain ⟨_, _, ⟨T_523, L_523, k_523, n_523⟩, -, X_523, ⟨Lc_523, hQ_523, l_523, y_523, z_523⟩, st_523⟩ := X_513.virtualBack hx (y := M479) (z := M479) hown_414 (mvT hZ_414 (w125 hw)) (mvT hZ_414 (w126 hw)) (notFace_of_selects (args := #[]) (mvT hZ_414 (w128 hw))) (mvT hZ_414 (w128 hw)) (mvT hZ_414 (w127 hw)) (by decide) (backOf (W := 0) (rm_ch_2_1 l Z a0 hw [] G1 G3 HG T_414.heap n0 O_502 a_488 a_489 k_490 (own_lo8 i_315) (own_lo8 i_323) g_493 g_494 g_495 g_496) hZ_414 (w129 hw) (w10 hw) (by decide) (by decide)) q_526 q_528 (g := (mkF m 169 #[VI p0, VI p1, VI p2, VI p3, VI p4, VI 2, VI i_315, VI i_323, VI i_331, VI i_339, VR a_347, VR a_367, VR a_488, VI 31, VI 2] [(.int 1), (.ref a_488)])) rfl (by rw [hml]; rfl) (Steps.refl _) (argsL := [(.int 1)]) (rest := []) (lenOf pd_663 rfl) rfl (by show 2 * 0 + _ ≤ _; exact Nat.le_of_eq rfl) (hb hby at_169) (fun _ _ => ⟨rfl, e_522, (by decide : 8 + 0 ≤ _), (by decide : 31 + 0 ≤ _)⟩)
   dsimp only [Pt.U, Pt.locs, Pt.cells, Pt.slots] at X_523 l_523 y_523 z_523 st_523 hQ_523
   subst l_523 y_523 z_523
   obtain ⟨rfl, N_529, e_530⟩ := hQ_523
   have N_531 := Fr.app N_521 N_529
   have e_532 : T_523.heap = T_414.heap := e_530
   have C_533 : Steps p.tables e below S0 (T_523.setTop (mkF m 180 #[VI p0, VI p1, VI p2, VI p3, VI p4, VI 2, VI i_315, VI i_323, VI i_331, VI i_339, VR a_347, VR a_367, VR a_488, VI 31, VI 2] [(.int 1)])) := by
    refine C_421.trans ?_
    refine st_414.trans ?_
    refine XS.astore X_414.here hx rfl (hb hby at_66) rfl rfl (l' := #[VI p0, VI p1, VI p2, VI p3, VI p4, VI 2, VI i_315, VI i_323, VI i_331, VI i_339, VR a_347, VR a_367, VR a_488, .unset, .unset]) rfl ?_
    refine XS.bipush X_414.here hx rfl (hb hby at_68) ?_
    refine XS.istore X_414.here hx rfl (hb hby at_70) rfl (l' := #[VI p0, VI p1, VI p2, VI p3, VI p4, VI 2, VI i_315, VI i_323, VI i_331, VI i_339, VR a_347, VR a_367, VR a_488, VI 31, .unset]) rfl ?_
    refine XS.iload X_414.here hx rfl (hb hby at_72) rfl ?_
    refine XS.ifYes X_414.here hx rfl (pc0 := 74) (pc' := 83) rfl (hb hby at_74) rfl (by decide) (by decide) (by decide) ?_
    refine XS.iload X_414.here hx rfl (hb hby at_83) rfl ?_
    refine XS.iload X_414.here hx rfl (hb hby at_85) rfl ?_
    refine XS.icmpYes X_414.here hx rfl (pc0 := 87) (pc' := 96) rfl (hb hby at_87) rfl (ii_ne_t g_497) (by decide) (by decide) ?_
    refine XS.iload X_414.here hx rfl (hb hby at_96) rfl ?_
    refine XS.iconst X_414.here hx rfl (hb hby at_98) ?_
    refine XS.icmpYes X_414.here hx rfl (pc0 := 99) (pc' := 108) rfl (hb hby at_99) rfl (by decide) (by decide) (by decide) ?_
    refine XS.iload X_414.here hx rfl (hb hby at_108) rfl ?_
    refine XS.iload X_414.here hx rfl (hb hby at_110) rfl ?_
    refine XS.icmpYes X_414.here hx rfl (pc0 := 112) (pc' := 121) rfl (hb hby at_112) rfl (ii_ne_t g_498) (by decide) (by decide) ?_
    refine XS.iconst X_414.here hx rfl (hb hby at_121) ?_
    show Steps p.tables e below (T_414.setTop (mkF m 122 #[VI p0, VI p1, VI p2, VI p3, VI p4, VI 2, VI i_315, VI i_323, VI i_331, VI i_339, VR a_347, VR a_367, VR a_488, VI 31, .unset] [(.int 2)])) _
    refine XS.istore X_414.here hx rfl (hb hby at_122) rfl (l' := #[VI p0, VI p1, VI p2, VI p3, VI p4, VI 2, VI i_315, VI i_323, VI i_331, VI i_339, VR a_347, VR a_367, VR a_488, VI 31, VI 2]) rfl ?_
    refine XS.aload X_414.here hx rfl (hb hby at_124) rfl rfl ?_
    refine XS.ifnullNo X_414.here hx rfl (hb hby at_126) rfl ?_
    refine XS.aload X_414.here hx rfl (hb hby at_129) rfl rfl ?_
    refine st_503.trans ?_
    refine XS.iload X_503.here hx rfl (hb hby at_134) rfl ?_
    refine XS.icmpYes X_503.here hx rfl (pc0 := 136) (pc' := 141) rfl (hb hby at_136) rfl (by decide) (by decide) (by decide) ?_
    refine XS.iload X_503.here hx rfl (hb hby at_141) rfl ?_
    refine XS.iconst X_503.here hx rfl (hb hby at_143) ?_
    refine XS.icmpNo X_503.here hx rfl (hb hby at_144) rfl (by decide) ?_
    refine XS.aload X_503.here hx rfl (hb hby at_147) rfl rfl ?_
    refine XS.iconst X_503.here hx rfl (hb hby at_149) ?_
    refine st_513.trans ?_
    refine XS.iload X_513.here hx rfl (hb hby at_153) rfl ?_
    refine XS.icmpYes X_513.here hx rfl (pc0 := 155) (pc' := 160) rfl (hb hby at_155) rfl (ii_eq_t (own_at_says g_318 g_319)) (by decide) (by decide) ?_
    refine XS.iload X_513.here hx rfl (hb hby at_160) rfl ?_
    show Steps p.tables e below (T_513.setTop (mkF m 162 #[VI p0, VI p1, VI p2, VI p3, VI p4, VI 2, VI i_315, VI i_323, VI i_331, VI i_339, VR a_347, VR a_367, VR a_488, VI 31, VI 2] [(.int 2)])) _
    refine XS.iconst X_513.here hx rfl (hb hby at_162) ?_
    refine XS.icmpNo X_513.here hx rfl (hb hby at_163) rfl (by decide) ?_
    refine XS.aload X_513.here hx rfl (hb hby at_166) rfl rfl ?_
    refine XS.iconst X_513.here hx rfl (hb hby at_168) ?_
    refine st_523.trans ?_
    refine XS.iload X_523.here hx rfl (hb hby at_172) rfl ?_
    refine XS.icmpYes X_523.here hx rfl (pc0 := 174) (pc' := 179) rfl (hb hby at_174) rfl (ii_eq_t (own_at_says g_326 g_327)) (by decide) (by decide) ?_
    refine XS.iconst X_523.here hx rfl (hb hby at_179) ?_
    exact Steps.refl _
   have K_534 : Keep h0 T_414.heap [] := ((((((Keep.refl _ _).trans K_351 all0).ext E_363).ext E_380).trans K_404 (allS (Or.inr (Nat.le_trans K_351.1 (Nat.le_of_eq g_368.symm))) all0)).trans K_492 all0)
   obtain ⟨fs, hr, hrun, hended, hRE⟩ := X_523.leaveW hS_414 (by rw [show T_523.heap = T_414.heap from e_532]; exact (Nat.le_refl _)) (v := some (.int 1)) (fun h => by rw [Bd.returns] at h; cases h)
   refine ⟨_, _, C_533.trans (retN X_523 hx (t := .boolean) Bd.returns (by simp) (hb hby at_180) hr), hrun, hended, _, _, rfl, ?_, ?_, hRE.1, hRE.2.1, hRE.2.2.1, hRE.2.2.2.mono (by decide) (by decide)⟩
   ·show Q_law Z G1 G3 p0 p1 p2 p3 p4 h0 n0 (some (.int 1)) T_523.heap _
    rw [e_532]
    exact ⟨rfl, N_531, K_534⟩
   ·show CHr Z consts_1 s.vm s.heap T_523.vm T_523.heap
    rw [hh, show T_523.heap = T_414.heap from e_532]
    exact CR_501.trans (CHv.at X_523 hZ_414 hEL CH_500)
 ·skip
  have C_535 : Steps p.tables e below S0 (s₁.setTop (mkF m 6 #[VI p0, VI p1, VI p2, VI p3, VI p4, .unset, .unset, .unset, .unset, .unset, .unset, .unset, .unset, .unset, .unset] [(.int 3)])) := by have q := C_1; rw [hn_5] at q; exact q
  obtain ⟨_, _, ⟨T_536, L_536, k_536, n_536⟩, -, X_536, ⟨Lc_536, hQ_536, l_536, y_536, z_536⟩, st_536⟩ := Jvm.LawKit.callS X0 hx (y := M492) hown (mvT hZ (w1 hw)) (mvT hZ (w2 hw)) (mvT hZ (w3 hw)) (mvT hZ (w4 hw)) (by decide) (backOf (W := 0) (rm_chh l Z a0 hw [] G1 G3 HG h0 n0 X00 p1 ) hZ (w4 hw) (w3 hw) (by decide) (by decide)) (g := (mkF m 9 #[VI p0, VI p1, VI p2, VI p3, VI p4, VI 3, .unset, .unset, .unset, .unset, .unset, .unset, .unset, .unset, .unset] [(.int p1)])) rfl (by rw [hml]; rfl) (argsL := [(.int p1)]) (rest := []) (lenOf pd_663 rfl) rfl (by show 2 * 0 + _ ≤ _; exact Nat.le_of_eq rfl) (hb hby at_9) (fun _ _ => ⟨rfl, e0, (by decide : 0 + 0 ≤ _), (by decide : 0 + 0 ≤ _)⟩)
  dsimp only [Pt.U, Pt.locs, Pt.cells, Pt.slots] at X_536 l_536 y_536 z_536 st_536 hQ_536
  subst l_536 y_536 z_536
  obtain ⟨i_537, rfl, N_538, e_539, g_540, g_541⟩ := hQ_536
  have N_542 := Fr.app N0 N_538
  have e_543 : T_536.heap = h0 := e_539
  obtain ⟨_, _, ⟨T_544, L_544, k_544, n_544⟩, -, X_544, ⟨Lc_544, hQ_544, l_544, y_544, z_544⟩, st_544⟩ := Jvm.LawKit.callS X_536 hx (y := M492) hown (mvT hZ (w1 hw)) (mvT hZ (w2 hw)) (mvT hZ (w3 hw)) (mvT hZ (w4 hw)) (by decide) (backOf (W := 0) (rm_chh l Z a0 hw [] G1 G3 HG h0 n0 X00 p2 ) hZ (w4 hw) (w3 hw) (by decide) (by decide)) (g := (mkF m 15 #[VI p0, VI p1, VI p2, VI p3, VI p4, VI 3, VI i_537, .unset, .unset, .unset, .unset, .unset, .unset, .unset, .unset] [(.int p2)])) rfl (by rw [hml]; rfl) (argsL := [(.int p2)]) (rest := []) (lenOf pd_663 rfl) rfl (by show 2 * 0 + _ ≤ _; exact Nat.le_of_eq rfl) (hb hby at_15) (fun _ _ => ⟨rfl, e_543, (by decide : 0 + 0 ≤ _), (by decide : 0 + 0 ≤ _)⟩)
  dsimp only [Pt.U, Pt.locs, Pt.cells, Pt.slots] at X_544 l_544 y_544 z_544 st_544 hQ_544
  subst l_544 y_544 z_544
  obtain ⟨i_545, rfl, N_546, e_547, g_548, g_549⟩ := hQ_544
  have N_550 := Fr.app N_542 N_546
  have e_551 : T_544.heap = h0 := e_547
  obtain ⟨_, _, ⟨T_552, L_552, k_552, n_552⟩, -, X_552, ⟨Lc_552, hQ_552, l_552, y_552, z_552⟩, st_552⟩ := Jvm.LawKit.callS X_544 hx (y := M492) hown (mvT hZ (w1 hw)) (mvT hZ (w2 hw)) (mvT hZ (w3 hw)) (mvT hZ (w4 hw)) (by decide) (backOf (W := 0) (rm_chh l Z a0 hw [] G1 G3 HG h0 n0 X00 p3 ) hZ (w4 hw) (w3 hw) (by decide) (by decide)) (g := (mkF m 21 #[VI p0, VI p1, VI p2, VI p3, VI p4, VI 3, VI i_537, VI i_545, .unset, .unset, .unset, .unset, .unset, .unset, .unset] [(.int p3)])) rfl (by rw [hml]; rfl) (argsL := [(.int p3)]) (rest := []) (lenOf pd_663 rfl) rfl (by show 2 * 0 + _ ≤ _; exact Nat.le_of_eq rfl) (hb hby at_21) (fun _ _ => ⟨rfl, e_551, (by decide : 0 + 0 ≤ _), (by decide : 0 + 0 ≤ _)⟩)
  dsimp only [Pt.U, Pt.locs, Pt.cells, Pt.slots] at X_552 l_552 y_552 z_552 st_552 hQ_552
  subst l_552 y_552 z_552
  obtain ⟨i_553, rfl, N_554, e_555, g_556, g_557⟩ := hQ_552
  have N_558 := Fr.app N_550 N_554
  have e_559 : T_552.heap = h0 := e_555
  obtain ⟨_, _, ⟨T_560, L_560, k_560, n_560⟩, -, X_560, ⟨Lc_560, hQ_560, l_560, y_560, z_560⟩, st_560⟩ := Jvm.LawKit.callS X_552 hx (y := M492) hown (mvT hZ (w1 hw)) (mvT hZ (w2 hw)) (mvT hZ (w3 hw)) (mvT hZ (w4 hw)) (by decide) (backOf (W := 0) (rm_chh l Z a0 hw [] G1 G3 HG h0 n0 X00 p4 ) hZ (w4 hw) (w3 hw) (by decide) (by decide)) (g := (mkF m 28 #[VI p0, VI p1, VI p2, VI p3, VI p4, VI 3, VI i_537, VI i_545, VI i_553, .unset, .unset, .unset, .unset, .unset, .unset] [(.int p4)])) rfl (by rw [hml]; rfl) (argsL := [(.int p4)]) (rest := []) (lenOf pd_663 rfl) rfl (by show 2 * 0 + _ ≤ _; exact Nat.le_of_eq rfl) (hb hby at_28) (fun _ _ => ⟨rfl, e_559, (by decide : 0 + 0 ≤ _), (by decide : 0 + 0 ≤ _)⟩)
  dsimp only [Pt.U, Pt.locs, Pt.cells, Pt.slots] at X_560 l_560 y_560 z_560 st_560 hQ_560
  subst l_560 y_560 z_560
  obtain ⟨i_561, rfl, N_562, e_563, g_564, g_565⟩ := hQ_560
  have N_566 := Fr.app N_558 N_562
  have e_567 : T_560.heap = h0 := e_563
  obtain ⟨_, _, ⟨T_568, L_568, k_568, n_568⟩, -, X_568, ⟨Lc_568, hQ_568, l_568, y_568, z_568⟩, st_568⟩ := Jvm.LawKit.callS X_560 hx (y := M507) hown (mvT hZ (w5 hw)) (mvT hZ (w6 hw)) (mvT hZ (w3 hw)) (mvT hZ (w7 hw)) (by decide) (backOf (W := 0) (rm_mk_3 l Z a0 hw [] G1 G3 HG h0 n0 X00 i_537 i_545 i_553 i_561 g_540 g_541 g_548 g_549 g_556 g_557) hZ (w7 hw) (w3 hw) (by decide) (by decide)) (g := (mkF m 43 #[VI p0, VI p1, VI p2, VI p3, VI p4, VI 3, VI i_537, VI i_545, VI i_553, VI i_561, .unset, .unset, .unset, .unset, .unset] [(.int i_561), (.int i_553), (.int i_545), (.int i_537), (.int 3)])) rfl (by rw [hml]; rfl) (argsL := [(.int 3), (.int i_537), (.int i_545), (.int i_553), (.int i_561)]) (rest := []) (lenOf pd_667 rfl) rfl (by show 2 * 0 + _ ≤ _; exact Nat.le_of_eq rfl) (hb hby at_43) (fun _ _ => ⟨rfl, e_567, (by decide : 0 + 3 ≤ _), (by decide : 0 + 10 ≤ _)⟩)
  dsimp only [Pt.U, Pt.locs, Pt.cells, Pt.slots] at X_568 l_568 y_568 z_568 st_568 hQ_568
  subst l_568 y_568 z_568
  obtain ⟨a_569, a_570, k_571, rfl, N_572, K_573, g_574, g_575, g_576, g_577⟩ := hQ_568
  have N_578 := Fr.app N_566 N_572
  have CH_579 : CHv Z consts_1 s.vm T_568.heap := CHv.keep K_573 sf0 CH0
  have CR_580 : CHr Z consts_1 s.vm h0 s.vm T_568.heap := CR0.trans (CHr.keep K_573 sf0 CH0)
  obtain ⟨T_581, h_582, X_583, e_584, E_585, A_586, D_587, U_591, st_588⟩ := newO X_568 hx hZ hown (w30 hw) (w31 hw) (w32 hw) rfl (g := (mkF m 48 #[VI p0, VI p1, VI p2, VI p3, VI p4, VI 3, VI i_537, VI i_545, VI i_553, VI i_561, VR a_569, .unset, .unset, .unset, .unset] [])) rfl (hb hby at_48) (by decide) (by decide)
  obtain ⟨a_589, g_590⟩ : ∃ z, z = T_568.heap.size := ⟨_, rfl⟩
  rw [← g_590] at A_586 D_587 st_588 U_591
  have CH_592 : CHv Z consts_1 s.vm h_582 := CHv.ext E_585 CH_579
  have CR_593 : CHr Z consts_1 s.vm h0 s.vm h_582 := CR_580.trans (CHr.ext E_585 CH_579)
  obtain ⟨a_594, T_595, h_596, k1_597, b_598, k_599, X_600, e_601, E_602, S_603, hk_604, hZ_605, ho_606, Ex_607, Fc_608, Fv_609, Va_610, la_611, lb_612, R_613, L_614, Sf_615, st_616⟩ := ldcCH (vm0 := s.vm) X_583 hx hZ hown (w33 hw) hSA e_584 hS0 (Nat.le_trans (Nat.le_refl _) (Nat.le_trans K_573.1 E_585.1)) hEL (by decide) CH_592 (vs := [(.int 50), (.int 52), (.int 53)]) (z := (3 : Int32)) ⟨by decide, by decide⟩ (by decide) (by decide) (g := (mkF m 52 #[VI p0, VI p1, VI p2, VI p3, VI p4, VI 3, VI i_537, VI i_545, VI i_553, VI i_561, VR a_569, .unset, .unset, .unset, .unset] [(.ref a_589), (.ref a_589)])) rfl (hb hby at_52) (n := 12) (by decide) (by decide) (by decide) (by decide)
  have CH_617 : CHv Z consts_1 T_595.vm h_596 := R_613.1
  have CR_618 : CHr Z consts_1 s.vm h0 T_595.vm h_596 := CR_593.trans R_613
  have E_619 : Exa Z h_596 a_589 "com/example/kartoteka/kartoteka/Field" := (A_586.ext E_602)
  have F_620 : Fld Z h_596 a_589 "com/example/kartoteka/kartoteka/Field" "tag" "Ljava/lang/String;" .null := ((D_587 (Or.inr (w44 hw)) (ty := (.object "java/lang/String")) (by decide)).ext E_602)
  have F_621 : Fld Z h_596 a_589 "com/example/kartoteka/kartoteka/Field" "data" "Ljava/lang/String;" .null := ((D_587 (Or.inr (w46 hw)) (ty := (.object "java/lang/String")) (by decide)).ext E_602)
  have O_622 : Old Z n0 T_568.heap := (X00.keep K_573 all0)
  have O_623 : Old Z n0 h_596 := ((O_622.ext E_585).ext E_602)
  obtain ⟨_, _, ⟨T_624, L_624, k_624, n_624⟩, -, X_624, ⟨Lc_624, hQ_624, l_624, y_624, z_624⟩, st_624⟩ := X_600.specialBack hx (y := M602) rfl ho_606 (mvT hZ_605 (w34 hw)) (mvT hZ_605 (w35 hw)) (mvT hZ_605 (w36 hw)) (by decide) (backOf (W := 1) (rm_finit l Z a0 hw [] G1 G3 HG h_596 n0 O_623 a_589 a_594 a_569 E_619 F_620 F_621 (Nat.le_trans (own_n0 O_622) (Nat.le_of_eq g_590.symm))) hZ_605 (w36 hw) (w32 hw) (by decide) (by decide)) (g := (mkF m 56 #[VI p0, VI p1, VI p2, VI p3, VI p4, VI 3, VI i_537, VI i_545, VI i_553, VI i_561, VR a_569, .unset, .unset, .unset, .unset] [(.ref a_569), (.ref a_594), (.ref a_589), (.ref a_589)])) rfl (by rw [hml]; rfl) (Steps.refl _) (a := a_589) (argsL := [(.ref a_594), (.ref a_569)]) (rest := [(.ref a_589)]) (lenOf pd_674 rfl) rfl (by show 2 * 0 + _ ≤ _; exact Nat.le_of_eq rfl) (hb hby at_56) (fun _ _ => ⟨rfl, e_601, (by decide : 6 + 0 ≤ _), (by decide : 28 + 0 ≤ _)⟩)
  dsimp only [Pt.U, Pt.locs, Pt.cells, Pt.slots] at X_624 l_624 y_624 z_624 st_624 hQ_624
  subst l_624 y_624 z_624
  obtain ⟨rfl, N_625, K_626, g_627⟩ := hQ_624
  have N_628 := Fr.app N_578 N_625
  have CH_629 : CHv Z consts_1 T_595.vm T_624.heap := CHv.keep K_626 (sfS (Safe.exa hZ_605.alike E_619 (by decide) (by decide)) sf0) CH_617
  have CR_630 : CHr Z consts_1 s.vm h0 T_595.vm T_624.heap := CR_618.trans (CHr.keep K_626 (sfS (Safe.exa hZ_605.alike E_619 (by decide) (by decide)) sf0) CH_617)
  have E_631 : Exa Z T_624.heap a_569 "java/lang/String" := (((g_574.ext E_585).ext E_602).keep K_626)
  have F_632 : Fld Z T_624.heap a_569 "java/lang/String" "coder" "B" (.int 0) := (((g_575.ext E_585).ext E_602).keep K_626 (ninS (Nat.ne_of_lt (Nat.lt_of_lt_of_le g_574.lt (Nat.le_trans (Nat.le_refl _) (Nat.le_of_eq g_590.symm)))) nin0))
  have F_633 : Fld Z T_624.heap a_569 "java/lang/String" "value" "[B" (.ref a_570) := (((g_576.ext E_585).ext E_602).keep K_626 (ninS (Nat.ne_of_lt (Nat.lt_of_lt_of_le g_574.lt (Nat.le_trans (Nat.le_refl _) (Nat.le_of_eq g_590.symm)))) nin0))
  have V_634 : Arv Z T_624.heap a_570 k_571 .byte (3 : Int32) [(.int (own_lo8 i_537)), (.int (own_lo8 i_545)), (.int (own_lo8 i_553))] (.int 0) := (((g_577.ext E_585).ext E_602).keep K_626 (ninS (Nat.ne_of_lt (Nat.lt_of_lt_of_le g_577.lt (Nat.le_trans (Nat.le_refl _) (Nat.le_of_eq g_590.symm)))) nin0))
  have O_635 : Old Z n0 T_624.heap := (O_623.keep K_626 (allS (Nat.le_trans (own_n0 O_622) (Nat.le_of_eq g_590.symm)) all0))
  have E_642 : Exa Z T_624.heap a_589 "com/example/kartoteka/kartoteka/Field" := (E_619.keep K_626)
  obtain ⟨q_637, q_638, q_639, q_640, q_641⟩ := isOf (T := T_624) hZ_605 rfl E_642
  obtain ⟨_, _, ⟨T_636, L_636, k_636, n_636⟩, -, Y_636, S_636, G_636, ⟨Lc_636, hQ_636, l_636, y_636, z_636, R_636⟩, st_636⟩ := X_624.virtualBackS hx (y := M624) (z := M624) ho_606 (mvT hZ_605 (w47 hw)) (mvT hZ_605 (w48 hw)) (notFace_of_selects (args := #[]) (mvT hZ_605 (w50 hw))) (mvT hZ_605 (w50 hw)) (mvT hZ_605 (w49 hw)) (by decide) (backOfSH (vm0 := T_595.vm) (W := 0) (rm_ind_3 l Z a0 hw [] G1 G3 HG T_624.heap n0 O_635 a_589 a_569 a_570 k_571 i_537 i_545 i_553 g_627 E_631 F_632 F_633 V_634 g_540 g_541 g_548 g_549 g_556 g_557) hZ_605 (w51 hw) (w32 hw) (by decide) (by decide) hEL CH_629) q_639 q_641 (g := (mkF m 63 #[VI p0, VI p1, VI p2, VI p3, VI p4, VI 3, VI i_537, VI i_545, VI i_553, VI i_561, VR a_569, VR a_589, .unset, .unset, .unset] [(.ref a_589)])) rfl (by rw [hml]; rfl) (Steps.refl _) (argsL := []) (rest := []) (lenOf pd_678 rfl) rfl (by show 2 * 0 + _ ≤ _; exact Nat.le_of_eq rfl) (hb hby at_63) (fun _ _ => ⟨rfl, rfl, (by decide : 6 + 2 ≤ _), (by decide : 28 + 6 ≤ _)⟩)
  dsimp only [Pt.U, Pt.locs, Pt.cells, Pt.slots] at Y_636 S_636 G_636 l_636 y_636 z_636 st_636 hQ_636 R_636
  subst l_636 y_636 z_636
  obtain ⟨X_636, hS_636, hZ_636, hown_636⟩ := rebS S_603 (n1 := T_624.heap.size) (by rw [show T_624.heap = T_624.heap from rfl]; exact (Nat.le_trans hk_604 K_626.1)) Y_636 S_636 G_636 hZ_605 ho_606
  have C_643 : Steps p.tables e below S0 (T_624.setTop (mkF m 63 #[VI p0, VI p1, VI p2, VI p3, VI p4, VI 3, VI i_537, VI i_545, VI i_553, VI i_561, VR a_569, VR a_589, .unset, .unset, .unset] [(.ref a_589)])) := by
   refine C_535.trans ?_
   refine XS.istore X0.here hx rfl (hb hby at_6) rfl (l' := #[VI p0, VI p1, VI p2, VI p3, VI p4, VI 3, .unset, .unset, .unset, .unset, .unset, .unset, .unset, .unset, .unset]) rfl ?_
   refine XS.iloadN X0.here hx rfl (hb hby at_8) rfl ?_
   refine st_536 _ ?_
   refine XS.istore X_536.here hx rfl (hb hby at_12) rfl (l' := #[VI p0, VI p1, VI p2, VI p3, VI p4, VI 3, VI i_537, .unset, .unset, .unset, .unset, .unset, .unset, .unset, .unset]) rfl ?_
   refine XS.iloadN X_536.here hx rfl (hb hby at_14) rfl ?_
   refine st_544 _ ?_
   refine XS.istore X_544.here hx rfl (hb hby at_18) rfl (l' := #[VI p0, VI p1, VI p2, VI p3, VI p4, VI 3, VI i_537, VI i_545, .unset, .unset, .unset, .unset, .unset, .unset, .unset]) rfl ?_
   refine XS.iloadN X_544.here hx rfl (hb hby at_20) rfl ?_
   refine st_552 _ ?_
   refine XS.istore X_552.here hx rfl (hb hby at_24) rfl (l' := #[VI p0, VI p1, VI p2, VI p3, VI p4, VI 3, VI i_537, VI i_545, VI i_553, .unset, .unset, .unset, .unset, .unset, .unset]) rfl ?_
   refine XS.iload X_552.here hx rfl (hb hby at_26) rfl ?_
   refine st_560 _ ?_
   refine XS.istore X_560.here hx rfl (hb hby at_31) rfl (l' := #[VI p0, VI p1, VI p2, VI p3, VI p4, VI 3, VI i_537, VI i_545, VI i_553, VI i_561, .unset, .unset, .unset, .unset, .unset]) rfl ?_
   refine XS.iload X_560.here hx rfl (hb hby at_33) rfl ?_
   refine XS.iload X_560.here hx rfl (hb hby at_35) rfl ?_
   refine XS.iload X_560.here hx rfl (hb hby at_37) rfl ?_
   show Steps p.tables e below (T_560.setTop (mkF m 39 #[VI p0, VI p1, VI p2, VI p3, VI p4, VI 3, VI i_537, VI i_545, VI i_553, VI i_561, .unset, .unset, .unset, .unset, .unset] [(.int i_545), (.int i_537), (.int 3)])) _
   refine XS.iload X_560.here hx rfl (hb hby at_39) rfl ?_
   refine XS.iload X_560.here hx rfl (hb hby at_41) rfl ?_
   refine st_568 _ ?_
   refine XS.astore X_568.here hx rfl (hb hby at_46) rfl rfl (l' := #[VI p0, VI p1, VI p2, VI p3, VI p4, VI 3, VI i_537, VI i_545, VI i_553, VI i_561, VR a_569, .unset, .unset, .unset, .unset]) rfl ?_
   refine st_588 _ ?_
   refine XS.dup X_583.here hx rfl (hb hby at_51) rfl rfl ?_
   refine st_616 _ ?_
   refine XS.aload X_600.here hx rfl (hb hby at_54) rfl rfl ?_
   refine st_624.trans ?_
   refine XS.astore X_624.here hx rfl (hb hby at_59) rfl rfl (l' := #[VI p0, VI p1, VI p2, VI p3, VI p4, VI 3, VI i_537, VI i_545, VI i_553, VI i_561, VR a_569, VR a_589, .unset, .unset, .unset]) rfl ?_
   refine XS.aload X_624.here hx rfl (hb hby at_61) rfl rfl ?_
   exact Steps.refl _
  rcases hQ_636 with hQ_644 | hQ_645 | hQ_646
  ·skip
   obtain ⟨a_647, a_648, k_649, rfl, N_650, K_651, g_652, g_653, g_654, g_655, g_656⟩ := hQ_644
   have N_657 := Fr.app N_628 N_650
   have CH_658 : CHv Z consts_1 T_636.vm T_636.heap := R_636.1
   have CR_659 : CHr Z consts_1 s.vm h0 T_636.vm T_636.heap := CR_630.trans R_636
   have O_660 : Old Z n0 T_636.heap := (O_635.keep K_651 all0)
   obtain ⟨q_662, q_663, q_664, q_665, q_666⟩ := isOf (T := T_636) hZ_636 rfl g_652
   obtain ⟨_, _, ⟨T_661, L_661, k_661, n_661⟩, -, X_661, ⟨Lc_661, hQ_661, l_661, y_661, z_661⟩, st_661⟩ := X_636.virtualBack hx (y := M141) (z := M141) hown_636 (mvT hZ_636 (w107 hw)) (mvT hZ_636 (w69 hw)) (notFace_of_selects (args := #[]) (mvT hZ_636 (w71 hw))) (mvT hZ_636 (w71 hw)) (mvT hZ_636 (w70 hw)) (by decide) (backOf (W := 0) (rm_lenany l Z a0 hw [] G1 G3 HG T_636.heap n0 O_660 a_647 a_648 k_649 (0 : Int32) [] g_652 g_653 g_654 g_655) hZ_636 (w72 hw) (w10 hw) (by decide) (by decide)) q_664 q_666 (g := (mkF m 131 #[VI p0, VI p1, VI p2, VI p3, VI p4, VI 3, VI i_537, VI i_545, VI i_553, VI i_561, VR a_569, VR a_589, VR a_647, VI 31, VI 0] [(.ref a_647)])) rfl (by rw [hml]; rfl) (Steps.refl _) (argsL := []) (rest := []) (lenOf pd_232 rfl) rfl (by show 2 * 0 + _ ≤ _; exact Nat.le_of_eq rfl) (hb hby at_131) (fun _ _ => ⟨rfl, rfl, (by decide : 8 + 0 ≤ _), (by decide : 34 + 0 ≤ _)⟩)
   dsimp only [Pt.U, Pt.locs, Pt.cells, Pt.slots] at X_661 l_661 y_661 z_661 st_661 hQ_661
   subst l_661 y_661 z_661
   obtain ⟨rfl, N_667, e_668⟩ := hQ_661
   have N_669 := Fr.app N_657 N_667
   have e_670 : T_661.heap = T_636.heap := e_668
   have C_671 : Steps p.tables e below S0 (T_661.setTop (mkF m 180 #[VI p0, VI p1, VI p2, VI p3, VI p4, VI 3, VI i_537, VI i_545, VI i_553, VI i_561, VR a_569, VR a_589, VR a_647, VI 31, VI 0] [(.int 1)])) := by
    refine C_643.trans ?_
    refine st_636.trans ?_
    refine XS.astore X_636.here hx rfl (hb hby at_66) rfl rfl (l' := #[VI p0, VI p1, VI p2, VI p3, VI p4, VI 3, VI i_537, VI i_545, VI i_553, VI i_561, VR a_569, VR a_589, VR a_647, .unset, .unset]) rfl ?_
    refine XS.bipush X_636.here hx rfl (hb hby at_68) ?_
    refine XS.istore X_636.here hx rfl (hb hby at_70) rfl (l' := #[VI p0, VI p1, VI p2, VI p3, VI p4, VI 3, VI i_537, VI i_545, VI i_553, VI i_561, VR a_569, VR a_589, VR a_647, VI 31, .unset]) rfl ?_
    refine XS.iload X_636.here hx rfl (hb hby at_72) rfl ?_
    refine XS.ifYes X_636.here hx rfl (pc0 := 74) (pc' := 83) rfl (hb hby at_74) rfl (by decide) (by decide) (by decide) ?_
    refine XS.iload X_636.here hx rfl (hb hby at_83) rfl ?_
    refine XS.iload X_636.here hx rfl (hb hby at_85) rfl ?_
    refine XS.icmpNo X_636.here hx rfl (hb hby at_87) rfl (ii_ne_f g_656) ?_
    refine XS.iconst X_636.here hx rfl (hb hby at_90) ?_
    refine XS.istore X_636.here hx rfl (hb hby at_91) rfl (l' := #[VI p0, VI p1, VI p2, VI p3, VI p4, VI 3, VI i_537, VI i_545, VI i_553, VI i_561, VR a_569, VR a_589, VR a_647, VI 31, VI 0]) rfl ?_
    refine XS.goto X_636.here hx rfl (pc0 := 93) (pc' := 124) rfl (hb hby at_93) (by decide) (by decide) ?_
    refine XS.aload X_636.here hx rfl (hb hby at_124) rfl rfl ?_
    refine XS.ifnullNo X_636.here hx rfl (hb hby at_126) rfl ?_
    refine XS.aload X_636.here hx rfl (hb hby at_129) rfl rfl ?_
    refine st_661.trans ?_
    show Steps p.tables e below (T_661.setTop (mkF m 134 #[VI p0, VI p1, VI p2, VI p3, VI p4, VI 3, VI i_537, VI i_545, VI i_553, VI i_561, VR a_569, VR a_589, VR a_647, VI 31, VI 0] [(.int 0)])) _
    refine XS.iload X_661.here hx rfl (hb hby at_134) rfl ?_
    refine XS.icmpYes X_661.here hx rfl (pc0 := 136) (pc' := 141) rfl (hb hby at_136) rfl (by decide) (by decide) (by decide) ?_
    refine XS.iload X_661.here hx rfl (hb hby at_141) rfl ?_
    refine XS.iconst X_661.here hx rfl (hb hby at_143) ?_
    refine XS.icmpYes X_661.here hx rfl (pc0 := 144) (pc' := 160) rfl (hb hby at_144) rfl (by decide) (by decide) (by decide) ?_
    refine XS.iload X_661.here hx rfl (hb hby at_160) rfl ?_
    refine XS.iconst X_661.here hx rfl (hb hby at_162) ?_
    refine XS.icmpYes X_661.here hx rfl (pc0 := 163) (pc' := 179) rfl (hb hby at_163) rfl (by decide) (by decide) (by decide) ?_
    refine XS.iconst X_661.here hx rfl (hb hby at_179) ?_
    exact Steps.refl _
   have K_672 : Keep h0 T_636.heap [] := ((((((Keep.refl _ _).trans K_573 all0).ext E_585).ext E_602).trans K_626 (allS (Or.inr (Nat.le_trans K_573.1 (Nat.le_of_eq g_590.symm))) all0)).trans K_651 all0)
   obtain ⟨fs, hr, hrun, hended, hRE⟩ := X_661.leaveW hS_636 (by rw [show T_661.heap = T_636.heap from e_670]; exact (Nat.le_refl _)) (v := some (.int 1)) (fun h => by rw [Bd.returns] at h; cases h)
   refine ⟨_, _, C_671.trans (retN X_661 hx (t := .boolean) Bd.returns (by simp) (hb hby at_180) hr), hrun, hended, _, _, rfl, ?_, ?_, hRE.1, hRE.2.1, hRE.2.2.1, hRE.2.2.2.mono (by decide) (by decide)⟩
   ·show Q_law Z G1 G3 p0 p1 p2 p3 p4 h0 n0 (some (.int 1)) T_661.heap _
    rw [e_670]
    exact ⟨rfl, N_669, K_672⟩
   ·show CHr Z consts_1 s.vm s.heap T_661.vm T_661.heap
    rw [hh, show T_661.heap = T_636.heap from e_670]
    exact CR_659.trans (CHv.at X_661 hZ_636 hEL CH_658)
  ·skip
   obtain ⟨a_673, a_674, k_675, rfl, N_676, K_677, g_678, g_679, g_680, g_681, g_682, g_683⟩ := hQ_645
   have N_684 := Fr.app N_628 N_676
   have CH_685 : CHv Z consts_1 T_636.vm T_636.heap := R_636.1
   have CR_686 : CHr Z consts_1 s.vm h0 T_636.vm T_636.heap := CR_630.trans R_636
   have O_687 : Old Z n0 T_636.heap := (O_635.keep K_677 all0)
   obtain ⟨q_689, q_690, q_691, q_692, q_693⟩ := isOf (T := T_636) hZ_636 rfl g_678
   obtain ⟨_, _, ⟨T_688, L_688, k_688, n_688⟩, -, X_688, ⟨Lc_688, hQ_688, l_688, y_688, z_688⟩, st_688⟩ := X_636.virtualBack hx (y := M141) (z := M141) hown_636 (mvT hZ_636 (w107 hw)) (mvT hZ_636 (w69 hw)) (notFace_of_selects (args := #[]) (mvT hZ_636 (w71 hw))) (mvT hZ_636 (w71 hw)) (mvT hZ_636 (w70 hw)) (by decide) (backOf (W := 0) (rm_lenany l Z a0 hw [] G1 G3 HG T_636.heap n0 O_687 a_673 a_674 k_675 (1 : Int32) [(.int (own_lo8 i_537))] g_678 g_679 g_680 g_681) hZ_636 (w72 hw) (w10 hw) (by decide) (by decide)) q_691 q_693 (g := (mkF m 131 #[VI p0, VI p1, VI p2, VI p3, VI p4, VI 3, VI i_537, VI i_545, VI i_553, VI i_561, VR a_569, VR a_589, VR a_673, VI 31, VI 1] [(.ref a_673)])) rfl (by rw [hml]; rfl) (Steps.refl _) (argsL := []) (rest := []) (lenOf pd_232 rfl) rfl (by show 2 * 0 + _ ≤ _; exact Nat.le_of_eq rfl) (hb hby at_131) (fun _ _ => ⟨rfl, rfl, (by decide : 8 + 0 ≤ _), (by decide : 34 + 0 ≤ _)⟩)
   dsimp only [Pt.U, Pt.locs, Pt.cells, Pt.slots] at X_688 l_688 y_688 z_688 st_688 hQ_688
   subst l_688 y_688 z_688
   obtain ⟨rfl, N_694, e_695⟩ := hQ_688
   have N_696 := Fr.app N_684 N_694
   have e_697 : T_688.heap = T_636.heap := e_695
   obtain ⟨q_699, q_700, q_701, q_702, q_703⟩ := isOf (T := T_688) hZ_636 e_697 g_678
   obtain ⟨_, _, ⟨T_698, L_698, k_698, n_698⟩, -, X_698, ⟨Lc_698, hQ_698, l_698, y_698, z_698⟩, st_698⟩ := X_688.virtualBack hx (y := M479) (z := M479) hown_636 (mvT hZ_636 (w125 hw)) (mvT hZ_636 (w126 hw)) (notFace_of_selects (args := #[]) (mvT hZ_636 (w128 hw))) (mvT hZ_636 (w128 hw)) (mvT hZ_636 (w127 hw)) (by decide) (backOf (W := 0) (rm_ch_1_0 l Z a0 hw [] G1 G3 HG T_636.heap n0 O_687 a_673 a_674 k_675 (own_lo8 i_537) g_678 g_679 g_680 g_681) hZ_636 (w129 hw) (w10 hw) (by decide) (by decide)) q_701 q_703 (g := (mkF m 150 #[VI p0, VI p1, VI p2, VI p3, VI p4, VI 3, VI i_537, VI i_545, VI i_553, VI i_561, VR a_569, VR a_589, VR a_673, VI 31, VI 1] [(.int 0), (.ref a_673)])) rfl (by rw [hml]; rfl) (Steps.refl _) (argsL := [(.int 0)]) (rest := []) (lenOf pd_663 rfl) rfl (by show 2 * 0 + _ ≤ _; exact Nat.le_of_eq rfl) (hb hby at_150) (fun _ _ => ⟨rfl, e_697, (by decide : 8 + 0 ≤ _), (by decide : 34 + 0 ≤ _)⟩)
   dsimp only [Pt.U, Pt.locs, Pt.cells, Pt.slots] at X_698 l_698 y_698 z_698 st_698 hQ_698
   subst l_698 y_698 z_698
   obtain ⟨rfl, N_704, e_705⟩ := hQ_698
   have N_706 := Fr.app N_696 N_704
   have e_707 : T_698.heap = T_636.heap := e_705
   have C_708 : Steps p.tables e below S0 (T_698.setTop (mkF m 180 #[VI p0, VI p1, VI p2, VI p3, VI p4, VI 3, VI i_537, VI i_545, VI i_553, VI i_561, VR a_569, VR a_589, VR a_673, VI 31, VI 1] [(.int 1)])) := by
    refine C_643.trans ?_
    refine st_636.trans ?_
    refine XS.astore X_636.here hx rfl (hb hby at_66) rfl rfl (l' := #[VI p0, VI p1, VI p2, VI p3, VI p4, VI 3, VI i_537, VI i_545, VI i_553, VI i_561, VR a_569, VR a_589, VR a_673, .unset, .unset]) rfl ?_
    refine XS.bipush X_636.here hx rfl (hb hby at_68) ?_
    refine XS.istore X_636.here hx rfl (hb hby at_70) rfl (l' := #[VI p0, VI p1, VI p2, VI p3, VI p4, VI 3, VI i_537, VI i_545, VI i_553, VI i_561, VR a_569, VR a_589, VR a_673, VI 31, .unset]) rfl ?_
    refine XS.iload X_636.here hx rfl (hb hby at_72) rfl ?_
    refine XS.ifYes X_636.here hx rfl (pc0 := 74) (pc' := 83) rfl (hb hby at_74) rfl (by decide) (by decide) (by decide) ?_
    refine XS.iload X_636.here hx rfl (hb hby at_83) rfl ?_
    refine XS.iload X_636.here hx rfl (hb hby at_85) rfl ?_
    refine XS.icmpYes X_636.here hx rfl (pc0 := 87) (pc' := 96) rfl (hb hby at_87) rfl (ii_ne_t g_682) (by decide) (by decide) ?_
    refine XS.iload X_636.here hx rfl (hb hby at_96) rfl ?_
    refine XS.iconst X_636.here hx rfl (hb hby at_98) ?_
    refine XS.icmpYes X_636.here hx rfl (pc0 := 99) (pc' := 108) rfl (hb hby at_99) rfl (by decide) (by decide) (by decide) ?_
    refine XS.iload X_636.here hx rfl (hb hby at_108) rfl ?_
    refine XS.iload X_636.here hx rfl (hb hby at_110) rfl ?_
    refine XS.icmpNo X_636.here hx rfl (hb hby at_112) rfl (ii_ne_f g_683) ?_
    refine XS.iconst X_636.here hx rfl (hb hby at_115) ?_
    show Steps p.tables e below (T_636.setTop (mkF m 116 #[VI p0, VI p1, VI p2, VI p3, VI p4, VI 3, VI i_537, VI i_545, VI i_553, VI i_561, VR a_569, VR a_589, VR a_673, VI 31, .unset] [(.int 1)])) _
    refine XS.istore X_636.here hx rfl (hb hby at_116) rfl (l' := #[VI p0, VI p1, VI p2, VI p3, VI p4, VI 3, VI i_537, VI i_545, VI i_553, VI i_561, VR a_569, VR a_589, VR a_673, VI 31, VI 1]) rfl ?_
    refine XS.goto X_636.here hx rfl (pc0 := 118) (pc' := 124) rfl (hb hby at_118) (by decide) (by decide) ?_
    refine XS.aload X_636.here hx rfl (hb hby at_124) rfl rfl ?_
    refine XS.ifnullNo X_636.here hx rfl (hb hby at_126) rfl ?_
    refine XS.aload X_636.here hx rfl (hb hby at_129) rfl rfl ?_
    refine st_688.trans ?_
    refine XS.iload X_688.here hx rfl (hb hby at_134) rfl ?_
    refine XS.icmpYes X_688.here hx rfl (pc0 := 136) (pc' := 141) rfl (hb hby at_136) rfl (by decide) (by decide) (by decide) ?_
    refine XS.iload X_688.here hx rfl (hb hby at_141) rfl ?_
    refine XS.iconst X_688.here hx rfl (hb hby at_143) ?_
    refine XS.icmpNo X_688.here hx rfl (hb hby at_144) rfl (by decide) ?_
    refine XS.aload X_688.here hx rfl (hb hby at_147) rfl rfl ?_
    refine XS.iconst X_688.here hx rfl (hb hby at_149) ?_
    refine st_698.trans ?_
    refine XS.iload X_698.here hx rfl (hb hby at_153) rfl ?_
    refine XS.icmpYes X_698.here hx rfl (pc0 := 155) (pc' := 160) rfl (hb hby at_155) rfl (ii_eq_t (own_at_says g_540 g_541)) (by decide) (by decide) ?_
    show Steps p.tables e below (T_698.setTop (mkF m 160 #[VI p0, VI p1, VI p2, VI p3, VI p4, VI 3, VI i_537, VI i_545, VI i_553, VI i_561, VR a_569, VR a_589, VR a_673, VI 31, VI 1] [])) _
    refine XS.iload X_698.here hx rfl (hb hby at_160) rfl ?_
    refine XS.iconst X_698.here hx rfl (hb hby at_162) ?_
    refine XS.icmpYes X_698.here hx rfl (pc0 := 163) (pc' := 179) rfl (hb hby at_163) rfl (by decide) (by decide) (by decide) ?_
    refine XS.iconst X_698.here hx rfl (hb hby at_179) ?_
    exact Steps.refl _
   have K_709 : Keep h0 T_636.heap [] := ((((((Keep.refl _ _).trans K_573 all0).ext E_585).ext E_602).trans K_626 (allS (Or.inr (Nat.le_trans K_573.1 (Nat.le_of_eq g_590.symm))) all0)).trans K_677 all0)
   obtain ⟨fs, hr, hrun, hended, hRE⟩ := X_698.leaveW hS_636 (by rw [show T_698.heap = T_636.heap from e_707]; exact (Nat.le_refl _)) (v := some (.int 1)) (fun h => by rw [Bd.returns] at h; cases h)
   refine ⟨_, _, C_708.trans (retN X_698 hx (t := .boolean) Bd.returns (by simp) (hb hby at_180) hr), hrun, hended, _, _, rfl, ?_, ?_, hRE.1, hRE.2.1, hRE.2.2.1, hRE.2.2.2.mono (by decide) (by decide)⟩
   ·show Q_law Z G1 G3 p0 p1 p2 p3 p4 h0 n0 (some (.int 1)) T_698.heap _
    rw [e_707]
    exact ⟨rfl, N_706, K_709⟩
   ·show CHr Z consts_1 s.vm s.heap T_698.vm T_698.heap
    rw [hh, show T_698.heap = T_636.heap from e_707]
    exact CR_686.trans (CHv.at X_698 hZ_636 hEL CH_685)
  ·skip
   obtain ⟨a_710, a_711, k_712, rfl, N_713, K_714, g_715, g_716, g_717, g_718, g_719, g_720⟩ := hQ_646
   have N_721 := Fr.app N_628 N_713
   have CH_722 : CHv Z consts_1 T_636.vm T_636.heap := R_636.1
   have CR_723 : CHr Z consts_1 s.vm h0 T_636.vm T_636.heap := CR_630.trans R_636
   have O_724 : Old Z n0 T_636.heap := (O_635.keep K_714 all0)
   obtain ⟨q_726, q_727, q_728, q_729, q_730⟩ := isOf (T := T_636) hZ_636 rfl g_715
   obtain ⟨_, _, ⟨T_725, L_725, k_725, n_725⟩, -, X_725, ⟨Lc_725, hQ_725, l_725, y_725, z_725⟩, st_725⟩ := X_636.virtualBack hx (y := M141) (z := M141) hown_636 (mvT hZ_636 (w107 hw)) (mvT hZ_636 (w69 hw)) (notFace_of_selects (args := #[]) (mvT hZ_636 (w71 hw))) (mvT hZ_636 (w71 hw)) (mvT hZ_636 (w70 hw)) (by decide) (backOf (W := 0) (rm_lenany l Z a0 hw [] G1 G3 HG T_636.heap n0 O_724 a_710 a_711 k_712 (2 : Int32) [(.int (own_lo8 i_537)), (.int (own_lo8 i_545))] g_715 g_716 g_717 g_718) hZ_636 (w72 hw) (w10 hw) (by decide) (by decide)) q_728 q_730 (g := (mkF m 131 #[VI p0, VI p1, VI p2, VI p3, VI p4, VI 3, VI i_537, VI i_545, VI i_553, VI i_561, VR a_569, VR a_589, VR a_710, VI 31, VI 2] [(.ref a_710)])) rfl (by rw [hml]; rfl) (Steps.refl _) (argsL := []) (rest := []) (lenOf pd_232 rfl) rfl (by show 2 * 0 + _ ≤ _; exact Nat.le_of_eq rfl) (hb hby at_131) (fun _ _ => ⟨rfl, rfl, (by decide : 8 + 0 ≤ _), (by decide : 34 + 0 ≤ _)⟩)
   dsimp only [Pt.U, Pt.locs, Pt.cells, Pt.slots] at X_725 l_725 y_725 z_725 st_725 hQ_725
   subst l_725 y_725 z_725
   obtain ⟨rfl, N_731, e_732⟩ := hQ_725
   have N_733 := Fr.app N_721 N_731
   have e_734 : T_725.heap = T_636.heap := e_732
   obtain ⟨q_736, q_737, q_738, q_739, q_740⟩ := isOf (T := T_725) hZ_636 e_734 g_715
   obtain ⟨_, _, ⟨T_735, L_735, k_735, n_735⟩, -, X_735, ⟨Lc_735, hQ_735, l_735, y_735, z_735⟩, st_735⟩ := X_725.virtualBack hx (y := M479) (z := M479) hown_636 (mvT hZ_636 (w125 hw)) (mvT hZ_636 (w126 hw)) (notFace_of_selects (args := #[]) (mvT hZ_636 (w128 hw))) (mvT hZ_636 (w128 hw)) (mvT hZ_636 (w127 hw)) (by decide) (backOf (W := 0) (rm_ch_2_0 l Z a0 hw [] G1 G3 HG T_636.heap n0 O_724 a_710 a_711 k_712 (own_lo8 i_537) (own_lo8 i_545) g_715 g_716 g_717 g_718) hZ_636 (w129 hw) (w10 hw) (by decide) (by decide)) q_738 q_740 (g := (mkF m 150 #[VI p0, VI p1, VI p2, VI p3, VI p4, VI 3, VI i_537, VI i_545, VI i_553, VI i_561, VR a_569, VR a_589, VR a_710, VI 31, VI 2] [(.int 0), (.ref a_710)])) rfl (by rw [hml]; rfl) (Steps.refl _) (argsL := [(.int 0)]) (rest := []) (lenOf pd_663 rfl) rfl (by show 2 * 0 + _ ≤ _; exact Nat.le_of_eq rfl) (hb hby at_150) (fun _ _ => ⟨rfl, e_734, (by decide : 8 + 0 ≤ _), (by decide : 34 + 0 ≤ _)⟩)
   dsimp only [Pt.U, Pt.locs, Pt.cells, Pt.slots] at X_735 l_735 y_735 z_735 st_735 hQ_735
   subst l_735 y_735 z_735
   obtain ⟨rfl, N_741, e_742⟩ := hQ_735
   have N_743 := Fr.app N_733 N_741
   have e_744 : T_735.heap = T_636.heap := e_742
   obtain ⟨q_746, q_747, q_748, q_749, q_750⟩ := isOf (T := T_735) hZ_636 e_744 g_715
   obtain ⟨_, _, ⟨T_745, L_745, k_745, n_745⟩, -, X_745, ⟨Lc_745, hQ_745, l_745, y_745, z_745⟩, st_745⟩ := X_735.virtualBack hx (y := M479) (z := M479) hown_636 (mvT hZ_636 (w125 hw)) (mvT hZ_636 (w126 hw)) (notFace_of_selects (args := #[]) (mvT hZ_636 (w128 hw))) (mvT hZ_636 (w128 hw)) (mvT hZ_636 (w127 hw)) (by decide) (backOf (W := 0) (rm_ch_2_1 l Z a0 hw [] G1 G3 HG T_636.heap n0 O_724 a_710 a_711 k_712 (own_lo8 i_537) (own_lo8 i_545) g_715 g_716 g_717 g_718) hZ_636 (w129 hw) (w10 hw) (by decide) (by decide)) q_748 q_750 (g := (mkF m 169 #[VI p0, VI p1, VI p2, VI p3, VI p4, VI 3, VI i_537, VI i_545, VI i_553, VI i_561, VR a_569, VR a_589, VR a_710, VI 31, VI 2] [(.int 1), (.ref a_710)])) rfl (by rw [hml]; rfl) (Steps.refl _) (argsL := [(.int 1)]) (rest := []) (lenOf pd_663 rfl) rfl (by show 2 * 0 + _ ≤ _; exact Nat.le_of_eq rfl) (hb hby at_169) (fun _ _ => ⟨rfl, e_744, (by decide : 8 + 0 ≤ _), (by decide : 34 + 0 ≤ _)⟩)
   dsimp only [Pt.U, Pt.locs, Pt.cells, Pt.slots] at X_745 l_745 y_745 z_745 st_745 hQ_745
   subst l_745 y_745 z_745
   obtain ⟨rfl, N_751, e_752⟩ := hQ_745
   have N_753 := Fr.app N_743 N_751
   have e_754 : T_745.heap = T_636.heap := e_752
   have C_755 : Steps p.tables e below S0 (T_745.setTop (mkF m 180 #[VI p0, VI p1, VI p2, VI p3, VI p4, VI 3, VI i_537, VI i_545, VI i_553, VI i_561, VR a_569, VR a_589, VR a_710, VI 31, VI 2] [(.int 1)])) := by
    refine C_643.trans ?_
    refine st_636.trans ?_
    refine XS.astore X_636.here hx rfl (hb hby at_66) rfl rfl (l' := #[VI p0, VI p1, VI p2, VI p3, VI p4, VI 3, VI i_537, VI i_545, VI i_553, VI i_561, VR a_569, VR a_589, VR a_710, .unset, .unset]) rfl ?_
    refine XS.bipush X_636.here hx rfl (hb hby at_68) ?_
    refine XS.istore X_636.here hx rfl (hb hby at_70) rfl (l' := #[VI p0, VI p1, VI p2, VI p3, VI p4, VI 3, VI i_537, VI i_545, VI i_553, VI i_561, VR a_569, VR a_589, VR a_710, VI 31, .unset]) rfl ?_
    refine XS.iload X_636.here hx rfl (hb hby at_72) rfl ?_
    refine XS.ifYes X_636.here hx rfl (pc0 := 74) (pc' := 83) rfl (hb hby at_74) rfl (by decide) (by decide) (by decide) ?_
    refine XS.iload X_636.here hx rfl (hb hby at_83) rfl ?_
    refine XS.iload X_636.here hx rfl (hb hby at_85) rfl ?_
    refine XS.icmpYes X_636.here hx rfl (pc0 := 87) (pc' := 96) rfl (hb hby at_87) rfl (ii_ne_t g_719) (by decide) (by decide) ?_
    refine XS.iload X_636.here hx rfl (hb hby at_96) rfl ?_
    refine XS.iconst X_636.here hx rfl (hb hby at_98) ?_
    refine XS.icmpYes X_636.here hx rfl (pc0 := 99) (pc' := 108) rfl (hb hby at_99) rfl (by decide) (by decide) (by decide) ?_
    refine XS.iload X_636.here hx rfl (hb hby at_108) rfl ?_
    refine XS.iload X_636.here hx rfl (hb hby at_110) rfl ?_
    refine XS.icmpYes X_636.here hx rfl (pc0 := 112) (pc' := 121) rfl (hb hby at_112) rfl (ii_ne_t g_720) (by decide) (by decide) ?_
    refine XS.iconst X_636.here hx rfl (hb hby at_121) ?_
    show Steps p.tables e below (T_636.setTop (mkF m 122 #[VI p0, VI p1, VI p2, VI p3, VI p4, VI 3, VI i_537, VI i_545, VI i_553, VI i_561, VR a_569, VR a_589, VR a_710, VI 31, .unset] [(.int 2)])) _
    refine XS.istore X_636.here hx rfl (hb hby at_122) rfl (l' := #[VI p0, VI p1, VI p2, VI p3, VI p4, VI 3, VI i_537, VI i_545, VI i_553, VI i_561, VR a_569, VR a_589, VR a_710, VI 31, VI 2]) rfl ?_
    refine XS.aload X_636.here hx rfl (hb hby at_124) rfl rfl ?_
    refine XS.ifnullNo X_636.here hx rfl (hb hby at_126) rfl ?_
    refine XS.aload X_636.here hx rfl (hb hby at_129) rfl rfl ?_
    refine st_725.trans ?_
    refine XS.iload X_725.here hx rfl (hb hby at_134) rfl ?_
    refine XS.icmpYes X_725.here hx rfl (pc0 := 136) (pc' := 141) rfl (hb hby at_136) rfl (by decide) (by decide) (by decide) ?_
    refine XS.iload X_725.here hx rfl (hb hby at_141) rfl ?_
    refine XS.iconst X_725.here hx rfl (hb hby at_143) ?_
    refine XS.icmpNo X_725.here hx rfl (hb hby at_144) rfl (by decide) ?_
    refine XS.aload X_725.here hx rfl (hb hby at_147) rfl rfl ?_
    refine XS.iconst X_725.here hx rfl (hb hby at_149) ?_
    refine st_735.trans ?_
    refine XS.iload X_735.here hx rfl (hb hby at_153) rfl ?_
    refine XS.icmpYes X_735.here hx rfl (pc0 := 155) (pc' := 160) rfl (hb hby at_155) rfl (ii_eq_t (own_at_says g_540 g_541)) (by decide) (by decide) ?_
    refine XS.iload X_735.here hx rfl (hb hby at_160) rfl ?_
    show Steps p.tables e below (T_735.setTop (mkF m 162 #[VI p0, VI p1, VI p2, VI p3, VI p4, VI 3, VI i_537, VI i_545, VI i_553, VI i_561, VR a_569, VR a_589, VR a_710, VI 31, VI 2] [(.int 2)])) _
    refine XS.iconst X_735.here hx rfl (hb hby at_162) ?_
    refine XS.icmpNo X_735.here hx rfl (hb hby at_163) rfl (by decide) ?_
    refine XS.aload X_735.here hx rfl (hb hby at_166) rfl rfl ?_
    refine XS.iconst X_735.here hx rfl (hb hby at_168) ?_
    refine st_745.trans ?_
    refine XS.iload X_745.here hx rfl (hb hby at_172) rfl ?_
    refine XS.icmpYes X_745.here hx rfl (pc0 := 174) (pc' := 179) rfl (hb hby at_174) rfl (ii_eq_t (own_at_says g_548 g_549)) (by decide) (by decide) ?_
    refine XS.iconst X_745.here hx rfl (hb hby at_179) ?_
    exact Steps.refl _
   have K_756 : Keep h0 T_636.heap [] := ((((((Keep.refl _ _).trans K_573 all0).ext E_585).ext E_602).trans K_626 (allS (Or.inr (Nat.le_trans K_573.1 (Nat.le_of_eq g_590.symm))) all0)).trans K_714 all0)
   obtain ⟨fs, hr, hrun, hended, hRE⟩ := X_745.leaveW hS_636 (by rw [show T_745.heap = T_636.heap from e_754]; exact (Nat.le_refl _)) (v := some (.int 1)) (fun h => by rw [Bd.returns] at h; cases h)
   refine ⟨_, _, C_755.trans (retN X_745 hx (t := .boolean) Bd.returns (by simp) (hb hby at_180) hr), hrun, hended, _, _, rfl, ?_, ?_, hRE.1, hRE.2.1, hRE.2.2.1, hRE.2.2.2.mono (by decide) (by decide)⟩
   ·show Q_law Z G1 G3 p0 p1 p2 p3 p4 h0 n0 (some (.int 1)) T_745.heap _
    rw [e_754]
    exact ⟨rfl, N_753, K_756⟩
   ·show CHr Z consts_1 s.vm s.heap T_745.vm T_745.heap
    rw [hh, show T_745.heap = T_636.heap from e_754]
    exact CR_723.trans (CHv.at X_745 hZ_636 hEL CH_722)
 ·skip
  have C_757 : Steps p.tables e below S0 (s₁.setTop (mkF m 6 #[VI p0, VI p1, VI p2, VI p3, VI p4, .unset, .unset, .unset, .unset, .unset, .unset, .unset, .unset, .unset, .unset] [(.int 4)])) := by have q := C_1; rw [hn_6] at q; exact q
  obtain ⟨_, _, ⟨T_758, L_758, k_758, n_758⟩, -, X_758, ⟨Lc_758, hQ_758, l_758, y_758, z_758⟩, st_758⟩ := Jvm.LawKit.callS X0 hx (y := M492) hown (mvT hZ (w1 hw)) (mvT hZ (w2 hw)) (mvT hZ (w3 hw)) (mvT hZ (w4 hw)) (by decide) (backOf (W := 0) (rm_chh l Z a0 hw [] G1 G3 HG h0 n0 X00 p1 ) hZ (w4 hw) (w3 hw) (by decide) (by decide)) (g := (mkF m 9 #[VI p0, VI p1, VI p2, VI p3, VI p4, VI 4, .unset, .unset, .unset, .unset, .unset, .unset, .unset, .unset, .unset] [(.int p1)])) rfl (by rw [hml]; rfl) (argsL := [(.int p1)]) (rest := []) (lenOf pd_663 rfl) rfl (by show 2 * 0 + _ ≤ _; exact Nat.le_of_eq rfl) (hb hby at_9) (fun _ _ => ⟨rfl, e0, (by decide : 0 + 0 ≤ _), (by decide : 0 + 0 ≤ _)⟩)
  dsimp only [Pt.U, Pt.locs, Pt.cells, Pt.slots] at X_758 l_758 y_758 z_758 st_758 hQ_758
  subst l_758 y_758 z_758
  obtain ⟨i_759, rfl, N_760, e_761, g_762, g_763⟩ := hQ_758
  have N_764 := Fr.app N0 N_760
  have e_765 : T_758.heap = h0 := e_761
  obtain ⟨_, _, ⟨T_766, L_766, k_766, n_766⟩, -, X_766, ⟨Lc_766, hQ_766, l_766, y_766, z_766⟩, st_766⟩ := Jvm.LawKit.callS X_758 hx (y := M492) hown (mvT hZ (w1 hw)) (mvT hZ (w2 hw)) (mvT hZ (w3 hw)) (mvT hZ (w4 hw)) (by decide) (backOf (W := 0) (rm_chh l Z a0 hw [] G1 G3 HG h0 n0 X00 p2 ) hZ (w4 hw) (w3 hw) (by decide) (by decide)) (g := (mkF m 15 #[VI p0, VI p1, VI p2, VI p3, VI p4, VI 4, VI i_759, .unset, .unset, .unset, .unset, .unset, .unset, .unset, .unset] [(.int p2)])) rfl (by rw [hml]; rfl) (argsL := [(.int p2)]) (rest := []) (lenOf pd_663 rfl) rfl (by show 2 * 0 + _ ≤ _; exact Nat.le_of_eq rfl) (hb hby at_15) (fun _ _ => ⟨rfl, e_765, (by decide : 0 + 0 ≤ _), (by decide : 0 + 0 ≤ _)⟩)
  dsimp only [Pt.U, Pt.locs, Pt.cells, Pt.slots] at X_766 l_766 y_766 z_766 st_766 hQ_766
  subst l_766 y_766 z_766
  obtain ⟨i_767, rfl, N_768, e_769, g_770, g_771⟩ := hQ_766
  have N_772 := Fr.app N_764 N_768
  have e_773 : T_766.heap = h0 := e_769
  obtain ⟨_, _, ⟨T_774, L_774, k_774, n_774⟩, -, X_774, ⟨Lc_774, hQ_774, l_774, y_774, z_774⟩, st_774⟩ := Jvm.LawKit.callS X_766 hx (y := M492) hown (mvT hZ (w1 hw)) (mvT hZ (w2 hw)) (mvT hZ (w3 hw)) (mvT hZ (w4 hw)) (by decide) (backOf (W := 0) (rm_chh l Z a0 hw [] G1 G3 HG h0 n0 X00 p3 ) hZ (w4 hw) (w3 hw) (by decide) (by decide)) (g := (mkF m 21 #[VI p0, VI p1, VI p2, VI p3, VI p4, VI 4, VI i_759, VI i_767, .unset, .unset, .unset, .unset, .unset, .unset, .unset] [(.int p3)])) rfl (by rw [hml]; rfl) (argsL := [(.int p3)]) (rest := []) (lenOf pd_663 rfl) rfl (by show 2 * 0 + _ ≤ _; exact Nat.le_of_eq rfl) (hb hby at_21) (fun _ _ => ⟨rfl, e_773, (by decide : 0 + 0 ≤ _), (by decide : 0 + 0 ≤ _)⟩)
  dsimp only [Pt.U, Pt.locs, Pt.cells, Pt.slots] at X_774 l_774 y_774 z_774 st_774 hQ_774
  subst l_774 y_774 z_774
  obtain ⟨i_775, rfl, N_776, e_777, g_778, g_779⟩ := hQ_774
  have N_780 := Fr.app N_772 N_776
  have e_781 : T_774.heap = h0 := e_777
  obtain ⟨_, _, ⟨T_782, L_782, k_782, n_782⟩, -, X_782, ⟨Lc_782, hQ_782, l_782, y_782, z_782⟩, st_782⟩ := Jvm.LawKit.callS X_774 hx (y := M492) hown (mvT hZ (w1 hw)) (mvT hZ (w2 hw)) (mvT hZ (w3 hw)) (mvT hZ (w4 hw)) (by decide) (backOf (W := 0) (rm_chh l Z a0 hw [] G1 G3 HG h0 n0 X00 p4 ) hZ (w4 hw) (w3 hw) (by decide) (by decide)) (g := (mkF m 28 #[VI p0, VI p1, VI p2, VI p3, VI p4, VI 4, VI i_759, VI i_767, VI i_775, .unset, .unset, .unset, .unset, .unset, .unset] [(.int p4)])) rfl (by rw [hml]; rfl) (argsL := [(.int p4)]) (rest := []) (lenOf pd_663 rfl) rfl (by show 2 * 0 + _ ≤ _; exact Nat.le_of_eq rfl) (hb hby at_28) (fun _ _ => ⟨rfl, e_781, (by decide : 0 + 0 ≤ _), (by decide : 0 + 0 ≤ _)⟩)
  dsimp only [Pt.U, Pt.locs, Pt.cells, Pt.slots] at X_782 l_782 y_782 z_782 st_782 hQ_782
  subst l_782 y_782 z_782
  obtain ⟨i_783, rfl, N_784, e_785, g_786, g_787⟩ := hQ_782
  have N_788 := Fr.app N_780 N_784
  have e_789 : T_782.heap = h0 := e_785
  obtain ⟨_, _, ⟨T_790, L_790, k_790, n_790⟩, -, X_790, ⟨Lc_790, hQ_790, l_790, y_790, z_790⟩, st_790⟩ := Jvm.LawKit.callS X_782 hx (y := M507) hown (mvT hZ (w5 hw)) (mvT hZ (w6 hw)) (mvT hZ (w3 hw)) (mvT hZ (w7 hw)) (by decide) (backOf (W := 0) (rm_mk_4 l Z a0 hw [] G1 G3 HG h0 n0 X00 i_759 i_767 i_775 i_783 g_762 g_763 g_770 g_771 g_778 g_779 g_786 g_787) hZ (w7 hw) (w3 hw) (by decide) (by decide)) (g := (mkF m 43 #[VI p0, VI p1, VI p2, VI p3, VI p4, VI 4, VI i_759, VI i_767, VI i_775, VI i_783, .unset, .unset, .unset, .unset, .unset] [(.int i_783), (.int i_775), (.int i_767), (.int i_759), (.int 4)])) rfl (by rw [hml]; rfl) (argsL := [(.int 4), (.int i_759), (.int i_767), (.int i_775), (.int i_783)]) (rest := []) (lenOf pd_667 rfl) rfl (by show 2 * 0 + _ ≤ _; exact Nat.le_of_eq rfl) (hb hby at_43) (fun _ _ => ⟨rfl, e_789, (by decide : 0 + 3 ≤ _), (by decide : 0 + 12 ≤ _)⟩)
  dsimp only [Pt.U, Pt.locs, Pt.cells, Pt.slots] at X_790 l_790 y_790 z_790 st_790 hQ_790
  subst l_790 y_790 z_790
  obtain ⟨a_791, a_792, k_793, rfl, N_794, K_795, g_796, g_797, g_798, g_799⟩ := hQ_790
  have N_800 := Fr.app N_788 N_794
  have CH_801 : CHv Z consts_1 s.vm T_790.heap := CHv.keep K_795 sf0 CH0
  have CR_802 : CHr Z consts_1 s.vm h0 s.vm T_790.heap := CR0.trans (CHr.keep K_795 sf0 CH0)
  obtain ⟨T_803, h_804, X_805, e_806, E_807, A_808, D_809, U_813, st_810⟩ := newO X_790 hx hZ hown (w30 hw) (w31 hw) (w32 hw) rfl (g := (mkF m 48 #[VI p0, VI p1, VI p2, VI p3, VI p4, VI 4, VI i_759, VI i_767, VI i_775, VI i_783, VR a_791, .unset, .unset, .unset, .unset] [])) rfl (hb hby at_48) (by decide) (by decide)
  obtain ⟨a_811, g_812⟩ : ∃ z, z = T_790.heap.size := ⟨_, rfl⟩
  rw [← g_812] at A_808 D_809 st_810 U_813
  have CH_814 : CHv Z consts_1 s.vm h_804 := CHv.ext E_807 CH_801
  have CR_815 : CHr Z consts_1 s.vm h0 s.vm h_804 := CR_802.trans (CHr.ext E_807 CH_801)
  obtain ⟨a_816, T_817, h_818, k1_819, b_820, k_821, X_822, e_823, E_824, S_825, hk_826, hZ_827, ho_828, Ex_829, Fc_830, Fv_831, Va_832, la_833, lb_834, R_835, L_836, Sf_837, st_838⟩ := ldcCH (vm0 := s.vm) X_805 hx hZ hown (w33 hw) hSA e_806 hS0 (Nat.le_trans (Nat.le_refl _) (Nat.le_trans K_795.1 E_807.1)) hEL (by decide) CH_814 (vs := [(.int 50), (.int 52), (.int 53)]) (z := (3 : Int32)) ⟨by decide, by decide⟩ (by decide) (by decide) (g := (mkF m 52 #[VI p0, VI p1, VI p2, VI p3, VI p4, VI 4, VI i_759, VI i_767, VI i_775, VI i_783, VR a_791, .unset, .unset, .unset, .unset] [(.ref a_811), (.ref a_811)])) rfl (hb hby at_52) (n := 12) (by decide) (by decide) (by decide) (by decide)
  have CH_839 : CHv Z consts_1 T_817.vm h_818 := R_835.1
  have CR_840 : CHr Z consts_1 s.vm h0 T_817.vm h_818 := CR_815.trans R_835
  have E_841 : Exa Z h_818 a_811 "com/example/kartoteka/kartoteka/Field" := (A_808.ext E_824)
  have F_842 : Fld Z h_818 a_811 "com/example/kartoteka/kartoteka/Field" "tag" "Ljava/lang/String;" .null := ((D_809 (Or.inr (w44 hw)) (ty := (.object "java/lang/String")) (by decide)).ext E_824)
  have F_843 : Fld Z h_818 a_811 "com/example/kartoteka/kartoteka/Field" "data" "Ljava/lang/String;" .null := ((D_809 (Or.inr (w46 hw)) (ty := (.object "java/lang/String")) (by decide)).ext E_824)
  have O_844 : Old Z n0 T_790.heap := (X00.keep K_795 all0)
  have O_845 : Old Z n0 h_818 := ((O_844.ext E_807).ext E_824)
  obtain ⟨_, _, ⟨T_846, L_846, k_846, n_846⟩, -, X_846, ⟨Lc_846, hQ_846, l_846, y_846, z_846⟩, st_846⟩ := X_822.specialBack hx (y := M602) rfl ho_828 (mvT hZ_827 (w34 hw)) (mvT hZ_827 (w35 hw)) (mvT hZ_827 (w36 hw)) (by decide) (backOf (W := 1) (rm_finit l Z a0 hw [] G1 G3 HG h_818 n0 O_845 a_811 a_816 a_791 E_841 F_842 F_843 (Nat.le_trans (own_n0 O_844) (Nat.le_of_eq g_812.symm))) hZ_827 (w36 hw) (w32 hw) (by decide) (by decide)) (g := (mkF m 56 #[VI p0, VI p1, VI p2, VI p3, VI p4, VI 4, VI i_759, VI i_767, VI i_775, VI i_783, VR a_791, .unset, .unset, .unset, .unset] [(.ref a_791), (.ref a_816), (.ref a_811), (.ref a_811)])) rfl (by rw [hml]; rfl) (Steps.refl _) (a := a_811) (argsL := [(.ref a_816), (.ref a_791)]) (rest := [(.ref a_811)]) (lenOf pd_674 rfl) rfl (by show 2 * 0 + _ ≤ _; exact Nat.le_of_eq rfl) (hb hby at_56) (fun _ _ => ⟨rfl, e_823, (by decide : 6 + 0 ≤ _), (by decide : 30 + 0 ≤ _)⟩)
  dsimp only [Pt.U, Pt.locs, Pt.cells, Pt.slots] at X_846 l_846 y_846 z_846 st_846 hQ_846
  subst l_846 y_846 z_846
  obtain ⟨rfl, N_847, K_848, g_849⟩ := hQ_846
  have N_850 := Fr.app N_800 N_847
  have CH_851 : CHv Z consts_1 T_817.vm T_846.heap := CHv.keep K_848 (sfS (Safe.exa hZ_827.alike E_841 (by decide) (by decide)) sf0) CH_839
  have CR_852 : CHr Z consts_1 s.vm h0 T_817.vm T_846.heap := CR_840.trans (CHr.keep K_848 (sfS (Safe.exa hZ_827.alike E_841 (by decide) (by decide)) sf0) CH_839)
  have E_853 : Exa Z T_846.heap a_791 "java/lang/String" := (((g_796.ext E_807).ext E_824).keep K_848)
  have F_854 : Fld Z T_846.heap a_791 "java/lang/String" "coder" "B" (.int 0) := (((g_797.ext E_807).ext E_824).keep K_848 (ninS (Nat.ne_of_lt (Nat.lt_of_lt_of_le g_796.lt (Nat.le_trans (Nat.le_refl _) (Nat.le_of_eq g_812.symm)))) nin0))
  have F_855 : Fld Z T_846.heap a_791 "java/lang/String" "value" "[B" (.ref a_792) := (((g_798.ext E_807).ext E_824).keep K_848 (ninS (Nat.ne_of_lt (Nat.lt_of_lt_of_le g_796.lt (Nat.le_trans (Nat.le_refl _) (Nat.le_of_eq g_812.symm)))) nin0))
  have V_856 : Arv Z T_846.heap a_792 k_793 .byte (4 : Int32) [(.int (own_lo8 i_759)), (.int (own_lo8 i_767)), (.int (own_lo8 i_775)), (.int (own_lo8 i_783))] (.int 0) := (((g_799.ext E_807).ext E_824).keep K_848 (ninS (Nat.ne_of_lt (Nat.lt_of_lt_of_le g_799.lt (Nat.le_trans (Nat.le_refl _) (Nat.le_of_eq g_812.symm)))) nin0))
  have O_857 : Old Z n0 T_846.heap := (O_845.keep K_848 (allS (Nat.le_trans (own_n0 O_844) (Nat.le_of_eq g_812.symm)) all0))
  have E_864 : Exa Z T_846.heap a_811 "com/example/kartoteka/kartoteka/Field" := (E_841.keep K_848)
  obtain ⟨q_859, q_860, q_861, q_862, q_863⟩ := isOf (T := T_846) hZ_827 rfl E_864
  obtain ⟨_, _, ⟨T_858, L_858, k_858, n_858⟩, -, Y_858, S_858, G_858, ⟨Lc_858, hQ_858, l_858, y_858, z_858, R_858⟩, st_858⟩ := X_846.virtualBackS hx (y := M624) (z := M624) ho_828 (mvT hZ_827 (w47 hw)) (mvT hZ_827 (w48 hw)) (notFace_of_selects (args := #[]) (mvT hZ_827 (w50 hw))) (mvT hZ_827 (w50 hw)) (mvT hZ_827 (w49 hw)) (by decide) (backOfSH (vm0 := T_817.vm) (W := 0) (rm_ind_4 l Z a0 hw [] G1 G3 HG T_846.heap n0 O_857 a_811 a_791 a_792 k_793 i_759 i_767 i_775 i_783 g_849 E_853 F_854 F_855 V_856 g_762 g_763 g_770 g_771 g_778 g_779 g_786 g_787) hZ_827 (w51 hw) (w32 hw) (by decide) (by decide) hEL CH_851) q_861 q_863 (g := (mkF m 63 #[VI p0, VI p1, VI p2, VI p3, VI p4, VI 4, VI i_759, VI i_767, VI i_775, VI i_783, VR a_791, VR a_811, .unset, .unset, .unset] [(.ref a_811)])) rfl (by rw [hml]; rfl) (Steps.refl _) (argsL := []) (rest := []) (lenOf pd_678 rfl) rfl (by show 2 * 0 + _ ≤ _; exact Nat.le_of_eq rfl) (hb hby at_63) (fun _ _ => ⟨rfl, rfl, (by decide : 6 + 2 ≤ _), (by decide : 30 + 6 ≤ _)⟩)
  dsimp only [Pt.U, Pt.locs, Pt.cells, Pt.slots] at Y_858 S_858 G_858 l_858 y_858 z_858 st_858 hQ_858 R_858
  subst l_858 y_858 z_858
  obtain ⟨X_858, hS_858, hZ_858, hown_858⟩ := rebS S_825 (n1 := T_846.heap.size) (by rw [show T_846.heap = T_846.heap from rfl]; exact (Nat.le_trans hk_826 K_848.1)) Y_858 S_858 G_858 hZ_827 ho_828
  have C_865 : Steps p.tables e below S0 (T_846.setTop (mkF m 63 #[VI p0, VI p1, VI p2, VI p3, VI p4, VI 4, VI i_759, VI i_767, VI i_775, VI i_783, VR a_791, VR a_811, .unset, .unset, .unset] [(.ref a_811)])) := by
   refine C_757.trans ?_
   refine XS.istore X0.here hx rfl (hb hby at_6) rfl (l' := #[VI p0, VI p1, VI p2, VI p3, VI p4, VI 4, .unset, .unset, .unset, .unset, .unset, .unset, .unset, .unset, .unset]) rfl ?_
   refine XS.iloadN X0.here hx rfl (hb hby at_8) rfl ?_
   refine st_758 _ ?_
   refine XS.istore X_758.here hx rfl (hb hby at_12) rfl (l' := #[VI p0, VI p1, VI p2, VI p3, VI p4, VI 4, VI i_759, .unset, .unset, .unset, .unset, .unset, .unset, .unset, .unset]) rfl ?_
   refine XS.iloadN X_758.here hx rfl (hb hby at_14) rfl ?_
   refine st_766 _ ?_
   refine XS.istore X_766.here hx rfl (hb hby at_18) rfl (l' := #[VI p0, VI p1, VI p2, VI p3, VI p4, VI 4, VI i_759, VI i_767, .unset, .unset, .unset, .unset, .unset, .unset, .unset]) rfl ?_
   refine XS.iloadN X_766.here hx rfl (hb hby at_20) rfl ?_
   refine st_774 _ ?_
   refine XS.istore X_774.here hx rfl (hb hby at_24) rfl (l' := #[VI p0, VI p1, VI p2, VI p3, VI p4, VI 4, VI i_759, VI i_767, VI i_775, .unset, .unset, .unset, .unset, .unset, .unset]) rfl ?_
   refine XS.iload X_774.here hx rfl (hb hby at_26) rfl ?_
   refine st_782 _ ?_
   refine XS.istore X_782.here hx rfl (hb hby at_31) rfl (l' := #[VI p0, VI p1, VI p2, VI p3, VI p4, VI 4, VI i_759, VI i_767, VI i_775, VI i_783, .unset, .unset, .unset, .unset, .unset]) rfl ?_
   refine XS.iload X_782.here hx rfl (hb hby at_33) rfl ?_
   refine XS.iload X_782.here hx rfl (hb hby at_35) rfl ?_
   refine XS.iload X_782.here hx rfl (hb hby at_37) rfl ?_
   show Steps p.tables e below (T_782.setTop (mkF m 39 #[VI p0, VI p1, VI p2, VI p3, VI p4, VI 4, VI i_759, VI i_767, VI i_775, VI i_783, .unset, .unset, .unset, .unset, .unset] [(.int i_767), (.int i_759), (.int 4)])) _
   refine XS.iload X_782.here hx rfl (hb hby at_39) rfl ?_
   refine XS.iload X_782.here hx rfl (hb hby at_41) rfl ?_
   refine st_790 _ ?_
   refine XS.astore X_790.here hx rfl (hb hby at_46) rfl rfl (l' := #[VI p0, VI p1, VI p2, VI p3, VI p4, VI 4, VI i_759, VI i_767, VI i_775, VI i_783, VR a_791, .unset, .unset, .unset, .unset]) rfl ?_
   refine st_810 _ ?_
   refine XS.dup X_805.here hx rfl (hb hby at_51) rfl rfl ?_
   refine st_838 _ ?_
   refine XS.aload X_822.here hx rfl (hb hby at_54) rfl rfl ?_
   refine st_846.trans ?_
   refine XS.astore X_846.here hx rfl (hb hby at_59) rfl rfl (l' := #[VI p0, VI p1, VI p2, VI p3, VI p4, VI 4, VI i_759, VI i_767, VI i_775, VI i_783, VR a_791, VR a_811, .unset, .unset, .unset]) rfl ?_
   refine XS.aload X_846.here hx rfl (hb hby at_61) rfl rfl ?_
   exact Steps.refl _
  rcases hQ_858 with hQ_866 | hQ_867 | hQ_868
  ·skip
   obtain ⟨a_869, a_870, k_871, rfl, N_872, K_873, g_874, g_875, g_876, g_877, g_878⟩ := hQ_866
   have N_879 := Fr.app N_850 N_872
   have CH_880 : CHv Z consts_1 T_858.vm T_858.heap := R_858.1
   have CR_881 : CHr Z consts_1 s.vm h0 T_858.vm T_858.heap := CR_852.trans R_858
   have O_882 : Old Z n0 T_858.heap := (O_857.keep K_873 all0)
   obtain ⟨q_884, q_885, q_886, q_887, q_888⟩ := isOf (T := T_858) hZ_858 rfl g_874
   obtain ⟨_, _, ⟨T_883, L_883, k_883, n_883⟩, -, X_883, ⟨Lc_883, hQ_883, l_883, y_883, z_883⟩, st_883⟩ := X_858.virtualBack hx (y := M141) (z := M141) hown_858 (mvT hZ_858 (w107 hw)) (mvT hZ_858 (w69 hw)) (notFace_of_selects (args := #[]) (mvT hZ_858 (w71 hw))) (mvT hZ_858 (w71 hw)) (mvT hZ_858 (w70 hw)) (by decide) (backOf (W := 0) (rm_lenany l Z a0 hw [] G1 G3 HG T_858.heap n0 O_882 a_869 a_870 k_871 (0 : Int32) [] g_874 g_875 g_876 g_877) hZ_858 (w72 hw) (w10 hw) (by decide) (by decide)) q_886 q_888 (g := (mkF m 131 #[VI p0, VI p1, VI p2, VI p3, VI p4, VI 4, VI i_759, VI i_767, VI i_775, VI i_783, VR a_791, VR a_811, VR a_869, VI 31, VI 0] [(.ref a_869)])) rfl (by rw [hml]; rfl) (Steps.refl _) (argsL := []) (rest := []) (lenOf pd_232 rfl) rfl (by show 2 * 0 + _ ≤ _; exact Nat.le_of_eq rfl) (hb hby at_131) (fun _ _ => ⟨rfl, rfl, (by decide : 8 + 0 ≤ _), (by decide : 36 + 0 ≤ _)⟩)
   dsimp only [Pt.U, Pt.locs, Pt.cells, Pt.slots] at X_883 l_883 y_883 z_883 st_883 hQ_883
   subst l_883 y_883 z_883
   obtain ⟨rfl, N_889, e_890⟩ := hQ_883
   have N_891 := Fr.app N_879 N_889
   have e_892 : T_883.heap = T_858.heap := e_890
   have C_893 : Steps p.tables e below S0 (T_883.setTop (mkF m 180 #[VI p0, VI p1, VI p2, VI p3, VI p4, VI 4, VI i_759, VI i_767, VI i_775, VI i_783, VR a_791, VR a_811, VR a_869, VI 31, VI 0] [(.int 1)])) := by
    refine C_865.trans ?_
    refine st_858.trans ?_
    refine XS.astore X_858.here hx rfl (hb hby at_66) rfl rfl (l' := #[VI p0, VI p1, VI p2, VI p3, VI p4, VI 4, VI i_759, VI i_767, VI i_775, VI i_783, VR a_791, VR a_811, VR a_869, .unset, .unset]) rfl ?_
    refine XS.bipush X_858.here hx rfl (hb hby at_68) ?_
    refine XS.istore X_858.here hx rfl (hb hby at_70) rfl (l' := #[VI p0, VI p1, VI p2, VI p3, VI p4, VI 4, VI i_759, VI i_767, VI i_775, VI i_783, VR a_791, VR a_811, VR a_869, VI 31, .unset]) rfl ?_
    refine XS.iload X_858.here hx rfl (hb hby at_72) rfl ?_
    refine XS.ifYes X_858.here hx rfl (pc0 := 74) (pc' := 83) rfl (hb hby at_74) rfl (by decide) (by decide) (by decide) ?_
    refine XS.iload X_858.here hx rfl (hb hby at_83) rfl ?_
    refine XS.iload X_858.here hx rfl (hb hby at_85) rfl ?_
    refine XS.icmpNo X_858.here hx rfl (hb hby at_87) rfl (ii_ne_f g_878) ?_
    refine XS.iconst X_858.here hx rfl (hb hby at_90) ?_
    refine XS.istore X_858.here hx rfl (hb hby at_91) rfl (l' := #[VI p0, VI p1, VI p2, VI p3, VI p4, VI 4, VI i_759, VI i_767, VI i_775, VI i_783, VR a_791, VR a_811, VR a_869, VI 31, VI 0]) rfl ?_
    refine XS.goto X_858.here hx rfl (pc0 := 93) (pc' := 124) rfl (hb hby at_93) (by decide) (by decide) ?_
    refine XS.aload X_858.here hx rfl (hb hby at_124) rfl rfl ?_
    refine XS.ifnullNo X_858.here hx rfl (hb hby at_126) rfl ?_
    refine XS.aload X_858.here hx rfl (hb hby at_129) rfl rfl ?_
    refine st_883.trans ?_
    show Steps p.tables e below (T_883.setTop (mkF m 134 #[VI p0, VI p1, VI p2, VI p3, VI p4, VI 4, VI i_759, VI i_767, VI i_775, VI i_783, VR a_791, VR a_811, VR a_869, VI 31, VI 0] [(.int 0)])) _
    refine XS.iload X_883.here hx rfl (hb hby at_134) rfl ?_
    refine XS.icmpYes X_883.here hx rfl (pc0 := 136) (pc' := 141) rfl (hb hby at_136) rfl (by decide) (by decide) (by decide) ?_
    refine XS.iload X_883.here hx rfl (hb hby at_141) rfl ?_
    refine XS.iconst X_883.here hx rfl (hb hby at_143) ?_
    refine XS.icmpYes X_883.here hx rfl (pc0 := 144) (pc' := 160) rfl (hb hby at_144) rfl (by decide) (by decide) (by decide) ?_
    refine XS.iload X_883.here hx rfl (hb hby at_160) rfl ?_
    refine XS.iconst X_883.here hx rfl (hb hby at_162) ?_
    refine XS.icmpYes X_883.here hx rfl (pc0 := 163) (pc' := 179) rfl (hb hby at_163) rfl (by decide) (by decide) (by decide) ?_
    refine XS.iconst X_883.here hx rfl (hb hby at_179) ?_
    exact Steps.refl _
   have K_894 : Keep h0 T_858.heap [] := ((((((Keep.refl _ _).trans K_795 all0).ext E_807).ext E_824).trans K_848 (allS (Or.inr (Nat.le_trans K_795.1 (Nat.le_of_eq g_812.symm))) all0)).trans K_873 all0)
   obtain ⟨fs, hr, hrun, hended, hRE⟩ := X_883.leaveW hS_858 (by rw [show T_883.heap = T_858.heap from e_892]; exact (Nat.le_refl _)) (v := some (.int 1)) (fun h => by rw [Bd.returns] at h; cases h)
   refine ⟨_, _, C_893.trans (retN X_883 hx (t := .boolean) Bd.returns (by simp) (hb hby at_180) hr), hrun, hended, _, _, rfl, ?_, ?_, hRE.1, hRE.2.1, hRE.2.2.1, hRE.2.2.2.mono (by decide) (by decide)⟩
   ·show Q_law Z G1 G3 p0 p1 p2 p3 p4 h0 n0 (some (.int 1)) T_883.heap _
    rw [e_892]
    exact ⟨rfl, N_891, K_894⟩
   ·show CHr Z consts_1 s.vm s.heap T_883.vm T_883.heap
    rw [hh, show T_883.heap = T_858.heap from e_892]
    exact CR_881.trans (CHv.at X_883 hZ_858 hEL CH_880)
  ·skip
   obtain ⟨a_895, a_896, k_897, rfl, N_898, K_899, g_900, g_901, g_902, g_903, g_904, g_905⟩ := hQ_867
   have N_906 := Fr.app N_850 N_898
   have CH_907 : CHv Z consts_1 T_858.vm T_858.heap := R_858.1
   have CR_908 : CHr Z consts_1 s.vm h0 T_858.vm T_858.heap := CR_852.trans R_858
   have O_909 : Old Z n0 T_858.heap := (O_857.keep K_899 all0)
   obtain ⟨q_911, q_912, q_913, q_914, q_915⟩ := isOf (T := T_858) hZ_858 rfl g_900
   obtain ⟨_, _, ⟨T_910, L_910, k_910, n_910⟩, -, X_910, ⟨Lc_910, hQ_910, l_910, y_910, z_910⟩, st_910⟩ := X_858.virtualBack hx (y := M141) (z := M141) hown_858 (mvT hZ_858 (w107 hw)) (mvT hZ_858 (w69 hw)) (notFace_of_selects (args := #[]) (mvT hZ_858 (w71 hw))) (mvT hZ_858 (w71 hw)) (mvT hZ_858 (w70 hw)) (by decide) (backOf (W := 0) (rm_lenany l Z a0 hw [] G1 G3 HG T_858.heap n0 O_909 a_895 a_896 k_897 (1 : Int32) [(.int (own_lo8 i_759))] g_900 g_901 g_902 g_903) hZ_858 (w72 hw) (w10 hw) (by decide) (by decide)) q_913 q_915 (g := (mkF m 131 #[VI p0, VI p1, VI p2, VI p3, VI p4, VI 4, VI i_759, VI i_767, VI i_775, VI i_783, VR a_791, VR a_811, VR a_895, VI 31, VI 1] [(.ref a_895)])) rfl (by rw [hml]; rfl) (Steps.refl _) (argsL := []) (rest := []) (lenOf pd_232 rfl) rfl (by show 2 * 0 + _ ≤ _; exact Nat.le_of_eq rfl) (hb hby at_131) (fun _ _ => ⟨rfl, rfl, (by decide : 8 + 0 ≤ _), (by decide : 36 + 0 ≤ _)⟩)
   dsimp only [Pt.U, Pt.locs, Pt.cells, Pt.slots] at X_910 l_910 y_910 z_910 st_910 hQ_910
   subst l_910 y_910 z_910
   obtain ⟨rfl, N_916, e_917⟩ := hQ_910
   have N_918 := Fr.app N_906 N_916
   have e_919 : T_910.heap = T_858.heap := e_917
   obtain ⟨q_921, q_922, q_923, q_924, q_925⟩ := isOf (T := T_910) hZ_858 e_919 g_900
   obtain ⟨_, _, ⟨T_920, L_920, k_920, n_920⟩, -, X_920, ⟨Lc_920, hQ_920, l_920, y_920, z_920⟩, st_920⟩ := X_910.virtualBack hx (y := M479) (z := M479) hown_858 (mvT hZ_858 (w125 hw)) (mvT hZ_858 (w126 hw)) (notFace_of_selects (args := #[]) (mvT hZ_858 (w128 hw))) (mvT hZ_858 (w128 hw)) (mvT hZ_858 (w127 hw)) (by decide) (backOf (W := 0) (rm_ch_1_0 l Z a0 hw [] G1 G3 HG T_858.heap n0 O_909 a_895 a_896 k_897 (own_lo8 i_759) g_900 g_901 g_902 g_903) hZ_858 (w129 hw) (w10 hw) (by decide) (by decide)) q_923 q_925 (g := (mkF m 150 #[VI p0, VI p1, VI p2, VI p3, VI p4, VI 4, VI i_759, VI i_767, VI i_775, VI i_783, VR a_791, VR a_811, VR a_895, VI 31, VI 1] [(.int 0), (.ref a_895)])) rfl (by rw [hml]; rfl) (Steps.refl _) (argsL := [(.int 0)]) (rest := []) (lenOf pd_663 rfl) rfl (by show 2 * 0 + _ ≤ _; exact Nat.le_of_eq rfl) (hb hby at_150) (fun _ _ => ⟨rfl, e_919, (by decide : 8 + 0 ≤ _), (by decide : 36 + 0 ≤ _)⟩)
   dsimp only [Pt.U, Pt.locs, Pt.cells, Pt.slots] at X_920 l_920 y_920 z_920 st_920 hQ_920
   subst l_920 y_920 z_920
   obtain ⟨rfl, N_926, e_927⟩ := hQ_920
   have N_928 := Fr.app N_918 N_926
   have e_929 : T_920.heap = T_858.heap := e_927
   have C_930 : Steps p.tables e below S0 (T_920.setTop (mkF m 180 #[VI p0, VI p1, VI p2, VI p3, VI p4, VI 4, VI i_759, VI i_767, VI i_775, VI i_783, VR a_791, VR a_811, VR a_895, VI 31, VI 1] [(.int 1)])) := by
    refine C_865.trans ?_
    refine st_858.trans ?_
    refine XS.astore X_858.here hx rfl (hb hby at_66) rfl rfl (l' := #[VI p0, VI p1, VI p2, VI p3, VI p4, VI 4, VI i_759, VI i_767, VI i_775, VI i_783, VR a_791, VR a_811, VR a_895, .unset, .unset]) rfl ?_
    refine XS.bipush X_858.here hx rfl (hb hby at_68) ?_
    refine XS.istore X_858.here hx rfl (hb hby at_70) rfl (l' := #[VI p0, VI p1, VI p2, VI p3, VI p4, VI 4, VI i_759, VI i_767, VI i_775, VI i_783, VR a_791, VR a_811, VR a_895, VI 31, .unset]) rfl ?_
    refine XS.iload X_858.here hx rfl (hb hby at_72) rfl ?_
    refine XS.ifYes X_858.here hx rfl (pc0 := 74) (pc' := 83) rfl (hb hby at_74) rfl (by decide) (by decide) (by decide) ?_
    refine XS.iload X_858.here hx rfl (hb hby at_83) rfl ?_
    refine XS.iload X_858.here hx rfl (hb hby at_85) rfl ?_
    refine XS.icmpYes X_858.here hx rfl (pc0 := 87) (pc' := 96) rfl (hb hby at_87) rfl (ii_ne_t g_904) (by decide) (by decide) ?_
    refine XS.iload X_858.here hx rfl (hb hby at_96) rfl ?_
    refine XS.iconst X_858.here hx rfl (hb hby at_98) ?_
    refine XS.icmpYes X_858.here hx rfl (pc0 := 99) (pc' := 108) rfl (hb hby at_99) rfl (by decide) (by decide) (by decide) ?_
    refine XS.iload X_858.here hx rfl (hb hby at_108) rfl ?_
    refine XS.iload X_858.here hx rfl (hb hby at_110) rfl ?_
    refine XS.icmpNo X_858.here hx rfl (hb hby at_112) rfl (ii_ne_f g_905) ?_
    refine XS.iconst X_858.here hx rfl (hb hby at_115) ?_
    show Steps p.tables e below (T_858.setTop (mkF m 116 #[VI p0, VI p1, VI p2, VI p3, VI p4, VI 4, VI i_759, VI i_767, VI i_775, VI i_783, VR a_791, VR a_811, VR a_895, VI 31, .unset] [(.int 1)])) _
    refine XS.istore X_858.here hx rfl (hb hby at_116) rfl (l' := #[VI p0, VI p1, VI p2, VI p3, VI p4, VI 4, VI i_759, VI i_767, VI i_775, VI i_783, VR a_791, VR a_811, VR a_895, VI 31, VI 1]) rfl ?_
    refine XS.goto X_858.here hx rfl (pc0 := 118) (pc' := 124) rfl (hb hby at_118) (by decide) (by decide) ?_
    refine XS.aload X_858.here hx rfl (hb hby at_124) rfl rfl ?_
    refine XS.ifnullNo X_858.here hx rfl (hb hby at_126) rfl ?_
    refine XS.aload X_858.here hx rfl (hb hby at_129) rfl rfl ?_
    refine st_910.trans ?_
    refine XS.iload X_910.here hx rfl (hb hby at_134) rfl ?_
    refine XS.icmpYes X_910.here hx rfl (pc0 := 136) (pc' := 141) rfl (hb hby at_136) rfl (by decide) (by decide) (by decide) ?_
    refine XS.iload X_910.here hx rfl (hb hby at_141) rfl ?_
    refine XS.iconst X_910.here hx rfl (hb hby at_143) ?_
    refine XS.icmpNo X_910.here hx rfl (hb hby at_144) rfl (by decide) ?_
    refine XS.aload X_910.here hx rfl (hb hby at_147) rfl rfl ?_
    refine XS.iconst X_910.here hx rfl (hb hby at_149) ?_
    refine st_920.trans ?_
    refine XS.iload X_920.here hx rfl (hb hby at_153) rfl ?_
    refine XS.icmpYes X_920.here hx rfl (pc0 := 155) (pc' := 160) rfl (hb hby at_155) rfl (ii_eq_t (own_at_says g_762 g_763)) (by decide) (by decide) ?_
    show Steps p.tables e below (T_920.setTop (mkF m 160 #[VI p0, VI p1, VI p2, VI p3, VI p4, VI 4, VI i_759, VI i_767, VI i_775, VI i_783, VR a_791, VR a_811, VR a_895, VI 31, VI 1] [])) _
    refine XS.iload X_920.here hx rfl (hb hby at_160) rfl ?_
    refine XS.iconst X_920.here hx rfl (hb hby at_162) ?_
    refine XS.icmpYes X_920.here hx rfl (pc0 := 163) (pc' := 179) rfl (hb hby at_163) rfl (by decide) (by decide) (by decide) ?_
    refine XS.iconst X_920.here hx rfl (hb hby at_179) ?_
    exact Steps.refl _
   have K_931 : Keep h0 T_858.heap [] := ((((((Keep.refl _ _).trans K_795 all0).ext E_807).ext E_824).trans K_848 (allS (Or.inr (Nat.le_trans K_795.1 (Nat.le_of_eq g_812.symm))) all0)).trans K_899 all0)
   obtain ⟨fs, hr, hrun, hended, hRE⟩ := X_920.leaveW hS_858 (by rw [show T_920.heap = T_858.heap from e_929]; exact (Nat.le_refl _)) (v := some (.int 1)) (fun h => by rw [Bd.returns] at h; cases h)
   refine ⟨_, _, C_930.trans (retN X_920 hx (t := .boolean) Bd.returns (by simp) (hb hby at_180) hr), hrun, hended, _, _, rfl, ?_, ?_, hRE.1, hRE.2.1, hRE.2.2.1, hRE.2.2.2.mono (by decide) (by decide)⟩
   ·show Q_law Z G1 G3 p0 p1 p2 p3 p4 h0 n0 (some (.int 1)) T_920.heap _
    rw [e_929]
    exact ⟨rfl, N_928, K_931⟩
   ·show CHr Z consts_1 s.vm s.heap T_920.vm T_920.heap
    rw [hh, show T_920.heap = T_858.heap from e_929]
    exact CR_908.trans (CHv.at X_920 hZ_858 hEL CH_907)
  ·skip
   obtain ⟨a_932, a_933, k_934, rfl, N_935, K_936, g_937, g_938, g_939, g_940, g_941, g_942⟩ := hQ_868
   have N_943 := Fr.app N_850 N_935
   have CH_944 : CHv Z consts_1 T_858.vm T_858.heap := R_858.1
   have CR_945 : CHr Z consts_1 s.vm h0 T_858.vm T_858.heap := CR_852.trans R_858
   have O_946 : Old Z n0 T_858.heap := (O_857.keep K_936 all0)
   obtain ⟨q_948, q_949, q_950, q_951, q_952⟩ := isOf (T := T_858) hZ_858 rfl g_937
   obtain ⟨_, _, ⟨T_947, L_947, k_947, n_947⟩, -, X_947, ⟨Lc_947, hQ_947, l_947, y_947, z_947⟩, st_947⟩ := X_858.virtualBack hx (y := M141) (z := M141) hown_858 (mvT hZ_858 (w107 hw)) (mvT hZ_858 (w69 hw)) (notFace_of_selects (args := #[]) (mvT hZ_858 (w71 hw))) (mvT hZ_858 (w71 hw)) (mvT hZ_858 (w70 hw)) (by decide) (backOf (W := 0) (rm_lenany l Z a0 hw [] G1 G3 HG T_858.heap n0 O_946 a_932 a_933 k_934 (2 : Int32) [(.int (own_lo8 i_759)), (.int (own_lo8 i_767))] g_937 g_938 g_939 g_940) hZ_858 (w72 hw) (w10 hw) (by decide) (by decide)) q_950 q_952 (g := (mkF m 131 #[VI p0, VI p1, VI p2, VI p3, VI p4, VI 4, VI i_759, VI i_767, VI i_775, VI i_783, VR a_791, VR a_811, VR a_932, VI 31, VI 2] [(.ref a_932)])) rfl (by rw [hml]; rfl) (Steps.refl _) (argsL := []) (rest := []) (lenOf pd_232 rfl) rfl (by show 2 * 0 + _ ≤ _; exact Nat.le_of_eq rfl) (hb hby at_131) (fun _ _ => ⟨rfl, rfl, (by decide : 8 + 0 ≤ _), (by decide : 36 + 0 ≤ _)⟩)
   dsimp only [Pt.U, Pt.locs, Pt.cells, Pt.slots] at X_947 l_947 y_947 z_947 st_947 hQ_947
   subst l_947 y_947 z_947
   obtain ⟨rfl, N_953, e_954⟩ := hQ_947
   have N_955 := Fr.app N_943 N_953
   have e_956 : T_947.heap = T_858.heap := e_954
   obtain ⟨q_958, q_959, q_960, q_961, q_962⟩ := isOf (T := T_947) hZ_858 e_956 g_937
   obtain ⟨_, _, ⟨T_957, L_957, k_957, n_957⟩, -, X_957, ⟨Lc_957, hQ_957, l_957, y_957, z_957⟩, st_957⟩ := X_947.virtualBack hx (y := M479) (z := M479) hown_858 (mvT hZ_858 (w125 hw)) (mvT hZ_858 (w126 hw)) (notFace_of_selects (args := #[]) (mvT hZ_858 (w128 hw))) (mvT hZ_858 (w128 hw)) (mvT hZ_858 (w127 hw)) (by decide) (backOf (W := 0) (rm_ch_2_0 l Z a0 hw [] G1 G3 HG T_858.heap n0 O_946 a_932 a_933 k_934 (own_lo8 i_759) (own_lo8 i_767) g_937 g_938 g_939 g_940) hZ_858 (w129 hw) (w10 hw) (by decide) (by decide)) q_960 q_962 (g := (mkF m 150 #[VI p0, VI p1, VI p2, VI p3, VI p4, VI 4, VI i_759, VI i_767, VI i_775, VI i_783, VR a_791, VR a_811, VR a_932, VI 31, VI 2] [(.int 0), (.ref a_932)])) rfl (by rw [hml]; rfl) (Steps.refl _) (argsL := [(.int 0)]) (rest := []) (lenOf pd_663 rfl) rfl (by show 2 * 0 + _ ≤ _; exact Nat.le_of_eq rfl) (hb hby at_150) (fun _ _ => ⟨rfl, e_956, (by decide : 8 + 0 ≤ _), (by decide : 36 + 0 ≤ _)⟩)
   dsimp only [Pt.U, Pt.locs, Pt.cells, Pt.slots] at X_957 l_957 y_957 z_957 st_957 hQ_957
   subst l_957 y_957 z_957
   obtain ⟨rfl, N_963, e_964⟩ := hQ_957
   have N_965 := Fr.app N_955 N_963
   have e_966 : T_957.heap = T_858.heap := e_964
   obtain ⟨q_968, q_969, q_970, q_971, q_972⟩ := isOf (T := T_957) hZ_858 e_966 g_937
   obtain ⟨_, _, ⟨T_967, L_967, k_967, n_967⟩, -, X_967, ⟨Lc_967, hQ_967, l_967, y_967, z_967⟩, st_967⟩ := X_957.virtualBack hx (y := M479) (z := M479) hown_858 (mvT hZ_858 (w125 hw)) (mvT hZ_858 (w126 hw)) (notFace_of_selects (args := #[]) (mvT hZ_858 (w128 hw))) (mvT hZ_858 (w128 hw)) (mvT hZ_858 (w127 hw)) (by decide) (backOf (W := 0) (rm_ch_2_1 l Z a0 hw [] G1 G3 HG T_858.heap n0 O_946 a_932 a_933 k_934 (own_lo8 i_759) (own_lo8 i_767) g_937 g_938 g_939 g_940) hZ_858 (w129 hw) (w10 hw) (by decide) (by decide)) q_970 q_972 (g := (mkF m 169 #[VI p0, VI p1, VI p2, VI p3, VI p4, VI 4, VI i_759, VI i_767, VI i_775, VI i_783, VR a_791, VR a_811, VR a_932, VI 31, VI 2] [(.int 1), (.ref a_932)])) rfl (by rw [hml]; rfl) (Steps.refl _) (argsL := [(.int 1)]) (rest := []) (lenOf pd_663 rfl) rfl (by show 2 * 0 + _ ≤ _; exact Nat.le_of_eq rfl) (hb hby at_169) (fun _ _ => ⟨rfl, e_966, (by decide : 8 + 0 ≤ _), (by decide : 36 + 0 ≤ _)⟩)
   dsimp only [Pt.U, Pt.locs, Pt.cells, Pt.slots] at X_967 l_967 y_967 z_967 st_967 hQ_967
   subst l_967 y_967 z_967
   obtain ⟨rfl, N_973, e_974⟩ := hQ_967
   have N_975 := Fr.app N_965 N_973
   have e_976 : T_967.heap = T_858.heap := e_974
   have C_977 : Steps p.tables e below S0 (T_967.setTop (mkF m 180 #[VI p0, VI p1, VI p2, VI p3, VI p4, VI 4, VI i_759, VI i_767, VI i_775, VI i_783, VR a_791, VR a_811, VR a_932, VI 31, VI 2] [(.int 1)])) := by
    refine C_865.trans ?_
    refine st_858.trans ?_
    refine XS.astore X_858.here hx rfl (hb hby at_66) rfl rfl (l' := #[VI p0, VI p1, VI p2, VI p3, VI p4, VI 4, VI i_759, VI i_767, VI i_775, VI i_783, VR a_791, VR a_811, VR a_932, .unset, .unset]) rfl ?_
    refine XS.bipush X_858.here hx rfl (hb hby at_68) ?_
    refine XS.istore X_858.here hx rfl (hb hby at_70) rfl (l' := #[VI p0, VI p1, VI p2, VI p3, VI p4, VI 4, VI i_759, VI i_767, VI i_775, VI i_783, VR a_791, VR a_811, VR a_932, VI 31, .unset]) rfl ?_
    refine XS.iload X_858.here hx rfl (hb hby at_72) rfl ?_
    refine XS.ifYes X_858.here hx rfl (pc0 := 74) (pc' := 83) rfl (hb hby at_74) rfl (by decide) (by decide) (by decide) ?_
    refine XS.iload X_858.here hx rfl (hb hby at_83) rfl ?_
    refine XS.iload X_858.here hx rfl (hb hby at_85) rfl ?_
    refine XS.icmpYes X_858.here hx rfl (pc0 := 87) (pc' := 96) rfl (hb hby at_87) rfl (ii_ne_t g_941) (by decide) (by decide) ?_
    refine XS.iload X_858.here hx rfl (hb hby at_96) rfl ?_
    refine XS.iconst X_858.here hx rfl (hb hby at_98) ?_
    refine XS.icmpYes X_858.here hx rfl (pc0 := 99) (pc' := 108) rfl (hb hby at_99) rfl (by decide) (by decide) (by decide) ?_
    refine XS.iload X_858.here hx rfl (hb hby at_108) rfl ?_
    refine XS.iload X_858.here hx rfl (hb hby at_110) rfl ?_
    refine XS.icmpYes X_858.here hx rfl (pc0 := 112) (pc' := 121) rfl (hb hby at_112) rfl (ii_ne_t g_942) (by decide) (by decide) ?_
    refine XS.iconst X_858.here hx rfl (hb hby at_121) ?_
    show Steps p.tables e below (T_858.setTop (mkF m 122 #[VI p0, VI p1, VI p2, VI p3, VI p4, VI 4, VI i_759, VI i_767, VI i_775, VI i_783, VR a_791, VR a_811, VR a_932, VI 31, .unset] [(.int 2)])) _
    refine XS.istore X_858.here hx rfl (hb hby at_122) rfl (l' := #[VI p0, VI p1, VI p2, VI p3, VI p4, VI 4, VI i_759, VI i_767, VI i_775, VI i_783, VR a_791, VR a_811, VR a_932, VI 31, VI 2]) rfl ?_
    refine XS.aload X_858.here hx rfl (hb hby at_124) rfl rfl ?_
    refine XS.ifnullNo X_858.here hx rfl (hb hby at_126) rfl ?_
    refine XS.aload X_858.here hx rfl (hb hby at_129) rfl rfl ?_
    refine st_947.trans ?_
    refine XS.iload X_947.here hx rfl (hb hby at_134) rfl ?_
    refine XS.icmpYes X_947.here hx rfl (pc0 := 136) (pc' := 141) rfl (hb hby at_136) rfl (by decide) (by decide) (by decide) ?_
    refine XS.iload X_947.here hx rfl (hb hby at_141) rfl ?_
    refine XS.iconst X_947.here hx rfl (hb hby at_143) ?_
    refine XS.icmpNo X_947.here hx rfl (hb hby at_144) rfl (by decide) ?_
    refine XS.aload X_947.here hx rfl (hb hby at_147) rfl rfl ?_
    refine XS.iconst X_947.here hx rfl (hb hby at_149) ?_
    refine st_957.trans ?_
    refine XS.iload X_957.here hx rfl (hb hby at_153) rfl ?_
    refine XS.icmpYes X_957.here hx rfl (pc0 := 155) (pc' := 160) rfl (hb hby at_155) rfl (ii_eq_t (own_at_says g_762 g_763)) (by decide) (by decide) ?_
    refine XS.iload X_957.here hx rfl (hb hby at_160) rfl ?_
    show Steps p.tables e below (T_957.setTop (mkF m 162 #[VI p0, VI p1, VI p2, VI p3, VI p4, VI 4, VI i_759, VI i_767, VI i_775, VI i_783, VR a_791, VR a_811, VR a_932, VI 31, VI 2] [(.int 2)])) _
    refine XS.iconst X_957.here hx rfl (hb hby at_162) ?_
    refine XS.icmpNo X_957.here hx rfl (hb hby at_163) rfl (by decide) ?_
    refine XS.aload X_957.here hx rfl (hb hby at_166) rfl rfl ?_
    refine XS.iconst X_957.here hx rfl (hb hby at_168) ?_
    refine st_967.trans ?_
    refine XS.iload X_967.here hx rfl (hb hby at_172) rfl ?_
    refine XS.icmpYes X_967.here hx rfl (pc0 := 174) (pc' := 179) rfl (hb hby at_174) rfl (ii_eq_t (own_at_says g_770 g_771)) (by decide) (by decide) ?_
    refine XS.iconst X_967.here hx rfl (hb hby at_179) ?_
    exact Steps.refl _
   have K_978 : Keep h0 T_858.heap [] := ((((((Keep.refl _ _).trans K_795 all0).ext E_807).ext E_824).trans K_848 (allS (Or.inr (Nat.le_trans K_795.1 (Nat.le_of_eq g_812.symm))) all0)).trans K_936 all0)
   obtain ⟨fs, hr, hrun, hended, hRE⟩ := X_967.leaveW hS_858 (by rw [show T_967.heap = T_858.heap from e_976]; exact (Nat.le_refl _)) (v := some (.int 1)) (fun h => by rw [Bd.returns] at h; cases h)
   refine ⟨_, _, C_977.trans (retN X_967 hx (t := .boolean) Bd.returns (by simp) (hb hby at_180) hr), hrun, hended, _, _, rfl, ?_, ?_, hRE.1, hRE.2.1, hRE.2.2.1, hRE.2.2.2.mono (by decide) (by decide)⟩
   ·show Q_law Z G1 G3 p0 p1 p2 p3 p4 h0 n0 (some (.int 1)) T_967.heap _
    rw [e_976]
    exact ⟨rfl, N_975, K_978⟩
   ·show CHr Z consts_1 s.vm s.heap T_967.vm T_967.heap
    rw [hh, show T_967.heap = T_858.heap from e_976]
    exact CR_945.trans (CHv.at X_967 hZ_858 hEL CH_944)
theorem own_sta {s : State} {args : Array Value} {C n d K : String} (hx : (Jvm.Cond.exactly (.static C n d) K).value args s none s [] = some true) (hi : (Jvm.Cond.initialized C).before args s = true) (hl : (Jvm.Cond.laysStatic C n d).before args s = true) :
    ∃ a, Sta s s.heap C n d (.ref a) ∧ Exa s s.heap a K ∧ (Term.static C n d).eval args s none [] s = some (.ref a) := by
  obtain ⟨a, c', cell, k, e1, -⟩ := Cond.exactly_spec (Cond.before_iff.mpr hx)
  exact ⟨a, Sta.start e1 (Or.inr ⟨hi, hl⟩), Exa.start e1 hx, e1⟩
theorem own_fld {s : State} {args : Array Value} {t : Term} {a : Addr} {O n d : String} {v : Value} (ev : t.eval args s none [] s = some (.ref a)) (h : (Term.field t O n d).eval args s none [] s = some v) : Fld s s.heap a O n d v :=
  Fld.start (by simpa [Term.eval, ev] using h)
theorem own_fldI {s : State} {args : Array Value} {t : Term} {a : Addr} {O n d : String} {i : Int32} (ev : t.eval args s none [] s = some (.ref a)) (h : (Jvm.Cond.eq (Term.field t O n d) (.int i)).value args s none s [] = some true) : Fld s s.heap a O n d (.int i) :=
  own_fld ev (eqv_i (Term.int_eval i) h)
theorem comes_1 {Post : Tables → Env → Array Value → State → Outcome → State → Prop} (hpost : ∀ tb e args s v u, (limb_1_1.after args s (.returned v) u = true ∧ limb_1_2.after args s (.returned v) u = true ∧ True) → ReturnedEndW s (.returned v) u (Jvm.fieldLocs frame_1_writes args s ++ Jvm.arrayLocs frame_1_arrays args s ++ Jvm.staticLocs frame_1_statics s) 32 3200 → Post tb e args s (.returned v) u) :
    ArmFor flags0 classFile x code maxLocals ret World_1 tables_1 room_1 Calls_1 rest_1 Pre_1 Post := by
  intro l hfl _ _ p e ha hc hk s m args below hf hA hF happ hP
  obtain ⟨hcalls, hrest, hpre⟩ := hP
  obtain ⟨-, -, -, hnamed, -, -, -, hat⟩ := (Spec.applies_iff hf).mp happ
  obtain ⟨hg, hn⟩ := and_e (Cond.before_iff.mp (show (Jvm.Cond.and given_1 narrow_1).before args s = true from hpre))
  obtain ⟨h1, g0⟩ := and_e hg
  obtain ⟨a0, g1⟩ := and_e g0
  obtain ⟨a1, g2⟩ := and_e g1
  obtain ⟨a2, g3⟩ := and_e g2
  obtain ⟨a3, g4⟩ := and_e g3
  have a4 := g4
  obtain ⟨w0, w1, w2, w3, w4, rfl⟩ : ∃ w0 w1 w2 w3 w4 : Value, args = #[w0, w1, w2, w3, w4] := by
    have hs : args.size = 5 := by simpa [Cond.value, given_1] using h1
    obtain ⟨L⟩ := args
    match L, hs with
    | [w0, w1, w2, w3, w4], _ => exact ⟨w0, w1, w2, w3, w4, rfl⟩
  have hw := fun d (hd : d ∈ tables_1) => atoms_spec (ws := Jvm.Cond.code x code maxLocals ret :: tables_1) hat d (List.mem_cons_of_mem _ hd)
  obtain ⟨hsets, hown0⟩ := atoms_of _ (rest_1_c_eq ▸ (show rest_1_c.before _ s = true from hrest))
  have hfit : Fit s := fun {y c} hc i hi => by
    obtain ⟨ha, rfl⟩ := Array.getElem?_eq_some_iff.mp hc
    have q := List.all_eq_true.mp ((Array.all_eq_true_iff_forall_mem.mp hF) _ (Array.getElem_mem ha)) i (List.mem_range.mpr hi)
    simpa [Array.getElem?_eq_getElem hi] using q
  obtain ⟨i0, q0⟩ := is_v a0
  obtain rfl : w0 = (.int i0) := Option.some.inj q0
  obtain ⟨i1, q1⟩ := is_v a1
  obtain rfl : w1 = (.int i1) := Option.some.inj q1
  obtain ⟨i2, q2⟩ := is_v a2
  obtain rfl : w2 = (.int i2) := Option.some.inj q2
  obtain ⟨i3, q3⟩ := is_v a3
  obtain rfl : w3 = (.int i3) := Option.some.inj q3
  obtain ⟨i4, q4⟩ := is_v a4
  obtain rfl : w4 = (.int i4) := Option.some.inj q4
  obtain ⟨iCS, eCS⟩ := is_v (Cond.before_iff.mp (hsets _ (List.mem_of_getElem? (i := 1) rfl)))
  have SCS : Sta s s.heap "java/lang/String" "COMPACT_STRINGS" "Z" (.int iCS) := Sta.start eCS (Or.inl (hsets _ (List.mem_of_getElem? (i := 0) rfl)))
  have PCS : ¬ (iCS = (0 : Int32)) := gotF (Cond.eq_ints eCS (Term.int_eval (0))) (not_v (Cond.before_iff.mp (hsets _ (List.mem_of_getElem? (i := 2) rfl))))
  obtain ⟨vF, eF, rF⟩ := isR_v (Cond.before_iff.mp (hsets _ (List.mem_of_getElem? (i := 8) rfl)))
  have SF : Sta s s.heap "jdk/internal/util/Preconditions" "SIOOBE_FORMATTER" "Ljava/util/function/BiFunction;" vF := Sta.start eF (Or.inl (hsets _ (List.mem_of_getElem? (i := 7) rfl)))
  have HG : own_G l s #[(.int i0), (.int i1), (.int i2), (.int i3), (.int i4)] iCS vF := ⟨SCS, PCS, SF, rF⟩
  have CH : CHv s consts_1 s.vm s.heap := CHv.start (own_EL hw) hcalls.1 (hsets _ (List.mem_of_getElem? (i := 2) rfl)) (hw _ (List.mem_of_getElem? (i := 23) rfl)) (hw _ (List.mem_of_getElem? (i := 9) rfl))
  obtain ⟨n, o, h1, h2, h3, _, L, rfl, ⟨rfl, N, -⟩, -, hq⟩ := rm_law l s _ hw tables_1 iCS vF HG s.heap s.heap.size (Old.start s) i0 i1 i2 i3 i4 p e ha hc hk s m _ below hf ((Spec.applies_iff_loose hf).mp happ).1 ⟨rfl, State.Warmed39.refl s, rfl, CH⟩ trivial
  refine ⟨n, _, h1, h2, h3, hpost _ _ _ _ _ _ ⟨Cond.after_iff.mpr rfl, Cond.after_iff.mpr (eq_i res_at (Term.int_eval (1)) rfl), trivial⟩ ⟨hq.1, hq.2.1, hq.2.2.1, (hq.2.2.2.sift fun y hy => Or.inr (N y hy)).mono (by decide) (by decide)⟩⟩
theorem main_1_1 : Claimed_1_1 := comes_1 fun _ _ _ _ _ _ h hF => ⟨h.1, hF⟩
theorem main_1_2 : Claimed_1_2 := comes_1 fun _ _ _ _ _ _ h hF => ⟨h.2.1, hF⟩
end Jvm.Pilot.@@N@@
namespace Jvm.Pilot.@@N@@
open Jvm Jvm.ClassFile Sem Op Lib Jvm.Free Jvm.Stand Jvm.Pilot.@@N@@.Jvm.D
/-! MADE BY PROGRAM (witnessworld.py) out of the Statement's table words and the real class files: 24 classes; the members and pool entries that the words name. The judged class is class 1, her method 3. -/
namespace start1
open Jvm.ClassFile
def u (s : String) : CpInfo := .utf8 (stringToUtf16 s)
/-- a pool by its gaps: so many unusable entries, then the entry; so many at the end -/
def gap : Nat → List CpInfo → List CpInfo
  | 0, r => r
  | n + 1, r => .unusable :: gap n r
def poolList (es : List (Nat × CpInfo)) (last : Nat) : List CpInfo := es.foldr (fun e r => gap e.1 (e.2 :: r)) (gap last [])
def pool (es : List (Nat × CpInfo)) (last : Nat) : Array CpInfo := ⟨poolList es last⟩
def fileOf (pool : Array CpInfo) (this : Nat) (attrs : Array Attribute := #[]) (ms : Array MethodInfo := #[]) (fl : Nat := 33) (sup : Nat := 0) (ifs : Array Nat := #[]) (fds : Array FieldInfo := #[]) : ClassFile where
  minorVersion := 0
  majorVersion := 65
  constantPool := pool
  accessFlags := fl
  thisClass := this
  superClass := sup
  interfaces := ifs
  fields := fds
  methods := ms
  attributes := attrs
def plain (name : String) (sup : Option ClassId) : Class where
  name := name
  kind := .ordinary
  loader := none
  accessFlags := 33
  super := sup
  interfaces := #[]
  cf := none
  fields := #[]
  methods := #[]
  instanceTypes := #[]
  staticTypes := #[]
  resolved := #[]
  callSites := []
  init := .initialized
  statics := none
  mirror := none

def pool0 : Array CpInfo := pool [(5, u "<init>"), (0, u "()V"), (1, .class_ 10), (1, u "java/lang/Object")] 113

def k0c0 : Code := { maxStack := 0, maxLocals := 1, code := object_method_1_code, exceptionTable := #[], attributes := #[] }
def k0m0 : Method := { name := "<init>", desc := "()V", sig := { parameters := [], returnType := none }, accessFlags := 1, code := some k0c0 }
/-- java/lang/Object -/
def k0 : Class := { plain "java/lang/Object" none with
  accessFlags := 33
  interfaces := #[]
  cf := some (fileOf pool0 8 #[] #[{ accessFlags := 1, nameIndex := 5, descriptorIndex := 6, attributes := #[] }] 33 0 #[] #[])
  fields := #[]
  methods := #[k0m0]
  instanceTypes := #[]
  staticTypes := #[]
  resolved := Array.replicate 124 none
  statics := none }

def pool1 : Array CpInfo := pool [(2, .class_ 4), (1, u "java/lang/Object"), (0, u "<init>"), (0, u "()V"), (0, .class_ 8), (0, u "java/lang/String"), (0, .methodref 7 10), (0, .nameAndType 5 11), (0, u "([C)V"), (0, .integer 2147483647), (0, .methodref 14 15), (0, .class_ 16), (0, .nameAndType 17 18), (0, u "com/example/kartoteka/kartoteka/FieldIndicatorsPinLaw"), (0, u "ch"), (0, u "(I)C"), (0, .methodref 14 20), (0, .nameAndType 21 22), (0, u "make"), (0, u "(ICCCC)Ljava/lang/String;"), (0, .class_ 24), (0, u "com/example/kartoteka/kartoteka/Field"), (0, .string 26), (0, u "245"), (0, .methodref 23 28), (0, .nameAndType 5 29), (0, u "(Ljava/lang/String;Ljava/lang/String;)V"), (0, .methodref 23 31), (0, .nameAndType 32 33), (0, u "indicators"), (0, u "()Ljava/lang/String;"), (0, .methodref 7 35), (0, .nameAndType 36 37), (0, u "length"), (0, u "()I"), (0, .methodref 7 39), (0, .nameAndType 40 18), (0, u "charAt"), (3, u "law"), (0, u "(IIIII)Z")] 2

def k1m0 : Method := { name := "<init>", desc := "()V", sig := { parameters := [], returnType := none }, accessFlags := 1, code := none }
def k1c1 : Code := { maxStack := 2, maxLocals := 1, code := method_2_code, exceptionTable := #[], attributes := #[] }
def k1m1 : Method := { name := "ch", desc := "(I)C", sig := { parameters := [.int], returnType := some .char }, accessFlags := 10, code := some k1c1 }
def k1c2 : Code := { maxStack := 6, maxLocals := 5, code := method_3_code, exceptionTable := #[], attributes := #[] }
def k1m2 : Method := { name := "make", desc := "(ICCCC)Ljava/lang/String;", sig := { parameters := [.int, .char, .char, .char, .char], returnType := some (.object "java/lang/String") }, accessFlags := 10, code := some k1c2 }
def k1c3 : Code := { maxStack := 5, maxLocals := 15, code := code, exceptionTable := #[], attributes := #[] }
def k1m3 : Method := { name := "law", desc := "(IIIII)Z", sig := { parameters := [.int, .int, .int, .int, .int], returnType := some .boolean }, accessFlags := 9, code := some k1c3 }
/-- com/example/kartoteka/kartoteka/FieldIndicatorsPinLaw -/
def k1 : Class := { plain "com/example/kartoteka/kartoteka/FieldIndicatorsPinLaw" (some 0) with
  accessFlags := 49
  interfaces := #[]
  cf := some (fileOf pool1 14 #[] #[{ accessFlags := 1, nameIndex := 5, descriptorIndex := 6, attributes := #[] }, { accessFlags := 10, nameIndex := 17, descriptorIndex := 18, attributes := #[] }, { accessFlags := 10, nameIndex := 21, descriptorIndex := 22, attributes := #[] }, { accessFlags := 9, nameIndex := 44, descriptorIndex := 45, attributes := #[] }] 49 2 #[] #[])
  fields := #[]
  methods := #[k1m0, k1m1, k1m2, k1m3]
  instanceTypes := #[]
  staticTypes := #[]
  resolved := Array.replicate 48 none
  statics := none }

def pool2 : Array CpInfo := pool [(1, .class_ 2), (0, u "java/io/Serializable"), (0, .class_ 4), (0, u "java/lang/Object")] 2

/-- java/io/Serializable -/
def k2 : Class := { plain "java/io/Serializable" (some 0) with
  accessFlags := 1537
  interfaces := #[]
  cf := some (fileOf pool2 1 #[] #[] 1537 3 #[] #[])
  fields := #[]
  methods := #[]
  instanceTypes := #[]
  staticTypes := #[]
  resolved := Array.replicate 7 none
  statics := none }

def pool3 : Array CpInfo := pool [(1, .class_ 2), (0, u "java/lang/Comparable"), (0, .class_ 4), (0, u "java/lang/Object")] 7

/-- java/lang/Comparable -/
def k3 : Class := { plain "java/lang/Comparable" (some 0) with
  accessFlags := 1537
  interfaces := #[]
  cf := some (fileOf pool3 1 #[] #[] 1537 3 #[] #[])
  fields := #[]
  methods := #[]
  instanceTypes := #[]
  staticTypes := #[]
  resolved := Array.replicate 12 none
  statics := none }

def pool4 : Array CpInfo := pool [(2, .class_ 4), (1, u "java/lang/CharSequence"), (42, .class_ 48), (0, u "java/lang/CharSequence$1CodePointIterator"), (10, .class_ 60), (0, u "java/lang/CharSequence$1CharIterator"), (5, .class_ 67), (0, u "java/lang/Object")] 63

/-- java/lang/CharSequence -/
def k4 : Class := { plain "java/lang/CharSequence" (some 0) with
  accessFlags := 1537
  interfaces := #[]
  cf := some (fileOf pool4 2 #[.nestMembers #[47, 59]] #[] 1537 66 #[] #[])
  fields := #[]
  methods := #[]
  instanceTypes := #[]
  staticTypes := #[]
  resolved := Array.replicate 131 none
  statics := none }

def pool5 : Array CpInfo := pool [(1, .class_ 2), (0, u "java/lang/constant/Constable"), (0, .class_ 4), (0, u "java/lang/Object")] 6

/-- java/lang/constant/Constable -/
def k5 : Class := { plain "java/lang/constant/Constable" (some 0) with
  accessFlags := 1537
  interfaces := #[]
  cf := some (fileOf pool5 1 #[] #[] 1537 3 #[] #[])
  fields := #[]
  methods := #[]
  instanceTypes := #[]
  staticTypes := #[]
  resolved := Array.replicate 11 none
  statics := none }

def pool6 : Array CpInfo := pool [(1, .class_ 2), (0, u "java/lang/constant/ConstantDesc"), (0, .class_ 4), (0, u "java/lang/Object")] 32

/-- java/lang/constant/ConstantDesc -/
def k6 : Class := { plain "java/lang/constant/ConstantDesc" (some 0) with
  accessFlags := 1537
  interfaces := #[]
  cf := some (fileOf pool6 1 #[] #[] 1537 3 #[] #[])
  fields := #[]
  methods := #[]
  instanceTypes := #[]
  staticTypes := #[]
  resolved := Array.replicate 37 none
  statics := none }

def pool7 : Array CpInfo := pool [(1, .methodref 2 3), (0, .class_ 4), (0, .nameAndType 5 6), (0, u "java/lang/Object"), (0, u "<init>"), (0, u "()V"), (0, .string 8), (0, u ""), (0, .fieldref 10 11), (0, .class_ 12), (0, .nameAndType 13 14), (0, u "java/lang/String"), (0, u "value"), (0, u "[B"), (0, .fieldref 10 16), (0, .nameAndType 17 18), (0, u "coder"), (0, u "B"), (2, u "hash"), (0, u "I"), (2, u "hashIsZero"), (0, u "Z"), (0, .methodref 10 28), (0, .nameAndType 5 29), (0, u "([CIILjava/lang/Void;)V"), (8, .fieldref 10 39), (0, .nameAndType 40 26), (0, u "COMPACT_STRINGS"), (1, .class_ 44), (1, u "java/lang/StringUTF16"), (0, u "compress"), (1, .methodref 42 48), (0, .nameAndType 49 50), (0, u "coderFromArrayLen"), (0, u "([BI)B"), (56, .class_ 109), (1, u "java/lang/StringLatin1"), (32, u "()Z"), (34, .methodref 42 178), (0, .nameAndType 45 179), (0, u "([CII)[B"), (31, u "([BB)V"), (122, u "()I"), (0, .methodref 10 336), (0, .nameAndType 17 337), (0, u "()B"), (25, u "([BI)C"), (27, u "(II)V"), (35, u "(I)C"), (64, .methodref 10 493), (0, .nameAndType 494 142), (0, u "isLatin1"), (0, .methodref 107 496), (0, .nameAndType 497 363), (0, u "charAt"), (3, u "checkIndex"), (3, .methodref 10 506), (0, .nameAndType 507 334), (0, u "length"), (5, u "checkFromToIndex"), (7, .methodref 10 522), (0, .nameAndType 523 524), (0, u "checkBoundsBeginEnd"), (0, u "(III)V"), (50, .class_ 576), (0, u "java/lang/CharSequence"), (22, u "CASE_INSENSITIVE_ORDER"), (0, u "Ljava/util/Comparator;"), (32, .methodref 10 634), (0, .nameAndType 635 636), (0, u "indexOf"), (0, u "(II)I"), (0, .methodref 107 638), (0, .nameAndType 635 639), (0, u "([BIII)I"), (43, u "substring"), (0, u "(II)Ljava/lang/String;"), (0, .methodref 107 686), (0, .nameAndType 687 688), (0, u "newString"), (0, u "([BII)Ljava/lang/String;"), (76, u "(I)I"), (244, u "([C)V"), (42, .fieldref 1054 1055), (0, .class_ 1056), (0, .nameAndType 1057 1058), (0, u "jdk/internal/util/Preconditions"), (0, u "SIOOBE_FORMATTER"), (0, u "Ljava/util/function/BiFunction;"), (0, .methodref 1054 1060), (0, .nameAndType 501 1061), (0, u "(IILjava/util/function/BiFunction;)I"), (0, .methodref 1054 1063), (0, .nameAndType 513 1064), (0, u "(IIILjava/util/function/BiFunction;)I"), (36, u "serialPersistentFields"), (0, u "[Ljava/io/ObjectStreamField;"), (0, .class_ 1104), (0, u "java/lang/String$CaseInsensitiveComparator"), (1, .class_ 1107), (0, u "java/io/Serializable"), (0, .class_ 1109), (0, u "java/lang/Comparable"), (0, .class_ 1111), (0, u "java/lang/constant/Constable"), (0, .class_ 1113), (0, u "java/lang/constant/ConstantDesc"), (2, u "serialVersionUID"), (0, u "J"), (3, u "REPL"), (0, u "C"), (2, u "LATIN1"), (1, u "UTF16")] 323

def k7m0 : Method := { name := "<init>", desc := "()V", sig := { parameters := [], returnType := none }, accessFlags := 1, code := none }
def k7c1 : Code := { maxStack := 5, maxLocals := 2, code := jdk_42_method_3_code, exceptionTable := #[], attributes := #[] }
def k7m1 : Method := { name := "<init>", desc := "([C)V", sig := { parameters := [(.array .char)], returnType := none }, accessFlags := 1, code := some k7c1 }
def k7c2 : Code := { maxStack := 2, maxLocals := 1, code := jdk_42_method_54_code, exceptionTable := #[], attributes := #[] }
def k7m2 : Method := { name := "length", desc := "()I", sig := { parameters := [], returnType := some .int }, accessFlags := 1, code := some k7c2 }
def k7c3 : Code := { maxStack := 2, maxLocals := 2, code := jdk_42_method_56_code, exceptionTable := #[], attributes := #[] }
def k7m3 : Method := { name := "charAt", desc := "(I)C", sig := { parameters := [.int], returnType := some .char }, accessFlags := 1, code := some k7c3 }
def k7c4 : Code := { maxStack := 3, maxLocals := 2, code := jdk_42_method_79_code, exceptionTable := #[], attributes := #[] }
def k7m4 : Method := { name := "indexOf", desc := "(I)I", sig := { parameters := [.int], returnType := some .int }, accessFlags := 1, code := some k7c4 }
def k7c5 : Code := { maxStack := 4, maxLocals := 3, code := jdk_42_method_80_code, exceptionTable := #[], attributes := #[] }
def k7m5 : Method := { name := "indexOf", desc := "(II)I", sig := { parameters := [.int, .int], returnType := some .int }, accessFlags := 1, code := some k7c5 }
def k7c6 : Code := { maxStack := 3, maxLocals := 5, code := jdk_42_method_92_code, exceptionTable := #[], attributes := #[] }
def k7m6 : Method := { name := "substring", desc := "(II)Ljava/lang/String;", sig := { parameters := [.int, .int], returnType := some (.object "java/lang/String") }, accessFlags := 1, code := some k7c6 }
def k7c7 : Code := { maxStack := 4, maxLocals := 6, code := jdk_42_method_149_code, exceptionTable := #[], attributes := #[] }
def k7m7 : Method := { name := "<init>", desc := "([CIILjava/lang/Void;)V", sig := { parameters := [(.array .char), .int, .int, (.object "java/lang/Void")], returnType := none }, accessFlags := 2, code := some k7c7 }
def k7c8 : Code := { maxStack := 2, maxLocals := 3, code := jdk_42_method_151_code, exceptionTable := #[], attributes := #[] }
def k7m8 : Method := { name := "<init>", desc := "([BB)V", sig := { parameters := [(.array .byte), .byte], returnType := none }, accessFlags := 0, code := some k7c8 }
def k7c9 : Code := { maxStack := 1, maxLocals := 1, code := jdk_42_method_152_code, exceptionTable := #[], attributes := #[] }
def k7m9 : Method := { name := "coder", desc := "()B", sig := { parameters := [], returnType := some .byte }, accessFlags := 0, code := some k7c9 }
def k7c10 : Code := { maxStack := 1, maxLocals := 1, code := jdk_42_method_154_code, exceptionTable := #[], attributes := #[] }
def k7m10 : Method := { name := "isLatin1", desc := "()Z", sig := { parameters := [], returnType := some .boolean }, accessFlags := 0, code := some k7c10 }
def k7c11 : Code := { maxStack := 3, maxLocals := 2, code := jdk_42_method_155_code, exceptionTable := #[], attributes := #[] }
def k7m11 : Method := { name := "checkIndex", desc := "(II)V", sig := { parameters := [.int, .int], returnType := none }, accessFlags := 8, code := some k7c11 }
def k7c12 : Code := { maxStack := 4, maxLocals := 3, code := jdk_42_method_158_code, exceptionTable := #[], attributes := #[] }
def k7m12 : Method := { name := "checkBoundsBeginEnd", desc := "(III)V", sig := { parameters := [.int, .int, .int], returnType := none }, accessFlags := 8, code := some k7c12 }
/-- java/lang/String -/
def k7 : Class := { plain "java/lang/String" (some 0) with
  accessFlags := 49
  interfaces := #[2, 3, 4, 5, 6]
  cf := some (fileOf pool7 10 #[.nestMembers #[1103]] #[{ accessFlags := 1, nameIndex := 5, descriptorIndex := 6, attributes := #[] }, { accessFlags := 1, nameIndex := 5, descriptorIndex := 1010, attributes := #[] }, { accessFlags := 1, nameIndex := 507, descriptorIndex := 334, attributes := #[] }, { accessFlags := 1, nameIndex := 497, descriptorIndex := 427, attributes := #[] }, { accessFlags := 1, nameIndex := 635, descriptorIndex := 765, attributes := #[] }, { accessFlags := 1, nameIndex := 635, descriptorIndex := 636, attributes := #[] }, { accessFlags := 1, nameIndex := 683, descriptorIndex := 684, attributes := #[] }, { accessFlags := 2, nameIndex := 5, descriptorIndex := 29, attributes := #[] }, { accessFlags := 0, nameIndex := 5, descriptorIndex := 211, attributes := #[] }, { accessFlags := 0, nameIndex := 17, descriptorIndex := 337, attributes := #[] }, { accessFlags := 0, nameIndex := 494, descriptorIndex := 142, attributes := #[] }, { accessFlags := 8, nameIndex := 501, descriptorIndex := 391, attributes := #[] }, { accessFlags := 8, nameIndex := 523, descriptorIndex := 524, attributes := #[] }] 49 2 #[1106, 1108, 575, 1110, 1112] #[{ accessFlags := 18, nameIndex := 13, descriptorIndex := 14, attributes := #[] }, { accessFlags := 18, nameIndex := 17, descriptorIndex := 18, attributes := #[] }, { accessFlags := 2, nameIndex := 21, descriptorIndex := 22, attributes := #[] }, { accessFlags := 2, nameIndex := 25, descriptorIndex := 26, attributes := #[] }, { accessFlags := 26, nameIndex := 1116, descriptorIndex := 1117, attributes := #[] }, { accessFlags := 24, nameIndex := 40, descriptorIndex := 26, attributes := #[] }, { accessFlags := 26, nameIndex := 1101, descriptorIndex := 1102, attributes := #[] }, { accessFlags := 26, nameIndex := 1121, descriptorIndex := 1122, attributes := #[] }, { accessFlags := 25, nameIndex := 599, descriptorIndex := 600, attributes := #[] }, { accessFlags := 24, nameIndex := 1125, descriptorIndex := 18, attributes := #[] }, { accessFlags := 24, nameIndex := 1127, descriptorIndex := 18, attributes := #[] }])
  fields := #[{ name := "value", type := (.array .byte), accessFlags := 18, slot := 0, constantValue := 0 }, { name := "coder", type := .byte, accessFlags := 18, slot := 1, constantValue := 0 }, { name := "hash", type := .int, accessFlags := 2, slot := 2, constantValue := 0 }, { name := "hashIsZero", type := .boolean, accessFlags := 2, slot := 3, constantValue := 0 }, { name := "serialVersionUID", type := .long, accessFlags := 26, slot := 0, constantValue := 0 }, { name := "COMPACT_STRINGS", type := .boolean, accessFlags := 24, slot := 1, constantValue := 0 }, { name := "serialPersistentFields", type := (.array (.object "java/io/ObjectStreamField")), accessFlags := 26, slot := 2, constantValue := 0 }, { name := "REPL", type := .char, accessFlags := 26, slot := 3, constantValue := 0 }, { name := "CASE_INSENSITIVE_ORDER", type := (.object "java/util/Comparator"), accessFlags := 25, slot := 4, constantValue := 0 }, { name := "LATIN1", type := .byte, accessFlags := 24, slot := 5, constantValue := 0 }, { name := "UTF16", type := .byte, accessFlags := 24, slot := 6, constantValue := 0 }]
  methods := #[k7m0, k7m1, k7m2, k7m3, k7m4, k7m5, k7m6, k7m7, k7m8, k7m9, k7m10, k7m11, k7m12]
  instanceTypes := #[(.array .byte), .byte, .int, .boolean]
  staticTypes := #[.long, .boolean, (.array (.object "java/io/ObjectStreamField")), .char, (.object "java/util/Comparator"), .byte, .byte]
  resolved := Array.replicate 1451 none
  statics := some 0 }

def pool8 : Array CpInfo := pool [(1, .methodref 2 3), (0, .class_ 4), (0, .nameAndType 5 6), (0, u "java/lang/Object"), (0, u "<init>"), (0, u "()V"), (0, .class_ 8), (0, u "java/lang/Record")] 13

def k8c0 : Code := { maxStack := 1, maxLocals := 1, code := jdk_30_method_1_code, exceptionTable := #[], attributes := #[] }
def k8m0 : Method := { name := "<init>", desc := "()V", sig := { parameters := [], returnType := none }, accessFlags := 4, code := some k8c0 }
/-- java/lang/Record -/
def k8 : Class := { plain "java/lang/Record" (some 0) with
  accessFlags := 1057
  interfaces := #[]
  cf := some (fileOf pool8 7 #[] #[{ accessFlags := 4, nameIndex := 5, descriptorIndex := 6, attributes := #[] }] 1057 2 #[] #[])
  fields := #[]
  methods := #[k8m0]
  instanceTypes := #[]
  staticTypes := #[]
  resolved := Array.replicate 22 none
  statics := none }

def pool9 : Array CpInfo := pool [(1, .methodref 2 3), (0, .class_ 4), (0, .nameAndType 5 6), (0, u "java/lang/Record"), (0, u "<init>"), (0, u "()V"), (0, .fieldref 8 9), (0, .class_ 10), (0, .nameAndType 11 12), (0, u "com/example/kartoteka/kartoteka/Field"), (0, u "tag"), (0, u "Ljava/lang/String;"), (0, .fieldref 8 14), (0, .nameAndType 15 12), (0, u "data"), (3, .class_ 21), (1, u "java/lang/String"), (2, .methodref 19 25), (0, .nameAndType 26 27), (0, u "indexOf"), (0, u "(I)I"), (0, .methodref 19 29), (0, .nameAndType 30 31), (0, u "length"), (0, u "()I"), (0, .methodref 33 34), (0, .class_ 35), (0, .nameAndType 36 37), (0, u "java/lang/Math"), (0, u "min"), (0, u "(II)I"), (0, .methodref 19 39), (0, .nameAndType 40 41), (0, u "substring"), (0, u "(II)Ljava/lang/String;"), (7, .class_ 51), (1, u "com/example/kartoteka/kartoteka/Field$SubfieldBounds"), (32, u "SUBFIELD_DELIMITER"), (0, u "C"), (2, u "INDICATORS"), (0, u "I"), (1, u "(Ljava/lang/String;Ljava/lang/String;)V"), (5, u "indicators"), (0, u "()Ljava/lang/String;")] 41

def k9c0 : Code := { maxStack := 2, maxLocals := 3, code := prog_10_method_1_code, exceptionTable := #[], attributes := #[] }
def k9m0 : Method := { name := "<init>", desc := "(Ljava/lang/String;Ljava/lang/String;)V", sig := { parameters := [(.object "java/lang/String"), (.object "java/lang/String")], returnType := none }, accessFlags := 0, code := some k9c0 }
def k9c1 : Code := { maxStack := 4, maxLocals := 2, code := prog_10_method_3_code, exceptionTable := #[], attributes := #[] }
def k9m1 : Method := { name := "indicators", desc := "()Ljava/lang/String;", sig := { parameters := [], returnType := some (.object "java/lang/String") }, accessFlags := 0, code := some k9c1 }
/-- com/example/kartoteka/kartoteka/Field -/
def k9 : Class := { plain "com/example/kartoteka/kartoteka/Field" (some 8) with
  accessFlags := 48
  interfaces := #[]
  cf := some (fileOf pool9 8 #[.nestMembers #[49]] #[{ accessFlags := 0, nameIndex := 5, descriptorIndex := 91, attributes := #[] }, { accessFlags := 0, nameIndex := 97, descriptorIndex := 98, attributes := #[] }] 48 2 #[] #[{ accessFlags := 18, nameIndex := 11, descriptorIndex := 12, attributes := #[] }, { accessFlags := 18, nameIndex := 15, descriptorIndex := 12, attributes := #[] }, { accessFlags := 24, nameIndex := 84, descriptorIndex := 85, attributes := #[] }, { accessFlags := 24, nameIndex := 88, descriptorIndex := 89, attributes := #[] }])
  fields := #[{ name := "tag", type := (.object "java/lang/String"), accessFlags := 18, slot := 0, constantValue := 0 }, { name := "data", type := (.object "java/lang/String"), accessFlags := 18, slot := 1, constantValue := 0 }, { name := "SUBFIELD_DELIMITER", type := .char, accessFlags := 24, slot := 0, constantValue := 0 }, { name := "INDICATORS", type := .int, accessFlags := 24, slot := 1, constantValue := 0 }]
  methods := #[k9m0, k9m1]
  instanceTypes := #[(.object "java/lang/String"), (.object "java/lang/String")]
  staticTypes := #[.char, .int]
  resolved := Array.replicate 140 none
  statics := none }

def pool10 : Array CpInfo := pool [(1, .class_ 2), (0, u "java/lang/String"), (1, .class_ 6), (1, u "java/lang/Object"), (0, u "<init>"), (0, u "()V"), (0, .methodref 1 10), (0, .nameAndType 11 12), (0, u "checkIndex"), (0, u "(II)V"), (1, .class_ 16), (1, u "java/lang/StringLatin1"), (21, .methodref 39 40), (0, .class_ 41), (0, .nameAndType 42 43), (0, u "java/lang/Math"), (0, u "min"), (0, u "(II)I"), (9, u "([BI)C"), (34, .methodref 14 89), (0, .nameAndType 90 91), (0, u "canEncode"), (0, u "(I)Z"), (0, .methodref 39 93), (0, .nameAndType 94 43), (0, u "max"), (0, .methodref 14 96), (0, .nameAndType 97 98), (0, u "indexOfChar"), (0, u "([BIII)I"), (2, u "indexOf"), (10, .methodref 1 113), (0, .nameAndType 7 114), (0, u "([BB)V"), (6, u "$assertionsDisabled"), (0, u "Z"), (8, .class_ 133), (1, u "java/util/Arrays"), (17, .string 152), (0, u ""), (43, u "newString"), (0, u "([BII)Ljava/lang/String;"), (23, .class_ 223), (1, u "java/lang/StringLatin1$LinesSpliterator"), (8, .methodref 131 233), (0, .nameAndType 234 235), (0, u "copyOfRange"), (0, u "([BII)[B"), (16, u "charAt"), (137, .class_ 391), (0, u "java/lang/StringLatin1$CharsSpliterator")] 3

def k10m0 : Method := { name := "<init>", desc := "()V", sig := { parameters := [], returnType := none }, accessFlags := 0, code := none }
def k10c1 : Code := { maxStack := 2, maxLocals := 2, code := jdk_43_method_2_code, exceptionTable := #[], attributes := #[] }
def k10m1 : Method := { name := "charAt", desc := "([BI)C", sig := { parameters := [(.array .byte), .int], returnType := some .char }, accessFlags := 9, code := some k10c1 }
def k10c2 : Code := { maxStack := 2, maxLocals := 1, code := jdk_43_method_4_code, exceptionTable := #[], attributes := #[] }
def k10m2 : Method := { name := "canEncode", desc := "(I)Z", sig := { parameters := [.int], returnType := some .boolean }, accessFlags := 9, code := some k10c2 }
def k10c3 : Code := { maxStack := 4, maxLocals := 4, code := jdk_43_method_22_code, exceptionTable := #[], attributes := #[] }
def k10m3 : Method := { name := "indexOf", desc := "([BIII)I", sig := { parameters := [(.array .byte), .int, .int, .int], returnType := some .int }, accessFlags := 9, code := some k10c3 }
def k10c4 : Code := { maxStack := 2, maxLocals := 6, code := jdk_43_method_23_code, exceptionTable := #[], attributes := #[] }
def k10m4 : Method := { name := "indexOfChar", desc := "([BIII)I", sig := { parameters := [(.array .byte), .int, .int, .int], returnType := some .int }, accessFlags := 10, code := some k10c4 }
def k10c5 : Code := { maxStack := 6, maxLocals := 3, code := jdk_43_method_47_code, exceptionTable := #[], attributes := #[] }
def k10m5 : Method := { name := "newString", desc := "([BII)Ljava/lang/String;", sig := { parameters := [(.array .byte), .int, .int], returnType := some (.object "java/lang/String") }, accessFlags := 9, code := some k10c5 }
/-- java/lang/StringLatin1 -/
def k10 : Class := { plain "java/lang/StringLatin1" (some 0) with
  accessFlags := 48
  interfaces := #[]
  cf := some (fileOf pool10 14 #[.nestMembers #[390, 221]] #[{ accessFlags := 0, nameIndex := 7, descriptorIndex := 8, attributes := #[] }, { accessFlags := 9, nameIndex := 252, descriptorIndex := 53, attributes := #[] }, { accessFlags := 9, nameIndex := 90, descriptorIndex := 91, attributes := #[] }, { accessFlags := 9, nameIndex := 101, descriptorIndex := 98, attributes := #[] }, { accessFlags := 10, nameIndex := 97, descriptorIndex := 98, attributes := #[] }, { accessFlags := 9, nameIndex := 196, descriptorIndex := 197, attributes := #[] }] 48 4 #[] #[{ accessFlags := 4120, nameIndex := 121, descriptorIndex := 122, attributes := #[] }])
  fields := #[{ name := "$assertionsDisabled", type := .boolean, accessFlags := 4120, slot := 0, constantValue := 0 }]
  methods := #[k10m0, k10m1, k10m2, k10m3, k10m4, k10m5]
  instanceTypes := #[]
  staticTypes := #[.boolean]
  resolved := Array.replicate 395 none
  statics := none }

def pool11 : Array CpInfo := pool [(1, .class_ 2), (0, u "java/lang/Math"), (1, .class_ 6), (1, u "java/lang/Object"), (0, u "<init>"), (0, u "()V"), (89, .class_ 100), (1, u "java/lang/Math$RandomNumberGeneratorHolder"), (71, u "negativeZeroFloatBits"), (0, u "J"), (2, u "negativeZeroDoubleBits"), (21, u "max"), (2, u "min"), (43, u "$assertionsDisabled"), (0, u "Z"), (88, u "(II)I"), (2, u "twoToTheDoubleScaleDown"), (0, u "D"), (4, u "twoToTheDoubleScaleUp"), (9, u "E"), (3, u "PI"), (2, u "TAU"), (2, u "DEGREES_TO_RADIANS"), (0, u "RADIANS_TO_DEGREES")] 94

def k11m0 : Method := { name := "<init>", desc := "()V", sig := { parameters := [], returnType := none }, accessFlags := 2, code := none }
def k11c1 : Code := { maxStack := 2, maxLocals := 2, code := jdk_29_method_65_code, exceptionTable := #[], attributes := #[] }
def k11m1 : Method := { name := "max", desc := "(II)I", sig := { parameters := [.int, .int], returnType := some .int }, accessFlags := 9, code := some k11c1 }
def k11c2 : Code := { maxStack := 2, maxLocals := 2, code := jdk_29_method_69_code, exceptionTable := #[], attributes := #[] }
def k11m2 : Method := { name := "min", desc := "(II)I", sig := { parameters := [.int, .int], returnType := some .int }, accessFlags := 9, code := some k11c2 }
/-- java/lang/Math -/
def k11 : Class := { plain "java/lang/Math" (some 0) with
  accessFlags := 49
  interfaces := #[]
  cf := some (fileOf pool11 1 #[.nestMembers #[98]] #[{ accessFlags := 2, nameIndex := 7, descriptorIndex := 8, attributes := #[] }, { accessFlags := 9, nameIndex := 198, descriptorIndex := 335, attributes := #[] }, { accessFlags := 9, nameIndex := 201, descriptorIndex := 335, attributes := #[] }] 49 4 #[] #[{ accessFlags := 25, nameIndex := 354, descriptorIndex := 339, attributes := #[] }, { accessFlags := 25, nameIndex := 358, descriptorIndex := 339, attributes := #[] }, { accessFlags := 25, nameIndex := 361, descriptorIndex := 339, attributes := #[] }, { accessFlags := 26, nameIndex := 364, descriptorIndex := 339, attributes := #[] }, { accessFlags := 26, nameIndex := 365, descriptorIndex := 339, attributes := #[] }, { accessFlags := 26, nameIndex := 172, descriptorIndex := 173, attributes := #[] }, { accessFlags := 26, nameIndex := 176, descriptorIndex := 173, attributes := #[] }, { accessFlags := 8, nameIndex := 344, descriptorIndex := 339, attributes := #[] }, { accessFlags := 8, nameIndex := 338, descriptorIndex := 339, attributes := #[] }, { accessFlags := 4120, nameIndex := 245, descriptorIndex := 246, attributes := #[] }])
  fields := #[{ name := "E", type := .double, accessFlags := 25, slot := 0, constantValue := 0 }, { name := "PI", type := .double, accessFlags := 25, slot := 1, constantValue := 0 }, { name := "TAU", type := .double, accessFlags := 25, slot := 2, constantValue := 0 }, { name := "DEGREES_TO_RADIANS", type := .double, accessFlags := 26, slot := 3, constantValue := 0 }, { name := "RADIANS_TO_DEGREES", type := .double, accessFlags := 26, slot := 4, constantValue := 0 }, { name := "negativeZeroFloatBits", type := .long, accessFlags := 26, slot := 5, constantValue := 0 }, { name := "negativeZeroDoubleBits", type := .long, accessFlags := 26, slot := 6, constantValue := 0 }, { name := "twoToTheDoubleScaleUp", type := .double, accessFlags := 8, slot := 7, constantValue := 0 }, { name := "twoToTheDoubleScaleDown", type := .double, accessFlags := 8, slot := 8, constantValue := 0 }, { name := "$assertionsDisabled", type := .boolean, accessFlags := 4120, slot := 9, constantValue := 0 }]
  methods := #[k11m0, k11m1, k11m2]
  instanceTypes := #[]
  staticTypes := #[.double, .double, .double, .double, .double, .long, .long, .double, .double, .boolean]
  resolved := Array.replicate 460 none
  statics := none }

def pool12 : Array CpInfo := pool [(2, .class_ 4), (1, u "java/lang/Object"), (0, u "<init>"), (0, u "()V"), (17, .class_ 26), (1, u "jdk/internal/util/Preconditions"), (6, u "checkIndex"), (13, u "checkFromToIndex"), (7, .class_ 56), (0, u "jdk/internal/util/Preconditions$4"), (57, .class_ 115), (0, u "jdk/internal/util/Preconditions$1"), (7, u "SIOOBE_FORMATTER"), (0, u "Ljava/util/function/BiFunction;"), (0, .class_ 126), (0, u "jdk/internal/util/Preconditions$2"), (3, u "AIOOBE_FORMATTER"), (0, .class_ 132), (0, u "jdk/internal/util/Preconditions$3"), (3, u "IOOBE_FORMATTER"), (41, u "(IILjava/util/function/BiFunction;)I"), (4, u "(IIILjava/util/function/BiFunction;)I")] 10

def k12m0 : Method := { name := "<init>", desc := "()V", sig := { parameters := [], returnType := none }, accessFlags := 1, code := none }
def k12c1 : Code := { maxStack := 3, maxLocals := 3, code := jdk_41_method_11_code, exceptionTable := #[], attributes := #[] }
def k12m1 : Method := { name := "checkIndex", desc := "(IILjava/util/function/BiFunction;)I", sig := { parameters := [.int, .int, (.object "java/util/function/BiFunction")], returnType := some .int }, accessFlags := 9, code := some k12c1 }
def k12c2 : Code := { maxStack := 4, maxLocals := 4, code := jdk_41_method_12_code, exceptionTable := #[], attributes := #[] }
def k12m2 : Method := { name := "checkFromToIndex", desc := "(IIILjava/util/function/BiFunction;)I", sig := { parameters := [.int, .int, .int, (.object "java/util/function/BiFunction")], returnType := some .int }, accessFlags := 9, code := some k12c2 }
/-- jdk/internal/util/Preconditions -/
def k12 : Class := { plain "jdk/internal/util/Preconditions" (some 0) with
  accessFlags := 33
  interfaces := #[]
  cf := some (fileOf pool12 24 #[.nestMembers #[55, 131, 125, 114]] #[{ accessFlags := 1, nameIndex := 5, descriptorIndex := 6, attributes := #[] }, { accessFlags := 9, nameIndex := 33, descriptorIndex := 178, attributes := #[] }, { accessFlags := 9, nameIndex := 47, descriptorIndex := 183, attributes := #[] }] 33 2 #[] #[{ accessFlags := 25, nameIndex := 123, descriptorIndex := 124, attributes := #[] }, { accessFlags := 25, nameIndex := 130, descriptorIndex := 124, attributes := #[] }, { accessFlags := 25, nameIndex := 136, descriptorIndex := 124, attributes := #[] }])
  fields := #[{ name := "SIOOBE_FORMATTER", type := (.object "java/util/function/BiFunction"), accessFlags := 25, slot := 0, constantValue := 0 }, { name := "AIOOBE_FORMATTER", type := (.object "java/util/function/BiFunction"), accessFlags := 25, slot := 1, constantValue := 0 }, { name := "IOOBE_FORMATTER", type := (.object "java/util/function/BiFunction"), accessFlags := 25, slot := 2, constantValue := 0 }]
  methods := #[k12m0, k12m1, k12m2]
  instanceTypes := #[]
  staticTypes := #[(.object "java/util/function/BiFunction"), (.object "java/util/function/BiFunction"), (.object "java/util/function/BiFunction")]
  resolved := Array.replicate 194 none
  statics := some 1 }

def pool13 : Array CpInfo := pool [(6, .class_ 8), (1, u "java/lang/Object"), (0, u "<init>"), (0, u "()V"), (1, .class_ 14), (1, u "java/lang/StringUTF16"), (31, u "$assertionsDisabled"), (0, u "Z"), (13, u "HI_BYTE_SHIFT"), (0, u "I"), (2, u "LO_BYTE_SHIFT"), (49, .methodref 12 116), (0, .nameAndType 117 118), (0, u "compress"), (0, u "([CI[BII)I"), (3, u "([CII)[B"), (138, u "coderFromArrayLen"), (0, u "([BI)B"), (106, .class_ 371), (1, u "java/lang/StringUTF16$LinesSpliterator"), (58, u "MAX_LENGTH"), (196, .class_ 628), (0, u "java/lang/StringUTF16$CodePointsSpliterator"), (0, .class_ 630), (0, u "java/lang/StringUTF16$CharsSpliterator")] 4

def k13m0 : Method := { name := "<init>", desc := "()V", sig := { parameters := [], returnType := none }, accessFlags := 0, code := none }
def k13c1 : Code := { maxStack := 2, maxLocals := 2, code := jdk_52_method_15_code, exceptionTable := #[], attributes := #[] }
def k13m1 : Method := { name := "coderFromArrayLen", desc := "([BI)B", sig := { parameters := [(.array .byte), .int], returnType := some .byte }, accessFlags := 8, code := some k13c1 }
def k13c2 : Code := { maxStack := 5, maxLocals := 6, code := jdk_52_method_16_code, exceptionTable := #[], attributes := #[] }
def k13m2 : Method := { name := "compress", desc := "([CII)[B", sig := { parameters := [(.array .char), .int, .int], returnType := some (.array .byte) }, accessFlags := 9, code := some k13c2 }
def k13c3 : Code := { maxStack := 3, maxLocals := 7, code := jdk_52_method_21_code, exceptionTable := #[], attributes := #[] }
def k13m3 : Method := { name := "compress", desc := "([CI[BII)I", sig := { parameters := [(.array .char), .int, (.array .byte), .int, .int], returnType := some .int }, accessFlags := 9, code := some k13c3 }
/-- java/lang/StringUTF16 -/
def k13 : Class := { plain "java/lang/StringUTF16" (some 0) with
  accessFlags := 48
  interfaces := #[]
  cf := some (fileOf pool13 12 #[.nestMembers #[627, 629, 369]] #[{ accessFlags := 0, nameIndex := 9, descriptorIndex := 10, attributes := #[] }, { accessFlags := 8, nameIndex := 261, descriptorIndex := 262, attributes := #[] }, { accessFlags := 9, nameIndex := 117, descriptorIndex := 122, attributes := #[] }, { accessFlags := 9, nameIndex := 117, descriptorIndex := 118, attributes := #[] }] 48 6 #[] #[{ accessFlags := 26, nameIndex := 61, descriptorIndex := 62, attributes := #[] }, { accessFlags := 26, nameIndex := 65, descriptorIndex := 62, attributes := #[] }, { accessFlags := 24, nameIndex := 430, descriptorIndex := 62, attributes := #[] }, { accessFlags := 4120, nameIndex := 46, descriptorIndex := 47, attributes := #[] }])
  fields := #[{ name := "HI_BYTE_SHIFT", type := .int, accessFlags := 26, slot := 0, constantValue := 0 }, { name := "LO_BYTE_SHIFT", type := .int, accessFlags := 26, slot := 1, constantValue := 0 }, { name := "MAX_LENGTH", type := .int, accessFlags := 24, slot := 2, constantValue := 0 }, { name := "$assertionsDisabled", type := .boolean, accessFlags := 4120, slot := 3, constantValue := 0 }]
  methods := #[k13m0, k13m1, k13m2, k13m3]
  instanceTypes := #[]
  staticTypes := #[.int, .int, .int, .boolean]
  resolved := Array.replicate 635 none
  statics := none }

def pool14 : Array CpInfo := pool [(2, .class_ 4), (1, u "java/lang/Object"), (0, u "<init>"), (0, u "()V"), (7, .class_ 16), (1, u "java/util/Arrays"), (57, .class_ 76), (1, u "java/util/Arrays$NaturalOrder"), (36, .class_ 115), (1, u "java/util/Arrays$LegacyMergeSort"), (1, u "Z"), (21, u "copyOfRange"), (10, .methodref 151 152), (0, .class_ 153), (0, .nameAndType 154 155), (0, u "java/lang/System"), (0, u "arraycopy"), (0, u "(Ljava/lang/Object;ILjava/lang/Object;II)V"), (148, .methodref 305 306), (0, .class_ 307), (0, .nameAndType 308 309), (0, u "java/lang/Math"), (0, u "min"), (0, u "(II)I"), (29, .methodref 14 340), (0, .nameAndType 341 342), (0, u "copyOfRangeByte"), (0, u "([BII)[B"), (0, .methodref 14 344), (0, .nameAndType 345 346), (0, u "checkLength"), (0, u "(II)V"), (28, .class_ 376), (0, u "java/util/Arrays$ArrayList"), (68, u "$assertionsDisabled"), (269, u "MIN_ARRAY_SORT_GRAN"), (0, u "I"), (2, u "INSERTIONSORT_THRESHOLD"), (255, .class_ 976), (0, u "java/util/Arrays$ArrayItr")] 52

def k14m0 : Method := { name := "<init>", desc := "()V", sig := { parameters := [], returnType := none }, accessFlags := 2, code := none }
def k14c1 : Code := { maxStack := 4, maxLocals := 2, code := jdk_65_method_131_code, exceptionTable := #[], attributes := #[] }
def k14m1 : Method := { name := "checkLength", desc := "(II)V", sig := { parameters := [.int, .int], returnType := none }, accessFlags := 10, code := some k14c1 }
def k14c2 : Code := { maxStack := 3, maxLocals := 3, code := jdk_65_method_132_code, exceptionTable := #[], attributes := #[] }
def k14m2 : Method := { name := "copyOfRange", desc := "([BII)[B", sig := { parameters := [(.array .byte), .int, .int], returnType := some (.array .byte) }, accessFlags := 9, code := some k14c2 }
def k14c3 : Code := { maxStack := 6, maxLocals := 5, code := jdk_65_method_133_code, exceptionTable := #[], attributes := #[] }
def k14m3 : Method := { name := "copyOfRangeByte", desc := "([BII)[B", sig := { parameters := [(.array .byte), .int, .int], returnType := some (.array .byte) }, accessFlags := 10, code := some k14c3 }
/-- java/util/Arrays -/
def k14 : Class := { plain "java/util/Arrays" (some 0) with
  accessFlags := 49
  interfaces := #[]
  cf := some (fileOf pool14 14 #[.nestMembers #[975, 375, 113, 74]] #[{ accessFlags := 2, nameIndex := 5, descriptorIndex := 6, attributes := #[] }, { accessFlags := 10, nameIndex := 345, descriptorIndex := 346, attributes := #[] }, { accessFlags := 9, nameIndex := 139, descriptorIndex := 342, attributes := #[] }, { accessFlags := 10, nameIndex := 341, descriptorIndex := 342, attributes := #[] }] 49 2 #[] #[{ accessFlags := 26, nameIndex := 715, descriptorIndex := 716, attributes := #[] }, { accessFlags := 26, nameIndex := 719, descriptorIndex := 716, attributes := #[] }, { accessFlags := 4120, nameIndex := 445, descriptorIndex := 117, attributes := #[] }])
  fields := #[{ name := "MIN_ARRAY_SORT_GRAN", type := .int, accessFlags := 26, slot := 0, constantValue := 0 }, { name := "INSERTIONSORT_THRESHOLD", type := .int, accessFlags := 26, slot := 1, constantValue := 0 }, { name := "$assertionsDisabled", type := .boolean, accessFlags := 4120, slot := 2, constantValue := 0 }]
  methods := #[k14m0, k14m1, k14m2, k14m3]
  instanceTypes := #[]
  staticTypes := #[.int, .int, .boolean]
  resolved := Array.replicate 1029 none
  statics := none }

def pool15 : Array CpInfo := pool [(2, .class_ 4), (1, u "java/lang/Object"), (0, u "<init>"), (0, u "()V"), (1, .class_ 10), (1, u "java/lang/System"), (0, u "allowSecurityManager"), (0, u "I"), (16, u "cons"), (0, u "Ljava/io/Console;"), (77, .class_ 110), (1, u "java/lang/System$CallersHolder"), (43, u "initialErrStream"), (0, u "Ljava/io/PrintStream;"), (19, u "security"), (0, u "Ljava/lang/SecurityManager;"), (31, .class_ 209), (0, u "java/lang/System$1"), (7, u "props"), (0, u "Ljava/util/Properties;"), (2, u "lineSeparator"), (0, u "Ljava/lang/String;"), (96, .class_ 321), (1, u "java/lang/System$LoggerFinder"), (5, .class_ 328), (0, u "java/lang/System$Logger"), (67, u "err"), (2, u "out"), (91, u "notSupportedJnuEncoding"), (15, u "in"), (17, u "initialIn"), (0, u "Ljava/io/InputStream;"), (35, u "bootLayer"), (0, u "Ljava/lang/ModuleLayer;"), (99, .class_ 664), (0, u "java/lang/System$2"), (9, u "NEVER"), (2, u "MAYBE"), (49, u "arraycopy"), (0, u "(Ljava/lang/Object;ILjava/lang/Object;II)V"), (72, .class_ 802), (0, u "java/lang/System$Logger$Level")] 31

def k15m0 : Method := { name := "<init>", desc := "()V", sig := { parameters := [], returnType := none }, accessFlags := 2, code := none }
def k15m1 : Method := { name := "arraycopy", desc := "(Ljava/lang/Object;ILjava/lang/Object;II)V", sig := { parameters := [(.object "java/lang/Object"), .int, (.object "java/lang/Object"), .int, .int], returnType := none }, accessFlags := 265, code := none }
/-- java/lang/System -/
def k15 : Class := { plain "java/lang/System" (some 0) with
  accessFlags := 49
  interfaces := #[]
  cf := some (fileOf pool15 8 #[.nestMembers #[319, 327, 801, 108, 663, 208]] #[{ accessFlags := 2, nameIndex := 5, descriptorIndex := 6, attributes := #[] }, { accessFlags := 265, nameIndex := 727, descriptorIndex := 728, attributes := #[] }] 49 2 #[] #[{ accessFlags := 25, nameIndex := 507, descriptorIndex := 526, attributes := #[] }, { accessFlags := 25, nameIndex := 399, descriptorIndex := 155, attributes := #[] }, { accessFlags := 25, nameIndex := 396, descriptorIndex := 155, attributes := #[] }, { accessFlags := 10, nameIndex := 525, descriptorIndex := 526, attributes := #[] }, { accessFlags := 26, nameIndex := 674, descriptorIndex := 12, attributes := #[] }, { accessFlags := 26, nameIndex := 677, descriptorIndex := 12, attributes := #[] }, { accessFlags := 10, nameIndex := 11, descriptorIndex := 12, attributes := #[] }, { accessFlags := 74, nameIndex := 175, descriptorIndex := 176, attributes := #[] }, { accessFlags := 10, nameIndex := 491, descriptorIndex := 222, attributes := #[] }, { accessFlags := 74, nameIndex := 29, descriptorIndex := 30, attributes := #[] }, { accessFlags := 74, nameIndex := 154, descriptorIndex := 155, attributes := #[] }, { accessFlags := 10, nameIndex := 217, descriptorIndex := 218, attributes := #[] }, { accessFlags := 10, nameIndex := 221, descriptorIndex := 222, attributes := #[] }, { accessFlags := 8, nameIndex := 562, descriptorIndex := 563, attributes := #[] }])
  fields := #[{ name := "in", type := (.object "java/io/InputStream"), accessFlags := 25, slot := 0, constantValue := 0 }, { name := "out", type := (.object "java/io/PrintStream"), accessFlags := 25, slot := 1, constantValue := 0 }, { name := "err", type := (.object "java/io/PrintStream"), accessFlags := 25, slot := 2, constantValue := 0 }, { name := "initialIn", type := (.object "java/io/InputStream"), accessFlags := 10, slot := 3, constantValue := 0 }, { name := "NEVER", type := .int, accessFlags := 26, slot := 4, constantValue := 0 }, { name := "MAYBE", type := .int, accessFlags := 26, slot := 5, constantValue := 0 }, { name := "allowSecurityManager", type := .int, accessFlags := 10, slot := 6, constantValue := 0 }, { name := "security", type := (.object "java/lang/SecurityManager"), accessFlags := 74, slot := 7, constantValue := 0 }, { name := "notSupportedJnuEncoding", type := (.object "java/lang/String"), accessFlags := 10, slot := 8, constantValue := 0 }, { name := "cons", type := (.object "java/io/Console"), accessFlags := 74, slot := 9, constantValue := 0 }, { name := "initialErrStream", type := (.object "java/io/PrintStream"), accessFlags := 74, slot := 10, constantValue := 0 }, { name := "props", type := (.object "java/util/Properties"), accessFlags := 10, slot := 11, constantValue := 0 }, { name := "lineSeparator", type := (.object "java/lang/String"), accessFlags := 10, slot := 12, constantValue := 0 }, { name := "bootLayer", type := (.object "java/lang/ModuleLayer"), accessFlags := 8, slot := 13, constantValue := 0 }]
  methods := #[k15m0, k15m1]
  instanceTypes := #[]
  staticTypes := #[(.object "java/io/InputStream"), (.object "java/io/PrintStream"), (.object "java/io/PrintStream"), (.object "java/io/InputStream"), .int, .int, .int, (.object "java/lang/SecurityManager"), (.object "java/lang/String"), (.object "java/io/Console"), (.object "java/io/PrintStream"), (.object "java/util/Properties"), (.object "java/lang/String"), (.object "java/lang/ModuleLayer")]
  resolved := Array.replicate 834 none
  statics := none }

def pool16 : Array CpInfo := pool [(9, u "<init>"), (6, .class_ 18), (1, u "java/lang/Object"), (0, u "()V"), (1, .class_ 23), (1, u "jdk/internal/util/ArraysSupport"), (0, u "LOG2_ARRAY_LONG_INDEX_SCALE"), (0, u "I"), (2, u "U"), (0, u "Ljdk/internal/misc/Unsafe;"), (8, u "BIG_ENDIAN"), (0, u "Z"), (8, u "LOG2_BYTE_BIT_SIZE"), (4, u "LOG2_ARRAY_INT_INDEX_SCALE"), (54, u "JLA"), (0, u "Ljdk/internal/access/JavaLangAccess;"), (11, u "LOG2_ARRAY_BOOLEAN_INDEX_SCALE"), (9, u "LOG2_ARRAY_BYTE_INDEX_SCALE"), (5, u "LOG2_ARRAY_CHAR_INDEX_SCALE"), (5, u "LOG2_ARRAY_SHORT_INDEX_SCALE"), (18, u "LOG2_ARRAY_FLOAT_INDEX_SCALE"), (24, u "LOG2_ARRAY_DOUBLE_INDEX_SCALE"), (89, u "T_BOOLEAN"), (2, u "T_CHAR"), (1, u "T_FLOAT"), (1, u "T_DOUBLE"), (1, u "T_BYTE"), (1, u "T_SHORT"), (1, u "T_INT"), (1, u "T_LONG"), (1, u "SOFT_MAX_ARRAY_LENGTH")] 83

def k16m0 : Method := { name := "<init>", desc := "()V", sig := { parameters := [], returnType := none }, accessFlags := 2, code := none }
/-- jdk/internal/util/ArraysSupport -/
def k16 : Class := { plain "jdk/internal/util/ArraysSupport" (some 0) with
  accessFlags := 33
  interfaces := #[]
  cf := some (fileOf pool16 21 #[] #[{ accessFlags := 2, nameIndex := 9, descriptorIndex := 19, attributes := #[] }] 33 16 #[] #[{ accessFlags := 24, nameIndex := 28, descriptorIndex := 29, attributes := #[] }, { accessFlags := 26, nameIndex := 38, descriptorIndex := 39, attributes := #[] }, { accessFlags := 25, nameIndex := 121, descriptorIndex := 25, attributes := #[] }, { accessFlags := 25, nameIndex := 131, descriptorIndex := 25, attributes := #[] }, { accessFlags := 25, nameIndex := 137, descriptorIndex := 25, attributes := #[] }, { accessFlags := 25, nameIndex := 143, descriptorIndex := 25, attributes := #[] }, { accessFlags := 25, nameIndex := 53, descriptorIndex := 25, attributes := #[] }, { accessFlags := 25, nameIndex := 24, descriptorIndex := 25, attributes := #[] }, { accessFlags := 25, nameIndex := 162, descriptorIndex := 25, attributes := #[] }, { accessFlags := 25, nameIndex := 187, descriptorIndex := 25, attributes := #[] }, { accessFlags := 26, nameIndex := 48, descriptorIndex := 25, attributes := #[] }, { accessFlags := 25, nameIndex := 277, descriptorIndex := 25, attributes := #[] }, { accessFlags := 25, nameIndex := 280, descriptorIndex := 25, attributes := #[] }, { accessFlags := 25, nameIndex := 282, descriptorIndex := 25, attributes := #[] }, { accessFlags := 25, nameIndex := 284, descriptorIndex := 25, attributes := #[] }, { accessFlags := 25, nameIndex := 286, descriptorIndex := 25, attributes := #[] }, { accessFlags := 25, nameIndex := 288, descriptorIndex := 25, attributes := #[] }, { accessFlags := 25, nameIndex := 290, descriptorIndex := 25, attributes := #[] }, { accessFlags := 25, nameIndex := 292, descriptorIndex := 25, attributes := #[] }, { accessFlags := 26, nameIndex := 108, descriptorIndex := 109, attributes := #[] }, { accessFlags := 25, nameIndex := 294, descriptorIndex := 25, attributes := #[] }])
  fields := #[{ name := "U", type := (.object "jdk/internal/misc/Unsafe"), accessFlags := 24, slot := 0, constantValue := 0 }, { name := "BIG_ENDIAN", type := .boolean, accessFlags := 26, slot := 1, constantValue := 0 }, { name := "LOG2_ARRAY_BOOLEAN_INDEX_SCALE", type := .int, accessFlags := 25, slot := 2, constantValue := 0 }, { name := "LOG2_ARRAY_BYTE_INDEX_SCALE", type := .int, accessFlags := 25, slot := 3, constantValue := 0 }, { name := "LOG2_ARRAY_CHAR_INDEX_SCALE", type := .int, accessFlags := 25, slot := 4, constantValue := 0 }, { name := "LOG2_ARRAY_SHORT_INDEX_SCALE", type := .int, accessFlags := 25, slot := 5, constantValue := 0 }, { name := "LOG2_ARRAY_INT_INDEX_SCALE", type := .int, accessFlags := 25, slot := 6, constantValue := 0 }, { name := "LOG2_ARRAY_LONG_INDEX_SCALE", type := .int, accessFlags := 25, slot := 7, constantValue := 0 }, { name := "LOG2_ARRAY_FLOAT_INDEX_SCALE", type := .int, accessFlags := 25, slot := 8, constantValue := 0 }, { name := "LOG2_ARRAY_DOUBLE_INDEX_SCALE", type := .int, accessFlags := 25, slot := 9, constantValue := 0 }, { name := "LOG2_BYTE_BIT_SIZE", type := .int, accessFlags := 26, slot := 10, constantValue := 0 }, { name := "T_BOOLEAN", type := .int, accessFlags := 25, slot := 11, constantValue := 0 }, { name := "T_CHAR", type := .int, accessFlags := 25, slot := 12, constantValue := 0 }, { name := "T_FLOAT", type := .int, accessFlags := 25, slot := 13, constantValue := 0 }, { name := "T_DOUBLE", type := .int, accessFlags := 25, slot := 14, constantValue := 0 }, { name := "T_BYTE", type := .int, accessFlags := 25, slot := 15, constantValue := 0 }, { name := "T_SHORT", type := .int, accessFlags := 25, slot := 16, constantValue := 0 }, { name := "T_INT", type := .int, accessFlags := 25, slot := 17, constantValue := 0 }, { name := "T_LONG", type := .int, accessFlags := 25, slot := 18, constantValue := 0 }, { name := "JLA", type := (.object "jdk/internal/access/JavaLangAccess"), accessFlags := 26, slot := 19, constantValue := 0 }, { name := "SOFT_MAX_ARRAY_LENGTH", type := .int, accessFlags := 25, slot := 20, constantValue := 0 }]
  methods := #[k16m0]
  instanceTypes := #[]
  staticTypes := #[(.object "jdk/internal/misc/Unsafe"), .boolean, .int, .int, .int, .int, .int, .int, .int, .int, .int, .int, .int, .int, .int, .int, .int, .int, .int, (.object "jdk/internal/access/JavaLangAccess"), .int]
  resolved := Array.replicate 378 none
  statics := none }

def pool17 : Array CpInfo := pool [(1, u "java/lang/Cloneable"), (0, .class_ 1), (0, u "java/lang/Object"), (0, .class_ 3)] 3

/-- java/lang/Cloneable -/
def k17 : Class := { plain "java/lang/Cloneable" (some 0) with
  accessFlags := 1537
  interfaces := #[]
  cf := some (fileOf pool17 2 #[] #[] 1537 4 #[] #[])
  fields := #[]
  methods := #[]
  instanceTypes := #[]
  staticTypes := #[]
  resolved := Array.replicate 8 none
  statics := none }

/-- the primitive byte -/
def k18 : Class := { plain "byte" none with kind := .primitive 'B', accessFlags := 0x411 }
/-- [B -/
def k19 : Class := { plain "[B" (some 0) with kind := .array 18 .byte, interfaces := #[17, 2], accessFlags := 1041 }

/-- the primitive char -/
def k20 : Class := { plain "char" none with kind := .primitive 'C', accessFlags := 0x411 }
/-- [C -/
def k21 : Class := { plain "[C" (some 0) with kind := .array 20 .char, interfaces := #[17, 2], accessFlags := 1041 }

/-- the primitive int -/
def k22 : Class := { plain "int" none with kind := .primitive 'I', accessFlags := 0x411 }
/-- [I -/
def k23 : Class := { plain "[I" (some 0) with kind := .array 22 .int, interfaces := #[17, 2], accessFlags := 1041 }

def heap : Heap := #[{ cls := 7, slots := #[.long 0, .int 1, .null, .int 0, .null, .int 0, .int 0], vm := .statics 7 },
  { cls := 12, slots := #[.null, .null, .null], vm := .statics 12 }]
def classes : Array Class := #[k0, k1, k2, k3, k4, k5, k6, k7, k8, k9, k10, k11, k12, k13, k14, k15, k16, k17, k18, k19, k20, k21, k22, k23]
def interned : List (Array UInt16 × Addr) := []
def slotsUsed : Nat := 10
def theMethod : MethodId := ⟨1, 3⟩
def args0 : Array Value := #[.int 3, .int 5, .int 300, .int 7, .int 9]
def aboutOver (below : List Frame) : State where
  vm := { classes := classes, interned := interned.toArray }
  heap := heap
  slotsUsed := slotsUsed
  threads := #[{ frames := .invoking theMethod args0 :: below }]
def below0 : List Frame := [.native { method := ⟨0, 0⟩, args := #[] }]
def about1 : State := aboutOver below0
def p0 : Program := .bare "" "" ""
def e0 : Env := launch0.env 0 0 0
theorem w_frames : about1.frames = Frame.invoking theMethod args0 :: below0 := rfl
set_option maxRecDepth 65536 in
theorem w_args : argsFit about1.vm theMethod args0 = true := by decide +kernel
set_option maxRecDepth 65536 in
theorem w_heap : heapFits about1 = true := by decide +kernel
set_option maxRecDepth 65536 in
theorem w_runnable : about1.curStatus? = some .runnable := by decide +kernel
set_option maxRecDepth 65536 in
theorem w_alone : about1.alone = true := by decide +kernel
set_option maxRecDepth 65536 in
theorem w_named : about1.methodNamed? x = some theMethod := by decide +kernel
set_option maxRecDepth 65536 in
theorem w_hears : about1.hears theMethod below0 = true := by decide +kernel
set_option maxRecDepth 65536 in
theorem w_ripe : about1.ripe theMethod args0 below0 = true := by decide +kernel
theorem w_running : about1.status = .running := rfl
set_option maxRecDepth 65536 in
theorem w_room : about1.hasRoom e0.platform room_1 = true :=
  launch0.hasRoom_least _ room_1 (by decide +kernel) (by decide +kernel) (by decide +kernel) (by decide +kernel) (by decide +kernel) (by decide +kernel)
theorem allAtoms_all (ts : List Jvm.Cond) (a : Array Jvm.Value) (st : Jvm.State) : (allAtoms ts).before a st = ts.all (fun c => c.before a st) := by
  induction ts with
  | nil => rfl
  | cons c t ih =>
    show (Jvm.Cond.and c (allAtoms t)).before a st = _
    rw [Jvm.Cond.before_and, ih, List.all_cons]
def words1 : List Jvm.Cond := Jvm.Cond.code x code maxLocals ret :: tables_1
/-- a 'code' word, met by the world's own term for the bytes: nothing is compared byte by byte -/
theorem code_word {y : MethodName} {bytes : ByteArray} {mx : Nat} {rt : Option FieldType} {a : Array Value} {s : State} {m : MethodId} {meth : Method} {c : Code} (h1 : s.methodNamed? y = some m) (h2 : s.vm.method? m = some meth) (h3 : meth.code = some c) (h4 : c.code = bytes)
    (h5 : (c.maxLocals == mx && c.exceptionTable.isEmpty && decide (c.maxStack ≤ mostOperands) && decide (meth.sig.returnType = rt) && !meth.locks && decide (parseMethodDescriptor y.desc = some meth.sig)) = true) : (Jvm.Cond.code y bytes mx rt).before a s = true := by
  simp only [Bool.and_eq_true, beq_iff_eq, Bool.not_eq_true', decide_eq_true_eq] at h5
  obtain ⟨⟨⟨⟨⟨g1, g2⟩, g3⟩, g4⟩, g5⟩, g6⟩ := h5
  simp [Cond.before, Cond.holds, Cond.value, h1, h2, h3, h4, g1, g2, g3, g4, g5, g6]
def isCode : Jvm.Cond → Bool
  | .code _ _ _ _ => true
  | _ => false
theorem all_split {L : List Jvm.Cond} {P : Jvm.Cond → Bool} (h1 : L.all (fun c => isCode c || P c) = true) (h2 : ∀ c ∈ L.filter isCode, P c = true) : L.all P = true := by
  refine List.all_eq_true.mpr fun c hc => ?_
  have h := List.all_eq_true.mp h1 c hc
  rcases Bool.eq_false_or_eq_true (isCode c) with hi | hi
  · exact h2 c (List.mem_filter.mpr ⟨hc, hi⟩)
  · simpa [hi] using h
set_option maxRecDepth 65536 in
theorem w_c0 : (Jvm.Cond.code x code maxLocals ret).before args0 about1 = true := code_word (m := ⟨1, 3⟩) (meth := k1m3) (c := k1c3) (by decide +kernel) rfl rfl rfl (by decide +kernel)
set_option maxRecDepth 65536 in
theorem w_c1 : (Jvm.Cond.code ({ cls := "com/example/kartoteka/kartoteka/FieldIndicatorsPinLaw", name := "ch", desc := "(I)C" } : Jvm.MethodName) method_2_code (1 : Nat) (Option.some Jvm.ClassFile.FieldType.char)).before args0 about1 = true := code_word (m := ⟨1, 1⟩) (meth := k1m1) (c := k1c1) (by decide +kernel) rfl rfl rfl (by decide +kernel)
set_option maxRecDepth 65536 in
theorem w_c2 : (Jvm.Cond.code ({ cls := "com/example/kartoteka/kartoteka/FieldIndicatorsPinLaw", name := "make", desc := "(ICCCC)Ljava/lang/String;" } : Jvm.MethodName) method_3_code (5 : Nat) (Option.some (Jvm.ClassFile.FieldType.object "java/lang/String"))).before args0 about1 = true := code_word (m := ⟨1, 2⟩) (meth := k1m2) (c := k1c2) (by decide +kernel) rfl rfl rfl (by decide +kernel)
set_option maxRecDepth 65536 in
theorem w_c3 : (Jvm.Cond.code ({ cls := "java/lang/String", name := "<init>", desc := "([C)V" } : Jvm.MethodName) jdk_42_method_3_code (2 : Nat) (Option.none : Option Jvm.ClassFile.FieldType)).before args0 about1 = true := code_word (m := ⟨7, 1⟩) (meth := k7m1) (c := k7c1) (by decide +kernel) rfl rfl rfl (by decide +kernel)
set_option maxRecDepth 65536 in
theorem w_c4 : (Jvm.Cond.code ({ cls := "java/lang/String", name := "<init>", desc := "([CIILjava/lang/Void;)V" } : Jvm.MethodName) jdk_42_method_149_code (6 : Nat) (Option.none : Option Jvm.ClassFile.FieldType)).before args0 about1 = true := code_word (m := ⟨7, 7⟩) (meth := k7m7) (c := k7c7) (by decide +kernel) rfl rfl rfl (by decide +kernel)
set_option maxRecDepth 65536 in
theorem w_c5 : (Jvm.Cond.code ({ cls := "java/lang/Object", name := "<init>", desc := "()V" } : Jvm.MethodName) object_method_1_code (1 : Nat) (Option.none : Option Jvm.ClassFile.FieldType)).before args0 about1 = true := code_word (m := ⟨0, 0⟩) (meth := k0m0) (c := k0c0) (by decide +kernel) rfl rfl rfl (by decide +kernel)
set_option maxRecDepth 65536 in
theorem w_c6 : (Jvm.Cond.code ({ cls := "com/example/kartoteka/kartoteka/Field", name := "<init>", desc := "(Ljava/lang/String;Ljava/lang/String;)V" } : Jvm.MethodName) prog_10_method_1_code (3 : Nat) (Option.none : Option Jvm.ClassFile.FieldType)).before args0 about1 = true := code_word (m := ⟨9, 0⟩) (meth := k9m0) (c := k9c0) (by decide +kernel) rfl rfl rfl (by decide +kernel)
set_option maxRecDepth 65536 in
theorem w_c7 : (Jvm.Cond.code ({ cls := "java/lang/Record", name := "<init>", desc := "()V" } : Jvm.MethodName) jdk_30_method_1_code (1 : Nat) (Option.none : Option Jvm.ClassFile.FieldType)).before args0 about1 = true := code_word (m := ⟨8, 0⟩) (meth := k8m0) (c := k8c0) (by decide +kernel) rfl rfl rfl (by decide +kernel)
set_option maxRecDepth 65536 in
theorem w_c8 : (Jvm.Cond.code ({ cls := "com/example/kartoteka/kartoteka/Field", name := "indicators", desc := "()Ljava/lang/String;" } : Jvm.MethodName) prog_10_method_3_code (2 : Nat) (Option.some (Jvm.ClassFile.FieldType.object "java/lang/String"))).before args0 about1 = true := code_word (m := ⟨9, 1⟩) (meth := k9m1) (c := k9c1) (by decide +kernel) rfl rfl rfl (by decide +kernel)
set_option maxRecDepth 65536 in
theorem w_c9 : (Jvm.Cond.code ({ cls := "java/lang/String", name := "indexOf", desc := "(I)I" } : Jvm.MethodName) jdk_42_method_79_code (2 : Nat) (Option.some Jvm.ClassFile.FieldType.int)).before args0 about1 = true := code_word (m := ⟨7, 4⟩) (meth := k7m4) (c := k7c4) (by decide +kernel) rfl rfl rfl (by decide +kernel)
set_option maxRecDepth 65536 in
theorem w_c10 : (Jvm.Cond.code ({ cls := "java/lang/String", name := "indexOf", desc := "(II)I" } : Jvm.MethodName) jdk_42_method_80_code (3 : Nat) (Option.some Jvm.ClassFile.FieldType.int)).before args0 about1 = true := code_word (m := ⟨7, 5⟩) (meth := k7m5) (c := k7c5) (by decide +kernel) rfl rfl rfl (by decide +kernel)
set_option maxRecDepth 65536 in
theorem w_c11 : (Jvm.Cond.code ({ cls := "java/lang/String", name := "isLatin1", desc := "()Z" } : Jvm.MethodName) jdk_42_method_154_code (1 : Nat) (Option.some Jvm.ClassFile.FieldType.boolean)).before args0 about1 = true := code_word (m := ⟨7, 10⟩) (meth := k7m10) (c := k7c10) (by decide +kernel) rfl rfl rfl (by decide +kernel)
set_option maxRecDepth 65536 in
theorem w_c12 : (Jvm.Cond.code ({ cls := "java/lang/String", name := "length", desc := "()I" } : Jvm.MethodName) jdk_42_method_54_code (1 : Nat) (Option.some Jvm.ClassFile.FieldType.int)).before args0 about1 = true := code_word (m := ⟨7, 2⟩) (meth := k7m2) (c := k7c2) (by decide +kernel) rfl rfl rfl (by decide +kernel)
set_option maxRecDepth 65536 in
theorem w_c13 : (Jvm.Cond.code ({ cls := "java/lang/String", name := "coder", desc := "()B" } : Jvm.MethodName) jdk_42_method_152_code (1 : Nat) (Option.some Jvm.ClassFile.FieldType.byte)).before args0 about1 = true := code_word (m := ⟨7, 9⟩) (meth := k7m9) (c := k7c9) (by decide +kernel) rfl rfl rfl (by decide +kernel)
set_option maxRecDepth 65536 in
theorem w_c14 : (Jvm.Cond.code ({ cls := "java/lang/StringLatin1", name := "indexOf", desc := "([BIII)I" } : Jvm.MethodName) jdk_43_method_22_code (4 : Nat) (Option.some Jvm.ClassFile.FieldType.int)).before args0 about1 = true := code_word (m := ⟨10, 3⟩) (meth := k10m3) (c := k10c3) (by decide +kernel) rfl rfl rfl (by decide +kernel)
set_option maxRecDepth 65536 in
theorem w_c15 : (Jvm.Cond.code ({ cls := "java/lang/StringLatin1", name := "canEncode", desc := "(I)Z" } : Jvm.MethodName) jdk_43_method_4_code (1 : Nat) (Option.some Jvm.ClassFile.FieldType.boolean)).before args0 about1 = true := code_word (m := ⟨10, 2⟩) (meth := k10m2) (c := k10c2) (by decide +kernel) rfl rfl rfl (by decide +kernel)
set_option maxRecDepth 65536 in
theorem w_c16 : (Jvm.Cond.code ({ cls := "java/lang/Math", name := "max", desc := "(II)I" } : Jvm.MethodName) jdk_29_method_65_code (2 : Nat) (Option.some Jvm.ClassFile.FieldType.int)).before args0 about1 = true := code_word (m := ⟨11, 1⟩) (meth := k11m1) (c := k11c1) (by decide +kernel) rfl rfl rfl (by decide +kernel)
set_option maxRecDepth 65536 in
theorem w_c17 : (Jvm.Cond.code ({ cls := "java/lang/Math", name := "min", desc := "(II)I" } : Jvm.MethodName) jdk_29_method_69_code (2 : Nat) (Option.some Jvm.ClassFile.FieldType.int)).before args0 about1 = true := code_word (m := ⟨11, 2⟩) (meth := k11m2) (c := k11c2) (by decide +kernel) rfl rfl rfl (by decide +kernel)
set_option maxRecDepth 65536 in
theorem w_c18 : (Jvm.Cond.code ({ cls := "java/lang/String", name := "substring", desc := "(II)Ljava/lang/String;" } : Jvm.MethodName) jdk_42_method_92_code (5 : Nat) (Option.some (Jvm.ClassFile.FieldType.object "java/lang/String"))).before args0 about1 = true := code_word (m := ⟨7, 6⟩) (meth := k7m6) (c := k7c6) (by decide +kernel) rfl rfl rfl (by decide +kernel)
set_option maxRecDepth 65536 in
theorem w_c19 : (Jvm.Cond.code ({ cls := "java/lang/String", name := "checkBoundsBeginEnd", desc := "(III)V" } : Jvm.MethodName) jdk_42_method_158_code (3 : Nat) (Option.none : Option Jvm.ClassFile.FieldType)).before args0 about1 = true := code_word (m := ⟨7, 12⟩) (meth := k7m12) (c := k7c12) (by decide +kernel) rfl rfl rfl (by decide +kernel)
set_option maxRecDepth 65536 in
theorem w_c20 : (Jvm.Cond.code ({ cls := "jdk/internal/util/Preconditions", name := "checkFromToIndex", desc := "(IIILjava/util/function/BiFunction;)I" } : Jvm.MethodName) jdk_41_method_12_code (4 : Nat) (Option.some Jvm.ClassFile.FieldType.int)).before args0 about1 = true := code_word (m := ⟨12, 2⟩) (meth := k12m2) (c := k12c2) (by decide +kernel) rfl rfl rfl (by decide +kernel)
set_option maxRecDepth 65536 in
theorem w_c21 : (Jvm.Cond.code ({ cls := "java/lang/StringUTF16", name := "compress", desc := "([CII)[B" } : Jvm.MethodName) jdk_52_method_16_code (6 : Nat) (Option.some (Jvm.ClassFile.FieldType.array Jvm.ClassFile.FieldType.byte))).before args0 about1 = true := code_word (m := ⟨13, 2⟩) (meth := k13m2) (c := k13c2) (by decide +kernel) rfl rfl rfl (by decide +kernel)
set_option maxRecDepth 65536 in
theorem w_c22 : (Jvm.Cond.code ({ cls := "java/lang/StringUTF16", name := "compress", desc := "([CI[BII)I" } : Jvm.MethodName) jdk_52_method_21_code (7 : Nat) (Option.some Jvm.ClassFile.FieldType.int)).before args0 about1 = true := code_word (m := ⟨13, 3⟩) (meth := k13m3) (c := k13c3) (by decide +kernel) rfl rfl rfl (by decide +kernel)
set_option maxRecDepth 65536 in
theorem w_c23 : (Jvm.Cond.code ({ cls := "java/lang/StringUTF16", name := "coderFromArrayLen", desc := "([BI)B" } : Jvm.MethodName) jdk_52_method_15_code (2 : Nat) (Option.some Jvm.ClassFile.FieldType.byte)).before args0 about1 = true := code_word (m := ⟨13, 1⟩) (meth := k13m1) (c := k13c1) (by decide +kernel) rfl rfl rfl (by decide +kernel)
set_option maxRecDepth 65536 in
theorem w_c24 : (Jvm.Cond.code ({ cls := "java/lang/StringLatin1", name := "indexOfChar", desc := "([BIII)I" } : Jvm.MethodName) jdk_43_method_23_code (6 : Nat) (Option.some Jvm.ClassFile.FieldType.int)).before args0 about1 = true := code_word (m := ⟨10, 4⟩) (meth := k10m4) (c := k10c4) (by decide +kernel) rfl rfl rfl (by decide +kernel)
set_option maxRecDepth 65536 in
theorem w_c25 : (Jvm.Cond.code ({ cls := "java/lang/StringLatin1", name := "newString", desc := "([BII)Ljava/lang/String;" } : Jvm.MethodName) jdk_43_method_47_code (3 : Nat) (Option.some (Jvm.ClassFile.FieldType.object "java/lang/String"))).before args0 about1 = true := code_word (m := ⟨10, 5⟩) (meth := k10m5) (c := k10c5) (by decide +kernel) rfl rfl rfl (by decide +kernel)
set_option maxRecDepth 65536 in
theorem w_c26 : (Jvm.Cond.code ({ cls := "java/lang/String", name := "charAt", desc := "(I)C" } : Jvm.MethodName) jdk_42_method_56_code (2 : Nat) (Option.some Jvm.ClassFile.FieldType.char)).before args0 about1 = true := code_word (m := ⟨7, 3⟩) (meth := k7m3) (c := k7c3) (by decide +kernel) rfl rfl rfl (by decide +kernel)
set_option maxRecDepth 65536 in
theorem w_c27 : (Jvm.Cond.code ({ cls := "java/lang/StringLatin1", name := "charAt", desc := "([BI)C" } : Jvm.MethodName) jdk_43_method_2_code (2 : Nat) (Option.some Jvm.ClassFile.FieldType.char)).before args0 about1 = true := code_word (m := ⟨10, 1⟩) (meth := k10m1) (c := k10c1) (by decide +kernel) rfl rfl rfl (by decide +kernel)
set_option maxRecDepth 65536 in
theorem w_c28 : (Jvm.Cond.code ({ cls := "java/lang/String", name := "checkIndex", desc := "(II)V" } : Jvm.MethodName) jdk_42_method_155_code (2 : Nat) (Option.none : Option Jvm.ClassFile.FieldType)).before args0 about1 = true := code_word (m := ⟨7, 11⟩) (meth := k7m11) (c := k7c11) (by decide +kernel) rfl rfl rfl (by decide +kernel)
set_option maxRecDepth 65536 in
theorem w_c29 : (Jvm.Cond.code ({ cls := "jdk/internal/util/Preconditions", name := "checkIndex", desc := "(IILjava/util/function/BiFunction;)I" } : Jvm.MethodName) jdk_41_method_11_code (3 : Nat) (Option.some Jvm.ClassFile.FieldType.int)).before args0 about1 = true := code_word (m := ⟨12, 1⟩) (meth := k12m1) (c := k12c1) (by decide +kernel) rfl rfl rfl (by decide +kernel)
set_option maxRecDepth 65536 in
theorem w_c30 : (Jvm.Cond.code ({ cls := "java/util/Arrays", name := "copyOfRange", desc := "([BII)[B" } : Jvm.MethodName) jdk_65_method_132_code (3 : Nat) (Option.some (Jvm.ClassFile.FieldType.array Jvm.ClassFile.FieldType.byte))).before args0 about1 = true := code_word (m := ⟨14, 2⟩) (meth := k14m2) (c := k14c2) (by decide +kernel) rfl rfl rfl (by decide +kernel)
set_option maxRecDepth 65536 in
theorem w_c31 : (Jvm.Cond.code ({ cls := "java/util/Arrays", name := "copyOfRangeByte", desc := "([BII)[B" } : Jvm.MethodName) jdk_65_method_133_code (5 : Nat) (Option.some (Jvm.ClassFile.FieldType.array Jvm.ClassFile.FieldType.byte))).before args0 about1 = true := code_word (m := ⟨14, 3⟩) (meth := k14m3) (c := k14c3) (by decide +kernel) rfl rfl rfl (by decide +kernel)
set_option maxRecDepth 65536 in
theorem w_c32 : (Jvm.Cond.code ({ cls := "java/util/Arrays", name := "checkLength", desc := "(II)V" } : Jvm.MethodName) jdk_65_method_131_code (2 : Nat) (Option.none : Option Jvm.ClassFile.FieldType)).before args0 about1 = true := code_word (m := ⟨14, 1⟩) (meth := k14m1) (c := k14c1) (by decide +kernel) rfl rfl rfl (by decide +kernel)
set_option maxRecDepth 65536 in
theorem w_c33 : (Jvm.Cond.code ({ cls := "java/lang/String", name := "<init>", desc := "([BB)V" } : Jvm.MethodName) jdk_42_method_151_code (3 : Nat) (Option.none : Option Jvm.ClassFile.FieldType)).before args0 about1 = true := code_word (m := ⟨7, 8⟩) (meth := k7m8) (c := k7c8) (by decide +kernel) rfl rfl rfl (by decide +kernel)
def codes1 : List Jvm.Cond := [Jvm.Cond.code x code maxLocals ret, Jvm.Cond.code ({ cls := "com/example/kartoteka/kartoteka/FieldIndicatorsPinLaw", name := "ch", desc := "(I)C" } : Jvm.MethodName) method_2_code (1 : Nat) (Option.some Jvm.ClassFile.FieldType.char), Jvm.Cond.code ({ cls := "com/example/kartoteka/kartoteka/FieldIndicatorsPinLaw", name := "make", desc := "(ICCCC)Ljava/lang/String;" } : Jvm.MethodName) method_3_code (5 : Nat) (Option.some (Jvm.ClassFile.FieldType.object "java/lang/String")), Jvm.Cond.code ({ cls := "java/lang/String", name := "<init>", desc := "([C)V" } : Jvm.MethodName) jdk_42_method_3_code (2 : Nat) (Option.none : Option Jvm.ClassFile.FieldType), Jvm.Cond.code ({ cls := "java/lang/String", name := "<init>", desc := "([CIILjava/lang/Void;)V" } : Jvm.MethodName) jdk_42_method_149_code (6 : Nat) (Option.none : Option Jvm.ClassFile.FieldType), Jvm.Cond.code ({ cls := "java/lang/Object", name := "<init>", desc := "()V" } : Jvm.MethodName) object_method_1_code (1 : Nat) (Option.none : Option Jvm.ClassFile.FieldType), Jvm.Cond.code ({ cls := "com/example/kartoteka/kartoteka/Field", name := "<init>", desc := "(Ljava/lang/String;Ljava/lang/String;)V" } : Jvm.MethodName) prog_10_method_1_code (3 : Nat) (Option.none : Option Jvm.ClassFile.FieldType), Jvm.Cond.code ({ cls := "java/lang/Record", name := "<init>", desc := "()V" } : Jvm.MethodName) jdk_30_method_1_code (1 : Nat) (Option.none : Option Jvm.ClassFile.FieldType), Jvm.Cond.code ({ cls := "com/example/kartoteka/kartoteka/Field", name := "indicators", desc := "()Ljava/lang/String;" } : Jvm.MethodName) prog_10_method_3_code (2 : Nat) (Option.some (Jvm.ClassFile.FieldType.object "java/lang/String")), Jvm.Cond.code ({ cls := "java/lang/String", name := "indexOf", desc := "(I)I" } : Jvm.MethodName) jdk_42_method_79_code (2 : Nat) (Option.some Jvm.ClassFile.FieldType.int), Jvm.Cond.code ({ cls := "java/lang/String", name := "indexOf", desc := "(II)I" } : Jvm.MethodName) jdk_42_method_80_code (3 : Nat) (Option.some Jvm.ClassFile.FieldType.int), Jvm.Cond.code ({ cls := "java/lang/String", name := "isLatin1", desc := "()Z" } : Jvm.MethodName) jdk_42_method_154_code (1 : Nat) (Option.some Jvm.ClassFile.FieldType.boolean), Jvm.Cond.code ({ cls := "java/lang/String", name := "length", desc := "()I" } : Jvm.MethodName) jdk_42_method_54_code (1 : Nat) (Option.some Jvm.ClassFile.FieldType.int), Jvm.Cond.code ({ cls := "java/lang/String", name := "coder", desc := "()B" } : Jvm.MethodName) jdk_42_method_152_code (1 : Nat) (Option.some Jvm.ClassFile.FieldType.byte), Jvm.Cond.code ({ cls := "java/lang/StringLatin1", name := "indexOf", desc := "([BIII)I" } : Jvm.MethodName) jdk_43_method_22_code (4 : Nat) (Option.some Jvm.ClassFile.FieldType.int), Jvm.Cond.code ({ cls := "java/lang/StringLatin1", name := "canEncode", desc := "(I)Z" } : Jvm.MethodName) jdk_43_method_4_code (1 : Nat) (Option.some Jvm.ClassFile.FieldType.boolean), Jvm.Cond.code ({ cls := "java/lang/Math", name := "max", desc := "(II)I" } : Jvm.MethodName) jdk_29_method_65_code (2 : Nat) (Option.some Jvm.ClassFile.FieldType.int), Jvm.Cond.code ({ cls := "java/lang/Math", name := "min", desc := "(II)I" } : Jvm.MethodName) jdk_29_method_69_code (2 : Nat) (Option.some Jvm.ClassFile.FieldType.int), Jvm.Cond.code ({ cls := "java/lang/String", name := "substring", desc := "(II)Ljava/lang/String;" } : Jvm.MethodName) jdk_42_method_92_code (5 : Nat) (Option.some (Jvm.ClassFile.FieldType.object "java/lang/String")), Jvm.Cond.code ({ cls := "java/lang/String", name := "checkBoundsBeginEnd", desc := "(III)V" } : Jvm.MethodName) jdk_42_method_158_code (3 : Nat) (Option.none : Option Jvm.ClassFile.FieldType), Jvm.Cond.code ({ cls := "jdk/internal/util/Preconditions", name := "checkFromToIndex", desc := "(IIILjava/util/function/BiFunction;)I" } : Jvm.MethodName) jdk_41_method_12_code (4 : Nat) (Option.some Jvm.ClassFile.FieldType.int), Jvm.Cond.code ({ cls := "java/lang/StringUTF16", name := "compress", desc := "([CII)[B" } : Jvm.MethodName) jdk_52_method_16_code (6 : Nat) (Option.some (Jvm.ClassFile.FieldType.array Jvm.ClassFile.FieldType.byte)), Jvm.Cond.code ({ cls := "java/lang/StringUTF16", name := "compress", desc := "([CI[BII)I" } : Jvm.MethodName) jdk_52_method_21_code (7 : Nat) (Option.some Jvm.ClassFile.FieldType.int), Jvm.Cond.code ({ cls := "java/lang/StringUTF16", name := "coderFromArrayLen", desc := "([BI)B" } : Jvm.MethodName) jdk_52_method_15_code (2 : Nat) (Option.some Jvm.ClassFile.FieldType.byte), Jvm.Cond.code ({ cls := "java/lang/StringLatin1", name := "indexOfChar", desc := "([BIII)I" } : Jvm.MethodName) jdk_43_method_23_code (6 : Nat) (Option.some Jvm.ClassFile.FieldType.int), Jvm.Cond.code ({ cls := "java/lang/StringLatin1", name := "newString", desc := "([BII)Ljava/lang/String;" } : Jvm.MethodName) jdk_43_method_47_code (3 : Nat) (Option.some (Jvm.ClassFile.FieldType.object "java/lang/String")), Jvm.Cond.code ({ cls := "java/lang/String", name := "charAt", desc := "(I)C" } : Jvm.MethodName) jdk_42_method_56_code (2 : Nat) (Option.some Jvm.ClassFile.FieldType.char), Jvm.Cond.code ({ cls := "java/lang/StringLatin1", name := "charAt", desc := "([BI)C" } : Jvm.MethodName) jdk_43_method_2_code (2 : Nat) (Option.some Jvm.ClassFile.FieldType.char), Jvm.Cond.code ({ cls := "java/lang/String", name := "checkIndex", desc := "(II)V" } : Jvm.MethodName) jdk_42_method_155_code (2 : Nat) (Option.none : Option Jvm.ClassFile.FieldType), Jvm.Cond.code ({ cls := "jdk/internal/util/Preconditions", name := "checkIndex", desc := "(IILjava/util/function/BiFunction;)I" } : Jvm.MethodName) jdk_41_method_11_code (3 : Nat) (Option.some Jvm.ClassFile.FieldType.int), Jvm.Cond.code ({ cls := "java/util/Arrays", name := "copyOfRange", desc := "([BII)[B" } : Jvm.MethodName) jdk_65_method_132_code (3 : Nat) (Option.some (Jvm.ClassFile.FieldType.array Jvm.ClassFile.FieldType.byte)), Jvm.Cond.code ({ cls := "java/util/Arrays", name := "copyOfRangeByte", desc := "([BII)[B" } : Jvm.MethodName) jdk_65_method_133_code (5 : Nat) (Option.some (Jvm.ClassFile.FieldType.array Jvm.ClassFile.FieldType.byte)), Jvm.Cond.code ({ cls := "java/util/Arrays", name := "checkLength", desc := "(II)V" } : Jvm.MethodName) jdk_65_method_131_code (2 : Nat) (Option.none : Option Jvm.ClassFile.FieldType), Jvm.Cond.code ({ cls := "java/lang/String", name := "<init>", desc := "([BB)V" } : Jvm.MethodName) jdk_42_method_151_code (3 : Nat) (Option.none : Option Jvm.ClassFile.FieldType)]
set_option maxRecDepth 65536 in
theorem codes_eq : words1.filter isCode = codes1 := rfl
theorem w_codes : ∀ c ∈ words1.filter isCode, c.before args0 about1 = true := by
  rw [codes_eq]
  intro c hc
  simp only [codes1, List.mem_cons, List.not_mem_nil, or_false] at hc
  rcases hc with rfl | rfl | rfl | rfl | rfl | rfl | rfl | rfl | rfl | rfl | rfl | rfl | rfl | rfl | rfl | rfl | rfl | rfl | rfl | rfl | rfl | rfl | rfl | rfl | rfl | rfl | rfl | rfl | rfl | rfl | rfl | rfl | rfl | rfl
  · exact w_c0
  · exact w_c1
  · exact w_c2
  · exact w_c3
  · exact w_c4
  · exact w_c5
  · exact w_c6
  · exact w_c7
  · exact w_c8
  · exact w_c9
  · exact w_c10
  · exact w_c11
  · exact w_c12
  · exact w_c13
  · exact w_c14
  · exact w_c15
  · exact w_c16
  · exact w_c17
  · exact w_c18
  · exact w_c19
  · exact w_c20
  · exact w_c21
  · exact w_c22
  · exact w_c23
  · exact w_c24
  · exact w_c25
  · exact w_c26
  · exact w_c27
  · exact w_c28
  · exact w_c29
  · exact w_c30
  · exact w_c31
  · exact w_c32
  · exact w_c33
set_option maxRecDepth 65536 in
theorem w_t1 : (words1.take 24).all (fun c => isCode c || c.before args0 about1) = true := by decide +kernel
set_option maxRecDepth 65536 in
theorem w_t2 : ((words1.drop 24).take 24).all (fun c => isCode c || c.before args0 about1) = true := by decide +kernel
set_option maxRecDepth 65536 in
theorem w_t3 : (((words1.drop 24).drop 24).take 24).all (fun c => isCode c || c.before args0 about1) = true := by decide +kernel
set_option maxRecDepth 65536 in
theorem w_t4 : ((((words1.drop 24).drop 24).drop 24).take 24).all (fun c => isCode c || c.before args0 about1) = true := by decide +kernel
set_option maxRecDepth 65536 in
theorem w_t5 : (((((words1.drop 24).drop 24).drop 24).drop 24).take 24).all (fun c => isCode c || c.before args0 about1) = true := by decide +kernel
set_option maxRecDepth 65536 in
theorem w_t6 : ((((((words1.drop 24).drop 24).drop 24).drop 24).drop 24).take 24).all (fun c => isCode c || c.before args0 about1) = true := by decide +kernel
set_option maxRecDepth 65536 in
theorem w_t7 : ((((((words1.drop 24).drop 24).drop 24).drop 24).drop 24).drop 24).all (fun c => isCode c || c.before args0 about1) = true := by decide +kernel
theorem w_tables : (allAtoms (Jvm.Cond.code x code maxLocals ret :: tables_1)).before args0 about1 = true := by
  rw [allAtoms_all]
  show words1.all (fun c => c.before args0 about1) = true
  refine all_split ?_ w_codes
  rw [← List.take_append_drop 24 words1, List.all_append, w_t1, ← List.take_append_drop 24 (words1.drop 24), List.all_append, w_t2, ← List.take_append_drop 24 ((words1.drop 24).drop 24), List.all_append, w_t3, ← List.take_append_drop 24 (((words1.drop 24).drop 24).drop 24), List.all_append, w_t4, ← List.take_append_drop 24 ((((words1.drop 24).drop 24).drop 24).drop 24), List.all_append, w_t5, ← List.take_append_drop 24 (((((words1.drop 24).drop 24).drop 24).drop 24).drop 24), List.all_append, w_t6, w_t7]
  rfl
set_option maxRecDepth 65536 in
theorem w_rest : rest_1_c.before args0 about1 = true := by decide +kernel
set_option maxRecDepth 65536 in
theorem w_case : (Jvm.Cond.and given_1 narrow_1).before args0 about1 = true := by decide +kernel
set_option maxRecDepth 65536 in
theorem w_consts : constsHeld consts_1 about1 := Jvm.Lit.constsHeldB_iff.mp (by decide +kernel)
theorem w_applies : (headSpec (Jvm.Cond.code x code maxLocals ret :: tables_1) room_1).applies x e0.platform about1 = true :=
  (Spec.applies_iff w_frames).mpr ⟨w_running, w_runnable, w_alone, w_named, w_hears, w_ripe, w_room, w_tables⟩
theorem atStart : AtStart classFile x code maxLocals ret World_1 tables_1 room_1 Calls_1 rest_1 Pre_1 launch0 p0 e0 about1 theMethod args0 below0 :=
  ⟨lists_1, trivial, launch0.admits_env _ _ _, launch0.least_env, fairChoices_fair.cas, fairChoices_fair.clock, w_frames, w_args, w_heap, w_applies, ⟨w_consts, trivial⟩, w_rest, w_case⟩
end start1
theorem witness_1 : WitnessClaimed_1 := ⟨start1.p0, start1.e0, start1.about1, start1.theMethod, start1.args0, start1.below0, start1.atStart⟩
end Jvm.Pilot.@@N@@
