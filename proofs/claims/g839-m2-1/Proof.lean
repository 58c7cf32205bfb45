import JvmDerived
import JvmDerived.Pilot.@@N@@Statement
import JvmDerived.Pilot.@@N@@Code
set_option linter.unusedVariables false
set_option linter.unusedSimpArgs false
namespace Jvm.Pilot.@@N@@
open Jvm Jvm.ClassFile Sem Op Lib Jvm.Free Jvm.Stand Jvm.LawKit Jvm.RoadKit Bundle Jvm.Free.XT Jvm.Pilot.@@N@@.Jvm.D
theorem own_n0 {Z : State} {n0 : Nat} {h : Heap} (X : Old Z n0 h) : n0 ≤ h.size := X.1 ▸ X.2.1
theorem own_lt {a m n : Nat} (h : a < m) (k : m ≤ n) : a < n := Nat.lt_of_lt_of_le h k
theorem own_since0 (s : State) (n : Nat) : s.Since s.vm n := ⟨State.Warmed39.refl s, fun j p hj hp => absurd (Array.getElem?_eq_some_iff.mp hp).1 (Nat.not_lt.mpr hj)⟩
theorem own_narR {v : Value} {t : FieldType} (h : v.isRef = true) : narrow t v = v := by rcases ref_cases h with rfl | ⟨a, rfl⟩ <;> cases t <;> rfl
theorem own_fitR {v : Value} {t : FieldType} (h : v.isRef = true) (ht : t.isReference = true := by rfl) : fits t v = true := by rcases ref_cases h with rfl | ⟨a, rfl⟩ <;> cases t <;> first | rfl | cases ht
theorem own_priv {s : State} {args : Array Value} {y : MethodName} (h : (Jvm.Cond.privateMethod y).before args s = true) : s.PrivateAt y := Cond.privateMethod_at h
abbrev own_CP (l : Launch) (Z : State) (y : MethodName) (bytes : ByteArray) (ml : Nat) (ret : Option FieldType) (ws : List Jvm.Cond) (R : Room) (as' : Array Value) (h0 : Heap) (Q : Option Value → Heap → List Loc → Prop) : Prop :=
  MetFree l y (head1 (Jvm.Cond.code y bytes ml ret :: ws) R) (fun a U => a = as' ∧ Z.Warmed39 U.vm ∧ U.heap = h0) (fun _ _ _ _ _ => True) (fun _ U o U' => ∃ v L, o = .returned v ∧ Q v U'.heap L ∧ FrameEnd U o U' L R.cells R.slots)
theorem own_P {l : Launch} {Z : State} {y : MethodName} {bytes : ByteArray} {ml : Nat} {ret : Option FieldType} {ws : List Jvm.Cond} {R : Room} {as' : Array Value} {h0 : Heap} {Q : Option Value → Heap → List Loc → Prop} (hpl : plainFor y = true)
    (H : ∀ (p : Program) (e : Env) (s : State) (m : MethodId) (below : List Frame) (meth : Method) (c : ClassFile.Code) (s₁ S0 : State), BodyLoose p l y (head1 (Jvm.Cond.code y bytes ml ret :: ws) R) bytes ml ret e s m as' below meth c s₁ → Z.Warmed39 s.vm → s.heap = h0 → p.tables.exec = Jvm.exec → c.code = bytes → c.maxLocals = ml → s.vm.findClass y.cls = some m.cls → meth.name = y.name →
      Stand p l e R s m as' below meth c s₁ [] 0 0 → s₁.heap = h0 → S0 = s₁.setTop (entryFrame m as' ml) → ∃ s₂ o, Steps p.tables e below S0 s₂ ∧ s₂.status = .running ∧ Ended s₂ below o ∧ ∃ v L, o = .returned v ∧ Q v s₂.heap L ∧ FrameEnd s o s₂ L R.cells R.slots) : own_CP l Z y bytes ml ret ws R as' h0 Q := by
  refine MetFree.of_bodySF hpl hisR ?_
  intro p e s m args below meth c s₁ Bd hml hP hK
  obtain ⟨rfl, hZ, hh⟩ := hP
  exact H p e s m below meth c s₁ _ Bd hZ hh Bd.exec Bd.bytes hml (findClass_of_methodNamed Bd.named) (name_of_methodNamed Bd.named Bd.method).1 (Stand.of_body Bd) (by rw [← hh, Bd.state]; rfl) rfl
theorem own_EL {Z : State} {a0 : Array Value} (hw : ∀ d ∈ tables_1, d.before a0 Z = true) : EW Z a0 consts_1 := EW.cons (hw _ (List.mem_of_getElem? (i := 19) rfl)) (by decide) EW.nil
theorem own_SA {Z : State} {a0 : Array Value} (hw : ∀ d ∈ tables_1, d.before a0 Z = true) : ∀ d ∈ Bundle.stringAtoms, d.before a0 Z = true := fun d hd => hw d ((by decide +kernel : ∀ d ∈ Bundle.stringAtoms, d ∈ tables_1) d hd)
theorem own_safe_null {Z : State} {EL : List (String × Nat)} {vm : Vm} {h : Heap} {x : Addr} (hal : Z.vm.Alike vm) (E : Exa Z h x "java/lang/String") (F : Fld Z h x "java/lang/String" "value" "[B" .null) : Safe Z EL vm h x := by
  rintro ⟨p, hp, u, a, B, q, hqa, ⟨cS, ⟨S1, S2, S3⟩, -, hcl, hsb⟩, hy⟩
  rcases hy with hy | hy
  · subst hy
    obtain ⟨cell, cf, k, i, f, h1, h2, h3, h4, h5, h6, h7⟩ := F
    obtain ⟨k', h2', -⟩ := State.fieldFound?_setVm (s := Z) hal h2
    obtain ⟨c2, k2, i2, g1, -⟩ := S1.ffV
    have e1 : cell = q.sC := Option.some.inj (h1.symm.trans S1.ha)
    have e2 : (Z.setVm vm).fieldFound? "java/lang/String" "value" "[B" = some (c2, k2, i2, q.fSV) := g1
    have e3 := Option.some.inj (h2'.symm.trans e2)
    have e4 : f = q.fSV := congrArg (fun z => z.2.2.2) e3
    have e5 : q.sC.slots[q.fSV.slot]? = some (.ref q.sd) := S1.2.2.2.2.2.2.2.1
    rw [e1, e4, e5] at h7
    cases h7
  · subst hy
    obtain ⟨c1, k1, h1, h2, -⟩ := E
    have e1 : c1 = q.SA := Option.some.inj (h1.symm.trans S1.2.2.2.2.2.2.2.2.2.1)
    have h2' : vm.findClass "java/lang/String" = some c1.cls := by rw [hal.findClass]; exact h2
    have hcl' : vm.findClass "[B" = some q.SA.cls := hcl
    rw [e1] at h2'
    obtain ⟨k3, a1, a2⟩ := Vm.findClass_spec h2'
    obtain ⟨k4, b1, b2⟩ := Vm.findClass_spec hcl'
    cases a1.symm.trans b1
    exact absurd (a2.symm.trans b2) (by decide)
abbrev own_CH (l : Launch) (Z : State) (y : MethodName) (bytes : ByteArray) (ml : Nat) (ret : Option FieldType) (ws : List Jvm.Cond) (R : Room) (as' : Array Value) (h0 : Heap) (Q : Option Value → Heap → List Loc → Prop) : Prop :=
  MetFree l y (head1 (Jvm.Cond.code y bytes ml ret :: ws) R) (fun a U => a = as' ∧ Z.Warmed39 U.vm ∧ U.heap = h0 ∧ CHv Z consts_1 U.vm h0) (fun _ _ _ _ _ => True) (fun _ U o U' => ∃ v L, o = .returned v ∧ Q v U'.heap L ∧ CHr Z consts_1 U.vm U.heap U'.vm U'.heap ∧ ReturnedEndW U o U' L R.cells R.slots)
abbrev own_CK (l : Launch) (Z : State) (y : MethodName) (bytes : ByteArray) (ml : Nat) (ret : Option FieldType) (ws : List Jvm.Cond) (R : Room) (as' : Array Value) (h0 : Heap) (Q : Option Value → Heap → List Loc → Prop) : Prop :=
  MetFree l y (head1 (Jvm.Cond.code y bytes ml ret :: ws) R) (fun a U => a = as' ∧ Z.Warmed39 U.vm ∧ U.heap = h0 ∧ CHv Z consts_1 U.vm h0) (fun _ _ bl s _ => s.vm.MethodsKnown ∧ s.vm.FramesKnown bl) (fun _ U o U' => ∃ v L, o = .returned v ∧ Q v U'.heap L ∧ CHr Z consts_1 U.vm U.heap U'.vm U'.heap ∧ ReturnedEndW U o U' L R.cells R.slots)
theorem own_H {l : Launch} {Z : State} {y : MethodName} {bytes : ByteArray} {ml : Nat} {ret : Option FieldType} {ws : List Jvm.Cond} {R : Room} {as' : Array Value} {h0 : Heap} {Q : Option Value → Heap → List Loc → Prop} (hpl : plainFor y = true)
    (H : ∀ (p : Program) (e : Env) (s : State) (m : MethodId) (below : List Frame) (meth : Method) (c : ClassFile.Code) (s₁ S0 : State), BodyLoose p l y (head1 (Jvm.Cond.code y bytes ml ret :: ws) R) bytes ml ret e s m as' below meth c s₁ → Z.Warmed39 (s.setVm s.vm).vm → s.heap = h0 → CHv Z consts_1 s.vm h0 → s.Since s.vm h0.size → CHr Z consts_1 s.vm h0 s.vm h0 → p.tables.exec = Jvm.exec → c.code = bytes → c.maxLocals = ml → (s.setVm s.vm).vm.findClass y.cls = some m.cls → meth.name = y.name →
      Stand p l e R (s.setVm s.vm) m as' below meth c s₁ [] 0 0 → s₁.heap = h0 → S0 = s₁.setTop (entryFrame m as' ml) → ∃ s₂ o, Steps p.tables e below S0 s₂ ∧ s₂.status = .running ∧ Ended s₂ below o ∧ ∃ v L, o = .returned v ∧ Q v s₂.heap L ∧ CHr Z consts_1 s.vm s.heap s₂.vm s₂.heap ∧ ReturnedEndW s o s₂ L R.cells R.slots) : own_CH l Z y bytes ml ret ws R as' h0 Q := by
  refine MetFree.of_bodySF hpl hisR ?_
  intro p e s m args below meth c s₁ Bd hml hP hK
  obtain ⟨rfl, hZ, hh, CH0⟩ := hP
  exact H p e s m below meth c s₁ _ Bd hZ hh CH0 (own_since0 s _) (CHr.refl CH0) Bd.exec Bd.bytes hml (findClass_of_methodNamed Bd.named) (name_of_methodNamed Bd.named Bd.method).1 (Stand.of_body Bd) (by rw [← hh, Bd.state]; rfl) rfl
theorem own_K {l : Launch} {Z : State} {y : MethodName} {bytes : ByteArray} {ml : Nat} {ret : Option FieldType} {ws : List Jvm.Cond} {R : Room} {as' : Array Value} {h0 : Heap} {Q : Option Value → Heap → List Loc → Prop} (hpl : plainFor y = true)
    (H : ∀ (p : Program) (e : Env) (s : State) (m : MethodId) (below : List Frame) (meth : Method) (c : ClassFile.Code) (s₁ S0 : State), BodyLoose p l y (head1 (Jvm.Cond.code y bytes ml ret :: ws) R) bytes ml ret e s m as' below meth c s₁ → Z.Warmed39 (s.setVm s.vm).vm → s.heap = h0 → CHv Z consts_1 s.vm h0 → s.Since s.vm h0.size → CHr Z consts_1 s.vm h0 s.vm h0 → s.vm.MethodsKnown → s.vm.FramesKnown below → p.tables.exec = Jvm.exec → c.code = bytes → c.maxLocals = ml → (s.setVm s.vm).vm.findClass y.cls = some m.cls → meth.name = y.name →
      Stand p l e R (s.setVm s.vm) m as' below meth c s₁ [] 0 0 → s₁.heap = h0 → S0 = s₁.setTop (entryFrame m as' ml) → ∃ s₂ o, Steps p.tables e below S0 s₂ ∧ s₂.status = .running ∧ Ended s₂ below o ∧ ∃ v L, o = .returned v ∧ Q v s₂.heap L ∧ CHr Z consts_1 s.vm s.heap s₂.vm s₂.heap ∧ ReturnedEndW s o s₂ L R.cells R.slots) : own_CK l Z y bytes ml ret ws R as' h0 Q := by
  refine MetFree.of_bodySF hpl hisR ?_
  intro p e s m args below meth c s₁ Bd hml hP hK
  obtain ⟨rfl, hZ, hh, CH0⟩ := hP
  exact H p e s m below meth c s₁ _ Bd hZ hh CH0 (own_since0 s _) (CHr.refl CH0) hK.1 hK.2 Bd.exec Bd.bytes hml (findClass_of_methodNamed Bd.named) (name_of_methodNamed Bd.named Bd.method).1 (Stand.of_body Bd) (by rw [← hh, Bd.state]; rfl) rfl
def own_ch (x : Int32) : Int32 := nar .char ((x &&& (255 : Int32)).toUInt32.toUInt16.toUInt32.toInt32)
theorem own_ch_eq (x : Int32) : own_ch x = x &&& 255 := by
  unfold own_ch
  rw [i2c_mask]
  exact i2c_mask x
theorem own_ch_hi (x : Int32) : ¬ ((255 : Int32) < own_ch x) := by
  rw [own_ch_eq, Int32.lt_iff_toInt_lt]
  have h := (c_and x 255 (by decide)).2
  omega
theorem own_mod4 (x : Int32) : (x &&& (2147483647 : Int32)) % (4 : Int32) = 0 ∨ (x &&& (2147483647 : Int32)) % (4 : Int32) = 1 ∨ (x &&& (2147483647 : Int32)) % (4 : Int32) = 2 ∨ (x &&& (2147483647 : Int32)) % (4 : Int32) = 3 := by
  have h := (c_and x 2147483647 (by decide)).1
  have h2 := (c_irem (x &&& 2147483647) 4 4 rfl).1 h
  have h3 : ((x &&& (2147483647 : Int32)) % (4 : Int32)).toInt = 0 ∨ ((x &&& (2147483647 : Int32)) % (4 : Int32)).toInt = 1 ∨ ((x &&& (2147483647 : Int32)) % (4 : Int32)).toInt = 2 ∨ ((x &&& (2147483647 : Int32)) % (4 : Int32)).toInt = 3 := by omega
  rcases h3 with h | h | h | h
  · exact Or.inl (Int32.toInt_inj.mp h)
  · exact Or.inr (Or.inl (Int32.toInt_inj.mp h))
  · exact Or.inr (Or.inr (Or.inl (Int32.toInt_inj.mp h)))
  · exact Or.inr (Or.inr (Or.inr (Int32.toInt_inj.mp h)))
def own_lo8 (x : Int32) : Int32 := nar .byte (x.toInt8.toInt32)
def own_G (l : Launch) (Z : State) (a0 : Array Value) (G1 : Int32) (kF : Addr) (kA : Addr) : Prop := (Sta Z Z.heap "java/lang/String" "COMPACT_STRINGS" "Z" (.int G1)) ∧ (¬ (G1 = (0 : Int32))) ∧ (Sta Z Z.heap "com/example/claimgate/claimgate/authz/Decision$Kind" "FORBIDDEN" "Lcom/example/claimgate/claimgate/authz/Decision$Kind;" (.ref kF)) ∧ (Sta Z Z.heap "com/example/claimgate/claimgate/authz/Decision$Kind" "ALLOWED" "Lcom/example/claimgate/claimgate/authz/Decision$Kind;" (.ref kA)) ∧ (Exa Z Z.heap kF "com/example/claimgate/claimgate/authz/Decision$Kind") ∧ (Fld Z Z.heap kF "com/example/claimgate/claimgate/authz/Decision$Kind" "status" "I" (.int (403 : Int32))) ∧ (kF ≠ kA)
abbrev M0 : MethodName := ⟨"java/lang/String", "<init>", "([CIILjava/lang/Void;)V"⟩
theorem ef_1 (m : MethodId) (x0 : Addr) (x1 : Addr) (x2 : Int32) (x3 : Int32) : entryFrame m #[(.ref x0), (.ref x1), (.int x2), (.int x3), .null] 6 = mkF m 0 #[.val (.ref x0), .val (.ref x1), .val (.int x2), .val (.int x3), .val .null, .unset] [] := by first | (simp [entryFrame, mkF, argsToLocals, Value.category]; done) | rfl
theorem pn_2 : plainName "java/lang/String" = true := by first | (simp [plainName, overriddenIn]; done) | decide +kernel
theorem d0_0 : decode jdk_42_method_149_code 0 = .ok (.aload_n 0, 1) := by decide +kernel
theorem w16 {Z : State} {a0 : Array Value} (hw : ∀ d ∈ tables_1, d.before a0 Z = true) : Jvm.Cond.before (Jvm.Cond.methodLink "java/lang/String" (1 : Nat) ({ cls := "java/lang/Object", name := "<init>", desc := "()V" } : Jvm.MethodName)) a0 Z = true := hw _ (List.mem_of_getElem? (i := 16) rfl)
theorem w17 {Z : State} {a0 : Array Value} (hw : ∀ d ∈ tables_1, d.before a0 Z = true) : Jvm.Cond.before (Jvm.Cond.instanceMethod ({ cls := "java/lang/Object", name := "<init>", desc := "()V" } : Jvm.MethodName)) a0 Z = true := hw _ (List.mem_of_getElem? (i := 17) rfl)
theorem w18 {Z : State} {a0 : Array Value} (hw : ∀ d ∈ tables_1, d.before a0 Z = true) : Jvm.Cond.before (Jvm.Cond.code ({ cls := "java/lang/Object", name := "<init>", desc := "()V" } : Jvm.MethodName) object_method_1_code (1 : Nat) (Option.none : Option Jvm.ClassFile.FieldType)) a0 Z = true := hw _ (List.mem_of_getElem? (i := 18) rfl)
theorem d0_1 : decode jdk_42_method_149_code 1 = .ok (.invokespecial 1, 3) := by decide +kernel
theorem d0_4 : decode jdk_42_method_149_code 4 = .ok (.iload_n 3, 1) := by decide +kernel
theorem d0_5 : decode jdk_42_method_149_code 5 = .ok (.ifCond .ne 22, 3) := by decide +kernel
theorem d0_8 : decode jdk_42_method_149_code 8 = .ok (.aload_n 0, 1) := by decide +kernel
theorem w19 {Z : State} {a0 : Array Value} (hw : ∀ d ∈ tables_1, d.before a0 Z = true) : Jvm.Cond.before (Jvm.Cond.stringLink "java/lang/String" (7 : Nat) "") a0 Z = true := hw _ (List.mem_of_getElem? (i := 19) rfl)
theorem d0_9 : decode jdk_42_method_149_code 9 = .ok (.ldc 7, 2) := by decide +kernel
theorem w25 {Z : State} {a0 : Array Value} (hw : ∀ d ∈ tables_1, d.before a0 Z = true) : Jvm.Cond.before (Jvm.Cond.fieldLink "java/lang/String" (9 : Nat) "java/lang/String" "value" "[B") a0 Z = true := hw _ (List.mem_of_getElem? (i := 25) rfl)
theorem d0_11 : decode jdk_42_method_149_code 11 = .ok (.getfield 9, 3) := by decide +kernel
theorem w21 {Z : State} {a0 : Array Value} (hw : ∀ d ∈ tables_1, d.before a0 Z = true) : Jvm.Cond.before (Jvm.Cond.laysFinal "java/lang/String" "java/lang/String" "value" "[B") a0 Z = true := hw _ (List.mem_of_getElem? (i := 21) rfl)
theorem w2 {Z : State} {a0 : Array Value} (hw : ∀ d ∈ tables_1, d.before a0 Z = true) : Jvm.Cond.before (Jvm.Cond.instantiable "java/lang/String" (4 : Nat)) a0 Z = true := hw _ (List.mem_of_getElem? (i := 2) rfl)
theorem d0_14 : decode jdk_42_method_149_code 14 = .ok (.putfield 9, 3) := by decide +kernel
theorem d0_17 : decode jdk_42_method_149_code 17 = .ok (.aload_n 0, 1) := by decide +kernel
theorem d0_18 : decode jdk_42_method_149_code 18 = .ok (.ldc 7, 2) := by decide +kernel
theorem w26 {Z : State} {a0 : Array Value} (hw : ∀ d ∈ tables_1, d.before a0 Z = true) : Jvm.Cond.before (Jvm.Cond.fieldLink "java/lang/String" (15 : Nat) "java/lang/String" "coder" "B") a0 Z = true := hw _ (List.mem_of_getElem? (i := 26) rfl)
theorem d0_20 : decode jdk_42_method_149_code 20 = .ok (.getfield 15, 3) := by decide +kernel
theorem w22 {Z : State} {a0 : Array Value} (hw : ∀ d ∈ tables_1, d.before a0 Z = true) : Jvm.Cond.before (Jvm.Cond.laysFinal "java/lang/String" "java/lang/String" "coder" "B") a0 Z = true := hw _ (List.mem_of_getElem? (i := 22) rfl)
theorem d0_23 : decode jdk_42_method_149_code 23 = .ok (.putfield 15, 3) := by decide +kernel
theorem d0_26 : decode jdk_42_method_149_code 26 = .ok (.return_, 1) := by decide +kernel
abbrev R_si4_0 : Room := { frames := 1, cells := 4, slots := 8, locals := 12 }
def Q_si4_0 (Z : State) (G1 : Int32) (kF : Addr) (kA : Addr) (x : Addr) (b : Addr) (k : ClassId) (h0 : Heap) (n0 : Nat) (v : Option Value) (h : Heap) (L : List Loc) : Prop := (∃ t : Addr, ∃ kt : ClassId, v = none ∧ Fr n0 L ∧ Keep h0 h [x] ∧ (Exa Z h x "java/lang/String") ∧ (Fld Z h x "java/lang/String" "coder" "B" (.int (0 : Int32))) ∧ (Fld Z h x "java/lang/String" "value" "[B" (.ref t)) ∧ (Arv Z h t kt .byte (0 : Int32) [] (.int (0 : Int32))))
set_option maxRecDepth 65536 in
set_option maxHeartbeats 40000000 in
theorem rm_si4_0 (l : Launch) (Z : State) (a0 : Array Value) (hw : ∀ d ∈ tables_1, d.before a0 Z = true) (ws : List Jvm.Cond) (G1 : Int32) (kF : Addr) (kA : Addr) (HG : own_G l Z a0 G1 kF kA) (h0 : Heap) (n0 : Nat) (X00 : Old Z n0 h0) (x : Addr) (b : Addr) (k : ClassId) (hp0 : Exa Z h0 x "java/lang/String") (hp1 : Fld Z h0 x "java/lang/String" "value" "[B" .null) (hp2 : Fld Z h0 x "java/lang/String" "coder" "B" (.int (0 : Int32))) (hp3 : n0 ≤ x) (hp4 : Arv Z h0 b k .char (0 : Int32) [] (.int (0 : Int32))) :
    own_CH l Z M0 jdk_42_method_149_code 6 none ws R_si4_0 #[(.ref x), (.ref b), (.int (0 : Int32)), (.int (0 : Int32)), .null] h0 (Q_si4_0 Z G1 kF kA x b k h0 n0) := by
  refine own_H (plainFor_of_name pn_2) ?_
  intro p e s m below meth c s₁ S0 Bd hZ hh CH0 hS0 CR0 hx hby hml hown hnm X0 e0 hS0d
  obtain ⟨O1, P1, O2, O3, E2, F2, NE⟩ := id HG
  have hEL := own_EL hw
  have hSA := own_SA hw
  have N0 := Fr.nil n0
  have C0 : Steps p.tables e below S0 (s₁.setTop (mkF m 0 #[.val (.ref x), .val (.ref b), .val (.int (0 : Int32)), .val (.int (0 : Int32)), .val .null, .unset] [])) := by rw [hS0d]; exact castTop (ef_1 m x b (0 : Int32) (0 : Int32)) (Steps.refl _)
  have Sf_1 : Safe Z consts_1 s.vm h0 x := (own_safe_null hZ.alike hp0 hp1)
  obtain ⟨T_2, X_3, e_4, st_5⟩ := initO X0 hx hZ hown (w16 hw) (w17 hw) (w18 hw) e0 (g := (mkF m 1 #[.val (.ref x), .val (.ref b), .val (.int (0 : Int32)), .val (.int (0 : Int32)), .val .null, .unset] [(.ref x)])) rfl (by rw [hml]; rfl) rfl (hb hby d0_1) (by decide) (W := 0) (by show 2 * 0 + _ ≤ _; exact Nat.le_of_eq rfl) (by decide)
  obtain ⟨a_6, T_7, h_8, k1_9, b_10, k_11, X_12, e_13, E_14, S_15, hk_16, hZ_17, ho_18, Ex_19, Fc_20, Fv_21, Va_22, la_23, lb_24, R_25, L_26, Sf_27, st_28⟩ := ldcCH (vm0 := s.vm) X_3 hx hZ hown (w19 hw) hSA e_4 hS0 (Nat.le_refl _) hEL (by decide) CH0 (vs := []) (z := (0 : Int32)) ⟨by decide, by decide⟩ (by decide) (by decide) (g := (mkF m 9 #[.val (.ref x), .val (.ref b), .val (.int (0 : Int32)), .val (.int (0 : Int32)), .val .null, .unset] [(.ref x)])) rfl (hb hby d0_9) (n := 0) (by decide) (by decide) (by decide) (by decide)
  have CH_29 : CHv Z consts_1 T_7.vm h_8 := R_25.1
  have CR_30 : CHr Z consts_1 s.vm h0 T_7.vm h_8 := CR0.trans R_25
  have E_31 : Exa Z h_8 x "java/lang/String" := (hp0.ext E_14)
  have F_32 : Fld Z h_8 x "java/lang/String" "value" "[B" .null := (hp1.ext E_14)
  obtain ⟨T_33, X_34, e_35, st_36⟩ := getF X_12 hx hZ_17 ho_18 (host := "") (Or.inl (w25 hw)) Via.refl e_13 Fv_21 (g := (mkF m 11 #[.val (.ref x), .val (.ref b), .val (.int (0 : Int32)), .val (.int (0 : Int32)), .val .null, .unset] [(.ref a_6), (.ref x)])) rfl rfl (hb hby d0_11)
  obtain ⟨T_37, h_38, X_39, e_40, W_41, st_42⟩ := putF X_34 hx hZ_17 ho_18 (host := "") (Or.inl (w25 hw)) Via.refl e_35 F_32 E_31 (Or.inr ⟨(w21 hw), rfl, hnm⟩) (w2 hw) (ty := (.array .byte)) (by decide) rfl rfl (g := (mkF m 14 #[.val (.ref x), .val (.ref b), .val (.int (0 : Int32)), .val (.int (0 : Int32)), .val .null, .unset] [(.ref b_10), (.ref x)])) rfl rfl (hb hby d0_14)
  have N_43 := Fr.snoc X_39 N0 hp3
  have CH_44 : CHv Z consts_1 T_7.vm h_38 := CHv.wr W_41 (own_safe_null hZ_17.alike E_31 F_32) CH_29
  have CR_45 : CHr Z consts_1 s.vm h0 T_7.vm h_38 := CR_30.trans (CHr.wr W_41 (own_safe_null hZ_17.alike E_31 F_32) CH_29)
  have F_46 : Fld Z h_38 x "java/lang/String" "value" "[B" (.ref b_10) := F_32.same W_41
  obtain ⟨a_47, T_48, h_49, k1_50, b_51, k_52, X_53, e_54, E_55, S_56, hk_57, hZ_58, ho_59, Ex_60, Fc_61, Fv_62, Va_63, la_64, lb_65, R_66, L_67, Sf_68, st_69⟩ := ldcCH (vm0 := T_7.vm) X_39 hx hZ_17 ho_18 (w19 hw) hSA e_40 S_15 (Nat.le_trans hk_16 (Keep.of_wr W_41).1) hEL (by decide) CH_44 (vs := []) (z := (0 : Int32)) ⟨by decide, by decide⟩ (by decide) (by decide) (g := (mkF m 18 #[.val (.ref x), .val (.ref b), .val (.int (0 : Int32)), .val (.int (0 : Int32)), .val .null, .unset] [(.ref x)])) rfl (hb hby d0_18) (n := 0) (by decide) (by decide) (by decide) (by decide)
  have CH_70 : CHv Z consts_1 T_48.vm h_49 := R_66.1
  have CR_71 : CHr Z consts_1 s.vm h0 T_48.vm h_49 := CR_45.trans R_66
  have Sf_72 : Safe Z consts_1 T_48.vm h_49 x := (CHr.safe R_66 (own_lt hp0.lt (Nat.le_trans E_14.1 (Keep.of_wr W_41).1)) (Safe.wr W_41 (own_safe_null hZ_17.alike E_31 F_32) CH_29 (CHr.safe R_25 (own_lt hp0.lt (Nat.le_refl _)) Sf_1)))
  obtain ⟨T_73, X_74, e_75, st_76⟩ := getF X_53 hx hZ_58 ho_59 (host := "") (Or.inl (w26 hw)) Via.refl e_54 Fc_61 (g := (mkF m 20 #[.val (.ref x), .val (.ref b), .val (.int (0 : Int32)), .val (.int (0 : Int32)), .val .null, .unset] [(.ref a_47), (.ref x)])) rfl rfl (hb hby d0_20)
  have F_77 : Fld Z h_49 x "java/lang/String" "coder" "B" (.int (0 : Int32)) := (((hp2.ext E_14).other W_41 (Or.inr (slot_ne (Or.inr (w22 hw)) (Or.inr (w21 hw)) (by decide) (t := .byte) (by decide) (t' := (.array .byte)) (by decide)))).ext E_55)
  have E_78 : Exa Z h_49 x "java/lang/String" := ((E_31.wr W_41).ext E_55)
  obtain ⟨T_79, h_80, X_81, e_82, W_83, st_84⟩ := putF X_74 hx hZ_58 ho_59 (host := "") (Or.inl (w26 hw)) Via.refl e_75 F_77 E_78 (Or.inr ⟨(w22 hw), rfl, hnm⟩) (w2 hw) (ty := .byte) (by decide) rfl (by decide) (g := (mkF m 23 #[.val (.ref x), .val (.ref b), .val (.int (0 : Int32)), .val (.int (0 : Int32)), .val .null, .unset] [(.int (0 : Int32)), (.ref x)])) rfl rfl (hb hby d0_23)
  have N_85 := Fr.snoc X_81 N_43 hp3
  have Sf_86 : Safe Z consts_1 T_48.vm h_49 x := Sf_72
  have CH_87 : CHv Z consts_1 T_48.vm h_80 := CHv.wr W_83 Sf_86 CH_70
  have CR_88 : CHr Z consts_1 s.vm h0 T_48.vm h_80 := CR_71.trans (CHr.wr W_83 Sf_86 CH_70)
  have F_89 : Fld Z h_80 x "java/lang/String" "coder" "B" (.int (0 : Int32)) := F_77.same W_83
  have C_90 : Steps p.tables e below S0 (T_79.setTop (mkF m 26 #[.val (.ref x), .val (.ref b), .val (.int (0 : Int32)), .val (.int (0 : Int32)), .val .null, .unset] [])) := by
    refine C0.trans ?_
    refine XS.aloadN X0.here hx rfl (hb hby d0_0) rfl rfl ?_
    refine st_5 _ ?_
    refine XS.iloadN X_3.here hx rfl (hb hby d0_4) rfl ?_
    refine XS.ifNo X_3.here hx rfl (hb hby d0_5) rfl (by decide) ?_
    refine XS.aloadN X_3.here hx rfl (hb hby d0_8) rfl rfl ?_
    refine st_28 _ ?_
    refine st_36 _ ?_
    refine st_42 _ ?_
    show Steps p.tables e below (T_37.setTop (mkF m 17 #[.val (.ref x), .val (.ref b), .val (.int (0 : Int32)), .val (.int (0 : Int32)), .val .null, .unset] [])) _
    refine XS.aloadN X_39.here hx rfl (hb hby d0_17) rfl rfl ?_
    refine st_69 _ ?_
    refine st_76 _ ?_
    refine st_84 _ ?_
    exact Steps.refl _
  have E_91 : Exa Z h_80 x "java/lang/String" := (E_78.wr W_83)
  have F_92 : Fld Z h_80 x "java/lang/String" "value" "[B" (.ref b_10) := ((F_46.ext E_55).other W_83 (Or.inr (slot_ne (Or.inr (w21 hw)) (Or.inr (w22 hw)) (by decide) (t := (.array .byte)) (by decide) (t' := .byte) (by decide))))
  have V_93 : Arv Z h_80 b_10 k_11 .byte (0 : Int32) [] (.int (0 : Int32)) := (((Va_22.other W_41 (Ne.symm (Sf_27 _ (own_safe_null hZ_17.alike E_31 F_32)).2)).ext E_55).other W_83 (Ne.symm (Sf_27 _ (own_safe_null hZ_17.alike E_31 F_32)).2))
  have K_94 : Keep h0 h_80 [x] := (((((Keep.refl _ _).ext E_14).wr W_41 (Or.inl (List.mem_of_getElem? (i := 0) rfl))).ext E_55).wr W_83 (Or.inl (List.mem_of_getElem? (i := 0) rfl)))
  obtain ⟨fs, hr, hrun, hended, hRE⟩ := X_81.leaveW S_56 (by rw [show T_79.heap = h_80 from e_82]; exact (Nat.le_trans hk_57 (Keep.of_wr W_83).1)) (v := none) (fun _ => rfl)
  refine ⟨_, _, C_90.trans (X_81.returnOut hx Bd.returns (hb hby d0_26) hr), hrun, hended, _, _, rfl, ?_, ?_, hRE.1, hRE.2.1, hRE.2.2.1, hRE.2.2.2.mono (by decide) (by decide)⟩
  · show Q_si4_0 Z G1 kF kA x b k h0 n0 (none) T_79.heap _
    rw [e_82]
    exact ⟨b_10, k_11, rfl, N_85, K_94, E_91, F_89, F_92, V_93⟩
  · show CHr Z consts_1 s.vm s.heap T_79.vm T_79.heap
    rw [hh, show T_79.heap = h_80 from e_82]
    exact CR_88.trans (CHv.at X_81 hZ_58 hEL CH_87)
abbrev M25 : MethodName := ⟨"java/lang/String", "<init>", "([C)V"⟩
theorem ef_26 (m : MethodId) (x0 : Addr) (x1 : Addr) : entryFrame m #[(.ref x0), (.ref x1)] 2 = mkF m 0 #[.val (.ref x0), .val (.ref x1)] [] := by first | (simp [entryFrame, mkF, argsToLocals, Value.category]; done) | rfl
theorem d1_0 : decode jdk_42_method_3_code 0 = .ok (.aload_n 0, 1) := by decide +kernel
theorem d1_1 : decode jdk_42_method_3_code 1 = .ok (.aload_n 1, 1) := by decide +kernel
theorem d1_2 : decode jdk_42_method_3_code 2 = .ok (.iconst 0, 1) := by decide +kernel
theorem d1_3 : decode jdk_42_method_3_code 3 = .ok (.aload_n 1, 1) := by decide +kernel
theorem d1_4 : decode jdk_42_method_3_code 4 = .ok (.arraylength, 1) := by decide +kernel
theorem d1_5 : decode jdk_42_method_3_code 5 = .ok (.aconst_null, 1) := by decide +kernel
theorem w15 {Z : State} {a0 : Array Value} (hw : ∀ d ∈ tables_1, d.before a0 Z = true) : Jvm.Cond.before (Jvm.Cond.code ({ cls := "java/lang/String", name := "<init>", desc := "([CIILjava/lang/Void;)V" } : Jvm.MethodName) jdk_42_method_149_code (6 : Nat) (Option.none : Option Jvm.ClassFile.FieldType)) a0 Z = true := hw _ (List.mem_of_getElem? (i := 15) rfl)
theorem w3 {Z : State} {a0 : Array Value} (hw : ∀ d ∈ tables_1, d.before a0 Z = true) : Jvm.Cond.before (Jvm.Cond.initialized "java/lang/String") a0 Z = true := hw _ (List.mem_of_getElem? (i := 3) rfl)
theorem pd_35 : parseMethodDescriptor "([CIILjava/lang/Void;)V" = some ⟨[(.array .char), .int, .int, (.object "java/lang/Void")], none⟩ := by decide +kernel
theorem d1_6 : decode jdk_42_method_3_code 6 = .ok (.invokespecial 27, 3) := by decide +kernel
theorem w12 {Z : State} {a0 : Array Value} (hw : ∀ d ∈ tables_1, d.before a0 Z = true) : Jvm.Cond.before (Jvm.Cond.methodLink "java/lang/String" (27 : Nat) ({ cls := "java/lang/String", name := "<init>", desc := "([CIILjava/lang/Void;)V" } : Jvm.MethodName)) a0 Z = true := hw _ (List.mem_of_getElem? (i := 12) rfl)
theorem w13 {Z : State} {a0 : Array Value} (hw : ∀ d ∈ tables_1, d.before a0 Z = true) : Jvm.Cond.before (Jvm.Cond.instanceMethod ({ cls := "java/lang/String", name := "<init>", desc := "([CIILjava/lang/Void;)V" } : Jvm.MethodName)) a0 Z = true := hw _ (List.mem_of_getElem? (i := 13) rfl)
theorem d1_9 : decode jdk_42_method_3_code 9 = .ok (.return_, 1) := by decide +kernel
abbrev R_si1_0 : Room := { frames := 2, cells := 4, slots := 8, locals := 29 }
def Q_si1_0 (Z : State) (G1 : Int32) (kF : Addr) (kA : Addr) (x : Addr) (b : Addr) (k : ClassId) (h0 : Heap) (n0 : Nat) (v : Option Value) (h : Heap) (L : List Loc) : Prop := (∃ t : Addr, ∃ kt : ClassId, v = none ∧ Fr n0 L ∧ Keep h0 h [x] ∧ (Exa Z h x "java/lang/String") ∧ (Fld Z h x "java/lang/String" "coder" "B" (.int (0 : Int32))) ∧ (Fld Z h x "java/lang/String" "value" "[B" (.ref t)) ∧ (Arv Z h t kt .byte (0 : Int32) [] (.int (0 : Int32))))
set_option maxRecDepth 65536 in
set_option maxHeartbeats 40000000 in
theorem rm_si1_0 (l : Launch) (Z : State) (a0 : Array Value) (hw : ∀ d ∈ tables_1, d.before a0 Z = true) (ws : List Jvm.Cond) (G1 : Int32) (kF : Addr) (kA : Addr) (HG : own_G l Z a0 G1 kF kA) (h0 : Heap) (n0 : Nat) (X00 : Old Z n0 h0) (x : Addr) (b : Addr) (k : ClassId) (hp0 : Exa Z h0 x "java/lang/String") (hp1 : Fld Z h0 x "java/lang/String" "value" "[B" .null) (hp2 : Fld Z h0 x "java/lang/String" "coder" "B" (.int (0 : Int32))) (hp3 : n0 ≤ x) (hp4 : Arv Z h0 b k .char (0 : Int32) [] (.int (0 : Int32))) :
    own_CH l Z M25 jdk_42_method_3_code 2 none ws R_si1_0 #[(.ref x), (.ref b)] h0 (Q_si1_0 Z G1 kF kA x b k h0 n0) := by
  refine own_H (plainFor_of_name pn_2) ?_
  intro p e s m below meth c s₁ S0 Bd hZ hh CH0 hS0 CR0 hx hby hml hown hnm X0 e0 hS0d
  obtain ⟨O1, P1, O2, O3, E2, F2, NE⟩ := id HG
  have hEL := own_EL hw
  have hSA := own_SA hw
  have N0 := Fr.nil n0
  have C0 : Steps p.tables e below S0 (s₁.setTop (mkF m 0 #[.val (.ref x), .val (.ref b)] [])) := by rw [hS0d]; exact castTop (ef_26 m x b) (Steps.refl _)
  obtain ⟨c_1, A_2, q_3, S_4, M_5, H_6, U_7⟩ := id hp4
  obtain ⟨_, _, ⟨T_8, L_8, k_8, n_8⟩, -, Y_8, S_8, G_8, ⟨Lc_8, hQ_8, l_8, y_8, z_8, R_8⟩, st_8⟩ := X0.specialBackS hx (y := M0) rfl hown (mvT hZ (w12 hw)) (mvT hZ (w13 hw)) (mvT hZ (w15 hw)) (by decide) (backOfSH (vm0 := s.vm) (W := 0) (rm_si4_0 l Z a0 hw [] G1 kF kA HG h0 n0 X00 x b k hp0 hp1 hp2 hp3 hp4) hZ (w15 hw) (w3 hw) (by decide) (by decide) hEL CH0) (g := (mkF m 6 #[.val (.ref x), .val (.ref b)] [.null, (.int (0 : Int32)), (.int (0 : Int32)), (.ref b), (.ref x)])) rfl (by rw [hml]; rfl) (Steps.refl _) (a := x) (argsL := [(.ref b), (.int (0 : Int32)), (.int (0 : Int32)), .null]) (rest := []) (lenOf pd_35 rfl) rfl (by show 2 * 0 + _ ≤ _; exact Nat.le_of_eq rfl) (hb hby d1_6) (fun _ _ => ⟨rfl, e0, (by decide : 0 + 4 ≤ _), (by decide : 0 + 8 ≤ _)⟩)
  dsimp only [Pt.U, Pt.locs, Pt.cells, Pt.slots] at Y_8 S_8 G_8 l_8 y_8 z_8 st_8 hQ_8 R_8
  subst l_8 y_8 z_8
  obtain ⟨X_8, hS_8, hZ_8, hown_8⟩ := rebS hS0 (n1 := s₁.heap.size) (by rw [show s₁.heap = h0 from e0]; exact (Nat.le_refl _)) Y_8 S_8 G_8 hZ hown
  obtain ⟨a_9, k_10, rfl, N_11, K_12, g_13, g_14, g_15, g_16⟩ := hQ_8
  have N_17 := Fr.app N0 N_11
  have CH_18 : CHv Z consts_1 T_8.vm T_8.heap := R_8.1
  have CR_19 : CHr Z consts_1 s.vm h0 T_8.vm T_8.heap := CR0.trans R_8
  have C_20 : Steps p.tables e below S0 (T_8.setTop (mkF m 9 #[.val (.ref x), .val (.ref b)] [])) := by
    refine C0.trans ?_
    refine XS.aloadN X0.here hx rfl (hb hby d1_0) rfl rfl ?_
    refine XS.aloadN X0.here hx rfl (hb hby d1_1) rfl rfl ?_
    refine XS.iconst X0.here hx rfl (hb hby d1_2) ?_
    refine XS.aloadN X0.here hx rfl (hb hby d1_3) rfl rfl ?_
    refine X0.arraylength hx (by rw [e0]; exact A_2.1) (State.isArrayOf_alike hZ.alike A_2.2.1) (g := (mkF m 4 #[.val (.ref x), .val (.ref b)] [(.ref b), (.int (0 : Int32)), (.ref b), (.ref x)])) rfl rfl (hb hby d1_4) _ ?_
    rw [len_of S_4 M_5]
    refine XS.aconstNull X0.here hx rfl (hb hby d1_5) ?_
    refine st_8.trans ?_
    exact Steps.refl _
  have K_21 : Keep h0 T_8.heap [x] := ((Keep.refl _ _).trans K_12 (allS (Or.inl (List.mem_of_getElem? (i := 0) rfl)) all0))
  obtain ⟨fs, hr, hrun, hended, hRE⟩ := X_8.leaveW hS_8 (by rw [show T_8.heap = T_8.heap from rfl]; exact (Nat.le_refl _)) (v := none) (fun _ => rfl)
  refine ⟨_, _, C_20.trans (X_8.returnOut hx Bd.returns (hb hby d1_9) hr), hrun, hended, _, _, rfl, ?_, ?_, hRE.1, hRE.2.1, hRE.2.2.1, hRE.2.2.2.mono (by decide) (by decide)⟩
  · show Q_si1_0 Z G1 kF kA x b k h0 n0 (none) T_8.heap _
    exact ⟨a_9, k_10, rfl, N_17, K_21, g_13, g_14, g_15, g_16⟩
  · show CHr Z consts_1 s.vm s.heap T_8.vm T_8.heap
    rw [hh]
    exact CR_19.trans (CHv.at X_8 hZ_8 hEL CH_18)
abbrev M40 : MethodName := ⟨"java/lang/StringUTF16", "compress", "([CI[BII)I"⟩
theorem ef_41 (m : MethodId) (x0 : Addr) (x1 : Int32) (x2 : Addr) (x3 : Int32) (x4 : Int32) : entryFrame m #[(.ref x0), (.int x1), (.ref x2), (.int x3), (.int x4)] 7 = mkF m 0 #[.val (.ref x0), .val (.int x1), .val (.ref x2), .val (.int x3), .val (.int x4), .unset, .unset] [] := by first | (simp [entryFrame, mkF, argsToLocals, Value.category]; done) | rfl
theorem pn_42 : plainName "java/lang/StringUTF16" = true := by first | (simp [plainName, overriddenIn]; done) | decide +kernel
theorem d2_0 : decode jdk_52_method_21_code 0 = .ok (.iconst 0, 1) := by decide +kernel
theorem d2_1 : decode jdk_52_method_21_code 1 = .ok (.istore 5, 2) := by decide +kernel
theorem d2_3 : decode jdk_52_method_21_code 3 = .ok (.iload 5, 2) := by decide +kernel
theorem d2_5 : decode jdk_52_method_21_code 5 = .ok (.iload 4, 2) := by decide +kernel
theorem d2_7 : decode jdk_52_method_21_code 7 = .ok (.if_icmp .ge 37, 3) := by decide +kernel
theorem d2_10 : decode jdk_52_method_21_code 10 = .ok (.aload_n 0, 1) := by decide +kernel
theorem d2_11 : decode jdk_52_method_21_code 11 = .ok (.iload_n 1, 1) := by decide +kernel
theorem d2_12 : decode jdk_52_method_21_code 12 = .ok (.caload, 1) := by decide +kernel
theorem d2_13 : decode jdk_52_method_21_code 13 = .ok (.istore 6, 2) := by decide +kernel
theorem d2_15 : decode jdk_52_method_21_code 15 = .ok (.iload 6, 2) := by decide +kernel
theorem d2_17 : decode jdk_52_method_21_code 17 = .ok (.sipush 255, 3) := by decide +kernel
theorem d2_20 : decode jdk_52_method_21_code 20 = .ok (.if_icmp .le 6, 3) := by decide +kernel
theorem d2_26 : decode jdk_52_method_21_code 26 = .ok (.aload_n 2, 1) := by decide +kernel
theorem d2_27 : decode jdk_52_method_21_code 27 = .ok (.iload_n 3, 1) := by decide +kernel
theorem d2_28 : decode jdk_52_method_21_code 28 = .ok (.iload 6, 2) := by decide +kernel
theorem d2_30 : decode jdk_52_method_21_code 30 = .ok (.i2b, 1) := by decide +kernel
theorem d2_31 : decode jdk_52_method_21_code 31 = .ok (.bastore, 1) := by decide +kernel
theorem d2_32 : decode jdk_52_method_21_code 32 = .ok (.iinc 1 1, 3) := by decide +kernel
theorem d2_35 : decode jdk_52_method_21_code 35 = .ok (.iinc 3 1, 3) := by decide +kernel
theorem d2_38 : decode jdk_52_method_21_code 38 = .ok (.iinc 5 1, 3) := by decide +kernel
theorem d2_41 : decode jdk_52_method_21_code 41 = .ok (.goto (-38), 3) := by decide +kernel
theorem d2_44 : decode jdk_52_method_21_code 44 = .ok (.iload 4, 2) := by decide +kernel
theorem d2_46 : decode jdk_52_method_21_code 46 = .ok (.ireturn, 1) := by decide +kernel
abbrev R_cmp5_1 : Room := { frames := 0, cells := 0, slots := 0, locals := 0 }
def Q_cmp5_1 (Z : State) (G1 : Int32) (kF : Addr) (kA : Addr) (b : Addr) (k : ClassId) (t : Addr) (kt : ClassId) (c0 : Int32) (h0 : Heap) (n0 : Nat) (v : Option Value) (h : Heap) (L : List Loc) : Prop := (v = some (.int (1 : Int32)) ∧ Fr n0 L ∧ Keep h0 h [t] ∧ (Arv Z h t kt .byte (1 : Int32) [(.int (own_lo8 c0))] (.int (0 : Int32))))
set_option maxRecDepth 65536 in
set_option maxHeartbeats 40000000 in
theorem rm_cmp5_1 (l : Launch) (Z : State) (a0 : Array Value) (hw : ∀ d ∈ tables_1, d.before a0 Z = true) (ws : List Jvm.Cond) (G1 : Int32) (kF : Addr) (kA : Addr) (HG : own_G l Z a0 G1 kF kA) (h0 : Heap) (n0 : Nat) (X00 : Old Z n0 h0) (b : Addr) (k : ClassId) (t : Addr) (kt : ClassId) (c0 : Int32) (hp0 : Arv Z h0 b k .char (1 : Int32) [(.int c0)] (.int (0 : Int32))) (hp1 : Arv Z h0 t kt .byte (1 : Int32) [(.int (0 : Int32))] (.int (0 : Int32))) (hp2 : n0 ≤ t) (hp3 : b ≠ t) (hh0 : ¬ ((255 : Int32) < c0)) :
    own_CP l Z M40 jdk_52_method_21_code 7 (some .int) ws R_cmp5_1 #[(.ref b), (.int (0 : Int32)), (.ref t), (.int (0 : Int32)), (.int (1 : Int32))] h0 (Q_cmp5_1 Z G1 kF kA b k t kt c0 h0 n0) := by
  refine own_P (plainFor_of_name pn_42) ?_
  intro p e s m below meth c s₁ S0 Bd hZ hh hx hby hml hown hnm X0 e0 hS0d
  obtain ⟨O1, P1, O2, O3, E2, F2, NE⟩ := id HG
  have N0 := Fr.nil n0
  have C0 : Steps p.tables e below S0 (s₁.setTop (mkF m 0 #[.val (.ref b), .val (.int (0 : Int32)), .val (.ref t), .val (.int (0 : Int32)), .val (.int (1 : Int32)), .unset, .unset] [])) := by rw [hS0d]; exact castTop (ef_41 m b (0 : Int32) t (0 : Int32) (1 : Int32)) (Steps.refl _)
  obtain ⟨c_1, A_2, q_3, S_4, M_5, H_6, U_7⟩ := id hp0
  have hin_8 : ¬ ((0 : Int32) < 0 ∨ c_1.slots.size ≤ (0 : Int32).toNatClampNeg) := inb_of S_4 ⟨(by decide : ¬ ((0 : Int32) < (0 : Int32))), (by decide : (0 : Int32) < (1 : Int32))⟩
  have hat_9 : c_1.slots[(0 : Int32).toNatClampNeg]? = some (.int c0) := Has.at H_6 hin_8 rfl
  obtain ⟨c_10, A_11, q_12, S_13, M_14, H_15, U_16⟩ := id hp1
  have hin_23 : ¬ ((0 : Int32) < 0 ∨ c_10.slots.size ≤ (0 : Int32).toNatClampNeg) := inb_of S_13 ⟨(by decide : ¬ ((0 : Int32) < (0 : Int32))), (by decide : (0 : Int32) < (1 : Int32))⟩
  obtain ⟨T_17, h_18, X_19, e_20, W_21, st_22⟩ := stB X0 hx hZ e0 A_11 (j := (0 : Int32)) hin_23 (g := (mkF m 31 #[.val (.ref b), .val (.int (0 : Int32)), .val (.ref t), .val (.int (0 : Int32)), .val (.int (1 : Int32)), .val (.int (0 : Int32)), .val (.int c0)] [(.int (c0.toInt8.toInt32)), (.int (0 : Int32)), (.ref t)])) rfl rfl (hb hby d2_31)
  have N_24 := Fr.snoc X_19 N0 hp2
  have V_25 : Arv Z h_18 t kt .byte (1 : Int32) [(.int (own_lo8 c0))] (.int (0 : Int32)) := Arv.set A_11 q_12 S_13 M_14 H_15 U_16 (fits_nar_byte _) W_21 0 rfl (Nat.le_of_ble_eq_true rfl)
  have C_26 : Steps p.tables e below S0 (T_17.setTop (mkF m 46 #[.val (.ref b), .val (.int (1 : Int32)), .val (.ref t), .val (.int (1 : Int32)), .val (.int (1 : Int32)), .val (.int (1 : Int32)), .val (.int c0)] [(.int (1 : Int32))])) := by
    refine C0.trans ?_
    refine XS.iconst X0.here hx rfl (hb hby d2_0) ?_
    refine XS.istore X0.here hx rfl (hb hby d2_1) rfl (l' := #[.val (.ref b), .val (.int (0 : Int32)), .val (.ref t), .val (.int (0 : Int32)), .val (.int (1 : Int32)), .val (.int (0 : Int32)), .unset]) rfl ?_
    refine XS.iload X0.here hx rfl (hb hby d2_3) rfl ?_
    refine XS.iload X0.here hx rfl (hb hby d2_5) rfl ?_
    refine XS.icmpNo X0.here hx rfl (hb hby d2_7) rfl (by decide) ?_
    refine XS.aloadN X0.here hx rfl (hb hby d2_10) rfl rfl ?_
    refine XS.iloadN X0.here hx rfl (hb hby d2_11) rfl ?_
    refine X0.caload hx (j := (0 : Int32)) (v := (.int c0)) (by rw [e0]; exact A_2.1) (State.isArrayOf_alike hZ.alike A_2.2.1) A_2.2.2 hin_8 hat_9 (g := (mkF m 12 #[.val (.ref b), .val (.int (0 : Int32)), .val (.ref t), .val (.int (0 : Int32)), .val (.int (1 : Int32)), .val (.int (0 : Int32)), .unset] [(.int (0 : Int32)), (.ref b)])) rfl rfl (hb hby d2_12) _ ?_
    show Steps p.tables e below (s₁.setTop (mkF m 13 #[.val (.ref b), .val (.int (0 : Int32)), .val (.ref t), .val (.int (0 : Int32)), .val (.int (1 : Int32)), .val (.int (0 : Int32)), .unset] [(.int c0)])) _
    refine XS.istore X0.here hx rfl (hb hby d2_13) rfl (l' := #[.val (.ref b), .val (.int (0 : Int32)), .val (.ref t), .val (.int (0 : Int32)), .val (.int (1 : Int32)), .val (.int (0 : Int32)), .val (.int c0)]) rfl ?_
    refine XS.iload X0.here hx rfl (hb hby d2_15) rfl ?_
    refine XS.sipush X0.here hx rfl (hb hby d2_17) ?_
    refine XS.icmpYes X0.here hx rfl (pc0 := 20) (pc' := 26) rfl (hb hby d2_20) rfl (ii_le_t hh0) (by decide) (by decide) ?_
    refine XS.aloadN X0.here hx rfl (hb hby d2_26) rfl rfl ?_
    refine XS.iloadN X0.here hx rfl (hb hby d2_27) rfl ?_
    refine XS.iload X0.here hx rfl (hb hby d2_28) rfl ?_
    refine XS.i2b X0.here hx rfl (hb hby d2_30) rfl ?_
    show Steps p.tables e below (s₁.setTop (mkF m 31 #[.val (.ref b), .val (.int (0 : Int32)), .val (.ref t), .val (.int (0 : Int32)), .val (.int (1 : Int32)), .val (.int (0 : Int32)), .val (.int c0)] [(.int (c0.toInt8.toInt32)), (.int (0 : Int32)), (.ref t)])) _
    refine st_22 _ ?_
    refine XS.iinc X_19.here hx rfl (hb hby d2_32) (x := (0 : Int32)) rfl (l' := #[.val (.ref b), .val (.int (1 : Int32)), .val (.ref t), .val (.int (0 : Int32)), .val (.int (1 : Int32)), .val (.int (0 : Int32)), .val (.int c0)]) rfl ?_
    refine XS.iinc X_19.here hx rfl (hb hby d2_35) (x := (0 : Int32)) rfl (l' := #[.val (.ref b), .val (.int (1 : Int32)), .val (.ref t), .val (.int (1 : Int32)), .val (.int (1 : Int32)), .val (.int (0 : Int32)), .val (.int c0)]) rfl ?_
    refine XS.iinc X_19.here hx rfl (hb hby d2_38) (x := (0 : Int32)) rfl (l' := #[.val (.ref b), .val (.int (1 : Int32)), .val (.ref t), .val (.int (1 : Int32)), .val (.int (1 : Int32)), .val (.int (1 : Int32)), .val (.int c0)]) rfl ?_
    refine XS.goto X_19.here hx rfl (pc0 := 41) (pc' := 3) rfl (hb hby d2_41) (by decide) (by decide) ?_
    refine XS.iload X_19.here hx rfl (hb hby d2_3) rfl ?_
    refine XS.iload X_19.here hx rfl (hb hby d2_5) rfl ?_
    refine XS.icmpYes X_19.here hx rfl (pc0 := 7) (pc' := 44) rfl (hb hby d2_7) rfl (by decide) (by decide) (by decide) ?_
    show Steps p.tables e below (T_17.setTop (mkF m 44 #[.val (.ref b), .val (.int (1 : Int32)), .val (.ref t), .val (.int (1 : Int32)), .val (.int (1 : Int32)), .val (.int (1 : Int32)), .val (.int c0)] [])) _
    refine XS.iload X_19.here hx rfl (hb hby d2_44) rfl ?_
    exact Steps.refl _
  have K_27 : Keep h0 h_18 [t] := ((Keep.refl _ _).wr W_21 (Or.inl (List.mem_of_getElem? (i := 0) rfl)))
  obtain ⟨fs, hr, hrun, hended, hW, hsame⟩ := X_19.leave (v := some (.int (1 : Int32))) (fun h => by rw [Bd.returns] at h; cases h)
  refine ⟨_, _, C_26.trans (retOut X_19 hx Bd.returns rfl (Or.inl ⟨rfl, Or.inl rfl, _, rfl⟩) (hb hby d2_46) hr), hrun, hended, _, _, rfl, ?_, ⟨_, rfl⟩, hW, hsame.mono (by decide) (by decide)⟩
  show Q_cmp5_1 Z G1 kF kA b k t kt c0 h0 n0 (some (.int (1 : Int32))) T_17.heap _
  rw [e_20]
  exact ⟨rfl, N_24, K_27, V_25⟩
abbrev M66 : MethodName := ⟨"java/lang/StringUTF16", "compress", "([CII)[B"⟩
theorem ef_67 (m : MethodId) (x0 : Addr) (x1 : Int32) (x2 : Int32) : entryFrame m #[(.ref x0), (.int x1), (.int x2)] 6 = mkF m 0 #[.val (.ref x0), .val (.int x1), .val (.int x2), .unset, .unset, .unset] [] := by first | (simp [entryFrame, mkF, argsToLocals, Value.category]; done) | rfl
theorem d3_0 : decode jdk_52_method_16_code 0 = .ok (.iload_n 2, 1) := by decide +kernel
theorem w20 {Z : State} {a0 : Array Value} (hw : ∀ d ∈ tables_1, d.before a0 Z = true) : Jvm.Cond.before (Jvm.Cond.arrayClass Jvm.ClassFile.FieldType.byte) a0 Z = true := hw _ (List.mem_of_getElem? (i := 20) rfl)
theorem d3_1 : decode jdk_52_method_16_code 1 = .ok (.newarray .byte, 2) := by decide +kernel
theorem d3_3 : decode jdk_52_method_16_code 3 = .ok (.astore_n 3, 1) := by decide +kernel
theorem d3_4 : decode jdk_52_method_16_code 4 = .ok (.aload_n 0, 1) := by decide +kernel
theorem d3_5 : decode jdk_52_method_16_code 5 = .ok (.iload_n 1, 1) := by decide +kernel
theorem d3_6 : decode jdk_52_method_16_code 6 = .ok (.aload_n 3, 1) := by decide +kernel
theorem d3_7 : decode jdk_52_method_16_code 7 = .ok (.iconst 0, 1) := by decide +kernel
theorem d3_8 : decode jdk_52_method_16_code 8 = .ok (.iload_n 2, 1) := by decide +kernel
theorem w103 {Z : State} {a0 : Array Value} (hw : ∀ d ∈ tables_1, d.before a0 Z = true) : Jvm.Cond.before (Jvm.Cond.code ({ cls := "java/lang/StringUTF16", name := "compress", desc := "([CI[BII)I" } : Jvm.MethodName) jdk_52_method_21_code (7 : Nat) (Option.some Jvm.ClassFile.FieldType.int)) a0 Z = true := hw _ (List.mem_of_getElem? (i := 103) rfl)
theorem w99 {Z : State} {a0 : Array Value} (hw : ∀ d ∈ tables_1, d.before a0 Z = true) : Jvm.Cond.before (Jvm.Cond.initialized "java/lang/StringUTF16") a0 Z = true := hw _ (List.mem_of_getElem? (i := 99) rfl)
theorem pd_79 : parseMethodDescriptor "([CI[BII)I" = some ⟨[(.array .char), .int, (.array .byte), .int, .int], some .int⟩ := by decide +kernel
theorem d3_9 : decode jdk_52_method_16_code 9 = .ok (.invokestatic 115, 3) := by decide +kernel
theorem w101 {Z : State} {a0 : Array Value} (hw : ∀ d ∈ tables_1, d.before a0 Z = true) : Jvm.Cond.before (Jvm.Cond.methodLink "java/lang/StringUTF16" (115 : Nat) ({ cls := "java/lang/StringUTF16", name := "compress", desc := "([CI[BII)I" } : Jvm.MethodName)) a0 Z = true := hw _ (List.mem_of_getElem? (i := 101) rfl)
theorem w102 {Z : State} {a0 : Array Value} (hw : ∀ d ∈ tables_1, d.before a0 Z = true) : Jvm.Cond.before (Jvm.Cond.static ({ cls := "java/lang/StringUTF16", name := "compress", desc := "([CI[BII)I" } : Jvm.MethodName)) a0 Z = true := hw _ (List.mem_of_getElem? (i := 102) rfl)
theorem d3_12 : decode jdk_52_method_16_code 12 = .ok (.istore 4, 2) := by decide +kernel
theorem d3_14 : decode jdk_52_method_16_code 14 = .ok (.iload 4, 2) := by decide +kernel
theorem d3_16 : decode jdk_52_method_16_code 16 = .ok (.iload_n 2, 1) := by decide +kernel
theorem d3_17 : decode jdk_52_method_16_code 17 = .ok (.if_icmp .eq 40, 3) := by decide +kernel
theorem d3_57 : decode jdk_52_method_16_code 57 = .ok (.aload_n 3, 1) := by decide +kernel
theorem d3_58 : decode jdk_52_method_16_code 58 = .ok (.areturn, 1) := by decide +kernel
abbrev R_cmp3_1 : Room := { frames := 1, cells := 1, slots := 1, locals := 18 }
def Q_cmp3_1 (Z : State) (G1 : Int32) (kF : Addr) (kA : Addr) (b : Addr) (k : ClassId) (c0 : Int32) (h0 : Heap) (n0 : Nat) (v : Option Value) (h : Heap) (L : List Loc) : Prop := (∃ t : Addr, ∃ kt : ClassId, v = some (.ref t) ∧ Fr n0 L ∧ Keep h0 h [] ∧ (h0.size ≤ t) ∧ (Arv Z h t kt .byte (1 : Int32) [(.int (own_lo8 c0))] (.int (0 : Int32))))
set_option maxRecDepth 65536 in
set_option maxHeartbeats 40000000 in
theorem rm_cmp3_1 (l : Launch) (Z : State) (a0 : Array Value) (hw : ∀ d ∈ tables_1, d.before a0 Z = true) (ws : List Jvm.Cond) (G1 : Int32) (kF : Addr) (kA : Addr) (HG : own_G l Z a0 G1 kF kA) (h0 : Heap) (n0 : Nat) (X00 : Old Z n0 h0) (b : Addr) (k : ClassId) (c0 : Int32) (hp0 : Arv Z h0 b k .char (1 : Int32) [(.int c0)] (.int (0 : Int32))) (hh0 : ¬ ((255 : Int32) < c0)) :
    own_CP l Z M66 jdk_52_method_16_code 6 (some (.array .byte)) ws R_cmp3_1 #[(.ref b), (.int (0 : Int32)), (.int (1 : Int32))] h0 (Q_cmp3_1 Z G1 kF kA b k c0 h0 n0) := by
  refine own_P (plainFor_of_name pn_42) ?_
  intro p e s m below meth c s₁ S0 Bd hZ hh hx hby hml hown hnm X0 e0 hS0d
  obtain ⟨O1, P1, O2, O3, E2, F2, NE⟩ := id HG
  have N0 := Fr.nil n0
  have C0 : Steps p.tables e below S0 (s₁.setTop (mkF m 0 #[.val (.ref b), .val (.int (0 : Int32)), .val (.int (1 : Int32)), .unset, .unset, .unset] [])) := by rw [hS0d]; exact castTop (ef_67 m b (0 : Int32) (1 : Int32)) (Steps.refl _)
  obtain ⟨T_1, h_2, k_3, X_4, e_5, E_6, A_7, st_8⟩ := newP (aty := .byte) X0 hx hZ (w20 hw) e0 (g := (mkF m 1 #[.val (.ref b), .val (.int (0 : Int32)), .val (.int (1 : Int32)), .unset, .unset, .unset] [(.int (1 : Int32))])) rfl (hb hby d3_1) rfl (by decide : ¬ ((1 : Int32) < (0 : Int32))) (cap := 1) (by decide : (1 : Int32).toNatClampNeg ≤ 1) (by decide) (by decide) (by decide)
  obtain ⟨a_9, g_10⟩ : ∃ z, z = h0.size := ⟨_, rfl⟩
  rw [← g_10] at A_7 st_8
  have V_12 : Arv Z h_2 a_9 k_3 .byte (1 : Int32) [] (.int (0 : Int32)) := Arv.new A_7 (by decide : ¬ ((1 : Int32) < (0 : Int32)))
  have V_11 : Arv Z h_2 a_9 k_3 .byte (1 : Int32) [(.int (0 : Int32))] (.int (0 : Int32)) := (V_12.pad (pad_rep [] (.int (0 : Int32)) 1))
  have V_13 : Arv Z h_2 b k .char (1 : Int32) [(.int c0)] (.int (0 : Int32)) := (hp0.ext E_6)
  have O_14 : Old Z n0 h_2 := (X00.ext E_6)
  obtain ⟨_, _, ⟨T_15, L_15, k_15, n_15⟩, -, X_15, ⟨Lc_15, hQ_15, l_15, y_15, z_15⟩, st_15⟩ := Jvm.LawKit.callS X_4 hx (y := M40) hown (mvT hZ (w101 hw)) (mvT hZ (w102 hw)) (mvT hZ (w99 hw)) (mvT hZ (w103 hw)) (by decide) (backOf (W := 0) (rm_cmp5_1 l Z a0 hw [] G1 kF kA HG h_2 n0 O_14 b k a_9 k_3 c0 V_13 V_11 (Nat.le_trans (own_n0 X00) (Nat.le_of_eq g_10.symm)) (Nat.ne_of_lt (Nat.lt_of_lt_of_le hp0.lt (Nat.le_trans (Nat.le_refl _) (Nat.le_of_eq g_10.symm)))) hh0) hZ (w103 hw) (w99 hw) (by decide) (by decide)) (g := (mkF m 9 #[.val (.ref b), .val (.int (0 : Int32)), .val (.int (1 : Int32)), .val (.ref a_9), .unset, .unset] [(.int (1 : Int32)), (.int (0 : Int32)), (.ref a_9), (.int (0 : Int32)), (.ref b)])) rfl (by rw [hml]; rfl) (argsL := [(.ref b), (.int (0 : Int32)), (.ref a_9), (.int (0 : Int32)), (.int (1 : Int32))]) (rest := []) (lenOf pd_79 rfl) rfl (by show 2 * 0 + _ ≤ _; exact Nat.le_of_eq rfl) (hb hby d3_9) (fun _ _ => ⟨rfl, e_5, (by decide : 1 + 0 ≤ _), (by decide : 1 + 0 ≤ _)⟩)
  dsimp only [Pt.U, Pt.locs, Pt.cells, Pt.slots] at X_15 l_15 y_15 z_15 st_15 hQ_15
  subst l_15 y_15 z_15
  obtain ⟨rfl, N_16, K_17, g_18⟩ := hQ_15
  have N_19 := Fr.app N0 N_16
  have C_20 : Steps p.tables e below S0 (T_15.setTop (mkF m 58 #[.val (.ref b), .val (.int (0 : Int32)), .val (.int (1 : Int32)), .val (.ref a_9), .val (.int (1 : Int32)), .unset] [(.ref a_9)])) := by
    refine C0.trans ?_
    refine XS.iloadN X0.here hx rfl (hb hby d3_0) rfl ?_
    refine st_8 _ ?_
    refine XS.astoreN X_4.here hx rfl (hb hby d3_3) rfl rfl (l' := #[.val (.ref b), .val (.int (0 : Int32)), .val (.int (1 : Int32)), .val (.ref a_9), .unset, .unset]) rfl ?_
    refine XS.aloadN X_4.here hx rfl (hb hby d3_4) rfl rfl ?_
    refine XS.iloadN X_4.here hx rfl (hb hby d3_5) rfl ?_
    refine XS.aloadN X_4.here hx rfl (hb hby d3_6) rfl rfl ?_
    refine XS.iconst X_4.here hx rfl (hb hby d3_7) ?_
    refine XS.iloadN X_4.here hx rfl (hb hby d3_8) rfl ?_
    show Steps p.tables e below (T_1.setTop (mkF m 9 #[.val (.ref b), .val (.int (0 : Int32)), .val (.int (1 : Int32)), .val (.ref a_9), .unset, .unset] [(.int (1 : Int32)), (.int (0 : Int32)), (.ref a_9), (.int (0 : Int32)), (.ref b)])) _
    refine st_15 _ ?_
    refine XS.istore X_15.here hx rfl (hb hby d3_12) rfl (l' := #[.val (.ref b), .val (.int (0 : Int32)), .val (.int (1 : Int32)), .val (.ref a_9), .val (.int (1 : Int32)), .unset]) rfl ?_
    refine XS.iload X_15.here hx rfl (hb hby d3_14) rfl ?_
    refine XS.iloadN X_15.here hx rfl (hb hby d3_16) rfl ?_
    refine XS.icmpYes X_15.here hx rfl (pc0 := 17) (pc' := 57) rfl (hb hby d3_17) rfl (by decide) (by decide) (by decide) ?_
    refine XS.aloadN X_15.here hx rfl (hb hby d3_57) rfl rfl ?_
    exact Steps.refl _
  have K_21 : Keep h0 T_15.heap [] := (((Keep.refl _ _).ext E_6).trans K_17 (allS (Or.inr (Nat.le_trans (Nat.le_refl _) (Nat.le_of_eq g_10.symm))) all0))
  obtain ⟨fs, hr, hrun, hended, hW, hsame⟩ := X_15.leave (v := some (.ref a_9)) (fun h => by rw [Bd.returns] at h; cases h)
  refine ⟨_, _, C_20.trans (retOut X_15 hx Bd.returns rfl (Or.inr (Or.inr (Or.inr (Or.inr ⟨rfl, rfl, rfl⟩)))) (hb hby d3_58) hr), hrun, hended, _, _, rfl, ?_, ⟨_, rfl⟩, hW, hsame.mono (by decide) (by decide)⟩
  show Q_cmp3_1 Z G1 kF kA b k c0 h0 n0 (some (.ref a_9)) T_15.heap _
  exact ⟨a_9, k_3, rfl, N_19, K_21, (Nat.le_trans (Nat.le_refl _) (Nat.le_of_eq g_10.symm)), g_18⟩
abbrev M89 : MethodName := ⟨"java/lang/StringUTF16", "coderFromArrayLen", "([BI)B"⟩
theorem ef_90 (m : MethodId) (x0 : Addr) (x1 : Int32) : entryFrame m #[(.ref x0), (.int x1)] 2 = mkF m 0 #[.val (.ref x0), .val (.int x1)] [] := by first | (simp [entryFrame, mkF, argsToLocals, Value.category]; done) | rfl
theorem d4_0 : decode jdk_52_method_15_code 0 = .ok (.iload_n 1, 1) := by decide +kernel
theorem d4_1 : decode jdk_52_method_15_code 1 = .ok (.aload_n 0, 1) := by decide +kernel
theorem d4_2 : decode jdk_52_method_15_code 2 = .ok (.arraylength, 1) := by decide +kernel
theorem d4_3 : decode jdk_52_method_15_code 3 = .ok (.isub, 1) := by decide +kernel
theorem d4_4 : decode jdk_52_method_15_code 4 = .ok (.bipush 31, 2) := by decide +kernel
theorem d4_6 : decode jdk_52_method_15_code 6 = .ok (.iushr, 1) := by decide +kernel
theorem d4_7 : decode jdk_52_method_15_code 7 = .ok (.i2b, 1) := by decide +kernel
theorem d4_8 : decode jdk_52_method_15_code 8 = .ok (.ireturn, 1) := by decide +kernel
abbrev R_codl_1 : Room := { frames := 0, cells := 0, slots := 0, locals := 0 }
def Q_codl_1 (Z : State) (G1 : Int32) (kF : Addr) (kA : Addr) (t : Addr) (kt : ClassId) (y0 : Int32) (h0 : Heap) (n0 : Nat) (v : Option Value) (h : Heap) (L : List Loc) : Prop := (v = some (.int (0 : Int32)) ∧ Fr n0 L ∧ h = h0)
set_option maxRecDepth 65536 in
set_option maxHeartbeats 40000000 in
theorem rm_codl_1 (l : Launch) (Z : State) (a0 : Array Value) (hw : ∀ d ∈ tables_1, d.before a0 Z = true) (ws : List Jvm.Cond) (G1 : Int32) (kF : Addr) (kA : Addr) (HG : own_G l Z a0 G1 kF kA) (h0 : Heap) (n0 : Nat) (X00 : Old Z n0 h0) (t : Addr) (kt : ClassId) (y0 : Int32) (hp0 : Arv Z h0 t kt .byte (1 : Int32) [(.int y0)] (.int (0 : Int32))) :
    own_CP l Z M89 jdk_52_method_15_code 2 (some .byte) ws R_codl_1 #[(.ref t), (.int (1 : Int32))] h0 (Q_codl_1 Z G1 kF kA t kt y0 h0 n0) := by
  refine own_P (plainFor_of_name pn_42) ?_
  intro p e s m below meth c s₁ S0 Bd hZ hh hx hby hml hown hnm X0 e0 hS0d
  obtain ⟨O1, P1, O2, O3, E2, F2, NE⟩ := id HG
  have N0 := Fr.nil n0
  have C0 : Steps p.tables e below S0 (s₁.setTop (mkF m 0 #[.val (.ref t), .val (.int (1 : Int32))] [])) := by rw [hS0d]; exact castTop (ef_90 m t (1 : Int32)) (Steps.refl _)
  obtain ⟨c_1, A_2, q_3, S_4, M_5, H_6, U_7⟩ := id hp0
  have C_8 : Steps p.tables e below S0 (s₁.setTop (mkF m 8 #[.val (.ref t), .val (.int (1 : Int32))] [(.int (0 : Int32))])) := by
    refine C0.trans ?_
    refine XS.iloadN X0.here hx rfl (hb hby d4_0) rfl ?_
    refine XS.aloadN X0.here hx rfl (hb hby d4_1) rfl rfl ?_
    refine X0.arraylength hx (by rw [e0]; exact A_2.1) (State.isArrayOf_alike hZ.alike A_2.2.1) (g := (mkF m 2 #[.val (.ref t), .val (.int (1 : Int32))] [(.ref t), (.int (1 : Int32))])) rfl rfl (hb hby d4_2) _ ?_
    rw [len_of S_4 M_5]
    refine XS.isub X0.here hx rfl (hb hby d4_3) rfl ?_
    refine XS.bipush X0.here hx rfl (hb hby d4_4) ?_
    refine XS.iushr X0.here hx rfl (hb hby d4_6) rfl ?_
    refine XS.i2b X0.here hx rfl (hb hby d4_7) rfl ?_
    exact Steps.refl _
  obtain ⟨fs, hr, hrun, hended, hW, hsame⟩ := X0.leave (v := some (.int (0 : Int32))) (fun h => by rw [Bd.returns] at h; cases h)
  refine ⟨_, _, C_8.trans (retN X0 hx (t := .byte) Bd.returns (by simp) (hb hby d4_8) hr), hrun, hended, _, _, rfl, ?_, ⟨_, rfl⟩, hW, hsame.mono (by decide) (by decide)⟩
  show Q_codl_1 Z G1 kF kA t kt y0 h0 n0 (some (.int (0 : Int32))) s₁.heap _
  rw [e0]
  exact ⟨rfl, N0, rfl⟩
theorem w86 {Z : State} {a0 : Array Value} (hw : ∀ d ∈ tables_1, d.before a0 Z = true) : Jvm.Cond.before (Jvm.Cond.fieldLink "java/lang/String" (38 : Nat) "java/lang/String" "COMPACT_STRINGS" "Z") a0 Z = true := hw _ (List.mem_of_getElem? (i := 86) rfl)
theorem d0_27 : decode jdk_42_method_149_code 27 = .ok (.getstatic 38, 3) := by decide +kernel
theorem d0_30 : decode jdk_42_method_149_code 30 = .ok (.ifCond .eq 28, 3) := by decide +kernel
theorem d0_33 : decode jdk_42_method_149_code 33 = .ok (.aload_n 1, 1) := by decide +kernel
theorem d0_34 : decode jdk_42_method_149_code 34 = .ok (.iload_n 2, 1) := by decide +kernel
theorem d0_35 : decode jdk_42_method_149_code 35 = .ok (.iload_n 3, 1) := by decide +kernel
theorem w100 {Z : State} {a0 : Array Value} (hw : ∀ d ∈ tables_1, d.before a0 Z = true) : Jvm.Cond.before (Jvm.Cond.code ({ cls := "java/lang/StringUTF16", name := "compress", desc := "([CII)[B" } : Jvm.MethodName) jdk_52_method_16_code (6 : Nat) (Option.some (Jvm.ClassFile.FieldType.array Jvm.ClassFile.FieldType.byte))) a0 Z = true := hw _ (List.mem_of_getElem? (i := 100) rfl)
theorem pd_106 : parseMethodDescriptor "([CII)[B" = some ⟨[(.array .char), .int, .int], some (.array .byte)⟩ := by decide +kernel
theorem d0_36 : decode jdk_42_method_149_code 36 = .ok (.invokestatic 177, 3) := by decide +kernel
theorem w97 {Z : State} {a0 : Array Value} (hw : ∀ d ∈ tables_1, d.before a0 Z = true) : Jvm.Cond.before (Jvm.Cond.methodLink "java/lang/String" (177 : Nat) ({ cls := "java/lang/StringUTF16", name := "compress", desc := "([CII)[B" } : Jvm.MethodName)) a0 Z = true := hw _ (List.mem_of_getElem? (i := 97) rfl)
theorem w98 {Z : State} {a0 : Array Value} (hw : ∀ d ∈ tables_1, d.before a0 Z = true) : Jvm.Cond.before (Jvm.Cond.static ({ cls := "java/lang/StringUTF16", name := "compress", desc := "([CII)[B" } : Jvm.MethodName)) a0 Z = true := hw _ (List.mem_of_getElem? (i := 98) rfl)
theorem d0_39 : decode jdk_42_method_149_code 39 = .ok (.astore 5, 2) := by decide +kernel
theorem d0_41 : decode jdk_42_method_149_code 41 = .ok (.aload_n 0, 1) := by decide +kernel
theorem d0_42 : decode jdk_42_method_149_code 42 = .ok (.aload 5, 2) := by decide +kernel
theorem d0_44 : decode jdk_42_method_149_code 44 = .ok (.iload_n 3, 1) := by decide +kernel
theorem w106 {Z : State} {a0 : Array Value} (hw : ∀ d ∈ tables_1, d.before a0 Z = true) : Jvm.Cond.before (Jvm.Cond.code ({ cls := "java/lang/StringUTF16", name := "coderFromArrayLen", desc := "([BI)B" } : Jvm.MethodName) jdk_52_method_15_code (2 : Nat) (Option.some Jvm.ClassFile.FieldType.byte)) a0 Z = true := hw _ (List.mem_of_getElem? (i := 106) rfl)
theorem pd_115 : parseMethodDescriptor "([BI)B" = some ⟨[(.array .byte), .int], some .byte⟩ := by decide +kernel
theorem d0_45 : decode jdk_42_method_149_code 45 = .ok (.invokestatic 47, 3) := by decide +kernel
theorem w104 {Z : State} {a0 : Array Value} (hw : ∀ d ∈ tables_1, d.before a0 Z = true) : Jvm.Cond.before (Jvm.Cond.methodLink "java/lang/String" (47 : Nat) ({ cls := "java/lang/StringUTF16", name := "coderFromArrayLen", desc := "([BI)B" } : Jvm.MethodName)) a0 Z = true := hw _ (List.mem_of_getElem? (i := 104) rfl)
theorem w105 {Z : State} {a0 : Array Value} (hw : ∀ d ∈ tables_1, d.before a0 Z = true) : Jvm.Cond.before (Jvm.Cond.static ({ cls := "java/lang/StringUTF16", name := "coderFromArrayLen", desc := "([BI)B" } : Jvm.MethodName)) a0 Z = true := hw _ (List.mem_of_getElem? (i := 105) rfl)
theorem d0_48 : decode jdk_42_method_149_code 48 = .ok (.putfield 15, 3) := by decide +kernel
theorem d0_51 : decode jdk_42_method_149_code 51 = .ok (.aload_n 0, 1) := by decide +kernel
theorem d0_52 : decode jdk_42_method_149_code 52 = .ok (.aload 5, 2) := by decide +kernel
theorem d0_54 : decode jdk_42_method_149_code 54 = .ok (.putfield 9, 3) := by decide +kernel
theorem d0_57 : decode jdk_42_method_149_code 57 = .ok (.return_, 1) := by decide +kernel
abbrev R_si4_1 : Room := { frames := 2, cells := 1, slots := 1, locals := 35 }
def Q_si4_1 (Z : State) (G1 : Int32) (kF : Addr) (kA : Addr) (x : Addr) (b : Addr) (k : ClassId) (c0 : Int32) (h0 : Heap) (n0 : Nat) (v : Option Value) (h : Heap) (L : List Loc) : Prop := (∃ t : Addr, ∃ kt : ClassId, v = none ∧ Fr n0 L ∧ Keep h0 h [x] ∧ (Exa Z h x "java/lang/String") ∧ (Fld Z h x "java/lang/String" "coder" "B" (.int (0 : Int32))) ∧ (Fld Z h x "java/lang/String" "value" "[B" (.ref t)) ∧ (h0.size ≤ t) ∧ (Arv Z h t kt .byte (1 : Int32) [(.int (own_lo8 c0))] (.int (0 : Int32))))
set_option maxRecDepth 65536 in
set_option maxHeartbeats 40000000 in
theorem rm_si4_1 (l : Launch) (Z : State) (a0 : Array Value) (hw : ∀ d ∈ tables_1, d.before a0 Z = true) (ws : List Jvm.Cond) (G1 : Int32) (kF : Addr) (kA : Addr) (HG : own_G l Z a0 G1 kF kA) (h0 : Heap) (n0 : Nat) (X00 : Old Z n0 h0) (x : Addr) (b : Addr) (k : ClassId) (c0 : Int32) (hp0 : Exa Z h0 x "java/lang/String") (hp1 : Fld Z h0 x "java/lang/String" "value" "[B" .null) (hp2 : Fld Z h0 x "java/lang/String" "coder" "B" (.int (0 : Int32))) (hp3 : n0 ≤ x) (hp4 : Arv Z h0 b k .char (1 : Int32) [(.int c0)] (.int (0 : Int32))) (hh0 : ¬ ((255 : Int32) < c0)) :
    own_CP l Z M0 jdk_42_method_149_code 6 none ws R_si4_1 #[(.ref x), (.ref b), (.int (0 : Int32)), (.int (1 : Int32)), .null] h0 (Q_si4_1 Z G1 kF kA x b k c0 h0 n0) := by
  refine own_P (plainFor_of_name pn_2) ?_
  intro p e s m below meth c s₁ S0 Bd hZ hh hx hby hml hown hnm X0 e0 hS0d
  obtain ⟨O1, P1, O2, O3, E2, F2, NE⟩ := id HG
  have N0 := Fr.nil n0
  have C0 : Steps p.tables e below S0 (s₁.setTop (mkF m 0 #[.val (.ref x), .val (.ref b), .val (.int (0 : Int32)), .val (.int (1 : Int32)), .val .null, .unset] [])) := by rw [hS0d]; exact castTop (ef_1 m x b (0 : Int32) (1 : Int32)) (Steps.refl _)
  obtain ⟨T_1, X_2, e_3, st_4⟩ := initO X0 hx hZ hown (w16 hw) (w17 hw) (w18 hw) e0 (g := (mkF m 1 #[.val (.ref x), .val (.ref b), .val (.int (0 : Int32)), .val (.int (1 : Int32)), .val .null, .unset] [(.ref x)])) rfl (by rw [hml]; rfl) rfl (hb hby d0_1) (by decide) (W := 0) (by show 2 * 0 + _ ≤ _; exact Nat.le_of_eq rfl) (by decide)
  obtain ⟨T_5, X_6, e_7, st_8⟩ := getS X_2 hx hZ (host := "") hown (w86 hw) Via.refl e_3 (O1.ext X00.2) (g := (mkF m 27 #[.val (.ref x), .val (.ref b), .val (.int (0 : Int32)), .val (.int (1 : Int32)), .val .null, .unset] [])) rfl (hb hby d0_27)
  obtain ⟨_, _, ⟨T_9, L_9, k_9, n_9⟩, -, X_9, ⟨Lc_9, hQ_9, l_9, y_9, z_9⟩, st_9⟩ := Jvm.LawKit.callS X_6 hx (y := M66) hown (mvT hZ (w97 hw)) (mvT hZ (w98 hw)) (mvT hZ (w99 hw)) (mvT hZ (w100 hw)) (by decide) (backOf (W := 0) (rm_cmp3_1 l Z a0 hw [] G1 kF kA HG h0 n0 X00 b k c0 hp4 hh0) hZ (w100 hw) (w99 hw) (by decide) (by decide)) (g := (mkF m 36 #[.val (.ref x), .val (.ref b), .val (.int (0 : Int32)), .val (.int (1 : Int32)), .val .null, .unset] [(.int (1 : Int32)), (.int (0 : Int32)), (.ref b)])) rfl (by rw [hml]; rfl) (argsL := [(.ref b), (.int (0 : Int32)), (.int (1 : Int32))]) (rest := []) (lenOf pd_106 rfl) rfl (by show 2 * 0 + _ ≤ _; exact Nat.le_of_eq rfl) (hb hby d0_36) (fun _ _ => ⟨rfl, e_7, (by decide : 0 + 1 ≤ _), (by decide : 0 + 1 ≤ _)⟩)
  dsimp only [Pt.U, Pt.locs, Pt.cells, Pt.slots] at X_9 l_9 y_9 z_9 st_9 hQ_9
  subst l_9 y_9 z_9
  obtain ⟨a_10, k_11, rfl, N_12, K_13, g_14, g_15⟩ := hQ_9
  have N_16 := Fr.app N0 N_12
  have O_17 : Old Z n0 T_9.heap := (X00.keep K_13 all0)
  obtain ⟨_, _, ⟨T_18, L_18, k_18, n_18⟩, -, X_18, ⟨Lc_18, hQ_18, l_18, y_18, z_18⟩, st_18⟩ := Jvm.LawKit.callS X_9 hx (y := M89) hown (mvT hZ (w104 hw)) (mvT hZ (w105 hw)) (mvT hZ (w99 hw)) (mvT hZ (w106 hw)) (by decide) (backOf (W := 1) (rm_codl_1 l Z a0 hw [] G1 kF kA HG T_9.heap n0 O_17 a_10 k_11 (own_lo8 c0) g_15) hZ (w106 hw) (w99 hw) (by decide) (by decide)) (g := (mkF m 45 #[.val (.ref x), .val (.ref b), .val (.int (0 : Int32)), .val (.int (1 : Int32)), .val .null, .val (.ref a_10)] [(.int (1 : Int32)), (.ref a_10), (.ref x)])) rfl (by rw [hml]; rfl) (argsL := [(.ref a_10), (.int (1 : Int32))]) (rest := [(.ref x)]) (lenOf pd_115 rfl) rfl (by show 2 * 0 + _ ≤ _; exact Nat.le_of_eq rfl) (hb hby d0_45) (fun _ _ => ⟨rfl, rfl, (by decide : 1 + 0 ≤ _), (by decide : 1 + 0 ≤ _)⟩)
  dsimp only [Pt.U, Pt.locs, Pt.cells, Pt.slots] at X_18 l_18 y_18 z_18 st_18 hQ_18
  subst l_18 y_18 z_18
  obtain ⟨rfl, N_19, e_20⟩ := hQ_18
  have N_21 := Fr.app N_16 N_19
  have e_22 : T_18.heap = T_9.heap := e_20
  have F_23 : Fld Z T_9.heap x "java/lang/String" "coder" "B" (.int (0 : Int32)) := (hp2.keep K_13 nin0)
  have E_24 : Exa Z T_9.heap x "java/lang/String" := (hp0.keep K_13)
  obtain ⟨T_25, h_26, X_27, e_28, W_29, st_30⟩ := putF X_18 hx hZ hown (host := "") (Or.inl (w26 hw)) Via.refl e_22 F_23 E_24 (Or.inr ⟨(w22 hw), rfl, hnm⟩) (w2 hw) (ty := .byte) (by decide) rfl (by decide) (g := (mkF m 48 #[.val (.ref x), .val (.ref b), .val (.int (0 : Int32)), .val (.int (1 : Int32)), .val .null, .val (.ref a_10)] [(.int (0 : Int32)), (.ref x)])) rfl rfl (hb hby d0_48)
  have N_31 := Fr.snoc X_27 N_21 hp3
  have F_32 : Fld Z h_26 x "java/lang/String" "coder" "B" (.int (0 : Int32)) := F_23.same W_29
  have F_33 : Fld Z h_26 x "java/lang/String" "value" "[B" .null := ((hp1.keep K_13 nin0).other W_29 (Or.inr (slot_ne (Or.inr (w21 hw)) (Or.inr (w22 hw)) (by decide) (t := (.array .byte)) (by decide) (t' := .byte) (by decide))))
  have E_34 : Exa Z h_26 x "java/lang/String" := (E_24.wr W_29)
  obtain ⟨T_35, h_36, X_37, e_38, W_39, st_40⟩ := putF X_27 hx hZ hown (host := "") (Or.inl (w25 hw)) Via.refl e_28 F_33 E_34 (Or.inr ⟨(w21 hw), rfl, hnm⟩) (w2 hw) (ty := (.array .byte)) (by decide) rfl rfl (g := (mkF m 54 #[.val (.ref x), .val (.ref b), .val (.int (0 : Int32)), .val (.int (1 : Int32)), .val .null, .val (.ref a_10)] [(.ref a_10), (.ref x)])) rfl rfl (hb hby d0_54)
  have N_41 := Fr.snoc X_37 N_31 hp3
  have F_42 : Fld Z h_36 x "java/lang/String" "value" "[B" (.ref a_10) := F_33.same W_39
  have C_43 : Steps p.tables e below S0 (T_35.setTop (mkF m 57 #[.val (.ref x), .val (.ref b), .val (.int (0 : Int32)), .val (.int (1 : Int32)), .val .null, .val (.ref a_10)] [])) := by
    refine C0.trans ?_
    refine XS.aloadN X0.here hx rfl (hb hby d0_0) rfl rfl ?_
    refine st_4 _ ?_
    refine XS.iloadN X_2.here hx rfl (hb hby d0_4) rfl ?_
    refine XS.ifYes X_2.here hx rfl (pc0 := 5) (pc' := 27) rfl (hb hby d0_5) rfl (by decide) (by decide) (by decide) ?_
    refine st_8 _ ?_
    refine XS.ifNo X_6.here hx rfl (hb hby d0_30) rfl (i0_eq_f P1) ?_
    refine XS.aloadN X_6.here hx rfl (hb hby d0_33) rfl rfl ?_
    refine XS.iloadN X_6.here hx rfl (hb hby d0_34) rfl ?_
    show Steps p.tables e below (T_5.setTop (mkF m 35 #[.val (.ref x), .val (.ref b), .val (.int (0 : Int32)), .val (.int (1 : Int32)), .val .null, .unset] [(.int (0 : Int32)), (.ref b)])) _
    refine XS.iloadN X_6.here hx rfl (hb hby d0_35) rfl ?_
    refine st_9 _ ?_
    refine XS.astore X_9.here hx rfl (hb hby d0_39) rfl rfl (l' := #[.val (.ref x), .val (.ref b), .val (.int (0 : Int32)), .val (.int (1 : Int32)), .val .null, .val (.ref a_10)]) rfl ?_
    refine XS.aloadN X_9.here hx rfl (hb hby d0_41) rfl rfl ?_
    refine XS.aload X_9.here hx rfl (hb hby d0_42) rfl rfl ?_
    refine XS.iloadN X_9.here hx rfl (hb hby d0_44) rfl ?_
    refine st_18 _ ?_
    refine st_30 _ ?_
    show Steps p.tables e below (T_25.setTop (mkF m 51 #[.val (.ref x), .val (.ref b), .val (.int (0 : Int32)), .val (.int (1 : Int32)), .val .null, .val (.ref a_10)] [])) _
    refine XS.aloadN X_27.here hx rfl (hb hby d0_51) rfl rfl ?_
    refine XS.aload X_27.here hx rfl (hb hby d0_52) rfl rfl ?_
    refine st_40 _ ?_
    exact Steps.refl _
  have E_44 : Exa Z h_36 x "java/lang/String" := (E_34.wr W_39)
  have F_45 : Fld Z h_36 x "java/lang/String" "coder" "B" (.int (0 : Int32)) := (F_32.other W_39 (Or.inr (slot_ne (Or.inr (w22 hw)) (Or.inr (w21 hw)) (by decide) (t := .byte) (by decide) (t' := (.array .byte)) (by decide))))
  have V_46 : Arv Z h_36 a_10 k_11 .byte (1 : Int32) [(.int (own_lo8 c0))] (.int (0 : Int32)) := ((g_15.other W_29 (Ne.symm (Nat.ne_of_lt (Nat.lt_of_lt_of_le hp0.lt (Nat.le_trans (Nat.le_refl _) g_14))))).other W_39 (Ne.symm (Nat.ne_of_lt (Nat.lt_of_lt_of_le hp0.lt (Nat.le_trans (Nat.le_refl _) g_14)))))
  have K_47 : Keep h0 h_36 [x] := ((((Keep.refl _ _).trans K_13 all0).wr W_29 (Or.inl (List.mem_of_getElem? (i := 0) rfl))).wr W_39 (Or.inl (List.mem_of_getElem? (i := 0) rfl)))
  obtain ⟨fs, hr, hrun, hended, hW, hsame⟩ := X_37.leave (v := none) (fun _ => rfl)
  refine ⟨_, _, C_43.trans (X_37.returnOut hx Bd.returns (hb hby d0_57) hr), hrun, hended, _, _, rfl, ?_, ⟨_, rfl⟩, hW, hsame.mono (by decide) (by decide)⟩
  show Q_si4_1 Z G1 kF kA x b k c0 h0 n0 (none) T_35.heap _
  rw [e_38]
  exact ⟨a_10, k_11, rfl, N_41, K_47, E_44, F_45, F_42, (Nat.le_trans (Nat.le_refl _) g_14), V_46⟩
abbrev R_si1_1 : Room := { frames := 3, cells := 1, slots := 1, locals := 52 }
def Q_si1_1 (Z : State) (G1 : Int32) (kF : Addr) (kA : Addr) (x : Addr) (b : Addr) (k : ClassId) (c0 : Int32) (h0 : Heap) (n0 : Nat) (v : Option Value) (h : Heap) (L : List Loc) : Prop := (∃ t : Addr, ∃ kt : ClassId, v = none ∧ Fr n0 L ∧ Keep h0 h [x] ∧ (Exa Z h x "java/lang/String") ∧ (Fld Z h x "java/lang/String" "coder" "B" (.int (0 : Int32))) ∧ (Fld Z h x "java/lang/String" "value" "[B" (.ref t)) ∧ (h0.size ≤ t) ∧ (Arv Z h t kt .byte (1 : Int32) [(.int (own_lo8 c0))] (.int (0 : Int32))))
set_option maxRecDepth 65536 in
set_option maxHeartbeats 40000000 in
theorem rm_si1_1 (l : Launch) (Z : State) (a0 : Array Value) (hw : ∀ d ∈ tables_1, d.before a0 Z = true) (ws : List Jvm.Cond) (G1 : Int32) (kF : Addr) (kA : Addr) (HG : own_G l Z a0 G1 kF kA) (h0 : Heap) (n0 : Nat) (X00 : Old Z n0 h0) (x : Addr) (b : Addr) (k : ClassId) (c0 : Int32) (hp0 : Exa Z h0 x "java/lang/String") (hp1 : Fld Z h0 x "java/lang/String" "value" "[B" .null) (hp2 : Fld Z h0 x "java/lang/String" "coder" "B" (.int (0 : Int32))) (hp3 : n0 ≤ x) (hp4 : Arv Z h0 b k .char (1 : Int32) [(.int c0)] (.int (0 : Int32))) (hh0 : ¬ ((255 : Int32) < c0)) :
    own_CP l Z M25 jdk_42_method_3_code 2 none ws R_si1_1 #[(.ref x), (.ref b)] h0 (Q_si1_1 Z G1 kF kA x b k c0 h0 n0) := by
  refine own_P (plainFor_of_name pn_2) ?_
  intro p e s m below meth c s₁ S0 Bd hZ hh hx hby hml hown hnm X0 e0 hS0d
  obtain ⟨O1, P1, O2, O3, E2, F2, NE⟩ := id HG
  have N0 := Fr.nil n0
  have C0 : Steps p.tables e below S0 (s₁.setTop (mkF m 0 #[.val (.ref x), .val (.ref b)] [])) := by rw [hS0d]; exact castTop (ef_26 m x b) (Steps.refl _)
  obtain ⟨c_1, A_2, q_3, S_4, M_5, H_6, U_7⟩ := id hp4
  obtain ⟨_, _, ⟨T_8, L_8, k_8, n_8⟩, -, X_8, ⟨Lc_8, hQ_8, l_8, y_8, z_8⟩, st_8⟩ := X0.specialBack hx (y := M0) rfl hown (mvT hZ (w12 hw)) (mvT hZ (w13 hw)) (mvT hZ (w15 hw)) (by decide) (backOf (W := 0) (rm_si4_1 l Z a0 hw [] G1 kF kA HG h0 n0 X00 x b k c0 hp0 hp1 hp2 hp3 hp4 hh0) hZ (w15 hw) (w3 hw) (by decide) (by decide)) (g := (mkF m 6 #[.val (.ref x), .val (.ref b)] [.null, (.int (1 : Int32)), (.int (0 : Int32)), (.ref b), (.ref x)])) rfl (by rw [hml]; rfl) (Steps.refl _) (a := x) (argsL := [(.ref b), (.int (0 : Int32)), (.int (1 : Int32)), .null]) (rest := []) (lenOf pd_35 rfl) rfl (by show 2 * 0 + _ ≤ _; exact Nat.le_of_eq rfl) (hb hby d1_6) (fun _ _ => ⟨rfl, e0, (by decide : 0 + 1 ≤ _), (by decide : 0 + 1 ≤ _)⟩)
  dsimp only [Pt.U, Pt.locs, Pt.cells, Pt.slots] at X_8 l_8 y_8 z_8 st_8 hQ_8
  subst l_8 y_8 z_8
  obtain ⟨a_9, k_10, rfl, N_11, K_12, g_13, g_14, g_15, g_16, g_17⟩ := hQ_8
  have N_18 := Fr.app N0 N_11
  have C_19 : Steps p.tables e below S0 (T_8.setTop (mkF m 9 #[.val (.ref x), .val (.ref b)] [])) := by
    refine C0.trans ?_
    refine XS.aloadN X0.here hx rfl (hb hby d1_0) rfl rfl ?_
    refine XS.aloadN X0.here hx rfl (hb hby d1_1) rfl rfl ?_
    refine XS.iconst X0.here hx rfl (hb hby d1_2) ?_
    refine XS.aloadN X0.here hx rfl (hb hby d1_3) rfl rfl ?_
    refine X0.arraylength hx (by rw [e0]; exact A_2.1) (State.isArrayOf_alike hZ.alike A_2.2.1) (g := (mkF m 4 #[.val (.ref x), .val (.ref b)] [(.ref b), (.int (0 : Int32)), (.ref b), (.ref x)])) rfl rfl (hb hby d1_4) _ ?_
    rw [len_of S_4 M_5]
    refine XS.aconstNull X0.here hx rfl (hb hby d1_5) ?_
    refine st_8.trans ?_
    exact Steps.refl _
  have K_20 : Keep h0 T_8.heap [x] := ((Keep.refl _ _).trans K_12 (allS (Or.inl (List.mem_of_getElem? (i := 0) rfl)) all0))
  obtain ⟨fs, hr, hrun, hended, hW, hsame⟩ := X_8.leave (v := none) (fun _ => rfl)
  refine ⟨_, _, C_19.trans (X_8.returnOut hx Bd.returns (hb hby d1_9) hr), hrun, hended, _, _, rfl, ?_, ⟨_, rfl⟩, hW, hsame.mono (by decide) (by decide)⟩
  show Q_si1_1 Z G1 kF kA x b k c0 h0 n0 (none) T_8.heap _
  exact ⟨a_9, k_10, rfl, N_18, K_20, g_13, g_14, g_15, (Nat.le_trans (Nat.le_refl _) g_16), g_17⟩
abbrev R_cmp5_2 : Room := { frames := 0, cells := 0, slots := 0, locals := 0 }
def Q_cmp5_2 (Z : State) (G1 : Int32) (kF : Addr) (kA : Addr) (b : Addr) (k : ClassId) (t : Addr) (kt : ClassId) (c0 : Int32) (c1 : Int32) (h0 : Heap) (n0 : Nat) (v : Option Value) (h : Heap) (L : List Loc) : Prop := (v = some (.int (2 : Int32)) ∧ Fr n0 L ∧ Keep h0 h [t] ∧ (Arv Z h t kt .byte (2 : Int32) [(.int (own_lo8 c0)), (.int (own_lo8 c1))] (.int (0 : Int32))))
set_option maxRecDepth 65536 in
set_option maxHeartbeats 40000000 in
theorem rm_cmp5_2 (l : Launch) (Z : State) (a0 : Array Value) (hw : ∀ d ∈ tables_1, d.before a0 Z = true) (ws : List Jvm.Cond) (G1 : Int32) (kF : Addr) (kA : Addr) (HG : own_G l Z a0 G1 kF kA) (h0 : Heap) (n0 : Nat) (X00 : Old Z n0 h0) (b : Addr) (k : ClassId) (t : Addr) (kt : ClassId) (c0 : Int32) (c1 : Int32) (hp0 : Arv Z h0 b k .char (2 : Int32) [(.int c0), (.int c1)] (.int (0 : Int32))) (hp1 : Arv Z h0 t kt .byte (2 : Int32) [(.int (0 : Int32)), (.int (0 : Int32))] (.int (0 : Int32))) (hp2 : n0 ≤ t) (hp3 : b ≠ t) (hh0 : ¬ ((255 : Int32) < c0)) (hh1 : ¬ ((255 : Int32) < c1)) :
    own_CP l Z M40 jdk_52_method_21_code 7 (some .int) ws R_cmp5_2 #[(.ref b), (.int (0 : Int32)), (.ref t), (.int (0 : Int32)), (.int (2 : Int32))] h0 (Q_cmp5_2 Z G1 kF kA b k t kt c0 c1 h0 n0) := by
  refine own_P (plainFor_of_name pn_42) ?_
  intro p e s m below meth c s₁ S0 Bd hZ hh hx hby hml hown hnm X0 e0 hS0d
  obtain ⟨O1, P1, O2, O3, E2, F2, NE⟩ := id HG
  have N0 := Fr.nil n0
  have C0 : Steps p.tables e below S0 (s₁.setTop (mkF m 0 #[.val (.ref b), .val (.int (0 : Int32)), .val (.ref t), .val (.int (0 : Int32)), .val (.int (2 : Int32)), .unset, .unset] [])) := by rw [hS0d]; exact castTop (ef_41 m b (0 : Int32) t (0 : Int32) (2 : Int32)) (Steps.refl _)
  obtain ⟨c_1, A_2, q_3, S_4, M_5, H_6, U_7⟩ := id hp0
  have hin_8 : ¬ ((0 : Int32) < 0 ∨ c_1.slots.size ≤ (0 : Int32).toNatClampNeg) := inb_of S_4 ⟨(by decide : ¬ ((0 : Int32) < (0 : Int32))), (by decide : (0 : Int32) < (2 : Int32))⟩
  have hat_9 : c_1.slots[(0 : Int32).toNatClampNeg]? = some (.int c0) := Has.at H_6 hin_8 rfl
  obtain ⟨c_10, A_11, q_12, S_13, M_14, H_15, U_16⟩ := id hp1
  have hin_23 : ¬ ((0 : Int32) < 0 ∨ c_10.slots.size ≤ (0 : Int32).toNatClampNeg) := inb_of S_13 ⟨(by decide : ¬ ((0 : Int32) < (0 : Int32))), (by decide : (0 : Int32) < (2 : Int32))⟩
  obtain ⟨T_17, h_18, X_19, e_20, W_21, st_22⟩ := stB X0 hx hZ e0 A_11 (j := (0 : Int32)) hin_23 (g := (mkF m 31 #[.val (.ref b), .val (.int (0 : Int32)), .val (.ref t), .val (.int (0 : Int32)), .val (.int (2 : Int32)), .val (.int (0 : Int32)), .val (.int c0)] [(.int (c0.toInt8.toInt32)), (.int (0 : Int32)), (.ref t)])) rfl rfl (hb hby d2_31)
  have N_24 := Fr.snoc X_19 N0 hp2
  have V_25 : Arv Z h_18 t kt .byte (2 : Int32) [(.int (own_lo8 c0)), (.int (0 : Int32))] (.int (0 : Int32)) := Arv.set A_11 q_12 S_13 M_14 H_15 U_16 (fits_nar_byte _) W_21 0 rfl (Nat.le_of_ble_eq_true rfl)
  have V_26 : Arv Z h_18 b k .char (2 : Int32) [(.int c0), (.int c1)] (.int (0 : Int32)) := (hp0.other W_21 hp3)
  obtain ⟨c_27, A_28, q_29, S_30, M_31, H_32, U_33⟩ := id V_26
  have hin_34 : ¬ ((1 : Int32) < 0 ∨ c_27.slots.size ≤ (1 : Int32).toNatClampNeg) := inb_of S_30 ⟨(by decide : ¬ ((1 : Int32) < (0 : Int32))), (by decide : (1 : Int32) < (2 : Int32))⟩
  have hat_35 : c_27.slots[(1 : Int32).toNatClampNeg]? = some (.int c1) := Has.at H_32 hin_34 rfl
  obtain ⟨c_36, A_37, q_38, S_39, M_40, H_41, U_42⟩ := id V_25
  have hin_49 : ¬ ((1 : Int32) < 0 ∨ c_36.slots.size ≤ (1 : Int32).toNatClampNeg) := inb_of S_39 ⟨(by decide : ¬ ((1 : Int32) < (0 : Int32))), (by decide : (1 : Int32) < (2 : Int32))⟩
  obtain ⟨T_43, h_44, X_45, e_46, W_47, st_48⟩ := stB X_19 hx hZ e_20 A_37 (j := (1 : Int32)) hin_49 (g := (mkF m 31 #[.val (.ref b), .val (.int (1 : Int32)), .val (.ref t), .val (.int (1 : Int32)), .val (.int (2 : Int32)), .val (.int (1 : Int32)), .val (.int c1)] [(.int (c1.toInt8.toInt32)), (.int (1 : Int32)), (.ref t)])) rfl rfl (hb hby d2_31)
  have N_50 := Fr.snoc X_45 N_24 hp2
  have V_51 : Arv Z h_44 t kt .byte (2 : Int32) [(.int (own_lo8 c0)), (.int (own_lo8 c1))] (.int (0 : Int32)) := Arv.set A_37 q_38 S_39 M_40 H_41 U_42 (fits_nar_byte _) W_47 1 rfl (Nat.le_of_ble_eq_true rfl)
  have C_52 : Steps p.tables e below S0 (T_43.setTop (mkF m 46 #[.val (.ref b), .val (.int (2 : Int32)), .val (.ref t), .val (.int (2 : Int32)), .val (.int (2 : Int32)), .val (.int (2 : Int32)), .val (.int c1)] [(.int (2 : Int32))])) := by
    refine C0.trans ?_
    refine XS.iconst X0.here hx rfl (hb hby d2_0) ?_
    refine XS.istore X0.here hx rfl (hb hby d2_1) rfl (l' := #[.val (.ref b), .val (.int (0 : Int32)), .val (.ref t), .val (.int (0 : Int32)), .val (.int (2 : Int32)), .val (.int (0 : Int32)), .unset]) rfl ?_
    refine XS.iload X0.here hx rfl (hb hby d2_3) rfl ?_
    refine XS.iload X0.here hx rfl (hb hby d2_5) rfl ?_
    refine XS.icmpNo X0.here hx rfl (hb hby d2_7) rfl (by decide) ?_
    refine XS.aloadN X0.here hx rfl (hb hby d2_10) rfl rfl ?_
    refine XS.iloadN X0.here hx rfl (hb hby d2_11) rfl ?_
    refine X0.caload hx (j := (0 : Int32)) (v := (.int c0)) (by rw [e0]; exact A_2.1) (State.isArrayOf_alike hZ.alike A_2.2.1) A_2.2.2 hin_8 hat_9 (g := (mkF m 12 #[.val (.ref b), .val (.int (0 : Int32)), .val (.ref t), .val (.int (0 : Int32)), .val (.int (2 : Int32)), .val (.int (0 : Int32)), .unset] [(.int (0 : Int32)), (.ref b)])) rfl rfl (hb hby d2_12) _ ?_
    show Steps p.tables e below (s₁.setTop (mkF m 13 #[.val (.ref b), .val (.int (0 : Int32)), .val (.ref t), .val (.int (0 : Int32)), .val (.int (2 : Int32)), .val (.int (0 : Int32)), .unset] [(.int c0)])) _
    refine XS.istore X0.here hx rfl (hb hby d2_13) rfl (l' := #[.val (.ref b), .val (.int (0 : Int32)), .val (.ref t), .val (.int (0 : Int32)), .val (.int (2 : Int32)), .val (.int (0 : Int32)), .val (.int c0)]) rfl ?_
    refine XS.iload X0.here hx rfl (hb hby d2_15) rfl ?_
    refine XS.sipush X0.here hx rfl (hb hby d2_17) ?_
    refine XS.icmpYes X0.here hx rfl (pc0 := 20) (pc' := 26) rfl (hb hby d2_20) rfl (ii_le_t hh0) (by decide) (by decide) ?_
    refine XS.aloadN X0.here hx rfl (hb hby d2_26) rfl rfl ?_
    refine XS.iloadN X0.here hx rfl (hb hby d2_27) rfl ?_
    refine XS.iload X0.here hx rfl (hb hby d2_28) rfl ?_
    refine XS.i2b X0.here hx rfl (hb hby d2_30) rfl ?_
    show Steps p.tables e below (s₁.setTop (mkF m 31 #[.val (.ref b), .val (.int (0 : Int32)), .val (.ref t), .val (.int (0 : Int32)), .val (.int (2 : Int32)), .val (.int (0 : Int32)), .val (.int c0)] [(.int (c0.toInt8.toInt32)), (.int (0 : Int32)), (.ref t)])) _
    refine st_22 _ ?_
    refine XS.iinc X_19.here hx rfl (hb hby d2_32) (x := (0 : Int32)) rfl (l' := #[.val (.ref b), .val (.int (1 : Int32)), .val (.ref t), .val (.int (0 : Int32)), .val (.int (2 : Int32)), .val (.int (0 : Int32)), .val (.int c0)]) rfl ?_
    refine XS.iinc X_19.here hx rfl (hb hby d2_35) (x := (0 : Int32)) rfl (l' := #[.val (.ref b), .val (.int (1 : Int32)), .val (.ref t), .val (.int (1 : Int32)), .val (.int (2 : Int32)), .val (.int (0 : Int32)), .val (.int c0)]) rfl ?_
    refine XS.iinc X_19.here hx rfl (hb hby d2_38) (x := (0 : Int32)) rfl (l' := #[.val (.ref b), .val (.int (1 : Int32)), .val (.ref t), .val (.int (1 : Int32)), .val (.int (2 : Int32)), .val (.int (1 : Int32)), .val (.int c0)]) rfl ?_
    refine XS.goto X_19.here hx rfl (pc0 := 41) (pc' := 3) rfl (hb hby d2_41) (by decide) (by decide) ?_
    refine XS.iload X_19.here hx rfl (hb hby d2_3) rfl ?_
    refine XS.iload X_19.here hx rfl (hb hby d2_5) rfl ?_
    refine XS.icmpNo X_19.here hx rfl (hb hby d2_7) rfl (by decide) ?_
    show Steps p.tables e below (T_17.setTop (mkF m 10 #[.val (.ref b), .val (.int (1 : Int32)), .val (.ref t), .val (.int (1 : Int32)), .val (.int (2 : Int32)), .val (.int (1 : Int32)), .val (.int c0)] [])) _
    refine XS.aloadN X_19.here hx rfl (hb hby d2_10) rfl rfl ?_
    refine XS.iloadN X_19.here hx rfl (hb hby d2_11) rfl ?_
    refine X_19.caload hx (j := (1 : Int32)) (v := (.int c1)) (by rw [e_20]; exact A_28.1) (State.isArrayOf_alike hZ.alike A_28.2.1) A_28.2.2 hin_34 hat_35 (g := (mkF m 12 #[.val (.ref b), .val (.int (1 : Int32)), .val (.ref t), .val (.int (1 : Int32)), .val (.int (2 : Int32)), .val (.int (1 : Int32)), .val (.int c0)] [(.int (1 : Int32)), (.ref b)])) rfl rfl (hb hby d2_12) _ ?_
    refine XS.istore X_19.here hx rfl (hb hby d2_13) rfl (l' := #[.val (.ref b), .val (.int (1 : Int32)), .val (.ref t), .val (.int (1 : Int32)), .val (.int (2 : Int32)), .val (.int (1 : Int32)), .val (.int c1)]) rfl ?_
    refine XS.iload X_19.here hx rfl (hb hby d2_15) rfl ?_
    refine XS.sipush X_19.here hx rfl (hb hby d2_17) ?_
    refine XS.icmpYes X_19.here hx rfl (pc0 := 20) (pc' := 26) rfl (hb hby d2_20) rfl (ii_le_t hh1) (by decide) (by decide) ?_
    refine XS.aloadN X_19.here hx rfl (hb hby d2_26) rfl rfl ?_
    show Steps p.tables e below (T_17.setTop (mkF m 27 #[.val (.ref b), .val (.int (1 : Int32)), .val (.ref t), .val (.int (1 : Int32)), .val (.int (2 : Int32)), .val (.int (1 : Int32)), .val (.int c1)] [(.ref t)])) _
    refine XS.iloadN X_19.here hx rfl (hb hby d2_27) rfl ?_
    refine XS.iload X_19.here hx rfl (hb hby d2_28) rfl ?_
    refine XS.i2b X_19.here hx rfl (hb hby d2_30) rfl ?_
    refine st_48 _ ?_
    refine XS.iinc X_45.here hx rfl (hb hby d2_32) (x := (1 : Int32)) rfl (l' := #[.val (.ref b), .val (.int (2 : Int32)), .val (.ref t), .val (.int (1 : Int32)), .val (.int (2 : Int32)), .val (.int (1 : Int32)), .val (.int c1)]) rfl ?_
    refine XS.iinc X_45.here hx rfl (hb hby d2_35) (x := (1 : Int32)) rfl (l' := #[.val (.ref b), .val (.int (2 : Int32)), .val (.ref t), .val (.int (2 : Int32)), .val (.int (2 : Int32)), .val (.int (1 : Int32)), .val (.int c1)]) rfl ?_
    refine XS.iinc X_45.here hx rfl (hb hby d2_38) (x := (1 : Int32)) rfl (l' := #[.val (.ref b), .val (.int (2 : Int32)), .val (.ref t), .val (.int (2 : Int32)), .val (.int (2 : Int32)), .val (.int (2 : Int32)), .val (.int c1)]) rfl ?_
    refine XS.goto X_45.here hx rfl (pc0 := 41) (pc' := 3) rfl (hb hby d2_41) (by decide) (by decide) ?_
    show Steps p.tables e below (T_43.setTop (mkF m 3 #[.val (.ref b), .val (.int (2 : Int32)), .val (.ref t), .val (.int (2 : Int32)), .val (.int (2 : Int32)), .val (.int (2 : Int32)), .val (.int c1)] [])) _
    refine XS.iload X_45.here hx rfl (hb hby d2_3) rfl ?_
    refine XS.iload X_45.here hx rfl (hb hby d2_5) rfl ?_
    refine XS.icmpYes X_45.here hx rfl (pc0 := 7) (pc' := 44) rfl (hb hby d2_7) rfl (by decide) (by decide) (by decide) ?_
    refine XS.iload X_45.here hx rfl (hb hby d2_44) rfl ?_
    exact Steps.refl _
  have K_53 : Keep h0 h_44 [t] := (((Keep.refl _ _).wr W_21 (Or.inl (List.mem_of_getElem? (i := 0) rfl))).wr W_47 (Or.inl (List.mem_of_getElem? (i := 0) rfl)))
  obtain ⟨fs, hr, hrun, hended, hW, hsame⟩ := X_45.leave (v := some (.int (2 : Int32))) (fun h => by rw [Bd.returns] at h; cases h)
  refine ⟨_, _, C_52.trans (retOut X_45 hx Bd.returns rfl (Or.inl ⟨rfl, Or.inl rfl, _, rfl⟩) (hb hby d2_46) hr), hrun, hended, _, _, rfl, ?_, ⟨_, rfl⟩, hW, hsame.mono (by decide) (by decide)⟩
  show Q_cmp5_2 Z G1 kF kA b k t kt c0 c1 h0 n0 (some (.int (2 : Int32))) T_43.heap _
  rw [e_46]
  exact ⟨rfl, N_50, K_53, V_51⟩
abbrev R_cmp3_2 : Room := { frames := 1, cells := 1, slots := 2, locals := 18 }
def Q_cmp3_2 (Z : State) (G1 : Int32) (kF : Addr) (kA : Addr) (b : Addr) (k : ClassId) (c0 : Int32) (c1 : Int32) (h0 : Heap) (n0 : Nat) (v : Option Value) (h : Heap) (L : List Loc) : Prop := (∃ t : Addr, ∃ kt : ClassId, v = some (.ref t) ∧ Fr n0 L ∧ Keep h0 h [] ∧ (h0.size ≤ t) ∧ (Arv Z h t kt .byte (2 : Int32) [(.int (own_lo8 c0)), (.int (own_lo8 c1))] (.int (0 : Int32))))
set_option maxRecDepth 65536 in
set_option maxHeartbeats 40000000 in
theorem rm_cmp3_2 (l : Launch) (Z : State) (a0 : Array Value) (hw : ∀ d ∈ tables_1, d.before a0 Z = true) (ws : List Jvm.Cond) (G1 : Int32) (kF : Addr) (kA : Addr) (HG : own_G l Z a0 G1 kF kA) (h0 : Heap) (n0 : Nat) (X00 : Old Z n0 h0) (b : Addr) (k : ClassId) (c0 : Int32) (c1 : Int32) (hp0 : Arv Z h0 b k .char (2 : Int32) [(.int c0), (.int c1)] (.int (0 : Int32))) (hh0 : ¬ ((255 : Int32) < c0)) (hh1 : ¬ ((255 : Int32) < c1)) :
    own_CP l Z M66 jdk_52_method_16_code 6 (some (.array .byte)) ws R_cmp3_2 #[(.ref b), (.int (0 : Int32)), (.int (2 : Int32))] h0 (Q_cmp3_2 Z G1 kF kA b k c0 c1 h0 n0) := by
  refine own_P (plainFor_of_name pn_42) ?_
  intro p e s m below meth c s₁ S0 Bd hZ hh hx hby hml hown hnm X0 e0 hS0d
  obtain ⟨O1, P1, O2, O3, E2, F2, NE⟩ := id HG
  have N0 := Fr.nil n0
  have C0 : Steps p.tables e below S0 (s₁.setTop (mkF m 0 #[.val (.ref b), .val (.int (0 : Int32)), .val (.int (2 : Int32)), .unset, .unset, .unset] [])) := by rw [hS0d]; exact castTop (ef_67 m b (0 : Int32) (2 : Int32)) (Steps.refl _)
  obtain ⟨T_1, h_2, k_3, X_4, e_5, E_6, A_7, st_8⟩ := newP (aty := .byte) X0 hx hZ (w20 hw) e0 (g := (mkF m 1 #[.val (.ref b), .val (.int (0 : Int32)), .val (.int (2 : Int32)), .unset, .unset, .unset] [(.int (2 : Int32))])) rfl (hb hby d3_1) rfl (by decide : ¬ ((2 : Int32) < (0 : Int32))) (cap := 2) (by decide : (2 : Int32).toNatClampNeg ≤ 2) (by decide) (by decide) (by decide)
  obtain ⟨a_9, g_10⟩ : ∃ z, z = h0.size := ⟨_, rfl⟩
  rw [← g_10] at A_7 st_8
  have V_12 : Arv Z h_2 a_9 k_3 .byte (2 : Int32) [] (.int (0 : Int32)) := Arv.new A_7 (by decide : ¬ ((2 : Int32) < (0 : Int32)))
  have V_11 : Arv Z h_2 a_9 k_3 .byte (2 : Int32) [(.int (0 : Int32)), (.int (0 : Int32))] (.int (0 : Int32)) := (V_12.pad (pad_rep [] (.int (0 : Int32)) 2))
  have V_13 : Arv Z h_2 b k .char (2 : Int32) [(.int c0), (.int c1)] (.int (0 : Int32)) := (hp0.ext E_6)
  have O_14 : Old Z n0 h_2 := (X00.ext E_6)
  obtain ⟨_, _, ⟨T_15, L_15, k_15, n_15⟩, -, X_15, ⟨Lc_15, hQ_15, l_15, y_15, z_15⟩, st_15⟩ := Jvm.LawKit.callS X_4 hx (y := M40) hown (mvT hZ (w101 hw)) (mvT hZ (w102 hw)) (mvT hZ (w99 hw)) (mvT hZ (w103 hw)) (by decide) (backOf (W := 0) (rm_cmp5_2 l Z a0 hw [] G1 kF kA HG h_2 n0 O_14 b k a_9 k_3 c0 c1 V_13 V_11 (Nat.le_trans (own_n0 X00) (Nat.le_of_eq g_10.symm)) (Nat.ne_of_lt (Nat.lt_of_lt_of_le hp0.lt (Nat.le_trans (Nat.le_refl _) (Nat.le_of_eq g_10.symm)))) hh0 hh1) hZ (w103 hw) (w99 hw) (by decide) (by decide)) (g := (mkF m 9 #[.val (.ref b), .val (.int (0 : Int32)), .val (.int (2 : Int32)), .val (.ref a_9), .unset, .unset] [(.int (2 : Int32)), (.int (0 : Int32)), (.ref a_9), (.int (0 : Int32)), (.ref b)])) rfl (by rw [hml]; rfl) (argsL := [(.ref b), (.int (0 : Int32)), (.ref a_9), (.int (0 : Int32)), (.int (2 : Int32))]) (rest := []) (lenOf pd_79 rfl) rfl (by show 2 * 0 + _ ≤ _; exact Nat.le_of_eq rfl) (hb hby d3_9) (fun _ _ => ⟨rfl, e_5, (by decide : 1 + 0 ≤ _), (by decide : 2 + 0 ≤ _)⟩)
  dsimp only [Pt.U, Pt.locs, Pt.cells, Pt.slots] at X_15 l_15 y_15 z_15 st_15 hQ_15
  subst l_15 y_15 z_15
  obtain ⟨rfl, N_16, K_17, g_18⟩ := hQ_15
  have N_19 := Fr.app N0 N_16
  have C_20 : Steps p.tables e below S0 (T_15.setTop (mkF m 58 #[.val (.ref b), .val (.int (0 : Int32)), .val (.int (2 : Int32)), .val (.ref a_9), .val (.int (2 : Int32)), .unset] [(.ref a_9)])) := by
    refine C0.trans ?_
    refine XS.iloadN X0.here hx rfl (hb hby d3_0) rfl ?_
    refine st_8 _ ?_
    refine XS.astoreN X_4.here hx rfl (hb hby d3_3) rfl rfl (l' := #[.val (.ref b), .val (.int (0 : Int32)), .val (.int (2 : Int32)), .val (.ref a_9), .unset, .unset]) rfl ?_
    refine XS.aloadN X_4.here hx rfl (hb hby d3_4) rfl rfl ?_
    refine XS.iloadN X_4.here hx rfl (hb hby d3_5) rfl ?_
    refine XS.aloadN X_4.here hx rfl (hb hby d3_6) rfl rfl ?_
    refine XS.iconst X_4.here hx rfl (hb hby d3_7) ?_
    refine XS.iloadN X_4.here hx rfl (hb hby d3_8) rfl ?_
    show Steps p.tables e below (T_1.setTop (mkF m 9 #[.val (.ref b), .val (.int (0 : Int32)), .val (.int (2 : Int32)), .val (.ref a_9), .unset, .unset] [(.int (2 : Int32)), (.int (0 : Int32)), (.ref a_9), (.int (0 : Int32)), (.ref b)])) _
    refine st_15 _ ?_
    refine XS.istore X_15.here hx rfl (hb hby d3_12) rfl (l' := #[.val (.ref b), .val (.int (0 : Int32)), .val (.int (2 : Int32)), .val (.ref a_9), .val (.int (2 : Int32)), .unset]) rfl ?_
    refine XS.iload X_15.here hx rfl (hb hby d3_14) rfl ?_
    refine XS.iloadN X_15.here hx rfl (hb hby d3_16) rfl ?_
    refine XS.icmpYes X_15.here hx rfl (pc0 := 17) (pc' := 57) rfl (hb hby d3_17) rfl (by decide) (by decide) (by decide) ?_
    refine XS.aloadN X_15.here hx rfl (hb hby d3_57) rfl rfl ?_
    exact Steps.refl _
  have K_21 : Keep h0 T_15.heap [] := (((Keep.refl _ _).ext E_6).trans K_17 (allS (Or.inr (Nat.le_trans (Nat.le_refl _) (Nat.le_of_eq g_10.symm))) all0))
  obtain ⟨fs, hr, hrun, hended, hW, hsame⟩ := X_15.leave (v := some (.ref a_9)) (fun h => by rw [Bd.returns] at h; cases h)
  refine ⟨_, _, C_20.trans (retOut X_15 hx Bd.returns rfl (Or.inr (Or.inr (Or.inr (Or.inr ⟨rfl, rfl, rfl⟩)))) (hb hby d3_58) hr), hrun, hended, _, _, rfl, ?_, ⟨_, rfl⟩, hW, hsame.mono (by decide) (by decide)⟩
  show Q_cmp3_2 Z G1 kF kA b k c0 c1 h0 n0 (some (.ref a_9)) T_15.heap _
  exact ⟨a_9, k_3, rfl, N_19, K_21, (Nat.le_trans (Nat.le_refl _) (Nat.le_of_eq g_10.symm)), g_18⟩
abbrev R_codl_2 : Room := { frames := 0, cells := 0, slots := 0, locals := 0 }
def Q_codl_2 (Z : State) (G1 : Int32) (kF : Addr) (kA : Addr) (t : Addr) (kt : ClassId) (y0 : Int32) (y1 : Int32) (h0 : Heap) (n0 : Nat) (v : Option Value) (h : Heap) (L : List Loc) : Prop := (v = some (.int (0 : Int32)) ∧ Fr n0 L ∧ h = h0)
set_option maxRecDepth 65536 in
set_option maxHeartbeats 40000000 in
theorem rm_codl_2 (l : Launch) (Z : State) (a0 : Array Value) (hw : ∀ d ∈ tables_1, d.before a0 Z = true) (ws : List Jvm.Cond) (G1 : Int32) (kF : Addr) (kA : Addr) (HG : own_G l Z a0 G1 kF kA) (h0 : Heap) (n0 : Nat) (X00 : Old Z n0 h0) (t : Addr) (kt : ClassId) (y0 : Int32) (y1 : Int32) (hp0 : Arv Z h0 t kt .byte (2 : Int32) [(.int y0), (.int y1)] (.int (0 : Int32))) :
    own_CP l Z M89 jdk_52_method_15_code 2 (some .byte) ws R_codl_2 #[(.ref t), (.int (2 : Int32))] h0 (Q_codl_2 Z G1 kF kA t kt y0 y1 h0 n0) := by
  refine own_P (plainFor_of_name pn_42) ?_
  intro p e s m below meth c s₁ S0 Bd hZ hh hx hby hml hown hnm X0 e0 hS0d
  obtain ⟨O1, P1, O2, O3, E2, F2, NE⟩ := id HG
  have N0 := Fr.nil n0
  have C0 : Steps p.tables e below S0 (s₁.setTop (mkF m 0 #[.val (.ref t), .val (.int (2 : Int32))] [])) := by rw [hS0d]; exact castTop (ef_90 m t (2 : Int32)) (Steps.refl _)
  obtain ⟨c_1, A_2, q_3, S_4, M_5, H_6, U_7⟩ := id hp0
  have C_8 : Steps p.tables e below S0 (s₁.setTop (mkF m 8 #[.val (.ref t), .val (.int (2 : Int32))] [(.int (0 : Int32))])) := by
    refine C0.trans ?_
    refine XS.iloadN X0.here hx rfl (hb hby d4_0) rfl ?_
    refine XS.aloadN X0.here hx rfl (hb hby d4_1) rfl rfl ?_
    refine X0.arraylength hx (by rw [e0]; exact A_2.1) (State.isArrayOf_alike hZ.alike A_2.2.1) (g := (mkF m 2 #[.val (.ref t), .val (.int (2 : Int32))] [(.ref t), (.int (2 : Int32))])) rfl rfl (hb hby d4_2) _ ?_
    rw [len_of S_4 M_5]
    refine XS.isub X0.here hx rfl (hb hby d4_3) rfl ?_
    refine XS.bipush X0.here hx rfl (hb hby d4_4) ?_
    refine XS.iushr X0.here hx rfl (hb hby d4_6) rfl ?_
    refine XS.i2b X0.here hx rfl (hb hby d4_7) rfl ?_
    exact Steps.refl _
  obtain ⟨fs, hr, hrun, hended, hW, hsame⟩ := X0.leave (v := some (.int (0 : Int32))) (fun h => by rw [Bd.returns] at h; cases h)
  refine ⟨_, _, C_8.trans (retN X0 hx (t := .byte) Bd.returns (by simp) (hb hby d4_8) hr), hrun, hended, _, _, rfl, ?_, ⟨_, rfl⟩, hW, hsame.mono (by decide) (by decide)⟩
  show Q_codl_2 Z G1 kF kA t kt y0 y1 h0 n0 (some (.int (0 : Int32))) s₁.heap _
  rw [e0]
  exact ⟨rfl, N0, rfl⟩
abbrev R_si4_2 : Room := { frames := 2, cells := 1, slots := 2, locals := 35 }
def Q_si4_2 (Z : State) (G1 : Int32) (kF : Addr) (kA : Addr) (x : Addr) (b : Addr) (k : ClassId) (c0 : Int32) (c1 : Int32) (h0 : Heap) (n0 : Nat) (v : Option Value) (h : Heap) (L : List Loc) : Prop := (∃ t : Addr, ∃ kt : ClassId, v = none ∧ Fr n0 L ∧ Keep h0 h [x] ∧ (Exa Z h x "java/lang/String") ∧ (Fld Z h x "java/lang/String" "coder" "B" (.int (0 : Int32))) ∧ (Fld Z h x "java/lang/String" "value" "[B" (.ref t)) ∧ (h0.size ≤ t) ∧ (Arv Z h t kt .byte (2 : Int32) [(.int (own_lo8 c0)), (.int (own_lo8 c1))] (.int (0 : Int32))))
set_option maxRecDepth 65536 in
set_option maxHeartbeats 40000000 in
theorem rm_si4_2 (l : Launch) (Z : State) (a0 : Array Value) (hw : ∀ d ∈ tables_1, d.before a0 Z = true) (ws : List Jvm.Cond) (G1 : Int32) (kF : Addr) (kA : Addr) (HG : own_G l Z a0 G1 kF kA) (h0 : Heap) (n0 : Nat) (X00 : Old Z n0 h0) (x : Addr) (b : Addr) (k : ClassId) (c0 : Int32) (c1 : Int32) (hp0 : Exa Z h0 x "java/lang/String") (hp1 : Fld Z h0 x "java/lang/String" "value" "[B" .null) (hp2 : Fld Z h0 x "java/lang/String" "coder" "B" (.int (0 : Int32))) (hp3 : n0 ≤ x) (hp4 : Arv Z h0 b k .char (2 : Int32) [(.int c0), (.int c1)] (.int (0 : Int32))) (hh0 : ¬ ((255 : Int32) < c0)) (hh1 : ¬ ((255 : Int32) < c1)) :
    own_CP l Z M0 jdk_42_method_149_code 6 none ws R_si4_2 #[(.ref x), (.ref b), (.int (0 : Int32)), (.int (2 : Int32)), .null] h0 (Q_si4_2 Z G1 kF kA x b k c0 c1 h0 n0) := by
  refine own_P (plainFor_of_name pn_2) ?_
  intro p e s m below meth c s₁ S0 Bd hZ hh hx hby hml hown hnm X0 e0 hS0d
  obtain ⟨O1, P1, O2, O3, E2, F2, NE⟩ := id HG
  have N0 := Fr.nil n0
  have C0 : Steps p.tables e below S0 (s₁.setTop (mkF m 0 #[.val (.ref x), .val (.ref b), .val (.int (0 : Int32)), .val (.int (2 : Int32)), .val .null, .unset] [])) := by rw [hS0d]; exact castTop (ef_1 m x b (0 : Int32) (2 : Int32)) (Steps.refl _)
  obtain ⟨T_1, X_2, e_3, st_4⟩ := initO X0 hx hZ hown (w16 hw) (w17 hw) (w18 hw) e0 (g := (mkF m 1 #[.val (.ref x), .val (.ref b), .val (.int (0 : Int32)), .val (.int (2 : Int32)), .val .null, .unset] [(.ref x)])) rfl (by rw [hml]; rfl) rfl (hb hby d0_1) (by decide) (W := 0) (by show 2 * 0 + _ ≤ _; exact Nat.le_of_eq rfl) (by decide)
  obtain ⟨T_5, X_6, e_7, st_8⟩ := getS X_2 hx hZ (host := "") hown (w86 hw) Via.refl e_3 (O1.ext X00.2) (g := (mkF m 27 #[.val (.ref x), .val (.ref b), .val (.int (0 : Int32)), .val (.int (2 : Int32)), .val .null, .unset] [])) rfl (hb hby d0_27)
  obtain ⟨_, _, ⟨T_9, L_9, k_9, n_9⟩, -, X_9, ⟨Lc_9, hQ_9, l_9, y_9, z_9⟩, st_9⟩ := Jvm.LawKit.callS X_6 hx (y := M66) hown (mvT hZ (w97 hw)) (mvT hZ (w98 hw)) (mvT hZ (w99 hw)) (mvT hZ (w100 hw)) (by decide) (backOf (W := 0) (rm_cmp3_2 l Z a0 hw [] G1 kF kA HG h0 n0 X00 b k c0 c1 hp4 hh0 hh1) hZ (w100 hw) (w99 hw) (by decide) (by decide)) (g := (mkF m 36 #[.val (.ref x), .val (.ref b), .val (.int (0 : Int32)), .val (.int (2 : Int32)), .val .null, .unset] [(.int (2 : Int32)), (.int (0 : Int32)), (.ref b)])) rfl (by rw [hml]; rfl) (argsL := [(.ref b), (.int (0 : Int32)), (.int (2 : Int32))]) (rest := []) (lenOf pd_106 rfl) rfl (by show 2 * 0 + _ ≤ _; exact Nat.le_of_eq rfl) (hb hby d0_36) (fun _ _ => ⟨rfl, e_7, (by decide : 0 + 1 ≤ _), (by decide : 0 + 2 ≤ _)⟩)
  dsimp only [Pt.U, Pt.locs, Pt.cells, Pt.slots] at X_9 l_9 y_9 z_9 st_9 hQ_9
  subst l_9 y_9 z_9
  obtain ⟨a_10, k_11, rfl, N_12, K_13, g_14, g_15⟩ := hQ_9
  have N_16 := Fr.app N0 N_12
  have O_17 : Old Z n0 T_9.heap := (X00.keep K_13 all0)
  obtain ⟨_, _, ⟨T_18, L_18, k_18, n_18⟩, -, X_18, ⟨Lc_18, hQ_18, l_18, y_18, z_18⟩, st_18⟩ := Jvm.LawKit.callS X_9 hx (y := M89) hown (mvT hZ (w104 hw)) (mvT hZ (w105 hw)) (mvT hZ (w99 hw)) (mvT hZ (w106 hw)) (by decide) (backOf (W := 1) (rm_codl_2 l Z a0 hw [] G1 kF kA HG T_9.heap n0 O_17 a_10 k_11 (own_lo8 c0) (own_lo8 c1) g_15) hZ (w106 hw) (w99 hw) (by decide) (by decide)) (g := (mkF m 45 #[.val (.ref x), .val (.ref b), .val (.int (0 : Int32)), .val (.int (2 : Int32)), .val .null, .val (.ref a_10)] [(.int (2 : Int32)), (.ref a_10), (.ref x)])) rfl (by rw [hml]; rfl) (argsL := [(.ref a_10), (.int (2 : Int32))]) (rest := [(.ref x)]) (lenOf pd_115 rfl) rfl (by show 2 * 0 + _ ≤ _; exact Nat.le_of_eq rfl) (hb hby d0_45) (fun _ _ => ⟨rfl, rfl, (by decide : 1 + 0 ≤ _), (by decide : 2 + 0 ≤ _)⟩)
  dsimp only [Pt.U, Pt.locs, Pt.cells, Pt.slots] at X_18 l_18 y_18 z_18 st_18 hQ_18
  subst l_18 y_18 z_18
  obtain ⟨rfl, N_19, e_20⟩ := hQ_18
  have N_21 := Fr.app N_16 N_19
  have e_22 : T_18.heap = T_9.heap := e_20
  have F_23 : Fld Z T_9.heap x "java/lang/String" "coder" "B" (.int (0 : Int32)) := (hp2.keep K_13 nin0)
  have E_24 : Exa Z T_9.heap x "java/lang/String" := (hp0.keep K_13)
  obtain ⟨T_25, h_26, X_27, e_28, W_29, st_30⟩ := putF X_18 hx hZ hown (host := "") (Or.inl (w26 hw)) Via.refl e_22 F_23 E_24 (Or.inr ⟨(w22 hw), rfl, hnm⟩) (w2 hw) (ty := .byte) (by decide) rfl (by decide) (g := (mkF m 48 #[.val (.ref x), .val (.ref b), .val (.int (0 : Int32)), .val (.int (2 : Int32)), .val .null, .val (.ref a_10)] [(.int (0 : Int32)), (.ref x)])) rfl rfl (hb hby d0_48)
  have N_31 := Fr.snoc X_27 N_21 hp3
  have F_32 : Fld Z h_26 x "java/lang/String" "coder" "B" (.int (0 : Int32)) := F_23.same W_29
  have F_33 : Fld Z h_26 x "java/lang/String" "value" "[B" .null := ((hp1.keep K_13 nin0).other W_29 (Or.inr (slot_ne (Or.inr (w21 hw)) (Or.inr (w22 hw)) (by decide) (t := (.array .byte)) (by decide) (t' := .byte) (by decide))))
  have E_34 : Exa Z h_26 x "java/lang/String" := (E_24.wr W_29)
  obtain ⟨T_35, h_36, X_37, e_38, W_39, st_40⟩ := putF X_27 hx hZ hown (host := "") (Or.inl (w25 hw)) Via.refl e_28 F_33 E_34 (Or.inr ⟨(w21 hw), rfl, hnm⟩) (w2 hw) (ty := (.array .byte)) (by decide) rfl rfl (g := (mkF m 54 #[.val (.ref x), .val (.ref b), .val (.int (0 : Int32)), .val (.int (2 : Int32)), .val .null, .val (.ref a_10)] [(.ref a_10), (.ref x)])) rfl rfl (hb hby d0_54)
  have N_41 := Fr.snoc X_37 N_31 hp3
  have F_42 : Fld Z h_36 x "java/lang/String" "value" "[B" (.ref a_10) := F_33.same W_39
  have C_43 : Steps p.tables e below S0 (T_35.setTop (mkF m 57 #[.val (.ref x), .val (.ref b), .val (.int (0 : Int32)), .val (.int (2 : Int32)), .val .null, .val (.ref a_10)] [])) := by
    refine C0.trans ?_
    refine XS.aloadN X0.here hx rfl (hb hby d0_0) rfl rfl ?_
    refine st_4 _ ?_
    refine XS.iloadN X_2.here hx rfl (hb hby d0_4) rfl ?_
    refine XS.ifYes X_2.here hx rfl (pc0 := 5) (pc' := 27) rfl (hb hby d0_5) rfl (by decide) (by decide) (by decide) ?_
    refine st_8 _ ?_
    refine XS.ifNo X_6.here hx rfl (hb hby d0_30) rfl (i0_eq_f P1) ?_
    refine XS.aloadN X_6.here hx rfl (hb hby d0_33) rfl rfl ?_
    refine XS.iloadN X_6.here hx rfl (hb hby d0_34) rfl ?_
    show Steps p.tables e below (T_5.setTop (mkF m 35 #[.val (.ref x), .val (.ref b), .val (.int (0 : Int32)), .val (.int (2 : Int32)), .val .null, .unset] [(.int (0 : Int32)), (.ref b)])) _
    refine XS.iloadN X_6.here hx rfl (hb hby d0_35) rfl ?_
    refine st_9 _ ?_
    refine XS.astore X_9.here hx rfl (hb hby d0_39) rfl rfl (l' := #[.val (.ref x), .val (.ref b), .val (.int (0 : Int32)), .val (.int (2 : Int32)), .val .null, .val (.ref a_10)]) rfl ?_
    refine XS.aloadN X_9.here hx rfl (hb hby d0_41) rfl rfl ?_
    refine XS.aload X_9.here hx rfl (hb hby d0_42) rfl rfl ?_
    refine XS.iloadN X_9.here hx rfl (hb hby d0_44) rfl ?_
    refine st_18 _ ?_
    refine st_30 _ ?_
    show Steps p.tables e below (T_25.setTop (mkF m 51 #[.val (.ref x), .val (.ref b), .val (.int (0 : Int32)), .val (.int (2 : Int32)), .val .null, .val (.ref a_10)] [])) _
    refine XS.aloadN X_27.here hx rfl (hb hby d0_51) rfl rfl ?_
    refine XS.aload X_27.here hx rfl (hb hby d0_52) rfl rfl ?_
    refine st_40 _ ?_
    exact Steps.refl _
  have E_44 : Exa Z h_36 x "java/lang/String" := (E_34.wr W_39)
  have F_45 : Fld Z h_36 x "java/lang/String" "coder" "B" (.int (0 : Int32)) := (F_32.other W_39 (Or.inr (slot_ne (Or.inr (w22 hw)) (Or.inr (w21 hw)) (by decide) (t := .byte) (by decide) (t' := (.array .byte)) (by decide))))
  have V_46 : Arv Z h_36 a_10 k_11 .byte (2 : Int32) [(.int (own_lo8 c0)), (.int (own_lo8 c1))] (.int (0 : Int32)) := ((g_15.other W_29 (Ne.symm (Nat.ne_of_lt (Nat.lt_of_lt_of_le hp0.lt (Nat.le_trans (Nat.le_refl _) g_14))))).other W_39 (Ne.symm (Nat.ne_of_lt (Nat.lt_of_lt_of_le hp0.lt (Nat.le_trans (Nat.le_refl _) g_14)))))
  have K_47 : Keep h0 h_36 [x] := ((((Keep.refl _ _).trans K_13 all0).wr W_29 (Or.inl (List.mem_of_getElem? (i := 0) rfl))).wr W_39 (Or.inl (List.mem_of_getElem? (i := 0) rfl)))
  obtain ⟨fs, hr, hrun, hended, hW, hsame⟩ := X_37.leave (v := none) (fun _ => rfl)
  refine ⟨_, _, C_43.trans (X_37.returnOut hx Bd.returns (hb hby d0_57) hr), hrun, hended, _, _, rfl, ?_, ⟨_, rfl⟩, hW, hsame.mono (by decide) (by decide)⟩
  show Q_si4_2 Z G1 kF kA x b k c0 c1 h0 n0 (none) T_35.heap _
  rw [e_38]
  exact ⟨a_10, k_11, rfl, N_41, K_47, E_44, F_45, F_42, (Nat.le_trans (Nat.le_refl _) g_14), V_46⟩
abbrev R_si1_2 : Room := { frames := 3, cells := 1, slots := 2, locals := 52 }
def Q_si1_2 (Z : State) (G1 : Int32) (kF : Addr) (kA : Addr) (x : Addr) (b : Addr) (k : ClassId) (c0 : Int32) (c1 : Int32) (h0 : Heap) (n0 : Nat) (v : Option Value) (h : Heap) (L : List Loc) : Prop := (∃ t : Addr, ∃ kt : ClassId, v = none ∧ Fr n0 L ∧ Keep h0 h [x] ∧ (Exa Z h x "java/lang/String") ∧ (Fld Z h x "java/lang/String" "coder" "B" (.int (0 : Int32))) ∧ (Fld Z h x "java/lang/String" "value" "[B" (.ref t)) ∧ (h0.size ≤ t) ∧ (Arv Z h t kt .byte (2 : Int32) [(.int (own_lo8 c0)), (.int (own_lo8 c1))] (.int (0 : Int32))))
set_option maxRecDepth 65536 in
set_option maxHeartbeats 40000000 in
theorem rm_si1_2 (l : Launch) (Z : State) (a0 : Array Value) (hw : ∀ d ∈ tables_1, d.before a0 Z = true) (ws : List Jvm.Cond) (G1 : Int32) (kF : Addr) (kA : Addr) (HG : own_G l Z a0 G1 kF kA) (h0 : Heap) (n0 : Nat) (X00 : Old Z n0 h0) (x : Addr) (b : Addr) (k : ClassId) (c0 : Int32) (c1 : Int32) (hp0 : Exa Z h0 x "java/lang/String") (hp1 : Fld Z h0 x "java/lang/String" "value" "[B" .null) (hp2 : Fld Z h0 x "java/lang/String" "coder" "B" (.int (0 : Int32))) (hp3 : n0 ≤ x) (hp4 : Arv Z h0 b k .char (2 : Int32) [(.int c0), (.int c1)] (.int (0 : Int32))) (hh0 : ¬ ((255 : Int32) < c0)) (hh1 : ¬ ((255 : Int32) < c1)) :
    own_CP l Z M25 jdk_42_method_3_code 2 none ws R_si1_2 #[(.ref x), (.ref b)] h0 (Q_si1_2 Z G1 kF kA x b k c0 c1 h0 n0) := by
  refine own_P (plainFor_of_name pn_2) ?_
  intro p e s m below meth c s₁ S0 Bd hZ hh hx hby hml hown hnm X0 e0 hS0d
  obtain ⟨O1, P1, O2, O3, E2, F2, NE⟩ := id HG
  have N0 := Fr.nil n0
  have C0 : Steps p.tables e below S0 (s₁.setTop (mkF m 0 #[.val (.ref x), .val (.ref b)] [])) := by rw [hS0d]; exact castTop (ef_26 m x b) (Steps.refl _)
  obtain ⟨c_1, A_2, q_3, S_4, M_5, H_6, U_7⟩ := id hp4
  obtain ⟨_, _, ⟨T_8, L_8, k_8, n_8⟩, -, X_8, ⟨Lc_8, hQ_8, l_8, y_8, z_8⟩, st_8⟩ := X0.specialBack hx (y := M0) rfl hown (mvT hZ (w12 hw)) (mvT hZ (w13 hw)) (mvT hZ (w15 hw)) (by decide) (backOf (W := 0) (rm_si4_2 l Z a0 hw [] G1 kF kA HG h0 n0 X00 x b k c0 c1 hp0 hp1 hp2 hp3 hp4 hh0 hh1) hZ (w15 hw) (w3 hw) (by decide) (by decide)) (g := (mkF m 6 #[.val (.ref x), .val (.ref b)] [.null, (.int (2 : Int32)), (.int (0 : Int32)), (.ref b), (.ref x)])) rfl (by rw [hml]; rfl) (Steps.refl _) (a := x) (argsL := [(.ref b), (.int (0 : Int32)), (.int (2 : Int32)), .null]) (rest := []) (lenOf pd_35 rfl) rfl (by show 2 * 0 + _ ≤ _; exact Nat.le_of_eq rfl) (hb hby d1_6) (fun _ _ => ⟨rfl, e0, (by decide : 0 + 1 ≤ _), (by decide : 0 + 2 ≤ _)⟩)
  dsimp only [Pt.U, Pt.locs, Pt.cells, Pt.slots] at X_8 l_8 y_8 z_8 st_8 hQ_8
  subst l_8 y_8 z_8
  obtain ⟨a_9, k_10, rfl, N_11, K_12, g_13, g_14, g_15, g_16, g_17⟩ := hQ_8
  have N_18 := Fr.app N0 N_11
  have C_19 : Steps p.tables e below S0 (T_8.setTop (mkF m 9 #[.val (.ref x), .val (.ref b)] [])) := by
    refine C0.trans ?_
    refine XS.aloadN X0.here hx rfl (hb hby d1_0) rfl rfl ?_
    refine XS.aloadN X0.here hx rfl (hb hby d1_1) rfl rfl ?_
    refine XS.iconst X0.here hx rfl (hb hby d1_2) ?_
    refine XS.aloadN X0.here hx rfl (hb hby d1_3) rfl rfl ?_
    refine X0.arraylength hx (by rw [e0]; exact A_2.1) (State.isArrayOf_alike hZ.alike A_2.2.1) (g := (mkF m 4 #[.val (.ref x), .val (.ref b)] [(.ref b), (.int (0 : Int32)), (.ref b), (.ref x)])) rfl rfl (hb hby d1_4) _ ?_
    rw [len_of S_4 M_5]
    refine XS.aconstNull X0.here hx rfl (hb hby d1_5) ?_
    refine st_8.trans ?_
    exact Steps.refl _
  have K_20 : Keep h0 T_8.heap [x] := ((Keep.refl _ _).trans K_12 (allS (Or.inl (List.mem_of_getElem? (i := 0) rfl)) all0))
  obtain ⟨fs, hr, hrun, hended, hW, hsame⟩ := X_8.leave (v := none) (fun _ => rfl)
  refine ⟨_, _, C_19.trans (X_8.returnOut hx Bd.returns (hb hby d1_9) hr), hrun, hended, _, _, rfl, ?_, ⟨_, rfl⟩, hW, hsame.mono (by decide) (by decide)⟩
  show Q_si1_2 Z G1 kF kA x b k c0 c1 h0 n0 (none) T_8.heap _
  exact ⟨a_9, k_10, rfl, N_18, K_20, g_13, g_14, g_15, (Nat.le_trans (Nat.le_refl _) g_16), g_17⟩
abbrev R_cmp5_3 : Room := { frames := 0, cells := 0, slots := 0, locals := 0 }
def Q_cmp5_3 (Z : State) (G1 : Int32) (kF : Addr) (kA : Addr) (b : Addr) (k : ClassId) (t : Addr) (kt : ClassId) (c0 : Int32) (c1 : Int32) (c2 : Int32) (h0 : Heap) (n0 : Nat) (v : Option Value) (h : Heap) (L : List Loc) : Prop := (v = some (.int (3 : Int32)) ∧ Fr n0 L ∧ Keep h0 h [t] ∧ (Arv Z h t kt .byte (3 : Int32) [(.int (own_lo8 c0)), (.int (own_lo8 c1)), (.int (own_lo8 c2))] (.int (0 : Int32))))
set_option maxRecDepth 65536 in
set_option maxHeartbeats 40000000 in
theorem rm_cmp5_3 (l : Launch) (Z : State) (a0 : Array Value) (hw : ∀ d ∈ tables_1, d.before a0 Z = true) (ws : List Jvm.Cond) (G1 : Int32) (kF : Addr) (kA : Addr) (HG : own_G l Z a0 G1 kF kA) (h0 : Heap) (n0 : Nat) (X00 : Old Z n0 h0) (b : Addr) (k : ClassId) (t : Addr) (kt : ClassId) (c0 : Int32) (c1 : Int32) (c2 : Int32) (hp0 : Arv Z h0 b k .char (3 : Int32) [(.int c0), (.int c1), (.int c2)] (.int (0 : Int32))) (hp1 : Arv Z h0 t kt .byte (3 : Int32) [(.int (0 : Int32)), (.int (0 : Int32)), (.int (0 : Int32))] (.int (0 : Int32))) (hp2 : n0 ≤ t) (hp3 : b ≠ t) (hh0 : ¬ ((255 : Int32) < c0)) (hh1 : ¬ ((255 : Int32) < c1)) (hh2 : ¬ ((255 : Int32) < c2)) :
    own_CP l Z M40 jdk_52_method_21_code 7 (some .int) ws R_cmp5_3 #[(.ref b), (.int (0 : Int32)), (.ref t), (.int (0 : Int32)), (.int (3 : Int32))] h0 (Q_cmp5_3 Z G1 kF kA b k t kt c0 c1 c2 h0 n0) := by
  refine own_P (plainFor_of_name pn_42) ?_
  intro p e s m below meth c s₁ S0 Bd hZ hh hx hby hml hown hnm X0 e0 hS0d
  obtain ⟨O1, P1, O2, O3, E2, F2, NE⟩ := id HG
  have N0 := Fr.nil n0
  have C0 : Steps p.tables e below S0 (s₁.setTop (mkF m 0 #[.val (.ref b), .val (.int (0 : Int32)), .val (.ref t), .val (.int (0 : Int32)), .val (.int (3 : Int32)), .unset, .unset] [])) := by rw [hS0d]; exact castTop (ef_41 m b (0 : Int32) t (0 : Int32) (3 : Int32)) (Steps.refl _)
  obtain ⟨c_1, A_2, q_3, S_4, M_5, H_6, U_7⟩ := id hp0
  have hin_8 : ¬ ((0 : Int32) < 0 ∨ c_1.slots.size ≤ (0 : Int32).toNatClampNeg) := inb_of S_4 ⟨(by decide : ¬ ((0 : Int32) < (0 : Int32))), (by decide : (0 : Int32) < (3 : Int32))⟩
  have hat_9 : c_1.slots[(0 : Int32).toNatClampNeg]? = some (.int c0) := Has.at H_6 hin_8 rfl
  obtain ⟨c_10, A_11, q_12, S_13, M_14, H_15, U_16⟩ := id hp1
  have hin_23 : ¬ ((0 : Int32) < 0 ∨ c_10.slots.size ≤ (0 : Int32).toNatClampNeg) := inb_of S_13 ⟨(by decide : ¬ ((0 : Int32) < (0 : Int32))), (by decide : (0 : Int32) < (3 : Int32))⟩
  obtain ⟨T_17, h_18, X_19, e_20, W_21, st_22⟩ := stB X0 hx hZ e0 A_11 (j := (0 : Int32)) hin_23 (g := (mkF m 31 #[.val (.ref b), .val (.int (0 : Int32)), .val (.ref t), .val (.int (0 : Int32)), .val (.int (3 : Int32)), .val (.int (0 : Int32)), .val (.int c0)] [(.int (c0.toInt8.toInt32)), (.int (0 : Int32)), (.ref t)])) rfl rfl (hb hby d2_31)
  have N_24 := Fr.snoc X_19 N0 hp2
  have V_25 : Arv Z h_18 t kt .byte (3 : Int32) [(.int (own_lo8 c0)), (.int (0 : Int32)), (.int (0 : Int32))] (.int (0 : Int32)) := Arv.set A_11 q_12 S_13 M_14 H_15 U_16 (fits_nar_byte _) W_21 0 rfl (Nat.le_of_ble_eq_true rfl)
  have V_26 : Arv Z h_18 b k .char (3 : Int32) [(.int c0), (.int c1), (.int c2)] (.int (0 : Int32)) := (hp0.other W_21 hp3)
  obtain ⟨c_27, A_28, q_29, S_30, M_31, H_32, U_33⟩ := id V_26
  have hin_34 : ¬ ((1 : Int32) < 0 ∨ c_27.slots.size ≤ (1 : Int32).toNatClampNeg) := inb_of S_30 ⟨(by decide : ¬ ((1 : Int32) < (0 : Int32))), (by decide : (1 : Int32) < (3 : Int32))⟩
  have hat_35 : c_27.slots[(1 : Int32).toNatClampNeg]? = some (.int c1) := Has.at H_32 hin_34 rfl
  obtain ⟨c_36, A_37, q_38, S_39, M_40, H_41, U_42⟩ := id V_25
  have hin_49 : ¬ ((1 : Int32) < 0 ∨ c_36.slots.size ≤ (1 : Int32).toNatClampNeg) := inb_of S_39 ⟨(by decide : ¬ ((1 : Int32) < (0 : Int32))), (by decide : (1 : Int32) < (3 : Int32))⟩
  obtain ⟨T_43, h_44, X_45, e_46, W_47, st_48⟩ := stB X_19 hx hZ e_20 A_37 (j := (1 : Int32)) hin_49 (g := (mkF m 31 #[.val (.ref b), .val (.int (1 : Int32)), .val (.ref t), .val (.int (1 : Int32)), .val (.int (3 : Int32)), .val (.int (1 : Int32)), .val (.int c1)] [(.int (c1.toInt8.toInt32)), (.int (1 : Int32)), (.ref t)])) rfl rfl (hb hby d2_31)
  have N_50 := Fr.snoc X_45 N_24 hp2
  have V_51 : Arv Z h_44 t kt .byte (3 : Int32) [(.int (own_lo8 c0)), (.int (own_lo8 c1)), (.int (0 : Int32))] (.int (0 : Int32)) := Arv.set A_37 q_38 S_39 M_40 H_41 U_42 (fits_nar_byte _) W_47 1 rfl (Nat.le_of_ble_eq_true rfl)
  have V_52 : Arv Z h_44 b k .char (3 : Int32) [(.int c0), (.int c1), (.int c2)] (.int (0 : Int32)) := (V_26.other W_47 hp3)
  obtain ⟨c_53, A_54, q_55, S_56, M_57, H_58, U_59⟩ := id V_52
  have hin_60 : ¬ ((2 : Int32) < 0 ∨ c_53.slots.size ≤ (2 : Int32).toNatClampNeg) := inb_of S_56 ⟨(by decide : ¬ ((2 : Int32) < (0 : Int32))), (by decide : (2 : Int32) < (3 : Int32))⟩
  have hat_61 : c_53.slots[(2 : Int32).toNatClampNeg]? = some (.int c2) := Has.at H_58 hin_60 rfl
  obtain ⟨c_62, A_63, q_64, S_65, M_66, H_67, U_68⟩ := id V_51
  have hin_75 : ¬ ((2 : Int32) < 0 ∨ c_62.slots.size ≤ (2 : Int32).toNatClampNeg) := inb_of S_65 ⟨(by decide : ¬ ((2 : Int32) < (0 : Int32))), (by decide : (2 : Int32) < (3 : Int32))⟩
  obtain ⟨T_69, h_70, X_71, e_72, W_73, st_74⟩ := stB X_45 hx hZ e_46 A_63 (j := (2 : Int32)) hin_75 (g := (mkF m 31 #[.val (.ref b), .val (.int (2 : Int32)), .val (.ref t), .val (.int (2 : Int32)), .val (.int (3 : Int32)), .val (.int (2 : Int32)), .val (.int c2)] [(.int (c2.toInt8.toInt32)), (.int (2 : Int32)), (.ref t)])) rfl rfl (hb hby d2_31)
  have N_76 := Fr.snoc X_71 N_50 hp2
  have V_77 : Arv Z h_70 t kt .byte (3 : Int32) [(.int (own_lo8 c0)), (.int (own_lo8 c1)), (.int (own_lo8 c2))] (.int (0 : Int32)) := Arv.set A_63 q_64 S_65 M_66 H_67 U_68 (fits_nar_byte _) W_73 2 rfl (Nat.le_of_ble_eq_true rfl)
  have C_78 : Steps p.tables e below S0 (T_69.setTop (mkF m 46 #[.val (.ref b), .val (.int (3 : Int32)), .val (.ref t), .val (.int (3 : Int32)), .val (.int (3 : Int32)), .val (.int (3 : Int32)), .val (.int c2)] [(.int (3 : Int32))])) := by
    refine C0.trans ?_
    refine XS.iconst X0.here hx rfl (hb hby d2_0) ?_
    refine XS.istore X0.here hx rfl (hb hby d2_1) rfl (l' := #[.val (.ref b), .val (.int (0 : Int32)), .val (.ref t), .val (.int (0 : Int32)), .val (.int (3 : Int32)), .val (.int (0 : Int32)), .unset]) rfl ?_
    refine XS.iload X0.here hx rfl (hb hby d2_3) rfl ?_
    refine XS.iload X0.here hx rfl (hb hby d2_5) rfl ?_
    refine XS.icmpNo X0.here hx rfl (hb hby d2_7) rfl (by decide) ?_
    refine XS.aloadN X0.here hx rfl (hb hby d2_10) rfl rfl ?_
    refine XS.iloadN X0.here hx rfl (hb hby d2_11) rfl ?_
    refine X0.caload hx (j := (0 : Int32)) (v := (.int c0)) (by rw [e0]; exact A_2.1) (State.isArrayOf_alike hZ.alike A_2.2.1) A_2.2.2 hin_8 hat_9 (g := (mkF m 12 #[.val (.ref b), .val (.int (0 : Int32)), .val (.ref t), .val (.int (0 : Int32)), .val (.int (3 : Int32)), .val (.int (0 : Int32)), .unset] [(.int (0 : Int32)), (.ref b)])) rfl rfl (hb hby d2_12) _ ?_
    show Steps p.tables e below (s₁.setTop (mkF m 13 #[.val (.ref b), .val (.int (0 : Int32)), .val (.ref t), .val (.int (0 : Int32)), .val (.int (3 : Int32)), .val (.int (0 : Int32)), .unset] [(.int c0)])) _
    refine XS.istore X0.here hx rfl (hb hby d2_13) rfl (l' := #[.val (.ref b), .val (.int (0 : Int32)), .val (.ref t), .val (.int (0 : Int32)), .val (.int (3 : Int32)), .val (.int (0 : Int32)), .val (.int c0)]) rfl ?_
    refine XS.iload X0.here hx rfl (hb hby d2_15) rfl ?_
    refine XS.sipush X0.here hx rfl (hb hby d2_17) ?_
    refine XS.icmpYes X0.here hx rfl (pc0 := 20) (pc' := 26) rfl (hb hby d2_20) rfl (ii_le_t hh0) (by decide) (by decide) ?_
    refine XS.aloadN X0.here hx rfl (hb hby d2_26) rfl rfl ?_
    refine XS.iloadN X0.here hx rfl (hb hby d2_27) rfl ?_
    refine XS.iload X0.here hx rfl (hb hby d2_28) rfl ?_
    refine XS.i2b X0.here hx rfl (hb hby d2_30) rfl ?_
    show Steps p.tables e below (s₁.setTop (mkF m 31 #[.val (.ref b), .val (.int (0 : Int32)), .val (.ref t), .val (.int (0 : Int32)), .val (.int (3 : Int32)), .val (.int (0 : Int32)), .val (.int c0)] [(.int (c0.toInt8.toInt32)), (.int (0 : Int32)), (.ref t)])) _
    refine st_22 _ ?_
    refine XS.iinc X_19.here hx rfl (hb hby d2_32) (x := (0 : Int32)) rfl (l' := #[.val (.ref b), .val (.int (1 : Int32)), .val (.ref t), .val (.int (0 : Int32)), .val (.int (3 : Int32)), .val (.int (0 : Int32)), .val (.int c0)]) rfl ?_
    refine XS.iinc X_19.here hx rfl (hb hby d2_35) (x := (0 : Int32)) rfl (l' := #[.val (.ref b), .val (.int (1 : Int32)), .val (.ref t), .val (.int (1 : Int32)), .val (.int (3 : Int32)), .val (.int (0 : Int32)), .val (.int c0)]) rfl ?_
    refine XS.iinc X_19.here hx rfl (hb hby d2_38) (x := (0 : Int32)) rfl (l' := #[.val (.ref b), .val (.int (1 : Int32)), .val (.ref t), .val (.int (1 : Int32)), .val (.int (3 : Int32)), .val (.int (1 : Int32)), .val (.int c0)]) rfl ?_
    refine XS.goto X_19.here hx rfl (pc0 := 41) (pc' := 3) rfl (hb hby d2_41) (by decide) (by decide) ?_
    refine XS.iload X_19.here hx rfl (hb hby d2_3) rfl ?_
    refine XS.iload X_19.here hx rfl (hb hby d2_5) rfl ?_
    refine XS.icmpNo X_19.here hx rfl (hb hby d2_7) rfl (by decide) ?_
    show Steps p.tables e below (T_17.setTop (mkF m 10 #[.val (.ref b), .val (.int (1 : Int32)), .val (.ref t), .val (.int (1 : Int32)), .val (.int (3 : Int32)), .val (.int (1 : Int32)), .val (.int c0)] [])) _
    refine XS.aloadN X_19.here hx rfl (hb hby d2_10) rfl rfl ?_
    refine XS.iloadN X_19.here hx rfl (hb hby d2_11) rfl ?_
    refine X_19.caload hx (j := (1 : Int32)) (v := (.int c1)) (by rw [e_20]; exact A_28.1) (State.isArrayOf_alike hZ.alike A_28.2.1) A_28.2.2 hin_34 hat_35 (g := (mkF m 12 #[.val (.ref b), .val (.int (1 : Int32)), .val (.ref t), .val (.int (1 : Int32)), .val (.int (3 : Int32)), .val (.int (1 : Int32)), .val (.int c0)] [(.int (1 : Int32)), (.ref b)])) rfl rfl (hb hby d2_12) _ ?_
    refine XS.istore X_19.here hx rfl (hb hby d2_13) rfl (l' := #[.val (.ref b), .val (.int (1 : Int32)), .val (.ref t), .val (.int (1 : Int32)), .val (.int (3 : Int32)), .val (.int (1 : Int32)), .val (.int c1)]) rfl ?_
    refine XS.iload X_19.here hx rfl (hb hby d2_15) rfl ?_
    refine XS.sipush X_19.here hx rfl (hb hby d2_17) ?_
    refine XS.icmpYes X_19.here hx rfl (pc0 := 20) (pc' := 26) rfl (hb hby d2_20) rfl (ii_le_t hh1) (by decide) (by decide) ?_
    refine XS.aloadN X_19.here hx rfl (hb hby d2_26) rfl rfl ?_
    show Steps p.tables e below (T_17.setTop (mkF m 27 #[.val (.ref b), .val (.int (1 : Int32)), .val (.ref t), .val (.int (1 : Int32)), .val (.int (3 : Int32)), .val (.int (1 : Int32)), .val (.int c1)] [(.ref t)])) _
    refine XS.iloadN X_19.here hx rfl (hb hby d2_27) rfl ?_
    refine XS.iload X_19.here hx rfl (hb hby d2_28) rfl ?_
    refine XS.i2b X_19.here hx rfl (hb hby d2_30) rfl ?_
    refine st_48 _ ?_
    refine XS.iinc X_45.here hx rfl (hb hby d2_32) (x := (1 : Int32)) rfl (l' := #[.val (.ref b), .val (.int (2 : Int32)), .val (.ref t), .val (.int (1 : Int32)), .val (.int (3 : Int32)), .val (.int (1 : Int32)), .val (.int c1)]) rfl ?_
    refine XS.iinc X_45.here hx rfl (hb hby d2_35) (x := (1 : Int32)) rfl (l' := #[.val (.ref b), .val (.int (2 : Int32)), .val (.ref t), .val (.int (2 : Int32)), .val (.int (3 : Int32)), .val (.int (1 : Int32)), .val (.int c1)]) rfl ?_
    refine XS.iinc X_45.here hx rfl (hb hby d2_38) (x := (1 : Int32)) rfl (l' := #[.val (.ref b), .val (.int (2 : Int32)), .val (.ref t), .val (.int (2 : Int32)), .val (.int (3 : Int32)), .val (.int (2 : Int32)), .val (.int c1)]) rfl ?_
    refine XS.goto X_45.here hx rfl (pc0 := 41) (pc' := 3) rfl (hb hby d2_41) (by decide) (by decide) ?_
    show Steps p.tables e below (T_43.setTop (mkF m 3 #[.val (.ref b), .val (.int (2 : Int32)), .val (.ref t), .val (.int (2 : Int32)), .val (.int (3 : Int32)), .val (.int (2 : Int32)), .val (.int c1)] [])) _
    refine XS.iload X_45.here hx rfl (hb hby d2_3) rfl ?_
    refine XS.iload X_45.here hx rfl (hb hby d2_5) rfl ?_
    refine XS.icmpNo X_45.here hx rfl (hb hby d2_7) rfl (by decide) ?_
    refine XS.aloadN X_45.here hx rfl (hb hby d2_10) rfl rfl ?_
    refine XS.iloadN X_45.here hx rfl (hb hby d2_11) rfl ?_
    refine X_45.caload hx (j := (2 : Int32)) (v := (.int c2)) (by rw [e_46]; exact A_54.1) (State.isArrayOf_alike hZ.alike A_54.2.1) A_54.2.2 hin_60 hat_61 (g := (mkF m 12 #[.val (.ref b), .val (.int (2 : Int32)), .val (.ref t), .val (.int (2 : Int32)), .val (.int (3 : Int32)), .val (.int (2 : Int32)), .val (.int c1)] [(.int (2 : Int32)), (.ref b)])) rfl rfl (hb hby d2_12) _ ?_
    refine XS.istore X_45.here hx rfl (hb hby d2_13) rfl (l' := #[.val (.ref b), .val (.int (2 : Int32)), .val (.ref t), .val (.int (2 : Int32)), .val (.int (3 : Int32)), .val (.int (2 : Int32)), .val (.int c2)]) rfl ?_
    refine XS.iload X_45.here hx rfl (hb hby d2_15) rfl ?_
    show Steps p.tables e below (T_43.setTop (mkF m 17 #[.val (.ref b), .val (.int (2 : Int32)), .val (.ref t), .val (.int (2 : Int32)), .val (.int (3 : Int32)), .val (.int (2 : Int32)), .val (.int c2)] [(.int c2)])) _
    refine XS.sipush X_45.here hx rfl (hb hby d2_17) ?_
    refine XS.icmpYes X_45.here hx rfl (pc0 := 20) (pc' := 26) rfl (hb hby d2_20) rfl (ii_le_t hh2) (by decide) (by decide) ?_
    refine XS.aloadN X_45.here hx rfl (hb hby d2_26) rfl rfl ?_
    refine XS.iloadN X_45.here hx rfl (hb hby d2_27) rfl ?_
    refine XS.iload X_45.here hx rfl (hb hby d2_28) rfl ?_
    refine XS.i2b X_45.here hx rfl (hb hby d2_30) rfl ?_
    refine st_74 _ ?_
    refine XS.iinc X_71.here hx rfl (hb hby d2_32) (x := (2 : Int32)) rfl (l' := #[.val (.ref b), .val (.int (3 : Int32)), .val (.ref t), .val (.int (2 : Int32)), .val (.int (3 : Int32)), .val (.int (2 : Int32)), .val (.int c2)]) rfl ?_
    show Steps p.tables e below (T_69.setTop (mkF m 35 #[.val (.ref b), .val (.int (3 : Int32)), .val (.ref t), .val (.int (2 : Int32)), .val (.int (3 : Int32)), .val (.int (2 : Int32)), .val (.int c2)] [])) _
    refine XS.iinc X_71.here hx rfl (hb hby d2_35) (x := (2 : Int32)) rfl (l' := #[.val (.ref b), .val (.int (3 : Int32)), .val (.ref t), .val (.int (3 : Int32)), .val (.int (3 : Int32)), .val (.int (2 : Int32)), .val (.int c2)]) rfl ?_
    refine XS.iinc X_71.here hx rfl (hb hby d2_38) (x := (2 : Int32)) rfl (l' := #[.val (.ref b), .val (.int (3 : Int32)), .val (.ref t), .val (.int (3 : Int32)), .val (.int (3 : Int32)), .val (.int (3 : Int32)), .val (.int c2)]) rfl ?_
    refine XS.goto X_71.here hx rfl (pc0 := 41) (pc' := 3) rfl (hb hby d2_41) (by decide) (by decide) ?_
    refine XS.iload X_71.here hx rfl (hb hby d2_3) rfl ?_
    refine XS.iload X_71.here hx rfl (hb hby d2_5) rfl ?_
    refine XS.icmpYes X_71.here hx rfl (pc0 := 7) (pc' := 44) rfl (hb hby d2_7) rfl (by decide) (by decide) (by decide) ?_
    refine XS.iload X_71.here hx rfl (hb hby d2_44) rfl ?_
    exact Steps.refl _
  have K_79 : Keep h0 h_70 [t] := ((((Keep.refl _ _).wr W_21 (Or.inl (List.mem_of_getElem? (i := 0) rfl))).wr W_47 (Or.inl (List.mem_of_getElem? (i := 0) rfl))).wr W_73 (Or.inl (List.mem_of_getElem? (i := 0) rfl)))
  obtain ⟨fs, hr, hrun, hended, hW, hsame⟩ := X_71.leave (v := some (.int (3 : Int32))) (fun h => by rw [Bd.returns] at h; cases h)
  refine ⟨_, _, C_78.trans (retOut X_71 hx Bd.returns rfl (Or.inl ⟨rfl, Or.inl rfl, _, rfl⟩) (hb hby d2_46) hr), hrun, hended, _, _, rfl, ?_, ⟨_, rfl⟩, hW, hsame.mono (by decide) (by decide)⟩
  show Q_cmp5_3 Z G1 kF kA b k t kt c0 c1 c2 h0 n0 (some (.int (3 : Int32))) T_69.heap _
  rw [e_72]
  exact ⟨rfl, N_76, K_79, V_77⟩
abbrev R_cmp3_3 : Room := { frames := 1, cells := 1, slots := 3, locals := 18 }
def Q_cmp3_3 (Z : State) (G1 : Int32) (kF : Addr) (kA : Addr) (b : Addr) (k : ClassId) (c0 : Int32) (c1 : Int32) (c2 : Int32) (h0 : Heap) (n0 : Nat) (v : Option Value) (h : Heap) (L : List Loc) : Prop := (∃ t : Addr, ∃ kt : ClassId, v = some (.ref t) ∧ Fr n0 L ∧ Keep h0 h [] ∧ (h0.size ≤ t) ∧ (Arv Z h t kt .byte (3 : Int32) [(.int (own_lo8 c0)), (.int (own_lo8 c1)), (.int (own_lo8 c2))] (.int (0 : Int32))))
set_option maxRecDepth 65536 in
set_option maxHeartbeats 40000000 in
theorem rm_cmp3_3 (l : Launch) (Z : State) (a0 : Array Value) (hw : ∀ d ∈ tables_1, d.before a0 Z = true) (ws : List Jvm.Cond) (G1 : Int32) (kF : Addr) (kA : Addr) (HG : own_G l Z a0 G1 kF kA) (h0 : Heap) (n0 : Nat) (X00 : Old Z n0 h0) (b : Addr) (k : ClassId) (c0 : Int32) (c1 : Int32) (c2 : Int32) (hp0 : Arv Z h0 b k .char (3 : Int32) [(.int c0), (.int c1), (.int c2)] (.int (0 : Int32))) (hh0 : ¬ ((255 : Int32) < c0)) (hh1 : ¬ ((255 : Int32) < c1)) (hh2 : ¬ ((255 : Int32) < c2)) :
    own_CP l Z M66 jdk_52_method_16_code 6 (some (.array .byte)) ws R_cmp3_3 #[(.ref b), (.int (0 : Int32)), (.int (3 : Int32))] h0 (Q_cmp3_3 Z G1 kF kA b k c0 c1 c2 h0 n0) := by
  refine own_P (plainFor_of_name pn_42) ?_
  intro p e s m below meth c s₁ S0 Bd hZ hh hx hby hml hown hnm X0 e0 hS0d
  obtain ⟨O1, P1, O2, O3, E2, F2, NE⟩ := id HG
  have N0 := Fr.nil n0
  have C0 : Steps p.tables e below S0 (s₁.setTop (mkF m 0 #[.val (.ref b), .val (.int (0 : Int32)), .val (.int (3 : Int32)), .unset, .unset, .unset] [])) := by rw [hS0d]; exact castTop (ef_67 m b (0 : Int32) (3 : Int32)) (Steps.refl _)
  obtain ⟨T_1, h_2, k_3, X_4, e_5, E_6, A_7, st_8⟩ := newP (aty := .byte) X0 hx hZ (w20 hw) e0 (g := (mkF m 1 #[.val (.ref b), .val (.int (0 : Int32)), .val (.int (3 : Int32)), .unset, .unset, .unset] [(.int (3 : Int32))])) rfl (hb hby d3_1) rfl (by decide : ¬ ((3 : Int32) < (0 : Int32))) (cap := 3) (by decide : (3 : Int32).toNatClampNeg ≤ 3) (by decide) (by decide) (by decide)
  obtain ⟨a_9, g_10⟩ : ∃ z, z = h0.size := ⟨_, rfl⟩
  rw [← g_10] at A_7 st_8
  have V_12 : Arv Z h_2 a_9 k_3 .byte (3 : Int32) [] (.int (0 : Int32)) := Arv.new A_7 (by decide : ¬ ((3 : Int32) < (0 : Int32)))
  have V_11 : Arv Z h_2 a_9 k_3 .byte (3 : Int32) [(.int (0 : Int32)), (.int (0 : Int32)), (.int (0 : Int32))] (.int (0 : Int32)) := (V_12.pad (pad_rep [] (.int (0 : Int32)) 3))
  have V_13 : Arv Z h_2 b k .char (3 : Int32) [(.int c0), (.int c1), (.int c2)] (.int (0 : Int32)) := (hp0.ext E_6)
  have O_14 : Old Z n0 h_2 := (X00.ext E_6)
  obtain ⟨_, _, ⟨T_15, L_15, k_15, n_15⟩, -, X_15, ⟨Lc_15, hQ_15, l_15, y_15, z_15⟩, st_15⟩ := Jvm.LawKit.callS X_4 hx (y := M40) hown (mvT hZ (w101 hw)) (mvT hZ (w102 hw)) (mvT hZ (w99 hw)) (mvT hZ (w103 hw)) (by decide) (backOf (W := 0) (rm_cmp5_3 l Z a0 hw [] G1 kF kA HG h_2 n0 O_14 b k a_9 k_3 c0 c1 c2 V_13 V_11 (Nat.le_trans (own_n0 X00) (Nat.le_of_eq g_10.symm)) (Nat.ne_of_lt (Nat.lt_of_lt_of_le hp0.lt (Nat.le_trans (Nat.le_refl _) (Nat.le_of_eq g_10.symm)))) hh0 hh1 hh2) hZ (w103 hw) (w99 hw) (by decide) (by decide)) (g := (mkF m 9 #[.val (.ref b), .val (.int (0 : Int32)), .val (.int (3 : Int32)), .val (.ref a_9), .unset, .unset] [(.int (3 : Int32)), (.int (0 : Int32)), (.ref a_9), (.int (0 : Int32)), (.ref b)])) rfl (by rw [hml]; rfl) (argsL := [(.ref b), (.int (0 : Int32)), (.ref a_9), (.int (0 : Int32)), (.int (3 : Int32))]) (rest := []) (lenOf pd_79 rfl) rfl (by show 2 * 0 + _ ≤ _; exact Nat.le_of_eq rfl) (hb hby d3_9) (fun _ _ => ⟨rfl, e_5, (by decide : 1 + 0 ≤ _), (by decide : 3 + 0 ≤ _)⟩)
  dsimp only [Pt.U, Pt.locs, Pt.cells, Pt.slots] at X_15 l_15 y_15 z_15 st_15 hQ_15
  subst l_15 y_15 z_15
  obtain ⟨rfl, N_16, K_17, g_18⟩ := hQ_15
  have N_19 := Fr.app N0 N_16
  have C_20 : Steps p.tables e below S0 (T_15.setTop (mkF m 58 #[.val (.ref b), .val (.int (0 : Int32)), .val (.int (3 : Int32)), .val (.ref a_9), .val (.int (3 : Int32)), .unset] [(.ref a_9)])) := by
    refine C0.trans ?_
    refine XS.iloadN X0.here hx rfl (hb hby d3_0) rfl ?_
    refine st_8 _ ?_
    refine XS.astoreN X_4.here hx rfl (hb hby d3_3) rfl rfl (l' := #[.val (.ref b), .val (.int (0 : Int32)), .val (.int (3 : Int32)), .val (.ref a_9), .unset, .unset]) rfl ?_
    refine XS.aloadN X_4.here hx rfl (hb hby d3_4) rfl rfl ?_
    refine XS.iloadN X_4.here hx rfl (hb hby d3_5) rfl ?_
    refine XS.aloadN X_4.here hx rfl (hb hby d3_6) rfl rfl ?_
    refine XS.iconst X_4.here hx rfl (hb hby d3_7) ?_
    refine XS.iloadN X_4.here hx rfl (hb hby d3_8) rfl ?_
    show Steps p.tables e below (T_1.setTop (mkF m 9 #[.val (.ref b), .val (.int (0 : Int32)), .val (.int (3 : Int32)), .val (.ref a_9), .unset, .unset] [(.int (3 : Int32)), (.int (0 : Int32)), (.ref a_9), (.int (0 : Int32)), (.ref b)])) _
    refine st_15 _ ?_
    refine XS.istore X_15.here hx rfl (hb hby d3_12) rfl (l' := #[.val (.ref b), .val (.int (0 : Int32)), .val (.int (3 : Int32)), .val (.ref a_9), .val (.int (3 : Int32)), .unset]) rfl ?_
    refine XS.iload X_15.here hx rfl (hb hby d3_14) rfl ?_
    refine XS.iloadN X_15.here hx rfl (hb hby d3_16) rfl ?_
    refine XS.icmpYes X_15.here hx rfl (pc0 := 17) (pc' := 57) rfl (hb hby d3_17) rfl (by decide) (by decide) (by decide) ?_
    refine XS.aloadN X_15.here hx rfl (hb hby d3_57) rfl rfl ?_
    exact Steps.refl _
  have K_21 : Keep h0 T_15.heap [] := (((Keep.refl _ _).ext E_6).trans K_17 (allS (Or.inr (Nat.le_trans (Nat.le_refl _) (Nat.le_of_eq g_10.symm))) all0))
  obtain ⟨fs, hr, hrun, hended, hW, hsame⟩ := X_15.leave (v := some (.ref a_9)) (fun h => by rw [Bd.returns] at h; cases h)
  refine ⟨_, _, C_20.trans (retOut X_15 hx Bd.returns rfl (Or.inr (Or.inr (Or.inr (Or.inr ⟨rfl, rfl, rfl⟩)))) (hb hby d3_58) hr), hrun, hended, _, _, rfl, ?_, ⟨_, rfl⟩, hW, hsame.mono (by decide) (by decide)⟩
  show Q_cmp3_3 Z G1 kF kA b k c0 c1 c2 h0 n0 (some (.ref a_9)) T_15.heap _
  exact ⟨a_9, k_3, rfl, N_19, K_21, (Nat.le_trans (Nat.le_refl _) (Nat.le_of_eq g_10.symm)), g_18⟩
abbrev R_codl_3 : Room := { frames := 0, cells := 0, slots := 0, locals := 0 }
def Q_codl_3 (Z : State) (G1 : Int32) (kF : Addr) (kA : Addr) (t : Addr) (kt : ClassId) (y0 : Int32) (y1 : Int32) (y2 : Int32) (h0 : Heap) (n0 : Nat) (v : Option Value) (h : Heap) (L : List Loc) : Prop := (v = some (.int (0 : Int32)) ∧ Fr n0 L ∧ h = h0)
set_option maxRecDepth 65536 in
set_option maxHeartbeats 40000000 in
theorem rm_codl_3 (l : Launch) (Z : State) (a0 : Array Value) (hw : ∀ d ∈ tables_1, d.before a0 Z = true) (ws : List Jvm.Cond) (G1 : Int32) (kF : Addr) (kA : Addr) (HG : own_G l Z a0 G1 kF kA) (h0 : Heap) (n0 : Nat) (X00 : Old Z n0 h0) (t : Addr) (kt : ClassId) (y0 : Int32) (y1 : Int32) (y2 : Int32) (hp0 : Arv Z h0 t kt .byte (3 : Int32) [(.int y0), (.int y1), (.int y2)] (.int (0 : Int32))) :
    own_CP l Z M89 jdk_52_method_15_code 2 (some .byte) ws R_codl_3 #[(.ref t), (.int (3 : Int32))] h0 (Q_codl_3 Z G1 kF kA t kt y0 y1 y2 h0 n0) := by
  refine own_P (plainFor_of_name pn_42) ?_
  intro p e s m below meth c s₁ S0 Bd hZ hh hx hby hml hown hnm X0 e0 hS0d
  obtain ⟨O1, P1, O2, O3, E2, F2, NE⟩ := id HG
  have N0 := Fr.nil n0
  have C0 : Steps p.tables e below S0 (s₁.setTop (mkF m 0 #[.val (.ref t), .val (.int (3 : Int32))] [])) := by rw [hS0d]; exact castTop (ef_90 m t (3 : Int32)) (Steps.refl _)
  obtain ⟨c_1, A_2, q_3, S_4, M_5, H_6, U_7⟩ := id hp0
  have C_8 : Steps p.tables e below S0 (s₁.setTop (mkF m 8 #[.val (.ref t), .val (.int (3 : Int32))] [(.int (0 : Int32))])) := by
    refine C0.trans ?_
    refine XS.iloadN X0.here hx rfl (hb hby d4_0) rfl ?_
    refine XS.aloadN X0.here hx rfl (hb hby d4_1) rfl rfl ?_
    refine X0.arraylength hx (by rw [e0]; exact A_2.1) (State.isArrayOf_alike hZ.alike A_2.2.1) (g := (mkF m 2 #[.val (.ref t), .val (.int (3 : Int32))] [(.ref t), (.int (3 : Int32))])) rfl rfl (hb hby d4_2) _ ?_
    rw [len_of S_4 M_5]
    refine XS.isub X0.here hx rfl (hb hby d4_3) rfl ?_
    refine XS.bipush X0.here hx rfl (hb hby d4_4) ?_
    refine XS.iushr X0.here hx rfl (hb hby d4_6) rfl ?_
    refine XS.i2b X0.here hx rfl (hb hby d4_7) rfl ?_
    exact Steps.refl _
  obtain ⟨fs, hr, hrun, hended, hW, hsame⟩ := X0.leave (v := some (.int (0 : Int32))) (fun h => by rw [Bd.returns] at h; cases h)
  refine ⟨_, _, C_8.trans (retN X0 hx (t := .byte) Bd.returns (by simp) (hb hby d4_8) hr), hrun, hended, _, _, rfl, ?_, ⟨_, rfl⟩, hW, hsame.mono (by decide) (by decide)⟩
  show Q_codl_3 Z G1 kF kA t kt y0 y1 y2 h0 n0 (some (.int (0 : Int32))) s₁.heap _
  rw [e0]
  exact ⟨rfl, N0, rfl⟩
abbrev R_si4_3 : Room := { frames := 2, cells := 1, slots := 3, locals := 35 }
def Q_si4_3 (Z : State) (G1 : Int32) (kF : Addr) (kA : Addr) (x : Addr) (b : Addr) (k : ClassId) (c0 : Int32) (c1 : Int32) (c2 : Int32) (h0 : Heap) (n0 : Nat) (v : Option Value) (h : Heap) (L : List Loc) : Prop := (∃ t : Addr, ∃ kt : ClassId, v = none ∧ Fr n0 L ∧ Keep h0 h [x] ∧ (Exa Z h x "java/lang/String") ∧ (Fld Z h x "java/lang/String" "coder" "B" (.int (0 : Int32))) ∧ (Fld Z h x "java/lang/String" "value" "[B" (.ref t)) ∧ (h0.size ≤ t) ∧ (Arv Z h t kt .byte (3 : Int32) [(.int (own_lo8 c0)), (.int (own_lo8 c1)), (.int (own_lo8 c2))] (.int (0 : Int32))))
set_option maxRecDepth 65536 in
set_option maxHeartbeats 40000000 in
theorem rm_si4_3 (l : Launch) (Z : State) (a0 : Array Value) (hw : ∀ d ∈ tables_1, d.before a0 Z = true) (ws : List Jvm.Cond) (G1 : Int32) (kF : Addr) (kA : Addr) (HG : own_G l Z a0 G1 kF kA) (h0 : Heap) (n0 : Nat) (X00 : Old Z n0 h0) (x : Addr) (b : Addr) (k : ClassId) (c0 : Int32) (c1 : Int32) (c2 : Int32) (hp0 : Exa Z h0 x "java/lang/String") (hp1 : Fld Z h0 x "java/lang/String" "value" "[B" .null) (hp2 : Fld Z h0 x "java/lang/String" "coder" "B" (.int (0 : Int32))) (hp3 : n0 ≤ x) (hp4 : Arv Z h0 b k .char (3 : Int32) [(.int c0), (.int c1), (.int c2)] (.int (0 : Int32))) (hh0 : ¬ ((255 : Int32) < c0)) (hh1 : ¬ ((255 : Int32) < c1)) (hh2 : ¬ ((255 : Int32) < c2)) :
    own_CP l Z M0 jdk_42_method_149_code 6 none ws R_si4_3 #[(.ref x), (.ref b), (.int (0 : Int32)), (.int (3 : Int32)), .null] h0 (Q_si4_3 Z G1 kF kA x b k c0 c1 c2 h0 n0) := by
  refine own_P (plainFor_of_name pn_2) ?_
  intro p e s m below meth c s₁ S0 Bd hZ hh hx hby hml hown hnm X0 e0 hS0d
  obtain ⟨O1, P1, O2, O3, E2, F2, NE⟩ := id HG
  have N0 := Fr.nil n0
  have C0 : Steps p.tables e below S0 (s₁.setTop (mkF m 0 #[.val (.ref x), .val (.ref b), .val (.int (0 : Int32)), .val (.int (3 : Int32)), .val .null, .unset] [])) := by rw [hS0d]; exact castTop (ef_1 m x b (0 : Int32) (3 : Int32)) (Steps.refl _)
  obtain ⟨T_1, X_2, e_3, st_4⟩ := initO X0 hx hZ hown (w16 hw) (w17 hw) (w18 hw) e0 (g := (mkF m 1 #[.val (.ref x), .val (.ref b), .val (.int (0 : Int32)), .val (.int (3 : Int32)), .val .null, .unset] [(.ref x)])) rfl (by rw [hml]; rfl) rfl (hb hby d0_1) (by decide) (W := 0) (by show 2 * 0 + _ ≤ _; exact Nat.le_of_eq rfl) (by decide)
  obtain ⟨T_5, X_6, e_7, st_8⟩ := getS X_2 hx hZ (host := "") hown (w86 hw) Via.refl e_3 (O1.ext X00.2) (g := (mkF m 27 #[.val (.ref x), .val (.ref b), .val (.int (0 : Int32)), .val (.int (3 : Int32)), .val .null, .unset] [])) rfl (hb hby d0_27)
  obtain ⟨_, _, ⟨T_9, L_9, k_9, n_9⟩, -, X_9, ⟨Lc_9, hQ_9, l_9, y_9, z_9⟩, st_9⟩ := Jvm.LawKit.callS X_6 hx (y := M66) hown (mvT hZ (w97 hw)) (mvT hZ (w98 hw)) (mvT hZ (w99 hw)) (mvT hZ (w100 hw)) (by decide) (backOf (W := 0) (rm_cmp3_3 l Z a0 hw [] G1 kF kA HG h0 n0 X00 b k c0 c1 c2 hp4 hh0 hh1 hh2) hZ (w100 hw) (w99 hw) (by decide) (by decide)) (g := (mkF m 36 #[.val (.ref x), .val (.ref b), .val (.int (0 : Int32)), .val (.int (3 : Int32)), .val .null, .unset] [(.int (3 : Int32)), (.int (0 : Int32)), (.ref b)])) rfl (by rw [hml]; rfl) (argsL := [(.ref b), (.int (0 : Int32)), (.int (3 : Int32))]) (rest := []) (lenOf pd_106 rfl) rfl (by show 2 * 0 + _ ≤ _; exact Nat.le_of_eq rfl) (hb hby d0_36) (fun _ _ => ⟨rfl, e_7, (by decide : 0 + 1 ≤ _), (by decide : 0 + 3 ≤ _)⟩)
  dsimp only [Pt.U, Pt.locs, Pt.cells, Pt.slots] at X_9 l_9 y_9 z_9 st_9 hQ_9
  subst l_9 y_9 z_9
  obtain ⟨a_10, k_11, rfl, N_12, K_13, g_14, g_15⟩ := hQ_9
  have N_16 := Fr.app N0 N_12
  have O_17 : Old Z n0 T_9.heap := (X00.keep K_13 all0)
  obtain ⟨_, _, ⟨T_18, L_18, k_18, n_18⟩, -, X_18, ⟨Lc_18, hQ_18, l_18, y_18, z_18⟩, st_18⟩ := Jvm.LawKit.callS X_9 hx (y := M89) hown (mvT hZ (w104 hw)) (mvT hZ (w105 hw)) (mvT hZ (w99 hw)) (mvT hZ (w106 hw)) (by decide) (backOf (W := 1) (rm_codl_3 l Z a0 hw [] G1 kF kA HG T_9.heap n0 O_17 a_10 k_11 (own_lo8 c0) (own_lo8 c1) (own_lo8 c2) g_15) hZ (w106 hw) (w99 hw) (by decide) (by decide)) (g := (mkF m 45 #[.val (.ref x), .val (.ref b), .val (.int (0 : Int32)), .val (.int (3 : Int32)), .val .null, .val (.ref a_10)] [(.int (3 : Int32)), (.ref a_10), (.ref x)])) rfl (by rw [hml]; rfl) (argsL := [(.ref a_10), (.int (3 : Int32))]) (rest := [(.ref x)]) (lenOf pd_115 rfl) rfl (by show 2 * 0 + _ ≤ _; exact Nat.le_of_eq rfl) (hb hby d0_45) (fun _ _ => ⟨rfl, rfl, (by decide : 1 + 0 ≤ _), (by decide : 3 + 0 ≤ _)⟩)
  dsimp only [Pt.U, Pt.locs, Pt.cells, Pt.slots] at X_18 l_18 y_18 z_18 st_18 hQ_18
  subst l_18 y_18 z_18
  obtain ⟨rfl, N_19, e_20⟩ := hQ_18
  have N_21 := Fr.app N_16 N_19
  have e_22 : T_18.heap = T_9.heap := e_20
  have F_23 : Fld Z T_9.heap x "java/lang/String" "coder" "B" (.int (0 : Int32)) := (hp2.keep K_13 nin0)
  have E_24 : Exa Z T_9.heap x "java/lang/String" := (hp0.keep K_13)
  obtain ⟨T_25, h_26, X_27, e_28, W_29, st_30⟩ := putF X_18 hx hZ hown (host := "") (Or.inl (w26 hw)) Via.refl e_22 F_23 E_24 (Or.inr ⟨(w22 hw), rfl, hnm⟩) (w2 hw) (ty := .byte) (by decide) rfl (by decide) (g := (mkF m 48 #[.val (.ref x), .val (.ref b), .val (.int (0 : Int32)), .val (.int (3 : Int32)), .val .null, .val (.ref a_10)] [(.int (0 : Int32)), (.ref x)])) rfl rfl (hb hby d0_48)
  have N_31 := Fr.snoc X_27 N_21 hp3
  have F_32 : Fld Z h_26 x "java/lang/String" "coder" "B" (.int (0 : Int32)) := F_23.same W_29
  have F_33 : Fld Z h_26 x "java/lang/String" "value" "[B" .null := ((hp1.keep K_13 nin0).other W_29 (Or.inr (slot_ne (Or.inr (w21 hw)) (Or.inr (w22 hw)) (by decide) (t := (.array .byte)) (by decide) (t' := .byte) (by decide))))
  have E_34 : Exa Z h_26 x "java/lang/String" := (E_24.wr W_29)
  obtain ⟨T_35, h_36, X_37, e_38, W_39, st_40⟩ := putF X_27 hx hZ hown (host := "") (Or.inl (w25 hw)) Via.refl e_28 F_33 E_34 (Or.inr ⟨(w21 hw), rfl, hnm⟩) (w2 hw) (ty := (.array .byte)) (by decide) rfl rfl (g := (mkF m 54 #[.val (.ref x), .val (.ref b), .val (.int (0 : Int32)), .val (.int (3 : Int32)), .val .null, .val (.ref a_10)] [(.ref a_10), (.ref x)])) rfl rfl (hb hby d0_54)
  have N_41 := Fr.snoc X_37 N_31 hp3
  have F_42 : Fld Z h_36 x "java/lang/String" "value" "[B" (.ref a_10) := F_33.same W_39
  have C_43 : Steps p.tables e below S0 (T_35.setTop (mkF m 57 #[.val (.ref x), .val (.ref b), .val (.int (0 : Int32)), .val (.int (3 : Int32)), .val .null, .val (.ref a_10)] [])) := by
    refine C0.trans ?_
    refine XS.aloadN X0.here hx rfl (hb hby d0_0) rfl rfl ?_
    refine st_4 _ ?_
    refine XS.iloadN X_2.here hx rfl (hb hby d0_4) rfl ?_
    refine XS.ifYes X_2.here hx rfl (pc0 := 5) (pc' := 27) rfl (hb hby d0_5) rfl (by decide) (by decide) (by decide) ?_
    refine st_8 _ ?_
    refine XS.ifNo X_6.here hx rfl (hb hby d0_30) rfl (i0_eq_f P1) ?_
    refine XS.aloadN X_6.here hx rfl (hb hby d0_33) rfl rfl ?_
    refine XS.iloadN X_6.here hx rfl (hb hby d0_34) rfl ?_
    show Steps p.tables e below (T_5.setTop (mkF m 35 #[.val (.ref x), .val (.ref b), .val (.int (0 : Int32)), .val (.int (3 : Int32)), .val .null, .unset] [(.int (0 : Int32)), (.ref b)])) _
    refine XS.iloadN X_6.here hx rfl (hb hby d0_35) rfl ?_
    refine st_9 _ ?_
    refine XS.astore X_9.here hx rfl (hb hby d0_39) rfl rfl (l' := #[.val (.ref x), .val (.ref b), .val (.int (0 : Int32)), .val (.int (3 : Int32)), .val .null, .val (.ref a_10)]) rfl ?_
    refine XS.aloadN X_9.here hx rfl (hb hby d0_41) rfl rfl ?_
    refine XS.aload X_9.here hx rfl (hb hby d0_42) rfl rfl ?_
    refine XS.iloadN X_9.here hx rfl (hb hby d0_44) rfl ?_
    refine st_18 _ ?_
    refine st_30 _ ?_
    show Steps p.tables e below (T_25.setTop (mkF m 51 #[.val (.ref x), .val (.ref b), .val (.int (0 : Int32)), .val (.int (3 : Int32)), .val .null, .val (.ref a_10)] [])) _
    refine XS.aloadN X_27.here hx rfl (hb hby d0_51) rfl rfl ?_
    refine XS.aload X_27.here hx rfl (hb hby d0_52) rfl rfl ?_
    refine st_40 _ ?_
    exact Steps.refl _
  have E_44 : Exa Z h_36 x "java/lang/String" := (E_34.wr W_39)
  have F_45 : Fld Z h_36 x "java/lang/String" "coder" "B" (.int (0 : Int32)) := (F_32.other W_39 (Or.inr (slot_ne (Or.inr (w22 hw)) (Or.inr (w21 hw)) (by decide) (t := .byte) (by decide) (t' := (.array .byte)) (by decide))))
  have V_46 : Arv Z h_36 a_10 k_11 .byte (3 : Int32) [(.int (own_lo8 c0)), (.int (own_lo8 c1)), (.int (own_lo8 c2))] (.int (0 : Int32)) := ((g_15.other W_29 (Ne.symm (Nat.ne_of_lt (Nat.lt_of_lt_of_le hp0.lt (Nat.le_trans (Nat.le_refl _) g_14))))).other W_39 (Ne.symm (Nat.ne_of_lt (Nat.lt_of_lt_of_le hp0.lt (Nat.le_trans (Nat.le_refl _) g_14)))))
  have K_47 : Keep h0 h_36 [x] := ((((Keep.refl _ _).trans K_13 all0).wr W_29 (Or.inl (List.mem_of_getElem? (i := 0) rfl))).wr W_39 (Or.inl (List.mem_of_getElem? (i := 0) rfl)))
  obtain ⟨fs, hr, hrun, hended, hW, hsame⟩ := X_37.leave (v := none) (fun _ => rfl)
  refine ⟨_, _, C_43.trans (X_37.returnOut hx Bd.returns (hb hby d0_57) hr), hrun, hended, _, _, rfl, ?_, ⟨_, rfl⟩, hW, hsame.mono (by decide) (by decide)⟩
  show Q_si4_3 Z G1 kF kA x b k c0 c1 c2 h0 n0 (none) T_35.heap _
  rw [e_38]
  exact ⟨a_10, k_11, rfl, N_41, K_47, E_44, F_45, F_42, (Nat.le_trans (Nat.le_refl _) g_14), V_46⟩
abbrev R_si1_3 : Room := { frames := 3, cells := 1, slots := 3, locals := 52 }
def Q_si1_3 (Z : State) (G1 : Int32) (kF : Addr) (kA : Addr) (x : Addr) (b : Addr) (k : ClassId) (c0 : Int32) (c1 : Int32) (c2 : Int32) (h0 : Heap) (n0 : Nat) (v : Option Value) (h : Heap) (L : List Loc) : Prop := (∃ t : Addr, ∃ kt : ClassId, v = none ∧ Fr n0 L ∧ Keep h0 h [x] ∧ (Exa Z h x "java/lang/String") ∧ (Fld Z h x "java/lang/String" "coder" "B" (.int (0 : Int32))) ∧ (Fld Z h x "java/lang/String" "value" "[B" (.ref t)) ∧ (h0.size ≤ t) ∧ (Arv Z h t kt .byte (3 : Int32) [(.int (own_lo8 c0)), (.int (own_lo8 c1)), (.int (own_lo8 c2))] (.int (0 : Int32))))
set_option maxRecDepth 65536 in
set_option maxHeartbeats 40000000 in
theorem rm_si1_3 (l : Launch) (Z : State) (a0 : Array Value) (hw : ∀ d ∈ tables_1, d.before a0 Z = true) (ws : List Jvm.Cond) (G1 : Int32) (kF : Addr) (kA : Addr) (HG : own_G l Z a0 G1 kF kA) (h0 : Heap) (n0 : Nat) (X00 : Old Z n0 h0) (x : Addr) (b : Addr) (k : ClassId) (c0 : Int32) (c1 : Int32) (c2 : Int32) (hp0 : Exa Z h0 x "java/lang/String") (hp1 : Fld Z h0 x "java/lang/String" "value" "[B" .null) (hp2 : Fld Z h0 x "java/lang/String" "coder" "B" (.int (0 : Int32))) (hp3 : n0 ≤ x) (hp4 : Arv Z h0 b k .char (3 : Int32) [(.int c0), (.int c1), (.int c2)] (.int (0 : Int32))) (hh0 : ¬ ((255 : Int32) < c0)) (hh1 : ¬ ((255 : Int32) < c1)) (hh2 : ¬ ((255 : Int32) < c2)) :
    own_CP l Z M25 jdk_42_method_3_code 2 none ws R_si1_3 #[(.ref x), (.ref b)] h0 (Q_si1_3 Z G1 kF kA x b k c0 c1 c2 h0 n0) := by
  refine own_P (plainFor_of_name pn_2) ?_
  intro p e s m below meth c s₁ S0 Bd hZ hh hx hby hml hown hnm X0 e0 hS0d
  obtain ⟨O1, P1, O2, O3, E2, F2, NE⟩ := id HG
  have N0 := Fr.nil n0
  have C0 : Steps p.tables e below S0 (s₁.setTop (mkF m 0 #[.val (.ref x), .val (.ref b)] [])) := by rw [hS0d]; exact castTop (ef_26 m x b) (Steps.refl _)
  obtain ⟨c_1, A_2, q_3, S_4, M_5, H_6, U_7⟩ := id hp4
  obtain ⟨_, _, ⟨T_8, L_8, k_8, n_8⟩, -, X_8, ⟨Lc_8, hQ_8, l_8, y_8, z_8⟩, st_8⟩ := X0.specialBack hx (y := M0) rfl hown (mvT hZ (w12 hw)) (mvT hZ (w13 hw)) (mvT hZ (w15 hw)) (by decide) (backOf (W := 0) (rm_si4_3 l Z a0 hw [] G1 kF kA HG h0 n0 X00 x b k c0 c1 c2 hp0 hp1 hp2 hp3 hp4 hh0 hh1 hh2) hZ (w15 hw) (w3 hw) (by decide) (by decide)) (g := (mkF m 6 #[.val (.ref x), .val (.ref b)] [.null, (.int (3 : Int32)), (.int (0 : Int32)), (.ref b), (.ref x)])) rfl (by rw [hml]; rfl) (Steps.refl _) (a := x) (argsL := [(.ref b), (.int (0 : Int32)), (.int (3 : Int32)), .null]) (rest := []) (lenOf pd_35 rfl) rfl (by show 2 * 0 + _ ≤ _; exact Nat.le_of_eq rfl) (hb hby d1_6) (fun _ _ => ⟨rfl, e0, (by decide : 0 + 1 ≤ _), (by decide : 0 + 3 ≤ _)⟩)
  dsimp only [Pt.U, Pt.locs, Pt.cells, Pt.slots] at X_8 l_8 y_8 z_8 st_8 hQ_8
  subst l_8 y_8 z_8
  obtain ⟨a_9, k_10, rfl, N_11, K_12, g_13, g_14, g_15, g_16, g_17⟩ := hQ_8
  have N_18 := Fr.app N0 N_11
  have C_19 : Steps p.tables e below S0 (T_8.setTop (mkF m 9 #[.val (.ref x), .val (.ref b)] [])) := by
    refine C0.trans ?_
    refine XS.aloadN X0.here hx rfl (hb hby d1_0) rfl rfl ?_
    refine XS.aloadN X0.here hx rfl (hb hby d1_1) rfl rfl ?_
    refine XS.iconst X0.here hx rfl (hb hby d1_2) ?_
    refine XS.aloadN X0.here hx rfl (hb hby d1_3) rfl rfl ?_
    refine X0.arraylength hx (by rw [e0]; exact A_2.1) (State.isArrayOf_alike hZ.alike A_2.2.1) (g := (mkF m 4 #[.val (.ref x), .val (.ref b)] [(.ref b), (.int (0 : Int32)), (.ref b), (.ref x)])) rfl rfl (hb hby d1_4) _ ?_
    rw [len_of S_4 M_5]
    refine XS.aconstNull X0.here hx rfl (hb hby d1_5) ?_
    refine st_8.trans ?_
    exact Steps.refl _
  have K_20 : Keep h0 T_8.heap [x] := ((Keep.refl _ _).trans K_12 (allS (Or.inl (List.mem_of_getElem? (i := 0) rfl)) all0))
  obtain ⟨fs, hr, hrun, hended, hW, hsame⟩ := X_8.leave (v := none) (fun _ => rfl)
  refine ⟨_, _, C_19.trans (X_8.returnOut hx Bd.returns (hb hby d1_9) hr), hrun, hended, _, _, rfl, ?_, ⟨_, rfl⟩, hW, hsame.mono (by decide) (by decide)⟩
  show Q_si1_3 Z G1 kF kA x b k c0 c1 c2 h0 n0 (none) T_8.heap _
  exact ⟨a_9, k_10, rfl, N_18, K_20, g_13, g_14, g_15, (Nat.le_trans (Nat.le_refl _) g_16), g_17⟩
abbrev M124 : MethodName := ⟨"java/lang/String", "coder", "()B"⟩
theorem ef_125 (m : MethodId) (x0 : Addr) : entryFrame m #[(.ref x0)] 1 = mkF m 0 #[.val (.ref x0)] [] := by first | (simp [entryFrame, mkF, argsToLocals, Value.category]; done) | rfl
theorem d5_0 : decode jdk_42_method_152_code 0 = .ok (.getstatic 38, 3) := by decide +kernel
theorem d5_3 : decode jdk_42_method_152_code 3 = .ok (.ifCond .eq 10, 3) := by decide +kernel
theorem d5_6 : decode jdk_42_method_152_code 6 = .ok (.aload_n 0, 1) := by decide +kernel
theorem d5_7 : decode jdk_42_method_152_code 7 = .ok (.getfield 15, 3) := by decide +kernel
theorem d5_10 : decode jdk_42_method_152_code 10 = .ok (.goto 4, 3) := by decide +kernel
theorem d5_14 : decode jdk_42_method_152_code 14 = .ok (.ireturn, 1) := by decide +kernel
abbrev R_coder : Room := { frames := 0, cells := 0, slots := 0, locals := 0 }
def Q_coder (Z : State) (G1 : Int32) (kF : Addr) (kA : Addr) (x : Addr) (h0 : Heap) (n0 : Nat) (v : Option Value) (h : Heap) (L : List Loc) : Prop := (v = some (.int (0 : Int32)) ∧ Fr n0 L ∧ h = h0)
set_option maxRecDepth 65536 in
set_option maxHeartbeats 40000000 in
theorem rm_coder (l : Launch) (Z : State) (a0 : Array Value) (hw : ∀ d ∈ tables_1, d.before a0 Z = true) (ws : List Jvm.Cond) (G1 : Int32) (kF : Addr) (kA : Addr) (HG : own_G l Z a0 G1 kF kA) (h0 : Heap) (n0 : Nat) (X00 : Old Z n0 h0) (x : Addr) (hp0 : Fld Z h0 x "java/lang/String" "coder" "B" (.int (0 : Int32))) :
    own_CP l Z M124 jdk_42_method_152_code 1 (some .byte) ws R_coder #[(.ref x)] h0 (Q_coder Z G1 kF kA x h0 n0) := by
  refine own_P (plainFor_of_name pn_2) ?_
  intro p e s m below meth c s₁ S0 Bd hZ hh hx hby hml hown hnm X0 e0 hS0d
  obtain ⟨O1, P1, O2, O3, E2, F2, NE⟩ := id HG
  have N0 := Fr.nil n0
  have C0 : Steps p.tables e below S0 (s₁.setTop (mkF m 0 #[.val (.ref x)] [])) := by rw [hS0d]; exact castTop (ef_125 m x) (Steps.refl _)
  obtain ⟨T_1, X_2, e_3, st_4⟩ := getS X0 hx hZ (host := "") hown (w86 hw) Via.refl e0 (O1.ext X00.2) (g := (mkF m 0 #[.val (.ref x)] [])) rfl (hb hby d5_0)
  obtain ⟨T_5, X_6, e_7, st_8⟩ := getF X_2 hx hZ hown (host := "") (Or.inl (w26 hw)) Via.refl e_3 hp0 (g := (mkF m 7 #[.val (.ref x)] [(.ref x)])) rfl rfl (hb hby d5_7)
  have C_9 : Steps p.tables e below S0 (T_5.setTop (mkF m 14 #[.val (.ref x)] [(.int (0 : Int32))])) := by
    refine C0.trans ?_
    refine st_4 _ ?_
    refine XS.ifNo X_2.here hx rfl (hb hby d5_3) rfl (i0_eq_f P1) ?_
    refine XS.aloadN X_2.here hx rfl (hb hby d5_6) rfl rfl ?_
    refine st_8 _ ?_
    refine XS.goto X_6.here hx rfl (pc0 := 10) (pc' := 14) rfl (hb hby d5_10) (by decide) (by decide) ?_
    exact Steps.refl _
  obtain ⟨fs, hr, hrun, hended, hW, hsame⟩ := X_6.leave (v := some (.int (0 : Int32))) (fun h => by rw [Bd.returns] at h; cases h)
  refine ⟨_, _, C_9.trans (retN X_6 hx (t := .byte) Bd.returns (by simp) (hb hby d5_14) hr), hrun, hended, _, _, rfl, ?_, ⟨_, rfl⟩, hW, hsame.mono (by decide) (by decide)⟩
  show Q_coder Z G1 kF kA x h0 n0 (some (.int (0 : Int32))) T_5.heap _
  rw [e_7]
  exact ⟨rfl, N0, rfl⟩
abbrev M132 : MethodName := ⟨"java/lang/String", "length", "()I"⟩
theorem d6_0 : decode jdk_42_method_54_code 0 = .ok (.aload_n 0, 1) := by decide +kernel
theorem d6_1 : decode jdk_42_method_54_code 1 = .ok (.getfield 9, 3) := by decide +kernel
theorem d6_4 : decode jdk_42_method_54_code 4 = .ok (.arraylength, 1) := by decide +kernel
theorem d6_5 : decode jdk_42_method_54_code 5 = .ok (.aload_n 0, 1) := by decide +kernel
theorem w85 {Z : State} {a0 : Array Value} (hw : ∀ d ∈ tables_1, d.before a0 Z = true) : Jvm.Cond.before (Jvm.Cond.code ({ cls := "java/lang/String", name := "coder", desc := "()B" } : Jvm.MethodName) jdk_42_method_152_code (1 : Nat) (Option.some Jvm.ClassFile.FieldType.byte)) a0 Z = true := hw _ (List.mem_of_getElem? (i := 85) rfl)
theorem pd_138 : parseMethodDescriptor "()B" = some ⟨[], some .byte⟩ := by decide +kernel
theorem d6_6 : decode jdk_42_method_54_code 6 = .ok (.invokevirtual 335, 3) := by decide +kernel
theorem w81 {Z : State} {a0 : Array Value} (hw : ∀ d ∈ tables_1, d.before a0 Z = true) : Jvm.Cond.before (Jvm.Cond.methodLink "java/lang/String" (335 : Nat) ({ cls := "java/lang/String", name := "coder", desc := "()B" } : Jvm.MethodName)) a0 Z = true := hw _ (List.mem_of_getElem? (i := 81) rfl)
theorem w84 {Z : State} {a0 : Array Value} (hw : ∀ d ∈ tables_1, d.before a0 Z = true) : Jvm.Cond.before (Jvm.Cond.selects "java/lang/String" ({ cls := "java/lang/String", name := "coder", desc := "()B" } : Jvm.MethodName) ({ cls := "java/lang/String", name := "coder", desc := "()B" } : Jvm.MethodName)) a0 Z = true := hw _ (List.mem_of_getElem? (i := 84) rfl)
theorem w83 {Z : State} {a0 : Array Value} (hw : ∀ d ∈ tables_1, d.before a0 Z = true) : Jvm.Cond.before (Jvm.Cond.instanceMethod ({ cls := "java/lang/String", name := "coder", desc := "()B" } : Jvm.MethodName)) a0 Z = true := hw _ (List.mem_of_getElem? (i := 83) rfl)
theorem w82 {Z : State} {a0 : Array Value} (hw : ∀ d ∈ tables_1, d.before a0 Z = true) : Jvm.Cond.before (Jvm.Cond.declares ({ cls := "java/lang/String", name := "coder", desc := "()B" } : Jvm.MethodName)) a0 Z = true := hw _ (List.mem_of_getElem? (i := 82) rfl)
theorem d6_9 : decode jdk_42_method_54_code 9 = .ok (.ishr, 1) := by decide +kernel
theorem d6_10 : decode jdk_42_method_54_code 10 = .ok (.ireturn, 1) := by decide +kernel
abbrev R_lenany : Room := { frames := 1, cells := 0, slots := 0, locals := 13 }
def Q_lenany (Z : State) (G1 : Int32) (kF : Addr) (kA : Addr) (x : Addr) (t : Addr) (kt : ClassId) (z : Int32) (bs : List Value) (h0 : Heap) (n0 : Nat) (v : Option Value) (h : Heap) (L : List Loc) : Prop := (v = some (.int (z >>> ((0 : Int32) &&& 31))) ∧ Fr n0 L ∧ h = h0)
set_option maxRecDepth 65536 in
set_option maxHeartbeats 40000000 in
theorem rm_lenany (l : Launch) (Z : State) (a0 : Array Value) (hw : ∀ d ∈ tables_1, d.before a0 Z = true) (ws : List Jvm.Cond) (G1 : Int32) (kF : Addr) (kA : Addr) (HG : own_G l Z a0 G1 kF kA) (h0 : Heap) (n0 : Nat) (X00 : Old Z n0 h0) (x : Addr) (t : Addr) (kt : ClassId) (z : Int32) (bs : List Value) (hp0 : Exa Z h0 x "java/lang/String") (hp1 : Fld Z h0 x "java/lang/String" "coder" "B" (.int (0 : Int32))) (hp2 : Fld Z h0 x "java/lang/String" "value" "[B" (.ref t)) (hp3 : Arv Z h0 t kt .byte z bs (.int (0 : Int32))) :
    own_CP l Z M132 jdk_42_method_54_code 1 (some .int) ws R_lenany #[(.ref x)] h0 (Q_lenany Z G1 kF kA x t kt z bs h0 n0) := by
  refine own_P (plainFor_of_name pn_2) ?_
  intro p e s m below meth c s₁ S0 Bd hZ hh hx hby hml hown hnm X0 e0 hS0d
  obtain ⟨O1, P1, O2, O3, E2, F2, NE⟩ := id HG
  have N0 := Fr.nil n0
  have C0 : Steps p.tables e below S0 (s₁.setTop (mkF m 0 #[.val (.ref x)] [])) := by rw [hS0d]; exact castTop (ef_125 m x) (Steps.refl _)
  obtain ⟨T_1, X_2, e_3, st_4⟩ := getF X0 hx hZ hown (host := "") (Or.inl (w25 hw)) Via.refl e0 hp2 (g := (mkF m 1 #[.val (.ref x)] [(.ref x)])) rfl rfl (hb hby d6_1)
  obtain ⟨c_5, A_6, q_7, S_8, M_9, H_10, U_11⟩ := id hp3
  obtain ⟨q_13, q_14, q_15, q_16, q_17⟩ := isOf (T := T_1) hZ e_3 hp0
  obtain ⟨_, _, ⟨T_12, L_12, k_12, n_12⟩, -, X_12, ⟨Lc_12, hQ_12, l_12, y_12, z_12⟩, st_12⟩ := X_2.virtualBack hx (y := M124) (z := M124) hown (mvT hZ (w81 hw)) (mvT hZ (w82 hw)) (notFace_of_selects (args := #[]) (mvT hZ (w84 hw))) (mvT hZ (w84 hw)) (mvT hZ (w83 hw)) (by decide) (backOf (W := 1) (rm_coder l Z a0 hw [] G1 kF kA HG h0 n0 X00 x hp1) hZ (w85 hw) (w3 hw) (by decide) (by decide)) q_15 q_17 (g := (mkF m 6 #[.val (.ref x)] [(.ref x), (.int z)])) rfl (by rw [hml]; rfl) (Steps.refl _) (argsL := []) (rest := [(.int z)]) (lenOf pd_138 rfl) rfl (by show 2 * 0 + _ ≤ _; exact Nat.le_of_eq rfl) (hb hby d6_6) (fun _ _ => ⟨rfl, e_3, (by decide : 0 + 0 ≤ _), (by decide : 0 + 0 ≤ _)⟩)
  dsimp only [Pt.U, Pt.locs, Pt.cells, Pt.slots] at X_12 l_12 y_12 z_12 st_12 hQ_12
  subst l_12 y_12 z_12
  obtain ⟨rfl, N_18, e_19⟩ := hQ_12
  have N_20 := Fr.app N0 N_18
  have e_21 : T_12.heap = h0 := e_19
  have C_22 : Steps p.tables e below S0 (T_12.setTop (mkF m 10 #[.val (.ref x)] [(.int (z >>> ((0 : Int32) &&& 31)))])) := by
    refine C0.trans ?_
    refine XS.aloadN X0.here hx rfl (hb hby d6_0) rfl rfl ?_
    refine st_4 _ ?_
    refine X_2.arraylength hx (by rw [e_3]; exact A_6.1) (State.isArrayOf_alike hZ.alike A_6.2.1) (g := (mkF m 4 #[.val (.ref x)] [(.ref t)])) rfl rfl (hb hby d6_4) _ ?_
    rw [len_of S_8 M_9]
    refine XS.aloadN X_2.here hx rfl (hb hby d6_5) rfl rfl ?_
    refine st_12.trans ?_
    refine XS.ishr X_12.here hx rfl (hb hby d6_9) rfl ?_
    exact Steps.refl _
  obtain ⟨fs, hr, hrun, hended, hW, hsame⟩ := X_12.leave (v := some (.int (z >>> ((0 : Int32) &&& 31)))) (fun h => by rw [Bd.returns] at h; cases h)
  refine ⟨_, _, C_22.trans (retOut X_12 hx Bd.returns rfl (Or.inl ⟨rfl, Or.inl rfl, _, rfl⟩) (hb hby d6_10) hr), hrun, hended, _, _, rfl, ?_, ⟨_, rfl⟩, hW, hsame.mono (by decide) (by decide)⟩
  show Q_lenany Z G1 kF kA x t kt z bs h0 n0 (some (.int (z >>> ((0 : Int32) &&& 31)))) T_12.heap _
  rw [e_21]
  exact ⟨rfl, N_20, rfl⟩
abbrev M146 : MethodName := ⟨"java/lang/StringLatin1", "equals", "([B[B)Z"⟩
theorem ef_147 (m : MethodId) (x0 : Addr) (x1 : Addr) : entryFrame m #[(.ref x0), (.ref x1)] 3 = mkF m 0 #[.val (.ref x0), .val (.ref x1), .unset] [] := by first | (simp [entryFrame, mkF, argsToLocals, Value.category]; done) | rfl
theorem pn_148 : plainName "java/lang/StringLatin1" = true := by first | (simp [plainName, overriddenIn]; done) | decide +kernel
theorem d7_0 : decode jdk_43_method_13_code 0 = .ok (.aload_n 0, 1) := by decide +kernel
theorem d7_1 : decode jdk_43_method_13_code 1 = .ok (.arraylength, 1) := by decide +kernel
theorem d7_2 : decode jdk_43_method_13_code 2 = .ok (.aload_n 1, 1) := by decide +kernel
theorem d7_3 : decode jdk_43_method_13_code 3 = .ok (.arraylength, 1) := by decide +kernel
theorem d7_4 : decode jdk_43_method_13_code 4 = .ok (.if_icmp .ne 30, 3) := by decide +kernel
theorem d7_7 : decode jdk_43_method_13_code 7 = .ok (.iconst 0, 1) := by decide +kernel
theorem d7_8 : decode jdk_43_method_13_code 8 = .ok (.istore_n 2, 1) := by decide +kernel
theorem d7_9 : decode jdk_43_method_13_code 9 = .ok (.iload_n 2, 1) := by decide +kernel
theorem d7_10 : decode jdk_43_method_13_code 10 = .ok (.aload_n 0, 1) := by decide +kernel
theorem d7_11 : decode jdk_43_method_13_code 11 = .ok (.arraylength, 1) := by decide +kernel
theorem d7_12 : decode jdk_43_method_13_code 12 = .ok (.if_icmp .ge 20, 3) := by decide +kernel
theorem d7_32 : decode jdk_43_method_13_code 32 = .ok (.iconst 1, 1) := by decide +kernel
theorem d7_33 : decode jdk_43_method_13_code 33 = .ok (.ireturn, 1) := by decide +kernel
abbrev R_leq_0 : Room := { frames := 0, cells := 0, slots := 0, locals := 0 }
def Q_leq_0 (Z : State) (G1 : Int32) (kF : Addr) (kA : Addr) (t : Addr) (kt : ClassId) (u : Addr) (ku : ClassId) (h0 : Heap) (n0 : Nat) (v : Option Value) (h : Heap) (L : List Loc) : Prop := (v = some (.int (1 : Int32)) ∧ Fr n0 L ∧ h = h0)
set_option maxRecDepth 65536 in
set_option maxHeartbeats 40000000 in
theorem rm_leq_0 (l : Launch) (Z : State) (a0 : Array Value) (hw : ∀ d ∈ tables_1, d.before a0 Z = true) (ws : List Jvm.Cond) (G1 : Int32) (kF : Addr) (kA : Addr) (HG : own_G l Z a0 G1 kF kA) (h0 : Heap) (n0 : Nat) (X00 : Old Z n0 h0) (t : Addr) (kt : ClassId) (u : Addr) (ku : ClassId) (hp0 : Arv Z h0 t kt .byte (0 : Int32) [] (.int (0 : Int32))) (hp1 : Arv Z h0 u ku .byte (0 : Int32) [] (.int (0 : Int32))) :
    own_CP l Z M146 jdk_43_method_13_code 3 (some .boolean) ws R_leq_0 #[(.ref t), (.ref u)] h0 (Q_leq_0 Z G1 kF kA t kt u ku h0 n0) := by
  refine own_P (plainFor_of_name pn_148) ?_
  intro p e s m below meth c s₁ S0 Bd hZ hh hx hby hml hown hnm X0 e0 hS0d
  obtain ⟨O1, P1, O2, O3, E2, F2, NE⟩ := id HG
  have N0 := Fr.nil n0
  have C0 : Steps p.tables e below S0 (s₁.setTop (mkF m 0 #[.val (.ref t), .val (.ref u), .unset] [])) := by rw [hS0d]; exact castTop (ef_147 m t u) (Steps.refl _)
  obtain ⟨c_1, A_2, q_3, S_4, M_5, H_6, U_7⟩ := id hp0
  obtain ⟨c_8, A_9, q_10, S_11, M_12, H_13, U_14⟩ := id hp1
  obtain ⟨c_15, A_16, q_17, S_18, M_19, H_20, U_21⟩ := id hp0
  have C_22 : Steps p.tables e below S0 (s₁.setTop (mkF m 33 #[.val (.ref t), .val (.ref u), .val (.int (0 : Int32))] [(.int (1 : Int32))])) := by
    refine C0.trans ?_
    refine XS.aloadN X0.here hx rfl (hb hby d7_0) rfl rfl ?_
    refine X0.arraylength hx (by rw [e0]; exact A_2.1) (State.isArrayOf_alike hZ.alike A_2.2.1) (g := (mkF m 1 #[.val (.ref t), .val (.ref u), .unset] [(.ref t)])) rfl rfl (hb hby d7_1) _ ?_
    rw [len_of S_4 M_5]
    refine XS.aloadN X0.here hx rfl (hb hby d7_2) rfl rfl ?_
    refine X0.arraylength hx (by rw [e0]; exact A_9.1) (State.isArrayOf_alike hZ.alike A_9.2.1) (g := (mkF m 3 #[.val (.ref t), .val (.ref u), .unset] [(.ref u), (.int (0 : Int32))])) rfl rfl (hb hby d7_3) _ ?_
    rw [len_of S_11 M_12]
    refine XS.icmpNo X0.here hx rfl (hb hby d7_4) rfl (by decide) ?_
    refine XS.iconst X0.here hx rfl (hb hby d7_7) ?_
    refine XS.istoreN X0.here hx rfl (hb hby d7_8) rfl (l' := #[.val (.ref t), .val (.ref u), .val (.int (0 : Int32))]) rfl ?_
    refine XS.iloadN X0.here hx rfl (hb hby d7_9) rfl ?_
    show Steps p.tables e below (s₁.setTop (mkF m 10 #[.val (.ref t), .val (.ref u), .val (.int (0 : Int32))] [(.int (0 : Int32))])) _
    refine XS.aloadN X0.here hx rfl (hb hby d7_10) rfl rfl ?_
    refine X0.arraylength hx (by rw [e0]; exact A_16.1) (State.isArrayOf_alike hZ.alike A_16.2.1) (g := (mkF m 11 #[.val (.ref t), .val (.ref u), .val (.int (0 : Int32))] [(.ref t), (.int (0 : Int32))])) rfl rfl (hb hby d7_11) _ ?_
    rw [len_of S_18 M_19]
    refine XS.icmpYes X0.here hx rfl (pc0 := 12) (pc' := 32) rfl (hb hby d7_12) rfl (by decide) (by decide) (by decide) ?_
    refine XS.iconst X0.here hx rfl (hb hby d7_32) ?_
    exact Steps.refl _
  obtain ⟨fs, hr, hrun, hended, hW, hsame⟩ := X0.leave (v := some (.int (1 : Int32))) (fun h => by rw [Bd.returns] at h; cases h)
  refine ⟨_, _, C_22.trans (retN X0 hx (t := .boolean) Bd.returns (by simp) (hb hby d7_33) hr), hrun, hended, _, _, rfl, ?_, ⟨_, rfl⟩, hW, hsame.mono (by decide) (by decide)⟩
  show Q_leq_0 Z G1 kF kA t kt u ku h0 n0 (some (.int (1 : Int32))) s₁.heap _
  rw [e0]
  exact ⟨rfl, N0, rfl⟩
abbrev M162 : MethodName := ⟨"java/lang/String", "equals", "(Ljava/lang/Object;)Z"⟩
theorem d8_0 : decode jdk_42_method_66_code 0 = .ok (.aload_n 0, 1) := by decide +kernel
theorem d8_1 : decode jdk_42_method_66_code 1 = .ok (.aload_n 1, 1) := by decide +kernel
theorem d8_2 : decode jdk_42_method_66_code 2 = .ok (.if_acmp .ne 5, 3) := by decide +kernel
theorem d8_7 : decode jdk_42_method_66_code 7 = .ok (.aload_n 1, 1) := by decide +kernel
theorem w92 {Z : State} {a0 : Array Value} (hw : ∀ d ∈ tables_1, d.before a0 Z = true) : Jvm.Cond.before (Jvm.Cond.classLink "java/lang/String" (10 : Nat) "java/lang/String") a0 Z = true := hw _ (List.mem_of_getElem? (i := 92) rfl)
theorem d8_8 : decode jdk_42_method_66_code 8 = .ok (.instanceof 10, 3) := by decide +kernel
theorem d8_11 : decode jdk_42_method_66_code 11 = .ok (.ifCond .eq 43, 3) := by decide +kernel
theorem d8_14 : decode jdk_42_method_66_code 14 = .ok (.aload_n 1, 1) := by decide +kernel
theorem d8_15 : decode jdk_42_method_66_code 15 = .ok (.checkcast 10, 3) := by decide +kernel
theorem d8_18 : decode jdk_42_method_66_code 18 = .ok (.astore_n 2, 1) := by decide +kernel
theorem d8_19 : decode jdk_42_method_66_code 19 = .ok (.getstatic 38, 3) := by decide +kernel
theorem d8_22 : decode jdk_42_method_66_code 22 = .ok (.ifCond .eq 14, 3) := by decide +kernel
theorem d8_25 : decode jdk_42_method_66_code 25 = .ok (.aload_n 0, 1) := by decide +kernel
theorem d8_26 : decode jdk_42_method_66_code 26 = .ok (.getfield 15, 3) := by decide +kernel
theorem d8_29 : decode jdk_42_method_66_code 29 = .ok (.aload_n 2, 1) := by decide +kernel
theorem d8_30 : decode jdk_42_method_66_code 30 = .ok (.getfield 15, 3) := by decide +kernel
theorem d8_33 : decode jdk_42_method_66_code 33 = .ok (.if_icmp .ne 21, 3) := by decide +kernel
theorem d8_36 : decode jdk_42_method_66_code 36 = .ok (.aload_n 0, 1) := by decide +kernel
theorem d8_37 : decode jdk_42_method_66_code 37 = .ok (.getfield 9, 3) := by decide +kernel
theorem d8_40 : decode jdk_42_method_66_code 40 = .ok (.aload_n 2, 1) := by decide +kernel
theorem d8_41 : decode jdk_42_method_66_code 41 = .ok (.getfield 9, 3) := by decide +kernel
theorem w96 {Z : State} {a0 : Array Value} (hw : ∀ d ∈ tables_1, d.before a0 Z = true) : Jvm.Cond.before (Jvm.Cond.code ({ cls := "java/lang/StringLatin1", name := "equals", desc := "([B[B)Z" } : Jvm.MethodName) jdk_43_method_13_code (3 : Nat) (Option.some Jvm.ClassFile.FieldType.boolean)) a0 Z = true := hw _ (List.mem_of_getElem? (i := 96) rfl)
theorem w95 {Z : State} {a0 : Array Value} (hw : ∀ d ∈ tables_1, d.before a0 Z = true) : Jvm.Cond.before (Jvm.Cond.initialized "java/lang/StringLatin1") a0 Z = true := hw _ (List.mem_of_getElem? (i := 95) rfl)
theorem pd_186 : parseMethodDescriptor "([B[B)Z" = some ⟨[(.array .byte), (.array .byte)], some .boolean⟩ := by decide +kernel
theorem d8_44 : decode jdk_42_method_66_code 44 = .ok (.invokestatic 541, 3) := by decide +kernel
theorem w93 {Z : State} {a0 : Array Value} (hw : ∀ d ∈ tables_1, d.before a0 Z = true) : Jvm.Cond.before (Jvm.Cond.methodLink "java/lang/String" (541 : Nat) ({ cls := "java/lang/StringLatin1", name := "equals", desc := "([B[B)Z" } : Jvm.MethodName)) a0 Z = true := hw _ (List.mem_of_getElem? (i := 93) rfl)
theorem w94 {Z : State} {a0 : Array Value} (hw : ∀ d ∈ tables_1, d.before a0 Z = true) : Jvm.Cond.before (Jvm.Cond.static ({ cls := "java/lang/StringLatin1", name := "equals", desc := "([B[B)Z" } : Jvm.MethodName)) a0 Z = true := hw _ (List.mem_of_getElem? (i := 94) rfl)
theorem d8_47 : decode jdk_42_method_66_code 47 = .ok (.ifCond .eq 7, 3) := by decide +kernel
theorem d8_50 : decode jdk_42_method_66_code 50 = .ok (.iconst 1, 1) := by decide +kernel
theorem d8_51 : decode jdk_42_method_66_code 51 = .ok (.goto 4, 3) := by decide +kernel
theorem d8_55 : decode jdk_42_method_66_code 55 = .ok (.ireturn, 1) := by decide +kernel
abbrev R_eq_0 : Room := { frames := 1, cells := 0, slots := 0, locals := 14 }
def Q_eq_0 (Z : State) (G1 : Int32) (kF : Addr) (kA : Addr) (x : Addr) (t : Addr) (kt : ClassId) (w : Addr) (u : Addr) (ku : ClassId) (h0 : Heap) (n0 : Nat) (v : Option Value) (h : Heap) (L : List Loc) : Prop := (v = some (.int (1 : Int32)) ∧ Fr n0 L ∧ h = h0)
set_option maxRecDepth 65536 in
set_option maxHeartbeats 40000000 in
theorem rm_eq_0 (l : Launch) (Z : State) (a0 : Array Value) (hw : ∀ d ∈ tables_1, d.before a0 Z = true) (ws : List Jvm.Cond) (G1 : Int32) (kF : Addr) (kA : Addr) (HG : own_G l Z a0 G1 kF kA) (h0 : Heap) (n0 : Nat) (X00 : Old Z n0 h0) (x : Addr) (t : Addr) (kt : ClassId) (w : Addr) (u : Addr) (ku : ClassId) (hp0 : Exa Z h0 x "java/lang/String") (hp1 : Fld Z h0 x "java/lang/String" "coder" "B" (.int (0 : Int32))) (hp2 : Fld Z h0 x "java/lang/String" "value" "[B" (.ref t)) (hp3 : Arv Z h0 t kt .byte (0 : Int32) [] (.int (0 : Int32))) (hp4 : Exa Z h0 w "java/lang/String") (hp5 : Fld Z h0 w "java/lang/String" "coder" "B" (.int (0 : Int32))) (hp6 : Fld Z h0 w "java/lang/String" "value" "[B" (.ref u)) (hp7 : Arv Z h0 u ku .byte (0 : Int32) [] (.int (0 : Int32))) (hp8 : x ≠ w) :
    own_CP l Z M162 jdk_42_method_66_code 3 (some .boolean) ws R_eq_0 #[(.ref x), (.ref w)] h0 (Q_eq_0 Z G1 kF kA x t kt w u ku h0 n0) := by
  refine own_P (plainFor_of_name pn_2) ?_
  intro p e s m below meth c s₁ S0 Bd hZ hh hx hby hml hown hnm X0 e0 hS0d
  obtain ⟨O1, P1, O2, O3, E2, F2, NE⟩ := id HG
  have N0 := Fr.nil n0
  have C0 : Steps p.tables e below S0 (s₁.setTop (mkF m 0 #[.val (.ref x), .val (.ref w), .unset] [])) := by rw [hS0d]; exact castTop (ef_147 m x w) (Steps.refl _)
  obtain ⟨T_1, X_2, e_3, st_4⟩ := instY X0 hx hZ hown (w92 hw) e0 (Ins.self hp4) (g := (mkF m 8 #[.val (.ref x), .val (.ref w), .unset] [(.ref w)])) rfl rfl (hb hby d8_8)
  obtain ⟨T_5, X_6, e_7, st_8⟩ := castY X_2 hx hZ hown (w92 hw) e_3 (Ins.self hp4) (g := (mkF m 15 #[.val (.ref x), .val (.ref w), .unset] [(.ref w)])) rfl rfl (hb hby d8_15)
  obtain ⟨T_9, X_10, e_11, st_12⟩ := getS X_6 hx hZ (host := "") hown (w86 hw) Via.refl e_7 (O1.ext X00.2) (g := (mkF m 19 #[.val (.ref x), .val (.ref w), .val (.ref w)] [])) rfl (hb hby d8_19)
  obtain ⟨T_13, X_14, e_15, st_16⟩ := getF X_10 hx hZ hown (host := "") (Or.inl (w26 hw)) Via.refl e_11 hp1 (g := (mkF m 26 #[.val (.ref x), .val (.ref w), .val (.ref w)] [(.ref x)])) rfl rfl (hb hby d8_26)
  obtain ⟨T_17, X_18, e_19, st_20⟩ := getF X_14 hx hZ hown (host := "") (Or.inl (w26 hw)) Via.refl e_15 hp5 (g := (mkF m 30 #[.val (.ref x), .val (.ref w), .val (.ref w)] [(.ref w), (.int (0 : Int32))])) rfl rfl (hb hby d8_30)
  obtain ⟨T_21, X_22, e_23, st_24⟩ := getF X_18 hx hZ hown (host := "") (Or.inl (w25 hw)) Via.refl e_19 hp2 (g := (mkF m 37 #[.val (.ref x), .val (.ref w), .val (.ref w)] [(.ref x)])) rfl rfl (hb hby d8_37)
  obtain ⟨T_25, X_26, e_27, st_28⟩ := getF X_22 hx hZ hown (host := "") (Or.inl (w25 hw)) Via.refl e_23 hp6 (g := (mkF m 41 #[.val (.ref x), .val (.ref w), .val (.ref w)] [(.ref w), (.ref t)])) rfl rfl (hb hby d8_41)
  obtain ⟨_, _, ⟨T_29, L_29, k_29, n_29⟩, -, X_29, ⟨Lc_29, hQ_29, l_29, y_29, z_29⟩, st_29⟩ := Jvm.LawKit.callS X_26 hx (y := M146) hown (mvT hZ (w93 hw)) (mvT hZ (w94 hw)) (mvT hZ (w95 hw)) (mvT hZ (w96 hw)) (by decide) (backOf (W := 0) (rm_leq_0 l Z a0 hw [] G1 kF kA HG h0 n0 X00 t kt u ku hp3 hp7) hZ (w96 hw) (w95 hw) (by decide) (by decide)) (g := (mkF m 44 #[.val (.ref x), .val (.ref w), .val (.ref w)] [(.ref u), (.ref t)])) rfl (by rw [hml]; rfl) (argsL := [(.ref t), (.ref u)]) (rest := []) (lenOf pd_186 rfl) rfl (by show 2 * 0 + _ ≤ _; exact Nat.le_of_eq rfl) (hb hby d8_44) (fun _ _ => ⟨rfl, e_27, (by decide : 0 + 0 ≤ _), (by decide : 0 + 0 ≤ _)⟩)
  dsimp only [Pt.U, Pt.locs, Pt.cells, Pt.slots] at X_29 l_29 y_29 z_29 st_29 hQ_29
  subst l_29 y_29 z_29
  obtain ⟨rfl, N_30, e_31⟩ := hQ_29
  have N_32 := Fr.app N0 N_30
  have e_33 : T_29.heap = h0 := e_31
  have C_34 : Steps p.tables e below S0 (T_29.setTop (mkF m 55 #[.val (.ref x), .val (.ref w), .val (.ref w)] [(.int (1 : Int32))])) := by
    refine C0.trans ?_
    refine XS.aloadN X0.here hx rfl (hb hby d8_0) rfl rfl ?_
    refine XS.aloadN X0.here hx rfl (hb hby d8_1) rfl rfl ?_
    refine acmp X0 hx rfl (cd := .ne) (x := (.ref x)) (y := (.ref w)) rfl rfl (same := false) (pc0 := 2) (pc' := 7) rfl (hb hby d8_2) rfl (decide_eq_false fun q => hp8 (Value.ref.inj q)) (by decide) (by decide) ?_
    refine XS.aloadN X0.here hx rfl (hb hby d8_7) rfl rfl ?_
    refine st_4 _ ?_
    refine XS.ifNo X_2.here hx rfl (hb hby d8_11) rfl (by decide) ?_
    refine XS.aloadN X_2.here hx rfl (hb hby d8_14) rfl rfl ?_
    refine st_8 _ ?_
    show Steps p.tables e below (T_5.setTop (mkF m 18 #[.val (.ref x), .val (.ref w), .unset] [(.ref w)])) _
    refine XS.astoreN X_6.here hx rfl (hb hby d8_18) rfl rfl (l' := #[.val (.ref x), .val (.ref w), .val (.ref w)]) rfl ?_
    refine st_12 _ ?_
    refine XS.ifNo X_10.here hx rfl (hb hby d8_22) rfl (i0_eq_f P1) ?_
    refine XS.aloadN X_10.here hx rfl (hb hby d8_25) rfl rfl ?_
    refine st_16 _ ?_
    refine XS.aloadN X_14.here hx rfl (hb hby d8_29) rfl rfl ?_
    refine st_20 _ ?_
    refine XS.icmpNo X_18.here hx rfl (hb hby d8_33) rfl (by decide) ?_
    show Steps p.tables e below (T_17.setTop (mkF m 36 #[.val (.ref x), .val (.ref w), .val (.ref w)] [])) _
    refine XS.aloadN X_18.here hx rfl (hb hby d8_36) rfl rfl ?_
    refine st_24 _ ?_
    refine XS.aloadN X_22.here hx rfl (hb hby d8_40) rfl rfl ?_
    refine st_28 _ ?_
    refine st_29 _ ?_
    refine XS.ifNo X_29.here hx rfl (hb hby d8_47) rfl (by decide) ?_
    refine XS.iconst X_29.here hx rfl (hb hby d8_50) ?_
    refine XS.goto X_29.here hx rfl (pc0 := 51) (pc' := 55) rfl (hb hby d8_51) (by decide) (by decide) ?_
    show Steps p.tables e below (T_29.setTop (mkF m 55 #[.val (.ref x), .val (.ref w), .val (.ref w)] [(.int (1 : Int32))])) _
    exact Steps.refl _
  obtain ⟨fs, hr, hrun, hended, hW, hsame⟩ := X_29.leave (v := some (.int (1 : Int32))) (fun h => by rw [Bd.returns] at h; cases h)
  refine ⟨_, _, C_34.trans (retN X_29 hx (t := .boolean) Bd.returns (by simp) (hb hby d8_55) hr), hrun, hended, _, _, rfl, ?_, ⟨_, rfl⟩, hW, hsame.mono (by decide) (by decide)⟩
  show Q_eq_0 Z G1 kF kA x t kt w u ku h0 n0 (some (.int (1 : Int32))) T_29.heap _
  rw [e_33]
  exact ⟨rfl, N_32, rfl⟩
theorem d7_15 : decode jdk_43_method_13_code 15 = .ok (.aload_n 0, 1) := by decide +kernel
theorem d7_16 : decode jdk_43_method_13_code 16 = .ok (.iload_n 2, 1) := by decide +kernel
theorem d7_17 : decode jdk_43_method_13_code 17 = .ok (.baload, 1) := by decide +kernel
theorem d7_18 : decode jdk_43_method_13_code 18 = .ok (.aload_n 1, 1) := by decide +kernel
theorem d7_19 : decode jdk_43_method_13_code 19 = .ok (.iload_n 2, 1) := by decide +kernel
theorem d7_20 : decode jdk_43_method_13_code 20 = .ok (.baload, 1) := by decide +kernel
theorem d7_21 : decode jdk_43_method_13_code 21 = .ok (.if_icmp .eq 5, 3) := by decide +kernel
theorem d7_26 : decode jdk_43_method_13_code 26 = .ok (.iinc 2 1, 3) := by decide +kernel
theorem d7_29 : decode jdk_43_method_13_code 29 = .ok (.goto (-20), 3) := by decide +kernel
abbrev R_leq_1 : Room := { frames := 0, cells := 0, slots := 0, locals := 0 }
def Q_leq_1 (Z : State) (G1 : Int32) (kF : Addr) (kA : Addr) (t : Addr) (kt : ClassId) (u : Addr) (ku : ClassId) (y0 : Int32) (h0 : Heap) (n0 : Nat) (v : Option Value) (h : Heap) (L : List Loc) : Prop := (v = some (.int (1 : Int32)) ∧ Fr n0 L ∧ h = h0)
set_option maxRecDepth 65536 in
set_option maxHeartbeats 40000000 in
theorem rm_leq_1 (l : Launch) (Z : State) (a0 : Array Value) (hw : ∀ d ∈ tables_1, d.before a0 Z = true) (ws : List Jvm.Cond) (G1 : Int32) (kF : Addr) (kA : Addr) (HG : own_G l Z a0 G1 kF kA) (h0 : Heap) (n0 : Nat) (X00 : Old Z n0 h0) (t : Addr) (kt : ClassId) (u : Addr) (ku : ClassId) (y0 : Int32) (hp0 : Arv Z h0 t kt .byte (1 : Int32) [(.int y0)] (.int (0 : Int32))) (hp1 : Arv Z h0 u ku .byte (1 : Int32) [(.int y0)] (.int (0 : Int32))) :
    own_CP l Z M146 jdk_43_method_13_code 3 (some .boolean) ws R_leq_1 #[(.ref t), (.ref u)] h0 (Q_leq_1 Z G1 kF kA t kt u ku y0 h0 n0) := by
  refine own_P (plainFor_of_name pn_148) ?_
  intro p e s m below meth c s₁ S0 Bd hZ hh hx hby hml hown hnm X0 e0 hS0d
  obtain ⟨O1, P1, O2, O3, E2, F2, NE⟩ := id HG
  have N0 := Fr.nil n0
  have C0 : Steps p.tables e below S0 (s₁.setTop (mkF m 0 #[.val (.ref t), .val (.ref u), .unset] [])) := by rw [hS0d]; exact castTop (ef_147 m t u) (Steps.refl _)
  obtain ⟨c_1, A_2, q_3, S_4, M_5, H_6, U_7⟩ := id hp0
  obtain ⟨c_8, A_9, q_10, S_11, M_12, H_13, U_14⟩ := id hp1
  obtain ⟨c_15, A_16, q_17, S_18, M_19, H_20, U_21⟩ := id hp0
  obtain ⟨c_22, A_23, q_24, S_25, M_26, H_27, U_28⟩ := id hp0
  have hin_29 : ¬ ((0 : Int32) < 0 ∨ c_22.slots.size ≤ (0 : Int32).toNatClampNeg) := inb_of S_25 ⟨(by decide : ¬ ((0 : Int32) < (0 : Int32))), (by decide : (0 : Int32) < (1 : Int32))⟩
  have hat_30 : c_22.slots[(0 : Int32).toNatClampNeg]? = some (.int y0) := Has.at H_27 hin_29 rfl
  obtain ⟨c_31, A_32, q_33, S_34, M_35, H_36, U_37⟩ := id hp1
  have hin_38 : ¬ ((0 : Int32) < 0 ∨ c_31.slots.size ≤ (0 : Int32).toNatClampNeg) := inb_of S_34 ⟨(by decide : ¬ ((0 : Int32) < (0 : Int32))), (by decide : (0 : Int32) < (1 : Int32))⟩
  have hat_39 : c_31.slots[(0 : Int32).toNatClampNeg]? = some (.int y0) := Has.at H_36 hin_38 rfl
  obtain ⟨c_40, A_41, q_42, S_43, M_44, H_45, U_46⟩ := id hp0
  have C_47 : Steps p.tables e below S0 (s₁.setTop (mkF m 33 #[.val (.ref t), .val (.ref u), .val (.int (1 : Int32))] [(.int (1 : Int32))])) := by
    refine C0.trans ?_
    refine XS.aloadN X0.here hx rfl (hb hby d7_0) rfl rfl ?_
    refine X0.arraylength hx (by rw [e0]; exact A_2.1) (State.isArrayOf_alike hZ.alike A_2.2.1) (g := (mkF m 1 #[.val (.ref t), .val (.ref u), .unset] [(.ref t)])) rfl rfl (hb hby d7_1) _ ?_
    rw [len_of S_4 M_5]
    refine XS.aloadN X0.here hx rfl (hb hby d7_2) rfl rfl ?_
    refine X0.arraylength hx (by rw [e0]; exact A_9.1) (State.isArrayOf_alike hZ.alike A_9.2.1) (g := (mkF m 3 #[.val (.ref t), .val (.ref u), .unset] [(.ref u), (.int (1 : Int32))])) rfl rfl (hb hby d7_3) _ ?_
    rw [len_of S_11 M_12]
    refine XS.icmpNo X0.here hx rfl (hb hby d7_4) rfl (by decide) ?_
    refine XS.iconst X0.here hx rfl (hb hby d7_7) ?_
    refine XS.istoreN X0.here hx rfl (hb hby d7_8) rfl (l' := #[.val (.ref t), .val (.ref u), .val (.int (0 : Int32))]) rfl ?_
    refine XS.iloadN X0.here hx rfl (hb hby d7_9) rfl ?_
    show Steps p.tables e below (s₁.setTop (mkF m 10 #[.val (.ref t), .val (.ref u), .val (.int (0 : Int32))] [(.int (0 : Int32))])) _
    refine XS.aloadN X0.here hx rfl (hb hby d7_10) rfl rfl ?_
    refine X0.arraylength hx (by rw [e0]; exact A_16.1) (State.isArrayOf_alike hZ.alike A_16.2.1) (g := (mkF m 11 #[.val (.ref t), .val (.ref u), .val (.int (0 : Int32))] [(.ref t), (.int (0 : Int32))])) rfl rfl (hb hby d7_11) _ ?_
    rw [len_of S_18 M_19]
    refine XS.icmpNo X0.here hx rfl (hb hby d7_12) rfl (by decide) ?_
    refine XS.aloadN X0.here hx rfl (hb hby d7_15) rfl rfl ?_
    refine XS.iloadN X0.here hx rfl (hb hby d7_16) rfl ?_
    refine X0.baloadBytes hx (j := (0 : Int32)) (v := (.int y0)) (by rw [e0]; exact A_23.1) (State.isArrayOf_alike hZ.alike A_23.2.1) A_23.2.2 hin_29 hat_30 (g := (mkF m 17 #[.val (.ref t), .val (.ref u), .val (.int (0 : Int32))] [(.int (0 : Int32)), (.ref t)])) rfl rfl (hb hby d7_17) _ ?_
    refine XS.aloadN X0.here hx rfl (hb hby d7_18) rfl rfl ?_
    refine XS.iloadN X0.here hx rfl (hb hby d7_19) rfl ?_
    show Steps p.tables e below (s₁.setTop (mkF m 20 #[.val (.ref t), .val (.ref u), .val (.int (0 : Int32))] [(.int (0 : Int32)), (.ref u), (.int y0)])) _
    refine X0.baloadBytes hx (j := (0 : Int32)) (v := (.int y0)) (by rw [e0]; exact A_32.1) (State.isArrayOf_alike hZ.alike A_32.2.1) A_32.2.2 hin_38 hat_39 (g := (mkF m 20 #[.val (.ref t), .val (.ref u), .val (.int (0 : Int32))] [(.int (0 : Int32)), (.ref u), (.int y0)])) rfl rfl (hb hby d7_20) _ ?_
    refine XS.icmpYes X0.here hx rfl (pc0 := 21) (pc' := 26) rfl (hb hby d7_21) rfl (ii_eq_t rfl) (by decide) (by decide) ?_
    refine XS.iinc X0.here hx rfl (hb hby d7_26) (x := (0 : Int32)) rfl (l' := #[.val (.ref t), .val (.ref u), .val (.int (1 : Int32))]) rfl ?_
    refine XS.goto X0.here hx rfl (pc0 := 29) (pc' := 9) rfl (hb hby d7_29) (by decide) (by decide) ?_
    refine XS.iloadN X0.here hx rfl (hb hby d7_9) rfl ?_
    refine XS.aloadN X0.here hx rfl (hb hby d7_10) rfl rfl ?_
    refine X0.arraylength hx (by rw [e0]; exact A_41.1) (State.isArrayOf_alike hZ.alike A_41.2.1) (g := (mkF m 11 #[.val (.ref t), .val (.ref u), .val (.int (1 : Int32))] [(.ref t), (.int (1 : Int32))])) rfl rfl (hb hby d7_11) _ ?_
    rw [len_of S_43 M_44]
    refine XS.icmpYes X0.here hx rfl (pc0 := 12) (pc' := 32) rfl (hb hby d7_12) rfl (by decide) (by decide) (by decide) ?_
    show Steps p.tables e below (s₁.setTop (mkF m 32 #[.val (.ref t), .val (.ref u), .val (.int (1 : Int32))] [])) _
    refine XS.iconst X0.here hx rfl (hb hby d7_32) ?_
    exact Steps.refl _
  obtain ⟨fs, hr, hrun, hended, hW, hsame⟩ := X0.leave (v := some (.int (1 : Int32))) (fun h => by rw [Bd.returns] at h; cases h)
  refine ⟨_, _, C_47.trans (retN X0 hx (t := .boolean) Bd.returns (by simp) (hb hby d7_33) hr), hrun, hended, _, _, rfl, ?_, ⟨_, rfl⟩, hW, hsame.mono (by decide) (by decide)⟩
  show Q_leq_1 Z G1 kF kA t kt u ku y0 h0 n0 (some (.int (1 : Int32))) s₁.heap _
  rw [e0]
  exact ⟨rfl, N0, rfl⟩
abbrev R_eq_1 : Room := { frames := 1, cells := 0, slots := 0, locals := 14 }
def Q_eq_1 (Z : State) (G1 : Int32) (kF : Addr) (kA : Addr) (x : Addr) (t : Addr) (kt : ClassId) (w : Addr) (u : Addr) (ku : ClassId) (y0 : Int32) (h0 : Heap) (n0 : Nat) (v : Option Value) (h : Heap) (L : List Loc) : Prop := (v = some (.int (1 : Int32)) ∧ Fr n0 L ∧ h = h0)
set_option maxRecDepth 65536 in
set_option maxHeartbeats 40000000 in
theorem rm_eq_1 (l : Launch) (Z : State) (a0 : Array Value) (hw : ∀ d ∈ tables_1, d.before a0 Z = true) (ws : List Jvm.Cond) (G1 : Int32) (kF : Addr) (kA : Addr) (HG : own_G l Z a0 G1 kF kA) (h0 : Heap) (n0 : Nat) (X00 : Old Z n0 h0) (x : Addr) (t : Addr) (kt : ClassId) (w : Addr) (u : Addr) (ku : ClassId) (y0 : Int32) (hp0 : Exa Z h0 x "java/lang/String") (hp1 : Fld Z h0 x "java/lang/String" "coder" "B" (.int (0 : Int32))) (hp2 : Fld Z h0 x "java/lang/String" "value" "[B" (.ref t)) (hp3 : Arv Z h0 t kt .byte (1 : Int32) [(.int y0)] (.int (0 : Int32))) (hp4 : Exa Z h0 w "java/lang/String") (hp5 : Fld Z h0 w "java/lang/String" "coder" "B" (.int (0 : Int32))) (hp6 : Fld Z h0 w "java/lang/String" "value" "[B" (.ref u)) (hp7 : Arv Z h0 u ku .byte (1 : Int32) [(.int y0)] (.int (0 : Int32))) (hp8 : x ≠ w) :
    own_CP l Z M162 jdk_42_method_66_code 3 (some .boolean) ws R_eq_1 #[(.ref x), (.ref w)] h0 (Q_eq_1 Z G1 kF kA x t kt w u ku y0 h0 n0) := by
  refine own_P (plainFor_of_name pn_2) ?_
  intro p e s m below meth c s₁ S0 Bd hZ hh hx hby hml hown hnm X0 e0 hS0d
  obtain ⟨O1, P1, O2, O3, E2, F2, NE⟩ := id HG
  have N0 := Fr.nil n0
  have C0 : Steps p.tables e below S0 (s₁.setTop (mkF m 0 #[.val (.ref x), .val (.ref w), .unset] [])) := by rw [hS0d]; exact castTop (ef_147 m x w) (Steps.refl _)
  obtain ⟨T_1, X_2, e_3, st_4⟩ := instY X0 hx hZ hown (w92 hw) e0 (Ins.self hp4) (g := (mkF m 8 #[.val (.ref x), .val (.ref w), .unset] [(.ref w)])) rfl rfl (hb hby d8_8)
  obtain ⟨T_5, X_6, e_7, st_8⟩ := castY X_2 hx hZ hown (w92 hw) e_3 (Ins.self hp4) (g := (mkF m 15 #[.val (.ref x), .val (.ref w), .unset] [(.ref w)])) rfl rfl (hb hby d8_15)
  obtain ⟨T_9, X_10, e_11, st_12⟩ := getS X_6 hx hZ (host := "") hown (w86 hw) Via.refl e_7 (O1.ext X00.2) (g := (mkF m 19 #[.val (.ref x), .val (.ref w), .val (.ref w)] [])) rfl (hb hby d8_19)
  obtain ⟨T_13, X_14, e_15, st_16⟩ := getF X_10 hx hZ hown (host := "") (Or.inl (w26 hw)) Via.refl e_11 hp1 (g := (mkF m 26 #[.val (.ref x), .val (.ref w), .val (.ref w)] [(.ref x)])) rfl rfl (hb hby d8_26)
  obtain ⟨T_17, X_18, e_19, st_20⟩ := getF X_14 hx hZ hown (host := "") (Or.inl (w26 hw)) Via.refl e_15 hp5 (g := (mkF m 30 #[.val (.ref x), .val (.ref w), .val (.ref w)] [(.ref w), (.int (0 : Int32))])) rfl rfl (hb hby d8_30)
  obtain ⟨T_21, X_22, e_23, st_24⟩ := getF X_18 hx hZ hown (host := "") (Or.inl (w25 hw)) Via.refl e_19 hp2 (g := (mkF m 37 #[.val (.ref x), .val (.ref w), .val (.ref w)] [(.ref x)])) rfl rfl (hb hby d8_37)
  obtain ⟨T_25, X_26, e_27, st_28⟩ := getF X_22 hx hZ hown (host := "") (Or.inl (w25 hw)) Via.refl e_23 hp6 (g := (mkF m 41 #[.val (.ref x), .val (.ref w), .val (.ref w)] [(.ref w), (.ref t)])) rfl rfl (hb hby d8_41)
  obtain ⟨_, _, ⟨T_29, L_29, k_29, n_29⟩, -, X_29, ⟨Lc_29, hQ_29, l_29, y_29, z_29⟩, st_29⟩ := Jvm.LawKit.callS X_26 hx (y := M146) hown (mvT hZ (w93 hw)) (mvT hZ (w94 hw)) (mvT hZ (w95 hw)) (mvT hZ (w96 hw)) (by decide) (backOf (W := 0) (rm_leq_1 l Z a0 hw [] G1 kF kA HG h0 n0 X00 t kt u ku y0 hp3 hp7) hZ (w96 hw) (w95 hw) (by decide) (by decide)) (g := (mkF m 44 #[.val (.ref x), .val (.ref w), .val (.ref w)] [(.ref u), (.ref t)])) rfl (by rw [hml]; rfl) (argsL := [(.ref t), (.ref u)]) (rest := []) (lenOf pd_186 rfl) rfl (by show 2 * 0 + _ ≤ _; exact Nat.le_of_eq rfl) (hb hby d8_44) (fun _ _ => ⟨rfl, e_27, (by decide : 0 + 0 ≤ _), (by decide : 0 + 0 ≤ _)⟩)
  dsimp only [Pt.U, Pt.locs, Pt.cells, Pt.slots] at X_29 l_29 y_29 z_29 st_29 hQ_29
  subst l_29 y_29 z_29
  obtain ⟨rfl, N_30, e_31⟩ := hQ_29
  have N_32 := Fr.app N0 N_30
  have e_33 : T_29.heap = h0 := e_31
  have C_34 : Steps p.tables e below S0 (T_29.setTop (mkF m 55 #[.val (.ref x), .val (.ref w), .val (.ref w)] [(.int (1 : Int32))])) := by
    refine C0.trans ?_
    refine XS.aloadN X0.here hx rfl (hb hby d8_0) rfl rfl ?_
    refine XS.aloadN X0.here hx rfl (hb hby d8_1) rfl rfl ?_
    refine acmp X0 hx rfl (cd := .ne) (x := (.ref x)) (y := (.ref w)) rfl rfl (same := false) (pc0 := 2) (pc' := 7) rfl (hb hby d8_2) rfl (decide_eq_false fun q => hp8 (Value.ref.inj q)) (by decide) (by decide) ?_
    refine XS.aloadN X0.here hx rfl (hb hby d8_7) rfl rfl ?_
    refine st_4 _ ?_
    refine XS.ifNo X_2.here hx rfl (hb hby d8_11) rfl (by decide) ?_
    refine XS.aloadN X_2.here hx rfl (hb hby d8_14) rfl rfl ?_
    refine st_8 _ ?_
    show Steps p.tables e below (T_5.setTop (mkF m 18 #[.val (.ref x), .val (.ref w), .unset] [(.ref w)])) _
    refine XS.astoreN X_6.here hx rfl (hb hby d8_18) rfl rfl (l' := #[.val (.ref x), .val (.ref w), .val (.ref w)]) rfl ?_
    refine st_12 _ ?_
    refine XS.ifNo X_10.here hx rfl (hb hby d8_22) rfl (i0_eq_f P1) ?_
    refine XS.aloadN X_10.here hx rfl (hb hby d8_25) rfl rfl ?_
    refine st_16 _ ?_
    refine XS.aloadN X_14.here hx rfl (hb hby d8_29) rfl rfl ?_
    refine st_20 _ ?_
    refine XS.icmpNo X_18.here hx rfl (hb hby d8_33) rfl (by decide) ?_
    show Steps p.tables e below (T_17.setTop (mkF m 36 #[.val (.ref x), .val (.ref w), .val (.ref w)] [])) _
    refine XS.aloadN X_18.here hx rfl (hb hby d8_36) rfl rfl ?_
    refine st_24 _ ?_
    refine XS.aloadN X_22.here hx rfl (hb hby d8_40) rfl rfl ?_
    refine st_28 _ ?_
    refine st_29 _ ?_
    refine XS.ifNo X_29.here hx rfl (hb hby d8_47) rfl (by decide) ?_
    refine XS.iconst X_29.here hx rfl (hb hby d8_50) ?_
    refine XS.goto X_29.here hx rfl (pc0 := 51) (pc' := 55) rfl (hb hby d8_51) (by decide) (by decide) ?_
    show Steps p.tables e below (T_29.setTop (mkF m 55 #[.val (.ref x), .val (.ref w), .val (.ref w)] [(.int (1 : Int32))])) _
    exact Steps.refl _
  obtain ⟨fs, hr, hrun, hended, hW, hsame⟩ := X_29.leave (v := some (.int (1 : Int32))) (fun h => by rw [Bd.returns] at h; cases h)
  refine ⟨_, _, C_34.trans (retN X_29 hx (t := .boolean) Bd.returns (by simp) (hb hby d8_55) hr), hrun, hended, _, _, rfl, ?_, ⟨_, rfl⟩, hW, hsame.mono (by decide) (by decide)⟩
  show Q_eq_1 Z G1 kF kA x t kt w u ku y0 h0 n0 (some (.int (1 : Int32))) T_29.heap _
  rw [e_33]
  exact ⟨rfl, N_32, rfl⟩
abbrev R_leq_2 : Room := { frames := 0, cells := 0, slots := 0, locals := 0 }
def Q_leq_2 (Z : State) (G1 : Int32) (kF : Addr) (kA : Addr) (t : Addr) (kt : ClassId) (u : Addr) (ku : ClassId) (y0 : Int32) (y1 : Int32) (h0 : Heap) (n0 : Nat) (v : Option Value) (h : Heap) (L : List Loc) : Prop := (v = some (.int (1 : Int32)) ∧ Fr n0 L ∧ h = h0)
set_option maxRecDepth 65536 in
set_option maxHeartbeats 40000000 in
theorem rm_leq_2 (l : Launch) (Z : State) (a0 : Array Value) (hw : ∀ d ∈ tables_1, d.before a0 Z = true) (ws : List Jvm.Cond) (G1 : Int32) (kF : Addr) (kA : Addr) (HG : own_G l Z a0 G1 kF kA) (h0 : Heap) (n0 : Nat) (X00 : Old Z n0 h0) (t : Addr) (kt : ClassId) (u : Addr) (ku : ClassId) (y0 : Int32) (y1 : Int32) (hp0 : Arv Z h0 t kt .byte (2 : Int32) [(.int y0), (.int y1)] (.int (0 : Int32))) (hp1 : Arv Z h0 u ku .byte (2 : Int32) [(.int y0), (.int y1)] (.int (0 : Int32))) :
    own_CP l Z M146 jdk_43_method_13_code 3 (some .boolean) ws R_leq_2 #[(.ref t), (.ref u)] h0 (Q_leq_2 Z G1 kF kA t kt u ku y0 y1 h0 n0) := by
  refine own_P (plainFor_of_name pn_148) ?_
  intro p e s m below meth c s₁ S0 Bd hZ hh hx hby hml hown hnm X0 e0 hS0d
  obtain ⟨O1, P1, O2, O3, E2, F2, NE⟩ := id HG
  have N0 := Fr.nil n0
  have C0 : Steps p.tables e below S0 (s₁.setTop (mkF m 0 #[.val (.ref t), .val (.ref u), .unset] [])) := by rw [hS0d]; exact castTop (ef_147 m t u) (Steps.refl _)
  obtain ⟨c_1, A_2, q_3, S_4, M_5, H_6, U_7⟩ := id hp0
  obtain ⟨c_8, A_9, q_10, S_11, M_12, H_13, U_14⟩ := id hp1
  obtain ⟨c_15, A_16, q_17, S_18, M_19, H_20, U_21⟩ := id hp0
  obtain ⟨c_22, A_23, q_24, S_25, M_26, H_27, U_28⟩ := id hp0
  have hin_29 : ¬ ((0 : Int32) < 0 ∨ c_22.slots.size ≤ (0 : Int32).toNatClampNeg) := inb_of S_25 ⟨(by decide : ¬ ((0 : Int32) < (0 : Int32))), (by decide : (0 : Int32) < (2 : Int32))⟩
  have hat_30 : c_22.slots[(0 : Int32).toNatClampNeg]? = some (.int y0) := Has.at H_27 hin_29 rfl
  obtain ⟨c_31, A_32, q_33, S_34, M_35, H_36, U_37⟩ := id hp1
  have hin_38 : ¬ ((0 : Int32) < 0 ∨ c_31.slots.size ≤ (0 : Int32).toNatClampNeg) := inb_of S_34 ⟨(by decide : ¬ ((0 : Int32) < (0 : Int32))), (by decide : (0 : Int32) < (2 : Int32))⟩
  have hat_39 : c_31.slots[(0 : Int32).toNatClampNeg]? = some (.int y0) := Has.at H_36 hin_38 rfl
  obtain ⟨c_40, A_41, q_42, S_43, M_44, H_45, U_46⟩ := id hp0
  obtain ⟨c_47, A_48, q_49, S_50, M_51, H_52, U_53⟩ := id hp0
  have hin_54 : ¬ ((1 : Int32) < 0 ∨ c_47.slots.size ≤ (1 : Int32).toNatClampNeg) := inb_of S_50 ⟨(by decide : ¬ ((1 : Int32) < (0 : Int32))), (by decide : (1 : Int32) < (2 : Int32))⟩
  have hat_55 : c_47.slots[(1 : Int32).toNatClampNeg]? = some (.int y1) := Has.at H_52 hin_54 rfl
  obtain ⟨c_56, A_57, q_58, S_59, M_60, H_61, U_62⟩ := id hp1
  have hin_63 : ¬ ((1 : Int32) < 0 ∨ c_56.slots.size ≤ (1 : Int32).toNatClampNeg) := inb_of S_59 ⟨(by decide : ¬ ((1 : Int32) < (0 : Int32))), (by decide : (1 : Int32) < (2 : Int32))⟩
  have hat_64 : c_56.slots[(1 : Int32).toNatClampNeg]? = some (.int y1) := Has.at H_61 hin_63 rfl
  obtain ⟨c_65, A_66, q_67, S_68, M_69, H_70, U_71⟩ := id hp0
  have C_72 : Steps p.tables e below S0 (s₁.setTop (mkF m 33 #[.val (.ref t), .val (.ref u), .val (.int (2 : Int32))] [(.int (1 : Int32))])) := by
    refine C0.trans ?_
    refine XS.aloadN X0.here hx rfl (hb hby d7_0) rfl rfl ?_
    refine X0.arraylength hx (by rw [e0]; exact A_2.1) (State.isArrayOf_alike hZ.alike A_2.2.1) (g := (mkF m 1 #[.val (.ref t), .val (.ref u), .unset] [(.ref t)])) rfl rfl (hb hby d7_1) _ ?_
    rw [len_of S_4 M_5]
    refine XS.aloadN X0.here hx rfl (hb hby d7_2) rfl rfl ?_
    refine X0.arraylength hx (by rw [e0]; exact A_9.1) (State.isArrayOf_alike hZ.alike A_9.2.1) (g := (mkF m 3 #[.val (.ref t), .val (.ref u), .unset] [(.ref u), (.int (2 : Int32))])) rfl rfl (hb hby d7_3) _ ?_
    rw [len_of S_11 M_12]
    refine XS.icmpNo X0.here hx rfl (hb hby d7_4) rfl (by decide) ?_
    refine XS.iconst X0.here hx rfl (hb hby d7_7) ?_
    refine XS.istoreN X0.here hx rfl (hb hby d7_8) rfl (l' := #[.val (.ref t), .val (.ref u), .val (.int (0 : Int32))]) rfl ?_
    refine XS.iloadN X0.here hx rfl (hb hby d7_9) rfl ?_
    show Steps p.tables e below (s₁.setTop (mkF m 10 #[.val (.ref t), .val (.ref u), .val (.int (0 : Int32))] [(.int (0 : Int32))])) _
    refine XS.aloadN X0.here hx rfl (hb hby d7_10) rfl rfl ?_
    refine X0.arraylength hx (by rw [e0]; exact A_16.1) (State.isArrayOf_alike hZ.alike A_16.2.1) (g := (mkF m 11 #[.val (.ref t), .val (.ref u), .val (.int (0 : Int32))] [(.ref t), (.int (0 : Int32))])) rfl rfl (hb hby d7_11) _ ?_
    rw [len_of S_18 M_19]
    refine XS.icmpNo X0.here hx rfl (hb hby d7_12) rfl (by decide) ?_
    refine XS.aloadN X0.here hx rfl (hb hby d7_15) rfl rfl ?_
    refine XS.iloadN X0.here hx rfl (hb hby d7_16) rfl ?_
    refine X0.baloadBytes hx (j := (0 : Int32)) (v := (.int y0)) (by rw [e0]; exact A_23.1) (State.isArrayOf_alike hZ.alike A_23.2.1) A_23.2.2 hin_29 hat_30 (g := (mkF m 17 #[.val (.ref t), .val (.ref u), .val (.int (0 : Int32))] [(.int (0 : Int32)), (.ref t)])) rfl rfl (hb hby d7_17) _ ?_
    refine XS.aloadN X0.here hx rfl (hb hby d7_18) rfl rfl ?_
    refine XS.iloadN X0.here hx rfl (hb hby d7_19) rfl ?_
    show Steps p.tables e below (s₁.setTop (mkF m 20 #[.val (.ref t), .val (.ref u), .val (.int (0 : Int32))] [(.int (0 : Int32)), (.ref u), (.int y0)])) _
    refine X0.baloadBytes hx (j := (0 : Int32)) (v := (.int y0)) (by rw [e0]; exact A_32.1) (State.isArrayOf_alike hZ.alike A_32.2.1) A_32.2.2 hin_38 hat_39 (g := (mkF m 20 #[.val (.ref t), .val (.ref u), .val (.int (0 : Int32))] [(.int (0 : Int32)), (.ref u), (.int y0)])) rfl rfl (hb hby d7_20) _ ?_
    refine XS.icmpYes X0.here hx rfl (pc0 := 21) (pc' := 26) rfl (hb hby d7_21) rfl (ii_eq_t rfl) (by decide) (by decide) ?_
    refine XS.iinc X0.here hx rfl (hb hby d7_26) (x := (0 : Int32)) rfl (l' := #[.val (.ref t), .val (.ref u), .val (.int (1 : Int32))]) rfl ?_
    refine XS.goto X0.here hx rfl (pc0 := 29) (pc' := 9) rfl (hb hby d7_29) (by decide) (by decide) ?_
    refine XS.iloadN X0.here hx rfl (hb hby d7_9) rfl ?_
    refine XS.aloadN X0.here hx rfl (hb hby d7_10) rfl rfl ?_
    refine X0.arraylength hx (by rw [e0]; exact A_41.1) (State.isArrayOf_alike hZ.alike A_41.2.1) (g := (mkF m 11 #[.val (.ref t), .val (.ref u), .val (.int (1 : Int32))] [(.ref t), (.int (1 : Int32))])) rfl rfl (hb hby d7_11) _ ?_
    rw [len_of S_43 M_44]
    refine XS.icmpNo X0.here hx rfl (hb hby d7_12) rfl (by decide) ?_
    show Steps p.tables e below (s₁.setTop (mkF m 15 #[.val (.ref t), .val (.ref u), .val (.int (1 : Int32))] [])) _
    refine XS.aloadN X0.here hx rfl (hb hby d7_15) rfl rfl ?_
    refine XS.iloadN X0.here hx rfl (hb hby d7_16) rfl ?_
    refine X0.baloadBytes hx (j := (1 : Int32)) (v := (.int y1)) (by rw [e0]; exact A_48.1) (State.isArrayOf_alike hZ.alike A_48.2.1) A_48.2.2 hin_54 hat_55 (g := (mkF m 17 #[.val (.ref t), .val (.ref u), .val (.int (1 : Int32))] [(.int (1 : Int32)), (.ref t)])) rfl rfl (hb hby d7_17) _ ?_
    refine XS.aloadN X0.here hx rfl (hb hby d7_18) rfl rfl ?_
    refine XS.iloadN X0.here hx rfl (hb hby d7_19) rfl ?_
    refine X0.baloadBytes hx (j := (1 : Int32)) (v := (.int y1)) (by rw [e0]; exact A_57.1) (State.isArrayOf_alike hZ.alike A_57.2.1) A_57.2.2 hin_63 hat_64 (g := (mkF m 20 #[.val (.ref t), .val (.ref u), .val (.int (1 : Int32))] [(.int (1 : Int32)), (.ref u), (.int y1)])) rfl rfl (hb hby d7_20) _ ?_
    refine XS.icmpYes X0.here hx rfl (pc0 := 21) (pc' := 26) rfl (hb hby d7_21) rfl (ii_eq_t rfl) (by decide) (by decide) ?_
    refine XS.iinc X0.here hx rfl (hb hby d7_26) (x := (1 : Int32)) rfl (l' := #[.val (.ref t), .val (.ref u), .val (.int (2 : Int32))]) rfl ?_
    show Steps p.tables e below (s₁.setTop (mkF m 29 #[.val (.ref t), .val (.ref u), .val (.int (2 : Int32))] [])) _
    refine XS.goto X0.here hx rfl (pc0 := 29) (pc' := 9) rfl (hb hby d7_29) (by decide) (by decide) ?_
    refine XS.iloadN X0.here hx rfl (hb hby d7_9) rfl ?_
    refine XS.aloadN X0.here hx rfl (hb hby d7_10) rfl rfl ?_
    refine X0.arraylength hx (by rw [e0]; exact A_66.1) (State.isArrayOf_alike hZ.alike A_66.2.1) (g := (mkF m 11 #[.val (.ref t), .val (.ref u), .val (.int (2 : Int32))] [(.ref t), (.int (2 : Int32))])) rfl rfl (hb hby d7_11) _ ?_
    rw [len_of S_68 M_69]
    refine XS.icmpYes X0.here hx rfl (pc0 := 12) (pc' := 32) rfl (hb hby d7_12) rfl (by decide) (by decide) (by decide) ?_
    refine XS.iconst X0.here hx rfl (hb hby d7_32) ?_
    exact Steps.refl _
  obtain ⟨fs, hr, hrun, hended, hW, hsame⟩ := X0.leave (v := some (.int (1 : Int32))) (fun h => by rw [Bd.returns] at h; cases h)
  refine ⟨_, _, C_72.trans (retN X0 hx (t := .boolean) Bd.returns (by simp) (hb hby d7_33) hr), hrun, hended, _, _, rfl, ?_, ⟨_, rfl⟩, hW, hsame.mono (by decide) (by decide)⟩
  show Q_leq_2 Z G1 kF kA t kt u ku y0 y1 h0 n0 (some (.int (1 : Int32))) s₁.heap _
  rw [e0]
  exact ⟨rfl, N0, rfl⟩
abbrev R_eq_2 : Room := { frames := 1, cells := 0, slots := 0, locals := 14 }
def Q_eq_2 (Z : State) (G1 : Int32) (kF : Addr) (kA : Addr) (x : Addr) (t : Addr) (kt : ClassId) (w : Addr) (u : Addr) (ku : ClassId) (y0 : Int32) (y1 : Int32) (h0 : Heap) (n0 : Nat) (v : Option Value) (h : Heap) (L : List Loc) : Prop := (v = some (.int (1 : Int32)) ∧ Fr n0 L ∧ h = h0)
set_option maxRecDepth 65536 in
set_option maxHeartbeats 40000000 in
theorem rm_eq_2 (l : Launch) (Z : State) (a0 : Array Value) (hw : ∀ d ∈ tables_1, d.before a0 Z = true) (ws : List Jvm.Cond) (G1 : Int32) (kF : Addr) (kA : Addr) (HG : own_G l Z a0 G1 kF kA) (h0 : Heap) (n0 : Nat) (X00 : Old Z n0 h0) (x : Addr) (t : Addr) (kt : ClassId) (w : Addr) (u : Addr) (ku : ClassId) (y0 : Int32) (y1 : Int32) (hp0 : Exa Z h0 x "java/lang/String") (hp1 : Fld Z h0 x "java/lang/String" "coder" "B" (.int (0 : Int32))) (hp2 : Fld Z h0 x "java/lang/String" "value" "[B" (.ref t)) (hp3 : Arv Z h0 t kt .byte (2 : Int32) [(.int y0), (.int y1)] (.int (0 : Int32))) (hp4 : Exa Z h0 w "java/lang/String") (hp5 : Fld Z h0 w "java/lang/String" "coder" "B" (.int (0 : Int32))) (hp6 : Fld Z h0 w "java/lang/String" "value" "[B" (.ref u)) (hp7 : Arv Z h0 u ku .byte (2 : Int32) [(.int y0), (.int y1)] (.int (0 : Int32))) (hp8 : x ≠ w) :
    own_CP l Z M162 jdk_42_method_66_code 3 (some .boolean) ws R_eq_2 #[(.ref x), (.ref w)] h0 (Q_eq_2 Z G1 kF kA x t kt w u ku y0 y1 h0 n0) := by
  refine own_P (plainFor_of_name pn_2) ?_
  intro p e s m below meth c s₁ S0 Bd hZ hh hx hby hml hown hnm X0 e0 hS0d
  obtain ⟨O1, P1, O2, O3, E2, F2, NE⟩ := id HG
  have N0 := Fr.nil n0
  have C0 : Steps p.tables e below S0 (s₁.setTop (mkF m 0 #[.val (.ref x), .val (.ref w), .unset] [])) := by rw [hS0d]; exact castTop (ef_147 m x w) (Steps.refl _)
  obtain ⟨T_1, X_2, e_3, st_4⟩ := instY X0 hx hZ hown (w92 hw) e0 (Ins.self hp4) (g := (mkF m 8 #[.val (.ref x), .val (.ref w), .unset] [(.ref w)])) rfl rfl (hb hby d8_8)
  obtain ⟨T_5, X_6, e_7, st_8⟩ := castY X_2 hx hZ hown (w92 hw) e_3 (Ins.self hp4) (g := (mkF m 15 #[.val (.ref x), .val (.ref w), .unset] [(.ref w)])) rfl rfl (hb hby d8_15)
  obtain ⟨T_9, X_10, e_11, st_12⟩ := getS X_6 hx hZ (host := "") hown (w86 hw) Via.refl e_7 (O1.ext X00.2) (g := (mkF m 19 #[.val (.ref x), .val (.ref w), .val (.ref w)] [])) rfl (hb hby d8_19)
  obtain ⟨T_13, X_14, e_15, st_16⟩ := getF X_10 hx hZ hown (host := "") (Or.inl (w26 hw)) Via.refl e_11 hp1 (g := (mkF m 26 #[.val (.ref x), .val (.ref w), .val (.ref w)] [(.ref x)])) rfl rfl (hb hby d8_26)
  obtain ⟨T_17, X_18, e_19, st_20⟩ := getF X_14 hx hZ hown (host := "") (Or.inl (w26 hw)) Via.refl e_15 hp5 (g := (mkF m 30 #[.val (.ref x), .val (.ref w), .val (.ref w)] [(.ref w), (.int (0 : Int32))])) rfl rfl (hb hby d8_30)
  obtain ⟨T_21, X_22, e_23, st_24⟩ := getF X_18 hx hZ hown (host := "") (Or.inl (w25 hw)) Via.refl e_19 hp2 (g := (mkF m 37 #[.val (.ref x), .val (.ref w), .val (.ref w)] [(.ref x)])) rfl rfl (hb hby d8_37)
  obtain ⟨T_25, X_26, e_27, st_28⟩ := getF X_22 hx hZ hown (host := "") (Or.inl (w25 hw)) Via.refl e_23 hp6 (g := (mkF m 41 #[.val (.ref x), .val (.ref w), .val (.ref w)] [(.ref w), (.ref t)])) rfl rfl (hb hby d8_41)
  obtain ⟨_, _, ⟨T_29, L_29, k_29, n_29⟩, -, X_29, ⟨Lc_29, hQ_29, l_29, y_29, z_29⟩, st_29⟩ := Jvm.LawKit.callS X_26 hx (y := M146) hown (mvT hZ (w93 hw)) (mvT hZ (w94 hw)) (mvT hZ (w95 hw)) (mvT hZ (w96 hw)) (by decide) (backOf (W := 0) (rm_leq_2 l Z a0 hw [] G1 kF kA HG h0 n0 X00 t kt u ku y0 y1 hp3 hp7) hZ (w96 hw) (w95 hw) (by decide) (by decide)) (g := (mkF m 44 #[.val (.ref x), .val (.ref w), .val (.ref w)] [(.ref u), (.ref t)])) rfl (by rw [hml]; rfl) (argsL := [(.ref t), (.ref u)]) (rest := []) (lenOf pd_186 rfl) rfl (by show 2 * 0 + _ ≤ _; exact Nat.le_of_eq rfl) (hb hby d8_44) (fun _ _ => ⟨rfl, e_27, (by decide : 0 + 0 ≤ _), (by decide : 0 + 0 ≤ _)⟩)
  dsimp only [Pt.U, Pt.locs, Pt.cells, Pt.slots] at X_29 l_29 y_29 z_29 st_29 hQ_29
  subst l_29 y_29 z_29
  obtain ⟨rfl, N_30, e_31⟩ := hQ_29
  have N_32 := Fr.app N0 N_30
  have e_33 : T_29.heap = h0 := e_31
  have C_34 : Steps p.tables e below S0 (T_29.setTop (mkF m 55 #[.val (.ref x), .val (.ref w), .val (.ref w)] [(.int (1 : Int32))])) := by
    refine C0.trans ?_
    refine XS.aloadN X0.here hx rfl (hb hby d8_0) rfl rfl ?_
    refine XS.aloadN X0.here hx rfl (hb hby d8_1) rfl rfl ?_
    refine acmp X0 hx rfl (cd := .ne) (x := (.ref x)) (y := (.ref w)) rfl rfl (same := false) (pc0 := 2) (pc' := 7) rfl (hb hby d8_2) rfl (decide_eq_false fun q => hp8 (Value.ref.inj q)) (by decide) (by decide) ?_
    refine XS.aloadN X0.here hx rfl (hb hby d8_7) rfl rfl ?_
    refine st_4 _ ?_
    refine XS.ifNo X_2.here hx rfl (hb hby d8_11) rfl (by decide) ?_
    refine XS.aloadN X_2.here hx rfl (hb hby d8_14) rfl rfl ?_
    refine st_8 _ ?_
    show Steps p.tables e below (T_5.setTop (mkF m 18 #[.val (.ref x), .val (.ref w), .unset] [(.ref w)])) _
    refine XS.astoreN X_6.here hx rfl (hb hby d8_18) rfl rfl (l' := #[.val (.ref x), .val (.ref w), .val (.ref w)]) rfl ?_
    refine st_12 _ ?_
    refine XS.ifNo X_10.here hx rfl (hb hby d8_22) rfl (i0_eq_f P1) ?_
    refine XS.aloadN X_10.here hx rfl (hb hby d8_25) rfl rfl ?_
    refine st_16 _ ?_
    refine XS.aloadN X_14.here hx rfl (hb hby d8_29) rfl rfl ?_
    refine st_20 _ ?_
    refine XS.icmpNo X_18.here hx rfl (hb hby d8_33) rfl (by decide) ?_
    show Steps p.tables e below (T_17.setTop (mkF m 36 #[.val (.ref x), .val (.ref w), .val (.ref w)] [])) _
    refine XS.aloadN X_18.here hx rfl (hb hby d8_36) rfl rfl ?_
    refine st_24 _ ?_
    refine XS.aloadN X_22.here hx rfl (hb hby d8_40) rfl rfl ?_
    refine st_28 _ ?_
    refine st_29 _ ?_
    refine XS.ifNo X_29.here hx rfl (hb hby d8_47) rfl (by decide) ?_
    refine XS.iconst X_29.here hx rfl (hb hby d8_50) ?_
    refine XS.goto X_29.here hx rfl (pc0 := 51) (pc' := 55) rfl (hb hby d8_51) (by decide) (by decide) ?_
    show Steps p.tables e below (T_29.setTop (mkF m 55 #[.val (.ref x), .val (.ref w), .val (.ref w)] [(.int (1 : Int32))])) _
    exact Steps.refl _
  obtain ⟨fs, hr, hrun, hended, hW, hsame⟩ := X_29.leave (v := some (.int (1 : Int32))) (fun h => by rw [Bd.returns] at h; cases h)
  refine ⟨_, _, C_34.trans (retN X_29 hx (t := .boolean) Bd.returns (by simp) (hb hby d8_55) hr), hrun, hended, _, _, rfl, ?_, ⟨_, rfl⟩, hW, hsame.mono (by decide) (by decide)⟩
  show Q_eq_2 Z G1 kF kA x t kt w u ku y0 y1 h0 n0 (some (.int (1 : Int32))) T_29.heap _
  rw [e_33]
  exact ⟨rfl, N_32, rfl⟩
abbrev R_leq_3 : Room := { frames := 0, cells := 0, slots := 0, locals := 0 }
def Q_leq_3 (Z : State) (G1 : Int32) (kF : Addr) (kA : Addr) (t : Addr) (kt : ClassId) (u : Addr) (ku : ClassId) (y0 : Int32) (y1 : Int32) (y2 : Int32) (h0 : Heap) (n0 : Nat) (v : Option Value) (h : Heap) (L : List Loc) : Prop := (v = some (.int (1 : Int32)) ∧ Fr n0 L ∧ h = h0)
set_option maxRecDepth 65536 in
set_option maxHeartbeats 40000000 in
theorem rm_leq_3 (l : Launch) (Z : State) (a0 : Array Value) (hw : ∀ d ∈ tables_1, d.before a0 Z = true) (ws : List Jvm.Cond) (G1 : Int32) (kF : Addr) (kA : Addr) (HG : own_G l Z a0 G1 kF kA) (h0 : Heap) (n0 : Nat) (X00 : Old Z n0 h0) (t : Addr) (kt : ClassId) (u : Addr) (ku : ClassId) (y0 : Int32) (y1 : Int32) (y2 : Int32) (hp0 : Arv Z h0 t kt .byte (3 : Int32) [(.int y0), (.int y1), (.int y2)] (.int (0 : Int32))) (hp1 : Arv Z h0 u ku .byte (3 : Int32) [(.int y0), (.int y1), (.int y2)] (.int (0 : Int32))) :
    own_CP l Z M146 jdk_43_method_13_code 3 (some .boolean) ws R_leq_3 #[(.ref t), (.ref u)] h0 (Q_leq_3 Z G1 kF kA t kt u ku y0 y1 y2 h0 n0) := by
  refine own_P (plainFor_of_name pn_148) ?_
  intro p e s m below meth c s₁ S0 Bd hZ hh hx hby hml hown hnm X0 e0 hS0d
  obtain ⟨O1, P1, O2, O3, E2, F2, NE⟩ := id HG
  have N0 := Fr.nil n0
  have C0 : Steps p.tables e below S0 (s₁.setTop (mkF m 0 #[.val (.ref t), .val (.ref u), .unset] [])) := by rw [hS0d]; exact castTop (ef_147 m t u) (Steps.refl _)
  obtain ⟨c_1, A_2, q_3, S_4, M_5, H_6, U_7⟩ := id hp0
  obtain ⟨c_8, A_9, q_10, S_11, M_12, H_13, U_14⟩ := id hp1
  obtain ⟨c_15, A_16, q_17, S_18, M_19, H_20, U_21⟩ := id hp0
  obtain ⟨c_22, A_23, q_24, S_25, M_26, H_27, U_28⟩ := id hp0
  have hin_29 : ¬ ((0 : Int32) < 0 ∨ c_22.slots.size ≤ (0 : Int32).toNatClampNeg) := inb_of S_25 ⟨(by decide : ¬ ((0 : Int32) < (0 : Int32))), (by decide : (0 : Int32) < (3 : Int32))⟩
  have hat_30 : c_22.slots[(0 : Int32).toNatClampNeg]? = some (.int y0) := Has.at H_27 hin_29 rfl
  obtain ⟨c_31, A_32, q_33, S_34, M_35, H_36, U_37⟩ := id hp1
  have hin_38 : ¬ ((0 : Int32) < 0 ∨ c_31.slots.size ≤ (0 : Int32).toNatClampNeg) := inb_of S_34 ⟨(by decide : ¬ ((0 : Int32) < (0 : Int32))), (by decide : (0 : Int32) < (3 : Int32))⟩
  have hat_39 : c_31.slots[(0 : Int32).toNatClampNeg]? = some (.int y0) := Has.at H_36 hin_38 rfl
  obtain ⟨c_40, A_41, q_42, S_43, M_44, H_45, U_46⟩ := id hp0
  obtain ⟨c_47, A_48, q_49, S_50, M_51, H_52, U_53⟩ := id hp0
  have hin_54 : ¬ ((1 : Int32) < 0 ∨ c_47.slots.size ≤ (1 : Int32).toNatClampNeg) := inb_of S_50 ⟨(by decide : ¬ ((1 : Int32) < (0 : Int32))), (by decide : (1 : Int32) < (3 : Int32))⟩
  have hat_55 : c_47.slots[(1 : Int32).toNatClampNeg]? = some (.int y1) := Has.at H_52 hin_54 rfl
  obtain ⟨c_56, A_57, q_58, S_59, M_60, H_61, U_62⟩ := id hp1
  have hin_63 : ¬ ((1 : Int32) < 0 ∨ c_56.slots.size ≤ (1 : Int32).toNatClampNeg) := inb_of S_59 ⟨(by decide : ¬ ((1 : Int32) < (0 : Int32))), (by decide : (1 : Int32) < (3 : Int32))⟩
  have hat_64 : c_56.slots[(1 : Int32).toNatClampNeg]? = some (.int y1) := Has.at H_61 hin_63 rfl
  obtain ⟨c_65, A_66, q_67, S_68, M_69, H_70, U_71⟩ := id hp0
  obtain ⟨c_72, A_73, q_74, S_75, M_76, H_77, U_78⟩ := id hp0
  have hin_79 : ¬ ((2 : Int32) < 0 ∨ c_72.slots.size ≤ (2 : Int32).toNatClampNeg) := inb_of S_75 ⟨(by decide : ¬ ((2 : Int32) < (0 : Int32))), (by decide : (2 : Int32) < (3 : Int32))⟩
  have hat_80 : c_72.slots[(2 : Int32).toNatClampNeg]? = some (.int y2) := Has.at H_77 hin_79 rfl
  obtain ⟨c_81, A_82, q_83, S_84, M_85, H_86, U_87⟩ := id hp1
  have hin_88 : ¬ ((2 : Int32) < 0 ∨ c_81.slots.size ≤ (2 : Int32).toNatClampNeg) := inb_of S_84 ⟨(by decide : ¬ ((2 : Int32) < (0 : Int32))), (by decide : (2 : Int32) < (3 : Int32))⟩
  have hat_89 : c_81.slots[(2 : Int32).toNatClampNeg]? = some (.int y2) := Has.at H_86 hin_88 rfl
  obtain ⟨c_90, A_91, q_92, S_93, M_94, H_95, U_96⟩ := id hp0
  have C_97 : Steps p.tables e below S0 (s₁.setTop (mkF m 33 #[.val (.ref t), .val (.ref u), .val (.int (3 : Int32))] [(.int (1 : Int32))])) := by
    refine C0.trans ?_
    refine XS.aloadN X0.here hx rfl (hb hby d7_0) rfl rfl ?_
    refine X0.arraylength hx (by rw [e0]; exact A_2.1) (State.isArrayOf_alike hZ.alike A_2.2.1) (g := (mkF m 1 #[.val (.ref t), .val (.ref u), .unset] [(.ref t)])) rfl rfl (hb hby d7_1) _ ?_
    rw [len_of S_4 M_5]
    refine XS.aloadN X0.here hx rfl (hb hby d7_2) rfl rfl ?_
    refine X0.arraylength hx (by rw [e0]; exact A_9.1) (State.isArrayOf_alike hZ.alike A_9.2.1) (g := (mkF m 3 #[.val (.ref t), .val (.ref u), .unset] [(.ref u), (.int (3 : Int32))])) rfl rfl (hb hby d7_3) _ ?_
    rw [len_of S_11 M_12]
    refine XS.icmpNo X0.here hx rfl (hb hby d7_4) rfl (by decide) ?_
    refine XS.iconst X0.here hx rfl (hb hby d7_7) ?_
    refine XS.istoreN X0.here hx rfl (hb hby d7_8) rfl (l' := #[.val (.ref t), .val (.ref u), .val (.int (0 : Int32))]) rfl ?_
    refine XS.iloadN X0.here hx rfl (hb hby d7_9) rfl ?_
    show Steps p.tables e below (s₁.setTop (mkF m 10 #[.val (.ref t), .val (.ref u), .val (.int (0 : Int32))] [(.int (0 : Int32))])) _
    refine XS.aloadN X0.here hx rfl (hb hby d7_10) rfl rfl ?_
    refine X0.arraylength hx (by rw [e0]; exact A_16.1) (State.isArrayOf_alike hZ.alike A_16.2.1) (g := (mkF m 11 #[.val (.ref t), .val (.ref u), .val (.int (0 : Int32))] [(.ref t), (.int (0 : Int32))])) rfl rfl (hb hby d7_11) _ ?_
    rw [len_of S_18 M_19]
    refine XS.icmpNo X0.here hx rfl (hb hby d7_12) rfl (by decide) ?_
    refine XS.aloadN X0.here hx rfl (hb hby d7_15) rfl rfl ?_
    refine XS.iloadN X0.here hx rfl (hb hby d7_16) rfl ?_
    refine X0.baloadBytes hx (j := (0 : Int32)) (v := (.int y0)) (by rw [e0]; exact A_23.1) (State.isArrayOf_alike hZ.alike A_23.2.1) A_23.2.2 hin_29 hat_30 (g := (mkF m 17 #[.val (.ref t), .val (.ref u), .val (.int (0 : Int32))] [(.int (0 : Int32)), (.ref t)])) rfl rfl (hb hby d7_17) _ ?_
    refine XS.aloadN X0.here hx rfl (hb hby d7_18) rfl rfl ?_
    refine XS.iloadN X0.here hx rfl (hb hby d7_19) rfl ?_
    show Steps p.tables e below (s₁.setTop (mkF m 20 #[.val (.ref t), .val (.ref u), .val (.int (0 : Int32))] [(.int (0 : Int32)), (.ref u), (.int y0)])) _
    refine X0.baloadBytes hx (j := (0 : Int32)) (v := (.int y0)) (by rw [e0]; exact A_32.1) (State.isArrayOf_alike hZ.alike A_32.2.1) A_32.2.2 hin_38 hat_39 (g := (mkF m 20 #[.val (.ref t), .val (.ref u), .val (.int (0 : Int32))] [(.int (0 : Int32)), (.ref u), (.int y0)])) rfl rfl (hb hby d7_20) _ ?_
    refine XS.icmpYes X0.here hx rfl (pc0 := 21) (pc' := 26) rfl (hb hby d7_21) rfl (ii_eq_t rfl) (by decide) (by decide) ?_
    refine XS.iinc X0.here hx rfl (hb hby d7_26) (x := (0 : Int32)) rfl (l' := #[.val (.ref t), .val (.ref u), .val (.int (1 : Int32))]) rfl ?_
    refine XS.goto X0.here hx rfl (pc0 := 29) (pc' := 9) rfl (hb hby d7_29) (by decide) (by decide) ?_
    refine XS.iloadN X0.here hx rfl (hb hby d7_9) rfl ?_
    refine XS.aloadN X0.here hx rfl (hb hby d7_10) rfl rfl ?_
    refine X0.arraylength hx (by rw [e0]; exact A_41.1) (State.isArrayOf_alike hZ.alike A_41.2.1) (g := (mkF m 11 #[.val (.ref t), .val (.ref u), .val (.int (1 : Int32))] [(.ref t), (.int (1 : Int32))])) rfl rfl (hb hby d7_11) _ ?_
    rw [len_of S_43 M_44]
    refine XS.icmpNo X0.here hx rfl (hb hby d7_12) rfl (by decide) ?_
    show Steps p.tables e below (s₁.setTop (mkF m 15 #[.val (.ref t), .val (.ref u), .val (.int (1 : Int32))] [])) _
    refine XS.aloadN X0.here hx rfl (hb hby d7_15) rfl rfl ?_
    refine XS.iloadN X0.here hx rfl (hb hby d7_16) rfl ?_
    refine X0.baloadBytes hx (j := (1 : Int32)) (v := (.int y1)) (by rw [e0]; exact A_48.1) (State.isArrayOf_alike hZ.alike A_48.2.1) A_48.2.2 hin_54 hat_55 (g := (mkF m 17 #[.val (.ref t), .val (.ref u), .val (.int (1 : Int32))] [(.int (1 : Int32)), (.ref t)])) rfl rfl (hb hby d7_17) _ ?_
    refine XS.aloadN X0.here hx rfl (hb hby d7_18) rfl rfl ?_
    refine XS.iloadN X0.here hx rfl (hb hby d7_19) rfl ?_
    refine X0.baloadBytes hx (j := (1 : Int32)) (v := (.int y1)) (by rw [e0]; exact A_57.1) (State.isArrayOf_alike hZ.alike A_57.2.1) A_57.2.2 hin_63 hat_64 (g := (mkF m 20 #[.val (.ref t), .val (.ref u), .val (.int (1 : Int32))] [(.int (1 : Int32)), (.ref u), (.int y1)])) rfl rfl (hb hby d7_20) _ ?_
    refine XS.icmpYes X0.here hx rfl (pc0 := 21) (pc' := 26) rfl (hb hby d7_21) rfl (ii_eq_t rfl) (by decide) (by decide) ?_
    refine XS.iinc X0.here hx rfl (hb hby d7_26) (x := (1 : Int32)) rfl (l' := #[.val (.ref t), .val (.ref u), .val (.int (2 : Int32))]) rfl ?_
    show Steps p.tables e below (s₁.setTop (mkF m 29 #[.val (.ref t), .val (.ref u), .val (.int (2 : Int32))] [])) _
    refine XS.goto X0.here hx rfl (pc0 := 29) (pc' := 9) rfl (hb hby d7_29) (by decide) (by decide) ?_
    refine XS.iloadN X0.here hx rfl (hb hby d7_9) rfl ?_
    refine XS.aloadN X0.here hx rfl (hb hby d7_10) rfl rfl ?_
    refine X0.arraylength hx (by rw [e0]; exact A_66.1) (State.isArrayOf_alike hZ.alike A_66.2.1) (g := (mkF m 11 #[.val (.ref t), .val (.ref u), .val (.int (2 : Int32))] [(.ref t), (.int (2 : Int32))])) rfl rfl (hb hby d7_11) _ ?_
    rw [len_of S_68 M_69]
    refine XS.icmpNo X0.here hx rfl (hb hby d7_12) rfl (by decide) ?_
    refine XS.aloadN X0.here hx rfl (hb hby d7_15) rfl rfl ?_
    refine XS.iloadN X0.here hx rfl (hb hby d7_16) rfl ?_
    refine X0.baloadBytes hx (j := (2 : Int32)) (v := (.int y2)) (by rw [e0]; exact A_73.1) (State.isArrayOf_alike hZ.alike A_73.2.1) A_73.2.2 hin_79 hat_80 (g := (mkF m 17 #[.val (.ref t), .val (.ref u), .val (.int (2 : Int32))] [(.int (2 : Int32)), (.ref t)])) rfl rfl (hb hby d7_17) _ ?_
    show Steps p.tables e below (s₁.setTop (mkF m 18 #[.val (.ref t), .val (.ref u), .val (.int (2 : Int32))] [(.int y2)])) _
    refine XS.aloadN X0.here hx rfl (hb hby d7_18) rfl rfl ?_
    refine XS.iloadN X0.here hx rfl (hb hby d7_19) rfl ?_
    refine X0.baloadBytes hx (j := (2 : Int32)) (v := (.int y2)) (by rw [e0]; exact A_82.1) (State.isArrayOf_alike hZ.alike A_82.2.1) A_82.2.2 hin_88 hat_89 (g := (mkF m 20 #[.val (.ref t), .val (.ref u), .val (.int (2 : Int32))] [(.int (2 : Int32)), (.ref u), (.int y2)])) rfl rfl (hb hby d7_20) _ ?_
    refine XS.icmpYes X0.here hx rfl (pc0 := 21) (pc' := 26) rfl (hb hby d7_21) rfl (ii_eq_t rfl) (by decide) (by decide) ?_
    refine XS.iinc X0.here hx rfl (hb hby d7_26) (x := (2 : Int32)) rfl (l' := #[.val (.ref t), .val (.ref u), .val (.int (3 : Int32))]) rfl ?_
    refine XS.goto X0.here hx rfl (pc0 := 29) (pc' := 9) rfl (hb hby d7_29) (by decide) (by decide) ?_
    refine XS.iloadN X0.here hx rfl (hb hby d7_9) rfl ?_
    refine XS.aloadN X0.here hx rfl (hb hby d7_10) rfl rfl ?_
    show Steps p.tables e below (s₁.setTop (mkF m 11 #[.val (.ref t), .val (.ref u), .val (.int (3 : Int32))] [(.ref t), (.int (3 : Int32))])) _
    refine X0.arraylength hx (by rw [e0]; exact A_91.1) (State.isArrayOf_alike hZ.alike A_91.2.1) (g := (mkF m 11 #[.val (.ref t), .val (.ref u), .val (.int (3 : Int32))] [(.ref t), (.int (3 : Int32))])) rfl rfl (hb hby d7_11) _ ?_
    rw [len_of S_93 M_94]
    refine XS.icmpYes X0.here hx rfl (pc0 := 12) (pc' := 32) rfl (hb hby d7_12) rfl (by decide) (by decide) (by decide) ?_
    refine XS.iconst X0.here hx rfl (hb hby d7_32) ?_
    exact Steps.refl _
  obtain ⟨fs, hr, hrun, hended, hW, hsame⟩ := X0.leave (v := some (.int (1 : Int32))) (fun h => by rw [Bd.returns] at h; cases h)
  refine ⟨_, _, C_97.trans (retN X0 hx (t := .boolean) Bd.returns (by simp) (hb hby d7_33) hr), hrun, hended, _, _, rfl, ?_, ⟨_, rfl⟩, hW, hsame.mono (by decide) (by decide)⟩
  show Q_leq_3 Z G1 kF kA t kt u ku y0 y1 y2 h0 n0 (some (.int (1 : Int32))) s₁.heap _
  rw [e0]
  exact ⟨rfl, N0, rfl⟩
abbrev R_eq_3 : Room := { frames := 1, cells := 0, slots := 0, locals := 14 }
def Q_eq_3 (Z : State) (G1 : Int32) (kF : Addr) (kA : Addr) (x : Addr) (t : Addr) (kt : ClassId) (w : Addr) (u : Addr) (ku : ClassId) (y0 : Int32) (y1 : Int32) (y2 : Int32) (h0 : Heap) (n0 : Nat) (v : Option Value) (h : Heap) (L : List Loc) : Prop := (v = some (.int (1 : Int32)) ∧ Fr n0 L ∧ h = h0)
set_option maxRecDepth 65536 in
set_option maxHeartbeats 40000000 in
theorem rm_eq_3 (l : Launch) (Z : State) (a0 : Array Value) (hw : ∀ d ∈ tables_1, d.before a0 Z = true) (ws : List Jvm.Cond) (G1 : Int32) (kF : Addr) (kA : Addr) (HG : own_G l Z a0 G1 kF kA) (h0 : Heap) (n0 : Nat) (X00 : Old Z n0 h0) (x : Addr) (t : Addr) (kt : ClassId) (w : Addr) (u : Addr) (ku : ClassId) (y0 : Int32) (y1 : Int32) (y2 : Int32) (hp0 : Exa Z h0 x "java/lang/String") (hp1 : Fld Z h0 x "java/lang/String" "coder" "B" (.int (0 : Int32))) (hp2 : Fld Z h0 x "java/lang/String" "value" "[B" (.ref t)) (hp3 : Arv Z h0 t kt .byte (3 : Int32) [(.int y0), (.int y1), (.int y2)] (.int (0 : Int32))) (hp4 : Exa Z h0 w "java/lang/String") (hp5 : Fld Z h0 w "java/lang/String" "coder" "B" (.int (0 : Int32))) (hp6 : Fld Z h0 w "java/lang/String" "value" "[B" (.ref u)) (hp7 : Arv Z h0 u ku .byte (3 : Int32) [(.int y0), (.int y1), (.int y2)] (.int (0 : Int32))) (hp8 : x ≠ w) :
    own_CP l Z M162 jdk_42_method_66_code 3 (some .boolean) ws R_eq_3 #[(.ref x), (.ref w)] h0 (Q_eq_3 Z G1 kF kA x t kt w u ku y0 y1 y2 h0 n0) := by
  refine own_P (plainFor_of_name pn_2) ?_
  intro p e s m below meth c s₁ S0 Bd hZ hh hx hby hml hown hnm X0 e0 hS0d
  obtain ⟨O1, P1, O2, O3, E2, F2, NE⟩ := id HG
  have N0 := Fr.nil n0
  have C0 : Steps p.tables e below S0 (s₁.setTop (mkF m 0 #[.val (.ref x), .val (.ref w), .unset] [])) := by rw [hS0d]; exact castTop (ef_147 m x w) (Steps.refl _)
  obtain ⟨T_1, X_2, e_3, st_4⟩ := instY X0 hx hZ hown (w92 hw) e0 (Ins.self hp4) (g := (mkF m 8 #[.val (.ref x), .val (.ref w), .unset] [(.ref w)])) rfl rfl (hb hby d8_8)
  obtain ⟨T_5, X_6, e_7, st_8⟩ := castY X_2 hx hZ hown (w92 hw) e_3 (Ins.self hp4) (g := (mkF m 15 #[.val (.ref x), .val (.ref w), .unset] [(.ref w)])) rfl rfl (hb hby d8_15)
  obtain ⟨T_9, X_10, e_11, st_12⟩ := getS X_6 hx hZ (host := "") hown (w86 hw) Via.refl e_7 (O1.ext X00.2) (g := (mkF m 19 #[.val (.ref x), .val (.ref w), .val (.ref w)] [])) rfl (hb hby d8_19)
  obtain ⟨T_13, X_14, e_15, st_16⟩ := getF X_10 hx hZ hown (host := "") (Or.inl (w26 hw)) Via.refl e_11 hp1 (g := (mkF m 26 #[.val (.ref x), .val (.ref w), .val (.ref w)] [(.ref x)])) rfl rfl (hb hby d8_26)
  obtain ⟨T_17, X_18, e_19, st_20⟩ := getF X_14 hx hZ hown (host := "") (Or.inl (w26 hw)) Via.refl e_15 hp5 (g := (mkF m 30 #[.val (.ref x), .val (.ref w), .val (.ref w)] [(.ref w), (.int (0 : Int32))])) rfl rfl (hb hby d8_30)
  obtain ⟨T_21, X_22, e_23, st_24⟩ := getF X_18 hx hZ hown (host := "") (Or.inl (w25 hw)) Via.refl e_19 hp2 (g := (mkF m 37 #[.val (.ref x), .val (.ref w), .val (.ref w)] [(.ref x)])) rfl rfl (hb hby d8_37)
  obtain ⟨T_25, X_26, e_27, st_28⟩ := getF X_22 hx hZ hown (host := "") (Or.inl (w25 hw)) Via.refl e_23 hp6 (g := (mkF m 41 #[.val (.ref x), .val (.ref w), .val (.ref w)] [(.ref w), (.ref t)])) rfl rfl (hb hby d8_41)
  obtain ⟨_, _, ⟨T_29, L_29, k_29, n_29⟩, -, X_29, ⟨Lc_29, hQ_29, l_29, y_29, z_29⟩, st_29⟩ := Jvm.LawKit.callS X_26 hx (y := M146) hown (mvT hZ (w93 hw)) (mvT hZ (w94 hw)) (mvT hZ (w95 hw)) (mvT hZ (w96 hw)) (by decide) (backOf (W := 0) (rm_leq_3 l Z a0 hw [] G1 kF kA HG h0 n0 X00 t kt u ku y0 y1 y2 hp3 hp7) hZ (w96 hw) (w95 hw) (by decide) (by decide)) (g := (mkF m 44 #[.val (.ref x), .val (.ref w), .val (.ref w)] [(.ref u), (.ref t)])) rfl (by rw [hml]; rfl) (argsL := [(.ref t), (.ref u)]) (rest := []) (lenOf pd_186 rfl) rfl (by show 2 * 0 + _ ≤ _; exact Nat.le_of_eq rfl) (hb hby d8_44) (fun _ _ => ⟨rfl, e_27, (by decide : 0 + 0 ≤ _), (by decide : 0 + 0 ≤ _)⟩)
  dsimp only [Pt.U, Pt.locs, Pt.cells, Pt.slots] at X_29 l_29 y_29 z_29 st_29 hQ_29
  subst l_29 y_29 z_29
  obtain ⟨rfl, N_30, e_31⟩ := hQ_29
  have N_32 := Fr.app N0 N_30
  have e_33 : T_29.heap = h0 := e_31
  have C_34 : Steps p.tables e below S0 (T_29.setTop (mkF m 55 #[.val (.ref x), .val (.ref w), .val (.ref w)] [(.int (1 : Int32))])) := by
    refine C0.trans ?_
    refine XS.aloadN X0.here hx rfl (hb hby d8_0) rfl rfl ?_
    refine XS.aloadN X0.here hx rfl (hb hby d8_1) rfl rfl ?_
    refine acmp X0 hx rfl (cd := .ne) (x := (.ref x)) (y := (.ref w)) rfl rfl (same := false) (pc0 := 2) (pc' := 7) rfl (hb hby d8_2) rfl (decide_eq_false fun q => hp8 (Value.ref.inj q)) (by decide) (by decide) ?_
    refine XS.aloadN X0.here hx rfl (hb hby d8_7) rfl rfl ?_
    refine st_4 _ ?_
    refine XS.ifNo X_2.here hx rfl (hb hby d8_11) rfl (by decide) ?_
    refine XS.aloadN X_2.here hx rfl (hb hby d8_14) rfl rfl ?_
    refine st_8 _ ?_
    show Steps p.tables e below (T_5.setTop (mkF m 18 #[.val (.ref x), .val (.ref w), .unset] [(.ref w)])) _
    refine XS.astoreN X_6.here hx rfl (hb hby d8_18) rfl rfl (l' := #[.val (.ref x), .val (.ref w), .val (.ref w)]) rfl ?_
    refine st_12 _ ?_
    refine XS.ifNo X_10.here hx rfl (hb hby d8_22) rfl (i0_eq_f P1) ?_
    refine XS.aloadN X_10.here hx rfl (hb hby d8_25) rfl rfl ?_
    refine st_16 _ ?_
    refine XS.aloadN X_14.here hx rfl (hb hby d8_29) rfl rfl ?_
    refine st_20 _ ?_
    refine XS.icmpNo X_18.here hx rfl (hb hby d8_33) rfl (by decide) ?_
    show Steps p.tables e below (T_17.setTop (mkF m 36 #[.val (.ref x), .val (.ref w), .val (.ref w)] [])) _
    refine XS.aloadN X_18.here hx rfl (hb hby d8_36) rfl rfl ?_
    refine st_24 _ ?_
    refine XS.aloadN X_22.here hx rfl (hb hby d8_40) rfl rfl ?_
    refine st_28 _ ?_
    refine st_29 _ ?_
    refine XS.ifNo X_29.here hx rfl (hb hby d8_47) rfl (by decide) ?_
    refine XS.iconst X_29.here hx rfl (hb hby d8_50) ?_
    refine XS.goto X_29.here hx rfl (pc0 := 51) (pc' := 55) rfl (hb hby d8_51) (by decide) (by decide) ?_
    show Steps p.tables e below (T_29.setTop (mkF m 55 #[.val (.ref x), .val (.ref w), .val (.ref w)] [(.int (1 : Int32))])) _
    exact Steps.refl _
  obtain ⟨fs, hr, hrun, hended, hW, hsame⟩ := X_29.leave (v := some (.int (1 : Int32))) (fun h => by rw [Bd.returns] at h; cases h)
  refine ⟨_, _, C_34.trans (retN X_29 hx (t := .boolean) Bd.returns (by simp) (hb hby d8_55) hr), hrun, hended, _, _, rfl, ?_, ⟨_, rfl⟩, hW, hsame.mono (by decide) (by decide)⟩
  show Q_eq_3 Z G1 kF kA x t kt w u ku y0 y1 y2 h0 n0 (some (.int (1 : Int32))) T_29.heap _
  rw [e_33]
  exact ⟨rfl, N_32, rfl⟩
abbrev M203 : MethodName := ⟨"com/example/claimgate/claimgate/authz/DecisionForbiddenPinLaw", "makeChars", "(IIII)[C"⟩
theorem ef_204 (m : MethodId) (x0 : Int32) (x1 : Int32) (x2 : Int32) (x3 : Int32) : entryFrame m #[(.int x0), (.int x1), (.int x2), (.int x3)] 4 = mkF m 0 #[.val (.int x0), .val (.int x1), .val (.int x2), .val (.int x3)] [] := by first | (simp [entryFrame, mkF, argsToLocals, Value.category]; done) | rfl
theorem pn_205 : plainName "com/example/claimgate/claimgate/authz/DecisionForbiddenPinLaw" = true := by first | (simp [plainName, overriddenIn]; done) | decide +kernel
theorem d9_0 : decode method_3_code 0 = .ok (.iload_n 0, 1) := by decide +kernel
theorem d9_1 : decode method_3_code 1 = .ok (.ifCond .ne 7, 3) := by decide +kernel
theorem d9_4 : decode method_3_code 4 = .ok (.iconst 0, 1) := by decide +kernel
theorem w8 {Z : State} {a0 : Array Value} (hw : ∀ d ∈ tables_1, d.before a0 Z = true) : Jvm.Cond.before (Jvm.Cond.arrayClass Jvm.ClassFile.FieldType.char) a0 Z = true := hw _ (List.mem_of_getElem? (i := 8) rfl)
theorem d9_5 : decode method_3_code 5 = .ok (.newarray .char, 2) := by decide +kernel
theorem d9_7 : decode method_3_code 7 = .ok (.areturn, 1) := by decide +kernel
abbrev R_mk_0 : Room := { frames := 0, cells := 1, slots := 0, locals := 0 }
def Q_mk_0 (Z : State) (G1 : Int32) (kF : Addr) (kA : Addr) (p0 : Int32) (p1 : Int32) (p2 : Int32) (h0 : Heap) (n0 : Nat) (v : Option Value) (h : Heap) (L : List Loc) : Prop := (∃ a : Addr, ∃ k : ClassId, v = some (.ref a) ∧ Fr n0 L ∧ Keep h0 h [] ∧ (h0.size ≤ a) ∧ (Arv Z h a k .char (0 : Int32) [] (.int (0 : Int32))))
set_option maxRecDepth 65536 in
set_option maxHeartbeats 40000000 in
theorem rm_mk_0 (l : Launch) (Z : State) (a0 : Array Value) (hw : ∀ d ∈ tables_1, d.before a0 Z = true) (ws : List Jvm.Cond) (G1 : Int32) (kF : Addr) (kA : Addr) (HG : own_G l Z a0 G1 kF kA) (h0 : Heap) (n0 : Nat) (X00 : Old Z n0 h0) (p0 : Int32) (p1 : Int32) (p2 : Int32)  :
    own_CP l Z M203 method_3_code 4 (some (.array .char)) ws R_mk_0 #[(.int (0 : Int32)), (.int p0), (.int p1), (.int p2)] h0 (Q_mk_0 Z G1 kF kA p0 p1 p2 h0 n0) := by
  refine own_P (plainFor_of_name pn_205) ?_
  intro p e s m below meth c s₁ S0 Bd hZ hh hx hby hml hown hnm X0 e0 hS0d
  obtain ⟨O1, P1, O2, O3, E2, F2, NE⟩ := id HG
  have N0 := Fr.nil n0
  have C0 : Steps p.tables e below S0 (s₁.setTop (mkF m 0 #[.val (.int (0 : Int32)), .val (.int p0), .val (.int p1), .val (.int p2)] [])) := by rw [hS0d]; exact castTop (ef_204 m (0 : Int32) p0 p1 p2) (Steps.refl _)
  obtain ⟨T_1, h_2, k_3, X_4, e_5, E_6, A_7, st_8⟩ := newP (aty := .char) X0 hx hZ (w8 hw) e0 (g := (mkF m 5 #[.val (.int (0 : Int32)), .val (.int p0), .val (.int p1), .val (.int p2)] [(.int (0 : Int32))])) rfl (hb hby d9_5) rfl (by decide : ¬ ((0 : Int32) < (0 : Int32))) (cap := 0) (by decide : (0 : Int32).toNatClampNeg ≤ 0) (by decide) (by decide) (by decide)
  obtain ⟨a_9, g_10⟩ : ∃ z, z = h0.size := ⟨_, rfl⟩
  rw [← g_10] at A_7 st_8
  have V_12 : Arv Z h_2 a_9 k_3 .char (0 : Int32) [] (.int (0 : Int32)) := Arv.new A_7 (by decide : ¬ ((0 : Int32) < (0 : Int32)))
  have C_13 : Steps p.tables e below S0 (T_1.setTop (mkF m 7 #[.val (.int (0 : Int32)), .val (.int p0), .val (.int p1), .val (.int p2)] [(.ref a_9)])) := by
    refine C0.trans ?_
    refine XS.iloadN X0.here hx rfl (hb hby d9_0) rfl ?_
    refine XS.ifNo X0.here hx rfl (hb hby d9_1) rfl (by decide) ?_
    refine XS.iconst X0.here hx rfl (hb hby d9_4) ?_
    refine st_8 _ ?_
    exact Steps.refl _
  have K_14 : Keep h0 h_2 [] := ((Keep.refl _ _).ext E_6)
  obtain ⟨fs, hr, hrun, hended, hW, hsame⟩ := X_4.leave (v := some (.ref a_9)) (fun h => by rw [Bd.returns] at h; cases h)
  refine ⟨_, _, C_13.trans (retOut X_4 hx Bd.returns rfl (Or.inr (Or.inr (Or.inr (Or.inr ⟨rfl, rfl, rfl⟩)))) (hb hby d9_7) hr), hrun, hended, _, _, rfl, ?_, ⟨_, rfl⟩, hW, hsame.mono (by decide) (by decide)⟩
  show Q_mk_0 Z G1 kF kA p0 p1 p2 h0 n0 (some (.ref a_9)) T_1.heap _
  rw [e_5]
  exact ⟨a_9, k_3, rfl, N0, K_14, (Nat.le_trans (Nat.le_refl _) (Nat.le_of_eq g_10.symm)), V_12⟩
theorem d9_8 : decode method_3_code 8 = .ok (.iload_n 0, 1) := by decide +kernel
theorem d9_9 : decode method_3_code 9 = .ok (.iconst 1, 1) := by decide +kernel
theorem d9_10 : decode method_3_code 10 = .ok (.if_icmp .ne 16, 3) := by decide +kernel
theorem d9_13 : decode method_3_code 13 = .ok (.iconst 1, 1) := by decide +kernel
theorem d9_14 : decode method_3_code 14 = .ok (.newarray .char, 2) := by decide +kernel
theorem d9_16 : decode method_3_code 16 = .ok (.dup, 1) := by decide +kernel
theorem d9_17 : decode method_3_code 17 = .ok (.iconst 0, 1) := by decide +kernel
theorem d9_18 : decode method_3_code 18 = .ok (.iload_n 1, 1) := by decide +kernel
theorem d9_19 : decode method_3_code 19 = .ok (.sipush 255, 3) := by decide +kernel
theorem d9_22 : decode method_3_code 22 = .ok (.iand, 1) := by decide +kernel
theorem d9_23 : decode method_3_code 23 = .ok (.i2c, 1) := by decide +kernel
theorem d9_24 : decode method_3_code 24 = .ok (.castore, 1) := by decide +kernel
theorem d9_25 : decode method_3_code 25 = .ok (.areturn, 1) := by decide +kernel
abbrev R_mk_1 : Room := { frames := 0, cells := 1, slots := 1, locals := 0 }
def Q_mk_1 (Z : State) (G1 : Int32) (kF : Addr) (kA : Addr) (p0 : Int32) (p1 : Int32) (p2 : Int32) (h0 : Heap) (n0 : Nat) (v : Option Value) (h : Heap) (L : List Loc) : Prop := (∃ a : Addr, ∃ k : ClassId, v = some (.ref a) ∧ Fr n0 L ∧ Keep h0 h [] ∧ (h0.size ≤ a) ∧ (Arv Z h a k .char (1 : Int32) [(.int (own_ch p0))] (.int (0 : Int32))))
set_option maxRecDepth 65536 in
set_option maxHeartbeats 40000000 in
theorem rm_mk_1 (l : Launch) (Z : State) (a0 : Array Value) (hw : ∀ d ∈ tables_1, d.before a0 Z = true) (ws : List Jvm.Cond) (G1 : Int32) (kF : Addr) (kA : Addr) (HG : own_G l Z a0 G1 kF kA) (h0 : Heap) (n0 : Nat) (X00 : Old Z n0 h0) (p0 : Int32) (p1 : Int32) (p2 : Int32)  :
    own_CP l Z M203 method_3_code 4 (some (.array .char)) ws R_mk_1 #[(.int (1 : Int32)), (.int p0), (.int p1), (.int p2)] h0 (Q_mk_1 Z G1 kF kA p0 p1 p2 h0 n0) := by
  refine own_P (plainFor_of_name pn_205) ?_
  intro p e s m below meth c s₁ S0 Bd hZ hh hx hby hml hown hnm X0 e0 hS0d
  obtain ⟨O1, P1, O2, O3, E2, F2, NE⟩ := id HG
  have N0 := Fr.nil n0
  have C0 : Steps p.tables e below S0 (s₁.setTop (mkF m 0 #[.val (.int (1 : Int32)), .val (.int p0), .val (.int p1), .val (.int p2)] [])) := by rw [hS0d]; exact castTop (ef_204 m (1 : Int32) p0 p1 p2) (Steps.refl _)
  obtain ⟨T_1, h_2, k_3, X_4, e_5, E_6, A_7, st_8⟩ := newP (aty := .char) X0 hx hZ (w8 hw) e0 (g := (mkF m 14 #[.val (.int (1 : Int32)), .val (.int p0), .val (.int p1), .val (.int p2)] [(.int (1 : Int32))])) rfl (hb hby d9_14) rfl (by decide : ¬ ((1 : Int32) < (0 : Int32))) (cap := 1) (by decide : (1 : Int32).toNatClampNeg ≤ 1) (by decide) (by decide) (by decide)
  obtain ⟨a_9, g_10⟩ : ∃ z, z = h0.size := ⟨_, rfl⟩
  rw [← g_10] at A_7 st_8
  have V_12 : Arv Z h_2 a_9 k_3 .char (1 : Int32) [] (.int (0 : Int32)) := Arv.new A_7 (by decide : ¬ ((1 : Int32) < (0 : Int32)))
  have V_11 : Arv Z h_2 a_9 k_3 .char (1 : Int32) [(.int (0 : Int32))] (.int (0 : Int32)) := (V_12.pad (pad_rep [] (.int (0 : Int32)) 1))
  obtain ⟨c_13, A_14, q_15, S_16, M_17, H_18, U_19⟩ := id V_11
  have hin_26 : ¬ ((0 : Int32) < 0 ∨ c_13.slots.size ≤ (0 : Int32).toNatClampNeg) := inb_of S_16 ⟨(by decide : ¬ ((0 : Int32) < (0 : Int32))), (by decide : (0 : Int32) < (1 : Int32))⟩
  obtain ⟨T_20, h_21, X_22, e_23, W_24, st_25⟩ := stC X_4 hx hZ e_5 A_14 (j := (0 : Int32)) hin_26 (g := (mkF m 24 #[.val (.int (1 : Int32)), .val (.int p0), .val (.int p1), .val (.int p2)] [(.int ((p0 &&& (255 : Int32)).toUInt32.toUInt16.toUInt32.toInt32)), (.int (0 : Int32)), (.ref a_9), (.ref a_9)])) rfl rfl (hb hby d9_24)
  have N_27 := Fr.snoc X_22 N0 (Nat.le_trans (own_n0 X00) (Nat.le_of_eq g_10.symm))
  have V_28 : Arv Z h_21 a_9 k_3 .char (1 : Int32) [(.int (own_ch p0))] (.int (0 : Int32)) := Arv.set A_14 q_15 S_16 M_17 H_18 U_19 (fits_nar_char _) W_24 0 rfl (Nat.le_of_ble_eq_true rfl)
  have C_29 : Steps p.tables e below S0 (T_20.setTop (mkF m 25 #[.val (.int (1 : Int32)), .val (.int p0), .val (.int p1), .val (.int p2)] [(.ref a_9)])) := by
    refine C0.trans ?_
    refine XS.iloadN X0.here hx rfl (hb hby d9_0) rfl ?_
    refine XS.ifYes X0.here hx rfl (pc0 := 1) (pc' := 8) rfl (hb hby d9_1) rfl (by decide) (by decide) (by decide) ?_
    refine XS.iloadN X0.here hx rfl (hb hby d9_8) rfl ?_
    refine XS.iconst X0.here hx rfl (hb hby d9_9) ?_
    refine XS.icmpNo X0.here hx rfl (hb hby d9_10) rfl (by decide) ?_
    refine XS.iconst X0.here hx rfl (hb hby d9_13) ?_
    refine st_8 _ ?_
    refine XS.dup X_4.here hx rfl (hb hby d9_16) rfl rfl ?_
    show Steps p.tables e below (T_1.setTop (mkF m 17 #[.val (.int (1 : Int32)), .val (.int p0), .val (.int p1), .val (.int p2)] [(.ref a_9), (.ref a_9)])) _
    refine XS.iconst X_4.here hx rfl (hb hby d9_17) ?_
    refine XS.iloadN X_4.here hx rfl (hb hby d9_18) rfl ?_
    refine XS.sipush X_4.here hx rfl (hb hby d9_19) ?_
    refine XS.iand X_4.here hx rfl (hb hby d9_22) rfl ?_
    refine XS.i2c X_4.here hx rfl (hb hby d9_23) rfl ?_
    refine st_25 _ ?_
    exact Steps.refl _
  have K_30 : Keep h0 h_21 [] := (((Keep.refl _ _).ext E_6).wr W_24 (Or.inr (Nat.le_trans (Nat.le_refl _) (Nat.le_of_eq g_10.symm))))
  obtain ⟨fs, hr, hrun, hended, hW, hsame⟩ := X_22.leave (v := some (.ref a_9)) (fun h => by rw [Bd.returns] at h; cases h)
  refine ⟨_, _, C_29.trans (retOut X_22 hx Bd.returns rfl (Or.inr (Or.inr (Or.inr (Or.inr ⟨rfl, rfl, rfl⟩)))) (hb hby d9_25) hr), hrun, hended, _, _, rfl, ?_, ⟨_, rfl⟩, hW, hsame.mono (by decide) (by decide)⟩
  show Q_mk_1 Z G1 kF kA p0 p1 p2 h0 n0 (some (.ref a_9)) T_20.heap _
  rw [e_23]
  exact ⟨a_9, k_3, rfl, N_27, K_30, (Nat.le_trans (Nat.le_refl _) (Nat.le_of_eq g_10.symm)), V_28⟩
theorem d9_26 : decode method_3_code 26 = .ok (.iload_n 0, 1) := by decide +kernel
theorem d9_27 : decode method_3_code 27 = .ok (.iconst 2, 1) := by decide +kernel
theorem d9_28 : decode method_3_code 28 = .ok (.if_icmp .ne 25, 3) := by decide +kernel
theorem d9_31 : decode method_3_code 31 = .ok (.iconst 2, 1) := by decide +kernel
theorem d9_32 : decode method_3_code 32 = .ok (.newarray .char, 2) := by decide +kernel
theorem d9_34 : decode method_3_code 34 = .ok (.dup, 1) := by decide +kernel
theorem d9_35 : decode method_3_code 35 = .ok (.iconst 0, 1) := by decide +kernel
theorem d9_36 : decode method_3_code 36 = .ok (.iload_n 1, 1) := by decide +kernel
theorem d9_37 : decode method_3_code 37 = .ok (.sipush 255, 3) := by decide +kernel
theorem d9_40 : decode method_3_code 40 = .ok (.iand, 1) := by decide +kernel
theorem d9_41 : decode method_3_code 41 = .ok (.i2c, 1) := by decide +kernel
theorem d9_42 : decode method_3_code 42 = .ok (.castore, 1) := by decide +kernel
theorem d9_43 : decode method_3_code 43 = .ok (.dup, 1) := by decide +kernel
theorem d9_44 : decode method_3_code 44 = .ok (.iconst 1, 1) := by decide +kernel
theorem d9_45 : decode method_3_code 45 = .ok (.iload_n 2, 1) := by decide +kernel
theorem d9_46 : decode method_3_code 46 = .ok (.sipush 255, 3) := by decide +kernel
theorem d9_49 : decode method_3_code 49 = .ok (.iand, 1) := by decide +kernel
theorem d9_50 : decode method_3_code 50 = .ok (.i2c, 1) := by decide +kernel
theorem d9_51 : decode method_3_code 51 = .ok (.castore, 1) := by decide +kernel
theorem d9_52 : decode method_3_code 52 = .ok (.areturn, 1) := by decide +kernel
abbrev R_mk_2 : Room := { frames := 0, cells := 1, slots := 2, locals := 0 }
def Q_mk_2 (Z : State) (G1 : Int32) (kF : Addr) (kA : Addr) (p0 : Int32) (p1 : Int32) (p2 : Int32) (h0 : Heap) (n0 : Nat) (v : Option Value) (h : Heap) (L : List Loc) : Prop := (∃ a : Addr, ∃ k : ClassId, v = some (.ref a) ∧ Fr n0 L ∧ Keep h0 h [] ∧ (h0.size ≤ a) ∧ (Arv Z h a k .char (2 : Int32) [(.int (own_ch p0)), (.int (own_ch p1))] (.int (0 : Int32))))
set_option maxRecDepth 65536 in
set_option maxHeartbeats 40000000 in
theorem rm_mk_2 (l : Launch) (Z : State) (a0 : Array Value) (hw : ∀ d ∈ tables_1, d.before a0 Z = true) (ws : List Jvm.Cond) (G1 : Int32) (kF : Addr) (kA : Addr) (HG : own_G l Z a0 G1 kF kA) (h0 : Heap) (n0 : Nat) (X00 : Old Z n0 h0) (p0 : Int32) (p1 : Int32) (p2 : Int32)  :
    own_CP l Z M203 method_3_code 4 (some (.array .char)) ws R_mk_2 #[(.int (2 : Int32)), (.int p0), (.int p1), (.int p2)] h0 (Q_mk_2 Z G1 kF kA p0 p1 p2 h0 n0) := by
  refine own_P (plainFor_of_name pn_205) ?_
  intro p e s m below meth c s₁ S0 Bd hZ hh hx hby hml hown hnm X0 e0 hS0d
  obtain ⟨O1, P1, O2, O3, E2, F2, NE⟩ := id HG
  have N0 := Fr.nil n0
  have C0 : Steps p.tables e below S0 (s₁.setTop (mkF m 0 #[.val (.int (2 : Int32)), .val (.int p0), .val (.int p1), .val (.int p2)] [])) := by rw [hS0d]; exact castTop (ef_204 m (2 : Int32) p0 p1 p2) (Steps.refl _)
  obtain ⟨T_1, h_2, k_3, X_4, e_5, E_6, A_7, st_8⟩ := newP (aty := .char) X0 hx hZ (w8 hw) e0 (g := (mkF m 32 #[.val (.int (2 : Int32)), .val (.int p0), .val (.int p1), .val (.int p2)] [(.int (2 : Int32))])) rfl (hb hby d9_32) rfl (by decide : ¬ ((2 : Int32) < (0 : Int32))) (cap := 2) (by decide : (2 : Int32).toNatClampNeg ≤ 2) (by decide) (by decide) (by decide)
  obtain ⟨a_9, g_10⟩ : ∃ z, z = h0.size := ⟨_, rfl⟩
  rw [← g_10] at A_7 st_8
  have V_12 : Arv Z h_2 a_9 k_3 .char (2 : Int32) [] (.int (0 : Int32)) := Arv.new A_7 (by decide : ¬ ((2 : Int32) < (0 : Int32)))
  have V_11 : Arv Z h_2 a_9 k_3 .char (2 : Int32) [(.int (0 : Int32)), (.int (0 : Int32))] (.int (0 : Int32)) := (V_12.pad (pad_rep [] (.int (0 : Int32)) 2))
  obtain ⟨c_13, A_14, q_15, S_16, M_17, H_18, U_19⟩ := id V_11
  have hin_26 : ¬ ((0 : Int32) < 0 ∨ c_13.slots.size ≤ (0 : Int32).toNatClampNeg) := inb_of S_16 ⟨(by decide : ¬ ((0 : Int32) < (0 : Int32))), (by decide : (0 : Int32) < (2 : Int32))⟩
  obtain ⟨T_20, h_21, X_22, e_23, W_24, st_25⟩ := stC X_4 hx hZ e_5 A_14 (j := (0 : Int32)) hin_26 (g := (mkF m 42 #[.val (.int (2 : Int32)), .val (.int p0), .val (.int p1), .val (.int p2)] [(.int ((p0 &&& (255 : Int32)).toUInt32.toUInt16.toUInt32.toInt32)), (.int (0 : Int32)), (.ref a_9), (.ref a_9)])) rfl rfl (hb hby d9_42)
  have N_27 := Fr.snoc X_22 N0 (Nat.le_trans (own_n0 X00) (Nat.le_of_eq g_10.symm))
  have V_28 : Arv Z h_21 a_9 k_3 .char (2 : Int32) [(.int (own_ch p0)), (.int (0 : Int32))] (.int (0 : Int32)) := Arv.set A_14 q_15 S_16 M_17 H_18 U_19 (fits_nar_char _) W_24 0 rfl (Nat.le_of_ble_eq_true rfl)
  obtain ⟨c_29, A_30, q_31, S_32, M_33, H_34, U_35⟩ := id V_28
  have hin_42 : ¬ ((1 : Int32) < 0 ∨ c_29.slots.size ≤ (1 : Int32).toNatClampNeg) := inb_of S_32 ⟨(by decide : ¬ ((1 : Int32) < (0 : Int32))), (by decide : (1 : Int32) < (2 : Int32))⟩
  obtain ⟨T_36, h_37, X_38, e_39, W_40, st_41⟩ := stC X_22 hx hZ e_23 A_30 (j := (1 : Int32)) hin_42 (g := (mkF m 51 #[.val (.int (2 : Int32)), .val (.int p0), .val (.int p1), .val (.int p2)] [(.int ((p1 &&& (255 : Int32)).toUInt32.toUInt16.toUInt32.toInt32)), (.int (1 : Int32)), (.ref a_9), (.ref a_9)])) rfl rfl (hb hby d9_51)
  have N_43 := Fr.snoc X_38 N_27 (Nat.le_trans (own_n0 X00) (Nat.le_of_eq g_10.symm))
  have V_44 : Arv Z h_37 a_9 k_3 .char (2 : Int32) [(.int (own_ch p0)), (.int (own_ch p1))] (.int (0 : Int32)) := Arv.set A_30 q_31 S_32 M_33 H_34 U_35 (fits_nar_char _) W_40 1 rfl (Nat.le_of_ble_eq_true rfl)
  have C_45 : Steps p.tables e below S0 (T_36.setTop (mkF m 52 #[.val (.int (2 : Int32)), .val (.int p0), .val (.int p1), .val (.int p2)] [(.ref a_9)])) := by
    refine C0.trans ?_
    refine XS.iloadN X0.here hx rfl (hb hby d9_0) rfl ?_
    refine XS.ifYes X0.here hx rfl (pc0 := 1) (pc' := 8) rfl (hb hby d9_1) rfl (by decide) (by decide) (by decide) ?_
    refine XS.iloadN X0.here hx rfl (hb hby d9_8) rfl ?_
    refine XS.iconst X0.here hx rfl (hb hby d9_9) ?_
    refine XS.icmpYes X0.here hx rfl (pc0 := 10) (pc' := 26) rfl (hb hby d9_10) rfl (by decide) (by decide) (by decide) ?_
    refine XS.iloadN X0.here hx rfl (hb hby d9_26) rfl ?_
    refine XS.iconst X0.here hx rfl (hb hby d9_27) ?_
    refine XS.icmpNo X0.here hx rfl (hb hby d9_28) rfl (by decide) ?_
    show Steps p.tables e below (s₁.setTop (mkF m 31 #[.val (.int (2 : Int32)), .val (.int p0), .val (.int p1), .val (.int p2)] [])) _
    refine XS.iconst X0.here hx rfl (hb hby d9_31) ?_
    refine st_8 _ ?_
    refine XS.dup X_4.here hx rfl (hb hby d9_34) rfl rfl ?_
    refine XS.iconst X_4.here hx rfl (hb hby d9_35) ?_
    refine XS.iloadN X_4.here hx rfl (hb hby d9_36) rfl ?_
    refine XS.sipush X_4.here hx rfl (hb hby d9_37) ?_
    refine XS.iand X_4.here hx rfl (hb hby d9_40) rfl ?_
    refine XS.i2c X_4.here hx rfl (hb hby d9_41) rfl ?_
    show Steps p.tables e below (T_1.setTop (mkF m 42 #[.val (.int (2 : Int32)), .val (.int p0), .val (.int p1), .val (.int p2)] [(.int ((p0 &&& (255 : Int32)).toUInt32.toUInt16.toUInt32.toInt32)), (.int (0 : Int32)), (.ref a_9), (.ref a_9)])) _
    refine st_25 _ ?_
    refine XS.dup X_22.here hx rfl (hb hby d9_43) rfl rfl ?_
    refine XS.iconst X_22.here hx rfl (hb hby d9_44) ?_
    refine XS.iloadN X_22.here hx rfl (hb hby d9_45) rfl ?_
    refine XS.sipush X_22.here hx rfl (hb hby d9_46) ?_
    refine XS.iand X_22.here hx rfl (hb hby d9_49) rfl ?_
    refine XS.i2c X_22.here hx rfl (hb hby d9_50) rfl ?_
    refine st_41 _ ?_
    show Steps p.tables e below (T_36.setTop (mkF m 52 #[.val (.int (2 : Int32)), .val (.int p0), .val (.int p1), .val (.int p2)] [(.ref a_9)])) _
    exact Steps.refl _
  have K_46 : Keep h0 h_37 [] := ((((Keep.refl _ _).ext E_6).wr W_24 (Or.inr (Nat.le_trans (Nat.le_refl _) (Nat.le_of_eq g_10.symm)))).wr W_40 (Or.inr (Nat.le_trans (Nat.le_refl _) (Nat.le_of_eq g_10.symm))))
  obtain ⟨fs, hr, hrun, hended, hW, hsame⟩ := X_38.leave (v := some (.ref a_9)) (fun h => by rw [Bd.returns] at h; cases h)
  refine ⟨_, _, C_45.trans (retOut X_38 hx Bd.returns rfl (Or.inr (Or.inr (Or.inr (Or.inr ⟨rfl, rfl, rfl⟩)))) (hb hby d9_52) hr), hrun, hended, _, _, rfl, ?_, ⟨_, rfl⟩, hW, hsame.mono (by decide) (by decide)⟩
  show Q_mk_2 Z G1 kF kA p0 p1 p2 h0 n0 (some (.ref a_9)) T_36.heap _
  rw [e_39]
  exact ⟨a_9, k_3, rfl, N_43, K_46, (Nat.le_trans (Nat.le_refl _) (Nat.le_of_eq g_10.symm)), V_44⟩
theorem d9_53 : decode method_3_code 53 = .ok (.iconst 3, 1) := by decide +kernel
theorem d9_54 : decode method_3_code 54 = .ok (.newarray .char, 2) := by decide +kernel
theorem d9_56 : decode method_3_code 56 = .ok (.dup, 1) := by decide +kernel
theorem d9_57 : decode method_3_code 57 = .ok (.iconst 0, 1) := by decide +kernel
theorem d9_58 : decode method_3_code 58 = .ok (.iload_n 1, 1) := by decide +kernel
theorem d9_59 : decode method_3_code 59 = .ok (.sipush 255, 3) := by decide +kernel
theorem d9_62 : decode method_3_code 62 = .ok (.iand, 1) := by decide +kernel
theorem d9_63 : decode method_3_code 63 = .ok (.i2c, 1) := by decide +kernel
theorem d9_64 : decode method_3_code 64 = .ok (.castore, 1) := by decide +kernel
theorem d9_65 : decode method_3_code 65 = .ok (.dup, 1) := by decide +kernel
theorem d9_66 : decode method_3_code 66 = .ok (.iconst 1, 1) := by decide +kernel
theorem d9_67 : decode method_3_code 67 = .ok (.iload_n 2, 1) := by decide +kernel
theorem d9_68 : decode method_3_code 68 = .ok (.sipush 255, 3) := by decide +kernel
theorem d9_71 : decode method_3_code 71 = .ok (.iand, 1) := by decide +kernel
theorem d9_72 : decode method_3_code 72 = .ok (.i2c, 1) := by decide +kernel
theorem d9_73 : decode method_3_code 73 = .ok (.castore, 1) := by decide +kernel
theorem d9_74 : decode method_3_code 74 = .ok (.dup, 1) := by decide +kernel
theorem d9_75 : decode method_3_code 75 = .ok (.iconst 2, 1) := by decide +kernel
theorem d9_76 : decode method_3_code 76 = .ok (.iload_n 3, 1) := by decide +kernel
theorem d9_77 : decode method_3_code 77 = .ok (.sipush 255, 3) := by decide +kernel
theorem d9_80 : decode method_3_code 80 = .ok (.iand, 1) := by decide +kernel
theorem d9_81 : decode method_3_code 81 = .ok (.i2c, 1) := by decide +kernel
theorem d9_82 : decode method_3_code 82 = .ok (.castore, 1) := by decide +kernel
theorem d9_83 : decode method_3_code 83 = .ok (.areturn, 1) := by decide +kernel
abbrev R_mk_3 : Room := { frames := 0, cells := 1, slots := 3, locals := 0 }
def Q_mk_3 (Z : State) (G1 : Int32) (kF : Addr) (kA : Addr) (p0 : Int32) (p1 : Int32) (p2 : Int32) (h0 : Heap) (n0 : Nat) (v : Option Value) (h : Heap) (L : List Loc) : Prop := (∃ a : Addr, ∃ k : ClassId, v = some (.ref a) ∧ Fr n0 L ∧ Keep h0 h [] ∧ (h0.size ≤ a) ∧ (Arv Z h a k .char (3 : Int32) [(.int (own_ch p0)), (.int (own_ch p1)), (.int (own_ch p2))] (.int (0 : Int32))))
set_option maxRecDepth 65536 in
set_option maxHeartbeats 40000000 in
theorem rm_mk_3 (l : Launch) (Z : State) (a0 : Array Value) (hw : ∀ d ∈ tables_1, d.before a0 Z = true) (ws : List Jvm.Cond) (G1 : Int32) (kF : Addr) (kA : Addr) (HG : own_G l Z a0 G1 kF kA) (h0 : Heap) (n0 : Nat) (X00 : Old Z n0 h0) (p0 : Int32) (p1 : Int32) (p2 : Int32)  :
    own_CP l Z M203 method_3_code 4 (some (.array .char)) ws R_mk_3 #[(.int (3 : Int32)), (.int p0), (.int p1), (.int p2)] h0 (Q_mk_3 Z G1 kF kA p0 p1 p2 h0 n0) := by
  refine own_P (plainFor_of_name pn_205) ?_
  intro p e s m below meth c s₁ S0 Bd hZ hh hx hby hml hown hnm X0 e0 hS0d
  obtain ⟨O1, P1, O2, O3, E2, F2, NE⟩ := id HG
  have N0 := Fr.nil n0
  have C0 : Steps p.tables e below S0 (s₁.setTop (mkF m 0 #[.val (.int (3 : Int32)), .val (.int p0), .val (.int p1), .val (.int p2)] [])) := by rw [hS0d]; exact castTop (ef_204 m (3 : Int32) p0 p1 p2) (Steps.refl _)
  obtain ⟨T_1, h_2, k_3, X_4, e_5, E_6, A_7, st_8⟩ := newP (aty := .char) X0 hx hZ (w8 hw) e0 (g := (mkF m 54 #[.val (.int (3 : Int32)), .val (.int p0), .val (.int p1), .val (.int p2)] [(.int (3 : Int32))])) rfl (hb hby d9_54) rfl (by decide : ¬ ((3 : Int32) < (0 : Int32))) (cap := 3) (by decide : (3 : Int32).toNatClampNeg ≤ 3) (by decide) (by decide) (by decide)
  obtain ⟨a_9, g_10⟩ : ∃ z, z = h0.size := ⟨_, rfl⟩
  rw [← g_10] at A_7 st_8
  have V_12 : Arv Z h_2 a_9 k_3 .char (3 : Int32) [] (.int (0 : Int32)) := Arv.new A_7 (by decide : ¬ ((3 : Int32) < (0 : Int32)))
  have V_11 : Arv Z h_2 a_9 k_3 .char (3 : Int32) [(.int (0 : Int32)), (.int (0 : Int32)), (.int (0 : Int32))] (.int (0 : Int32)) := (V_12.pad (pad_rep [] (.int (0 : Int32)) 3))
  obtain ⟨c_13, A_14, q_15, S_16, M_17, H_18, U_19⟩ := id V_11
  have hin_26 : ¬ ((0 : Int32) < 0 ∨ c_13.slots.size ≤ (0 : Int32).toNatClampNeg) := inb_of S_16 ⟨(by decide : ¬ ((0 : Int32) < (0 : Int32))), (by decide : (0 : Int32) < (3 : Int32))⟩
  obtain ⟨T_20, h_21, X_22, e_23, W_24, st_25⟩ := stC X_4 hx hZ e_5 A_14 (j := (0 : Int32)) hin_26 (g := (mkF m 64 #[.val (.int (3 : Int32)), .val (.int p0), .val (.int p1), .val (.int p2)] [(.int ((p0 &&& (255 : Int32)).toUInt32.toUInt16.toUInt32.toInt32)), (.int (0 : Int32)), (.ref a_9), (.ref a_9)])) rfl rfl (hb hby d9_64)
  have N_27 := Fr.snoc X_22 N0 (Nat.le_trans (own_n0 X00) (Nat.le_of_eq g_10.symm))
  have V_28 : Arv Z h_21 a_9 k_3 .char (3 : Int32) [(.int (own_ch p0)), (.int (0 : Int32)), (.int (0 : Int32))] (.int (0 : Int32)) := Arv.set A_14 q_15 S_16 M_17 H_18 U_19 (fits_nar_char _) W_24 0 rfl (Nat.le_of_ble_eq_true rfl)
  obtain ⟨c_29, A_30, q_31, S_32, M_33, H_34, U_35⟩ := id V_28
  have hin_42 : ¬ ((1 : Int32) < 0 ∨ c_29.slots.size ≤ (1 : Int32).toNatClampNeg) := inb_of S_32 ⟨(by decide : ¬ ((1 : Int32) < (0 : Int32))), (by decide : (1 : Int32) < (3 : Int32))⟩
  obtain ⟨T_36, h_37, X_38, e_39, W_40, st_41⟩ := stC X_22 hx hZ e_23 A_30 (j := (1 : Int32)) hin_42 (g := (mkF m 73 #[.val (.int (3 : Int32)), .val (.int p0), .val (.int p1), .val (.int p2)] [(.int ((p1 &&& (255 : Int32)).toUInt32.toUInt16.toUInt32.toInt32)), (.int (1 : Int32)), (.ref a_9), (.ref a_9)])) rfl rfl (hb hby d9_73)
  have N_43 := Fr.snoc X_38 N_27 (Nat.le_trans (own_n0 X00) (Nat.le_of_eq g_10.symm))
  have V_44 : Arv Z h_37 a_9 k_3 .char (3 : Int32) [(.int (own_ch p0)), (.int (own_ch p1)), (.int (0 : Int32))] (.int (0 : Int32)) := Arv.set A_30 q_31 S_32 M_33 H_34 U_35 (fits_nar_char _) W_40 1 rfl (Nat.le_of_ble_eq_true rfl)
  obtain ⟨c_45, A_46, q_47, S_48, M_49, H_50, U_51⟩ := id V_44
  have hin_58 : ¬ ((2 : Int32) < 0 ∨ c_45.slots.size ≤ (2 : Int32).toNatClampNeg) := inb_of S_48 ⟨(by decide : ¬ ((2 : Int32) < (0 : Int32))), (by decide : (2 : Int32) < (3 : Int32))⟩
  obtain ⟨T_52, h_53, X_54, e_55, W_56, st_57⟩ := stC X_38 hx hZ e_39 A_46 (j := (2 : Int32)) hin_58 (g := (mkF m 82 #[.val (.int (3 : Int32)), .val (.int p0), .val (.int p1), .val (.int p2)] [(.int ((p2 &&& (255 : Int32)).toUInt32.toUInt16.toUInt32.toInt32)), (.int (2 : Int32)), (.ref a_9), (.ref a_9)])) rfl rfl (hb hby d9_82)
  have N_59 := Fr.snoc X_54 N_43 (Nat.le_trans (own_n0 X00) (Nat.le_of_eq g_10.symm))
  have V_60 : Arv Z h_53 a_9 k_3 .char (3 : Int32) [(.int (own_ch p0)), (.int (own_ch p1)), (.int (own_ch p2))] (.int (0 : Int32)) := Arv.set A_46 q_47 S_48 M_49 H_50 U_51 (fits_nar_char _) W_56 2 rfl (Nat.le_of_ble_eq_true rfl)
  have C_61 : Steps p.tables e below S0 (T_52.setTop (mkF m 83 #[.val (.int (3 : Int32)), .val (.int p0), .val (.int p1), .val (.int p2)] [(.ref a_9)])) := by
    refine C0.trans ?_
    refine XS.iloadN X0.here hx rfl (hb hby d9_0) rfl ?_
    refine XS.ifYes X0.here hx rfl (pc0 := 1) (pc' := 8) rfl (hb hby d9_1) rfl (by decide) (by decide) (by decide) ?_
    refine XS.iloadN X0.here hx rfl (hb hby d9_8) rfl ?_
    refine XS.iconst X0.here hx rfl (hb hby d9_9) ?_
    refine XS.icmpYes X0.here hx rfl (pc0 := 10) (pc' := 26) rfl (hb hby d9_10) rfl (by decide) (by decide) (by decide) ?_
    refine XS.iloadN X0.here hx rfl (hb hby d9_26) rfl ?_
    refine XS.iconst X0.here hx rfl (hb hby d9_27) ?_
    refine XS.icmpYes X0.here hx rfl (pc0 := 28) (pc' := 53) rfl (hb hby d9_28) rfl (by decide) (by decide) (by decide) ?_
    show Steps p.tables e below (s₁.setTop (mkF m 53 #[.val (.int (3 : Int32)), .val (.int p0), .val (.int p1), .val (.int p2)] [])) _
    refine XS.iconst X0.here hx rfl (hb hby d9_53) ?_
    refine st_8 _ ?_
    refine XS.dup X_4.here hx rfl (hb hby d9_56) rfl rfl ?_
    refine XS.iconst X_4.here hx rfl (hb hby d9_57) ?_
    refine XS.iloadN X_4.here hx rfl (hb hby d9_58) rfl ?_
    refine XS.sipush X_4.here hx rfl (hb hby d9_59) ?_
    refine XS.iand X_4.here hx rfl (hb hby d9_62) rfl ?_
    refine XS.i2c X_4.here hx rfl (hb hby d9_63) rfl ?_
    show Steps p.tables e below (T_1.setTop (mkF m 64 #[.val (.int (3 : Int32)), .val (.int p0), .val (.int p1), .val (.int p2)] [(.int ((p0 &&& (255 : Int32)).toUInt32.toUInt16.toUInt32.toInt32)), (.int (0 : Int32)), (.ref a_9), (.ref a_9)])) _
    refine st_25 _ ?_
    refine XS.dup X_22.here hx rfl (hb hby d9_65) rfl rfl ?_
    refine XS.iconst X_22.here hx rfl (hb hby d9_66) ?_
    refine XS.iloadN X_22.here hx rfl (hb hby d9_67) rfl ?_
    refine XS.sipush X_22.here hx rfl (hb hby d9_68) ?_
    refine XS.iand X_22.here hx rfl (hb hby d9_71) rfl ?_
    refine XS.i2c X_22.here hx rfl (hb hby d9_72) rfl ?_
    refine st_41 _ ?_
    show Steps p.tables e below (T_36.setTop (mkF m 74 #[.val (.int (3 : Int32)), .val (.int p0), .val (.int p1), .val (.int p2)] [(.ref a_9)])) _
    refine XS.dup X_38.here hx rfl (hb hby d9_74) rfl rfl ?_
    refine XS.iconst X_38.here hx rfl (hb hby d9_75) ?_
    refine XS.iloadN X_38.here hx rfl (hb hby d9_76) rfl ?_
    refine XS.sipush X_38.here hx rfl (hb hby d9_77) ?_
    refine XS.iand X_38.here hx rfl (hb hby d9_80) rfl ?_
    refine XS.i2c X_38.here hx rfl (hb hby d9_81) rfl ?_
    refine st_57 _ ?_
    exact Steps.refl _
  have K_62 : Keep h0 h_53 [] := (((((Keep.refl _ _).ext E_6).wr W_24 (Or.inr (Nat.le_trans (Nat.le_refl _) (Nat.le_of_eq g_10.symm)))).wr W_40 (Or.inr (Nat.le_trans (Nat.le_refl _) (Nat.le_of_eq g_10.symm)))).wr W_56 (Or.inr (Nat.le_trans (Nat.le_refl _) (Nat.le_of_eq g_10.symm))))
  obtain ⟨fs, hr, hrun, hended, hW, hsame⟩ := X_54.leave (v := some (.ref a_9)) (fun h => by rw [Bd.returns] at h; cases h)
  refine ⟨_, _, C_61.trans (retOut X_54 hx Bd.returns rfl (Or.inr (Or.inr (Or.inr (Or.inr ⟨rfl, rfl, rfl⟩)))) (hb hby d9_83) hr), hrun, hended, _, _, rfl, ?_, ⟨_, rfl⟩, hW, hsame.mono (by decide) (by decide)⟩
  show Q_mk_3 Z G1 kF kA p0 p1 p2 h0 n0 (some (.ref a_9)) T_52.heap _
  rw [e_55]
  exact ⟨a_9, k_3, rfl, N_59, K_62, (Nat.le_trans (Nat.le_refl _) (Nat.le_of_eq g_10.symm)), V_60⟩
abbrev M269 : MethodName := ⟨"com/example/claimgate/claimgate/authz/Decision", "<init>", "(Lcom/example/claimgate/claimgate/authz/Decision$Kind;Ljava/lang/String;Lcom/example/claimgate/claimgate/authz/Subject;)V"⟩
theorem ef_270 (m : MethodId) (x0 : Addr) (x1 : Addr) (x2 : Addr) : entryFrame m #[(.ref x0), (.ref x1), (.ref x2), .null] 4 = mkF m 0 #[.val (.ref x0), .val (.ref x1), .val (.ref x2), .val .null] [] := by first | (simp [entryFrame, mkF, argsToLocals, Value.category]; done) | rfl
theorem pn_271 : plainName "com/example/claimgate/claimgate/authz/Decision" = true := by first | (simp [plainName, overriddenIn]; done) | decide +kernel
theorem d10_0 : decode prog_3_method_1_code 0 = .ok (.aload_n 0, 1) := by decide +kernel
theorem w39 {Z : State} {a0 : Array Value} (hw : ∀ d ∈ tables_1, d.before a0 Z = true) : Jvm.Cond.before (Jvm.Cond.methodLink "com/example/claimgate/claimgate/authz/Decision" (1 : Nat) ({ cls := "java/lang/Object", name := "<init>", desc := "()V" } : Jvm.MethodName)) a0 Z = true := hw _ (List.mem_of_getElem? (i := 39) rfl)
theorem d10_1 : decode prog_3_method_1_code 1 = .ok (.invokespecial 1, 3) := by decide +kernel
theorem d10_4 : decode prog_3_method_1_code 4 = .ok (.aload_n 0, 1) := by decide +kernel
theorem d10_5 : decode prog_3_method_1_code 5 = .ok (.aload_n 1, 1) := by decide +kernel
theorem w40 {Z : State} {a0 : Array Value} (hw : ∀ d ∈ tables_1, d.before a0 Z = true) : Jvm.Cond.before (Jvm.Cond.fieldLink "com/example/claimgate/claimgate/authz/Decision" (7 : Nat) "com/example/claimgate/claimgate/authz/Decision" "kind" "Lcom/example/claimgate/claimgate/authz/Decision$Kind;") a0 Z = true := hw _ (List.mem_of_getElem? (i := 40) rfl)
theorem w41 {Z : State} {a0 : Array Value} (hw : ∀ d ∈ tables_1, d.before a0 Z = true) : Jvm.Cond.before (Jvm.Cond.laysFinal "com/example/claimgate/claimgate/authz/Decision" "com/example/claimgate/claimgate/authz/Decision" "kind" "Lcom/example/claimgate/claimgate/authz/Decision$Kind;") a0 Z = true := hw _ (List.mem_of_getElem? (i := 41) rfl)
theorem w32 {Z : State} {a0 : Array Value} (hw : ∀ d ∈ tables_1, d.before a0 Z = true) : Jvm.Cond.before (Jvm.Cond.instantiable "com/example/claimgate/claimgate/authz/Decision" (3 : Nat)) a0 Z = true := hw _ (List.mem_of_getElem? (i := 32) rfl)
theorem d10_6 : decode prog_3_method_1_code 6 = .ok (.putfield 7, 3) := by decide +kernel
theorem d10_9 : decode prog_3_method_1_code 9 = .ok (.aload_n 0, 1) := by decide +kernel
theorem d10_10 : decode prog_3_method_1_code 10 = .ok (.aload_n 2, 1) := by decide +kernel
theorem w42 {Z : State} {a0 : Array Value} (hw : ∀ d ∈ tables_1, d.before a0 Z = true) : Jvm.Cond.before (Jvm.Cond.fieldLink "com/example/claimgate/claimgate/authz/Decision" (13 : Nat) "com/example/claimgate/claimgate/authz/Decision" "reason" "Ljava/lang/String;") a0 Z = true := hw _ (List.mem_of_getElem? (i := 42) rfl)
theorem w43 {Z : State} {a0 : Array Value} (hw : ∀ d ∈ tables_1, d.before a0 Z = true) : Jvm.Cond.before (Jvm.Cond.laysFinal "com/example/claimgate/claimgate/authz/Decision" "com/example/claimgate/claimgate/authz/Decision" "reason" "Ljava/lang/String;") a0 Z = true := hw _ (List.mem_of_getElem? (i := 43) rfl)
theorem d10_11 : decode prog_3_method_1_code 11 = .ok (.putfield 13, 3) := by decide +kernel
theorem d10_14 : decode prog_3_method_1_code 14 = .ok (.aload_n 0, 1) := by decide +kernel
theorem d10_15 : decode prog_3_method_1_code 15 = .ok (.aload_n 3, 1) := by decide +kernel
theorem w44 {Z : State} {a0 : Array Value} (hw : ∀ d ∈ tables_1, d.before a0 Z = true) : Jvm.Cond.before (Jvm.Cond.fieldLink "com/example/claimgate/claimgate/authz/Decision" (17 : Nat) "com/example/claimgate/claimgate/authz/Decision" "subject" "Lcom/example/claimgate/claimgate/authz/Subject;") a0 Z = true := hw _ (List.mem_of_getElem? (i := 44) rfl)
theorem w45 {Z : State} {a0 : Array Value} (hw : ∀ d ∈ tables_1, d.before a0 Z = true) : Jvm.Cond.before (Jvm.Cond.laysFinal "com/example/claimgate/claimgate/authz/Decision" "com/example/claimgate/claimgate/authz/Decision" "subject" "Lcom/example/claimgate/claimgate/authz/Subject;") a0 Z = true := hw _ (List.mem_of_getElem? (i := 45) rfl)
theorem d10_16 : decode prog_3_method_1_code 16 = .ok (.putfield 17, 3) := by decide +kernel
theorem d10_19 : decode prog_3_method_1_code 19 = .ok (.return_, 1) := by decide +kernel
abbrev R_dinit : Room := { frames := 1, cells := 0, slots := 0, locals := 12 }
def Q_dinit (Z : State) (G1 : Int32) (kF : Addr) (kA : Addr) (d : Addr) (r : Addr) (h0 : Heap) (n0 : Nat) (v : Option Value) (h : Heap) (L : List Loc) : Prop := (v = none ∧ Fr n0 L ∧ Keep h0 h [d] ∧ (Fld Z h d "com/example/claimgate/claimgate/authz/Decision" "kind" "Lcom/example/claimgate/claimgate/authz/Decision$Kind;" (.ref kF)) ∧ (Fld Z h d "com/example/claimgate/claimgate/authz/Decision" "reason" "Ljava/lang/String;" (.ref r)))
set_option maxRecDepth 65536 in
set_option maxHeartbeats 40000000 in
theorem rm_dinit (l : Launch) (Z : State) (a0 : Array Value) (hw : ∀ d ∈ tables_1, d.before a0 Z = true) (ws : List Jvm.Cond) (G1 : Int32) (kF : Addr) (kA : Addr) (HG : own_G l Z a0 G1 kF kA) (h0 : Heap) (n0 : Nat) (X00 : Old Z n0 h0) (d : Addr) (r : Addr) (hp0 : Exa Z h0 d "com/example/claimgate/claimgate/authz/Decision") (hp1 : Fld Z h0 d "com/example/claimgate/claimgate/authz/Decision" "kind" "Lcom/example/claimgate/claimgate/authz/Decision$Kind;" .null) (hp2 : Fld Z h0 d "com/example/claimgate/claimgate/authz/Decision" "reason" "Ljava/lang/String;" .null) (hp3 : Fld Z h0 d "com/example/claimgate/claimgate/authz/Decision" "subject" "Lcom/example/claimgate/claimgate/authz/Subject;" .null) (hp4 : n0 ≤ d) :
    own_CP l Z M269 prog_3_method_1_code 4 none ws R_dinit #[(.ref d), (.ref kF), (.ref r), .null] h0 (Q_dinit Z G1 kF kA d r h0 n0) := by
  refine own_P (plainFor_of_name pn_271) ?_
  intro p e s m below meth c s₁ S0 Bd hZ hh hx hby hml hown hnm X0 e0 hS0d
  obtain ⟨O1, P1, O2, O3, E2, F2, NE⟩ := id HG
  have N0 := Fr.nil n0
  have C0 : Steps p.tables e below S0 (s₁.setTop (mkF m 0 #[.val (.ref d), .val (.ref kF), .val (.ref r), .val .null] [])) := by rw [hS0d]; exact castTop (ef_270 m d kF r) (Steps.refl _)
  obtain ⟨T_1, X_2, e_3, st_4⟩ := initO X0 hx hZ hown (w39 hw) (w17 hw) (w18 hw) e0 (g := (mkF m 1 #[.val (.ref d), .val (.ref kF), .val (.ref r), .val .null] [(.ref d)])) rfl (by rw [hml]; rfl) rfl (hb hby d10_1) (by decide) (W := 0) (by show 2 * 0 + _ ≤ _; exact Nat.le_of_eq rfl) (by decide)
  obtain ⟨T_5, h_6, X_7, e_8, W_9, st_10⟩ := putF X_2 hx hZ hown (host := "") (Or.inl (w40 hw)) Via.refl e_3 hp1 hp0 (Or.inr ⟨(w41 hw), rfl, hnm⟩) (w32 hw) (ty := (.object "com/example/claimgate/claimgate/authz/Decision$Kind")) (by decide) rfl rfl (g := (mkF m 6 #[.val (.ref d), .val (.ref kF), .val (.ref r), .val .null] [(.ref kF), (.ref d)])) rfl rfl (hb hby d10_6)
  have N_11 := Fr.snoc X_7 N0 hp4
  have F_12 : Fld Z h_6 d "com/example/claimgate/claimgate/authz/Decision" "kind" "Lcom/example/claimgate/claimgate/authz/Decision$Kind;" (.ref kF) := hp1.same W_9
  have F_13 : Fld Z h_6 d "com/example/claimgate/claimgate/authz/Decision" "reason" "Ljava/lang/String;" .null := (hp2.other W_9 (Or.inr (slot_ne (Or.inr (w43 hw)) (Or.inr (w41 hw)) (by decide) (t := (.object "java/lang/String")) (by decide) (t' := (.object "com/example/claimgate/claimgate/authz/Decision$Kind")) (by decide))))
  have E_14 : Exa Z h_6 d "com/example/claimgate/claimgate/authz/Decision" := (hp0.wr W_9)
  obtain ⟨T_15, h_16, X_17, e_18, W_19, st_20⟩ := putF X_7 hx hZ hown (host := "") (Or.inl (w42 hw)) Via.refl e_8 F_13 E_14 (Or.inr ⟨(w43 hw), rfl, hnm⟩) (w32 hw) (ty := (.object "java/lang/String")) (by decide) rfl rfl (g := (mkF m 11 #[.val (.ref d), .val (.ref kF), .val (.ref r), .val .null] [(.ref r), (.ref d)])) rfl rfl (hb hby d10_11)
  have N_21 := Fr.snoc X_17 N_11 hp4
  have F_22 : Fld Z h_16 d "com/example/claimgate/claimgate/authz/Decision" "reason" "Ljava/lang/String;" (.ref r) := F_13.same W_19
  have F_23 : Fld Z h_16 d "com/example/claimgate/claimgate/authz/Decision" "subject" "Lcom/example/claimgate/claimgate/authz/Subject;" .null := ((hp3.other W_9 (Or.inr (slot_ne (Or.inr (w45 hw)) (Or.inr (w41 hw)) (by decide) (t := (.object "com/example/claimgate/claimgate/authz/Subject")) (by decide) (t' := (.object "com/example/claimgate/claimgate/authz/Decision$Kind")) (by decide)))).other W_19 (Or.inr (slot_ne (Or.inr (w45 hw)) (Or.inr (w43 hw)) (by decide) (t := (.object "com/example/claimgate/claimgate/authz/Subject")) (by decide) (t' := (.object "java/lang/String")) (by decide))))
  have E_24 : Exa Z h_16 d "com/example/claimgate/claimgate/authz/Decision" := (E_14.wr W_19)
  obtain ⟨T_25, h_26, X_27, e_28, W_29, st_30⟩ := putF X_17 hx hZ hown (host := "") (Or.inl (w44 hw)) Via.refl e_18 F_23 E_24 (Or.inr ⟨(w45 hw), rfl, hnm⟩) (w32 hw) (ty := (.object "com/example/claimgate/claimgate/authz/Subject")) (by decide) rfl rfl (g := (mkF m 16 #[.val (.ref d), .val (.ref kF), .val (.ref r), .val .null] [.null, (.ref d)])) rfl rfl (hb hby d10_16)
  have N_31 := Fr.snoc X_27 N_21 hp4
  have F_32 : Fld Z h_26 d "com/example/claimgate/claimgate/authz/Decision" "subject" "Lcom/example/claimgate/claimgate/authz/Subject;" .null := F_23.same W_29
  have C_33 : Steps p.tables e below S0 (T_25.setTop (mkF m 19 #[.val (.ref d), .val (.ref kF), .val (.ref r), .val .null] [])) := by
    refine C0.trans ?_
    refine XS.aloadN X0.here hx rfl (hb hby d10_0) rfl rfl ?_
    refine st_4 _ ?_
    refine XS.aloadN X_2.here hx rfl (hb hby d10_4) rfl rfl ?_
    refine XS.aloadN X_2.here hx rfl (hb hby d10_5) rfl rfl ?_
    refine st_10 _ ?_
    refine XS.aloadN X_7.here hx rfl (hb hby d10_9) rfl rfl ?_
    refine XS.aloadN X_7.here hx rfl (hb hby d10_10) rfl rfl ?_
    refine st_20 _ ?_
    show Steps p.tables e below (T_15.setTop (mkF m 14 #[.val (.ref d), .val (.ref kF), .val (.ref r), .val .null] [])) _
    refine XS.aloadN X_17.here hx rfl (hb hby d10_14) rfl rfl ?_
    refine XS.aloadN X_17.here hx rfl (hb hby d10_15) rfl rfl ?_
    refine st_30 _ ?_
    exact Steps.refl _
  have F_34 : Fld Z h_26 d "com/example/claimgate/claimgate/authz/Decision" "kind" "Lcom/example/claimgate/claimgate/authz/Decision$Kind;" (.ref kF) := ((F_12.other W_19 (Or.inr (slot_ne (Or.inr (w41 hw)) (Or.inr (w43 hw)) (by decide) (t := (.object "com/example/claimgate/claimgate/authz/Decision$Kind")) (by decide) (t' := (.object "java/lang/String")) (by decide)))).other W_29 (Or.inr (slot_ne (Or.inr (w41 hw)) (Or.inr (w45 hw)) (by decide) (t := (.object "com/example/claimgate/claimgate/authz/Decision$Kind")) (by decide) (t' := (.object "com/example/claimgate/claimgate/authz/Subject")) (by decide))))
  have F_35 : Fld Z h_26 d "com/example/claimgate/claimgate/authz/Decision" "reason" "Ljava/lang/String;" (.ref r) := (F_22.other W_29 (Or.inr (slot_ne (Or.inr (w43 hw)) (Or.inr (w45 hw)) (by decide) (t := (.object "java/lang/String")) (by decide) (t' := (.object "com/example/claimgate/claimgate/authz/Subject")) (by decide))))
  have K_36 : Keep h0 h_26 [d] := ((((Keep.refl _ _).wr W_9 (Or.inl (List.mem_of_getElem? (i := 0) rfl))).wr W_19 (Or.inl (List.mem_of_getElem? (i := 0) rfl))).wr W_29 (Or.inl (List.mem_of_getElem? (i := 0) rfl)))
  obtain ⟨fs, hr, hrun, hended, hW, hsame⟩ := X_27.leave (v := none) (fun _ => rfl)
  refine ⟨_, _, C_33.trans (X_27.returnOut hx Bd.returns (hb hby d10_19) hr), hrun, hended, _, _, rfl, ?_, ⟨_, rfl⟩, hW, hsame.mono (by decide) (by decide)⟩
  show Q_dinit Z G1 kF kA d r h0 n0 (none) T_25.heap _
  rw [e_28]
  exact ⟨rfl, N_31, K_36, F_34, F_35⟩
abbrev M292 : MethodName := ⟨"com/example/claimgate/claimgate/authz/Decision", "forbidden", "(Ljava/lang/String;)Lcom/example/claimgate/claimgate/authz/Decision;"⟩
theorem w31 {Z : State} {a0 : Array Value} (hw : ∀ d ∈ tables_1, d.before a0 Z = true) : Jvm.Cond.before (Jvm.Cond.classLink "com/example/claimgate/claimgate/authz/Decision" (8 : Nat) "com/example/claimgate/claimgate/authz/Decision") a0 Z = true := hw _ (List.mem_of_getElem? (i := 31) rfl)
theorem w29 {Z : State} {a0 : Array Value} (hw : ∀ d ∈ tables_1, d.before a0 Z = true) : Jvm.Cond.before (Jvm.Cond.initialized "com/example/claimgate/claimgate/authz/Decision") a0 Z = true := hw _ (List.mem_of_getElem? (i := 29) rfl)
theorem d11_0 : decode prog_3_method_6_code 0 = .ok (.new 8, 3) := by decide +kernel
theorem d11_3 : decode prog_3_method_6_code 3 = .ok (.dup, 1) := by decide +kernel
theorem w33 {Z : State} {a0 : Array Value} (hw : ∀ d ∈ tables_1, d.before a0 Z = true) : Jvm.Cond.before (Jvm.Cond.fieldLink "com/example/claimgate/claimgate/authz/Decision" (50 : Nat) "com/example/claimgate/claimgate/authz/Decision$Kind" "FORBIDDEN" "Lcom/example/claimgate/claimgate/authz/Decision$Kind;") a0 Z = true := hw _ (List.mem_of_getElem? (i := 33) rfl)
theorem d11_4 : decode prog_3_method_6_code 4 = .ok (.getstatic 50, 3) := by decide +kernel
theorem d11_7 : decode prog_3_method_6_code 7 = .ok (.aload_n 0, 1) := by decide +kernel
theorem d11_8 : decode prog_3_method_6_code 8 = .ok (.aconst_null, 1) := by decide +kernel
theorem w38 {Z : State} {a0 : Array Value} (hw : ∀ d ∈ tables_1, d.before a0 Z = true) : Jvm.Cond.before (Jvm.Cond.code ({ cls := "com/example/claimgate/claimgate/authz/Decision", name := "<init>", desc := "(Lcom/example/claimgate/claimgate/authz/Decision$Kind;Ljava/lang/String;Lcom/example/claimgate/claimgate/authz/Subject;)V" } : Jvm.MethodName) prog_3_method_1_code (4 : Nat) (Option.none : Option Jvm.ClassFile.FieldType)) a0 Z = true := hw _ (List.mem_of_getElem? (i := 38) rfl)
theorem pd_302 : parseMethodDescriptor "(Lcom/example/claimgate/claimgate/authz/Decision$Kind;Ljava/lang/String;Lcom/example/claimgate/claimgate/authz/Subject;)V" = some ⟨[(.object "com/example/claimgate/claimgate/authz/Decision$Kind"), (.object "java/lang/String"), (.object "com/example/claimgate/claimgate/authz/Subject")], none⟩ := by decide +kernel
theorem d11_9 : decode prog_3_method_6_code 9 = .ok (.invokespecial 41, 3) := by decide +kernel
theorem w36 {Z : State} {a0 : Array Value} (hw : ∀ d ∈ tables_1, d.before a0 Z = true) : Jvm.Cond.before (Jvm.Cond.methodLink "com/example/claimgate/claimgate/authz/Decision" (41 : Nat) ({ cls := "com/example/claimgate/claimgate/authz/Decision", name := "<init>", desc := "(Lcom/example/claimgate/claimgate/authz/Decision$Kind;Ljava/lang/String;Lcom/example/claimgate/claimgate/authz/Subject;)V" } : Jvm.MethodName)) a0 Z = true := hw _ (List.mem_of_getElem? (i := 36) rfl)
theorem w37 {Z : State} {a0 : Array Value} (hw : ∀ d ∈ tables_1, d.before a0 Z = true) : Jvm.Cond.before (Jvm.Cond.instanceMethod ({ cls := "com/example/claimgate/claimgate/authz/Decision", name := "<init>", desc := "(Lcom/example/claimgate/claimgate/authz/Decision$Kind;Ljava/lang/String;Lcom/example/claimgate/claimgate/authz/Subject;)V" } : Jvm.MethodName)) a0 Z = true := hw _ (List.mem_of_getElem? (i := 37) rfl)
theorem d11_12 : decode prog_3_method_6_code 12 = .ok (.areturn, 1) := by decide +kernel
abbrev R_forb : Room := { frames := 2, cells := 1, slots := 3, locals := 28 }
def Q_forb (Z : State) (G1 : Int32) (kF : Addr) (kA : Addr) (r : Addr) (h0 : Heap) (n0 : Nat) (v : Option Value) (h : Heap) (L : List Loc) : Prop := (∃ d : Addr, v = some (.ref d) ∧ Fr n0 L ∧ Keep h0 h [] ∧ (h0.size ≤ d) ∧ (Exa Z h d "com/example/claimgate/claimgate/authz/Decision") ∧ (Fld Z h d "com/example/claimgate/claimgate/authz/Decision" "kind" "Lcom/example/claimgate/claimgate/authz/Decision$Kind;" (.ref kF)) ∧ (Fld Z h d "com/example/claimgate/claimgate/authz/Decision" "reason" "Ljava/lang/String;" (.ref r)))
set_option maxRecDepth 65536 in
set_option maxHeartbeats 40000000 in
theorem rm_forb (l : Launch) (Z : State) (a0 : Array Value) (hw : ∀ d ∈ tables_1, d.before a0 Z = true) (ws : List Jvm.Cond) (G1 : Int32) (kF : Addr) (kA : Addr) (HG : own_G l Z a0 G1 kF kA) (h0 : Heap) (n0 : Nat) (X00 : Old Z n0 h0) (r : Addr)  :
    own_CP l Z M292 prog_3_method_6_code 1 (some (.object "com/example/claimgate/claimgate/authz/Decision")) ws R_forb #[(.ref r)] h0 (Q_forb Z G1 kF kA r h0 n0) := by
  refine own_P (plainFor_of_name pn_271) ?_
  intro p e s m below meth c s₁ S0 Bd hZ hh hx hby hml hown hnm X0 e0 hS0d
  obtain ⟨O1, P1, O2, O3, E2, F2, NE⟩ := id HG
  have N0 := Fr.nil n0
  have C0 : Steps p.tables e below S0 (s₁.setTop (mkF m 0 #[.val (.ref r)] [])) := by rw [hS0d]; exact castTop (ef_125 m r) (Steps.refl _)
  obtain ⟨T_1, h_2, X_3, e_4, E_5, A_6, D_7, U_11, st_8⟩ := newO X0 hx hZ hown (w31 hw) (w32 hw) (w29 hw) e0 (g := (mkF m 0 #[.val (.ref r)] [])) rfl (hb hby d11_0) (by decide) (by decide)
  obtain ⟨a_9, g_10⟩ : ∃ z, z = h0.size := ⟨_, rfl⟩
  rw [← g_10] at A_6 D_7 st_8 U_11
  have O_16 : Old Z n0 h_2 := (X00.ext E_5)
  obtain ⟨T_12, X_13, e_14, st_15⟩ := getS X_3 hx hZ (host := "") hown (w33 hw) Via.refl e_4 (O2.ext O_16.2) (g := (mkF m 4 #[.val (.ref r)] [(.ref a_9), (.ref a_9)])) rfl (hb hby d11_4)
  obtain ⟨_, _, ⟨T_17, L_17, k_17, n_17⟩, -, X_17, ⟨Lc_17, hQ_17, l_17, y_17, z_17⟩, st_17⟩ := X_13.specialBack hx (y := M269) rfl hown (mvT hZ (w36 hw)) (mvT hZ (w37 hw)) (mvT hZ (w38 hw)) (by decide) (backOf (W := 1) (rm_dinit l Z a0 hw [] G1 kF kA HG h_2 n0 O_16 a_9 r A_6 (D_7 (Or.inr (w41 hw)) (ty := (.object "com/example/claimgate/claimgate/authz/Decision$Kind")) (by decide)) (D_7 (Or.inr (w43 hw)) (ty := (.object "java/lang/String")) (by decide)) (D_7 (Or.inr (w45 hw)) (ty := (.object "com/example/claimgate/claimgate/authz/Subject")) (by decide)) (Nat.le_trans (own_n0 X00) (Nat.le_of_eq g_10.symm))) hZ (w38 hw) (w29 hw) (by decide) (by decide)) (g := (mkF m 9 #[.val (.ref r)] [.null, (.ref r), (.ref kF), (.ref a_9), (.ref a_9)])) rfl (by rw [hml]; rfl) (Steps.refl _) (a := a_9) (argsL := [(.ref kF), (.ref r), .null]) (rest := [(.ref a_9)]) (lenOf pd_302 rfl) rfl (by show 2 * 0 + _ ≤ _; exact Nat.le_of_eq rfl) (hb hby d11_9) (fun _ _ => ⟨rfl, e_14, (by decide : 1 + 0 ≤ _), (by decide : 3 + 0 ≤ _)⟩)
  dsimp only [Pt.U, Pt.locs, Pt.cells, Pt.slots] at X_17 l_17 y_17 z_17 st_17 hQ_17
  subst l_17 y_17 z_17
  obtain ⟨rfl, N_18, K_19, g_20, g_21⟩ := hQ_17
  have N_22 := Fr.app N0 N_18
  have C_23 : Steps p.tables e below S0 (T_17.setTop (mkF m 12 #[.val (.ref r)] [(.ref a_9)])) := by
    refine C0.trans ?_
    refine st_8 _ ?_
    refine XS.dup X_3.here hx rfl (hb hby d11_3) rfl rfl ?_
    refine st_15 _ ?_
    refine XS.aloadN X_13.here hx rfl (hb hby d11_7) rfl rfl ?_
    refine XS.aconstNull X_13.here hx rfl (hb hby d11_8) ?_
    refine st_17.trans ?_
    exact Steps.refl _
  have E_24 : Exa Z T_17.heap a_9 "com/example/claimgate/claimgate/authz/Decision" := (A_6.keep K_19)
  have K_25 : Keep h0 T_17.heap [] := (((Keep.refl _ _).ext E_5).trans K_19 (allS (Or.inr (Nat.le_trans (Nat.le_refl _) (Nat.le_of_eq g_10.symm))) all0))
  obtain ⟨fs, hr, hrun, hended, hW, hsame⟩ := X_17.leave (v := some (.ref a_9)) (fun h => by rw [Bd.returns] at h; cases h)
  refine ⟨_, _, C_23.trans (retOut X_17 hx Bd.returns rfl (Or.inr (Or.inr (Or.inr (Or.inr ⟨rfl, rfl, rfl⟩)))) (hb hby d11_12) hr), hrun, hended, _, _, rfl, ?_, ⟨_, rfl⟩, hW, hsame.mono (by decide) (by decide)⟩
  show Q_forb Z G1 kF kA r h0 n0 (some (.ref a_9)) T_17.heap _
  exact ⟨a_9, rfl, N_22, K_25, (Nat.le_trans (Nat.le_refl _) (Nat.le_of_eq g_10.symm)), E_24, g_20, g_21⟩
abbrev M307 : MethodName := ⟨"com/example/claimgate/claimgate/authz/Decision", "reason", "()Ljava/lang/String;"⟩
theorem d12_0 : decode prog_3_method_11_code 0 = .ok (.aload_n 0, 1) := by decide +kernel
theorem d12_1 : decode prog_3_method_11_code 1 = .ok (.getfield 13, 3) := by decide +kernel
theorem d12_4 : decode prog_3_method_11_code 4 = .ok (.areturn, 1) := by decide +kernel
abbrev R_reason : Room := { frames := 0, cells := 0, slots := 0, locals := 0 }
def Q_reason (Z : State) (G1 : Int32) (kF : Addr) (kA : Addr) (d : Addr) (r : Addr) (h0 : Heap) (n0 : Nat) (v : Option Value) (h : Heap) (L : List Loc) : Prop := (v = some (.ref r) ∧ Fr n0 L ∧ h = h0)
set_option maxRecDepth 65536 in
set_option maxHeartbeats 40000000 in
theorem rm_reason (l : Launch) (Z : State) (a0 : Array Value) (hw : ∀ d ∈ tables_1, d.before a0 Z = true) (ws : List Jvm.Cond) (G1 : Int32) (kF : Addr) (kA : Addr) (HG : own_G l Z a0 G1 kF kA) (h0 : Heap) (n0 : Nat) (X00 : Old Z n0 h0) (d : Addr) (r : Addr) (hp0 : Fld Z h0 d "com/example/claimgate/claimgate/authz/Decision" "reason" "Ljava/lang/String;" (.ref r)) :
    own_CP l Z M307 prog_3_method_11_code 1 (some (.object "java/lang/String")) ws R_reason #[(.ref d)] h0 (Q_reason Z G1 kF kA d r h0 n0) := by
  refine own_P (plainFor_of_name pn_271) ?_
  intro p e s m below meth c s₁ S0 Bd hZ hh hx hby hml hown hnm X0 e0 hS0d
  obtain ⟨O1, P1, O2, O3, E2, F2, NE⟩ := id HG
  have N0 := Fr.nil n0
  have C0 : Steps p.tables e below S0 (s₁.setTop (mkF m 0 #[.val (.ref d)] [])) := by rw [hS0d]; exact castTop (ef_125 m d) (Steps.refl _)
  obtain ⟨T_1, X_2, e_3, st_4⟩ := getF X0 hx hZ hown (host := "") (Or.inl (w42 hw)) Via.refl e0 hp0 (g := (mkF m 1 #[.val (.ref d)] [(.ref d)])) rfl rfl (hb hby d12_1)
  have C_5 : Steps p.tables e below S0 (T_1.setTop (mkF m 4 #[.val (.ref d)] [(.ref r)])) := by
    refine C0.trans ?_
    refine XS.aloadN X0.here hx rfl (hb hby d12_0) rfl rfl ?_
    refine st_4 _ ?_
    exact Steps.refl _
  obtain ⟨fs, hr, hrun, hended, hW, hsame⟩ := X_2.leave (v := some (.ref r)) (fun h => by rw [Bd.returns] at h; cases h)
  refine ⟨_, _, C_5.trans (retOut X_2 hx Bd.returns rfl (Or.inr (Or.inr (Or.inr (Or.inr ⟨rfl, rfl, rfl⟩)))) (hb hby d12_4) hr), hrun, hended, _, _, rfl, ?_, ⟨_, rfl⟩, hW, hsame.mono (by decide) (by decide)⟩
  show Q_reason Z G1 kF kA d r h0 n0 (some (.ref r)) T_1.heap _
  rw [e_3]
  exact ⟨rfl, N0, rfl⟩
abbrev M311 : MethodName := ⟨"com/example/claimgate/claimgate/authz/Decision", "kind", "()Lcom/example/claimgate/claimgate/authz/Decision$Kind;"⟩
theorem d13_0 : decode prog_3_method_8_code 0 = .ok (.aload_n 0, 1) := by decide +kernel
theorem d13_1 : decode prog_3_method_8_code 1 = .ok (.getfield 7, 3) := by decide +kernel
theorem d13_4 : decode prog_3_method_8_code 4 = .ok (.areturn, 1) := by decide +kernel
abbrev R_kind : Room := { frames := 0, cells := 0, slots := 0, locals := 0 }
def Q_kind (Z : State) (G1 : Int32) (kF : Addr) (kA : Addr) (d : Addr) (h0 : Heap) (n0 : Nat) (v : Option Value) (h : Heap) (L : List Loc) : Prop := (v = some (.ref kF) ∧ Fr n0 L ∧ h = h0)
set_option maxRecDepth 65536 in
set_option maxHeartbeats 40000000 in
theorem rm_kind (l : Launch) (Z : State) (a0 : Array Value) (hw : ∀ d ∈ tables_1, d.before a0 Z = true) (ws : List Jvm.Cond) (G1 : Int32) (kF : Addr) (kA : Addr) (HG : own_G l Z a0 G1 kF kA) (h0 : Heap) (n0 : Nat) (X00 : Old Z n0 h0) (d : Addr) (hp0 : Fld Z h0 d "com/example/claimgate/claimgate/authz/Decision" "kind" "Lcom/example/claimgate/claimgate/authz/Decision$Kind;" (.ref kF)) :
    own_CP l Z M311 prog_3_method_8_code 1 (some (.object "com/example/claimgate/claimgate/authz/Decision$Kind")) ws R_kind #[(.ref d)] h0 (Q_kind Z G1 kF kA d h0 n0) := by
  refine own_P (plainFor_of_name pn_271) ?_
  intro p e s m below meth c s₁ S0 Bd hZ hh hx hby hml hown hnm X0 e0 hS0d
  obtain ⟨O1, P1, O2, O3, E2, F2, NE⟩ := id HG
  have N0 := Fr.nil n0
  have C0 : Steps p.tables e below S0 (s₁.setTop (mkF m 0 #[.val (.ref d)] [])) := by rw [hS0d]; exact castTop (ef_125 m d) (Steps.refl _)
  obtain ⟨T_1, X_2, e_3, st_4⟩ := getF X0 hx hZ hown (host := "") (Or.inl (w40 hw)) Via.refl e0 hp0 (g := (mkF m 1 #[.val (.ref d)] [(.ref d)])) rfl rfl (hb hby d13_1)
  have C_5 : Steps p.tables e below S0 (T_1.setTop (mkF m 4 #[.val (.ref d)] [(.ref kF)])) := by
    refine C0.trans ?_
    refine XS.aloadN X0.here hx rfl (hb hby d13_0) rfl rfl ?_
    refine st_4 _ ?_
    exact Steps.refl _
  obtain ⟨fs, hr, hrun, hended, hW, hsame⟩ := X_2.leave (v := some (.ref kF)) (fun h => by rw [Bd.returns] at h; cases h)
  refine ⟨_, _, C_5.trans (retOut X_2 hx Bd.returns rfl (Or.inr (Or.inr (Or.inr (Or.inr ⟨rfl, rfl, rfl⟩)))) (hb hby d13_4) hr), hrun, hended, _, _, rfl, ?_, ⟨_, rfl⟩, hW, hsame.mono (by decide) (by decide)⟩
  show Q_kind Z G1 kF kA d h0 n0 (some (.ref kF)) T_1.heap _
  rw [e_3]
  exact ⟨rfl, N0, rfl⟩
abbrev M315 : MethodName := ⟨"com/example/claimgate/claimgate/authz/Decision$Kind", "status", "()I"⟩
theorem pn_316 : plainName "com/example/claimgate/claimgate/authz/Decision$Kind" = true := by first | (simp [plainName, overriddenIn]; done) | decide +kernel
theorem d14_0 : decode prog_4_method_4_code 0 = .ok (.aload_n 0, 1) := by decide +kernel
theorem w67 {Z : State} {a0 : Array Value} (hw : ∀ d ∈ tables_1, d.before a0 Z = true) : Jvm.Cond.before (Jvm.Cond.fieldLink "com/example/claimgate/claimgate/authz/Decision$Kind" (38 : Nat) "com/example/claimgate/claimgate/authz/Decision$Kind" "status" "I") a0 Z = true := hw _ (List.mem_of_getElem? (i := 67) rfl)
theorem d14_1 : decode prog_4_method_4_code 1 = .ok (.getfield 38, 3) := by decide +kernel
theorem d14_4 : decode prog_4_method_4_code 4 = .ok (.ireturn, 1) := by decide +kernel
abbrev R_kst : Room := { frames := 0, cells := 0, slots := 0, locals := 0 }
def Q_kst (Z : State) (G1 : Int32) (kF : Addr) (kA : Addr)  (h0 : Heap) (n0 : Nat) (v : Option Value) (h : Heap) (L : List Loc) : Prop := (v = some (.int (403 : Int32)) ∧ Fr n0 L ∧ h = h0)
set_option maxRecDepth 65536 in
set_option maxHeartbeats 40000000 in
theorem rm_kst (l : Launch) (Z : State) (a0 : Array Value) (hw : ∀ d ∈ tables_1, d.before a0 Z = true) (ws : List Jvm.Cond) (G1 : Int32) (kF : Addr) (kA : Addr) (HG : own_G l Z a0 G1 kF kA) (h0 : Heap) (n0 : Nat) (X00 : Old Z n0 h0)   :
    own_CP l Z M315 prog_4_method_4_code 1 (some .int) ws R_kst #[(.ref kF)] h0 (Q_kst Z G1 kF kA  h0 n0) := by
  refine own_P (plainFor_of_name pn_316) ?_
  intro p e s m below meth c s₁ S0 Bd hZ hh hx hby hml hown hnm X0 e0 hS0d
  obtain ⟨O1, P1, O2, O3, E2, F2, NE⟩ := id HG
  have N0 := Fr.nil n0
  have C0 : Steps p.tables e below S0 (s₁.setTop (mkF m 0 #[.val (.ref kF)] [])) := by rw [hS0d]; exact castTop (ef_125 m kF) (Steps.refl _)
  obtain ⟨T_1, X_2, e_3, st_4⟩ := getF X0 hx hZ hown (host := "") (Or.inl (w67 hw)) Via.refl e0 (F2.ext X00.2) (g := (mkF m 1 #[.val (.ref kF)] [(.ref kF)])) rfl rfl (hb hby d14_1)
  have C_5 : Steps p.tables e below S0 (T_1.setTop (mkF m 4 #[.val (.ref kF)] [(.int (403 : Int32))])) := by
    refine C0.trans ?_
    refine XS.aloadN X0.here hx rfl (hb hby d14_0) rfl rfl ?_
    refine st_4 _ ?_
    exact Steps.refl _
  obtain ⟨fs, hr, hrun, hended, hW, hsame⟩ := X_2.leave (v := some (.int (403 : Int32))) (fun h => by rw [Bd.returns] at h; cases h)
  refine ⟨_, _, C_5.trans (retOut X_2 hx Bd.returns rfl (Or.inl ⟨rfl, Or.inl rfl, _, rfl⟩) (hb hby d14_4) hr), hrun, hended, _, _, rfl, ?_, ⟨_, rfl⟩, hW, hsame.mono (by decide) (by decide)⟩
  show Q_kst Z G1 kF kA  h0 n0 (some (.int (403 : Int32))) T_1.heap _
  rw [e_3]
  exact ⟨rfl, N0, rfl⟩
abbrev M321 : MethodName := ⟨"com/example/claimgate/claimgate/authz/Decision", "status", "()I"⟩
theorem d15_0 : decode prog_3_method_10_code 0 = .ok (.aload_n 0, 1) := by decide +kernel
theorem d15_1 : decode prog_3_method_10_code 1 = .ok (.getfield 7, 3) := by decide +kernel
theorem w66 {Z : State} {a0 : Array Value} (hw : ∀ d ∈ tables_1, d.before a0 Z = true) : Jvm.Cond.before (Jvm.Cond.code ({ cls := "com/example/claimgate/claimgate/authz/Decision$Kind", name := "status", desc := "()I" } : Jvm.MethodName) prog_4_method_4_code (1 : Nat) (Option.some Jvm.ClassFile.FieldType.int)) a0 Z = true := hw _ (List.mem_of_getElem? (i := 66) rfl)
theorem w34 {Z : State} {a0 : Array Value} (hw : ∀ d ∈ tables_1, d.before a0 Z = true) : Jvm.Cond.before (Jvm.Cond.initialized "com/example/claimgate/claimgate/authz/Decision$Kind") a0 Z = true := hw _ (List.mem_of_getElem? (i := 34) rfl)
theorem pd_326 : parseMethodDescriptor "()I" = some ⟨[], some .int⟩ := by decide +kernel
theorem d15_4 : decode prog_3_method_10_code 4 = .ok (.invokevirtual 56, 3) := by decide +kernel
theorem w62 {Z : State} {a0 : Array Value} (hw : ∀ d ∈ tables_1, d.before a0 Z = true) : Jvm.Cond.before (Jvm.Cond.methodLink "com/example/claimgate/claimgate/authz/Decision" (56 : Nat) ({ cls := "com/example/claimgate/claimgate/authz/Decision$Kind", name := "status", desc := "()I" } : Jvm.MethodName)) a0 Z = true := hw _ (List.mem_of_getElem? (i := 62) rfl)
theorem w65 {Z : State} {a0 : Array Value} (hw : ∀ d ∈ tables_1, d.before a0 Z = true) : Jvm.Cond.before (Jvm.Cond.selects "com/example/claimgate/claimgate/authz/Decision$Kind" ({ cls := "com/example/claimgate/claimgate/authz/Decision$Kind", name := "status", desc := "()I" } : Jvm.MethodName) ({ cls := "com/example/claimgate/claimgate/authz/Decision$Kind", name := "status", desc := "()I" } : Jvm.MethodName)) a0 Z = true := hw _ (List.mem_of_getElem? (i := 65) rfl)
theorem w64 {Z : State} {a0 : Array Value} (hw : ∀ d ∈ tables_1, d.before a0 Z = true) : Jvm.Cond.before (Jvm.Cond.instanceMethod ({ cls := "com/example/claimgate/claimgate/authz/Decision$Kind", name := "status", desc := "()I" } : Jvm.MethodName)) a0 Z = true := hw _ (List.mem_of_getElem? (i := 64) rfl)
theorem w63 {Z : State} {a0 : Array Value} (hw : ∀ d ∈ tables_1, d.before a0 Z = true) : Jvm.Cond.before (Jvm.Cond.declares ({ cls := "com/example/claimgate/claimgate/authz/Decision$Kind", name := "status", desc := "()I" } : Jvm.MethodName)) a0 Z = true := hw _ (List.mem_of_getElem? (i := 63) rfl)
theorem d15_7 : decode prog_3_method_10_code 7 = .ok (.ireturn, 1) := by decide +kernel
abbrev R_dst : Room := { frames := 1, cells := 0, slots := 0, locals := 12 }
def Q_dst (Z : State) (G1 : Int32) (kF : Addr) (kA : Addr) (d : Addr) (h0 : Heap) (n0 : Nat) (v : Option Value) (h : Heap) (L : List Loc) : Prop := (v = some (.int (403 : Int32)) ∧ Fr n0 L ∧ h = h0)
set_option maxRecDepth 65536 in
set_option maxHeartbeats 40000000 in
theorem rm_dst (l : Launch) (Z : State) (a0 : Array Value) (hw : ∀ d ∈ tables_1, d.before a0 Z = true) (ws : List Jvm.Cond) (G1 : Int32) (kF : Addr) (kA : Addr) (HG : own_G l Z a0 G1 kF kA) (h0 : Heap) (n0 : Nat) (X00 : Old Z n0 h0) (d : Addr) (hp0 : Fld Z h0 d "com/example/claimgate/claimgate/authz/Decision" "kind" "Lcom/example/claimgate/claimgate/authz/Decision$Kind;" (.ref kF)) :
    own_CP l Z M321 prog_3_method_10_code 1 (some .int) ws R_dst #[(.ref d)] h0 (Q_dst Z G1 kF kA d h0 n0) := by
  refine own_P (plainFor_of_name pn_271) ?_
  intro p e s m below meth c s₁ S0 Bd hZ hh hx hby hml hown hnm X0 e0 hS0d
  obtain ⟨O1, P1, O2, O3, E2, F2, NE⟩ := id HG
  have N0 := Fr.nil n0
  have C0 : Steps p.tables e below S0 (s₁.setTop (mkF m 0 #[.val (.ref d)] [])) := by rw [hS0d]; exact castTop (ef_125 m d) (Steps.refl _)
  obtain ⟨T_1, X_2, e_3, st_4⟩ := getF X0 hx hZ hown (host := "") (Or.inl (w40 hw)) Via.refl e0 hp0 (g := (mkF m 1 #[.val (.ref d)] [(.ref d)])) rfl rfl (hb hby d15_1)
  obtain ⟨q_6, q_7, q_8, q_9, q_10⟩ := isOf (T := T_1) hZ e_3 (E2.ext X00.2)
  obtain ⟨_, _, ⟨T_5, L_5, k_5, n_5⟩, -, X_5, ⟨Lc_5, hQ_5, l_5, y_5, z_5⟩, st_5⟩ := X_2.virtualBack hx (y := M315) (z := M315) hown (mvT hZ (w62 hw)) (mvT hZ (w63 hw)) (notFace_of_selects (args := #[]) (mvT hZ (w65 hw))) (mvT hZ (w65 hw)) (mvT hZ (w64 hw)) (by decide) (backOf (W := 0) (rm_kst l Z a0 hw [] G1 kF kA HG h0 n0 X00  ) hZ (w66 hw) (w34 hw) (by decide) (by decide)) q_8 q_10 (g := (mkF m 4 #[.val (.ref d)] [(.ref kF)])) rfl (by rw [hml]; rfl) (Steps.refl _) (argsL := []) (rest := []) (lenOf pd_326 rfl) rfl (by show 2 * 0 + _ ≤ _; exact Nat.le_of_eq rfl) (hb hby d15_4) (fun _ _ => ⟨rfl, e_3, (by decide : 0 + 0 ≤ _), (by decide : 0 + 0 ≤ _)⟩)
  dsimp only [Pt.U, Pt.locs, Pt.cells, Pt.slots] at X_5 l_5 y_5 z_5 st_5 hQ_5
  subst l_5 y_5 z_5
  obtain ⟨rfl, N_11, e_12⟩ := hQ_5
  have N_13 := Fr.app N0 N_11
  have e_14 : T_5.heap = h0 := e_12
  have C_15 : Steps p.tables e below S0 (T_5.setTop (mkF m 7 #[.val (.ref d)] [(.int (403 : Int32))])) := by
    refine C0.trans ?_
    refine XS.aloadN X0.here hx rfl (hb hby d15_0) rfl rfl ?_
    refine st_4 _ ?_
    refine st_5.trans ?_
    exact Steps.refl _
  obtain ⟨fs, hr, hrun, hended, hW, hsame⟩ := X_5.leave (v := some (.int (403 : Int32))) (fun h => by rw [Bd.returns] at h; cases h)
  refine ⟨_, _, C_15.trans (retOut X_5 hx Bd.returns rfl (Or.inl ⟨rfl, Or.inl rfl, _, rfl⟩) (hb hby d15_7) hr), hrun, hended, _, _, rfl, ?_, ⟨_, rfl⟩, hW, hsame.mono (by decide) (by decide)⟩
  show Q_dst Z G1 kF kA d h0 n0 (some (.int (403 : Int32))) T_5.heap _
  rw [e_14]
  exact ⟨rfl, N_13, rfl⟩
abbrev M333 : MethodName := ⟨"com/example/claimgate/claimgate/authz/Decision", "allowed", "()Z"⟩
theorem d16_0 : decode prog_3_method_9_code 0 = .ok (.aload_n 0, 1) := by decide +kernel
theorem d16_1 : decode prog_3_method_9_code 1 = .ok (.getfield 7, 3) := by decide +kernel
theorem w74 {Z : State} {a0 : Array Value} (hw : ∀ d ∈ tables_1, d.before a0 Z = true) : Jvm.Cond.before (Jvm.Cond.fieldLink "com/example/claimgate/claimgate/authz/Decision" (25 : Nat) "com/example/claimgate/claimgate/authz/Decision$Kind" "ALLOWED" "Lcom/example/claimgate/claimgate/authz/Decision$Kind;") a0 Z = true := hw _ (List.mem_of_getElem? (i := 74) rfl)
theorem d16_4 : decode prog_3_method_9_code 4 = .ok (.getstatic 25, 3) := by decide +kernel
theorem d16_7 : decode prog_3_method_9_code 7 = .ok (.if_acmp .ne 7, 3) := by decide +kernel
theorem d16_14 : decode prog_3_method_9_code 14 = .ok (.iconst 0, 1) := by decide +kernel
theorem d16_15 : decode prog_3_method_9_code 15 = .ok (.ireturn, 1) := by decide +kernel
abbrev R_allowed : Room := { frames := 0, cells := 0, slots := 0, locals := 0 }
def Q_allowed (Z : State) (G1 : Int32) (kF : Addr) (kA : Addr) (d : Addr) (h0 : Heap) (n0 : Nat) (v : Option Value) (h : Heap) (L : List Loc) : Prop := (v = some (.int (0 : Int32)) ∧ Fr n0 L ∧ h = h0)
set_option maxRecDepth 65536 in
set_option maxHeartbeats 40000000 in
theorem rm_allowed (l : Launch) (Z : State) (a0 : Array Value) (hw : ∀ d ∈ tables_1, d.before a0 Z = true) (ws : List Jvm.Cond) (G1 : Int32) (kF : Addr) (kA : Addr) (HG : own_G l Z a0 G1 kF kA) (h0 : Heap) (n0 : Nat) (X00 : Old Z n0 h0) (d : Addr) (hp0 : Fld Z h0 d "com/example/claimgate/claimgate/authz/Decision" "kind" "Lcom/example/claimgate/claimgate/authz/Decision$Kind;" (.ref kF)) :
    own_CP l Z M333 prog_3_method_9_code 1 (some .boolean) ws R_allowed #[(.ref d)] h0 (Q_allowed Z G1 kF kA d h0 n0) := by
  refine own_P (plainFor_of_name pn_271) ?_
  intro p e s m below meth c s₁ S0 Bd hZ hh hx hby hml hown hnm X0 e0 hS0d
  obtain ⟨O1, P1, O2, O3, E2, F2, NE⟩ := id HG
  have N0 := Fr.nil n0
  have C0 : Steps p.tables e below S0 (s₁.setTop (mkF m 0 #[.val (.ref d)] [])) := by rw [hS0d]; exact castTop (ef_125 m d) (Steps.refl _)
  obtain ⟨T_1, X_2, e_3, st_4⟩ := getF X0 hx hZ hown (host := "") (Or.inl (w40 hw)) Via.refl e0 hp0 (g := (mkF m 1 #[.val (.ref d)] [(.ref d)])) rfl rfl (hb hby d16_1)
  obtain ⟨T_5, X_6, e_7, st_8⟩ := getS X_2 hx hZ (host := "") hown (w74 hw) Via.refl e_3 (O3.ext X00.2) (g := (mkF m 4 #[.val (.ref d)] [(.ref kF)])) rfl (hb hby d16_4)
  have C_9 : Steps p.tables e below S0 (T_5.setTop (mkF m 15 #[.val (.ref d)] [(.int (0 : Int32))])) := by
    refine C0.trans ?_
    refine XS.aloadN X0.here hx rfl (hb hby d16_0) rfl rfl ?_
    refine st_4 _ ?_
    refine st_8 _ ?_
    refine acmp X_6 hx rfl (cd := .ne) (x := (.ref kF)) (y := (.ref kA)) rfl rfl (same := false) (pc0 := 7) (pc' := 14) rfl (hb hby d16_7) rfl (decide_eq_false fun q => NE (Value.ref.inj q)) (by decide) (by decide) ?_
    refine XS.iconst X_6.here hx rfl (hb hby d16_14) ?_
    exact Steps.refl _
  obtain ⟨fs, hr, hrun, hended, hW, hsame⟩ := X_6.leave (v := some (.int (0 : Int32))) (fun h => by rw [Bd.returns] at h; cases h)
  refine ⟨_, _, C_9.trans (retN X_6 hx (t := .boolean) Bd.returns (by simp) (hb hby d16_15) hr), hrun, hended, _, _, rfl, ?_, ⟨_, rfl⟩, hW, hsame.mono (by decide) (by decide)⟩
  show Q_allowed Z G1 kF kA d h0 n0 (some (.int (0 : Int32))) T_5.heap _
  rw [e_7]
  exact ⟨rfl, N0, rfl⟩
theorem ef_341 (m : MethodId) (x0 : Int32) (x1 : Int32) (x2 : Int32) (x3 : Int32) : entryFrame m #[(.int x0), (.int x1), (.int x2), (.int x3)] maxLocals = mkF m 0 #[.val (.int x0), .val (.int x1), .val (.int x2), .val (.int x3), .unset, .unset, .unset, .unset, .unset] [] := by first | (simp [entryFrame, mkF, argsToLocals, Value.category, maxLocals]; done) | rfl
theorem w0 {Z : State} {a0 : Array Value} (hw : ∀ d ∈ tables_1, d.before a0 Z = true) : Jvm.Cond.before (Jvm.Cond.constant "com/example/claimgate/claimgate/authz/DecisionForbiddenPinLaw" (7 : Nat) (2147483647 : Int32)) a0 Z = true := hw _ (List.mem_of_getElem? (i := 0) rfl)
theorem w1 {Z : State} {a0 : Array Value} (hw : ∀ d ∈ tables_1, d.before a0 Z = true) : Jvm.Cond.before (Jvm.Cond.classLink "com/example/claimgate/claimgate/authz/DecisionForbiddenPinLaw" (8 : Nat) "java/lang/String") a0 Z = true := hw _ (List.mem_of_getElem? (i := 1) rfl)
theorem w7 {Z : State} {a0 : Array Value} (hw : ∀ d ∈ tables_1, d.before a0 Z = true) : Jvm.Cond.before (Jvm.Cond.code ({ cls := "com/example/claimgate/claimgate/authz/DecisionForbiddenPinLaw", name := "makeChars", desc := "(IIII)[C" } : Jvm.MethodName) method_3_code (4 : Nat) (Option.some (Jvm.ClassFile.FieldType.array Jvm.ClassFile.FieldType.char))) a0 Z = true := hw _ (List.mem_of_getElem? (i := 7) rfl)
theorem w6 {Z : State} {a0 : Array Value} (hw : ∀ d ∈ tables_1, d.before a0 Z = true) : Jvm.Cond.before (Jvm.Cond.initialized "com/example/claimgate/claimgate/authz/DecisionForbiddenPinLaw") a0 Z = true := hw _ (List.mem_of_getElem? (i := 6) rfl)
theorem pd_346 : parseMethodDescriptor "(IIII)[C" = some ⟨[.int, .int, .int, .int], some (.array .char)⟩ := by decide +kernel
theorem w4 {Z : State} {a0 : Array Value} (hw : ∀ d ∈ tables_1, d.before a0 Z = true) : Jvm.Cond.before (Jvm.Cond.methodLink "com/example/claimgate/claimgate/authz/DecisionForbiddenPinLaw" (10 : Nat) ({ cls := "com/example/claimgate/claimgate/authz/DecisionForbiddenPinLaw", name := "makeChars", desc := "(IIII)[C" } : Jvm.MethodName)) a0 Z = true := hw _ (List.mem_of_getElem? (i := 4) rfl)
theorem w5 {Z : State} {a0 : Array Value} (hw : ∀ d ∈ tables_1, d.before a0 Z = true) : Jvm.Cond.before (Jvm.Cond.static ({ cls := "com/example/claimgate/claimgate/authz/DecisionForbiddenPinLaw", name := "makeChars", desc := "(IIII)[C" } : Jvm.MethodName)) a0 Z = true := hw _ (List.mem_of_getElem? (i := 5) rfl)
theorem w11 {Z : State} {a0 : Array Value} (hw : ∀ d ∈ tables_1, d.before a0 Z = true) : Jvm.Cond.before (Jvm.Cond.code ({ cls := "java/lang/String", name := "<init>", desc := "([C)V" } : Jvm.MethodName) jdk_42_method_3_code (2 : Nat) (Option.none : Option Jvm.ClassFile.FieldType)) a0 Z = true := hw _ (List.mem_of_getElem? (i := 11) rfl)
theorem pd_350 : parseMethodDescriptor "([C)V" = some ⟨[(.array .char)], none⟩ := by decide +kernel
theorem w9 {Z : State} {a0 : Array Value} (hw : ∀ d ∈ tables_1, d.before a0 Z = true) : Jvm.Cond.before (Jvm.Cond.methodLink "com/example/claimgate/claimgate/authz/DecisionForbiddenPinLaw" (16 : Nat) ({ cls := "java/lang/String", name := "<init>", desc := "([C)V" } : Jvm.MethodName)) a0 Z = true := hw _ (List.mem_of_getElem? (i := 9) rfl)
theorem w10 {Z : State} {a0 : Array Value} (hw : ∀ d ∈ tables_1, d.before a0 Z = true) : Jvm.Cond.before (Jvm.Cond.instanceMethod ({ cls := "java/lang/String", name := "<init>", desc := "([C)V" } : Jvm.MethodName)) a0 Z = true := hw _ (List.mem_of_getElem? (i := 10) rfl)
theorem w30 {Z : State} {a0 : Array Value} (hw : ∀ d ∈ tables_1, d.before a0 Z = true) : Jvm.Cond.before (Jvm.Cond.code ({ cls := "com/example/claimgate/claimgate/authz/Decision", name := "forbidden", desc := "(Ljava/lang/String;)Lcom/example/claimgate/claimgate/authz/Decision;" } : Jvm.MethodName) prog_3_method_6_code (1 : Nat) (Option.some (Jvm.ClassFile.FieldType.object "com/example/claimgate/claimgate/authz/Decision"))) a0 Z = true := hw _ (List.mem_of_getElem? (i := 30) rfl)
theorem pd_354 : parseMethodDescriptor "(Ljava/lang/String;)Lcom/example/claimgate/claimgate/authz/Decision;" = some ⟨[(.object "java/lang/String")], some (.object "com/example/claimgate/claimgate/authz/Decision")⟩ := by decide +kernel
theorem w27 {Z : State} {a0 : Array Value} (hw : ∀ d ∈ tables_1, d.before a0 Z = true) : Jvm.Cond.before (Jvm.Cond.methodLink "com/example/claimgate/claimgate/authz/DecisionForbiddenPinLaw" (19 : Nat) ({ cls := "com/example/claimgate/claimgate/authz/Decision", name := "forbidden", desc := "(Ljava/lang/String;)Lcom/example/claimgate/claimgate/authz/Decision;" } : Jvm.MethodName)) a0 Z = true := hw _ (List.mem_of_getElem? (i := 27) rfl)
theorem w28 {Z : State} {a0 : Array Value} (hw : ∀ d ∈ tables_1, d.before a0 Z = true) : Jvm.Cond.before (Jvm.Cond.static ({ cls := "com/example/claimgate/claimgate/authz/Decision", name := "forbidden", desc := "(Ljava/lang/String;)Lcom/example/claimgate/claimgate/authz/Decision;" } : Jvm.MethodName)) a0 Z = true := hw _ (List.mem_of_getElem? (i := 28) rfl)
theorem w50 {Z : State} {a0 : Array Value} (hw : ∀ d ∈ tables_1, d.before a0 Z = true) : Jvm.Cond.before (Jvm.Cond.code ({ cls := "com/example/claimgate/claimgate/authz/Decision", name := "reason", desc := "()Ljava/lang/String;" } : Jvm.MethodName) prog_3_method_11_code (1 : Nat) (Option.some (Jvm.ClassFile.FieldType.object "java/lang/String"))) a0 Z = true := hw _ (List.mem_of_getElem? (i := 50) rfl)
theorem pd_358 : parseMethodDescriptor "()Ljava/lang/String;" = some ⟨[], some (.object "java/lang/String")⟩ := by decide +kernel
theorem w46 {Z : State} {a0 : Array Value} (hw : ∀ d ∈ tables_1, d.before a0 Z = true) : Jvm.Cond.before (Jvm.Cond.methodLink "com/example/claimgate/claimgate/authz/DecisionForbiddenPinLaw" (25 : Nat) ({ cls := "com/example/claimgate/claimgate/authz/Decision", name := "reason", desc := "()Ljava/lang/String;" } : Jvm.MethodName)) a0 Z = true := hw _ (List.mem_of_getElem? (i := 46) rfl)
theorem w49 {Z : State} {a0 : Array Value} (hw : ∀ d ∈ tables_1, d.before a0 Z = true) : Jvm.Cond.before (Jvm.Cond.selects "com/example/claimgate/claimgate/authz/Decision" ({ cls := "com/example/claimgate/claimgate/authz/Decision", name := "reason", desc := "()Ljava/lang/String;" } : Jvm.MethodName) ({ cls := "com/example/claimgate/claimgate/authz/Decision", name := "reason", desc := "()Ljava/lang/String;" } : Jvm.MethodName)) a0 Z = true := hw _ (List.mem_of_getElem? (i := 49) rfl)
theorem w48 {Z : State} {a0 : Array Value} (hw : ∀ d ∈ tables_1, d.before a0 Z = true) : Jvm.Cond.before (Jvm.Cond.instanceMethod ({ cls := "com/example/claimgate/claimgate/authz/Decision", name := "reason", desc := "()Ljava/lang/String;" } : Jvm.MethodName)) a0 Z = true := hw _ (List.mem_of_getElem? (i := 48) rfl)
theorem w47 {Z : State} {a0 : Array Value} (hw : ∀ d ∈ tables_1, d.before a0 Z = true) : Jvm.Cond.before (Jvm.Cond.declares ({ cls := "com/example/claimgate/claimgate/authz/Decision", name := "reason", desc := "()Ljava/lang/String;" } : Jvm.MethodName)) a0 Z = true := hw _ (List.mem_of_getElem? (i := 47) rfl)
theorem w55 {Z : State} {a0 : Array Value} (hw : ∀ d ∈ tables_1, d.before a0 Z = true) : Jvm.Cond.before (Jvm.Cond.code ({ cls := "com/example/claimgate/claimgate/authz/Decision", name := "kind", desc := "()Lcom/example/claimgate/claimgate/authz/Decision$Kind;" } : Jvm.MethodName) prog_3_method_8_code (1 : Nat) (Option.some (Jvm.ClassFile.FieldType.object "com/example/claimgate/claimgate/authz/Decision$Kind"))) a0 Z = true := hw _ (List.mem_of_getElem? (i := 55) rfl)
theorem pd_364 : parseMethodDescriptor "()Lcom/example/claimgate/claimgate/authz/Decision$Kind;" = some ⟨[], some (.object "com/example/claimgate/claimgate/authz/Decision$Kind")⟩ := by decide +kernel
theorem w51 {Z : State} {a0 : Array Value} (hw : ∀ d ∈ tables_1, d.before a0 Z = true) : Jvm.Cond.before (Jvm.Cond.methodLink "com/example/claimgate/claimgate/authz/DecisionForbiddenPinLaw" (29 : Nat) ({ cls := "com/example/claimgate/claimgate/authz/Decision", name := "kind", desc := "()Lcom/example/claimgate/claimgate/authz/Decision$Kind;" } : Jvm.MethodName)) a0 Z = true := hw _ (List.mem_of_getElem? (i := 51) rfl)
theorem w54 {Z : State} {a0 : Array Value} (hw : ∀ d ∈ tables_1, d.before a0 Z = true) : Jvm.Cond.before (Jvm.Cond.selects "com/example/claimgate/claimgate/authz/Decision" ({ cls := "com/example/claimgate/claimgate/authz/Decision", name := "kind", desc := "()Lcom/example/claimgate/claimgate/authz/Decision$Kind;" } : Jvm.MethodName) ({ cls := "com/example/claimgate/claimgate/authz/Decision", name := "kind", desc := "()Lcom/example/claimgate/claimgate/authz/Decision$Kind;" } : Jvm.MethodName)) a0 Z = true := hw _ (List.mem_of_getElem? (i := 54) rfl)
theorem w53 {Z : State} {a0 : Array Value} (hw : ∀ d ∈ tables_1, d.before a0 Z = true) : Jvm.Cond.before (Jvm.Cond.instanceMethod ({ cls := "com/example/claimgate/claimgate/authz/Decision", name := "kind", desc := "()Lcom/example/claimgate/claimgate/authz/Decision$Kind;" } : Jvm.MethodName)) a0 Z = true := hw _ (List.mem_of_getElem? (i := 53) rfl)
theorem w52 {Z : State} {a0 : Array Value} (hw : ∀ d ∈ tables_1, d.before a0 Z = true) : Jvm.Cond.before (Jvm.Cond.declares ({ cls := "com/example/claimgate/claimgate/authz/Decision", name := "kind", desc := "()Lcom/example/claimgate/claimgate/authz/Decision$Kind;" } : Jvm.MethodName)) a0 Z = true := hw _ (List.mem_of_getElem? (i := 52) rfl)
theorem w56 {Z : State} {a0 : Array Value} (hw : ∀ d ∈ tables_1, d.before a0 Z = true) : Jvm.Cond.before (Jvm.Cond.fieldLink "com/example/claimgate/claimgate/authz/DecisionForbiddenPinLaw" (33 : Nat) "com/example/claimgate/claimgate/authz/Decision$Kind" "FORBIDDEN" "Lcom/example/claimgate/claimgate/authz/Decision$Kind;") a0 Z = true := hw _ (List.mem_of_getElem? (i := 56) rfl)
theorem w61 {Z : State} {a0 : Array Value} (hw : ∀ d ∈ tables_1, d.before a0 Z = true) : Jvm.Cond.before (Jvm.Cond.code ({ cls := "com/example/claimgate/claimgate/authz/Decision", name := "status", desc := "()I" } : Jvm.MethodName) prog_3_method_10_code (1 : Nat) (Option.some Jvm.ClassFile.FieldType.int)) a0 Z = true := hw _ (List.mem_of_getElem? (i := 61) rfl)
theorem w57 {Z : State} {a0 : Array Value} (hw : ∀ d ∈ tables_1, d.before a0 Z = true) : Jvm.Cond.before (Jvm.Cond.methodLink "com/example/claimgate/claimgate/authz/DecisionForbiddenPinLaw" (39 : Nat) ({ cls := "com/example/claimgate/claimgate/authz/Decision", name := "status", desc := "()I" } : Jvm.MethodName)) a0 Z = true := hw _ (List.mem_of_getElem? (i := 57) rfl)
theorem w60 {Z : State} {a0 : Array Value} (hw : ∀ d ∈ tables_1, d.before a0 Z = true) : Jvm.Cond.before (Jvm.Cond.selects "com/example/claimgate/claimgate/authz/Decision" ({ cls := "com/example/claimgate/claimgate/authz/Decision", name := "status", desc := "()I" } : Jvm.MethodName) ({ cls := "com/example/claimgate/claimgate/authz/Decision", name := "status", desc := "()I" } : Jvm.MethodName)) a0 Z = true := hw _ (List.mem_of_getElem? (i := 60) rfl)
theorem w59 {Z : State} {a0 : Array Value} (hw : ∀ d ∈ tables_1, d.before a0 Z = true) : Jvm.Cond.before (Jvm.Cond.instanceMethod ({ cls := "com/example/claimgate/claimgate/authz/Decision", name := "status", desc := "()I" } : Jvm.MethodName)) a0 Z = true := hw _ (List.mem_of_getElem? (i := 59) rfl)
theorem w58 {Z : State} {a0 : Array Value} (hw : ∀ d ∈ tables_1, d.before a0 Z = true) : Jvm.Cond.before (Jvm.Cond.declares ({ cls := "com/example/claimgate/claimgate/authz/Decision", name := "status", desc := "()I" } : Jvm.MethodName)) a0 Z = true := hw _ (List.mem_of_getElem? (i := 58) rfl)
theorem w73 {Z : State} {a0 : Array Value} (hw : ∀ d ∈ tables_1, d.before a0 Z = true) : Jvm.Cond.before (Jvm.Cond.code ({ cls := "com/example/claimgate/claimgate/authz/Decision", name := "allowed", desc := "()Z" } : Jvm.MethodName) prog_3_method_9_code (1 : Nat) (Option.some Jvm.ClassFile.FieldType.boolean)) a0 Z = true := hw _ (List.mem_of_getElem? (i := 73) rfl)
theorem pd_376 : parseMethodDescriptor "()Z" = some ⟨[], some .boolean⟩ := by decide +kernel
theorem w69 {Z : State} {a0 : Array Value} (hw : ∀ d ∈ tables_1, d.before a0 Z = true) : Jvm.Cond.before (Jvm.Cond.methodLink "com/example/claimgate/claimgate/authz/DecisionForbiddenPinLaw" (43 : Nat) ({ cls := "com/example/claimgate/claimgate/authz/Decision", name := "allowed", desc := "()Z" } : Jvm.MethodName)) a0 Z = true := hw _ (List.mem_of_getElem? (i := 69) rfl)
theorem w72 {Z : State} {a0 : Array Value} (hw : ∀ d ∈ tables_1, d.before a0 Z = true) : Jvm.Cond.before (Jvm.Cond.selects "com/example/claimgate/claimgate/authz/Decision" ({ cls := "com/example/claimgate/claimgate/authz/Decision", name := "allowed", desc := "()Z" } : Jvm.MethodName) ({ cls := "com/example/claimgate/claimgate/authz/Decision", name := "allowed", desc := "()Z" } : Jvm.MethodName)) a0 Z = true := hw _ (List.mem_of_getElem? (i := 72) rfl)
theorem w71 {Z : State} {a0 : Array Value} (hw : ∀ d ∈ tables_1, d.before a0 Z = true) : Jvm.Cond.before (Jvm.Cond.instanceMethod ({ cls := "com/example/claimgate/claimgate/authz/Decision", name := "allowed", desc := "()Z" } : Jvm.MethodName)) a0 Z = true := hw _ (List.mem_of_getElem? (i := 71) rfl)
theorem w70 {Z : State} {a0 : Array Value} (hw : ∀ d ∈ tables_1, d.before a0 Z = true) : Jvm.Cond.before (Jvm.Cond.declares ({ cls := "com/example/claimgate/claimgate/authz/Decision", name := "allowed", desc := "()Z" } : Jvm.MethodName)) a0 Z = true := hw _ (List.mem_of_getElem? (i := 70) rfl)
theorem w80 {Z : State} {a0 : Array Value} (hw : ∀ d ∈ tables_1, d.before a0 Z = true) : Jvm.Cond.before (Jvm.Cond.code ({ cls := "java/lang/String", name := "length", desc := "()I" } : Jvm.MethodName) jdk_42_method_54_code (1 : Nat) (Option.some Jvm.ClassFile.FieldType.int)) a0 Z = true := hw _ (List.mem_of_getElem? (i := 80) rfl)
theorem w76 {Z : State} {a0 : Array Value} (hw : ∀ d ∈ tables_1, d.before a0 Z = true) : Jvm.Cond.before (Jvm.Cond.methodLink "com/example/claimgate/claimgate/authz/DecisionForbiddenPinLaw" (47 : Nat) ({ cls := "java/lang/String", name := "length", desc := "()I" } : Jvm.MethodName)) a0 Z = true := hw _ (List.mem_of_getElem? (i := 76) rfl)
theorem w79 {Z : State} {a0 : Array Value} (hw : ∀ d ∈ tables_1, d.before a0 Z = true) : Jvm.Cond.before (Jvm.Cond.selects "java/lang/String" ({ cls := "java/lang/String", name := "length", desc := "()I" } : Jvm.MethodName) ({ cls := "java/lang/String", name := "length", desc := "()I" } : Jvm.MethodName)) a0 Z = true := hw _ (List.mem_of_getElem? (i := 79) rfl)
theorem w78 {Z : State} {a0 : Array Value} (hw : ∀ d ∈ tables_1, d.before a0 Z = true) : Jvm.Cond.before (Jvm.Cond.instanceMethod ({ cls := "java/lang/String", name := "length", desc := "()I" } : Jvm.MethodName)) a0 Z = true := hw _ (List.mem_of_getElem? (i := 78) rfl)
theorem w77 {Z : State} {a0 : Array Value} (hw : ∀ d ∈ tables_1, d.before a0 Z = true) : Jvm.Cond.before (Jvm.Cond.declares ({ cls := "java/lang/String", name := "length", desc := "()I" } : Jvm.MethodName)) a0 Z = true := hw _ (List.mem_of_getElem? (i := 77) rfl)
theorem w91 {Z : State} {a0 : Array Value} (hw : ∀ d ∈ tables_1, d.before a0 Z = true) : Jvm.Cond.before (Jvm.Cond.code ({ cls := "java/lang/String", name := "equals", desc := "(Ljava/lang/Object;)Z" } : Jvm.MethodName) jdk_42_method_66_code (3 : Nat) (Option.some Jvm.ClassFile.FieldType.boolean)) a0 Z = true := hw _ (List.mem_of_getElem? (i := 91) rfl)
theorem pd_387 : parseMethodDescriptor "(Ljava/lang/Object;)Z" = some ⟨[(.object "java/lang/Object")], some .boolean⟩ := by decide +kernel
theorem w87 {Z : State} {a0 : Array Value} (hw : ∀ d ∈ tables_1, d.before a0 Z = true) : Jvm.Cond.before (Jvm.Cond.methodLink "com/example/claimgate/claimgate/authz/DecisionForbiddenPinLaw" (50 : Nat) ({ cls := "java/lang/String", name := "equals", desc := "(Ljava/lang/Object;)Z" } : Jvm.MethodName)) a0 Z = true := hw _ (List.mem_of_getElem? (i := 87) rfl)
theorem w90 {Z : State} {a0 : Array Value} (hw : ∀ d ∈ tables_1, d.before a0 Z = true) : Jvm.Cond.before (Jvm.Cond.selects "java/lang/String" ({ cls := "java/lang/String", name := "equals", desc := "(Ljava/lang/Object;)Z" } : Jvm.MethodName) ({ cls := "java/lang/String", name := "equals", desc := "(Ljava/lang/Object;)Z" } : Jvm.MethodName)) a0 Z = true := hw _ (List.mem_of_getElem? (i := 90) rfl)
theorem w89 {Z : State} {a0 : Array Value} (hw : ∀ d ∈ tables_1, d.before a0 Z = true) : Jvm.Cond.before (Jvm.Cond.instanceMethod ({ cls := "java/lang/String", name := "equals", desc := "(Ljava/lang/Object;)Z" } : Jvm.MethodName)) a0 Z = true := hw _ (List.mem_of_getElem? (i := 89) rfl)
theorem w88 {Z : State} {a0 : Array Value} (hw : ∀ d ∈ tables_1, d.before a0 Z = true) : Jvm.Cond.before (Jvm.Cond.declares ({ cls := "java/lang/String", name := "equals", desc := "(Ljava/lang/Object;)Z" } : Jvm.MethodName)) a0 Z = true := hw _ (List.mem_of_getElem? (i := 88) rfl)
def Q_law (Z : State) (G1 : Int32) (kF : Addr) (kA : Addr) (p0 : Int32) (p1 : Int32) (p2 : Int32) (p3 : Int32) (h0 : Heap) (n0 : Nat) (v : Option Value) (h : Heap) (L : List Loc) : Prop := (v = some (.int (1 : Int32)) ∧ Fr n0 L ∧ Keep h0 h [])
set_option maxRecDepth 65536 in
set_option maxHeartbeats 40000000 in
theorem rm_law (l : Launch) (Z : State) (a0 : Array Value) (hw : ∀ d ∈ tables_1, d.before a0 Z = true) (ws : List Jvm.Cond) (G1 : Int32) (kF : Addr) (kA : Addr) (HG : own_G l Z a0 G1 kF kA) (h0 : Heap) (n0 : Nat) (X00 : Old Z n0 h0) (p0 : Int32) (p1 : Int32) (p2 : Int32) (p3 : Int32)  :
    own_CH l Z x code maxLocals ret ws room_1 #[(.int p0), (.int p1), (.int p2), (.int p3)] h0 (Q_law Z G1 kF kA p0 p1 p2 p3 h0 n0) := by
  refine own_H (plainFor_of_name pn_205) ?_
  intro p e s m below meth c s₁ S0 Bd hZ hh CH0 hS0 CR0 hx hby hml hown hnm X0 e0 hS0d
  obtain ⟨O1, P1, O2, O3, E2, F2, NE⟩ := id HG
  have hEL := own_EL hw
  have hSA := own_SA hw
  have N0 := Fr.nil n0
  have C0 : Steps p.tables e below S0 (s₁.setTop (mkF m 0 #[.val (.int p0), .val (.int p1), .val (.int p2), .val (.int p3), .unset, .unset, .unset, .unset, .unset] [])) := by rw [hS0d]; exact castTop (ef_341 m p0 p1 p2 p3) (Steps.refl _)
  have C_1 : Steps p.tables e below S0 (s₁.setTop (mkF m 6 #[.val (.int p0), .val (.int p1), .val (.int p2), .val (.int p3), .unset, .unset, .unset, .unset, .unset] [(.int ((p0 &&& (2147483647 : Int32)) % (4 : Int32)))])) := by
    refine C0.trans ?_
    refine XS.iloadN X0.here hx rfl (hb hby at_0) rfl ?_
    refine X0.ldcI hx hown (mvT hZ (w0 hw)) rfl (hb hby at_1) ?_
    refine XS.iand X0.here hx rfl (hb hby at_3) rfl ?_
    refine XS.iconst X0.here hx rfl (hb hby at_4) ?_
    refine iremM X0 hx rfl (hb hby at_5) rfl (by decide) ?_
    exact Steps.refl _
  rcases own_mod4 p0 with hn_2 | hn_3 | hn_4 | hn_5
  · skip
    have C_6 : Steps p.tables e below S0 (s₁.setTop (mkF m 6 #[.val (.int p0), .val (.int p1), .val (.int p2), .val (.int p3), .unset, .unset, .unset, .unset, .unset] [(.int (0 : Int32))])) := by have q := C_1; rw [hn_2] at q; exact q
    obtain ⟨T_7, h_8, X_9, e_10, E_11, A_12, D_13, U_17, st_14⟩ := newO X0 hx hZ hown (w1 hw) (w2 hw) (w3 hw) e0 (g := (mkF m 8 #[.val (.int p0), .val (.int p1), .val (.int p2), .val (.int p3), .val (.int (0 : Int32)), .unset, .unset, .unset, .unset] [])) rfl (hb hby at_8) (by decide) (by decide)
    obtain ⟨a_15, g_16⟩ : ∃ z, z = h0.size := ⟨_, rfl⟩
    rw [← g_16] at A_12 D_13 st_14 U_17
    have CH_18 : CHv Z consts_1 s.vm h_8 := CHv.ext E_11 CH0
    have CR_19 : CHr Z consts_1 s.vm h0 s.vm h_8 := CR0.trans (CHr.ext E_11 CH0)
    have O_20 : Old Z n0 h_8 := (X00.ext E_11)
    obtain ⟨_, _, ⟨T_21, L_21, k_21, n_21⟩, -, X_21, ⟨Lc_21, hQ_21, l_21, y_21, z_21⟩, st_21⟩ := Jvm.LawKit.callS X_9 hx (y := M203) hown (mvT hZ (w4 hw)) (mvT hZ (w5 hw)) (mvT hZ (w6 hw)) (mvT hZ (w7 hw)) (by decide) (backOf (W := 2) (rm_mk_0 l Z a0 hw [] G1 kF kA HG h_8 n0 O_20 p1 p2 p3 ) hZ (w7 hw) (w6 hw) (by decide) (by decide)) (g := (mkF m 17 #[.val (.int p0), .val (.int p1), .val (.int p2), .val (.int p3), .val (.int (0 : Int32)), .unset, .unset, .unset, .unset] [(.int p3), (.int p2), (.int p1), (.int (0 : Int32)), (.ref a_15), (.ref a_15)])) rfl (by rw [hml]; rfl) (argsL := [(.int (0 : Int32)), (.int p1), (.int p2), (.int p3)]) (rest := [(.ref a_15), (.ref a_15)]) (lenOf pd_346 rfl) rfl (by show 2 * 0 + _ ≤ _; exact Nat.le_of_eq rfl) (hb hby at_17) (fun _ _ => ⟨rfl, e_10, (by decide : 1 + 1 ≤ _), (by decide : 4 + 0 ≤ _)⟩)
    dsimp only [Pt.U, Pt.locs, Pt.cells, Pt.slots] at X_21 l_21 y_21 z_21 st_21 hQ_21
    subst l_21 y_21 z_21
    obtain ⟨a_22, k_23, rfl, N_24, K_25, g_26, g_27⟩ := hQ_21
    have N_28 := Fr.app N0 N_24
    have CH_29 : CHv Z consts_1 s.vm T_21.heap := CHv.keep K_25 sf0 CH_18
    have CR_30 : CHr Z consts_1 s.vm h0 s.vm T_21.heap := CR_19.trans (CHr.keep K_25 sf0 CH_18)
    have E_31 : Exa Z T_21.heap a_15 "java/lang/String" := (A_12.keep K_25)
    have F_32 : Fld Z T_21.heap a_15 "java/lang/String" "value" "[B" .null := ((D_13 (Or.inr (w21 hw)) (ty := (.array .byte)) (by decide)).keep K_25 nin0)
    have F_33 : Fld Z T_21.heap a_15 "java/lang/String" "coder" "B" (.int (0 : Int32)) := ((D_13 (Or.inr (w22 hw)) (ty := .byte) (by decide)).keep K_25 nin0)
    have O_34 : Old Z n0 T_21.heap := (O_20.keep K_25 all0)
    obtain ⟨_, _, ⟨T_35, L_35, k_35, n_35⟩, -, Y_35, S_35, G_35, ⟨Lc_35, hQ_35, l_35, y_35, z_35, R_35⟩, st_35⟩ := X_21.specialBackS hx (y := M25) rfl hown (mvT hZ (w9 hw)) (mvT hZ (w10 hw)) (mvT hZ (w11 hw)) (by decide) (backOfSH (vm0 := s.vm) (W := 1) (rm_si1_0 l Z a0 hw [] G1 kF kA HG T_21.heap n0 O_34 a_15 a_22 k_23 E_31 F_32 F_33 (Nat.le_trans (own_n0 X00) (Nat.le_of_eq g_16.symm)) g_27) hZ (w11 hw) (w3 hw) (by decide) (by decide) hEL CH_29) (g := (mkF m 20 #[.val (.int p0), .val (.int p1), .val (.int p2), .val (.int p3), .val (.int (0 : Int32)), .unset, .unset, .unset, .unset] [(.ref a_22), (.ref a_15), (.ref a_15)])) rfl (by rw [hml]; rfl) (Steps.refl _) (a := a_15) (argsL := [(.ref a_22)]) (rest := [(.ref a_15)]) (lenOf pd_350 rfl) rfl (by show 2 * 0 + _ ≤ _; exact Nat.le_of_eq rfl) (hb hby at_20) (fun _ _ => ⟨rfl, rfl, (by decide : 2 + 4 ≤ _), (by decide : 4 + 8 ≤ _)⟩)
    dsimp only [Pt.U, Pt.locs, Pt.cells, Pt.slots] at Y_35 S_35 G_35 l_35 y_35 z_35 st_35 hQ_35 R_35
    subst l_35 y_35 z_35
    obtain ⟨X_35, hS_35, hZ_35, hown_35⟩ := rebS hS0 (n1 := T_21.heap.size) (by rw [show T_21.heap = T_21.heap from rfl]; exact (Nat.le_trans (Nat.le_refl _) (Nat.le_trans E_11.1 K_25.1))) Y_35 S_35 G_35 hZ hown
    obtain ⟨a_36, k_37, rfl, N_38, K_39, g_40, g_41, g_42, g_43⟩ := hQ_35
    have N_44 := Fr.app N_28 N_38
    have CH_45 : CHv Z consts_1 T_35.vm T_35.heap := R_35.1
    have CR_46 : CHr Z consts_1 s.vm h0 T_35.vm T_35.heap := CR_30.trans R_35
    obtain ⟨T_47, h_48, X_49, e_50, E_51, A_52, D_53, U_57, st_54⟩ := newO X_35 hx hZ_35 hown_35 (w1 hw) (w2 hw) (w3 hw) rfl (g := (mkF m 25 #[.val (.int p0), .val (.int p1), .val (.int p2), .val (.int p3), .val (.int (0 : Int32)), .val (.ref a_15), .unset, .unset, .unset] [])) rfl (hb hby at_25) (by decide) (by decide)
    obtain ⟨a_55, g_56⟩ : ∃ z, z = T_35.heap.size := ⟨_, rfl⟩
    rw [← g_56] at A_52 D_53 st_54 U_57
    have CH_58 : CHv Z consts_1 T_35.vm h_48 := CHv.ext E_51 CH_45
    have CR_59 : CHr Z consts_1 s.vm h0 T_35.vm h_48 := CR_46.trans (CHr.ext E_51 CH_45)
    have O_60 : Old Z n0 h_48 := ((O_34.keep K_39 (allS (Nat.le_trans (own_n0 X00) (Nat.le_of_eq g_16.symm)) all0)).ext E_51)
    obtain ⟨_, _, ⟨T_61, L_61, k_61, n_61⟩, -, X_61, ⟨Lc_61, hQ_61, l_61, y_61, z_61⟩, st_61⟩ := Jvm.LawKit.callS X_49 hx (y := M203) hown_35 (mvT hZ_35 (w4 hw)) (mvT hZ_35 (w5 hw)) (mvT hZ_35 (w6 hw)) (mvT hZ_35 (w7 hw)) (by decide) (backOf (W := 2) (rm_mk_0 l Z a0 hw [] G1 kF kA HG h_48 n0 O_60 p1 p2 p3 ) hZ_35 (w7 hw) (w6 hw) (by decide) (by decide)) (g := (mkF m 34 #[.val (.int p0), .val (.int p1), .val (.int p2), .val (.int p3), .val (.int (0 : Int32)), .val (.ref a_15), .unset, .unset, .unset] [(.int p3), (.int p2), (.int p1), (.int (0 : Int32)), (.ref a_55), (.ref a_55)])) rfl (by rw [hml]; rfl) (argsL := [(.int (0 : Int32)), (.int p1), (.int p2), (.int p3)]) (rest := [(.ref a_55), (.ref a_55)]) (lenOf pd_346 rfl) rfl (by show 2 * 0 + _ ≤ _; exact Nat.le_of_eq rfl) (hb hby at_34) (fun _ _ => ⟨rfl, e_50, (by decide : 7 + 1 ≤ _), (by decide : 16 + 0 ≤ _)⟩)
    dsimp only [Pt.U, Pt.locs, Pt.cells, Pt.slots] at X_61 l_61 y_61 z_61 st_61 hQ_61
    subst l_61 y_61 z_61
    obtain ⟨a_62, k_63, rfl, N_64, K_65, g_66, g_67⟩ := hQ_61
    have N_68 := Fr.app N_44 N_64
    have CH_69 : CHv Z consts_1 T_35.vm T_61.heap := CHv.keep K_65 sf0 CH_58
    have CR_70 : CHr Z consts_1 s.vm h0 T_35.vm T_61.heap := CR_59.trans (CHr.keep K_65 sf0 CH_58)
    have E_71 : Exa Z T_61.heap a_55 "java/lang/String" := (A_52.keep K_65)
    have F_72 : Fld Z T_61.heap a_55 "java/lang/String" "value" "[B" .null := ((D_53 (Or.inr (w21 hw)) (ty := (.array .byte)) (by decide)).keep K_65 nin0)
    have F_73 : Fld Z T_61.heap a_55 "java/lang/String" "coder" "B" (.int (0 : Int32)) := ((D_53 (Or.inr (w22 hw)) (ty := .byte) (by decide)).keep K_65 nin0)
    have O_74 : Old Z n0 T_35.heap := (O_34.keep K_39 (allS (Nat.le_trans (own_n0 X00) (Nat.le_of_eq g_16.symm)) all0))
    have O_75 : Old Z n0 T_61.heap := (O_60.keep K_65 all0)
    obtain ⟨_, _, ⟨T_76, L_76, k_76, n_76⟩, -, Y_76, S_76, G_76, ⟨Lc_76, hQ_76, l_76, y_76, z_76, R_76⟩, st_76⟩ := X_61.specialBackS hx (y := M25) rfl hown_35 (mvT hZ_35 (w9 hw)) (mvT hZ_35 (w10 hw)) (mvT hZ_35 (w11 hw)) (by decide) (backOfSH (vm0 := T_35.vm) (W := 1) (rm_si1_0 l Z a0 hw [] G1 kF kA HG T_61.heap n0 O_75 a_55 a_62 k_63 E_71 F_72 F_73 (Nat.le_trans (own_n0 O_74) (Nat.le_of_eq g_56.symm)) g_67) hZ_35 (w11 hw) (w3 hw) (by decide) (by decide) hEL CH_69) (g := (mkF m 37 #[.val (.int p0), .val (.int p1), .val (.int p2), .val (.int p3), .val (.int (0 : Int32)), .val (.ref a_15), .unset, .unset, .unset] [(.ref a_62), (.ref a_55), (.ref a_55)])) rfl (by rw [hml]; rfl) (Steps.refl _) (a := a_55) (argsL := [(.ref a_62)]) (rest := [(.ref a_55)]) (lenOf pd_350 rfl) rfl (by show 2 * 0 + _ ≤ _; exact Nat.le_of_eq rfl) (hb hby at_37) (fun _ _ => ⟨rfl, rfl, (by decide : 8 + 4 ≤ _), (by decide : 16 + 8 ≤ _)⟩)
    dsimp only [Pt.U, Pt.locs, Pt.cells, Pt.slots] at Y_76 S_76 G_76 l_76 y_76 z_76 st_76 hQ_76 R_76
    subst l_76 y_76 z_76
    obtain ⟨X_76, hS_76, hZ_76, hown_76⟩ := rebS hS_35 (n1 := T_61.heap.size) (by rw [show T_61.heap = T_61.heap from rfl]; exact (Nat.le_trans (Nat.le_refl _) (Nat.le_trans E_51.1 K_65.1))) Y_76 S_76 G_76 hZ_35 hown_35
    obtain ⟨a_77, k_78, rfl, N_79, K_80, g_81, g_82, g_83, g_84⟩ := hQ_76
    have N_85 := Fr.app N_68 N_79
    have CH_86 : CHv Z consts_1 T_76.vm T_76.heap := R_76.1
    have CR_87 : CHr Z consts_1 s.vm h0 T_76.vm T_76.heap := CR_70.trans R_76
    have O_88 : Old Z n0 T_76.heap := (O_75.keep K_80 (allS (Nat.le_trans (own_n0 O_74) (Nat.le_of_eq g_56.symm)) all0))
    obtain ⟨_, _, ⟨T_89, L_89, k_89, n_89⟩, -, X_89, ⟨Lc_89, hQ_89, l_89, y_89, z_89⟩, st_89⟩ := Jvm.LawKit.callS X_76 hx (y := M292) hown_76 (mvT hZ_76 (w27 hw)) (mvT hZ_76 (w28 hw)) (mvT hZ_76 (w29 hw)) (mvT hZ_76 (w30 hw)) (by decide) (backOf (W := 0) (rm_forb l Z a0 hw [] G1 kF kA HG T_76.heap n0 O_88 a_15 ) hZ_76 (w30 hw) (w29 hw) (by decide) (by decide)) (g := (mkF m 44 #[.val (.int p0), .val (.int p1), .val (.int p2), .val (.int p3), .val (.int (0 : Int32)), .val (.ref a_15), .val (.ref a_55), .unset, .unset] [(.ref a_15)])) rfl (by rw [hml]; rfl) (argsL := [(.ref a_15)]) (rest := []) (lenOf pd_354 rfl) rfl (by show 2 * 0 + _ ≤ _; exact Nat.le_of_eq rfl) (hb hby at_44) (fun _ _ => ⟨rfl, rfl, (by decide : 12 + 1 ≤ _), (by decide : 24 + 3 ≤ _)⟩)
    dsimp only [Pt.U, Pt.locs, Pt.cells, Pt.slots] at X_89 l_89 y_89 z_89 st_89 hQ_89
    subst l_89 y_89 z_89
    obtain ⟨a_90, rfl, N_91, K_92, g_93, g_94, g_95, g_96⟩ := hQ_89
    have N_97 := Fr.app N_85 N_91
    have CH_98 : CHv Z consts_1 T_76.vm T_89.heap := CHv.keep K_92 sf0 CH_86
    have CR_99 : CHr Z consts_1 s.vm h0 T_76.vm T_89.heap := CR_87.trans (CHr.keep K_92 sf0 CH_86)
    have O_100 : Old Z n0 T_89.heap := (O_88.keep K_92 all0)
    obtain ⟨q_102, q_103, q_104, q_105, q_106⟩ := isOf (T := T_89) hZ_76 rfl g_94
    obtain ⟨_, _, ⟨T_101, L_101, k_101, n_101⟩, -, X_101, ⟨Lc_101, hQ_101, l_101, y_101, z_101⟩, st_101⟩ := X_89.virtualBack hx (y := M307) (z := M307) hown_76 (mvT hZ_76 (w46 hw)) (mvT hZ_76 (w47 hw)) (notFace_of_selects (args := #[]) (mvT hZ_76 (w49 hw))) (mvT hZ_76 (w49 hw)) (mvT hZ_76 (w48 hw)) (by decide) (backOf (W := 0) (rm_reason l Z a0 hw [] G1 kF kA HG T_89.heap n0 O_100 a_90 a_15 g_96) hZ_76 (w50 hw) (w29 hw) (by decide) (by decide)) q_104 q_106 (g := (mkF m 51 #[.val (.int p0), .val (.int p1), .val (.int p2), .val (.int p3), .val (.int (0 : Int32)), .val (.ref a_15), .val (.ref a_55), .val (.ref a_90), .unset] [(.ref a_90)])) rfl (by rw [hml]; rfl) (Steps.refl _) (argsL := []) (rest := []) (lenOf pd_358 rfl) rfl (by show 2 * 0 + _ ≤ _; exact Nat.le_of_eq rfl) (hb hby at_51) (fun _ _ => ⟨rfl, rfl, (by decide : 13 + 0 ≤ _), (by decide : 27 + 0 ≤ _)⟩)
    dsimp only [Pt.U, Pt.locs, Pt.cells, Pt.slots] at X_101 l_101 y_101 z_101 st_101 hQ_101
    subst l_101 y_101 z_101
    obtain ⟨rfl, N_107, e_108⟩ := hQ_101
    have N_109 := Fr.app N_97 N_107
    have e_110 : T_101.heap = T_89.heap := e_108
    obtain ⟨q_112, q_113, q_114, q_115, q_116⟩ := isOf (T := T_101) hZ_76 e_110 g_94
    obtain ⟨_, _, ⟨T_111, L_111, k_111, n_111⟩, -, X_111, ⟨Lc_111, hQ_111, l_111, y_111, z_111⟩, st_111⟩ := X_101.virtualBack hx (y := M311) (z := M311) hown_76 (mvT hZ_76 (w51 hw)) (mvT hZ_76 (w52 hw)) (notFace_of_selects (args := #[]) (mvT hZ_76 (w54 hw))) (mvT hZ_76 (w54 hw)) (mvT hZ_76 (w53 hw)) (by decide) (backOf (W := 0) (rm_kind l Z a0 hw [] G1 kF kA HG T_89.heap n0 O_100 a_90 g_95) hZ_76 (w55 hw) (w29 hw) (by decide) (by decide)) q_114 q_116 (g := (mkF m 58 #[.val (.int p0), .val (.int p1), .val (.int p2), .val (.int p3), .val (.int (0 : Int32)), .val (.ref a_15), .val (.ref a_55), .val (.ref a_90), .val (.ref a_15)] [(.ref a_90)])) rfl (by rw [hml]; rfl) (Steps.refl _) (argsL := []) (rest := []) (lenOf pd_364 rfl) rfl (by show 2 * 0 + _ ≤ _; exact Nat.le_of_eq rfl) (hb hby at_58) (fun _ _ => ⟨rfl, e_110, (by decide : 13 + 0 ≤ _), (by decide : 27 + 0 ≤ _)⟩)
    dsimp only [Pt.U, Pt.locs, Pt.cells, Pt.slots] at X_111 l_111 y_111 z_111 st_111 hQ_111
    subst l_111 y_111 z_111
    obtain ⟨rfl, N_117, e_118⟩ := hQ_111
    have N_119 := Fr.app N_109 N_117
    have e_120 : T_111.heap = T_89.heap := e_118
    obtain ⟨T_121, X_122, e_123, st_124⟩ := getS X_111 hx hZ_76 (host := "") hown_76 (w56 hw) Via.refl e_120 (O2.ext O_100.2) (g := (mkF m 61 #[.val (.int p0), .val (.int p1), .val (.int p2), .val (.int p3), .val (.int (0 : Int32)), .val (.ref a_15), .val (.ref a_55), .val (.ref a_90), .val (.ref a_15)] [(.ref kF)])) rfl (hb hby at_61)
    obtain ⟨q_126, q_127, q_128, q_129, q_130⟩ := isOf (T := T_121) hZ_76 e_123 g_94
    obtain ⟨_, _, ⟨T_125, L_125, k_125, n_125⟩, -, X_125, ⟨Lc_125, hQ_125, l_125, y_125, z_125⟩, st_125⟩ := X_122.virtualBack hx (y := M321) (z := M321) hown_76 (mvT hZ_76 (w57 hw)) (mvT hZ_76 (w58 hw)) (notFace_of_selects (args := #[]) (mvT hZ_76 (w60 hw))) (mvT hZ_76 (w60 hw)) (mvT hZ_76 (w59 hw)) (by decide) (backOf (W := 0) (rm_dst l Z a0 hw [] G1 kF kA HG T_89.heap n0 O_100 a_90 g_95) hZ_76 (w61 hw) (w29 hw) (by decide) (by decide)) q_128 q_130 (g := (mkF m 69 #[.val (.int p0), .val (.int p1), .val (.int p2), .val (.int p3), .val (.int (0 : Int32)), .val (.ref a_15), .val (.ref a_55), .val (.ref a_90), .val (.ref a_15)] [(.ref a_90)])) rfl (by rw [hml]; rfl) (Steps.refl _) (argsL := []) (rest := []) (lenOf pd_326 rfl) rfl (by show 2 * 0 + _ ≤ _; exact Nat.le_of_eq rfl) (hb hby at_69) (fun _ _ => ⟨rfl, e_123, (by decide : 13 + 0 ≤ _), (by decide : 27 + 0 ≤ _)⟩)
    dsimp only [Pt.U, Pt.locs, Pt.cells, Pt.slots] at X_125 l_125 y_125 z_125 st_125 hQ_125
    subst l_125 y_125 z_125
    obtain ⟨rfl, N_131, e_132⟩ := hQ_125
    have N_133 := Fr.app N_119 N_131
    have e_134 : T_125.heap = T_89.heap := e_132
    obtain ⟨q_136, q_137, q_138, q_139, q_140⟩ := isOf (T := T_125) hZ_76 e_134 g_94
    obtain ⟨_, _, ⟨T_135, L_135, k_135, n_135⟩, -, X_135, ⟨Lc_135, hQ_135, l_135, y_135, z_135⟩, st_135⟩ := X_125.virtualBack hx (y := M333) (z := M333) hown_76 (mvT hZ_76 (w69 hw)) (mvT hZ_76 (w70 hw)) (notFace_of_selects (args := #[]) (mvT hZ_76 (w72 hw))) (mvT hZ_76 (w72 hw)) (mvT hZ_76 (w71 hw)) (by decide) (backOf (W := 0) (rm_allowed l Z a0 hw [] G1 kF kA HG T_89.heap n0 O_100 a_90 g_95) hZ_76 (w73 hw) (w29 hw) (by decide) (by decide)) q_138 q_140 (g := (mkF m 80 #[.val (.int p0), .val (.int p1), .val (.int p2), .val (.int p3), .val (.int (0 : Int32)), .val (.ref a_15), .val (.ref a_55), .val (.ref a_90), .val (.ref a_15)] [(.ref a_90)])) rfl (by rw [hml]; rfl) (Steps.refl _) (argsL := []) (rest := []) (lenOf pd_376 rfl) rfl (by show 2 * 0 + _ ≤ _; exact Nat.le_of_eq rfl) (hb hby at_80) (fun _ _ => ⟨rfl, e_134, (by decide : 13 + 0 ≤ _), (by decide : 27 + 0 ≤ _)⟩)
    dsimp only [Pt.U, Pt.locs, Pt.cells, Pt.slots] at X_135 l_135 y_135 z_135 st_135 hQ_135
    subst l_135 y_135 z_135
    obtain ⟨rfl, N_141, e_142⟩ := hQ_135
    have N_143 := Fr.app N_133 N_141
    have e_144 : T_135.heap = T_89.heap := e_142
    have E_145 : Exa Z T_89.heap a_15 "java/lang/String" := ((((g_40.ext E_51).keep K_65).keep K_80).keep K_92)
    have F_146 : Fld Z T_89.heap a_15 "java/lang/String" "coder" "B" (.int (0 : Int32)) := ((((g_41.ext E_51).keep K_65 nin0).keep K_80 (ninS (Nat.ne_of_lt (Nat.lt_of_lt_of_le A_12.lt (Nat.le_trans (Nat.le_trans K_25.1 K_39.1) (Nat.le_of_eq g_56.symm)))) nin0)).keep K_92 nin0)
    have F_147 : Fld Z T_89.heap a_15 "java/lang/String" "value" "[B" (.ref a_36) := ((((g_42.ext E_51).keep K_65 nin0).keep K_80 (ninS (Nat.ne_of_lt (Nat.lt_of_lt_of_le A_12.lt (Nat.le_trans (Nat.le_trans K_25.1 K_39.1) (Nat.le_of_eq g_56.symm)))) nin0)).keep K_92 nin0)
    have V_148 : Arv Z T_89.heap a_36 k_37 .byte (0 : Int32) [] (.int (0 : Int32)) := ((((g_43.ext E_51).keep K_65 nin0).keep K_80 (ninS (Nat.ne_of_lt (Nat.lt_of_lt_of_le g_43.lt (Nat.le_trans (Nat.le_refl _) (Nat.le_of_eq g_56.symm)))) nin0)).keep K_92 nin0)
    obtain ⟨q_150, q_151, q_152, q_153, q_154⟩ := isOf (T := T_135) hZ_76 e_144 E_145
    obtain ⟨_, _, ⟨T_149, L_149, k_149, n_149⟩, -, X_149, ⟨Lc_149, hQ_149, l_149, y_149, z_149⟩, st_149⟩ := X_135.virtualBack hx (y := M132) (z := M132) hown_76 (mvT hZ_76 (w76 hw)) (mvT hZ_76 (w77 hw)) (notFace_of_selects (args := #[]) (mvT hZ_76 (w79 hw))) (mvT hZ_76 (w79 hw)) (mvT hZ_76 (w78 hw)) (by decide) (backOf (W := 0) (rm_lenany l Z a0 hw [] G1 kF kA HG T_89.heap n0 O_100 a_15 a_36 k_37 (0 : Int32) [] E_145 F_146 F_147 V_148) hZ_76 (w80 hw) (w3 hw) (by decide) (by decide)) q_152 q_154 (g := (mkF m 93 #[.val (.int p0), .val (.int p1), .val (.int p2), .val (.int p3), .val (.int (0 : Int32)), .val (.ref a_15), .val (.ref a_55), .val (.ref a_90), .val (.ref a_15)] [(.ref a_15)])) rfl (by rw [hml]; rfl) (Steps.refl _) (argsL := []) (rest := []) (lenOf pd_326 rfl) rfl (by show 2 * 0 + _ ≤ _; exact Nat.le_of_eq rfl) (hb hby at_93) (fun _ _ => ⟨rfl, e_144, (by decide : 13 + 0 ≤ _), (by decide : 27 + 0 ≤ _)⟩)
    dsimp only [Pt.U, Pt.locs, Pt.cells, Pt.slots] at X_149 l_149 y_149 z_149 st_149 hQ_149
    subst l_149 y_149 z_149
    obtain ⟨rfl, N_155, e_156⟩ := hQ_149
    have N_157 := Fr.app N_143 N_155
    have e_158 : T_149.heap = T_89.heap := e_156
    have E_159 : Exa Z T_89.heap a_55 "java/lang/String" := (g_81.keep K_92)
    have F_160 : Fld Z T_89.heap a_55 "java/lang/String" "coder" "B" (.int (0 : Int32)) := (g_82.keep K_92 nin0)
    have F_161 : Fld Z T_89.heap a_55 "java/lang/String" "value" "[B" (.ref a_77) := (g_83.keep K_92 nin0)
    have V_162 : Arv Z T_89.heap a_77 k_78 .byte (0 : Int32) [] (.int (0 : Int32)) := (g_84.keep K_92 nin0)
    obtain ⟨q_164, q_165, q_166, q_167, q_168⟩ := isOf (T := T_149) hZ_76 e_158 E_159
    obtain ⟨_, _, ⟨T_163, L_163, k_163, n_163⟩, -, X_163, ⟨Lc_163, hQ_163, l_163, y_163, z_163⟩, st_163⟩ := X_149.virtualBack hx (y := M162) (z := M162) hown_76 (mvT hZ_76 (w87 hw)) (mvT hZ_76 (w88 hw)) (notFace_of_selects (args := #[]) (mvT hZ_76 (w90 hw))) (mvT hZ_76 (w90 hw)) (mvT hZ_76 (w89 hw)) (by decide) (backOf (W := 0) (rm_eq_0 l Z a0 hw [] G1 kF kA HG T_89.heap n0 O_100 a_55 a_77 k_78 a_15 a_36 k_37 E_159 F_160 F_161 V_162 E_145 F_146 F_147 V_148 (Ne.symm (Nat.ne_of_lt (Nat.lt_of_lt_of_le A_12.lt (Nat.le_trans (Nat.le_trans K_25.1 K_39.1) (Nat.le_of_eq g_56.symm)))))) hZ_76 (w91 hw) (w3 hw) (by decide) (by decide)) q_166 q_168 (g := (mkF m 105 #[.val (.int p0), .val (.int p1), .val (.int p2), .val (.int p3), .val (.int (0 : Int32)), .val (.ref a_15), .val (.ref a_55), .val (.ref a_90), .val (.ref a_15)] [(.ref a_15), (.ref a_55)])) rfl (by rw [hml]; rfl) (Steps.refl _) (argsL := [(.ref a_15)]) (rest := []) (lenOf pd_387 rfl) rfl (by show 2 * 0 + _ ≤ _; exact Nat.le_of_eq rfl) (hb hby at_105) (fun _ _ => ⟨rfl, e_158, (by decide : 13 + 0 ≤ _), (by decide : 27 + 0 ≤ _)⟩)
    dsimp only [Pt.U, Pt.locs, Pt.cells, Pt.slots] at X_163 l_163 y_163 z_163 st_163 hQ_163
    subst l_163 y_163 z_163
    obtain ⟨rfl, N_169, e_170⟩ := hQ_163
    have N_171 := Fr.app N_157 N_169
    have e_172 : T_163.heap = T_89.heap := e_170
    have C_173 : Steps p.tables e below S0 (T_163.setTop (mkF m 116 #[.val (.int p0), .val (.int p1), .val (.int p2), .val (.int p3), .val (.int (0 : Int32)), .val (.ref a_15), .val (.ref a_55), .val (.ref a_90), .val (.ref a_15)] [(.int (1 : Int32))])) := by
      refine C_6.trans ?_
      refine XS.istore X0.here hx rfl (hb hby at_6) rfl (l' := #[.val (.int p0), .val (.int p1), .val (.int p2), .val (.int p3), .val (.int (0 : Int32)), .unset, .unset, .unset, .unset]) rfl ?_
      refine st_14 _ ?_
      refine XS.dup X_9.here hx rfl (hb hby at_11) rfl rfl ?_
      refine XS.iload X_9.here hx rfl (hb hby at_12) rfl ?_
      refine XS.iloadN X_9.here hx rfl (hb hby at_14) rfl ?_
      refine XS.iloadN X_9.here hx rfl (hb hby at_15) rfl ?_
      refine XS.iloadN X_9.here hx rfl (hb hby at_16) rfl ?_
      refine st_21 _ ?_
      show Steps p.tables e below (T_21.setTop (mkF m 20 #[.val (.int p0), .val (.int p1), .val (.int p2), .val (.int p3), .val (.int (0 : Int32)), .unset, .unset, .unset, .unset] [(.ref a_22), (.ref a_15), (.ref a_15)])) _
      refine st_35.trans ?_
      refine XS.astore X_35.here hx rfl (hb hby at_23) rfl rfl (l' := #[.val (.int p0), .val (.int p1), .val (.int p2), .val (.int p3), .val (.int (0 : Int32)), .val (.ref a_15), .unset, .unset, .unset]) rfl ?_
      refine st_54 _ ?_
      refine XS.dup X_49.here hx rfl (hb hby at_28) rfl rfl ?_
      refine XS.iload X_49.here hx rfl (hb hby at_29) rfl ?_
      refine XS.iloadN X_49.here hx rfl (hb hby at_31) rfl ?_
      refine XS.iloadN X_49.here hx rfl (hb hby at_32) rfl ?_
      refine XS.iloadN X_49.here hx rfl (hb hby at_33) rfl ?_
      show Steps p.tables e below (T_47.setTop (mkF m 34 #[.val (.int p0), .val (.int p1), .val (.int p2), .val (.int p3), .val (.int (0 : Int32)), .val (.ref a_15), .unset, .unset, .unset] [(.int p3), (.int p2), (.int p1), (.int (0 : Int32)), (.ref a_55), (.ref a_55)])) _
      refine st_61 _ ?_
      refine st_76.trans ?_
      refine XS.astore X_76.here hx rfl (hb hby at_40) rfl rfl (l' := #[.val (.int p0), .val (.int p1), .val (.int p2), .val (.int p3), .val (.int (0 : Int32)), .val (.ref a_15), .val (.ref a_55), .unset, .unset]) rfl ?_
      refine XS.aload X_76.here hx rfl (hb hby at_42) rfl rfl ?_
      refine st_89 _ ?_
      refine XS.astore X_89.here hx rfl (hb hby at_47) rfl rfl (l' := #[.val (.int p0), .val (.int p1), .val (.int p2), .val (.int p3), .val (.int (0 : Int32)), .val (.ref a_15), .val (.ref a_55), .val (.ref a_90), .unset]) rfl ?_
      refine XS.aload X_89.here hx rfl (hb hby at_49) rfl rfl ?_
      refine st_101.trans ?_
      show Steps p.tables e below (T_101.setTop (mkF m 54 #[.val (.int p0), .val (.int p1), .val (.int p2), .val (.int p3), .val (.int (0 : Int32)), .val (.ref a_15), .val (.ref a_55), .val (.ref a_90), .unset] [(.ref a_15)])) _
      refine XS.astore X_101.here hx rfl (hb hby at_54) rfl rfl (l' := #[.val (.int p0), .val (.int p1), .val (.int p2), .val (.int p3), .val (.int (0 : Int32)), .val (.ref a_15), .val (.ref a_55), .val (.ref a_90), .val (.ref a_15)]) rfl ?_
      refine XS.aload X_101.here hx rfl (hb hby at_56) rfl rfl ?_
      refine st_111.trans ?_
      refine st_124 _ ?_
      refine acmp X_122 hx rfl (cd := .ne) (x := (.ref kF)) (y := (.ref kF)) rfl rfl (same := true) (pc0 := 64) (pc' := 67) rfl (hb hby at_64) rfl (decide_eq_true rfl) (by decide) (by decide) ?_
      refine XS.aload X_122.here hx rfl (hb hby at_67) rfl rfl ?_
      refine st_125.trans ?_
      refine XS.sipush X_125.here hx rfl (hb hby at_72) ?_
      show Steps p.tables e below (T_125.setTop (mkF m 75 #[.val (.int p0), .val (.int p1), .val (.int p2), .val (.int p3), .val (.int (0 : Int32)), .val (.ref a_15), .val (.ref a_55), .val (.ref a_90), .val (.ref a_15)] [(.int (403 : Int32)), (.int (403 : Int32))])) _
      refine XS.icmpNo X_125.here hx rfl (hb hby at_75) rfl (by decide) ?_
      refine XS.aload X_125.here hx rfl (hb hby at_78) rfl rfl ?_
      refine st_135.trans ?_
      refine XS.ifNo X_135.here hx rfl (hb hby at_83) rfl (by decide) ?_
      refine XS.aload X_135.here hx rfl (hb hby at_86) rfl rfl ?_
      refine XS.ifnullNo X_135.here hx rfl (hb hby at_88) rfl ?_
      refine XS.aload X_135.here hx rfl (hb hby at_91) rfl rfl ?_
      refine st_149.trans ?_
      show Steps p.tables e below (T_149.setTop (mkF m 96 #[.val (.int p0), .val (.int p1), .val (.int p2), .val (.int p3), .val (.int (0 : Int32)), .val (.ref a_15), .val (.ref a_55), .val (.ref a_90), .val (.ref a_15)] [(.int (0 : Int32))])) _
      refine XS.iload X_149.here hx rfl (hb hby at_96) rfl ?_
      refine XS.icmpNo X_149.here hx rfl (hb hby at_98) rfl (by decide) ?_
      refine XS.aload X_149.here hx rfl (hb hby at_101) rfl rfl ?_
      refine XS.aload X_149.here hx rfl (hb hby at_103) rfl rfl ?_
      refine st_163.trans ?_
      refine XS.ifNo X_163.here hx rfl (hb hby at_108) rfl (by decide) ?_
      refine XS.iconst X_163.here hx rfl (hb hby at_111) ?_
      refine XS.goto X_163.here hx rfl (pc0 := 112) (pc' := 116) rfl (hb hby at_112) (by decide) (by decide) ?_
      show Steps p.tables e below (T_163.setTop (mkF m 116 #[.val (.int p0), .val (.int p1), .val (.int p2), .val (.int p3), .val (.int (0 : Int32)), .val (.ref a_15), .val (.ref a_55), .val (.ref a_90), .val (.ref a_15)] [(.int (1 : Int32))])) _
      exact Steps.refl _
    have K_174 : Keep h0 T_89.heap [] := ((((((((Keep.refl _ _).ext E_11).trans K_25 all0).trans K_39 (allS (Or.inr (Nat.le_trans (Nat.le_refl _) (Nat.le_of_eq g_16.symm))) all0)).ext E_51).trans K_65 all0).trans K_80 (allS (Or.inr (Nat.le_trans (Nat.le_trans (Nat.le_trans E_11.1 K_25.1) K_39.1) (Nat.le_of_eq g_56.symm))) all0)).trans K_92 all0)
    obtain ⟨fs, hr, hrun, hended, hRE⟩ := X_163.leaveW hS_76 (by rw [show T_163.heap = T_89.heap from e_172]; exact (Nat.le_trans (Nat.le_refl _) K_92.1)) (v := some (.int (1 : Int32))) (fun h => by rw [Bd.returns] at h; cases h)
    refine ⟨_, _, C_173.trans (retN X_163 hx (t := .boolean) Bd.returns (by simp) (hb hby at_116) hr), hrun, hended, _, _, rfl, ?_, ?_, hRE.1, hRE.2.1, hRE.2.2.1, hRE.2.2.2.mono (by decide) (by decide)⟩
    · show Q_law Z G1 kF kA p0 p1 p2 p3 h0 n0 (some (.int (1 : Int32))) T_163.heap _
      rw [e_172]
      exact ⟨rfl, N_171, K_174⟩
    · show CHr Z consts_1 s.vm s.heap T_163.vm T_163.heap
      rw [hh, show T_163.heap = T_89.heap from e_172]
      exact CR_99.trans (CHv.at X_163 hZ_76 hEL CH_98)
  · skip
    have C_175 : Steps p.tables e below S0 (s₁.setTop (mkF m 6 #[.val (.int p0), .val (.int p1), .val (.int p2), .val (.int p3), .unset, .unset, .unset, .unset, .unset] [(.int (1 : Int32))])) := by have q := C_1; rw [hn_3] at q; exact q
    obtain ⟨T_176, h_177, X_178, e_179, E_180, A_181, D_182, U_186, st_183⟩ := newO X0 hx hZ hown (w1 hw) (w2 hw) (w3 hw) e0 (g := (mkF m 8 #[.val (.int p0), .val (.int p1), .val (.int p2), .val (.int p3), .val (.int (1 : Int32)), .unset, .unset, .unset, .unset] [])) rfl (hb hby at_8) (by decide) (by decide)
    obtain ⟨a_184, g_185⟩ : ∃ z, z = h0.size := ⟨_, rfl⟩
    rw [← g_185] at A_181 D_182 st_183 U_186
    have CH_187 : CHv Z consts_1 s.vm h_177 := CHv.ext E_180 CH0
    have CR_188 : CHr Z consts_1 s.vm h0 s.vm h_177 := CR0.trans (CHr.ext E_180 CH0)
    have O_189 : Old Z n0 h_177 := (X00.ext E_180)
    obtain ⟨_, _, ⟨T_190, L_190, k_190, n_190⟩, -, X_190, ⟨Lc_190, hQ_190, l_190, y_190, z_190⟩, st_190⟩ := Jvm.LawKit.callS X_178 hx (y := M203) hown (mvT hZ (w4 hw)) (mvT hZ (w5 hw)) (mvT hZ (w6 hw)) (mvT hZ (w7 hw)) (by decide) (backOf (W := 2) (rm_mk_1 l Z a0 hw [] G1 kF kA HG h_177 n0 O_189 p1 p2 p3 ) hZ (w7 hw) (w6 hw) (by decide) (by decide)) (g := (mkF m 17 #[.val (.int p0), .val (.int p1), .val (.int p2), .val (.int p3), .val (.int (1 : Int32)), .unset, .unset, .unset, .unset] [(.int p3), (.int p2), (.int p1), (.int (1 : Int32)), (.ref a_184), (.ref a_184)])) rfl (by rw [hml]; rfl) (argsL := [(.int (1 : Int32)), (.int p1), (.int p2), (.int p3)]) (rest := [(.ref a_184), (.ref a_184)]) (lenOf pd_346 rfl) rfl (by show 2 * 0 + _ ≤ _; exact Nat.le_of_eq rfl) (hb hby at_17) (fun _ _ => ⟨rfl, e_179, (by decide : 1 + 1 ≤ _), (by decide : 4 + 1 ≤ _)⟩)
    dsimp only [Pt.U, Pt.locs, Pt.cells, Pt.slots] at X_190 l_190 y_190 z_190 st_190 hQ_190
    subst l_190 y_190 z_190
    obtain ⟨a_191, k_192, rfl, N_193, K_194, g_195, g_196⟩ := hQ_190
    have N_197 := Fr.app N0 N_193
    have CH_198 : CHv Z consts_1 s.vm T_190.heap := CHv.keep K_194 sf0 CH_187
    have CR_199 : CHr Z consts_1 s.vm h0 s.vm T_190.heap := CR_188.trans (CHr.keep K_194 sf0 CH_187)
    have E_200 : Exa Z T_190.heap a_184 "java/lang/String" := (A_181.keep K_194)
    have F_201 : Fld Z T_190.heap a_184 "java/lang/String" "value" "[B" .null := ((D_182 (Or.inr (w21 hw)) (ty := (.array .byte)) (by decide)).keep K_194 nin0)
    have F_202 : Fld Z T_190.heap a_184 "java/lang/String" "coder" "B" (.int (0 : Int32)) := ((D_182 (Or.inr (w22 hw)) (ty := .byte) (by decide)).keep K_194 nin0)
    have O_203 : Old Z n0 T_190.heap := (O_189.keep K_194 all0)
    obtain ⟨_, _, ⟨T_204, L_204, k_204, n_204⟩, -, X_204, ⟨Lc_204, hQ_204, l_204, y_204, z_204⟩, st_204⟩ := X_190.specialBack hx (y := M25) rfl hown (mvT hZ (w9 hw)) (mvT hZ (w10 hw)) (mvT hZ (w11 hw)) (by decide) (backOf (W := 1) (rm_si1_1 l Z a0 hw [] G1 kF kA HG T_190.heap n0 O_203 a_184 a_191 k_192 (own_ch p1) E_200 F_201 F_202 (Nat.le_trans (own_n0 X00) (Nat.le_of_eq g_185.symm)) g_196 (own_ch_hi p1)) hZ (w11 hw) (w3 hw) (by decide) (by decide)) (g := (mkF m 20 #[.val (.int p0), .val (.int p1), .val (.int p2), .val (.int p3), .val (.int (1 : Int32)), .unset, .unset, .unset, .unset] [(.ref a_191), (.ref a_184), (.ref a_184)])) rfl (by rw [hml]; rfl) (Steps.refl _) (a := a_184) (argsL := [(.ref a_191)]) (rest := [(.ref a_184)]) (lenOf pd_350 rfl) rfl (by show 2 * 0 + _ ≤ _; exact Nat.le_of_eq rfl) (hb hby at_20) (fun _ _ => ⟨rfl, rfl, (by decide : 2 + 1 ≤ _), (by decide : 5 + 1 ≤ _)⟩)
    dsimp only [Pt.U, Pt.locs, Pt.cells, Pt.slots] at X_204 l_204 y_204 z_204 st_204 hQ_204
    subst l_204 y_204 z_204
    obtain ⟨a_205, k_206, rfl, N_207, K_208, g_209, g_210, g_211, g_212, g_213⟩ := hQ_204
    have N_214 := Fr.app N_197 N_207
    have CH_215 : CHv Z consts_1 s.vm T_204.heap := CHv.keep K_208 (sfS (own_safe_null hZ.alike E_200 F_201) sf0) CH_198
    have CR_216 : CHr Z consts_1 s.vm h0 s.vm T_204.heap := CR_199.trans (CHr.keep K_208 (sfS (own_safe_null hZ.alike E_200 F_201) sf0) CH_198)
    obtain ⟨T_217, h_218, X_219, e_220, E_221, A_222, D_223, U_227, st_224⟩ := newO X_204 hx hZ hown (w1 hw) (w2 hw) (w3 hw) rfl (g := (mkF m 25 #[.val (.int p0), .val (.int p1), .val (.int p2), .val (.int p3), .val (.int (1 : Int32)), .val (.ref a_184), .unset, .unset, .unset] [])) rfl (hb hby at_25) (by decide) (by decide)
    obtain ⟨a_225, g_226⟩ : ∃ z, z = T_204.heap.size := ⟨_, rfl⟩
    rw [← g_226] at A_222 D_223 st_224 U_227
    have CH_228 : CHv Z consts_1 s.vm h_218 := CHv.ext E_221 CH_215
    have CR_229 : CHr Z consts_1 s.vm h0 s.vm h_218 := CR_216.trans (CHr.ext E_221 CH_215)
    have O_230 : Old Z n0 h_218 := ((O_203.keep K_208 (allS (Nat.le_trans (own_n0 X00) (Nat.le_of_eq g_185.symm)) all0)).ext E_221)
    obtain ⟨_, _, ⟨T_231, L_231, k_231, n_231⟩, -, X_231, ⟨Lc_231, hQ_231, l_231, y_231, z_231⟩, st_231⟩ := Jvm.LawKit.callS X_219 hx (y := M203) hown (mvT hZ (w4 hw)) (mvT hZ (w5 hw)) (mvT hZ (w6 hw)) (mvT hZ (w7 hw)) (by decide) (backOf (W := 2) (rm_mk_1 l Z a0 hw [] G1 kF kA HG h_218 n0 O_230 p1 p2 p3 ) hZ (w7 hw) (w6 hw) (by decide) (by decide)) (g := (mkF m 34 #[.val (.int p0), .val (.int p1), .val (.int p2), .val (.int p3), .val (.int (1 : Int32)), .val (.ref a_184), .unset, .unset, .unset] [(.int p3), (.int p2), (.int p1), (.int (1 : Int32)), (.ref a_225), (.ref a_225)])) rfl (by rw [hml]; rfl) (argsL := [(.int (1 : Int32)), (.int p1), (.int p2), (.int p3)]) (rest := [(.ref a_225), (.ref a_225)]) (lenOf pd_346 rfl) rfl (by show 2 * 0 + _ ≤ _; exact Nat.le_of_eq rfl) (hb hby at_34) (fun _ _ => ⟨rfl, e_220, (by decide : 4 + 1 ≤ _), (by decide : 10 + 1 ≤ _)⟩)
    dsimp only [Pt.U, Pt.locs, Pt.cells, Pt.slots] at X_231 l_231 y_231 z_231 st_231 hQ_231
    subst l_231 y_231 z_231
    obtain ⟨a_232, k_233, rfl, N_234, K_235, g_236, g_237⟩ := hQ_231
    have N_238 := Fr.app N_214 N_234
    have CH_239 : CHv Z consts_1 s.vm T_231.heap := CHv.keep K_235 sf0 CH_228
    have CR_240 : CHr Z consts_1 s.vm h0 s.vm T_231.heap := CR_229.trans (CHr.keep K_235 sf0 CH_228)
    have E_241 : Exa Z T_231.heap a_225 "java/lang/String" := (A_222.keep K_235)
    have F_242 : Fld Z T_231.heap a_225 "java/lang/String" "value" "[B" .null := ((D_223 (Or.inr (w21 hw)) (ty := (.array .byte)) (by decide)).keep K_235 nin0)
    have F_243 : Fld Z T_231.heap a_225 "java/lang/String" "coder" "B" (.int (0 : Int32)) := ((D_223 (Or.inr (w22 hw)) (ty := .byte) (by decide)).keep K_235 nin0)
    have O_244 : Old Z n0 T_204.heap := (O_203.keep K_208 (allS (Nat.le_trans (own_n0 X00) (Nat.le_of_eq g_185.symm)) all0))
    have O_245 : Old Z n0 T_231.heap := (O_230.keep K_235 all0)
    obtain ⟨_, _, ⟨T_246, L_246, k_246, n_246⟩, -, X_246, ⟨Lc_246, hQ_246, l_246, y_246, z_246⟩, st_246⟩ := X_231.specialBack hx (y := M25) rfl hown (mvT hZ (w9 hw)) (mvT hZ (w10 hw)) (mvT hZ (w11 hw)) (by decide) (backOf (W := 1) (rm_si1_1 l Z a0 hw [] G1 kF kA HG T_231.heap n0 O_245 a_225 a_232 k_233 (own_ch p1) E_241 F_242 F_243 (Nat.le_trans (own_n0 O_244) (Nat.le_of_eq g_226.symm)) g_237 (own_ch_hi p1)) hZ (w11 hw) (w3 hw) (by decide) (by decide)) (g := (mkF m 37 #[.val (.int p0), .val (.int p1), .val (.int p2), .val (.int p3), .val (.int (1 : Int32)), .val (.ref a_184), .unset, .unset, .unset] [(.ref a_232), (.ref a_225), (.ref a_225)])) rfl (by rw [hml]; rfl) (Steps.refl _) (a := a_225) (argsL := [(.ref a_232)]) (rest := [(.ref a_225)]) (lenOf pd_350 rfl) rfl (by show 2 * 0 + _ ≤ _; exact Nat.le_of_eq rfl) (hb hby at_37) (fun _ _ => ⟨rfl, rfl, (by decide : 5 + 1 ≤ _), (by decide : 11 + 1 ≤ _)⟩)
    dsimp only [Pt.U, Pt.locs, Pt.cells, Pt.slots] at X_246 l_246 y_246 z_246 st_246 hQ_246
    subst l_246 y_246 z_246
    obtain ⟨a_247, k_248, rfl, N_249, K_250, g_251, g_252, g_253, g_254, g_255⟩ := hQ_246
    have N_256 := Fr.app N_238 N_249
    have CH_257 : CHv Z consts_1 s.vm T_246.heap := CHv.keep K_250 (sfS (own_safe_null hZ.alike E_241 F_242) sf0) CH_239
    have CR_258 : CHr Z consts_1 s.vm h0 s.vm T_246.heap := CR_240.trans (CHr.keep K_250 (sfS (own_safe_null hZ.alike E_241 F_242) sf0) CH_239)
    have O_259 : Old Z n0 T_246.heap := (O_245.keep K_250 (allS (Nat.le_trans (own_n0 O_244) (Nat.le_of_eq g_226.symm)) all0))
    obtain ⟨_, _, ⟨T_260, L_260, k_260, n_260⟩, -, X_260, ⟨Lc_260, hQ_260, l_260, y_260, z_260⟩, st_260⟩ := Jvm.LawKit.callS X_246 hx (y := M292) hown (mvT hZ (w27 hw)) (mvT hZ (w28 hw)) (mvT hZ (w29 hw)) (mvT hZ (w30 hw)) (by decide) (backOf (W := 0) (rm_forb l Z a0 hw [] G1 kF kA HG T_246.heap n0 O_259 a_184 ) hZ (w30 hw) (w29 hw) (by decide) (by decide)) (g := (mkF m 44 #[.val (.int p0), .val (.int p1), .val (.int p2), .val (.int p3), .val (.int (1 : Int32)), .val (.ref a_184), .val (.ref a_225), .unset, .unset] [(.ref a_184)])) rfl (by rw [hml]; rfl) (argsL := [(.ref a_184)]) (rest := []) (lenOf pd_354 rfl) rfl (by show 2 * 0 + _ ≤ _; exact Nat.le_of_eq rfl) (hb hby at_44) (fun _ _ => ⟨rfl, rfl, (by decide : 6 + 1 ≤ _), (by decide : 12 + 3 ≤ _)⟩)
    dsimp only [Pt.U, Pt.locs, Pt.cells, Pt.slots] at X_260 l_260 y_260 z_260 st_260 hQ_260
    subst l_260 y_260 z_260
    obtain ⟨a_261, rfl, N_262, K_263, g_264, g_265, g_266, g_267⟩ := hQ_260
    have N_268 := Fr.app N_256 N_262
    have CH_269 : CHv Z consts_1 s.vm T_260.heap := CHv.keep K_263 sf0 CH_257
    have CR_270 : CHr Z consts_1 s.vm h0 s.vm T_260.heap := CR_258.trans (CHr.keep K_263 sf0 CH_257)
    have O_271 : Old Z n0 T_260.heap := (O_259.keep K_263 all0)
    obtain ⟨q_273, q_274, q_275, q_276, q_277⟩ := isOf (T := T_260) hZ rfl g_265
    obtain ⟨_, _, ⟨T_272, L_272, k_272, n_272⟩, -, X_272, ⟨Lc_272, hQ_272, l_272, y_272, z_272⟩, st_272⟩ := X_260.virtualBack hx (y := M307) (z := M307) hown (mvT hZ (w46 hw)) (mvT hZ (w47 hw)) (notFace_of_selects (args := #[]) (mvT hZ (w49 hw))) (mvT hZ (w49 hw)) (mvT hZ (w48 hw)) (by decide) (backOf (W := 0) (rm_reason l Z a0 hw [] G1 kF kA HG T_260.heap n0 O_271 a_261 a_184 g_267) hZ (w50 hw) (w29 hw) (by decide) (by decide)) q_275 q_277 (g := (mkF m 51 #[.val (.int p0), .val (.int p1), .val (.int p2), .val (.int p3), .val (.int (1 : Int32)), .val (.ref a_184), .val (.ref a_225), .val (.ref a_261), .unset] [(.ref a_261)])) rfl (by rw [hml]; rfl) (Steps.refl _) (argsL := []) (rest := []) (lenOf pd_358 rfl) rfl (by show 2 * 0 + _ ≤ _; exact Nat.le_of_eq rfl) (hb hby at_51) (fun _ _ => ⟨rfl, rfl, (by decide : 7 + 0 ≤ _), (by decide : 15 + 0 ≤ _)⟩)
    dsimp only [Pt.U, Pt.locs, Pt.cells, Pt.slots] at X_272 l_272 y_272 z_272 st_272 hQ_272
    subst l_272 y_272 z_272
    obtain ⟨rfl, N_278, e_279⟩ := hQ_272
    have N_280 := Fr.app N_268 N_278
    have e_281 : T_272.heap = T_260.heap := e_279
    obtain ⟨q_283, q_284, q_285, q_286, q_287⟩ := isOf (T := T_272) hZ e_281 g_265
    obtain ⟨_, _, ⟨T_282, L_282, k_282, n_282⟩, -, X_282, ⟨Lc_282, hQ_282, l_282, y_282, z_282⟩, st_282⟩ := X_272.virtualBack hx (y := M311) (z := M311) hown (mvT hZ (w51 hw)) (mvT hZ (w52 hw)) (notFace_of_selects (args := #[]) (mvT hZ (w54 hw))) (mvT hZ (w54 hw)) (mvT hZ (w53 hw)) (by decide) (backOf (W := 0) (rm_kind l Z a0 hw [] G1 kF kA HG T_260.heap n0 O_271 a_261 g_266) hZ (w55 hw) (w29 hw) (by decide) (by decide)) q_285 q_287 (g := (mkF m 58 #[.val (.int p0), .val (.int p1), .val (.int p2), .val (.int p3), .val (.int (1 : Int32)), .val (.ref a_184), .val (.ref a_225), .val (.ref a_261), .val (.ref a_184)] [(.ref a_261)])) rfl (by rw [hml]; rfl) (Steps.refl _) (argsL := []) (rest := []) (lenOf pd_364 rfl) rfl (by show 2 * 0 + _ ≤ _; exact Nat.le_of_eq rfl) (hb hby at_58) (fun _ _ => ⟨rfl, e_281, (by decide : 7 + 0 ≤ _), (by decide : 15 + 0 ≤ _)⟩)
    dsimp only [Pt.U, Pt.locs, Pt.cells, Pt.slots] at X_282 l_282 y_282 z_282 st_282 hQ_282
    subst l_282 y_282 z_282
    obtain ⟨rfl, N_288, e_289⟩ := hQ_282
    have N_290 := Fr.app N_280 N_288
    have e_291 : T_282.heap = T_260.heap := e_289
    obtain ⟨T_292, X_293, e_294, st_295⟩ := getS X_282 hx hZ (host := "") hown (w56 hw) Via.refl e_291 (O2.ext O_271.2) (g := (mkF m 61 #[.val (.int p0), .val (.int p1), .val (.int p2), .val (.int p3), .val (.int (1 : Int32)), .val (.ref a_184), .val (.ref a_225), .val (.ref a_261), .val (.ref a_184)] [(.ref kF)])) rfl (hb hby at_61)
    obtain ⟨q_297, q_298, q_299, q_300, q_301⟩ := isOf (T := T_292) hZ e_294 g_265
    obtain ⟨_, _, ⟨T_296, L_296, k_296, n_296⟩, -, X_296, ⟨Lc_296, hQ_296, l_296, y_296, z_296⟩, st_296⟩ := X_293.virtualBack hx (y := M321) (z := M321) hown (mvT hZ (w57 hw)) (mvT hZ (w58 hw)) (notFace_of_selects (args := #[]) (mvT hZ (w60 hw))) (mvT hZ (w60 hw)) (mvT hZ (w59 hw)) (by decide) (backOf (W := 0) (rm_dst l Z a0 hw [] G1 kF kA HG T_260.heap n0 O_271 a_261 g_266) hZ (w61 hw) (w29 hw) (by decide) (by decide)) q_299 q_301 (g := (mkF m 69 #[.val (.int p0), .val (.int p1), .val (.int p2), .val (.int p3), .val (.int (1 : Int32)), .val (.ref a_184), .val (.ref a_225), .val (.ref a_261), .val (.ref a_184)] [(.ref a_261)])) rfl (by rw [hml]; rfl) (Steps.refl _) (argsL := []) (rest := []) (lenOf pd_326 rfl) rfl (by show 2 * 0 + _ ≤ _; exact Nat.le_of_eq rfl) (hb hby at_69) (fun _ _ => ⟨rfl, e_294, (by decide : 7 + 0 ≤ _), (by decide : 15 + 0 ≤ _)⟩)
    dsimp only [Pt.U, Pt.locs, Pt.cells, Pt.slots] at X_296 l_296 y_296 z_296 st_296 hQ_296
    subst l_296 y_296 z_296
    obtain ⟨rfl, N_302, e_303⟩ := hQ_296
    have N_304 := Fr.app N_290 N_302
    have e_305 : T_296.heap = T_260.heap := e_303
    obtain ⟨q_307, q_308, q_309, q_310, q_311⟩ := isOf (T := T_296) hZ e_305 g_265
    obtain ⟨_, _, ⟨T_306, L_306, k_306, n_306⟩, -, X_306, ⟨Lc_306, hQ_306, l_306, y_306, z_306⟩, st_306⟩ := X_296.virtualBack hx (y := M333) (z := M333) hown (mvT hZ (w69 hw)) (mvT hZ (w70 hw)) (notFace_of_selects (args := #[]) (mvT hZ (w72 hw))) (mvT hZ (w72 hw)) (mvT hZ (w71 hw)) (by decide) (backOf (W := 0) (rm_allowed l Z a0 hw [] G1 kF kA HG T_260.heap n0 O_271 a_261 g_266) hZ (w73 hw) (w29 hw) (by decide) (by decide)) q_309 q_311 (g := (mkF m 80 #[.val (.int p0), .val (.int p1), .val (.int p2), .val (.int p3), .val (.int (1 : Int32)), .val (.ref a_184), .val (.ref a_225), .val (.ref a_261), .val (.ref a_184)] [(.ref a_261)])) rfl (by rw [hml]; rfl) (Steps.refl _) (argsL := []) (rest := []) (lenOf pd_376 rfl) rfl (by show 2 * 0 + _ ≤ _; exact Nat.le_of_eq rfl) (hb hby at_80) (fun _ _ => ⟨rfl, e_305, (by decide : 7 + 0 ≤ _), (by decide : 15 + 0 ≤ _)⟩)
    dsimp only [Pt.U, Pt.locs, Pt.cells, Pt.slots] at X_306 l_306 y_306 z_306 st_306 hQ_306
    subst l_306 y_306 z_306
    obtain ⟨rfl, N_312, e_313⟩ := hQ_306
    have N_314 := Fr.app N_304 N_312
    have e_315 : T_306.heap = T_260.heap := e_313
    have E_316 : Exa Z T_260.heap a_184 "java/lang/String" := ((((g_209.ext E_221).keep K_235).keep K_250).keep K_263)
    have F_317 : Fld Z T_260.heap a_184 "java/lang/String" "coder" "B" (.int (0 : Int32)) := ((((g_210.ext E_221).keep K_235 nin0).keep K_250 (ninS (Nat.ne_of_lt (Nat.lt_of_lt_of_le A_181.lt (Nat.le_trans (Nat.le_trans K_194.1 K_208.1) (Nat.le_of_eq g_226.symm)))) nin0)).keep K_263 nin0)
    have F_318 : Fld Z T_260.heap a_184 "java/lang/String" "value" "[B" (.ref a_205) := ((((g_211.ext E_221).keep K_235 nin0).keep K_250 (ninS (Nat.ne_of_lt (Nat.lt_of_lt_of_le A_181.lt (Nat.le_trans (Nat.le_trans K_194.1 K_208.1) (Nat.le_of_eq g_226.symm)))) nin0)).keep K_263 nin0)
    have V_319 : Arv Z T_260.heap a_205 k_206 .byte (1 : Int32) [(.int (own_lo8 (own_ch p1)))] (.int (0 : Int32)) := ((((g_213.ext E_221).keep K_235 nin0).keep K_250 (ninS (Nat.ne_of_lt (Nat.lt_of_lt_of_le g_213.lt (Nat.le_trans (Nat.le_refl _) (Nat.le_of_eq g_226.symm)))) nin0)).keep K_263 nin0)
    obtain ⟨q_321, q_322, q_323, q_324, q_325⟩ := isOf (T := T_306) hZ e_315 E_316
    obtain ⟨_, _, ⟨T_320, L_320, k_320, n_320⟩, -, X_320, ⟨Lc_320, hQ_320, l_320, y_320, z_320⟩, st_320⟩ := X_306.virtualBack hx (y := M132) (z := M132) hown (mvT hZ (w76 hw)) (mvT hZ (w77 hw)) (notFace_of_selects (args := #[]) (mvT hZ (w79 hw))) (mvT hZ (w79 hw)) (mvT hZ (w78 hw)) (by decide) (backOf (W := 0) (rm_lenany l Z a0 hw [] G1 kF kA HG T_260.heap n0 O_271 a_184 a_205 k_206 (1 : Int32) [(.int (own_lo8 (own_ch p1)))] E_316 F_317 F_318 V_319) hZ (w80 hw) (w3 hw) (by decide) (by decide)) q_323 q_325 (g := (mkF m 93 #[.val (.int p0), .val (.int p1), .val (.int p2), .val (.int p3), .val (.int (1 : Int32)), .val (.ref a_184), .val (.ref a_225), .val (.ref a_261), .val (.ref a_184)] [(.ref a_184)])) rfl (by rw [hml]; rfl) (Steps.refl _) (argsL := []) (rest := []) (lenOf pd_326 rfl) rfl (by show 2 * 0 + _ ≤ _; exact Nat.le_of_eq rfl) (hb hby at_93) (fun _ _ => ⟨rfl, e_315, (by decide : 7 + 0 ≤ _), (by decide : 15 + 0 ≤ _)⟩)
    dsimp only [Pt.U, Pt.locs, Pt.cells, Pt.slots] at X_320 l_320 y_320 z_320 st_320 hQ_320
    subst l_320 y_320 z_320
    obtain ⟨rfl, N_326, e_327⟩ := hQ_320
    have N_328 := Fr.app N_314 N_326
    have e_329 : T_320.heap = T_260.heap := e_327
    have E_330 : Exa Z T_260.heap a_225 "java/lang/String" := (g_251.keep K_263)
    have F_331 : Fld Z T_260.heap a_225 "java/lang/String" "coder" "B" (.int (0 : Int32)) := (g_252.keep K_263 nin0)
    have F_332 : Fld Z T_260.heap a_225 "java/lang/String" "value" "[B" (.ref a_247) := (g_253.keep K_263 nin0)
    have V_333 : Arv Z T_260.heap a_247 k_248 .byte (1 : Int32) [(.int (own_lo8 (own_ch p1)))] (.int (0 : Int32)) := (g_255.keep K_263 nin0)
    obtain ⟨q_335, q_336, q_337, q_338, q_339⟩ := isOf (T := T_320) hZ e_329 E_330
    obtain ⟨_, _, ⟨T_334, L_334, k_334, n_334⟩, -, X_334, ⟨Lc_334, hQ_334, l_334, y_334, z_334⟩, st_334⟩ := X_320.virtualBack hx (y := M162) (z := M162) hown (mvT hZ (w87 hw)) (mvT hZ (w88 hw)) (notFace_of_selects (args := #[]) (mvT hZ (w90 hw))) (mvT hZ (w90 hw)) (mvT hZ (w89 hw)) (by decide) (backOf (W := 0) (rm_eq_1 l Z a0 hw [] G1 kF kA HG T_260.heap n0 O_271 a_225 a_247 k_248 a_184 a_205 k_206 (own_lo8 (own_ch p1)) E_330 F_331 F_332 V_333 E_316 F_317 F_318 V_319 (Ne.symm (Nat.ne_of_lt (Nat.lt_of_lt_of_le A_181.lt (Nat.le_trans (Nat.le_trans K_194.1 K_208.1) (Nat.le_of_eq g_226.symm)))))) hZ (w91 hw) (w3 hw) (by decide) (by decide)) q_337 q_339 (g := (mkF m 105 #[.val (.int p0), .val (.int p1), .val (.int p2), .val (.int p3), .val (.int (1 : Int32)), .val (.ref a_184), .val (.ref a_225), .val (.ref a_261), .val (.ref a_184)] [(.ref a_184), (.ref a_225)])) rfl (by rw [hml]; rfl) (Steps.refl _) (argsL := [(.ref a_184)]) (rest := []) (lenOf pd_387 rfl) rfl (by show 2 * 0 + _ ≤ _; exact Nat.le_of_eq rfl) (hb hby at_105) (fun _ _ => ⟨rfl, e_329, (by decide : 7 + 0 ≤ _), (by decide : 15 + 0 ≤ _)⟩)
    dsimp only [Pt.U, Pt.locs, Pt.cells, Pt.slots] at X_334 l_334 y_334 z_334 st_334 hQ_334
    subst l_334 y_334 z_334
    obtain ⟨rfl, N_340, e_341⟩ := hQ_334
    have N_342 := Fr.app N_328 N_340
    have e_343 : T_334.heap = T_260.heap := e_341
    have C_344 : Steps p.tables e below S0 (T_334.setTop (mkF m 116 #[.val (.int p0), .val (.int p1), .val (.int p2), .val (.int p3), .val (.int (1 : Int32)), .val (.ref a_184), .val (.ref a_225), .val (.ref a_261), .val (.ref a_184)] [(.int (1 : Int32))])) := by
      refine C_175.trans ?_
      refine XS.istore X0.here hx rfl (hb hby at_6) rfl (l' := #[.val (.int p0), .val (.int p1), .val (.int p2), .val (.int p3), .val (.int (1 : Int32)), .unset, .unset, .unset, .unset]) rfl ?_
      refine st_183 _ ?_
      refine XS.dup X_178.here hx rfl (hb hby at_11) rfl rfl ?_
      refine XS.iload X_178.here hx rfl (hb hby at_12) rfl ?_
      refine XS.iloadN X_178.here hx rfl (hb hby at_14) rfl ?_
      refine XS.iloadN X_178.here hx rfl (hb hby at_15) rfl ?_
      refine XS.iloadN X_178.here hx rfl (hb hby at_16) rfl ?_
      refine st_190 _ ?_
      show Steps p.tables e below (T_190.setTop (mkF m 20 #[.val (.int p0), .val (.int p1), .val (.int p2), .val (.int p3), .val (.int (1 : Int32)), .unset, .unset, .unset, .unset] [(.ref a_191), (.ref a_184), (.ref a_184)])) _
      refine st_204.trans ?_
      refine XS.astore X_204.here hx rfl (hb hby at_23) rfl rfl (l' := #[.val (.int p0), .val (.int p1), .val (.int p2), .val (.int p3), .val (.int (1 : Int32)), .val (.ref a_184), .unset, .unset, .unset]) rfl ?_
      refine st_224 _ ?_
      refine XS.dup X_219.here hx rfl (hb hby at_28) rfl rfl ?_
      refine XS.iload X_219.here hx rfl (hb hby at_29) rfl ?_
      refine XS.iloadN X_219.here hx rfl (hb hby at_31) rfl ?_
      refine XS.iloadN X_219.here hx rfl (hb hby at_32) rfl ?_
      refine XS.iloadN X_219.here hx rfl (hb hby at_33) rfl ?_
      show Steps p.tables e below (T_217.setTop (mkF m 34 #[.val (.int p0), .val (.int p1), .val (.int p2), .val (.int p3), .val (.int (1 : Int32)), .val (.ref a_184), .unset, .unset, .unset] [(.int p3), (.int p2), (.int p1), (.int (1 : Int32)), (.ref a_225), (.ref a_225)])) _
      refine st_231 _ ?_
      refine st_246.trans ?_
      refine XS.astore X_246.here hx rfl (hb hby at_40) rfl rfl (l' := #[.val (.int p0), .val (.int p1), .val (.int p2), .val (.int p3), .val (.int (1 : Int32)), .val (.ref a_184), .val (.ref a_225), .unset, .unset]) rfl ?_
      refine XS.aload X_246.here hx rfl (hb hby at_42) rfl rfl ?_
      refine st_260 _ ?_
      refine XS.astore X_260.here hx rfl (hb hby at_47) rfl rfl (l' := #[.val (.int p0), .val (.int p1), .val (.int p2), .val (.int p3), .val (.int (1 : Int32)), .val (.ref a_184), .val (.ref a_225), .val (.ref a_261), .unset]) rfl ?_
      refine XS.aload X_260.here hx rfl (hb hby at_49) rfl rfl ?_
      refine st_272.trans ?_
      show Steps p.tables e below (T_272.setTop (mkF m 54 #[.val (.int p0), .val (.int p1), .val (.int p2), .val (.int p3), .val (.int (1 : Int32)), .val (.ref a_184), .val (.ref a_225), .val (.ref a_261), .unset] [(.ref a_184)])) _
      refine XS.astore X_272.here hx rfl (hb hby at_54) rfl rfl (l' := #[.val (.int p0), .val (.int p1), .val (.int p2), .val (.int p3), .val (.int (1 : Int32)), .val (.ref a_184), .val (.ref a_225), .val (.ref a_261), .val (.ref a_184)]) rfl ?_
      refine XS.aload X_272.here hx rfl (hb hby at_56) rfl rfl ?_
      refine st_282.trans ?_
      refine st_295 _ ?_
      refine acmp X_293 hx rfl (cd := .ne) (x := (.ref kF)) (y := (.ref kF)) rfl rfl (same := true) (pc0 := 64) (pc' := 67) rfl (hb hby at_64) rfl (decide_eq_true rfl) (by decide) (by decide) ?_
      refine XS.aload X_293.here hx rfl (hb hby at_67) rfl rfl ?_
      refine st_296.trans ?_
      refine XS.sipush X_296.here hx rfl (hb hby at_72) ?_
      show Steps p.tables e below (T_296.setTop (mkF m 75 #[.val (.int p0), .val (.int p1), .val (.int p2), .val (.int p3), .val (.int (1 : Int32)), .val (.ref a_184), .val (.ref a_225), .val (.ref a_261), .val (.ref a_184)] [(.int (403 : Int32)), (.int (403 : Int32))])) _
      refine XS.icmpNo X_296.here hx rfl (hb hby at_75) rfl (by decide) ?_
      refine XS.aload X_296.here hx rfl (hb hby at_78) rfl rfl ?_
      refine st_306.trans ?_
      refine XS.ifNo X_306.here hx rfl (hb hby at_83) rfl (by decide) ?_
      refine XS.aload X_306.here hx rfl (hb hby at_86) rfl rfl ?_
      refine XS.ifnullNo X_306.here hx rfl (hb hby at_88) rfl ?_
      refine XS.aload X_306.here hx rfl (hb hby at_91) rfl rfl ?_
      refine st_320.trans ?_
      show Steps p.tables e below (T_320.setTop (mkF m 96 #[.val (.int p0), .val (.int p1), .val (.int p2), .val (.int p3), .val (.int (1 : Int32)), .val (.ref a_184), .val (.ref a_225), .val (.ref a_261), .val (.ref a_184)] [(.int (1 : Int32))])) _
      refine XS.iload X_320.here hx rfl (hb hby at_96) rfl ?_
      refine XS.icmpNo X_320.here hx rfl (hb hby at_98) rfl (by decide) ?_
      refine XS.aload X_320.here hx rfl (hb hby at_101) rfl rfl ?_
      refine XS.aload X_320.here hx rfl (hb hby at_103) rfl rfl ?_
      refine st_334.trans ?_
      refine XS.ifNo X_334.here hx rfl (hb hby at_108) rfl (by decide) ?_
      refine XS.iconst X_334.here hx rfl (hb hby at_111) ?_
      refine XS.goto X_334.here hx rfl (pc0 := 112) (pc' := 116) rfl (hb hby at_112) (by decide) (by decide) ?_
      show Steps p.tables e below (T_334.setTop (mkF m 116 #[.val (.int p0), .val (.int p1), .val (.int p2), .val (.int p3), .val (.int (1 : Int32)), .val (.ref a_184), .val (.ref a_225), .val (.ref a_261), .val (.ref a_184)] [(.int (1 : Int32))])) _
      exact Steps.refl _
    have K_345 : Keep h0 T_260.heap [] := ((((((((Keep.refl _ _).ext E_180).trans K_194 all0).trans K_208 (allS (Or.inr (Nat.le_trans (Nat.le_refl _) (Nat.le_of_eq g_185.symm))) all0)).ext E_221).trans K_235 all0).trans K_250 (allS (Or.inr (Nat.le_trans (Nat.le_trans (Nat.le_trans E_180.1 K_194.1) K_208.1) (Nat.le_of_eq g_226.symm))) all0)).trans K_263 all0)
    obtain ⟨fs, hr, hrun, hended, hRE⟩ := X_334.leaveW hS0 (by rw [show T_334.heap = T_260.heap from e_343]; exact (Nat.le_trans (Nat.le_refl _) (Nat.le_trans (Nat.le_trans (Nat.le_trans (Nat.le_trans (Nat.le_trans (Nat.le_trans E_180.1 K_194.1) K_208.1) E_221.1) K_235.1) K_250.1) K_263.1))) (v := some (.int (1 : Int32))) (fun h => by rw [Bd.returns] at h; cases h)
    refine ⟨_, _, C_344.trans (retN X_334 hx (t := .boolean) Bd.returns (by simp) (hb hby at_116) hr), hrun, hended, _, _, rfl, ?_, ?_, hRE.1, hRE.2.1, hRE.2.2.1, hRE.2.2.2.mono (by decide) (by decide)⟩
    · show Q_law Z G1 kF kA p0 p1 p2 p3 h0 n0 (some (.int (1 : Int32))) T_334.heap _
      rw [e_343]
      exact ⟨rfl, N_342, K_345⟩
    · show CHr Z consts_1 s.vm s.heap T_334.vm T_334.heap
      rw [hh, show T_334.heap = T_260.heap from e_343]
      exact CR_270.trans (CHv.at X_334 hZ hEL CH_269)
  · skip
    have C_346 : Steps p.tables e below S0 (s₁.setTop (mkF m 6 #[.val (.int p0), .val (.int p1), .val (.int p2), .val (.int p3), .unset, .unset, .unset, .unset, .unset] [(.int (2 : Int32))])) := by have q := C_1; rw [hn_4] at q; exact q
    obtain ⟨T_347, h_348, X_349, e_350, E_351, A_352, D_353, U_357, st_354⟩ := newO X0 hx hZ hown (w1 hw) (w2 hw) (w3 hw) e0 (g := (mkF m 8 #[.val (.int p0), .val (.int p1), .val (.int p2), .val (.int p3), .val (.int (2 : Int32)), .unset, .unset, .unset, .unset] [])) rfl (hb hby at_8) (by decide) (by decide)
    obtain ⟨a_355, g_356⟩ : ∃ z, z = h0.size := ⟨_, rfl⟩
    rw [← g_356] at A_352 D_353 st_354 U_357
    have CH_358 : CHv Z consts_1 s.vm h_348 := CHv.ext E_351 CH0
    have CR_359 : CHr Z consts_1 s.vm h0 s.vm h_348 := CR0.trans (CHr.ext E_351 CH0)
    have O_360 : Old Z n0 h_348 := (X00.ext E_351)
    obtain ⟨_, _, ⟨T_361, L_361, k_361, n_361⟩, -, X_361, ⟨Lc_361, hQ_361, l_361, y_361, z_361⟩, st_361⟩ := Jvm.LawKit.callS X_349 hx (y := M203) hown (mvT hZ (w4 hw)) (mvT hZ (w5 hw)) (mvT hZ (w6 hw)) (mvT hZ (w7 hw)) (by decide) (backOf (W := 2) (rm_mk_2 l Z a0 hw [] G1 kF kA HG h_348 n0 O_360 p1 p2 p3 ) hZ (w7 hw) (w6 hw) (by decide) (by decide)) (g := (mkF m 17 #[.val (.int p0), .val (.int p1), .val (.int p2), .val (.int p3), .val (.int (2 : Int32)), .unset, .unset, .unset, .unset] [(.int p3), (.int p2), (.int p1), (.int (2 : Int32)), (.ref a_355), (.ref a_355)])) rfl (by rw [hml]; rfl) (argsL := [(.int (2 : Int32)), (.int p1), (.int p2), (.int p3)]) (rest := [(.ref a_355), (.ref a_355)]) (lenOf pd_346 rfl) rfl (by show 2 * 0 + _ ≤ _; exact Nat.le_of_eq rfl) (hb hby at_17) (fun _ _ => ⟨rfl, e_350, (by decide : 1 + 1 ≤ _), (by decide : 4 + 2 ≤ _)⟩)
    dsimp only [Pt.U, Pt.locs, Pt.cells, Pt.slots] at X_361 l_361 y_361 z_361 st_361 hQ_361
    subst l_361 y_361 z_361
    obtain ⟨a_362, k_363, rfl, N_364, K_365, g_366, g_367⟩ := hQ_361
    have N_368 := Fr.app N0 N_364
    have CH_369 : CHv Z consts_1 s.vm T_361.heap := CHv.keep K_365 sf0 CH_358
    have CR_370 : CHr Z consts_1 s.vm h0 s.vm T_361.heap := CR_359.trans (CHr.keep K_365 sf0 CH_358)
    have E_371 : Exa Z T_361.heap a_355 "java/lang/String" := (A_352.keep K_365)
    have F_372 : Fld Z T_361.heap a_355 "java/lang/String" "value" "[B" .null := ((D_353 (Or.inr (w21 hw)) (ty := (.array .byte)) (by decide)).keep K_365 nin0)
    have F_373 : Fld Z T_361.heap a_355 "java/lang/String" "coder" "B" (.int (0 : Int32)) := ((D_353 (Or.inr (w22 hw)) (ty := .byte) (by decide)).keep K_365 nin0)
    have O_374 : Old Z n0 T_361.heap := (O_360.keep K_365 all0)
    obtain ⟨_, _, ⟨T_375, L_375, k_375, n_375⟩, -, X_375, ⟨Lc_375, hQ_375, l_375, y_375, z_375⟩, st_375⟩ := X_361.specialBack hx (y := M25) rfl hown (mvT hZ (w9 hw)) (mvT hZ (w10 hw)) (mvT hZ (w11 hw)) (by decide) (backOf (W := 1) (rm_si1_2 l Z a0 hw [] G1 kF kA HG T_361.heap n0 O_374 a_355 a_362 k_363 (own_ch p1) (own_ch p2) E_371 F_372 F_373 (Nat.le_trans (own_n0 X00) (Nat.le_of_eq g_356.symm)) g_367 (own_ch_hi p1) (own_ch_hi p2)) hZ (w11 hw) (w3 hw) (by decide) (by decide)) (g := (mkF m 20 #[.val (.int p0), .val (.int p1), .val (.int p2), .val (.int p3), .val (.int (2 : Int32)), .unset, .unset, .unset, .unset] [(.ref a_362), (.ref a_355), (.ref a_355)])) rfl (by rw [hml]; rfl) (Steps.refl _) (a := a_355) (argsL := [(.ref a_362)]) (rest := [(.ref a_355)]) (lenOf pd_350 rfl) rfl (by show 2 * 0 + _ ≤ _; exact Nat.le_of_eq rfl) (hb hby at_20) (fun _ _ => ⟨rfl, rfl, (by decide : 2 + 1 ≤ _), (by decide : 6 + 2 ≤ _)⟩)
    dsimp only [Pt.U, Pt.locs, Pt.cells, Pt.slots] at X_375 l_375 y_375 z_375 st_375 hQ_375
    subst l_375 y_375 z_375
    obtain ⟨a_376, k_377, rfl, N_378, K_379, g_380, g_381, g_382, g_383, g_384⟩ := hQ_375
    have N_385 := Fr.app N_368 N_378
    have CH_386 : CHv Z consts_1 s.vm T_375.heap := CHv.keep K_379 (sfS (own_safe_null hZ.alike E_371 F_372) sf0) CH_369
    have CR_387 : CHr Z consts_1 s.vm h0 s.vm T_375.heap := CR_370.trans (CHr.keep K_379 (sfS (own_safe_null hZ.alike E_371 F_372) sf0) CH_369)
    obtain ⟨T_388, h_389, X_390, e_391, E_392, A_393, D_394, U_398, st_395⟩ := newO X_375 hx hZ hown (w1 hw) (w2 hw) (w3 hw) rfl (g := (mkF m 25 #[.val (.int p0), .val (.int p1), .val (.int p2), .val (.int p3), .val (.int (2 : Int32)), .val (.ref a_355), .unset, .unset, .unset] [])) rfl (hb hby at_25) (by decide) (by decide)
    obtain ⟨a_396, g_397⟩ : ∃ z, z = T_375.heap.size := ⟨_, rfl⟩
    rw [← g_397] at A_393 D_394 st_395 U_398
    have CH_399 : CHv Z consts_1 s.vm h_389 := CHv.ext E_392 CH_386
    have CR_400 : CHr Z consts_1 s.vm h0 s.vm h_389 := CR_387.trans (CHr.ext E_392 CH_386)
    have O_401 : Old Z n0 h_389 := ((O_374.keep K_379 (allS (Nat.le_trans (own_n0 X00) (Nat.le_of_eq g_356.symm)) all0)).ext E_392)
    obtain ⟨_, _, ⟨T_402, L_402, k_402, n_402⟩, -, X_402, ⟨Lc_402, hQ_402, l_402, y_402, z_402⟩, st_402⟩ := Jvm.LawKit.callS X_390 hx (y := M203) hown (mvT hZ (w4 hw)) (mvT hZ (w5 hw)) (mvT hZ (w6 hw)) (mvT hZ (w7 hw)) (by decide) (backOf (W := 2) (rm_mk_2 l Z a0 hw [] G1 kF kA HG h_389 n0 O_401 p1 p2 p3 ) hZ (w7 hw) (w6 hw) (by decide) (by decide)) (g := (mkF m 34 #[.val (.int p0), .val (.int p1), .val (.int p2), .val (.int p3), .val (.int (2 : Int32)), .val (.ref a_355), .unset, .unset, .unset] [(.int p3), (.int p2), (.int p1), (.int (2 : Int32)), (.ref a_396), (.ref a_396)])) rfl (by rw [hml]; rfl) (argsL := [(.int (2 : Int32)), (.int p1), (.int p2), (.int p3)]) (rest := [(.ref a_396), (.ref a_396)]) (lenOf pd_346 rfl) rfl (by show 2 * 0 + _ ≤ _; exact Nat.le_of_eq rfl) (hb hby at_34) (fun _ _ => ⟨rfl, e_391, (by decide : 4 + 1 ≤ _), (by decide : 12 + 2 ≤ _)⟩)
    dsimp only [Pt.U, Pt.locs, Pt.cells, Pt.slots] at X_402 l_402 y_402 z_402 st_402 hQ_402
    subst l_402 y_402 z_402
    obtain ⟨a_403, k_404, rfl, N_405, K_406, g_407, g_408⟩ := hQ_402
    have N_409 := Fr.app N_385 N_405
    have CH_410 : CHv Z consts_1 s.vm T_402.heap := CHv.keep K_406 sf0 CH_399
    have CR_411 : CHr Z consts_1 s.vm h0 s.vm T_402.heap := CR_400.trans (CHr.keep K_406 sf0 CH_399)
    have E_412 : Exa Z T_402.heap a_396 "java/lang/String" := (A_393.keep K_406)
    have F_413 : Fld Z T_402.heap a_396 "java/lang/String" "value" "[B" .null := ((D_394 (Or.inr (w21 hw)) (ty := (.array .byte)) (by decide)).keep K_406 nin0)
    have F_414 : Fld Z T_402.heap a_396 "java/lang/String" "coder" "B" (.int (0 : Int32)) := ((D_394 (Or.inr (w22 hw)) (ty := .byte) (by decide)).keep K_406 nin0)
    have O_415 : Old Z n0 T_375.heap := (O_374.keep K_379 (allS (Nat.le_trans (own_n0 X00) (Nat.le_of_eq g_356.symm)) all0))
    have O_416 : Old Z n0 T_402.heap := (O_401.keep K_406 all0)
    obtain ⟨_, _, ⟨T_417, L_417, k_417, n_417⟩, -, X_417, ⟨Lc_417, hQ_417, l_417, y_417, z_417⟩, st_417⟩ := X_402.specialBack hx (y := M25) rfl hown (mvT hZ (w9 hw)) (mvT hZ (w10 hw)) (mvT hZ (w11 hw)) (by decide) (backOf (W := 1) (rm_si1_2 l Z a0 hw [] G1 kF kA HG T_402.heap n0 O_416 a_396 a_403 k_404 (own_ch p1) (own_ch p2) E_412 F_413 F_414 (Nat.le_trans (own_n0 O_415) (Nat.le_of_eq g_397.symm)) g_408 (own_ch_hi p1) (own_ch_hi p2)) hZ (w11 hw) (w3 hw) (by decide) (by decide)) (g := (mkF m 37 #[.val (.int p0), .val (.int p1), .val (.int p2), .val (.int p3), .val (.int (2 : Int32)), .val (.ref a_355), .unset, .unset, .unset] [(.ref a_403), (.ref a_396), (.ref a_396)])) rfl (by rw [hml]; rfl) (Steps.refl _) (a := a_396) (argsL := [(.ref a_403)]) (rest := [(.ref a_396)]) (lenOf pd_350 rfl) rfl (by show 2 * 0 + _ ≤ _; exact Nat.le_of_eq rfl) (hb hby at_37) (fun _ _ => ⟨rfl, rfl, (by decide : 5 + 1 ≤ _), (by decide : 14 + 2 ≤ _)⟩)
    dsimp only [Pt.U, Pt.locs, Pt.cells, Pt.slots] at X_417 l_417 y_417 z_417 st_417 hQ_417
    subst l_417 y_417 z_417
    obtain ⟨a_418, k_419, rfl, N_420, K_421, g_422, g_423, g_424, g_425, g_426⟩ := hQ_417
    have N_427 := Fr.app N_409 N_420
    have CH_428 : CHv Z consts_1 s.vm T_417.heap := CHv.keep K_421 (sfS (own_safe_null hZ.alike E_412 F_413) sf0) CH_410
    have CR_429 : CHr Z consts_1 s.vm h0 s.vm T_417.heap := CR_411.trans (CHr.keep K_421 (sfS (own_safe_null hZ.alike E_412 F_413) sf0) CH_410)
    have O_430 : Old Z n0 T_417.heap := (O_416.keep K_421 (allS (Nat.le_trans (own_n0 O_415) (Nat.le_of_eq g_397.symm)) all0))
    obtain ⟨_, _, ⟨T_431, L_431, k_431, n_431⟩, -, X_431, ⟨Lc_431, hQ_431, l_431, y_431, z_431⟩, st_431⟩ := Jvm.LawKit.callS X_417 hx (y := M292) hown (mvT hZ (w27 hw)) (mvT hZ (w28 hw)) (mvT hZ (w29 hw)) (mvT hZ (w30 hw)) (by decide) (backOf (W := 0) (rm_forb l Z a0 hw [] G1 kF kA HG T_417.heap n0 O_430 a_355 ) hZ (w30 hw) (w29 hw) (by decide) (by decide)) (g := (mkF m 44 #[.val (.int p0), .val (.int p1), .val (.int p2), .val (.int p3), .val (.int (2 : Int32)), .val (.ref a_355), .val (.ref a_396), .unset, .unset] [(.ref a_355)])) rfl (by rw [hml]; rfl) (argsL := [(.ref a_355)]) (rest := []) (lenOf pd_354 rfl) rfl (by show 2 * 0 + _ ≤ _; exact Nat.le_of_eq rfl) (hb hby at_44) (fun _ _ => ⟨rfl, rfl, (by decide : 6 + 1 ≤ _), (by decide : 16 + 3 ≤ _)⟩)
    dsimp only [Pt.U, Pt.locs, Pt.cells, Pt.slots] at X_431 l_431 y_431 z_431 st_431 hQ_431
    subst l_431 y_431 z_431
    obtain ⟨a_432, rfl, N_433, K_434, g_435, g_436, g_437, g_438⟩ := hQ_431
    have N_439 := Fr.app N_427 N_433
    have CH_440 : CHv Z consts_1 s.vm T_431.heap := CHv.keep K_434 sf0 CH_428
    have CR_441 : CHr Z consts_1 s.vm h0 s.vm T_431.heap := CR_429.trans (CHr.keep K_434 sf0 CH_428)
    have O_442 : Old Z n0 T_431.heap := (O_430.keep K_434 all0)
    obtain ⟨q_444, q_445, q_446, q_447, q_448⟩ := isOf (T := T_431) hZ rfl g_436
    obtain ⟨_, _, ⟨T_443, L_443, k_443, n_443⟩, -, X_443, ⟨Lc_443, hQ_443, l_443, y_443, z_443⟩, st_443⟩ := X_431.virtualBack hx (y := M307) (z := M307) hown (mvT hZ (w46 hw)) (mvT hZ (w47 hw)) (notFace_of_selects (args := #[]) (mvT hZ (w49 hw))) (mvT hZ (w49 hw)) (mvT hZ (w48 hw)) (by decide) (backOf (W := 0) (rm_reason l Z a0 hw [] G1 kF kA HG T_431.heap n0 O_442 a_432 a_355 g_438) hZ (w50 hw) (w29 hw) (by decide) (by decide)) q_446 q_448 (g := (mkF m 51 #[.val (.int p0), .val (.int p1), .val (.int p2), .val (.int p3), .val (.int (2 : Int32)), .val (.ref a_355), .val (.ref a_396), .val (.ref a_432), .unset] [(.ref a_432)])) rfl (by rw [hml]; rfl) (Steps.refl _) (argsL := []) (rest := []) (lenOf pd_358 rfl) rfl (by show 2 * 0 + _ ≤ _; exact Nat.le_of_eq rfl) (hb hby at_51) (fun _ _ => ⟨rfl, rfl, (by decide : 7 + 0 ≤ _), (by decide : 19 + 0 ≤ _)⟩)
    dsimp only [Pt.U, Pt.locs, Pt.cells, Pt.slots] at X_443 l_443 y_443 z_443 st_443 hQ_443
    subst l_443 y_443 z_443
    obtain ⟨rfl, N_449, e_450⟩ := hQ_443
    have N_451 := Fr.app N_439 N_449
    have e_452 : T_443.heap = T_431.heap := e_450
    obtain ⟨q_454, q_455, q_456, q_457, q_458⟩ := isOf (T := T_443) hZ e_452 g_436
    obtain ⟨_, _, ⟨T_453, L_453, k_453, n_453⟩, -, X_453, ⟨Lc_453, hQ_453, l_453, y_453, z_453⟩, st_453⟩ := X_443.virtualBack hx (y := M311) (z := M311) hown (mvT hZ (w51 hw)) (mvT hZ (w52 hw)) (notFace_of_selects (args := #[]) (mvT hZ (w54 hw))) (mvT hZ (w54 hw)) (mvT hZ (w53 hw)) (by decide) (backOf (W := 0) (rm_kind l Z a0 hw [] G1 kF kA HG T_431.heap n0 O_442 a_432 g_437) hZ (w55 hw) (w29 hw) (by decide) (by decide)) q_456 q_458 (g := (mkF m 58 #[.val (.int p0), .val (.int p1), .val (.int p2), .val (.int p3), .val (.int (2 : Int32)), .val (.ref a_355), .val (.ref a_396), .val (.ref a_432), .val (.ref a_355)] [(.ref a_432)])) rfl (by rw [hml]; rfl) (Steps.refl _) (argsL := []) (rest := []) (lenOf pd_364 rfl) rfl (by show 2 * 0 + _ ≤ _; exact Nat.le_of_eq rfl) (hb hby at_58) (fun _ _ => ⟨rfl, e_452, (by decide : 7 + 0 ≤ _), (by decide : 19 + 0 ≤ _)⟩)
    dsimp only [Pt.U, Pt.locs, Pt.cells, Pt.slots] at X_453 l_453 y_453 z_453 st_453 hQ_453
    subst l_453 y_453 z_453
    obtain ⟨rfl, N_459, e_460⟩ := hQ_453
    have N_461 := Fr.app N_451 N_459
    have e_462 : T_453.heap = T_431.heap := e_460
    obtain ⟨T_463, X_464, e_465, st_466⟩ := getS X_453 hx hZ (host := "") hown (w56 hw) Via.refl e_462 (O2.ext O_442.2) (g := (mkF m 61 #[.val (.int p0), .val (.int p1), .val (.int p2), .val (.int p3), .val (.int (2 : Int32)), .val (.ref a_355), .val (.ref a_396), .val (.ref a_432), .val (.ref a_355)] [(.ref kF)])) rfl (hb hby at_61)
    obtain ⟨q_468, q_469, q_470, q_471, q_472⟩ := isOf (T := T_463) hZ e_465 g_436
    obtain ⟨_, _, ⟨T_467, L_467, k_467, n_467⟩, -, X_467, ⟨Lc_467, hQ_467, l_467, y_467, z_467⟩, st_467⟩ := X_464.virtualBack hx (y := M321) (z := M321) hown (mvT hZ (w57 hw)) (mvT hZ (w58 hw)) (notFace_of_selects (args := #[]) (mvT hZ (w60 hw))) (mvT hZ (w60 hw)) (mvT hZ (w59 hw)) (by decide) (backOf (W := 0) (rm_dst l Z a0 hw [] G1 kF kA HG T_431.heap n0 O_442 a_432 g_437) hZ (w61 hw) (w29 hw) (by decide) (by decide)) q_470 q_472 (g := (mkF m 69 #[.val (.int p0), .val (.int p1), .val (.int p2), .val (.int p3), .val (.int (2 : Int32)), .val (.ref a_355), .val (.ref a_396), .val (.ref a_432), .val (.ref a_355)] [(.ref a_432)])) rfl (by rw [hml]; rfl) (Steps.refl _) (argsL := []) (rest := []) (lenOf pd_326 rfl) rfl (by show 2 * 0 + _ ≤ _; exact Nat.le_of_eq rfl) (hb hby at_69) (fun _ _ => ⟨rfl, e_465, (by decide : 7 + 0 ≤ _), (by decide : 19 + 0 ≤ _)⟩)
    dsimp only [Pt.U, Pt.locs, Pt.cells, Pt.slots] at X_467 l_467 y_467 z_467 st_467 hQ_467
    subst l_467 y_467 z_467
    obtain ⟨rfl, N_473, e_474⟩ := hQ_467
    have N_475 := Fr.app N_461 N_473
    have e_476 : T_467.heap = T_431.heap := e_474
    obtain ⟨q_478, q_479, q_480, q_481, q_482⟩ := isOf (T := T_467) hZ e_476 g_436
    obtain ⟨_, _, ⟨T_477, L_477, k_477, n_477⟩, -, X_477, ⟨Lc_477, hQ_477, l_477, y_477, z_477⟩, st_477⟩ := X_467.virtualBack hx (y := M333) (z := M333) hown (mvT hZ (w69 hw)) (mvT hZ (w70 hw)) (notFace_of_selects (args := #[]) (mvT hZ (w72 hw))) (mvT hZ (w72 hw)) (mvT hZ (w71 hw)) (by decide) (backOf (W := 0) (rm_allowed l Z a0 hw [] G1 kF kA HG T_431.heap n0 O_442 a_432 g_437) hZ (w73 hw) (w29 hw) (by decide) (by decide)) q_480 q_482 (g := (mkF m 80 #[.val (.int p0), .val (.int p1), .val (.int p2), .val (.int p3), .val (.int (2 : Int32)), .val (.ref a_355), .val (.ref a_396), .val (.ref a_432), .val (.ref a_355)] [(.ref a_432)])) rfl (by rw [hml]; rfl) (Steps.refl _) (argsL := []) (rest := []) (lenOf pd_376 rfl) rfl (by show 2 * 0 + _ ≤ _; exact Nat.le_of_eq rfl) (hb hby at_80) (fun _ _ => ⟨rfl, e_476, (by decide : 7 + 0 ≤ _), (by decide : 19 + 0 ≤ _)⟩)
    dsimp only [Pt.U, Pt.locs, Pt.cells, Pt.slots] at X_477 l_477 y_477 z_477 st_477 hQ_477
    subst l_477 y_477 z_477
    obtain ⟨rfl, N_483, e_484⟩ := hQ_477
    have N_485 := Fr.app N_475 N_483
    have e_486 : T_477.heap = T_431.heap := e_484
    have E_487 : Exa Z T_431.heap a_355 "java/lang/String" := ((((g_380.ext E_392).keep K_406).keep K_421).keep K_434)
    have F_488 : Fld Z T_431.heap a_355 "java/lang/String" "coder" "B" (.int (0 : Int32)) := ((((g_381.ext E_392).keep K_406 nin0).keep K_421 (ninS (Nat.ne_of_lt (Nat.lt_of_lt_of_le A_352.lt (Nat.le_trans (Nat.le_trans K_365.1 K_379.1) (Nat.le_of_eq g_397.symm)))) nin0)).keep K_434 nin0)
    have F_489 : Fld Z T_431.heap a_355 "java/lang/String" "value" "[B" (.ref a_376) := ((((g_382.ext E_392).keep K_406 nin0).keep K_421 (ninS (Nat.ne_of_lt (Nat.lt_of_lt_of_le A_352.lt (Nat.le_trans (Nat.le_trans K_365.1 K_379.1) (Nat.le_of_eq g_397.symm)))) nin0)).keep K_434 nin0)
    have V_490 : Arv Z T_431.heap a_376 k_377 .byte (2 : Int32) [(.int (own_lo8 (own_ch p1))), (.int (own_lo8 (own_ch p2)))] (.int (0 : Int32)) := ((((g_384.ext E_392).keep K_406 nin0).keep K_421 (ninS (Nat.ne_of_lt (Nat.lt_of_lt_of_le g_384.lt (Nat.le_trans (Nat.le_refl _) (Nat.le_of_eq g_397.symm)))) nin0)).keep K_434 nin0)
    obtain ⟨q_492, q_493, q_494, q_495, q_496⟩ := isOf (T := T_477) hZ e_486 E_487
    obtain ⟨_, _, ⟨T_491, L_491, k_491, n_491⟩, -, X_491, ⟨Lc_491, hQ_491, l_491, y_491, z_491⟩, st_491⟩ := X_477.virtualBack hx (y := M132) (z := M132) hown (mvT hZ (w76 hw)) (mvT hZ (w77 hw)) (notFace_of_selects (args := #[]) (mvT hZ (w79 hw))) (mvT hZ (w79 hw)) (mvT hZ (w78 hw)) (by decide) (backOf (W := 0) (rm_lenany l Z a0 hw [] G1 kF kA HG T_431.heap n0 O_442 a_355 a_376 k_377 (2 : Int32) [(.int (own_lo8 (own_ch p1))), (.int (own_lo8 (own_ch p2)))] E_487 F_488 F_489 V_490) hZ (w80 hw) (w3 hw) (by decide) (by decide)) q_494 q_496 (g := (mkF m 93 #[.val (.int p0), .val (.int p1), .val (.int p2), .val (.int p3), .val (.int (2 : Int32)), .val (.ref a_355), .val (.ref a_396), .val (.ref a_432), .val (.ref a_355)] [(.ref a_355)])) rfl (by rw [hml]; rfl) (Steps.refl _) (argsL := []) (rest := []) (lenOf pd_326 rfl) rfl (by show 2 * 0 + _ ≤ _; exact Nat.le_of_eq rfl) (hb hby at_93) (fun _ _ => ⟨rfl, e_486, (by decide : 7 + 0 ≤ _), (by decide : 19 + 0 ≤ _)⟩)
    dsimp only [Pt.U, Pt.locs, Pt.cells, Pt.slots] at X_491 l_491 y_491 z_491 st_491 hQ_491
    subst l_491 y_491 z_491
    obtain ⟨rfl, N_497, e_498⟩ := hQ_491
    have N_499 := Fr.app N_485 N_497
    have e_500 : T_491.heap = T_431.heap := e_498
    have E_501 : Exa Z T_431.heap a_396 "java/lang/String" := (g_422.keep K_434)
    have F_502 : Fld Z T_431.heap a_396 "java/lang/String" "coder" "B" (.int (0 : Int32)) := (g_423.keep K_434 nin0)
    have F_503 : Fld Z T_431.heap a_396 "java/lang/String" "value" "[B" (.ref a_418) := (g_424.keep K_434 nin0)
    have V_504 : Arv Z T_431.heap a_418 k_419 .byte (2 : Int32) [(.int (own_lo8 (own_ch p1))), (.int (own_lo8 (own_ch p2)))] (.int (0 : Int32)) := (g_426.keep K_434 nin0)
    obtain ⟨q_506, q_507, q_508, q_509, q_510⟩ := isOf (T := T_491) hZ e_500 E_501
    obtain ⟨_, _, ⟨T_505, L_505, k_505, n_505⟩, -, X_505, ⟨Lc_505, hQ_505, l_505, y_505, z_505⟩, st_505⟩ := X_491.virtualBack hx (y := M162) (z := M162) hown (mvT hZ (w87 hw)) (mvT hZ (w88 hw)) (notFace_of_selects (args := #[]) (mvT hZ (w90 hw))) (mvT hZ (w90 hw)) (mvT hZ (w89 hw)) (by decide) (backOf (W := 0) (rm_eq_2 l Z a0 hw [] G1 kF kA HG T_431.heap n0 O_442 a_396 a_418 k_419 a_355 a_376 k_377 (own_lo8 (own_ch p1)) (own_lo8 (own_ch p2)) E_501 F_502 F_503 V_504 E_487 F_488 F_489 V_490 (Ne.symm (Nat.ne_of_lt (Nat.lt_of_lt_of_le A_352.lt (Nat.le_trans (Nat.le_trans K_365.1 K_379.1) (Nat.le_of_eq g_397.symm)))))) hZ (w91 hw) (w3 hw) (by decide) (by decide)) q_508 q_510 (g := (mkF m 105 #[.val (.int p0), .val (.int p1), .val (.int p2), .val (.int p3), .val (.int (2 : Int32)), .val (.ref a_355), .val (.ref a_396), .val (.ref a_432), .val (.ref a_355)] [(.ref a_355), (.ref a_396)])) rfl (by rw [hml]; rfl) (Steps.refl _) (argsL := [(.ref a_355)]) (rest := []) (lenOf pd_387 rfl) rfl (by show 2 * 0 + _ ≤ _; exact Nat.le_of_eq rfl) (hb hby at_105) (fun _ _ => ⟨rfl, e_500, (by decide : 7 + 0 ≤ _), (by decide : 19 + 0 ≤ _)⟩)
    dsimp only [Pt.U, Pt.locs, Pt.cells, Pt.slots] at X_505 l_505 y_505 z_505 st_505 hQ_505
    subst l_505 y_505 z_505
    obtain ⟨rfl, N_511, e_512⟩ := hQ_505
    have N_513 := Fr.app N_499 N_511
    have e_514 : T_505.heap = T_431.heap := e_512
    have C_515 : Steps p.tables e below S0 (T_505.setTop (mkF m 116 #[.val (.int p0), .val (.int p1), .val (.int p2), .val (.int p3), .val (.int (2 : Int32)), .val (.ref a_355), .val (.ref a_396), .val (.ref a_432), .val (.ref a_355)] [(.int (1 : Int32))])) := by
      refine C_346.trans ?_
      refine XS.istore X0.here hx rfl (hb hby at_6) rfl (l' := #[.val (.int p0), .val (.int p1), .val (.int p2), .val (.int p3), .val (.int (2 : Int32)), .unset, .unset, .unset, .unset]) rfl ?_
      refine st_354 _ ?_
      refine XS.dup X_349.here hx rfl (hb hby at_11) rfl rfl ?_
      refine XS.iload X_349.here hx rfl (hb hby at_12) rfl ?_
      refine XS.iloadN X_349.here hx rfl (hb hby at_14) rfl ?_
      refine XS.iloadN X_349.here hx rfl (hb hby at_15) rfl ?_
      refine XS.iloadN X_349.here hx rfl (hb hby at_16) rfl ?_
      refine st_361 _ ?_
      show Steps p.tables e below (T_361.setTop (mkF m 20 #[.val (.int p0), .val (.int p1), .val (.int p2), .val (.int p3), .val (.int (2 : Int32)), .unset, .unset, .unset, .unset] [(.ref a_362), (.ref a_355), (.ref a_355)])) _
      refine st_375.trans ?_
      refine XS.astore X_375.here hx rfl (hb hby at_23) rfl rfl (l' := #[.val (.int p0), .val (.int p1), .val (.int p2), .val (.int p3), .val (.int (2 : Int32)), .val (.ref a_355), .unset, .unset, .unset]) rfl ?_
      refine st_395 _ ?_
      refine XS.dup X_390.here hx rfl (hb hby at_28) rfl rfl ?_
      refine XS.iload X_390.here hx rfl (hb hby at_29) rfl ?_
      refine XS.iloadN X_390.here hx rfl (hb hby at_31) rfl ?_
      refine XS.iloadN X_390.here hx rfl (hb hby at_32) rfl ?_
      refine XS.iloadN X_390.here hx rfl (hb hby at_33) rfl ?_
      show Steps p.tables e below (T_388.setTop (mkF m 34 #[.val (.int p0), .val (.int p1), .val (.int p2), .val (.int p3), .val (.int (2 : Int32)), .val (.ref a_355), .unset, .unset, .unset] [(.int p3), (.int p2), (.int p1), (.int (2 : Int32)), (.ref a_396), (.ref a_396)])) _
      refine st_402 _ ?_
      refine st_417.trans ?_
      refine XS.astore X_417.here hx rfl (hb hby at_40) rfl rfl (l' := #[.val (.int p0), .val (.int p1), .val (.int p2), .val (.int p3), .val (.int (2 : Int32)), .val (.ref a_355), .val (.ref a_396), .unset, .unset]) rfl ?_
      refine XS.aload X_417.here hx rfl (hb hby at_42) rfl rfl ?_
      refine st_431 _ ?_
      refine XS.astore X_431.here hx rfl (hb hby at_47) rfl rfl (l' := #[.val (.int p0), .val (.int p1), .val (.int p2), .val (.int p3), .val (.int (2 : Int32)), .val (.ref a_355), .val (.ref a_396), .val (.ref a_432), .unset]) rfl ?_
      refine XS.aload X_431.here hx rfl (hb hby at_49) rfl rfl ?_
      refine st_443.trans ?_
      show Steps p.tables e below (T_443.setTop (mkF m 54 #[.val (.int p0), .val (.int p1), .val (.int p2), .val (.int p3), .val (.int (2 : Int32)), .val (.ref a_355), .val (.ref a_396), .val (.ref a_432), .unset] [(.ref a_355)])) _
      refine XS.astore X_443.here hx rfl (hb hby at_54) rfl rfl (l' := #[.val (.int p0), .val (.int p1), .val (.int p2), .val (.int p3), .val (.int (2 : Int32)), .val (.ref a_355), .val (.ref a_396), .val (.ref a_432), .val (.ref a_355)]) rfl ?_
      refine XS.aload X_443.here hx rfl (hb hby at_56) rfl rfl ?_
      refine st_453.trans ?_
      refine st_466 _ ?_
      refine acmp X_464 hx rfl (cd := .ne) (x := (.ref kF)) (y := (.ref kF)) rfl rfl (same := true) (pc0 := 64) (pc' := 67) rfl (hb hby at_64) rfl (decide_eq_true rfl) (by decide) (by decide) ?_
      refine XS.aload X_464.here hx rfl (hb hby at_67) rfl rfl ?_
      refine st_467.trans ?_
      refine XS.sipush X_467.here hx rfl (hb hby at_72) ?_
      show Steps p.tables e below (T_467.setTop (mkF m 75 #[.val (.int p0), .val (.int p1), .val (.int p2), .val (.int p3), .val (.int (2 : Int32)), .val (.ref a_355), .val (.ref a_396), .val (.ref a_432), .val (.ref a_355)] [(.int (403 : Int32)), (.int (403 : Int32))])) _
      refine XS.icmpNo X_467.here hx rfl (hb hby at_75) rfl (by decide) ?_
      refine XS.aload X_467.here hx rfl (hb hby at_78) rfl rfl ?_
      refine st_477.trans ?_
      refine XS.ifNo X_477.here hx rfl (hb hby at_83) rfl (by decide) ?_
      refine XS.aload X_477.here hx rfl (hb hby at_86) rfl rfl ?_
      refine XS.ifnullNo X_477.here hx rfl (hb hby at_88) rfl ?_
      refine XS.aload X_477.here hx rfl (hb hby at_91) rfl rfl ?_
      refine st_491.trans ?_
      show Steps p.tables e below (T_491.setTop (mkF m 96 #[.val (.int p0), .val (.int p1), .val (.int p2), .val (.int p3), .val (.int (2 : Int32)), .val (.ref a_355), .val (.ref a_396), .val (.ref a_432), .val (.ref a_355)] [(.int (2 : Int32))])) _
      refine XS.iload X_491.here hx rfl (hb hby at_96) rfl ?_
      refine XS.icmpNo X_491.here hx rfl (hb hby at_98) rfl (by decide) ?_
      refine XS.aload X_491.here hx rfl (hb hby at_101) rfl rfl ?_
      refine XS.aload X_491.here hx rfl (hb hby at_103) rfl rfl ?_
      refine st_505.trans ?_
      refine XS.ifNo X_505.here hx rfl (hb hby at_108) rfl (by decide) ?_
      refine XS.iconst X_505.here hx rfl (hb hby at_111) ?_
      refine XS.goto X_505.here hx rfl (pc0 := 112) (pc' := 116) rfl (hb hby at_112) (by decide) (by decide) ?_
      show Steps p.tables e below (T_505.setTop (mkF m 116 #[.val (.int p0), .val (.int p1), .val (.int p2), .val (.int p3), .val (.int (2 : Int32)), .val (.ref a_355), .val (.ref a_396), .val (.ref a_432), .val (.ref a_355)] [(.int (1 : Int32))])) _
      exact Steps.refl _
    have K_516 : Keep h0 T_431.heap [] := ((((((((Keep.refl _ _).ext E_351).trans K_365 all0).trans K_379 (allS (Or.inr (Nat.le_trans (Nat.le_refl _) (Nat.le_of_eq g_356.symm))) all0)).ext E_392).trans K_406 all0).trans K_421 (allS (Or.inr (Nat.le_trans (Nat.le_trans (Nat.le_trans E_351.1 K_365.1) K_379.1) (Nat.le_of_eq g_397.symm))) all0)).trans K_434 all0)
    obtain ⟨fs, hr, hrun, hended, hRE⟩ := X_505.leaveW hS0 (by rw [show T_505.heap = T_431.heap from e_514]; exact (Nat.le_trans (Nat.le_refl _) (Nat.le_trans (Nat.le_trans (Nat.le_trans (Nat.le_trans (Nat.le_trans (Nat.le_trans E_351.1 K_365.1) K_379.1) E_392.1) K_406.1) K_421.1) K_434.1))) (v := some (.int (1 : Int32))) (fun h => by rw [Bd.returns] at h; cases h)
    refine ⟨_, _, C_515.trans (retN X_505 hx (t := .boolean) Bd.returns (by simp) (hb hby at_116) hr), hrun, hended, _, _, rfl, ?_, ?_, hRE.1, hRE.2.1, hRE.2.2.1, hRE.2.2.2.mono (by decide) (by decide)⟩
    · show Q_law Z G1 kF kA p0 p1 p2 p3 h0 n0 (some (.int (1 : Int32))) T_505.heap _
      rw [e_514]
      exact ⟨rfl, N_513, K_516⟩
    · show CHr Z consts_1 s.vm s.heap T_505.vm T_505.heap
      rw [hh, show T_505.heap = T_431.heap from e_514]
      exact CR_441.trans (CHv.at X_505 hZ hEL CH_440)
  · skip
    have C_517 : Steps p.tables e below S0 (s₁.setTop (mkF m 6 #[.val (.int p0), .val (.int p1), .val (.int p2), .val (.int p3), .unset, .unset, .unset, .unset, .unset] [(.int (3 : Int32))])) := by have q := C_1; rw [hn_5] at q; exact q
    obtain ⟨T_518, h_519, X_520, e_521, E_522, A_523, D_524, U_528, st_525⟩ := newO X0 hx hZ hown (w1 hw) (w2 hw) (w3 hw) e0 (g := (mkF m 8 #[.val (.int p0), .val (.int p1), .val (.int p2), .val (.int p3), .val (.int (3 : Int32)), .unset, .unset, .unset, .unset] [])) rfl (hb hby at_8) (by decide) (by decide)
    obtain ⟨a_526, g_527⟩ : ∃ z, z = h0.size := ⟨_, rfl⟩
    rw [← g_527] at A_523 D_524 st_525 U_528
    have CH_529 : CHv Z consts_1 s.vm h_519 := CHv.ext E_522 CH0
    have CR_530 : CHr Z consts_1 s.vm h0 s.vm h_519 := CR0.trans (CHr.ext E_522 CH0)
    have O_531 : Old Z n0 h_519 := (X00.ext E_522)
    obtain ⟨_, _, ⟨T_532, L_532, k_532, n_532⟩, -, X_532, ⟨Lc_532, hQ_532, l_532, y_532, z_532⟩, st_532⟩ := Jvm.LawKit.callS X_520 hx (y := M203) hown (mvT hZ (w4 hw)) (mvT hZ (w5 hw)) (mvT hZ (w6 hw)) (mvT hZ (w7 hw)) (by decide) (backOf (W := 2) (rm_mk_3 l Z a0 hw [] G1 kF kA HG h_519 n0 O_531 p1 p2 p3 ) hZ (w7 hw) (w6 hw) (by decide) (by decide)) (g := (mkF m 17 #[.val (.int p0), .val (.int p1), .val (.int p2), .val (.int p3), .val (.int (3 : Int32)), .unset, .unset, .unset, .unset] [(.int p3), (.int p2), (.int p1), (.int (3 : Int32)), (.ref a_526), (.ref a_526)])) rfl (by rw [hml]; rfl) (argsL := [(.int (3 : Int32)), (.int p1), (.int p2), (.int p3)]) (rest := [(.ref a_526), (.ref a_526)]) (lenOf pd_346 rfl) rfl (by show 2 * 0 + _ ≤ _; exact Nat.le_of_eq rfl) (hb hby at_17) (fun _ _ => ⟨rfl, e_521, (by decide : 1 + 1 ≤ _), (by decide : 4 + 3 ≤ _)⟩)
    dsimp only [Pt.U, Pt.locs, Pt.cells, Pt.slots] at X_532 l_532 y_532 z_532 st_532 hQ_532
    subst l_532 y_532 z_532
    obtain ⟨a_533, k_534, rfl, N_535, K_536, g_537, g_538⟩ := hQ_532
    have N_539 := Fr.app N0 N_535
    have CH_540 : CHv Z consts_1 s.vm T_532.heap := CHv.keep K_536 sf0 CH_529
    have CR_541 : CHr Z consts_1 s.vm h0 s.vm T_532.heap := CR_530.trans (CHr.keep K_536 sf0 CH_529)
    have E_542 : Exa Z T_532.heap a_526 "java/lang/String" := (A_523.keep K_536)
    have F_543 : Fld Z T_532.heap a_526 "java/lang/String" "value" "[B" .null := ((D_524 (Or.inr (w21 hw)) (ty := (.array .byte)) (by decide)).keep K_536 nin0)
    have F_544 : Fld Z T_532.heap a_526 "java/lang/String" "coder" "B" (.int (0 : Int32)) := ((D_524 (Or.inr (w22 hw)) (ty := .byte) (by decide)).keep K_536 nin0)
    have O_545 : Old Z n0 T_532.heap := (O_531.keep K_536 all0)
    obtain ⟨_, _, ⟨T_546, L_546, k_546, n_546⟩, -, X_546, ⟨Lc_546, hQ_546, l_546, y_546, z_546⟩, st_546⟩ := X_532.specialBack hx (y := M25) rfl hown (mvT hZ (w9 hw)) (mvT hZ (w10 hw)) (mvT hZ (w11 hw)) (by decide) (backOf (W := 1) (rm_si1_3 l Z a0 hw [] G1 kF kA HG T_532.heap n0 O_545 a_526 a_533 k_534 (own_ch p1) (own_ch p2) (own_ch p3) E_542 F_543 F_544 (Nat.le_trans (own_n0 X00) (Nat.le_of_eq g_527.symm)) g_538 (own_ch_hi p1) (own_ch_hi p2) (own_ch_hi p3)) hZ (w11 hw) (w3 hw) (by decide) (by decide)) (g := (mkF m 20 #[.val (.int p0), .val (.int p1), .val (.int p2), .val (.int p3), .val (.int (3 : Int32)), .unset, .unset, .unset, .unset] [(.ref a_533), (.ref a_526), (.ref a_526)])) rfl (by rw [hml]; rfl) (Steps.refl _) (a := a_526) (argsL := [(.ref a_533)]) (rest := [(.ref a_526)]) (lenOf pd_350 rfl) rfl (by show 2 * 0 + _ ≤ _; exact Nat.le_of_eq rfl) (hb hby at_20) (fun _ _ => ⟨rfl, rfl, (by decide : 2 + 1 ≤ _), (by decide : 7 + 3 ≤ _)⟩)
    dsimp only [Pt.U, Pt.locs, Pt.cells, Pt.slots] at X_546 l_546 y_546 z_546 st_546 hQ_546
    subst l_546 y_546 z_546
    obtain ⟨a_547, k_548, rfl, N_549, K_550, g_551, g_552, g_553, g_554, g_555⟩ := hQ_546
    have N_556 := Fr.app N_539 N_549
    have CH_557 : CHv Z consts_1 s.vm T_546.heap := CHv.keep K_550 (sfS (own_safe_null hZ.alike E_542 F_543) sf0) CH_540
    have CR_558 : CHr Z consts_1 s.vm h0 s.vm T_546.heap := CR_541.trans (CHr.keep K_550 (sfS (own_safe_null hZ.alike E_542 F_543) sf0) CH_540)
    obtain ⟨T_559, h_560, X_561, e_562, E_563, A_564, D_565, U_569, st_566⟩ := newO X_546 hx hZ hown (w1 hw) (w2 hw) (w3 hw) rfl (g := (mkF m 25 #[.val (.int p0), .val (.int p1), .val (.int p2), .val (.int p3), .val (.int (3 : Int32)), .val (.ref a_526), .unset, .unset, .unset] [])) rfl (hb hby at_25) (by decide) (by decide)
    obtain ⟨a_567, g_568⟩ : ∃ z, z = T_546.heap.size := ⟨_, rfl⟩
    rw [← g_568] at A_564 D_565 st_566 U_569
    have CH_570 : CHv Z consts_1 s.vm h_560 := CHv.ext E_563 CH_557
    have CR_571 : CHr Z consts_1 s.vm h0 s.vm h_560 := CR_558.trans (CHr.ext E_563 CH_557)
    have O_572 : Old Z n0 h_560 := ((O_545.keep K_550 (allS (Nat.le_trans (own_n0 X00) (Nat.le_of_eq g_527.symm)) all0)).ext E_563)
    obtain ⟨_, _, ⟨T_573, L_573, k_573, n_573⟩, -, X_573, ⟨Lc_573, hQ_573, l_573, y_573, z_573⟩, st_573⟩ := Jvm.LawKit.callS X_561 hx (y := M203) hown (mvT hZ (w4 hw)) (mvT hZ (w5 hw)) (mvT hZ (w6 hw)) (mvT hZ (w7 hw)) (by decide) (backOf (W := 2) (rm_mk_3 l Z a0 hw [] G1 kF kA HG h_560 n0 O_572 p1 p2 p3 ) hZ (w7 hw) (w6 hw) (by decide) (by decide)) (g := (mkF m 34 #[.val (.int p0), .val (.int p1), .val (.int p2), .val (.int p3), .val (.int (3 : Int32)), .val (.ref a_526), .unset, .unset, .unset] [(.int p3), (.int p2), (.int p1), (.int (3 : Int32)), (.ref a_567), (.ref a_567)])) rfl (by rw [hml]; rfl) (argsL := [(.int (3 : Int32)), (.int p1), (.int p2), (.int p3)]) (rest := [(.ref a_567), (.ref a_567)]) (lenOf pd_346 rfl) rfl (by show 2 * 0 + _ ≤ _; exact Nat.le_of_eq rfl) (hb hby at_34) (fun _ _ => ⟨rfl, e_562, (by decide : 4 + 1 ≤ _), (by decide : 14 + 3 ≤ _)⟩)
    dsimp only [Pt.U, Pt.locs, Pt.cells, Pt.slots] at X_573 l_573 y_573 z_573 st_573 hQ_573
    subst l_573 y_573 z_573
    obtain ⟨a_574, k_575, rfl, N_576, K_577, g_578, g_579⟩ := hQ_573
    have N_580 := Fr.app N_556 N_576
    have CH_581 : CHv Z consts_1 s.vm T_573.heap := CHv.keep K_577 sf0 CH_570
    have CR_582 : CHr Z consts_1 s.vm h0 s.vm T_573.heap := CR_571.trans (CHr.keep K_577 sf0 CH_570)
    have E_583 : Exa Z T_573.heap a_567 "java/lang/String" := (A_564.keep K_577)
    have F_584 : Fld Z T_573.heap a_567 "java/lang/String" "value" "[B" .null := ((D_565 (Or.inr (w21 hw)) (ty := (.array .byte)) (by decide)).keep K_577 nin0)
    have F_585 : Fld Z T_573.heap a_567 "java/lang/String" "coder" "B" (.int (0 : Int32)) := ((D_565 (Or.inr (w22 hw)) (ty := .byte) (by decide)).keep K_577 nin0)
    have O_586 : Old Z n0 T_546.heap := (O_545.keep K_550 (allS (Nat.le_trans (own_n0 X00) (Nat.le_of_eq g_527.symm)) all0))
    have O_587 : Old Z n0 T_573.heap := (O_572.keep K_577 all0)
    obtain ⟨_, _, ⟨T_588, L_588, k_588, n_588⟩, -, X_588, ⟨Lc_588, hQ_588, l_588, y_588, z_588⟩, st_588⟩ := X_573.specialBack hx (y := M25) rfl hown (mvT hZ (w9 hw)) (mvT hZ (w10 hw)) (mvT hZ (w11 hw)) (by decide) (backOf (W := 1) (rm_si1_3 l Z a0 hw [] G1 kF kA HG T_573.heap n0 O_587 a_567 a_574 k_575 (own_ch p1) (own_ch p2) (own_ch p3) E_583 F_584 F_585 (Nat.le_trans (own_n0 O_586) (Nat.le_of_eq g_568.symm)) g_579 (own_ch_hi p1) (own_ch_hi p2) (own_ch_hi p3)) hZ (w11 hw) (w3 hw) (by decide) (by decide)) (g := (mkF m 37 #[.val (.int p0), .val (.int p1), .val (.int p2), .val (.int p3), .val (.int (3 : Int32)), .val (.ref a_526), .unset, .unset, .unset] [(.ref a_574), (.ref a_567), (.ref a_567)])) rfl (by rw [hml]; rfl) (Steps.refl _) (a := a_567) (argsL := [(.ref a_574)]) (rest := [(.ref a_567)]) (lenOf pd_350 rfl) rfl (by show 2 * 0 + _ ≤ _; exact Nat.le_of_eq rfl) (hb hby at_37) (fun _ _ => ⟨rfl, rfl, (by decide : 5 + 1 ≤ _), (by decide : 17 + 3 ≤ _)⟩)
    dsimp only [Pt.U, Pt.locs, Pt.cells, Pt.slots] at X_588 l_588 y_588 z_588 st_588 hQ_588
    subst l_588 y_588 z_588
    obtain ⟨a_589, k_590, rfl, N_591, K_592, g_593, g_594, g_595, g_596, g_597⟩ := hQ_588
    have N_598 := Fr.app N_580 N_591
    have CH_599 : CHv Z consts_1 s.vm T_588.heap := CHv.keep K_592 (sfS (own_safe_null hZ.alike E_583 F_584) sf0) CH_581
    have CR_600 : CHr Z consts_1 s.vm h0 s.vm T_588.heap := CR_582.trans (CHr.keep K_592 (sfS (own_safe_null hZ.alike E_583 F_584) sf0) CH_581)
    have O_601 : Old Z n0 T_588.heap := (O_587.keep K_592 (allS (Nat.le_trans (own_n0 O_586) (Nat.le_of_eq g_568.symm)) all0))
    obtain ⟨_, _, ⟨T_602, L_602, k_602, n_602⟩, -, X_602, ⟨Lc_602, hQ_602, l_602, y_602, z_602⟩, st_602⟩ := Jvm.LawKit.callS X_588 hx (y := M292) hown (mvT hZ (w27 hw)) (mvT hZ (w28 hw)) (mvT hZ (w29 hw)) (mvT hZ (w30 hw)) (by decide) (backOf (W := 0) (rm_forb l Z a0 hw [] G1 kF kA HG T_588.heap n0 O_601 a_526 ) hZ (w30 hw) (w29 hw) (by decide) (by decide)) (g := (mkF m 44 #[.val (.int p0), .val (.int p1), .val (.int p2), .val (.int p3), .val (.int (3 : Int32)), .val (.ref a_526), .val (.ref a_567), .unset, .unset] [(.ref a_526)])) rfl (by rw [hml]; rfl) (argsL := [(.ref a_526)]) (rest := []) (lenOf pd_354 rfl) rfl (by show 2 * 0 + _ ≤ _; exact Nat.le_of_eq rfl) (hb hby at_44) (fun _ _ => ⟨rfl, rfl, (by decide : 6 + 1 ≤ _), (by decide : 20 + 3 ≤ _)⟩)
    dsimp only [Pt.U, Pt.locs, Pt.cells, Pt.slots] at X_602 l_602 y_602 z_602 st_602 hQ_602
    subst l_602 y_602 z_602
    obtain ⟨a_603, rfl, N_604, K_605, g_606, g_607, g_608, g_609⟩ := hQ_602
    have N_610 := Fr.app N_598 N_604
    have CH_611 : CHv Z consts_1 s.vm T_602.heap := CHv.keep K_605 sf0 CH_599
    have CR_612 : CHr Z consts_1 s.vm h0 s.vm T_602.heap := CR_600.trans (CHr.keep K_605 sf0 CH_599)
    have O_613 : Old Z n0 T_602.heap := (O_601.keep K_605 all0)
    obtain ⟨q_615, q_616, q_617, q_618, q_619⟩ := isOf (T := T_602) hZ rfl g_607
    obtain ⟨_, _, ⟨T_614, L_614, k_614, n_614⟩, -, X_614, ⟨Lc_614, hQ_614, l_614, y_614, z_614⟩, st_614⟩ := X_602.virtualBack hx (y := M307) (z := M307) hown (mvT hZ (w46 hw)) (mvT hZ (w47 hw)) (notFace_of_selects (args := #[]) (mvT hZ (w49 hw))) (mvT hZ (w49 hw)) (mvT hZ (w48 hw)) (by decide) (backOf (W := 0) (rm_reason l Z a0 hw [] G1 kF kA HG T_602.heap n0 O_613 a_603 a_526 g_609) hZ (w50 hw) (w29 hw) (by decide) (by decide)) q_617 q_619 (g := (mkF m 51 #[.val (.int p0), .val (.int p1), .val (.int p2), .val (.int p3), .val (.int (3 : Int32)), .val (.ref a_526), .val (.ref a_567), .val (.ref a_603), .unset] [(.ref a_603)])) rfl (by rw [hml]; rfl) (Steps.refl _) (argsL := []) (rest := []) (lenOf pd_358 rfl) rfl (by show 2 * 0 + _ ≤ _; exact Nat.le_of_eq rfl) (hb hby at_51) (fun _ _ => ⟨rfl, rfl, (by decide : 7 + 0 ≤ _), (by decide : 23 + 0 ≤ _)⟩)
    dsimp only [Pt.U, Pt.locs, Pt.cells, Pt.slots] at X_614 l_614 y_614 z_614 st_614 hQ_614
    subst l_614 y_614 z_614
    obtain ⟨rfl, N_620, e_621⟩ := hQ_614
    have N_622 := Fr.app N_610 N_620
    have e_623 : T_614.heap = T_602.heap := e_621
    obtain ⟨q_625, q_626, q_627, q_628, q_629⟩ := isOf (T := T_614) hZ e_623 g_607
    obtain ⟨_, _, ⟨T_624, L_624, k_624, n_624⟩, -, X_624, ⟨Lc_624, hQ_624, l_624, y_624, z_624⟩, st_624⟩ := X_614.virtualBack hx (y := M311) (z := M311) hown (mvT hZ (w51 hw)) (mvT hZ (w52 hw)) (notFace_of_selects (args := #[]) (mvT hZ (w54 hw))) (mvT hZ (w54 hw)) (mvT hZ (w53 hw)) (by decide) (backOf (W := 0) (rm_kind l Z a0 hw [] G1 kF kA HG T_602.heap n0 O_613 a_603 g_608) hZ (w55 hw) (w29 hw) (by decide) (by decide)) q_627 q_629 (g := (mkF m 58 #[.val (.int p0), .val (.int p1), .val (.int p2), .val (.int p3), .val (.int (3 : Int32)), .val (.ref a_526), .val (.ref a_567), .val (.ref a_603), .val (.ref a_526)] [(.ref a_603)])) rfl (by rw [hml]; rfl) (Steps.refl _) (argsL := []) (rest := []) (lenOf pd_364 rfl) rfl (by show 2 * 0 + _ ≤ _; exact Nat.le_of_eq rfl) (hb hby at_58) (fun _ _ => ⟨rfl, e_623, (by decide : 7 + 0 ≤ _), (by decide : 23 + 0 ≤ _)⟩)
    dsimp only [Pt.U, Pt.locs, Pt.cells, Pt.slots] at X_624 l_624 y_624 z_624 st_624 hQ_624
    subst l_624 y_624 z_624
    obtain ⟨rfl, N_630, e_631⟩ := hQ_624
    have N_632 := Fr.app N_622 N_630
    have e_633 : T_624.heap = T_602.heap := e_631
    obtain ⟨T_634, X_635, e_636, st_637⟩ := getS X_624 hx hZ (host := "") hown (w56 hw) Via.refl e_633 (O2.ext O_613.2) (g := (mkF m 61 #[.val (.int p0), .val (.int p1), .val (.int p2), .val (.int p3), .val (.int (3 : Int32)), .val (.ref a_526), .val (.ref a_567), .val (.ref a_603), .val (.ref a_526)] [(.ref kF)])) rfl (hb hby at_61)
    obtain ⟨q_639, q_640, q_641, q_642, q_643⟩ := isOf (T := T_634) hZ e_636 g_607
    obtain ⟨_, _, ⟨T_638, L_638, k_638, n_638⟩, -, X_638, ⟨Lc_638, hQ_638, l_638, y_638, z_638⟩, st_638⟩ := X_635.virtualBack hx (y := M321) (z := M321) hown (mvT hZ (w57 hw)) (mvT hZ (w58 hw)) (notFace_of_selects (args := #[]) (mvT hZ (w60 hw))) (mvT hZ (w60 hw)) (mvT hZ (w59 hw)) (by decide) (backOf (W := 0) (rm_dst l Z a0 hw [] G1 kF kA HG T_602.heap n0 O_613 a_603 g_608) hZ (w61 hw) (w29 hw) (by decide) (by decide)) q_641 q_643 (g := (mkF m 69 #[.val (.int p0), .val (.int p1), .val (.int p2), .val (.int p3), .val (.int (3 : Int32)), .val (.ref a_526), .val (.ref a_567), .val (.ref a_603), .val (.ref a_526)] [(.ref a_603)])) rfl (by rw [hml]; rfl) (Steps.refl _) (argsL := []) (rest := []) (lenOf pd_326 rfl) rfl (by show 2 * 0 + _ ≤ _; exact Nat.le_of_eq rfl) (hb hby at_69) (fun _ _ => ⟨rfl, e_636, (by decide : 7 + 0 ≤ _), (by decide : 23 + 0 ≤ _)⟩)
    dsimp only [Pt.U, Pt.locs, Pt.cells, Pt.slots] at X_638 l_638 y_638 z_638 st_638 hQ_638
    subst l_638 y_638 z_638
    obtain ⟨rfl, N_644, e_645⟩ := hQ_638
    have N_646 := Fr.app N_632 N_644
    have e_647 : T_638.heap = T_602.heap := e_645
    obtain ⟨q_649, q_650, q_651, q_652, q_653⟩ := isOf (T := T_638) hZ e_647 g_607
    obtain ⟨_, _, ⟨T_648, L_648, k_648, n_648⟩, -, X_648, ⟨Lc_648, hQ_648, l_648, y_648, z_648⟩, st_648⟩ := X_638.virtualBack hx (y := M333) (z := M333) hown (mvT hZ (w69 hw)) (mvT hZ (w70 hw)) (notFace_of_selects (args := #[]) (mvT hZ (w72 hw))) (mvT hZ (w72 hw)) (mvT hZ (w71 hw)) (by decide) (backOf (W := 0) (rm_allowed l Z a0 hw [] G1 kF kA HG T_602.heap n0 O_613 a_603 g_608) hZ (w73 hw) (w29 hw) (by decide) (by decide)) q_651 q_653 (g := (mkF m 80 #[.val (.int p0), .val (.int p1), .val (.int p2), .val (.int p3), .val (.int (3 : Int32)), .val (.ref a_526), .val (.ref a_567), .val (.ref a_603), .val (.ref a_526)] [(.ref a_603)])) rfl (by rw [hml]; rfl) (Steps.refl _) (argsL := []) (rest := []) (lenOf pd_376 rfl) rfl (by show 2 * 0 + _ ≤ _; exact Nat.le_of_eq rfl) (hb hby at_80) (fun _ _ => ⟨rfl, e_647, (by decide : 7 + 0 ≤ _), (by decide : 23 + 0 ≤ _)⟩)
    dsimp only [Pt.U, Pt.locs, Pt.cells, Pt.slots] at X_648 l_648 y_648 z_648 st_648 hQ_648
    subst l_648 y_648 z_648
    obtain ⟨rfl, N_654, e_655⟩ := hQ_648
    have N_656 := Fr.app N_646 N_654
    have e_657 : T_648.heap = T_602.heap := e_655
    have E_658 : Exa Z T_602.heap a_526 "java/lang/String" := ((((g_551.ext E_563).keep K_577).keep K_592).keep K_605)
    have F_659 : Fld Z T_602.heap a_526 "java/lang/String" "coder" "B" (.int (0 : Int32)) := ((((g_552.ext E_563).keep K_577 nin0).keep K_592 (ninS (Nat.ne_of_lt (Nat.lt_of_lt_of_le A_523.lt (Nat.le_trans (Nat.le_trans K_536.1 K_550.1) (Nat.le_of_eq g_568.symm)))) nin0)).keep K_605 nin0)
    have F_660 : Fld Z T_602.heap a_526 "java/lang/String" "value" "[B" (.ref a_547) := ((((g_553.ext E_563).keep K_577 nin0).keep K_592 (ninS (Nat.ne_of_lt (Nat.lt_of_lt_of_le A_523.lt (Nat.le_trans (Nat.le_trans K_536.1 K_550.1) (Nat.le_of_eq g_568.symm)))) nin0)).keep K_605 nin0)
    have V_661 : Arv Z T_602.heap a_547 k_548 .byte (3 : Int32) [(.int (own_lo8 (own_ch p1))), (.int (own_lo8 (own_ch p2))), (.int (own_lo8 (own_ch p3)))] (.int (0 : Int32)) := ((((g_555.ext E_563).keep K_577 nin0).keep K_592 (ninS (Nat.ne_of_lt (Nat.lt_of_lt_of_le g_555.lt (Nat.le_trans (Nat.le_refl _) (Nat.le_of_eq g_568.symm)))) nin0)).keep K_605 nin0)
    obtain ⟨q_663, q_664, q_665, q_666, q_667⟩ := isOf (T := T_648) hZ e_657 E_658
    obtain ⟨_, _, ⟨T_662, L_662, k_662, n_662⟩, -, X_662, ⟨Lc_662, hQ_662, l_662, y_662, z_662⟩, st_662⟩ := X_648.virtualBack hx (y := M132) (z := M132) hown (mvT hZ (w76 hw)) (mvT hZ (w77 hw)) (notFace_of_selects (args := #[]) (mvT hZ (w79 hw))) (mvT hZ (w79 hw)) (mvT hZ (w78 hw)) (by decide) (backOf (W := 0) (rm_lenany l Z a0 hw [] G1 kF kA HG T_602.heap n0 O_613 a_526 a_547 k_548 (3 : Int32) [(.int (own_lo8 (own_ch p1))), (.int (own_lo8 (own_ch p2))), (.int (own_lo8 (own_ch p3)))] E_658 F_659 F_660 V_661) hZ (w80 hw) (w3 hw) (by decide) (by decide)) q_665 q_667 (g := (mkF m 93 #[.val (.int p0), .val (.int p1), .val (.int p2), .val (.int p3), .val (.int (3 : Int32)), .val (.ref a_526), .val (.ref a_567), .val (.ref a_603), .val (.ref a_526)] [(.ref a_526)])) rfl (by rw [hml]; rfl) (Steps.refl _) (argsL := []) (rest := []) (lenOf pd_326 rfl) rfl (by show 2 * 0 + _ ≤ _; exact Nat.le_of_eq rfl) (hb hby at_93) (fun _ _ => ⟨rfl, e_657, (by decide : 7 + 0 ≤ _), (by decide : 23 + 0 ≤ _)⟩)
    dsimp only [Pt.U, Pt.locs, Pt.cells, Pt.slots] at X_662 l_662 y_662 z_662 st_662 hQ_662
    subst l_662 y_662 z_662
    obtain ⟨rfl, N_668, e_669⟩ := hQ_662
    have N_670 := Fr.app N_656 N_668
    have e_671 : T_662.heap = T_602.heap := e_669
    have E_672 : Exa Z T_602.heap a_567 "java/lang/String" := (g_593.keep K_605)
    have F_673 : Fld Z T_602.heap a_567 "java/lang/String" "coder" "B" (.int (0 : Int32)) := (g_594.keep K_605 nin0)
    have F_674 : Fld Z T_602.heap a_567 "java/lang/String" "value" "[B" (.ref a_589) := (g_595.keep K_605 nin0)
    have V_675 : Arv Z T_602.heap a_589 k_590 .byte (3 : Int32) [(.int (own_lo8 (own_ch p1))), (.int (own_lo8 (own_ch p2))), (.int (own_lo8 (own_ch p3)))] (.int (0 : Int32)) := (g_597.keep K_605 nin0)
    obtain ⟨q_677, q_678, q_679, q_680, q_681⟩ := isOf (T := T_662) hZ e_671 E_672
    obtain ⟨_, _, ⟨T_676, L_676, k_676, n_676⟩, -, X_676, ⟨Lc_676, hQ_676, l_676, y_676, z_676⟩, st_676⟩ := X_662.virtualBack hx (y := M162) (z := M162) hown (mvT hZ (w87 hw)) (mvT hZ (w88 hw)) (notFace_of_selects (args := #[]) (mvT hZ (w90 hw))) (mvT hZ (w90 hw)) (mvT hZ (w89 hw)) (by decide) (backOf (W := 0) (rm_eq_3 l Z a0 hw [] G1 kF kA HG T_602.heap n0 O_613 a_567 a_589 k_590 a_526 a_547 k_548 (own_lo8 (own_ch p1)) (own_lo8 (own_ch p2)) (own_lo8 (own_ch p3)) E_672 F_673 F_674 V_675 E_658 F_659 F_660 V_661 (Ne.symm (Nat.ne_of_lt (Nat.lt_of_lt_of_le A_523.lt (Nat.le_trans (Nat.le_trans K_536.1 K_550.1) (Nat.le_of_eq g_568.symm)))))) hZ (w91 hw) (w3 hw) (by decide) (by decide)) q_679 q_681 (g := (mkF m 105 #[.val (.int p0), .val (.int p1), .val (.int p2), .val (.int p3), .val (.int (3 : Int32)), .val (.ref a_526), .val (.ref a_567), .val (.ref a_603), .val (.ref a_526)] [(.ref a_526), (.ref a_567)])) rfl (by rw [hml]; rfl) (Steps.refl _) (argsL := [(.ref a_526)]) (rest := []) (lenOf pd_387 rfl) rfl (by show 2 * 0 + _ ≤ _; exact Nat.le_of_eq rfl) (hb hby at_105) (fun _ _ => ⟨rfl, e_671, (by decide : 7 + 0 ≤ _), (by decide : 23 + 0 ≤ _)⟩)
    dsimp only [Pt.U, Pt.locs, Pt.cells, Pt.slots] at X_676 l_676 y_676 z_676 st_676 hQ_676
    subst l_676 y_676 z_676
    obtain ⟨rfl, N_682, e_683⟩ := hQ_676
    have N_684 := Fr.app N_670 N_682
    have e_685 : T_676.heap = T_602.heap := e_683
    have C_686 : Steps p.tables e below S0 (T_676.setTop (mkF m 116 #[.val (.int p0), .val (.int p1), .val (.int p2), .val (.int p3), .val (.int (3 : Int32)), .val (.ref a_526), .val (.ref a_567), .val (.ref a_603), .val (.ref a_526)] [(.int (1 : Int32))])) := by
      refine C_517.trans ?_
      refine XS.istore X0.here hx rfl (hb hby at_6) rfl (l' := #[.val (.int p0), .val (.int p1), .val (.int p2), .val (.int p3), .val (.int (3 : Int32)), .unset, .unset, .unset, .unset]) rfl ?_
      refine st_525 _ ?_
      refine XS.dup X_520.here hx rfl (hb hby at_11) rfl rfl ?_
      refine XS.iload X_520.here hx rfl (hb hby at_12) rfl ?_
      refine XS.iloadN X_520.here hx rfl (hb hby at_14) rfl ?_
      refine XS.iloadN X_520.here hx rfl (hb hby at_15) rfl ?_
      refine XS.iloadN X_520.here hx rfl (hb hby at_16) rfl ?_
      refine st_532 _ ?_
      show Steps p.tables e below (T_532.setTop (mkF m 20 #[.val (.int p0), .val (.int p1), .val (.int p2), .val (.int p3), .val (.int (3 : Int32)), .unset, .unset, .unset, .unset] [(.ref a_533), (.ref a_526), (.ref a_526)])) _
      refine st_546.trans ?_
      refine XS.astore X_546.here hx rfl (hb hby at_23) rfl rfl (l' := #[.val (.int p0), .val (.int p1), .val (.int p2), .val (.int p3), .val (.int (3 : Int32)), .val (.ref a_526), .unset, .unset, .unset]) rfl ?_
      refine st_566 _ ?_
      refine XS.dup X_561.here hx rfl (hb hby at_28) rfl rfl ?_
      refine XS.iload X_561.here hx rfl (hb hby at_29) rfl ?_
      refine XS.iloadN X_561.here hx rfl (hb hby at_31) rfl ?_
      refine XS.iloadN X_561.here hx rfl (hb hby at_32) rfl ?_
      refine XS.iloadN X_561.here hx rfl (hb hby at_33) rfl ?_
      show Steps p.tables e below (T_559.setTop (mkF m 34 #[.val (.int p0), .val (.int p1), .val (.int p2), .val (.int p3), .val (.int (3 : Int32)), .val (.ref a_526), .unset, .unset, .unset] [(.int p3), (.int p2), (.int p1), (.int (3 : Int32)), (.ref a_567), (.ref a_567)])) _
      refine st_573 _ ?_
      refine st_588.trans ?_
      refine XS.astore X_588.here hx rfl (hb hby at_40) rfl rfl (l' := #[.val (.int p0), .val (.int p1), .val (.int p2), .val (.int p3), .val (.int (3 : Int32)), .val (.ref a_526), .val (.ref a_567), .unset, .unset]) rfl ?_
      refine XS.aload X_588.here hx rfl (hb hby at_42) rfl rfl ?_
      refine st_602 _ ?_
      refine XS.astore X_602.here hx rfl (hb hby at_47) rfl rfl (l' := #[.val (.int p0), .val (.int p1), .val (.int p2), .val (.int p3), .val (.int (3 : Int32)), .val (.ref a_526), .val (.ref a_567), .val (.ref a_603), .unset]) rfl ?_
      refine XS.aload X_602.here hx rfl (hb hby at_49) rfl rfl ?_
      refine st_614.trans ?_
      show Steps p.tables e below (T_614.setTop (mkF m 54 #[.val (.int p0), .val (.int p1), .val (.int p2), .val (.int p3), .val (.int (3 : Int32)), .val (.ref a_526), .val (.ref a_567), .val (.ref a_603), .unset] [(.ref a_526)])) _
      refine XS.astore X_614.here hx rfl (hb hby at_54) rfl rfl (l' := #[.val (.int p0), .val (.int p1), .val (.int p2), .val (.int p3), .val (.int (3 : Int32)), .val (.ref a_526), .val (.ref a_567), .val (.ref a_603), .val (.ref a_526)]) rfl ?_
      refine XS.aload X_614.here hx rfl (hb hby at_56) rfl rfl ?_
      refine st_624.trans ?_
      refine st_637 _ ?_
      refine acmp X_635 hx rfl (cd := .ne) (x := (.ref kF)) (y := (.ref kF)) rfl rfl (same := true) (pc0 := 64) (pc' := 67) rfl (hb hby at_64) rfl (decide_eq_true rfl) (by decide) (by decide) ?_
      refine XS.aload X_635.here hx rfl (hb hby at_67) rfl rfl ?_
      refine st_638.trans ?_
      refine XS.sipush X_638.here hx rfl (hb hby at_72) ?_
      show Steps p.tables e below (T_638.setTop (mkF m 75 #[.val (.int p0), .val (.int p1), .val (.int p2), .val (.int p3), .val (.int (3 : Int32)), .val (.ref a_526), .val (.ref a_567), .val (.ref a_603), .val (.ref a_526)] [(.int (403 : Int32)), (.int (403 : Int32))])) _
      refine XS.icmpNo X_638.here hx rfl (hb hby at_75) rfl (by decide) ?_
      refine XS.aload X_638.here hx rfl (hb hby at_78) rfl rfl ?_
      refine st_648.trans ?_
      refine XS.ifNo X_648.here hx rfl (hb hby at_83) rfl (by decide) ?_
      refine XS.aload X_648.here hx rfl (hb hby at_86) rfl rfl ?_
      refine XS.ifnullNo X_648.here hx rfl (hb hby at_88) rfl ?_
      refine XS.aload X_648.here hx rfl (hb hby at_91) rfl rfl ?_
      refine st_662.trans ?_
      show Steps p.tables e below (T_662.setTop (mkF m 96 #[.val (.int p0), .val (.int p1), .val (.int p2), .val (.int p3), .val (.int (3 : Int32)), .val (.ref a_526), .val (.ref a_567), .val (.ref a_603), .val (.ref a_526)] [(.int (3 : Int32))])) _
      refine XS.iload X_662.here hx rfl (hb hby at_96) rfl ?_
      refine XS.icmpNo X_662.here hx rfl (hb hby at_98) rfl (by decide) ?_
      refine XS.aload X_662.here hx rfl (hb hby at_101) rfl rfl ?_
      refine XS.aload X_662.here hx rfl (hb hby at_103) rfl rfl ?_
      refine st_676.trans ?_
      refine XS.ifNo X_676.here hx rfl (hb hby at_108) rfl (by decide) ?_
      refine XS.iconst X_676.here hx rfl (hb hby at_111) ?_
      refine XS.goto X_676.here hx rfl (pc0 := 112) (pc' := 116) rfl (hb hby at_112) (by decide) (by decide) ?_
      show Steps p.tables e below (T_676.setTop (mkF m 116 #[.val (.int p0), .val (.int p1), .val (.int p2), .val (.int p3), .val (.int (3 : Int32)), .val (.ref a_526), .val (.ref a_567), .val (.ref a_603), .val (.ref a_526)] [(.int (1 : Int32))])) _
      exact Steps.refl _
    have K_687 : Keep h0 T_602.heap [] := ((((((((Keep.refl _ _).ext E_522).trans K_536 all0).trans K_550 (allS (Or.inr (Nat.le_trans (Nat.le_refl _) (Nat.le_of_eq g_527.symm))) all0)).ext E_563).trans K_577 all0).trans K_592 (allS (Or.inr (Nat.le_trans (Nat.le_trans (Nat.le_trans E_522.1 K_536.1) K_550.1) (Nat.le_of_eq g_568.symm))) all0)).trans K_605 all0)
    obtain ⟨fs, hr, hrun, hended, hRE⟩ := X_676.leaveW hS0 (by rw [show T_676.heap = T_602.heap from e_685]; exact (Nat.le_trans (Nat.le_refl _) (Nat.le_trans (Nat.le_trans (Nat.le_trans (Nat.le_trans (Nat.le_trans (Nat.le_trans E_522.1 K_536.1) K_550.1) E_563.1) K_577.1) K_592.1) K_605.1))) (v := some (.int (1 : Int32))) (fun h => by rw [Bd.returns] at h; cases h)
    refine ⟨_, _, C_686.trans (retN X_676 hx (t := .boolean) Bd.returns (by simp) (hb hby at_116) hr), hrun, hended, _, _, rfl, ?_, ?_, hRE.1, hRE.2.1, hRE.2.2.1, hRE.2.2.2.mono (by decide) (by decide)⟩
    · show Q_law Z G1 kF kA p0 p1 p2 p3 h0 n0 (some (.int (1 : Int32))) T_676.heap _
      rw [e_685]
      exact ⟨rfl, N_684, K_687⟩
    · show CHr Z consts_1 s.vm s.heap T_676.vm T_676.heap
      rw [hh, show T_676.heap = T_602.heap from e_685]
      exact CR_612.trans (CHv.at X_676 hZ hEL CH_611)
theorem w35 {Z : State} {a0 : Array Value} (hw : ∀ d ∈ tables_1, d.before a0 Z = true) : Jvm.Cond.before (Jvm.Cond.laysStatic "com/example/claimgate/claimgate/authz/Decision$Kind" "FORBIDDEN" "Lcom/example/claimgate/claimgate/authz/Decision$Kind;") a0 Z = true := hw _ (List.mem_of_getElem? (i := 35) rfl)
theorem w75 {Z : State} {a0 : Array Value} (hw : ∀ d ∈ tables_1, d.before a0 Z = true) : Jvm.Cond.before (Jvm.Cond.laysStatic "com/example/claimgate/claimgate/authz/Decision$Kind" "ALLOWED" "Lcom/example/claimgate/claimgate/authz/Decision$Kind;") a0 Z = true := hw _ (List.mem_of_getElem? (i := 75) rfl)
theorem own_sta {s : State} {args : Array Value} {C n d K : String} (hx : (Jvm.Cond.exactly (.static C n d) K).value args s none s [] = some true) (hi : (Jvm.Cond.initialized C).before args s = true) (hl : (Jvm.Cond.laysStatic C n d).before args s = true) :
    ∃ a, Sta s s.heap C n d (.ref a) ∧ Exa s s.heap a K ∧ (Term.static C n d).eval args s none [] s = some (.ref a) := by
  obtain ⟨a, c', cell, k, e1, -⟩ := Cond.exactly_spec (Cond.before_iff.mpr hx)
  exact ⟨a, Sta.start e1 (Or.inr ⟨hi, hl⟩), Exa.start e1 hx, e1⟩
theorem own_fld {s : State} {args : Array Value} {t : Term} {a : Addr} {O n d : String} {v : Value} (ev : t.eval args s none [] s = some (.ref a)) (h : (Term.field t O n d).eval args s none [] s = some v) : Fld s s.heap a O n d v :=
  Fld.start (by simpa [Term.eval, ev] using h)
theorem own_fldI {s : State} {args : Array Value} {t : Term} {a : Addr} {O n d : String} {i : Int32} (ev : t.eval args s none [] s = some (.ref a)) (h : (Jvm.Cond.eq (Term.field t O n d) (.int i)).value args s none s [] = some true) : Fld s s.heap a O n d (.int i) :=
  own_fld ev (eqv_i (Term.int_eval i) h)
set_option maxRecDepth 65536 in
set_option maxHeartbeats 40000000 in
theorem comes_1 {Post : Tables → Env → Array Value → State → Outcome → State → Prop} (hpost : ∀ tb e args s v u, (limb_1_1.after args s (.returned v) u = true ∧ limb_1_2.after args s (.returned v) u = true ∧ True) → ReturnedEndW s (.returned v) u (Jvm.fieldLocs frame_1_writes args s ++ Jvm.arrayLocs frame_1_arrays args s ++ Jvm.staticLocs frame_1_statics s) 24 1152 → Post tb e args s (.returned v) u) :
    ArmFor flags0 classFile x code maxLocals ret World_1 tables_1 room_1 Calls_1 rest_1 Pre_1 Post := by
  intro l hfl _ _ p e ha hc hk s m args below hf hA hF happ hP
  obtain ⟨hcalls, hrest, hpre⟩ := hP
  obtain ⟨-, -, -, hnamed, -, -, -, hat⟩ := (Spec.applies_iff hf).mp happ
  obtain ⟨hg, hn⟩ := and_e (Cond.before_iff.mp (show (Jvm.Cond.and given_1 narrow_1).before args s = true from hpre))
  obtain ⟨h1, g0⟩ := and_e hg
  obtain ⟨a0, g1⟩ := and_e g0
  obtain ⟨a1, g2⟩ := and_e g1
  obtain ⟨a2, g3⟩ := and_e g2
  have a3 := g3
  obtain ⟨w0, w1, w2, w3, rfl⟩ : ∃ w0 w1 w2 w3 : Value, args = #[w0, w1, w2, w3] := by
    have hs : args.size = 4 := by simpa [Cond.value, given_1] using h1
    obtain ⟨L⟩ := args
    match L, hs with
    | [w0, w1, w2, w3], _ => exact ⟨w0, w1, w2, w3, rfl⟩
  have hw := fun d (hd : d ∈ tables_1) => atoms_spec (ws := Jvm.Cond.code x code maxLocals ret :: tables_1) hat d (List.mem_cons_of_mem _ hd)
  obtain ⟨hsets, hown0⟩ := atoms_of _ (rest_1_c_eq ▸ (show rest_1_c.before _ s = true from hrest))
  have hfit : Fit s := fun {y c} hc i hi => by
    obtain ⟨ha, rfl⟩ := Array.getElem?_eq_some_iff.mp hc
    have q := List.all_eq_true.mp ((Array.all_eq_true_iff_forall_mem.mp hF) _ (Array.getElem_mem ha)) i (List.mem_range.mpr hi)
    simpa [Array.getElem?_eq_getElem hi] using q
  obtain ⟨i0, q0⟩ := is_v a0
  obtain rfl : w0 = (.int i0) := Option.some.inj q0
  obtain ⟨i1, q1⟩ := is_v a1
  obtain rfl : w1 = (.int i1) := Option.some.inj q1
  obtain ⟨i2, q2⟩ := is_v a2
  obtain rfl : w2 = (.int i2) := Option.some.inj q2
  obtain ⟨i3, q3⟩ := is_v a3
  obtain rfl : w3 = (.int i3) := Option.some.inj q3
  obtain ⟨iCS, eCS⟩ := is_v (Cond.before_iff.mp (hsets _ (List.mem_of_getElem? (i := 1) rfl)))
  have SCS : Sta s s.heap "java/lang/String" "COMPACT_STRINGS" "Z" (.int iCS) := Sta.start eCS (Or.inl (hsets _ (List.mem_of_getElem? (i := 0) rfl)))
  have PCS : ¬ (iCS = (0 : Int32)) := gotF (Cond.eq_ints eCS (Term.int_eval (0))) (not_v (Cond.before_iff.mp (hsets _ (List.mem_of_getElem? (i := 2) rfl))))
  obtain ⟨n1, hn⟩ := and_e hn
  obtain ⟨n2, hn⟩ := and_e hn
  obtain ⟨n3, hn⟩ := and_e hn
  obtain ⟨-, hn⟩ := and_e hn
  obtain ⟨-, n6⟩ := and_e hn
  obtain ⟨kF, S1, E1, v1⟩ := own_sta n1 (w34 hw) (w35 hw)
  obtain ⟨kA, S2, E2, v2⟩ := own_sta n3 (w34 hw) (w75 hw)
  have F1 := own_fldI v1 n2
  have F2 := own_fldI v2 n6
  have HG : own_G l s #[(.int i0), (.int i1), (.int i2), (.int i3)] iCS kF kA := ⟨SCS, PCS, S1, S2, E1, F1, Fld.ne F1 F2 (by decide)⟩
  have CH : CHv s consts_1 s.vm s.heap := CHv.start (own_EL hw) hcalls.1 (hsets _ (List.mem_of_getElem? (i := 2) rfl)) (hw _ (List.mem_of_getElem? (i := 20) rfl)) (hw _ (List.mem_of_getElem? (i := 2) rfl))
  obtain ⟨n, o, h1, h2, h3, _, L, rfl, ⟨rfl, N, -⟩, -, hq⟩ := rm_law l s _ hw tables_1 iCS kF kA HG s.heap s.heap.size (Old.start s) i0 i1 i2 i3 p e ha hc hk s m _ below hf ((Spec.applies_iff_loose hf).mp happ).1 ⟨rfl, State.Warmed39.refl s, rfl, CH⟩ trivial
  refine ⟨n, _, h1, h2, h3, hpost _ _ _ _ _ _ ⟨Cond.after_iff.mpr rfl, Cond.after_iff.mpr (eq_i res_at (Term.int_eval (1)) rfl), trivial⟩ ⟨hq.1, hq.2.1, hq.2.2.1, (hq.2.2.2.sift fun y hy => Or.inr (N y hy)).mono (by decide) (by decide)⟩⟩
theorem main_1_1 : Claimed_1_1 := comes_1 fun _ _ _ _ _ _ h hF => ⟨h.1, hF⟩
theorem main_1_2 : Claimed_1_2 := comes_1 fun _ _ _ _ _ _ h hF => ⟨h.2.1, hF⟩
end Jvm.Pilot.@@N@@
namespace Jvm.Pilot.@@N@@
open Jvm Jvm.ClassFile Sem Op Lib Jvm.Free Jvm.Stand Jvm.Pilot.@@N@@.Jvm.D
/-! MADE BY PROGRAM (witnessworld.py) out of the Statement's table words and the real class files: 22 classes; the members and pool entries that the words name. The judged class is class 1, her method 1. -/
namespace start1
open Jvm.ClassFile
def u (s : String) : CpInfo := .utf8 (stringToUtf16 s)
/-- a pool by its gaps: so many unusable entries, then the entry; so many at the end -/
def gap : Nat → List CpInfo → List CpInfo
  | 0, r => r
  | n + 1, r => .unusable :: gap n r
def poolList (es : List (Nat × CpInfo)) (last : Nat) : List CpInfo := es.foldr (fun e r => gap e.1 (e.2 :: r)) (gap last [])
def pool (es : List (Nat × CpInfo)) (last : Nat) : Array CpInfo := ⟨poolList es last⟩
def fileOf (pool : Array CpInfo) (this : Nat) (attrs : Array Attribute := #[]) (ms : Array MethodInfo := #[]) (fl : Nat := 33) (sup : Nat := 0) (ifs : Array Nat := #[]) (fds : Array FieldInfo := #[]) : ClassFile where
  minorVersion := 0
  majorVersion := 65
  constantPool := pool
  accessFlags := fl
  thisClass := this
  superClass := sup
  interfaces := ifs
  fields := fds
  methods := ms
  attributes := attrs
def plain (name : String) (sup : Option ClassId) : Class where
  name := name
  kind := .ordinary
  loader := none
  accessFlags := 33
  super := sup
  interfaces := #[]
  cf := none
  fields := #[]
  methods := #[]
  instanceTypes := #[]
  staticTypes := #[]
  resolved := #[]
  callSites := []
  init := .initialized
  statics := none
  mirror := none

def pool0 : Array CpInfo := pool [(5, u "<init>"), (0, u "()V"), (1, .class_ 10), (1, u "java/lang/Object")] 113

def k0c0 : Code := { maxStack := 0, maxLocals := 1, code := object_method_1_code, exceptionTable := #[], attributes := #[] }
def k0m0 : Method := { name := "<init>", desc := "()V", sig := { parameters := [], returnType := none }, accessFlags := 1, code := some k0c0 }
/-- java/lang/Object -/
def k0 : Class := { plain "java/lang/Object" none with
  accessFlags := 33
  interfaces := #[]
  cf := some (fileOf pool0 8 #[] #[{ accessFlags := 1, nameIndex := 5, descriptorIndex := 6, attributes := #[] }] 33 0 #[] #[])
  fields := #[]
  methods := #[k0m0]
  instanceTypes := #[]
  staticTypes := #[]
  resolved := Array.replicate 124 none
  statics := none }

def pool1 : Array CpInfo := pool [(2, .class_ 4), (1, u "java/lang/Object"), (0, u "<init>"), (0, u "()V"), (0, .integer 2147483647), (0, .class_ 9), (0, u "java/lang/String"), (0, .methodref 11 12), (0, .class_ 13), (0, .nameAndType 14 15), (0, u "com/example/claimgate/claimgate/authz/DecisionForbiddenPinLaw"), (0, u "makeChars"), (0, u "(IIII)[C"), (0, .methodref 8 17), (0, .nameAndType 5 18), (0, u "([C)V"), (0, .methodref 20 21), (0, .class_ 22), (0, .nameAndType 23 24), (0, u "com/example/claimgate/claimgate/authz/Decision"), (0, u "forbidden"), (0, u "(Ljava/lang/String;)Lcom/example/claimgate/claimgate/authz/Decision;"), (0, .methodref 20 26), (0, .nameAndType 27 28), (0, u "reason"), (0, u "()Ljava/lang/String;"), (0, .methodref 20 30), (0, .nameAndType 31 32), (0, u "kind"), (0, u "()Lcom/example/claimgate/claimgate/authz/Decision$Kind;"), (0, .fieldref 34 35), (0, .class_ 36), (0, .nameAndType 37 38), (0, u "com/example/claimgate/claimgate/authz/Decision$Kind"), (0, u "FORBIDDEN"), (0, u "Lcom/example/claimgate/claimgate/authz/Decision$Kind;"), (0, .methodref 20 40), (0, .nameAndType 41 42), (0, u "status"), (0, u "()I"), (0, .methodref 20 44), (0, .nameAndType 45 46), (0, u "allowed"), (0, u "()Z"), (0, .methodref 8 48), (0, .nameAndType 49 42), (0, u "length"), (0, .methodref 8 51), (0, .nameAndType 52 53), (0, u "equals"), (0, u "(Ljava/lang/Object;)Z"), (2, u "law"), (0, u "(IIII)Z")] 5

def k1m0 : Method := { name := "<init>", desc := "()V", sig := { parameters := [], returnType := none }, accessFlags := 1, code := none }
def k1c1 : Code := { maxStack := 6, maxLocals := 9, code := code, exceptionTable := #[], attributes := #[] }
def k1m1 : Method := { name := "law", desc := "(IIII)Z", sig := { parameters := [.int, .int, .int, .int], returnType := some .boolean }, accessFlags := 9, code := some k1c1 }
def k1c2 : Code := { maxStack := 5, maxLocals := 4, code := method_3_code, exceptionTable := #[], attributes := #[] }
def k1m2 : Method := { name := "makeChars", desc := "(IIII)[C", sig := { parameters := [.int, .int, .int, .int], returnType := some (.array .char) }, accessFlags := 10, code := some k1c2 }
/-- com/example/claimgate/claimgate/authz/DecisionForbiddenPinLaw -/
def k1 : Class := { plain "com/example/claimgate/claimgate/authz/DecisionForbiddenPinLaw" (some 0) with
  accessFlags := 49
  interfaces := #[]
  cf := some (fileOf pool1 11 #[] #[{ accessFlags := 1, nameIndex := 5, descriptorIndex := 6, attributes := #[] }, { accessFlags := 9, nameIndex := 56, descriptorIndex := 57, attributes := #[] }, { accessFlags := 10, nameIndex := 14, descriptorIndex := 15, attributes := #[] }] 49 2 #[] #[])
  fields := #[]
  methods := #[k1m0, k1m1, k1m2]
  instanceTypes := #[]
  staticTypes := #[]
  resolved := Array.replicate 63 none
  statics := none }

def pool2 : Array CpInfo := pool [(1, .class_ 2), (0, u "java/io/Serializable"), (0, .class_ 4), (0, u "java/lang/Object")] 2

/-- java/io/Serializable -/
def k2 : Class := { plain "java/io/Serializable" (some 0) with
  accessFlags := 1537
  interfaces := #[]
  cf := some (fileOf pool2 1 #[] #[] 1537 3 #[] #[])
  fields := #[]
  methods := #[]
  instanceTypes := #[]
  staticTypes := #[]
  resolved := Array.replicate 7 none
  statics := none }

def pool3 : Array CpInfo := pool [(1, .class_ 2), (0, u "java/lang/Comparable"), (0, .class_ 4), (0, u "java/lang/Object")] 7

/-- java/lang/Comparable -/
def k3 : Class := { plain "java/lang/Comparable" (some 0) with
  accessFlags := 1537
  interfaces := #[]
  cf := some (fileOf pool3 1 #[] #[] 1537 3 #[] #[])
  fields := #[]
  methods := #[]
  instanceTypes := #[]
  staticTypes := #[]
  resolved := Array.replicate 12 none
  statics := none }

def pool4 : Array CpInfo := pool [(2, .class_ 4), (1, u "java/lang/CharSequence"), (42, .class_ 48), (0, u "java/lang/CharSequence$1CodePointIterator"), (10, .class_ 60), (0, u "java/lang/CharSequence$1CharIterator"), (5, .class_ 67), (0, u "java/lang/Object")] 63

/-- java/lang/CharSequence -/
def k4 : Class := { plain "java/lang/CharSequence" (some 0) with
  accessFlags := 1537
  interfaces := #[]
  cf := some (fileOf pool4 2 #[.nestMembers #[47, 59]] #[] 1537 66 #[] #[])
  fields := #[]
  methods := #[]
  instanceTypes := #[]
  staticTypes := #[]
  resolved := Array.replicate 131 none
  statics := none }

def pool5 : Array CpInfo := pool [(1, .class_ 2), (0, u "java/lang/constant/Constable"), (0, .class_ 4), (0, u "java/lang/Object")] 6

/-- java/lang/constant/Constable -/
def k5 : Class := { plain "java/lang/constant/Constable" (some 0) with
  accessFlags := 1537
  interfaces := #[]
  cf := some (fileOf pool5 1 #[] #[] 1537 3 #[] #[])
  fields := #[]
  methods := #[]
  instanceTypes := #[]
  staticTypes := #[]
  resolved := Array.replicate 11 none
  statics := none }

def pool6 : Array CpInfo := pool [(1, .class_ 2), (0, u "java/lang/constant/ConstantDesc"), (0, .class_ 4), (0, u "java/lang/Object")] 32

/-- java/lang/constant/ConstantDesc -/
def k6 : Class := { plain "java/lang/constant/ConstantDesc" (some 0) with
  accessFlags := 1537
  interfaces := #[]
  cf := some (fileOf pool6 1 #[] #[] 1537 3 #[] #[])
  fields := #[]
  methods := #[]
  instanceTypes := #[]
  staticTypes := #[]
  resolved := Array.replicate 37 none
  statics := none }

def pool7 : Array CpInfo := pool [(1, .methodref 2 3), (0, .class_ 4), (0, .nameAndType 5 6), (0, u "java/lang/Object"), (0, u "<init>"), (0, u "()V"), (0, .string 8), (0, u ""), (0, .fieldref 10 11), (0, .class_ 12), (0, .nameAndType 13 14), (0, u "java/lang/String"), (0, u "value"), (0, u "[B"), (0, .fieldref 10 16), (0, .nameAndType 17 18), (0, u "coder"), (0, u "B"), (2, u "hash"), (0, u "I"), (2, u "hashIsZero"), (0, u "Z"), (0, .methodref 10 28), (0, .nameAndType 5 29), (0, u "([CIILjava/lang/Void;)V"), (8, .fieldref 10 39), (0, .nameAndType 40 26), (0, u "COMPACT_STRINGS"), (1, .class_ 44), (1, u "java/lang/StringUTF16"), (0, u "compress"), (1, .methodref 42 48), (0, .nameAndType 49 50), (0, u "coderFromArrayLen"), (0, u "([BI)B"), (56, .class_ 109), (1, u "java/lang/StringLatin1"), (67, .methodref 42 178), (0, .nameAndType 45 179), (0, u "([CII)[B"), (154, u "()I"), (0, .methodref 10 336), (0, .nameAndType 17 337), (0, u "()B"), (169, u "length"), (33, .methodref 107 542), (0, .nameAndType 543 544), (0, u "equals"), (0, u "([B[B)Z"), (28, u "(Ljava/lang/Object;)Z"), (1, .class_ 576), (0, u "java/lang/CharSequence"), (22, u "CASE_INSENSITIVE_ORDER"), (0, u "Ljava/util/Comparator;"), (409, u "([C)V"), (90, u "serialPersistentFields"), (0, u "[Ljava/io/ObjectStreamField;"), (0, .class_ 1104), (0, u "java/lang/String$CaseInsensitiveComparator"), (1, .class_ 1107), (0, u "java/io/Serializable"), (0, .class_ 1109), (0, u "java/lang/Comparable"), (0, .class_ 1111), (0, u "java/lang/constant/Constable"), (0, .class_ 1113), (0, u "java/lang/constant/ConstantDesc"), (2, u "serialVersionUID"), (0, u "J"), (3, u "REPL"), (0, u "C"), (2, u "LATIN1"), (1, u "UTF16")] 323

def k7m0 : Method := { name := "<init>", desc := "()V", sig := { parameters := [], returnType := none }, accessFlags := 1, code := none }
def k7c1 : Code := { maxStack := 5, maxLocals := 2, code := jdk_42_method_3_code, exceptionTable := #[], attributes := #[] }
def k7m1 : Method := { name := "<init>", desc := "([C)V", sig := { parameters := [(.array .char)], returnType := none }, accessFlags := 1, code := some k7c1 }
def k7c2 : Code := { maxStack := 2, maxLocals := 1, code := jdk_42_method_54_code, exceptionTable := #[], attributes := #[] }
def k7m2 : Method := { name := "length", desc := "()I", sig := { parameters := [], returnType := some .int }, accessFlags := 1, code := some k7c2 }
def k7c3 : Code := { maxStack := 2, maxLocals := 3, code := jdk_42_method_66_code, exceptionTable := #[], attributes := #[] }
def k7m3 : Method := { name := "equals", desc := "(Ljava/lang/Object;)Z", sig := { parameters := [(.object "java/lang/Object")], returnType := some .boolean }, accessFlags := 1, code := some k7c3 }
def k7c4 : Code := { maxStack := 4, maxLocals := 6, code := jdk_42_method_149_code, exceptionTable := #[], attributes := #[] }
def k7m4 : Method := { name := "<init>", desc := "([CIILjava/lang/Void;)V", sig := { parameters := [(.array .char), .int, .int, (.object "java/lang/Void")], returnType := none }, accessFlags := 2, code := some k7c4 }
def k7c5 : Code := { maxStack := 1, maxLocals := 1, code := jdk_42_method_152_code, exceptionTable := #[], attributes := #[] }
def k7m5 : Method := { name := "coder", desc := "()B", sig := { parameters := [], returnType := some .byte }, accessFlags := 0, code := some k7c5 }
/-- java/lang/String -/
def k7 : Class := { plain "java/lang/String" (some 0) with
  accessFlags := 49
  interfaces := #[2, 3, 4, 5, 6]
  cf := some (fileOf pool7 10 #[.nestMembers #[1103]] #[{ accessFlags := 1, nameIndex := 5, descriptorIndex := 6, attributes := #[] }, { accessFlags := 1, nameIndex := 5, descriptorIndex := 1010, attributes := #[] }, { accessFlags := 1, nameIndex := 507, descriptorIndex := 334, attributes := #[] }, { accessFlags := 1, nameIndex := 543, descriptorIndex := 573, attributes := #[] }, { accessFlags := 2, nameIndex := 5, descriptorIndex := 29, attributes := #[] }, { accessFlags := 0, nameIndex := 17, descriptorIndex := 337, attributes := #[] }] 49 2 #[1106, 1108, 575, 1110, 1112] #[{ accessFlags := 18, nameIndex := 13, descriptorIndex := 14, attributes := #[] }, { accessFlags := 18, nameIndex := 17, descriptorIndex := 18, attributes := #[] }, { accessFlags := 2, nameIndex := 21, descriptorIndex := 22, attributes := #[] }, { accessFlags := 2, nameIndex := 25, descriptorIndex := 26, attributes := #[] }, { accessFlags := 26, nameIndex := 1116, descriptorIndex := 1117, attributes := #[] }, { accessFlags := 24, nameIndex := 40, descriptorIndex := 26, attributes := #[] }, { accessFlags := 26, nameIndex := 1101, descriptorIndex := 1102, attributes := #[] }, { accessFlags := 26, nameIndex := 1121, descriptorIndex := 1122, attributes := #[] }, { accessFlags := 25, nameIndex := 599, descriptorIndex := 600, attributes := #[] }, { accessFlags := 24, nameIndex := 1125, descriptorIndex := 18, attributes := #[] }, { accessFlags := 24, nameIndex := 1127, descriptorIndex := 18, attributes := #[] }])
  fields := #[{ name := "value", type := (.array .byte), accessFlags := 18, slot := 0, constantValue := 0 }, { name := "coder", type := .byte, accessFlags := 18, slot := 1, constantValue := 0 }, { name := "hash", type := .int, accessFlags := 2, slot := 2, constantValue := 0 }, { name := "hashIsZero", type := .boolean, accessFlags := 2, slot := 3, constantValue := 0 }, { name := "serialVersionUID", type := .long, accessFlags := 26, slot := 0, constantValue := 0 }, { name := "COMPACT_STRINGS", type := .boolean, accessFlags := 24, slot := 1, constantValue := 0 }, { name := "serialPersistentFields", type := (.array (.object "java/io/ObjectStreamField")), accessFlags := 26, slot := 2, constantValue := 0 }, { name := "REPL", type := .char, accessFlags := 26, slot := 3, constantValue := 0 }, { name := "CASE_INSENSITIVE_ORDER", type := (.object "java/util/Comparator"), accessFlags := 25, slot := 4, constantValue := 0 }, { name := "LATIN1", type := .byte, accessFlags := 24, slot := 5, constantValue := 0 }, { name := "UTF16", type := .byte, accessFlags := 24, slot := 6, constantValue := 0 }]
  methods := #[k7m0, k7m1, k7m2, k7m3, k7m4, k7m5]
  instanceTypes := #[(.array .byte), .byte, .int, .boolean]
  staticTypes := #[.long, .boolean, (.array (.object "java/io/ObjectStreamField")), .char, (.object "java/util/Comparator"), .byte, .byte]
  resolved := Array.replicate 1451 none
  statics := some 0 }

def pool8 : Array CpInfo := pool [(1, .methodref 2 3), (0, .class_ 4), (0, .nameAndType 5 6), (0, u "java/lang/Object"), (0, u "<init>"), (0, u "()V"), (0, .fieldref 8 9), (0, .class_ 10), (0, .nameAndType 11 12), (0, u "com/example/claimgate/claimgate/authz/Decision"), (0, u "kind"), (0, u "Lcom/example/claimgate/claimgate/authz/Decision$Kind;"), (0, .fieldref 8 14), (0, .nameAndType 15 16), (0, u "reason"), (0, u "Ljava/lang/String;"), (0, .fieldref 8 18), (0, .nameAndType 19 20), (0, u "subject"), (0, u "Lcom/example/claimgate/claimgate/authz/Subject;"), (2, u "ANONYMOUS"), (0, u "Lcom/example/claimgate/claimgate/authz/Decision;"), (0, .fieldref 26 27), (0, .class_ 28), (0, .nameAndType 29 12), (0, u "com/example/claimgate/claimgate/authz/Decision$Kind"), (0, u "ALLOWED"), (11, .methodref 8 42), (0, .nameAndType 5 43), (0, u "(Lcom/example/claimgate/claimgate/authz/Decision$Kind;Ljava/lang/String;Lcom/example/claimgate/claimgate/authz/Subject;)V"), (2, u "NO_TOKEN"), (2, u "INVALID_TOKEN"), (0, .fieldref 26 51), (0, .nameAndType 52 12), (0, u "FORBIDDEN"), (2, u "UNAVAILABLE"), (0, .methodref 26 57), (0, .nameAndType 58 59), (0, u "status"), (0, u "()I"), (26, u "forbidden"), (0, u "(Ljava/lang/String;)Lcom/example/claimgate/claimgate/authz/Decision;"), (1, u "()Lcom/example/claimgate/claimgate/authz/Decision$Kind;"), (0, u "allowed"), (0, u "()Z"), (1, u "()Ljava/lang/String;")] 9

def k8c0 : Code := { maxStack := 2, maxLocals := 4, code := prog_3_method_1_code, exceptionTable := #[], attributes := #[] }
def k8m0 : Method := { name := "<init>", desc := "(Lcom/example/claimgate/claimgate/authz/Decision$Kind;Ljava/lang/String;Lcom/example/claimgate/claimgate/authz/Subject;)V", sig := { parameters := [(.object "com/example/claimgate/claimgate/authz/Decision$Kind"), (.object "java/lang/String"), (.object "com/example/claimgate/claimgate/authz/Subject")], returnType := none }, accessFlags := 2, code := some k8c0 }
def k8c1 : Code := { maxStack := 5, maxLocals := 1, code := prog_3_method_6_code, exceptionTable := #[], attributes := #[] }
def k8m1 : Method := { name := "forbidden", desc := "(Ljava/lang/String;)Lcom/example/claimgate/claimgate/authz/Decision;", sig := { parameters := [(.object "java/lang/String")], returnType := some (.object "com/example/claimgate/claimgate/authz/Decision") }, accessFlags := 9, code := some k8c1 }
def k8c2 : Code := { maxStack := 1, maxLocals := 1, code := prog_3_method_8_code, exceptionTable := #[], attributes := #[] }
def k8m2 : Method := { name := "kind", desc := "()Lcom/example/claimgate/claimgate/authz/Decision$Kind;", sig := { parameters := [], returnType := some (.object "com/example/claimgate/claimgate/authz/Decision$Kind") }, accessFlags := 1, code := some k8c2 }
def k8c3 : Code := { maxStack := 2, maxLocals := 1, code := prog_3_method_9_code, exceptionTable := #[], attributes := #[] }
def k8m3 : Method := { name := "allowed", desc := "()Z", sig := { parameters := [], returnType := some .boolean }, accessFlags := 1, code := some k8c3 }
def k8c4 : Code := { maxStack := 1, maxLocals := 1, code := prog_3_method_10_code, exceptionTable := #[], attributes := #[] }
def k8m4 : Method := { name := "status", desc := "()I", sig := { parameters := [], returnType := some .int }, accessFlags := 1, code := some k8c4 }
def k8c5 : Code := { maxStack := 1, maxLocals := 1, code := prog_3_method_11_code, exceptionTable := #[], attributes := #[] }
def k8m5 : Method := { name := "reason", desc := "()Ljava/lang/String;", sig := { parameters := [], returnType := some (.object "java/lang/String") }, accessFlags := 1, code := some k8c5 }
/-- com/example/claimgate/claimgate/authz/Decision -/
def k8 : Class := { plain "com/example/claimgate/claimgate/authz/Decision" (some 0) with
  accessFlags := 49
  interfaces := #[]
  cf := some (fileOf pool8 8 #[.nestMembers #[26]] #[{ accessFlags := 2, nameIndex := 5, descriptorIndex := 43, attributes := #[] }, { accessFlags := 9, nameIndex := 86, descriptorIndex := 87, attributes := #[] }, { accessFlags := 1, nameIndex := 11, descriptorIndex := 89, attributes := #[] }, { accessFlags := 1, nameIndex := 90, descriptorIndex := 91, attributes := #[] }, { accessFlags := 1, nameIndex := 58, descriptorIndex := 59, attributes := #[] }, { accessFlags := 1, nameIndex := 15, descriptorIndex := 93, attributes := #[] }] 49 2 #[] #[{ accessFlags := 26, nameIndex := 23, descriptorIndex := 24, attributes := #[] }, { accessFlags := 26, nameIndex := 46, descriptorIndex := 24, attributes := #[] }, { accessFlags := 26, nameIndex := 49, descriptorIndex := 24, attributes := #[] }, { accessFlags := 26, nameIndex := 55, descriptorIndex := 24, attributes := #[] }, { accessFlags := 18, nameIndex := 11, descriptorIndex := 12, attributes := #[] }, { accessFlags := 18, nameIndex := 15, descriptorIndex := 16, attributes := #[] }, { accessFlags := 18, nameIndex := 19, descriptorIndex := 20, attributes := #[] }])
  fields := #[{ name := "ANONYMOUS", type := (.object "com/example/claimgate/claimgate/authz/Decision"), accessFlags := 26, slot := 0, constantValue := 0 }, { name := "NO_TOKEN", type := (.object "com/example/claimgate/claimgate/authz/Decision"), accessFlags := 26, slot := 1, constantValue := 0 }, { name := "INVALID_TOKEN", type := (.object "com/example/claimgate/claimgate/authz/Decision"), accessFlags := 26, slot := 2, constantValue := 0 }, { name := "UNAVAILABLE", type := (.object "com/example/claimgate/claimgate/authz/Decision"), accessFlags := 26, slot := 3, constantValue := 0 }, { name := "kind", type := (.object "com/example/claimgate/claimgate/authz/Decision$Kind"), accessFlags := 18, slot := 0, constantValue := 0 }, { name := "reason", type := (.object "java/lang/String"), accessFlags := 18, slot := 1, constantValue := 0 }, { name := "subject", type := (.object "com/example/claimgate/claimgate/authz/Subject"), accessFlags := 18, slot := 2, constantValue := 0 }]
  methods := #[k8m0, k8m1, k8m2, k8m3, k8m4, k8m5]
  instanceTypes := #[(.object "com/example/claimgate/claimgate/authz/Decision$Kind"), (.object "java/lang/String"), (.object "com/example/claimgate/claimgate/authz/Subject")]
  staticTypes := #[(.object "com/example/claimgate/claimgate/authz/Decision"), (.object "com/example/claimgate/claimgate/authz/Decision"), (.object "com/example/claimgate/claimgate/authz/Decision"), (.object "com/example/claimgate/claimgate/authz/Decision")]
  resolved := Array.replicate 103 none
  statics := none }

def pool9 : Array CpInfo := pool [(2, .class_ 4), (1, u "java/lang/Enum"), (0, u "name"), (0, u "Ljava/lang/String;"), (2, u "ordinal"), (0, u "I"), (1, .class_ 14), (1, u "java/lang/Object"), (4, u "hash"), (86, .class_ 108), (1, u "java/lang/Enum$EnumDesc"), (2, .class_ 112), (0, u "java/lang/constant/Constable"), (0, .class_ 114), (0, u "java/lang/Comparable"), (0, .class_ 116), (0, u "java/io/Serializable")] 87

/-- java/lang/Enum -/
def k9 : Class := { plain "java/lang/Enum" (some 0) with
  accessFlags := 1057
  interfaces := #[5, 3, 2]
  cf := some (fileOf pool9 2 #[.nestMembers #[106]] #[] 1057 12 #[111, 113, 115] #[{ accessFlags := 18, nameIndex := 5, descriptorIndex := 6, attributes := #[] }, { accessFlags := 18, nameIndex := 9, descriptorIndex := 10, attributes := #[] }, { accessFlags := 2, nameIndex := 19, descriptorIndex := 10, attributes := #[] }])
  fields := #[{ name := "name", type := (.object "java/lang/String"), accessFlags := 18, slot := 0, constantValue := 0 }, { name := "ordinal", type := .int, accessFlags := 18, slot := 1, constantValue := 0 }, { name := "hash", type := .int, accessFlags := 2, slot := 2, constantValue := 0 }]
  methods := #[]
  instanceTypes := #[(.object "java/lang/String"), .int, .int]
  staticTypes := #[]
  resolved := Array.replicate 204 none
  statics := none }

def pool10 : Array CpInfo := pool [(1, .class_ 2), (0, u "com/example/claimgate/claimgate/authz/Decision$Kind"), (2, u "ALLOWED"), (0, u "Lcom/example/claimgate/claimgate/authz/Decision$Kind;"), (2, u "NO_TOKEN"), (2, u "INVALID_TOKEN"), (2, u "FORBIDDEN"), (2, u "UNAVAILABLE"), (2, u "$VALUES"), (0, u "[Lcom/example/claimgate/claimgate/authz/Decision$Kind;"), (6, .class_ 31), (1, u "java/lang/Enum"), (6, .fieldref 1 39), (0, .nameAndType 40 41), (0, u "status"), (0, u "I"), (19, u "()I"), (6, .class_ 69), (0, u "com/example/claimgate/claimgate/authz/Decision")] 2

def k10c0 : Code := { maxStack := 1, maxLocals := 1, code := prog_4_method_4_code, exceptionTable := #[], attributes := #[] }
def k10m0 : Method := { name := "status", desc := "()I", sig := { parameters := [], returnType := some .int }, accessFlags := 1, code := some k10c0 }
/-- com/example/claimgate/claimgate/authz/Decision$Kind -/
def k10 : Class := { plain "com/example/claimgate/claimgate/authz/Decision$Kind" (some 9) with
  accessFlags := 16433
  interfaces := #[]
  cf := some (fileOf pool10 1 #[.nestHost 68] #[{ accessFlags := 1, nameIndex := 40, descriptorIndex := 61, attributes := #[] }] 16433 29 #[] #[{ accessFlags := 16409, nameIndex := 5, descriptorIndex := 6, attributes := #[] }, { accessFlags := 16409, nameIndex := 9, descriptorIndex := 6, attributes := #[] }, { accessFlags := 16409, nameIndex := 12, descriptorIndex := 6, attributes := #[] }, { accessFlags := 16409, nameIndex := 15, descriptorIndex := 6, attributes := #[] }, { accessFlags := 16409, nameIndex := 18, descriptorIndex := 6, attributes := #[] }, { accessFlags := 18, nameIndex := 40, descriptorIndex := 41, attributes := #[] }, { accessFlags := 4122, nameIndex := 21, descriptorIndex := 22, attributes := #[] }])
  fields := #[{ name := "ALLOWED", type := (.object "com/example/claimgate/claimgate/authz/Decision$Kind"), accessFlags := 16409, slot := 0, constantValue := 0 }, { name := "NO_TOKEN", type := (.object "com/example/claimgate/claimgate/authz/Decision$Kind"), accessFlags := 16409, slot := 1, constantValue := 0 }, { name := "INVALID_TOKEN", type := (.object "com/example/claimgate/claimgate/authz/Decision$Kind"), accessFlags := 16409, slot := 2, constantValue := 0 }, { name := "FORBIDDEN", type := (.object "com/example/claimgate/claimgate/authz/Decision$Kind"), accessFlags := 16409, slot := 3, constantValue := 0 }, { name := "UNAVAILABLE", type := (.object "com/example/claimgate/claimgate/authz/Decision$Kind"), accessFlags := 16409, slot := 4, constantValue := 0 }, { name := "status", type := .int, accessFlags := 18, slot := 3, constantValue := 0 }, { name := "$VALUES", type := (.array (.object "com/example/claimgate/claimgate/authz/Decision$Kind")), accessFlags := 4122, slot := 5, constantValue := 0 }]
  methods := #[k10m0]
  instanceTypes := #[(.object "java/lang/String"), .int, .int, .int]
  staticTypes := #[(.object "com/example/claimgate/claimgate/authz/Decision$Kind"), (.object "com/example/claimgate/claimgate/authz/Decision$Kind"), (.object "com/example/claimgate/claimgate/authz/Decision$Kind"), (.object "com/example/claimgate/claimgate/authz/Decision$Kind"), (.object "com/example/claimgate/claimgate/authz/Decision$Kind"), (.array (.object "com/example/claimgate/claimgate/authz/Decision$Kind"))]
  resolved := Array.replicate 72 none
  statics := some 1 }

def pool11 : Array CpInfo := pool [(4, .class_ 6), (1, u "java/lang/Object"), (0, u "<init>"), (0, u "()V"), (5, .class_ 16), (1, u "java/lang/StringLatin1"), (104, u "$assertionsDisabled"), (0, u "Z"), (98, .class_ 223), (1, u "java/lang/StringLatin1$LinesSpliterator"), (57, u "equals"), (0, u "([B[B)Z"), (107, .class_ 391), (0, u "java/lang/StringLatin1$CharsSpliterator")] 3

def k11m0 : Method := { name := "<init>", desc := "()V", sig := { parameters := [], returnType := none }, accessFlags := 0, code := none }
def k11c1 : Code := { maxStack := 3, maxLocals := 3, code := jdk_43_method_13_code, exceptionTable := #[], attributes := #[] }
def k11m1 : Method := { name := "equals", desc := "([B[B)Z", sig := { parameters := [(.array .byte), (.array .byte)], returnType := some .boolean }, accessFlags := 9, code := some k11c1 }
/-- java/lang/StringLatin1 -/
def k11 : Class := { plain "java/lang/StringLatin1" (some 0) with
  accessFlags := 48
  interfaces := #[]
  cf := some (fileOf pool11 14 #[.nestMembers #[390, 221]] #[{ accessFlags := 0, nameIndex := 7, descriptorIndex := 8, attributes := #[] }, { accessFlags := 9, nameIndex := 281, descriptorIndex := 282, attributes := #[] }] 48 4 #[] #[{ accessFlags := 4120, nameIndex := 121, descriptorIndex := 122, attributes := #[] }])
  fields := #[{ name := "$assertionsDisabled", type := .boolean, accessFlags := 4120, slot := 0, constantValue := 0 }]
  methods := #[k11m0, k11m1]
  instanceTypes := #[]
  staticTypes := #[.boolean]
  resolved := Array.replicate 395 none
  statics := none }

def pool12 : Array CpInfo := pool [(6, .class_ 8), (1, u "java/lang/Object"), (0, u "<init>"), (0, u "()V"), (1, .class_ 14), (1, u "java/lang/StringUTF16"), (31, u "$assertionsDisabled"), (0, u "Z"), (13, u "HI_BYTE_SHIFT"), (0, u "I"), (2, u "LO_BYTE_SHIFT"), (49, .methodref 12 116), (0, .nameAndType 117 118), (0, u "compress"), (0, u "([CI[BII)I"), (3, u "([CII)[B"), (138, u "coderFromArrayLen"), (0, u "([BI)B"), (106, .class_ 371), (1, u "java/lang/StringUTF16$LinesSpliterator"), (58, u "MAX_LENGTH"), (196, .class_ 628), (0, u "java/lang/StringUTF16$CodePointsSpliterator"), (0, .class_ 630), (0, u "java/lang/StringUTF16$CharsSpliterator")] 4

def k12m0 : Method := { name := "<init>", desc := "()V", sig := { parameters := [], returnType := none }, accessFlags := 0, code := none }
def k12c1 : Code := { maxStack := 2, maxLocals := 2, code := jdk_52_method_15_code, exceptionTable := #[], attributes := #[] }
def k12m1 : Method := { name := "coderFromArrayLen", desc := "([BI)B", sig := { parameters := [(.array .byte), .int], returnType := some .byte }, accessFlags := 8, code := some k12c1 }
def k12c2 : Code := { maxStack := 5, maxLocals := 6, code := jdk_52_method_16_code, exceptionTable := #[], attributes := #[] }
def k12m2 : Method := { name := "compress", desc := "([CII)[B", sig := { parameters := [(.array .char), .int, .int], returnType := some (.array .byte) }, accessFlags := 9, code := some k12c2 }
def k12c3 : Code := { maxStack := 3, maxLocals := 7, code := jdk_52_method_21_code, exceptionTable := #[], attributes := #[] }
def k12m3 : Method := { name := "compress", desc := "([CI[BII)I", sig := { parameters := [(.array .char), .int, (.array .byte), .int, .int], returnType := some .int }, accessFlags := 9, code := some k12c3 }
/-- java/lang/StringUTF16 -/
def k12 : Class := { plain "java/lang/StringUTF16" (some 0) with
  accessFlags := 48
  interfaces := #[]
  cf := some (fileOf pool12 12 #[.nestMembers #[627, 629, 369]] #[{ accessFlags := 0, nameIndex := 9, descriptorIndex := 10, attributes := #[] }, { accessFlags := 8, nameIndex := 261, descriptorIndex := 262, attributes := #[] }, { accessFlags := 9, nameIndex := 117, descriptorIndex := 122, attributes := #[] }, { accessFlags := 9, nameIndex := 117, descriptorIndex := 118, attributes := #[] }] 48 6 #[] #[{ accessFlags := 26, nameIndex := 61, descriptorIndex := 62, attributes := #[] }, { accessFlags := 26, nameIndex := 65, descriptorIndex := 62, attributes := #[] }, { accessFlags := 24, nameIndex := 430, descriptorIndex := 62, attributes := #[] }, { accessFlags := 4120, nameIndex := 46, descriptorIndex := 47, attributes := #[] }])
  fields := #[{ name := "HI_BYTE_SHIFT", type := .int, accessFlags := 26, slot := 0, constantValue := 0 }, { name := "LO_BYTE_SHIFT", type := .int, accessFlags := 26, slot := 1, constantValue := 0 }, { name := "MAX_LENGTH", type := .int, accessFlags := 24, slot := 2, constantValue := 0 }, { name := "$assertionsDisabled", type := .boolean, accessFlags := 4120, slot := 3, constantValue := 0 }]
  methods := #[k12m0, k12m1, k12m2, k12m3]
  instanceTypes := #[]
  staticTypes := #[.int, .int, .int, .boolean]
  resolved := Array.replicate 635 none
  statics := none }

def pool13 : Array CpInfo := pool [(2, .class_ 4), (1, u "java/lang/Object"), (0, u "<init>"), (0, u "()V"), (17, .class_ 26), (1, u "jdk/internal/util/Preconditions"), (28, .class_ 56), (0, u "jdk/internal/util/Preconditions$4"), (57, .class_ 115), (0, u "jdk/internal/util/Preconditions$1"), (7, u "SIOOBE_FORMATTER"), (0, u "Ljava/util/function/BiFunction;"), (0, .class_ 126), (0, u "jdk/internal/util/Preconditions$2"), (3, u "AIOOBE_FORMATTER"), (0, .class_ 132), (0, u "jdk/internal/util/Preconditions$3"), (3, u "IOOBE_FORMATTER")] 57

def k13m0 : Method := { name := "<init>", desc := "()V", sig := { parameters := [], returnType := none }, accessFlags := 1, code := none }
/-- jdk/internal/util/Preconditions -/
def k13 : Class := { plain "jdk/internal/util/Preconditions" (some 0) with
  accessFlags := 33
  interfaces := #[]
  cf := some (fileOf pool13 24 #[.nestMembers #[55, 131, 125, 114]] #[{ accessFlags := 1, nameIndex := 5, descriptorIndex := 6, attributes := #[] }] 33 2 #[] #[{ accessFlags := 25, nameIndex := 123, descriptorIndex := 124, attributes := #[] }, { accessFlags := 25, nameIndex := 130, descriptorIndex := 124, attributes := #[] }, { accessFlags := 25, nameIndex := 136, descriptorIndex := 124, attributes := #[] }])
  fields := #[{ name := "SIOOBE_FORMATTER", type := (.object "java/util/function/BiFunction"), accessFlags := 25, slot := 0, constantValue := 0 }, { name := "AIOOBE_FORMATTER", type := (.object "java/util/function/BiFunction"), accessFlags := 25, slot := 1, constantValue := 0 }, { name := "IOOBE_FORMATTER", type := (.object "java/util/function/BiFunction"), accessFlags := 25, slot := 2, constantValue := 0 }]
  methods := #[k13m0]
  instanceTypes := #[]
  staticTypes := #[(.object "java/util/function/BiFunction"), (.object "java/util/function/BiFunction"), (.object "java/util/function/BiFunction")]
  resolved := Array.replicate 194 none
  statics := some 2 }

def pool14 : Array CpInfo := pool [(9, u "<init>"), (6, .class_ 18), (1, u "java/lang/Object"), (0, u "()V"), (1, .class_ 23), (1, u "jdk/internal/util/ArraysSupport"), (0, u "LOG2_ARRAY_LONG_INDEX_SCALE"), (0, u "I"), (2, u "U"), (0, u "Ljdk/internal/misc/Unsafe;"), (8, u "BIG_ENDIAN"), (0, u "Z"), (8, u "LOG2_BYTE_BIT_SIZE"), (4, u "LOG2_ARRAY_INT_INDEX_SCALE"), (54, u "JLA"), (0, u "Ljdk/internal/access/JavaLangAccess;"), (11, u "LOG2_ARRAY_BOOLEAN_INDEX_SCALE"), (9, u "LOG2_ARRAY_BYTE_INDEX_SCALE"), (5, u "LOG2_ARRAY_CHAR_INDEX_SCALE"), (5, u "LOG2_ARRAY_SHORT_INDEX_SCALE"), (18, u "LOG2_ARRAY_FLOAT_INDEX_SCALE"), (24, u "LOG2_ARRAY_DOUBLE_INDEX_SCALE"), (89, u "T_BOOLEAN"), (2, u "T_CHAR"), (1, u "T_FLOAT"), (1, u "T_DOUBLE"), (1, u "T_BYTE"), (1, u "T_SHORT"), (1, u "T_INT"), (1, u "T_LONG"), (1, u "SOFT_MAX_ARRAY_LENGTH")] 83

def k14m0 : Method := { name := "<init>", desc := "()V", sig := { parameters := [], returnType := none }, accessFlags := 2, code := none }
/-- jdk/internal/util/ArraysSupport -/
def k14 : Class := { plain "jdk/internal/util/ArraysSupport" (some 0) with
  accessFlags := 33
  interfaces := #[]
  cf := some (fileOf pool14 21 #[] #[{ accessFlags := 2, nameIndex := 9, descriptorIndex := 19, attributes := #[] }] 33 16 #[] #[{ accessFlags := 24, nameIndex := 28, descriptorIndex := 29, attributes := #[] }, { accessFlags := 26, nameIndex := 38, descriptorIndex := 39, attributes := #[] }, { accessFlags := 25, nameIndex := 121, descriptorIndex := 25, attributes := #[] }, { accessFlags := 25, nameIndex := 131, descriptorIndex := 25, attributes := #[] }, { accessFlags := 25, nameIndex := 137, descriptorIndex := 25, attributes := #[] }, { accessFlags := 25, nameIndex := 143, descriptorIndex := 25, attributes := #[] }, { accessFlags := 25, nameIndex := 53, descriptorIndex := 25, attributes := #[] }, { accessFlags := 25, nameIndex := 24, descriptorIndex := 25, attributes := #[] }, { accessFlags := 25, nameIndex := 162, descriptorIndex := 25, attributes := #[] }, { accessFlags := 25, nameIndex := 187, descriptorIndex := 25, attributes := #[] }, { accessFlags := 26, nameIndex := 48, descriptorIndex := 25, attributes := #[] }, { accessFlags := 25, nameIndex := 277, descriptorIndex := 25, attributes := #[] }, { accessFlags := 25, nameIndex := 280, descriptorIndex := 25, attributes := #[] }, { accessFlags := 25, nameIndex := 282, descriptorIndex := 25, attributes := #[] }, { accessFlags := 25, nameIndex := 284, descriptorIndex := 25, attributes := #[] }, { accessFlags := 25, nameIndex := 286, descriptorIndex := 25, attributes := #[] }, { accessFlags := 25, nameIndex := 288, descriptorIndex := 25, attributes := #[] }, { accessFlags := 25, nameIndex := 290, descriptorIndex := 25, attributes := #[] }, { accessFlags := 25, nameIndex := 292, descriptorIndex := 25, attributes := #[] }, { accessFlags := 26, nameIndex := 108, descriptorIndex := 109, attributes := #[] }, { accessFlags := 25, nameIndex := 294, descriptorIndex := 25, attributes := #[] }])
  fields := #[{ name := "U", type := (.object "jdk/internal/misc/Unsafe"), accessFlags := 24, slot := 0, constantValue := 0 }, { name := "BIG_ENDIAN", type := .boolean, accessFlags := 26, slot := 1, constantValue := 0 }, { name := "LOG2_ARRAY_BOOLEAN_INDEX_SCALE", type := .int, accessFlags := 25, slot := 2, constantValue := 0 }, { name := "LOG2_ARRAY_BYTE_INDEX_SCALE", type := .int, accessFlags := 25, slot := 3, constantValue := 0 }, { name := "LOG2_ARRAY_CHAR_INDEX_SCALE", type := .int, accessFlags := 25, slot := 4, constantValue := 0 }, { name := "LOG2_ARRAY_SHORT_INDEX_SCALE", type := .int, accessFlags := 25, slot := 5, constantValue := 0 }, { name := "LOG2_ARRAY_INT_INDEX_SCALE", type := .int, accessFlags := 25, slot := 6, constantValue := 0 }, { name := "LOG2_ARRAY_LONG_INDEX_SCALE", type := .int, accessFlags := 25, slot := 7, constantValue := 0 }, { name := "LOG2_ARRAY_FLOAT_INDEX_SCALE", type := .int, accessFlags := 25, slot := 8, constantValue := 0 }, { name := "LOG2_ARRAY_DOUBLE_INDEX_SCALE", type := .int, accessFlags := 25, slot := 9, constantValue := 0 }, { name := "LOG2_BYTE_BIT_SIZE", type := .int, accessFlags := 26, slot := 10, constantValue := 0 }, { name := "T_BOOLEAN", type := .int, accessFlags := 25, slot := 11, constantValue := 0 }, { name := "T_CHAR", type := .int, accessFlags := 25, slot := 12, constantValue := 0 }, { name := "T_FLOAT", type := .int, accessFlags := 25, slot := 13, constantValue := 0 }, { name := "T_DOUBLE", type := .int, accessFlags := 25, slot := 14, constantValue := 0 }, { name := "T_BYTE", type := .int, accessFlags := 25, slot := 15, constantValue := 0 }, { name := "T_SHORT", type := .int, accessFlags := 25, slot := 16, constantValue := 0 }, { name := "T_INT", type := .int, accessFlags := 25, slot := 17, constantValue := 0 }, { name := "T_LONG", type := .int, accessFlags := 25, slot := 18, constantValue := 0 }, { name := "JLA", type := (.object "jdk/internal/access/JavaLangAccess"), accessFlags := 26, slot := 19, constantValue := 0 }, { name := "SOFT_MAX_ARRAY_LENGTH", type := .int, accessFlags := 25, slot := 20, constantValue := 0 }]
  methods := #[k14m0]
  instanceTypes := #[]
  staticTypes := #[(.object "jdk/internal/misc/Unsafe"), .boolean, .int, .int, .int, .int, .int, .int, .int, .int, .int, .int, .int, .int, .int, .int, .int, .int, .int, (.object "jdk/internal/access/JavaLangAccess"), .int]
  resolved := Array.replicate 378 none
  statics := none }

def pool15 : Array CpInfo := pool [(1, u "java/lang/Cloneable"), (0, .class_ 1), (0, u "java/lang/Object"), (0, .class_ 3)] 3

/-- java/lang/Cloneable -/
def k15 : Class := { plain "java/lang/Cloneable" (some 0) with
  accessFlags := 1537
  interfaces := #[]
  cf := some (fileOf pool15 2 #[] #[] 1537 4 #[] #[])
  fields := #[]
  methods := #[]
  instanceTypes := #[]
  staticTypes := #[]
  resolved := Array.replicate 8 none
  statics := none }

/-- the primitive byte -/
def k16 : Class := { plain "byte" none with kind := .primitive 'B', accessFlags := 0x411 }
/-- [B -/
def k17 : Class := { plain "[B" (some 0) with kind := .array 16 .byte, interfaces := #[15, 2], accessFlags := 1041 }

/-- the primitive char -/
def k18 : Class := { plain "char" none with kind := .primitive 'C', accessFlags := 0x411 }
/-- [C -/
def k19 : Class := { plain "[C" (some 0) with kind := .array 18 .char, interfaces := #[15, 2], accessFlags := 1041 }

/-- the primitive int -/
def k20 : Class := { plain "int" none with kind := .primitive 'I', accessFlags := 0x411 }
/-- [I -/
def k21 : Class := { plain "[I" (some 0) with kind := .array 20 .int, interfaces := #[15, 2], accessFlags := 1041 }

def heap : Heap := #[{ cls := 7, slots := #[.long 0, .int 1, .null, .int 0, .null, .int 0, .int 0], vm := .statics 7 },
  { cls := 10, slots := #[.ref 4, .null, .null, .ref 3, .null, .null], vm := .statics 10 },
  { cls := 13, slots := #[.null, .null, .null], vm := .statics 13 },
  { cls := 10, slots := #[.null, .int 3, .int 0, .int 403], vm := .none },
  { cls := 10, slots := #[.null, .int 0, .int 0, .int 200], vm := .none }]
def classes : Array Class := #[k0, k1, k2, k3, k4, k5, k6, k7, k8, k9, k10, k11, k12, k13, k14, k15, k16, k17, k18, k19, k20, k21]
def interned : List (Array UInt16 × Addr) := []
def slotsUsed : Nat := 24
def theMethod : MethodId := ⟨1, 1⟩
def args0 : Array Value := #[.int 3, .int 5, .int 300, .int 7]
def aboutOver (below : List Frame) : State where
  vm := { classes := classes, interned := interned.toArray }
  heap := heap
  slotsUsed := slotsUsed
  threads := #[{ frames := .invoking theMethod args0 :: below }]
def below0 : List Frame := [.native { method := ⟨0, 0⟩, args := #[] }]
def about1 : State := aboutOver below0
def p0 : Program := .bare "" "" ""
def e0 : Env := launch0.env 0 0 0
theorem w_frames : about1.frames = Frame.invoking theMethod args0 :: below0 := rfl
set_option maxRecDepth 65536 in
theorem w_args : argsFit about1.vm theMethod args0 = true := by decide +kernel
set_option maxRecDepth 65536 in
theorem w_heap : heapFits about1 = true := by decide +kernel
set_option maxRecDepth 65536 in
theorem w_runnable : about1.curStatus? = some .runnable := by decide +kernel
set_option maxRecDepth 65536 in
theorem w_alone : about1.alone = true := by decide +kernel
set_option maxRecDepth 65536 in
theorem w_named : about1.methodNamed? x = some theMethod := by decide +kernel
set_option maxRecDepth 65536 in
theorem w_hears : about1.hears theMethod below0 = true := by decide +kernel
set_option maxRecDepth 65536 in
theorem w_ripe : about1.ripe theMethod args0 below0 = true := by decide +kernel
theorem w_running : about1.status = .running := rfl
set_option maxRecDepth 65536 in
theorem w_room : about1.hasRoom e0.platform room_1 = true :=
  launch0.hasRoom_least _ room_1 (by decide +kernel) (by decide +kernel) (by decide +kernel) (by decide +kernel) (by decide +kernel) (by decide +kernel)
theorem allAtoms_all (ts : List Jvm.Cond) (a : Array Jvm.Value) (st : Jvm.State) : (allAtoms ts).before a st = ts.all (fun c => c.before a st) := by
  induction ts with
  | nil => rfl
  | cons c t ih =>
    show (Jvm.Cond.and c (allAtoms t)).before a st = _
    rw [Jvm.Cond.before_and, ih, List.all_cons]
def words1 : List Jvm.Cond := Jvm.Cond.code x code maxLocals ret :: tables_1
/-- a 'code' word, met by the world's own term for the bytes: nothing is compared byte by byte -/
theorem code_word {y : MethodName} {bytes : ByteArray} {mx : Nat} {rt : Option FieldType} {a : Array Value} {s : State} {m : MethodId} {meth : Method} {c : Code} (h1 : s.methodNamed? y = some m) (h2 : s.vm.method? m = some meth) (h3 : meth.code = some c) (h4 : c.code = bytes)
    (h5 : (c.maxLocals == mx && c.exceptionTable.isEmpty && decide (c.maxStack ≤ mostOperands) && decide (meth.sig.returnType = rt) && !meth.locks && decide (parseMethodDescriptor y.desc = some meth.sig)) = true) : (Jvm.Cond.code y bytes mx rt).before a s = true := by
  simp only [Bool.and_eq_true, beq_iff_eq, Bool.not_eq_true', decide_eq_true_eq] at h5
  obtain ⟨⟨⟨⟨⟨g1, g2⟩, g3⟩, g4⟩, g5⟩, g6⟩ := h5
  simp [Cond.before, Cond.holds, Cond.value, h1, h2, h3, h4, g1, g2, g3, g4, g5, g6]
def isCode : Jvm.Cond → Bool
  | .code _ _ _ _ => true
  | _ => false
theorem all_split {L : List Jvm.Cond} {P : Jvm.Cond → Bool} (h1 : L.all (fun c => isCode c || P c) = true) (h2 : ∀ c ∈ L.filter isCode, P c = true) : L.all P = true := by
  refine List.all_eq_true.mpr fun c hc => ?_
  have h := List.all_eq_true.mp h1 c hc
  rcases Bool.eq_false_or_eq_true (isCode c) with hi | hi
  · exact h2 c (List.mem_filter.mpr ⟨hc, hi⟩)
  · simpa [hi] using h
set_option maxRecDepth 65536 in
theorem w_c0 : (Jvm.Cond.code x code maxLocals ret).before args0 about1 = true := code_word (m := ⟨1, 1⟩) (meth := k1m1) (c := k1c1) (by decide +kernel) rfl rfl rfl (by decide +kernel)
set_option maxRecDepth 65536 in
theorem w_c1 : (Jvm.Cond.code ({ cls := "com/example/claimgate/claimgate/authz/DecisionForbiddenPinLaw", name := "makeChars", desc := "(IIII)[C" } : Jvm.MethodName) method_3_code (4 : Nat) (Option.some (Jvm.ClassFile.FieldType.array Jvm.ClassFile.FieldType.char))).before args0 about1 = true := code_word (m := ⟨1, 2⟩) (meth := k1m2) (c := k1c2) (by decide +kernel) rfl rfl rfl (by decide +kernel)
set_option maxRecDepth 65536 in
theorem w_c2 : (Jvm.Cond.code ({ cls := "java/lang/String", name := "<init>", desc := "([C)V" } : Jvm.MethodName) jdk_42_method_3_code (2 : Nat) (Option.none : Option Jvm.ClassFile.FieldType)).before args0 about1 = true := code_word (m := ⟨7, 1⟩) (meth := k7m1) (c := k7c1) (by decide +kernel) rfl rfl rfl (by decide +kernel)
set_option maxRecDepth 65536 in
theorem w_c3 : (Jvm.Cond.code ({ cls := "java/lang/String", name := "<init>", desc := "([CIILjava/lang/Void;)V" } : Jvm.MethodName) jdk_42_method_149_code (6 : Nat) (Option.none : Option Jvm.ClassFile.FieldType)).before args0 about1 = true := code_word (m := ⟨7, 4⟩) (meth := k7m4) (c := k7c4) (by decide +kernel) rfl rfl rfl (by decide +kernel)
set_option maxRecDepth 65536 in
theorem w_c4 : (Jvm.Cond.code ({ cls := "java/lang/Object", name := "<init>", desc := "()V" } : Jvm.MethodName) object_method_1_code (1 : Nat) (Option.none : Option Jvm.ClassFile.FieldType)).before args0 about1 = true := code_word (m := ⟨0, 0⟩) (meth := k0m0) (c := k0c0) (by decide +kernel) rfl rfl rfl (by decide +kernel)
set_option maxRecDepth 65536 in
theorem w_c5 : (Jvm.Cond.code ({ cls := "com/example/claimgate/claimgate/authz/Decision", name := "forbidden", desc := "(Ljava/lang/String;)Lcom/example/claimgate/claimgate/authz/Decision;" } : Jvm.MethodName) prog_3_method_6_code (1 : Nat) (Option.some (Jvm.ClassFile.FieldType.object "com/example/claimgate/claimgate/authz/Decision"))).before args0 about1 = true := code_word (m := ⟨8, 1⟩) (meth := k8m1) (c := k8c1) (by decide +kernel) rfl rfl rfl (by decide +kernel)
set_option maxRecDepth 65536 in
theorem w_c6 : (Jvm.Cond.code ({ cls := "com/example/claimgate/claimgate/authz/Decision", name := "<init>", desc := "(Lcom/example/claimgate/claimgate/authz/Decision$Kind;Ljava/lang/String;Lcom/example/claimgate/claimgate/authz/Subject;)V" } : Jvm.MethodName) prog_3_method_1_code (4 : Nat) (Option.none : Option Jvm.ClassFile.FieldType)).before args0 about1 = true := code_word (m := ⟨8, 0⟩) (meth := k8m0) (c := k8c0) (by decide +kernel) rfl rfl rfl (by decide +kernel)
set_option maxRecDepth 65536 in
theorem w_c7 : (Jvm.Cond.code ({ cls := "com/example/claimgate/claimgate/authz/Decision", name := "reason", desc := "()Ljava/lang/String;" } : Jvm.MethodName) prog_3_method_11_code (1 : Nat) (Option.some (Jvm.ClassFile.FieldType.object "java/lang/String"))).before args0 about1 = true := code_word (m := ⟨8, 5⟩) (meth := k8m5) (c := k8c5) (by decide +kernel) rfl rfl rfl (by decide +kernel)
set_option maxRecDepth 65536 in
theorem w_c8 : (Jvm.Cond.code ({ cls := "com/example/claimgate/claimgate/authz/Decision", name := "kind", desc := "()Lcom/example/claimgate/claimgate/authz/Decision$Kind;" } : Jvm.MethodName) prog_3_method_8_code (1 : Nat) (Option.some (Jvm.ClassFile.FieldType.object "com/example/claimgate/claimgate/authz/Decision$Kind"))).before args0 about1 = true := code_word (m := ⟨8, 2⟩) (meth := k8m2) (c := k8c2) (by decide +kernel) rfl rfl rfl (by decide +kernel)
set_option maxRecDepth 65536 in
theorem w_c9 : (Jvm.Cond.code ({ cls := "com/example/claimgate/claimgate/authz/Decision", name := "status", desc := "()I" } : Jvm.MethodName) prog_3_method_10_code (1 : Nat) (Option.some Jvm.ClassFile.FieldType.int)).before args0 about1 = true := code_word (m := ⟨8, 4⟩) (meth := k8m4) (c := k8c4) (by decide +kernel) rfl rfl rfl (by decide +kernel)
set_option maxRecDepth 65536 in
theorem w_c10 : (Jvm.Cond.code ({ cls := "com/example/claimgate/claimgate/authz/Decision$Kind", name := "status", desc := "()I" } : Jvm.MethodName) prog_4_method_4_code (1 : Nat) (Option.some Jvm.ClassFile.FieldType.int)).before args0 about1 = true := code_word (m := ⟨10, 0⟩) (meth := k10m0) (c := k10c0) (by decide +kernel) rfl rfl rfl (by decide +kernel)
set_option maxRecDepth 65536 in
theorem w_c11 : (Jvm.Cond.code ({ cls := "com/example/claimgate/claimgate/authz/Decision", name := "allowed", desc := "()Z" } : Jvm.MethodName) prog_3_method_9_code (1 : Nat) (Option.some Jvm.ClassFile.FieldType.boolean)).before args0 about1 = true := code_word (m := ⟨8, 3⟩) (meth := k8m3) (c := k8c3) (by decide +kernel) rfl rfl rfl (by decide +kernel)
set_option maxRecDepth 65536 in
theorem w_c12 : (Jvm.Cond.code ({ cls := "java/lang/String", name := "length", desc := "()I" } : Jvm.MethodName) jdk_42_method_54_code (1 : Nat) (Option.some Jvm.ClassFile.FieldType.int)).before args0 about1 = true := code_word (m := ⟨7, 2⟩) (meth := k7m2) (c := k7c2) (by decide +kernel) rfl rfl rfl (by decide +kernel)
set_option maxRecDepth 65536 in
theorem w_c13 : (Jvm.Cond.code ({ cls := "java/lang/String", name := "coder", desc := "()B" } : Jvm.MethodName) jdk_42_method_152_code (1 : Nat) (Option.some Jvm.ClassFile.FieldType.byte)).before args0 about1 = true := code_word (m := ⟨7, 5⟩) (meth := k7m5) (c := k7c5) (by decide +kernel) rfl rfl rfl (by decide +kernel)
set_option maxRecDepth 65536 in
theorem w_c14 : (Jvm.Cond.code ({ cls := "java/lang/String", name := "equals", desc := "(Ljava/lang/Object;)Z" } : Jvm.MethodName) jdk_42_method_66_code (3 : Nat) (Option.some Jvm.ClassFile.FieldType.boolean)).before args0 about1 = true := code_word (m := ⟨7, 3⟩) (meth := k7m3) (c := k7c3) (by decide +kernel) rfl rfl rfl (by decide +kernel)
set_option maxRecDepth 65536 in
theorem w_c15 : (Jvm.Cond.code ({ cls := "java/lang/StringLatin1", name := "equals", desc := "([B[B)Z" } : Jvm.MethodName) jdk_43_method_13_code (3 : Nat) (Option.some Jvm.ClassFile.FieldType.boolean)).before args0 about1 = true := code_word (m := ⟨11, 1⟩) (meth := k11m1) (c := k11c1) (by decide +kernel) rfl rfl rfl (by decide +kernel)
set_option maxRecDepth 65536 in
theorem w_c16 : (Jvm.Cond.code ({ cls := "java/lang/StringUTF16", name := "compress", desc := "([CII)[B" } : Jvm.MethodName) jdk_52_method_16_code (6 : Nat) (Option.some (Jvm.ClassFile.FieldType.array Jvm.ClassFile.FieldType.byte))).before args0 about1 = true := code_word (m := ⟨12, 2⟩) (meth := k12m2) (c := k12c2) (by decide +kernel) rfl rfl rfl (by decide +kernel)
set_option maxRecDepth 65536 in
theorem w_c17 : (Jvm.Cond.code ({ cls := "java/lang/StringUTF16", name := "compress", desc := "([CI[BII)I" } : Jvm.MethodName) jdk_52_method_21_code (7 : Nat) (Option.some Jvm.ClassFile.FieldType.int)).before args0 about1 = true := code_word (m := ⟨12, 3⟩) (meth := k12m3) (c := k12c3) (by decide +kernel) rfl rfl rfl (by decide +kernel)
set_option maxRecDepth 65536 in
theorem w_c18 : (Jvm.Cond.code ({ cls := "java/lang/StringUTF16", name := "coderFromArrayLen", desc := "([BI)B" } : Jvm.MethodName) jdk_52_method_15_code (2 : Nat) (Option.some Jvm.ClassFile.FieldType.byte)).before args0 about1 = true := code_word (m := ⟨12, 1⟩) (meth := k12m1) (c := k12c1) (by decide +kernel) rfl rfl rfl (by decide +kernel)
def codes1 : List Jvm.Cond := [Jvm.Cond.code x code maxLocals ret, Jvm.Cond.code ({ cls := "com/example/claimgate/claimgate/authz/DecisionForbiddenPinLaw", name := "makeChars", desc := "(IIII)[C" } : Jvm.MethodName) method_3_code (4 : Nat) (Option.some (Jvm.ClassFile.FieldType.array Jvm.ClassFile.FieldType.char)), Jvm.Cond.code ({ cls := "java/lang/String", name := "<init>", desc := "([C)V" } : Jvm.MethodName) jdk_42_method_3_code (2 : Nat) (Option.none : Option Jvm.ClassFile.FieldType), Jvm.Cond.code ({ cls := "java/lang/String", name := "<init>", desc := "([CIILjava/lang/Void;)V" } : Jvm.MethodName) jdk_42_method_149_code (6 : Nat) (Option.none : Option Jvm.ClassFile.FieldType), Jvm.Cond.code ({ cls := "java/lang/Object", name := "<init>", desc := "()V" } : Jvm.MethodName) object_method_1_code (1 : Nat) (Option.none : Option Jvm.ClassFile.FieldType), Jvm.Cond.code ({ cls := "com/example/claimgate/claimgate/authz/Decision", name := "forbidden", desc := "(Ljava/lang/String;)Lcom/example/claimgate/claimgate/authz/Decision;" } : Jvm.MethodName) prog_3_method_6_code (1 : Nat) (Option.some (Jvm.ClassFile.FieldType.object "com/example/claimgate/claimgate/authz/Decision")), Jvm.Cond.code ({ cls := "com/example/claimgate/claimgate/authz/Decision", name := "<init>", desc := "(Lcom/example/claimgate/claimgate/authz/Decision$Kind;Ljava/lang/String;Lcom/example/claimgate/claimgate/authz/Subject;)V" } : Jvm.MethodName) prog_3_method_1_code (4 : Nat) (Option.none : Option Jvm.ClassFile.FieldType), Jvm.Cond.code ({ cls := "com/example/claimgate/claimgate/authz/Decision", name := "reason", desc := "()Ljava/lang/String;" } : Jvm.MethodName) prog_3_method_11_code (1 : Nat) (Option.some (Jvm.ClassFile.FieldType.object "java/lang/String")), Jvm.Cond.code ({ cls := "com/example/claimgate/claimgate/authz/Decision", name := "kind", desc := "()Lcom/example/claimgate/claimgate/authz/Decision$Kind;" } : Jvm.MethodName) prog_3_method_8_code (1 : Nat) (Option.some (Jvm.ClassFile.FieldType.object "com/example/claimgate/claimgate/authz/Decision$Kind")), Jvm.Cond.code ({ cls := "com/example/claimgate/claimgate/authz/Decision", name := "status", desc := "()I" } : Jvm.MethodName) prog_3_method_10_code (1 : Nat) (Option.some Jvm.ClassFile.FieldType.int), Jvm.Cond.code ({ cls := "com/example/claimgate/claimgate/authz/Decision$Kind", name := "status", desc := "()I" } : Jvm.MethodName) prog_4_method_4_code (1 : Nat) (Option.some Jvm.ClassFile.FieldType.int), Jvm.Cond.code ({ cls := "com/example/claimgate/claimgate/authz/Decision", name := "allowed", desc := "()Z" } : Jvm.MethodName) prog_3_method_9_code (1 : Nat) (Option.some Jvm.ClassFile.FieldType.boolean), Jvm.Cond.code ({ cls := "java/lang/String", name := "length", desc := "()I" } : Jvm.MethodName) jdk_42_method_54_code (1 : Nat) (Option.some Jvm.ClassFile.FieldType.int), Jvm.Cond.code ({ cls := "java/lang/String", name := "coder", desc := "()B" } : Jvm.MethodName) jdk_42_method_152_code (1 : Nat) (Option.some Jvm.ClassFile.FieldType.byte), Jvm.Cond.code ({ cls := "java/lang/String", name := "equals", desc := "(Ljava/lang/Object;)Z" } : Jvm.MethodName) jdk_42_method_66_code (3 : Nat) (Option.some Jvm.ClassFile.FieldType.boolean), Jvm.Cond.code ({ cls := "java/lang/StringLatin1", name := "equals", desc := "([B[B)Z" } : Jvm.MethodName) jdk_43_method_13_code (3 : Nat) (Option.some Jvm.ClassFile.FieldType.boolean), Jvm.Cond.code ({ cls := "java/lang/StringUTF16", name := "compress", desc := "([CII)[B" } : Jvm.MethodName) jdk_52_method_16_code (6 : Nat) (Option.some (Jvm.ClassFile.FieldType.array Jvm.ClassFile.FieldType.byte)), Jvm.Cond.code ({ cls := "java/lang/StringUTF16", name := "compress", desc := "([CI[BII)I" } : Jvm.MethodName) jdk_52_method_21_code (7 : Nat) (Option.some Jvm.ClassFile.FieldType.int), Jvm.Cond.code ({ cls := "java/lang/StringUTF16", name := "coderFromArrayLen", desc := "([BI)B" } : Jvm.MethodName) jdk_52_method_15_code (2 : Nat) (Option.some Jvm.ClassFile.FieldType.byte)]
set_option maxRecDepth 65536 in
theorem codes_eq : words1.filter isCode = codes1 := rfl
theorem w_codes : ∀ c ∈ words1.filter isCode, c.before args0 about1 = true := by
  rw [codes_eq]
  intro c hc
  simp only [codes1, List.mem_cons, List.not_mem_nil, or_false] at hc
  rcases hc with rfl | rfl | rfl | rfl | rfl | rfl | rfl | rfl | rfl | rfl | rfl | rfl | rfl | rfl | rfl | rfl | rfl | rfl | rfl
  · exact w_c0
  · exact w_c1
  · exact w_c2
  · exact w_c3
  · exact w_c4
  · exact w_c5
  · exact w_c6
  · exact w_c7
  · exact w_c8
  · exact w_c9
  · exact w_c10
  · exact w_c11
  · exact w_c12
  · exact w_c13
  · exact w_c14
  · exact w_c15
  · exact w_c16
  · exact w_c17
  · exact w_c18
set_option maxRecDepth 65536 in
theorem w_t1 : (words1.take 24).all (fun c => isCode c || c.before args0 about1) = true := by decide +kernel
set_option maxRecDepth 65536 in
theorem w_t2 : ((words1.drop 24).take 24).all (fun c => isCode c || c.before args0 about1) = true := by decide +kernel
set_option maxRecDepth 65536 in
theorem w_t3 : (((words1.drop 24).drop 24).take 24).all (fun c => isCode c || c.before args0 about1) = true := by decide +kernel
set_option maxRecDepth 65536 in
theorem w_t4 : ((((words1.drop 24).drop 24).drop 24).take 24).all (fun c => isCode c || c.before args0 about1) = true := by decide +kernel
set_option maxRecDepth 65536 in
theorem w_t5 : ((((words1.drop 24).drop 24).drop 24).drop 24).all (fun c => isCode c || c.before args0 about1) = true := by decide +kernel
theorem w_tables : (allAtoms (Jvm.Cond.code x code maxLocals ret :: tables_1)).before args0 about1 = true := by
  rw [allAtoms_all]
  show words1.all (fun c => c.before args0 about1) = true
  refine all_split ?_ w_codes
  rw [← List.take_append_drop 24 words1, List.all_append, w_t1, ← List.take_append_drop 24 (words1.drop 24), List.all_append, w_t2, ← List.take_append_drop 24 ((words1.drop 24).drop 24), List.all_append, w_t3, ← List.take_append_drop 24 (((words1.drop 24).drop 24).drop 24), List.all_append, w_t4, w_t5]
  rfl
set_option maxRecDepth 65536 in
theorem w_rest : rest_1_c.before args0 about1 = true := by decide +kernel
set_option maxRecDepth 65536 in
theorem w_case : (Jvm.Cond.and given_1 narrow_1).before args0 about1 = true := by decide +kernel
set_option maxRecDepth 65536 in
theorem w_consts : constsHeld consts_1 about1 := Jvm.Lit.constsHeldB_iff.mp (by decide +kernel)
theorem w_applies : (headSpec (Jvm.Cond.code x code maxLocals ret :: tables_1) room_1).applies x e0.platform about1 = true :=
  (Spec.applies_iff w_frames).mpr ⟨w_running, w_runnable, w_alone, w_named, w_hears, w_ripe, w_room, w_tables⟩
theorem atStart : AtStart classFile x code maxLocals ret World_1 tables_1 room_1 Calls_1 rest_1 Pre_1 launch0 p0 e0 about1 theMethod args0 below0 :=
  ⟨lists_1, trivial, launch0.admits_env _ _ _, launch0.least_env, fairChoices_fair.cas, fairChoices_fair.clock, w_frames, w_args, w_heap, w_applies, ⟨w_consts, trivial⟩, w_rest, w_case⟩
end start1
theorem witness_1 : WitnessClaimed_1 := ⟨start1.p0, start1.e0, start1.about1, start1.theMethod, start1.args0, start1.below0, start1.atStart⟩
end Jvm.Pilot.@@N@@
